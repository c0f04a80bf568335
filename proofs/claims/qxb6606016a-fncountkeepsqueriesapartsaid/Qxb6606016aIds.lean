import Derived.Test.Qxb6606016aRows
import Derived.Test.Qxb6606016aLocks
import Derived.WalkKit
import Derived.WalkLawsBesides
import Derived.WalkSpells
import Derived.ProofKit
import Derived.Maps.OwnSet
import Derived.Conc.MuLone
import Derived.Conc.SmallLaws
import Derived.WideKeyArr2
import Derived.DeepKeys
import Derived.Laws.Rows
namespace Go.Proofs.Qxb6606016a
open Go.RowKit
set_option linter.unusedVariables false

theorem ak22 : WideMaps.ArrKey Try.prog 22 5 16 := ⟨Try.underlying22, by kernel_rfl, by kernel_rfl, by kernel_rfl⟩
theorem ak50 : WideMaps.ArrKey Try.prog 50 5 16 := ⟨Try.underlying50, by kernel_rfl, by kernel_rfl, by kernel_rfl⟩
theorem law50 : Maps.Keyed Try.prog 50 := Maps.Keyed.of_law ak50.law
theorem law22 : Maps.Keyed Try.prog 22 := Maps.Keyed.of_law ak22.law

/-- sixteen cells that are an id; l: what it reads as, as a map's key. -/
def IsId (xs : Array Value) (l : Lit) : Prop := xs.size = 16 ∧ keyOf Try.prog 22 (.agg xs) = some l ∧ keyOf Try.prog 50 (.agg xs) = some l

theorem isId_inj {xs ys : Array Value} {l : Lit} (hx : IsId xs l) (hy : IsId ys l) : xs = ys := by
  have := law50.inj hx.2.2 hy.2.2
  cases this
  rfl

theorem eq22 {xs ys : Array Value} {lx ly : Lit} (hx : IsId xs lx) (hy : IsId ys ly) {b : Bool} (hb : b = true ↔ lx = ly) (w : World) : (binOp .eql 22 (.agg xs) (.agg ys)).run Try.prog w = .ok (.bool b) w := by
  obtain ⟨r, hr, hiff⟩ := run_equal_deep (P := Try.prog) w (m := 0 + 2) (k := 22) (by omega) (ak22.at 0) (by rw [Try.underlying22]) hx.2.1 hy.2.1
  have e : r = b := by rw [Bool.eq_iff_iff, hiff, hb]
  subst e
  simp only [binOp]
  simp [hr]
theorem ne22 {xs ys : Array Value} {lx ly : Lit} (hx : IsId xs lx) (hy : IsId ys ly) {b : Bool} (hb : b = true ↔ lx = ly) (w : World) : (binOp .neq 22 (.agg xs) (.agg ys)).run Try.prog w = .ok (.bool (!b)) w := by
  obtain ⟨r, hr, hiff⟩ := run_equal_deep (P := Try.prog) w (m := 0 + 2) (k := 22) (by omega) (ak22.at 0) (by rw [Try.underlying22]) hx.2.1 hy.2.1
  have e : r = b := by rw [Bool.eq_iff_iff, hiff, hb]
  subst e
  simp only [binOp]
  simp [hr]
theorem eqChanIn (d : Nat) (a b : Option Nat) (w : World) : (Op.equalIn (d + 1) 43 (.chan a) (.chan b)).run Try.prog w = .ok (a == b) w := by
  simp [Op.equalIn, run_underlying Try.underlying43]
theorem eqChan (a b : Option Nat) (w : World) : (binOp .eql 43 (.chan a) (.chan b)).run Try.prog w = .ok (.bool (a == b)) w := by
  simp only [binOp]
  simp [Op.equal, Op.maxDepth, eqChanIn 9999]
theorem mkChan (w : World) : (Instr.makeChan 43 (.int .i64 256)).run Try.prog w = .ok (.chan (some w.heap.size)) (w.alloc (.chan 256 #[] false 0 0 false)) := by
  kernel_rfl

/-- sixteen cells, one by one. -/
abbrev c16 (a : Nat → Value) : Array Value := #[a 0, a 1, a 2, a 3, a 4, a 5, a 6, a 7, a 8, a 9, a 10, a 11, a 12, a 13, a 14, a 15]
theorem c16_of {xs : Array Value} (h : xs.size = 16) : ∃ a, xs = c16 a := by
  refine ⟨fun i => xs.getD i undef, ?_⟩
  apply Array.ext
  · simp [h]
  · intro i h1 h2
    have h3 : i < 16 := by omega
    have h4 : i = 0 ∨ i = 1 ∨ i = 2 ∨ i = 3 ∨ i = 4 ∨ i = 5 ∨ i = 6 ∨ i = 7 ∨ i = 8 ∨ i = 9 ∨ i = 10 ∨ i = 11 ∨ i = 12 ∨ i = 13 ∨ i = 14 ∨ i = 15 := by omega
    rcases h4 with rfl | rfl | rfl | rfl | rfl | rfl | rfl | rfl | rfl | rfl | rfl | rfl | rfl | rfl | rfl | rfl <;> simp [Array.getD, h]

/-- how a channel among a map's elements reads: as itself. -/
def chanElem : Value → Option (DataW (Option Nat) × List MemPlace)
  | .chan r => some (.held r, [])
  | _ => none
theorem chanElem_inv {v : Value} {d : DataW (Option Nat)} {ps : List MemPlace} (h : chanElem v = some (d, ps)) : ∃ r, v = .chan r ∧ d = .held r := by
  unfold chanElem at h
  split at h
  · cases h; exact ⟨_, rfl, rfl⟩
  · cases h

abbrev DC := DataW (Option Nat)

theorem look_chan {w : World} {mb n : Nat} {D : DC} {key : Value} {kl : Lit} {r : Option Nat} (h : w.ownsMap Try.prog 50 chanElem mb n D) (hkey : keyOf Try.prog 50 key = some kl) (hat : D.atKey kl (.held none) = .held r) :
    (Instr.lookup 83 (.map (some mb)) key false).run Try.prog w = .ok (.chan r) w := by
  obtain ⟨v, ps, hrun, hv⟩ := h.lookup law50 Try.underlying83 (Try.zeroValue43 w) (zd := .held none) (zp := []) rfl hkey
  obtain ⟨r', rfl, e⟩ := chanElem_inv hv
  rw [hat] at e
  cases e
  exact hrun
theorem look_chan_ok {w : World} {mb n : Nat} {D : DC} {key : Value} {kl : Lit} {r : Option Nat} (h : w.ownsMap Try.prog 50 chanElem mb n D) (hkey : keyOf Try.prog 50 key = some kl) (hat : D.atKey kl (.held none) = .held r) :
    (Instr.lookup 83 (.map (some mb)) key true).run Try.prog w = .ok (.tuple #[.chan r, .bool (Maps.has D kl)]) w := by
  obtain ⟨v, ps, hrun, hv⟩ := h.look_ok law50 Try.underlying83 (Try.zeroValue43 w) (zd := .held none) (zp := []) rfl hkey
  obtain ⟨r', rfl, e⟩ := chanElem_inv hv
  rw [hat] at e
  cases e
  exact hrun
end Go.Proofs.Qxb6606016a
