import Derived.Test.Qxb6606016aStartC
namespace Go.Proofs.Qxb6606016a
open Go.RowKit Go.MuLone
set_option linter.unusedVariables false

theorem OSt.look {w : World} {ob n : Nat} {m : Option Nat} {D : DC} {key : Value} {kl : Lit} {r : Option Nat} (h : OSt w ob m n D) (hkey : keyOf Try.prog 50 key = some kl) (hat : D.atKey kl (.held none) = .held r) :
    (Instr.lookup 83 (.map m) key false).run Try.prog w = .ok (.chan r) w := by
  rcases h.mp with ⟨rfl, rfl⟩ | ⟨mb, rfl, _, hown⟩
  · have e : r = none := by
      have : (DataW.map [] : DC).atKey kl (.held none) = .held none := rfl
      rw [this] at hat
      cases hat
      rfl
    subst e
    exact Maps.look_nil false law50 Try.underlying83 (Try.zeroValue43 w) hkey
  · exact look_chan hown hkey hat
theorem OSt.look_ok {w : World} {ob n : Nat} {m : Option Nat} {D : DC} {key : Value} {kl : Lit} {r : Option Nat} (h : OSt w ob m n D) (hkey : keyOf Try.prog 50 key = some kl) (hat : D.atKey kl (.held none) = .held r) :
    (Instr.lookup 83 (.map m) key true).run Try.prog w = .ok (.tuple #[.chan r, .bool (Maps.has D kl)]) w := by
  rcases h.mp with ⟨rfl, rfl⟩ | ⟨mb, rfl, _, hown⟩
  · have e : r = none := by
      have : (DataW.map [] : DC).atKey kl (.held none) = .held none := rfl
      rw [this] at hat
      cases hat
      rfl
    subst e
    exact Maps.look_nil true law50 Try.underlying83 (Try.zeroValue43 w) hkey
  · exact look_chan_ok hown hkey hat

set_option maxRecDepth 100000 in
set_option maxHeartbeats 1000000 in
/-- ZZstoredIs -/
theorem stored_any (ob n : Nat) (m : Option Nat) (a : Nat → Value) (D : DC) (kl : Lit) (r h : Option Nat) (w : World) (hid : IsId (c16 a) kl) (hs : OSt w ob m n D) (hat : D.atKey kl (.held none) = .held r) :
    Calls Try.prog 23 #[.pointer (some ⟨ob, 0, none⟩), .agg (c16 a), .chan h] w fun e w' => e = .returned (.bool (r == h)) ∧ Below w.heap.size w w' := by
  have hl := fun q => ((hs.alloc (.cells (c16 a) 22)).drewN q).look (key := .agg (c16 a)) hid.2.2 hat
  simp only [c16] at hl
  have c6 := hs.c6
  have hob := hs.lt
  have q1 := eqChan
  clear hs
  go_enter Try.func23, Try.ntmps23
  go_wp2
  go_quiet (fail)
  go_wp2
  go_ret
  exact ⟨rfl, ((Below.refl _ _).alloc (Nat.le_refl _) _).trans ⟨rfl, rfl, rfl, Nat.le_refl _, fun _ _ => rfl⟩⟩
end Go.Proofs.Qxb6606016a
