import Derived.Test.Qxb6606016aIds
import Derived.Deep.MidRow
import Derived.Deep.OwnRows
import Derived.Deep.LoopGhost
import Derived.Deep.RegionWith
import Derived.BigQuiet
import Derived.Deep.QuietTactic
namespace Go.Proofs.Qxb6606016a
open Go.RowKit
set_option linter.unusedVariables false

/-- sixteen cells, as a list. -/
abbrev l16 (a : Nat → Value) : List Value := [a 0, a 1, a 2, a 3, a 4, a 5, a 6, a 7, a 8, a 9, a 10, a 11, a 12, a 13, a 14, a 15]

/-- n ids from ⟨b, off⟩ on. -/
def IdsAt (w : World) (b off n : Nat) (A : Nat → Nat → Value) : Prop := ∀ i, i < n → w.rangeAt b (off + i * 16) (l16 (A i))

theorem lit_one (l : Lit) : l.toCell.oneCell' = true := by cases l <;> rfl
theorem id_one {xs : Array Value} {l : Lit} (h : IsId xs l) : xs.all (·.oneCell') = true := by
  obtain ⟨ys, L, e, hL, _⟩ := keyOf_top (P := Try.prog) (k := 50) (by rw [Try.underlying50]) h.2.2
  cases e
  have := cells_of_lits 2 50 ak50.tiled _ _ _ hL
  refine Array.all_eq_true_iff_forall_mem.2 (fun v hv => ?_)
  have hv' : v ∈ xs.toList := by simpa using hv
  rw [this] at hv'
  obtain ⟨l', _, rfl⟩ := List.mem_map.1 hv'
  exact lit_one l'

theorem heap_setCells (b : Nat) : ∀ (vs : List Value) (o : Nat) (w : World) (k : Nat), k ≠ b → (w.setCells b o vs).heap[k]? = w.heap[k]?
  | [], _, _, _, _ => rfl
  | v :: r, o, w, k, h => by
    rw [World.setCells, heap_setCells b r (o + 1) _ k h, Below.heap_setCell _ _ _ _ h]
theorem below_setCells {B : Nat} {w w' : World} (h : Below B w w') {b : Nat} (hb : B ≤ b) (o : Nat) (vs : List Value) : Below B w (w'.setCells b o vs) := by
  induction vs generalizing o w' with
  | nil => exact h
  | cons v r ih => rw [World.setCells]; exact ih (h.setCell (p := ⟨b, o, none⟩) hb v) (o + 1)
theorem range_below {B : Nat} {w w' : World} (h : Below B w w') {b o : Nat} {cs : List Value} (hb : b < B) (hr : w.rangeAt b o cs) : w'.rangeAt b o cs :=
  fun j v hv => (h.cell (p := ⟨b, o + j, none⟩) hb).trans (hr j v hv)

theorem Try.info22 : (Try.prog.info? 22).map (fun i => (i.zero, i.size, i.bytes)) = some (some (.agg (c16 fun _ => .int .u8 0)), 16, 16) := by kernel_rfl
theorem mkIds (n : Nat) (hn : n ≤ 4096) (w : World) : (Instr.makeSlice 34 (.int .i64 (n : Int)) (.int .i64 (n : Int))).run Try.prog w = .ok (.slice (some ⟨w.heap.size, 0, none⟩) n n) (w.alloc (.cells (madeCells (c16 fun _ => .int .u8 0) (n * 16)) 22)) := by
  obtain ⟨i, hi, hzz⟩ := Option.map_eq_some_iff.1 Try.info22
  simp only [Prod.mk.injEq] at hzz
  obtain ⟨hz, hs, hb⟩ := hzz
  have := run_make (P := Try.prog) w 34 22 i _ Try.underlying34 hi hz .i64 .i64 n n (by omega) (Int.le_refl _) (by rw [hb]; omega) (by omega)
  rw [this, hs]
  simp [Value.cells]

/-- THE COPY BEHIND k ROUNDS. -/
def CopyTo (wr : World) (B n k : Nat) (A : Nat → Nat → Value) : Prop := wr.there B 0 (n * 16) ∧ ∀ i, i < k → wr.rangeAt B (i * 16) (l16 (A i))
theorem there_made (w : World) (n : Nat) : (w.alloc (.cells (madeCells (c16 fun _ => .int .u8 0) (n * 16)) 22)).there w.heap.size 0 (n * 16) := by
  intro j hj
  rw [Nat.zero_add]
  refine ⟨?_, by simp⟩
  rw [World.cell?_alloc_new]
  simp [madeCells, hj]
theorem copy_step {wr : World} {B n k : Nat} {A : Nat → Nat → Value} (h : CopyTo wr B n k A) (hk : k < n) : CopyTo (wr.setCells B (k * 16) (c16 (A k)).toList) B n (k + 1) A := by
  show CopyTo (wr.setCells B (k * 16) (l16 (A k))) B n (k + 1) A
  have ht : wr.there B (k * 16) (l16 (A k)).length := fun j hj => by
    have := h.1 (k * 16 + j) (by simp at hj; omega)
    simpa using this
  refine ⟨World.there_setCells h.1 _ _ _, fun i hi => ?_⟩
  rcases Nat.lt_succ_iff_lt_or_eq.1 hi with h' | rfl
  · exact World.rangeAt_setCells_apart (h.2 i h') _ _ _ (.inr (.inl (by simp; omega)))
  · exact World.rangeAt_setCells_same _ _ _ _ ht

set_option maxRecDepth 100000 in
set_option maxHeartbeats 1000000 in
theorem cloneIDs_pos (b off n c : Nat) (A : Nat → Nat → Value) (K : Nat → Lit) (w : World) (hn : n ≤ 4096) (h0 : 0 < n) (hb : b < w.heap.size) (hc : IdsAt w b off n A) (hid : ∀ i, i < n → IsId (c16 (A i)) (K i)) :
    Calls Try.prog 17 #[.slice (some ⟨b, off, none⟩) n c] w fun e w' => e = .returned (.slice (some ⟨w.heap.size, 0, none⟩) n n) ∧ CopyTo w' w.heap.size n n A ∧ Below w.heap.size w w' ∧ w.heap.size < w'.heap.size := by
  have hnil := fun w n (c : Nat) (a : Option Addr) => Lib.run_eql_slice_nil (P := Try.prog) w 34 22 a n c 0 0 Try.underlying34
  have hmk := mkIds n hn
  have HC : Hid (IdsAt w b off n A) := hc
  have HI : Hid (∀ i, i < n → IsId (c16 (A i)) (K i)) := hid
  clear hc hid
  go_enter Try.func17, Try.ntmps17
  go_wp2
  go_loopg [4] n (fun g s4 wr => ∃ k : Nat, s4 = .int .i64 k ∧ k ≤ n ∧ n - k ≤ g ∧ Below w.heap.size w wr ∧ Hid (CopyTo wr w.heap.size n k A) ∧ w.heap.size < wr.heap.size)
  case atStart => exact ⟨0, rfl, Nat.zero_le _, by omega, (Below.refl _ _).alloc (Nat.le_refl _) _, ⟨there_made w n, fun i hi => absurd hi (Nat.not_lt_zero _)⟩, by simp⟩
  case round =>
    obtain ⟨k, rfl, hk, hg, hB, I, hsz⟩ := hrel
    by_cases hlt : k < n
    · have hr := range_below hB hb (HC.out k hlt)
      have ht : wr.there w.heap.size (k * 16) (c16 (A k)).size := fun j hj => by
        have := I.out.1 (k * 16 + j) (by simp at hj; omega)
        simpa using this
      have h1 := id_one (HI.out k hlt)
      have HR : Hid (wr.rangeAt b (off + k * 16) (l16 (A k))) := hr
      have HT : Hid (wr.there w.heap.size (k * 16) (c16 (A k)).size) := ht
      have H1 : Hid ((c16 (A k)).all (·.oneCell') = true) := h1
      have hb2 := below_setCells hB (Nat.le_refl w.heap.size) (k * 16) (c16 (A k)).toList
      have hz2 := (below_setCells (Below.refl w.heap.size wr) (Nat.le_refl w.heap.size) (k * 16) (c16 (A k)).toList).size
      have HB2 : Hid (Below w.heap.size w (wr.setCells w.heap.size (k * 16) (c16 (A k)).toList)) := hb2
      have HZ2 : Hid (w.heap.size < (wr.setCells w.heap.size (k * 16) (c16 (A k)).toList).heap.size) := Nat.lt_of_lt_of_le hsz hz2
      have HS2 : Hid (CopyTo (wr.setCells w.heap.size (k * 16) (c16 (A k)).toList) w.heap.size n (k + 1) A) := copy_step I.out hlt
      clear hr ht h1 hb2 hz2
      have hsz16 : (c16 (A k)).size = 16 := rfl
      obtain ⟨xs, hxs⟩ : ∃ xs, c16 (A k) = xs := ⟨_, rfl⟩
      have HR' : Hid (wr.rangeAt b (off + k * 16) xs.toList) := by rw [← hxs]; exact HR.out
      rw [hxs] at HT H1 HB2 HZ2 HS2 hsz16
      have HX : Hid (xs.size = 16) := hsz16
      clear hxs HR hsz16
      go_wp2_with (first | (refine wpList_load_mid rfl 22 _ rfl b (off + k * 16) rfl xs.toList (.array 16 5) HR'.out Try.underlying22 rfl (by rw [Array.length_toList, HX.out]; kernel_rfl) ?_) | (refine wpList_store_mid rfl 22 _ _ rfl w.heap.size (k * 16) xs rfl rfl HT.out (by rw [HX.out]; kernel_rfl) H1.out ?_))
      go_roundg (n - (k + 1))
      case measure => omega
      case rel => exact ⟨k + 1, by go_num, by omega, Nat.le_refl _, HB2.out, HS2.out, HZ2.out⟩
    · obtain rfl : n = k := by omega
      go_wp2
      go_ret
      exact ⟨rfl, I.out, hB, hsz⟩

/-- no ids. -/
theorem cloneIDs_zero (a : Option Addr) (c : Nat) (hc : a = none → c = 0) (w : World) : Calls Try.prog 17 #[.slice a 0 c] w fun e w' => (∃ a', e = .returned (.slice a' 0 0)) ∧ Below w.heap.size w w' := by
  have hnil := fun w n (c : Nat) (a : Option Addr) => Lib.run_eql_slice_nil (P := Try.prog) w 34 22 a n c 0 0 Try.underlying34
  have hmk : ∀ w, (Instr.makeSlice 34 (.int .i64 0) (.int .i64 0)).run Try.prog w = .ok (.slice (some ⟨w.heap.size, 0, none⟩) 0 0) (w.alloc (.cells #[] 22)) := fun _ => by kernel_rfl
  cases a with
  | none =>
    obtain rfl := hc rfl
    clear hc
    go_enter Try.func17, Try.ntmps17
    go_wp2
    go_ret
    exact ⟨⟨_, rfl⟩, Below.refl _ _⟩
  | some x =>
    clear hc
    go_enter Try.func17, Try.ntmps17
    go_wp2
    go_loopg [4] 0 (fun g s4 wr => s4 = .int .i64 0 ∧ wr = w.alloc (.cells #[] 22))
    case atStart => exact ⟨rfl, rfl⟩
    case round =>
      obtain ⟨rfl, rfl⟩ := hrel
      go_wp2
      go_ret
      exact ⟨⟨_, rfl⟩, (Below.refl _ _).alloc (Nat.le_refl _) _⟩
end Go.Proofs.Qxb6606016a
