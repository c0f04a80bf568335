import Derived.Test.Qxb6605697aDoorBuf
import Derived.Shelf.RegionOpenPlain
namespace Go.Proofs.Qxb6605697aDoor
open Go.RowKit
set_option linter.unusedVariables false

theorem KeptB.drew {b : Nat} {row : Option (Nat × Nat)} {w w1 : World} (h : KeptB b row w w1) : KeptB b row w w1.drew := ⟨h.os, h.tape, h.output, h.size, h.block⟩

set_option maxRecDepth 100000 in
set_option maxHeartbeats 2000000 in
/-- grow(1) of a buffer whose row is full: a new row. -/
theorem grow_full (b g l : Nat) (lr : Int) (cur : Array Value) (w : World) (hbk : w.heap[b]? = some (.cells #[.slice (some ⟨g, 0, none⟩) l l, .int .i64 0, .int .i8 lr] 30 (0, 0)))
    (hg : w.heap[g]? = some (.cells cur 5 (0, 0))) (hcs : cur.size = l) (hgb : g ≠ b) (h1 : ∀ v ∈ cur.toList, v.oneCell' = true) (hlim : l + 1 ≤ 140737488355328) (hl0 : ¬ l = 0) :
    Calls Tryd.prog 14 #[.pointer (some ⟨b, 0, none⟩), .int .i64 1] w fun e w' => e = .returned (.int .i64 l) ∧ ∃ cap2 cells,
      w'.heap[b]? = some (.cells #[.slice (some ⟨w.heap.size, 0, none⟩) (l + 1) cap2, .int .i64 0, .int .i8 lr] 30 (0, 0)) ∧ w'.heap[w.heap.size]? = some (.cells cells 5 (0, 0)) ∧ cells.size = cap2 ∧ cells.toList.take l = cur.toList.take l ∧ l + 1 ≤ cap2 ∧ cap2 ≤ maxLen ∧ KeptB b none w w' := by
  have hlt := Lib.lt_of_heap hbk
  have hlM : l ≤ maxLen := by unfold maxLen; omega
  have hIs : Lib.IsBuffer 30 5 0 b cur.toList w := ⟨Nat.zero_le _, _, _, hbk, ⟨by simp [hcs], .inr ⟨g, l, cur, by simp [hcs], Nat.zero_le _, hg, by simp [hcs], hlM, by simp [hcs], by rw [Nat.mul_one]; exact List.take_of_length_le (Nat.le_refl _)⟩⟩, by simp [Value.ownBlock]; exact hgb⟩
  have CL := Tryd.Buffer_Len 0 b cur.toList w hIs
  rw [Array.length_toList, hcs] at CL
  have hnil : ∀ W, (binOp .eql 22 (.slice (some ⟨g, 0, none⟩) l l) (.slice none 0 0)).run Tryd.prog W = .ok (.bool false) W := fun W => Lib.run_eql_slice_some_nil W _ _ _ Tryd.underlying22
  clear hIs
  go_enter Tryd.func14, Tryd.ntmps14
  go_wp2_with fail
  refine CL.mono ?_
  rintro e w1 ⟨rfl, q, hq⟩
  have hs1 : w1.heap.size = w.heap.size := by rw [hq]; rfl
  have hbk1 : w1.heap[b]? = some (.cells #[.slice (some ⟨g, 0, none⟩) l l, .int .i64 0, .int .i8 lr] 30 (0, 0)) := by rw [hq]; exact hbk
  have hg1 : w1.heap[g]? = some (.cells cur 5 (0, 0)) := by rw [hq]; exact hg
  have hK : Hid (KeptB b none w w1) := by rw [hq]; exact (⟨rfl, rfl, rfl, Nat.le_refl _, fun _ _ _ _ => rfl⟩ : KeptB b none w (w.drewN q))
  clear hq CL hbk hg
  have HS1 : Hid (w1.heap.size = w.heap.size) := hs1
  have hlt1 : b < w1.heap.size := by omega
  clear hs1 hlt
  have c0 : w1.cell? ⟨b, 0, none⟩ = some (.slice (some ⟨g, 0, none⟩) l l) := by rw [Lib.cell_of_heap hbk1]; rfl
  have c1 : w1.cell? ⟨b, 1, none⟩ = some (.int .i64 0) := by rw [Lib.cell_of_heap hbk1]; rfl
  have f0 : w1.frozen? ⟨b, 0, none⟩ = false := Lib.frozen_of_heap hbk1 0
  have f1 : w1.frozen? ⟨b, 1, none⟩ = false := Lib.frozen_of_heap hbk1 1
  have HBK : Hid (w1.heap[b]? = some (.cells #[.slice (some ⟨g, 0, none⟩) l l, .int .i64 0, .int .i8 lr] 30 (0, 0))) := hbk1
  have HG1 : Hid (w1.heap[g]? = some (.cells cur 5 (0, 0))) := hg1
  have HCS : Hid (cur.size = l) := hcs
  have H1 : Hid (∀ v ∈ cur.toList, v.oneCell' = true) := h1
  clear hbk1 hg1 hcs h1
  have CT := Tryd.Buffer_tryGrow_none b (some ⟨g, 0, none⟩) l l 1 w1 c0 (Nat.le_refl _) hlM (by omega)
  have hlM' := hlM
  unfold maxLen at hlM'
  go_wp2_with fail
  refine CT.mono ?_
  rintro e w2 ⟨rfl, hw2⟩
  have hw2' := hw2.symm
  subst hw2'
  clear CT
  go_wp2
  have h1' : Hid (∀ v ∈ cur.toList.take l, v.oneCell' = true) := fun v hv => H1.out v (List.mem_of_mem_take hv)
  have hw1 : IntKind.i64.wrap (1 : Int) = 1 := by decide
  have mixed : Tryd.prog.follows .mixedOrders = true := by kernel_rfl
  go_region_with_o (
      go_at_call 17
      refine (Tryd.bytes_growSlice_row g l l 1 cur _ ?_ HCS.out (Nat.le_refl _) (Nat.le_refl _) hlim (by omega) h1'.out).mono ?_
      exact HG1.out
      rintro e w2 ⟨cap2, cells, rfl, hN, hcsz, htk, hcap2, hcm2, hbel⟩
      have hbk2 := (hbel.block b hlt1).trans HBK.out
      have d0 : w2.cell? ⟨b, 0, none⟩ = some (.slice (some ⟨g, 0, none⟩) l l) := by rw [Lib.cell_of_heap hbk2]; rfl
      have d1 : w2.cell? ⟨b, 1, none⟩ = some (.int .i64 0) := by rw [Lib.cell_of_heap hbk2]; rfl
      have e0 : w2.frozen? ⟨b, 0, none⟩ = false := Lib.frozen_of_heap hbk2 0
      have e1 : w2.frozen? ⟨b, 1, none⟩ = false := Lib.frozen_of_heap hbk2 1)
  all_goals (
    have HX : Hid (w2.heap[b]? = some (.cells #[.slice (some ⟨g, 0, none⟩) l l, .int .i64 0, .int .i8 lr] 30 (0, 0)) ∧ w2.heap[w1.heap.size]? = some (.cells cells 5 (0, 0)) ∧ cells.size = cap2 ∧ cells.toList.take l = cur.toList.take l ∧ KeptB b none w w2) := ⟨hbk2, hN, hcsz, htk, (KeptB.drew hK.out).below hbel⟩
    clear hbk2 hN hcsz htk hbel
    unfold maxLen at hcm2
    go_wp2
    go_ret
    obtain ⟨y1, y2, y3, y4, y5⟩ := HX.out
    have es := HS1.out
    have y6 : w2.heap[w.heap.size]? = some (.cells cells 5 (0, 0)) := by rw [← es]; exact y2
    have hne : w.heap.size ≠ b := by omega
    have z1 := Lib.heap_setCell_same (i := 0) (Lib.heap_setCell_same (i := 1) (Lib.heap_setCell_same (i := 0) y1 (.slice (some ⟨w1.heap.size, 0, none⟩) l cap2)) (.int .i64 0)) (.slice (some ⟨w1.heap.size, 0, none⟩) (l + 1) cap2)
    refine ⟨rfl, cap2, cells, ?_, ?_, y3, y4, hcap2, by unfold maxLen; exact hcm2, ((y5.setB 0 _).setB 1 _).setB 0 _⟩
    · rw [← es]; exact z1
    · rw [Below.heap_setCell _ _ _ _ hne, Below.heap_setCell _ _ _ _ hne, Below.heap_setCell _ _ _ _ hne]; exact y6)
end Go.Proofs.Qxb6605697aDoor
