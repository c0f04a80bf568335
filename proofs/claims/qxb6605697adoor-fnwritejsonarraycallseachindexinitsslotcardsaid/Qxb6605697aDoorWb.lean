import Derived.Test.Qxb6605697aDoorGrow
namespace Go.Proofs.Qxb6605697aDoor
open Go.RowKit
set_option linter.unusedVariables false

set_option maxRecDepth 100000 in
set_option maxHeartbeats 2000000 in
/-- WriteByte where the row has room. -/
theorem wb_room (b g cap : Nat) (lr c : Int) (cur : Array Value) (bs : List Value) (w : World) (hbk : w.heap[b]? = some (.cells #[.slice (some ⟨g, 0, none⟩) bs.length cap, .int .i64 0, .int .i8 lr] 30 (0, 0)))
    (hg : w.heap[g]? = some (.cells cur 5 (0, 0))) (hcs : cur.size = cap) (hlc : bs.length < cap) (hcm : cap ≤ maxLen) (hgb : g ≠ b) :
    Calls Tryd.prog 15 #[.pointer (some ⟨b, 0, none⟩), .int .u8 c] w fun e w' => e = .returned .nilIface ∧
      w'.heap[b]? = some (.cells #[.slice (some ⟨g, 0, none⟩) (bs.length + 1) cap, .int .i64 0, .int .i8 0] 30 (0, 0)) ∧ w'.heap[g]? = some (.cells (cur.setIfInBounds bs.length (.int .u8 c)) 5 (0, 0)) ∧ KeptB b (some (g, cap)) w w' := by
  have c2 : w.cell? ⟨b, 2, none⟩ = some (.int .i8 lr) := by rw [Lib.cell_of_heap hbk]; rfl
  have f2 : w.frozen? ⟨b, 2, none⟩ = false := Lib.frozen_of_heap hbk 2
  have hb1 := Lib.heap_setCell_same (i := 2) hbk (.int .i8 0)
  have hg1 : (w.setCell ⟨b, 2, none⟩ (.int .i8 0)).heap[g]? = some (.cells cur 5 (0, 0)) := (Below.heap_setCell _ _ _ _ hgb).trans hg
  obtain ⟨w1, hw1⟩ : ∃ w1, w.setCell ⟨b, 2, none⟩ (.int .i8 0) = w1 := ⟨_, rfl⟩
  have hK1 : Hid (KeptB b (some (g, cap)) w w1) := by rw [← hw1]; exact ((KeptB.refl b (some (g, cap)) w).setB 2 _ : KeptB b (some (g, cap)) w _)
  rw [hw1] at hb1 hg1
  have c0 : w1.cell? ⟨b, 0, none⟩ = some (.slice (some ⟨g, 0, none⟩) bs.length cap) := by rw [Lib.cell_of_heap hb1]; rfl
  have f0 : w1.frozen? ⟨b, 0, none⟩ = false := Lib.frozen_of_heap hb1 0
  have CT := Tryd.Buffer_tryGrow_room b (some ⟨g, 0, none⟩) bs.length cap 1 w1 c0 f0 (by omega) hcm (by omega)
  have hb2 := Lib.heap_setCell_same (i := 0) hb1 (.slice (some ⟨g, 0, none⟩) (bs.length + 1) cap)
  have hg2 : (w1.setCell ⟨b, 0, none⟩ (.slice (some ⟨g, 0, none⟩) (bs.length + 1) cap)).heap[g]? = some (.cells cur 5 (0, 0)) := (Below.heap_setCell _ _ _ _ hgb).trans hg1
  have HK2 : Hid (KeptB b (some (g, cap)) w (w1.setCell ⟨b, 0, none⟩ (.slice (some ⟨g, 0, none⟩) (bs.length + 1) cap))) := hK1.out.setB 0 _
  obtain ⟨w2, hw2⟩ : ∃ w2, w1.setCell ⟨b, 0, none⟩ (.slice (some ⟨g, 0, none⟩) (bs.length + 1) cap) = w2 := ⟨_, rfl⟩
  rw [hw2] at hb2 hg2 HK2 CT
  have d0 : w2.cell? ⟨b, 0, none⟩ = some (.slice (some ⟨g, 0, none⟩) (bs.length + 1) cap) := by rw [Lib.cell_of_heap hb2]; rfl
  have hlt : bs.length < cur.size := by omega
  have dg : w2.cell? ⟨g, bs.length, none⟩ = some cur[bs.length] := by rw [Lib.cell_of_heap hg2, Array.getElem?_eq_getElem hlt]
  have fg : w2.frozen? ⟨g, bs.length, none⟩ = false := Lib.frozen_of_heap hg2 _
  have hcm' := hcm
  unfold maxLen at hcm'
  have HB2 : Hid (w2.heap[b]? = _) := hb2
  have HG2 : Hid (w2.heap[g]? = _) := hg2
  have HW1 : Hid (w.setCell ⟨b, 2, none⟩ (.int .i8 0) = w1) := hw1
  clear hw1 hw2 hb1 hb2 hg1 hg2 c0 f0 hbk hg hK1
  go_enter Tryd.func15, Tryd.ntmps15
  go_wp2_with fail
  rw [HW1.out]
  refine CT.mono ?_
  rintro e w3 ⟨rfl, rfl⟩
  clear CT HW1 c2 f2
  go_wp2
  go_ret
  refine ⟨rfl, ?_, ?_, HK2.out.setG (.inl rfl) _ _⟩
  · exact (Below.heap_setCell _ _ _ _ (Ne.symm hgb)).trans HB2.out
  · exact Lib.heap_setCell_same (i := bs.length) HG2.out _

set_option maxRecDepth 100000 in
set_option maxHeartbeats 2000000 in
/-- WriteByte of a buffer that has no row. -/
theorem wb_nil (b : Nat) (lr c : Int) (w : World) (hbk : w.heap[b]? = some (.cells #[.slice none 0 0, .int .i64 0, .int .i8 lr] 30 (0, 0))) :
    Calls Tryd.prog 15 #[.pointer (some ⟨b, 0, none⟩), .int .u8 c] w fun e w' => e = .returned .nilIface ∧
      w'.heap[b]? = some (.cells #[.slice (some ⟨w.heap.size, 0, none⟩) 1 64, .int .i64 0, .int .i8 0] 30 (0, 0)) ∧ w'.heap[w.heap.size]? = some (.cells (row64.setIfInBounds 0 (.int .u8 c)) 5 (0, 0)) ∧ KeptB b none w w' := by
  have hltb := Lib.lt_of_heap hbk
  have c2 : w.cell? ⟨b, 2, none⟩ = some (.int .i8 lr) := by rw [Lib.cell_of_heap hbk]; rfl
  have f2 : w.frozen? ⟨b, 2, none⟩ = false := Lib.frozen_of_heap hbk 2
  have hb1 := Lib.heap_setCell_same (i := 2) hbk (.int .i8 0)
  obtain ⟨w1, hw1⟩ : ∃ w1, w.setCell ⟨b, 2, none⟩ (.int .i8 0) = w1 := ⟨_, rfl⟩
  have hK1 : Hid (KeptB b none w w1) := by rw [← hw1]; exact ((KeptB.refl b none w).setB 2 _ : KeptB b none w _)
  have hs1 : Hid (w1.heap.size = w.heap.size) := by rw [← hw1]; exact (World.size_setCell _ _ _ : _ = _)
  rw [hw1] at hb1
  have c0 : w1.cell? ⟨b, 0, none⟩ = some (.slice none 0 0) := by rw [Lib.cell_of_heap hb1]; rfl
  have CT := Tryd.Buffer_tryGrow_none b none 0 0 1 w1 c0 (Nat.le_refl _) (Nat.zero_le _) (by omega)
  have CG := grow_nil b 0 w1 hb1
  have HW1 : Hid (w.setCell ⟨b, 2, none⟩ (.int .i8 0) = w1) := hw1
  clear hw1 hb1 hbk c0
  go_enter Tryd.func15, Tryd.ntmps15
  go_wp2_with fail
  rw [HW1.out]
  refine CT.mono ?_
  rintro e w2 ⟨rfl, hw2⟩
  have hw2' := hw2.symm
  subst hw2'
  clear CT HW1 c2 f2 hw2
  go_wp2_with fail
  refine CG.mono ?_
  rintro e w3 ⟨rfl, g1, g2, g3⟩
  clear CG
  have d0 : w3.cell? ⟨b, 0, none⟩ = some (.slice (some ⟨w1.heap.size, 0, none⟩) 1 64) := by rw [Lib.cell_of_heap g1]; rfl
  have dg : w3.cell? ⟨w1.heap.size, 0, none⟩ = some (.int .u8 0) := by rw [Lib.cell_of_heap g2]; rfl
  have fg : w3.frozen? ⟨w1.heap.size, 0, none⟩ = false := Lib.frozen_of_heap g2 _
  have G1 : Hid (w3.heap[b]? = _) := g1
  have G2 : Hid (w3.heap[w1.heap.size]? = _) := g2
  have G3 : Hid (KeptB b none w w3) := hK1.out.trans g3
  clear g1 g2 g3 hK1
  go_wp2
  go_ret
  have e1 := hs1.out
  refine ⟨rfl, ?_, ?_, G3.out.setG (cap := 0) (.inr (by omega)) _ _⟩
  · rw [← e1]; exact (Below.heap_setCell _ _ _ _ (by show b ≠ w1.heap.size; omega)).trans G1.out
  · rw [← e1]; exact Lib.heap_setCell_same (i := 0) G2.out _

set_option maxRecDepth 100000 in
set_option maxHeartbeats 2000000 in
/-- WriteByte of a buffer whose row is full. -/
theorem wb_full (b g l : Nat) (lr c : Int) (cur : Array Value) (w : World) (hbk : w.heap[b]? = some (.cells #[.slice (some ⟨g, 0, none⟩) l l, .int .i64 0, .int .i8 lr] 30 (0, 0)))
    (hg : w.heap[g]? = some (.cells cur 5 (0, 0))) (hcs : cur.size = l) (hgb : g ≠ b) (h1 : ∀ v ∈ cur.toList, v.oneCell' = true) (hlim : l + 1 ≤ 140737488355328) (hl0 : ¬ l = 0) :
    Calls Tryd.prog 15 #[.pointer (some ⟨b, 0, none⟩), .int .u8 c] w fun e w' => e = .returned .nilIface ∧ ∃ (cap2 : Nat) (cells : Array Value),
      w'.heap[b]? = some (.cells #[.slice (some ⟨w.heap.size, 0, none⟩) (l + 1) cap2, .int .i64 0, .int .i8 0] 30 (0, 0)) ∧ w'.heap[w.heap.size]? = some (.cells (cells.setIfInBounds l (.int .u8 c)) 5 (0, 0)) ∧ cells.size = cap2 ∧ cells.toList.take l = cur.toList.take l ∧ l + 1 ≤ cap2 ∧ cap2 ≤ maxLen ∧ KeptB b none w w' := by
  have hltb := Lib.lt_of_heap hbk
  have c2 : w.cell? ⟨b, 2, none⟩ = some (.int .i8 lr) := by rw [Lib.cell_of_heap hbk]; rfl
  have f2 : w.frozen? ⟨b, 2, none⟩ = false := Lib.frozen_of_heap hbk 2
  have hb1 := Lib.heap_setCell_same (i := 2) hbk (.int .i8 0)
  have hg1 : (w.setCell ⟨b, 2, none⟩ (.int .i8 0)).heap[g]? = some (.cells cur 5 (0, 0)) := (Below.heap_setCell _ _ _ _ hgb).trans hg
  obtain ⟨w1, hw1⟩ : ∃ w1, w.setCell ⟨b, 2, none⟩ (.int .i8 0) = w1 := ⟨_, rfl⟩
  have hK1 : Hid (KeptB b none w w1) := by rw [← hw1]; exact ((KeptB.refl b none w).setB 2 _ : KeptB b none w _)
  have hs1 : Hid (w1.heap.size = w.heap.size) := by rw [← hw1]; exact (World.size_setCell _ _ _ : _ = _)
  rw [hw1] at hb1 hg1
  have c0 : w1.cell? ⟨b, 0, none⟩ = some (.slice (some ⟨g, 0, none⟩) l l) := by rw [Lib.cell_of_heap hb1]; rfl
  have CT := Tryd.Buffer_tryGrow_none b (some ⟨g, 0, none⟩) l l 1 w1 c0 (Nat.le_refl _) (by unfold maxLen; omega) (by omega)
  have CG := grow_full b g l 0 cur w1 hb1 hg1 hcs hgb h1 hlim hl0
  have HW1 : Hid (w.setCell ⟨b, 2, none⟩ (.int .i8 0) = w1) := hw1
  clear hw1 hb1 hg1 hbk hg c0 hcs h1
  go_enter Tryd.func15, Tryd.ntmps15
  go_wp2_with fail
  rw [HW1.out]
  refine CT.mono ?_
  rintro e w2 ⟨rfl, hw2⟩
  have hw2' := hw2.symm
  subst hw2'
  clear CT HW1 c2 f2 hw2
  go_wp2_with fail
  refine CG.mono ?_
  rintro e w3 ⟨rfl, cap2, cells, g1, g2, g4, g5, g6, g7, g3⟩
  clear CG
  have hlt : l < cells.size := by omega
  have d0 : w3.cell? ⟨b, 0, none⟩ = some (.slice (some ⟨w1.heap.size, 0, none⟩) (l + 1) cap2) := by rw [Lib.cell_of_heap g1]; rfl
  have dg : w3.cell? ⟨w1.heap.size, l, none⟩ = some cells[l] := by rw [Lib.cell_of_heap g2, Array.getElem?_eq_getElem hlt]
  have fg : w3.frozen? ⟨w1.heap.size, l, none⟩ = false := Lib.frozen_of_heap g2 _
  have G1 : Hid (w3.heap[b]? = _) := g1
  have G2 : Hid (w3.heap[w1.heap.size]? = _) := g2
  have G3 : Hid (KeptB b none w w3) := hK1.out.trans g3
  have G4 : Hid (cells.size = cap2 ∧ cells.toList.take l = cur.toList.take l) := ⟨g4, g5⟩
  have g7' := g7
  unfold maxLen at g7'
  clear g1 g2 g3 hK1 g4 g5
  go_wp2
  go_ret
  have e1 := hs1.out
  refine ⟨rfl, cap2, cells, ?_, ?_, G4.out.1, G4.out.2, g6, g7, G3.out.setG (cap := 0) (.inr (by omega)) _ _⟩
  · rw [← e1]; exact (Below.heap_setCell _ _ _ _ (by show b ≠ w1.heap.size; omega)).trans G1.out
  · rw [← e1]; exact Lib.heap_setCell_same (i := l) G2.out _

theorem take_set {cells : Array Value} {l : Nat} {v : Value} (h : l < cells.size) : (cells.setIfInBounds l v).toList.take (l + 1) = cells.toList.take l ++ [v] := by
  rw [Array.toList_setIfInBounds, List.take_add_one, List.getElem?_set_self (by simpa using h), List.take_set_of_le (Nat.le_refl _)]
  rfl

/-- WriteByte: the byte behind the others; every old block but the buffer's two as it was. -/
theorem writeByte_any (b : Nat) (row : Option (Nat × Nat)) (bs : List Value) (c : Int) (w : World) (h : Buf w b row bs) (hlim : bs.length + 1 ≤ 140737488355328) :
    Calls Tryd.prog 15 #[.pointer (some ⟨b, 0, none⟩), .int .u8 c] w fun e w' => e = .returned .nilIface ∧ ∃ g cap, Buf w' b (some (g, cap)) (bs ++ [.int .u8 c]) ∧ ((∃ cap0, row = some (g, cap0)) ∨ w.heap.size ≤ g) ∧ KeptB b row w w' := by
  have hone : ∀ v ∈ bs ++ [Value.int .u8 c], v.oneCell' = true := fun v hv => by
    rcases List.mem_append.1 hv with h' | h'
    · exact h.one v h'
    · rw [List.mem_singleton.1 h']; rfl
  rcases h.at' with ⟨rfl, rfl, lr, hbk⟩ | ⟨g, cap, lr, cur, rfl, hbk, hg, hcs, hlc, hcm, htk, hgb, h0⟩
  · refine (wb_nil b lr c w hbk).mono ?_
    rintro e w' ⟨rfl, g1, g2, g3⟩
    have hlt := Lib.lt_of_heap hbk
    exact ⟨rfl, w.heap.size, 64, ⟨hone, .inr ⟨_, _, 0, _, rfl, g1, g2, by simp [row64], by simp, by simp [maxLen], (take_set (cells := row64) (l := 0) (v := .int .u8 c) (by simp [row64])).trans rfl, by omega, by simp⟩⟩, .inr (Nat.le_refl _), g3⟩
  · by_cases hr : bs.length < cap
    · refine (wb_room b g cap lr c cur bs w hbk hg hcs hr hcm hgb).mono ?_
      rintro e w' ⟨rfl, g1, g2, g3⟩
      exact ⟨rfl, g, cap, ⟨hone, .inr ⟨g, cap, 0, _, rfl, by simpa using g1, g2, by simpa using hcs, by simp; omega, hcm, by rw [List.length_append, List.length_singleton, take_set (by omega), htk], hgb, by simp⟩⟩, .inl ⟨cap, rfl⟩, g3⟩
    · obtain rfl : cap = bs.length := by omega
      have hcur : cur.toList = bs := by rw [← htk, List.take_of_length_le (by simp [hcs])]
      refine (wb_full b g bs.length lr c cur w hbk hg hcs hgb (by rw [hcur]; exact h.one) hlim (by omega)).mono ?_
      rintro e w' ⟨rfl, cap2, cells, g1, g2, g4, g5, g6, g7, g3⟩
      have hlt := Lib.lt_of_heap hbk
      exact ⟨rfl, w.heap.size, cap2, ⟨hone, .inr ⟨_, _, 0, _, rfl, by simpa using g1, g2, by simpa using g4, by simp; omega, g7, by rw [List.length_append, List.length_singleton, take_set (by omega), g5, htk], by omega, by simp⟩⟩, .inr (Nat.le_refl _), ⟨g3.os, g3.tape, g3.output, g3.size, fun k hk k1 k2 => g3.block k hk k1 (fun _ _ e => by cases e)⟩⟩
end Go.Proofs.Qxb6605697aDoor
