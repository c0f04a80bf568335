import Derived.Test.Qxb6605697aDoorLen
import Derived.Laws.IdiomCopy
namespace Go.Proofs.Qxb6605697aDoor
open Go.RowKit
set_option linter.unusedVariables false

theorem Tryd.info5 : (Tryd.prog.info? 5).map (·.size) = some 1 := by kernel_rfl

set_option maxRecDepth 100000 in
set_option maxHeartbeats 1000000 in
/-- Write of nothing onto a buffer with no row. -/
theorem write_none (b : Nat) (a : Option Addr) (c : Nat) (w : World) (h : Buf w b none []) :
    Calls Tryd.prog 8 #[.pointer (some ⟨b, 0, none⟩), .slice a 0 c] w fun e w' => (∃ v, e = .returned v) ∧ Buf w' b none [] ∧ Below b w w' := by
  obtain ⟨lr, hbk⟩ : ∃ lr, w.heap[b]? = some (.cells #[.slice none 0 0, .int .i64 0, .int .i8 lr] 30 (0, 0)) := by
    rcases h.at' with ⟨_, _, lr, hbk⟩ | ⟨_, _, _, _, e, _⟩
    · exact ⟨lr, hbk⟩
    · cases e
  have hone := h.one
  clear h
  have c2 : w.cell? ⟨b, 2, none⟩ = some (.int .i8 lr) := by rw [Lib.cell_of_heap hbk]; rfl
  have f2 : w.frozen? ⟨b, 2, none⟩ = false := Lib.frozen_of_heap hbk 2
  have hb1 := Lib.heap_setCell_same (i := 2) hbk (.int .i8 0)
  have hB1 : Hid (Below b w (w.setCell ⟨b, 2, none⟩ (.int .i8 0))) := (Below.refl b w).setCell (p := ⟨b, 2, none⟩) (Nat.le_refl _) _
  obtain ⟨w1, hw1⟩ : ∃ w1, w.setCell ⟨b, 2, none⟩ (.int .i8 0) = w1 := ⟨_, rfl⟩
  rw [hw1] at hb1 hB1
  have c0 : w1.cell? ⟨b, 0, none⟩ = some (.slice none 0 0) := by rw [Lib.cell_of_heap hb1]; rfl
  have f0 : w1.frozen? ⟨b, 0, none⟩ = false := Lib.frozen_of_heap hb1 0
  have CT := Tryd.Buffer_tryGrow_room b none 0 0 0 w1 c0 f0 (Nat.le_refl _) (Nat.zero_le _) (Nat.le_refl _)
  have hb2 := Lib.heap_setCell_same (i := 0) hb1 (.slice none 0 0)
  have hB2 : Hid (Below b w (w1.setCell ⟨b, 0, none⟩ (.slice none 0 0))) := hB1.out.setCell (p := ⟨b, 0, none⟩) (Nat.le_refl _) _
  obtain ⟨w2, hw2⟩ : ∃ w2, w1.setCell ⟨b, 0, none⟩ (.slice none (0 + 0) 0) = w2 := ⟨_, rfl⟩
  rw [hw2] at CT
  have hw2' : w1.setCell ⟨b, 0, none⟩ (.slice none 0 0) = w2 := hw2
  rw [hw2'] at hb2 hB2
  have d0 : w2.cell? ⟨b, 0, none⟩ = some (.slice none 0 0) := by rw [Lib.cell_of_heap hb2]; rfl
  have hce : ∀ d dLen dCap W, (Builtin.copy_ #[22, 22] 3 #[.slice d dLen dCap, .slice a 0 c]).run Tryd.prog W = .ok (goInt 0) W := fun d dLen dCap W => run_copy_none W 22 22 3 5 d a dLen dCap 0 c Tryd.underlying22 Tryd.info5 (by simp)
  have HB2 : Hid (w2.heap[b]? = _) := hb2
  have HW1 : Hid (w.setCell ⟨b, 2, none⟩ (.int .i8 0) = w1) := hw1
  have HO : Hid (∀ v ∈ ([] : List Value), v.oneCell' = true) := hone
  clear hw1 hw2 hw2' hb1 hb2 c0 f0 hbk hB1 hone
  go_enter Tryd.func8, Tryd.ntmps8
  go_wp2_with fail
  rw [HW1.out]
  refine CT.mono ?_
  rintro e w3 ⟨rfl, rfl⟩
  clear CT HW1 c2 f2
  go_wp2
  go_ret2
  exact ⟨⟨_, rfl⟩, ⟨HO.out, .inl ⟨rfl, rfl, 0, HB2.out⟩⟩, hB2.out⟩

/-- Write onto a buffer with no row. -/
theorem write_any (b : Nat) (a : Option Addr) (n c : Nat) (cs : List Value) (w : World) (h : Buf w b none []) (hn : cs.length = n) (h1c : ∀ v ∈ cs, v.oneCell' = true) (hlim : n ≤ 140737488355328)
    (hsrc : 0 < n → ∃ x, a = some x ∧ x.block ≠ b ∧ ∀ j v, cs[j]? = some v → w.cell? (x.add j) = some v) :
    Calls Tryd.prog 8 #[.pointer (some ⟨b, 0, none⟩), .slice a n c] w fun e w' => (∃ v, e = .returned v) ∧ (∃ row, Buf w' b row cs ∧ ∀ g cap, row = some (g, cap) → b ≤ g) ∧ Below b w w' := by
  rcases Nat.eq_zero_or_pos n with rfl | h0
  · obtain rfl : cs = [] := List.eq_nil_of_length_eq_zero hn
    refine (write_none b a c w h).mono ?_
    rintro e w' ⟨he, hb, hB⟩
    exact ⟨he, ⟨none, hb, fun _ _ e => by cases e⟩, hB⟩
  · obtain ⟨x, rfl, hxb, hx⟩ := hsrc h0
    obtain ⟨lr, hbk⟩ : ∃ lr, w.heap[b]? = some (.cells #[.slice none 0 0, .int .i64 0, .int .i8 lr] 30 (0, 0)) := by
      rcases h.at' with ⟨_, _, lr, hbk⟩ | ⟨_, _, _, _, e, _⟩
      · exact ⟨lr, hbk⟩
      · cases e
    have hIs : Lib.IsBuffer 30 5 b b [] w := ⟨Nat.le_refl _, _, _, hbk, World.ownsRow_nil _ _ _ _, by simp [Value.ownBlock]⟩
    refine (Tryd.Buffer_Write_any b b [] cs x n c w hIs (Nat.le_of_lt (Lib.lt_of_heap hbk)) (fun v hv => by cases hv) hn hxb hx h1c (by simpa using hlim)).mono ?_
    rintro e w' ⟨rfl, hI, hB, _⟩
    obtain ⟨g, cap, hb, hg⟩ := buf_of hI (by simpa using h1c) (by simp; omega)
    exact ⟨⟨_, rfl⟩, ⟨_, by simpa using hb, fun g' cap' e => by cases e; exact hg⟩, hB⟩
end Go.Proofs.Qxb6605697aDoor
