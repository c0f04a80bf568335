import Derived.Test.Qxb6605697aDoorWb
namespace Go.Proofs.Qxb6605697aDoor
open Go.RowKit
set_option linter.unusedVariables false

theorem Buf.cell0 {w : World} {b : Nat} {row : Option (Nat × Nat)} {bs : List Value} (h : Buf w b row bs) : ∃ a cap, w.cell? ⟨b, 0, none⟩ = some (.slice a bs.length cap) ∧ w.cell? ⟨b, 1, none⟩ = some (.int .i64 0) ∧ cap ≤ maxLen ∧ bs.length ≤ cap ∧ (∀ g c, row = some (g, c) → a = some ⟨g, 0, none⟩) := by
  rcases h.at' with ⟨rfl, rfl, lr, hbk⟩ | ⟨g, cap, lr, cur, rfl, hbk, hg, hcs, hlc, hcm, htk, hgb, h0⟩
  · exact ⟨none, 0, by rw [Lib.cell_of_heap hbk]; rfl, by rw [Lib.cell_of_heap hbk]; rfl, Nat.zero_le _, Nat.le_refl _, fun _ _ e => by cases e⟩
  · exact ⟨_, cap, by rw [Lib.cell_of_heap hbk]; rfl, by rw [Lib.cell_of_heap hbk]; rfl, hcm, hlc, fun _ _ e => by cases e; rfl⟩

/-- Len -/
theorem len_any (b : Nat) (row : Option (Nat × Nat)) (bs : List Value) (w : World) (h : Buf w b row bs) :
    Calls Tryd.prog 11 #[.pointer (some ⟨b, 0, none⟩)] w fun e w' => e = .returned (.int .i64 bs.length) ∧ ∃ n, w' = w.drewN n := by
  obtain ⟨a, cap, c0, c1, hcm, hlc, _⟩ := h.cell0
  unfold maxLen at hcm
  clear h
  go_enter Tryd.func11, Tryd.ntmps11
  go_wp2
  go_quiet (fail)
  go_wp2
  go_ret
  exact ⟨rfl, _, rfl⟩

/-- Bytes, of a buffer that has a row. -/
theorem bytes_any (b g cap : Nat) (bs : List Value) (w : World) (h : Buf w b (some (g, cap)) bs) :
    Calls Tryd.prog 12 #[.pointer (some ⟨b, 0, none⟩)] w fun e w' => ∃ c, e = .returned (.slice (some ⟨g, 0, none⟩) bs.length c) ∧ bs.length ≤ c ∧ ∃ n, w' = w.drewN n := by
  obtain ⟨a, cap', c0, c1, hcm, hlc, ha⟩ := h.cell0
  obtain rfl := ha _ _ rfl
  unfold maxLen at hcm
  clear h ha
  go_enter Tryd.func12, Tryd.ntmps12
  go_wp2
  go_quiet (fail)
  go_wp2
  go_ret
  exact ⟨_, rfl, hlc, _, rfl⟩
end Go.Proofs.Qxb6605697aDoor
