import Derived.Laws.Strings
import Derived.Laws.StructEq
namespace Go.Proofs.Qxb6605697a.fnD

/-- is there a colon among the first k bytes? -/
def colonIn (s : ByteArray) (k : Nat) : Prop := ∃ i, i < k ∧ ∃ h : i < s.size, s[i] = 58

theorem toList_data (s : ByteArray) : s.toList = s.data.toList := ByteArray.toList_eq s
theorem len_toList (s : ByteArray) : s.toList.length = s.size := by rw [toList_data]; exact Array.length_toList
theorem no_colon {s : ByteArray} (h : ¬ colonIn s s.size) : (58 : UInt8) ∉ s.toList := by
  intro hm
  rw [toList_data] at hm
  obtain ⟨i, hi, e⟩ := List.mem_iff_getElem.1 hm
  have hi' : i < s.size := by rw [Array.length_toList] at hi; exact hi
  exact h ⟨i, hi', hi', e⟩
theorem take_six (s : ByteArray) : (s.extract 0 6).toList = s.toList.take 6 := by
  rw [toList_data, toList_data]
  simp [ByteArray.data_extract]
theorem app_toList (a b : ByteArray) : (a ++ b).toList = a.toList ++ b.toList := by
  rw [toList_data, toList_data, toList_data]
  simp
theorem written (s l : ByteArray) : (s ++ ⟨#[58]⟩ ++ l).toList = s.toList ++ 58 :: l.toList := by
  rw [app_toList, app_toList]
  have : (⟨#[58]⟩ : ByteArray).toList = [58] := by rw [toList_data]
  rw [this]
  simp

theorem bare_six {l : ByteArray} (h : ¬ colonIn l l.size) : ((l.extract 0 6).toList == [120, 109, 108, 110, 115, 58]) = false := by
  apply Bool.eq_false_iff.2
  intro e
  have e' := eq_of_beq e
  rw [take_six] at e'
  have hm : (58 : UInt8) ∈ l.toList.take 6 := by rw [e']; decide
  exact no_colon h (List.mem_of_mem_take hm)

theorem not_bare (s l : ByteArray) : ((s ++ ⟨#[58]⟩ ++ l).toList == [120, 109, 108, 110, 115]) = false := by
  apply Bool.eq_false_iff.2
  intro e
  have e' := eq_of_beq e
  rw [written] at e'
  have hm : (58 : UInt8) ∈ s.toList ++ 58 :: l.toList := by simp
  rw [e'] at hm
  revert hm
  decide

theorem six_yes {s l : ByteArray} (h : (s.toList == [120, 109, 108, 110, 115]) = true) : (((s ++ ⟨#[58]⟩ ++ l).extract 0 6).toList == [120, 109, 108, 110, 115, 58]) = true := by
  have e := eq_of_beq h
  rw [take_six, written, e]
  simp
theorem size_five {s : ByteArray} (h : (s.toList == [120, 109, 108, 110, 115]) = true) : s.size = 5 := by
  rw [← len_toList, eq_of_beq h]
  rfl

theorem list_six : ∀ (a b : List UInt8), (58 : UInt8) ∉ a → (a ++ 58 :: b).take 6 = [120, 109, 108, 110, 115, 58] → a = [120, 109, 108, 110, 115]
  | [], b, _, h => by simp at h
  | [x1], b, hn, h => by simp at h
  | [x1, x2], b, hn, h => by simp at h
  | [x1, x2, x3], b, hn, h => by simp at h
  | [x1, x2, x3, x4], b, hn, h => by simp at h
  | [x1, x2, x3, x4, x5], b, hn, h => by simp at h; simp [h]
  | x1 :: x2 :: x3 :: x4 :: x5 :: x6 :: r, b, hn, h => by
    simp at h hn
    exact absurd h.2.2.2.2.2.symm hn.2.2.2.2.2.1

theorem six_no {s l : ByteArray} (hc : ¬ colonIn s s.size) (h : (s.toList == [120, 109, 108, 110, 115]) = false) : (((s ++ ⟨#[58]⟩ ++ l).extract 0 6).toList == [120, 109, 108, 110, 115, 58]) = false := by
  apply Bool.eq_false_iff.2
  intro e
  have e' := eq_of_beq e
  rw [take_six, written] at e'
  have := list_six _ _ (no_colon hc) e'
  rw [this] at h
  exact absurd h (by decide)
end Go.Proofs.Qxb6605697a.fnD
