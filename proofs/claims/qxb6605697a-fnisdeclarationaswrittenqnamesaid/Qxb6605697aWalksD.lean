import Derived.Test.Qxb6605697aRows
import Derived.Test.Qxb6605697aPlain
import Derived.WalkKit
import Derived.WalkLawsBesides
import Derived.WalkSpells
import Derived.ProofKit
import Derived.OpenShut
import Derived.ShutString
import Derived.Deep.LoopGhost
namespace Go.Proofs.Qxb6605697a.fnD
open Go.ChangeShapes Go.WideShapes Go.ChangeAt Go.RowKit
open Go.ChangeMaps (open_string shut_string)
set_option linter.unusedVariables false

theorem bytes_any (s l : ByteArray) (w : World) : Calls Try.prog 4 #[.string s, .string l] w fun e w' => (∃ x, e = .returned (.bool x)) ∧ w' = w := by
  by_cases h1 : s.size ≤ 1048576
  · by_cases h2 : l.size ≤ 1048576
    · by_cases h3 : s.size + l.size ≤ 1048576
      · go_enter Try.func4, Try.ntmps4
        go_wp2
        go_ret
        exact ⟨⟨_, rfl⟩, rfl⟩
      · go_enter Try.func4, Try.ntmps4
        go_wp2
        go_ret
        exact ⟨⟨_, rfl⟩, rfl⟩
    · go_enter Try.func4, Try.ntmps4
      go_wp2
      go_ret
      exact ⟨⟨_, rfl⟩, rfl⟩
  · go_enter Try.func4, Try.ntmps4
    go_wp2
    go_ret
    exact ⟨⟨_, rfl⟩, rfl⟩

theorem byte_eq {c : UInt8} (h : ((c.toNat : Int) == 58) = true) : c = 58 := by
  have : (c.toNat : Int) = 58 := by simpa using h
  apply UInt8.toNat_inj.1
  show c.toNat = 58
  omega
theorem colon_step {s : ByteArray} {k : Nat} (h : ¬ colonIn s k) (hlt : k < s.size) (hb : ((s[k].toNat : Int) == 58) = false) : Hid (¬ colonIn s (k + 1)) := by
  rintro ⟨i, hi, hi2, e⟩
  rcases Nat.lt_succ_iff_lt_or_eq.1 hi with h' | rfl
  · exact h ⟨i, h', hi2, e⟩
  · rw [e] at hb
    exact Bool.noConfusion hb

theorem colon_any (s : ByteArray) (w : World) (hs : s.size ≤ 65536) : Calls Try.prog 5 #[.string s] w fun e w' => (∃ x : Bool, e = .returned (.bool x) ∧ (x = true ↔ colonIn s s.size)) ∧ w' = w := by
  go_enter Try.func5, Try.ntmps5
  go_wp2
  go_loopg [3] s.size (fun g s3 wr => ∃ k : Nat, s3 = .int .i64 k ∧ k ≤ s.size ∧ s.size - k ≤ g ∧ wr = w ∧ Hid (¬ colonIn s k))
  case atStart => exact ⟨0, rfl, Nat.zero_le _, by omega, rfl, fun ⟨i, hi, _⟩ => absurd hi (Nat.not_lt_zero _)⟩
  case round =>
    obtain ⟨k, rfl, hk, hg, rfl, I⟩ := hrel
    by_cases hlt : k < s.size
    · go_wp2
      · go_ret
        exact ⟨⟨true, rfl, ⟨fun _ => ⟨k, hlt, hlt, byte_eq ‹_›⟩, fun _ => rfl⟩⟩, rfl⟩
      · go_roundg (s.size - (k + 1))
        case measure => omega
        case rel => exact ⟨k + 1, by go_num, by omega, Nat.le_refl _, rfl, colon_step I.out hlt ‹_›⟩
    · obtain rfl : k = s.size := by omega
      go_wp2
      go_ret
      exact ⟨⟨false, rfl, ⟨fun h => Bool.noConfusion h, fun h => absurd h I.out⟩⟩, rfl⟩

/-- "xmlns" -/
abbrev X : List UInt8 := [120, 109, 108, 110, 115]

theorem decl_yes (s l : ByteArray) (w : World) (h : (s.toList == [120, 109, 108, 110, 115]) = true) : Calls Try.prog 6 #[.string s, .string l] w fun e w' => e = .returned (.bool true) ∧ Grown w w' := by
  go_enter Try.func6, Try.ntmps6
  go_wp2
  go_ret
  exact ⟨rfl, (Grown.refl _).alloc _ _⟩
theorem decl_no (s l : ByteArray) (w : World) (h : (s.toList == [120, 109, 108, 110, 115]) = false) (h2 : s.toList.isEmpty = false) : Calls Try.prog 6 #[.string s, .string l] w fun e w' => e = .returned (.bool false) ∧ Grown w w' := by
  go_enter Try.func6, Try.ntmps6
  go_wp2
  go_ret
  exact ⟨rfl, (Grown.refl _).alloc _ _⟩
theorem decl_bare (s l : ByteArray) (w : World) (h : (s.toList == [120, 109, 108, 110, 115]) = false) (h2 : s.toList.isEmpty = true) (b : Bool) (hb : (l.toList == [120, 109, 108, 110, 115]) = b) : Calls Try.prog 6 #[.string s, .string l] w fun e w' => e = .returned (.bool b) ∧ Grown w w' := by
  go_enter Try.func6, Try.ntmps6
  go_wp2
  go_ret
  exact ⟨rfl, (Grown.refl _).alloc _ _⟩

theorem empty_no {s : ByteArray} (h : s.toList.isEmpty = true) : (s.toList == [120, 109, 108, 110, 115]) = false := by
  rw [List.isEmpty_iff.1 h]
  rfl

set_option maxHeartbeats 1000000 in
theorem law5 (s l : ByteArray) (w : World) (hs : s.size ≤ 65536) (hl : l.size ≤ 65536) (h0 : s.toList.isEmpty = true) (hc : ¬ colonIn s s.size) (hcl : ¬ colonIn l l.size) :
    Calls Try.prog 3 #[.string s, .string l] w fun e w' => e = .returned (.bool true) ∧ Grown w w' := by
  have CB := bytes_any s l w
  have CS := colon_any s w hs
  have CL := colon_any l w hl
  have HC : Hid (¬ colonIn s s.size) := hc
  have HCL : Hid (¬ colonIn l l.size) := hcl
  have hE := bare_six hcl
  have hN := empty_no h0
  clear hc hcl
  go_enter Try.func3, Try.ntmps3
  go_wp2_with fail
  refine CB.mono ?_
  rintro e w' ⟨⟨x, rfl⟩, rfl⟩
  cases x with
  | false =>
    go_wp2
    go_ret
    exact ⟨rfl, Grown.refl _⟩
  | true =>
    go_wp2_with fail
    refine CS.mono ?_
    rintro e w' ⟨⟨x, rfl, hx⟩, rfl⟩
    obtain rfl : x = false := by
      cases x with
      | true => exact absurd (hx.1 rfl) HC.out
      | false => rfl
    clear hx CS CB
    go_wp2_with fail
    refine CL.mono ?_
    rintro e w' ⟨⟨x, rfl, hx⟩, rfl⟩
    obtain rfl : x = false := by
      cases x with
      | true => exact absurd (hx.1 rfl) HCL.out
      | false => rfl
    clear hx CL
    cases hX : (l.toList == [120, 109, 108, 110, 115])
    · by_cases h6 : 6 ≤ l.size
      · go_wp2_with fail
        refine (decl_bare s l _ hN h0 false hX).mono ?_
        rintro e w2 ⟨rfl, hg⟩
        go_wp2
        go_ret
        exact ⟨rfl, hg⟩
      · go_wp2_with fail
        refine (decl_bare s l _ hN h0 false hX).mono ?_
        rintro e w2 ⟨rfl, hg⟩
        go_wp2
        go_ret
        exact ⟨rfl, hg⟩
    · go_wp2_with fail
      refine (decl_bare s l _ hN h0 true hX).mono ?_
      rintro e w2 ⟨rfl, hg⟩
      go_wp2
      go_ret
      exact ⟨rfl, hg⟩

set_option maxHeartbeats 1000000 in
theorem law5c (s l : ByteArray) (w : World) (hs : s.size ≤ 65536) (hl : l.size ≤ 65536) (h0 : s.toList.isEmpty = true) (hc : ¬ colonIn s s.size) (hcl : colonIn l l.size) :
    Calls Try.prog 3 #[.string s, .string l] w fun e w' => e = .returned (.bool true) ∧ Grown w w' := by
  have CB := bytes_any s l w
  have CS := colon_any s w hs
  have CL := colon_any l w hl
  have HC : Hid (¬ colonIn s s.size) := hc
  have HCL : Hid (colonIn l l.size) := hcl
  clear hc hcl
  go_enter Try.func3, Try.ntmps3
  go_wp2_with fail
  refine CB.mono ?_
  rintro e w' ⟨⟨x, rfl⟩, rfl⟩
  cases x with
  | false =>
    go_wp2
    go_ret
    exact ⟨rfl, Grown.refl _⟩
  | true =>
    go_wp2_with fail
    refine CS.mono ?_
    rintro e w' ⟨⟨x, rfl, hx⟩, rfl⟩
    obtain rfl : x = false := by
      cases x with
      | true => exact absurd (hx.1 rfl) HC.out
      | false => rfl
    clear hx CS CB
    go_wp2_with fail
    refine CL.mono ?_
    rintro e w' ⟨⟨x, rfl, hx⟩, rfl⟩
    obtain rfl : x = true := hx.2 HCL.out
    clear hx CL
    go_wp2
    go_ret
    exact ⟨rfl, Grown.refl _⟩

set_option maxHeartbeats 1000000 in
theorem law6 (s l : ByteArray) (w : World) (hs : s.size ≤ 65536) (hl : l.size ≤ 65536) (h0 : s.toList.isEmpty = false) (hc : ¬ colonIn s s.size) :
    Calls Try.prog 3 #[.string s, .string l] w fun e w' => e = .returned (.bool true) ∧ Grown w w' := by
  have CB := bytes_any s l w
  have CS := colon_any s w hs
  have HC : Hid (¬ colonIn s s.size) := hc
  have hE := not_bare s l
  cases hX : (s.toList == [120, 109, 108, 110, 115])
  · have hT := six_no (l := l) hc hX
    clear hc
    by_cases h6 : 6 ≤ s.size + 1 + l.size
    all_goals
      go_enter Try.func3, Try.ntmps3
      go_wp2_with fail
      refine CB.mono ?_
      rintro e w' ⟨⟨x, rfl⟩, rfl⟩
      cases x with
      | false =>
        go_wp2
        go_ret
        exact ⟨rfl, Grown.refl _⟩
      | true =>
        go_wp2_with fail
        refine CS.mono ?_
        rintro e w' ⟨⟨x, rfl, hx⟩, rfl⟩
        obtain rfl : x = false := by
          cases x with
          | true => exact absurd (hx.1 rfl) HC.out
          | false => rfl
        clear hx CS CB
        go_wp2_with fail
        refine (decl_no s l _ hX h0).mono ?_
        rintro e w2 ⟨rfl, hg⟩
        go_wp2
        go_ret
        exact ⟨rfl, hg⟩
  · have hT := six_yes (l := l) hX
    have h5 := size_five hX
    have h6 : 6 ≤ s.size + 1 + l.size := by omega
    clear hc h5
    go_enter Try.func3, Try.ntmps3
    go_wp2_with fail
    refine CB.mono ?_
    rintro e w' ⟨⟨x, rfl⟩, rfl⟩
    cases x with
    | false =>
      go_wp2
      go_ret
      exact ⟨rfl, Grown.refl _⟩
    | true =>
      go_wp2_with fail
      refine CS.mono ?_
      rintro e w' ⟨⟨x, rfl, hx⟩, rfl⟩
      obtain rfl : x = false := by
        cases x with
        | true => exact absurd (hx.1 rfl) HC.out
        | false => rfl
      clear hx CS CB
      go_wp2_with fail
      refine (decl_yes s l _ hX).mono ?_
      rintro e w2 ⟨rfl, hg⟩
      go_wp2
      go_ret
      exact ⟨rfl, hg⟩

set_option maxHeartbeats 1000000 in
theorem law_colon (s l : ByteArray) (w : World) (hs : s.size ≤ 65536) (hl : l.size ≤ 65536) (hc : colonIn s s.size) :
    Calls Try.prog 3 #[.string s, .string l] w fun e w' => e = .returned (.bool true) ∧ Grown w w' := by
  have CB := bytes_any s l w
  have CS := colon_any s w hs
  have HC : Hid (colonIn s s.size) := hc
  clear hc
  go_enter Try.func3, Try.ntmps3
  go_wp2_with fail
  refine CB.mono ?_
  rintro e w' ⟨⟨x, rfl⟩, rfl⟩
  cases x with
  | false =>
    go_wp2
    go_ret
    exact ⟨rfl, Grown.refl _⟩
  | true =>
    go_wp2_with fail
    refine CS.mono ?_
    rintro e w' ⟨⟨x, rfl, hx⟩, rfl⟩
    obtain rfl : x = true := hx.2 HC.out
    clear hx CS CB
    go_wp2
    go_ret
    exact ⟨rfl, Grown.refl _⟩

theorem law_long (s l : ByteArray) (w : World) (h : ¬ (s.size ≤ 65536 ∧ l.size ≤ 65536)) :
    Calls Try.prog 3 #[.string s, .string l] w fun e w' => e = .returned (.bool true) ∧ Grown w w' := by
  have CB := bytes_any s l w
  by_cases hs : s.size ≤ 65536
  · have hl : ¬ l.size ≤ 65536 := fun hl => h ⟨hs, hl⟩
    clear h
    go_enter Try.func3, Try.ntmps3
    go_wp2_with fail
    refine CB.mono ?_
    rintro e w' ⟨⟨x, rfl⟩, rfl⟩
    cases x with
    | false =>
      go_wp2
      go_ret
      exact ⟨rfl, Grown.refl _⟩
    | true =>
      go_wp2
      go_ret
      exact ⟨rfl, Grown.refl _⟩
  · clear h
    go_enter Try.func3, Try.ntmps3
    go_wp2_with fail
    refine CB.mono ?_
    rintro e w' ⟨⟨x, rfl⟩, rfl⟩
    cases x with
    | false =>
      go_wp2
      go_ret
      exact ⟨rfl, Grown.refl _⟩
    | true =>
      go_wp2
      go_ret
      exact ⟨rfl, Grown.refl _⟩

theorem walk (a0 : ByteArray) (a1 : ByteArray) (w0 : a0.size ≤ maxLen) (w1 : a1.size ≤ maxLen) (w : World) :
    Calls Try.prog 3 #[.string a0, .string a1] w fun e w' => e = .returned (.bool true) ∧ Grown w w' := by
  by_cases h : a0.size ≤ 65536 ∧ a1.size ≤ 65536
  · obtain ⟨h1, h2⟩ := h
    by_cases hc : colonIn a0 a0.size
    · exact law_colon a0 a1 w h1 h2 hc
    · cases h0 : a0.toList.isEmpty
      · exact law6 a0 a1 w h1 h2 h0 hc
      · by_cases hl : colonIn a1 a1.size
        · exact law5c a0 a1 w h1 h2 h0 hc hl
        · exact law5 a0 a1 w h1 h2 h0 hc hl
  · exact law_long a0 a1 w h
end Go.Proofs.Qxb6605697a.fnD
