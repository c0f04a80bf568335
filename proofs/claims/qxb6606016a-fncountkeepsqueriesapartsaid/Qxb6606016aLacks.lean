import Derived.Test.Qxb6606016aSearch
import Derived.Laws.Slices
namespace Go.Proofs.Qxb6606016a
open Go.RowKit

/-- A SLICE OF INTS AT a, n ELEMENTS: the numbers Z. (Where there is none the address may be whatever.) -/
def IntsAt (w : World) (a : Option Addr) (n : Nat) (Z : Nat → Int) : Prop :=
  0 < n → ∃ b off, a = some ⟨b, off, none⟩ ∧ ∀ k, k < n → w.cell? ⟨b, off + k, none⟩ = some (.int .i64 (Z k))

/-- IS t AMONG THE FIRST n NUMBERS OF Z? -/
def has (Z : Nat → Int) (n : Nat) (t : Int) : Bool := (List.range n).any (fun k => Z k == t)
theorem has_iff {Z : Nat → Int} {n : Nat} {t : Int} : has Z n t = true ↔ ∃ k, k < n ∧ Z k = t := by
  simp [has]
theorem has_parts {Z : Nat → Int} {n : Nat} {t : Int} {p : Nat} (h : Parts Z n t p) (hs : Sorted Z n) : decide (p < n ∧ Z p = t) = has Z n t := by
  rw [Bool.eq_iff_iff, decide_eq_true_eq, has_iff]
  constructor
  · rintro ⟨h1, h2⟩
    exact ⟨p, h1, h2⟩
  · rintro ⟨k, hk, e⟩
    have hp : p ≤ k := by
      rcases Nat.lt_or_ge k p with hlt | hge
      · have := h.2.1 k hlt
        omega
      · exact hge
    have h1 : p < n := by omega
    have h2 := h.2.2 p (Nat.le_refl _) h1
    have h3 := hs p k hp hk
    exact ⟨h1, by omega⟩

theorem search_any (a : Option Addr) (n c : Nat) (Z : Nat → Int) (t : Int) (w : World) (hn : n ≤ 1048576) (hc : IntsAt w a n Z) (hs : Sorted Z n) :
    Calls Try.prog 37 #[.slice a n c, .int .i64 t] w fun e w' => (∃ p : Nat, Parts Z n t p ∧ e = .returned (.tuple #[.int .i64 p, .bool (has Z n t)])) ∧ w' = w := by
  by_cases h0 : 0 < n
  · obtain ⟨b, off, rfl, hcell⟩ := hc h0
    refine (search_pos b off n c Z t w hn h0 hcell hs).mono ?_
    rintro e w' ⟨⟨p, hp, rfl⟩, rfl⟩
    exact ⟨⟨p, hp, by rw [has_parts hp hs]⟩, rfl⟩
  · obtain rfl : n = 0 := by omega
    refine (search_nil a c Z t w).mono ?_
    rintro e w' ⟨⟨p, hp, rfl⟩, rfl⟩
    exact ⟨⟨p, hp, by rw [has_parts hp hs]⟩, rfl⟩

theorem parts_one {Z : Nat → Int} {n : Nat} {t : Int} {p q : Nat} (h : Parts Z n t p) (h' : Parts Z n t q) : p = q := by
  obtain ⟨h1, h2, h3⟩ := h
  obtain ⟨k1, k2, k3⟩ := h'
  rcases Nat.lt_trichotomy p q with hlt | rfl | hlt
  · have a := k2 p hlt
    have b := h3 p (Nat.le_refl _) (by omega)
    omega
  · rfl
  · have a := h2 q hlt
    have b := k3 q (Nat.le_refl _) (by omega)
    omega
theorem parts_ex {Z : Nat → Int} {n : Nat} (hs : Sorted Z n) (t : Int) : ∃ p, Parts Z n t p := by
  induction n with
  | zero => exact ⟨0, Nat.le_refl _, fun k hk => absurd hk (Nat.not_lt_zero _), fun k _ hk => absurd hk (Nat.not_lt_zero _)⟩
  | succ n ih =>
    obtain ⟨p, h1, h2, h3⟩ := ih (fun a b hab hb => hs a b hab (by omega))
    by_cases hz : Z n < t
    · refine ⟨n + 1, Nat.le_refl _, fun k hk => ?_, fun k hk hk' => by omega⟩
      have := hs k n (by omega) (by omega)
      omega
    · refine ⟨p, by omega, h2, fun k hk hk' => ?_⟩
      rcases Nat.lt_succ_iff_lt_or_eq.1 hk' with h | rfl
      · exact h3 k hk h
      · omega

/-- .. the place given ahead. -/
theorem search_at (a : Option Addr) (n c : Nat) (Z : Nat → Int) (t : Int) (p : Nat) (w : World) (hn : n ≤ 1048576) (hc : IntsAt w a n Z) (hs : Sorted Z n) (hp : Parts Z n t p) :
    Calls Try.prog 37 #[.slice a n c, .int .i64 t] w fun e w' => e = .returned (.tuple #[.int .i64 p, .bool (has Z n t)]) ∧ w' = w := by
  refine (search_any a n c Z t w hn hc hs).mono ?_
  rintro e w' ⟨⟨q, hq, rfl⟩, rfl⟩
  obtain rfl := parts_one hp hq
  exact ⟨rfl, rfl⟩

/-- 'lacks': the closure over f. -/
theorem lacks_any (a : Option Addr) (n c fb : Nat) (Z : Nat → Int) (t : Int) (w : World) (hn : n ≤ 1048576) (hc : IntsAt w a n Z) (hs : Sorted Z n) (hf : w.cell? ⟨fb, 0, none⟩ = some (.int .i64 t)) :
    Calls Try.prog 38 #[.slice a n c, .pointer (some ⟨fb, 0, none⟩)] w fun e w' => e = .returned (.bool (!has Z n t)) ∧ w' = w := by
  have C := search_any a n c Z t w hn hc hs
  clear hc hs
  go_enter Try.func38, Try.ntmps38
  go_wp2_with (go_at_call 37; refine C.mono ?_; rintro e w' ⟨⟨p, hp, rfl⟩, rfl⟩)
  go_ret
  exact ⟨rfl, rfl⟩

/-- A SLICE OF n SLICES OF INTS AT ⟨b, off⟩. -/
def ListsAt (w : World) (b off n : Nat) (A : Nat → Option Addr) (L C : Nat → Nat) (Z : Nat → Nat → Int) : Prop :=
  ∀ i, i < n → w.cell? ⟨b, off + i, none⟩ = some (.slice (A i) (L i) (C i)) ∧ IntsAt w (A i) (L i) (Z i) ∧ L i ≤ 1048576 ∧ Sorted (Z i) (L i)

/-- THE FIRST k LISTS ALL HOLD t. -/
def allHave (L : Nat → Nat) (Z : Nat → Nat → Int) (t : Int) (k : Nat) : Prop := ∀ i, i < k → has (Z i) (L i) t = true

theorem ret_i {a b : Int} (h : a = b) : Ending.returned (.int .i64 a) = .returned (.int .i64 b) := by rw [h]

set_option maxHeartbeats 1000000 in
/-- slices.IndexFunc(lists, lacks): -1 just where all have it. -/
theorem index_any (b off n c fb : Nat) (A : Nat → Option Addr) (L C : Nat → Nat) (Z : Nat → Nat → Int) (t : Int) (w : World) (hn : n ≤ 1048576) (hl : ListsAt w b off n A L C Z) (hf : w.cell? ⟨fb, 0, none⟩ = some (.int .i64 t)) :
    Calls Try.prog 50 #[.slice (some ⟨b, off, none⟩) n c, .func (.func 38) #[] #[.pointer (some ⟨fb, 0, none⟩)]] w fun e w' => (∃ i : Int, e = .returned (.int .i64 i) ∧ (0 ≤ i ↔ ¬ allHave L Z t n)) ∧ w' = w := by
  have H : Hid (ListsAt w b off n A L C Z) := hl
  clear hl
  go_enter Try.func50, Try.ntmps50
  go_wp2
  go_loopg [8] n (fun g s8 wr => ∃ k : Nat, s8 = .int .i64 k ∧ k ≤ n ∧ n - k ≤ g ∧ wr = w ∧ Hid (allHave L Z t k))
  case atStart => exact ⟨0, rfl, Nat.zero_le _, by omega, rfl, fun i hi => absurd hi (Nat.not_lt_zero _)⟩
  case round =>
    obtain ⟨k, rfl, hk, hg, rfl, I⟩ := hrel
    by_cases hlt : k < n
    · obtain ⟨hcell, hints, hL, hs⟩ := H.out k hlt
      have Ck := lacks_any (A k) (L k) (C k) fb (Z k) t wr hL hints hs hf
      have Hints : Hid (IntsAt wr (A k) (L k) (Z k)) := hints
      have Hs : Hid (Sorted (Z k) (L k)) := hs
      clear hints hs
      by_cases hh : has (Z k) (L k) t = true
      · go_wp2_with (go_at_call 38; refine Ck.mono ?_; rintro e w' ⟨rfl, rfl⟩)
        go_roundg (n - (k + 1))
        case measure => omega
        case rel => exact ⟨k + 1, by go_num, by omega, Nat.le_refl _, rfl, fun i hi => by
          rcases Nat.lt_succ_iff_lt_or_eq.1 hi with h | rfl
          · exact I.out i h
          · exact hh⟩
      · have hh' : has (Z k) (L k) t = false := by simpa using hh
        go_wp2_with (go_at_call 38; refine Ck.mono ?_; rintro e w' ⟨rfl, rfl⟩)
        go_ret
        exact ⟨⟨k, rfl, ⟨fun _ hall => hh (hall k hlt), fun _ => by omega⟩⟩, rfl⟩
    · obtain rfl : k = n := by omega
      go_wp2
      go_ret
      exact ⟨⟨-1, rfl, ⟨fun h => absurd h (by omega), fun h => absurd I.out h⟩⟩, rfl⟩

/-- slices.ContainsFunc(lists, lacks). -/
theorem contains_any (b off n c fb : Nat) (A : Nat → Option Addr) (L C : Nat → Nat) (Z : Nat → Nat → Int) (t : Int) (w : World) (hn : n ≤ 1048576) (hl : ListsAt w b off n A L C Z) (hf : w.cell? ⟨fb, 0, none⟩ = some (.int .i64 t)) :
    Calls Try.prog 39 #[.slice (some ⟨b, off, none⟩) n c, .func (.func 38) #[] #[.pointer (some ⟨fb, 0, none⟩)]] w fun e w' => (∃ x : Bool, e = .returned (.bool x) ∧ (x = true ↔ ¬ allHave L Z t n)) ∧ w' = w := by
  have C := index_any b off n c fb A L C Z t w hn hl hf
  clear hl hf
  go_enter Try.func39, Try.ntmps39
  go_wp2_with (go_at_call 50; refine C.mono ?_; rintro e w' ⟨⟨i, rfl, hi⟩, rfl⟩; have HI : Hid (0 ≤ i ↔ ¬ allHave L Z t n) := hi; clear hi)
  go_ret
  exact ⟨⟨_, rfl, by simpa using HI.out⟩, rfl⟩
end Go.Proofs.Qxb6606016a
