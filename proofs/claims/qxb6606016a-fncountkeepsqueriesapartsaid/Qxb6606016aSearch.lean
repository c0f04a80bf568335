import Derived.Test.Qxb6606016aRows
import Derived.WalkKit
import Derived.WalkLawsBesides
import Derived.WalkSpells
import Derived.Below
import Derived.Deep.LoopGhost
import Derived.Deep.Draws
namespace Go.Proofs.Qxb6606016a
open Go.RowKit

theorem less_any (x y : Int) (w : World) :
    Calls Try.prog 48 #[.int .i64 x, .int .i64 y] w fun e w' => e = .returned (.bool (decide (x < y))) ∧ w' = w := by
  go_enter Try.func48, Try.ntmps48
  go_wp2
  go_ret
  exact ⟨rfl, rfl⟩
theorem nan_any (x : Int) (w : World) :
    Calls Try.prog 49 #[.int .i64 x] w fun e w' => e = .returned (.bool false) ∧ w' = w := by
  go_enter Try.func49, Try.ntmps49
  go_wp2
  go_ret
  exact ⟨by simp, rfl⟩

/-- WHERE A SORTED ROW PARTS AT t: below p all are less, from p on none is. -/
def Parts (Z : Nat → Int) (n : Nat) (t : Int) (p : Nat) : Prop := p ≤ n ∧ (∀ k, k < p → Z k < t) ∧ ∀ k, p ≤ k → k < n → t ≤ Z k
def Sorted (Z : Nat → Int) (n : Nat) : Prop := ∀ p q, p ≤ q → q < n → Z p ≤ Z q
def Between (Z : Nat → Int) (n : Nat) (t : Int) (i j : Nat) : Prop := (∀ k, k < i → Z k < t) ∧ ∀ k, j ≤ k → k < n → t ≤ Z k

theorem between_up {Z : Nat → Int} {n : Nat} {t : Int} {i j m : Nat} (hs : Sorted Z n) (h : Between Z n t i j) (hm : m < n) (hz : Z m < t) : Between Z n t (m + 1) j :=
  ⟨fun k hk => by have := hs k m (by omega) hm; omega, h.2⟩
theorem between_down {Z : Nat → Int} {n : Nat} {t : Int} {i j m : Nat} (hs : Sorted Z n) (h : Between Z n t i j) (hz : ¬ Z m < t) : Between Z n t i m :=
  ⟨h.1, fun k hk hn => by have := hs m k hk hn; omega⟩
theorem between_end {Z : Nat → Int} {n : Nat} {t : Int} {i : Nat} (h : Between Z n t i i) (hi : i ≤ n) : Parts Z n t i := ⟨hi, h.1, h.2⟩

theorem ret_pair {a b : Int} {x y : Bool} (h : a = b) (h' : x = y) : Ending.returned (.tuple #[.int .i64 a, .bool x]) = .returned (.tuple #[.int .i64 b, .bool y]) := by rw [h, h']

set_option maxHeartbeats 1000000 in
theorem search_pos (b off n c : Nat) (Z : Nat → Int) (t : Int) (w : World) (hn : n ≤ 1048576) (h0 : 0 < n)
    (hc : ∀ k, k < n → w.cell? ⟨b, off + k, none⟩ = some (.int .i64 (Z k))) (hs : Sorted Z n) :
    Calls Try.prog 37 #[.slice (some ⟨b, off, none⟩) n c, .int .i64 t] w fun e w' => (∃ p : Nat, Parts Z n t p ∧ e = .returned (.tuple #[.int .i64 p, .bool (decide (p < n ∧ Z p = t))])) ∧ w' = w := by
  have S : Hid (Sorted Z n) := hs
  clear hs
  go_enter Try.func37, Try.ntmps37
  go_wp2
  go_loopg [7, 8] n (fun g s7 s8 wr => ∃ lo hi : Nat, s7 = .int .i64 lo ∧ s8 = .int .i64 hi ∧ lo ≤ hi ∧ hi ≤ n ∧ hi - lo ≤ g ∧ wr = w ∧ Hid (Between Z n t lo hi))
  case atStart => exact ⟨0, n, rfl, rfl, Nat.zero_le _, Nat.le_refl _, by omega, rfl, ⟨fun t ht => absurd ht (Nat.not_lt_zero _), fun t h1 h2 => by omega⟩⟩
  case round =>
    obtain ⟨lo, hi, rfl, rfl, hlh, hin, hg, rfl, I⟩ := hrel
    by_cases hlt : lo < hi
    · have cm : wr.cell? ⟨b, off + (lo + hi) / 2, none⟩ = some (.int .i64 (Z ((lo + hi) / 2))) := hc _ (by omega)
      clear hc
      generalize hy : Z ((lo + hi) / 2) = y at cm
      have Y : Hid (Z ((lo + hi) / 2) = y) := hy
      clear hy
      by_cases hyx : y < t
      · go_wp2_with (go_at_call 48; refine (less_any _ _ _).mono ?_; rintro e w' ⟨rfl, rfl⟩)
        go_roundg (hi - ((lo + hi) / 2 + 1))
        case measure => omega
        case rel =>
          exact ⟨(lo + hi) / 2 + 1, hi, by rw [show ((lo : Int) + (hi : Int)) / 2 + 1 = (((lo + hi) / 2 + 1 : Nat) : Int) by omega], rfl, by omega, hin, Nat.le_refl _, rfl, between_up S.out I.out (by omega) (by rw [Y.out]; exact hyx)⟩
      · go_wp2_with (go_at_call 48; refine (less_any _ _ _).mono ?_; rintro e w' ⟨rfl, rfl⟩)
        go_roundg ((lo + hi) / 2 - lo)
        case measure => omega
        case rel =>
          exact ⟨lo, (lo + hi) / 2, rfl, by rw [show ((lo : Int) + (hi : Int)) / 2 = (((lo + hi) / 2 : Nat) : Int) by omega], by omega, by omega, Nat.le_refl _, rfl, between_down S.out I.out (by rw [Y.out]; omega)⟩
    · have : hi = lo := by omega
      subst this
      have P := between_end I.out hin
      have PH : Hid (Parts Z n t hi) := P
      clear P
      by_cases hn' : hi < n
      · have cl : wr.cell? ⟨b, off + hi, none⟩ = some (.int .i64 (Z hi)) := hc _ (by omega)
        clear hc
        generalize hy : Z hi = y at cl
        have Y : Hid (Z hi = y) := hy
        clear hy
        by_cases hyx : y = t
        · go_wp2_with (go_at_call 49; refine (nan_any _ _).mono ?_; rintro e w' ⟨rfl, rfl⟩)
          go_ret2
          refine ⟨⟨hi, PH.out, ret_pair rfl ?_⟩, rfl⟩
          rw [Y.out, decide_eq_true (show hi < n ∧ y = t from ⟨hn', hyx⟩)]
        · go_wp2_with (go_at_call 49; refine (nan_any _ _).mono ?_; rintro e w' ⟨rfl, rfl⟩)
          go_ret2
          refine ⟨⟨hi, PH.out, ret_pair rfl ?_⟩, rfl⟩
          rw [Y.out, decide_eq_false (show ¬ (hi < n ∧ y = t) from fun h => hyx h.2)]
          simp [hyx]
      · clear hc
        go_wp2_with (go_at_call 49; refine (nan_any _ _).mono ?_; rintro e w' ⟨rfl, rfl⟩)
        go_ret2
        refine ⟨⟨hi, PH.out, ret_pair rfl ?_⟩, rfl⟩
        rw [decide_eq_false (show ¬ (hi < n ∧ Z hi = t) from fun h => hn' h.1)]

/-- .. of an empty row, whatever its address. -/
theorem search_nil (a : Option Addr) (c : Nat) (Z : Nat → Int) (t : Int) (w : World) :
    Calls Try.prog 37 #[.slice a 0 c, .int .i64 t] w fun e w' => (∃ p : Nat, Parts Z 0 t p ∧ e = .returned (.tuple #[.int .i64 p, .bool (decide (p < 0 ∧ Z p = t))])) ∧ w' = w := by
  go_enter Try.func37, Try.ntmps37
  go_wp2
  go_loopg [7, 8] 0 (fun g s7 s8 wr => s7 = .int .i64 0 ∧ s8 = .int .i64 0 ∧ wr = w)
  case atStart => exact ⟨rfl, rfl, rfl⟩
  case round =>
    obtain ⟨rfl, rfl, rfl⟩ := hrel
    go_wp2
    go_ret2
    exact ⟨⟨0, ⟨Nat.le_refl _, fun k hk => absurd hk (Nat.not_lt_zero _), fun k _ hk => absurd hk (Nat.not_lt_zero _)⟩, ret_pair rfl (by simp)⟩, rfl⟩
end Go.Proofs.Qxb6606016a
