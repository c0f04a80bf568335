import Derived.Test.Qxb6606016aClone
import Derived.Test.Qxb6606016aEmpty
namespace Go.Proofs.Qxb6606016a
open Go.RowKit

/-- A SLICE OF n SLICES OF INTS THAT CAME IN, not yet looked at. -/
def ListsRaw (w : World) (b off n : Nat) (A : Nat → Option Addr) (L C : Nat → Nat) (Z : Nat → Nat → Int) : Prop :=
  ∀ i, i < n → w.cell? ⟨b, off + i, none⟩ = some (.slice (A i) (L i) (C i)) ∧ IntsAt w (A i) (L i) (Z i) ∧ (A i = none → L i = 0 ∧ C i = 0)

theorem bytes_zero (a : Option Addr) (c : Nat) (w : World) : Calls Try.prog 24 #[.slice a 0 c] w fun e w' => e = .returned (.bool true) ∧ w' = w := by
  go_enter Try.func24, Try.ntmps24
  go_wp2
  go_loopg [4] 0 (fun g s4 wr => s4 = .int .i64 0 ∧ wr = w)
  case atStart => exact ⟨rfl, rfl⟩
  case round =>
    obtain ⟨rfl, rfl⟩ := hrel
    go_wp2
    go_ret
    exact ⟨rfl, rfl⟩

set_option maxHeartbeats 1000000 in
theorem bytes_pos (b off n c : Nat) (A : Nat → Option Addr) (L C : Nat → Nat) (Z : Nat → Nat → Int) (w : World) (hl : ListsRaw w b off n A L C Z) :
    Calls Try.prog 24 #[.slice (some ⟨b, off, none⟩) n c] w fun e w' => (∃ x : Bool, e = .returned (.bool x) ∧ (x = true → n ≤ 1048576 ∧ ∀ i, i < n → L i ≤ 1048576)) ∧ w' = w := by
  by_cases hn : n ≤ 1048576
  · have H : Hid (ListsRaw w b off n A L C Z) := hl
    clear hl
    go_enter Try.func24, Try.ntmps24
    go_wp2
    go_loopg [3, 4] n (fun g s3 s4 wr => ∃ k z : Nat, s4 = .int .i64 k ∧ s3 = .int .i64 z ∧ k ≤ n ∧ z ≤ 1048576 ∧ n - k ≤ g ∧ wr = w ∧ Hid (∀ i, i < k → L i ≤ 1048576))
    case atStart => exact ⟨0, n, rfl, by simp, Nat.zero_le _, hn, by omega, rfl, fun i hi => absurd hi (Nat.not_lt_zero _)⟩
    case round =>
      obtain ⟨k, z, rfl, rfl, hk, hz, hg, rfl, I⟩ := hrel
      by_cases hlt : k < n
      · obtain ⟨hcell, _, _⟩ := H.out k hlt
        by_cases h1 : L k ≤ 1048576
        · by_cases h2 : z + L k ≤ 1048576
          · go_wp2
            go_roundg (n - (k + 1))
            case measure => omega
            case rel => exact ⟨k + 1, z + L k, by go_num, by go_num, by omega, h2, Nat.le_refl _, rfl, fun i hi => by
              rcases Nat.lt_succ_iff_lt_or_eq.1 hi with h | rfl
              · exact I.out i h
              · exact h1⟩
          · go_wp2
            go_ret
            exact ⟨⟨false, rfl, fun h => Bool.noConfusion h⟩, rfl⟩
        · go_wp2
          go_ret
          exact ⟨⟨false, rfl, fun h => Bool.noConfusion h⟩, rfl⟩
      · obtain rfl : k = n := by omega
        go_wp2
        go_ret
        exact ⟨⟨true, rfl, fun _ => ⟨hn, I.out⟩⟩, rfl⟩
  · go_enter Try.func24, Try.ntmps24
    go_wp2
    go_ret
    exact ⟨⟨false, rfl, fun h => Bool.noConfusion h⟩, rfl⟩

/-! ### cloneLists -/
def laidTo (A : Nat → Option Addr) (L : Nat → Nat) (k : Nat) : Nat → Value := fun j => if j < k then .slice (A j) (L j) (L j) else .slice none 0 0

def Cloned (wr : World) (B n k : Nat) (A : Nat → Option Addr) (L : Nat → Nat) (Z : Nat → Nat → Int) : Prop :=
  wr.rowIs B 23 n (laidTo A L k) ∧ ∀ j, j < k → IntsAt wr (A j) (L j) (Z j) ∧ ∀ x, A j = some x → 0 < L j → B < x.block ∧ x.block < wr.heap.size

theorem IntsAt.setOther {w : World} {a : Option Addr} {n : Nat} {Z : Nat → Int} (h : IntsAt w a n Z) (p : Addr) (v : Value) (hp : ∀ x, a = some x → 0 < n → x.block ≠ p.block) : IntsAt (w.setCell p v) a n Z := by
  intro h0
  obtain ⟨b, off, rfl, hc⟩ := h h0
  have hne := hp _ rfl h0
  exact ⟨b, off, rfl, fun k hk => (World.cell?_setCell_other w p ⟨b, off + k, none⟩ v (fun e => hne (by rw [e]))).trans (hc k hk)⟩

theorem cloned_step {wr w2 : World} {B n k : Nat} {A : Nat → Option Addr} {L : Nat → Nat} {Z : Nat → Nat → Int} {a : Option Addr} (h : Cloned wr B n k A L Z) (hb : Below wr.heap.size wr w2) (hi : IntsAt w2 a (L k) (Z k))
    (ha : 0 < L k → a = some ⟨wr.heap.size, 0, none⟩) (hlt : ∀ x, a = some x → x.block < w2.heap.size) :
    Cloned (w2.setCell ⟨B, k, none⟩ (.slice a (L k) (L k))) B n (k + 1) (fun j => if j = k then a else A j) L Z := by
  obtain ⟨hr, hj⟩ := h
  have hB : B < wr.heap.size := hr.lt
  refine ⟨((hr.of_block (hb.block B hB)).set k _).congr (fun i _ => ?_), fun j hjk => ?_⟩
  · simp only [laidTo]
    by_cases e : i = k
    · subst e; simp
    · by_cases e2 : i < k
      · rw [if_neg e, if_pos e2, if_pos (by omega), if_neg e]
      · rw [if_neg e, if_neg e2, if_neg (by omega)]
  · by_cases e : j = k
    · subst e
      dsimp only
      rw [if_pos rfl]
      have hx : ∀ x, a = some x → 0 < L j → B < x.block ∧ x.block < w2.heap.size := fun x hx h0 => by
        have := ha h0
        rw [hx] at this
        cases this
        exact ⟨hB, hlt _ hx⟩
      exact ⟨hi.setOther _ _ (fun x hx' h0 => by have := (hx x hx' h0).1; simp; omega), fun x hx' h0 => by have := hx x hx' h0; simp; omega⟩
    · obtain ⟨h1, h2⟩ := hj j (by omega)
      dsimp only
      rw [if_neg e]
      refine ⟨(h1.below hb (fun x hx h0 => (h2 x hx h0).2)).setOther _ _ (fun x hx h0 => by have := (h2 x hx h0).1; simp; omega), fun x hx h0 => ?_⟩
      have a1 := h2 x hx h0
      have a2 := hb.size
      simp
      omega

set_option maxHeartbeats 1000000 in
theorem clones_pos (b off n c : Nat) (A : Nat → Option Addr) (L C : Nat → Nat) (Z : Nat → Nat → Int) (w : World) (hn : n ≤ 1048576) (hL : ∀ i, i < n → L i ≤ 1048576) (hl : ListsRaw w b off n A L C Z) (h0 : 0 < n) (hb : b < w.heap.size) (hbl : ∀ i, i < n → ∀ x, A i = some x → 0 < L i → x.block < w.heap.size) :
    Calls Try.prog 25 #[.slice (some ⟨b, off, none⟩) n c] w fun e w' => e = .returned (.slice (some ⟨w.heap.size, 0, none⟩) n n) ∧ (∃ A', Cloned w' w.heap.size n n A' L Z) ∧ Below w.heap.size w w' := by
  have hnil := fun w n (c : Nat) (a : Option Addr) => Lib.run_eql_slice_nil (P := Try.prog) w 47 23 a n c 0 0 Try.underlying47
  have hmk := run_make_row' (P := Try.prog) 47 23 (.slice none 0 0) 24 Try.underlying47 Try.info23 rfl .i64 .i64 n (by omega) (by omega)
  have H : Hid (ListsRaw w b off n A L C Z) := hl
  have HL : Hid (∀ i, i < n → L i ≤ 1048576) := hL
  have HB : Hid (∀ i, i < n → ∀ x, A i = some x → 0 < L i → x.block < w.heap.size) := hbl
  clear hl hL hbl
  go_enter Try.func25, Try.ntmps25
  go_wp2
  go_loopg [4] n (fun g s4 wr => ∃ k : Nat, s4 = .int .i64 k ∧ k ≤ n ∧ n - k ≤ g ∧ Hid (∃ A', Cloned wr w.heap.size n k A' L Z) ∧ Below w.heap.size w wr)
  case atStart => exact ⟨0, rfl, Nat.zero_le _, by omega, ⟨fun _ => none, (World.rowIs_made w (.slice none 0 0) n 23).congr (fun i _ => by simp [laidTo]), fun j hj => absurd hj (Nat.not_lt_zero _)⟩, (Below.refl _ _).alloc (Nat.le_refl _) _⟩
  case round =>
    obtain ⟨k, rfl, hk, hg, R, hB⟩ := hrel
    by_cases hlt : k < n
    · obtain ⟨A', hCl⟩ := R.out
      obtain ⟨hcell, hints, hnl⟩ := H.out k hlt
      have c1 : wr.cell? ⟨b, off + k, none⟩ = some (.slice (A k) (L k) (C k)) := (hB.cell (p := ⟨b, off + k, none⟩) hb).trans hcell
      have CC := clone_any (A k) (L k) (C k) (Z k) wr (HL.out k hlt) (hints.below hB (HB.out k hlt)) hnl
      have hcB := hCl.1.cell hlt
      have hfB := hCl.1.frozen k
      simp only [laidTo, Nat.lt_irrefl, if_false] at hcB
      have hBlt := hCl.1.lt
      have HC : Hid (Cloned wr w.heap.size n k A' L Z) := hCl
      clear hCl hcell hints hnl R
      go_wp2_with fail
      refine CC.mono ?_
      rintro e w2 ⟨a', rfl, hi, hb2, ha, hx⟩
      have hcB2 := (hb2.cell (p := ⟨w.heap.size, k, none⟩) hBlt).trans hcB
      have hfB2 := (hb2.frozen (p := ⟨w.heap.size, k, none⟩) hBlt).trans hfB
      have HS : Hid (Cloned (w2.setCell ⟨w.heap.size, k, none⟩ (.slice a' (L k) (L k))) w.heap.size n (k + 1) (fun j => if j = k then a' else A' j) L Z) := cloned_step HC.out hb2 hi ha hx
      have hB2 : Below w.heap.size w w2 := hB.trans (hb2.mono hB.size)
      clear hi ha hx hcB hfB CC
      go_wp2
      go_roundg (n - (k + 1))
      case measure => omega
      case rel => exact ⟨k + 1, by go_num, by omega, Nat.le_refl _, ⟨_, HS.out⟩, hB2.setCell (p := ⟨w.heap.size, k, none⟩) (Nat.le_refl _) _⟩
    · obtain rfl : k = n := by omega
      go_wp2
      go_ret
      exact ⟨rfl, R.out, hB⟩
end Go.Proofs.Qxb6606016a
