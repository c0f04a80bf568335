import Derived.Test.Qxb6606016aLists
namespace Go.Proofs.Qxb6606016a
open Go.RowKit
set_option linter.unusedVariables false

/-- THE PLACES HELD IN 'pos' BEHIND k ELEMENTS OF THE FIRST LIST: all ahead of them is less than whatever is still to come. -/
def PosOk (n : Nat) (L : Nat → Nat) (Z : Nat → Nat → Int) (P : Nat → Nat) (k : Nat) : Prop :=
  ∀ j, j < n → P j ≤ L j ∧ ∀ m, m < P j → ∀ i, k ≤ i → i < L 0 → Z j m < Z 0 i
def bump (P : Nat → Nat) (j : Nat) : Nat → Nat := fun x => if x = j then P x + 1 else P x
theorem bump_at (P : Nat → Nat) (j : Nat) : bump P j j = P j + 1 := by simp [bump]
theorem posOk_start (n : Nat) (L : Nat → Nat) (Z : Nat → Nat → Int) : PosOk n L Z (fun _ => 0) 0 :=
  fun _ _ => ⟨Nat.zero_le _, fun _ hm => absurd hm (Nat.not_lt_zero _)⟩
theorem PosOk.next {n : Nat} {L : Nat → Nat} {Z : Nat → Nat → Int} {P : Nat → Nat} {k : Nat} (h : PosOk n L Z P k) : PosOk n L Z P (k + 1) :=
  fun j hj => ⟨(h j hj).1, fun m hm i hi hi' => (h j hj).2 m hm i (by omega) hi'⟩
theorem PosOk.bump {n : Nat} {L : Nat → Nat} {Z : Nat → Nat → Int} {P : Nat → Nat} {k j : Nat} (h : PosOk n L Z P k) (hs : Sorted (Z 0) (L 0)) (hlt : P j < L j) (hz : Z j (P j) < Z 0 k) : PosOk n L Z (bump P j) k := by
  intro x hx
  unfold Qxb6606016a.bump
  by_cases e : x = j
  · subst e
    rw [if_pos rfl]
    refine ⟨hlt, fun m hm i hi hi' => ?_⟩
    rcases Nat.lt_succ_iff_lt_or_eq.1 hm with hm' | rfl
    · exact (h x hx).2 m hm' i hi hi'
    · have := hs k i hi hi'
      omega
  · rw [if_neg e]
    exact h x hx
theorem PosOk.parts {n : Nat} {L : Nat → Nat} {Z : Nat → Nat → Int} {P : Nat → Nat} {k j : Nat} (h : PosOk n L Z P k) (hk : k < L 0) (hj : j < n) (hs : Sorted (Z j) (L j)) (he : P j = L j ∨ ¬ Z j (P j) < Z 0 k) : Parts (Z j) (L j) (Z 0 k) (P j) := by
  refine ⟨(h j hj).1, fun m hm => (h j hj).2 m hm k (Nat.le_refl _) hk, fun m hm hm' => ?_⟩
  rcases he with e | e
  · omega
  · have := hs (P j) m hm hm'
    omega

/-- 'inAll' BEHIND THE LISTS BELOW j. -/
def InA (n : Nat) (L : Nat → Nat) (Z : Nat → Nat → Int) (f : Int) (j : Nat) (x : Bool) : Prop :=
  (x = true → ∀ i, 1 ≤ i → i < j → has (Z i) (L i) f = true) ∧ (x = false → ¬ common n L Z f)
theorem inA_start (n : Nat) (L : Nat → Nat) (Z : Nat → Nat → Int) (f : Int) : InA n L Z f 1 true := ⟨fun _ i h1 h2 => absurd h2 (by omega), fun h => Bool.noConfusion h⟩
theorem InA.yes {n : Nat} {L : Nat → Nat} {Z : Nat → Nat → Int} {f : Int} {j : Nat} (h : InA n L Z f j true) (hh : has (Z j) (L j) f = true) : InA n L Z f (j + 1) true :=
  ⟨fun _ i h1 h2 => by
    rcases Nat.lt_succ_iff_lt_or_eq.1 h2 with h' | rfl
    · exact h.1 rfl i h1 h'
    · exact hh, fun h => Bool.noConfusion h⟩
theorem inA_no {n : Nat} {L : Nat → Nat} {Z : Nat → Nat → Int} {f : Int} {j m : Nat} (hj : j < n) (h1 : 1 ≤ j) (hh : has (Z j) (L j) f = false) : InA n L Z f m false :=
  ⟨fun h => Bool.noConfusion h, fun _ hc => by
    have := hc (j - 1) (by omega)
    simp only [show j - 1 + 1 = j by omega] at this
    rw [hh] at this
    exact Bool.noConfusion this⟩
theorem InA.common {n : Nat} {L : Nat → Nat} {Z : Nat → Nat → Int} {f : Int} (h : InA n L Z f n true) : common n L Z f :=
  fun i hi => h.1 rfl (i + 1) (by omega) (by omega)

/-- 'want' BEHIND k ELEMENTS OF THE FIRST LIST. -/
def Wants (n : Nat) (L : Nat → Nat) (Z : Nat → Nat → Int) (k : Nat) (x : Bool) : Prop :=
  (x = true → ∀ i, i < k → 0 ≤ Z 0 i → ¬ common n L Z (Z 0 i)) ∧ (x = false → Met n L Z)
theorem wants_start (n : Nat) (L : Nat → Nat) (Z : Nat → Nat → Int) : Wants n L Z 0 true := ⟨fun _ i hi => absurd hi (Nat.not_lt_zero _), fun h => Bool.noConfusion h⟩
theorem Wants.skip {n : Nat} {L : Nat → Nat} {Z : Nat → Nat → Int} {k : Nat} (h : Wants n L Z k true) (hz : 0 ≤ Z 0 k → ¬ common n L Z (Z 0 k)) : Wants n L Z (k + 1) true :=
  ⟨fun _ i hi h0 => by
    rcases Nat.lt_succ_iff_lt_or_eq.1 hi with h' | rfl
    · exact h.1 rfl i h' h0
    · exact hz h0, fun h => Bool.noConfusion h⟩
theorem wants_met {n : Nat} {L : Nat → Nat} {Z : Nat → Nat → Int} {k m : Nat} (hn : 0 < n) (hk : k < L 0) (h0 : 0 ≤ Z 0 k) (hc : common n L Z (Z 0 k)) : Wants n L Z m false :=
  ⟨fun h => Bool.noConfusion h, fun _ => ⟨hn, k, hk, h0, hc⟩⟩
theorem Wants.end_ {n : Nat} {L : Nat → Nat} {Z : Nat → Nat → Int} {k : Nat} {x : Bool} (h : Wants n L Z k x) (he : x = true → k = L 0) : x = true ↔ ¬ Met n L Z := by
  cases x with
  | true => exact ⟨fun _ ⟨_, i, h1, h2, h3⟩ => h.1 rfl i (by have := he rfl; omega) h2 h3, fun _ => rfl⟩
  | false => exact ⟨fun h => Bool.noConfusion h, fun hm => absurd (h.2 rfl) hm⟩

/-- Z's numbers as cells of a row of places. -/
def places (P : Nat → Nat) : Nat → Value := fun j => .int .i64 (P j)
theorem places_bump (P : Nat → Nat) (j n : Nat) : ∀ i, i < n → (fun x => if x = j then Value.int .i64 ((P j : Int) + 1) else places P x) i = places (bump P j) i := by
  intro i _
  simp only [places, bump]
  by_cases e : i = j
  · subst e; simp
  · rw [if_neg e, if_neg e]
end Go.Proofs.Qxb6606016a
