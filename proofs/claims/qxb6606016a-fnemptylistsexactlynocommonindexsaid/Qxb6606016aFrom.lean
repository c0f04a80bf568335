import Derived.RangeFuncNested
import Derived.RangeFuncBound
import Derived.RangeFuncCalls
import Derived.RangeFuncLeaves
import Derived.Shelf.Abstract
import Derived.Shelf.RegionOpen
import Derived.WalkKit
import Derived.OwnWalkIn
import Derived.TacticsInMore
import Derived.LoopNIn
import Derived.LoopIn
import Derived.Sort.BigQuietIn
import Derived.Test.Qxb6606016aLacks
namespace Go.Proofs.Qxb6606016a
open Go.RowKit Go.Shelf
attribute [local go_sem] Oper.semAt_some
theorem wide_fn (f : FuncId) : Fence.wide.fn f = True := eq_true trivial
attribute [local simp] wide_fn

/-- .. AND ALL OF IT LIES BELOW n₀. -/
def ListsIn (n₀ : Nat) (w : World) (b off n : Nat) (A : Nat → Option Addr) (L C : Nat → Nat) (Z : Nat → Nat → Int) : Prop :=
  b < n₀ ∧ (∀ i, i < n → ∀ a, A i = some a → 0 < L i → a.block < n₀) ∧ ListsAt w b off n A L C Z

theorem IntsAt.below {n₀ : Nat} {w w' : World} {a : Option Addr} {n : Nat} {Z : Nat → Int} (h : IntsAt w a n Z) (hb : Below n₀ w w') (hlt : ∀ x, a = some x → 0 < n → x.block < n₀) : IntsAt w' a n Z := by
  intro h0
  obtain ⟨b, off, rfl, hc⟩ := h h0
  have hlt' : b < n₀ := hlt _ rfl h0
  exact ⟨b, off, rfl, fun k hk => (hb.cell (p := ⟨b, off + k, none⟩) hlt').trans (hc k hk)⟩

theorem ListsIn.below {n₀ : Nat} {w w' : World} {b off n : Nat} {A : Nat → Option Addr} {L C : Nat → Nat} {Z : Nat → Nat → Int} (h : ListsIn n₀ w b off n A L C Z) (hb : Below n₀ w w') : ListsIn n₀ w' b off n A L C Z := by
  obtain ⟨h1, h2, h3⟩ := h
  refine ⟨h1, h2, fun i hi => ?_⟩
  obtain ⟨c1, c2, c3⟩ := h3 i hi
  exact ⟨(hb.cell (p := ⟨b, off + i, none⟩) h1).trans c1, c2.below hb (h2 i hi), c3⟩

/-- THE LISTS BEHIND THE FIRST. -/
theorem ListsAt.tail {w : World} {b off n : Nat} {A : Nat → Option Addr} {L C : Nat → Nat} {Z : Nat → Nat → Int} (h : ListsAt w b off n A L C Z) :
    ListsAt w b (off + 1) (n - 1) (fun i => A (i + 1)) (fun i => L (i + 1)) (fun i => C (i + 1)) (fun i => Z (i + 1)) := by
  intro i hi
  obtain ⟨c1, c2⟩ := h (i + 1) (by omega)
  exact ⟨by rw [show off + 1 + i = off + (i + 1) by omega]; exact c1, c2⟩

/-- t IS IN EVERY LIST BEHIND THE FIRST. -/
def common (n : Nat) (L : Nat → Nat) (Z : Nat → Nat → Int) (t : Int) : Prop := allHave (fun i => L (i + 1)) (fun i => Z (i + 1)) t (n - 1)

/-- slices.ContainsFunc(lists[1:], lacks): one list alone: nothing lacks. -/
theorem tail_one (nF b off n₀ fb : Nat) (A : Nat → Option Addr) (L : Nat → Nat) (Z : Nat → Nat → Int) (z : Int) (w : World) (_hl : ListsIn n₀ w b off 1 A L L Z) (hf : w.cell? ⟨fb, 0, none⟩ = some (.int .i64 z)) :
    CallsIn Fence.wide nF Try.prog 39 #[.slice (some ⟨b, off, none⟩) 0 0, .func (.func 38) #[] #[.pointer (some ⟨fb, 0, none⟩)]] w fun e w' => (∃ x : Bool, e = .returned (.bool x) ∧ Hid (x = true ↔ ¬ common 1 L Z z)) ∧ w' = w :=
  callsIn_wide.2 (contains_any b off 0 0 fb (fun i => A (i + 1)) (fun i => L (i + 1)) (fun i => L (i + 1)) (fun i => Z (i + 1)) z w (by omega) (fun i hi => absurd hi (Nat.not_lt_zero _)) hf)
theorem tail_more (nF b off n n₀ fb : Nat) (A : Nat → Option Addr) (L : Nat → Nat) (Z : Nat → Nat → Int) (z : Int) (w : World) (hl : ListsIn n₀ w b off n A L L Z) (hn : n ≤ 1048576) (hf : w.cell? ⟨fb, 0, none⟩ = some (.int .i64 z)) :
    CallsIn Fence.wide nF Try.prog 39 #[.slice (some ⟨b, off + 1, none⟩) (n - 1) (n - 1), .func (.func 38) #[] #[.pointer (some ⟨fb, 0, none⟩)]] w fun e w' => (∃ x : Bool, e = .returned (.bool x) ∧ Hid (x = true ↔ ¬ common n L Z z)) ∧ w' = w :=
  callsIn_wide.2 (contains_any b (off + 1) (n - 1) (n - 1) fb (fun i => A (i + 1)) (fun i => L (i + 1)) (fun i => L (i + 1)) (fun i => Z (i + 1)) z w (by omega) hl.2.2.tail hf)

theorem next_no {n p k : Nat} {L : Nat → Nat} {Z : Nat → Nat → Int} {z : Int} {J : List Int → World → Prop} {pre : List Int} {wr w2 : World} (I : J pre wr ∧ pre.length ≤ k ∧ (pre = [] → ∀ j, j < k → ¬ common n L Z (Z 0 (p + j)))) (hJ : J pre w2) (hz : Z 0 (p + k) = z) (hx : ¬ common n L Z z) :
    Hid (J pre w2 ∧ pre.length ≤ k + 1 ∧ (pre = [] → ∀ j, j < k + 1 → ¬ common n L Z (Z 0 (p + j)))) := by
  refine ⟨hJ, Nat.le_succ_of_le I.2.1, fun hpre j hj => ?_⟩
  rcases Nat.lt_succ_iff_lt_or_eq.1 hj with h | rfl
  · exact I.2.2 hpre j h
  · rw [hz]; exact hx
theorem next_yes {n p k : Nat} {L : Nat → Nat} {Z : Nat → Nat → Int} {z : Int} {J : List Int → World → Prop} {pre : List Int} {wr w2 : World} (I : J pre wr ∧ pre.length ≤ k ∧ (pre = [] → ∀ j, j < k → ¬ common n L Z (Z 0 (p + j)))) (hJ : J (pre ++ [z]) w2) :
    Hid (J (pre ++ [z]) w2 ∧ (pre ++ [z]).length ≤ k + 1 ∧ (pre ++ [z] = [] → ∀ j, j < k + 1 → ¬ common n L Z (Z 0 (p + j)))) := by
  refine ⟨hJ, by have := I.2.1; simp; omega, fun h => by simp at h⟩

set_option maxRecDepth 100000 in
set_option maxHeartbeats 2000000 in
theorem from1_pos (nF l mb fb n₀ b off n b0 o0 : Nat) (A : Nat → Option Addr) (L : Nat → Nat) (Z : Nat → Nat → Int) (p : Nat) (J Jx : List Int → World → Prop) (hnF : 1 ≤ nF) (hn : n ≤ 1048576) (h0n : 0 < n) (hL0 : 0 < L 0)
    (hmb : mb < n₀) (_hfb : fb < n₀)
    (hY : ∀ pre x W, J pre W → pre.length < L 0 → YieldAt Fence.wide (nF - 1) Try.prog l #[.int .i64 x] W fun e W' =>
      (e = .returned (.bool true) ∧ J (pre ++ [x]) W' ∧ Below n₀ W W') ∨ (e = .returned (.bool false) ∧ Jx (pre ++ [x]) W'))
    (W : World) (hn₀ : n₀ ≤ W.heap.size) (hJ : AbidesFrom W.heap.size J)
    (m1 : W.cell? ⟨mb, 1, none⟩ = some (.slice (some ⟨b, off, none⟩) n n)) (m2 : W.cell? ⟨mb, 2, none⟩ = some (.bool false)) (hf : W.cell? ⟨fb, 0, none⟩ = some (.int .i64 0))
    (hl : ListsIn n₀ W b off n A L L Z) (hA0 : A 0 = some ⟨b0, o0, none⟩) (hp : Parts (Z 0) (L 0) 0 p) (hJ0 : J [] W) :
    CallsIn Fence.wide nF Try.prog 35 #[.func (.yield l) #[] #[], .pointer (some ⟨mb, 0, none⟩), .pointer (some ⟨fb, 0, none⟩)] W fun e W' => (∃ v, e = .returned v) ∧
      ((∃ ys, (ys = [] → ∀ k, k < L 0 → 0 ≤ Z 0 k → ¬ common n L Z (Z 0 k)) ∧ J ys W') ∨ (∃ pre, (∃ k, k < L 0 ∧ 0 ≤ Z 0 k ∧ common n L Z (Z 0 k)) ∧ Jx pre W')) := by
  obtain ⟨cb0, ib0, lb0, sb0⟩ := hl.2.2 0 h0n
  rw [hA0] at cb0 ib0
  have HL : Hid (ListsIn n₀ W b off n A L L Z) := hl
  have HP : Hid (Parts (Z 0) (L 0) 0 p) := hp
  have C0 := fun q => callsIn_wide (n := nF - 1).2 (search_at (some ⟨b0, o0, none⟩) (L 0) (L 0) (Z 0) 0 p (W.drewN q) lb0 ib0 sb0 hp)
  have Ib0 : Hid (IntsAt W (some ⟨b0, o0, none⟩) (L 0) (Z 0)) := ib0
  have hpl : p ≤ L 0 := hp.1
  clear hl hp ib0 sb0
  have cb0' : W.cell? ⟨b, off, none⟩ = some (.slice (some ⟨b0, o0, none⟩) (L 0) (L 0)) := by simpa using cb0
  clear cb0
  have hne : ((n : Int) == 0) = false := by simp; omega
  by_cases hpL : p = L 0
  · subst hpL
    have HN : Hid (∀ k, k < L 0 → 0 ≤ Z 0 k → ¬ common n L Z (Z 0 k)) := fun k hk h0 => by
      have := HP.out.2.1 k (by omega)
      omega
    refine callsIn_of_wp Try.func35 rfl trivial ?_ rfl
    simp only [Try.ntmps35, List.size_toArray, List.length_cons, List.length_nil, Nat.reduceAdd, Nat.reduceSub, Array.replicate_succ, Array.replicate_zero, List.push_toArray, List.append_toArray, List.nil_append, List.cons_append]
    gi_wp2
    gi_big_quiet_th ((gi_at_call 37; refine CallsIn.quiet_of_same (C0 _)))
    gi_wp2
    gi_loopw [59] (fun i wr => i = .int .i64 0 ∧ J [] wr) (fun _ _ => 0)
    case atStart => exact ⟨rfl, hJ _ _ _ none hJ0 ⟨rfl, rfl, rfl, Nat.le_refl _, fun _ _ _ => rfl⟩ (fun r e => by cases e)⟩
    case round =>
      obtain ⟨rfl, hJs⟩ := hrel
      gi_wp2
      go_end0
      exact ⟨⟨_, rfl⟩, .inl ⟨[], fun _ => HN.out, hJs⟩⟩
  have hpl' : p < L 0 := by omega
  have m1' : ∀ wr, Below n₀ W wr → wr.cell? ⟨mb, 1, none⟩ = some (.slice (some ⟨b, off, none⟩) n n) := fun wr h => (h.cell (p := ⟨mb, 1, none⟩) hmb).trans m1
  refine callsIn_of_wp Try.func35 rfl trivial ?_ rfl
  simp only [Try.ntmps35, List.size_toArray, List.length_cons, List.length_nil, Nat.reduceAdd, Nat.reduceSub, Array.replicate_succ, Array.replicate_zero, List.push_toArray, List.append_toArray, List.nil_append, List.cons_append]
  gi_wp2
  gi_big_quiet_th ((gi_at_call 37; refine CallsIn.quiet_of_same (C0 _)))
  gi_wp2
  have IB : Hid (∀ k, k < L 0 → W.cell? ⟨b0, o0 + k, none⟩ = some (.int .i64 (Z 0 k))) := by
    obtain ⟨b', o', e, hc⟩ := Ib0.out hL0
    cases e
    exact hc
  have hb0 : b0 < n₀ := HL.out.2.1 0 h0n _ hA0 hL0
  clear C0 Ib0 m1 m2 hf cb0' hne
  gi_loopw [59] (fun i wr => ∃ (k : Nat) (pre : List Int), i = .int .i64 k ∧ k ≤ L 0 - p ∧ Hid (J pre wr ∧ pre.length ≤ k ∧ (pre = [] → ∀ j, j < k → ¬ common n L Z (Z 0 (p + j)))) ∧ Below n₀ W wr) (fun i _ => L 0 - p - (intOf i).toNat)
  case atStart => exact ⟨0, [], rfl, Nat.zero_le _, ⟨hJ _ _ _ none hJ0 ⟨rfl, rfl, rfl, Nat.le_refl _, fun _ _ _ => rfl⟩ (fun r e => by cases e), Nat.le_refl _, fun _ j hj => absurd hj (Nat.not_lt_zero _)⟩, ⟨rfl, rfl, rfl, Nat.le_refl _, fun _ _ => rfl⟩⟩
  case round =>
    obtain ⟨k, pre, rfl, hk, I, hB⟩ := hrel
    have m1k := m1' wr hB
    by_cases hlt : k < L 0 - p
    · have cz : wr.cell? ⟨b0, o0 + p + k, none⟩ = some (.int .i64 (Z 0 (p + k))) := by
        rw [Nat.add_assoc]
        exact (hB.cell (p := ⟨b0, o0 + (p + k), none⟩) hb0).trans (IB.out (p + k) (by omega))
      generalize hz : Z 0 (p + k) = z at cz
      have HZ : Hid (Z 0 (p + k) = z) := hz
      clear hz
      have hnw : n₀ ≤ wr.heap.size := Nat.le_trans hn₀ hB.size
      have m1o : ∀ o, (wr.alloc o).cell? ⟨mb, 1, none⟩ = some (.slice (some ⟨b, off, none⟩) n n) := fun o => (((Below.refl n₀ wr).alloc hnw o).cell (p := ⟨mb, 1, none⟩) hmb).trans m1k
      have hbx : (wr.alloc (.cells #[.int .i64 z] 3)).cell? ⟨wr.heap.size, 0, none⟩ = some (.int .i64 z) := by simp
      have hlo := (HL.out.below hB).below ((Below.refl n₀ wr).alloc hnw (.cells #[.int .i64 z] 3))
      have HJ : Hid (J pre (wr.alloc (.cells #[.int .i64 z] 3))) := hJ _ _ _ none I.out.1 (World.grownBy_alloc _ _ _) (fun r e => by cases e)
      have hB2 : Below n₀ W (wr.alloc (.cells #[.int .i64 z] 3)) := hB.alloc hnw _
      have hY' := hY pre z _ HJ.out (by have := I.out.2.1; omega)
      have HY : Hid (YieldAt Fence.wide (nF - 1) Try.prog l #[.int .i64 z] (wr.alloc (.cells #[.int .i64 z] 3)) fun e W' => (e = .returned (.bool true) ∧ J (pre ++ [z]) W' ∧ Below n₀ (wr.alloc (.cells #[.int .i64 z] 3)) W') ∨ (e = .returned (.bool false) ∧ Jx (pre ++ [z]) W')) := hY'
      clear hY' m1k m1'
      by_cases hn1 : n = 1
      · subst hn1
        have CC := tail_one (nF - 1) b off n₀ wr.heap.size A L Z z _ hlo hbx
        clear hlo
        gi_wp2_with fail
        refine CC.mono ?_
        rintro e w' ⟨⟨x, rfl, hx⟩, rfl⟩
        cases x with
        | true =>
          have hnc : Hid (¬ common 1 L Z z) := hx.out.1 rfl
          clear hx
          gi_wp2
          go_roundw
          case rel => first | exact ⟨k + 1, pre, by go_num, by omega, next_no I.out HJ.out HZ.out hnc.out, hB2⟩ | ((repeat apply Exists.intro); exact ⟨⟨k + 1, pre, by go_num, by omega, next_no I.out HJ.out HZ.out hnc.out, hB2⟩, rfl⟩)
          case measure => simp [intOf]; omega
        | false =>
          have hcom : Hid (common 1 L Z z) := Classical.byContradiction fun h => Bool.noConfusion (hx.out.2 h)
          clear hx
          obtain ⟨fn, tmps, assign, body, hy, hR⟩ := HY.out
          gi_wp2
          refine hR.mono ?_
          rintro e W3 (⟨rfl, hJ3, hk3⟩ | ⟨rfl, hJx3⟩)
          · gi_wp2
            go_roundw
            case rel => first | exact ⟨k + 1, pre ++ [z], by go_num, by omega, next_yes I.out hJ3, hB2.trans hk3⟩ | ((repeat apply Exists.intro); exact ⟨⟨k + 1, pre ++ [z], by go_num, by omega, next_yes I.out hJ3, hB2.trans hk3⟩, rfl⟩)
            case measure => simp [intOf]; omega
          · gi_wp2
            refine bodyPost_ret (results_none rfl _ _ _) rfl ?_
            exact ⟨⟨_, rfl⟩, .inr ⟨_, ⟨p + k, by omega, HP.out.2.2 (p + k) (by omega) (by omega), by rw [HZ.out]; exact hcom.out⟩, hJx3⟩⟩
      · have CC := tail_more (nF - 1) b off n n₀ wr.heap.size A L Z z _ hlo hn hbx
        clear hlo
        gi_wp2_with fail
        refine CC.mono ?_
        rintro e w' ⟨⟨x, rfl, hx⟩, rfl⟩
        cases x with
        | true =>
          have hnc : Hid (¬ common n L Z z) := hx.out.1 rfl
          clear hx
          gi_wp2
          go_roundw
          case rel => first | exact ⟨k + 1, pre, by go_num, by omega, next_no I.out HJ.out HZ.out hnc.out, hB2⟩ | ((repeat apply Exists.intro); exact ⟨⟨k + 1, pre, by go_num, by omega, next_no I.out HJ.out HZ.out hnc.out, hB2⟩, rfl⟩)
          case measure => simp [intOf]; omega
        | false =>
          have hcom : Hid (common n L Z z) := Classical.byContradiction fun h => Bool.noConfusion (hx.out.2 h)
          clear hx
          obtain ⟨fn, tmps, assign, body, hy, hR⟩ := HY.out
          gi_wp2
          refine hR.mono ?_
          rintro e W3 (⟨rfl, hJ3, hk3⟩ | ⟨rfl, hJx3⟩)
          · gi_wp2
            go_roundw
            case rel => first | exact ⟨k + 1, pre ++ [z], by go_num, by omega, next_yes I.out hJ3, hB2.trans hk3⟩ | ((repeat apply Exists.intro); exact ⟨⟨k + 1, pre ++ [z], by go_num, by omega, next_yes I.out hJ3, hB2.trans hk3⟩, rfl⟩)
            case measure => simp [intOf]; omega
          · gi_wp2
            refine bodyPost_ret (results_none rfl _ _ _) rfl ?_
            exact ⟨⟨_, rfl⟩, .inr ⟨_, ⟨p + k, by omega, HP.out.2.2 (p + k) (by omega) (by omega), by rw [HZ.out]; exact hcom.out⟩, hJx3⟩⟩
    · obtain rfl : k = L 0 - p := by omega
      gi_wp2
      go_end0
      refine ⟨⟨_, rfl⟩, .inl ⟨pre, fun hpre q hq h0 => ?_, I.out.1⟩⟩
      have hpq : p ≤ q := by
        rcases Nat.lt_or_ge q p with h | h
        · have := HP.out.2.1 q h
          omega
        · exact h
      have := I.out.2.2 hpre (q - p) (by omega)
      rwa [show p + (q - p) = q by omega] at this

set_option maxRecDepth 100000 in
set_option maxHeartbeats 1000000 in
/-- .. no list at all: no round. -/
theorem from1_none (nF l mb fb : Nat) (a : Option Addr) (c : Nat) (J : List Int → World → Prop) (W : World) (m1 : W.cell? ⟨mb, 1, none⟩ = some (.slice a 0 c)) (m2 : W.cell? ⟨mb, 2, none⟩ = some (.bool false)) (hJ0 : J [] W) :
    CallsIn Fence.wide nF Try.prog 35 #[.func (.yield l) #[] #[], .pointer (some ⟨mb, 0, none⟩), .pointer (some ⟨fb, 0, none⟩)] W fun e W' => (∃ v, e = .returned v) ∧ J [] W' := by
  refine callsIn_of_wp Try.func35 rfl trivial ?_ rfl
  simp only [Try.ntmps35, List.size_toArray, List.length_cons, List.length_nil, Nat.reduceAdd, Nat.reduceSub, Array.replicate_succ, Array.replicate_zero, List.push_toArray, List.append_toArray, List.nil_append, List.cons_append]
  gi_wp2
  refine bodyPost_ret (results_none rfl _ _ _) rfl ?_
  exact ⟨⟨_, rfl⟩, hJ0⟩

set_option maxRecDepth 100000 in
set_option maxHeartbeats 1000000 in
/-- .. the first list empty: no round. -/
theorem from1_empty (nF l mb fb b off n : Nat) (a0 : Option Addr) (J : List Int → World → Prop) (hnF : 1 ≤ nF) (h0n : 0 < n) (W : World) (hJ : AbidesFrom W.heap.size J)
    (m1 : W.cell? ⟨mb, 1, none⟩ = some (.slice (some ⟨b, off, none⟩) n n)) (m2 : W.cell? ⟨mb, 2, none⟩ = some (.bool false)) (hf : W.cell? ⟨fb, 0, none⟩ = some (.int .i64 0))
    (cb0 : W.cell? ⟨b, off, none⟩ = some (.slice a0 0 0)) (hJ0 : J [] W) :
    CallsIn Fence.wide nF Try.prog 35 #[.func (.yield l) #[] #[], .pointer (some ⟨mb, 0, none⟩), .pointer (some ⟨fb, 0, none⟩)] W fun e W' => (∃ v, e = .returned v) ∧ J [] W' := by
  have C0 := fun q => callsIn_wide (n := nF - 1).2 (search_at a0 0 0 (fun _ => 0) 0 0 (W.drewN q) (by omega) (fun h => absurd h (Nat.lt_irrefl _)) (fun p q _ h => absurd h (Nat.not_lt_zero _)) ⟨Nat.le_refl _, fun k hk => absurd hk (Nat.not_lt_zero _), fun k _ hk => absurd hk (Nat.not_lt_zero _)⟩)
  have hne : ((n : Int) == 0) = false := by simp; omega
  cases a0 with
  | none =>
    refine callsIn_of_wp Try.func35 rfl trivial ?_ rfl
    simp only [Try.ntmps35, List.size_toArray, List.length_cons, List.length_nil, Nat.reduceAdd, Nat.reduceSub, Array.replicate_succ, Array.replicate_zero, List.push_toArray, List.append_toArray, List.nil_append, List.cons_append]
    gi_wp2
    gi_big_quiet_th ((gi_at_call 37; refine CallsIn.quiet_of_same (C0 _)))
    gi_wp2
    gi_loopw [59] (fun i wr => i = .int .i64 0 ∧ J [] wr) (fun _ _ => 0)
    case atStart => exact ⟨rfl, hJ _ _ _ none hJ0 ⟨rfl, rfl, rfl, Nat.le_refl _, fun _ _ _ => rfl⟩ (fun r e => by cases e)⟩
    case round =>
      obtain ⟨rfl, hJs⟩ := hrel
      gi_wp2
      go_end0
      exact ⟨⟨_, rfl⟩, hJs⟩
  | some a0 =>
    refine callsIn_of_wp Try.func35 rfl trivial ?_ rfl
    simp only [Try.ntmps35, List.size_toArray, List.length_cons, List.length_nil, Nat.reduceAdd, Nat.reduceSub, Array.replicate_succ, Array.replicate_zero, List.push_toArray, List.append_toArray, List.nil_append, List.cons_append]
    gi_wp2
    gi_big_quiet_th ((gi_at_call 37; refine CallsIn.quiet_of_same (C0 _)))
    gi_wp2
    gi_loopw [59] (fun i wr => i = .int .i64 0 ∧ J [] wr) (fun _ _ => 0)
    case atStart => exact ⟨rfl, hJ _ _ _ none hJ0 ⟨rfl, rfl, rfl, Nat.le_refl _, fun _ _ _ => rfl⟩ (fun r e => by cases e)⟩
    case round =>
      obtain ⟨rfl, hJs⟩ := hrel
      gi_wp2
      go_end0
      exact ⟨⟨_, rfl⟩, hJs⟩

/-- IS SOME NUMBER ≥ 0 OF THE FIRST LIST IN ALL THE OTHERS? -/
def Met (n : Nat) (L : Nat → Nat) (Z : Nat → Nat → Int) : Prop := 0 < n ∧ ∃ k, k < L 0 ∧ 0 ≤ Z 0 k ∧ common n L Z (Z 0 k)

/-- THE ARGUMENT OF ZZemptyLists: a slice value of n lists, all below n₀. -/
def ListsVal (n₀ : Nat) (w : World) (a : Option Addr) (n : Nat) (A : Nat → Option Addr) (L : Nat → Nat) (Z : Nat → Nat → Int) : Prop :=
  0 < n → ∃ b off, a = some ⟨b, off, none⟩ ∧ ListsIn n₀ w b off n A L L Z

/-- THE ITERATOR's CONTRACT, whatever lists. -/
theorem from_stops (nF mb fb n₀ n : Nat) (a : Option Addr) (A : Nat → Option Addr) (L : Nat → Nat) (Z : Nat → Nat → Int) (hnF : 1 ≤ nF) (hn : n ≤ 1048576) (hmb : mb < n₀) (hfb : fb < n₀) (w : World) (hn₀ : n₀ ≤ w.heap.size)
    (m1 : w.cell? ⟨mb, 1, none⟩ = some (.slice a n n)) (m2 : w.cell? ⟨mb, 2, none⟩ = some (.bool false)) (hf : w.cell? ⟨fb, 0, none⟩ = some (.int .i64 0)) (hl : ListsVal n₀ w a n A L Z) :
    SeqStopsK Fence.wide nF Try.prog 35 #[.pointer (some ⟨mb, 0, none⟩), .pointer (some ⟨fb, 0, none⟩)] (fun x : Int => #[Value.int .i64 x]) (Below n₀) (fun ys => ys = [] → ¬ Met n L Z) (fun _ => Met n L Z) (L 0) w := fun l J Jx W hW hJ _ hY h0 => by
  have m1' := (hW.cell (p := ⟨mb, 1, none⟩) (by show mb < _; omega)).trans m1
  have m2' := (hW.cell (p := ⟨mb, 2, none⟩) (by show mb < _; omega)).trans m2
  have hf' := (hW.cell (p := ⟨fb, 0, none⟩) (by show fb < _; omega)).trans hf
  by_cases hn0 : 0 < n
  · obtain ⟨b, off, rfl, hin⟩ := hl hn0
    have hin' := hin.below (hW.mono hn₀)
    by_cases hL0 : 0 < L 0
    · obtain ⟨cb0, ib0, lb0, sb0⟩ := hin'.2.2 0 hn0
      obtain ⟨b0, o0, hA0, _⟩ := ib0 hL0
      obtain ⟨p, hp⟩ := parts_ex sb0 0
      refine (from1_pos nF l mb fb n₀ b off n b0 o0 A L Z p J Jx hnF hn hn0 hL0 hmb hfb hY W (Nat.le_trans hn₀ hW.size) hJ m1' m2' hf' hin' hA0 hp h0).mono ?_
      rintro e W' ⟨he, ⟨ys, hys, hj⟩ | ⟨pre, ⟨k, h1, h2, h3⟩, hj⟩⟩
      · exact ⟨he, .inl ⟨ys, fun e ⟨_, k, h1, h2, h3⟩ => hys e k h1 h2 h3, hj⟩⟩
      · exact ⟨he, .inr ⟨pre, ⟨hn0, k, h1, h2, h3⟩, hj⟩⟩
    · have e0 : L 0 = 0 := by omega
      have cb0 := (hin'.2.2 0 hn0).1
      rw [e0] at cb0
      refine (from1_empty nF l mb fb b off n (A 0) J hnF hn0 W hJ m1' m2' hf' cb0 h0).mono ?_
      rintro e W' ⟨he, hj⟩
      exact ⟨he, .inl ⟨[], fun _ ⟨_, k, h1, _⟩ => absurd h1 (by omega), hj⟩⟩
  · obtain rfl : n = 0 := by omega
    refine (from1_none nF l mb fb a 0 J W m1' m2' h0).mono ?_
    rintro e W' ⟨he, hj⟩
    exact ⟨he, .inl ⟨[], fun _ ⟨h, _⟩ => absurd h (Nat.lt_irrefl _), hj⟩⟩
end Go.Proofs.Qxb6606016a
