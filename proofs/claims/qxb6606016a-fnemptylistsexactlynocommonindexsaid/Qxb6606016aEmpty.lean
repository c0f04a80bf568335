import Derived.Test.Qxb6606016aFrom
namespace Go.Proofs.Qxb6606016a
open Go.RowKit Go.Shelf
attribute [local go_sem] Oper.semAt_some
attribute [local simp] wide_fn

theorem ListsVal.up {n₀ n₁ : Nat} {w w' : World} {a : Option Addr} {n : Nat} {A : Nat → Option Addr} {L : Nat → Nat} {Z : Nat → Nat → Int} (h : ListsVal n₀ w a n A L Z) (hn : n₀ ≤ n₁) (hb : Below n₀ w w') : ListsVal n₁ w' a n A L Z := by
  intro h0
  obtain ⟨b, off, rfl, hin⟩ := h h0
  obtain ⟨h1, h2, h3⟩ := hin.below hb
  exact ⟨b, off, rfl, Nat.lt_of_lt_of_le h1 hn, fun i hi x hx hL => Nat.lt_of_lt_of_le (h2 i hi x hx hL) hn, h3⟩

set_option maxRecDepth 100000 in
set_option maxHeartbeats 1000000 in
theorem mfrom_in (nF : Nat) (p : Value) (a : Option Addr) (n c : Nat) (x : Bool) (w : World) (hp : ∃ q, p = .pointer q) :
    CallsIn Fence.wide nF Try.prog 32 #[.agg #[p, .slice a n c, .bool x], .int .i64 0] w fun e w' => e = .returned (.func (.func 35) #[] #[.pointer (some ⟨w.heap.size, 0, none⟩), .pointer (some ⟨w.heap.size + 1, 0, none⟩)]) ∧
      w' = (w.alloc (.cells #[p, .slice a n c, .bool x] 102)).alloc (.cells #[.int .i64 0] 3) := by
  obtain ⟨q, rfl⟩ := hp
  refine callsIn_of_wp Try.func32 rfl trivial ?_ rfl
  simp only [Try.ntmps32, List.size_toArray, List.length_cons, List.length_nil, Nat.reduceAdd, Nat.reduceSub, Array.replicate_succ, Array.replicate_zero, List.push_toArray, List.append_toArray, List.nil_append, List.cons_append]
  gi_wp2
  go_ret
  exact ⟨rfl, rfl⟩

set_option maxRecDepth 100000 in
set_option maxHeartbeats 2000000 in
theorem mempty_in (nF n : Nat) (q : Option Addr) (a : Option Addr) (A : Nat → Option Addr) (L : Nat → Nat) (Z : Nat → Nat → Int) (w : World) (hnF : 3 ≤ nF) (hn : n ≤ 1048576) (hl : ListsVal w.heap.size w a n A L Z) :
    CallsIn Fence.wide nF Try.prog 29 #[.agg #[.pointer q, .slice a n n, .bool false]] w fun e w' => (∃ x : Bool, e = .returned (.bool x) ∧ (x = true ↔ ¬ Met n L Z)) ∧ Below w.heap.size w w' := by
  have h1 : 1 ≤ nF := by omega
  refine callsIn_of_wp_marks Try.func29 rfl trivial ?_ rfl
  simp only [Try.ntmps29, List.size_toArray, List.length_cons, List.length_nil, Nat.reduceAdd, Nat.reduceSub, Array.replicate_succ, Array.replicate_zero, List.push_toArray, List.append_toArray, List.nil_append, List.cons_append]
  gi_wp2_with (gi_at_call 32; refine (mfrom_in _ _ _ _ _ _ _ ⟨_, rfl⟩).mono ?_; rintro e w' ⟨rfl, rfl⟩)
  have hB0 : Below w.heap.size w ((((w.alloc (.cells #[.pointer q, .slice a n n, .bool false] 102)).alloc (.cells #[.bool false] 4)).alloc (.cells #[.pointer q, .slice a n n, .bool false] 102)).alloc (.cells #[.int .i64 0] 3)) :=
    ((((Below.refl _ w).alloc (Nat.le_refl _) _).alloc (by simp) _).alloc (by simp; omega) _).alloc (by simp; omega) _
  refine wpIn_rangeFunc_ownF rfl h1 (gf := 35) (lb := #[.pointer (some ⟨w.heap.size + 1 + 1, 0, none⟩), .pointer (some ⟨w.heap.size + 1 + 1 + 1, 0, none⟩)]) rfl trivial (enters_of Try.func35 (by kernel_rfl) rfl)
    (from_stops (nF - 1) (w.heap.size + 1 + 1) (w.heap.size + 1 + 1 + 1) (w.heap.size + 4) n a A L Z (by omega) hn (by omega) (by omega) _ (by simp) (by simp [go_sem]) (by simp [go_sem]) (by simp [go_sem]) (hl.up (by omega) hB0)) belowK_t (belowK_b (by simp)) (Below.refl _ _) (fun _ => rfl)
    (fun pre W => (pre = [] ∧ W.cell? ⟨w.heap.size + 1, 0, none⟩ = some (.bool false) ∧ W.frozen? ⟨w.heap.size + 1, 0, none⟩ = false) ∧ Below w.heap.size w W)
    (fun c pre W => (c = .ret ∧ W.cell? ⟨w.heap.size + 1, 0, none⟩ = some (.bool false)) ∧ Below w.heap.size w W)
    (OwnFrom.and (Own.from (fun s A B row hs hg hr => ⟨hs.1, cell_kept hs.2.1 hg hr, (frozen_kept hs.2.1 hg hr).trans hs.2.2⟩) _) (ownFrom_below (Nat.le_refl _) (by simp; omega)))
    (fun c => OwnFrom.and (Own.from (fun s A B row hs hg hr => ⟨hs.1, cell_kept hs.2 hg hr⟩) _) (ownFrom_below (Nat.le_refl _) (by simp; omega)))
    ⟨⟨rfl, by simp [go_sem], by simp [go_sem]⟩, hB0⟩
    (fun x => { tmps := #[.agg #[.pointer q, .slice a n n, .bool false], .pointer (some ⟨w.heap.size, 0, none⟩), .pointer (some ⟨w.heap.size + 1, 0, none⟩), .agg #[.pointer q, .slice a n n, .bool false], .func (.func 35) #[] #[.pointer (some ⟨w.heap.size + 1 + 1, 0, none⟩), .pointer (some ⟨w.heap.size + 1 + 1 + 1, 0, none⟩)], .int .i64 x], defers := [] }) ?assign ?body ?done ?stop
  case assign =>
    intro l x W K hK
    gi_wp2
    simpa using hK
  case body =>
    rintro l pre x W ⟨⟨hp, hcr, hfr⟩, hB⟩ _
    gi_wp2
    exact ⟨KeepsOthers.setCell _ _ _, ⟨rfl, World.cell?_setCell_same' _ _ _ (by rw [hcr]; rfl)⟩, hB.setCell (p := ⟨w.heap.size + 1, 0, none⟩) (by simp) _⟩
  case done =>
    rintro D ys W hD hys ⟨⟨rfl, hcr, hfr⟩, hB⟩ hK
    have hno : Hid (¬ Met n L Z) := hys rfl
    clear hys
    gi_wp2
    have hK' := (KeepsOthers.setCell W ⟨w.heap.size + 1, 0, none⟩ (.bool true)).same D _ hK rfl
    refine ⟨by simp, .inl ⟨_, _, rfl, run_takeDeferred hK', ?_⟩⟩
    have hc5 := cell_kept (World.cell?_setCell_same' W ⟨w.heap.size + 1, 0, none⟩ (.bool true) (by rw [hcr]; rfl)) (grownBy_putObj' _ D (.deferred none)) (fun r e => by cases e; exact ⟨_, hK', rfl⟩)
    refine ⟨.bool true, ?_, ⟨true, rfl, ⟨fun _ => hno.out, fun _ => rfl⟩⟩, (hB.setCell (p := ⟨w.heap.size + 1, 0, none⟩) (by simp) _).trans (belowK_b (w := w) (Nat.le_refl _) _ D _ _ (by simp at hD; omega) hK' rfl rfl)⟩
    simp [results, Try.f29, go_sem, hc5]
  case stop =>
    rintro D c pre W hD hmet ⟨⟨rfl, hcr⟩, hB⟩ hK
    have hM : Hid (Met n L Z) := hmet
    clear hmet
    gi_wp2
    refine ⟨by simp, .inl ⟨_, _, rfl, run_takeDeferred hK, ?_⟩⟩
    have hc5 := cell_kept hcr (grownBy_putObj' _ D (.deferred none)) (fun r e => by cases e; exact ⟨_, hK, rfl⟩)
    refine ⟨.bool false, ?_, ⟨false, rfl, ⟨fun h => Bool.noConfusion h, fun h => absurd hM.out h⟩⟩, hB.trans (belowK_b (w := w) (Nat.le_refl _) W D _ _ (by simp at hD; omega) hK rfl rfl)⟩
    simp [results, Try.f29, go_sem, hc5]

/-- ZZemptyLists: nothing is met. -/
theorem zzempty_any (n : Nat) (a : Option Addr) (A : Nat → Option Addr) (L : Nat → Nat) (Z : Nat → Nat → Int) (w : World) (hn : n ≤ 1048576) (hl : ListsVal w.heap.size w a n A L Z) :
    Calls Try.prog 26 #[.slice a n n] w fun e w' => (∃ x : Bool, e = .returned (.bool x) ∧ (x = true ↔ ¬ Met n L Z)) ∧ Below w.heap.size w w' := by
  have CE := fun (o : Obj) (q : Option Addr) => callsIn_wide.1 (mempty_in 3 n q a A L Z (w.alloc o) (by omega) hn (hl.up (by simp) ((Below.refl _ _).alloc (Nat.le_refl _) _)))
  clear hl
  go_enter Try.func26, Try.ntmps26
  go_wp2_with (go_at_call 29; refine (CE _ _).mono ?_; rintro e w' ⟨⟨x, rfl, hx⟩, hb⟩)
  go_ret
  exact ⟨⟨x, rfl, hx⟩, ((Below.refl _ _).alloc (Nat.le_refl _) _).trans (hb.mono (by simp))⟩
end Go.Proofs.Qxb6606016a
