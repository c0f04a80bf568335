import Derived.Test.Qxb6606016aLaw3
namespace Go.Proofs.Qxb6606016a
open Go.RowKit Go.MuLone
set_option linter.unusedVariables false

set_option maxRecDepth 100000 in
set_option maxHeartbeats 1000000 in
theorem law3_zero (a b : Nat → Value) (ka kb : Lit) (r : Int) (hr : wrap64 r = r) (x0 : Option Addr) (c : Nat) (hx0 : x0 = none → c = 0) (same : Bool) (hsame : same = true ↔ ka = kb) (w : World) (ha : IsId (c16 a) ka) (hb : IsId (c16 b) kb) :
    Calls Try.prog 3 #[.agg (c16 a), .agg (c16 b), .int .i64 r, .slice x0 0 c] w fun e w' => e = .returned (.bool true) ∧ Below w.heap.size w w' := by
  have CB := bytes3_any a b r x0 0 c ((w.alloc (.cells (c16 a) 22)).alloc (.cells (c16 b) 22))
  have hA : ((w.alloc (.cells (c16 a) 22)).alloc (.cells (c16 b) 22)).heap[w.heap.size]? = some (.cells (c16 a) 22) := heap_alloc2_old _ _ _
  have hB : ((w.alloc (.cells (c16 a) 22)).alloc (.cells (c16 b) 22)).heap[w.heap.size + 1]? = some (.cells (c16 b) 22) := heap_alloc2_new _ _ _
  go_enter Try.func3, Try.ntmps3
  go_wp2_with (first | (refine wpList_load_row rfl 22 _ rfl w.heap.size rfl 22 (c16 a) (0, 0) (.array 16 5) hA Try.underlying22 rfl (by kernel_rfl) ?_) | (refine wpList_load_row rfl 22 _ rfl (w.heap.size + 1) rfl 22 (c16 b) (0, 0) (.array 16 5) hB Try.underlying22 rfl (by kernel_rfl) ?_))
  refine CB.mono ?_
  rintro e w' ⟨⟨y, rfl, hy⟩, rfl⟩
  clear hA hB CB
  cases y with
  | false =>
    clear hy
    go_wp2
    go_ret
    exact ⟨rfl, ((((Below.refl _ _).alloc (Nat.le_refl _) _).alloc (by simp) _).alloc (by simp <;> omega) _).alloc (by simp <;> omega) _⟩
  | true =>
    clear hy
    · obtain ⟨W4, hW4⟩ : ∃ W4, (((w.alloc (.cells (c16 a) 22)).alloc (.cells (c16 b) 22)).alloc (.cells (c16 a) 22)).alloc (.cells (c16 b) 22) = W4 := ⟨_, rfl⟩
      rw [hW4]
      have hB4 : Below w.heap.size w W4 := by rw [← hW4]; exact ((((Below.refl _ _).alloc (Nat.le_refl _) _).alloc (by simp) _).alloc (by simp <;> omega) _).alloc (by simp <;> omega) _
      have hA4 : W4.heap[w.heap.size]? = some (.cells (c16 a) 22) := by rw [← hW4, Below.heap_alloc _ _ _ (by simp <;> omega), Below.heap_alloc _ _ _ (by simp <;> omega)]; exact heap_alloc2_old _ _ _
      have hC4 : W4.heap[w.heap.size + 1]? = some (.cells (c16 b) 22) := by rw [← hW4, Below.heap_alloc _ _ _ (by simp <;> omega), Below.heap_alloc _ _ _ (by simp <;> omega)]; exact heap_alloc2_new _ _ _
      have hs4 : W4.heap.size = w.heap.size + 4 := by rw [← hW4]; simp
      clear hW4
      have CC := clone_any x0 0 c (fun _ => 0) W4 (by omega) (fun h => absurd h (Nat.lt_irrefl _)) (fun h => ⟨rfl, hx0 h⟩)
      have HS4 : Hid (W4.heap.size = w.heap.size + 4) := hs4
      clear hs4
      go_wp2_with fail
      refine CC.mono ?_
      rintro e w5 ⟨a', rfl, hi5, hB5, ha5, hlt5⟩
      have hA5 := (hB5.block _ (blk_of hA4)).trans hA4
      have hC5 := (hB5.block _ (blk_of hC4)).trans hC4
      have hBw5 := hB4.trans (hB5.mono hB4.size)
      have hs5 : w.heap.size + 4 ≤ w5.heap.size := by have := hB5.size; have := HS4.out; omega
      have CN := new1_any a ka r w5 ha
      clear CC hi5 hB5 ha5 hlt5 hA4 hC4 hB4
      go_wp2_with (refine wpList_load_row rfl 22 _ rfl w.heap.size rfl 22 (c16 a) (0, 0) (.array 16 5) hA5 Try.underlying22 rfl (by kernel_rfl) ?_)
      refine CN.mono ?_
      rintro e w6 ⟨db, mb, qb, rfl, hQ6, hqd, hc6, hf6, hdb, hqb, hB6⟩
      have I6 : Hid (Inv3 w w6 w.heap.size (w.heap.size + 2) db mb qb 0 1 a b (fun _ => 0) ((DataW.map []).put ka (.held (some ⟨qb, 0, none⟩))) r) :=
        ⟨hQ6, hc6, hf6, (hB6.block _ (blk_of hA5)).trans hA5, (hB6.block _ (blk_of hC5)).trans hC5, fun j hj => absurd hj (Nat.not_lt_zero _), hBw5.trans (hB6.mono hBw5.size), by omega, by omega, by omega, hqd⟩
      clear CN hQ6 hc6 hf6 hdb hqb hB6 hA5 hC5 hBw5 hs5
      have hD1 : ((DataW.map [] : DQ).put ka (.held (some ⟨qb, 0, none⟩))).atKey ka (.held none) = .held (some ⟨qb, 0, none⟩) := Maps.atKey_put_same Maps.isMap_empty (law50.key ha.2.2) _ _
      have HD1 : Hid (_) := hD1
      clear hD1
      go_wp2
      go_loopg [10, 11] 0 (fun g s10 s11 wx => s11 = .int .i64 0 ∧ s10 = .int .i64 0 ∧ Hid (Inv3 w wx w.heap.size (w.heap.size + 2) db mb qb 0 1 a b (fun _ => 0) ((DataW.map []).put ka (.held (some ⟨qb, 0, none⟩))) r))
      case atStart => exact ⟨rfl, rfl, I6.out⟩
      case round =>
        clear I6
        obtain ⟨rfl, rfl, I⟩ := hrel
        · have hXA := I.out.ba
          have hXB := I.out.bb
          have hsz : Maps.size ((DataW.map [] : DQ).put ka (.held (some ⟨qb, 0, none⟩))) = 1 := by
            rw [Maps.size_put Maps.tidy_empty]
            rfl
          have HSZ : Hid (_) := hsz
          have hhas : Maps.has ((DataW.map [] : DQ).put ka (.held (some ⟨qb, 0, none⟩))) ka = true := Maps.has_put_same Maps.isMap_empty (law50.key ha.2.2) _
          have CR := results_hit db mb 1 qb _ a _ ka wr ha I.out.q hhas HD1.out I.out.c
          have HB : Hid (Below w.heap.size w wr) := I.out.bel
          clear hsz hhas
          cases same with
          | true =>
            have e0 : ∀ w, (binOp .eql 22 (.agg (c16 b)) (.agg (c16 a))).run Try.prog w = .ok (.bool true) w := fun w => eq22 hb ha ⟨fun _ => (hsame.1 rfl).symm, fun _ => rfl⟩ w
            have e1 : ∀ w, (binOp .neq 22 (.agg (c16 b)) (.agg (c16 a))).run Try.prog w = .ok (.bool false) w := fun w => ne22 hb ha (b := true) ⟨fun _ => (hsame.1 rfl).symm, fun _ => rfl⟩ w
            clear hsame
            go_wp2_with (first | (refine wpList_load_row rfl 22 _ rfl w.heap.size rfl 22 (c16 a) (0, 0) (.array 16 5) hXA Try.underlying22 rfl (by kernel_rfl) ?_) | (refine wpList_load_row rfl 22 _ rfl (w.heap.size + 1) rfl 22 (c16 b) (0, 0) (.array 16 5) hXB Try.underlying22 rfl (by kernel_rfl) ?_))
            refine CR.mono ?_
            rintro e w7 ⟨rfl, hB7⟩
            have h7A := (hB7.block _ (blk_of hXA)).trans hXA
            have h7B := (hB7.block _ (blk_of hXB)).trans hXB
            have CQ := queries_any db mb 1 _ w7 (I.out.q.below hB7)
            rw [HSZ.out] at CQ
            have hBw : Below w.heap.size w w7 := HB.out.trans (hB7.mono HB.out.size)
            clear CR hB7 hXA hXB I
            go_wp2_with (first | (refine wpList_load_row rfl 22 _ rfl w.heap.size rfl 22 (c16 a) (0, 0) (.array 16 5) h7A Try.underlying22 rfl (by kernel_rfl) ?_) | (refine wpList_load_row rfl 22 _ rfl (w.heap.size + 1) rfl 22 (c16 b) (0, 0) (.array 16 5) h7B Try.underlying22 rfl (by kernel_rfl) ?_))
            refine CQ.mono ?_
            rintro e w8 ⟨rfl, rfl⟩
            go_wp2
            go_ret
            exact ⟨rfl, hBw⟩
          | false =>
            have hk : ¬ ka = kb := fun e => Bool.noConfusion (hsame.2 e)
            have e0 : ∀ w, (binOp .eql 22 (.agg (c16 b)) (.agg (c16 a))).run Try.prog w = .ok (.bool false) w := fun w => eq22 hb ha ⟨fun h => Bool.noConfusion h, fun e => absurd e.symm hk⟩ w
            have e1 : ∀ w, (binOp .neq 22 (.agg (c16 b)) (.agg (c16 a))).run Try.prog w = .ok (.bool true) w := fun w => ne22 hb ha (b := false) ⟨fun h => Bool.noConfusion h, fun e => absurd e.symm hk⟩ w
            have hno : Maps.has ((DataW.map [] : DQ).put ka (.held (some ⟨qb, 0, none⟩))) kb = false := (Maps.has_put_other (fun e => hk e.symm) _).trans rfl
            have HNO : Hid (_) := hno
            clear hsame hk hno
            go_wp2_with (first | (refine wpList_load_row rfl 22 _ rfl w.heap.size rfl 22 (c16 a) (0, 0) (.array 16 5) hXA Try.underlying22 rfl (by kernel_rfl) ?_) | (refine wpList_load_row rfl 22 _ rfl (w.heap.size + 1) rfl 22 (c16 b) (0, 0) (.array 16 5) hXB Try.underlying22 rfl (by kernel_rfl) ?_))
            refine CR.mono ?_
            rintro e w7 ⟨rfl, hB7⟩
            have h7A := (hB7.block _ (blk_of hXA)).trans hXA
            have h7B := (hB7.block _ (blk_of hXB)).trans hXB
            have CM := results_miss db mb 1 b _ kb w7 hb (I.out.q.below hB7) HNO.out
            have hBw : Below w.heap.size w w7 := HB.out.trans (hB7.mono HB.out.size)
            have Q7 : Hid (_) := I.out.q.below hB7
            clear CR hB7 hXA hXB I
            go_wp2_with (first | (refine wpList_load_row rfl 22 _ rfl w.heap.size rfl 22 (c16 a) (0, 0) (.array 16 5) h7A Try.underlying22 rfl (by kernel_rfl) ?_) | (refine wpList_load_row rfl 22 _ rfl (w.heap.size + 1) rfl 22 (c16 b) (0, 0) (.array 16 5) h7B Try.underlying22 rfl (by kernel_rfl) ?_))
            refine CM.mono ?_
            rintro e w8 ⟨rfl, hB8⟩
            have CQ := queries_any db mb 1 _ w8 (Q7.out.below hB8)
            rw [HSZ.out] at CQ
            have hBw8 : Below w.heap.size w w8 := hBw.trans (hB8.mono hBw.size)
            clear CM hB8 h7A h7B Q7
            go_wp2_with fail
            refine CQ.mono ?_
            rintro e w9 ⟨rfl, rfl⟩
            go_wp2
            go_ret
            exact ⟨rfl, hBw8⟩
end Go.Proofs.Qxb6606016a
