import Derived.Test.Qxb6606016aInv3
import Derived.Deep.DeepCutAuto
namespace Go.Proofs.Qxb6606016a
open Go.RowKit Go.MuLone
set_option linter.unusedVariables false

theorem c16_cells {w : World} {k : Nat} {a : Nat → Value} (h : w.heap[k]? = some (.cells (c16 a) 22)) : ∀ j, w.cell? ⟨k, j, none⟩ = (c16 a)[j]? := fun j => by simp [World.cell?, h]

set_option maxRecDepth 100000 in
set_option maxHeartbeats 1000000 in
theorem law3_pos (a b : Nat → Value) (ka kb : Lit) (r : Int) (hr : wrap64 r = r) (ba bo n c : Nat) (Z : Nat → Int) (same : Bool) (hsame : same = true ↔ ka = kb) (w : World) (ha : IsId (c16 a) ka) (hb : IsId (c16 b) kb)
    (h0 : 0 < n) (hz : ∀ k, k < n → w.cell? ⟨ba, bo + k, none⟩ = some (.int .i64 (Z k))) :
    Calls Try.prog 3 #[.agg (c16 a), .agg (c16 b), .int .i64 r, .slice (some ⟨ba, bo, none⟩) n c] w fun e w' => e = .returned (.bool true) ∧ Below w.heap.size w w' := by
  have hba : ba < w.heap.size := blk_lt (hz 0 h0)
  have CB := bytes3_any a b r (some ⟨ba, bo, none⟩) n c ((w.alloc (.cells (c16 a) 22)).alloc (.cells (c16 b) 22))
  have HZ : Hid (∀ k, k < n → w.cell? ⟨ba, bo + k, none⟩ = some (.int .i64 (Z k))) := hz
  clear hz
  have hA : ((w.alloc (.cells (c16 a) 22)).alloc (.cells (c16 b) 22)).heap[w.heap.size]? = some (.cells (c16 a) 22) := heap_alloc2_old _ _ _
  have hB : ((w.alloc (.cells (c16 a) 22)).alloc (.cells (c16 b) 22)).heap[w.heap.size + 1]? = some (.cells (c16 b) 22) := heap_alloc2_new _ _ _
  go_enter Try.func3, Try.ntmps3
  go_wp2_with (first | (refine wpList_load_row rfl 22 _ rfl w.heap.size rfl 22 (c16 a) (0, 0) (.array 16 5) hA Try.underlying22 rfl (by kernel_rfl) ?_) | (refine wpList_load_row rfl 22 _ rfl (w.heap.size + 1) rfl 22 (c16 b) (0, 0) (.array 16 5) hB Try.underlying22 rfl (by kernel_rfl) ?_))
  refine CB.mono ?_
  rintro e w' ⟨⟨y, rfl, hy⟩, rfl⟩
  clear hA hB CB
  cases y with
  | false =>
    clear hy
    go_wp2
    go_ret
    exact ⟨rfl, ((((Below.refl _ _).alloc (Nat.le_refl _) _).alloc (by simp) _).alloc (by simp <;> omega) _).alloc (by simp <;> omega) _⟩
  | true =>
    have hn := hy rfl
    clear hy
    by_cases hn2 : n ≤ 131072
    · obtain ⟨W4, hW4⟩ : ∃ W4, (((w.alloc (.cells (c16 a) 22)).alloc (.cells (c16 b) 22)).alloc (.cells (c16 a) 22)).alloc (.cells (c16 b) 22) = W4 := ⟨_, rfl⟩
      rw [hW4]
      have hB4 : Below w.heap.size w W4 := by rw [← hW4]; exact ((((Below.refl _ _).alloc (Nat.le_refl _) _).alloc (by simp) _).alloc (by simp <;> omega) _).alloc (by simp <;> omega) _
      have hA4 : W4.heap[w.heap.size]? = some (.cells (c16 a) 22) := by rw [← hW4, Below.heap_alloc _ _ _ (by simp <;> omega), Below.heap_alloc _ _ _ (by simp <;> omega)]; exact heap_alloc2_old _ _ _
      have hC4 : W4.heap[w.heap.size + 1]? = some (.cells (c16 b) 22) := by rw [← hW4, Below.heap_alloc _ _ _ (by simp <;> omega), Below.heap_alloc _ _ _ (by simp <;> omega)]; exact heap_alloc2_new _ _ _
      have hs4 : W4.heap.size = w.heap.size + 4 := by rw [← hW4]; simp
      clear hW4
      have CC := clone_any (some ⟨ba, bo, none⟩) n c Z W4 hn (fun _ => ⟨ba, bo, rfl, fun k hk => (hB4.cell (p := ⟨ba, bo + k, none⟩) hba).trans (HZ.out k hk)⟩) (fun h => by cases h)
      have HS4 : Hid (W4.heap.size = w.heap.size + 4) := hs4
      clear hs4
      go_wp2_with fail
      refine CC.mono ?_
      rintro e w5 ⟨a', rfl, hi5, hB5, ha5, hlt5⟩
      obtain rfl := ha5 h0
      have z5 : ∀ j, j < n → w5.cell? ⟨W4.heap.size, j, none⟩ = some (.int .i64 (Z j)) := by
        obtain ⟨b', o', e', hc'⟩ := hi5 h0
        cases e'
        intro j hj
        simpa using hc' j hj
      have hA5 := (hB5.block _ (blk_of hA4)).trans hA4
      have hC5 := (hB5.block _ (blk_of hC4)).trans hC4
      have hBw5 := hB4.trans (hB5.mono hB4.size)
      have hlt5' := hlt5 _ rfl
      have CN := new1_any a ka r w5 ha
      have HZ5 : Hid (∀ j, j < n → w5.cell? ⟨W4.heap.size, j, none⟩ = some (.int .i64 (Z j))) := z5
      clear CC hi5 hB5 ha5 hlt5 hA4 hC4 hB4 z5
      go_wp2_with (refine wpList_load_row rfl 22 _ rfl w.heap.size rfl 22 (c16 a) (0, 0) (.array 16 5) hA5 Try.underlying22 rfl (by kernel_rfl) ?_)
      refine CN.mono ?_
      rintro e w6 ⟨db, mb, qb, rfl, hQ6, hqd, hc6, hf6, hdb, hqb, hB6⟩
      have I6 : Hid (Inv3 w w6 w.heap.size W4.heap.size db mb qb n 1 a b Z ((DataW.map []).put ka (.held (some ⟨qb, 0, none⟩))) r) :=
        ⟨hQ6, hc6, hf6, (hB6.block _ (blk_of hA5)).trans hA5, (hB6.block _ (blk_of hC5)).trans hC5, fun j hj => (hB6.cell (p := ⟨W4.heap.size, j, none⟩) hlt5').trans (HZ5.out j hj), hBw5.trans (hB6.mono hBw5.size), by have := HS4.out; omega, Nat.lt_of_lt_of_le hlt5' hdb, Nat.lt_of_lt_of_le hlt5' hqb, hqd⟩
      clear CN hQ6 hc6 hf6 hdb hqb hB6 hA5 hC5 hBw5 hlt5' HZ5
      have hD1 : ((DataW.map [] : DQ).put ka (.held (some ⟨qb, 0, none⟩))).atKey ka (.held none) = .held (some ⟨qb, 0, none⟩) := Maps.atKey_put_same Maps.isMap_empty (law50.key ha.2.2) _ _
      have hD2 : ((DataW.map [] : DQ).put ka (.held (some ⟨qb, 0, none⟩))).atKey kb (.held none) = .held (if same then some ⟨qb, 0, none⟩ else none) := by
        cases same with
        | true =>
          obtain rfl := hsame.1 rfl
          exact hD1
        | false => exact (Maps.atKey_put_other (fun e => by have := hsame.2 e.symm; exact Bool.noConfusion this) _ _)
      have HD1 : Hid (_) := hD1
      have HD2 : Hid (_) := hD2
      clear hD1 hD2
      go_wp2
      go_loopg [10, 11] n (fun g s10 s11 wx => ∃ k : Nat, s11 = .int .i64 k ∧ s10 = .int .i64 (sumW Z k) ∧ k ≤ n ∧ n - k ≤ g ∧ Hid (Inv3 w wx w.heap.size W4.heap.size db mb qb n 1 a b Z ((DataW.map []).put ka (.held (some ⟨qb, 0, none⟩))) (cnt same r Z k)))
      case atStart => exact ⟨0, rfl, rfl, Nat.zero_le _, by omega, I6.out⟩
      case round =>
        clear I6
        obtain ⟨k, rfl, rfl, hk, hg, I⟩ := hrel
        by_cases hlt : k < n
        · have ca := c16_cells I.out.ba
          have cz := I.out.z k hlt
          go_wp2
          go_cut [43] (fun s43 wx => Hid (Inv3 w wx w.heap.size W4.heap.size db mb qb n 1 a b Z ((DataW.map []).put ka (.held (some ⟨qb, 0, none⟩))) (wrap64 (cnt same r Z k + Z k))))
          case first =>
            go_region_with (go_at_call 11; refine (inv_hit I.out.drew ha HD1.out _).mono ?_; rintro e w2 ⟨rfl, I2⟩)
            all_goals
              go_wp2_with fail
              go_meet
              exact I2
          case rest =>
            clear ca cz I
            have I1 := hcut
            clear hcut
            have cb := c16_cells I1.out.bb
            have cz := I1.out.z k hlt
            go_wp2
            go_cut [50] (fun s50 wx => Hid (Inv3 w wx w.heap.size W4.heap.size db mb qb n 1 a b Z ((DataW.map []).put ka (.held (some ⟨qb, 0, none⟩))) (second same (wrap64 (cnt same r Z k + Z k)) (Z k))))
            case first =>
              go_region_with (go_at_call 11; refine (inv_second I1.out.drew hb same HD2.out _).mono ?_; rintro e w2 ⟨rfl, I2⟩)
              all_goals
                go_wp2_with fail
                go_meet
                exact I2
            case rest =>
              clear cb cz I1
              have cz := hcut.out.z k hlt
              go_wp2
              go_roundg (n - (k + 1))
              case measure => omega
              case rel => exact ⟨k + 1, by go_num, rfl, by omega, Nat.le_refl _, hcut.out⟩
        · obtain rfl : n = k := by omega
          have hXA := I.out.ba
          have hXB := I.out.bb
          have hsz : Maps.size ((DataW.map [] : DQ).put ka (.held (some ⟨qb, 0, none⟩))) = 1 := by
            rw [Maps.size_put Maps.tidy_empty]
            rfl
          have HSZ : Hid (_) := hsz
          have hhas : Maps.has ((DataW.map [] : DQ).put ka (.held (some ⟨qb, 0, none⟩))) ka = true := Maps.has_put_same Maps.isMap_empty (law50.key ha.2.2) _
          have CR := results_hit db mb 1 qb _ a _ ka wr ha I.out.q hhas HD1.out I.out.c
          have HB : Hid (Below w.heap.size w wr) := I.out.bel
          clear hsz hhas hlt hk hg
          cases same with
          | true =>
            have e0 : ∀ w, (binOp .eql 22 (.agg (c16 b)) (.agg (c16 a))).run Try.prog w = .ok (.bool true) w := fun w => eq22 hb ha ⟨fun _ => (hsame.1 rfl).symm, fun _ => rfl⟩ w
            have e1 : ∀ w, (binOp .neq 22 (.agg (c16 b)) (.agg (c16 a))).run Try.prog w = .ok (.bool false) w := fun w => ne22 hb ha (b := true) ⟨fun _ => (hsame.1 rfl).symm, fun _ => rfl⟩ w
            rw [cnt_true r Z hr] at CR
            clear hsame hr
            go_wp2_with (first | (refine wpList_load_row rfl 22 _ rfl w.heap.size rfl 22 (c16 a) (0, 0) (.array 16 5) hXA Try.underlying22 rfl (by kernel_rfl) ?_) | (refine wpList_load_row rfl 22 _ rfl (w.heap.size + 1) rfl 22 (c16 b) (0, 0) (.array 16 5) hXB Try.underlying22 rfl (by kernel_rfl) ?_))
            refine CR.mono ?_
            rintro e w7 ⟨rfl, hB7⟩
            have h7A := (hB7.block _ (blk_of hXA)).trans hXA
            have h7B := (hB7.block _ (blk_of hXB)).trans hXB
            have CQ := queries_any db mb 1 _ w7 (I.out.q.below hB7)
            rw [HSZ.out] at CQ
            have hBw : Below w.heap.size w w7 := HB.out.trans (hB7.mono HB.out.size)
            clear CR hB7 hXA hXB I
            go_wp2_with (first | (refine wpList_load_row rfl 22 _ rfl w.heap.size rfl 22 (c16 a) (0, 0) (.array 16 5) h7A Try.underlying22 rfl (by kernel_rfl) ?_) | (refine wpList_load_row rfl 22 _ rfl (w.heap.size + 1) rfl 22 (c16 b) (0, 0) (.array 16 5) h7B Try.underlying22 rfl (by kernel_rfl) ?_))
            refine CQ.mono ?_
            rintro e w8 ⟨rfl, rfl⟩
            go_wp2
            go_ret
            exact ⟨rfl, hBw⟩
          | false =>
            have hk : ¬ ka = kb := fun e => Bool.noConfusion (hsame.2 e)
            have e0 : ∀ w, (binOp .eql 22 (.agg (c16 b)) (.agg (c16 a))).run Try.prog w = .ok (.bool false) w := fun w => eq22 hb ha ⟨fun h => Bool.noConfusion h, fun e => absurd e.symm hk⟩ w
            have e1 : ∀ w, (binOp .neq 22 (.agg (c16 b)) (.agg (c16 a))).run Try.prog w = .ok (.bool true) w := fun w => ne22 hb ha (b := false) ⟨fun h => Bool.noConfusion h, fun e => absurd e.symm hk⟩ w
            rw [cnt_false r Z hr] at CR
            have hno : Maps.has ((DataW.map [] : DQ).put ka (.held (some ⟨qb, 0, none⟩))) kb = false := (Maps.has_put_other (fun e => hk e.symm) _).trans rfl
            have HNO : Hid (_) := hno
            clear hsame hr hk hno
            go_wp2_with (first | (refine wpList_load_row rfl 22 _ rfl w.heap.size rfl 22 (c16 a) (0, 0) (.array 16 5) hXA Try.underlying22 rfl (by kernel_rfl) ?_) | (refine wpList_load_row rfl 22 _ rfl (w.heap.size + 1) rfl 22 (c16 b) (0, 0) (.array 16 5) hXB Try.underlying22 rfl (by kernel_rfl) ?_))
            refine CR.mono ?_
            rintro e w7 ⟨rfl, hB7⟩
            have h7A := (hB7.block _ (blk_of hXA)).trans hXA
            have h7B := (hB7.block _ (blk_of hXB)).trans hXB
            have CM := results_miss db mb 1 b _ kb w7 hb (I.out.q.below hB7) HNO.out
            have hBw : Below w.heap.size w w7 := HB.out.trans (hB7.mono HB.out.size)
            have Q7 : Hid (_) := I.out.q.below hB7
            clear CR hB7 hXA hXB I
            go_wp2_with (first | (refine wpList_load_row rfl 22 _ rfl w.heap.size rfl 22 (c16 a) (0, 0) (.array 16 5) h7A Try.underlying22 rfl (by kernel_rfl) ?_) | (refine wpList_load_row rfl 22 _ rfl (w.heap.size + 1) rfl 22 (c16 b) (0, 0) (.array 16 5) h7B Try.underlying22 rfl (by kernel_rfl) ?_))
            refine CM.mono ?_
            rintro e w8 ⟨rfl, hB8⟩
            have CQ := queries_any db mb 1 _ w8 (Q7.out.below hB8)
            rw [HSZ.out] at CQ
            have hBw8 : Below w.heap.size w w8 := hBw.trans (hB8.mono hBw.size)
            clear CM hB8 h7A h7B Q7
            go_wp2_with fail
            refine CQ.mono ?_
            rintro e w9 ⟨rfl, rfl⟩
            go_wp2
            go_ret
            exact ⟨rfl, hBw8⟩
    · go_wp2
      go_ret
      exact ⟨rfl, ((((Below.refl _ _).alloc (Nat.le_refl _) _).alloc (by simp) _).alloc (by simp <;> omega) _).alloc (by simp <;> omega) _⟩
end Go.Proofs.Qxb6606016a
