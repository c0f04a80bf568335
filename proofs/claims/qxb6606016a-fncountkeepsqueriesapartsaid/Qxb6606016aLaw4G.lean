import Derived.Test.Qxb6606016aLaw4
namespace Go.Proofs.Qxb6606016a
open Go.RowKit Go.MuLone
set_option linter.unusedVariables false

set_option maxRecDepth 100000 in
set_option maxHeartbeats 1000000 in
theorem law4_ge (a b : Nat → Value) (ka kb : Lit) (r s : Int) (hr : wrap64 r = r) (hs : wrap64 s = s) (x1 x2 : Option Addr) (n1 c1 n2 c2 : Nat) (Z1 Z2 : Nat → Int) (w : World) (ha : IsId (c16 a) ka) (hb : IsId (c16 b) kb)
    (hz1 : IntsAt w x1 n1 Z1) (hz2 : IntsAt w x2 n2 Z2) (hnil1 : x1 = none → n1 = 0 ∧ c1 = 0) (hnil2 : x2 = none → n2 = 0 ∧ c2 = 0) (hab : ¬ n1 < n2) :
    Calls Try.prog 4 #[.agg (c16 a), .agg (c16 b), .int .i64 r, .int .i64 s, .slice x1 n1 c1, .slice x2 n2 c2] w fun e w' => e = .returned (.bool true) ∧ Below w.heap.size w w' := by
  have CB := bytes4_any a b r s x1 x2 n1 c1 n2 c2 ((w.alloc (.cells (c16 a) 22)).alloc (.cells (c16 b) 22))
  have HZ1 : Hid (IntsAt w x1 n1 Z1) := hz1
  have HZ2 : Hid (IntsAt w x2 n2 Z2) := hz2
  have HN1 : Hid (x1 = none → n1 = 0 ∧ c1 = 0) := hnil1
  have HN2 : Hid (x2 = none → n2 = 0 ∧ c2 = 0) := hnil2
  have HR : Hid (wrap64 r = r) := hr
  have HS : Hid (wrap64 s = s) := hs
  clear hz1 hz2 hnil1 hnil2 hr hs
  have hA : ((w.alloc (.cells (c16 a) 22)).alloc (.cells (c16 b) 22)).heap[w.heap.size]? = some (.cells (c16 a) 22) := heap_alloc2_old _ _ _
  have hB : ((w.alloc (.cells (c16 a) 22)).alloc (.cells (c16 b) 22)).heap[w.heap.size + 1]? = some (.cells (c16 b) 22) := heap_alloc2_new _ _ _
  go_enter Try.func4, Try.ntmps4
  go_wp2_with (first | (refine wpList_load_row rfl 22 _ rfl w.heap.size rfl 22 (c16 a) (0, 0) (.array 16 5) hA Try.underlying22 rfl (by kernel_rfl) ?_) | (refine wpList_load_row rfl 22 _ rfl (w.heap.size + 1) rfl 22 (c16 b) (0, 0) (.array 16 5) hB Try.underlying22 rfl (by kernel_rfl) ?_))
  refine CB.mono ?_
  rintro e w' ⟨⟨y, rfl, hy⟩, rfl⟩
  clear hA hB CB
  cases y with
  | false =>
    clear hy
    go_wp2
    go_ret
    exact ⟨rfl, boxes4⟩
  | true =>
    obtain ⟨hn1, hn2⟩ := hy rfl
    clear hy
    by_cases g1 : ¬ n1 ≤ 131072
    · go_wp2; go_ret; exact ⟨rfl, boxes4⟩
    have g1 : n1 ≤ 131072 := by omega
    by_cases g2 : ¬ n2 ≤ 131072
    · exact absurd g1 (by omega)
    have g2 : n2 ≤ 131072 := by omega
    by_cases g3 : ¬ n1 + n2 ≤ 131072
    · go_wp2; go_ret; exact ⟨rfl, boxes4⟩
    have g3 : n1 + n2 ≤ 131072 := by omega
    obtain ⟨W4, hW4⟩ : ∃ W4, (((w.alloc (.cells (c16 a) 22)).alloc (.cells (c16 b) 22)).alloc (.cells (c16 a) 22)).alloc (.cells (c16 b) 22) = W4 := ⟨_, rfl⟩
    rw [hW4]
    have hB4 : Below w.heap.size w W4 := by rw [← hW4]; exact boxes4
    have hA4 : W4.heap[w.heap.size]? = some (.cells (c16 a) 22) := by rw [← hW4, Below.heap_alloc _ _ _ (by simp <;> omega), Below.heap_alloc _ _ _ (by simp <;> omega)]; exact heap_alloc2_old _ _ _
    have hC4 : W4.heap[w.heap.size + 1]? = some (.cells (c16 b) 22) := by rw [← hW4, Below.heap_alloc _ _ _ (by simp <;> omega), Below.heap_alloc _ _ _ (by simp <;> omega)]; exact heap_alloc2_new _ _ _
    have hs4 : W4.heap.size = w.heap.size + 4 := by rw [← hW4]; simp
    clear hW4
    have HS4 : Hid (W4.heap.size = w.heap.size + 4) := hs4
    clear hs4
    by_cases hk : ka = kb
    · have e0 : ∀ w, (binOp .eql 22 (.agg (c16 a)) (.agg (c16 b))).run Try.prog w = .ok (.bool true) w := fun w => eq22 ha hb (by simp [hk]) w
      clear hk
      go_wp2_with (first | (refine wpList_load_row rfl 22 _ rfl w.heap.size rfl 22 (c16 a) (0, 0) (.array 16 5) hA4 Try.underlying22 rfl (by kernel_rfl) ?_) | (refine wpList_load_row rfl 22 _ rfl (w.heap.size + 1) rfl 22 (c16 b) (0, 0) (.array 16 5) hC4 Try.underlying22 rfl (by kernel_rfl) ?_))
      go_ret
      exact ⟨rfl, hB4⟩
    have e0 : ∀ w, (binOp .eql 22 (.agg (c16 a)) (.agg (c16 b))).run Try.prog w = .ok (.bool false) w := fun w => eq22 ha hb (by simp [hk]) w
    have CC := clone_any x1 n1 c1 Z1 W4 hn1 (fun h => by
      obtain ⟨b', o', e', hc'⟩ := HZ1.out h
      exact ⟨b', o', e', fun k hk => (hB4.cell (p := ⟨b', o' + k, none⟩) (blk_lt (hc' k hk))).trans (hc' k hk)⟩) HN1.out
    go_wp2_with (first | fail | (refine wpList_load_row rfl 22 _ rfl w.heap.size rfl 22 (c16 a) (0, 0) (.array 16 5) hA4 Try.underlying22 rfl (by kernel_rfl) ?_) | (refine wpList_load_row rfl 22 _ rfl (w.heap.size + 1) rfl 22 (c16 b) (0, 0) (.array 16 5) hC4 Try.underlying22 rfl (by kernel_rfl) ?_))
    refine CC.mono ?_
    rintro e w5 ⟨y1, rfl, hi5, hB5, ha5, hlt5⟩
    have z5 : ∀ j, j < n1 → w5.cell? ⟨W4.heap.size, j, none⟩ = some (.int .i64 (Z1 j)) := by
      intro j hj
      obtain ⟨b', o', e', hc'⟩ := hi5 (by omega)
      rw [ha5 (by omega)] at e'
      cases e'
      simpa using hc' j hj
    have HY1 : Hid (0 < n1 → y1 = some ⟨W4.heap.size, 0, none⟩ ∧ W4.heap.size < w5.heap.size) := fun h => ⟨ha5 h, hlt5 _ (ha5 h)⟩
    have hA5 := (hB5.block _ (blk_of hA4)).trans hA4
    have hC5 := (hB5.block _ (blk_of hC4)).trans hC4
    have hBw5 := hB4.trans (hB5.mono hB4.size)
    have hsz5 := hB5.size
    have CC2 := clone_any x2 n2 c2 Z2 w5 hn2 (fun h => by
      obtain ⟨b', o', e', hc'⟩ := HZ2.out h
      exact ⟨b', o', e', fun k hk => (hBw5.cell (p := ⟨b', o' + k, none⟩) (blk_lt (hc' k hk))).trans (hc' k hk)⟩) HN2.out
    have HZ5 : Hid (∀ j, j < n1 → w5.cell? ⟨W4.heap.size, j, none⟩ = some (.int .i64 (Z1 j))) := z5
    clear CC hi5 hB5 ha5 hlt5 hA4 hC4 hB4 z5 e0
    go_wp2_with fail
    refine CC2.mono ?_
    rintro e w6 ⟨y2, rfl, hi6, hB6, ha6, hlt6⟩
    have z6 : ∀ j, j < n2 → w6.cell? ⟨w5.heap.size, j, none⟩ = some (.int .i64 (Z2 j)) := by
      intro j hj
      obtain ⟨b', o', e', hc'⟩ := hi6 (by omega)
      rw [ha6 (by omega)] at e'
      cases e'
      simpa using hc' j hj
    have HY2 : Hid (0 < n2 → y2 = some ⟨w5.heap.size, 0, none⟩ ∧ w5.heap.size < w6.heap.size) := fun h => ⟨ha6 h, hlt6 _ (ha6 h)⟩
    have hA6 := (hB6.block _ (blk_of hA5)).trans hA5
    have hC6 := (hB6.block _ (blk_of hC5)).trans hC5
    have hBw6 := hBw5.trans (hB6.mono hBw5.size)
    have hsz6 := hB6.size
    have HZ61 : Hid (∀ j, j < n1 → w6.cell? ⟨W4.heap.size, j, none⟩ = some (.int .i64 (Z1 j))) := fun j hj => (hB6.cell (p := ⟨W4.heap.size, j, none⟩) (HY1.out (by omega)).2).trans (HZ5.out j hj)
    have HZ62 : Hid (∀ j, j < n2 → w6.cell? ⟨w5.heap.size, j, none⟩ = some (.int .i64 (Z2 j))) := z6
    have CN := new2_any a b ka kb r s w6 hk ha hb
    clear CC2 hi6 hB6 ha6 hlt6 hA5 hC5 hBw5 z6 HZ5
    go_wp2_with (first | (refine wpList_load_row rfl 22 _ rfl w.heap.size rfl 22 (c16 a) (0, 0) (.array 16 5) hA6 Try.underlying22 rfl (by kernel_rfl) ?_) | (refine wpList_load_row rfl 22 _ rfl (w.heap.size + 1) rfl 22 (c16 b) (0, 0) (.array 16 5) hC6 Try.underlying22 rfl (by kernel_rfl) ?_))
    refine CN.mono ?_
    rintro e w7 ⟨db, mb, qa, qb, D, rfl, hQ7, ⟨d1, d2, d3, d4, d5⟩, hne7, ⟨k1, k2, k3, k4⟩, ⟨l1, l2, l3⟩, hB7⟩
    have I7 : Hid (Inv4 w w7 w.heap.size W4.heap.size w5.heap.size db mb qa qb n1 n2 a b Z1 Z2 D (wrap64 (r + accW Z1 n1 0)) (wrap64 (s + accW Z2 n2 0))) := by
      have q1 : wrap64 (r + accW Z1 n1 0) = r := by show wrap64 (r + 0) = r; rw [Int.add_zero]; exact HR.out
      have q2 : wrap64 (s + accW Z2 n2 0) = s := by show wrap64 (s + 0) = s; rw [Int.add_zero]; exact HS.out
      have e4 := HS4.out
      rw [q1, q2]
      exact ⟨hQ7, k1, k2, k3, k4, (hB7.block _ (blk_of hA6)).trans hA6, (hB7.block _ (blk_of hC6)).trans hC6, fun j hj => (hB7.cell (p := ⟨W4.heap.size, j, none⟩) (by have := (HY1.out (by omega)).2; show W4.heap.size < _; omega)).trans (HZ61.out j hj), fun j hj => (hB7.cell (p := ⟨w5.heap.size, j, none⟩) (HY2.out (by omega)).2).trans (HZ62.out j hj),
        hBw6.trans (hB7.mono hBw6.size), by omega, fun h => by have := (HY1.out h).2; omega, fun h => by have := (HY2.out h).2; omega, hne7⟩
    have HD : Hid (Maps.has D ka = true ∧ Maps.has D kb = true ∧ D.atKey ka (.held none) = .held (some ⟨qa, 0, none⟩) ∧ D.atKey kb (.held none) = .held (some ⟨qb, 0, none⟩) ∧ Maps.size D = 2) := ⟨d1, d2, d3, d4, d5⟩
    clear CN hQ7 d1 d2 d3 d4 d5 hne7 k1 k2 k3 k4 l1 l2 l3 hB7 hA6 hC6 hBw6 HZ61 HZ62 hsz6
    · go_wp2
      go_loopg [15, 16, 17] n1 (fun g s15 s16 s17 wx => ∃ k : Nat, s17 = .int .i64 k ∧ s15 = .int .i64 (accW Z1 n1 k) ∧ s16 = .int .i64 (accW Z2 n2 k) ∧ k ≤ n1 ∧ n1 - k ≤ g ∧ Hid (Inv4 w wx w.heap.size W4.heap.size w5.heap.size db mb qa qb n1 n2 a b Z1 Z2 D (wrap64 (r + accW Z1 n1 k)) (wrap64 (s + accW Z2 n2 k))))
      case atStart => exact ⟨0, rfl, rfl, rfl, Nat.zero_le _, by omega, I7.out⟩
      case round =>
        clear I7
        obtain ⟨k, rfl, rfl, rfl, hk0, hg, I⟩ := hrel
        by_cases hlt : k < n1
        · have h1 : k < n1 := hlt
          by_cases h2 : k < n2
          · obtain ⟨rfl, _⟩ := HY1.out (by omega)
            have ca := c16_cells4 I.out.ba
            have cz := I.out.z1 k h1
            go_wp2
            go_cut [81] (fun s81 wx => Hid (Inv4 w wx w.heap.size W4.heap.size w5.heap.size db mb qa qb n1 n2 a b Z1 Z2 D (wrap64 (wrap64 (r + accW Z1 n1 k) + Z1 k)) (wrap64 (s + accW Z2 n2 k))))
            case first =>
              go_region_with (go_at_call 11; refine (inv4_a I.out.drew ha HD.out.2.2.1 _).mono ?_; rintro e w2 ⟨rfl, I2⟩)
              all_goals
                go_wp2_with fail
                go_meet
                exact I2
            case rest =>
              clear ca cz I
              have I1 := hcut
              clear hcut
              have cz1 := I1.out.z1 k h1
              obtain ⟨rfl, _⟩ := HY2.out (by omega)
              have cb := c16_cells4 I1.out.bb
              have cz := I1.out.z2 k h2
              go_wp2
              go_cut [98] (fun s98 wx => Hid (Inv4 w wx w.heap.size W4.heap.size w5.heap.size db mb qa qb n1 n2 a b Z1 Z2 D (wrap64 (wrap64 (r + accW Z1 n1 k) + Z1 k)) (wrap64 (wrap64 (s + accW Z2 n2 k) + Z2 k))))
              case first =>
                go_region_with (go_at_call 11; refine (inv4_b I1.out.drew hb HD.out.2.2.2.1 _).mono ?_; rintro e w2 ⟨rfl, I2⟩)
                all_goals
                  go_wp2_with fail
                  go_meet
                  exact I2
              case rest =>
                clear cb cz I1
                have cz := hcut.out.z2 k h2
                go_wp2
                go_roundg (n1 - (k + 1))
                case measure => omega
                case rel =>
                  refine ⟨k + 1, by go_num, by rw [accW_lt h1], by rw [accW_lt h2], by omega, Nat.le_refl _, ?_⟩
                  have hh := hcut.out
                  rw [val_lt r h1, val_lt s h2] at hh
                  exact hh
          · obtain ⟨rfl, _⟩ := HY1.out (by omega)
            have ca := c16_cells4 I.out.ba
            have cz := I.out.z1 k h1
            go_wp2
            go_cut [81] (fun s81 wx => Hid (Inv4 w wx w.heap.size W4.heap.size w5.heap.size db mb qa qb n1 n2 a b Z1 Z2 D (wrap64 (wrap64 (r + accW Z1 n1 k) + Z1 k)) (wrap64 (s + accW Z2 n2 k))))
            case first =>
              go_region_with (go_at_call 11; refine (inv4_a I.out.drew ha HD.out.2.2.1 _).mono ?_; rintro e w2 ⟨rfl, I2⟩)
              all_goals
                go_wp2_with fail
                go_meet
                exact I2
            case rest =>
              clear ca cz I
              have I1 := hcut
              clear hcut
              have cz1 := I1.out.z1 k h1
              go_wp2
              go_roundg (n1 - (k + 1))
              case measure => omega
              case rel =>
                refine ⟨k + 1, by go_num, by rw [accW_lt h1], by rw [accW_ge h2], by omega, Nat.le_refl _, ?_⟩
                have hh := I1.out
                rw [val_lt r h1, ← accW_ge (Z := Z2) h2] at hh
                exact hh
        · have hXA := I.out.ba
          have hXB := I.out.bb
          have CR := results_hit db mb 2 qa _ a D ka wr ha I.out.q HD.out.1 HD.out.2.2.1 I.out.ca
          have HB : Hid (Below w.heap.size w wr) := I.out.bel
          go_wp2_with (first | (refine wpList_load_row rfl 22 _ rfl w.heap.size rfl 22 (c16 a) (0, 0) (.array 16 5) hXA Try.underlying22 rfl (by kernel_rfl) ?_) | (refine wpList_load_row rfl 22 _ rfl (w.heap.size + 1) rfl 22 (c16 b) (0, 0) (.array 16 5) hXB Try.underlying22 rfl (by kernel_rfl) ?_))
          refine CR.mono ?_
          rintro e w8 ⟨rfl, hB8⟩
          have I8 := Hid.mk2 (I.out.keep hB8)
          clear CR hB8 hXA hXB I
          have hXA := I8.out.ba
          have hXB := I8.out.bb
          have CR := results_hit db mb 2 qb _ b D kb w8 hb I8.out.q HD.out.2.1 HD.out.2.2.2.1 I8.out.cb
          go_wp2_with (first | (refine wpList_load_row rfl 22 _ rfl w.heap.size rfl 22 (c16 a) (0, 0) (.array 16 5) hXA Try.underlying22 rfl (by kernel_rfl) ?_) | (refine wpList_load_row rfl 22 _ rfl (w.heap.size + 1) rfl 22 (c16 b) (0, 0) (.array 16 5) hXB Try.underlying22 rfl (by kernel_rfl) ?_))
          refine CR.mono ?_
          rintro e w9 ⟨rfl, hB9⟩
          have I9 := Hid.mk2 (I8.out.keep hB9)
          clear CR hB9 hXA hXB I8
          have CQ := queries_any db mb 2 D w9 I9.out.q
          rw [HD.out.2.2.2.2] at CQ
          go_wp2_with fail
          refine CQ.mono ?_
          rintro e w10 ⟨rfl, rfl⟩
          go_wp2
          go_ret
          exact ⟨rfl, I9.out.bel⟩

theorem law4 (a b : Nat → Value) (ka kb : Lit) (r s : Int) (hr : wrap64 r = r) (hs : wrap64 s = s) (x1 x2 : Option Addr) (n1 c1 n2 c2 : Nat) (Z1 Z2 : Nat → Int) (w : World) (ha : IsId (c16 a) ka) (hb : IsId (c16 b) kb)
    (hz1 : IntsAt w x1 n1 Z1) (hz2 : IntsAt w x2 n2 Z2) (hnil1 : x1 = none → n1 = 0 ∧ c1 = 0) (hnil2 : x2 = none → n2 = 0 ∧ c2 = 0) :
    Calls Try.prog 4 #[.agg (c16 a), .agg (c16 b), .int .i64 r, .int .i64 s, .slice x1 n1 c1, .slice x2 n2 c2] w fun e w' => e = .returned (.bool true) ∧ Below w.heap.size w w' := by
  by_cases hab : n1 < n2
  · exact law4_lt a b ka kb r s hr hs x1 x2 n1 c1 n2 c2 Z1 Z2 w ha hb hz1 hz2 hnil1 hnil2 hab
  · exact law4_ge a b ka kb r s hr hs x1 x2 n1 c1 n2 c2 Z1 Z2 w ha hb hz1 hz2 hnil1 hnil2 hab
end Go.Proofs.Qxb6606016a
