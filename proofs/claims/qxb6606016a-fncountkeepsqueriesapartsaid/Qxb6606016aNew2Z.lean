import Derived.Test.Qxb6606016aNew2M
namespace Go.Proofs.Qxb6606016a
open Go.RowKit Go.MuLone
set_option linter.unusedVariables false


theorem only11 {ops : Array Oper} (T : Tab15 ops) {Q : Exit → Act → World → Prop} {n : Nat} {a : Act} {W : World} (h : wpOp Try.prog ops Q 11 (wpAny Try.prog .any ops Q n (#[true, true, true, true, true, true, true, true, true, true, true, false, false, false, false].setIfInBounds 11 true)) a W) : wpAny Try.prog .any ops Q (n + 1) #[true, true, true, true, true, true, true, true, true, true, true, false, false, false, false] a W := by
  refine ⟨fun h0 => ?_, fun i hi => ?_⟩
  · obtain ⟨j, hj⟩ := ready_ex (md := .any) (ops := ops) (listed := #[true, true, true, true, true, true, true, true, true, true, true, false, false, false, false]) (by rw [T.size]; rfl) T.back 14 (by rw [T.size]; omega) rfl
    rw [h0] at hj
    cases hj
  · obtain ⟨hl, o, ho, hdep⟩ := mem_ready.1 hi
    have hi15 : i < 15 := by
      rcases Nat.lt_or_ge i 15 with h' | h'
      · exact h'
      · simp [Array.getD, Nat.not_lt.2 h'] at hl
    have hcs : i = 0 ∨ i = 1 ∨ i = 2 ∨ i = 3 ∨ i = 4 ∨ i = 5 ∨ i = 6 ∨ i = 7 ∨ i = 8 ∨ i = 9 ∨ i = 10 ∨ i = 11 ∨ i = 12 ∨ i = 13 ∨ i = 14 := by omega
    rcases hcs with rfl | rfl | rfl | rfl | rfl | rfl | rfl | rfl | rfl | rfl | rfl | rfl | rfl | rfl | rfl
    · cases hl
    · cases hl
    · cases hl
    · cases hl
    · cases hl
    · cases hl
    · cases hl
    · cases hl
    · cases hl
    · cases hl
    · cases hl
    · exact h
    · obtain ⟨o', ho', _, _, _, hds⟩ := T.t12
      obtain rfl : o' = o := by rw [ho] at ho'; exact (Option.some.inj ho').symm
      have : false = true := deps_listed hds hdep 11 (by simp)
      cases this
    · obtain ⟨o', ho', _, _, _, hds⟩ := T.t13
      obtain rfl : o' = o := by rw [ho] at ho'; exact (Option.some.inj ho').symm
      have : false = true := deps_listed hds hdep 12 (by simp)
      cases this
    · obtain ⟨o', ho', _, _, _, hds⟩ := T.t14
      obtain rfl : o' = o := by rw [ho] at ho'; exact (Option.some.inj ho').symm
      have : false = true := deps_listed hds hdep 13 (by simp)
      cases this
theorem only12 {ops : Array Oper} (T : Tab15 ops) {Q : Exit → Act → World → Prop} {n : Nat} {a : Act} {W : World} (h : wpOp Try.prog ops Q 12 (wpAny Try.prog .any ops Q n (#[true, true, true, true, true, true, true, true, true, true, true, true, false, false, false].setIfInBounds 12 true)) a W) : wpAny Try.prog .any ops Q (n + 1) #[true, true, true, true, true, true, true, true, true, true, true, true, false, false, false] a W := by
  refine ⟨fun h0 => ?_, fun i hi => ?_⟩
  · obtain ⟨j, hj⟩ := ready_ex (md := .any) (ops := ops) (listed := #[true, true, true, true, true, true, true, true, true, true, true, true, false, false, false]) (by rw [T.size]; rfl) T.back 14 (by rw [T.size]; omega) rfl
    rw [h0] at hj
    cases hj
  · obtain ⟨hl, o, ho, hdep⟩ := mem_ready.1 hi
    have hi15 : i < 15 := by
      rcases Nat.lt_or_ge i 15 with h' | h'
      · exact h'
      · simp [Array.getD, Nat.not_lt.2 h'] at hl
    have hcs : i = 0 ∨ i = 1 ∨ i = 2 ∨ i = 3 ∨ i = 4 ∨ i = 5 ∨ i = 6 ∨ i = 7 ∨ i = 8 ∨ i = 9 ∨ i = 10 ∨ i = 11 ∨ i = 12 ∨ i = 13 ∨ i = 14 := by omega
    rcases hcs with rfl | rfl | rfl | rfl | rfl | rfl | rfl | rfl | rfl | rfl | rfl | rfl | rfl | rfl | rfl
    · cases hl
    · cases hl
    · cases hl
    · cases hl
    · cases hl
    · cases hl
    · cases hl
    · cases hl
    · cases hl
    · cases hl
    · cases hl
    · cases hl
    · exact h
    · obtain ⟨o', ho', _, _, _, hds⟩ := T.t13
      obtain rfl : o' = o := by rw [ho] at ho'; exact (Option.some.inj ho').symm
      have : false = true := deps_listed hds hdep 12 (by simp)
      cases this
    · obtain ⟨o', ho', _, _, _, hds⟩ := T.t14
      obtain rfl : o' = o := by rw [ho] at ho'; exact (Option.some.inj ho').symm
      have : false = true := deps_listed hds hdep 13 (by simp)
      cases this
theorem only13 {ops : Array Oper} (T : Tab15 ops) {Q : Exit → Act → World → Prop} {n : Nat} {a : Act} {W : World} (h : wpOp Try.prog ops Q 13 (wpAny Try.prog .any ops Q n (#[true, true, true, true, true, true, true, true, true, true, true, true, true, false, false].setIfInBounds 13 true)) a W) : wpAny Try.prog .any ops Q (n + 1) #[true, true, true, true, true, true, true, true, true, true, true, true, true, false, false] a W := by
  refine ⟨fun h0 => ?_, fun i hi => ?_⟩
  · obtain ⟨j, hj⟩ := ready_ex (md := .any) (ops := ops) (listed := #[true, true, true, true, true, true, true, true, true, true, true, true, true, false, false]) (by rw [T.size]; rfl) T.back 14 (by rw [T.size]; omega) rfl
    rw [h0] at hj
    cases hj
  · obtain ⟨hl, o, ho, hdep⟩ := mem_ready.1 hi
    have hi15 : i < 15 := by
      rcases Nat.lt_or_ge i 15 with h' | h'
      · exact h'
      · simp [Array.getD, Nat.not_lt.2 h'] at hl
    have hcs : i = 0 ∨ i = 1 ∨ i = 2 ∨ i = 3 ∨ i = 4 ∨ i = 5 ∨ i = 6 ∨ i = 7 ∨ i = 8 ∨ i = 9 ∨ i = 10 ∨ i = 11 ∨ i = 12 ∨ i = 13 ∨ i = 14 := by omega
    rcases hcs with rfl | rfl | rfl | rfl | rfl | rfl | rfl | rfl | rfl | rfl | rfl | rfl | rfl | rfl | rfl
    · cases hl
    · cases hl
    · cases hl
    · cases hl
    · cases hl
    · cases hl
    · cases hl
    · cases hl
    · cases hl
    · cases hl
    · cases hl
    · cases hl
    · cases hl
    · exact h
    · obtain ⟨o', ho', _, _, _, hds⟩ := T.t14
      obtain rfl : o' = o := by rw [ho] at ho'; exact (Option.some.inj ho').symm
      have : false = true := deps_listed hds hdep 13 (by simp)
      cases this
theorem only14 {ops : Array Oper} (T : Tab15 ops) {Q : Exit → Act → World → Prop} {n : Nat} {a : Act} {W : World} (h : wpOp Try.prog ops Q 14 (wpAny Try.prog .any ops Q n (#[true, true, true, true, true, true, true, true, true, true, true, true, true, true, false].setIfInBounds 14 true)) a W) : wpAny Try.prog .any ops Q (n + 1) #[true, true, true, true, true, true, true, true, true, true, true, true, true, true, false] a W := by
  refine ⟨fun h0 => ?_, fun i hi => ?_⟩
  · obtain ⟨j, hj⟩ := ready_ex (md := .any) (ops := ops) (listed := #[true, true, true, true, true, true, true, true, true, true, true, true, true, true, false]) (by rw [T.size]; rfl) T.back 14 (by rw [T.size]; omega) rfl
    rw [h0] at hj
    cases hj
  · obtain ⟨hl, o, ho, hdep⟩ := mem_ready.1 hi
    have hi15 : i < 15 := by
      rcases Nat.lt_or_ge i 15 with h' | h'
      · exact h'
      · simp [Array.getD, Nat.not_lt.2 h'] at hl
    have hcs : i = 0 ∨ i = 1 ∨ i = 2 ∨ i = 3 ∨ i = 4 ∨ i = 5 ∨ i = 6 ∨ i = 7 ∨ i = 8 ∨ i = 9 ∨ i = 10 ∨ i = 11 ∨ i = 12 ∨ i = 13 ∨ i = 14 := by omega
    rcases hcs with rfl | rfl | rfl | rfl | rfl | rfl | rfl | rfl | rfl | rfl | rfl | rfl | rfl | rfl | rfl
    · cases hl
    · cases hl
    · cases hl
    · cases hl
    · cases hl
    · cases hl
    · cases hl
    · cases hl
    · cases hl
    · cases hl
    · cases hl
    · cases hl
    · cases hl
    · cases hl
    · exact h

/-- the four that come behind all others, in their order. -/
theorem tail15 {ops : Array Oper} (T : Tab15 ops) {Q : Exit → Act → World → Prop} (v0 v2 v5 v7 v8 s18 s19 s20 : Value) (r s : Int) (A B : Nat) (s9 s10 s11 s12 s13 s14 s15 s16 s17 : Value) (mb : Nat) (W : World) (h9 : s9 = .map (some mb))
    (HQ : Q .normal (fr15 v0 v2 v5 v7 (.pointer (some ⟨W.heap.size, 0, none⟩)) (.map (some mb)) (.agg (dcells mb)) (.pointer (some ⟨W.heap.size, 0, none⟩)) r s A B s9 s10 s11 s12 s13 s14 s15 s16 s17) (W.alloc (.cells (dcells mb) 76))) :
    wpAny Try.prog .any ops Q 4 #[true, true, true, true, true, true, true, true, true, true, true, false, false, false, false] (fr15 v0 v2 v5 v7 v8 s18 s19 s20 r s A B s9 s10 s11 s12 s13 s14 s15 s16 s17) W := by
  subst h9
  obtain ⟨o1, ho1, hop1, hdst1, hgd1, _⟩ := T.t11
  obtain ⟨o2, ho2, hop2, hdst2, hgd2, _⟩ := T.t12
  obtain ⟨o3, ho3, hop3, hdst3, hgd3, _⟩ := T.t13
  obtain ⟨o4, ho4, hop4, hdst4, hgd4, _⟩ := T.t14
  refine only11 T (wpOp_value ho1 hgd1 (BigFrame.run_move _ hop1 W) ?_)
  rw [hdst1]
  refine only12 T (wpOp_value ho2 hgd2 (exec_build76 (mb := mb) hop2 rfl W) ?_)
  rw [hdst2]
  refine only13 T (wpOp_value ho3 hgd3 (exec_box76 (mb := mb) hop3 rfl W) ?_)
  rw [hdst3]
  refine only14 T (wpOp_value ho4 hgd4 (BigFrame.run_assign _ hop4 _) ?_)
  rw [hdst4]
  refine ⟨?_, HQ⟩
  rw [List.eq_nil_iff_forall_not_mem]
  intro i hi
  obtain ⟨hl, o, ho, hdep⟩ := mem_ready.1 hi
  have hi15 : i < 15 := by
    rcases Nat.lt_or_ge i 15 with h' | h'
    · exact h'
    · simp [Array.getD, Nat.not_lt.2 h'] at hl
  have hcs : i = 0 ∨ i = 1 ∨ i = 2 ∨ i = 3 ∨ i = 4 ∨ i = 5 ∨ i = 6 ∨ i = 7 ∨ i = 8 ∨ i = 9 ∨ i = 10 ∨ i = 11 ∨ i = 12 ∨ i = 13 ∨ i = 14 := by omega
  rcases hcs with rfl | rfl | rfl | rfl | rfl | rfl | rfl | rfl | rfl | rfl | rfl | rfl | rfl | rfl | rfl <;> cases hl

theorem Hid.mk2 {p : Prop} (h : p) : Hid p := h

theorem back_of {ops : Array Oper} (h : ((List.range ops.size).all fun i => (ops[i]?).all fun o => o.after.all fun e => decide (e.on < i)) = true) : ∀ (i : Nat) (o : Oper), ops[i]? = some o → ∀ e ∈ o.after, e.on < i := by
  intro i o ho e he
  have hi : i < ops.size := (Array.getElem?_eq_some_iff.1 ho).1
  have h1 := List.all_eq_true.1 h i (List.mem_range.2 hi)
  rw [ho] at h1
  have h2 := Array.all_eq_true_iff_forall_mem.1 h1 e he
  simpa using h2

/-- THE REGION, WHATEVER ITS ORDER. -/
theorem run15 {ops : Array Oper} (T : Tab15 ops) {Q : Exit → Act → World → Prop} (w0 : World) (A B : Nat) (xs ys : Array Value) (ka kb : Lit) (r s : Int) (hx : xs.size = 16) (hy : ys.size = 16)
    (hka : keyOf Try.prog 50 (.agg xs) = some ka) (hkb : keyOf Try.prog 50 (.agg ys) = some kb) (hne : ka ≠ kb) (v0 v2 v5 v7 v8 s18 s19 s20 s9 s10 s11 s12 s13 s14 s15 s16 s17 : Value) (W0 : World) (hbel : Below w0.heap.size w0 W0) (hA : W0.heap[A]? = some (.cells xs 22)) (hB : W0.heap[B]? = some (.cells ys 22))
    (HQ : ∀ (s9 s10 s11 s12 s13 s14 s15 s16 s17 : Value) (mb q1 q2 : Nat) (W : World), J15 w0 A B xs ys ka kb r s true true true true true true true true true true true s9 s10 s11 s12 s13 s14 s15 s16 s17 mb q1 q2 W →
      Q .normal (fr15 v0 v2 v5 v7 (.pointer (some ⟨W.heap.size, 0, none⟩)) (.map (some mb)) (.agg (dcells mb)) (.pointer (some ⟨W.heap.size, 0, none⟩)) r s A B s9 s10 s11 s12 s13 s14 s15 s16 s17) (W.alloc (.cells (dcells mb) 76))) :
    wpAny Try.prog .any ops Q 15 #[false, false, false, false, false, false, false, false, false, false, false, false, false, false, false] (fr15 v0 v2 v5 v7 v8 s18 s19 s20 r s A B s9 s10 s11 s12 s13 s14 s15 s16 s17) W0 := by
  refine mid15 T w0 A B xs ys ka kb r s hx hy hka hkb hne v0 v2 v5 v7 v8 s18 s19 s20 (fun s9 s10 s11 s12 s13 s14 s15 s16 s17 mb q1 q2 W h => ?_) 11 false false false false false false false false false false false s9 s10 s11 s12 s13 s14 s15 s16 s17 0 0 0 W0 ?_ rfl
  · exact tail15 T v0 v2 v5 v7 v8 s18 s19 s20 r s A B s9 s10 s11 s12 s13 s14 s15 s16 s17 mb W (h.c0 rfl).1 (HQ s9 s10 s11 s12 s13 s14 s15 s16 s17 mb q1 q2 W h)
  · exact ⟨hbel, hA, hB, (fun e => nomatch e), (fun e => nomatch e), (fun e => nomatch e), (fun e => nomatch e), (fun e => nomatch e), (fun e => nomatch e), (fun e => nomatch e), (fun e => nomatch e), (fun e => nomatch e), (fun e => nomatch e), (fun e => nomatch e), (fun e => nomatch e)⟩

set_option maxRecDepth 100000 in
set_option maxHeartbeats 1000000 in
/-- ZZnewDynamicQueries2 -/
theorem new2_any (a b : Nat → Value) (ka kb : Lit) (r s : Int) (w : World) (hne : ka ≠ kb) (ha : IsId (c16 a) ka) (hb : IsId (c16 b) kb) :
    Calls Try.prog 15 #[.agg (c16 a), .int .i64 r, .agg (c16 b), .int .i64 s] w fun e w' => ∃ (db mb qa qb : Nat) (D : DQ), e = .returned (.pointer (some ⟨db, 0, none⟩)) ∧ QSt w' db mb 2 D ∧
      (Maps.has D ka = true ∧ Maps.has D kb = true ∧ D.atKey ka (.held none) = .held (some ⟨qa, 0, none⟩) ∧ D.atKey kb (.held none) = .held (some ⟨qb, 0, none⟩) ∧ Maps.size D = 2) ∧
      (qa ≠ db ∧ qb ≠ db ∧ qa ≠ qb) ∧ (w'.cell? ⟨qa, 21, none⟩ = some (.int .i64 r) ∧ w'.frozen? ⟨qa, 21, none⟩ = false ∧ w'.cell? ⟨qb, 21, none⟩ = some (.int .i64 s) ∧ w'.frozen? ⟨qb, 21, none⟩ = false) ∧
      (w.heap.size ≤ db ∧ w.heap.size ≤ qa ∧ w.heap.size ≤ qb) ∧ Below w.heap.size w w' := by
  go_enter Try.func15, Try.ntmps15
  go_wp2
  have b0 : Below w.heap.size w ((w.alloc (.cells (c16 a) 22)).alloc (.cells (c16 b) 22)) := ((Below.refl _ _).alloc (Nat.le_refl _) _).alloc (by simp) _
  have hA0 : ((w.alloc (.cells (c16 a) 22)).alloc (.cells (c16 b) 22)).heap[w.heap.size]? = some (.cells (c16 a) 22) := heap_alloc2_old _ _ _
  have hB0 : ((w.alloc (.cells (c16 a) 22)).alloc (.cells (c16 b) 22)).heap[w.heap.size + 1]? = some (.cells (c16 b) 22) := heap_alloc2_new _ _ _
  refine wp_region_any (by kernel_rfl) ?_
  refine run15 ⟨rfl, back_of (by kernel_rfl), ⟨_, rfl, rfl, rfl, rfl, by kernel_rfl⟩, ⟨_, rfl, rfl, rfl, rfl, by kernel_rfl⟩, ⟨_, rfl, rfl, rfl, rfl, by kernel_rfl⟩, ⟨_, rfl, rfl, rfl, rfl, by kernel_rfl⟩, ⟨_, rfl, rfl, rfl, rfl, by kernel_rfl⟩, ⟨_, rfl, rfl, rfl, rfl, by kernel_rfl⟩, ⟨_, rfl, rfl, rfl, rfl, by kernel_rfl⟩, ⟨_, rfl, rfl, rfl, rfl, by kernel_rfl⟩, ⟨_, rfl, rfl, rfl, rfl, by kernel_rfl⟩, ⟨_, rfl, rfl, rfl, rfl, by kernel_rfl⟩, ⟨_, rfl, rfl, rfl, rfl, by kernel_rfl⟩, ⟨_, rfl, rfl, rfl, rfl, by kernel_rfl⟩, ⟨_, rfl, rfl, rfl, rfl, by kernel_rfl⟩, ⟨_, rfl, rfl, rfl, rfl, by kernel_rfl⟩, ⟨_, rfl, rfl, rfl, rfl, by kernel_rfl⟩⟩ w w.heap.size (w.heap.size + 1) (c16 a) (c16 b) ka kb r s rfl rfl ha.2.2 hb.2.2 hne _ _ _ _ _ _ _ _ _ _ _ _ _ _ _ _ _ _ ⟨b0.os, b0.tape, b0.output, b0.size, b0.block⟩ hA0 hB0 ?_
  intro s9 s10 s11 s12 s13 s14 s15 s16 s17 mb q1 q2 W h
  have HJ := Hid.mk2 h
  clear h
  go_wp2
  go_ret
  obtain ⟨_, gm, D, g1, g2, g3, g4, g5, g6, g7, g8⟩ := HJ.out.c0 rfl
  obtain ⟨_, hq1, lq1⟩ := HJ.out.c4 rfl
  obtain ⟨_, hq2, lq2⟩ := HJ.out.c9 rfl
  have z1 := lt_of_blk hq1
  have z2 := lt_of_blk hq2
  have zm := g3.lt
  have hs := HJ.out.bel.size
  have hbz := (Below.refl W.heap.size W).alloc (Nat.le_refl _) (.cells (dcells mb) 76)
  have k1 := (hbz.block q1 z1).trans hq1
  have k2 := (hbz.block q2 z2).trans hq2
  exact ⟨W.heap.size, mb, q1, q2, D, rfl, ⟨by simp, by simp, by simp, by omega, g3.alloc _⟩, ⟨g4, g5, g6 rfl, g7 rfl, g8⟩, ⟨by omega, by omega, HJ.out.cq rfl rfl⟩, ⟨by simp [World.cell?, k1], by simp [World.frozen?, k1], by simp [World.cell?, k2], by simp [World.frozen?, k2]⟩, ⟨hs, lq1, lq2⟩, HJ.out.bel.trans (hbz.mono hs)⟩
end Go.Proofs.Qxb6606016a
