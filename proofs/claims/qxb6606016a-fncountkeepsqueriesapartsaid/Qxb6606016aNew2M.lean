import Derived.Test.Qxb6606016aNew2J
namespace Go.Proofs.Qxb6606016a
open Go.RowKit Go.MuLone
set_option linter.unusedVariables false

/-- the region's rows, as they are written. -/
structure Tab15 (ops : Array Oper) : Prop where
  size : ops.size = 15
  back : ∀ (i : Nat) (o : Oper), ops[i]? = some o → ∀ e ∈ o.after, e.on < i
  t0 : RowAt ops 0 (.makeMap 61 none) (some 9) []
  t1 : RowAt ops 1 (.load 22 (.tmp 4)) (some 10) []
  t2 : RowAt ops 2 (.move (.tmp 1)) (some 11) []
  t3 : RowAt ops 3 (.build 60 #[(1, .tmp 11)]) (some 12) [2]
  t4 : RowAt ops 4 (.box 60 (.tmp 12)) (some 13) [3]
  t5 : RowAt ops 5 (.insert 61 (.tmp 9) (.tmp 10) (.tmp 13)) none [0, 1, 4]
  t6 : RowAt ops 6 (.load 22 (.tmp 6)) (some 14) []
  t7 : RowAt ops 7 (.move (.tmp 3)) (some 15) []
  t8 : RowAt ops 8 (.build 60 #[(1, .tmp 15)]) (some 16) [7]
  t9 : RowAt ops 9 (.box 60 (.tmp 16)) (some 17) [8]
  t10 : RowAt ops 10 (.insert 61 (.tmp 9) (.tmp 14) (.tmp 17)) none [0, 6, 9]
  t11 : RowAt ops 11 (.move (.tmp 9)) (some 18) [0, 1, 2, 3, 4, 5, 6, 7, 8, 9, 10]
  t12 : RowAt ops 12 (.build 76 #[(1, .tmp 18)]) (some 19) [11]
  t13 : RowAt ops 13 (.box 76 (.tmp 19)) (some 20) [12]
  t14 : RowAt ops 14 (.assign (.tmp 20)) (some 8) [13]

set_option maxRecDepth 100000 in
set_option maxHeartbeats 1000000 in
theorem mid15 {ops : Array Oper} (T : Tab15 ops) {Q : Exit → Act → World → Prop} (w0 : World) (A B : Nat) (xs ys : Array Value) (ka kb : Lit) (r s : Int) (hx : xs.size = 16) (hy : ys.size = 16)
    (hka : keyOf Try.prog 50 (.agg xs) = some ka) (hkb : keyOf Try.prog 50 (.agg ys) = some kb) (hne : ka ≠ kb) (v0 v2 v5 v7 v8 s18 s19 s20 : Value)
    (HQ : ∀ (s9 s10 s11 s12 s13 s14 s15 s16 s17 : Value) (mb q1 q2 : Nat) (W : World), J15 w0 A B xs ys ka kb r s true true true true true true true true true true true s9 s10 s11 s12 s13 s14 s15 s16 s17 mb q1 q2 W → wpAny Try.prog .any ops Q 4 #[true, true, true, true, true, true, true, true, true, true, true, false, false, false, false] (fr15 v0 v2 v5 v7 v8 s18 s19 s20 r s A B s9 s10 s11 s12 s13 s14 s15 s16 s17) W) :
    ∀ (fuel : Nat) (f0 f1 f2 f3 f4 f5 f6 f7 f8 f9 f10 : Bool) (s9 s10 s11 s12 s13 s14 s15 s16 s17 : Value) (mb q1 q2 : Nat) (W : World), J15 w0 A B xs ys ka kb r s f0 f1 f2 f3 f4 f5 f6 f7 f8 f9 f10 s9 s10 s11 s12 s13 s14 s15 s16 s17 mb q1 q2 W → fuel = cnt15 f0 f1 f2 f3 f4 f5 f6 f7 f8 f9 f10 → wpAny Try.prog .any ops Q (fuel + 4) #[f0, f1, f2, f3, f4, f5, f6, f7, f8, f9, f10, false, false, false, false] (fr15 v0 v2 v5 v7 v8 s18 s19 s20 r s A B s9 s10 s11 s12 s13 s14 s15 s16 s17) W := by
  have hkla : WideAt.IsKeyLit ka := law50.key hka
  have hklb : WideAt.IsKeyLit kb := law50.key hkb
  intro fuel
  induction fuel with
  | zero =>
    intro f0 f1 f2 f3 f4 f5 f6 f7 f8 f9 f10 s9 s10 s11 s12 s13 s14 s15 s16 s17 mb q1 q2 W h hc
    unfold cnt15 at hc
    have all : f0 = true ∧ f1 = true ∧ f2 = true ∧ f3 = true ∧ f4 = true ∧ f5 = true ∧ f6 = true ∧ f7 = true ∧ f8 = true ∧ f9 = true ∧ f10 = true := by
      refine ⟨?_, ?_, ?_, ?_, ?_, ?_, ?_, ?_, ?_, ?_, ?_⟩ <;> (rw [← Bool.not_eq_false]; rintro rfl; simp only [Bool.not_false, Bool.toNat_true] at hc; omega)
    obtain ⟨rfl, rfl, rfl, rfl, rfl, rfl, rfl, rfl, rfl, rfl, rfl⟩ := all
    exact HQ s9 s10 s11 s12 s13 s14 s15 s16 s17 mb q1 q2 W h
  | succ n ih =>
    intro f0 f1 f2 f3 f4 f5 f6 f7 f8 f9 f10 s9 s10 s11 s12 s13 s14 s15 s16 s17 mb q1 q2 W h hc
    rw [show n + 1 + 4 = (n + 4) + 1 from by omega]
    refine ⟨fun h0 => ?_, fun i hi => ?_⟩
    · obtain ⟨j, hj⟩ := ready_ex (md := .any) (ops := ops) (listed := #[f0, f1, f2, f3, f4, f5, f6, f7, f8, f9, f10, false, false, false, false]) (by rw [T.size]; rfl) T.back 14 (by rw [T.size]; omega) rfl
      rw [h0] at hj
      cases hj
    · obtain ⟨hl, o, ho, hdep⟩ := mem_ready.1 hi
      have hi15 : i < 15 := by
        rcases Nat.lt_or_ge i 15 with h' | h'
        · exact h'
        · simp [Array.getD, Nat.not_lt.2 h'] at hl
      have hcs : i = 0 ∨ i = 1 ∨ i = 2 ∨ i = 3 ∨ i = 4 ∨ i = 5 ∨ i = 6 ∨ i = 7 ∨ i = 8 ∨ i = 9 ∨ i = 10 ∨ i = 11 ∨ i = 12 ∨ i = 13 ∨ i = 14 := by omega
      rcases hcs with rfl | rfl | rfl | rfl | rfl | rfl | rfl | rfl | rfl | rfl | rfl | rfl | rfl | rfl | rfl
      · obtain ⟨o', ho', hop, hdst, hgd, hds⟩ := T.t0
        obtain rfl : o' = o := by rw [ho] at ho'; exact (Option.some.inj ho').symm
        have hl : f0 = false := hl
        subst hl
        have h' := h.grow (W' := W.alloc (.map #[] 0)) ((Below.refl _ _).alloc (Nat.le_refl _) _)
        obtain rfl : f5 = false := by rw [← Bool.not_eq_true]; exact fun e => absurd (h.d5 e).1 (by simp)
        obtain rfl : f10 = false := by rw [← Bool.not_eq_true]; exact fun e => absurd (h.d10 e).1 (by simp)
        refine wpOp_value ho hgd (exec_map hop W) ?_
        rw [hdst]
        exact ih true f1 f2 f3 f4 false f6 f7 f8 f9 false (.map (some W.heap.size)) s10 s11 s12 s13 s14 s15 s16 s17 W.heap.size q1 q2 (W.alloc (.map #[] 0)) ⟨h'.bel, h'.hA, h'.hB, (fun e => nomatch e), (fun e => nomatch e), fun _ => ⟨rfl, h.bel.size, ⟨.map [], Maps.isMap_empty, Maps.tidy_empty, World.ownsMap_made W Try.prog 50 ptrElem, rfl, rfl, (fun e => nomatch e), (fun e => nomatch e), rfl⟩⟩, h'.c1, h'.c2, h'.c3, h'.c4, h'.c6, h'.c7, h'.c8, h'.c9, h'.cq⟩ (by unfold cnt15 at hc ⊢; simp at hc ⊢; omega)
      · obtain ⟨o', ho', hop, hdst, hgd, hds⟩ := T.t1
        obtain rfl : o' = o := by rw [ho] at ho'; exact (Option.some.inj ho').symm
        have hl : f1 = false := hl
        subst hl
        refine wpOp_value ho hgd (exec_load hop rfl hx h.hA) ?_
        rw [hdst]
        exact ih f0 true f2 f3 f4 f5 f6 f7 f8 f9 f10 s9 (.agg xs) s11 s12 s13 s14 s15 s16 s17 mb q1 q2 W ⟨h.bel, h.hA, h.hB, h.d5, h.d10, h.c0, fun _ => rfl, h.c2, h.c3, h.c4, h.c6, h.c7, h.c8, h.c9, h.cq⟩ (by unfold cnt15 at hc ⊢; simp at hc ⊢; omega)
      · obtain ⟨o', ho', hop, hdst, hgd, hds⟩ := T.t2
        obtain rfl : o' = o := by rw [ho] at ho'; exact (Option.some.inj ho').symm
        have hl : f2 = false := hl
        subst hl
        refine wpOp_value ho hgd (BigFrame.run_move _ hop W) ?_
        rw [hdst]
        exact ih f0 f1 true f3 f4 f5 f6 f7 f8 f9 f10 s9 s10 (.int .i64 r) s12 s13 s14 s15 s16 s17 mb q1 q2 W ⟨h.bel, h.hA, h.hB, h.d5, h.d10, h.c0, h.c1, fun _ => rfl, h.c3, h.c4, h.c6, h.c7, h.c8, h.c9, h.cq⟩ (by unfold cnt15 at hc ⊢; simp at hc ⊢; omega)
      · obtain ⟨o', ho', hop, hdst, hgd, hds⟩ := T.t3
        obtain rfl : o' = o := by rw [ho] at ho'; exact (Option.some.inj ho').symm
        have hl : f3 = false := hl
        subst hl
        have e2 : f2 = true := deps_listed hds hdep 2 (by simp)
        refine wpOp_value ho hgd (exec_build hop (h.c2 e2) W) ?_
        rw [hdst]
        exact ih f0 f1 f2 true f4 f5 f6 f7 f8 f9 f10 s9 s10 s11 (.agg (qcells r)) s13 s14 s15 s16 s17 mb q1 q2 W ⟨h.bel, h.hA, h.hB, h.d5, h.d10, h.c0, h.c1, h.c2, fun _ => rfl, h.c4, h.c6, h.c7, h.c8, h.c9, h.cq⟩ (by unfold cnt15 at hc ⊢; simp at hc ⊢; omega)
      · obtain ⟨o', ho', hop, hdst, hgd, hds⟩ := T.t4
        obtain rfl : o' = o := by rw [ho] at ho'; exact (Option.some.inj ho').symm
        have hl : f4 = false := hl
        subst hl
        have e3 : f3 = true := deps_listed hds hdep 3 (by simp)
        have h' := h.grow (W' := W.alloc (.cells (qcells r) 60)) ((Below.refl _ _).alloc (Nat.le_refl _) _)
        obtain rfl : f5 = false := by rw [← Bool.not_eq_true]; exact fun e => absurd (h.d5 e).2 (by simp)
        refine wpOp_value ho hgd (exec_box hop (h.c3 e3) W) ?_
        rw [hdst]
        exact ih f0 f1 f2 f3 true false f6 f7 f8 f9 f10 s9 s10 s11 s12 (.pointer (some ⟨W.heap.size, 0, none⟩)) s14 s15 s16 s17 mb W.heap.size q2 (W.alloc (.cells (qcells r) 60)) ⟨h'.bel, h'.hA, h'.hB, (fun e => nomatch e), h'.d10, fun e => ⟨(h'.c0 e).1, (h'.c0 e).2.1, by obtain ⟨D, g1, g2, g3, g4, g5, g6, g7⟩ := (h'.c0 e).2.2; exact ⟨D, g1, g2, g3, g4, g5, (fun e => nomatch e), g7⟩⟩, h'.c1, h'.c2, h'.c3, fun _ => ⟨rfl, heap_alloc_new W _, h.bel.size⟩, h'.c6, h'.c7, h'.c8, h'.c9, fun _ e => by have := lt_of_blk (h.c9 e).2.1; omega⟩ (by unfold cnt15 at hc ⊢; simp at hc ⊢; omega)
      · obtain ⟨o', ho', hop, hdst, hgd, hds⟩ := T.t5
        obtain rfl : o' = o := by rw [ho] at ho'; exact (Option.some.inj ho').symm
        have hl : f5 = false := hl
        subst hl
        have e0 : f0 = true := deps_listed hds hdep 0 (by simp)
        have e1 : f1 = true := deps_listed hds hdep 1 (by simp)
        have e4 : f4 = true := deps_listed hds hdep 4 (by simp)
        obtain ⟨g0, gm, D, g1, g2, g3, g4, g5, g6, g7, g8⟩ := h.c0 e0
        obtain ⟨W', i1, i2, i3, i4⟩ := ins15 (q := q1) g3 (by cases f10 <;> simp [maxLen]) hka
        refine wpOp_skip ho hgd (exec_insert hop g0 (h.c1 e1) (h.c4 e4).1 i1) ?_
        rw [hdst]
        exact ih f0 f1 f2 f3 f4 true f6 f7 f8 f9 f10 s9 s10 s11 s12 s13 s14 s15 s16 s17 mb q1 q2 W' ⟨i4 w0 h.bel gm, i3 _ _ _ h.hA, i3 _ _ _ h.hB, fun _ => ⟨e0, e4⟩, h.d10, fun _ => ⟨g0, gm, D.put ka (.held (some ⟨q1, 0, none⟩)), g1.put _ _, g2.put hkla _, by simpa [Nat.add_comm] using i2, Maps.has_put_same g1 hkla _, (Maps.has_put_other (Ne.symm hne) _).trans g5, fun _ => Maps.atKey_put_same g1 hkla _ _, fun e => (Maps.atKey_put_other (Ne.symm hne) _ _).trans (g7 e), by rw [Maps.size_put g2, g4, g8]; simp [Nat.add_comm]⟩, h.c1, h.c2, h.c3, fun e => ⟨(h.c4 e).1, i3 _ _ _ (h.c4 e).2.1, (h.c4 e).2.2⟩, h.c6, h.c7, h.c8, fun e => ⟨(h.c9 e).1, i3 _ _ _ (h.c9 e).2.1, (h.c9 e).2.2⟩, h.cq⟩ (by unfold cnt15 at hc ⊢; simp at hc ⊢; omega)
      · obtain ⟨o', ho', hop, hdst, hgd, hds⟩ := T.t6
        obtain rfl : o' = o := by rw [ho] at ho'; exact (Option.some.inj ho').symm
        have hl : f6 = false := hl
        subst hl
        refine wpOp_value ho hgd (exec_load hop rfl hy h.hB) ?_
        rw [hdst]
        exact ih f0 f1 f2 f3 f4 f5 true f7 f8 f9 f10 s9 s10 s11 s12 s13 (.agg ys) s15 s16 s17 mb q1 q2 W ⟨h.bel, h.hA, h.hB, h.d5, h.d10, h.c0, h.c1, h.c2, h.c3, h.c4, fun _ => rfl, h.c7, h.c8, h.c9, h.cq⟩ (by unfold cnt15 at hc ⊢; simp at hc ⊢; omega)
      · obtain ⟨o', ho', hop, hdst, hgd, hds⟩ := T.t7
        obtain rfl : o' = o := by rw [ho] at ho'; exact (Option.some.inj ho').symm
        have hl : f7 = false := hl
        subst hl
        refine wpOp_value ho hgd (BigFrame.run_move _ hop W) ?_
        rw [hdst]
        exact ih f0 f1 f2 f3 f4 f5 f6 true f8 f9 f10 s9 s10 s11 s12 s13 s14 (.int .i64 s) s16 s17 mb q1 q2 W ⟨h.bel, h.hA, h.hB, h.d5, h.d10, h.c0, h.c1, h.c2, h.c3, h.c4, h.c6, fun _ => rfl, h.c8, h.c9, h.cq⟩ (by unfold cnt15 at hc ⊢; simp at hc ⊢; omega)
      · obtain ⟨o', ho', hop, hdst, hgd, hds⟩ := T.t8
        obtain rfl : o' = o := by rw [ho] at ho'; exact (Option.some.inj ho').symm
        have hl : f8 = false := hl
        subst hl
        have e7 : f7 = true := deps_listed hds hdep 7 (by simp)
        refine wpOp_value ho hgd (exec_build hop (h.c7 e7) W) ?_
        rw [hdst]
        exact ih f0 f1 f2 f3 f4 f5 f6 f7 true f9 f10 s9 s10 s11 s12 s13 s14 s15 (.agg (qcells s)) s17 mb q1 q2 W ⟨h.bel, h.hA, h.hB, h.d5, h.d10, h.c0, h.c1, h.c2, h.c3, h.c4, h.c6, h.c7, fun _ => rfl, h.c9, h.cq⟩ (by unfold cnt15 at hc ⊢; simp at hc ⊢; omega)
      · obtain ⟨o', ho', hop, hdst, hgd, hds⟩ := T.t9
        obtain rfl : o' = o := by rw [ho] at ho'; exact (Option.some.inj ho').symm
        have hl : f9 = false := hl
        subst hl
        have e8 : f8 = true := deps_listed hds hdep 8 (by simp)
        have h' := h.grow (W' := W.alloc (.cells (qcells s) 60)) ((Below.refl _ _).alloc (Nat.le_refl _) _)
        obtain rfl : f10 = false := by rw [← Bool.not_eq_true]; exact fun e => absurd (h.d10 e).2 (by simp)
        refine wpOp_value ho hgd (exec_box hop (h.c8 e8) W) ?_
        rw [hdst]
        exact ih f0 f1 f2 f3 f4 f5 f6 f7 f8 true false s9 s10 s11 s12 s13 s14 s15 s16 (.pointer (some ⟨W.heap.size, 0, none⟩)) mb q1 W.heap.size (W.alloc (.cells (qcells s) 60)) ⟨h'.bel, h'.hA, h'.hB, h'.d5, (fun e => nomatch e), fun e => ⟨(h'.c0 e).1, (h'.c0 e).2.1, by obtain ⟨D, g1, g2, g3, g4, g5, g6, g7, g8⟩ := (h'.c0 e).2.2; exact ⟨D, g1, g2, g3, g4, g5, g6, (fun e => nomatch e), g8⟩⟩, h'.c1, h'.c2, h'.c3, h'.c4, h'.c6, h'.c7, h'.c8, fun _ => ⟨rfl, heap_alloc_new W _, h.bel.size⟩, fun e _ => by have := lt_of_blk (h.c4 e).2.1; omega⟩ (by unfold cnt15 at hc ⊢; simp at hc ⊢; omega)
      · obtain ⟨o', ho', hop, hdst, hgd, hds⟩ := T.t10
        obtain rfl : o' = o := by rw [ho] at ho'; exact (Option.some.inj ho').symm
        have hl : f10 = false := hl
        subst hl
        have e0 : f0 = true := deps_listed hds hdep 0 (by simp)
        have e6 : f6 = true := deps_listed hds hdep 6 (by simp)
        have e9 : f9 = true := deps_listed hds hdep 9 (by simp)
        obtain ⟨g0, gm, D, g1, g2, g3, g4, g5, g6, g7, g8⟩ := h.c0 e0
        obtain ⟨W', i1, i2, i3, i4⟩ := ins15 (q := q2) g3 (by cases f5 <;> simp [maxLen]) hkb
        refine wpOp_skip ho hgd (exec_insert hop g0 (h.c6 e6) (h.c9 e9).1 i1) ?_
        rw [hdst]
        exact ih f0 f1 f2 f3 f4 f5 f6 f7 f8 f9 true s9 s10 s11 s12 s13 s14 s15 s16 s17 mb q1 q2 W' ⟨i4 w0 h.bel gm, i3 _ _ _ h.hA, i3 _ _ _ h.hB, h.d5, fun _ => ⟨e0, e9⟩, fun _ => ⟨g0, gm, D.put kb (.held (some ⟨q2, 0, none⟩)), g1.put _ _, g2.put hklb _, by simpa [Nat.add_comm] using i2, (Maps.has_put_other hne _).trans g4, Maps.has_put_same g1 hklb _, fun e => (Maps.atKey_put_other hne _ _).trans (g6 e), fun _ => Maps.atKey_put_same g1 hklb _ _, by rw [Maps.size_put g2, g5, g8]; simp⟩, h.c1, h.c2, h.c3, fun e => ⟨(h.c4 e).1, i3 _ _ _ (h.c4 e).2.1, (h.c4 e).2.2⟩, h.c6, h.c7, h.c8, fun e => ⟨(h.c9 e).1, i3 _ _ _ (h.c9 e).2.1, (h.c9 e).2.2⟩, h.cq⟩ (by unfold cnt15 at hc ⊢; simp at hc ⊢; omega)
      · obtain ⟨o', ho', hop, hdst, hgd, hds⟩ := T.t11
        obtain rfl : o' = o := by rw [ho] at ho'; exact (Option.some.inj ho').symm
        exfalso
        obtain rfl : f0 = true := deps_listed hds hdep 0 (by simp)
        obtain rfl : f1 = true := deps_listed hds hdep 1 (by simp)
        obtain rfl : f2 = true := deps_listed hds hdep 2 (by simp)
        obtain rfl : f3 = true := deps_listed hds hdep 3 (by simp)
        obtain rfl : f4 = true := deps_listed hds hdep 4 (by simp)
        obtain rfl : f5 = true := deps_listed hds hdep 5 (by simp)
        obtain rfl : f6 = true := deps_listed hds hdep 6 (by simp)
        obtain rfl : f7 = true := deps_listed hds hdep 7 (by simp)
        obtain rfl : f8 = true := deps_listed hds hdep 8 (by simp)
        obtain rfl : f9 = true := deps_listed hds hdep 9 (by simp)
        obtain rfl : f10 = true := deps_listed hds hdep 10 (by simp)
        unfold cnt15 at hc
        simp at hc
      · obtain ⟨o', ho', hop, hdst, hgd, hds⟩ := T.t12
        obtain rfl : o' = o := by rw [ho] at ho'; exact (Option.some.inj ho').symm
        have : false = true := deps_listed hds hdep 11 (by simp)
        cases this
      · obtain ⟨o', ho', hop, hdst, hgd, hds⟩ := T.t13
        obtain rfl : o' = o := by rw [ho] at ho'; exact (Option.some.inj ho').symm
        have : false = true := deps_listed hds hdep 12 (by simp)
        cases this
      · obtain ⟨o', ho', hop, hdst, hgd, hds⟩ := T.t14
        obtain rfl : o' = o := by rw [ho] at ho'; exact (Option.some.inj ho').symm
        have : false = true := deps_listed hds hdep 13 (by simp)
        cases this
end Go.Proofs.Qxb6606016a
