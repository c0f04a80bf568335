import Derived.Test.Qxb6606016aResults
namespace Go.Proofs.Qxb6606016a
open Go.RowKit Go.MuLone
set_option linter.unusedVariables false

/-- a new dynamicQuery's cells: all nought but its results. -/
abbrev qcells (r : Int) : Array Value := #[.int .u8 0, .int .u8 0, .int .u8 0, .int .u8 0, .int .u8 0, .int .u8 0, .int .u8 0, .int .u8 0, .int .u8 0, .int .u8 0, .int .u8 0, .int .u8 0, .int .u8 0, .int .u8 0, .int .u8 0, .int .u8 0, .int .u8 0, .int .u8 0, .int .u8 0, .int .u32 0, .slice none 0 0, .int .i64 r]

set_option maxRecDepth 100000 in
set_option maxHeartbeats 1000000 in
/-- ZZnewDynamicQueries1 -/
theorem new1_any (a : Nat → Value) (kl : Lit) (r : Int) (w : World) (hid : IsId (c16 a) kl) :
    Calls Try.prog 10 #[.agg (c16 a), .int .i64 r] w fun e w' => ∃ db mb qb, e = .returned (.pointer (some ⟨db, 0, none⟩)) ∧ QSt w' db mb 1 ((DataW.map []).put kl (.held (some ⟨qb, 0, none⟩))) ∧ qb ≠ db ∧
      w'.cell? ⟨qb, 21, none⟩ = some (.int .i64 r) ∧ w'.frozen? ⟨qb, 21, none⟩ = false ∧ w.heap.size ≤ db ∧ w.heap.size ≤ qb ∧ Below w.heap.size w w' := by
  have q3 := @run_makeMap Try.prog
  have hA2 : ((w.alloc (.cells (c16 a) 22)).alloc (.map #[] 0)).heap[w.heap.size]? = some (.cells (c16 a) 22) := heap_alloc2_old _ _ _
  have hown : (((w.alloc (.cells (c16 a) 22)).alloc (.map #[] 0)).alloc (.cells (qcells r) 60)).ownsMap Try.prog 50 ptrElem (w.heap.size + 1) 0 (.map []) := by
    have h := World.ownsMap_made (w.alloc (.cells (c16 a) 22)) Try.prog 50 ptrElem
    simp only [World.size_alloc] at h
    exact h.alloc _
  obtain ⟨W3, hrun, hown3, hturn⟩ := hown.store (e := 51) law50 Try.underlying61 (by unfold maxLen; omega) (key := .agg (c16 a)) (val := .pointer (some ⟨w.heap.size + 1 + 1, 0, none⟩)) (d := .held (some ⟨w.heap.size + 1 + 1, 0, none⟩)) (ps := []) hid.2.2 rfl
  simp only [qcells] at hrun
  have HO : Hid (W3.ownsMap Try.prog 50 ptrElem (w.heap.size + 1) (0 + 1) ((DataW.map []).put kl (.held (some ⟨w.heap.size + 1 + 1, 0, none⟩)))) := hown3
  have g := hturn.grown
  have hs3 : W3.heap.size = w.heap.size + 1 + 1 + 1 := by
    obtain ⟨es, cl, es', cl', _, e⟩ := hturn
    rw [e]
    simp [ChangeMaps.setBlock]
  have HS : Hid (W3.heap.size = w.heap.size + 1 + 1 + 1) := hs3
  have HG : Hid (World.grownBy (((w.alloc (.cells (c16 a) 22)).alloc (.map #[] 0)).alloc (.cells (qcells r) 60)) W3 (some (w.heap.size + 1))) := g
  clear hown hown3 hturn g hs3
  go_enter Try.func10, Try.ntmps10
  go_wp2_with (refine wpList_load_row rfl 22 _ rfl w.heap.size rfl 22 (c16 a) (0, 0) (.array 16 5) hA2 Try.underlying22 rfl (by kernel_rfl) ?_)
  go_ret
  have hs := HS.out
  have hsz3 : ((w.alloc (.cells (c16 a) 22)).alloc (.map #[] 0)).heap.size = w.heap.size + 1 + 1 := by simp
  have hq3 : W3.heap[w.heap.size + 1 + 1]? = some (.cells (qcells r) 60) := by
    rw [HG.out.block _ (by simp) (by simp)]
    have := heap_alloc_new ((w.alloc (.cells (c16 a) 22)).alloc (.map #[] 0)) (.cells (qcells r) 60)
    rwa [hsz3] at this
  refine ⟨_, w.heap.size + 1, w.heap.size + 1 + 1, rfl, ⟨by simp, by simp, by simp, by omega, HO.out.alloc _⟩, by omega, ?_, ?_, by omega, by omega, ?_⟩
  · have hbz := (Below.refl W3.heap.size W3).alloc (Nat.le_refl _) (.cells #[.int .i32 0, .int .u32 0, .map (some (w.heap.size + 1)), .int .u64 0, .int .u32 0] 76)
    refine (hbz.cell (p := ⟨w.heap.size + 1 + 1, 21, none⟩) (by show w.heap.size + 1 + 1 < _; omega)).trans ?_
    simp [World.cell?, hq3]
  · have hbz := (Below.refl W3.heap.size W3).alloc (Nat.le_refl _) (.cells #[.int .i32 0, .int .u32 0, .map (some (w.heap.size + 1)), .int .u64 0, .int .u32 0] 76)
    refine (hbz.frozen (p := ⟨w.heap.size + 1 + 1, 21, none⟩) (by show w.heap.size + 1 + 1 < _; omega)).trans ?_
    simp [World.frozen?, hq3]
  · have b3 : Below w.heap.size w (((w.alloc (.cells (c16 a) 22)).alloc (.map #[] 0)).alloc (.cells (qcells r) 60)) := (((Below.refl _ _).alloc (Nat.le_refl _) _).alloc (by simp) _).alloc (by simp; omega) _
    exact (b3.grown HG.out b3.size (fun k e => by cases e; omega)).alloc (by omega) _
end Go.Proofs.Qxb6606016a
