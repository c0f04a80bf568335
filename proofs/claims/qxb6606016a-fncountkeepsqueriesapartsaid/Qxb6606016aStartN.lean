import Derived.Test.Qxb6606016aStart
namespace Go.Proofs.Qxb6606016a
open Go.RowKit Go.MuLone
set_option linter.unusedVariables false

set_option maxRecDepth 100000 in
set_option maxHeartbeats 1000000 in
theorem start_none (ob : Nat) (a : Nat → Value) (kl : Lit) (w : World) (hid : IsId (c16 a) kl)
    (c4 : w.cell? ⟨ob, 4, none⟩ = some (.int .i32 0)) (f4 : w.frozen? ⟨ob, 4, none⟩ = false) (c6 : w.cell? ⟨ob, 6, none⟩ = some (.map none)) (f6 : w.frozen? ⟨ob, 6, none⟩ = false)
    (hob : ob < w.heap.size) :
    Calls Try.prog 28 #[.pointer (some ⟨ob, 0, none⟩), .agg (c16 a)] w fun e w' => e = .returned (.chan (some (w.heap.size + 1 + 1))) ∧ ∃ W3, W3.ownsMap Try.prog 50 chanElem (w.heap.size + 1) 1 ((DataW.map []).put kl (.held (some (w.heap.size + 1 + 1)))) ∧
      World.mapTurned (((((w.setCell ⟨ob, 4, none⟩ (.int .i32 1)).setCell ⟨ob, 6, none⟩ (.map (some (w.heap.size + 1)))).alloc (.cells (c16 a) 50)).alloc (.map #[] 0)).alloc (.chan 256 #[] false 0 0 false)).drew W3 (w.heap.size + 1) ∧ w' = W3.setCell ⟨ob, 4, none⟩ (.int .i32 0) := by
  have q1 := fun (w : World) (r : Option Nat) => run_eql_map_nil (P := Try.prog) w 83 50 43 r Try.underlying83
  have q2 := mkChan
  have q3 := @run_makeMap Try.prog
  go_enter_defers Try.func28, Try.ntmps28
  go_wp2_with fail
  have hbx := (Below.refl w.heap.size w).alloc (Nat.le_refl _) (.cells (c16 a) 50)
  refine (lock_free Try.muLib ⟨ob, 4, none⟩ _ ((hbx.cell (p := ⟨ob, 4, none⟩) hob).trans c4) ((hbx.frozen (p := ⟨ob, 4, none⟩) hob).trans f4)).mono ?_
  rintro e w' ⟨rfl, rfl⟩
  clear hbx
  go_wp2
  have hown2 : (((((w.setCell ⟨ob, 4, none⟩ (.int .i32 1)).setCell ⟨ob, 6, none⟩ (.map (some (w.heap.size + 1)))).alloc (.cells (c16 a) 50)).alloc (.map #[] 0)).alloc (.chan 256 #[] false 0 0 false)).drew.ownsMap Try.prog 50 chanElem (w.heap.size + 1) 0 (.map []) := by
    have h := World.ownsMap_made (((w.setCell ⟨ob, 4, none⟩ (.int .i32 1)).setCell ⟨ob, 6, none⟩ (.map (some (w.heap.size + 1)))).alloc (.cells (c16 a) 50)) Try.prog 50 chanElem
    simp only [World.size_alloc, World.size_setCell] at h
    exact (h.alloc _).drew
  obtain ⟨W3, hrun, hown3, hturn⟩ := hown2.store (e := 43) law50 Try.underlying83 (by unfold maxLen; omega) (key := .agg (c16 a)) (val := .chan (some (w.heap.size + 1 + 1))) (d := .held (some (w.heap.size + 1 + 1))) (ps := []) hid.2.2 rfl
  simp only [c16] at hrun
  have HO : Hid (W3.ownsMap Try.prog 50 chanElem (w.heap.size + 1) (0 + 1) ((DataW.map []).put kl (.held (some (w.heap.size + 1 + 1))))) := hown3
  have HT : Hid (World.mapTurned (((((w.setCell ⟨ob, 4, none⟩ (.int .i32 1)).setCell ⟨ob, 6, none⟩ (.map (some (w.heap.size + 1)))).alloc (.cells (c16 a) 50)).alloc (.map #[] 0)).alloc (.chan 256 #[] false 0 0 false)).drew W3 (w.heap.size + 1)) := hturn
  clear hown2 hown3 hturn
  have e3 := HT.out.grown.block ob (by simp; omega) (by simp; omega)
  have hbx := (((Below.refl w.heap.size ((w.setCell ⟨ob, 4, none⟩ (.int .i32 1)).setCell ⟨ob, 6, none⟩ (.map (some (w.heap.size + 1))))).alloc (by simp) (.cells (c16 a) 50)).alloc (by simp) (.map #[] 0)).alloc (by simp; omega) (.chan 256 #[] false 0 0 false)
  have hc3 : W3.cell? ⟨ob, 4, none⟩ = some (.int .i32 1) := by
    rw [cell_of_blk (a := ⟨ob, 4, none⟩) e3]
    exact (hbx.cell (p := ⟨ob, 4, none⟩) hob).trans ((World.cell?_setCell_other _ ⟨ob, 6, none⟩ ⟨ob, 4, none⟩ _ (by simp)).trans (World.cell?_setCell_same w ⟨ob, 4, none⟩ _ c4))
  have hf3 : W3.frozen? ⟨ob, 4, none⟩ = false := by
    rw [frozen_of_blk (a := ⟨ob, 4, none⟩) e3]
    exact (hbx.frozen (p := ⟨ob, 4, none⟩) hob).trans ((World.frozen?_setCell _ _ _ _).trans ((World.frozen?_setCell _ _ _ _).trans f4))
  have hc6 : (((((w.setCell ⟨ob, 4, none⟩ (.int .i32 1)).setCell ⟨ob, 6, none⟩ (.map (some (w.heap.size + 1)))).alloc (.cells (c16 a) 50)).alloc (.map #[] 0)).alloc (.chan 256 #[] false 0 0 false)).cell? ⟨ob, 6, none⟩ = some (.map (some (w.heap.size + 1))) :=
    (hbx.cell (p := ⟨ob, 6, none⟩) hob).trans (World.cell?_setCell_same _ ⟨ob, 6, none⟩ _ ((World.cell?_setCell_other w ⟨ob, 4, none⟩ ⟨ob, 6, none⟩ _ (by simp)).trans c6))
  clear e3 hbx
  go_region
  go_wp2
  refine leaves_cons (f := 31) (args := #[.pointer (some ⟨ob, 4, none⟩)]) (by simp) (by simp [go_sem]) ?_
  refine (unlock_deferred Try.muLib ⟨ob, 4, none⟩ .returning _ hc3 hf3).mono ?_
  rintro e u' w'' ⟨rfl, rfl, rfl⟩
  exact ⟨_, results_tmp rfl _ _ _, rfl, W3, HO.out, HT.out, rfl⟩
end Go.Proofs.Qxb6606016a
