import Derived.Test.Qxb6606016aIds
import Derived.RegionTactic
import Derived.ChangeAlike
import Derived.BigRegion
import Derived.Deep.QuietTactic
import Derived.BigQuiet
namespace Go.Proofs.Qxb6606016a
open Go.RowKit Go.MuLone
set_option linter.unusedVariables false

/-- WHAT THE CALLS ON o LEAVE ALONE: every block that was there but o's own and its map's. -/
structure Kept (ob : Nat) (m : Option Nat) (w w' : World) : Prop where
  os : w'.os = w.os
  tape : w'.tape = w.tape
  output : w'.output = w.output
  size : w.heap.size ≤ w'.heap.size
  block : ∀ k, k < w.heap.size → k ≠ ob → m ≠ some k → w'.heap[k]? = w.heap[k]?

/-- THE *ownSearches AT BLOCK ob: the lock free; the map m reads as D, of at most n entries. -/
structure OSt (w : World) (ob : Nat) (m : Option Nat) (n : Nat) (D : DC) : Prop where
  c4 : w.cell? ⟨ob, 4, none⟩ = some (.int .i32 0)
  f4 : w.frozen? ⟨ob, 4, none⟩ = false
  c6 : w.cell? ⟨ob, 6, none⟩ = some (.map m)
  f6 : w.frozen? ⟨ob, 6, none⟩ = false
  mp : (m = none ∧ D = .map []) ∨ ∃ mb, m = some mb ∧ ob < mb ∧ w.ownsMap Try.prog 50 chanElem mb n D

theorem blk_lt {w : World} {a : Addr} {v : Value} (h : w.cell? a = some v) : a.block < w.heap.size := by
  rcases Nat.lt_or_ge a.block w.heap.size with hlt | hge
  · exact hlt
  · simp [World.cell?, Array.getElem?_eq_none hge] at h
theorem cell_of_blk {w w' : World} {a : Addr} (h : w'.heap[a.block]? = w.heap[a.block]?) : w'.cell? a = w.cell? a := World.cell?_of_block (w := w) h
theorem frozen_of_blk {w w' : World} {a : Addr} (h : w'.heap[a.block]? = w.heap[a.block]?) : w'.frozen? a = w.frozen? a := World.frozen?_of_block (w := w) h

set_option maxRecDepth 100000 in
set_option maxHeartbeats 1000000 in
theorem start_some (ob mb n : Nat) (a : Nat → Value) (D : DC) (kl : Lit) (w : World) (hid : IsId (c16 a) kl)
    (c4 : w.cell? ⟨ob, 4, none⟩ = some (.int .i32 0)) (f4 : w.frozen? ⟨ob, 4, none⟩ = false) (c6 : w.cell? ⟨ob, 6, none⟩ = some (.map (some mb)))
    (hne : mb ≠ ob) (hob : ob < w.heap.size) (hown : w.ownsMap Try.prog 50 chanElem mb n D) (hn : n < maxLen) :
    Calls Try.prog 28 #[.pointer (some ⟨ob, 0, none⟩), .agg (c16 a)] w fun e w' => e = .returned (.chan (some (w.heap.size + 1))) ∧ ∃ W3, W3.ownsMap Try.prog 50 chanElem mb (n + 1) (D.put kl (.held (some (w.heap.size + 1)))) ∧
      World.mapTurned (((w.setCell ⟨ob, 4, none⟩ (.int .i32 1)).alloc (.cells (c16 a) 50)).alloc (.chan 256 #[] false 0 0 false)).drew W3 mb ∧ w' = W3.setCell ⟨ob, 4, none⟩ (.int .i32 0) := by
  have q1 := fun (w : World) (r : Option Nat) => run_eql_map_nil (P := Try.prog) w 83 50 43 r Try.underlying83
  have q2 := mkChan
  go_enter_defers Try.func28, Try.ntmps28
  go_wp2_with fail
  have hbx := (Below.refl w.heap.size w).alloc (Nat.le_refl _) (.cells (c16 a) 50)
  refine (lock_free Try.muLib ⟨ob, 4, none⟩ _ ((hbx.cell (p := ⟨ob, 4, none⟩) hob).trans c4) ((hbx.frozen (p := ⟨ob, 4, none⟩) hob).trans f4)).mono ?_
  rintro e w' ⟨rfl, rfl⟩
  clear hbx
  go_wp2
  have hown2 : (((w.setCell ⟨ob, 4, none⟩ (.int .i32 1)).alloc (.cells (c16 a) 50)).alloc (.chan 256 #[] false 0 0 false)).drew.ownsMap Try.prog 50 chanElem mb n D := (((hown.setCell (a := ⟨ob, 4, none⟩) hne _).alloc _).alloc _).drew
  obtain ⟨W3, hrun, hown3, hturn⟩ := hown2.store (e := 43) law50 Try.underlying83 hn (key := .agg (c16 a)) (val := .chan (some (w.heap.size + 1))) (d := .held (some (w.heap.size + 1))) (ps := []) hid.2.2 rfl
  simp only [c16] at hrun
  have HO : Hid (W3.ownsMap Try.prog 50 chanElem mb (n + 1) (D.put kl (.held (some (w.heap.size + 1))))) := hown3
  have HT : Hid (World.mapTurned (((w.setCell ⟨ob, 4, none⟩ (.int .i32 1)).alloc (.cells (c16 a) 50)).alloc (.chan 256 #[] false 0 0 false)).drew W3 mb) := hturn
  clear hown2 hown3 hturn
  have e3 := HT.out.grown.block ob (by simp; omega) (by simp; omega)
  have hc3 : W3.cell? ⟨ob, 4, none⟩ = some (.int .i32 1) := by
    have hbx := ((Below.refl w.heap.size (w.setCell ⟨ob, 4, none⟩ (.int .i32 1))).alloc (by simp) (.cells (c16 a) 50)).alloc (by simp) (.chan 256 #[] false 0 0 false)
    rw [cell_of_blk (a := ⟨ob, 4, none⟩) e3]
    exact (hbx.cell (p := ⟨ob, 4, none⟩) hob).trans (World.cell?_setCell_same w ⟨ob, 4, none⟩ _ c4)
  have hf3 : W3.frozen? ⟨ob, 4, none⟩ = false := by
    have hbx := ((Below.refl w.heap.size (w.setCell ⟨ob, 4, none⟩ (.int .i32 1))).alloc (by simp) (.cells (c16 a) 50)).alloc (by simp) (.chan 256 #[] false 0 0 false)
    rw [frozen_of_blk (a := ⟨ob, 4, none⟩) e3]
    exact (hbx.frozen (p := ⟨ob, 4, none⟩) hob).trans ((World.frozen?_setCell _ _ _ _).trans f4)
  clear e3
  go_region
  go_wp2
  refine leaves_cons (f := 31) (args := #[.pointer (some ⟨ob, 4, none⟩)]) (by simp) (by simp [go_sem]) ?_
  refine (unlock_deferred Try.muLib ⟨ob, 4, none⟩ .returning _ hc3 hf3).mono ?_
  rintro e u' w'' ⟨rfl, rfl, rfl⟩
  exact ⟨_, results_tmp rfl _ _ _, rfl, W3, HO.out, HT.out, rfl⟩
end Go.Proofs.Qxb6606016a
