import Derived.Test.Qxb6606016aStartC
namespace Go.Proofs.Qxb6606016a
open Go.RowKit Go.MuLone
set_option linter.unusedVariables false

abbrev DQ := DataW (Option Addr)
/-- how a pointer among a map's elements reads: as itself. -/
def ptrElem : Value → Option (DQ × List MemPlace)
  | .pointer r => some (.held r, [])
  | _ => none
theorem ptrElem_inv {v : Value} {d : DQ} {ps : List MemPlace} (h : ptrElem v = some (d, ps)) : ∃ r, v = .pointer r ∧ d = .held r := by
  unfold ptrElem at h
  split at h
  · cases h; exact ⟨_, rfl, rfl⟩
  · cases h

/-- THE *dynamicQueries AT BLOCK db: the lock free; the map in block mb reads as D. -/
structure QSt (w : World) (db mb n : Nat) (D : DQ) : Prop where
  c0 : w.cell? ⟨db, 0, none⟩ = some (.int .i32 0)
  f0 : w.frozen? ⟨db, 0, none⟩ = false
  c2 : w.cell? ⟨db, 2, none⟩ = some (.map (some mb))
  ne : mb ≠ db
  own : w.ownsMap Try.prog 50 ptrElem mb n D

theorem QSt.lt {w : World} {db mb n : Nat} {D : DQ} (h : QSt w db mb n D) : db < w.heap.size := blk_lt h.c0
theorem QSt.keep {w w' : World} {db mb n : Nat} {D : DQ} (h : QSt w db mb n D) (h1 : w'.heap[db]? = w.heap[db]?) (h2 : w'.heap[mb]? = w.heap[mb]?) : QSt w' db mb n D := by
  refine ⟨(cell_of_blk (a := ⟨db, 0, none⟩) h1).trans h.c0, (frozen_of_blk (a := ⟨db, 0, none⟩) h1).trans h.f0, (cell_of_blk (a := ⟨db, 2, none⟩) h1).trans h.c2, h.ne, ?_⟩
  obtain ⟨es, clock, h3, r⟩ := h.own
  exact ⟨es, clock, h2.trans h3, r⟩
theorem QSt.alloc {w : World} {db mb n : Nat} {D : DQ} (h : QSt w db mb n D) (o : Obj) : QSt (w.alloc o) db mb n D := h.keep (Below.heap_alloc _ _ _ h.lt) (Below.heap_alloc _ _ _ h.own.lt)
theorem QSt.below {w w' : World} {db mb n : Nat} {D : DQ} (h : QSt w db mb n D) (hb : Below w.heap.size w w') : QSt w' db mb n D := h.keep (hb.block _ h.lt) (hb.block _ h.own.lt)
theorem QSt.look {w : World} {db mb n : Nat} {D : DQ} {key : Value} {kl : Lit} {r : Option Addr} (h : QSt w db mb n D) (hkey : keyOf Try.prog 50 key = some kl) (hat : D.atKey kl (.held none) = .held r) :
    (Instr.lookup 61 (.map (some mb)) key false).run Try.prog w = .ok (.pointer r) w := by
  obtain ⟨v, ps, hrun, hv⟩ := h.own.lookup law50 Try.underlying61 (Try.zeroValue51 w) (zd := .held none) (zp := []) rfl hkey
  obtain ⟨r', rfl, e⟩ := ptrElem_inv hv
  rw [hat] at e
  cases e
  exact hrun
theorem QSt.look_ok {w : World} {db mb n : Nat} {D : DQ} {key : Value} {kl : Lit} {r : Option Addr} (h : QSt w db mb n D) (hkey : keyOf Try.prog 50 key = some kl) (hat : D.atKey kl (.held none) = .held r) :
    (Instr.lookup 61 (.map (some mb)) key true).run Try.prog w = .ok (.tuple #[.pointer r, .bool (Maps.has D kl)]) w := by
  obtain ⟨v, ps, hrun, hv⟩ := h.own.look_ok law50 Try.underlying61 (Try.zeroValue51 w) (zd := .held none) (zp := []) rfl hkey
  obtain ⟨r', rfl, e⟩ := ptrElem_inv hv
  rw [hat] at e
  cases e
  exact hrun

set_option maxRecDepth 100000 in
set_option maxHeartbeats 1000000 in
theorem count_miss (db mb n : Nat) (a : Nat → Value) (D : DQ) (kl : Lit) (x : Int) (w : World) (hid : IsId (c16 a) kl) (h : QSt w db mb n D) (hat : D.atKey kl (.held none) = .held none) :
    Calls Try.prog 27 #[.pointer (some ⟨db, 0, none⟩), .agg (c16 a), .int .i64 x] w fun e w' => e = .returned (.tuple #[]) ∧ ∃ q, w' = ((((w.setCell ⟨db, 0, none⟩ (.int .i32 1)).alloc (.cells (c16 a) 50)).drewN q).setCell ⟨db, 0, none⟩ (.int .i32 0)) := by
  have hdb := h.lt
  have hne := h.ne
  have hl : ∀ q, (Instr.lookup 61 (.map (some mb)) (.agg (c16 a)) false).run Try.prog (((w.setCell ⟨db, 0, none⟩ (.int .i32 1)).alloc (.cells (c16 a) 50)).drewN q) = .ok (.pointer none) (((w.setCell ⟨db, 0, none⟩ (.int .i32 1)).alloc (.cells (c16 a) 50)).drewN q) := fun q => by
    have hown : (((w.setCell ⟨db, 0, none⟩ (.int .i32 1)).alloc (.cells (c16 a) 50)).drewN q).ownsMap Try.prog 50 ptrElem mb n D := (h.own.setCell (a := ⟨db, 0, none⟩) hne _).alloc _
    obtain ⟨v, ps, hrun, hv⟩ := hown.lookup law50 Try.underlying61 (Try.zeroValue51 _) (zd := .held none) (zp := []) rfl hid.2.2
    obtain ⟨r', rfl, e⟩ := ptrElem_inv hv
    rw [hat] at e
    cases e
    exact hrun
  simp only [c16] at hl
  have c0 := h.c0
  have f0 := h.f0
  have c2 := h.c2
  have hby := (Below.refl w.heap.size (w.setCell ⟨db, 0, none⟩ (.int .i32 1))).alloc (by simp) (.cells (c16 a) 50)
  have hc1 : ∀ q, (((w.setCell ⟨db, 0, none⟩ (.int .i32 1)).alloc (.cells (c16 a) 50)).drewN q).cell? ⟨db, 0, none⟩ = some (.int .i32 1) := fun q => (hby.cell (p := ⟨db, 0, none⟩) hdb).trans (World.cell?_setCell_same w ⟨db, 0, none⟩ _ c0)
  have hf1 : ∀ q, (((w.setCell ⟨db, 0, none⟩ (.int .i32 1)).alloc (.cells (c16 a) 50)).drewN q).frozen? ⟨db, 0, none⟩ = false := fun q => (hby.frozen (p := ⟨db, 0, none⟩) hdb).trans ((World.frozen?_setCell _ _ _ _).trans f0)
  have H1 : Hid (∀ q, (((w.setCell ⟨db, 0, none⟩ (.int .i32 1)).alloc (.cells (c16 a) 50)).drewN q).cell? ⟨db, 0, none⟩ = some (.int .i32 1)) := hc1
  have H2 : Hid (∀ q, (((w.setCell ⟨db, 0, none⟩ (.int .i32 1)).alloc (.cells (c16 a) 50)).drewN q).frozen? ⟨db, 0, none⟩ = false) := hf1
  clear hc1 hf1
  clear h hat hby
  go_enter_defers Try.func27, Try.ntmps27
  go_wp2_with fail
  have hbx := (Below.refl w.heap.size w).alloc (Nat.le_refl _) (.cells (c16 a) 50)
  refine (lock_free Try.muLib ⟨db, 0, none⟩ _ ((hbx.cell (p := ⟨db, 0, none⟩) hdb).trans c0) ((hbx.frozen (p := ⟨db, 0, none⟩) hdb).trans f0)).mono ?_
  rintro e w' ⟨rfl, rfl⟩
  clear hbx
  go_wp2
  go_quiet (fail)
  go_wp2
  refine leaves_cons (f := 31) (args := #[.pointer (some ⟨db, 0, none⟩)]) (by simp) (by simp [go_sem]) ?_
  refine (unlock_deferred Try.muLib ⟨db, 0, none⟩ .returning _ (H1.out _) (H2.out _)).mono ?_
  rintro e u' w'' ⟨rfl, rfl, rfl⟩
  exact ⟨_, results_none rfl _ _ _, rfl, nq, rfl⟩

set_option maxRecDepth 100000 in
set_option maxHeartbeats 1000000 in
theorem count_hit (db mb n : Nat) (a : Nat → Value) (D : DQ) (kl : Lit) (x : Int) (w : World) (hid : IsId (c16 a) kl) (h : QSt w db mb n D) (qb : Nat) (r : Int) (hqd : qb ≠ db) (hc : w.cell? ⟨qb, 21, none⟩ = some (.int .i64 r)) (hf : w.frozen? ⟨qb, 21, none⟩ = false) (hat : D.atKey kl (.held none) = .held (some ⟨qb, 0, none⟩)) :
    Calls Try.prog 27 #[.pointer (some ⟨db, 0, none⟩), .agg (c16 a), .int .i64 x] w fun e w' => e = .returned (.tuple #[]) ∧ ∃ q, w' = (((((w.setCell ⟨db, 0, none⟩ (.int .i32 1)).alloc (.cells (c16 a) 50)).drewN q).setCell ⟨qb, 21, none⟩ (.int .i64 (wrap64 (r + x)))).setCell ⟨db, 0, none⟩ (.int .i32 0)) := by
  have hdb := h.lt
  have hne := h.ne
  have hl : ∀ q, (Instr.lookup 61 (.map (some mb)) (.agg (c16 a)) false).run Try.prog (((w.setCell ⟨db, 0, none⟩ (.int .i32 1)).alloc (.cells (c16 a) 50)).drewN q) = .ok (.pointer (some ⟨qb, 0, none⟩)) (((w.setCell ⟨db, 0, none⟩ (.int .i32 1)).alloc (.cells (c16 a) 50)).drewN q) := fun q => by
    have hown : (((w.setCell ⟨db, 0, none⟩ (.int .i32 1)).alloc (.cells (c16 a) 50)).drewN q).ownsMap Try.prog 50 ptrElem mb n D := (h.own.setCell (a := ⟨db, 0, none⟩) hne _).alloc _
    obtain ⟨v, ps, hrun, hv⟩ := hown.lookup law50 Try.underlying61 (Try.zeroValue51 _) (zd := .held none) (zp := []) rfl hid.2.2
    obtain ⟨r', rfl, e⟩ := ptrElem_inv hv
    rw [hat] at e
    cases e
    exact hrun
  simp only [c16] at hl
  have c0 := h.c0
  have f0 := h.f0
  have c2 := h.c2
  have hby := (Below.refl w.heap.size (w.setCell ⟨db, 0, none⟩ (.int .i32 1))).alloc (by simp) (.cells (c16 a) 50)
  have hc1 : ∀ q, (((w.setCell ⟨db, 0, none⟩ (.int .i32 1)).alloc (.cells (c16 a) 50)).drewN q).cell? ⟨db, 0, none⟩ = some (.int .i32 1) := fun q => (hby.cell (p := ⟨db, 0, none⟩) hdb).trans (World.cell?_setCell_same w ⟨db, 0, none⟩ _ c0)
  have hf1 : ∀ q, (((w.setCell ⟨db, 0, none⟩ (.int .i32 1)).alloc (.cells (c16 a) 50)).drewN q).frozen? ⟨db, 0, none⟩ = false := fun q => (hby.frozen (p := ⟨db, 0, none⟩) hdb).trans ((World.frozen?_setCell _ _ _ _).trans f0)
  have H1 : Hid (∀ q, (((w.setCell ⟨db, 0, none⟩ (.int .i32 1)).alloc (.cells (c16 a) 50)).drewN q).cell? ⟨db, 0, none⟩ = some (.int .i32 1)) := hc1
  have H2 : Hid (∀ q, (((w.setCell ⟨db, 0, none⟩ (.int .i32 1)).alloc (.cells (c16 a) 50)).drewN q).frozen? ⟨db, 0, none⟩ = false) := hf1
  clear hc1 hf1
  have hq : qb < w.heap.size := blk_lt hc
  have hcq : ∀ q, (((w.setCell ⟨db, 0, none⟩ (.int .i32 1)).alloc (.cells (c16 a) 50)).drewN q).cell? ⟨qb, 21, none⟩ = some (.int .i64 r) := fun q => (hby.cell (p := ⟨qb, 21, none⟩) hq).trans ((World.cell?_setCell_other w ⟨db, 0, none⟩ ⟨qb, 21, none⟩ _ (by simp)).trans hc)
  have hfq : ∀ q, (((w.setCell ⟨db, 0, none⟩ (.int .i32 1)).alloc (.cells (c16 a) 50)).drewN q).frozen? ⟨qb, 21, none⟩ = false := fun q => (hby.frozen (p := ⟨qb, 21, none⟩) hq).trans ((World.frozen?_setCell _ _ _ _).trans hf)
  clear h hat hby
  go_enter_defers Try.func27, Try.ntmps27
  go_wp2_with fail
  have hbx := (Below.refl w.heap.size w).alloc (Nat.le_refl _) (.cells (c16 a) 50)
  refine (lock_free Try.muLib ⟨db, 0, none⟩ _ ((hbx.cell (p := ⟨db, 0, none⟩) hdb).trans c0) ((hbx.frozen (p := ⟨db, 0, none⟩) hdb).trans f0)).mono ?_
  rintro e w' ⟨rfl, rfl⟩
  clear hbx
  go_wp2
  go_quiet (fail)
  clear hl
  go_wp2
  refine leaves_cons (f := 31) (args := #[.pointer (some ⟨db, 0, none⟩)]) (by simp) (by simp [go_sem]) ?_
  refine (unlock_deferred Try.muLib ⟨db, 0, none⟩ .returning _ ((World.cell?_setCell_other _ ⟨qb, 21, none⟩ ⟨db, 0, none⟩ _ (by simp)).trans (H1.out _)) ((World.frozen?_setCell _ _ _ _).trans (H2.out _))).mono ?_
  rintro e u' w'' ⟨rfl, rfl, rfl⟩
  exact ⟨_, results_none rfl _ _ _, rfl, nq, rfl⟩
end Go.Proofs.Qxb6606016a
