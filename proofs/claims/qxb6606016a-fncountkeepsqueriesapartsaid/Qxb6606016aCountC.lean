import Derived.Test.Qxb6606016aCount
namespace Go.Proofs.Qxb6606016a
open Go.RowKit Go.MuLone
set_option linter.unusedVariables false

theorem map_ne {w : World} {mb n qb off : Nat} {D : DQ} {v : Value} (h : w.ownsMap Try.prog 50 ptrElem mb n D) (hc : w.cell? ⟨qb, off, none⟩ = some v) : mb ≠ qb := by
  intro e
  subst e
  obtain ⟨es, clock, hb, _⟩ := h
  simp [World.cell?, hb] at hc

theorem miss_post {w : World} {db mb n : Nat} {D : DQ} (h : QSt w db mb n D) (o : Obj) (q : Nat) :
    QSt ((((w.setCell ⟨db, 0, none⟩ (.int .i32 1)).alloc o).drewN q).setCell ⟨db, 0, none⟩ (.int .i32 0)) db mb n D ∧ Kept db none w ((((w.setCell ⟨db, 0, none⟩ (.int .i32 1)).alloc o).drewN q).setCell ⟨db, 0, none⟩ (.int .i32 0)) := by
  have hdb := h.lt
  have hby := (Below.refl w.heap.size (w.setCell ⟨db, 0, none⟩ (.int .i32 1))).alloc (by simp) o
  have hc1 : (((w.setCell ⟨db, 0, none⟩ (.int .i32 1)).alloc o).drewN q).cell? ⟨db, 0, none⟩ = some (.int .i32 1) := (hby.cell (p := ⟨db, 0, none⟩) hdb).trans (World.cell?_setCell_same w ⟨db, 0, none⟩ _ h.c0)
  have blk : ∀ k, k < w.heap.size → k ≠ db → ((((w.setCell ⟨db, 0, none⟩ (.int .i32 1)).alloc o).drewN q).setCell ⟨db, 0, none⟩ (.int .i32 0)).heap[k]? = w.heap[k]? := fun k hk hne => by
    rw [Below.heap_setCell _ _ _ _ hne]
    show ((w.setCell ⟨db, 0, none⟩ (.int .i32 1)).alloc o).heap[k]? = _
    rw [Below.heap_alloc _ _ _ (by simp <;> omega), Below.heap_setCell _ _ _ _ hne]
  refine ⟨⟨World.cell?_setCell_same _ _ _ hc1, ?_, ?_, h.ne, ?_⟩, ⟨rfl, rfl, rfl, ?_, fun k hk h1 _ => blk k hk h1⟩⟩
  · rw [World.frozen?_setCell]
    exact (hby.frozen (p := ⟨db, 0, none⟩) hdb).trans ((World.frozen?_setCell _ _ _ _).trans h.f0)
  · rw [World.cell?_setCell_other _ ⟨db, 0, none⟩ ⟨db, 2, none⟩ _ (by simp)]
    exact (hby.cell (p := ⟨db, 2, none⟩) hdb).trans ((World.cell?_setCell_other w ⟨db, 0, none⟩ ⟨db, 2, none⟩ _ (by simp)).trans h.c2)
  · obtain ⟨es, clock, hb, r⟩ := h.own
    exact ⟨es, clock, (blk mb h.own.lt h.ne).trans hb, r⟩
  · show w.heap.size ≤ ((((w.setCell ⟨db, 0, none⟩ (.int .i32 1)).alloc o).drewN q).setCell ⟨db, 0, none⟩ (.int .i32 0)).heap.size
    rw [World.size_setCell]
    show _ ≤ ((w.setCell ⟨db, 0, none⟩ (.int .i32 1)).alloc o).heap.size
    simp

theorem hit_post {w : World} {db mb n qb : Nat} {D : DQ} {r : Int} (v : Value) (h : QSt w db mb n D) (hqd : qb ≠ db) (hc : w.cell? ⟨qb, 21, none⟩ = some (.int .i64 r)) (hf : w.frozen? ⟨qb, 21, none⟩ = false) (o : Obj) (q : Nat) :
    QSt (((((w.setCell ⟨db, 0, none⟩ (.int .i32 1)).alloc o).drewN q).setCell ⟨qb, 21, none⟩ v).setCell ⟨db, 0, none⟩ (.int .i32 0)) db mb n D ∧ Kept db (some qb) w (((((w.setCell ⟨db, 0, none⟩ (.int .i32 1)).alloc o).drewN q).setCell ⟨qb, 21, none⟩ v).setCell ⟨db, 0, none⟩ (.int .i32 0)) ∧
      (((((w.setCell ⟨db, 0, none⟩ (.int .i32 1)).alloc o).drewN q).setCell ⟨qb, 21, none⟩ v).setCell ⟨db, 0, none⟩ (.int .i32 0)).cell? ⟨qb, 21, none⟩ = some v ∧
      (((((w.setCell ⟨db, 0, none⟩ (.int .i32 1)).alloc o).drewN q).setCell ⟨qb, 21, none⟩ v).setCell ⟨db, 0, none⟩ (.int .i32 0)).frozen? ⟨qb, 21, none⟩ = false := by
  have hdb := h.lt
  have hq : qb < w.heap.size := blk_lt hc
  have hmq := map_ne h.own hc
  have hby := (Below.refl w.heap.size (w.setCell ⟨db, 0, none⟩ (.int .i32 1))).alloc (by simp) o
  have hc1 : (((w.setCell ⟨db, 0, none⟩ (.int .i32 1)).alloc o).drewN q).cell? ⟨db, 0, none⟩ = some (.int .i32 1) := (hby.cell (p := ⟨db, 0, none⟩) hdb).trans (World.cell?_setCell_same w ⟨db, 0, none⟩ _ h.c0)
  have hcq : (((w.setCell ⟨db, 0, none⟩ (.int .i32 1)).alloc o).drewN q).cell? ⟨qb, 21, none⟩ = some (.int .i64 r) := (hby.cell (p := ⟨qb, 21, none⟩) hq).trans ((World.cell?_setCell_other w ⟨db, 0, none⟩ ⟨qb, 21, none⟩ _ (by simp)).trans hc)
  have blk : ∀ k, k < w.heap.size → k ≠ db → k ≠ qb → (((((w.setCell ⟨db, 0, none⟩ (.int .i32 1)).alloc o).drewN q).setCell ⟨qb, 21, none⟩ v).setCell ⟨db, 0, none⟩ (.int .i32 0)).heap[k]? = w.heap[k]? := fun k hk hne hnq => by
    rw [Below.heap_setCell _ _ _ _ hne, Below.heap_setCell _ _ _ _ hnq]
    show ((w.setCell ⟨db, 0, none⟩ (.int .i32 1)).alloc o).heap[k]? = _
    rw [Below.heap_alloc _ _ _ (by simp <;> omega), Below.heap_setCell _ _ _ _ hne]
  refine ⟨⟨World.cell?_setCell_same _ _ _ ((World.cell?_setCell_other _ ⟨qb, 21, none⟩ ⟨db, 0, none⟩ _ (by simp)).trans hc1), ?_, ?_, h.ne, ?_⟩, ⟨rfl, rfl, rfl, ?_, fun k hk h1 h2 => blk k hk h1 (fun e => h2 (by rw [e]))⟩, ?_, ?_⟩
  · rw [World.frozen?_setCell, World.frozen?_setCell]
    exact (hby.frozen (p := ⟨db, 0, none⟩) hdb).trans ((World.frozen?_setCell _ _ _ _).trans h.f0)
  · rw [World.cell?_setCell_other _ ⟨db, 0, none⟩ ⟨db, 2, none⟩ _ (by simp), World.cell?_setCell_other _ ⟨qb, 21, none⟩ ⟨db, 2, none⟩ _ (by simp)]
    exact (hby.cell (p := ⟨db, 2, none⟩) hdb).trans ((World.cell?_setCell_other w ⟨db, 0, none⟩ ⟨db, 2, none⟩ _ (by simp)).trans h.c2)
  · obtain ⟨es, clock, hb, rr⟩ := h.own
    exact ⟨es, clock, (blk mb h.own.lt h.ne hmq).trans hb, rr⟩
  · rw [World.size_setCell, World.size_setCell]
    show _ ≤ ((w.setCell ⟨db, 0, none⟩ (.int .i32 1)).alloc o).heap.size
    simp
  · rw [World.cell?_setCell_other _ ⟨db, 0, none⟩ ⟨qb, 21, none⟩ _ (by simp)]
    exact World.cell?_setCell_same _ _ _ hcq
  · rw [World.frozen?_setCell, World.frozen?_setCell]
    exact (hby.frozen (p := ⟨qb, 21, none⟩) hq).trans ((World.frozen?_setCell _ _ _ _).trans hf)

theorem Kept.box {db : Nat} {m : Option Nat} {w w' : World} {o : Obj} (h : Kept db m (w.alloc o) w') : Kept db m w w' :=
  ⟨h.os, h.tape, h.output, by have := h.size; simp at this; omega, fun k hk g1 g2 => (h.block k (by simp; omega) g1 g2).trans (Below.heap_alloc _ _ _ hk)⟩

/-- ZZcount: no query. -/
theorem zzcount_miss (db mb n : Nat) (a : Nat → Value) (D : DQ) (kl : Lit) (x : Int) (w : World) (hid : IsId (c16 a) kl) (h : QSt w db mb n D) (hat : D.atKey kl (.held none) = .held none) :
    Calls Try.prog 11 #[.pointer (some ⟨db, 0, none⟩), .agg (c16 a), .int .i64 x] w fun e w' => e = .returned (.tuple #[]) ∧ QSt w' db mb n D ∧ Kept db none w w' := by
  have CS := count_miss db mb n a D kl x (w.alloc (.cells (c16 a) 22)) hid (h.alloc _) hat
  have HQ : Hid (QSt (w.alloc (.cells (c16 a) 22)) db mb n D) := h.alloc _
  clear h hat
  have hA := heap_alloc_new w (.cells (c16 a) 22)
  go_enter Try.func11, Try.ntmps11
  go_wp2_with (refine wpList_load_row rfl 22 _ rfl w.heap.size rfl 22 (c16 a) (0, 0) (.array 16 5) hA Try.underlying22 rfl (by kernel_rfl) ?_)
  refine CS.mono ?_
  rintro e w' ⟨rfl, q, rfl⟩
  have HP := miss_post HQ.out (.cells (c16 a) 50) q
  clear CS hA
  go_wp2
  go_end0
  exact ⟨rfl, HP.1, HP.2.box⟩

/-- ZZcount: the query in block qb. -/
theorem zzcount_hit (db mb n qb : Nat) (r : Int) (a : Nat → Value) (D : DQ) (kl : Lit) (x : Int) (w : World) (hid : IsId (c16 a) kl) (h : QSt w db mb n D) (hqd : qb ≠ db) (hc : w.cell? ⟨qb, 21, none⟩ = some (.int .i64 r)) (hf : w.frozen? ⟨qb, 21, none⟩ = false) (hat : D.atKey kl (.held none) = .held (some ⟨qb, 0, none⟩)) :
    Calls Try.prog 11 #[.pointer (some ⟨db, 0, none⟩), .agg (c16 a), .int .i64 x] w fun e w' => e = .returned (.tuple #[]) ∧ QSt w' db mb n D ∧ Kept db (some qb) w w' ∧ w'.cell? ⟨qb, 21, none⟩ = some (.int .i64 (wrap64 (r + x))) ∧ w'.frozen? ⟨qb, 21, none⟩ = false := by
  have hq : qb < w.heap.size := blk_lt hc
  have hbx := (Below.refl w.heap.size w).alloc (Nat.le_refl _) (.cells (c16 a) 22)
  have hc' := (hbx.cell (p := ⟨qb, 21, none⟩) hq).trans hc
  have hf' := (hbx.frozen (p := ⟨qb, 21, none⟩) hq).trans hf
  have CS := count_hit db mb n a D kl x (w.alloc (.cells (c16 a) 22)) hid (h.alloc _) qb r hqd hc' hf' hat
  have HQ : Hid (∀ q, _) := fun q => hit_post (.int .i64 (wrap64 (r + x))) (h.alloc (.cells (c16 a) 22)) hqd hc' hf' (.cells (c16 a) 50) q
  clear h hat hc hf hc' hf' hbx
  have hA := heap_alloc_new w (.cells (c16 a) 22)
  go_enter Try.func11, Try.ntmps11
  go_wp2_with (refine wpList_load_row rfl 22 _ rfl w.heap.size rfl 22 (c16 a) (0, 0) (.array 16 5) hA Try.underlying22 rfl (by kernel_rfl) ?_)
  refine CS.mono ?_
  rintro e w' ⟨rfl, q, rfl⟩
  have HP := HQ.out q
  clear CS hA HQ
  have HPH : Hid (_) := HP
  clear HP
  go_wp2
  go_end0
  exact ⟨rfl, HPH.out.1, HPH.out.2.1.box, HPH.out.2.2.1, HPH.out.2.2.2⟩
end Go.Proofs.Qxb6606016a
