import Derived.Test.Qxb6606016aStored
namespace Go.Proofs.Qxb6606016a
open Go.RowKit Go.MuLone
set_option linter.unusedVariables false

theorem get_chan {w : World} {cb : Nat} (h : w.heap[cb]? = some (.chan 256 #[] false 0 0 false)) : (getObj cb).run Try.prog w = .ok (.chan 256 #[] false 0 0 false) w := by
  simp [getObj, Sem.run, h]
theorem cap_chan {w : World} {cb : Nat} (h : w.heap[cb]? = some (.chan 256 #[] false 0 0 false)) (ty : TypeId) : (Builtin.cap_ #[43] ty #[.chan (some cb)]).run Try.prog w = .ok (.int .i64 256) w := by
  simp [Builtin.cap_, run_underlying Try.underlying43, get_chan h, goInt, Result.andThen]
theorem len_chan {w : World} {cb : Nat} (h : w.heap[cb]? = some (.chan 256 #[] false 0 0 false)) (ty : TypeId) : (Builtin.len_ #[43] ty #[.chan (some cb)]).run Try.prog w = .ok (.int .i64 0) w := by
  simp [Builtin.len_, run_underlying Try.underlying43, get_chan h, goInt, Result.andThen]

theorem c16_cells' {w : World} {k : Nat} {a : Nat → Value} (h : w.heap[k]? = some (.cells (c16 a) 22)) : ∀ j, w.cell? ⟨k, j, none⟩ = (c16 a)[j]? := fun j => by simp [World.cell?, h]

set_option maxRecDepth 100000 in
set_option maxHeartbeats 1000000 in
/-- ZZstartShape: a new empty channel of capacity 256, stored under its id. -/
theorem shape_any (ob n : Nat) (m : Option Nat) (a : Nat → Value) (D : DC) (kl : Lit) (w : World) (hid : IsId (c16 a) kl) (h : OSt w ob m n D) (hn : n < maxLen) (hD : Maps.IsMap D) :
    Calls Try.prog 19 #[.pointer (some ⟨ob, 0, none⟩), .agg (c16 a)] w fun e w' => e = .returned (.tuple #[.int .i64 256, .int .i64 0, .bool true]) ∧
      (∃ m' cb, OSt w' ob m' (n + 1) (D.put kl (.held (some cb)))) ∧ Kept ob m w w' := by
  have CS := start_any ob n m a D kl (w.alloc (.cells (c16 a) 22)) hid (h.alloc _) hn
  have hob := h.lt
  have hml := h.mlt
  have HML : Hid (∀ mb, m = some mb → ob < mb ∧ mb < w.heap.size) := hml
  have hA := heap_alloc_new w (.cells (c16 a) 22)
  clear h hml
  go_enter Try.func19, Try.ntmps19
  go_wp2_with (refine wpList_load_row rfl 22 _ rfl w.heap.size rfl 22 (c16 a) (0, 0) (.array 16 5) hA Try.underlying22 rfl (by kernel_rfl) ?_)
  refine CS.mono ?_
  rintro e w1 ⟨cb, rfl, h1, h2, ⟨m', h3⟩, h4⟩
  have hA1 : w1.heap[w.heap.size]? = some (.cells (c16 a) 22) := (h4.block _ (by simp) (by omega) (fun e => by have := HML.out _ e; omega)).trans hA
  have ca := c16_cells' hA1
  have hc := fun q => cap_chan (w := w1.drewN q) h2
  have hl := fun q => len_chan (w := w1.drewN q) h2
  have hlk := fun q => (h3.drewN q).look (key := .agg (c16 a)) (r := some cb) hid.2.2 (Maps.atKey_put_same hD (law50.key hid.2.2) _ _)
  simp only [c16] at hlk
  have c6 := h3.c6
  have q1 : ∀ w, (binOp .eql 43 (.chan (some cb)) (.chan (some cb))).run Try.prog w = .ok (.bool true) w := fun w => by rw [eqChan]; simp
  have H3 : Hid (OSt w1 ob m' (n + 1) (D.put kl (.held (some cb)))) := h3
  have H4 : Hid (Kept ob m (w.alloc (.cells (c16 a) 22)) w1) := h4
  clear CS hA hA1 h1 h2 h3 h4
  go_wp2
  go_quiet (fail)
  go_wp2
  go_ret3
  exact ⟨rfl, ⟨m', cb, H3.out.drewN _⟩, ⟨H4.out.os, H4.out.tape, H4.out.output, by have := H4.out.size; simp at this; exact Nat.le_trans (by omega) this, fun k hk g1 g2 => (H4.out.block k (by simp; omega) g1 g2).trans (Below.heap_alloc _ _ _ hk)⟩⟩

set_option maxRecDepth 100000 in
set_option maxHeartbeats 1000000 in
/-- ZZsearchRuns -/
theorem runs_any (ob n : Nat) (m : Option Nat) (a : Nat → Value) (D : DC) (kl : Lit) (r : Option Nat) (w : World) (hid : IsId (c16 a) kl) (hs : OSt w ob m n D) (hh : Maps.has D kl = true) (hat : D.atKey kl (.held none) = .held r) :
    Calls Try.prog 21 #[.pointer (some ⟨ob, 0, none⟩), .agg (c16 a)] w fun e w' => e = .returned (.bool true) ∧ Below w.heap.size w w' := by
  have hl := fun q => ((hs.alloc (.cells (c16 a) 22)).drewN q).look_ok (key := .agg (c16 a)) hid.2.2 hat
  rw [hh] at hl
  simp only [c16] at hl
  have c6 := hs.c6
  have hob := hs.lt
  clear hs
  go_enter Try.func21, Try.ntmps21
  go_wp2
  go_quiet (fail)
  go_wp2
  go_ret
  exact ⟨rfl, ((Below.refl _ _).alloc (Nat.le_refl _) _).trans ⟨rfl, rfl, rfl, Nat.le_refl _, fun _ _ => rfl⟩⟩
end Go.Proofs.Qxb6606016a
