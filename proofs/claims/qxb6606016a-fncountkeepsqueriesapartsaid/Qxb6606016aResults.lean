import Derived.Test.Qxb6606016aCountC
namespace Go.Proofs.Qxb6606016a
open Go.RowKit Go.MuLone
set_option linter.unusedVariables false

theorem QSt.drewN {w : World} {db mb n : Nat} {D : DQ} (h : QSt w db mb n D) (q : Nat) : QSt (w.drewN q) db mb n D := h.keep rfl rfl

/-- ZZqueriesRunning -/
theorem queries_any (db mb n : Nat) (D : DQ) (w : World) (h : QSt w db mb n D) :
    Calls Try.prog 13 #[.pointer (some ⟨db, 0, none⟩)] w fun e w' => e = .returned (.int .i64 (Maps.size D)) ∧ w' = w := by
  have c2 := h.c2
  have hl := h.own.len Try.underlying61
  clear h
  go_enter Try.func13, Try.ntmps13
  go_wp2
  go_ret
  exact ⟨rfl, rfl⟩

set_option maxRecDepth 100000 in
set_option maxHeartbeats 1000000 in
/-- ZZresults: no query. -/
theorem results_miss (db mb n : Nat) (a : Nat → Value) (D : DQ) (kl : Lit) (w : World) (hid : IsId (c16 a) kl) (h : QSt w db mb n D) (hh : Maps.has D kl = false) :
    Calls Try.prog 12 #[.pointer (some ⟨db, 0, none⟩), .agg (c16 a)] w fun e w' => e = .returned (.tuple #[.int .i64 0, .bool false]) ∧ Below w.heap.size w w' := by
  have hl := fun q => ((h.alloc (.cells (c16 a) 22)).drewN q).look_ok (key := .agg (c16 a)) hid.2.2 (Maps.atKey_of_not_has hh (.held none))
  rw [hh] at hl
  simp only [c16] at hl
  have c2 := h.c2
  have hob := h.lt
  clear h
  go_enter Try.func12, Try.ntmps12
  go_wp2
  go_quiet (fail)
  go_wp2
  go_ret2
  exact ⟨rfl, ((Below.refl _ _).alloc (Nat.le_refl _) _).trans ⟨rfl, rfl, rfl, Nat.le_refl _, fun _ _ => rfl⟩⟩

set_option maxRecDepth 100000 in
set_option maxHeartbeats 1000000 in
/-- ZZresults: the query in block qb. -/
theorem results_hit (db mb n qb : Nat) (r : Int) (a : Nat → Value) (D : DQ) (kl : Lit) (w : World) (hid : IsId (c16 a) kl) (h : QSt w db mb n D) (hh : Maps.has D kl = true) (hat : D.atKey kl (.held none) = .held (some ⟨qb, 0, none⟩)) (hc : w.cell? ⟨qb, 21, none⟩ = some (.int .i64 r)) :
    Calls Try.prog 12 #[.pointer (some ⟨db, 0, none⟩), .agg (c16 a)] w fun e w' => e = .returned (.tuple #[.int .i64 r, .bool true]) ∧ Below w.heap.size w w' := by
  have hl := fun q => ((h.alloc (.cells (c16 a) 22)).drewN q).look_ok (key := .agg (c16 a)) hid.2.2 hat
  rw [hh] at hl
  simp only [c16] at hl
  have c2 := h.c2
  have hob := h.lt
  have hq : qb < w.heap.size := blk_lt hc
  have hcq : ∀ q, ((w.alloc (.cells (c16 a) 22)).drewN q).cell? ⟨qb, 21, none⟩ = some (.int .i64 r) := fun q => (((Below.refl w.heap.size w).alloc (Nat.le_refl _) (.cells (c16 a) 22)).cell (p := ⟨qb, 21, none⟩) hq).trans hc
  clear h
  go_enter Try.func12, Try.ntmps12
  go_wp2
  go_quiet (fail)
  go_wp2
  go_ret2
  exact ⟨rfl, ((Below.refl _ _).alloc (Nat.le_refl _) _).trans ⟨rfl, rfl, rfl, Nat.le_refl _, fun _ _ => rfl⟩⟩

end Go.Proofs.Qxb6606016a
