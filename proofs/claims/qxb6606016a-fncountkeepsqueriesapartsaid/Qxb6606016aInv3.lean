import Derived.Test.Qxb6606016aNew1
import Derived.Test.Qxb6606016aClone
import Derived.Deep.RegionWith
namespace Go.Proofs.Qxb6606016a
open Go.RowKit Go.MuLone
set_option linter.unusedVariables false

/-- THE WORLD WHILE THE SCRIPT IS COUNTED: the two ids in their boxes S, S + 1; the numbers' copy in block B; the queries at db, mb; the query in block qb stands at v. -/
structure Inv3 (w wx : World) (S B db mb qb n N : Nat) (a b : Nat → Value) (Z : Nat → Int) (D : DQ) (v : Int) : Prop where
  q : QSt wx db mb N D
  c : wx.cell? ⟨qb, 21, none⟩ = some (.int .i64 v)
  f : wx.frozen? ⟨qb, 21, none⟩ = false
  ba : wx.heap[S]? = some (.cells (c16 a) 22)
  bb : wx.heap[S + 1]? = some (.cells (c16 b) 22)
  z : ∀ j, j < n → wx.cell? ⟨B, j, none⟩ = some (.int .i64 (Z j))
  bel : Below S w wx
  h1 : S + 1 < B
  h2 : B < db
  h3 : B < qb
  h4 : qb ≠ db

theorem blk_of {w : World} {k : Nat} {o : Obj} (h : w.heap[k]? = some o) : k < w.heap.size := (Array.getElem?_eq_some_iff.1 h).1

theorem Inv3.step {w wx wy : World} {S B db mb qb n N : Nat} {a b : Nat → Value} {Z : Nat → Int} {D : DQ} {v v' : Int} {m : Option Nat} (h : Inv3 w wx S B db mb qb n N a b Z D v) (hm : ∀ k, m = some k → k = qb) (hq : QSt wy db mb N D) (hk : Kept db m wx wy) (hc : wy.cell? ⟨qb, 21, none⟩ = some (.int .i64 v')) (hf : wy.frozen? ⟨qb, 21, none⟩ = false) : Inv3 w wy S B db mb qb n N a b Z D v' := by
  have g1 := h.h1; have g2 := h.h2; have g3 := h.h3
  refine ⟨hq, hc, hf, (hk.block _ (blk_of h.ba) (by omega) (fun e => by have := hm _ e; omega)).trans h.ba, (hk.block _ (blk_of h.bb) (by omega) (fun e => by have := hm _ e; omega)).trans h.bb, fun j hj => ?_, ?_, h.h1, h.h2, h.h3, h.h4⟩
  · exact (hk.cell (a := ⟨B, j, none⟩) (blk_lt (h.z j hj)) (by show B ≠ _; omega) (fun e => by have := hm _ e; simp at this; omega)).trans (h.z j hj)
  · exact h.bel.trans ⟨hk.os, hk.tape, hk.output, hk.size, fun k hkk => hk.block k (by have := blk_of h.ba; omega) (by omega) (fun e => by have := hm _ e; omega)⟩

theorem Inv3.keep {w wx wy : World} {S B db mb qb n N : Nat} {a b : Nat → Value} {Z : Nat → Int} {D : DQ} {v : Int} (h : Inv3 w wx S B db mb qb n N a b Z D v) (hb : Below wx.heap.size wx wy) : Inv3 w wy S B db mb qb n N a b Z D v :=
  ⟨h.q.below hb, (hb.cell (p := ⟨qb, 21, none⟩) (blk_lt h.c)).trans h.c, (hb.frozen (p := ⟨qb, 21, none⟩) (blk_lt h.c)).trans h.f, (hb.block _ (blk_of h.ba)).trans h.ba, (hb.block _ (blk_of h.bb)).trans h.bb, fun j hj => (hb.cell (p := ⟨B, j, none⟩) (blk_lt (h.z j hj))).trans (h.z j hj), h.bel.trans (hb.mono (by have := blk_of h.ba; omega)), h.h1, h.h2, h.h3, h.h4⟩
theorem Inv3.drew {w wx : World} {S B db mb qb n N : Nat} {a b : Nat → Value} {Z : Nat → Int} {D : DQ} {v : Int} (h : Inv3 w wx S B db mb qb n N a b Z D v) : Inv3 w wx.drew S B db mb qb n N a b Z D v := h.keep ⟨rfl, rfl, rfl, Nat.le_refl _, fun _ _ => rfl⟩

theorem inv_hit {w wx : World} {S B db mb qb n N : Nat} {a b : Nat → Value} {Z : Nat → Int} {D : DQ} {v : Int} (h : Inv3 w wx S B db mb qb n N a b Z D v) {x : Nat → Value} {kl : Lit} (hid : IsId (c16 x) kl) (hat : D.atKey kl (.held none) = .held (some ⟨qb, 0, none⟩)) (y : Int) :
    Calls Try.prog 11 #[.pointer (some ⟨db, 0, none⟩), .agg (c16 x), .int .i64 y] wx fun e w' => e = .returned (.tuple #[]) ∧ Inv3 w w' S B db mb qb n N a b Z D (wrap64 (v + y)) :=
  (zzcount_hit db mb N qb v x D kl y wx hid h.q h.h4 h.c h.f hat).mono fun e w' ⟨he, h1, h2, h3, h4⟩ => ⟨he, h.step (fun k e => by cases e; rfl) h1 h2 h3 h4⟩
theorem inv_miss {w wx : World} {S B db mb qb n N : Nat} {a b : Nat → Value} {Z : Nat → Int} {D : DQ} {v : Int} (h : Inv3 w wx S B db mb qb n N a b Z D v) {x : Nat → Value} {kl : Lit} (hid : IsId (c16 x) kl) (hat : D.atKey kl (.held none) = .held none) (y : Int) :
    Calls Try.prog 11 #[.pointer (some ⟨db, 0, none⟩), .agg (c16 x), .int .i64 y] wx fun e w' => e = .returned (.tuple #[]) ∧ Inv3 w w' S B db mb qb n N a b Z D v :=
  (zzcount_miss db mb N x D kl y wx hid h.q hat).mono fun e w' ⟨he, h1, h2⟩ => ⟨he, h.step (fun k e => by cases e) h1 h2 ((hkept h h2).1.trans h.c) ((hkept h h2).2.trans h.f)⟩
where
  hkept {w wx w' : World} {S B db mb qb n N : Nat} {a b : Nat → Value} {Z : Nat → Int} {D : DQ} {v : Int} (h : Inv3 w wx S B db mb qb n N a b Z D v) (hk : Kept db none wx w') : w'.cell? ⟨qb, 21, none⟩ = wx.cell? ⟨qb, 21, none⟩ ∧ w'.frozen? ⟨qb, 21, none⟩ = wx.frozen? ⟨qb, 21, none⟩ :=
    ⟨hk.cell (a := ⟨qb, 21, none⟩) (blk_lt h.c) h.h4 (by simp), frozen_of_blk (a := ⟨qb, 21, none⟩) (hk.block _ (blk_lt h.c) h.h4 (by simp))⟩

/-- counting at 'other': onto the query where other is id, nowhere else. -/
def second (same : Bool) (v y : Int) : Int := if same then wrap64 (v + y) else v
theorem inv_second {w wx : World} {S B db mb qb n N : Nat} {a b : Nat → Value} {Z : Nat → Int} {D : DQ} {v : Int} (h : Inv3 w wx S B db mb qb n N a b Z D v) {x : Nat → Value} {kl : Lit} (hid : IsId (c16 x) kl) (same : Bool) (hat : D.atKey kl (.held none) = .held (if same then some ⟨qb, 0, none⟩ else none)) (y : Int) :
    Calls Try.prog 11 #[.pointer (some ⟨db, 0, none⟩), .agg (c16 x), .int .i64 y] wx fun e w' => e = .returned (.tuple #[]) ∧ Inv3 w w' S B db mb qb n N a b Z D (second same v y) := by
  cases same with
  | true => exact inv_hit h hid hat y
  | false => exact inv_miss h hid hat y

/-- the sum as Go reckons it. -/
def sumW (Z : Nat → Int) : Nat → Int
  | 0 => 0
  | k + 1 => wrap64 (sumW Z k + Z k)
/-- the query's count behind k rounds. -/
def cnt (same : Bool) (r : Int) (Z : Nat → Int) : Nat → Int
  | 0 => r
  | k + 1 => second same (wrap64 (cnt same r Z k + Z k)) (Z k)
theorem cnt_false (r : Int) (Z : Nat → Int) (hr : wrap64 r = r) : ∀ k, cnt false r Z k = wrap64 (r + sumW Z k)
  | 0 => by simp [cnt, sumW, hr]
  | k + 1 => by
    show wrap64 (cnt false r Z k + Z k) = wrap64 (r + wrap64 (sumW Z k + Z k))
    rw [cnt_false r Z hr k]
    unfold wrap64
    omega
theorem cnt_true (r : Int) (Z : Nat → Int) (hr : wrap64 r = r) : ∀ k, cnt true r Z k = wrap64 (wrap64 (r + sumW Z k) + sumW Z k)
  | 0 => by simp [cnt, sumW, hr]
  | k + 1 => by
    show wrap64 (wrap64 (cnt true r Z k + Z k) + Z k) = wrap64 (wrap64 (r + wrap64 (sumW Z k + Z k)) + wrap64 (sumW Z k + Z k))
    rw [cnt_true r Z hr k]
    unfold wrap64
    omega

/-- zzBytes -/
theorem bytes3_any (a b : Nat → Value) (r : Int) (x : Option Addr) (n c : Nat) (w : World) :
    Calls Try.prog 8 #[.agg (c16 a), .agg (c16 b), .int .i64 r, .slice x n c] w fun e w' => (∃ y : Bool, e = .returned (.bool y) ∧ (y = true → n ≤ 1048576)) ∧ w' = (w.alloc (.cells (c16 a) 22)).alloc (.cells (c16 b) 22) := by
  by_cases hn : n ≤ 1048576
  · go_enter Try.func8, Try.ntmps8
    go_wp2
    go_ret
    exact ⟨⟨_, rfl, fun _ => hn⟩, rfl⟩
  · go_enter Try.func8, Try.ntmps8
    go_wp2
    go_ret
    exact ⟨⟨_, rfl, fun h => Bool.noConfusion h⟩, rfl⟩
end Go.Proofs.Qxb6606016a
