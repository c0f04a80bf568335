import Derived.Test.Qxb6606016aNew2Z
import Derived.Test.Qxb6606016aInv3
namespace Go.Proofs.Qxb6606016a
open Go.RowKit Go.MuLone
set_option linter.unusedVariables false

/-- THE WORLD WHILE TWO QUERIES ARE COUNTED: the ids in their boxes S, S + 1; the numbers' copies in blocks B1, B2; the queries in blocks qa, qb stand at va, vb. -/
structure Inv4 (w wx : World) (S B1 B2 db mb qa qb n1 n2 : Nat) (a b : Nat → Value) (Z1 Z2 : Nat → Int) (D : DQ) (va vb : Int) : Prop where
  q : QSt wx db mb 2 D
  ca : wx.cell? ⟨qa, 21, none⟩ = some (.int .i64 va)
  fa : wx.frozen? ⟨qa, 21, none⟩ = false
  cb : wx.cell? ⟨qb, 21, none⟩ = some (.int .i64 vb)
  fb : wx.frozen? ⟨qb, 21, none⟩ = false
  ba : wx.heap[S]? = some (.cells (c16 a) 22)
  bb : wx.heap[S + 1]? = some (.cells (c16 b) 22)
  z1 : ∀ j, j < n1 → wx.cell? ⟨B1, j, none⟩ = some (.int .i64 (Z1 j))
  z2 : ∀ j, j < n2 → wx.cell? ⟨B2, j, none⟩ = some (.int .i64 (Z2 j))
  bel : Below S w wx
  hS : S + 1 < db ∧ S + 1 < qa ∧ S + 1 < qb
  h1 : 0 < n1 → B1 ≠ db ∧ B1 ≠ qa ∧ B1 ≠ qb
  h2 : 0 < n2 → B2 ≠ db ∧ B2 ≠ qa ∧ B2 ≠ qb
  hd : qa ≠ db ∧ qb ≠ db ∧ qa ≠ qb

section
variable {w wx wy : World} {S B1 B2 db mb qa qb n1 n2 : Nat} {a b : Nat → Value} {Z1 Z2 : Nat → Int} {D : DQ} {va vb va' vb' : Int}
theorem Inv4.step (h : Inv4 w wx S B1 B2 db mb qa qb n1 n2 a b Z1 Z2 D va vb) {qx : Nat} (hx : qx = qa ∨ qx = qb) (hq : QSt wy db mb 2 D) (hk : Kept db (some qx) wx wy)
    (hca : wy.cell? ⟨qa, 21, none⟩ = some (.int .i64 va')) (hfa : wy.frozen? ⟨qa, 21, none⟩ = false) (hcb : wy.cell? ⟨qb, 21, none⟩ = some (.int .i64 vb')) (hfb : wy.frozen? ⟨qb, 21, none⟩ = false) : Inv4 w wy S B1 B2 db mb qa qb n1 n2 a b Z1 Z2 D va' vb' := by
  have g := h.hS
  have hs := blk_of h.ba
  have hxS : S + 1 < qx := by rcases hx with rfl | rfl <;> omega
  refine ⟨hq, hca, hfa, hcb, hfb, (hk.block _ hs (by omega) (fun e => by cases e; omega)).trans h.ba, (hk.block _ (blk_of h.bb) (by omega) (fun e => by cases e; omega)).trans h.bb, fun j hj => ?_, fun j hj => ?_, ?_, h.hS, h.h1, h.h2, h.hd⟩
  · have k := h.h1 (by omega)
    exact (hk.cell (a := ⟨B1, j, none⟩) (blk_lt (h.z1 j hj)) k.1 (fun e => by cases e; rcases hx with e | e <;> simp_all)).trans (h.z1 j hj)
  · have k := h.h2 (by omega)
    exact (hk.cell (a := ⟨B2, j, none⟩) (blk_lt (h.z2 j hj)) k.1 (fun e => by cases e; rcases hx with e | e <;> simp_all)).trans (h.z2 j hj)
  · exact h.bel.trans ⟨hk.os, hk.tape, hk.output, hk.size, fun k hkk => hk.block k (by omega) (by omega) (fun e => by cases e; omega)⟩
theorem Inv4.keep (h : Inv4 w wx S B1 B2 db mb qa qb n1 n2 a b Z1 Z2 D va vb) (hb : Below wx.heap.size wx wy) : Inv4 w wy S B1 B2 db mb qa qb n1 n2 a b Z1 Z2 D va vb :=
  ⟨h.q.below hb, (hb.cell (p := ⟨qa, 21, none⟩) (blk_lt h.ca)).trans h.ca, (hb.frozen (p := ⟨qa, 21, none⟩) (blk_lt h.ca)).trans h.fa, (hb.cell (p := ⟨qb, 21, none⟩) (blk_lt h.cb)).trans h.cb, (hb.frozen (p := ⟨qb, 21, none⟩) (blk_lt h.cb)).trans h.fb,
    (hb.block _ (blk_of h.ba)).trans h.ba, (hb.block _ (blk_of h.bb)).trans h.bb, fun j hj => (hb.cell (p := ⟨B1, j, none⟩) (blk_lt (h.z1 j hj))).trans (h.z1 j hj), fun j hj => (hb.cell (p := ⟨B2, j, none⟩) (blk_lt (h.z2 j hj))).trans (h.z2 j hj),
    h.bel.trans (hb.mono (by have := blk_of h.ba; omega)), h.hS, h.h1, h.h2, h.hd⟩
theorem Inv4.drew (h : Inv4 w wx S B1 B2 db mb qa qb n1 n2 a b Z1 Z2 D va vb) : Inv4 w wx.drew S B1 B2 db mb qa qb n1 n2 a b Z1 Z2 D va vb := h.keep ⟨rfl, rfl, rfl, Nat.le_refl _, fun _ _ => rfl⟩
theorem inv4_a (h : Inv4 w wx S B1 B2 db mb qa qb n1 n2 a b Z1 Z2 D va vb) {ka : Lit} (hid : IsId (c16 a) ka) (hat : D.atKey ka (.held none) = .held (some ⟨qa, 0, none⟩)) (y : Int) :
    Calls Try.prog 11 #[.pointer (some ⟨db, 0, none⟩), .agg (c16 a), .int .i64 y] wx fun e w' => e = .returned (.tuple #[]) ∧ Inv4 w w' S B1 B2 db mb qa qb n1 n2 a b Z1 Z2 D (wrap64 (va + y)) vb :=
  (zzcount_hit db mb 2 qa va a D ka y wx hid h.q h.hd.1 h.ca h.fa hat).mono fun e w' ⟨he, h1, h2, h3, h4⟩ => ⟨he, h.step (.inl rfl) h1 h2 h3 h4 ((h2.cell (a := ⟨qb, 21, none⟩) (blk_lt h.cb) h.hd.2.1 (fun e => h.hd.2.2 (Option.some.inj e))).trans h.cb) ((frozen_of_blk (a := ⟨qb, 21, none⟩) (h2.block _ (blk_lt h.cb) h.hd.2.1 (fun e => h.hd.2.2 (Option.some.inj e)))).trans h.fb)⟩
theorem inv4_b (h : Inv4 w wx S B1 B2 db mb qa qb n1 n2 a b Z1 Z2 D va vb) {kb : Lit} (hid : IsId (c16 b) kb) (hat : D.atKey kb (.held none) = .held (some ⟨qb, 0, none⟩)) (y : Int) :
    Calls Try.prog 11 #[.pointer (some ⟨db, 0, none⟩), .agg (c16 b), .int .i64 y] wx fun e w' => e = .returned (.tuple #[]) ∧ Inv4 w w' S B1 B2 db mb qa qb n1 n2 a b Z1 Z2 D va (wrap64 (vb + y)) :=
  (zzcount_hit db mb 2 qb vb b D kb y wx hid h.q h.hd.2.1 h.cb h.fb hat).mono fun e w' ⟨he, h1, h2, h3, h4⟩ => ⟨he, h.step (.inr rfl) h1 h2 ((h2.cell (a := ⟨qa, 21, none⟩) (blk_lt h.ca) h.hd.1 (fun e => h.hd.2.2 (Option.some.inj e).symm)).trans h.ca) ((frozen_of_blk (a := ⟨qa, 21, none⟩) (h2.block _ (blk_lt h.ca) h.hd.1 (fun e => h.hd.2.2 (Option.some.inj e).symm))).trans h.fa) h3 h4⟩
end

/-- the sum of the first n, behind k rounds, as Go reckons it. -/
def accW (Z : Nat → Int) (n : Nat) : Nat → Int
  | 0 => 0
  | k + 1 => if k < n then wrap64 (accW Z n k + Z k) else accW Z n k
theorem accW_lt {Z : Nat → Int} {n k : Nat} (h : k < n) : accW Z n (k + 1) = wrap64 (accW Z n k + Z k) := by rw [accW, if_pos h]
theorem accW_ge {Z : Nat → Int} {n k : Nat} (h : ¬ k < n) : accW Z n (k + 1) = accW Z n k := by rw [accW, if_neg h]
theorem val_lt {Z : Nat → Int} {n k : Nat} (r : Int) (h : k < n) : wrap64 (wrap64 (r + accW Z n k) + Z k) = wrap64 (r + accW Z n (k + 1)) := by
  rw [accW_lt h]
  unfold wrap64
  omega

/-- zzBytes -/
theorem bytes4_any (a b : Nat → Value) (r s : Int) (x y : Option Addr) (n1 c1 n2 c2 : Nat) (w : World) :
    Calls Try.prog 14 #[.agg (c16 a), .agg (c16 b), .int .i64 r, .int .i64 s, .slice x n1 c1, .slice y n2 c2] w fun e w' => (∃ y : Bool, e = .returned (.bool y) ∧ (y = true → n1 ≤ 1048576 ∧ n2 ≤ 1048576)) ∧ w' = (w.alloc (.cells (c16 a) 22)).alloc (.cells (c16 b) 22) := by
  by_cases h1 : n1 ≤ 1048576
  · by_cases h2 : n2 ≤ 1048576
    · by_cases h3 : n1 + n2 ≤ 1048576
      · go_enter Try.func14, Try.ntmps14
        go_wp2
        go_ret
        exact ⟨⟨_, rfl, fun _ => ⟨h1, h2⟩⟩, rfl⟩
      · go_enter Try.func14, Try.ntmps14
        go_wp2
        go_ret
        exact ⟨⟨_, rfl, fun _ => ⟨h1, h2⟩⟩, rfl⟩
    · go_enter Try.func14, Try.ntmps14
      go_wp2
      go_ret
      exact ⟨⟨_, rfl, fun h => Bool.noConfusion h⟩, rfl⟩
  · go_enter Try.func14, Try.ntmps14
    go_wp2
    go_ret
    exact ⟨⟨_, rfl, fun h => Bool.noConfusion h⟩, rfl⟩
end Go.Proofs.Qxb6606016a
