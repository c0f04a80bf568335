import Derived.Test.Qxb6605697aDoorShelf
import Derived.WalkKit
import Derived.WalkLawsBesides
import Derived.WalkSpells
import Derived.ProofKit
import Derived.Below
import Derived.BigQuiet
import Derived.Deep.RegionWith
namespace Go.Proofs.Qxb6605697aDoor
open Go.RowKit
set_option linter.unusedVariables false

/-- THE BUFFER AT BLOCK b, ITS ROW NAMED: no row yet, or row g of capacity cap; it holds bs. -/
structure Buf (w : World) (b : Nat) (row : Option (Nat × Nat)) (bs : List Value) : Prop where
  one : ∀ v ∈ bs, v.oneCell' = true
  at' : (row = none ∧ bs = [] ∧ ∃ lr, w.heap[b]? = some (.cells #[.slice none 0 0, .int .i64 0, .int .i8 lr] 30 (0, 0))) ∨
    ∃ g cap lr cur, row = some (g, cap) ∧ w.heap[b]? = some (.cells #[.slice (some ⟨g, 0, none⟩) bs.length cap, .int .i64 0, .int .i8 lr] 30 (0, 0)) ∧
      w.heap[g]? = some (.cells cur 5 (0, 0)) ∧ cur.size = cap ∧ bs.length ≤ cap ∧ cap ≤ maxLen ∧ cur.toList.take bs.length = bs ∧ g ≠ b ∧ 0 < bs.length

theorem buf_of {w : World} {B b : Nat} {bs : List Value} (h : Lib.IsBuffer 30 5 B b bs w) (h1 : ∀ v ∈ bs, v.oneCell' = true) (h0 : 0 < bs.length) : ∃ g cap, Buf w b (some (g, cap)) bs ∧ B ≤ g := by
  obtain ⟨hB, lr, hc⟩ := h.cases
  rcases hc with ⟨rfl, hbk⟩ | ⟨g, cap, cur, hbk, hBg, hg, hnc, hcm, hcs, htk, hgb⟩
  · exact absurd h0 (Nat.lt_irrefl _)
  · exact ⟨g, cap, ⟨h1, .inr ⟨g, cap, lr, cur, rfl, hbk, hg, hcs, hnc, hcm, htk, hgb, h0⟩⟩, hBg⟩

/-- WHAT A WRITE LEAVES ALONE: every block that was there but b and the row. -/
structure KeptB (b : Nat) (row : Option (Nat × Nat)) (w w' : World) : Prop where
  os : w'.os = w.os
  tape : w'.tape = w.tape
  output : w'.output = w.output
  size : w.heap.size ≤ w'.heap.size
  block : ∀ k, k < w.heap.size → k ≠ b → (∀ g cap, row = some (g, cap) → k ≠ g) → w'.heap[k]? = w.heap[k]?

section
variable {b : Nat} {row : Option (Nat × Nat)} {w w1 w2 : World}
theorem KeptB.refl (b : Nat) (row : Option (Nat × Nat)) (w : World) : KeptB b row w w := ⟨rfl, rfl, rfl, Nat.le_refl _, fun _ _ _ _ => rfl⟩
theorem KeptB.trans (h : KeptB b row w w1) (k : KeptB b row w1 w2) : KeptB b row w w2 :=
  ⟨k.os.trans h.os, k.tape.trans h.tape, k.output.trans h.output, Nat.le_trans h.size k.size, fun i hi h1 h2 => (k.block i (Nat.lt_of_lt_of_le hi h.size) h1 h2).trans (h.block i hi h1 h2)⟩
theorem KeptB.setB (h : KeptB b row w w1) (i : Nat) (v : Value) : KeptB b row w (w1.setCell ⟨b, i, none⟩ v) :=
  ⟨h.os, h.tape, h.output, by simpa using h.size, fun k hk h1 h2 => (Below.heap_setCell _ _ _ _ h1).trans (h.block k hk h1 h2)⟩
theorem KeptB.below (h : KeptB b row w w1) (hb : Below w1.heap.size w1 w2) : KeptB b row w w2 :=
  ⟨hb.os.trans h.os, hb.tape.trans h.tape, hb.output.trans h.output, Nat.le_trans h.size hb.size, fun k hk h1 h2 => (hb.block k (Nat.lt_of_lt_of_le hk h.size)).trans (h.block k hk h1 h2)⟩
theorem KeptB.setG {g cap : Nat} (h : KeptB b row w w1) (hg : row = some (g, cap) ∨ w.heap.size ≤ g) (i : Nat) (v : Value) : KeptB b row w (w1.setCell ⟨g, i, none⟩ v) :=
  ⟨h.os, h.tape, h.output, by simpa using h.size, fun k hk h1 h2 => (Below.heap_setCell _ _ _ _ (by rcases hg with e | e; exact h2 _ _ e; show k ≠ g; omega)).trans (h.block k hk h1 h2)⟩
end

/-- a new row of 64 bytes. -/
def row64 : Array Value := Array.replicate 64 (.int .u8 0)
theorem mk64 (w : World) : (Instr.makeSlice 22 (.int .i64 1) (.int .i64 64)).run Tryd.prog w = .ok (.slice (some ⟨w.heap.size, 0, none⟩) 1 64) (w.alloc (.cells row64 5)) := by
  kernel_rfl

set_option maxRecDepth 100000 in
set_option maxHeartbeats 1000000 in
/-- grow(1) of a buffer with no row: a row of 64. -/
theorem grow_nil (b : Nat) (lr : Int) (w : World) (hbk : w.heap[b]? = some (.cells #[.slice none 0 0, .int .i64 0, .int .i8 lr] 30 (0, 0))) :
    Calls Tryd.prog 14 #[.pointer (some ⟨b, 0, none⟩), .int .i64 1] w fun e w' => e = .returned (.int .i64 0) ∧
      w'.heap[b]? = some (.cells #[.slice (some ⟨w.heap.size, 0, none⟩) 1 64, .int .i64 0, .int .i8 lr] 30 (0, 0)) ∧ w'.heap[w.heap.size]? = some (.cells row64 5 (0, 0)) ∧ KeptB b none w w' := by
  have hlt := Lib.lt_of_heap hbk
  have hIs : Lib.IsBuffer 30 5 0 b [] w := ⟨Nat.zero_le _, _, _, hbk, World.ownsRow_nil _ _ _ _, by simp [Value.ownBlock]⟩
  have CL := Tryd.Buffer_Len 0 b [] w hIs
  have hnil : ∀ W, (binOp .eql 22 (.slice none 0 0) (.slice none 0 0)).run Tryd.prog W = .ok (.bool true) W := fun W => by kernel_rfl
  have hmk := mk64
  clear hIs
  go_enter Tryd.func14, Tryd.ntmps14
  go_wp2_with fail
  refine CL.mono ?_
  rintro e w1 ⟨rfl, q, hq⟩
  have hs1 : w1.heap.size = w.heap.size := by rw [hq]; rfl
  have hbk1 : w1.heap[b]? = some (.cells #[.slice none 0 0, .int .i64 0, .int .i8 lr] 30 (0, 0)) := by rw [hq]; exact hbk
  have hK : Hid (KeptB b none w w1) := by rw [hq]; exact (⟨rfl, rfl, rfl, Nat.le_refl _, fun _ _ _ _ => rfl⟩ : KeptB b none w (w.drewN q))
  clear hq CL hbk
  have HS1 : Hid (w1.heap.size = w.heap.size) := hs1
  have hlt1 : b < w1.heap.size := by omega
  clear hs1 hlt
  have c0 : w1.cell? ⟨b, 0, none⟩ = some (.slice none 0 0) := by rw [Lib.cell_of_heap hbk1]; rfl
  have c1 : w1.cell? ⟨b, 1, none⟩ = some (.int .i64 0) := by rw [Lib.cell_of_heap hbk1]; rfl
  have f0 : w1.frozen? ⟨b, 0, none⟩ = false := Lib.frozen_of_heap hbk1 0
  have HBK : Hid (w1.heap[b]? = some (.cells #[.slice none 0 0, .int .i64 0, .int .i8 lr] 30 (0, 0))) := hbk1
  clear hbk1
  have CT := Tryd.Buffer_tryGrow_none b none 0 0 1 w1 c0 (Nat.le_refl _) (Nat.zero_le _) (by omega)
  go_wp2_with fail
  refine CT.mono ?_
  rintro e w2 ⟨rfl, hw2⟩
  have hw2' := hw2.symm
  subst hw2'
  clear CT
  go_wp2
  go_ret
  have e1 := HS1.out
  have k1 := Lib.heap_setCell_same (i := 0) HBK.out (.slice (some ⟨w1.heap.size, 0, none⟩) 1 64)
  refine ⟨rfl, ?_, ?_, ?_⟩
  · rw [← e1, Below.heap_alloc _ _ _ (by simpa using hlt1)]; exact k1
  · rw [← e1]
    have := heap_alloc_new (w1.setCell ⟨b, 0, none⟩ (.slice (some ⟨w1.heap.size, 0, none⟩) 1 64)) (.cells row64 5)
    simpa using this
  · exact (hK.out.setB 0 _).below ((Below.refl _ _).alloc (Nat.le_refl _) _)
end Go.Proofs.Qxb6605697aDoor
