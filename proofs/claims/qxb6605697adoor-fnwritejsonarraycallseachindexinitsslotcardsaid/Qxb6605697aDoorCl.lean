import Derived.Test.Qxb6605697aDoorWrite
import Derived.Deep.AppendLies
namespace Go.Proofs.Qxb6605697aDoor
open Go.RowKit
set_option linter.unusedVariables false

/-- THE STATE THAT THE CLOSURE KEEPS: the buffer at b; the three boxes at I, A, L; their rows; no row lies in another's block; all of it at B or above. -/
structure Cl (w : World) (B b I A L : Nat) (row : Option (Nat × Nat)) (bs : List Value) (vi va vl : Value) (xi xa xl : List Value) : Prop where
  buf : Buf w b row bs
  hI : w.heap[I]? = some (.cells #[vi] 24 (0, 0))
  hA : w.heap[A]? = some (.cells #[va] 24 (0, 0))
  hL : w.heap[L]? = some (.cells #[vl] 22 (0, 0))
  oi : w.ownsRow B 3 1 vi xi.length xi
  oa : w.ownsRow B 3 1 va xa.length xa
  ol : w.ownsRow B 5 1 vl xl.length xl
  nIA : I ≠ A
  nia : ∀ k, vi.ownBlock = some k → va.ownBlock ≠ some k
  nlr : ∀ g cap, row = some (g, cap) → vl.ownBlock ≠ some g
  Bb : B ≤ b
  BI : B ≤ I
  BA : B ≤ A
  BL : B ≤ L
  Br : ∀ g cap, row = some (g, cap) → B ≤ g

theorem tag_ne {w : World} {j k : Nat} {c1 c2 : Array Value} {t1 t2 : TypeId} {f1 f2 : Nat × Nat} (h1 : w.heap[j]? = some (.cells c1 t1 f1)) (h2 : w.heap[k]? = some (.cells c2 t2 f2)) (h : t1 ≠ t2) : j ≠ k := by
  rintro rfl
  rw [h1] at h2
  simp at h2
  exact h h2.2.1

theorem own_tag {w : World} {B e n k : Nat} {v : Value} {xs : List Value} (h : w.ownsRow B e 1 v n xs) (hk : v.ownBlock = some k) : ∃ cur, w.heap[k]? = some (.cells cur e (0, 0)) := by
  rcases h.2 with ⟨rfl, _⟩ | ⟨g, cap, cur, rfl, _, hg, _⟩
  · cases hk
  · simp [Value.ownBlock] at hk
    subst hk
    exact ⟨cur, hg⟩

theorem own_keep {w w' : World} {B e n : Nat} {v : Value} {xs : List Value} (h : w.ownsRow B e 1 v n xs) (hk : ∀ k, v.ownBlock = some k → w'.heap[k]? = w.heap[k]?) : w'.ownsRow B e 1 v n xs := by
  refine ⟨h.1, ?_⟩
  rcases h.2 with h0 | ⟨g, cap, cur, rfl, hB, hg, hr⟩
  · exact .inl h0
  · exact .inr ⟨g, cap, cur, rfl, hB, (hk g rfl).trans hg, hr⟩

theorem Buf.keep {w w' : World} {b : Nat} {row : Option (Nat × Nat)} {bs : List Value} (h : Buf w b row bs) (hb : w'.heap[b]? = w.heap[b]?) (hg : ∀ g cap, row = some (g, cap) → w'.heap[g]? = w.heap[g]?) : Buf w' b row bs := by
  refine ⟨h.one, ?_⟩
  rcases h.at' with ⟨r0, r1, lr, r2⟩ | ⟨g, cap, lr, cur, rfl, r1, r2, r3⟩
  · exact .inl ⟨r0, r1, lr, hb.trans r2⟩
  · exact .inr ⟨g, cap, lr, cur, rfl, hb.trans r1, (hg g cap rfl).trans r2, r3⟩

theorem Buf.tag {w : World} {b : Nat} {row : Option (Nat × Nat)} {bs : List Value} (h : Buf w b row bs) : ∃ c, w.heap[b]? = some (.cells c 30 (0, 0)) := by
  rcases h.at' with ⟨r0, r1, lr, r2⟩ | ⟨g, cap, lr, cur, rfl, r1, r2, r3⟩
  · exact ⟨_, r2⟩
  · exact ⟨_, r1⟩
theorem Buf.rowTag {w : World} {b g cap : Nat} {row : Option (Nat × Nat)} {bs : List Value} (h : Buf w b row bs) (hr : row = some (g, cap)) : ∃ c, w.heap[g]? = some (.cells c 5 (0, 0)) := by
  rcases h.at' with ⟨r0, r1, lr, r2⟩ | ⟨g', cap', lr, cur, e, r1, r2, r3⟩
  · rw [r0] at hr; cases hr
  · rw [e] at hr; cases hr; exact ⟨_, r2⟩

section
variable {w w' : World} {B b I A L : Nat} {row : Option (Nat × Nat)} {bs : List Value} {vi va vl : Value} {xi xa xl : List Value}

/-- all blocks of the state stand: the state stands. -/
theorem Cl.keep (h : Cl w B b I A L row bs vi va vl xi xa xl) (hk : ∀ k, k < w.heap.size → w'.heap[k]? = w.heap[k]?) : Cl w' B b I A L row bs vi va vl xi xa xl := by
  obtain ⟨cb, hb⟩ := h.buf.tag
  exact ⟨h.buf.keep (hk _ (Lib.lt_of_heap hb)) (fun g cap e => by obtain ⟨c, hc⟩ := h.buf.rowTag e; exact hk _ (Lib.lt_of_heap hc)),
    (hk _ (Lib.lt_of_heap h.hI)).trans h.hI, (hk _ (Lib.lt_of_heap h.hA)).trans h.hA, (hk _ (Lib.lt_of_heap h.hL)).trans h.hL,
    own_keep h.oi (fun k e => hk _ (h.oi.lt k e).2), own_keep h.oa (fun k e => hk _ (h.oa.lt k e).2), own_keep h.ol (fun k e => hk _ (h.ol.lt k e).2),
    h.nIA, h.nia, h.nlr, h.Bb, h.BI, h.BA, h.BL, h.Br⟩

/-- the box idx, appended to. -/
theorem Cl.setI {x : Value} {g cap : Nat} {w2 : World} (h : Cl w B b I A L row bs vi va vl xi xa xl)
    (hk : ∀ k, k < w.heap.size → some k ≠ vi.ownBlock → w2.heap[k]? = w.heap[k]?) (hsz : w.heap.size ≤ g ∨ vi.ownBlock = some g)
    (ho : w2.ownsRow B 3 1 (.slice (some ⟨g, 0, none⟩) (xi.length + 1) cap) (xi.length + 1) (xi ++ [x])) :
    Cl (w2.setCell ⟨I, 0, none⟩ (.slice (some ⟨g, 0, none⟩) (xi.length + 1) cap)) B b I A L row bs (.slice (some ⟨g, 0, none⟩) (xi.length + 1) cap) va vl (xi ++ [x]) xa xl := by
  obtain ⟨cb, hb⟩ := h.buf.tag
  have it : ∀ k, vi.ownBlock = some k → ∃ cur, w.heap[k]? = some (.cells cur 3 (0, 0)) := fun k e => own_tag h.oi e
  have K : ∀ (k : Nat) (c : Array Value) (t : TypeId) (f : Nat × Nat), w.heap[k]? = some (Obj.cells c t f) → t ≠ 3 → k ≠ I → (w2.setCell ⟨I, 0, none⟩ (.slice (some ⟨g, 0, none⟩) (xi.length + 1) cap)).heap[k]? = w.heap[k]? := fun k c t f hc ht hI => by
    refine (Below.heap_setCell _ _ _ _ hI).trans (hk k (Lib.lt_of_heap hc) (fun e => ?_))
    obtain ⟨cur, hcur⟩ := it k e.symm
    exact tag_ne hc hcur ht rfl
  have hgI : g ≠ I := by
    rcases hsz with hs | hs
    · have := Lib.lt_of_heap h.hI; omega
    · obtain ⟨cur, hcur⟩ := it g hs
      exact tag_ne hcur h.hI (by decide)
  have hI2 : w2.heap[I]? = some (.cells #[vi] 24 (0, 0)) := by
    refine (hk I (Lib.lt_of_heap h.hI) (fun e => ?_)).trans h.hI
    obtain ⟨cur, hcur⟩ := it I e.symm
    exact tag_ne h.hI hcur (by decide) rfl
  refine ⟨h.buf.keep (K b _ _ _ hb (by decide) (tag_ne hb h.hI (by decide))) (fun g' cap' e => ?_), ?_, ?_, ?_, ?_, ?_, ?_, h.nIA, ?_, h.nlr, h.Bb, h.BI, h.BA, h.BL, h.Br⟩
  · obtain ⟨c, hc⟩ := h.buf.rowTag e
    exact K g' _ _ _ hc (by decide) (tag_ne hc h.hI (by decide))
  · exact Lib.heap_setCell_same (i := 0) hI2 _
  · exact (K A _ _ _ h.hA (by decide) (Ne.symm h.nIA)).trans h.hA
  · exact (K L _ _ _ h.hL (by decide) (tag_ne h.hL h.hI (by decide))).trans h.hL
  · have e : (xi ++ [x]).length = xi.length + 1 := by simp
    rw [e]
    exact own_keep ho (fun k e => by simp [Value.ownBlock] at e; subst e; exact Below.heap_setCell _ _ _ _ hgI)
  · refine own_keep h.oa (fun k e => ?_)
    obtain ⟨c, hc⟩ := own_tag h.oa e
    exact (Below.heap_setCell _ _ _ _ (tag_ne hc h.hI (by decide))).trans (hk k (Lib.lt_of_heap hc) (fun e2 => h.nia k e2.symm e))
  · refine own_keep h.ol (fun k e => ?_)
    obtain ⟨c, hc⟩ := own_tag h.ol e
    exact K k _ _ _ hc (by decide) (tag_ne hc h.hI (by decide))
  · intro k e e2
    simp [Value.ownBlock] at e
    subst e
    rcases hsz with hs | hs
    · have := (h.oa.lt _ e2).2; omega
    · exact h.nia _ hs e2

/-- the two int boxes change places. -/
theorem Cl.swap (h : Cl w B b I A L row bs vi va vl xi xa xl) : Cl w B b A I L row bs va vi vl xa xi xl :=
  ⟨h.buf, h.hA, h.hI, h.hL, h.oa, h.oi, h.ol, Ne.symm h.nIA, fun k e e2 => h.nia k e2 e, h.nlr, h.Bb, h.BA, h.BI, h.BL, h.Br⟩

/-- the box at, appended to. -/
theorem Cl.setA {x : Value} {g cap : Nat} {w2 : World} (h : Cl w B b I A L row bs vi va vl xi xa xl)
    (hk : ∀ k, k < w.heap.size → some k ≠ va.ownBlock → w2.heap[k]? = w.heap[k]?) (hsz : w.heap.size ≤ g ∨ va.ownBlock = some g)
    (ho : w2.ownsRow B 3 1 (.slice (some ⟨g, 0, none⟩) (xa.length + 1) cap) (xa.length + 1) (xa ++ [x])) :
    Cl (w2.setCell ⟨A, 0, none⟩ (.slice (some ⟨g, 0, none⟩) (xa.length + 1) cap)) B b I A L row bs vi (.slice (some ⟨g, 0, none⟩) (xa.length + 1) cap) vl xi (xa ++ [x]) xl :=
  (h.swap.setI hk hsz ho).swap

/-- the box last, appended to. -/
theorem Cl.setL {x : Value} {g cap : Nat} {w2 : World} (h : Cl w B b I A L row bs vi va vl xi xa xl)
    (hk : ∀ k, k < w.heap.size → some k ≠ vl.ownBlock → w2.heap[k]? = w.heap[k]?) (hsz : w.heap.size ≤ g ∨ vl.ownBlock = some g)
    (ho : w2.ownsRow B 5 1 (.slice (some ⟨g, 0, none⟩) (xl.length + 1) cap) (xl.length + 1) (xl ++ [x])) :
    Cl (w2.setCell ⟨L, 0, none⟩ (.slice (some ⟨g, 0, none⟩) (xl.length + 1) cap)) B b I A L row bs vi va (.slice (some ⟨g, 0, none⟩) (xl.length + 1) cap) xi xa (xl ++ [x]) := by
  obtain ⟨cb, hb⟩ := h.buf.tag
  have it : ∀ k, vl.ownBlock = some k → ∃ cur, w.heap[k]? = some (.cells cur 5 (0, 0)) := fun k e => own_tag h.ol e
  have K : ∀ (k : Nat) (c : Array Value) (t : TypeId) (f : Nat × Nat), w.heap[k]? = some (Obj.cells c t f) → t ≠ 5 → k ≠ L → (w2.setCell ⟨L, 0, none⟩ (.slice (some ⟨g, 0, none⟩) (xl.length + 1) cap)).heap[k]? = w.heap[k]? := fun k c t f hc ht hL => by
    refine (Below.heap_setCell _ _ _ _ hL).trans (hk k (Lib.lt_of_heap hc) (fun e => ?_))
    obtain ⟨cur, hcur⟩ := it k e.symm
    exact tag_ne hc hcur ht rfl
  have hgL : g ≠ L := by
    rcases hsz with hs | hs
    · have := Lib.lt_of_heap h.hL; omega
    · obtain ⟨cur, hcur⟩ := it g hs
      exact tag_ne hcur h.hL (by decide)
  have hL2 : w2.heap[L]? = some (.cells #[vl] 22 (0, 0)) := by
    refine (hk L (Lib.lt_of_heap h.hL) (fun e => ?_)).trans h.hL
    obtain ⟨cur, hcur⟩ := it L e.symm
    exact tag_ne h.hL hcur (by decide) rfl
  refine ⟨h.buf.keep (K b _ _ _ hb (by decide) (tag_ne hb h.hL (by decide))) (fun g' cap' e => ?_), ?_, ?_, ?_, ?_, ?_, ?_, h.nIA, h.nia, ?_, h.Bb, h.BI, h.BA, h.BL, h.Br⟩
  · obtain ⟨c, hc⟩ := h.buf.rowTag e
    exact (Below.heap_setCell _ _ _ _ (tag_ne hc h.hL (by decide))).trans (hk g' (Lib.lt_of_heap hc) (fun e2 => h.nlr _ _ e e2.symm))
  · exact (K I _ _ _ h.hI (by decide) (tag_ne h.hI h.hL (by decide))).trans h.hI
  · exact (K A _ _ _ h.hA (by decide) (tag_ne h.hA h.hL (by decide))).trans h.hA
  · exact Lib.heap_setCell_same (i := 0) hL2 _
  · refine own_keep h.oi (fun k e => ?_)
    obtain ⟨c, hc⟩ := own_tag h.oi e
    exact K k _ _ _ hc (by decide) (tag_ne hc h.hL (by decide))
  · refine own_keep h.oa (fun k e => ?_)
    obtain ⟨c, hc⟩ := own_tag h.oa e
    exact K k _ _ _ hc (by decide) (tag_ne hc h.hL (by decide))
  · have e : (xl ++ [x]).length = xl.length + 1 := by simp
    rw [e]
    exact own_keep ho (fun k e => by simp [Value.ownBlock] at e; subst e; exact Below.heap_setCell _ _ _ _ hgL)
  · intro g' cap' e e2
    simp [Value.ownBlock] at e2
    subst e2
    rcases hsz with hs | hs
    · obtain ⟨c, hc⟩ := h.buf.rowTag e
      have := Lib.lt_of_heap hc; omega
    · exact h.nlr _ _ e hs

/-- the buffer, written to. -/
theorem Cl.setB {g cap : Nat} {bs' : List Value} (h : Cl w B b I A L row bs vi va vl xi xa xl) (hb' : Buf w' b (some (g, cap)) bs') (hg : (∃ cap0, row = some (g, cap0)) ∨ w.heap.size ≤ g) (hK : KeptB b row w w') (hB : B ≤ w.heap.size) :
    Cl w' B b I A L (some (g, cap)) bs' vi va vl xi xa xl := by
  obtain ⟨cb, hb⟩ := h.buf.tag
  have K : ∀ (k : Nat) (c : Array Value) (t : TypeId) (f : Nat × Nat), w.heap[k]? = some (Obj.cells c t f) → t ≠ 5 → t ≠ 30 → w'.heap[k]? = w.heap[k]? := fun k c t f hc h5 h30 =>
    hK.block k (Lib.lt_of_heap hc) (tag_ne hc hb h30) (fun g cap e => by obtain ⟨c2, hc2⟩ := h.buf.rowTag e; exact tag_ne hc hc2 h5)
  refine ⟨hb', (K I _ _ _ h.hI (by decide) (by decide)).trans h.hI, (K A _ _ _ h.hA (by decide) (by decide)).trans h.hA, (K L _ _ _ h.hL (by decide) (by decide)).trans h.hL,
    own_keep h.oi (fun k e => ?_), own_keep h.oa (fun k e => ?_), own_keep h.ol (fun k e => ?_), h.nIA, h.nia, ?_, h.Bb, h.BI, h.BA, h.BL, ?_⟩
  · obtain ⟨c, hc⟩ := own_tag h.oi e
    exact K k _ _ _ hc (by decide) (by decide)
  · obtain ⟨c, hc⟩ := own_tag h.oa e
    exact K k _ _ _ hc (by decide) (by decide)
  · obtain ⟨c, hc⟩ := own_tag h.ol e
    exact hK.block k (Lib.lt_of_heap hc) (tag_ne hc hb (by decide)) (fun g cap e2 e3 => h.nlr _ _ e2 (e3 ▸ e))
  · intro g' cap' e e2
    cases e
    rcases hg with ⟨cap0, hr⟩ | hs
    · exact h.nlr _ _ hr e2
    · have := (h.ol.lt _ e2).2; omega
  · intro g' cap' e
    cases e
    rcases hg with ⟨cap0, hr⟩ | hs
    · exact h.Br _ _ hr
    · omega
end

theorem KeptB.toBelow {w w' : World} {B b : Nat} {row : Option (Nat × Nat)} (h : KeptB b row w w') (hb : B ≤ b) (hr : ∀ g cap, row = some (g, cap) → B ≤ g) (hB : B ≤ w.heap.size) : Below B w w' :=
  ⟨h.os, h.tape, h.output, h.size, fun k hk => h.block k (by omega) (by omega) (fun g cap e => by have := hr g cap e; omega)⟩
/-- WHAT ONE append OF ONE ELEMENT LEAVES: the row grown in place or laid anew; every other old block as it was. -/
structure App (w w2 : World) (B e : Nat) (v : Value) (xs : List Value) (g cap : Nat) (x : Value) : Prop where
  kept : ∀ k, k < w.heap.size → some k ≠ v.ownBlock → w2.heap[k]? = w.heap[k]?
  place : w.heap.size ≤ g ∨ v.ownBlock = some g
  own : w2.ownsRow B e 1 (.slice (some ⟨g, 0, none⟩) (xs.length + 1) cap) (xs.length + 1) (xs ++ [x])
  below : Below B w w2

theorem app_of {w w2 : World} {B e t g cap : Nat} {v x : Value} {xs : List Value} (hown : w.ownsRow B e 1 v xs.length xs) (hB : B ≤ w.heap.size)
    (h2 : w2.ownsRow B e 1 (.slice (some ⟨g, 0, none⟩) (xs.length + 1) cap) (xs.length + 1) (xs ++ [x])) (h3 : (w.alloc (.cells #[x] t)).grownBy w2 v.ownBlock) (h4 : v.ownBlock = some g ∨ g = w.heap.size + 1) : App w w2 B e v xs g cap x where
  kept := fun k hk hne => (h3.block k (by simp; omega) hne).trans (Below.heap_alloc _ _ _ hk)
  place := by rcases h4 with h | h; exact .inr h; exact .inl (by omega)
  own := h2
  below := ((Below.refl B w).alloc hB _).grown h3 (by simp; omega) (fun k e => (hown.lt k e).1)

/-- At a plain region. -/
theorem wpList_app {ops : Array Oper} {rest : List Oper} {o : Oper} {a : Act} {Q : Exit → Act → World → Prop} (w : World) (hgd : o.guard = none) (s x : Operand) (t : TypeId)
    (ho : o.op = .call { callee := .builtin .append, args := #[s, x], argTypes := #[t, t] })
    (B e : Nat) (z : Value) (bytes : Nat) (ht : Tryd.prog.underlying t = some (.slice e)) (hi : ∃ i, Tryd.prog.info? e = some i ∧ i.zero = some z ∧ i.size = 1 ∧ i.bytes = bytes) (hzs : z.cells.size = 1) (h8 : bytes ≤ 8)
    (v y : Value) (xs : List Value) (hs : a.eval s = v) (hown : w.ownsRow B e 1 v xs.length xs) (hx : a.eval x = .slice (some ⟨w.heap.size, 0, none⟩) 1 1) (hy : y.oneCell' = true) (hn : xs.length ≤ 1048576) (hB : B ≤ w.heap.size)
    (h : ∀ g cap w', App w w' B e v xs g cap y → wpList Tryd.prog ops Q rest (a.put o.dst (.slice (some ⟨g, 0, none⟩) (xs.length + 1) cap)) w') :
    wpList Tryd.prog ops Q (o :: rest) a (w.alloc (.cells #[y] e)) := by
  obtain ⟨i, hi, hz, h1, h2⟩ := hi
  refine wpList_append_lies (w.alloc (.cells #[y] e)) hgd s x t ho B e i z 1 bytes ht hi hz h1 h2 hzs (by decide) v xs.length xs hs (hown.alloc _) ⟨w.heap.size, 0, none⟩ 1 1 [y] hx rfl (cell_one_new _ _ _) (fun u hu => by simp at hu; subst hu; exact hy) (by decide) (by unfold maxLen; omega) ?_ (by simp; omega) (w.heap.size + 1) (by simp) ?_
  · exact Nat.le_trans (Nat.mul_le_mul (show xs.length + 1 ≤ 1048577 by omega) h8) (by decide)
  · intro g cap w' k1 k2 k3 k4
    exact h g cap w' (app_of hown hB k1 k2 k3)

/-- At a region that draws. -/
theorem step_app {ops : Array Oper} {o : Oper} {a : Act} {K : Act → World → Prop} {Q : Exit → Act → World → Prop} {E : Prop} (w : World) (hgd : o.guard = none) (s x : Operand) (t : TypeId)
    (ho : o.op = .call { callee := .builtin .append, args := #[s, x], argTypes := #[t, t] })
    (B e : Nat) (z : Value) (bytes : Nat) (ht : Tryd.prog.underlying t = some (.slice e)) (hi : ∃ i, Tryd.prog.info? e = some i ∧ i.zero = some z ∧ i.size = 1 ∧ i.bytes = bytes) (hzs : z.cells.size = 1) (h8 : bytes ≤ 8)
    (v y : Value) (xs : List Value) (hs : a.eval s = v) (hown : w.ownsRow B e 1 v xs.length xs) (hx : a.eval x = .slice (some ⟨w.heap.size, 0, none⟩) 1 1) (hy : y.oneCell' = true) (hn : xs.length ≤ 1048576) (hB : B ≤ w.heap.size)
    (h : ∀ g cap w', App w w' B e v xs g cap y → K (a.put o.dst (.slice (some ⟨g, 0, none⟩) (xs.length + 1) cap)) w') :
    if Region.wanted o (yielded ops a.tmps) = true then Oper.wp Tryd.prog o a (w.alloc (.cells #[y] e)) K Q else E := by
  obtain ⟨i, hi, hz, h1, h2⟩ := hi
  refine step_append_lies (w.alloc (.cells #[y] e)) hgd s x t ho B e i z 1 bytes ht hi hz h1 h2 hzs (by decide) v xs.length xs hs (hown.alloc _) ⟨w.heap.size, 0, none⟩ 1 1 [y] hx rfl (cell_one_new _ _ _) (fun u hu => by simp at hu; subst hu; exact hy) (by decide) (by unfold maxLen; omega) ?_ (by simp; omega) (w.heap.size + 1) (by simp) ?_
  · exact Nat.le_trans (Nat.mul_le_mul (show xs.length + 1 ≤ 1048577 by omega) h8) (by decide)
  · intro g cap w' k1 k2 k3 k4
    exact h g cap w' (app_of hown hB k1 k2 k3)

theorem info3' : (Tryd.prog.info? 3).map (fun i => (i.zero, i.size, i.bytes)) = some (some (.int .i64 0), 1, 8) := by kernel_rfl
theorem info5' : (Tryd.prog.info? 5).map (fun i => (i.zero, i.size, i.bytes)) = some (some (.int .u8 0), 1, 1) := by kernel_rfl
theorem i3 : ∃ i, Tryd.prog.info? 3 = some i ∧ i.zero = some (.int .i64 0) ∧ i.size = 1 ∧ i.bytes = 8 := by
  obtain ⟨i, hi, h⟩ := Option.map_eq_some_iff.1 info3'
  simp only [Prod.mk.injEq] at h
  exact ⟨i, hi, h⟩
theorem i5 : ∃ i, Tryd.prog.info? 5 = some i ∧ i.zero = some (.int .u8 0) ∧ i.size = 1 ∧ i.bytes = 1 := by
  obtain ⟨i, hi, h⟩ := Option.map_eq_some_iff.1 info5'
  simp only [Prod.mk.injEq] at h
  exact ⟨i, hi, h⟩
end Go.Proofs.Qxb6605697aDoor
