import Derived.Test.Qxb6606016aNew2
namespace Go.Proofs.Qxb6606016a
open Go.RowKit Go.MuLone
set_option linter.unusedVariables false

def depsB (o : Oper) (l : List Nat) : Bool := l.all fun n => o.after.any fun e => Region.binds .any e && e.on == n
/-- row i of a region, as it is written. -/
def RowAt (ops : Array Oper) (i : Nat) (op : Op) (dst : Option Tmp) (l : List Nat) : Prop := ∃ o, ops[i]? = some o ∧ o.op = op ∧ o.dst = dst ∧ o.guard = none ∧ depsB o l = true
theorem deps_listed {o : Oper} {l : List Nat} (h : depsB o l = true) {listed : Array Bool} (hd : ∀ e ∈ o.after, Region.binds .any e = true → listed.getD e.on false = true) : ∀ n ∈ l, listed.getD n false = true := by
  intro n hn
  have h1 := List.all_eq_true.1 h n hn
  obtain ⟨e, he, h2⟩ := Array.any_eq_true'.1 h1
  have h3 : Region.binds .any e = true ∧ e.on = n := by simpa using h2
  obtain ⟨h3, rfl⟩ := h3
  exact hd e he h3

/-- the map behind the inserts that have come up. -/
def MapIs (W : World) (f5 f10 : Bool) (mb q1 q2 : Nat) (ka kb : Lit) : Prop := ∃ D : DQ, Maps.IsMap D ∧ Maps.Tidy D ∧ W.ownsMap Try.prog 50 ptrElem mb (f5.toNat + f10.toNat) D ∧ Maps.has D ka = f5 ∧ Maps.has D kb = f10 ∧
  (f5 = true → D.atKey ka (.held none) = .held (some ⟨q1, 0, none⟩)) ∧ (f10 = true → D.atKey kb (.held none) = .held (some ⟨q2, 0, none⟩)) ∧ Maps.size D = f5.toNat + f10.toNat
theorem owns_blk {W W' : World} {mb n : Nat} {D : DQ} (h : W.ownsMap Try.prog 50 ptrElem mb n D) (hb : W'.heap[mb]? = W.heap[mb]?) : W'.ownsMap Try.prog 50 ptrElem mb n D := by
  obtain ⟨es, cl, h1, h2⟩ := h
  exact ⟨es, cl, hb.trans h1, h2⟩
theorem MapIs.below {W W' : World} {f5 f10 : Bool} {mb q1 q2 : Nat} {ka kb : Lit} (h : MapIs W f5 f10 mb q1 q2 ka kb) (hb : Below W.heap.size W W') : MapIs W' f5 f10 mb q1 q2 ka kb := by
  obtain ⟨D, h1, h2, h3, h4⟩ := h
  exact ⟨D, h1, h2, owns_blk h3 (hb.block _ h3.lt), h4⟩
theorem lt_of_blk {W : World} {k : Nat} {o : Obj} (h : W.heap[k]? = some o) : k < W.heap.size := (Array.getElem?_eq_some_iff.1 h).1

/-- THE REGION's STATE: which of the eleven have come up, what their slots hold. -/
structure J15 (w0 : World) (A B : Nat) (xs ys : Array Value) (ka kb : Lit) (r s : Int) (f0 f1 f2 f3 f4 f5 f6 f7 f8 f9 f10 : Bool) (s9 s10 s11 s12 s13 s14 s15 s16 s17 : Value) (mb q1 q2 : Nat) (W : World) : Prop where
  bel : Below w0.heap.size w0 W
  hA : W.heap[A]? = some (.cells xs 22)
  hB : W.heap[B]? = some (.cells ys 22)
  d5 : f5 = true → f0 = true ∧ f4 = true
  d10 : f10 = true → f0 = true ∧ f9 = true
  c0 : f0 = true → s9 = .map (some mb) ∧ w0.heap.size ≤ mb ∧ MapIs W f5 f10 mb q1 q2 ka kb
  c1 : f1 = true → s10 = .agg xs
  c2 : f2 = true → s11 = .int .i64 r
  c3 : f3 = true → s12 = .agg (qcells r)
  c4 : f4 = true → s13 = .pointer (some ⟨q1, 0, none⟩) ∧ W.heap[q1]? = some (.cells (qcells r) 60) ∧ w0.heap.size ≤ q1
  c6 : f6 = true → s14 = .agg ys
  c7 : f7 = true → s15 = .int .i64 s
  c8 : f8 = true → s16 = .agg (qcells s)
  c9 : f9 = true → s17 = .pointer (some ⟨q2, 0, none⟩) ∧ W.heap[q2]? = some (.cells (qcells s) 60) ∧ w0.heap.size ≤ q2
  cq : f4 = true → f9 = true → q1 ≠ q2

section
variable {w0 W W' : World} {A B mb q1 q2 : Nat} {xs ys : Array Value} {ka kb : Lit} {r s : Int} {f0 f1 f2 f3 f4 f5 f6 f7 f8 f9 f10 : Bool} {s9 s10 s11 s12 s13 s14 s15 s16 s17 : Value}
theorem J15.grow (h : J15 w0 A B xs ys ka kb r s f0 f1 f2 f3 f4 f5 f6 f7 f8 f9 f10 s9 s10 s11 s12 s13 s14 s15 s16 s17 mb q1 q2 W) (hb : Below W.heap.size W W') : J15 w0 A B xs ys ka kb r s f0 f1 f2 f3 f4 f5 f6 f7 f8 f9 f10 s9 s10 s11 s12 s13 s14 s15 s16 s17 mb q1 q2 W' :=
  ⟨h.bel.trans (hb.mono h.bel.size), (hb.block _ (lt_of_blk h.hA)).trans h.hA, (hb.block _ (lt_of_blk h.hB)).trans h.hB, h.d5, h.d10, fun e => ⟨(h.c0 e).1, (h.c0 e).2.1, (h.c0 e).2.2.below hb⟩, h.c1, h.c2, h.c3,
    fun e => ⟨(h.c4 e).1, (hb.block _ (lt_of_blk (h.c4 e).2.1)).trans (h.c4 e).2.1, (h.c4 e).2.2⟩, h.c6, h.c7, h.c8, fun e => ⟨(h.c9 e).1, (hb.block _ (lt_of_blk (h.c9 e).2.1)).trans (h.c9 e).2.1, (h.c9 e).2.2⟩, h.cq⟩
end

abbrev fr15 (v0 v2 v5 v7 v8 s18 s19 s20 : Value) (r s : Int) (A B : Nat) (s9 s10 s11 s12 s13 s14 s15 s16 s17 : Value) : Act :=
  ⟨#[v0, .int .i64 r, v2, .int .i64 s, .pointer (some ⟨A, 0, none⟩), v5, .pointer (some ⟨B, 0, none⟩), v7, v8, s9, s10, s11, s12, s13, s14, s15, s16, s17, s18, s19, s20], []⟩

def cnt15 (f0 f1 f2 f3 f4 f5 f6 f7 f8 f9 f10 : Bool) : Nat := (!f0).toNat + (!f1).toNat + (!f2).toNat + (!f3).toNat + (!f4).toNat + (!f5).toNat + (!f6).toNat + (!f7).toNat + (!f8).toNat + (!f9).toNat + (!f10).toNat

/-- ONE INSERT. -/
theorem ins15 {W : World} {mb n : Nat} {D : DQ} {key : Value} {kl : Lit} {q : Nat} (h : W.ownsMap Try.prog 50 ptrElem mb n D) (hn : n < maxLen) (hk : keyOf Try.prog 50 key = some kl) :
    ∃ W', (Instr.mapUpdate 61 (.map (some mb)) key (.pointer (some ⟨q, 0, none⟩))).run Try.prog W = .ok () W' ∧ W'.ownsMap Try.prog 50 ptrElem mb (n + 1) (D.put kl (.held (some ⟨q, 0, none⟩))) ∧
      (∀ (k : Nat) (xs : Array Value) (t : TypeId), W.heap[k]? = some (.cells xs t) → W'.heap[k]? = some (.cells xs t)) ∧ ∀ w0 : World, Below w0.heap.size w0 W → w0.heap.size ≤ mb → Below w0.heap.size w0 W' := by
  obtain ⟨W', h1, h2, h3⟩ := h.store (e := 51) law50 Try.underlying61 hn (key := key) (val := .pointer (some ⟨q, 0, none⟩)) (d := .held (some ⟨q, 0, none⟩)) (ps := []) hk rfl
  refine ⟨W', h1, h2, fun k xs t hk => ?_, fun w0 hb hm => hb.grown h3.grown hb.size (fun k e => by cases e; exact hm)⟩
  rw [h3.grown.block k (lt_of_blk hk) ?_, hk]
  intro e
  cases e
  obtain ⟨es, cl, hh, _⟩ := h
  rw [hh] at hk
  cases hk

end Go.Proofs.Qxb6606016a
