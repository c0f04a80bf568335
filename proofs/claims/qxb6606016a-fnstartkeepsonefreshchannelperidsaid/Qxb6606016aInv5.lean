import Derived.Test.Qxb6606016aShape
import Derived.Test.Qxb6606016aBytes5
import Derived.Test.Qxb6606016aIdsSl
namespace Go.Proofs.Qxb6606016a
open Go.RowKit Go.MuLone
set_option linter.unusedVariables false

theorem c16_get {xs : Array Value} (h : xs.size = 16) : xs = c16 (fun j => xs.getD j undef) := by
  apply Array.ext
  · simp [h]
  · intro i h1 h2
    have h3 : i < 16 := by omega
    have h4 : i = 0 ∨ i = 1 ∨ i = 2 ∨ i = 3 ∨ i = 4 ∨ i = 5 ∨ i = 6 ∨ i = 7 ∨ i = 8 ∨ i = 9 ∨ i = 10 ∨ i = 11 ∨ i = 12 ∨ i = 13 ∨ i = 14 ∨ i = 15 := by omega
    rcases h4 with rfl | rfl | rfl | rfl | rfl | rfl | rfl | rfl | rfl | rfl | rfl | rfl | rfl | rfl | rfl | rfl <;> simp [Array.getD, h]

theorem cloneIDs_any (a : Option Addr) (n c : Nat) (X : Nat → Array Value) (K : Nat → Lit) (w : World) (hn : n ≤ 4096)
    (hpos : 0 < n → ∃ b off, a = some ⟨b, off, none⟩ ∧ b < w.heap.size ∧ ∀ i, i < n → w.rangeAt b (off + i * 16) (X i).toList) (hnil : a = none → c = 0) (hid : ∀ i, i < n → IsId (X i) (K i)) :
    Calls Try.prog 17 #[.slice a n c] w fun e w' => ∃ a', e = .returned (.slice a' n n) ∧ (0 < n → a' = some ⟨w.heap.size, 0, none⟩ ∧ w.heap.size < w'.heap.size) ∧ (∀ i, i < n → w'.rangeAt w.heap.size (i * 16) (X i).toList) ∧ Below w.heap.size w w' := by
  rcases Nat.eq_zero_or_pos n with rfl | h0
  · refine (cloneIDs_zero a c hnil w).mono ?_
    rintro e w' ⟨⟨a', rfl⟩, hB⟩
    exact ⟨a', rfl, fun h => absurd h (Nat.lt_irrefl _), fun i hi => absurd hi (Nat.not_lt_zero _), hB⟩
  · obtain ⟨b, off, rfl, hb, hr⟩ := hpos h0
    have hX : ∀ i, i < n → X i = c16 (fun j => (X i).getD j undef) := fun i hi => c16_get (hid i hi).1
    refine (cloneIDs_pos b off n c (fun i j => (X i).getD j undef) K w hn h0 hb (fun i hi => ?_) (fun i hi => ?_)).mono ?_
    · have := hr i hi
      rw [hX i hi] at this
      exact this
    · rw [← hX i hi]; exact hid i hi
    · rintro e w' ⟨rfl, hC, hB, hs⟩
      refine ⟨_, rfl, fun _ => ⟨rfl, hs⟩, fun i hi => ?_, hB⟩
      have := hC.2 i hi
      rw [hX i hi]
      exact this

theorem shapeX (ob n : Nat) (m : Option Nat) (xs : Array Value) (D : DC) (kl : Lit) (w : World) (hid : IsId xs kl) (h : OSt w ob m n D) (hn : n < maxLen) (hD : Maps.IsMap D) :
    Calls Try.prog 19 #[.pointer (some ⟨ob, 0, none⟩), .agg xs] w fun e w' => e = .returned (.tuple #[.int .i64 256, .int .i64 0, .bool true]) ∧
      (∃ m' cb, OSt w' ob m' (n + 1) (D.put kl (.held (some cb)))) ∧ Kept ob m w w' := by
  obtain ⟨a, rfl⟩ := c16_of hid.1
  exact shape_any ob n m a D kl w hid h hn hD
theorem runsX (ob n : Nat) (m : Option Nat) (xs : Array Value) (D : DC) (kl : Lit) (r : Option Nat) (w : World) (hid : IsId xs kl) (hs : OSt w ob m n D) (hh : Maps.has D kl = true) (hat : D.atKey kl (.held none) = .held r) :
    Calls Try.prog 21 #[.pointer (some ⟨ob, 0, none⟩), .agg xs] w fun e w' => e = .returned (.bool true) ∧ Below w.heap.size w w' := by
  obtain ⟨a, rfl⟩ := c16_of hid.1
  exact runs_any ob n m a D kl r w hid hs hh hat

/-- THE MAP BEHIND k STARTS: it holds the first k ids and no other. -/
structure PSt (D : DC) (K : Nat → Lit) (k : Nat) : Prop where
  isMap : Maps.IsMap D
  tidy : Maps.Tidy D
  has : ∀ l, Maps.has D l = true ↔ ∃ j, j < k ∧ K j = l
  held : ∀ l, ∃ r, D.atKey l (.held none) = .held r
theorem PSt.zero (K : Nat → Lit) : PSt (.map []) K 0 := ⟨Maps.isMap_empty, Maps.tidy_empty, fun l => ⟨fun h => by simp [Maps.has] at h, fun ⟨j, hj, _⟩ => absurd hj (Nat.not_lt_zero _)⟩, fun l => ⟨none, rfl⟩⟩
theorem PSt.step {D : DC} {K : Nat → Lit} {k : Nat} (h : PSt D K k) (hk : WideAt.IsKeyLit (K k)) (r : Option Nat) : PSt (D.put (K k) (.held r)) K (k + 1) := by
  refine ⟨h.isMap.put _ _, h.tidy.put hk _, fun l => ?_, fun l => ?_⟩
  · by_cases e : l = K k
    · subst e
      exact ⟨fun _ => ⟨k, Nat.lt_succ_self _, rfl⟩, fun _ => Maps.has_put_same h.isMap hk _⟩
    · rw [Maps.has_put_other e, h.has]
      constructor
      · rintro ⟨j, hj, rfl⟩; exact ⟨j, by omega, rfl⟩
      · rintro ⟨j, hj, rfl⟩
        refine ⟨j, ?_, rfl⟩
        rcases Nat.lt_succ_iff_lt_or_eq.1 hj with h' | rfl
        · exact h'
        · exact absurd rfl e
  · by_cases e : l = K k
    · subst e; exact ⟨r, Maps.atKey_put_same h.isMap hk _ _⟩
    · rw [Maps.atKey_put_other e]; exact h.held l
theorem PSt.size_seen {D : DC} {K : Nat → Lit} {k : Nat} (h : PSt D K k) (hs : ∃ j, j < k ∧ K j = K k) (r : Option Nat) : Maps.size (D.put (K k) (.held r)) = Maps.size D := by
  rw [Maps.size_put h.tidy, (h.has _).2 hs]; rfl
theorem PSt.size_new {D : DC} {K : Nat → Lit} {k : Nat} (h : PSt D K k) (hs : ∀ j, j < k → K j ≠ K k) (r : Option Nat) : Maps.size (D.put (K k) (.held r)) = Maps.size D + 1 := by
  rw [Maps.size_put h.tidy]
  have : Maps.has D (K k) = false := by
    rw [Bool.eq_false_iff]
    intro e
    obtain ⟨j, hj, e⟩ := (h.has _).1 e
    exact hs j hj e
  rw [this]; rfl

/-- THE LAW's STATE. -/
structure L5 (w wr : World) (cb ob n k d : Nat) (X : Nat → Array Value) (K : Nat → Lit) : Prop where
  copy : ∀ i, i < n → wr.rangeAt cb (i * 16) (X i).toList
  lt : 0 < n → cb < ob
  bel : Below w.heap.size w wr
  cbw : w.heap.size ≤ cb
  obw : w.heap.size ≤ ob
  dk : d ≤ k
  st : ∃ m D, OSt wr ob m k D ∧ PSt D K k ∧ Maps.size D = d

theorem L5.below {w wr w' : World} {cb ob n k d : Nat} {X : Nat → Array Value} {K : Nat → Lit} (h : L5 w wr cb ob n k d X K) (hb : Below wr.heap.size wr w') : L5 w w' cb ob n k d X K := by
  obtain ⟨m, D, hO, hP, hz⟩ := h.st
  exact ⟨fun i hi => range_below hb (Nat.lt_trans (h.lt (by omega)) hO.lt) (h.copy i hi), h.lt, h.bel.trans (hb.mono h.bel.size), h.cbw, h.obw, h.dk, m, D, hO.below hb, hP, hz⟩
theorem L5.drewN {w wr : World} {cb ob n k d : Nat} {X : Nat → Array Value} {K : Nat → Lit} (h : L5 w wr cb ob n k d X K) (q : Nat) : L5 w (wr.drewN q) cb ob n k d X K :=
  h.below ⟨rfl, rfl, rfl, Nat.le_refl _, fun _ _ => rfl⟩
theorem L5.next {w wr w' : World} {cb ob n k d d' : Nat} {X : Nat → Array Value} {K : Nat → Lit} {m m' r : Option Nat} {D : DC} (h : L5 w wr cb ob n k d X K) (hO : OSt wr ob m k D) (hP : PSt D K k) (hk : WideAt.IsKeyLit (K k))
    (hO' : OSt w' ob m' (k + 1) (D.put (K k) (.held r))) (hK : Kept ob m wr w') (hz : Maps.size (D.put (K k) (.held r)) = d') (hd : d' ≤ k + 1) : L5 w w' cb ob n (k + 1) d' X K := by
  have hml := hO.mlt
  have hob := hO.lt
  refine ⟨fun i hi => ?_, h.lt, h.bel.trans ((hK.below hob (fun mb e => (hml mb e).1)).mono h.obw), h.cbw, h.obw, hd, m', _, hO', hP.step hk r, hz⟩
  have := h.lt (by omega)
  exact fun j v hv => (hK.cell (a := ⟨cb, i * 16 + j, none⟩) (by simp; omega) (by simp; omega) (fun e => by have := hml _ e; simp at this; omega)).trans (h.copy i hi j v hv)

namespace BigFrame5
theorem quiet_load {P : Program} {C : World → Prop} {a : Act} {o : Oper} {K : Act → Prop} (ty : TypeId) (x : Operand) (h : o.op = .load ty x) (v : Value) (hr : ∀ w, C w → (Instr.loadAt ty (a.eval x)).run P w = .ok v w) (hk : K (a.put o.dst v)) : o.quiet P a C K :=
  ⟨_, fun w hw => by
    unfold Oper.quietAt execOp
    simp only [h, Sem.run_bind, Sem.run_pure, hr w hw, Result.andThen_ok]
    exact ⟨rfl, rfl⟩, hk⟩
end BigFrame5
end Go.Proofs.Qxb6606016a
