import Derived.Test.Qxb6606016aStartN
namespace Go.Proofs.Qxb6606016a
open Go.RowKit Go.MuLone
set_option linter.unusedVariables false

theorem Kept.refl (ob : Nat) (m : Option Nat) (w : World) : Kept ob m w w := ⟨rfl, rfl, rfl, Nat.le_refl _, fun _ _ _ _ => rfl⟩
theorem Kept.below {ob : Nat} {m : Option Nat} {w w' : World} (h : Kept ob m w w') (hob : ob < w.heap.size) (hm : ∀ mb, m = some mb → ob < mb) : Below ob w w' :=
  ⟨h.os, h.tape, h.output, h.size, fun k hk => h.block k (by omega) (by omega) (fun e => by have := hm k e; omega)⟩
theorem Kept.cell {ob : Nat} {m : Option Nat} {w w' : World} (h : Kept ob m w w') {a : Addr} (ha : a.block < w.heap.size) (h1 : a.block ≠ ob) (h2 : m ≠ some a.block) : w'.cell? a = w.cell? a := cell_of_blk (h.block _ ha h1 h2)

theorem OSt.lt {w : World} {ob n : Nat} {m : Option Nat} {D : DC} (h : OSt w ob m n D) : ob < w.heap.size := blk_lt h.c4
theorem OSt.mlt {w : World} {ob n : Nat} {m : Option Nat} {D : DC} (h : OSt w ob m n D) : ∀ mb, m = some mb → ob < mb ∧ mb < w.heap.size := by
  intro mb e
  rcases h.mp with ⟨rfl, _⟩ | ⟨mb', rfl, h1, h2⟩
  · cases e
  · cases e; exact ⟨h1, h2.lt⟩

/-- what another's steps leave of o: both its blocks lie as they lay. -/
theorem OSt.keep {w w' : World} {ob n : Nat} {m : Option Nat} {D : DC} (h : OSt w ob m n D) (hb : ∀ k, (k = ob ∨ m = some k) → w'.heap[k]? = w.heap[k]?) : OSt w' ob m n D := by
  refine ⟨(cell_of_blk (a := ⟨ob, 4, none⟩) (hb ob (.inl rfl))).trans h.c4, (frozen_of_blk (a := ⟨ob, 4, none⟩) (hb ob (.inl rfl))).trans h.f4, (cell_of_blk (a := ⟨ob, 6, none⟩) (hb ob (.inl rfl))).trans h.c6, (frozen_of_blk (a := ⟨ob, 6, none⟩) (hb ob (.inl rfl))).trans h.f6, ?_⟩
  rcases h.mp with ⟨e, hD⟩ | ⟨mb, e, h1, h2⟩
  · exact .inl ⟨e, hD⟩
  · obtain ⟨es, clock, h3, r⟩ := h2
    exact .inr ⟨mb, e, h1, es, clock, (hb mb (.inr e)).trans h3, r⟩
theorem OSt.alloc {w : World} {ob n : Nat} {m : Option Nat} {D : DC} (h : OSt w ob m n D) (o : Obj) : OSt (w.alloc o) ob m n D :=
  h.keep (fun k hk => Below.heap_alloc _ _ _ (by rcases hk with rfl | e; exact h.lt; exact (h.mlt _ e).2))
theorem OSt.drewN {w : World} {ob n : Nat} {m : Option Nat} {D : DC} (h : OSt w ob m n D) (q : Nat) : OSt (w.drewN q) ob m n D := h.keep (fun _ _ => rfl)
theorem OSt.below {w w' : World} {ob n : Nat} {m : Option Nat} {D : DC} (h : OSt w ob m n D) (hb : Below w.heap.size w w') : OSt w' ob m n D :=
  h.keep (fun k hk => hb.block k (by rcases hk with rfl | e; exact h.lt; exact (h.mlt _ e).2))

theorem start_any (ob n : Nat) (m : Option Nat) (a : Nat → Value) (D : DC) (kl : Lit) (w : World) (hid : IsId (c16 a) kl) (h : OSt w ob m n D) (hn : n < maxLen) :
    Calls Try.prog 28 #[.pointer (some ⟨ob, 0, none⟩), .agg (c16 a)] w fun e w' => ∃ cb, e = .returned (.chan (some cb)) ∧ w.heap.size ≤ cb ∧ w'.heap[cb]? = some (.chan 256 #[] false 0 0 false) ∧
      (∃ m', OSt w' ob m' (n + 1) (D.put kl (.held (some cb)))) ∧ Kept ob m w w' := by
  have hob := h.lt
  rcases h.mp with ⟨rfl, rfl⟩ | ⟨mb, rfl, hlt, hown⟩
  · refine (start_none ob a kl w hid h.c4 h.f4 h.c6 h.f6 hob).mono ?_
    rintro e w' ⟨rfl, W3, hown3, ht, rfl⟩
    have g := ht.grown
    have blk : ∀ k, k < w.heap.size → k ≠ ob → (W3.setCell ⟨ob, 4, none⟩ (.int .i32 0)).heap[k]? = w.heap[k]? := fun k hk hne => by
      rw [Below.heap_setCell _ _ _ _ hne, g.block k (by simp <;> omega) (by simp <;> omega)]
      show ((((((w.setCell ⟨ob, 4, none⟩ (.int .i32 1)).setCell ⟨ob, 6, none⟩ (.map (some (w.heap.size + 1)))).alloc (.cells (c16 a) 50)).alloc (.map #[] 0)).alloc (.chan 256 #[] false 0 0 false))).heap[k]? = _
      rw [Below.heap_alloc _ _ _ (by simp <;> omega), Below.heap_alloc _ _ _ (by simp <;> omega), Below.heap_alloc _ _ _ (by simp <;> omega), Below.heap_setCell _ _ _ _ hne, Below.heap_setCell _ _ _ _ hne]
    have hbx := (((Below.refl w.heap.size ((w.setCell ⟨ob, 4, none⟩ (.int .i32 1)).setCell ⟨ob, 6, none⟩ (.map (some (w.heap.size + 1))))).alloc (by simp) (.cells (c16 a) 50)).alloc (by simp) (.map #[] 0)).alloc (by simp <;> omega) (.chan 256 #[] false 0 0 false)
    have e3 := g.block ob (by simp <;> omega) (by simp <;> omega)
    have hsz := g.size
    simp at hsz
    have hc3 : W3.cell? ⟨ob, 4, none⟩ = some (.int .i32 1) := by
      rw [cell_of_blk (a := ⟨ob, 4, none⟩) e3]
      exact (hbx.cell (p := ⟨ob, 4, none⟩) hob).trans ((World.cell?_setCell_other _ ⟨ob, 6, none⟩ ⟨ob, 4, none⟩ _ (by simp)).trans (World.cell?_setCell_same w ⟨ob, 4, none⟩ _ h.c4))
    have hc6 : W3.cell? ⟨ob, 6, none⟩ = some (.map (some (w.heap.size + 1))) := by
      rw [cell_of_blk (a := ⟨ob, 6, none⟩) e3]
      exact (hbx.cell (p := ⟨ob, 6, none⟩) hob).trans (World.cell?_setCell_same _ ⟨ob, 6, none⟩ _ ((World.cell?_setCell_other w ⟨ob, 4, none⟩ ⟨ob, 6, none⟩ _ (by simp)).trans h.c6))
    have hf : ∀ i, W3.frozen? ⟨ob, i, none⟩ = w.frozen? ⟨ob, i, none⟩ := fun i => by
      rw [frozen_of_blk (a := ⟨ob, i, none⟩) e3]
      exact (hbx.frozen (p := ⟨ob, i, none⟩) hob).trans ((World.frozen?_setCell _ _ _ _).trans (World.frozen?_setCell _ _ _ _))
    refine ⟨w.heap.size + 1 + 1, rfl, by omega, ?_, ⟨some (w.heap.size + 1), World.cell?_setCell_same _ _ _ hc3, by rw [World.frozen?_setCell, hf]; exact h.f4, (World.cell?_setCell_other _ ⟨ob, 4, none⟩ ⟨ob, 6, none⟩ _ (by simp)).trans hc6, by rw [World.frozen?_setCell, hf]; exact h.f6, .inr ⟨_, rfl, by omega, (hown3.setCell (a := ⟨ob, 4, none⟩) (by simp <;> omega) _).mono (by omega)⟩⟩, ?_⟩
    · rw [Below.heap_setCell _ _ _ _ (by simp <;> omega), g.block _ (by simp <;> omega) (by simp <;> omega)]
      have := (MapKept.heap_alloc ((((w.setCell ⟨ob, 4, none⟩ (.int .i32 1)).setCell ⟨ob, 6, none⟩ (.map (some (w.heap.size + 1)))).alloc (.cells (c16 a) 50)).alloc (.map #[] 0)) (.chan 256 #[] false 0 0 false)).1
      simp only [World.size_alloc, World.size_setCell] at this
      exact this
    · exact ⟨g.os, g.tape, g.output, by simp; omega, fun k hk h1 _ => blk k hk h1⟩
  · refine (start_some ob mb n a D kl w hid h.c4 h.f4 h.c6 (by omega) hob hown hn).mono ?_
    rintro e w' ⟨rfl, W3, hown3, ht, rfl⟩
    have g := ht.grown
    have hml := hown.lt
    have blk : ∀ k, k < w.heap.size → k ≠ ob → k ≠ mb → (W3.setCell ⟨ob, 4, none⟩ (.int .i32 0)).heap[k]? = w.heap[k]? := fun k hk hne hnm => by
      rw [Below.heap_setCell _ _ _ _ hne, g.block k (by simp <;> omega) (by simp <;> omega)]
      show (((w.setCell ⟨ob, 4, none⟩ (.int .i32 1)).alloc (.cells (c16 a) 50)).alloc (.chan 256 #[] false 0 0 false)).heap[k]? = _
      rw [Below.heap_alloc _ _ _ (by simp <;> omega), Below.heap_alloc _ _ _ (by simp <;> omega), Below.heap_setCell _ _ _ _ hne]
    have hbx := ((Below.refl w.heap.size (w.setCell ⟨ob, 4, none⟩ (.int .i32 1))).alloc (by simp) (.cells (c16 a) 50)).alloc (by simp) (.chan 256 #[] false 0 0 false)
    have e3 := g.block ob (by simp <;> omega) (by simp <;> omega)
    have hsz := g.size
    simp at hsz
    have hc3 : W3.cell? ⟨ob, 4, none⟩ = some (.int .i32 1) := by
      rw [cell_of_blk (a := ⟨ob, 4, none⟩) e3]
      exact (hbx.cell (p := ⟨ob, 4, none⟩) hob).trans (World.cell?_setCell_same w ⟨ob, 4, none⟩ _ h.c4)
    have hc6 : W3.cell? ⟨ob, 6, none⟩ = some (.map (some mb)) := by
      rw [cell_of_blk (a := ⟨ob, 6, none⟩) e3]
      exact (hbx.cell (p := ⟨ob, 6, none⟩) hob).trans ((World.cell?_setCell_other w ⟨ob, 4, none⟩ ⟨ob, 6, none⟩ _ (by simp)).trans h.c6)
    have hf : ∀ i, W3.frozen? ⟨ob, i, none⟩ = w.frozen? ⟨ob, i, none⟩ := fun i => by
      rw [frozen_of_blk (a := ⟨ob, i, none⟩) e3]
      exact (hbx.frozen (p := ⟨ob, i, none⟩) hob).trans (World.frozen?_setCell _ _ _ _)
    refine ⟨w.heap.size + 1, rfl, by omega, ?_, ⟨some mb, World.cell?_setCell_same _ _ _ hc3, by rw [World.frozen?_setCell, hf]; exact h.f4, (World.cell?_setCell_other _ ⟨ob, 4, none⟩ ⟨ob, 6, none⟩ _ (by simp)).trans hc6, by rw [World.frozen?_setCell, hf]; exact h.f6, .inr ⟨_, rfl, hlt, hown3.setCell (a := ⟨ob, 4, none⟩) (by simp <;> omega) _⟩⟩, ?_⟩
    · rw [Below.heap_setCell _ _ _ _ (by simp <;> omega), g.block _ (by simp <;> omega) (by simp <;> omega)]
      have := (MapKept.heap_alloc ((w.setCell ⟨ob, 4, none⟩ (.int .i32 1)).alloc (.cells (c16 a) 50)) (.chan 256 #[] false 0 0 false)).1
      simp only [World.size_alloc, World.size_setCell] at this
      exact this
    · exact ⟨g.os, g.tape, g.output, by simp; omega, fun k hk h1 h2 => blk k hk h1 (fun e => h2 (by rw [e]))⟩

/-- ZZstart -/
theorem zzstart_any (ob n : Nat) (m : Option Nat) (a : Nat → Value) (D : DC) (kl : Lit) (w : World) (hid : IsId (c16 a) kl) (h : OSt w ob m n D) (hn : n < maxLen) :
    Calls Try.prog 22 #[.pointer (some ⟨ob, 0, none⟩), .agg (c16 a)] w fun e w' => ∃ cb, e = .returned (.chan (some cb)) ∧ w.heap.size ≤ cb ∧ cb < w'.heap.size ∧
      (∃ m', OSt w' ob m' (n + 1) (D.put kl (.held (some cb)))) ∧ Kept ob m w w' := by
  have CS := start_any ob n m a D kl (w.alloc (.cells (c16 a) 22)) hid (h.alloc _) hn
  have hob := h.lt
  have hml := h.mlt
  clear h
  go_enter Try.func22, Try.ntmps22
  go_wp2_with fail
  refine CS.mono ?_
  rintro e w' ⟨cb, rfl, h1, h2, h3, h4⟩
  have H3 : Hid (∃ m', OSt w' ob m' (n + 1) (D.put kl (.held (some cb)))) := h3
  have h5 : cb < w'.heap.size := (Array.getElem?_eq_some_iff.1 h2).1
  have h6 : w.heap.size ≤ cb := by simp at h1; omega
  have H4 : Hid (Kept ob m w w') := ⟨h4.os, h4.tape, h4.output, by have := h4.size; simp at this; omega, fun k hk g1 g2 => (h4.block k (by simp; omega) g1 g2).trans (Below.heap_alloc _ _ _ hk)⟩
  clear h1 h2 h3 h4 CS
  go_wp2
  go_ret
  exact ⟨cb, rfl, h6, h5, H3.out, H4.out⟩

/-- ZZnewOwnSearches -/
theorem new_any (w : World) : Calls Try.prog 18 #[] w fun e w' => e = .returned (.pointer (some ⟨w.heap.size, 0, none⟩)) ∧ OSt w' w.heap.size none 0 (.map []) ∧ Below w.heap.size w w' ∧ w'.heap.size = w.heap.size + 1 := by
  go_enter Try.func18, Try.ntmps18
  go_wp2
  go_ret
  exact ⟨rfl, ⟨by simp, by simp, by simp, by simp, .inl ⟨rfl, rfl⟩⟩, (Below.refl _ _).alloc (Nat.le_refl _) _, by simp⟩

/-- ZZsearchesRunning -/
theorem running_any (ob n : Nat) (m : Option Nat) (D : DC) (w : World) (h : OSt w ob m n D) :
    Calls Try.prog 20 #[.pointer (some ⟨ob, 0, none⟩)] w fun e w' => e = .returned (.int .i64 (Maps.size D)) ∧ w' = w := by
  have c6 := h.c6
  rcases h.mp with ⟨rfl, rfl⟩ | ⟨mb, rfl, _, hown⟩
  · have hl := Maps.len_nil (P := Try.prog) (w := w) Try.underlying83
    go_enter Try.func20, Try.ntmps20
    go_wp2
    go_ret
    exact ⟨rfl, rfl⟩
  · have hl := hown.len Try.underlying83
    clear hown h
    go_enter Try.func20, Try.ntmps20
    go_wp2
    go_ret
    exact ⟨rfl, rfl⟩
end Go.Proofs.Qxb6606016a
