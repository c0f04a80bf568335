import Derived.Test.Qxb6606016aStored
namespace Go.Proofs.Qxb6606016a
open Go.RowKit Go.MuLone
set_option linter.unusedVariables false

theorem key_lit {xs : Array Value} {l : Lit} (h : IsId xs l) : WideAt.IsKeyLit l := law50.key h.2.2

theorem size_one (k : Lit) (d : DC) : Maps.size ((DataW.map [] : DC).put k d) = 1 := by
  rw [Maps.size_put Maps.tidy_empty]
  rfl

set_option maxRecDepth 100000 in
set_option maxHeartbeats 1000000 in
theorem lawA (a b : Nat → Value) (ka kb : Lit) (w : World) (ha : IsId (c16 a) ka) (hb : IsId (c16 b) kb) :
    Calls Try.prog 6 #[.agg (c16 a), .agg (c16 b)] w fun e w' => e = .returned (.bool true) ∧ Below w.heap.size w w' := by
  have CN := new_any ((w.alloc (.cells (c16 a) 22)).alloc (.cells (c16 b) 22))
  simp only [World.size_alloc] at CN
  go_enter Try.func6, Try.ntmps6
  go_wp2_with fail
  refine CN.mono ?_
  rintro e w1 ⟨rfl, hO1, hB1, hs1⟩
  have A1 : w1.heap[w.heap.size]? = some (.cells (c16 a) 22) := (hB1.block _ (by omega)).trans (heap_alloc2_old _ _ _)
  have B1 : w1.heap[w.heap.size + 1]? = some (.cells (c16 b) 22) := (hB1.block _ (by omega)).trans (heap_alloc2_new _ _ _)
  have hBw1 : Below w.heap.size w w1 := (((Below.refl _ _).alloc (Nat.le_refl _) _).alloc (by simp) _).trans (hB1.mono (by omega))
  have CA := zzstart_any (w.heap.size + 1 + 1) 0 none a (.map []) ka w1 ha hO1 (by unfold maxLen; omega)
  have HO1 : Hid (OSt w1 (w.heap.size + 1 + 1) none 0 (.map [])) := hO1
  clear CN hO1 hB1
  go_wp2_with (refine wpList_load_row rfl 22 _ rfl w.heap.size rfl 22 (c16 a) (0, 0) (.array 16 5) A1 Try.underlying22 rfl (by kernel_rfl) ?_)
  refine CA.mono ?_
  rintro e w2 ⟨c1, rfl, g1, g2, ⟨m2, hO2⟩, hK2⟩
  have A2 : w2.heap[w.heap.size]? = some (.cells (c16 a) 22) := (hK2.block _ (by omega) (by omega) (by simp)).trans A1
  have B2 : w2.heap[w.heap.size + 1]? = some (.cells (c16 b) 22) := (hK2.block _ (by omega) (by omega) (by simp)).trans B1
  have hBw2 : Below w.heap.size w w2 := hBw1.trans ((hK2.below (by omega) (by simp)).mono (by omega))
  have CB := zzstart_any (w.heap.size + 1 + 1) (0 + 1) m2 b _ kb w2 hb hO2 (by unfold maxLen; omega)
  have hm2 := hO2.mlt
  have HM2 : Hid (∀ mb, m2 = some mb → w.heap.size + 1 + 1 < mb ∧ mb < w2.heap.size) := hm2
  have h2s := hO2.lt
  have g12 : w1.heap.size ≤ w2.heap.size := hK2.size
  clear CA A1 B1 hBw1 hK2 hO2 hm2
  go_wp2_with (refine wpList_load_row rfl 22 _ rfl (w.heap.size + 1) rfl 22 (c16 b) (0, 0) (.array 16 5) B2 Try.underlying22 rfl (by kernel_rfl) ?_)
  refine CB.mono ?_
  rintro e w3 ⟨c2, rfl, g3, g4, ⟨m3, hO3⟩, hK3⟩
  have A3 : w3.heap[w.heap.size]? = some (.cells (c16 a) 22) := (hK3.block _ (by omega) (by omega) (fun e => by have := HM2.out _ e; omega)).trans A2
  have B3 : w3.heap[w.heap.size + 1]? = some (.cells (c16 b) 22) := (hK3.block _ (by omega) (by omega) (fun e => by have := HM2.out _ e; omega)).trans B2
  have hBw3 : Below w.heap.size w w3 := hBw2.trans ((hK3.below h2s (fun mb e => (HM2.out mb e).1)).mono (by omega))
  have g34 : w2.heap.size ≤ w3.heap.size := hK3.size
  have M1 : Maps.IsMap ((DataW.map [] : DC).put ka (.held (some c1))) := Maps.isMap_empty.put _ _
  have T1 : Maps.Tidy ((DataW.map [] : DC).put ka (.held (some c1))) := Maps.tidy_empty.put (key_lit ha) _
  have CS := stored_any (w.heap.size + 1 + 1) _ m3 b _ kb (some c2) (some c2) w3 hb hO3 (Maps.atKey_put_same M1 (key_lit hb) _ _)
  have HO3 : Hid (OSt w3 (w.heap.size + 1 + 1) m3 (0 + 1 + 1) (((DataW.map [] : DC).put ka (.held (some c1))).put kb (.held (some c2)))) := hO3
  have e1 : ∀ w, (binOp .eql 43 (.chan (some c1)) (.chan none)).run Try.prog w = .ok (.bool false) w := fun w => eqChan _ _ w
  have e2 : ∀ w, (binOp .eql 43 (.chan (some c2)) (.chan none)).run Try.prog w = .ok (.bool false) w := fun w => eqChan _ _ w
  have e3 : ∀ w, (binOp .eql 43 (.chan (some c1)) (.chan (some c2))).run Try.prog w = .ok (.bool false) w := fun w => by
    rw [eqChan]
    have : ((some c1 : Option Nat) == some c2) = false := by simp; omega
    rw [this]
  clear CB A2 B2 hBw2 hK3 hO3
  go_wp2_with (refine wpList_load_row rfl 22 _ rfl (w.heap.size + 1) rfl 22 (c16 b) (0, 0) (.array 16 5) B3 Try.underlying22 rfl (by kernel_rfl) ?_)
  refine CS.mono ?_
  rintro e w4 ⟨rfl, hB4⟩
  clear CS e1 e2 e3
  have A4 : w4.heap[w.heap.size]? = some (.cells (c16 a) 22) := (hB4.block _ (by omega)).trans A3
  have B4 : w4.heap[w.heap.size + 1]? = some (.cells (c16 b) 22) := (hB4.block _ (by omega)).trans B3
  have hBw4 : Below w.heap.size w w4 := hBw3.trans (hB4.mono (by omega))
  have HO4 := HO3.out.below hB4
  clear A3 B3 hBw3 hB4 HO3 HO1
  by_cases hk : ka = kb
  · subst hk
    have e0 : ∀ w, (binOp .eql 22 (.agg (c16 a)) (.agg (c16 b))).run Try.prog w = .ok (.bool true) w := fun w => eq22 ha hb (by simp) w
    have CS := stored_any (w.heap.size + 1 + 1) _ m3 a _ ka (some c2) (some c1) w4 ha HO4 (Maps.atKey_put_same M1 (key_lit hb) _ _)
    have hc : ((some c2 : Option Nat) == some c1) = false := by simp; omega
    rw [hc] at CS
    have hsz : Maps.size (((DataW.map [] : DC).put ka (.held (some c1))).put ka (.held (some c2))) = 1 := by
      rw [Maps.size_put T1, Maps.has_put_same Maps.isMap_empty (key_lit ha), size_one]
      rfl
    have HO : Hid (OSt w4 (w.heap.size + 1 + 1) m3 (0 + 1 + 1) (((DataW.map [] : DC).put ka (.held (some c1))).put ka (.held (some c2)))) := HO4
    have HSZ : Hid (Maps.size (((DataW.map [] : DC).put ka (.held (some c1))).put ka (.held (some c2))) = 1) := hsz
    clear HO4 hc hsz
    go_wp2_with (first | (refine wpList_load_row rfl 22 _ rfl w.heap.size rfl 22 (c16 a) (0, 0) (.array 16 5) A4 Try.underlying22 rfl (by kernel_rfl) ?_) | (refine wpList_load_row rfl 22 _ rfl (w.heap.size + 1) rfl 22 (c16 b) (0, 0) (.array 16 5) B4 Try.underlying22 rfl (by kernel_rfl) ?_))
    refine CS.mono ?_
    rintro e w5 ⟨rfl, hB5⟩
    have CR := running_any (w.heap.size + 1 + 1) _ m3 _ w5 (HO.out.below hB5)
    rw [HSZ.out] at CR
    have hBw5 : Below w.heap.size w w5 := hBw4.trans (hB5.mono hBw4.size)
    clear CS A4 B4 hB5 e0
    go_wp2_with fail
    refine CR.mono ?_
    rintro e w6 ⟨rfl, rfl⟩
    go_wp2
    go_ret
    exact ⟨rfl, hBw5⟩
  · have e0 : ∀ w, (binOp .eql 22 (.agg (c16 a)) (.agg (c16 b))).run Try.prog w = .ok (.bool false) w := fun w => eq22 ha hb (by simp [hk]) w
    have CS := stored_any (w.heap.size + 1 + 1) _ m3 a _ ka (some c1) (some c1) w4 ha HO4 ((Maps.atKey_put_other hk _ _).trans (Maps.atKey_put_same Maps.isMap_empty (key_lit ha) _ _))
    have hsz : Maps.size (((DataW.map [] : DC).put ka (.held (some c1))).put kb (.held (some c2))) = 2 := by
      rw [Maps.size_put T1, Maps.has_put_other (fun e => hk e.symm), size_one]
      rfl
    have HO : Hid (OSt w4 (w.heap.size + 1 + 1) m3 (0 + 1 + 1) (((DataW.map [] : DC).put ka (.held (some c1))).put kb (.held (some c2)))) := HO4
    have HSZ : Hid (Maps.size (((DataW.map [] : DC).put ka (.held (some c1))).put kb (.held (some c2))) = 2) := hsz
    clear HO4 hsz hk
    go_wp2_with (first | (refine wpList_load_row rfl 22 _ rfl w.heap.size rfl 22 (c16 a) (0, 0) (.array 16 5) A4 Try.underlying22 rfl (by kernel_rfl) ?_) | (refine wpList_load_row rfl 22 _ rfl (w.heap.size + 1) rfl 22 (c16 b) (0, 0) (.array 16 5) B4 Try.underlying22 rfl (by kernel_rfl) ?_))
    refine CS.mono ?_
    rintro e w5 ⟨rfl, hB5⟩
    have CR := running_any (w.heap.size + 1 + 1) _ m3 _ w5 (HO.out.below hB5)
    rw [HSZ.out] at CR
    have hBw5 : Below w.heap.size w w5 := hBw4.trans (hB5.mono hBw4.size)
    clear CS A4 B4 hB5 e0
    go_wp2_with fail
    refine CR.mono ?_
    rintro e w6 ⟨rfl, rfl⟩
    go_wp2
    go_ret
    exact ⟨rfl, hBw5⟩
end Go.Proofs.Qxb6606016a
