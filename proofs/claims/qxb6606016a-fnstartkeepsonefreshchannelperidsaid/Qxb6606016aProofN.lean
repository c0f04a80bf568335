import Derived.Test.Qxb6606016aLaw5
import Derived.Test.Qxb6606016aRowsOf
import Derived.Deep.Slices
namespace Go.Proofs.Qxb6606016a
open Go.ChangeShapes Go.WideShapes Go.ChangeAt Go.RowKit Go.Deep
set_option linter.unusedVariables false

theorem add_none5 (b o r : Nat) : (⟨b, o, none⟩ : Addr).add r = ⟨b, o + r, none⟩ := by
  by_cases h : r = 0 <;> simp [Addr.add, h]

set_option maxRecDepth 100000 in
/-- sixteen cells that read as a [16]byte are an id. -/
theorem id_of_cells {H : Type} {enc : TypeId × Value → H} {W : World} {base : Nat} {sp : Nat → Bool} {held : Bool} {d : DataW H} {ps : List MemPlace} {xs : Array Value} (hn : xs.size = 16) (hd : DataW.Trod enc Try.prog W base sp held 22 (.agg xs) d ps) :
    ∃ l, IsId xs l := by
  have hd50 : DataW.Trod enc Try.prog W base sp held 50 (.agg xs) d ps := by
    obtain ⟨fuel, hf⟩ := hd
    refine ⟨fuel, ?_⟩
    cases fuel with
    | zero => simp [DataW.trod] at hf
    | succ m =>
      rw [DataW.trod_step] at hf ⊢
      unfold DataW.trodStep at hf ⊢
      rw [Try.underlying22] at hf
      rw [Try.underlying50]
      simp only [cells22] at hf
      simp only [cells50]
      exact hf
  obtain ⟨ls', hd', _, hk'⟩ := WideMaps.open_arr ak50 Try.underlying5 types_pos hn hd50
  obtain ⟨ls2, hd2, _, hk2⟩ := WideMaps.open_arr ak22 Try.underlying5 types_pos hn hd
  have e : ls' = ls2 := by
    rw [hd'] at hd2
    simp only [DataW.agg.injEq] at hd2
    have := congrArg (List.map (fun x : DataW H => match x with | .lit l => l | _ => .bool false)) hd2
    simpa [List.map_map, Function.comp_def] using this
  subst e
  exact ⟨_, hn, hk2, hk'⟩

theorem blk_lt5 {w : World} {a : Addr} {v : Value} (h : w.cell? a = some v) : a.block < w.heap.size := by
  rcases Nat.lt_or_ge a.block w.heap.size with hlt | hge
  · exact hlt
  · simp [World.cell?, Array.getElem?_eq_none hge] at h

/-- WHAT THE WALK IS TOLD OF A SLICE OF IDS THAT CAME IN. -/
theorem ids_of {H : Type} {enc : TypeId × Value → H} {W : World} {a : Option Addr} {n c : Nat} {d : DataW H} {p : List MemPlace} (h : DataW.Trod enc Try.prog W 0 (fun _ => true) true 34 (.slice a n c) d p) :
    ∃ (X : Nat → Array Value) (K : Nat → Lit), (0 < n → ∃ b off, a = some ⟨b, off, none⟩ ∧ b < W.heap.size ∧ ∀ i, i < n → W.rangeAt b (off + i * 16) (X i).toList) ∧ (a = none → c = 0) ∧ ∀ i, i < n → IsId (X i) (K i) := by
  obtain ⟨fuel, hf⟩ := h
  rcases open_slice Try.underlying34 hf with ⟨hcs, _⟩ | ⟨x, l, c', m, k, D, Pl, hcs, hb, hl, hm, hmm, _, hx⟩
  · simp [Value.cells] at hcs
    obtain ⟨rfl, rfl, rfl⟩ := hcs
    exact ⟨fun _ => #[], fun _ => .bool false, fun h => absurd h (Nat.lt_irrefl _), fun _ => rfl, fun i hi => absurd hi (Nat.not_lt_zero _)⟩
  · simp [Value.cells] at hcs
    obtain ⟨rfl, rfl, rfl⟩ := hcs
    simp at hmm
    subst hmm
    rw [cells22] at hx
    by_cases h0 : 0 < n
    · obtain ⟨b, off, spot⟩ := x
      have hspot : spot = none := by
        obtain ⟨cs', h1, _⟩ := hx 0 (by omega)
        obtain ⟨_, hlen, hc⟩ := World.cells?_some h1
        have h3 := hc 0 (by omega)
        have h4 : (0 : Nat) < cs'.length := by omega
        rw [List.getElem?_eq_getElem h4] at h3
        simpa [Addr.add] using World.cell?_spot h3
      subst hspot
      haveI : Inhabited Lit := ⟨.bool false⟩
      obtain ⟨X, hX⟩ := choose_lt (α := Array Value × Lit) (p := fun i v => W.rangeAt b (off + i * 16) v.1.toList ∧ IsId v.1 v.2) (n := n) (fun i hi => by
        obtain ⟨cs', h1, h2⟩ := hx i (by omega)
        obtain ⟨_, hlen, hc⟩ := World.cells?_some h1
        have hd : DataW.Trod enc Try.prog W 0 (fun _ => true) true 22 (.agg cs'.toArray) (D i) (Pl i) := ⟨k, by simpa [Value.cells] using h2⟩
        obtain ⟨l, hl⟩ := id_of_cells (by simpa using hlen) hd
        refine ⟨(cs'.toArray, l), fun j v hv => ?_, hl⟩
        have hv : cs'[j]? = some v := hv
        have hj : j < 16 := by
          have := (List.getElem?_eq_some_iff.1 hv).1
          omega
        have := hc j hj
        rw [hv, add_none5, add_none5] at this
        exact this)
      refine ⟨fun i => (X i).1, fun i => (X i).2, fun _ => ⟨b, off, rfl, ?_, fun i hi => (hX i hi).1⟩, fun h => (by cases h), fun i hi => (hX i hi).2⟩
      have h1 := (hX 0 h0).1
      have h2 := (hX 0 h0).2.1
      have h3 : 0 < (X 0).1.toList.length := by simp; omega
      exact blk_lt5 (h1 0 _ (List.getElem?_eq_getElem h3))
    · exact ⟨fun _ => #[], fun _ => .bool false, fun h => absurd h h0, fun h => (by cases h), fun i hi => absurd hi (by omega)⟩

namespace fnN
set_option maxRecDepth 100000 in
theorem lifted (os : Os) (started : os.Started) (H : Type) (enc : TypeId × Value → H) :
    ReturnsInHanded {} Try.checked os 5 .any (Rows.fnStartKeepsOneFreshChannelPerIDSpec.pre6 enc Try.prog Try.f5 Rows.fnStartKeepsOneFreshChannelPerIDRow.domain false) (Rows.fnStartKeepsOneFreshChannelPerIDSpec.post enc Try.prog Try.f5 false true false false) := by
  refine returnsInHanded_of_change (C := Try.checked) own started (by kernel_rfl) Try.func5
    (ChangeSpec.witness6 (enc := enc) (C := Try.checked) false ⟨#[], #[.slice none 0 0], []⟩ 8 (by kernel_rfl) (by kernel_rfl) (by kernel_rfl) (by kernel_rfl)) ?_
  intro W base args ds gs before hval0 hW hcnd _
  have hval : ∀ (j : Nat) t v, Try.f5.params[j]? = some t → args[j]? = some v → Value.okWide Try.prog W .any base t v := hval0
  have hW' := hW
  obtain ⟨p, q, hA0, hV, rfl, hfz, hnd⟩ := hW
  have hA : DataW.TrodAll enc Try.prog W 0 (fun _ => true) true Try.f5.params.toList args.toList ds p := hA0
  rw [Try.params5] at hA hval
  obtain ⟨v0, vs0, d0, ds0, p0, q0, hargs, rfl, rfl, h0, r0⟩ := trodAll_cons hA
  obtain ⟨rfl, rfl, rfl⟩ := trodAll_nil r0
  obtain rfl : args = #[v0] := by cases args; simp_all
  obtain ⟨rfl, rfl⟩ := trodVars_none hV
  obtain ⟨a0, len0, cap0, rfl⟩ := okWide_slice Try.underlying34 (hval 0 34 v0 rfl rfl)
  have k0 := h0
  have lt0 : ∀ x ∈ p0, x.block < W.heap.size := by obtain ⟨m, hm⟩ := k0; exact DataW.trod_lt m _ _ _ hm
  obtain ⟨X, K, h1, h2, h3⟩ := ids_of h0
  clear hA0 hval0
  refine (law5 a0 len0 cap0 X K W h1 h2 h3).mono fun e W' ⟨he, bel⟩ => ?_
  subst he
  exact ⟨_, rfl, _, _, _, [], _, [], hW', trodAll_mk1 (shut_bool Try.underlying4 _), (trodAll_cons_mk (Below.trod laidOut (by kernel_rfl) (of_decide_eq_true (by kernel_rfl)) k0 bel lt0) trodAll_mk0), rfl, bel.frame _, fun h => by cases h⟩

theorem over : Rows.fnStartKeepsOneFreshChannelPerIDRow.holds Try.pinned (OpenSpec.ofChange Rows.fnStartKeepsOneFreshChannelPerIDSpec) :=
  OpenClaim.holds_of_wide 5 Try.f5 rfl rfl rfl rfl rfl rfl rfl ⟨rfl, rfl, rfl, rfl, rfl⟩ rfl rfl rfl rfl rfl (by kernel_rfl) Try.func5 (by kernel_rfl)
    (of_decide_eq_true (by kernel_rfl)) (by unfold Func.isWrapper; first | (rw [if_pos (by decide +kernel)]; kernel_rfl) | (rw [if_neg (by decide +kernel)]; exact ⟨rfl, rfl⟩))
    (fun os started H enc _ => lifted os started H enc)
end fnN

/-- THE STATEMENT. -/
theorem fnStartKeeps_proved : Rows.FnStartKeepsOneFreshChannelPerIDSaid := fnN.over
end Go.Proofs.Qxb6606016a
