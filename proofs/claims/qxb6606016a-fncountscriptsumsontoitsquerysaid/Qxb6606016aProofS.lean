import Derived.Test.Qxb6606016aLaw3Z
import Derived.Test.Qxb6606016aRowsOf
namespace Go.Proofs.Qxb6606016a
open Go.ChangeShapes Go.WideShapes Go.ChangeAt Go.RowKit
set_option linter.unusedVariables false

theorem cells3 : Try.prog.cellsOf 3 = 1 := by kernel_rfl
theorem add_none (b o r : Nat) : (⟨b, o, none⟩ : Addr).add r = ⟨b, o + r, none⟩ := by
  by_cases h : r = 0 <;> simp [Addr.add, h]

/-- WHAT THE WALK IS TOLD OF A SLICE OF INTS THAT CAME IN. -/
def IsRow (w : World) (a : Option Addr) (len cap : Nat) (zs : List Int) : Prop :=
  (a = none ∧ len = 0 ∧ cap = 0) ∨
  ∃ x, a = some x ∧ len ≤ zs.length ∧ (∀ i, i < zs.length → w.cell? (x.add i) = some (.int .i64 (zs.getD i 0)))

/-- .. with its address plain where there is an element. -/
theorem isRow_cases {w : World} {a : Option Addr} {len cap : Nat} {zs : List Int} (h : IsRow w a len cap zs) : (len = 0 ∧ (a = none → cap = 0)) ∨ (0 < len ∧ ∃ b off, a = some ⟨b, off, none⟩ ∧ ∀ k, k < len → w.cell? ⟨b, off + k, none⟩ = some (.int .i64 (zs.getD k 0))) := by
  rcases h with ⟨rfl, rfl, rfl⟩ | ⟨x, rfl, hl, hc⟩
  · exact .inl ⟨rfl, fun _ => rfl⟩
  · by_cases h0 : 0 < len
    · obtain ⟨b, off, spot⟩ := x
      have hspot : spot = none := by simpa [Addr.add] using World.cell?_spot (hc 0 (by omega))
      subst hspot
      exact .inr ⟨h0, b, off, rfl, fun k hk => by rw [← add_none]; exact hc k (by omega)⟩
    · exact .inl ⟨by omega, fun h => by cases h⟩

theorem isRow_of {H : Type} {enc : TypeId × Value → H} {W : World} {a : Option Addr} {len cap : Nat} {d : DataW H} {p : List MemPlace} (h : DataW.Trod enc Try.prog W 0 (fun _ => true) true 23 (.slice a len cap) d p) : ∃ zs, IsRow W a len cap zs := by
  obtain ⟨fuel, hf⟩ := h
  rcases open_ints Try.underlying23 Try.underlying3 cells3 hf with ⟨hcs, _⟩ | ⟨x, l, c, zs, hcs, _, hl, hm, hz, _, hcell, hwz⟩
  · simp [Value.cells] at hcs
    obtain ⟨rfl, rfl, rfl⟩ := hcs
    exact ⟨[], .inl ⟨rfl, rfl, rfl⟩⟩
  · simp [Value.cells] at hcs
    obtain ⟨rfl, rfl, rfl⟩ := hcs
    exact ⟨zs, .inr ⟨_, rfl, by simp at hz; omega, hcell⟩⟩

theorem wf_wrap64 {r : Int} (h : (Lit.int .i64 r).wf = true) : wrap64 r = r := by
  have hb := bounds_i64 h
  unfold wrap64
  omega

namespace fnS
theorem walk (a b : Nat → Value) (ka kb : Lit) (r : Int) (x : Option Addr) (n c : Nat) (zs : List Int) (w : World) (ha : IsId (c16 a) ka) (hb : IsId (c16 b) kb) (hr : (Lit.int .i64 r).wf = true) (hz : IsRow w x n c zs) :
    Calls Try.prog 3 #[.agg (c16 a), .agg (c16 b), .int .i64 r, .slice x n c] w fun e w' => e = .returned (.bool true) ∧ Below w.heap.size w w' := by
  obtain ⟨same, hsame⟩ : ∃ same : Bool, same = true ↔ ka = kb := by
    by_cases h : ka = kb
    · exact ⟨true, by simp [h]⟩
    · exact ⟨false, by simp [h]⟩
  rcases isRow_cases hz with ⟨rfl, h⟩ | ⟨h0, b', o', rfl, hc⟩
  · exact law3_zero a b ka kb r (wf_wrap64 hr) x c h same hsame w ha hb
  · exact law3_pos a b ka kb r (wf_wrap64 hr) b' o' n c (fun k => zs.getD k 0) same hsame w ha hb h0 hc

set_option maxRecDepth 100000 in
theorem lifted (os : Os) (started : os.Started) (H : Type) (enc : TypeId × Value → H) :
    ReturnsInHanded {} Try.checked os 3 .any (Rows.fnCountScriptSumsOntoItsQuerySpec.pre6 enc Try.prog Try.f3 Rows.fnCountScriptSumsOntoItsQueryRow.domain false) (Rows.fnCountScriptSumsOntoItsQuerySpec.post enc Try.prog Try.f3 false true false false) := by
  refine returnsInHanded_of_change (C := Try.checked) own started (by kernel_rfl) Try.func3
    (ChangeSpec.witness6 (enc := enc) (C := Try.checked) false ⟨#[], #[.agg (c16 fun _ => .int .u8 0), .agg (c16 fun _ => .int .u8 0), .int .i64 0, .slice none 0 0], []⟩ 8 (by kernel_rfl) (by kernel_rfl) (by kernel_rfl) (by kernel_rfl)) ?_
  intro W base args ds gs before hval0 hW hcnd _
  have hval : ∀ (j : Nat) t v, Try.f3.params[j]? = some t → args[j]? = some v → Value.okWide Try.prog W .any base t v := hval0
  have hW' := hW
  obtain ⟨p, q, hA0, hV, rfl, hfz, hnd⟩ := hW
  have hA : DataW.TrodAll enc Try.prog W 0 (fun _ => true) true Try.f3.params.toList args.toList ds p := hA0
  rw [Try.params3] at hA hval
  obtain ⟨v0, vs0, d0, ds0, p0, q0, hargs, rfl, rfl, h0, r0⟩ := trodAll_cons hA
  obtain ⟨v1, vs1, d1, ds1, p1, q1, rfl, rfl, rfl, h1, r1⟩ := trodAll_cons r0
  obtain ⟨v2, vs2, d2, ds2, p2, q2, rfl, rfl, rfl, h2, r2⟩ := trodAll_cons r1
  obtain ⟨v3, vs3, d3, ds3, p3, q3, rfl, rfl, rfl, h3, r3⟩ := trodAll_cons r2
  obtain ⟨rfl, rfl, rfl⟩ := trodAll_nil r3
  obtain rfl : args = #[v0, v1, v2, v3] := by cases args; simp_all
  obtain ⟨rfl, rfl⟩ := trodVars_none hV
  have k0 := h0
  have k1 := h1
  have k3 := h3
  have lt0 : ∀ x ∈ p0, x.block < W.heap.size := by obtain ⟨m, hm⟩ := k0; exact DataW.trod_lt m _ _ _ hm
  have lt1 : ∀ x ∈ p1, x.block < W.heap.size := by obtain ⟨m, hm⟩ := k1; exact DataW.trod_lt m _ _ _ hm
  have lt3 : ∀ x ∈ p3, x.block < W.heap.size := by obtain ⟨m, hm⟩ := k3; exact DataW.trod_lt m _ _ _ hm
  obtain ⟨a, la, rfl, ha⟩ := id_of (hval 0 22 v0 rfl rfl) h0
  obtain ⟨b, lb, rfl, hb⟩ := id_of (hval 1 22 v1 rfl rfl) h1
  obtain ⟨r, rfl, rfl, rfl, w2⟩ := open_int Try.underlying3 (hval 2 3 v2 rfl rfl) h2
  obtain ⟨a3, len3, cap3, rfl⟩ := okWide_slice Try.underlying23 (hval 3 23 v3 rfl rfl)
  obtain ⟨zs, hz⟩ := isRow_of h3
  clear hA0 hval0
  refine (walk a b la lb r a3 len3 cap3 zs W ha hb w2 hz).mono fun e W' ⟨he, bel⟩ => ?_
  subst he
  exact ⟨_, rfl, _, _, _, [], _, [], hW', trodAll_mk1 (shut_bool Try.underlying4 _), (trodAll_cons_mk (Below.trod laidOut (by kernel_rfl) (of_decide_eq_true (by kernel_rfl)) k0 bel lt0) (trodAll_cons_mk (Below.trod laidOut (by kernel_rfl) (of_decide_eq_true (by kernel_rfl)) k1 bel lt1) (trodAll_cons_mk (shut_int Try.underlying3 w2) (trodAll_cons_mk (Below.trod laidOut (by kernel_rfl) (of_decide_eq_true (by kernel_rfl)) k3 bel lt3) trodAll_mk0)))), rfl, bel.frame _, fun h => by cases h⟩

theorem over : Rows.fnCountScriptSumsOntoItsQueryRow.holds Try.pinned (OpenSpec.ofChange Rows.fnCountScriptSumsOntoItsQuerySpec) :=
  OpenClaim.holds_of_wide 3 Try.f3 rfl rfl rfl rfl rfl rfl rfl ⟨rfl, rfl, rfl, rfl, rfl⟩ rfl rfl rfl rfl rfl (by kernel_rfl) Try.func3 (by kernel_rfl)
    (of_decide_eq_true (by kernel_rfl)) (by unfold Func.isWrapper; first | (rw [if_pos (by decide +kernel)]; kernel_rfl) | (rw [if_neg (by decide +kernel)]; exact ⟨rfl, rfl⟩))
    (fun os started H enc _ => lifted os started H enc)
end fnS

/-- THE STATEMENT. -/
theorem fnCountScript_proved : Rows.FnCountScriptSumsOntoItsQuerySaid := fnS.over
end Go.Proofs.Qxb6606016a
