import Derived.Test.Qxb6606016aLawE
import Derived.ProofKit
import Derived.OpenShut
import Derived.ChangeOld
import Derived.Deep.Matrix
namespace Go.Proofs.Qxb6606016a
open Go.ChangeShapes Go.WideShapes Go.ChangeAt Go.RowKit Go.Deep
set_option linter.unusedVariables false

theorem clones_zero (a : Option Addr) (c : Nat) (hc : a = none → c = 0) (w : World) : Calls Try.prog 25 #[.slice a 0 c] w fun e w' => (∃ a', e = .returned (.slice a' 0 0)) ∧ Below w.heap.size w w' := by
  have hnil := fun w n (c : Nat) (a : Option Addr) => Lib.run_eql_slice_nil (P := Try.prog) w 47 23 a n c 0 0 Try.underlying47
  have hmk : ∀ w, (Instr.makeSlice 47 (.int .i64 0) (.int .i64 0)).run Try.prog w = .ok (.slice (some ⟨w.heap.size, 0, none⟩) 0 0) (w.alloc (.cells #[] 23)) := fun _ => by kernel_rfl
  cases a with
  | none =>
    obtain rfl := hc rfl
    clear hc
    go_enter Try.func25, Try.ntmps25
    go_wp2
    go_ret
    exact ⟨⟨_, rfl⟩, Below.refl _ _⟩
  | some x =>
    clear hc
    go_enter Try.func25, Try.ntmps25
    go_wp2
    go_loopg [4] 0 (fun g s4 wr => s4 = .int .i64 0 ∧ wr = w.alloc (.cells #[] 23))
    case atStart => exact ⟨rfl, rfl⟩
    case round =>
      obtain ⟨rfl, rfl⟩ := hrel
      go_wp2
      go_ret
      exact ⟨⟨_, rfl⟩, (Below.refl _ _).alloc (Nat.le_refl _) _⟩

set_option maxRecDepth 100000 in
set_option maxHeartbeats 1000000 in
theorem law_zero (a : Option Addr) (c : Nat) (hc : a = none → c = 0) (w : World) :
    Calls Try.prog 7 #[.slice a 0 c] w fun e w' => e = .returned (.bool true) ∧ Below w.heap.size w w' := by
  have CB := bytes_zero a c w
  have CL := clones_zero a c hc w
  clear hc
  go_enter Try.func7, Try.ntmps7
  go_wp2_with fail
  refine CB.mono ?_
  rintro e w' ⟨rfl, rfl⟩
  clear CB
  go_wp2
  go_loopg [3, 4] 0 (fun g s3 s4 wr => s3 = .int .i64 0 ∧ s4 = .int .i64 0 ∧ wr = w')
  case atStart => exact ⟨rfl, rfl, rfl⟩
  case round =>
    obtain ⟨rfl, rfl, rfl⟩ := hrel
    go_wp2
    go_loopg [5] 0 (fun g s5 wx => s5 = .int .i64 0 ∧ wx = wr)
    case atStart => exact ⟨rfl, rfl⟩
    case round =>
      obtain ⟨rfl, rfl⟩ := hrel
      go_wp2_with fail
      refine CL.mono ?_
      rintro e w2 ⟨⟨a', rfl⟩, hb⟩
      have CE := zzempty_any 0 a' (fun _ => none) (fun _ => 0) (fun _ _ => 0) w2 (by omega) (fun h => absurd h (Nat.lt_irrefl _))
      clear CL
      go_wp2_with fail
      refine CE.mono ?_
      rintro e w3 ⟨⟨y, rfl, hy⟩, hb2⟩
      obtain rfl := yes_of hy (fun h => absurd h.1 (Nat.lt_irrefl _))
      clear CE hy
      go_wp2
      go_ret
      exact ⟨rfl, hb.trans (hb2.mono hb.size)⟩

namespace fnE
theorem own : ownKnob Try.prog.godebug = none := by kernel_rfl
theorem laidOut : laidOutB Try.prog = true := by kernel_rfl
theorem cells23 : Try.prog.cellsOf 23 = 1 := by kernel_rfl
theorem cells3 : Try.prog.cellsOf 3 = 1 := by kernel_rfl

theorem block_lt {w : World} {a : Addr} {v : Value} (h : w.cell? a = some v) : a.block < w.heap.size := by
  rcases Nat.lt_or_ge a.block w.heap.size with hlt | hge
  · exact hlt
  · simp [World.cell?, Array.getElem?_eq_none hge] at h

theorem add_none (b o r : Nat) : (⟨b, o, none⟩ : Addr).add r = ⟨b, o + r, none⟩ := by
  by_cases h : r = 0 <;> simp [Addr.add, h]

/-- WHAT THE ARGUMENT GIVES THE WALK. -/
theorem walk (a : Option Addr) (n c : Nat) (A : Nat → Option Addr) (L C : Nat → Nat) (Z : Nat → List Int) (w : World) (hnil : a = none → n = 0 ∧ c = 0)
    (hc : ∀ x, a = some x → ∀ r, r < n → w.cell? (x.add r) = some (.slice (A r) (L r) (C r)) ∧ L r ≤ C r ∧ (A r = none → C r = 0) ∧ ∀ a', A r = some a' → ∀ k, k < C r → w.cell? (a'.add k) = some (.int .i64 ((Z r).getD k 0))) :
    Calls Try.prog 7 #[.slice a n c] w fun e w' => e = .returned (.bool true) ∧ Below w.heap.size w w' := by
  by_cases h0 : 0 < n
  · cases a with
    | none => exact absurd (hnil rfl).1 (by omega)
    | some x =>
      obtain ⟨b, off, spot⟩ := x
      have hx := hc _ rfl
      have hspot : spot = none := by simpa [Addr.add] using World.cell?_spot (hx 0 h0).1
      subst hspot
      have hraw : ListsRaw w b off n A L C (fun r k => (Z r).getD k 0) := by
        intro r hr
        obtain ⟨h1, h2, h3, h4⟩ := hx r hr
        refine ⟨by rw [← add_none]; exact h1, fun hl => ?_, fun hA => ⟨by have := h3 hA; omega, h3 hA⟩⟩
        cases hA : A r with
        | none => exact absurd (h3 hA) (by omega)
        | some y =>
          obtain ⟨b', o', sp'⟩ := y
          have h5 := h4 _ hA
          have hsp' : sp' = none := by simpa [Addr.add] using World.cell?_spot (h5 0 (by omega))
          subst hsp'
          refine ⟨b', o', rfl, fun k hk => ?_⟩
          rw [← add_none]
          exact h5 k (by omega)
      refine law_pos b off n c A L C _ w hraw h0 (block_lt (hraw 0 h0).1) (fun i hi y hy hl => ?_)
      obtain ⟨b', o', e, hz⟩ := (hraw i hi).2.1 hl
      rw [hy] at e
      cases e
      exact block_lt (hz 0 hl)
  · obtain rfl : n = 0 := by omega
    exact law_zero a c (fun h => (hnil h).2) w

set_option maxRecDepth 100000 in
theorem lifted (os : Os) (started : os.Started) (H : Type) (enc : TypeId × Value → H) :
    ReturnsInHanded {} Try.checked os 7 .any (Rows.fnEmptyListsExactlyNoCommonIndexSpec.pre6 enc Try.prog Try.f7 Rows.fnEmptyListsExactlyNoCommonIndexRow.domain false) (Rows.fnEmptyListsExactlyNoCommonIndexSpec.post enc Try.prog Try.f7 false true false false) := by
  refine returnsInHanded_of_change (C := Try.checked) own started (by kernel_rfl) Try.func7
    (ChangeSpec.witness6 (enc := enc) (C := Try.checked) false ⟨#[], #[.slice none 0 0], []⟩ 8 (by kernel_rfl) (by kernel_rfl) (by kernel_rfl) (by kernel_rfl)) ?_
  intro W base args ds gs before hval0 hW hcnd _
  have hval : ∀ (j : Nat) t v, Try.f7.params[j]? = some t → args[j]? = some v → Value.okWide Try.prog W .any base t v := hval0
  have hW' := hW
  obtain ⟨p, q, hA0, hV, rfl, hfz, hnd⟩ := hW
  have hA : DataW.TrodAll enc Try.prog W 0 (fun _ => true) true Try.f7.params.toList args.toList ds p := hA0
  rw [Try.params7] at hA hval
  obtain ⟨v0, vs0, d0, ds0, p0, q0, hargs, rfl, rfl, h0, r0⟩ := trodAll_cons hA
  obtain ⟨rfl, rfl, rfl⟩ := trodAll_nil r0
  obtain rfl : args = #[v0] := by cases args; simp_all
  obtain ⟨rfl, rfl⟩ := trodVars_none hV
  obtain ⟨a0, len0, cap0, rfl⟩ := okWide_slice Try.underlying47 (hval 0 47 v0 rfl rfl)
  have k0 := h0
  have lt0 : ∀ x ∈ p0, x.block < W.heap.size := by obtain ⟨m, hm⟩ := k0; exact DataW.trod_lt m _ _ _ hm
  have hwalk : Calls Try.prog 7 #[.slice a0 len0 cap0] W fun e w' => e = .returned (.bool true) ∧ Below W.heap.size W w' := by
    obtain ⟨fuel, hf⟩ := h0
    rcases open_int_rows Try.underlying47 Try.underlying23 Try.underlying3 cells23 cells3 hf with ⟨hcs, _⟩ | ⟨x, l, c, A, L, C, Z, hcs, _, hl, hm, _, hrow⟩
    · simp [Value.cells] at hcs
      obtain ⟨rfl, rfl, rfl⟩ := hcs
      exact walk none 0 0 (fun _ => none) (fun _ => 0) (fun _ => 0) (fun _ => []) W (fun _ => ⟨rfl, rfl⟩) (fun x hx => by cases hx)
    · simp [Value.cells] at hcs
      obtain ⟨rfl, rfl, rfl⟩ := hcs
      refine walk (some x) len0 cap0 A L C Z W (fun h => by cases h) (fun y hy r hr => ?_)
      cases hy
      obtain ⟨g1, g2, g3, g4, g5, g6, g7⟩ := hrow r (by omega)
      exact ⟨g1, g2, g6, fun a' ha' k hk => (g7 a' ha').2 k hk⟩
  clear hA0 hval0
  refine hwalk.mono fun e W' ⟨he, bel⟩ => ?_
  subst he
  exact ⟨_, rfl, _, _, _, [], _, [], hW', trodAll_mk1 (shut_bool Try.underlying4 _), (trodAll_cons_mk (Below.trod laidOut (by kernel_rfl) (of_decide_eq_true (by kernel_rfl)) k0 bel lt0) trodAll_mk0), rfl, bel.frame _, fun h => by cases h⟩

theorem over : Rows.fnEmptyListsExactlyNoCommonIndexRow.holds Try.pinned (OpenSpec.ofChange Rows.fnEmptyListsExactlyNoCommonIndexSpec) :=
  OpenClaim.holds_of_wide 7 Try.f7 rfl rfl rfl rfl rfl rfl rfl ⟨rfl, rfl, rfl, rfl, rfl⟩ rfl rfl rfl rfl rfl (by kernel_rfl) Try.func7 (by kernel_rfl)
    (of_decide_eq_true (by kernel_rfl)) (by unfold Func.isWrapper; first | (rw [if_pos (by decide +kernel)]; kernel_rfl) | (rw [if_neg (by decide +kernel)]; exact ⟨rfl, rfl⟩))
    (fun os started H enc _ => lifted os started H enc)
end fnE

/-- THE STATEMENT. -/
theorem fnEmptyLists_proved : Rows.FnEmptyListsExactlyNoCommonIndexSaid := fnE.over
end Go.Proofs.Qxb6606016a
