import Derived.Test.Qxb6606016aIds
import Derived.OpenShut
import Derived.ChangeOld
import Derived.Below
namespace Go.Proofs.Qxb6606016a
open Go.ChangeShapes Go.WideShapes Go.ChangeAt Go.RowKit
set_option linter.unusedVariables false

theorem own : ownKnob Try.prog.godebug = none := by kernel_rfl
theorem laidOut : laidOutB Try.prog = true := by kernel_rfl
theorem cells22 : Try.prog.cellsOf 22 = 16 := by kernel_rfl
theorem cells50 : Try.prog.cellsOf 50 = 16 := by kernel_rfl
theorem types_pos : ∃ m, Try.prog.types.size = m + 1 := ⟨176, by kernel_rfl⟩

set_option maxRecDepth 100000 in
/-- an argument of type [16]byte is an id. -/
theorem id_of {H : Type} {enc : TypeId × Value → H} {W : World} {r : Reach} {b0 : Nat} {v : Value} {base : Nat} {sp : Nat → Bool} {held : Bool} {d : DataW H} {ps : List MemPlace} (hok : Value.okWide Try.prog W r b0 22 v) (hd : DataW.Trod enc Try.prog W base sp held 22 v d ps) :
    ∃ a l, v = .agg (c16 a) ∧ IsId (c16 a) l := by
  obtain ⟨xs, rfl, hn⟩ := WideMaps.okWide_arr ak22 hok
  obtain ⟨ls, _, _, hk⟩ := WideMaps.open_arr ak22 Try.underlying5 types_pos hn hd
  have hd50 : DataW.Trod enc Try.prog W base sp held 50 (.agg xs) d ps := by
    obtain ⟨fuel, hf⟩ := hd
    refine ⟨fuel, ?_⟩
    cases fuel with
    | zero => simp [DataW.trod] at hf
    | succ m =>
      rw [DataW.trod_step] at hf ⊢
      unfold DataW.trodStep at hf ⊢
      rw [Try.underlying22] at hf
      rw [Try.underlying50]
      simp only [cells22] at hf
      simp only [cells50]
      exact hf
  obtain ⟨ls', hd', _, hk'⟩ := WideMaps.open_arr ak50 Try.underlying5 types_pos hn hd50
  obtain ⟨ls2, hd2, _, hk2⟩ := WideMaps.open_arr ak22 Try.underlying5 types_pos hn hd
  have e : ls' = ls2 := by
    rw [hd'] at hd2
    simp only [DataW.agg.injEq] at hd2
    have := congrArg (List.map (fun x : DataW H => match x with | .lit l => l | _ => .bool false)) hd2
    simpa [List.map_map, Function.comp_def] using this
  subst e
  obtain ⟨a, rfl⟩ := c16_of hn
  exact ⟨a, _, rfl, hn, hk2, hk'⟩
end Go.Proofs.Qxb6606016a
