import Derived.Test.Qxb6605697aDoorLaw3
import Derived.Test.Qxb6605697aDoorRows
import Derived.Test.Qxb6605697aDoorTie
import Derived.Test.Qxb6605697aDoorCards
import Derived.ProofKit
import Derived.OpenShut
import Derived.LaidMore
import Derived.Lay
import Derived.Stop.Joined
import Derived.SevenTiedAt
namespace Go.Proofs.Qxb6605697aDoor
open Go.ChangeShapes Go.WideShapes Go.ChangeAt Go.RowKit
set_option linter.unusedVariables false

theorem own : ownKnob Tryd.prog.godebug = none := by kernel_rfl
theorem laidOut : laidOutB Tryd.prog = true := by kernel_rfl
theorem cells5 : Tryd.prog.cellsOf 5 = 1 := by kernel_rfl

/-- the listed variable. -/
def laid1 : List (String × DataW Unit) := [("bytes.ErrTooLarge", Rows.laid_bytes_ErrTooLarge)]

/-- One start that meets the condition. -/
theorem start_met (os : Os) (args : Array Value) : laidMetH Tryd.prog laid1 ((World.laidAll Tryd.prog os laid1).forCall (fun _ _ => 0) ⟨#[], args, []⟩).memory := by
  rw [MakeChecks.laidMetH_plain _ _ _ (by kernel_rfl)]
  exact laidMet_laidAll _ (by kernel_rfl) (by kernel_rfl)

/-- WHAT THE WALK IS TOLD OF A SLICE OF BYTES THAT CAME IN. -/
theorem pre_of {H : Type} {enc : TypeId × Value → H} {W : World} {a : Option Addr} {n c : Nat} {d : DataW H} {p : List MemPlace} (h : DataW.Trod enc Tryd.prog W 0 (fun _ => true) true 22 (.slice a n c) d p) : ∃ cs, Pre W a n c cs := by
  obtain ⟨fuel, hf⟩ := h
  rcases open_ints Tryd.underlying22 Tryd.underlying5 cells5 hf with ⟨hcs, _⟩ | ⟨x, len, cap, zs, hcs, _, hl, _, hz, _, hc, _⟩
  · simp [Value.cells] at hcs
    obtain ⟨rfl, rfl, rfl⟩ := hcs
    exact ⟨[], rfl, fun v hv => by simp at hv, fun _ => ⟨rfl, rfl⟩, fun x e => by cases e⟩
  · simp [Value.cells] at hcs
    obtain ⟨rfl, rfl, rfl⟩ := hcs
    simp at hz
    refine ⟨(List.range n).map (fun i => Value.int .u8 (zs.getD i 0)), by simp, fun v hv => ?_, (fun e => by cases e), fun y e j v hv => ?_⟩
    · obtain ⟨i, _, rfl⟩ := List.mem_map.1 hv
      exact ⟨_, rfl⟩
    · cases e
      have hj : j < n := by have := (List.getElem?_eq_some_iff.1 hv).1; simpa using this
      rw [List.getElem?_map, List.getElem?_range hj] at hv
      simp only [Option.map_some, Option.some.injEq] at hv
      rw [← hv]
      exact hc j (by omega)
end Go.Proofs.Qxb6605697aDoor
