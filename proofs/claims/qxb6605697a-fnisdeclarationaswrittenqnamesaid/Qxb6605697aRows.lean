/-
  No cell of these rows narrows 'for every input' (looked for: loops, veiled, ifaces, maps, wideKeys, modest, calm, conditions, laid).
  DERIVED. THE GIVEN ROWS OF THIS SEAT. 1 by the template 'for every input the law returns true; each argument reads behind the call as it read before'; 0 by the template 'total and deterministic' (their statements: Qxb6605697aTotals.lean).
  GIVEN WITH THE SEED: the statements are not yours to turn. If you find one false, say at which input.
  Laid BY PROGRAM, IN A SANDBOX (cutbox-rows.mjs): the forced cells as the released guide's own fill.sh prints them over the translation 6f54de08448e59b7… (all of the seat's roots in one cut). By AI agents, Wed Nov 11 2026. No macro, syntax, notation, axiom, sorry.
-/
import Derived.Test.Qxb6605697aChecked
import GoSem.Claim
import GoSem.ClaimJoined
import GoSem.ClaimMapViews
import Derived.JoinedTies
import Derived.KernelRfl
namespace Go.Proofs.Qxb6605697a
/- THE CELL 'sum', in the pinned program and in every row, IS THE sha256 OF THE DUMP (.gsa) THAT Qxb6605697aProg.lean LOADS. Nothing in Lean hashes anything: it is a label: what it is worth is what the hold of that sum in a sandbox is worth. -/
noncomputable def Try.pinned : Pinned := { name := "qxb6605697a", sum := "6f54de08448e59b797f6f7347a4bbbd95d7e31f136a58b3b6f5b8c946f70a441", checked := Try.checked }
namespace Rows
def none {H : Type} : Left H := { results := [], args := [] }

/-- 'zzlaws_pkg_epp_b1.FnIsDeclarationAsWrittenQName': WHATEVER THE INPUT: true; the input reads as it did. -/
def fnIsDeclarationAsWrittenQNameSpec : ChangeSpec := { name := "fnIsDeclarationAsWrittenQName", fn := fun _ => fun
  | [d1, d2] => { results := [.lit (.bool true)], args := [d1, d2] }
  | _ => none }
def fnIsDeclarationAsWrittenQNameRow : OpenClaim := { program := "qxb6605697a", sum := "6f54de08448e59b797f6f7347a4bbbd95d7e31f136a58b3b6f5b8c946f70a441", func := "example.com/counterdesk/counterdesk/zzlaws_pkg_epp_b1.FnIsDeclarationAsWrittenQName", spec := "fnIsDeclarationAsWrittenQName", apart := false }
def FnIsDeclarationAsWrittenQNameSaid : Prop := fnIsDeclarationAsWrittenQNameRow.holds Try.pinned (OpenSpec.ofChange fnIsDeclarationAsWrittenQNameSpec)

/-- ITS FALSE NEIGHBOUR: 'it returns false'. Refute it at one input. -/
def fnIsDeclarationAsWrittenQNameWrong : ChangeSpec := { name := "fnIsDeclarationAsWrittenQName", fn := fun _ => fun
  | [d1, d2] => { results := [.lit (.bool false)], args := [d1, d2] }
  | _ => none }
def FnIsDeclarationAsWrittenQNameWrongFalsely : Prop := fnIsDeclarationAsWrittenQNameRow.holds Try.pinned (OpenSpec.ofChange fnIsDeclarationAsWrittenQNameWrong)

end Rows
end Go.Proofs.Qxb6605697a
