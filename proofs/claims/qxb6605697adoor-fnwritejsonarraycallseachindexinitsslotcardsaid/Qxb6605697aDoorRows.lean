/-
  NARROWER THAN 'FOR EVERY INPUT', by the rows' own cells (each row's printed sentence says how): FnWriteJSONArrayFramesNSlots: laid · FnWriteJSONArrayCallsEachIndexInItsSlot: laid.
  DERIVED. THE GIVEN ROWS OF THIS SEAT. 2 by the template 'for every input the law returns true; each argument reads behind the call as it read before'; 0 by the template 'total and deterministic' (their statements: Qxb6605697aDoorTotals.lean).
  GIVEN WITH THE SEED: the statements are not yours to turn. If you find one false, say at which input.
  Laid BY PROGRAM, IN A SANDBOX (cutbox-rows.mjs): the forced cells as the released guide's own fill.sh prints them over the translation 25dbc0bf46a8bef0… (all of the seat's roots in one cut). By AI agents, Wed Nov 11 2026. No macro, syntax, notation, axiom, sorry.
-/
import Derived.Test.Qxb6605697aDoorChecked
import GoSem.Claim
import GoSem.ClaimJoined
import GoSem.ClaimMapViews
import Derived.JoinedTies
import Derived.KernelRfl
namespace Go.Proofs.Qxb6605697aDoor
/- THE CELL 'sum', in the pinned program and in every row, IS THE sha256 OF THE DUMP (.gsa) THAT Qxb6605697aDoorProg.lean LOADS. Nothing in Lean hashes anything: it is a label: what it is worth is what the hold of that sum in a sandbox is worth. -/
noncomputable def Tryd.pinned : Pinned := { name := "qxb6605697adoor", sum := "25dbc0bf46a8bef09c62d639e42ee18d84598d4d0225c19e5204eed80215202b", checked := Tryd.checked }
namespace Rows
def none {H : Type} : Left H := { results := [], args := [] }

/- WHAT THE LISTED PACKAGE-LEVEL VARIABLES READ AS WHEN THE CALL BEGINS. Each datum BY PROGRAM (the guide's laid-datum.mjs) off the statement by which the dump's own 'gosem.cut.vars' lays the variable. In a bare row this is a premise. The card (Qxb6605697aDoorCards.lean) ties it to the program's text. -/
def laid_bytes_ErrTooLarge {H : Type} : DataW H := .iface "*errors.errorString" (.ptr (.agg [.lit (.string [98, 121, 116, 101, 115, 46, 66, 117, 102, 102, 101, 114, 58, 32, 116, 111, 111, 32, 108, 97, 114, 103, 101])]))

/-- 'zzlaws_pkg_epp_b1.FnWriteJSONArrayFramesNSlots': WHATEVER THE INPUT: true; the input reads as it did. -/
def fnWriteJSONArrayFramesNSlotsSpec : ChangeSpec := { name := "fnWriteJSONArrayFramesNSlots", fn := fun _ => fun
  | [d1, d2] => { results := [.lit (.bool true)], args := [d1, d2] }
  | _ => none }
def fnWriteJSONArrayFramesNSlotsRow : OpenClaim := { program := "qxb6605697adoor", sum := "25dbc0bf46a8bef09c62d639e42ee18d84598d4d0225c19e5204eed80215202b", func := "example.com/counterdesk/counterdesk/zzlaws_pkg_epp_b1.FnWriteJSONArrayFramesNSlots", spec := "fnWriteJSONArrayFramesNSlots", unfollowed := true, recurses := true, named := ["bytes.ErrTooLarge"], apart := false, laid := [("bytes.ErrTooLarge", laid_bytes_ErrTooLarge)] }
def FnWriteJSONArrayFramesNSlotsSaid : Prop := fnWriteJSONArrayFramesNSlotsRow.holds Tryd.pinned (OpenSpec.ofChange fnWriteJSONArrayFramesNSlotsSpec)

/-- ITS FALSE NEIGHBOUR: 'it returns false'. Refute it at one input. -/
def fnWriteJSONArrayFramesNSlotsWrong : ChangeSpec := { name := "fnWriteJSONArrayFramesNSlots", fn := fun _ => fun
  | [d1, d2] => { results := [.lit (.bool false)], args := [d1, d2] }
  | _ => none }
def FnWriteJSONArrayFramesNSlotsWrongFalsely : Prop := fnWriteJSONArrayFramesNSlotsRow.holds Tryd.pinned (OpenSpec.ofChange fnWriteJSONArrayFramesNSlotsWrong)

/-- 'zzlaws_pkg_epp_b1.FnWriteJSONArrayCallsEachIndexInItsSlot': WHATEVER THE INPUT: true; the input reads as it did. -/
def fnWriteJSONArrayCallsEachIndexInItsSlotSpec : ChangeSpec := { name := "fnWriteJSONArrayCallsEachIndexInItsSlot", fn := fun _ => fun
  | [d1, d2] => { results := [.lit (.bool true)], args := [d1, d2] }
  | _ => none }
def fnWriteJSONArrayCallsEachIndexInItsSlotRow : OpenClaim := { program := "qxb6605697adoor", sum := "25dbc0bf46a8bef09c62d639e42ee18d84598d4d0225c19e5204eed80215202b", func := "example.com/counterdesk/counterdesk/zzlaws_pkg_epp_b1.FnWriteJSONArrayCallsEachIndexInItsSlot", spec := "fnWriteJSONArrayCallsEachIndexInItsSlot", unfollowed := true, recurses := true, named := ["bytes.ErrTooLarge"], apart := false, laid := [("bytes.ErrTooLarge", laid_bytes_ErrTooLarge)] }
def FnWriteJSONArrayCallsEachIndexInItsSlotSaid : Prop := fnWriteJSONArrayCallsEachIndexInItsSlotRow.holds Tryd.pinned (OpenSpec.ofChange fnWriteJSONArrayCallsEachIndexInItsSlotSpec)

/-- ITS FALSE NEIGHBOUR: 'it returns false'. Refute it at one input. -/
def fnWriteJSONArrayCallsEachIndexInItsSlotWrong : ChangeSpec := { name := "fnWriteJSONArrayCallsEachIndexInItsSlot", fn := fun _ => fun
  | [d1, d2] => { results := [.lit (.bool false)], args := [d1, d2] }
  | _ => none }
def FnWriteJSONArrayCallsEachIndexInItsSlotWrongFalsely : Prop := fnWriteJSONArrayCallsEachIndexInItsSlotRow.holds Tryd.pinned (OpenSpec.ofChange fnWriteJSONArrayCallsEachIndexInItsSlotWrong)

end Rows
end Go.Proofs.Qxb6605697aDoor
