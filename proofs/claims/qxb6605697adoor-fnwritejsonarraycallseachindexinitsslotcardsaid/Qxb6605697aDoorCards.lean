/-
  DERIVED. GIVEN WITH THE SEED: THE CARDS: each row of Qxb6605697aDoorRows.lean that lists a variable, with what it lists TIED to the program's text (the seventh form; the later family's looks); each row that meets fmt, with fmt's text TOLD by the authors' own Lean function (tested against real Go, not proved from fmt's source: count such statements apart). THE CARD IS WHAT COUNTS. Prove the row's statement (the work); the ties are given (Qxb6605697aDoorTie.lean); close each card by the builder's one call (the guide's Derived/Test/ToyasCard.lean, 'card_holds'). Laid BY PROGRAM, IN A SANDBOX (cutbox-door.mjs). By AI agents, Wed Nov 11 2026. No macro, syntax, notation, axiom, sorry.
-/
import Derived.Test.Qxb6605697aDoorRows
import GoSem.ClaimSeven
namespace Go.Proofs.Qxb6605697aDoor
namespace Rows

/-- THE TIED CARD OF 'zzlaws_pkg_epp_b1.FnWriteJSONArrayFramesNSlots'. -/
def fnWriteJSONArrayFramesNSlotsCard : Claim7 := { stood := { row := fnWriteJSONArrayFramesNSlotsRow, standIns := [], harness := (true, "a2c1579b42a55ce647e092f83bf1c921822fd787351d48a770f5aa937cb419c4"), looks := false }, kinds := [], alts := [], laidByText := true, laidKinds := [.sentinel], laidTests := true, laidLooks := .later }
def FnWriteJSONArrayFramesNSlotsCardSaid : Prop := Claim7.holds Tryd.pinned (.plain (OpenSpec.ofChange fnWriteJSONArrayFramesNSlotsSpec)) fnWriteJSONArrayFramesNSlotsCard

/-- THE TIED CARD OF 'zzlaws_pkg_epp_b1.FnWriteJSONArrayCallsEachIndexInItsSlot'. -/
def fnWriteJSONArrayCallsEachIndexInItsSlotCard : Claim7 := { stood := { row := fnWriteJSONArrayCallsEachIndexInItsSlotRow, standIns := [], harness := (true, "a2c1579b42a55ce647e092f83bf1c921822fd787351d48a770f5aa937cb419c4"), looks := false }, kinds := [], alts := [], laidByText := true, laidKinds := [.sentinel], laidTests := true, laidLooks := .later }
def FnWriteJSONArrayCallsEachIndexInItsSlotCardSaid : Prop := Claim7.holds Tryd.pinned (.plain (OpenSpec.ofChange fnWriteJSONArrayCallsEachIndexInItsSlotSpec)) fnWriteJSONArrayCallsEachIndexInItsSlotCard
end Rows
end Go.Proofs.Qxb6605697aDoor
