/-
  No cell of these rows narrows 'for every input' (looked for: loops, veiled, ifaces, maps, wideKeys, modest, calm, conditions, laid).
  DERIVED. THE GIVEN ROWS OF THIS SEAT. 5 by the template 'for every input the law returns true; each argument reads behind the call as it read before'; 0 by the template 'total and deterministic' (their statements: Qxb6606016aTotals.lean).
  GIVEN WITH THE SEED: the statements are not yours to turn. If you find one false, say at which input.
  Laid BY PROGRAM, IN A SANDBOX (cutbox-rows.mjs): the forced cells as the released guide's own fill.sh prints them over the translation 007d9a62fa37bdff… (all of the seat's roots in one cut). By AI agents, Wed Nov 11 2026. No macro, syntax, notation, axiom, sorry.
-/
import Derived.Test.Qxb6606016aChecked
import GoSem.Claim
import GoSem.ClaimJoined
import GoSem.ClaimMapViews
import Derived.JoinedTies
import Derived.KernelRfl
namespace Go.Proofs.Qxb6606016a
/- THE CELL 'sum', in the pinned program and in every row, IS THE sha256 OF THE DUMP (.gsa) THAT Qxb6606016aProg.lean LOADS. Nothing in Lean hashes anything: it is a label: what it is worth is what the hold of that sum in a sandbox is worth. -/
noncomputable def Try.pinned : Pinned := { name := "qxb6606016a", sum := "007d9a62fa37bdff51dd1c0d18b369409f4189edbb25be1a55ffd9f518441293", checked := Try.checked }
namespace Rows
def none {H : Type} : Left H := { results := [], args := [] }

/-- 'zzlaws_root_b1.FnCountScriptSumsOntoItsQuery': WHATEVER THE INPUT: true; the input reads as it did. -/
def fnCountScriptSumsOntoItsQuerySpec : ChangeSpec := { name := "fnCountScriptSumsOntoItsQuery", fn := fun _ => fun
  | [d1, d2, d3, d4] => { results := [.lit (.bool true)], args := [d1, d2, d3, d4] }
  | _ => none }
def fnCountScriptSumsOntoItsQueryRow : OpenClaim := { program := "qxb6606016a", sum := "007d9a62fa37bdff51dd1c0d18b369409f4189edbb25be1a55ffd9f518441293", func := "example.com/hopwire/hopwire/zzlaws_root_b1.FnCountScriptSumsOntoItsQuery", spec := "fnCountScriptSumsOntoItsQuery", inPlace := ["(*internal/sync.Mutex).Lock", "internal/race.Disable", "sync/atomic.CompareAndSwapInt32", "internal/race.Enable", "internal/race.Acquire", "(*internal/sync.Mutex).lockSlow", "internal/sync.runtime_canSpin", "internal/sync.runtime_doSpin", "internal/sync.throw", "internal/sync.runtime_nanotime", "internal/sync.runtime_SemacquireMutex", "sync/atomic.AddInt32", "(*internal/sync.Mutex).Unlock", "internal/race.ReleaseMerge", "(*internal/sync.Mutex).unlockSlow", "internal/sync.fatal", "internal/sync.runtime_Semrelease"], plainKeys := false, apart := false }
def FnCountScriptSumsOntoItsQuerySaid : Prop := fnCountScriptSumsOntoItsQueryRow.holds Try.pinned (OpenSpec.ofChange fnCountScriptSumsOntoItsQuerySpec)

/-- ITS FALSE NEIGHBOUR: 'it returns false'. Refute it at one input. -/
def fnCountScriptSumsOntoItsQueryWrong : ChangeSpec := { name := "fnCountScriptSumsOntoItsQuery", fn := fun _ => fun
  | [d1, d2, d3, d4] => { results := [.lit (.bool false)], args := [d1, d2, d3, d4] }
  | _ => none }
def FnCountScriptSumsOntoItsQueryWrongFalsely : Prop := fnCountScriptSumsOntoItsQueryRow.holds Try.pinned (OpenSpec.ofChange fnCountScriptSumsOntoItsQueryWrong)

/-- 'zzlaws_root_b1.FnCountKeepsQueriesApart': WHATEVER THE INPUT: true; the input reads as it did. -/
def fnCountKeepsQueriesApartSpec : ChangeSpec := { name := "fnCountKeepsQueriesApart", fn := fun _ => fun
  | [d1, d2, d3, d4, d5, d6] => { results := [.lit (.bool true)], args := [d1, d2, d3, d4, d5, d6] }
  | _ => none }
def fnCountKeepsQueriesApartRow : OpenClaim := { program := "qxb6606016a", sum := "007d9a62fa37bdff51dd1c0d18b369409f4189edbb25be1a55ffd9f518441293", func := "example.com/hopwire/hopwire/zzlaws_root_b1.FnCountKeepsQueriesApart", spec := "fnCountKeepsQueriesApart", inPlace := ["(*internal/sync.Mutex).Lock", "internal/race.Disable", "sync/atomic.CompareAndSwapInt32", "internal/race.Enable", "internal/race.Acquire", "(*internal/sync.Mutex).lockSlow", "internal/sync.runtime_canSpin", "internal/sync.runtime_doSpin", "internal/sync.throw", "internal/sync.runtime_nanotime", "internal/sync.runtime_SemacquireMutex", "sync/atomic.AddInt32", "(*internal/sync.Mutex).Unlock", "internal/race.ReleaseMerge", "(*internal/sync.Mutex).unlockSlow", "internal/sync.fatal", "internal/sync.runtime_Semrelease"], plainKeys := false, apart := false }
def FnCountKeepsQueriesApartSaid : Prop := fnCountKeepsQueriesApartRow.holds Try.pinned (OpenSpec.ofChange fnCountKeepsQueriesApartSpec)

/-- ITS FALSE NEIGHBOUR: 'it returns false'. Refute it at one input. -/
def fnCountKeepsQueriesApartWrong : ChangeSpec := { name := "fnCountKeepsQueriesApart", fn := fun _ => fun
  | [d1, d2, d3, d4, d5, d6] => { results := [.lit (.bool false)], args := [d1, d2, d3, d4, d5, d6] }
  | _ => none }
def FnCountKeepsQueriesApartWrongFalsely : Prop := fnCountKeepsQueriesApartRow.holds Try.pinned (OpenSpec.ofChange fnCountKeepsQueriesApartWrong)

/-- 'zzlaws_root_b1.FnStartKeepsOneFreshChannelPerID': WHATEVER THE INPUT: true; the input reads as it did. -/
def fnStartKeepsOneFreshChannelPerIDSpec : ChangeSpec := { name := "fnStartKeepsOneFreshChannelPerID", fn := fun _ => fun
  | [d] => { results := [.lit (.bool true)], args := [d] }
  | _ => none }
def fnStartKeepsOneFreshChannelPerIDRow : OpenClaim := { program := "qxb6606016a", sum := "007d9a62fa37bdff51dd1c0d18b369409f4189edbb25be1a55ffd9f518441293", func := "example.com/hopwire/hopwire/zzlaws_root_b1.FnStartKeepsOneFreshChannelPerID", spec := "fnStartKeepsOneFreshChannelPerID", inPlace := ["(*internal/sync.Mutex).Lock", "internal/race.Disable", "sync/atomic.CompareAndSwapInt32", "internal/race.Enable", "internal/race.Acquire", "(*internal/sync.Mutex).lockSlow", "internal/sync.runtime_canSpin", "internal/sync.runtime_doSpin", "internal/sync.throw", "internal/sync.runtime_nanotime", "internal/sync.runtime_SemacquireMutex", "sync/atomic.AddInt32", "(*internal/sync.Mutex).Unlock", "internal/race.ReleaseMerge", "(*internal/sync.Mutex).unlockSlow", "internal/sync.fatal", "internal/sync.runtime_Semrelease"], plainKeys := false, apart := false }
def FnStartKeepsOneFreshChannelPerIDSaid : Prop := fnStartKeepsOneFreshChannelPerIDRow.holds Try.pinned (OpenSpec.ofChange fnStartKeepsOneFreshChannelPerIDSpec)

/-- ITS FALSE NEIGHBOUR: 'it returns false'. Refute it at one input. -/
def fnStartKeepsOneFreshChannelPerIDWrong : ChangeSpec := { name := "fnStartKeepsOneFreshChannelPerID", fn := fun _ => fun
  | [d] => { results := [.lit (.bool false)], args := [d] }
  | _ => none }
def FnStartKeepsOneFreshChannelPerIDWrongFalsely : Prop := fnStartKeepsOneFreshChannelPerIDRow.holds Try.pinned (OpenSpec.ofChange fnStartKeepsOneFreshChannelPerIDWrong)

/-- 'zzlaws_root_b1.FnStartAgainReplacesChannel': WHATEVER THE INPUT: true; the input reads as it did. -/
def fnStartAgainReplacesChannelSpec : ChangeSpec := { name := "fnStartAgainReplacesChannel", fn := fun _ => fun
  | [d1, d2] => { results := [.lit (.bool true)], args := [d1, d2] }
  | _ => none }
def fnStartAgainReplacesChannelRow : OpenClaim := { program := "qxb6606016a", sum := "007d9a62fa37bdff51dd1c0d18b369409f4189edbb25be1a55ffd9f518441293", func := "example.com/hopwire/hopwire/zzlaws_root_b1.FnStartAgainReplacesChannel", spec := "fnStartAgainReplacesChannel", inPlace := ["(*internal/sync.Mutex).Lock", "internal/race.Disable", "sync/atomic.CompareAndSwapInt32", "internal/race.Enable", "internal/race.Acquire", "(*internal/sync.Mutex).lockSlow", "internal/sync.runtime_canSpin", "internal/sync.runtime_doSpin", "internal/sync.throw", "internal/sync.runtime_nanotime", "internal/sync.runtime_SemacquireMutex", "sync/atomic.AddInt32", "(*internal/sync.Mutex).Unlock", "internal/race.ReleaseMerge", "(*internal/sync.Mutex).unlockSlow", "internal/sync.fatal", "internal/sync.runtime_Semrelease"], plainKeys := false, apart := false }
def FnStartAgainReplacesChannelSaid : Prop := fnStartAgainReplacesChannelRow.holds Try.pinned (OpenSpec.ofChange fnStartAgainReplacesChannelSpec)

/-- ITS FALSE NEIGHBOUR: 'it returns false'. Refute it at one input. -/
def fnStartAgainReplacesChannelWrong : ChangeSpec := { name := "fnStartAgainReplacesChannel", fn := fun _ => fun
  | [d1, d2] => { results := [.lit (.bool false)], args := [d1, d2] }
  | _ => none }
def FnStartAgainReplacesChannelWrongFalsely : Prop := fnStartAgainReplacesChannelRow.holds Try.pinned (OpenSpec.ofChange fnStartAgainReplacesChannelWrong)

/-- 'zzlaws_root_b1.FnEmptyListsExactlyNoCommonIndex': WHATEVER THE INPUT: true; the input reads as it did. -/
def fnEmptyListsExactlyNoCommonIndexSpec : ChangeSpec := { name := "fnEmptyListsExactlyNoCommonIndex", fn := fun _ => fun
  | [d] => { results := [.lit (.bool true)], args := [d] }
  | _ => none }
def fnEmptyListsExactlyNoCommonIndexRow : OpenClaim := { program := "qxb6606016a", sum := "007d9a62fa37bdff51dd1c0d18b369409f4189edbb25be1a55ffd9f518441293", func := "example.com/hopwire/hopwire/zzlaws_root_b1.FnEmptyListsExactlyNoCommonIndex", spec := "fnEmptyListsExactlyNoCommonIndex", unfollowed := true, recurses := true, plainKeys := false, apart := false }
def FnEmptyListsExactlyNoCommonIndexSaid : Prop := fnEmptyListsExactlyNoCommonIndexRow.holds Try.pinned (OpenSpec.ofChange fnEmptyListsExactlyNoCommonIndexSpec)

/-- ITS FALSE NEIGHBOUR: 'it returns false'. Refute it at one input. -/
def fnEmptyListsExactlyNoCommonIndexWrong : ChangeSpec := { name := "fnEmptyListsExactlyNoCommonIndex", fn := fun _ => fun
  | [d] => { results := [.lit (.bool false)], args := [d] }
  | _ => none }
def FnEmptyListsExactlyNoCommonIndexWrongFalsely : Prop := fnEmptyListsExactlyNoCommonIndexRow.holds Try.pinned (OpenSpec.ofChange fnEmptyListsExactlyNoCommonIndexWrong)

end Rows
end Go.Proofs.Qxb6606016a
