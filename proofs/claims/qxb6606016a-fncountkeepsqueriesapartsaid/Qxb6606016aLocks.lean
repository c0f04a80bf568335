import Derived.Test.Qxb6606016aProg
import Derived.Conc.RwLib
import Derived.Conc.MuData
import Derived.KernelRfl
namespace Go.Proofs
abbrev Try.muLink : Go.Conc.Locks.MuLink := { lock := 30, unlock := 31, ilock := 33, iunlock := 34, lockSlow := 44, unlockSlow := 47, disable := 40, enable := 42, acquire := 43, relMerge := 45, cas32 := 41, add32 := 46, tMutex := 67, tIMutex := 65, tPMutex := 107, tPIMutex := 114, tPI32 := 116, tUP := 118, tNoCopy := 63, tU32 := 53 }
theorem Try.muLib : Go.Conc.Locks.MuLib Try.prog Try.muLink :=
  ⟨Try.func30, Try.func31, Try.func33, Try.func34, Try.func40, Try.func42, Try.func43, Try.func45, Try.func41, Try.func46, Try.underlying65, Try.runUnderlying65, Try.sizeOf65, Try.isAgg65, Try.zeroValue65, Try.underlying67, Try.runUnderlying67, Try.sizeOf67, Try.isAgg67, Try.zeroValue67, Try.underlying107, Try.runUnderlying107, Try.sizeOf107, Try.isAgg107, Try.zeroValue107, Try.underlying114, Try.runUnderlying114, Try.sizeOf114, Try.isAgg114, Try.zeroValue114, Try.underlying116, Try.runUnderlying116, Try.sizeOf116, Try.isAgg116, Try.zeroValue116, Try.underlying118, Try.runUnderlying118, Try.sizeOf118, Try.isAgg118, Try.zeroValue118, Try.underlying63, Try.runUnderlying63, Try.sizeOf63, Try.isAgg63, Try.zeroValue63, Try.underlying21, Try.runUnderlying21, Try.sizeOf21, Try.isAgg21, Try.zeroValue21, (by kernel_rfl)⟩
end Go.Proofs
