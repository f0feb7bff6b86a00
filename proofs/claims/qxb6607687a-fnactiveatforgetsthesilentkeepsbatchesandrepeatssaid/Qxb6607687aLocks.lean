import Derived.Test.Qxb6607687aProg
import Derived.Conc.MuLone
import Derived.KernelRfl
namespace Go.Proofs
abbrev Qxb6607687a.muLink : Go.Conc.Locks.MuLink := { lock := 43, unlock := 44, ilock := 55, iunlock := 56, lockSlow := 65, unlockSlow := 68, disable := 61, enable := 63, acquire := 64, relMerge := 66, cas32 := 62, add32 := 67, tMutex := 81, tIMutex := 79, tPMutex := 104, tPIMutex := 110, tPI32 := 112, tUP := 114, tNoCopy := 76, tU32 := 77 }
theorem Qxb6607687a.muLib : Go.Conc.Locks.MuLib Try.prog Qxb6607687a.muLink :=
  ⟨Try.func43, Try.func44, Try.func55, Try.func56, Try.func61, Try.func63, Try.func64, Try.func66, Try.func62, Try.func67, Try.underlying79, Try.runUnderlying79, Try.sizeOf79, Try.isAgg79, Try.zeroValue79, Try.underlying81, Try.runUnderlying81, Try.sizeOf81, Try.isAgg81, Try.zeroValue81, Try.underlying104, Try.runUnderlying104, Try.sizeOf104, Try.isAgg104, Try.zeroValue104, Try.underlying110, Try.runUnderlying110, Try.sizeOf110, Try.isAgg110, Try.zeroValue110, Try.underlying112, Try.runUnderlying112, Try.sizeOf112, Try.isAgg112, Try.zeroValue112, Try.underlying114, Try.runUnderlying114, Try.sizeOf114, Try.isAgg114, Try.zeroValue114, Try.underlying76, Try.runUnderlying76, Try.sizeOf76, Try.isAgg76, Try.zeroValue76, Try.underlying21, Try.runUnderlying21, Try.sizeOf21, Try.isAgg21, Try.zeroValue21, (by kernel_rfl)⟩
end Go.Proofs
