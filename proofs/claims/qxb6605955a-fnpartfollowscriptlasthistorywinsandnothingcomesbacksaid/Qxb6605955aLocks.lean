import Derived.Test.Qxb6605955aProg
import Derived.Conc.MuLone
import Derived.Conc.MuData
import Derived.KernelRfl
namespace Go.Proofs
abbrev Try.muLink : Go.Conc.Locks.MuLink := { lock := 44, unlock := 45, ilock := 46, iunlock := 47, lockSlow := 52, unlockSlow := 55, disable := 48, enable := 50, acquire := 51, relMerge := 53, cas32 := 49, add32 := 54, tMutex := 65, tIMutex := 63, tPMutex := 91, tPIMutex := 92, tPI32 := 94, tUP := 96, tNoCopy := 60, tU32 := 61 }
theorem Try.muLib : Go.Conc.Locks.MuLib Try.prog Try.muLink :=
  ⟨Try.func44, Try.func45, Try.func46, Try.func47, Try.func48, Try.func50, Try.func51, Try.func53, Try.func49, Try.func54, Try.underlying63, Try.runUnderlying63, Try.sizeOf63, Try.isAgg63, Try.zeroValue63, Try.underlying65, Try.runUnderlying65, Try.sizeOf65, Try.isAgg65, Try.zeroValue65, Try.underlying91, Try.runUnderlying91, Try.sizeOf91, Try.isAgg91, Try.zeroValue91, Try.underlying92, Try.runUnderlying92, Try.sizeOf92, Try.isAgg92, Try.zeroValue92, Try.underlying94, Try.runUnderlying94, Try.sizeOf94, Try.isAgg94, Try.zeroValue94, Try.underlying96, Try.runUnderlying96, Try.sizeOf96, Try.isAgg96, Try.zeroValue96, Try.underlying60, Try.runUnderlying60, Try.sizeOf60, Try.isAgg60, Try.zeroValue60, Try.underlying21, Try.runUnderlying21, Try.sizeOf21, Try.isAgg21, Try.zeroValue21, (by kernel_rfl)⟩
end Go.Proofs
