import Derived.Test.Qxb6618618aProg
import Derived.Conc.MuLib
import Derived.KernelRfl
namespace Go.Proofs.Qxb6618618a
/- The numbers under which this dump holds sync.Mutex's functions and types (Derived/Conc/MuLib.lean); checked by the kernel. -/
abbrev muLink : Go.Conc.Locks.MuLink := { lock := 17, unlock := 18, ilock := 22, iunlock := 23, lockSlow := 31, unlockSlow := 34, disable := 27, enable := 29, acquire := 30, relMerge := 32, cas32 := 28, add32 := 33, tMutex := 32, tIMutex := 30, tPMutex := 70, tPIMutex := 73, tPI32 := 75, tUP := 77, tNoCopy := 27, tU32 := 28 }
theorem muLib : Go.Conc.Locks.MuLib Try.prog muLink :=
  ⟨Try.func17, Try.func18, Try.func22, Try.func23, Try.func27, Try.func29, Try.func30, Try.func32, Try.func28, Try.func33, Try.underlying30, Try.runUnderlying30, Try.sizeOf30, Try.isAgg30, Try.zeroValue30, Try.underlying32, Try.runUnderlying32, Try.sizeOf32, Try.isAgg32, Try.zeroValue32, Try.underlying70, Try.runUnderlying70, Try.sizeOf70, Try.isAgg70, Try.zeroValue70, Try.underlying73, Try.runUnderlying73, Try.sizeOf73, Try.isAgg73, Try.zeroValue73, Try.underlying75, Try.runUnderlying75, Try.sizeOf75, Try.isAgg75, Try.zeroValue75, Try.underlying77, Try.runUnderlying77, Try.sizeOf77, Try.isAgg77, Try.zeroValue77, Try.underlying27, Try.runUnderlying27, Try.sizeOf27, Try.isAgg27, Try.zeroValue27, Try.underlying21, Try.runUnderlying21, Try.sizeOf21, Try.isAgg21, Try.zeroValue21, (by kernel_rfl)⟩
end Go.Proofs.Qxb6618618a
