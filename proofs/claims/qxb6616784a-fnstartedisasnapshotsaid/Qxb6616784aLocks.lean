import Derived.Test.Qxb6616784aProg
import Derived.Conc.MuLib
import Derived.Conc.MuLone
import Derived.KernelRfl
namespace Go.Proofs
abbrev Try.muLink : Go.Conc.Locks.MuLink := { lock := 15, unlock := 16, ilock := 17, iunlock := 18, lockSlow := 23, unlockSlow := 26, disable := 19, enable := 21, acquire := 22, relMerge := 24, cas32 := 20, add32 := 25, tMutex := 53, tIMutex := 51, tPMutex := 68, tPIMutex := 69, tPI32 := 71, tUP := 73, tNoCopy := 48, tU32 := 49 }
theorem Try.muLib : Go.Conc.Locks.MuLib Try.prog Try.muLink :=
  ⟨Try.func15, Try.func16, Try.func17, Try.func18, Try.func19, Try.func21, Try.func22, Try.func24, Try.func20, Try.func25, Try.underlying51, Try.runUnderlying51, Try.sizeOf51, Try.isAgg51, Try.zeroValue51, Try.underlying53, Try.runUnderlying53, Try.sizeOf53, Try.isAgg53, Try.zeroValue53, Try.underlying68, Try.runUnderlying68, Try.sizeOf68, Try.isAgg68, Try.zeroValue68, Try.underlying69, Try.runUnderlying69, Try.sizeOf69, Try.isAgg69, Try.zeroValue69, Try.underlying71, Try.runUnderlying71, Try.sizeOf71, Try.isAgg71, Try.zeroValue71, Try.underlying73, Try.runUnderlying73, Try.sizeOf73, Try.isAgg73, Try.zeroValue73, Try.underlying48, Try.runUnderlying48, Try.sizeOf48, Try.isAgg48, Try.zeroValue48, Try.underlying21, Try.runUnderlying21, Try.sizeOf21, Try.isAgg21, Try.zeroValue21, (by kernel_rfl)⟩
end Go.Proofs
