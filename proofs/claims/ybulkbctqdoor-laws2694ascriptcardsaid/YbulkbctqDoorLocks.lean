/-
  The numbers under which this program's dump holds sync.Mutex's functions and types, and that it holds them (after the kit's worked StatsLocks.lean, at this dump's numbers). Checked by the kernel.
-/
import Derived.Test.YbulkbctqDoorProg
import Derived.Conc.MuLib
import Derived.KernelRfl
namespace Go.Proofs
abbrev Ybad.muLink : Go.Conc.Locks.MuLink := { lock := 10, unlock := 11, ilock := 18, iunlock := 19, lockSlow := 30, unlockSlow := 33, disable := 26, enable := 28, acquire := 29, relMerge := 31, cas32 := 27, add32 := 32, tMutex := 61, tIMutex := 59, tPMutex := 82, tPIMutex := 95, tPI32 := 97, tUP := 99, tNoCopy := 57, tU32 := 30 }
theorem Ybad.muLib : Go.Conc.Locks.MuLib Ybad.prog Ybad.muLink :=
  ⟨Ybad.func10, Ybad.func11, Ybad.func18, Ybad.func19, Ybad.func26, Ybad.func28, Ybad.func29, Ybad.func31, Ybad.func27, Ybad.func32, Ybad.underlying59, Ybad.runUnderlying59, Ybad.sizeOf59, Ybad.isAgg59, Ybad.zeroValue59, Ybad.underlying61, Ybad.runUnderlying61, Ybad.sizeOf61, Ybad.isAgg61, Ybad.zeroValue61, Ybad.underlying82, Ybad.runUnderlying82, Ybad.sizeOf82, Ybad.isAgg82, Ybad.zeroValue82, Ybad.underlying95, Ybad.runUnderlying95, Ybad.sizeOf95, Ybad.isAgg95, Ybad.zeroValue95, Ybad.underlying97, Ybad.runUnderlying97, Ybad.sizeOf97, Ybad.isAgg97, Ybad.zeroValue97, Ybad.underlying99, Ybad.runUnderlying99, Ybad.sizeOf99, Ybad.isAgg99, Ybad.zeroValue99, Ybad.underlying57, Ybad.runUnderlying57, Ybad.sizeOf57, Ybad.isAgg57, Ybad.zeroValue57, Ybad.underlying21, Ybad.runUnderlying21, Ybad.sizeOf21, Ybad.isAgg21, Ybad.zeroValue21, (by kernel_rfl)⟩
end Go.Proofs
