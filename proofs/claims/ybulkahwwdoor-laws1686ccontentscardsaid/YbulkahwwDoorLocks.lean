/-
  The numbers under which this dump holds sync.Mutex's functions and types, and that it holds them (after the guide's StatsLocks).
-/
import Derived.Test.YbulkahwwDoorProg
import Derived.Conc.MuLone
import Derived.KernelRfl
namespace Go.Proofs
abbrev Ybad.muLink : Go.Conc.Locks.MuLink := { lock := 11, unlock := 9, ilock := 17, iunlock := 14, lockSlow := 27, unlockSlow := 24, disable := 18, enable := 19, acquire := 21, relMerge := 22, cas32 := 20, add32 := 23, tMutex := 32, tIMutex := 30, tPMutex := 51, tPIMutex := 55, tPI32 := 57, tUP := 59, tNoCopy := 27, tU32 := 28 }
theorem Ybad.muLib : Go.Conc.Locks.MuLib Ybad.prog Ybad.muLink :=
  ⟨Ybad.func11, Ybad.func9, Ybad.func17, Ybad.func14, Ybad.func18, Ybad.func19, Ybad.func21, Ybad.func22, Ybad.func20, Ybad.func23, Ybad.underlying30, Ybad.runUnderlying30, Ybad.sizeOf30, Ybad.isAgg30, Ybad.zeroValue30, Ybad.underlying32, Ybad.runUnderlying32, Ybad.sizeOf32, Ybad.isAgg32, Ybad.zeroValue32, Ybad.underlying51, Ybad.runUnderlying51, Ybad.sizeOf51, Ybad.isAgg51, Ybad.zeroValue51, Ybad.underlying55, Ybad.runUnderlying55, Ybad.sizeOf55, Ybad.isAgg55, Ybad.zeroValue55, Ybad.underlying57, Ybad.runUnderlying57, Ybad.sizeOf57, Ybad.isAgg57, Ybad.zeroValue57, Ybad.underlying59, Ybad.runUnderlying59, Ybad.sizeOf59, Ybad.isAgg59, Ybad.zeroValue59, Ybad.underlying27, Ybad.runUnderlying27, Ybad.sizeOf27, Ybad.isAgg27, Ybad.zeroValue27, Ybad.underlying21, Ybad.runUnderlying21, Ybad.sizeOf21, Ybad.isAgg21, Ybad.zeroValue21, (by kernel_rfl)⟩
end Go.Proofs
