import Derived.Test.YbulkdmkcDoorProg
import Derived.Conc.MuLone
import Derived.KernelRfl
namespace Go.Proofs.YbulkdmkcDoor
open Go

/-- The numbers under which this dump holds sync.Mutex's functions and types. -/
abbrev muLink : Go.Conc.Locks.MuLink := { lock := 19, unlock := 13, ilock := 29, iunlock := 21, lockSlow := 42, unlockSlow := 36, disable := 30, enable := 31, acquire := 33, relMerge := 34, cas32 := 32, add32 := 35, tMutex := 31, tIMutex := 29, tPMutex := 60, tPIMutex := 67, tPI32 := 69, tUP := 71, tNoCopy := 26, tU32 := 27 }
theorem muLib : Go.Conc.Locks.MuLib Ybad.prog muLink :=
  ⟨Ybad.func19, Ybad.func13, Ybad.func29, Ybad.func21, Ybad.func30, Ybad.func31, Ybad.func33, Ybad.func34, Ybad.func32, Ybad.func35, Ybad.underlying29, Ybad.runUnderlying29, Ybad.sizeOf29, Ybad.isAgg29, Ybad.zeroValue29, Ybad.underlying31, Ybad.runUnderlying31, Ybad.sizeOf31, Ybad.isAgg31, Ybad.zeroValue31, Ybad.underlying60, Ybad.runUnderlying60, Ybad.sizeOf60, Ybad.isAgg60, Ybad.zeroValue60, Ybad.underlying67, Ybad.runUnderlying67, Ybad.sizeOf67, Ybad.isAgg67, Ybad.zeroValue67, Ybad.underlying69, Ybad.runUnderlying69, Ybad.sizeOf69, Ybad.isAgg69, Ybad.zeroValue69, Ybad.underlying71, Ybad.runUnderlying71, Ybad.sizeOf71, Ybad.isAgg71, Ybad.zeroValue71, Ybad.underlying26, Ybad.runUnderlying26, Ybad.sizeOf26, Ybad.isAgg26, Ybad.zeroValue26, Ybad.underlying21, Ybad.runUnderlying21, Ybad.sizeOf21, Ybad.isAgg21, Ybad.zeroValue21, (by kernel_rfl)⟩
#print axioms muLib
end Go.Proofs.YbulkdmkcDoor
