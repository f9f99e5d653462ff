/-
  Seat b0236a: the numbers under which this program holds sync.Mutex's functions and types (in the make of the guide's StatsLocks.lean).
-/
import Derived.Test.YbulkdwcProg
import Derived.Conc.RwLib
import Derived.Conc.MuData
import Derived.KernelRfl
namespace Go.Proofs.Ybulkdwc
abbrev muLink : Go.Conc.Locks.MuLink := { lock := 18, unlock := 19, ilock := 22, iunlock := 23, lockSlow := 30, unlockSlow := 33, disable := 26, enable := 28, acquire := 29, relMerge := 31, cas32 := 27, add32 := 32, tMutex := 68, tIMutex := 66, tPMutex := 96, tPIMutex := 100, tPI32 := 102, tUP := 104, tNoCopy := 63, tU32 := 64 }
theorem muLib : Go.Conc.Locks.MuLib Yba.prog muLink :=
  ⟨Yba.func18, Yba.func19, Yba.func22, Yba.func23, Yba.func26, Yba.func28, Yba.func29, Yba.func31, Yba.func27, Yba.func32, Yba.underlying66, Yba.runUnderlying66, Yba.sizeOf66, Yba.isAgg66, Yba.zeroValue66, Yba.underlying68, Yba.runUnderlying68, Yba.sizeOf68, Yba.isAgg68, Yba.zeroValue68, Yba.underlying96, Yba.runUnderlying96, Yba.sizeOf96, Yba.isAgg96, Yba.zeroValue96, Yba.underlying100, Yba.runUnderlying100, Yba.sizeOf100, Yba.isAgg100, Yba.zeroValue100, Yba.underlying102, Yba.runUnderlying102, Yba.sizeOf102, Yba.isAgg102, Yba.zeroValue102, Yba.underlying104, Yba.runUnderlying104, Yba.sizeOf104, Yba.isAgg104, Yba.zeroValue104, Yba.underlying63, Yba.runUnderlying63, Yba.sizeOf63, Yba.isAgg63, Yba.zeroValue63, Yba.underlying21, Yba.runUnderlying21, Yba.sizeOf21, Yba.isAgg21, Yba.zeroValue21, (by kernel_rfl)⟩
end Go.Proofs.Ybulkdwc
