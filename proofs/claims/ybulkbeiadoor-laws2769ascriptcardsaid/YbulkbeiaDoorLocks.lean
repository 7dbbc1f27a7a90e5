/-
  The numbers under which this dump holds sync.Mutex's functions and types, and that it holds them (Derived/Conc/MuLib.lean). Typed after the guide's 6u (its tool is not in this box); the kernel checks each number.
-/
import Derived.Test.YbulkbeiaDoorProg
import Derived.Conc.RwLib
import Derived.Conc.MuData
import Derived.KernelRfl
namespace Go.Proofs
abbrev Ybad.muLink : Go.Conc.Locks.MuLink := { lock := 9, unlock := 10, ilock := 13, iunlock := 14, lockSlow := 21, unlockSlow := 24, disable := 17, enable := 19, acquire := 20, relMerge := 22, cas32 := 18, add32 := 23, tMutex := 30, tIMutex := 28, tPMutex := 58, tPIMutex := 61, tPI32 := 57, tUP := 64, tNoCopy := 25, tU32 := 26 }
theorem Ybad.muLib : Go.Conc.Locks.MuLib Ybad.prog Ybad.muLink :=
  ⟨Ybad.func9, Ybad.func10, Ybad.func13, Ybad.func14, Ybad.func17, Ybad.func19, Ybad.func20, Ybad.func22, Ybad.func18, Ybad.func23, Ybad.underlying28, Ybad.runUnderlying28, Ybad.sizeOf28, Ybad.isAgg28, Ybad.zeroValue28, Ybad.underlying30, Ybad.runUnderlying30, Ybad.sizeOf30, Ybad.isAgg30, Ybad.zeroValue30, Ybad.underlying58, Ybad.runUnderlying58, Ybad.sizeOf58, Ybad.isAgg58, Ybad.zeroValue58, Ybad.underlying61, Ybad.runUnderlying61, Ybad.sizeOf61, Ybad.isAgg61, Ybad.zeroValue61, Ybad.underlying57, Ybad.runUnderlying57, Ybad.sizeOf57, Ybad.isAgg57, Ybad.zeroValue57, Ybad.underlying64, Ybad.runUnderlying64, Ybad.sizeOf64, Ybad.isAgg64, Ybad.zeroValue64, Ybad.underlying25, Ybad.runUnderlying25, Ybad.sizeOf25, Ybad.isAgg25, Ybad.zeroValue25, Ybad.underlying21, Ybad.runUnderlying21, Ybad.sizeOf21, Ybad.isAgg21, Ybad.zeroValue21, (by kernel_rfl)⟩
end Go.Proofs
