/-
  OWN WORK (after the guide's chapter on locks). The numbers under which this dump holds sync.Mutex's functions and types, and that it holds them (Derived/Conc/MuLib.lean); checked by the kernel as it is compiled.
-/
import Derived.Test.YbulkbyzkProg
import Derived.Conc.RwLib
import Derived.Conc.MuData
import Derived.KernelRfl
namespace Go.Proofs
abbrev Yba.muLink : Go.Conc.Locks.MuLink := { lock := 19, unlock := 21, ilock := 28, iunlock := 29, lockSlow := 34, unlockSlow := 36, disable := 31, enable := 32, acquire := 33, relMerge := 35, cas32 := 27, add32 := 23, tMutex := 60, tIMutex := 58, tPMutex := 116, tPIMutex := 124, tPI32 := 105, tUP := 53, tNoCopy := 56, tU32 := 40 }
theorem Yba.muLib : Go.Conc.Locks.MuLib Yba.prog Yba.muLink :=
  ⟨Yba.func19, Yba.func21, Yba.func28, Yba.func29, Yba.func31, Yba.func32, Yba.func33, Yba.func35, Yba.func27, Yba.func23, Yba.underlying58, Yba.runUnderlying58, Yba.sizeOf58, Yba.isAgg58, Yba.zeroValue58, Yba.underlying60, Yba.runUnderlying60, Yba.sizeOf60, Yba.isAgg60, Yba.zeroValue60, Yba.underlying116, Yba.runUnderlying116, Yba.sizeOf116, Yba.isAgg116, Yba.zeroValue116, Yba.underlying124, Yba.runUnderlying124, Yba.sizeOf124, Yba.isAgg124, Yba.zeroValue124, Yba.underlying105, Yba.runUnderlying105, Yba.sizeOf105, Yba.isAgg105, Yba.zeroValue105, Yba.underlying53, Yba.runUnderlying53, Yba.sizeOf53, Yba.isAgg53, Yba.zeroValue53, Yba.underlying56, Yba.runUnderlying56, Yba.sizeOf56, Yba.isAgg56, Yba.zeroValue56, Yba.underlying21, Yba.runUnderlying21, Yba.sizeOf21, Yba.isAgg21, Yba.zeroValue21, (by kernel_rfl)⟩
end Go.Proofs
