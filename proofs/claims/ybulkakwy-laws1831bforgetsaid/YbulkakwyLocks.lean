/-
  The numbers under which this dump holds sync.Mutex's functions and types, and that it holds them; checked by the kernel as it is compiled. (After the shape of the guide's worked texts; the tool that prints such a text is not in this box.)
-/
import Derived.Test.YbulkakwyRows
import Derived.Conc.MuLone
import Derived.KernelRfl
namespace Go.Proofs.Ybulkakwy
abbrev muLink : Go.Conc.Locks.MuLink := { lock := 12, unlock := 13, ilock := 15, iunlock := 16, lockSlow := 21, unlockSlow := 24, disable := 17, enable := 19, acquire := 20, relMerge := 22, cas32 := 18, add32 := 23, tMutex := 47, tIMutex := 45, tPMutex := 89, tPIMutex := 90, tPI32 := 92, tUP := 94, tNoCopy := 43, tU32 := 22 }
theorem muLib : Go.Conc.Locks.MuLib Yba.prog muLink :=
  ⟨Yba.func12, Yba.func13, Yba.func15, Yba.func16, Yba.func17, Yba.func19, Yba.func20, Yba.func22, Yba.func18, Yba.func23, Yba.underlying45, Yba.runUnderlying45, Yba.sizeOf45, Yba.isAgg45, Yba.zeroValue45, Yba.underlying47, Yba.runUnderlying47, Yba.sizeOf47, Yba.isAgg47, Yba.zeroValue47, Yba.underlying89, Yba.runUnderlying89, Yba.sizeOf89, Yba.isAgg89, Yba.zeroValue89, Yba.underlying90, Yba.runUnderlying90, Yba.sizeOf90, Yba.isAgg90, Yba.zeroValue90, Yba.underlying92, Yba.runUnderlying92, Yba.sizeOf92, Yba.isAgg92, Yba.zeroValue92, Yba.underlying94, Yba.runUnderlying94, Yba.sizeOf94, Yba.isAgg94, Yba.zeroValue94, Yba.underlying43, Yba.runUnderlying43, Yba.sizeOf43, Yba.isAgg43, Yba.zeroValue43, Yba.underlying21, Yba.runUnderlying21, Yba.sizeOf21, Yba.isAgg21, Yba.zeroValue21, (by kernel_rfl)⟩
end Go.Proofs.Ybulkakwy
