/-
  The numbers under which this dump holds sync.Mutex's functions and types, and that it holds them; checked by the kernel as it is compiled.
-/
import Derived.Test.YbulkdcoiDoorProg
import Derived.Conc.RwLib
import Derived.Conc.MuData
import Derived.KernelRfl
namespace Go.Proofs
abbrev Ybad.muLink : Go.Conc.Locks.MuLink := { lock := 9, unlock := 7, ilock := 13, iunlock := 12, lockSlow := 23, unlockSlow := 22, disable := 16, enable := 17, acquire := 19, relMerge := 20, cas32 := 18, add32 := 21, tMutex := 52, tIMutex := 50, tPMutex := 78, tPIMutex := 92, tPI32 := 94, tUP := 83, tNoCopy := 47, tU32 := 48 }
theorem Ybad.muLib : Go.Conc.Locks.MuLib Ybad.prog Ybad.muLink :=
  ⟨Ybad.func9, Ybad.func7, Ybad.func13, Ybad.func12, Ybad.func16, Ybad.func17, Ybad.func19, Ybad.func20, Ybad.func18, Ybad.func21, Ybad.underlying50, Ybad.runUnderlying50, Ybad.sizeOf50, Ybad.isAgg50, Ybad.zeroValue50, Ybad.underlying52, Ybad.runUnderlying52, Ybad.sizeOf52, Ybad.isAgg52, Ybad.zeroValue52, Ybad.underlying78, Ybad.runUnderlying78, Ybad.sizeOf78, Ybad.isAgg78, Ybad.zeroValue78, Ybad.underlying92, Ybad.runUnderlying92, Ybad.sizeOf92, Ybad.isAgg92, Ybad.zeroValue92, Ybad.underlying94, Ybad.runUnderlying94, Ybad.sizeOf94, Ybad.isAgg94, Ybad.zeroValue94, Ybad.underlying83, Ybad.runUnderlying83, Ybad.sizeOf83, Ybad.isAgg83, Ybad.zeroValue83, Ybad.underlying47, Ybad.runUnderlying47, Ybad.sizeOf47, Ybad.isAgg47, Ybad.zeroValue47, Ybad.underlying21, Ybad.runUnderlying21, Ybad.sizeOf21, Ybad.isAgg21, Ybad.zeroValue21, (by kernel_rfl)⟩
end Go.Proofs
