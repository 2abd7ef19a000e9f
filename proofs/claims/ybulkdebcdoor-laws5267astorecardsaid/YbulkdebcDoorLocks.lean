/-
  The numbers under which this dump holds the library's mutex, and that it holds it (after the kit's worked text StatsLocks; typed off the dump; the kernel checks each number).
-/
import Derived.Test.YbulkdebcDoorProg
import Derived.Conc.RwLib
import Derived.Conc.MuData
import Derived.KernelRfl
namespace Go.Proofs
abbrev Ybad.muLink : Go.Conc.Locks.MuLink := { lock := 12, unlock := 7, ilock := 16, iunlock := 14, lockSlow := 24, unlockSlow := 23, disable := 17, enable := 18, acquire := 20, relMerge := 21, cas32 := 19, add32 := 22, tMutex := 47, tIMutex := 45, tPMutex := 72, tPIMutex := 76, tPI32 := 78, tUP := 80, tNoCopy := 42, tU32 := 43 }
theorem Ybad.muLib : Go.Conc.Locks.MuLib Ybad.prog Ybad.muLink :=
  ⟨Ybad.func12, Ybad.func7, Ybad.func16, Ybad.func14, Ybad.func17, Ybad.func18, Ybad.func20, Ybad.func21, Ybad.func19, Ybad.func22, Ybad.underlying45, Ybad.runUnderlying45, Ybad.sizeOf45, Ybad.isAgg45, Ybad.zeroValue45, Ybad.underlying47, Ybad.runUnderlying47, Ybad.sizeOf47, Ybad.isAgg47, Ybad.zeroValue47, Ybad.underlying72, Ybad.runUnderlying72, Ybad.sizeOf72, Ybad.isAgg72, Ybad.zeroValue72, Ybad.underlying76, Ybad.runUnderlying76, Ybad.sizeOf76, Ybad.isAgg76, Ybad.zeroValue76, Ybad.underlying78, Ybad.runUnderlying78, Ybad.sizeOf78, Ybad.isAgg78, Ybad.zeroValue78, Ybad.underlying80, Ybad.runUnderlying80, Ybad.sizeOf80, Ybad.isAgg80, Ybad.zeroValue80, Ybad.underlying42, Ybad.runUnderlying42, Ybad.sizeOf42, Ybad.isAgg42, Ybad.zeroValue42, Ybad.underlying21, Ybad.runUnderlying21, Ybad.sizeOf21, Ybad.isAgg21, Ybad.zeroValue21, (by kernel_rfl)⟩
end Go.Proofs
