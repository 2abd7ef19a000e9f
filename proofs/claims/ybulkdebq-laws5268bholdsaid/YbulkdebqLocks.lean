/-
  The numbers under which this dump holds the library's mutex, and that it holds it (after the kit's worked text StatsLocks; typed off the dump; the kernel checks each number).
-/
import Derived.Test.YbulkdebqProg
import Derived.Conc.RwLib
import Derived.Conc.MuData
import Derived.KernelRfl
namespace Go.Proofs
abbrev Yba.muLink : Go.Conc.Locks.MuLink := { lock := 13, unlock := 14, ilock := 16, iunlock := 17, lockSlow := 22, unlockSlow := 25, disable := 18, enable := 20, acquire := 21, relMerge := 23, cas32 := 19, add32 := 24, tMutex := 37, tIMutex := 35, tPMutex := 66, tPIMutex := 67, tPI32 := 69, tUP := 71, tNoCopy := 32, tU32 := 33 }
theorem Yba.muLib : Go.Conc.Locks.MuLib Yba.prog Yba.muLink :=
  ⟨Yba.func13, Yba.func14, Yba.func16, Yba.func17, Yba.func18, Yba.func20, Yba.func21, Yba.func23, Yba.func19, Yba.func24, Yba.underlying35, Yba.runUnderlying35, Yba.sizeOf35, Yba.isAgg35, Yba.zeroValue35, Yba.underlying37, Yba.runUnderlying37, Yba.sizeOf37, Yba.isAgg37, Yba.zeroValue37, Yba.underlying66, Yba.runUnderlying66, Yba.sizeOf66, Yba.isAgg66, Yba.zeroValue66, Yba.underlying67, Yba.runUnderlying67, Yba.sizeOf67, Yba.isAgg67, Yba.zeroValue67, Yba.underlying69, Yba.runUnderlying69, Yba.sizeOf69, Yba.isAgg69, Yba.zeroValue69, Yba.underlying71, Yba.runUnderlying71, Yba.sizeOf71, Yba.isAgg71, Yba.zeroValue71, Yba.underlying32, Yba.runUnderlying32, Yba.sizeOf32, Yba.isAgg32, Yba.zeroValue32, Yba.underlying21, Yba.runUnderlying21, Yba.sizeOf21, Yba.isAgg21, Yba.zeroValue21, (by kernel_rfl)⟩
end Go.Proofs
