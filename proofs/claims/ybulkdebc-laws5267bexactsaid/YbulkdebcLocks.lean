/-
  The numbers under which this dump holds the library's mutex, and that it holds it (after the kit's worked text StatsLocks; typed by hand off the dump; the kernel checks each number).
-/
import Derived.Test.YbulkdebcProg
import Derived.Conc.RwLib
import Derived.Conc.MuData
import Derived.KernelRfl
namespace Go.Proofs
abbrev Yba.muLink : Go.Conc.Locks.MuLink := { lock := 11, unlock := 9, ilock := 14, iunlock := 13, lockSlow := 22, unlockSlow := 21, disable := 15, enable := 16, acquire := 18, relMerge := 19, cas32 := 17, add32 := 20, tMutex := 45, tIMutex := 43, tPMutex := 60, tPIMutex := 61, tPI32 := 63, tUP := 65, tNoCopy := 40, tU32 := 41 }
theorem Yba.muLib : Go.Conc.Locks.MuLib Yba.prog Yba.muLink :=
  ⟨Yba.func11, Yba.func9, Yba.func14, Yba.func13, Yba.func15, Yba.func16, Yba.func18, Yba.func19, Yba.func17, Yba.func20, Yba.underlying43, Yba.runUnderlying43, Yba.sizeOf43, Yba.isAgg43, Yba.zeroValue43, Yba.underlying45, Yba.runUnderlying45, Yba.sizeOf45, Yba.isAgg45, Yba.zeroValue45, Yba.underlying60, Yba.runUnderlying60, Yba.sizeOf60, Yba.isAgg60, Yba.zeroValue60, Yba.underlying61, Yba.runUnderlying61, Yba.sizeOf61, Yba.isAgg61, Yba.zeroValue61, Yba.underlying63, Yba.runUnderlying63, Yba.sizeOf63, Yba.isAgg63, Yba.zeroValue63, Yba.underlying65, Yba.runUnderlying65, Yba.sizeOf65, Yba.isAgg65, Yba.zeroValue65, Yba.underlying40, Yba.runUnderlying40, Yba.sizeOf40, Yba.isAgg40, Yba.zeroValue40, Yba.underlying21, Yba.runUnderlying21, Yba.sizeOf21, Yba.isAgg21, Yba.zeroValue21, (by kernel_rfl)⟩
end Go.Proofs
