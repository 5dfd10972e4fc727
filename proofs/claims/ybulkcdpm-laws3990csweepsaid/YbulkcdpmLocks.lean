/-
  The numbers under which this dump holds sync.Mutex's functions and types, and that it holds them (Derived/Conc/MuLib.lean): after the guide's worked StatsLocks.lean, at this dump's numbers; checked by the kernel.
-/
import Derived.Test.YbulkcdpmRows
import Derived.Conc.MuLone
import Derived.KernelRfl
namespace Go.Proofs.Ybulkcdpm
abbrev muLink : Go.Conc.Locks.MuLink := { lock := 13, unlock := 14, ilock := 16, iunlock := 17, lockSlow := 22, unlockSlow := 25, disable := 18, enable := 20, acquire := 21, relMerge := 23, cas32 := 19, add32 := 24, tMutex := 70, tIMutex := 68, tPMutex := 95, tPIMutex := 97, tPI32 := 99, tUP := 101, tNoCopy := 65, tU32 := 66 }
theorem muLib : Go.Conc.Locks.MuLib Yba.prog muLink :=
  ⟨Yba.func13, Yba.func14, Yba.func16, Yba.func17, Yba.func18, Yba.func20, Yba.func21, Yba.func23, Yba.func19, Yba.func24, Yba.underlying68, Yba.runUnderlying68, Yba.sizeOf68, Yba.isAgg68, Yba.zeroValue68, Yba.underlying70, Yba.runUnderlying70, Yba.sizeOf70, Yba.isAgg70, Yba.zeroValue70, Yba.underlying95, Yba.runUnderlying95, Yba.sizeOf95, Yba.isAgg95, Yba.zeroValue95, Yba.underlying97, Yba.runUnderlying97, Yba.sizeOf97, Yba.isAgg97, Yba.zeroValue97, Yba.underlying99, Yba.runUnderlying99, Yba.sizeOf99, Yba.isAgg99, Yba.zeroValue99, Yba.underlying101, Yba.runUnderlying101, Yba.sizeOf101, Yba.isAgg101, Yba.zeroValue101, Yba.underlying65, Yba.runUnderlying65, Yba.sizeOf65, Yba.isAgg65, Yba.zeroValue65, Yba.underlying21, Yba.runUnderlying21, Yba.sizeOf21, Yba.isAgg21, Yba.zeroValue21, (by kernel_rfl)⟩
end Go.Proofs.Ybulkcdpm
