/-
  The numbers under which this dump holds the library's lock's functions and types, and that it holds them.
-/
import Derived.Test.Qxb6612345aProg
import Derived.Conc.RwLib
import Derived.Conc.MuData
import Derived.KernelRfl
namespace Go.Proofs.Qxb6612345a
abbrev muLink : Go.Conc.Locks.MuLink := { lock := 8, unlock := 9, ilock := 11, iunlock := 12, lockSlow := 17, unlockSlow := 20, disable := 13, enable := 15, acquire := 16, relMerge := 18, cas32 := 14, add32 := 19, tMutex := 52, tIMutex := 50, tPMutex := 65, tPIMutex := 66, tPI32 := 68, tUP := 70, tNoCopy := 47, tU32 := 48 }
theorem muLib : Go.Conc.Locks.MuLib Try.prog muLink :=
  ⟨Try.func8, Try.func9, Try.func11, Try.func12, Try.func13, Try.func15, Try.func16, Try.func18, Try.func14, Try.func19, Try.underlying50, Try.runUnderlying50, Try.sizeOf50, Try.isAgg50, Try.zeroValue50, Try.underlying52, Try.runUnderlying52, Try.sizeOf52, Try.isAgg52, Try.zeroValue52, Try.underlying65, Try.runUnderlying65, Try.sizeOf65, Try.isAgg65, Try.zeroValue65, Try.underlying66, Try.runUnderlying66, Try.sizeOf66, Try.isAgg66, Try.zeroValue66, Try.underlying68, Try.runUnderlying68, Try.sizeOf68, Try.isAgg68, Try.zeroValue68, Try.underlying70, Try.runUnderlying70, Try.sizeOf70, Try.isAgg70, Try.zeroValue70, Try.underlying47, Try.runUnderlying47, Try.sizeOf47, Try.isAgg47, Try.zeroValue47, Try.underlying21, Try.runUnderlying21, Try.sizeOf21, Try.isAgg21, Try.zeroValue21, (by kernel_rfl)⟩
end Go.Proofs.Qxb6612345a
