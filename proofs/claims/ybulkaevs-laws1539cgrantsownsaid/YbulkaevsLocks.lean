/-
  The numbers under which this dump holds the library's mutex, after the guide's worked text RegLocks.lean.
-/
import Derived.Test.YbulkaevsChecked
import Derived.Conc.MuLone
import Derived.KernelRfl
namespace Go.Proofs.Ybulkaevs
abbrev muLink : Go.Conc.Locks.MuLink := { lock := 7, unlock := 8, ilock := 9, iunlock := 10, lockSlow := 15, unlockSlow := 18, disable := 11, enable := 13, acquire := 14, relMerge := 16, cas32 := 12, add32 := 17, tMutex := 44, tIMutex := 42, tPMutex := 116, tPIMutex := 117, tPI32 := 119, tUP := 82, tNoCopy := 39, tU32 := 40 }
theorem muLib : Go.Conc.Locks.MuLib Yba.prog muLink :=
  ⟨Yba.func7, Yba.func8, Yba.func9, Yba.func10, Yba.func11, Yba.func13, Yba.func14, Yba.func16, Yba.func12, Yba.func17, Yba.underlying42, Yba.runUnderlying42, Yba.sizeOf42, Yba.isAgg42, Yba.zeroValue42, Yba.underlying44, Yba.runUnderlying44, Yba.sizeOf44, Yba.isAgg44, Yba.zeroValue44, Yba.underlying116, Yba.runUnderlying116, Yba.sizeOf116, Yba.isAgg116, Yba.zeroValue116, Yba.underlying117, Yba.runUnderlying117, Yba.sizeOf117, Yba.isAgg117, Yba.zeroValue117, Yba.underlying119, Yba.runUnderlying119, Yba.sizeOf119, Yba.isAgg119, Yba.zeroValue119, Yba.underlying82, Yba.runUnderlying82, Yba.sizeOf82, Yba.isAgg82, Yba.zeroValue82, Yba.underlying39, Yba.runUnderlying39, Yba.sizeOf39, Yba.isAgg39, Yba.zeroValue39, Yba.underlying21, Yba.runUnderlying21, Yba.sizeOf21, Yba.isAgg21, Yba.zeroValue21, (by kernel_rfl)⟩
end Go.Proofs.Ybulkaevs
