/-
  YbulkbpmgLocks: the numbers under which this dump holds sync.Mutex's functions and types (after the kit's Derived/Test/StatsLocks.lean, turned to this dump by hand).
-/
import Derived.Test.YbulkbpmgProg
import Derived.Conc.RwLib
import Derived.KernelRfl
namespace Go.Proofs
abbrev Yba.muLink : Go.Conc.Locks.MuLink := { lock := 17, unlock := 18, ilock := 25, iunlock := 26, lockSlow := 37, unlockSlow := 40, disable := 33, enable := 35, acquire := 36, relMerge := 38, cas32 := 34, add32 := 39, tMutex := 44, tIMutex := 42, tPMutex := 105, tPIMutex := 111, tPI32 := 113, tUP := 115, tNoCopy := 39, tU32 := 40 }
theorem Yba.muLib : Go.Conc.Locks.MuLib Yba.prog Yba.muLink :=
  ⟨Yba.func17, Yba.func18, Yba.func25, Yba.func26, Yba.func33, Yba.func35, Yba.func36, Yba.func38, Yba.func34, Yba.func39, Yba.underlying42, Yba.runUnderlying42, Yba.sizeOf42, Yba.isAgg42, Yba.zeroValue42, Yba.underlying44, Yba.runUnderlying44, Yba.sizeOf44, Yba.isAgg44, Yba.zeroValue44, Yba.underlying105, Yba.runUnderlying105, Yba.sizeOf105, Yba.isAgg105, Yba.zeroValue105, Yba.underlying111, Yba.runUnderlying111, Yba.sizeOf111, Yba.isAgg111, Yba.zeroValue111, Yba.underlying113, Yba.runUnderlying113, Yba.sizeOf113, Yba.isAgg113, Yba.zeroValue113, Yba.underlying115, Yba.runUnderlying115, Yba.sizeOf115, Yba.isAgg115, Yba.zeroValue115, Yba.underlying39, Yba.runUnderlying39, Yba.sizeOf39, Yba.isAgg39, Yba.zeroValue39, Yba.underlying21, Yba.runUnderlying21, Yba.sizeOf21, Yba.isAgg21, Yba.zeroValue21, (by kernel_rfl)⟩
end Go.Proofs
