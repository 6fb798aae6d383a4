/-
  The numbers under which this dump holds sync.Mutex's functions and types, and that it holds them (after the worked StatsLocks; numbers read off the dump).
-/
import Derived.Test.YbulkqkyProg
import Derived.Conc.MuData
import Derived.KernelRfl
namespace Go.Proofs
abbrev Yba.muLink : Go.Conc.Locks.MuLink := { lock := 14, unlock := 15, ilock := 17, iunlock := 18, lockSlow := 23, unlockSlow := 26, disable := 19, enable := 21, acquire := 22, relMerge := 24, cas32 := 20, add32 := 25, tMutex := 39, tIMutex := 37, tPMutex := 62, tPIMutex := 63, tPI32 := 65, tUP := 67, tNoCopy := 34, tU32 := 35 }
theorem Yba.muLib : Go.Conc.Locks.MuLib Yba.prog Yba.muLink :=
  ⟨Yba.func14, Yba.func15, Yba.func17, Yba.func18, Yba.func19, Yba.func21, Yba.func22, Yba.func24, Yba.func20, Yba.func25, Yba.underlying37, Yba.runUnderlying37, Yba.sizeOf37, Yba.isAgg37, Yba.zeroValue37, Yba.underlying39, Yba.runUnderlying39, Yba.sizeOf39, Yba.isAgg39, Yba.zeroValue39, Yba.underlying62, Yba.runUnderlying62, Yba.sizeOf62, Yba.isAgg62, Yba.zeroValue62, Yba.underlying63, Yba.runUnderlying63, Yba.sizeOf63, Yba.isAgg63, Yba.zeroValue63, Yba.underlying65, Yba.runUnderlying65, Yba.sizeOf65, Yba.isAgg65, Yba.zeroValue65, Yba.underlying67, Yba.runUnderlying67, Yba.sizeOf67, Yba.isAgg67, Yba.zeroValue67, Yba.underlying34, Yba.runUnderlying34, Yba.sizeOf34, Yba.isAgg34, Yba.zeroValue34, Yba.underlying21, Yba.runUnderlying21, Yba.sizeOf21, Yba.isAgg21, Yba.zeroValue21, (by kernel_rfl)⟩
end Go.Proofs
