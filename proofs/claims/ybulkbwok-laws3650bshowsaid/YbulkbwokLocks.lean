/- DERIVED. The numbers under which this dump holds the lock's functions and types. -/
import Derived.Test.YbulkbwokProg
import Derived.Conc.MuData
import Derived.Conc.MuLone
import Derived.KernelRfl
namespace Go.Proofs
abbrev Yba.muLink : Go.Conc.Locks.MuLink := { lock := 9, unlock := 10, ilock := 14, iunlock := 15, lockSlow := 21, unlockSlow := 24, disable := 17, enable := 19, acquire := 20, relMerge := 22, cas32 := 18, add32 := 23, tMutex := 42, tIMutex := 40, tPMutex := 70, tPIMutex := 73, tPI32 := 75, tUP := 77, tNoCopy := 37, tU32 := 38 }
theorem Yba.muLib : Go.Conc.Locks.MuLib Yba.prog Yba.muLink :=
  ⟨Yba.func9, Yba.func10, Yba.func14, Yba.func15, Yba.func17, Yba.func19, Yba.func20, Yba.func22, Yba.func18, Yba.func23, Yba.underlying40, Yba.runUnderlying40, Yba.sizeOf40, Yba.isAgg40, Yba.zeroValue40, Yba.underlying42, Yba.runUnderlying42, Yba.sizeOf42, Yba.isAgg42, Yba.zeroValue42, Yba.underlying70, Yba.runUnderlying70, Yba.sizeOf70, Yba.isAgg70, Yba.zeroValue70, Yba.underlying73, Yba.runUnderlying73, Yba.sizeOf73, Yba.isAgg73, Yba.zeroValue73, Yba.underlying75, Yba.runUnderlying75, Yba.sizeOf75, Yba.isAgg75, Yba.zeroValue75, Yba.underlying77, Yba.runUnderlying77, Yba.sizeOf77, Yba.isAgg77, Yba.zeroValue77, Yba.underlying37, Yba.runUnderlying37, Yba.sizeOf37, Yba.isAgg37, Yba.zeroValue37, Yba.underlying21, Yba.runUnderlying21, Yba.sizeOf21, Yba.isAgg21, Yba.zeroValue21, (by kernel_rfl)⟩
end Go.Proofs
