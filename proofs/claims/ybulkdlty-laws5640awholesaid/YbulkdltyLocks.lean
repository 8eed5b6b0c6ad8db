/-
  The numbers under which this dump holds the library's lock: functions and types (the shape of the library's worked '..Locks' texts, typed for this program).
-/
import Derived.Test.YbulkdltyProg
import Derived.Conc.RwLib
import Derived.Conc.MuData
import Derived.KernelRfl
namespace Go.Proofs
abbrev Yba.muLink : Go.Conc.Locks.MuLink := { lock := 5, unlock := 8, ilock := 9, iunlock := 11, lockSlow := 16, unlockSlow := 19, disable := 12, enable := 14, acquire := 15, relMerge := 17, cas32 := 13, add32 := 18, tMutex := 34, tIMutex := 32, tPMutex := 56, tPIMutex := 57, tPI32 := 59, tUP := 61, tNoCopy := 29, tU32 := 30 }
theorem Yba.muLib : Go.Conc.Locks.MuLib Yba.prog Yba.muLink :=
  ⟨Yba.func5, Yba.func8, Yba.func9, Yba.func11, Yba.func12, Yba.func14, Yba.func15, Yba.func17, Yba.func13, Yba.func18, Yba.underlying32, Yba.runUnderlying32, Yba.sizeOf32, Yba.isAgg32, Yba.zeroValue32, Yba.underlying34, Yba.runUnderlying34, Yba.sizeOf34, Yba.isAgg34, Yba.zeroValue34, Yba.underlying56, Yba.runUnderlying56, Yba.sizeOf56, Yba.isAgg56, Yba.zeroValue56, Yba.underlying57, Yba.runUnderlying57, Yba.sizeOf57, Yba.isAgg57, Yba.zeroValue57, Yba.underlying59, Yba.runUnderlying59, Yba.sizeOf59, Yba.isAgg59, Yba.zeroValue59, Yba.underlying61, Yba.runUnderlying61, Yba.sizeOf61, Yba.isAgg61, Yba.zeroValue61, Yba.underlying29, Yba.runUnderlying29, Yba.sizeOf29, Yba.isAgg29, Yba.zeroValue29, Yba.underlying21, Yba.runUnderlying21, Yba.sizeOf21, Yba.isAgg21, Yba.zeroValue21, (by kernel_rfl)⟩
end Go.Proofs
