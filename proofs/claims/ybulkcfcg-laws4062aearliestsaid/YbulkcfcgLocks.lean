/- The numbers under which this dump holds sync.Mutex's functions and types, and that it holds them. -/
import Derived.Test.YbulkcfcgProg
import Derived.Conc.RwLib
import Derived.KernelRfl
namespace Go.Proofs
abbrev Yba.muLink : Go.Conc.Locks.MuLink := { lock := 6, unlock := 7, ilock := 8, iunlock := 9, lockSlow := 14, unlockSlow := 17, disable := 10, enable := 12, acquire := 13, relMerge := 15, cas32 := 11, add32 := 16, tMutex := 50, tIMutex := 48, tPMutex := 58, tPIMutex := 59, tPI32 := 61, tUP := 63, tNoCopy := 46, tU32 := 29 }
theorem Yba.muLib : Go.Conc.Locks.MuLib Yba.prog Yba.muLink :=
  ⟨Yba.func6, Yba.func7, Yba.func8, Yba.func9, Yba.func10, Yba.func12, Yba.func13, Yba.func15, Yba.func11, Yba.func16, Yba.underlying48, Yba.runUnderlying48, Yba.sizeOf48, Yba.isAgg48, Yba.zeroValue48, Yba.underlying50, Yba.runUnderlying50, Yba.sizeOf50, Yba.isAgg50, Yba.zeroValue50, Yba.underlying58, Yba.runUnderlying58, Yba.sizeOf58, Yba.isAgg58, Yba.zeroValue58, Yba.underlying59, Yba.runUnderlying59, Yba.sizeOf59, Yba.isAgg59, Yba.zeroValue59, Yba.underlying61, Yba.runUnderlying61, Yba.sizeOf61, Yba.isAgg61, Yba.zeroValue61, Yba.underlying63, Yba.runUnderlying63, Yba.sizeOf63, Yba.isAgg63, Yba.zeroValue63, Yba.underlying46, Yba.runUnderlying46, Yba.sizeOf46, Yba.isAgg46, Yba.zeroValue46, Yba.underlying21, Yba.runUnderlying21, Yba.sizeOf21, Yba.isAgg21, Yba.zeroValue21, (by kernel_rfl)⟩
end Go.Proofs
