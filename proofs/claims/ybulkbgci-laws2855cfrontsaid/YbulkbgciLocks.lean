/-
  The numbers under which this dump holds sync.Mutex's functions and types, and that it holds them (Derived/Conc/MuLib.lean). Typed by hand after the print of the guide's tool; checked by the kernel as it is compiled.
-/
import Derived.Test.YbulkbgciProg
import Derived.Conc.RwLib
import Derived.Conc.MuData
import Derived.KernelRfl
namespace Go.Proofs
abbrev Yba.muLink : Go.Conc.Locks.MuLink := { lock := 18, unlock := 9, ilock := 29, iunlock := 21, lockSlow := 41, unlockSlow := 36, disable := 30, enable := 31, acquire := 33, relMerge := 34, cas32 := 32, add32 := 35, tMutex := 35, tIMutex := 33, tPMutex := 81, tPIMutex := 90, tPI32 := 92, tUP := 94, tNoCopy := 30, tU32 := 31 }
theorem Yba.muLib : Go.Conc.Locks.MuLib Yba.prog Yba.muLink :=
  ⟨Yba.func18, Yba.func9, Yba.func29, Yba.func21, Yba.func30, Yba.func31, Yba.func33, Yba.func34, Yba.func32, Yba.func35, Yba.underlying33, Yba.runUnderlying33, Yba.sizeOf33, Yba.isAgg33, Yba.zeroValue33, Yba.underlying35, Yba.runUnderlying35, Yba.sizeOf35, Yba.isAgg35, Yba.zeroValue35, Yba.underlying81, Yba.runUnderlying81, Yba.sizeOf81, Yba.isAgg81, Yba.zeroValue81, Yba.underlying90, Yba.runUnderlying90, Yba.sizeOf90, Yba.isAgg90, Yba.zeroValue90, Yba.underlying92, Yba.runUnderlying92, Yba.sizeOf92, Yba.isAgg92, Yba.zeroValue92, Yba.underlying94, Yba.runUnderlying94, Yba.sizeOf94, Yba.isAgg94, Yba.zeroValue94, Yba.underlying30, Yba.runUnderlying30, Yba.sizeOf30, Yba.isAgg30, Yba.zeroValue30, Yba.underlying21, Yba.runUnderlying21, Yba.sizeOf21, Yba.isAgg21, Yba.zeroValue21, (by kernel_rfl)⟩
end Go.Proofs
