/-
  Seat b6629309aD: the numbers under which this dump holds the library's lock's functions and types, and that it holds them (Derived/Conc/MuLib.lean). Typed by hand in the form of the guide's worked StatsLocks.lean; checked by the kernel.
-/
import Derived.Test.Qxb6629309aDoorProg
import Derived.Conc.RwLib
import Derived.Conc.MuData
import Derived.KernelRfl
namespace Go.Proofs
abbrev Tryd.muLink : Go.Conc.Locks.MuLink := { lock := 12, unlock := 13, ilock := 15, iunlock := 16, lockSlow := 22, unlockSlow := 25, disable := 18, enable := 20, acquire := 21, relMerge := 23, cas32 := 19, add32 := 24, tMutex := 44, tIMutex := 42, tPMutex := 49, tPIMutex := 51, tPI32 := 53, tUP := 55, tNoCopy := 39, tU32 := 40 }
theorem Tryd.muLib : Go.Conc.Locks.MuLib Tryd.prog Tryd.muLink :=
  ⟨Tryd.func12, Tryd.func13, Tryd.func15, Tryd.func16, Tryd.func18, Tryd.func20, Tryd.func21, Tryd.func23, Tryd.func19, Tryd.func24, Tryd.underlying42, Tryd.runUnderlying42, Tryd.sizeOf42, Tryd.isAgg42, Tryd.zeroValue42, Tryd.underlying44, Tryd.runUnderlying44, Tryd.sizeOf44, Tryd.isAgg44, Tryd.zeroValue44, Tryd.underlying49, Tryd.runUnderlying49, Tryd.sizeOf49, Tryd.isAgg49, Tryd.zeroValue49, Tryd.underlying51, Tryd.runUnderlying51, Tryd.sizeOf51, Tryd.isAgg51, Tryd.zeroValue51, Tryd.underlying53, Tryd.runUnderlying53, Tryd.sizeOf53, Tryd.isAgg53, Tryd.zeroValue53, Tryd.underlying55, Tryd.runUnderlying55, Tryd.sizeOf55, Tryd.isAgg55, Tryd.zeroValue55, Tryd.underlying39, Tryd.runUnderlying39, Tryd.sizeOf39, Tryd.isAgg39, Tryd.zeroValue39, Tryd.underlying21, Tryd.runUnderlying21, Tryd.sizeOf21, Tryd.isAgg21, Tryd.zeroValue21, (by kernel_rfl)⟩
end Go.Proofs
