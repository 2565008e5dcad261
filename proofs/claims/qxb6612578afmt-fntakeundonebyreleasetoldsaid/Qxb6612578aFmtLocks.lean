/-
  The numbers under which this dump holds sync.Mutex's functions and types, and that it holds them (Derived/Conc/MuLib.lean): typed by hand after the guide's StatsLocks; the kernel checks each.
-/
import Derived.Test.Qxb6612578aFmtProg
import Derived.Conc.MuLib
import Derived.KernelRfl
namespace Go.Proofs.Qxb6612578aFmt
abbrev muLink : Go.Conc.Locks.MuLink := { lock := 12, unlock := 13, ilock := 16, iunlock := 17, lockSlow := 23, unlockSlow := 26, disable := 19, enable := 21, acquire := 22, relMerge := 24, cas32 := 20, add32 := 25, tMutex := 37, tIMutex := 35, tPMutex := 44, tPIMutex := 51, tPI32 := 53, tUP := 55, tNoCopy := 32, tU32 := 33 }
theorem muLib : Go.Conc.Locks.MuLib Tryf.prog muLink :=
  ⟨Tryf.func12, Tryf.func13, Tryf.func16, Tryf.func17, Tryf.func19, Tryf.func21, Tryf.func22, Tryf.func24, Tryf.func20, Tryf.func25, Tryf.underlying35, Tryf.runUnderlying35, Tryf.sizeOf35, Tryf.isAgg35, Tryf.zeroValue35, Tryf.underlying37, Tryf.runUnderlying37, Tryf.sizeOf37, Tryf.isAgg37, Tryf.zeroValue37, Tryf.underlying44, Tryf.runUnderlying44, Tryf.sizeOf44, Tryf.isAgg44, Tryf.zeroValue44, Tryf.underlying51, Tryf.runUnderlying51, Tryf.sizeOf51, Tryf.isAgg51, Tryf.zeroValue51, Tryf.underlying53, Tryf.runUnderlying53, Tryf.sizeOf53, Tryf.isAgg53, Tryf.zeroValue53, Tryf.underlying55, Tryf.runUnderlying55, Tryf.sizeOf55, Tryf.isAgg55, Tryf.zeroValue55, Tryf.underlying32, Tryf.runUnderlying32, Tryf.sizeOf32, Tryf.isAgg32, Tryf.zeroValue32, Tryf.underlying21, Tryf.runUnderlying21, Tryf.sizeOf21, Tryf.isAgg21, Tryf.zeroValue21, (by kernel_rfl)⟩
end Go.Proofs.Qxb6612578aFmt
