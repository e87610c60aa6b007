/-
  The numbers under which this dump holds sync.Mutex's functions and types, and that it holds them (Derived/Conc/MuLib.lean). Typed after the worked StatsLocks; checked by the kernel as it is compiled.
-/
import Derived.Test.YbulkfyhgFmtRows
import Derived.Conc.MuLone
import Derived.Conc.MuData
import Derived.KernelRfl
namespace Go.Proofs.YbulkfyhgFmt
abbrev muLink : Go.Conc.Locks.MuLink := { lock := 10, unlock := 15, ilock := 18, iunlock := 21, lockSlow := 26, unlockSlow := 29, disable := 22, enable := 24, acquire := 25, relMerge := 27, cas32 := 23, add32 := 28, tMutex := 46, tIMutex := 44, tPMutex := 55, tPIMutex := 62, tPI32 := 64, tUP := 66, tNoCopy := 41, tU32 := 42 }
theorem muLib : Go.Conc.Locks.MuLib Ybaf.prog muLink :=
  ⟨Ybaf.func10, Ybaf.func15, Ybaf.func18, Ybaf.func21, Ybaf.func22, Ybaf.func24, Ybaf.func25, Ybaf.func27, Ybaf.func23, Ybaf.func28, Ybaf.underlying44, Ybaf.runUnderlying44, Ybaf.sizeOf44, Ybaf.isAgg44, Ybaf.zeroValue44, Ybaf.underlying46, Ybaf.runUnderlying46, Ybaf.sizeOf46, Ybaf.isAgg46, Ybaf.zeroValue46, Ybaf.underlying55, Ybaf.runUnderlying55, Ybaf.sizeOf55, Ybaf.isAgg55, Ybaf.zeroValue55, Ybaf.underlying62, Ybaf.runUnderlying62, Ybaf.sizeOf62, Ybaf.isAgg62, Ybaf.zeroValue62, Ybaf.underlying64, Ybaf.runUnderlying64, Ybaf.sizeOf64, Ybaf.isAgg64, Ybaf.zeroValue64, Ybaf.underlying66, Ybaf.runUnderlying66, Ybaf.sizeOf66, Ybaf.isAgg66, Ybaf.zeroValue66, Ybaf.underlying41, Ybaf.runUnderlying41, Ybaf.sizeOf41, Ybaf.isAgg41, Ybaf.zeroValue41, Ybaf.underlying21, Ybaf.runUnderlying21, Ybaf.sizeOf21, Ybaf.isAgg21, Ybaf.zeroValue21, (by kernel_rfl)⟩
end Go.Proofs.YbulkfyhgFmt
