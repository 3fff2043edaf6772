/-
  The numbers under which this translation holds sync.Mutex's functions and types, and that it holds them (checked by the kernel). After the kit's own StatsLocks, typed by the prover of this seat (an AI agent).
-/
import Derived.Test.YbulkbyoFmtProg
import Derived.Conc.MuLone
import Derived.KernelRfl
namespace Go.Proofs.YbulkbyoFmt
abbrev muLink : Go.Conc.Locks.MuLink := { lock := 15, unlock := 16, ilock := 21, iunlock := 22, lockSlow := 32, unlockSlow := 35, disable := 28, enable := 30, acquire := 31, relMerge := 33, cas32 := 29, add32 := 34, tMutex := 30, tIMutex := 28, tPMutex := 71, tPIMutex := 75, tPI32 := 77, tUP := 79, tNoCopy := 25, tU32 := 26 }
theorem muLib : Go.Conc.Locks.MuLib Ybaf.prog muLink :=
  ⟨Ybaf.func15, Ybaf.func16, Ybaf.func21, Ybaf.func22, Ybaf.func28, Ybaf.func30, Ybaf.func31, Ybaf.func33, Ybaf.func29, Ybaf.func34, Ybaf.underlying28, Ybaf.runUnderlying28, Ybaf.sizeOf28, Ybaf.isAgg28, Ybaf.zeroValue28, Ybaf.underlying30, Ybaf.runUnderlying30, Ybaf.sizeOf30, Ybaf.isAgg30, Ybaf.zeroValue30, Ybaf.underlying71, Ybaf.runUnderlying71, Ybaf.sizeOf71, Ybaf.isAgg71, Ybaf.zeroValue71, Ybaf.underlying75, Ybaf.runUnderlying75, Ybaf.sizeOf75, Ybaf.isAgg75, Ybaf.zeroValue75, Ybaf.underlying77, Ybaf.runUnderlying77, Ybaf.sizeOf77, Ybaf.isAgg77, Ybaf.zeroValue77, Ybaf.underlying79, Ybaf.runUnderlying79, Ybaf.sizeOf79, Ybaf.isAgg79, Ybaf.zeroValue79, Ybaf.underlying25, Ybaf.runUnderlying25, Ybaf.sizeOf25, Ybaf.isAgg25, Ybaf.zeroValue25, Ybaf.underlying21, Ybaf.runUnderlying21, Ybaf.sizeOf21, Ybaf.isAgg21, Ybaf.zeroValue21, (by kernel_rfl)⟩
end Go.Proofs.YbulkbyoFmt
