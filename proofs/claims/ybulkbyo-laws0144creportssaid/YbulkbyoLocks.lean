/-
  The numbers under which this translation holds sync.Mutex's functions and types, and that it holds them (checked by the kernel). After the kit's own StatsLocks, typed by the prover of this seat (an AI agent).
-/
import Derived.Test.YbulkbyoProg
import Derived.Conc.MuLone
import Derived.KernelRfl
namespace Go.Proofs.Ybulkbyo
abbrev muLink : Go.Conc.Locks.MuLink := { lock := 13, unlock := 14, ilock := 17, iunlock := 18, lockSlow := 23, unlockSlow := 26, disable := 19, enable := 21, acquire := 22, relMerge := 24, cas32 := 20, add32 := 25, tMutex := 82, tIMutex := 80, tPMutex := 97, tPIMutex := 98, tPI32 := 100, tUP := 102, tNoCopy := 77, tU32 := 78 }
theorem muLib : Go.Conc.Locks.MuLib Yba.prog muLink :=
  ⟨Yba.func13, Yba.func14, Yba.func17, Yba.func18, Yba.func19, Yba.func21, Yba.func22, Yba.func24, Yba.func20, Yba.func25, Yba.underlying80, Yba.runUnderlying80, Yba.sizeOf80, Yba.isAgg80, Yba.zeroValue80, Yba.underlying82, Yba.runUnderlying82, Yba.sizeOf82, Yba.isAgg82, Yba.zeroValue82, Yba.underlying97, Yba.runUnderlying97, Yba.sizeOf97, Yba.isAgg97, Yba.zeroValue97, Yba.underlying98, Yba.runUnderlying98, Yba.sizeOf98, Yba.isAgg98, Yba.zeroValue98, Yba.underlying100, Yba.runUnderlying100, Yba.sizeOf100, Yba.isAgg100, Yba.zeroValue100, Yba.underlying102, Yba.runUnderlying102, Yba.sizeOf102, Yba.isAgg102, Yba.zeroValue102, Yba.underlying77, Yba.runUnderlying77, Yba.sizeOf77, Yba.isAgg77, Yba.zeroValue77, Yba.underlying21, Yba.runUnderlying21, Yba.sizeOf21, Yba.isAgg21, Yba.zeroValue21, (by kernel_rfl)⟩
end Go.Proofs.Ybulkbyo
