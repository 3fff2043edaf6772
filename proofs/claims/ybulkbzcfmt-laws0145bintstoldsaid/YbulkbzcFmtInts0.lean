/-
  'LawS0145BInts': what its ways share. Typed by the prover of this seat (an AI agent).
-/
import Derived.Test.YbulkbzcFmtStreamAll
import Derived.Test.YbulkbzcFmtCopy
namespace Go.Proofs.YbulkbzcFmt
open Go.RowKit Go.Extern.Stop Go.Stop Go.Extern
set_option maxRecDepth 100000

set_option maxHeartbeats 1000000 in
theorem ints_long (a : Option Addr) (n c : Nat) (v1 v2 v3 v4 v5 : Value) (w : World) (h : 1024 < n) :
    Calls Ybaf.prog 4 #[.slice a n c, v1, v2, v3, v4, v5] w fun e w' => e = .returned (.bool true) ∧ Below w.heap.size w w' := by
  have h' : (1024 : Int) < (n : Int) := by omega
  go_enter Ybaf.func4, Ybaf.ntmps4
  go_wp2
  go_ret
  exact ⟨rfl, Below.refl _ _⟩
end Go.Proofs.YbulkbzcFmt
