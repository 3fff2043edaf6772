/-
  No cell of these rows narrows 'for every input' (looked for: loops, veiled, ifaces, maps, wideKeys, modest, calm, conditions, laid).
  DERIVED. THE GIVEN ROWS OF THIS SEAT. 2 by the template 'for every input the law returns true; each argument reads behind the call as it read before'; 0 by the template 'total and deterministic' (their statements: YbulkbyoTotals.lean).
  GIVEN WITH THE SEED: the statements are not yours to turn. If you find one false, say at which input.
  Laid BY PROGRAM, IN A SANDBOX (cutbox-rows.mjs): the forced cells as the released guide's own fill.sh prints them over the translation 6b9b8310145ec34f… (all of the seat's roots in one cut). By AI agents, Wed Nov 11 2026. No macro, syntax, notation, axiom, sorry.
-/
import Derived.Test.YbulkbyoChecked
import GoSem.Claim
import GoSem.ClaimJoined
import GoSem.ClaimMapViews
import Derived.JoinedTies
import Derived.KernelRfl
namespace Go.Proofs.Ybulkbyo
/- THE CELL 'sum', in the pinned program and in every row, IS THE sha256 OF THE DUMP (.gsa) THAT YbulkbyoProg.lean LOADS. Nothing in Lean hashes anything: it is a label: what it is worth is what the hold of that sum in a sandbox is worth. -/
noncomputable def Yba.pinned : Pinned := { name := "ybulkbyo", sum := "6b9b8310145ec34fee6332717d79b7b59ef5316953857eee1f2c41e8fd6f9220", checked := Yba.checked }
namespace Rows
def none {H : Type} : Left H := { results := [], args := [] }

/-- 'transact.LawS0144BWrite': WHATEVER THE INPUT: true; the input reads as it did. -/
def lawS0144BWriteSpec : ChangeSpec := { name := "lawS0144BWrite", fn := fun _ => fun
  | [d1, d2, d3, d4, d5, d6, d7, d8, d9, d10, d11] => { results := [.lit (.bool true)], args := [d1, d2, d3, d4, d5, d6, d7, d8, d9, d10, d11] }
  | _ => none }
def lawS0144BWriteRow : OpenClaim := { program := "ybulkbyo", sum := "6b9b8310145ec34fee6332717d79b7b59ef5316953857eee1f2c41e8fd6f9220", func := "example.com/transact/transact.LawS0144BWrite", spec := "lawS0144BWrite", apart := false }
def LawS0144BWriteSaid : Prop := lawS0144BWriteRow.holds Yba.pinned (OpenSpec.ofChange lawS0144BWriteSpec)

/-- ITS FALSE NEIGHBOUR: 'it returns false'. Refute it at one input. -/
def lawS0144BWriteWrong : ChangeSpec := { name := "lawS0144BWrite", fn := fun _ => fun
  | [d1, d2, d3, d4, d5, d6, d7, d8, d9, d10, d11] => { results := [.lit (.bool false)], args := [d1, d2, d3, d4, d5, d6, d7, d8, d9, d10, d11] }
  | _ => none }
def LawS0144BWriteWrongFalsely : Prop := lawS0144BWriteRow.holds Yba.pinned (OpenSpec.ofChange lawS0144BWriteWrong)

/-- 'transact.LawS0144CReports': WHATEVER THE INPUT: true; the input reads as it did. -/
def lawS0144CReportsSpec : ChangeSpec := { name := "lawS0144CReports", fn := fun _ => fun
  | [d1, d2] => { results := [.lit (.bool true)], args := [d1, d2] }
  | _ => none }
def lawS0144CReportsRow : OpenClaim := { program := "ybulkbyo", sum := "6b9b8310145ec34fee6332717d79b7b59ef5316953857eee1f2c41e8fd6f9220", func := "example.com/transact/transact.LawS0144CReports", spec := "lawS0144CReports", inPlace := ["(*internal/sync.Mutex).Lock", "internal/race.Disable", "sync/atomic.CompareAndSwapInt32", "internal/race.Enable", "internal/race.Acquire", "(*internal/sync.Mutex).lockSlow", "internal/sync.runtime_canSpin", "internal/sync.runtime_doSpin", "internal/sync.throw", "internal/sync.runtime_nanotime", "internal/sync.runtime_SemacquireMutex", "sync/atomic.AddInt32", "(*internal/sync.Mutex).Unlock", "internal/race.ReleaseMerge", "(*internal/sync.Mutex).unlockSlow", "internal/sync.fatal", "internal/sync.runtime_Semrelease"], apart := false }
def LawS0144CReportsSaid : Prop := lawS0144CReportsRow.holds Yba.pinned (OpenSpec.ofChange lawS0144CReportsSpec)

/-- ITS FALSE NEIGHBOUR: 'it returns false'. Refute it at one input. -/
def lawS0144CReportsWrong : ChangeSpec := { name := "lawS0144CReports", fn := fun _ => fun
  | [d1, d2] => { results := [.lit (.bool false)], args := [d1, d2] }
  | _ => none }
def LawS0144CReportsWrongFalsely : Prop := lawS0144CReportsRow.holds Yba.pinned (OpenSpec.ofChange lawS0144CReportsWrong)

end Rows
end Go.Proofs.Ybulkbyo
