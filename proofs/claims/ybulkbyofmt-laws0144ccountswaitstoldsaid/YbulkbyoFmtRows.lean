/-
  NARROWER THAN 'FOR EVERY INPUT', by the rows' own cells (each row's printed sentence says how): LawS0144CCountsWaits: ifaces, laid.
  DERIVED. THE GIVEN ROWS OF THIS SEAT. 1 by the template 'for every input the law returns true; each argument reads behind the call as it read before'; 0 by the template 'total and deterministic' (their statements: YbulkbyoFmtTotals.lean).
  GIVEN WITH THE SEED: the statements are not yours to turn. If you find one false, say at which input.
  Laid BY PROGRAM, IN A SANDBOX (cutbox-rows.mjs): the forced cells as the released guide's own fill.sh prints them over the translation 4acd9de352bc5890… (all of the seat's roots in one cut). By AI agents, Wed Nov 11 2026. No macro, syntax, notation, axiom, sorry.
-/
import Derived.Test.YbulkbyoFmtChecked
import GoSem.Claim
import GoSem.ClaimJoined
import GoSem.ClaimMapViews
import Derived.JoinedTies
import Derived.KernelRfl
namespace Go.Proofs.YbulkbyoFmt
/- THE CELL 'sum', in the pinned program and in every row, IS THE sha256 OF THE DUMP (.gsa) THAT YbulkbyoFmtProg.lean LOADS. Nothing in Lean hashes anything: it is a label: what it is worth is what the hold of that sum in a sandbox is worth. -/
noncomputable def Ybaf.pinned : Pinned := { name := "ybulkbyofmt", sum := "4acd9de352bc5890b119ba0aa67735dde55f664988f2040646dcef354885231d", checked := Ybaf.checked }
namespace Rows
def none {H : Type} : Left H := { results := [], args := [] }

/- WHAT THE LISTED PACKAGE-LEVEL VARIABLES READ AS WHEN THE CALL BEGINS. Each datum BY PROGRAM (the guide's laid-datum.mjs) off the statement by which the dump's own 'gosem.cut.vars' lays the variable. In a bare row this is a premise. The card (YbulkbyoFmtCards.lean) ties it to the program's text. -/
def laid_example_com_transact_transact_ErrLockTimeout {H : Type} : DataW H := .iface "*errors.errorString" (.ptr (.agg [.lit (.string [116, 114, 97, 110, 115, 97, 99, 116, 58, 32, 108, 111, 99, 107, 32, 119, 97, 105, 116, 32, 116, 105, 109, 101, 111, 117, 116])]))
def laid_example_com_transact_transact_ErrDeadlock {H : Type} : DataW H := .iface "*errors.errorString" (.ptr (.agg [.lit (.string [116, 114, 97, 110, 115, 97, 99, 116, 58, 32, 100, 101, 97, 100, 108, 111, 99, 107])]))
def laid_example_com_transact_transact_ErrClosed {H : Type} : DataW H := .iface "*errors.errorString" (.ptr (.agg [.lit (.string [116, 114, 97, 110, 115, 97, 99, 116, 58, 32, 115, 116, 111, 114, 101, 32, 99, 108, 111, 115, 101, 100])]))

/-- 'transact.LawS0144CCountsWaits': WHATEVER THE INPUT: true; the input reads as it did. -/
def lawS0144CCountsWaitsSpec : ChangeSpec := { name := "lawS0144CCountsWaits", vars := ["example.com/transact/transact.ErrClosed", "example.com/transact/transact.ErrLockTimeout", "example.com/transact/transact.ErrDeadlock"], fn := fun _ => fun
  | [d1, d2, d3, d4, g1, g2, g3] => { results := [.lit (.bool true)], args := [d1, d2, d3, d4], vars := [g1, g2, g3] }
  | _ => none }
def lawS0144CCountsWaitsRow : OpenClaim := { program := "ybulkbyofmt", sum := "4acd9de352bc5890b119ba0aa67735dde55f664988f2040646dcef354885231d", func := "example.com/transact/transact.LawS0144CCountsWaits", spec := "lawS0144CCountsWaits", stops := ["fmt.errorf, its operands' methods called"], inPlace := ["sync/atomic.AddUint64", "fmt.errorf", "(*internal/sync.Mutex).Lock", "internal/race.Disable", "sync/atomic.CompareAndSwapInt32", "internal/race.Enable", "internal/race.Acquire", "(*internal/sync.Mutex).lockSlow", "internal/sync.runtime_canSpin", "internal/sync.runtime_doSpin", "internal/sync.throw", "internal/sync.runtime_nanotime", "internal/sync.runtime_SemacquireMutex", "sync/atomic.AddInt32", "(*internal/sync.Mutex).Unlock", "internal/race.ReleaseMerge", "(*internal/sync.Mutex).unlockSlow", "internal/sync.fatal", "internal/sync.runtime_Semrelease"], unfollowed := true, recurses := true, named := ["example.com/transact/transact.ErrClosed", "example.com/transact/transact.ErrLockTimeout", "example.com/transact/transact.ErrDeadlock"], ifaces := true, apart := false, laid := [("example.com/transact/transact.ErrLockTimeout", laid_example_com_transact_transact_ErrLockTimeout), ("example.com/transact/transact.ErrDeadlock", laid_example_com_transact_transact_ErrDeadlock), ("example.com/transact/transact.ErrClosed", laid_example_com_transact_transact_ErrClosed)] }
/-- NO THEOREM (fmt's text is open here; it may be false): for the released tool's asking of the row's closed facts alone. THE STATEMENT IS 'LawS0144CCountsWaitsToldSaid' (YbulkbyoFmtCards.lean). -/
def LawS0144CCountsWaitsFormAsk : Prop := lawS0144CCountsWaitsRow.holds Ybaf.pinned (OpenSpec.ofChange lawS0144CCountsWaitsSpec)

/-- ITS FALSE NEIGHBOUR: 'it returns false'. Refute it at one input. -/
def lawS0144CCountsWaitsWrong : ChangeSpec := { name := "lawS0144CCountsWaits", vars := ["example.com/transact/transact.ErrClosed", "example.com/transact/transact.ErrLockTimeout", "example.com/transact/transact.ErrDeadlock"], fn := fun _ => fun
  | [d1, d2, d3, d4, g1, g2, g3] => { results := [.lit (.bool false)], args := [d1, d2, d3, d4], vars := [g1, g2, g3] }
  | _ => none }
def LawS0144CCountsWaitsWrongFormAsk : Prop := lawS0144CCountsWaitsRow.holds Ybaf.pinned (OpenSpec.ofChange lawS0144CCountsWaitsWrong)

end Rows
end Go.Proofs.YbulkbyoFmt
