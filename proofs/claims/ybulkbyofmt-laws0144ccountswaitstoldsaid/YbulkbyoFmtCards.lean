/-
  DERIVED. GIVEN WITH THE SEED: THE CARDS: each row of YbulkbyoFmtRows.lean that lists a variable, with what it lists TIED to the program's text (the seventh form; the later family's looks); each row that meets fmt, with fmt's text TOLD by the authors' own Lean function (tested against real Go, not proved from fmt's source: count such statements apart). THE CARD IS WHAT COUNTS. Prove the row's statement (the work); the ties are given (YbulkbyoFmtTie.lean); close each card by the builder's one call (the guide's Derived/Test/ToyasCard.lean, 'card_holds'). Laid BY PROGRAM, IN A SANDBOX (cutbox-door.mjs). By AI agents, Wed Nov 11 2026. No macro, syntax, notation, axiom, sorry.
-/
import Derived.Test.YbulkbyoFmtRows
import GoSem.ClaimSeven
namespace Go.Proofs.YbulkbyoFmt
namespace Rows

/-- THE TOLD AND TIED CARD OF 'transact.LawS0144CCountsWaits'. -/
def lawS0144CCountsWaitsCard : Claim7 := { stood := { row := lawS0144CCountsWaitsRow, standIns := [], harness := (true, "f95c42d641b1afa3591ebfb1cc84979e6ef7e589f0cef00feabf6bc42a5da861"), looks := false }, told := true, laidByText := true, laidKinds := [.sentinel, .sentinel, .sentinel], laidTests := true, laidLooks := .later, goes := false }
def LawS0144CCountsWaitsToldSaid : Prop := Claim7.holds Ybaf.pinned (.plain (OpenSpec.ofChange lawS0144CCountsWaitsSpec)) lawS0144CCountsWaitsCard
/-- ITS FALSE NEIGHBOUR. Refute it at one input. -/
def LawS0144CCountsWaitsToldWrongFalsely : Prop := Claim7.holds Ybaf.pinned (.plain (OpenSpec.ofChange lawS0144CCountsWaitsWrong)) lawS0144CCountsWaitsCard
end Rows
end Go.Proofs.YbulkbyoFmt
