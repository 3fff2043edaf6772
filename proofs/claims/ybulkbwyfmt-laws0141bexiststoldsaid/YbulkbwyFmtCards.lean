/-
  DERIVED. GIVEN WITH THE SEED: THE CARDS: each row of YbulkbwyFmtRows.lean that lists a variable, with what it lists TIED to the program's text (the seventh form; the later family's looks); each row that meets fmt, with fmt's text TOLD by the authors' own Lean function (tested against real Go, not proved from fmt's source: count such statements apart). THE CARD IS WHAT COUNTS. Prove the row's statement (the work); the ties are given (YbulkbwyFmtTie.lean); close each card by the builder's one call (the guide's Derived/Test/ToyasCard.lean, 'card_holds'). Laid BY PROGRAM, IN A SANDBOX (cutbox-door.mjs). By AI agents, Wed Nov 11 2026. No macro, syntax, notation, axiom, sorry.
-/
import Derived.Test.YbulkbwyFmtRows
import GoSem.ClaimSeven
namespace Go.Proofs.YbulkbwyFmt
namespace Rows

/-- THE TOLD CARD OF 'store.LawS0141BExists'. -/
def lawS0141BExistsCard : Claim7 := { stood := { row := lawS0141BExistsRow, standIns := [], harness := (true, "2dd22aee6255291115fd08d97656a730e09bbd698e7716e741d62b4406feba29"), looks := false }, told := true, goes := false }
def LawS0141BExistsToldSaid : Prop := Claim7.holds Ybaf.pinned (.plain (OpenSpec.ofChange lawS0141BExistsSpec)) lawS0141BExistsCard
/-- ITS FALSE NEIGHBOUR. Refute it at one input. -/
def LawS0141BExistsToldWrongFalsely : Prop := Claim7.holds Ybaf.pinned (.plain (OpenSpec.ofChange lawS0141BExistsWrong)) lawS0141BExistsCard

/-- THE TOLD CARD OF 'store.LawS0141BAfterApply'. -/
def lawS0141BAfterApplyCard : Claim7 := { stood := { row := lawS0141BAfterApplyRow, standIns := [], harness := (true, "2dd22aee6255291115fd08d97656a730e09bbd698e7716e741d62b4406feba29"), looks := false }, told := true, goes := false }
def LawS0141BAfterApplyToldSaid : Prop := Claim7.holds Ybaf.pinned (.plain (OpenSpec.ofChange lawS0141BAfterApplySpec)) lawS0141BAfterApplyCard
/-- ITS FALSE NEIGHBOUR. Refute it at one input. -/
def LawS0141BAfterApplyToldWrongFalsely : Prop := Claim7.holds Ybaf.pinned (.plain (OpenSpec.ofChange lawS0141BAfterApplyWrong)) lawS0141BAfterApplyCard
end Rows
end Go.Proofs.YbulkbwyFmt
