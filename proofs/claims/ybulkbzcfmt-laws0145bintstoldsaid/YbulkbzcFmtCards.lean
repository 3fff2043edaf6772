/-
  DERIVED. GIVEN WITH THE SEED: THE CARDS: each row of YbulkbzcFmtRows.lean that lists a variable, with what it lists TIED to the program's text (the seventh form; the later family's looks); each row that meets fmt, with fmt's text TOLD by the authors' own Lean function (tested against real Go, not proved from fmt's source: count such statements apart). THE CARD IS WHAT COUNTS. Prove the row's statement (the work); the ties are given (YbulkbzcFmtTie.lean); close each card by the builder's one call (the guide's Derived/Test/ToyasCard.lean, 'card_holds'). Laid BY PROGRAM, IN A SANDBOX (cutbox-door.mjs). By AI agents, Wed Nov 11 2026. No macro, syntax, notation, axiom, sorry.
-/
import Derived.Test.YbulkbzcFmtRows
import GoSem.ClaimSeven
namespace Go.Proofs.YbulkbzcFmt
namespace Rows

/-- THE TOLD AND TIED CARD OF 'wire.LawS0145BExact'. -/
def lawS0145BExactCard : Claim7 := { stood := { row := lawS0145BExactRow, standIns := [], harness := (true, "e7de9cc5307d1137335556ff687ae670e62ba6c39609eabde2c8a3881f01c846"), looks := true }, told := true, laidByText := true, laidKinds := [.sentinel, .sentinel], laidTests := true, laidLooks := .later, goes := false }
def LawS0145BExactToldSaid : Prop := Claim7.holds Ybaf.pinned (.plain (OpenSpec.ofChange lawS0145BExactSpec)) lawS0145BExactCard
/-- ITS FALSE NEIGHBOUR. Refute it at one input. -/
def LawS0145BExactToldWrongFalsely : Prop := Claim7.holds Ybaf.pinned (.plain (OpenSpec.ofChange lawS0145BExactWrong)) lawS0145BExactCard

/-- THE TOLD AND TIED CARD OF 'wire.LawS0145BInts'. -/
def lawS0145BIntsCard : Claim7 := { stood := { row := lawS0145BIntsRow, standIns := [], harness := (true, "e7de9cc5307d1137335556ff687ae670e62ba6c39609eabde2c8a3881f01c846"), looks := true }, told := true, laidByText := true, laidKinds := [.sentinel, .sentinel], laidTests := true, laidLooks := .later, goes := false }
def LawS0145BIntsToldSaid : Prop := Claim7.holds Ybaf.pinned (.plain (OpenSpec.ofChange lawS0145BIntsSpec)) lawS0145BIntsCard
/-- ITS FALSE NEIGHBOUR. Refute it at one input. -/
def LawS0145BIntsToldWrongFalsely : Prop := Claim7.holds Ybaf.pinned (.plain (OpenSpec.ofChange lawS0145BIntsWrong)) lawS0145BIntsCard
end Rows
end Go.Proofs.YbulkbzcFmt
