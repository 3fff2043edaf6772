/-
  NARROWER THAN 'FOR EVERY INPUT', by the rows' own cells (each row's printed sentence says how): LawS0145BExact: ifaces, laid · LawS0145BInts: ifaces, laid.
  DERIVED. THE GIVEN ROWS OF THIS SEAT. 2 by the template 'for every input the law returns true; each argument reads behind the call as it read before'; 0 by the template 'total and deterministic' (their statements: YbulkbzcFmtTotals.lean).
  GIVEN WITH THE SEED: the statements are not yours to turn. If you find one false, say at which input.
  Laid BY PROGRAM, IN A SANDBOX (cutbox-rows.mjs): the forced cells as the released guide's own fill.sh prints them over the translation afda9cc2471d2e89… (all of the seat's roots in one cut). By AI agents, Wed Nov 11 2026. No macro, syntax, notation, axiom, sorry.
-/
import Derived.Test.YbulkbzcFmtChecked
import GoSem.Claim
import GoSem.ClaimJoined
import GoSem.ClaimMapViews
import Derived.JoinedTies
import Derived.KernelRfl
namespace Go.Proofs.YbulkbzcFmt
/- THE CELL 'sum', in the pinned program and in every row, IS THE sha256 OF THE DUMP (.gsa) THAT YbulkbzcFmtProg.lean LOADS. Nothing in Lean hashes anything: it is a label: what it is worth is what the hold of that sum in a sandbox is worth. -/
noncomputable def Ybaf.pinned : Pinned := { name := "ybulkbzcfmt", sum := "afda9cc2471d2e89a6964017a27067aef21981f193826e9c3b4d678e6307a039", checked := Ybaf.checked }
namespace Rows
def none {H : Type} : Left H := { results := [], args := [] }

/- WHAT THE LISTED PACKAGE-LEVEL VARIABLES READ AS WHEN THE CALL BEGINS. Each datum BY PROGRAM (the guide's laid-datum.mjs) off the statement by which the dump's own 'gosem.cut.vars' lays the variable. In a bare row this is a premise. The card (YbulkbzcFmtCards.lean) ties it to the program's text. -/
def laid_example_com_sequor_sequor_wire_ErrFrameTooLarge {H : Type} : DataW H := .iface "*errors.errorString" (.ptr (.agg [.lit (.string [115, 101, 113, 117, 111, 114, 58, 32, 102, 114, 97, 109, 101, 32, 98, 111, 100, 121, 32, 116, 111, 111, 32, 108, 97, 114, 103, 101])]))
def laid_example_com_sequor_sequor_wire_ErrMalformedHeader {H : Type} : DataW H := .iface "*errors.errorString" (.ptr (.agg [.lit (.string [115, 101, 113, 117, 111, 114, 58, 32, 109, 97, 108, 102, 111, 114, 109, 101, 100, 32, 102, 114, 97, 109, 101, 32, 104, 101, 97, 100, 101, 114])]))

/-- 'wire.LawS0145BExact': WHATEVER THE INPUT: true; the input reads as it did. -/
def lawS0145BExactSpec : ChangeSpec := { name := "lawS0145BExact", vars := ["example.com/sequor/sequor/wire.ErrFrameTooLarge", "example.com/sequor/sequor/wire.ErrMalformedHeader"], fn := fun _ => fun
  | [d1, d2, d3, d4, d5, d6, d7, d8, d9, d10, d11, d12, g1, g2] => { results := [.lit (.bool true)], args := [d1, d2, d3, d4, d5, d6, d7, d8, d9, d10, d11, d12], vars := [g1, g2] }
  | _ => none }
def lawS0145BExactRow : OpenClaim := { program := "ybulkbzcfmt", sum := "afda9cc2471d2e89a6964017a27067aef21981f193826e9c3b4d678e6307a039", func := "example.com/sequor/sequor/wire.LawS0145BExact", spec := "lawS0145BExact", stops := ["fmt.errorf"], inPlace := ["fmt.errorf", "internal/reflectlite.TypeOf"], unfollowed := true, recurses := true, named := ["example.com/sequor/sequor/wire.ErrFrameTooLarge", "example.com/sequor/sequor/wire.ErrMalformedHeader", "encoding/binary.BigEndian"], ifaces := true, apart := false, laid := [("example.com/sequor/sequor/wire.ErrFrameTooLarge", laid_example_com_sequor_sequor_wire_ErrFrameTooLarge), ("example.com/sequor/sequor/wire.ErrMalformedHeader", laid_example_com_sequor_sequor_wire_ErrMalformedHeader)] }
/-- NO THEOREM (fmt's text is open here; it may be false): for the released tool's asking of the row's closed facts alone. THE STATEMENT IS 'LawS0145BExactToldSaid' (YbulkbzcFmtCards.lean). -/
def LawS0145BExactFormAsk : Prop := lawS0145BExactRow.holds Ybaf.pinned (OpenSpec.ofChange lawS0145BExactSpec)

/-- ITS FALSE NEIGHBOUR: 'it returns false'. Refute it at one input. -/
def lawS0145BExactWrong : ChangeSpec := { name := "lawS0145BExact", vars := ["example.com/sequor/sequor/wire.ErrFrameTooLarge", "example.com/sequor/sequor/wire.ErrMalformedHeader"], fn := fun _ => fun
  | [d1, d2, d3, d4, d5, d6, d7, d8, d9, d10, d11, d12, g1, g2] => { results := [.lit (.bool false)], args := [d1, d2, d3, d4, d5, d6, d7, d8, d9, d10, d11, d12], vars := [g1, g2] }
  | _ => none }
def LawS0145BExactWrongFormAsk : Prop := lawS0145BExactRow.holds Ybaf.pinned (OpenSpec.ofChange lawS0145BExactWrong)

/-- 'wire.LawS0145BInts': WHATEVER THE INPUT: true; the input reads as it did. -/
def lawS0145BIntsSpec : ChangeSpec := { name := "lawS0145BInts", vars := ["example.com/sequor/sequor/wire.ErrMalformedHeader", "example.com/sequor/sequor/wire.ErrFrameTooLarge"], fn := fun _ => fun
  | [d1, d2, d3, d4, d5, d6, g1, g2] => { results := [.lit (.bool true)], args := [d1, d2, d3, d4, d5, d6], vars := [g1, g2] }
  | _ => none }
def lawS0145BIntsRow : OpenClaim := { program := "ybulkbzcfmt", sum := "afda9cc2471d2e89a6964017a27067aef21981f193826e9c3b4d678e6307a039", func := "example.com/sequor/sequor/wire.LawS0145BInts", spec := "lawS0145BInts", stops := ["fmt.errorf"], inPlace := ["fmt.errorf", "internal/reflectlite.TypeOf"], unfollowed := true, recurses := true, named := ["example.com/sequor/sequor/wire.ErrMalformedHeader", "example.com/sequor/sequor/wire.ErrFrameTooLarge", "encoding/binary.BigEndian"], ifaces := true, apart := false, laid := [("example.com/sequor/sequor/wire.ErrFrameTooLarge", laid_example_com_sequor_sequor_wire_ErrFrameTooLarge), ("example.com/sequor/sequor/wire.ErrMalformedHeader", laid_example_com_sequor_sequor_wire_ErrMalformedHeader)] }
/-- NO THEOREM (fmt's text is open here; it may be false): for the released tool's asking of the row's closed facts alone. THE STATEMENT IS 'LawS0145BIntsToldSaid' (YbulkbzcFmtCards.lean). -/
def LawS0145BIntsFormAsk : Prop := lawS0145BIntsRow.holds Ybaf.pinned (OpenSpec.ofChange lawS0145BIntsSpec)

/-- ITS FALSE NEIGHBOUR: 'it returns false'. Refute it at one input. -/
def lawS0145BIntsWrong : ChangeSpec := { name := "lawS0145BInts", vars := ["example.com/sequor/sequor/wire.ErrMalformedHeader", "example.com/sequor/sequor/wire.ErrFrameTooLarge"], fn := fun _ => fun
  | [d1, d2, d3, d4, d5, d6, g1, g2] => { results := [.lit (.bool false)], args := [d1, d2, d3, d4, d5, d6], vars := [g1, g2] }
  | _ => none }
def LawS0145BIntsWrongFormAsk : Prop := lawS0145BIntsRow.holds Ybaf.pinned (OpenSpec.ofChange lawS0145BIntsWrong)

end Rows
end Go.Proofs.YbulkbzcFmt
