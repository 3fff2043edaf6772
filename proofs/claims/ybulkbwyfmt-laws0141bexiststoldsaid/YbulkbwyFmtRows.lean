/-
  No cell of these rows narrows 'for every input' (looked for: loops, veiled, ifaces, maps, wideKeys, modest, calm, conditions, laid).
  DERIVED. THE GIVEN ROWS OF THIS SEAT. 2 by the template 'for every input the law returns true; each argument reads behind the call as it read before'; 0 by the template 'total and deterministic' (their statements: YbulkbwyFmtTotals.lean).
  GIVEN WITH THE SEED: the statements are not yours to turn. If you find one false, say at which input.
  Laid BY PROGRAM, IN A SANDBOX (cutbox-rows.mjs): the forced cells as the released guide's own fill.sh prints them over the translation 96d67f37c479b927… (all of the seat's roots in one cut). By AI agents, Wed Nov 11 2026. No macro, syntax, notation, axiom, sorry.
-/
import Derived.Test.YbulkbwyFmtChecked
import GoSem.Claim
import GoSem.ClaimJoined
import GoSem.ClaimMapViews
import Derived.JoinedTies
import Derived.KernelRfl
namespace Go.Proofs.YbulkbwyFmt
/- THE CELL 'sum', in the pinned program and in every row, IS THE sha256 OF THE DUMP (.gsa) THAT YbulkbwyFmtProg.lean LOADS. Nothing in Lean hashes anything: it is a label: what it is worth is what the hold of that sum in a sandbox is worth. -/
noncomputable def Ybaf.pinned : Pinned := { name := "ybulkbwyfmt", sum := "96d67f37c479b9270096f0f41ab9b329d4743af60609ed5f59c2bf9112575dd4", checked := Ybaf.checked }
namespace Rows
def none {H : Type} : Left H := { results := [], args := [] }

/-- 'store.LawS0141BExists': WHATEVER THE INPUT: true; the input reads as it did. -/
def lawS0141BExistsSpec : ChangeSpec := { name := "lawS0141BExists", fn := fun _ => fun
  | [d1, d2, d3, d4, d5, d6] => { results := [.lit (.bool true)], args := [d1, d2, d3, d4, d5, d6] }
  | _ => none }
def lawS0141BExistsRow : OpenClaim := { program := "ybulkbwyfmt", sum := "96d67f37c479b9270096f0f41ab9b329d4743af60609ed5f59c2bf9112575dd4", func := "example.com/willenhall/willenhall/internal/store.LawS0141BExists", spec := "lawS0141BExists", stops := ["fmt.errorf"], inPlace := ["fmt.errorf"], unfollowed := true, recurses := true, plainKeys := false, apart := false }
/-- NO THEOREM (fmt's text is open here; it may be false): for the released tool's asking of the row's closed facts alone. THE STATEMENT IS 'LawS0141BExistsToldSaid' (YbulkbwyFmtCards.lean). -/
def LawS0141BExistsFormAsk : Prop := lawS0141BExistsRow.holds Ybaf.pinned (OpenSpec.ofChange lawS0141BExistsSpec)

/-- ITS FALSE NEIGHBOUR: 'it returns false'. Refute it at one input. -/
def lawS0141BExistsWrong : ChangeSpec := { name := "lawS0141BExists", fn := fun _ => fun
  | [d1, d2, d3, d4, d5, d6] => { results := [.lit (.bool false)], args := [d1, d2, d3, d4, d5, d6] }
  | _ => none }
def LawS0141BExistsWrongFormAsk : Prop := lawS0141BExistsRow.holds Ybaf.pinned (OpenSpec.ofChange lawS0141BExistsWrong)

/-- 'store.LawS0141BAfterApply': WHATEVER THE INPUT: true; the input reads as it did. -/
def lawS0141BAfterApplySpec : ChangeSpec := { name := "lawS0141BAfterApply", fn := fun _ => fun
  | [d1, d2, d3, d4] => { results := [.lit (.bool true)], args := [d1, d2, d3, d4] }
  | _ => none }
def lawS0141BAfterApplyRow : OpenClaim := { program := "ybulkbwyfmt", sum := "96d67f37c479b9270096f0f41ab9b329d4743af60609ed5f59c2bf9112575dd4", func := "example.com/willenhall/willenhall/internal/store.LawS0141BAfterApply", spec := "lawS0141BAfterApply", stops := ["fmt.errorf"], inPlace := ["fmt.errorf"], unfollowed := true, recurses := true, plainKeys := false, apart := false }
/-- NO THEOREM (fmt's text is open here; it may be false): for the released tool's asking of the row's closed facts alone. THE STATEMENT IS 'LawS0141BAfterApplyToldSaid' (YbulkbwyFmtCards.lean). -/
def LawS0141BAfterApplyFormAsk : Prop := lawS0141BAfterApplyRow.holds Ybaf.pinned (OpenSpec.ofChange lawS0141BAfterApplySpec)

/-- ITS FALSE NEIGHBOUR: 'it returns false'. Refute it at one input. -/
def lawS0141BAfterApplyWrong : ChangeSpec := { name := "lawS0141BAfterApply", fn := fun _ => fun
  | [d1, d2, d3, d4] => { results := [.lit (.bool false)], args := [d1, d2, d3, d4] }
  | _ => none }
def LawS0141BAfterApplyWrongFormAsk : Prop := lawS0141BAfterApplyRow.holds Ybaf.pinned (OpenSpec.ofChange lawS0141BAfterApplyWrong)

end Rows
end Go.Proofs.YbulkbwyFmt
