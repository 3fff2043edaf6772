/-
  No cell of these rows narrows 'for every input' (looked for: loops, veiled, ifaces, maps, wideKeys, modest, calm, conditions, laid).
  DERIVED. THE GIVEN ROWS OF THIS SEAT. 2 by the template 'for every input the law returns true; each argument reads behind the call as it read before'; 0 by the template 'total and deterministic' (their statements: YbulkbxmTotals.lean).
  GIVEN WITH THE SEED: the statements are not yours to turn. If you find one false, say at which input.
  Laid BY PROGRAM, IN A SANDBOX (cutbox-rows.mjs): the forced cells as the released guide's own fill.sh prints them over the translation 43bd5cdef4320100… (all of the seat's roots in one cut). By AI agents, Wed Nov 11 2026. No macro, syntax, notation, axiom, sorry.
-/
import Derived.Test.YbulkbxmChecked
import GoSem.Claim
import GoSem.ClaimJoined
import GoSem.ClaimMapViews
import Derived.JoinedTies
import Derived.KernelRfl
namespace Go.Proofs.Ybulkbxm
/- THE CELL 'sum', in the pinned program and in every row, IS THE sha256 OF THE DUMP (.gsa) THAT YbulkbxmProg.lean LOADS. Nothing in Lean hashes anything: it is a label: what it is worth is what the hold of that sum in a sandbox is worth. -/
noncomputable def Yba.pinned : Pinned := { name := "ybulkbxm", sum := "43bd5cdef4320100b016a3fcaad692ec8c446af94d9ad120dd70fcf07ba2d738", checked := Yba.checked }
namespace Rows
def none {H : Type} : Left H := { results := [], args := [] }

/-- 'matching.LawS0142BSortedPermutation': WHATEVER THE INPUT: true; the input reads as it did. -/
def lawS0142BSortedPermutationSpec : ChangeSpec := { name := "lawS0142BSortedPermutation", fn := fun _ => fun
  | [d] => { results := [.lit (.bool true)], args := [d] }
  | _ => none }
def lawS0142BSortedPermutationRow : OpenClaim := { program := "ybulkbxm", sum := "43bd5cdef4320100b016a3fcaad692ec8c446af94d9ad120dd70fcf07ba2d738", func := "example.com/muster/muster/pkg/matching.LawS0142BSortedPermutation", spec := "lawS0142BSortedPermutation", recurses := true, apart := false }
def LawS0142BSortedPermutationSaid : Prop := lawS0142BSortedPermutationRow.holds Yba.pinned (OpenSpec.ofChange lawS0142BSortedPermutationSpec)

/-- ITS FALSE NEIGHBOUR: 'it returns false'. Refute it at one input. -/
def lawS0142BSortedPermutationWrong : ChangeSpec := { name := "lawS0142BSortedPermutation", fn := fun _ => fun
  | [d] => { results := [.lit (.bool false)], args := [d] }
  | _ => none }
def LawS0142BSortedPermutationWrongFalsely : Prop := lawS0142BSortedPermutationRow.holds Yba.pinned (OpenSpec.ofChange lawS0142BSortedPermutationWrong)

/-- 'matching.LawS0142BSmallest': WHATEVER THE INPUT: true; the input reads as it did. -/
def lawS0142BSmallestSpec : ChangeSpec := { name := "lawS0142BSmallest", fn := fun _ => fun
  | [d] => { results := [.lit (.bool true)], args := [d] }
  | _ => none }
def lawS0142BSmallestRow : OpenClaim := { program := "ybulkbxm", sum := "43bd5cdef4320100b016a3fcaad692ec8c446af94d9ad120dd70fcf07ba2d738", func := "example.com/muster/muster/pkg/matching.LawS0142BSmallest", spec := "lawS0142BSmallest", recurses := true, apart := false }
def LawS0142BSmallestSaid : Prop := lawS0142BSmallestRow.holds Yba.pinned (OpenSpec.ofChange lawS0142BSmallestSpec)

/-- ITS FALSE NEIGHBOUR: 'it returns false'. Refute it at one input. -/
def lawS0142BSmallestWrong : ChangeSpec := { name := "lawS0142BSmallest", fn := fun _ => fun
  | [d] => { results := [.lit (.bool false)], args := [d] }
  | _ => none }
def LawS0142BSmallestWrongFalsely : Prop := lawS0142BSmallestRow.holds Yba.pinned (OpenSpec.ofChange lawS0142BSmallestWrong)

end Rows
end Go.Proofs.Ybulkbxm
