/-
  What the walks are told of '[][]int', out of the form's own reading. Typed by the prover of this seat (an AI agent).
-/
import Derived.Test.YbulkbxmRows
import Derived.Test.YbulkbxmSorted
import Derived.Test.YbulkbxmOpen
import Derived.ProofKit
import Derived.OpenShut
namespace Go.Proofs.Ybulkbxm
open Go.ChangeShapes Go.WideShapes Go.ChangeAt Go.RowKit

theorem own : ownKnob Yba.prog.godebug = none := by kernel_rfl
theorem cells23 : Yba.prog.cellsOf 23 = 1 := by kernel_rfl
theorem cells3 : Yba.prog.cellsOf 3 = 1 := by kernel_rfl

theorem one {α : Type} : ∀ l : List α, l.length = 1 → ∃ a, l = [a]
  | [a], _ => ⟨a, rfl⟩

theorem ints_of {H : Type} {enc : TypeId × Value → H} {w : World} {a : Option Addr} {len cap : Nat} {d : DataW H} {ps : List MemPlace}
    (h : DataW.Trod enc Yba.prog w 0 (fun _ => true) true 23 (.slice a len cap) d ps) :
    ∃ l : List Int, l.length = len ∧ ∀ j, j < len → ∃ b off, a = some ⟨b, off, none⟩ ∧ b < w.heap.size ∧ w.cell? ⟨b, off + j, none⟩ = some (.int .i64 (l.getD j 0)) := by
  obtain ⟨_, _, h⟩ := LawOpen.slice_cells Yba.underlying23 cells3 (by omega) h
  have key : ∀ j, ∃ x : Int, j < len → ∃ b off, a = some ⟨b, off, none⟩ ∧ b < w.heap.size ∧ w.cell? ⟨b, off + j, none⟩ = some (.int .i64 x) := by
    intro j
    by_cases hj : j < len
    · obtain ⟨b, off, n, cs, y, ha, hb, hl, hc, ht⟩ := h j hj
      obtain ⟨x, rfl, _, _⟩ := DataW.trod_int Yba.underlying3 ht
      exact ⟨x, fun _ => ⟨b, off, ha, hb, by simpa using hc 0 (by omega)⟩⟩
    · exact ⟨0, fun h' => absurd h' hj⟩
  refine ⟨(List.range len).map fun j => Classical.choose (key j), by simp, fun j hj => ?_⟩
  have := Classical.choose_spec (key j) hj
  simpa [List.getD, hj] using this

theorem groups_of {H : Type} {enc : TypeId × Value → H} {w : World} {a : Option Addr} {len cap : Nat} {d : DataW H} {ps : List MemPlace}
    (h : DataW.Trod enc Yba.prog w 0 (fun _ => true) true 22 (.slice a len cap) d ps) : ∃ ga gc g, IsGroups w a len ga gc g := by
  obtain ⟨_, _, h⟩ := LawOpen.slice_cells Yba.underlying22 cells23 (by omega) h
  have key : ∀ i, ∃ q : Option Addr × Nat × List Int, i < len → (∃ b off, a = some ⟨b, off, none⟩ ∧ b < w.heap.size ∧ w.cell? ⟨b, off + i, none⟩ = some (.slice q.1 q.2.2.length q.2.1)) ∧
      (q.1 = none → q.2.2 = [] ∧ q.2.1 = 0) ∧ ∀ j, j < q.2.2.length → ∃ b off, q.1 = some ⟨b, off, none⟩ ∧ b < w.heap.size ∧ w.cell? ⟨b, off + j, none⟩ = some (.int .i64 (q.2.2.getD j 0)) := by
    intro i
    by_cases hi : i < len
    · obtain ⟨b, off, n, cs, y, ha, hb, hl, hc, ht⟩ := h i hi
      have hcell : w.cell? ⟨b, off + i, none⟩ = cs[0]? := by simpa using hc 0 (by omega)
      rcases Deep.open_slice Yba.underlying23 ht with ⟨rfl, _⟩ | ⟨x, l, c, m', n', D, Pl, rfl, _⟩
      · exact ⟨(none, 0, []), fun _ => ⟨⟨b, off, ha, hb, by simpa using hcell⟩, fun _ => ⟨rfl, rfl⟩, fun j hj => absurd hj (by simp)⟩⟩
      · obtain ⟨zs, hzl, hz⟩ := ints_of (a := some x) (len := l) (cap := c) (d := y.1) (ps := y.2) ⟨n, by simpa [Value.cells] using ht⟩
        refine ⟨(some x, c, zs), fun _ => ⟨⟨b, off, ha, hb, by rw [hcell]; simp [hzl]⟩, (fun e => by cases e), fun j hj => ?_⟩⟩
        exact hz j (by rw [← hzl]; exact hj)
    · exact ⟨(none, 0, []), fun h' => absurd h' hi⟩
  exact ⟨fun i => (Classical.choose (key i)).1, fun i => (Classical.choose (key i)).2.1, fun i => (Classical.choose (key i)).2.2, fun i hi => Classical.choose_spec (key i) hi⟩

theorem walk4 (a : Option Addr) (l c : Nat) (ga : Nat → Option Addr) (gc : Nat → Nat) (g : Nat → List Int) (w : World) (hI : IsGroups w a l ga gc g) :
    Calls Yba.prog 4 #[.slice a l c] w fun e w' => e = .returned (.bool true) ∧ Below w.heap.size w w' := by
  by_cases h : (1024 : Int) < l
  · exact smallest_long a l c w h
  · exact smallest_any a l c ga gc g w hI (by omega)

theorem walk3 (a : Option Addr) (l c : Nat) (ga : Nat → Option Addr) (gc : Nat → Nat) (g : Nat → List Int) (w : World) (hI : IsGroups w a l ga gc g) :
    Calls Yba.prog 3 #[.slice a l c] w fun e w' => e = .returned (.bool true) ∧ Below w.heap.size w w' := by
  by_cases h : (1024 : Int) < l
  · exact sorted_long a l c w h
  · exact sorted_any a l c ga gc g w hI (by omega)
end Go.Proofs.Ybulkbxm
