/-
  What the two rows' frames share: the listed variables, the bytes that came in, the world that fits. Typed by the prover of this seat (an AI agent), after the worked text SentryProofs.
-/
import Derived.Test.YbulkbzcFmtCards
import Derived.Test.YbulkbzcFmtTie
import Derived.Test.YbulkbzcFmtCheck
import Derived.Test.YbulkbzcFmtOpen
import Derived.ProofKit
import Derived.OpenShut
import Derived.WalkSmall
import Derived.Stop.JoinedAt
import Derived.Stop.JoinedTold
import Derived.Stop.LaidErr
import Derived.Stop.LaidTwo
import Derived.SevenTiedAt
namespace Go.Proofs.YbulkbzcFmt
open Go.ChangeShapes Go.WideShapes Go.ChangeAt Go.RowKit Go.Kit
open Go.Extern.Stop Go.Stop Go.Extern
set_option maxRecDepth 100000

theorem own : ownKnob Ybaf.prog.godebug = none := by kernel_rfl
theorem laidOutP : laidOutB Ybaf.pinned.checked.prog = true := by kernel_rfl
theorem laidOut : laidOutB Ybaf.prog = true := by kernel_rfl
theorem stops : Ybaf.pinned.checked.prog.stops = ["fmt.errorf"] := by kernel_rfl
theorem stopKnobs : Ybaf.pinned.checked.prog.stopKnobs = [] := by kernel_rfl
theorem quiet (os : Os) : Stop.quiet Ybaf.pinned.checked.prog os := by
  intro k hk
  rw [stopKnobs] at hk
  cases hk
abbrev n0 : String := "example.com/sequor/sequor/wire.ErrFrameTooLarge"
abbrev n1 : String := "example.com/sequor/sequor/wire.ErrMalformedHeader"
theorem gl0 : Ybaf.prog.globalNamed n0 = some 0 := by kernel_rfl
theorem gl1 : Ybaf.prog.globalNamed n1 = some 1 := by kernel_rfl
theorem gt0 : (Ybaf.prog.globals[0]?).map (·.type) = some 32 := by kernel_rfl
theorem gt1 : (Ybaf.prog.globals[1]?).map (·.type) = some 32 := by kernel_rfl
theorem cells75 : Ybaf.prog.cellsOf 75 = 1 := by kernel_rfl
theorem cells9 : Ybaf.prog.cellsOf 9 = 1 := by kernel_rfl
theorem cells5 : Ybaf.prog.cellsOf 5 = 1 := by kernel_rfl
theorem star : "*" ++ "errors.errorString" = "*errors.errorString" := by decide
theorem row73 (u : TypeId) (h : Ybaf.prog.typeName? 3 u = some "*errors.errorString") : u = 73 :=
  typeName_ptr_named (nm := "errors.errorString") (by rw [star]; kernel_rfl) (by kernel_rfl) (by decide) u (by rw [star]; exact h)

abbrev largeS : ByteArray := { data := #[115, 101, 113, 117, 111, 114, 58, 32, 102, 114, 97, 109, 101, 32, 98, 111, 100, 121, 32, 116, 111, 111, 32, 108, 97, 114, 103, 101] }
abbrev malS : ByteArray := { data := #[115, 101, 113, 117, 111, 114, 58, 32, 109, 97, 108, 102, 111, 114, 109, 101, 100, 32, 102, 114, 97, 109, 101, 32, 104, 101, 97, 100, 101, 114] }
noncomputable def low : Nat := (World.holding Ybaf.prog default ⟨#[], #[], []⟩).heap.size
noncomputable def laidWorld (os : Os) : World :=
  let w0 := World.holding Ybaf.prog os ⟨#[.cells #[.string largeS] 75, .cells #[.string malS] 75], #[], []⟩
  { w0 with heap := (w0.heap.modify 0 fun
      | .cells _ t frozen => .cells #[.iface 73 (.pointer (some ⟨low, 0, none⟩))] t frozen
      | o => o).modify 1 fun
      | .cells _ t frozen => .cells #[.iface 73 (.pointer (some ⟨low + 1, 0, none⟩))] t frozen
      | o => o }
abbrev laid2 : List (String × DataW Unit) := [(n0, Rows.laid_example_com_sequor_sequor_wire_ErrFrameTooLarge), (n1, Rows.laid_example_com_sequor_sequor_wire_ErrMalformedHeader)]
theorem laid_met (os : Os) (args : Array Value) : laidMet Ybaf.prog laid2 ((laidWorld os).forCall (fun _ _ => 0) ⟨#[], args, []⟩).memory :=
  laidMet_of_run (ps := [.cell 0 0, .cell low 0, .cell 1 0, .cell (low + 1) 0]) 8 (by kernel_rfl) (by kernel_rfl) (by kernel_rfl)

/-- The bytes that came in. -/
theorem seen_of {H : Type} {enc : TypeId × Value → H} {w : World} {a : Option Addr} {len cap : Nat} {d : DataW H} {ps : List MemPlace}
    (h : DataW.Trod enc Ybaf.prog w 0 (fun _ => true) true 22 (.slice a len cap) d ps) : ∃ zs, Seen w (.slice a len cap) zs := by
  obtain ⟨hlc, _, h⟩ := LawOpen.slice_cells Ybaf.underlying22 cells5 (by omega) h
  have key : ∀ i, ∃ z : Int, i < len → ∃ b off, a = some ⟨b, off, none⟩ ∧ w.cell? ⟨b, off + i, none⟩ = some (.int .u8 z) := by
    intro i
    by_cases hi : i < len
    · obtain ⟨b, off, n, cs, y, ha, hb, hl, hc, ht⟩ := h i hi
      obtain ⟨z, rfl, _, _⟩ := DataW.trod_int Ybaf.underlying5 ht
      exact ⟨z, fun _ => ⟨b, off, ha, by simpa using hc 0 (by omega)⟩⟩
    · exact ⟨0, fun h => absurd h hi⟩
  refine ⟨(List.range len).map fun i => Classical.choose (key i), a, cap, by simp, by simpa using hlc, fun i hi => ?_⟩
  have hi' : i < len := by simpa using hi
  obtain ⟨b, off, ha, hc⟩ := Classical.choose_spec (key i) hi'
  exact ⟨b, off, ha, by rw [hc]; simp [hi']⟩

/-- What 'laid' gives. -/
theorem gl_of {W : World} (hL : laidMetH Ybaf.prog laid2 W) : ∃ a0 a1 s0 s1, Gl W.heap.size W a0 a1 s0 s1 ∧ W.var? Ybaf.prog n0 = some #[.iface 73 (.pointer (some a0))] ∧ W.var? Ybaf.prog n1 = some #[.iface 73 (.pointer (some a1))] := by
  have hL' : laidMet Ybaf.prog laid2 W := hL
  obtain ⟨a0, a1, s0, s1, c0, c1, t0, t1, hv0, hv1, hc0, hs0, hz0, hc1, hs1, hz1, hne, hb0, hb1⟩ := laid_sentinels2 hL' gl0 gt0 gl1 gt1 Ybaf.underlying32 row73 Ybaf.underlying73 Ybaf.underlying75 rfl rfl Ybaf.underlying9 cells75 cells9
  have hg0 : W.cell? ⟨0, 0, none⟩ = some (.iface 73 (.pointer (some a0))) := by simpa using World.var?_cell gl0 hv0 0
  have hg1 : W.cell? ⟨1, 0, none⟩ = some (.iface 73 (.pointer (some a1))) := by simpa using World.var?_cell gl1 hv1 0
  exact ⟨a0, a1, s0, s1, ⟨hg0, hg1, hc0, hc1, World.block_lt_of_cell? _ _ hg1, World.block_lt_of_cell? _ _ hc0, World.block_lt_of_cell? _ _ hc1⟩, hv0, hv1⟩
end Go.Proofs.YbulkbzcFmt
