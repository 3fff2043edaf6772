/-
  binary.BigEndian's readers, as numbers. Typed by the prover of this seat (an AI agent).
-/
import Derived.Test.YbulkbzcFmtShelf
import Derived.Test.YbulkbzcFmtHead0
namespace Go.Proofs.YbulkbzcFmt
open Go.RowKit
set_option maxRecDepth 100000

/-- Bytes in memory. -/
def At (w : World) (g o : Nat) (zs : List Int) : Prop := (∀ i, i < zs.length → w.cell? ⟨g, o + i, none⟩ = some (.int .u8 (zs.getD i 0))) ∧ ∀ z ∈ zs, 0 ≤ z ∧ z ≤ 255

theorem At.below {w w' : World} {g o : Nat} {zs : List Int} (h : At w g o zs) (hb : Below w.heap.size w w') : At w' g o zs :=
  ⟨fun i hi => by rw [hb.cell (World.block_lt_of_cell? w _ (h.1 i hi))]; exact h.1 i hi, h.2⟩

theorem wf8 {z : Int} (h : 0 ≤ z ∧ z ≤ 255) : (Lit.int .u8 z).wf = true := by
  simp [Lit.wf, IntKind.min, IntKind.max, IntKind.signed, IntKind.bits]; omega

theorem rd16 (g o n c : Nat) (x y : Int) (w : World) (hn : 2 ≤ n) (h : At w g o [x, y]) :
    Calls Ybaf.prog 17 #[.agg #[], .slice (some ⟨g, o, none⟩) n c] w fun e w' => e = .returned (.int .u16 (x * 256 + y)) ∧ Below w.heap.size w w' := by
  have := Ybaf.binary_BE_Uint16_z ⟨g, o, none⟩ n c [x, y] w hn (by simp) (fun i hi => by rw [WideShapes.add_plain]; exact h.1 i hi) (fun z hz => wf8 (h.2 z hz))
  have e : Lib.beZ ([x, y].take 2) = x * 256 + y := by simp [Lib.beZ, Lib.beFromZ]
  rw [e] at this
  exact this

theorem rd32 (g o n c : Nat) (a b x y : Int) (w : World) (hn : 4 ≤ n) (h : At w g o [a, b, x, y]) :
    Calls Ybaf.prog 18 #[.agg #[], .slice (some ⟨g, o, none⟩) n c] w fun e w' => e = .returned (.int .u32 (((a * 256 + b) * 256 + x) * 256 + y)) ∧ Below w.heap.size w w' := by
  have := Ybaf.binary_BE_Uint32_z ⟨g, o, none⟩ n c [a, b, x, y] w hn (by simp) (fun i hi => by rw [WideShapes.add_plain]; exact h.1 i hi) (fun z hz => wf8 (h.2 z hz))
  have e : Lib.beZ ([a, b, x, y].take 4) = ((a * 256 + b) * 256 + x) * 256 + y := by simp [Lib.beZ, Lib.beFromZ]
  rw [e] at this
  exact this

theorem rd64 (g o n c : Nat) (a b x y p q r s : Int) (hn : 8 ≤ n) :
    ∃ K, ∀ w, At w g o [a, b, x, y, p, q, r, s] → Calls Ybaf.prog 19 #[.agg #[], .slice (some ⟨g, o, none⟩) n c] w fun e w' => e = .returned (.int .u64 K) ∧ Below w.heap.size w w' :=
  ⟨_, fun w h => Ybaf.binary_BE_Uint64_z ⟨g, o, none⟩ n c [a, b, x, y, p, q, r, s] w hn (by simp) (fun i hi => by rw [WideShapes.add_plain]; exact h.1 i hi) (fun z hz => wf8 (h.2 z hz))⟩
end Go.Proofs.YbulkbzcFmt
