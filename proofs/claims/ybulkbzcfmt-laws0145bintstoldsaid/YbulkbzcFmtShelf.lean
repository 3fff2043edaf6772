/-
  DERIVED: THE SHELF's CONTRACTS AT THIS DUMP, IN PLAIN WORDS (tools/lay-plain.mjs out of 'YbafShelfT.lean', which tools/lay-shelf.mjs wrote): THE SAME DECLARATIONS UNDER THE SAME NAMES: 'import', 'namespace', 'open', 'def', 'theorem' AND NOTHING ELSE: no command of the shelf's: FOR A HAND-IN. Each laying: the table of numbers ('.._ren') and one theorem, a field a fact of the dump's own or the kernel's comparison; each contract: ONE APPLICATION.
-/
import Derived.Shelf.Bin.BEUint16
import Derived.Shelf.Bin.BEUint32
import Derived.Shelf.Bin.BEUint64
import Derived.Shelf.Bin.ReadersZ
import Derived.Test.YbulkbzcFmtProg
namespace Go.Proofs
open Go.Shelf
def Ybaf.laysBin36_ren : Go.Shelf.Ren := ⟨fun | 36 => 17 | n => n, fun | 37 => 52 | 22 => 22 | 23 => 23 | 0 => 0 | 5 => 5 | 45 => 40 | n => n, fun | n => n⟩
theorem Ybaf.laysBin36 : Go.Proofs.LaysBin.n36 Ybaf.prog Ybaf.laysBin36_ren := {
  mixed := by kernel_rfl
  f36 := Ybaf.func17.trans (congrArg some (by kernel_rfl))
  t0 := Ybaf.underlying0
  a0 := Ybaf.isAgg0
  z0 := Ybaf.sizeOf0
  v0 := Ybaf.zeroValue0
  i0 := by kernel_rfl
  t5 := Ybaf.underlying5
  a5 := Ybaf.isAgg5
  z5 := Ybaf.sizeOf5
  v5 := Ybaf.zeroValue5
  i5 := by kernel_rfl
  t22 := Ybaf.underlying22
  a22 := Ybaf.isAgg22
  z22 := Ybaf.sizeOf22
  v22 := Ybaf.zeroValue22
  i22 := by kernel_rfl
  t23 := Ybaf.underlying23
  a23 := Ybaf.isAgg23
  z23 := Ybaf.sizeOf23
  v23 := Ybaf.zeroValue23
  i23 := by kernel_rfl
  t37 := Ybaf.underlying52
  a37 := Ybaf.isAgg52
  z37 := Ybaf.sizeOf52
  v37 := Ybaf.zeroValue52
  i37 := by kernel_rfl
  t45 := Ybaf.underlying40
  a45 := Ybaf.isAgg40
  z45 := Ybaf.sizeOf40
  v45 := Ybaf.zeroValue40
  i45 := by kernel_rfl }
def Ybaf.laysBin39_ren : Go.Shelf.Ren := ⟨fun | 39 => 18 | n => n, fun | 37 => 52 | 22 => 22 | 29 => 24 | 0 => 0 | 5 => 5 | 45 => 40 | n => n, fun | n => n⟩
theorem Ybaf.laysBin39 : Go.Proofs.LaysBin.n39 Ybaf.prog Ybaf.laysBin39_ren := {
  mixed := by kernel_rfl
  f39 := Ybaf.func18.trans (congrArg some (by kernel_rfl))
  t0 := Ybaf.underlying0
  a0 := Ybaf.isAgg0
  z0 := Ybaf.sizeOf0
  v0 := Ybaf.zeroValue0
  i0 := by kernel_rfl
  t5 := Ybaf.underlying5
  a5 := Ybaf.isAgg5
  z5 := Ybaf.sizeOf5
  v5 := Ybaf.zeroValue5
  i5 := by kernel_rfl
  t22 := Ybaf.underlying22
  a22 := Ybaf.isAgg22
  z22 := Ybaf.sizeOf22
  v22 := Ybaf.zeroValue22
  i22 := by kernel_rfl
  t29 := Ybaf.underlying24
  a29 := Ybaf.isAgg24
  z29 := Ybaf.sizeOf24
  v29 := Ybaf.zeroValue24
  i29 := by kernel_rfl
  t37 := Ybaf.underlying52
  a37 := Ybaf.isAgg52
  z37 := Ybaf.sizeOf52
  v37 := Ybaf.zeroValue52
  i37 := by kernel_rfl
  t45 := Ybaf.underlying40
  a45 := Ybaf.isAgg40
  z45 := Ybaf.sizeOf40
  v45 := Ybaf.zeroValue40
  i45 := by kernel_rfl }
def Ybaf.laysBin42_ren : Go.Shelf.Ren := ⟨fun | 42 => 19 | n => n, fun | 37 => 52 | 22 => 22 | 33 => 25 | 0 => 0 | 5 => 5 | 45 => 40 | n => n, fun | n => n⟩
theorem Ybaf.laysBin42 : Go.Proofs.LaysBin.n42 Ybaf.prog Ybaf.laysBin42_ren := {
  mixed := by kernel_rfl
  f42 := Ybaf.func19.trans (congrArg some (by kernel_rfl))
  t0 := Ybaf.underlying0
  a0 := Ybaf.isAgg0
  z0 := Ybaf.sizeOf0
  v0 := Ybaf.zeroValue0
  i0 := by kernel_rfl
  t5 := Ybaf.underlying5
  a5 := Ybaf.isAgg5
  z5 := Ybaf.sizeOf5
  v5 := Ybaf.zeroValue5
  i5 := by kernel_rfl
  t22 := Ybaf.underlying22
  a22 := Ybaf.isAgg22
  z22 := Ybaf.sizeOf22
  v22 := Ybaf.zeroValue22
  i22 := by kernel_rfl
  t33 := Ybaf.underlying25
  a33 := Ybaf.isAgg25
  z33 := Ybaf.sizeOf25
  v33 := Ybaf.zeroValue25
  i33 := by kernel_rfl
  t37 := Ybaf.underlying52
  a37 := Ybaf.isAgg52
  z37 := Ybaf.sizeOf52
  v37 := Ybaf.zeroValue52
  i37 := by kernel_rfl
  t45 := Ybaf.underlying40
  a45 := Ybaf.isAgg40
  z45 := Ybaf.sizeOf40
  v45 := Ybaf.zeroValue40
  i45 := by kernel_rfl }
open Go.RowKit in
/-- binary.BigEndian.Uint16, ITS PREMISES 'open_ints'' CONCLUSION TO THE LETTER: a slice at WHATEVER address a, the numbers zs that its cells hold: THE NUMBER THAT THE FIRST 2 SPELL ('Lib.beZ'). (LAID: no walk: one application.) -/
theorem Ybaf.binary_BE_Uint16_z (a : Addr) (n c : Nat) (zs : List Int) (w : World) (hn : 2 ≤ n) (hl : 2 ≤ zs.length) (hcell : ∀ i, i < zs.length → w.cell? (a.add i) = some (.int .u8 (zs.getD i 0))) (hw : ∀ z ∈ zs, (Lit.int .u8 z).wf = true) :
    Calls Ybaf.prog 17 #[.agg #[], .slice (some a) n c] w fun e w' => e = .returned (.int .u16 (Lib.beZ (zs.take 2))) ∧ Below w.heap.size w w' := Any.binary_BE_Uint16_z Ybaf.laysBin36 a n c zs w hn hl hcell hw
open Go.RowKit in
/-- binary.BigEndian.Uint32, ITS PREMISES 'open_ints'' CONCLUSION TO THE LETTER: a slice at WHATEVER address a, the numbers zs that its cells hold: THE NUMBER THAT THE FIRST 4 SPELL ('Lib.beZ'). (LAID: no walk: one application.) -/
theorem Ybaf.binary_BE_Uint32_z (a : Addr) (n c : Nat) (zs : List Int) (w : World) (hn : 4 ≤ n) (hl : 4 ≤ zs.length) (hcell : ∀ i, i < zs.length → w.cell? (a.add i) = some (.int .u8 (zs.getD i 0))) (hw : ∀ z ∈ zs, (Lit.int .u8 z).wf = true) :
    Calls Ybaf.prog 18 #[.agg #[], .slice (some a) n c] w fun e w' => e = .returned (.int .u32 (Lib.beZ (zs.take 4))) ∧ Below w.heap.size w w' := Any.binary_BE_Uint32_z Ybaf.laysBin39 a n c zs w hn hl hcell hw
open Go.RowKit in
/-- binary.BigEndian.Uint64, ITS PREMISES 'open_ints'' CONCLUSION TO THE LETTER: a slice at WHATEVER address a, the numbers zs that its cells hold: THE NUMBER THAT THE FIRST 8 SPELL ('Lib.beZ'). (LAID: no walk: one application.) -/
theorem Ybaf.binary_BE_Uint64_z (a : Addr) (n c : Nat) (zs : List Int) (w : World) (hn : 8 ≤ n) (hl : 8 ≤ zs.length) (hcell : ∀ i, i < zs.length → w.cell? (a.add i) = some (.int .u8 (zs.getD i 0))) (hw : ∀ z ∈ zs, (Lit.int .u8 z).wf = true) :
    Calls Ybaf.prog 19 #[.agg #[], .slice (some a) n c] w fun e w' => e = .returned (.int .u64 (Lib.beZ (zs.take 8))) ∧ Below w.heap.size w w' := Any.binary_BE_Uint64_z Ybaf.laysBin42 a n c zs w hn hl hcell hw
end Go.Proofs
