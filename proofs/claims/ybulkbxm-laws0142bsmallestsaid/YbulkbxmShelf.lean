/-
  DERIVED: THE SHELF's CONTRACTS AT THIS DUMP, IN PLAIN WORDS (tools/lay-plain.mjs out of 'YbaShelf.lean', which tools/lay-shelf.mjs wrote): THE SAME DECLARATIONS UNDER THE SAME NAMES: 'import', 'namespace', 'open', 'def', 'theorem' AND NOTHING ELSE: no command of the shelf's: FOR A HAND-IN. Each laying: the table of numbers ('.._ren') and one theorem, a field a fact of the dump's own or the kernel's comparison; each contract: ONE APPLICATION.
-/
import Derived.Shelf.Sort.Plain
import Derived.Shelf.Slices.In.SortNone
import Derived.Test.YbulkbxmProg
namespace Go.Proofs
open Go.Shelf
def Yba.lays189_ren : Go.Shelf.Ren := ⟨fun | 189 => 8 | 125 => 10 | 257 => 9 | 128 => 20 | 129 => 21 | 294 => 11 | 295 => 12 | 296 => 13 | 297 => 14 | 298 => 15 | 299 => 16 | 216 => 17 | 300 => 18 | 301 => 19 | 328 => 22 | 329 => 23 | 330 => 24 | 331 => 25 | 332 => 26 | 215 => 27 | 343 => 28 | n => n, fun | 28 => 23 | 3 => 3 | 46 => 31 | 0 => 0 | 51 => 42 | 53 => 44 | 4 => 4 | 183 => 34 | 182 => 33 | 131 => 39 | 5 => 5 | 9 => 9 | 218 => 45 | 222 => 49 | 228 => 52 | 229 => 53 | n => n, fun | n => n⟩
theorem Yba.lays189 : Go.Proofs.Lays.n189 Yba.prog Yba.lays189_ren := {
  mixed := by kernel_rfl
  f125 := Yba.func10.trans (congrArg some (by kernel_rfl))
  f128 := Yba.func20.trans (congrArg some (by kernel_rfl))
  f129 := Yba.func21.trans (congrArg some (by kernel_rfl))
  f189 := Yba.func8.trans (congrArg some (by kernel_rfl))
  f215 := Yba.func27.trans (congrArg some (by kernel_rfl))
  f216 := Yba.func17.trans (congrArg some (by kernel_rfl))
  f257 := Yba.func9.trans (congrArg some (by kernel_rfl))
  f294 := Yba.func11.trans (congrArg some (by kernel_rfl))
  f295 := Yba.func12.trans (congrArg some (by kernel_rfl))
  f296 := Yba.func13.trans (congrArg some (by kernel_rfl))
  f297 := Yba.func14.trans (congrArg some (by kernel_rfl))
  f298 := Yba.func15.trans (congrArg some (by kernel_rfl))
  f299 := Yba.func16.trans (congrArg some (by kernel_rfl))
  f300 := Yba.func18.trans (congrArg some (by kernel_rfl))
  f301 := Yba.func19.trans (congrArg some (by kernel_rfl))
  f328 := Yba.func22.trans (congrArg some (by kernel_rfl))
  f329 := Yba.func23.trans (congrArg some (by kernel_rfl))
  f330 := Yba.func24.trans (congrArg some (by kernel_rfl))
  f331 := Yba.func25.trans (congrArg some (by kernel_rfl))
  f332 := Yba.func26.trans (congrArg some (by kernel_rfl))
  f343 := Yba.func28.trans (congrArg some (by kernel_rfl))
  t0 := Yba.underlying0
  a0 := Yba.isAgg0
  z0 := Yba.sizeOf0
  v0 := Yba.zeroValue0
  t3 := Yba.underlying3
  a3 := Yba.isAgg3
  z3 := Yba.sizeOf3
  v3 := Yba.zeroValue3
  t4 := Yba.underlying4
  a4 := Yba.isAgg4
  z4 := Yba.sizeOf4
  v4 := Yba.zeroValue4
  t5 := Yba.underlying5
  a5 := Yba.isAgg5
  z5 := Yba.sizeOf5
  v5 := Yba.zeroValue5
  t9 := Yba.underlying9
  a9 := Yba.isAgg9
  z9 := Yba.sizeOf9
  v9 := Yba.zeroValue9
  t28 := Yba.underlying23
  a28 := Yba.isAgg23
  z28 := Yba.sizeOf23
  v28 := Yba.zeroValue23
  t46 := Yba.underlying31
  a46 := Yba.isAgg31
  z46 := Yba.sizeOf31
  v46 := Yba.zeroValue31
  t51 := Yba.underlying42
  a51 := Yba.isAgg42
  z51 := Yba.sizeOf42
  v51 := Yba.zeroValue42
  t53 := Yba.underlying44
  a53 := Yba.isAgg44
  z53 := Yba.sizeOf44
  v53 := Yba.zeroValue44
  t131 := Yba.underlying39
  a131 := Yba.isAgg39
  z131 := Yba.sizeOf39
  v131 := Yba.zeroValue39
  t182 := Yba.underlying33
  a182 := Yba.isAgg33
  z182 := Yba.sizeOf33
  v182 := Yba.zeroValue33
  t183 := Yba.underlying34
  a183 := Yba.isAgg34
  z183 := Yba.sizeOf34
  v183 := Yba.zeroValue34
  t218 := Yba.underlying45
  a218 := Yba.isAgg45
  z218 := Yba.sizeOf45
  v218 := Yba.zeroValue45
  t222 := Yba.underlying49
  a222 := Yba.isAgg49
  z222 := Yba.sizeOf49
  v222 := Yba.zeroValue49
  t228 := Yba.underlying52
  a228 := Yba.isAgg52
  z228 := Yba.sizeOf52
  v228 := Yba.zeroValue52
  t229 := Yba.underlying53
  a229 := Yba.isAgg53
  z229 := Yba.sizeOf53
  v229 := Yba.zeroValue53 }
open Go.Sort Go.RowKit in
theorem Yba.slices_Sort_int (blk off cap : Nat) (zs : List Int) (w : World) (hH : Holds (Value.int .i64) w blk off zs.toArray) (hblk : blk < w.heap.size) (hsz : zs.length < 4611686018427387904) :
    Calls Yba.prog 8 #[.slice (some ⟨blk, off, none⟩) zs.length cap] w fun e w' =>
      e = .returned (.tuple #[]) ∧ ∃ n os, w' = grow (putRow (Value.int .i64) (Sort.ahead w n) blk off (zs.mergeSort fun x y => decide (x ≤ y)).toArray) os := Any.slices_Sort_int Yba.lays189 blk off cap zs w hH hblk hsz
open Go.RowKit Go.Sort in
/-- .. and plain. (LAID: no walk: one application.) -/
theorem Yba.slices_Sort_int_none (p : Option Addr) (cap : Nat) (w : World) :
    Calls Yba.prog 8 #[.slice p 0 cap] w fun e w' => e = .returned (.tuple #[]) ∧ w' = w := Any.slices_Sort_int_none Yba.lays189 p cap w
end Go.Proofs
