/-
  Closed facts of the translation 'ybulkbwyfmt': fmt.errorf's stop at the one format of the road, the key types' laws. Typed by the prover of this seat (an AI agent).
-/
import Derived.Test.YbulkbwyFmtProg
import Derived.KernelRfl
import GoSem.ClaimData
import Derived.Test.YbulkbwyFmtMapFn
import Derived.Stop.CallBack
import Derived.Stop.IfaceNil
import Derived.DeepKeys4
import Derived.WalkKit
import Derived.WalkSpells
import Derived.WalkLawsBesides
namespace Go.Proofs.YbulkbwyFmt
open Go.Extern.Stop Go.Stop Go.Extern
open Go.Maps (Keyed)
set_option maxRecDepth 100000

theorem call14 (args : Array Value) (w : World) : (callFunc 14 args).run Ybaf.prog w = ((FmtStop.errorf #[9, 130] #[36] args).run Ybaf.prog w).andThen fun v w' => .ok (.value v) w' :=
  run_callFunc_extern Ybaf.func14 (by kernel_rfl) (by kernel_rfl) (by kernel_rfl) (by kernel_rfl) args w
theorem guardF (name : String) (w : World) : (FmtStop.guard name).run Ybaf.prog w = .ok () w := by kernel_rfl
theorem fmt0 : FmtStop.printed? ⟨#[115, 116, 111, 114, 101, 58, 32, 65, 80, 73, 32, 37, 115, 32, 101, 120, 105, 115, 116, 115, 32, 97, 108, 114, 101, 97, 100, 121]⟩ 1 = some [(0, 115, false)] := by kernel_rfl
theorem fmt0r (w : World) : (FmtDoors.printed ⟨#[115, 116, 111, 114, 101, 58, 32, 65, 80, 73, 32, 37, 115, 32, 101, 120, 105, 115, 116, 115, 32, 97, 108, 114, 101, 97, 100, 121]⟩ 1).run Ybaf.prog w = .ok [(0, 115, false)] w := by kernel_rfl
def shape9 : List UInt8 := [12, 6, 0, 0, 0, 0, 0, 0, 0, 115, 116, 114, 105, 110, 103]
theorem op9 (name : String) (x : ByteArray) (w : World) : (FmtStop.operand name false 115 false (.iface 9 (.string x))).run Ybaf.prog w = .ok (shape9, FmtStop.pack x.data.toList) w := by kernel_rfl
theorem op9w (name : String) (x : ByteArray) (w : World) : (FmtStop.operand name true 115 false (.iface 9 (.string x))).run Ybaf.prog w = .ok (shape9, FmtStop.pack x.data.toList) w := by kernel_rfl
theorem ptr151 (w : World) : (FmtStop.ptrTo "errors.errorString").run Ybaf.prog w = .ok 151 w := by kernel_rfl
theorem elem151 (w : World) : (elemOf 151).run Ybaf.prog w = .ok 153 w := by kernel_rfl
theorem isError151 (w : World) : (FmtDoors.textMethod 151 "Error").run Ybaf.prog w = .ok true w := by kernel_rfl

theorem laidOut : laidOutB Ybaf.prog = true := by kernel_rfl
theorem lawS : Keyed Ybaf.prog 9 := Maps.string_keyed Ybaf.underlying9
theorem row32 : (32 : TypeId) < Ybaf.prog.types.size := of_decide_eq_true (by kernel_rfl)
theorem wide32 : (match Ybaf.prog.underlying 32 with | some (.array _ _) | some (.struct _) => true | _ => false) = true := by kernel_rfl
theorem lawN : Keyed Ybaf.prog 32 := Keyed.of_law (deep_law_laid laidOut (m := 2) (by omega) row32 (by kernel_rfl) wide32)
theorem zero4 (w : World) : (zeroValue 4).run Ybaf.prog w = .ok (.bool false) w := by kernel_rfl
theorem zero26 (w : World) : (zeroValue 26).run Ybaf.prog w = .ok (.agg #[.string ⟨#[]⟩, .string ⟨#[]⟩, .int .i64 0]) w := by kernel_rfl
theorem zero104 : ∃ cs : Array Value, cs.size = 69 ∧ ∀ w, (zeroValue 104).run Ybaf.prog w = .ok (.agg cs) w :=
  ⟨(match (Ybaf.prog.info? 104).bind (·.zero) with | some (.agg cs) => cs | _ => #[]), by kernel_rfl, fun w => by kernel_rfl⟩

/-- The key of a name. -/
def nameV (k : Int) (s : ByteArray) : Value := .agg #[.int .i64 k, .string s]
theorem keyS {s : ByteArray} (hs : s.size ≤ maxLen) : keyOf Ybaf.prog 9 (.string s) = some (.string s.data.toList) := WideMaps.keyOf_string_mk Ybaf.underlying9 hs
theorem kt32 : Ybaf.prog.keyType 32 = true := by kernel_rfl
theorem cells30 : Ybaf.prog.cellsOf 30 = 1 := by kernel_rfl
theorem cells9 : Ybaf.prog.cellsOf 9 = 1 := by kernel_rfl
theorem cells32 : Ybaf.prog.cellsOf 32 = 2 := by kernel_rfl
theorem keyN {k : Int} {s : ByteArray} (hk : (Lit.int .i64 k).wf = true) (hs : s.size ≤ maxLen) : ∃ l, keyOf Ybaf.prog 32 (nameV k s) = some l := by
  have hf : (nameV k s).formed Ybaf.prog 32 = true := by simp [nameV, Value.formed, Ybaf.underlying32, cells32]
  unfold keyOf
  rw [Ybaf.underlying32]
  simp only [kt32, hf, Bool.and_self, if_true]
  obtain ⟨d, hd⟩ : ∃ d, Ybaf.prog.types.size = d + 1 := ⟨Ybaf.prog.types.size - 1, by have h : 32 < Ybaf.prog.types.size := row32; omega⟩
  rw [hd]
  have e : Ybaf.prog.keyLits (d + 1 + 1) 32 (nameV k s).cells.toList = some [.int .i64 k, .string s.data.toList] := by
    simp [nameV, Value.cells, Program.keyLits, Ybaf.underlying32, cells32, cells30, cells9, Ybaf.underlying30, Ybaf.underlying9, hk, hs]
  rw [e]
  exact ⟨_, rfl⟩
end Go.Proofs.YbulkbwyFmt
