/-
  Closed facts of the translation 'ybulkbzcfmt': fmt.errorf's stop at the formats of the roads; errors.Is over a wrapped sentinel. Typed by the prover of this seat (an AI agent), after the worked texts SentryFmt and SentryIs.
-/
import Derived.Test.YbulkbzcFmtProg
import Derived.KernelRfl
import GoSem.ClaimData
import Derived.Stop.CallBack
import Derived.Stop.IfaceNil
import Derived.WalkKit
import Derived.WalkSpells
import Derived.WalkLawsBesides
import Derived.LaidEql
import Derived.Stop.Asserts
import Derived.RowKitTokens
namespace Go.Proofs.YbulkbzcFmt
open Go.RowKit Go.Extern.Stop Go.Stop Go.Extern
set_option maxRecDepth 100000

theorem call23 (args : Array Value) (w : World) : (callFunc 23 args).run Ybaf.prog w = ((FmtStop.errorf #[9, 68] #[32] args).run Ybaf.prog w).andThen fun v w' => .ok (.value v) w' :=
  run_callFunc_extern Ybaf.func23 (by kernel_rfl) (by kernel_rfl) (by kernel_rfl) (by kernel_rfl) args w
theorem guardF (name : String) (w : World) : (FmtStop.guard name).run Ybaf.prog w = .ok () w := by kernel_rfl

/-- The formats. -/
theorem fmt0 : FmtStop.printed? ⟨#[37, 119, 58, 32, 102, 114, 97, 109, 105, 110, 103, 32, 101, 120, 116, 114, 97, 115, 32, 40, 37, 100, 41, 44, 32, 101, 120, 116, 114, 97, 115, 32, 40, 37, 100, 41, 32, 111, 114, 32, 107, 101, 121, 32, 40, 37, 100, 41, 32, 116, 111, 111, 32, 108, 111, 110, 103]⟩ 4 = some [(0, 119, false), (1, 100, false), (2, 100, false), (3, 100, false)] := by kernel_rfl
theorem fmt0r (w : World) : (FmtDoors.printed ⟨#[37, 119, 58, 32, 102, 114, 97, 109, 105, 110, 103, 32, 101, 120, 116, 114, 97, 115, 32, 40, 37, 100, 41, 44, 32, 101, 120, 116, 114, 97, 115, 32, 40, 37, 100, 41, 32, 111, 114, 32, 107, 101, 121, 32, 40, 37, 100, 41, 32, 116, 111, 111, 32, 108, 111, 110, 103]⟩ 4).run Ybaf.prog w = .ok [(0, 119, false), (1, 100, false), (2, 100, false), (3, 100, false)] w := by kernel_rfl
theorem fmt1 : FmtStop.printed? ⟨#[37, 119, 58, 32, 98, 111, 100, 121, 32, 111, 102, 32, 37, 100, 32, 98, 121, 116, 101, 115]⟩ 2 = some [(0, 119, false), (1, 100, false)] := by kernel_rfl
theorem fmt1r (w : World) : (FmtDoors.printed ⟨#[37, 119, 58, 32, 98, 111, 100, 121, 32, 111, 102, 32, 37, 100, 32, 98, 121, 116, 101, 115]⟩ 2).run Ybaf.prog w = .ok [(0, 119, false), (1, 100, false)] w := by kernel_rfl
theorem fmt2 : FmtStop.printed? ⟨#[37, 119, 58, 32, 109, 97, 103, 105, 99, 32, 48, 120, 37, 48, 50, 120]⟩ 2 = some [(0, 119, false), (1, 120, false)] := by kernel_rfl
theorem fmt2r (w : World) : (FmtDoors.printed ⟨#[37, 119, 58, 32, 109, 97, 103, 105, 99, 32, 48, 120, 37, 48, 50, 120]⟩ 2).run Ybaf.prog w = .ok [(0, 119, false), (1, 120, false)] w := by kernel_rfl
theorem fmt4 : FmtStop.printed? ⟨#[37, 119, 58, 32, 97, 32, 102, 114, 97, 109, 101, 100, 32, 114, 101, 113, 117, 101, 115, 116, 39, 115, 32, 107, 101, 121, 32, 111, 102, 32, 37, 100, 32, 98, 121, 116, 101, 115]⟩ 2 = some [(0, 119, false), (1, 100, false)] := by kernel_rfl
theorem fmt4r (w : World) : (FmtDoors.printed ⟨#[37, 119, 58, 32, 97, 32, 102, 114, 97, 109, 101, 100, 32, 114, 101, 113, 117, 101, 115, 116, 39, 115, 32, 107, 101, 121, 32, 111, 102, 32, 37, 100, 32, 98, 121, 116, 101, 115]⟩ 2).run Ybaf.prog w = .ok [(0, 119, false), (1, 100, false)] w := by kernel_rfl
theorem fmt5 : FmtStop.printed? ⟨List.toArray (37 :: 119 :: 58 :: 32 :: 102 :: 114 :: 97 :: 109 :: 105 :: 110 :: 103 :: 32 :: 101 :: 120 :: 116 :: 114 :: 97 :: 115 :: 32 :: 40 :: 37 :: 100 :: 41 :: 44 :: 32 :: 101 :: 120 :: 116 :: 114 :: 97 :: 115 :: 32 :: 40 :: 37 :: 100 :: 41 :: 32 :: 97 :: 110 :: 100 :: 32 :: 107 :: 101 :: 121 :: 32 :: 40 :: 37 :: 100 :: 41 :: 32 :: 111 :: 118 :: 101 :: 114 :: 114 :: 117 :: 110 :: 32 :: 97 :: 32 :: 98 :: 111 :: 100 :: 121 :: 32 :: 111 :: 102 :: 32 :: 37 :: 100 :: 32 :: 98 :: 121 :: 116 :: 101 :: 115 :: [])⟩ 5 = some [(0, 119, false), (1, 100, false), (2, 100, false), (3, 100, false), (4, 100, false)] := by kernel_rfl
theorem fmt5r (w : World) : (FmtDoors.printed ⟨List.toArray (37 :: 119 :: 58 :: 32 :: 102 :: 114 :: 97 :: 109 :: 105 :: 110 :: 103 :: 32 :: 101 :: 120 :: 116 :: 114 :: 97 :: 115 :: 32 :: 40 :: 37 :: 100 :: 41 :: 44 :: 32 :: 101 :: 120 :: 116 :: 114 :: 97 :: 115 :: 32 :: 40 :: 37 :: 100 :: 41 :: 32 :: 97 :: 110 :: 100 :: 32 :: 107 :: 101 :: 121 :: 32 :: 40 :: 37 :: 100 :: 41 :: 32 :: 111 :: 118 :: 101 :: 114 :: 114 :: 117 :: 110 :: 32 :: 97 :: 32 :: 98 :: 111 :: 100 :: 121 :: 32 :: 111 :: 102 :: 32 :: 37 :: 100 :: 32 :: 98 :: 121 :: 116 :: 101 :: 115 :: [])⟩ 5).run Ybaf.prog w = .ok [(0, 119, false), (1, 100, false), (2, 100, false), (3, 100, false), (4, 100, false)] w := by kernel_rfl

/-- The operands. -/
def shape3 : List UInt8 := [5, 3, 0, 0, 0, 0, 0, 0, 0, 105, 110, 116]
theorem op3 (name : String) (x : Int) (w : World) : (FmtStop.operand name true 100 false (.iface 3 (.int .i64 x))).run Ybaf.prog w = .ok (shape3, Go.Extern.Stop.digits 8 (x % 2 ^ 64).toNat) w := by kernel_rfl
def shape5 : List UInt8 := [6, 5, 0, 0, 0, 0, 0, 0, 0, 117, 105, 110, 116, 56]
theorem op5 (name : String) (x : Int) (w : World) : (FmtStop.operand name true 100 false (.iface 5 (.int .u8 x))).run Ybaf.prog w = .ok (shape5, Go.Extern.Stop.digits 8 (x % 2 ^ 64).toNat) w := by kernel_rfl
theorem op5x (name : String) (x : Int) (w : World) : (FmtStop.operand name true 120 false (.iface 5 (.int .u8 x))).run Ybaf.prog w = .ok (shape5, Go.Extern.Stop.digits 8 (x % 2 ^ 64).toNat) w := by kernel_rfl
def shape23 : List UInt8 := [7, 6, 0, 0, 0, 0, 0, 0, 0, 117, 105, 110, 116, 49, 54]
theorem op23 (name : String) (x : Int) (w : World) : (FmtStop.operand name true 100 false (.iface 23 (.int .u16 x))).run Ybaf.prog w = .ok (shape23, Go.Extern.Stop.digits 8 (x % 2 ^ 64).toNat) w := by kernel_rfl
def shape24 : List UInt8 := [8, 6, 0, 0, 0, 0, 0, 0, 0, 117, 105, 110, 116, 51, 50]
theorem op24 (name : String) (x : Int) (w : World) : (FmtStop.operand name true 100 false (.iface 24 (.int .u32 x))).run Ybaf.prog w = .ok (shape24, Go.Extern.Stop.digits 8 (x % 2 ^ 64).toNat) w := by kernel_rfl

theorem ptr73 (w : World) : (FmtStop.ptrTo "errors.errorString").run Ybaf.prog w = .ok 73 w := by kernel_rfl
theorem elem73 (w : World) : (elemOf 73).run Ybaf.prog w = .ok 75 w := by kernel_rfl
theorem isError73 (w : World) : (FmtDoors.textMethod 73 "Error").run Ybaf.prog w = .ok true w := by kernel_rfl
theorem ptr70 (w : World) : (FmtStop.ptrTo "fmt.wrapError").run Ybaf.prog w = .ok 70 w := by kernel_rfl
theorem elem70 (w : World) : (elemOf 70).run Ybaf.prog w = .ok 101 w := by kernel_rfl
theorem isError70 (w : World) : (FmtDoors.textMethod 70 "Error").run Ybaf.prog w = .ok true w := by kernel_rfl
def plain73 : List UInt8 := 14 :: FmtStop.pack "*errors.errorString".toUTF8.data.toList
theorem opPlain (name : String) (a : Addr) (s : ByteArray) (w : World) (hc : w.cell? a = some (.string s)) :
    (FmtStop.operand name true 119 false (.iface 73 (.pointer (some a)))).run Ybaf.prog w = .ok (plain73, s.data.toList) w := by
  have h1 : (typeStr 73).run Ybaf.prog w = .ok "*errors.errorString" w := by kernel_rfl
  have d2 : Ybaf.t73.desc = .pointer 75 := rfl
  have d3 : Ybaf.t75.desc = .named "errors.errorString" 74 := rfl
  simp [FmtStop.operand, h1, d2, d3, run_load, hc, plain73]

/-! errors.Is over a wrapped sentinel. -/
theorem isTypeOf (v : Value) (w : World) : (Extern.ReflectliteType.typeOf #[.iface 73 v]).run Ybaf.prog w = .ok (.iface 59 (.agg #[.pointer (some ⟨3, 73, none⟩)])) w := by kernel_rfl
theorem isComparable (w : World) : (callFunc 49 #[.agg #[.pointer (some ⟨3, 73, none⟩)]]).run Ybaf.prog w = .ok (.value (.bool true)) w := by
  rw [run_callFunc_extern (e := Extern.ReflectliteType.method fun t => do Extern.Rtype.noPackHeld "Comparable" t; pure (.bool (← typeInfo t).comparable)) Ybaf.func49 (by kernel_rfl) (by kernel_rfl) (by kernel_rfl) (by kernel_rfl)]
  kernel_rfl
theorem isMethodComparable (v : Value) (w : World) : (Go.method 213 59 v "Comparable").run Ybaf.prog w = .ok (49, v) w := by kernel_rfl
theorem isComp : (Ybaf.prog.info? 73).map (·.comparable) = some true := by kernel_rfl
theorem isSize : (Ybaf.prog.info? 75).map (·.size) = some 1 := by kernel_rfl
theorem noIsE (v : Value) (xT : TypeId) (w : World) : (Instr.typeAssert (.iface 73 v) xT 61 true).run Ybaf.prog w = .ok (.tuple #[.nilIface, .bool false]) w := run_typeAssert_lacksB Ybaf.underlying61 (by kernel_rfl) (by kernel_rfl) v xT w
theorem noUnwrapE (v : Value) (xT : TypeId) (w : World) : (Instr.typeAssert (.iface 73 v) xT 64 true).run Ybaf.prog w = .ok (.tuple #[.nilIface, .bool false]) w := run_typeAssert_lacksB Ybaf.underlying64 (by kernel_rfl) (by kernel_rfl) v xT w
theorem noUnwrapsE (v : Value) (xT : TypeId) (w : World) : (Instr.typeAssert (.iface 73 v) xT 65 true).run Ybaf.prog w = .ok (.tuple #[.nilIface, .bool false]) w := run_typeAssert_lacksB Ybaf.underlying65 (by kernel_rfl) (by kernel_rfl) v xT w
theorem noIsW (v : Value) (xT : TypeId) (w : World) : (Instr.typeAssert (.iface 70 v) xT 61 true).run Ybaf.prog w = .ok (.tuple #[.nilIface, .bool false]) w := run_typeAssert_lacksB Ybaf.underlying61 (by kernel_rfl) (by kernel_rfl) v xT w
theorem hasUnwrapW (v : Value) (xT : TypeId) (w : World) : (Instr.typeAssert (.iface 70 v) xT 64 true).run Ybaf.prog w = .ok (.tuple #[.iface 70 v, .bool true]) w := run_typeAssert_hasB Ybaf.underlying64 (by kernel_rfl) v xT w
theorem methodUnwrap (v : Value) (w : World) : (Go.method 213 70 v "Unwrap").run Ybaf.prog w = .ok (59, v) w := by kernel_rfl

/-- errors.Is(e, x), e a *fmt.wrapError that wraps x itself. -/
theorem is_wrap_same (pb po : Nat) (b : Addr) (w : World) (h1 : w.cell? ⟨pb, po + 1, none⟩ = some (.iface 73 (.pointer (some b)))) :
    Calls Ybaf.prog 8 #[.iface 70 (.pointer (some ⟨pb, po, none⟩)), .iface 73 (.pointer (some b))] w fun e w' => e = .returned (.bool true) ∧ w' = w := by
  obtain ⟨i, hi, hcmp⟩ := Option.map_eq_some_iff.1 isComp
  obtain ⟨j, hj, hjs⟩ := Option.map_eq_some_iff.1 isSize
  have h14 := @run_callFunc_extern Ybaf.prog 14 _ Extern.ReflectliteType.typeOf Ybaf.func14 (by kernel_rfl) (by kernel_rfl) (by kernel_rfl) (by kernel_rfl)
  have tT := isTypeOf
  have cT := isComparable
  have mR := isMethodComparable
  have nE := noIsE
  have uE := noUnwrapE
  have vE := noUnwrapsE
  have nW := noIsW
  have uW := hasUnwrapW
  have mU := methodUnwrap
  have heq := run_eql_iface_ptr_same (P := Ybaf.prog) w b Ybaf.underlying32 Ybaf.underlying73 hi hcmp hj
  have hty := run_eql_iface_types (P := Ybaf.prog) 70 73 (.pointer (some ⟨pb, po, none⟩)) (.pointer (some b)) Ybaf.underlying32 (by decide) w
  go_enter Ybaf.func8, Ybaf.ntmps8
  go_wp2
  refine wp_loop_rounds 2 ?_
  rw [rounds_succ]
  go_wp2
  rw [rounds_succ]
  go_wp2
  go_ret
  exact ⟨rfl, rfl⟩
end Go.Proofs.YbulkbzcFmt
