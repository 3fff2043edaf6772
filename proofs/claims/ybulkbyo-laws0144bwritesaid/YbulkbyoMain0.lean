/-
  The law's data and its loops, taken out of the translation. Typed by the prover of this seat (an AI agent).
-/
import Derived.Test.YbulkbyoTxWrite
namespace Go.Proofs.Ybulkbyo
open Go.RowKit Go.MapFn

/-- The loops of a text, in order, the outer ones alone. -/
def loops : Code → List Code
  | .loop c => [.loop c]
  | .seq a b => loops a ++ loops b
  | .block _ c => loops c
  | .scope c => loops c
  | .cond _ a b => loops a ++ loops b
  | _ => []

/-- Loop number k of a body. -/
def lpOf (c : Option Code) (k : Nat) : Code := ((loops (c.getD .skip))[k]?).getD .skip

/-- The reads that came in. -/
def IsReads (w : World) (a : Option Addr) (len : Nat) (rk rr : Nat → Int) : Prop :=
  ∀ i, i < len → 0 ≤ rk i ∧ rk i ≤ 255 ∧ ∃ b off, a = some ⟨b, off, none⟩ ∧ b < w.heap.size ∧ w.cell? ⟨b, off + i * 2, none⟩ = some (.int .u8 (rk i)) ∧ w.cell? ⟨b, off + i * 2 + 1, none⟩ = some (.int .i64 (rr i))
/-- The last element at key j among the first k. -/
def lastTo {α : Type} (ky : Nat → Int) (x : Nat → α) : Nat → Int → Option α
  | 0, _ => none
  | k + 1, j => if j = ky k % 5 then some (x k) else lastTo ky x k j
/-- The ranges that came in. -/
def IsRanges (w : World) (a : Option Addr) (len : Nat) (f t : Nat → Int) (rev : Nat → Int) : Prop :=
  ∀ i, i < len → 0 ≤ f i ∧ f i ≤ 255 ∧ 0 ≤ t i ∧ t i ≤ 255 ∧ ∃ b off, a = some ⟨b, off, none⟩ ∧ b < w.heap.size ∧ w.cell? ⟨b, off + i * 3, none⟩ = some (.int .u8 (f i)) ∧ w.cell? ⟨b, off + i * 3 + 1, none⟩ = some (.int .u8 (t i)) ∧ w.cell? ⟨b, off + i * 3 + 2, none⟩ = some (.int .i64 (rev i))
/-- The scans that came in. -/
def IsScans (w : World) (a : Option Addr) (len : Nat) (sk sa : Nat → Int) : Prop :=
  ∀ i, i < len → 0 ≤ sk i ∧ sk i ≤ 255 ∧ 0 ≤ sa i ∧ sa i ≤ 65535 ∧ ∃ b off, a = some ⟨b, off, none⟩ ∧ b < w.heap.size ∧ w.cell? ⟨b, off + i * 2, none⟩ = some (.int .u8 (sk i)) ∧ w.cell? ⟨b, off + i * 2 + 1, none⟩ = some (.int .u16 (sa i))
/-- The earlier writes that came in. -/
def IsPrior (w : World) (a : Option Addr) (len : Nat) (pk : Nat → Int) (pv : Nat → ByteArray) (pd : Nat → Bool) : Prop :=
  ∀ i, i < len → 0 ≤ pk i ∧ pk i ≤ 255 ∧ ∃ b off, a = some ⟨b, off, none⟩ ∧ b < w.heap.size ∧ w.cell? ⟨b, off + i * 3, none⟩ = some (.int .u8 (pk i)) ∧ w.cell? ⟨b, off + i * 3 + 1, none⟩ = some (.string (pv i)) ∧ w.cell? ⟨b, off + i * 3 + 2, none⟩ = some (.bool (pd i))
/-- The saved keys that came in. -/
def IsBytes (w : World) (a : Option Addr) (len : Nat) (sk : Nat → Int) : Prop :=
  ∀ i, i < len → 0 ≤ sk i ∧ sk i ≤ 255 ∧ ∃ b off, a = some ⟨b, off, none⟩ ∧ b < w.heap.size ∧ w.cell? ⟨b, off + i, none⟩ = some (.int .u8 (sk i))
end Go.Proofs.Ybulkbyo
