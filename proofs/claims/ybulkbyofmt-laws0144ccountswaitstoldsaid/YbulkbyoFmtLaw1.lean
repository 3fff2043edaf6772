/-
  The first loop of the law: the waits are put. Typed by the prover of this seat (an AI agent).
-/
import Derived.Test.YbulkbyoFmtTab
namespace Go.Proofs.YbulkbyoFmt
open Go.RowKit Go.MuLone Go.MapFn
set_option maxRecDepth 100000

/-- The loops of a text, in order, the outer ones alone. -/
def loops : Code → List Code
  | .loop c => [.loop c]
  | .seq a b => loops a ++ loops b
  | .block _ c => loops c
  | .scope c => loops c
  | .cond _ a b => loops a ++ loops b
  | _ => []
def lpOf (c : Option Code) (k : Nat) : Code := ((loops (c.getD .skip))[k]?).getD .skip

/-- The list of waits that the law keeps. -/
def WsAt (w : World) (B gw kk : Nat) (q : Value) (ps : List Nat) : Prop :=
  w.ownsRow B 41 1 (.slice (some ⟨gw, 0, none⟩) ps.length kk) ps.length (ps.map pt) ∧ q.ownBlock ≠ some gw

theorem WsAt.obj {w : World} {B gw kk : Nat} {q : Value} {ps : List Nat} (h : WsAt w B gw kk q ps) : B ≤ gw ∧ ∃ c, w.heap[gw]? = some (.cells c 41) := row_obj h.1 rfl
theorem WsAt.keep {w w' : World} {B gw kk : Nat} {q q' : Value} {ps : List Nat} (h : WsAt w B gw kk q ps) (hb : w'.heap[gw]? = w.heap[gw]?) (hq : q'.ownBlock ≠ some gw) : WsAt w' B gw kk q' ps :=
  ⟨row_keep h.1 (fun g e => by cases e; exact hb), hq⟩
end Go.Proofs.YbulkbyoFmt
