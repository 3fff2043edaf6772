/-
  The walk of 'check'. Typed by the prover of this seat (an AI agent).
-/
import Derived.Test.YbulkbwyFmtWalkA
import Derived.Deep.RegionWith
namespace Go.Proofs.YbulkbwyFmt
open Go.RowKit Go.Extern.Stop Go.Stop Go.Extern Go.MapFn
set_option maxRecDepth 100000
attribute [local go_sem] call14 guardF fmt0 fmt0r op9 op9w ptr151 elem151 isError151

set_option maxHeartbeats 1000000 in
theorem check_false (ab : Nat) (p q : Value) (id : ByteArray) (w : World) (hab : ab < w.heap.size)
    (hc : w.cell? ⟨ab, 0, none⟩ = some (.string id))
    (hh : Hid (∀ W, Below w.heap.size w W → Calls Ybaf.prog 7 #[.agg #[p, q], .agg #[.int .i64 0, .string id]] W fun e w' => e = .returned (.bool false) ∧ Below W.heap.size W w')) :
    Calls Ybaf.prog 5 #[.pointer (some ⟨ab, 0, none⟩), .agg #[p, q]] w fun e w' => e = .returned .nilIface ∧ Below w.heap.size w w' := by
  go_enter Ybaf.func5, Ybaf.ntmps5
  go_wp2
  go_region_with (go_at_call 7; refine (hh.out _ ?_).mono ?_; exact ((Below.refl _ _).alloc (Nat.le_refl _) _).drew; rintro e w1 ⟨rfl, hb⟩)
  all_goals go_wp2
  all_goals go_ret
  all_goals exact ⟨rfl, ((Below.refl _ _).alloc (Nat.le_refl _) _).drew.trans (hb.mono (by simp))⟩

set_option maxHeartbeats 1000000 in
theorem check_true (F : Interp) (ab : Nat) (p q : Value) (id : ByteArray) (w : World) (hF : F.answers w.tape) (hab : ab < w.heap.size)
    (hc : w.cell? ⟨ab, 0, none⟩ = some (.string id))
    (hh : Hid (∀ W, Below w.heap.size w W → Calls Ybaf.prog 7 #[.agg #[p, q], .agg #[.int .i64 0, .string id]] W fun e w' => e = .returned (.bool true) ∧ Below W.heap.size W w')) :
    Calls Ybaf.prog 5 #[.pointer (some ⟨ab, 0, none⟩), .agg #[p, q]] w fun e w' => (∃ x, e = .returned (.iface 151 (.pointer (some x)))) ∧ Below w.heap.size w w' := by
  go_enter Ybaf.func5, Ybaf.ntmps5
  go_wp2
  go_region_with (go_at_call 7; refine (hh.out _ ?_).mono ?_; exact ((Below.refl _ _).alloc (Nat.le_refl _) _).drew; rintro e w1 ⟨rfl, hb⟩)
  all_goals
    have hbw : Below w.heap.size w w1 := ((Below.refl _ _).alloc (Nat.le_refl _) _).drew.trans (hb.mono (by simp))
    have hc1 : w1.cell? ⟨ab, 0, none⟩ = some (.string id) := by rw [hbw.cell hab]; exact hc
    have hF1 := answers_open (show F.answers w1.tape by rw [hbw.tape]; exact hF)
    have hz : w.heap.size ≤ w1.heap.size := hbw.size
    have hab1 : ab < w1.heap.size := by omega
    have hab2 : ab < w1.heap.size + 1 := by omega
    clear hc hh hb
    have HB : Hid (Below w.heap.size w w1) := hbw
    clear hbw
    go_wp2
    go_ret
    exact ⟨⟨_, rfl⟩, ((HB.out.alloc hz _).alloc (by simp; omega) _).drew⟩

end Go.Proofs.YbulkbwyFmt
