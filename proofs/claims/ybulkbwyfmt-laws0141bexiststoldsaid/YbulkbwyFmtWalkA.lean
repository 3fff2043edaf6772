/-
  The walks of 'has' and 'check'. Typed by the prover of this seat (an AI agent).
-/
import Derived.Test.YbulkbwyFmtFacts
import Derived.Deep.QuietTactic
import Derived.BigQuiet
namespace Go.Proofs.YbulkbwyFmt
open Go.RowKit Go.Extern.Stop Go.Stop Go.Extern Go.MapFn
set_option maxRecDepth 100000

set_option maxHeartbeats 800000 in
theorem has_staged (p : Value) (bst n : Nat) (id : ByteArray) (g : Value → Option Value) (h : Bool) (w : World) (hid : id.size ≤ maxLen)
    (hst : MapIs Ybaf.prog 32 w bst n g) (hg : g (nameV 0 id) = some (.bool h)) :
    Calls Ybaf.prog 7 #[.agg #[p, .map (some bst)], .agg #[.int .i64 0, .string id]] w fun e w' =>
      e = .returned (.bool h) ∧ Below w.heap.size w w' := by
  obtain ⟨l, hl⟩ := keyN (k := 0) (s := id) (by decide) hid
  have hlook : ∀ o1 o2, (Instr.lookup 27 (.map (some bst)) (.agg #[.int .i64 0, .string id]) true).run Ybaf.prog ((w.alloc o1).alloc o2) = .ok (.tuple #[.bool h, .bool true]) ((w.alloc o1).alloc o2) := by
    intro o1 o2
    have := ((hst.alloc o1).alloc o2).look_ok lawN Ybaf.underlying27 (zero4 _) hl
    rw [hg] at this
    exact this
  clear hl hst hg
  go_enter Ybaf.func7, Ybaf.ntmps7
  go_wp2
  go_ret
  exact ⟨rfl, ((Below.refl _ _).alloc (Nat.le_refl _) _).alloc (by simp) _⟩

set_option maxHeartbeats 800000 in
theorem has_api (sb bst bm n n' : Nat) (id : ByteArray) (f g : Value → Option Value) (w : World) (hid : id.size ≤ maxLen)
    (hst : MapIs Ybaf.prog 32 w bst n g) (hg : g (nameV 0 id) = none) (hm : MapIs Ybaf.prog 9 w bm n' f)
    (hsb : sb < w.heap.size) (hc : w.cell? ⟨sb, 8, none⟩ = some (.map (some bm))) :
    Calls Ybaf.prog 7 #[.agg #[.pointer (some ⟨sb, 0, none⟩), .map (some bst)], .agg #[.int .i64 0, .string id]] w fun e w' =>
      e = .returned (.bool (f (.string id)).isSome) ∧ Below w.heap.size w w' := by
  obtain ⟨l, hl⟩ := keyN (k := 0) (s := id) (by decide) hid
  have hlook : ∀ o1 o2, (Instr.lookup 27 (.map (some bst)) (.agg #[.int .i64 0, .string id]) true).run Ybaf.prog ((w.alloc o1).alloc o2) = .ok (.tuple #[.bool false, .bool false]) ((w.alloc o1).alloc o2) := by
    intro o1 o2
    have := ((hst.alloc o1).alloc o2).look_ok lawN Ybaf.underlying27 (zero4 _) hl
    rw [hg] at this
    exact this
  have hlook2 : ∀ o1 o2 nq, (Instr.lookup 24 (.map (some bm)) (.string id) true).run Ybaf.prog (((w.alloc o1).alloc o2).drewN nq) = .ok (.tuple #[(f (.string id)).getD (.agg #[.string ⟨#[]⟩, .string ⟨#[]⟩, .int .i64 0]), .bool (f (.string id)).isSome]) (((w.alloc o1).alloc o2).drewN nq) := by
    intro o1 o2 nq
    exact (((hm.alloc o1).alloc o2).same (w' := ((w.alloc o1).alloc o2).drewN nq) rfl).look_ok lawS Ybaf.underlying24 (zero26 _) (keyS hid)
  have hsb1 : sb < w.heap.size + 1 := by omega
  clear hl hst hg hm
  go_enter Ybaf.func7, Ybaf.ntmps7
  go_wp2
  go_quiet (fail)
  go_wp2
  go_ret
  exact ⟨rfl, below_drewN ((Below.refl _ _).alloc (Nat.le_refl _) _ |>.alloc (by simp) _) _⟩

end Go.Proofs.YbulkbwyFmt
