/-
  'zzs0145bmagic', 'zzs0145bcopy', 'zzs0145beq', 'appendStreamID'. Typed by the prover of this seat (an AI agent).
-/
import Derived.Test.YbulkbzcFmtAppends
import Derived.BigQuiet
import Derived.Deep.RegionWith
import Derived.Laws.CopyOwn
namespace Go.Proofs.YbulkbzcFmt
open Go.RowKit
set_option maxRecDepth 100000

theorem below_drewN {B : Nat} {a w : World} (h : Below B a w) (n : Nat) : Below B a (w.drewN n) := h.trans ⟨rfl, rfl, rfl, Nat.le_refl _, fun _ _ => rfl⟩

def magicOf (sel : Int) : Int := if sel % 4 = 0 then 128 else if sel % 4 = 1 then 129 else if sel % 4 = 2 then 8 else sel

theorem magic_any (sel : Int) (h0 : 0 ≤ sel) (w : World) : Calls Ybaf.prog 5 #[.int .u8 sel] w fun e w' => e = .returned (.int .u8 (magicOf sel)) ∧ w' = w := by
  have hm : sel.tmod 4 = sel % 4 := Int.tmod_eq_emod_of_nonneg h0
  unfold magicOf
  go_enter Ybaf.func5, Ybaf.ntmps5
  go_wp2
  all_goals go_ret
  all_goals simp_all

set_option maxHeartbeats 1000000 in
theorem beq_same {w : World} {u v : Value} {zs : List Int} (hu : Hid (Seen w u zs)) (hv : Hid (Seen w v zs)) (hlen : zs.length ≤ 5000) :
    Calls Ybaf.prog 9 #[u, v] w fun e w' => e = .returned (.bool true) ∧ Below w.heap.size w w' := by
  obtain ⟨a, c, rfl, _, ha⟩ := hu.out
  obtain ⟨a', c', rfl, _, ha'⟩ := hv.out
  have HA := hidI ha
  have HA' := hidI ha'
  clear ha ha' hu hv
  go_enter Ybaf.func9, Ybaf.ntmps9
  go_wp2_with fail
  go_loopw [5] (fun s wr => ∃ k : Nat, k ≤ zs.length ∧ s = .int .i64 k ∧ Below w.heap.size w wr) (fun s _ => zs.length - (intOf s).toNat)
  case atStart => exact ⟨0, by omega, rfl, Below.refl _ _⟩
  case round =>
    obtain ⟨k, hk, rfl, hb⟩ := hrel
    have HB := hidI hb
    clear hb
    by_cases hlt : k < zs.length
    · obtain ⟨b, o, rfl, hc⟩ := HA.out k hlt
      obtain ⟨b', o', rfl, hc'⟩ := HA'.out k hlt
      have q1 : wr.cell? ⟨b, o + k, none⟩ = some (.int .u8 (zs.getD k 0)) := by rw [HB.out.cell (World.block_lt_of_cell? w _ hc)]; exact hc
      have q2 : wr.cell? ⟨b', o' + k, none⟩ = some (.int .u8 (zs.getD k 0)) := by rw [HB.out.cell (World.block_lt_of_cell? w _ hc')]; exact hc'
      clear hc hc'
      generalize zs.getD k 0 = z at q1 q2
      have hlt' : (k : Int) < (zs.length : Int) := by omega
      go_wp2
      go_quiet (fail)
      all_goals go_wp2
      all_goals go_roundw
      case rel => exact ⟨k + 1, by omega, by go_num, below_drewN HB.out _⟩
      case measure => simp [intOf]; omega
    · have hge : ¬ (k : Int) < (zs.length : Int) := by omega
      go_wp2
      go_ret
      exact ⟨rfl, HB.out⟩
end Go.Proofs.YbulkbzcFmt
