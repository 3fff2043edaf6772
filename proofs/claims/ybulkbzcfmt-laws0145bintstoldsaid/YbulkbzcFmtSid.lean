/-
  'appendStreamID'. Typed by the prover of this seat (an AI agent).
-/
import Derived.Test.YbulkbzcFmtSmall
import Derived.Deep.RegionLaw
namespace Go.Proofs.YbulkbzcFmt
open Go.RowKit
set_option maxRecDepth 100000

set_option maxHeartbeats 1000000 in
theorem sid_any {B : Nat} {w : World} {v : Value} {zs : List Int} (x : Int) (h0 : 0 ≤ x) (h1 : x < 65536) (h : Hid (Row B w v zs)) (hB : B ≤ w.heap.size) (hlen : zs.length ≤ 1500) :
    Calls Ybaf.prog 13 #[v, .int .u16 x] w fun e w' => ∃ v', e = .returned v' ∧ Row B w' v' (zs ++ [34] ++ b2 x) ∧ Kp B w w' := by
  go_enter Ybaf.func13, Ybaf.ntmps13
  go_wp2
  go_region_law (first | (refine step_row rfl (.tmp 6) (.tmp 7) rfl (w := w.drew) h.out hB [34] (by simp; omega) rfl _ rfl _ rfl rfl rfl ?_; intro v1 w1 hr hk; have HR := hidI hr; have HK := hidI hk; clear hr hk) | (refine step_go Ybaf.func22 (by kernel_rfl) rfl rfl [.tmp 5, .tmp 8, .tmp 9] _ rfl [.agg #[], v1, .int .u16 x] rfl _ (app16 x h0 h1 HR (Nat.le_trans hB HK.out.size) (by simp; omega)) ?_; rintro v2 w2 ⟨hr, hk⟩; have HR2 := hidI hr; have HK2 := hidI hk; clear hr hk))
  all_goals go_wp2
  all_goals go_ret
  all_goals exact ⟨_, rfl, HR2.out, (Kp.of_below (Below.refl _ _).drew).trans (HK.out.trans HK2.out)⟩
end Go.Proofs.YbulkbzcFmt
