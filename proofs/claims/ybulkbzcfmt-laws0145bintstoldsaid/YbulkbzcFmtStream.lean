/-
  'appendStreamHead'. Typed by the prover of this seat (an AI agent).
-/
import Derived.Test.YbulkbzcFmtSized
import Derived.Test.YbulkbzcFmtSid
namespace Go.Proofs.YbulkbzcFmt
open Go.RowKit Go.Extern.Stop Go.Stop Go.Extern
set_option maxRecDepth 100000

set_option maxHeartbeats 2000000 in
theorem head0_bad {a : Addr} (v : Value) (m op x2 x3 x4 dt vb st x8 opq cas ex key val : Int) (w : World)
    (hC : Hid (∀ W, Below w.heap.size w W → Calls Ybaf.prog 12 #[.agg #[.int .u8 m, .int .u8 op, .int .u8 x2, .int .u16 x3, .int .u8 x4, .int .u8 dt, .int .u16 vb, .int .u16 st, .int .u32 x8, .int .u32 opq, .int .u64 cas], v, .int .i64 0, .int .i64 ex, .int .i64 key, .int .i64 val] W fun e w' => ∃ ev, e = .returned (.tuple #[v, ev]) ∧ Bad W a ev w')) :
    Calls Ybaf.prog 7 #[v, .agg #[.int .u8 m, .int .u8 op, .int .u8 x2, .int .u16 x3, .int .u8 x4, .int .u8 dt, .int .u16 vb, .int .u16 st, .int .u32 x8, .int .u32 opq, .int .u64 cas], .int .u16 0, .int .i64 ex, .int .i64 key, .int .i64 val] w fun e w' => ∃ ev, e = .returned (.tuple #[v, ev]) ∧ Bad w a ev w' := by
  have HA := hidI ((Below.refl w.heap.size w).alloc (Nat.le_refl _) (.cells #[.int .u8 m, .int .u8 op, .int .u8 x2, .int .u16 x3, .int .u8 x4, .int .u8 dt, .int .u16 vb, .int .u16 st, .int .u32 x8, .int .u32 opq, .int .u64 cas] 29))
  go_enter Ybaf.func7, Ybaf.ntmps7
  go_wp2_with fail
  refine (hC.out _ HA.out).mono ?_
  rintro e w1 ⟨ev, rfl, pb, rfl, hc, hb⟩
  have HB := hidI (HA.out.trans (hb.mono (by simp)))
  have HX := hidI hc
  clear hC hb hc
  go_wp2
  go_ret2
  exact ⟨_, rfl, pb, rfl, HX.out, HB.out⟩

set_option maxHeartbeats 2000000 in
theorem head3_bad {a : Addr} (v : Value) (m op x2 x3 x4 dt vb st x8 opq cas id ex key val : Int) (w : World) (hid : id ≠ 0)
    (hC : Hid (∀ W, Below w.heap.size w W → Calls Ybaf.prog 12 #[.agg #[.int .u8 8, .int .u8 op, .int .u8 x2, .int .u16 x3, .int .u8 x4, .int .u8 dt, .int .u16 vb, .int .u16 st, .int .u32 x8, .int .u32 opq, .int .u64 cas], v, .int .i64 3, .int .i64 ex, .int .i64 key, .int .i64 val] W fun e w' => ∃ ev, e = .returned (.tuple #[v, ev]) ∧ Bad W a ev w')) :
    Calls Ybaf.prog 7 #[v, .agg #[.int .u8 m, .int .u8 op, .int .u8 x2, .int .u16 x3, .int .u8 x4, .int .u8 dt, .int .u16 vb, .int .u16 st, .int .u32 x8, .int .u32 opq, .int .u64 cas], .int .u16 id, .int .i64 ex, .int .i64 key, .int .i64 val] w fun e w' => ∃ ev, e = .returned (.tuple #[v, ev]) ∧ Bad w a ev w' := by
  have HA := hidI ((Below.refl w.heap.size w).alloc (Nat.le_refl _) (.cells #[.int .u8 8, .int .u8 op, .int .u8 x2, .int .u16 x3, .int .u8 x4, .int .u8 dt, .int .u16 vb, .int .u16 st, .int .u32 x8, .int .u32 opq, .int .u64 cas] 29))
  have hid' : (id == 0) = false := beq_eq_false_iff_ne.2 hid
  go_enter Ybaf.func7, Ybaf.ntmps7
  go_wp2_with fail
  refine (hC.out _ HA.out).mono ?_
  rintro e w1 ⟨ev, rfl, pb, rfl, hc, hb⟩
  have HB := hidI (HA.out.trans (hb.mono (by simp)))
  have HX := hidI hc
  clear hC hb hc
  go_wp2
  go_ret2
  exact ⟨_, rfl, pb, rfl, HX.out, HB.out⟩

set_option maxHeartbeats 2000000 in
theorem head0_ok {B : Nat} {L : List Int} (v : Value) (m op x2 x3 x4 dt vb st x8 opq cas ex key val : Int) (w : World)
    (hC : Hid (∀ W, Below w.heap.size w W → Calls Ybaf.prog 12 #[.agg #[.int .u8 m, .int .u8 op, .int .u8 x2, .int .u16 x3, .int .u8 x4, .int .u8 dt, .int .u16 vb, .int .u16 st, .int .u32 x8, .int .u32 opq, .int .u64 cas], v, .int .i64 0, .int .i64 ex, .int .i64 key, .int .i64 val] W fun e w' => ∃ v', e = .returned (.tuple #[v', .nilIface]) ∧ Row B w' v' L ∧ Kp B W w')) :
    Calls Ybaf.prog 7 #[v, .agg #[.int .u8 m, .int .u8 op, .int .u8 x2, .int .u16 x3, .int .u8 x4, .int .u8 dt, .int .u16 vb, .int .u16 st, .int .u32 x8, .int .u32 opq, .int .u64 cas], .int .u16 0, .int .i64 ex, .int .i64 key, .int .i64 val] w fun e w' => ∃ v', e = .returned (.tuple #[v', .nilIface]) ∧ Row B w' v' L ∧ Kp B w w' := by
  have HA := hidI ((Below.refl w.heap.size w).alloc (Nat.le_refl _) (.cells #[.int .u8 m, .int .u8 op, .int .u8 x2, .int .u16 x3, .int .u8 x4, .int .u8 dt, .int .u16 vb, .int .u16 st, .int .u32 x8, .int .u32 opq, .int .u64 cas] 29))
  go_enter Ybaf.func7, Ybaf.ntmps7
  go_wp2_with fail
  refine (hC.out _ HA.out).mono ?_
  rintro e w1 ⟨v', rfl, hr, hk⟩
  have HR := hidI hr
  have HK := hidI ((Kp.of_below HA.out).trans hk)
  clear hC hr hk
  go_wp2
  go_ret2
  exact ⟨_, rfl, HR.out, HK.out⟩

set_option maxHeartbeats 2000000 in
theorem head3_ok {B : Nat} {L : List Int} (v : Value) (m op x2 x3 x4 dt vb st x8 opq cas id ex key val : Int) (w : World) (hid : id ≠ 0) (h0 : 0 ≤ id) (h1 : id < 65536) (hB : B ≤ w.heap.size) (hlen : L.length ≤ 1500)
    (hC : Hid (∀ W, Below w.heap.size w W → Calls Ybaf.prog 12 #[.agg #[.int .u8 8, .int .u8 op, .int .u8 x2, .int .u16 x3, .int .u8 x4, .int .u8 dt, .int .u16 vb, .int .u16 st, .int .u32 x8, .int .u32 opq, .int .u64 cas], v, .int .i64 3, .int .i64 ex, .int .i64 key, .int .i64 val] W fun e w' => ∃ v', e = .returned (.tuple #[v', .nilIface]) ∧ Row B w' v' L ∧ Kp B W w')) :
    Calls Ybaf.prog 7 #[v, .agg #[.int .u8 m, .int .u8 op, .int .u8 x2, .int .u16 x3, .int .u8 x4, .int .u8 dt, .int .u16 vb, .int .u16 st, .int .u32 x8, .int .u32 opq, .int .u64 cas], .int .u16 id, .int .i64 ex, .int .i64 key, .int .i64 val] w fun e w' => ∃ v', e = .returned (.tuple #[v', .nilIface]) ∧ Row B w' v' (L ++ [34] ++ b2 id) ∧ Kp B w w' := by
  have HA := hidI ((Below.refl w.heap.size w).alloc (Nat.le_refl _) (.cells #[.int .u8 8, .int .u8 op, .int .u8 x2, .int .u16 x3, .int .u8 x4, .int .u8 dt, .int .u16 vb, .int .u16 st, .int .u32 x8, .int .u32 opq, .int .u64 cas] 29))
  have hid' : (id == 0) = false := beq_eq_false_iff_ne.2 hid
  go_enter Ybaf.func7, Ybaf.ntmps7
  go_wp2_with fail
  refine (hC.out _ HA.out).mono ?_
  rintro e w1 ⟨v', rfl, hr, hk⟩
  have HR := hidI hr
  have HK := hidI ((Kp.of_below HA.out).trans hk)
  clear hC hr hk
  go_wp2_with fail
  refine (sid_any id h0 h1 HR (Nat.le_trans hB HK.out.size) hlen).mono ?_
  rintro e w2 ⟨v2, rfl, hr, hk⟩
  have HR2 := hidI hr
  have HK2 := hidI (HK.out.trans hk)
  clear hr hk HR HK
  go_wp2
  go_ret2
  exact ⟨_, rfl, HR2.out, HK2.out⟩
end Go.Proofs.YbulkbzcFmt
