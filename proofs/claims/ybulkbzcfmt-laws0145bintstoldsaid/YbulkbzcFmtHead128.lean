/-
  '(Header).AppendBinary', magic 128. Typed by the prover of this seat (an AI agent).
-/
import Derived.Test.YbulkbzcFmtHead0
namespace Go.Proofs.YbulkbzcFmt
open Go.RowKit Go.Extern.Stop Go.Stop Go.Extern
set_option maxRecDepth 100000

set_option maxHeartbeats 4000000 in
theorem ab_ok128 {B : Nat} {w : World} {v : Value} {zs : List Int} (op key ex dt vb st body opq cas : Int) (hk : 0 ≤ key ∧ key ≤ 65535) (he : 0 ≤ ex ∧ ex ≤ 255) (hv : 0 ≤ vb ∧ vb ≤ 65535) (_hst : 0 ≤ st ∧ st ≤ 65535)
    (hbo : 0 ≤ body ∧ body ≤ 4294967295) (ho : 0 ≤ opq ∧ opq ≤ 4294967295) (hca : 0 ≤ cas ∧ cas ≤ 18446744073709551615) (h : 0 + ex + key ≤ body) (hr : Hid (Row B w v zs)) (hB : B ≤ w.heap.size) (hlen : zs.length ≤ 1200) :
    Calls Ybaf.prog 21 #[.agg #[.int .u8 128, .int .u8 op, .int .u8 0, .int .u16 key, .int .u8 ex, .int .u8 dt, .int .u16 vb, .int .u16 st, .int .u32 body, .int .u32 opq, .int .u64 cas], v] w fun e w' => ∃ v', e = .returned (.tuple #[v', .nilIface]) ∧ Row B w' v' (zs ++ headB 128 op 0 key ex dt vb st body opq cas) ∧ Kp B w w' := by
  have HA := hidI ((Below.refl w.heap.size w).alloc (Nat.le_refl _) (.cells #[.int .u8 128, .int .u8 op, .int .u8 0, .int .u16 key, .int .u8 ex, .int .u8 dt, .int .u16 vb, .int .u16 st, .int .u32 body, .int .u32 opq, .int .u64 cas] 29))
  have HX0 : Hid (BoxAt (w.alloc (.cells #[.int .u8 128, .int .u8 op, .int .u8 0, .int .u16 key, .int .u8 ex, .int .u8 dt, .int .u16 vb, .int .u16 st, .int .u32 body, .int .u32 opq, .int .u64 cas] 29)) w.heap.size 128 op 0 key ex dt vb st body opq cas) := heap_alloc_new w _
  have HC := hidI (check_ok 128 op 0 key ex dt vb st body opq cas (w.alloc (.cells #[.int .u8 128, .int .u8 op, .int .u8 0, .int .u16 key, .int .u8 ex, .int .u8 dt, .int .u16 vb, .int .u16 st, .int .u32 body, .int .u32 opq, .int .u64 cas] 29)) (by omega) (by omega) he (by omega) ⟨by omega, by omega, h⟩)
  obtain ⟨H, hH⟩ : ∃ H, H = w.heap.size := ⟨_, rfl⟩
  go_enter Ybaf.func21, Ybaf.ntmps21
  go_wp2_with fail
  refine HC.out.mono ?_
  rintro e w1 ⟨rfl, hb⟩
  have HX1 := hidI (HX0.out.kp (Kp.of_below (B := B) hb))
  have HK1 := hidI ((Kp.of_below (B := B) HA.out).trans (Kp.of_below hb))
  have HR1 := hidI (hr.out.below (HA.out.trans (hb.mono (by simp))))
  have hB1 : B ≤ w1.heap.size := Nat.le_trans hB HK1.out.size
  have d0 := HX1.out.c0
  have d1 := HX1.out.c1
  have d6 := HX1.out.c6
  have d7 := HX1.out.c7
  clear HC hb HX0 HA hr
  go_wp2_with (first | (at_builtin; refine wpList_row rfl _ _ rfl HR1.out hB1 [128, op] (by simp; omega) _ rfl _ rfl _ rfl rfl rfl ?_) | go_in)
  clear d0 d1 d6 d7
  intro v2 w2 hr hk'
  have HX2 := hidI (HX1.out.kp hk')
  have HK2 := hidI (HK1.out.trans hk')
  have HR2 := hidI hr
  have hB2 : B ≤ w2.heap.size := Nat.le_trans hB1 hk'.size
  clear hr hk' HX1 HK1 HR1 hB1
  have d0 := HX2.out.c0
  have d3 := HX2.out.c3
  go_wp2_with fail
  refine (app16 key (by omega) (by omega) HR2 hB2 (by simp; omega)).mono ?_
  clear d0 d3
  rintro e w3 ⟨v3, rfl, hr, hk'⟩
  have HX3 := hidI (HX2.out.kp hk')
  have HK3 := hidI (HK2.out.trans hk')
  have HR3 := hidI hr
  have hB3 : B ≤ w3.heap.size := Nat.le_trans hB2 hk'.size
  clear hr hk' HX2 HK2 HR2 hB2
  have d4 := HX3.out.c4
  have d5 := HX3.out.c5
  go_wp2_with (first | (at_builtin; refine wpList_row rfl _ _ rfl HR3.out hB3 [ex, dt] (by simp [b2]; omega) _ rfl _ rfl _ rfl rfl rfl ?_) | go_in)
  clear d4 d5
  intro v4 w4 hr hk'
  have HX4 := hidI (HX3.out.kp hk')
  have HK4 := hidI (HK3.out.trans hk')
  have HR4 := hidI hr
  have hB4 : B ≤ w4.heap.size := Nat.le_trans hB3 hk'.size
  clear hr hk' HX3 HK3 HR3 hB3
  go_wp2_with fail
  refine (app16 vb (by omega) (by omega) HR4 hB4 (by simp [b2]; omega)).mono ?_
  rintro e w5 ⟨v5, rfl, hr, hk'⟩
  have HX5 := hidI (HX4.out.kp hk')
  have HK5 := hidI (HK4.out.trans hk')
  have HR5 := hidI hr
  have hB5 : B ≤ w5.heap.size := Nat.le_trans hB4 hk'.size
  clear hr hk' HX4 HK4 HR4 hB4
  have d8 := HX5.out.c8
  go_wp2_with fail
  refine (app32 body (by omega) (by omega) HR5 hB5 (by simp [b2]; omega)).mono ?_
  clear d8
  rintro e w6 ⟨v6, rfl, hr, hk'⟩
  have HX6 := hidI (HX5.out.kp hk')
  have HK6 := hidI (HK5.out.trans hk')
  have HR6 := hidI hr
  have hB6 : B ≤ w6.heap.size := Nat.le_trans hB5 hk'.size
  clear hr hk' HX5 HK5 HR5 hB5
  have d9 := HX6.out.c9
  go_wp2_with fail
  refine (app32 opq (by omega) (by omega) HR6 hB6 (by simp [b2, b4]; omega)).mono ?_
  clear d9
  rintro e w7 ⟨v7, rfl, hr, hk'⟩
  have HX7 := hidI (HX6.out.kp hk')
  have HK7 := hidI (HK6.out.trans hk')
  have HR7 := hidI hr
  have hB7 : B ≤ w7.heap.size := Nat.le_trans hB6 hk'.size
  clear hr hk' HX6 HK6 HR6 hB6
  have d10 := HX7.out.c10
  go_wp2_with fail
  refine (app64 cas (by omega) (by omega) HR7 hB7 (by simp [b2, b4]; omega)).mono ?_
  clear d10
  rintro e w8 ⟨v8, rfl, hr, hk'⟩
  have HX8 := hidI (HX7.out.kp hk')
  have HK8 := hidI (HK7.out.trans hk')
  have HR8 := hidI hr
  have hB8 : B ≤ w8.heap.size := Nat.le_trans hB7 hk'.size
  clear hr hk' HX7 HK7 HR7 hB7
  go_wp2
  go_ret2
  refine ⟨_, rfl, ?_, HK8.out⟩
  have := HR8.out
  simpa [headB] using this

end Go.Proofs.YbulkbzcFmt
