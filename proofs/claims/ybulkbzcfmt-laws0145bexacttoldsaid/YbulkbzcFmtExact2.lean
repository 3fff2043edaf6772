/-
  'LawS0145BExact': the frame, way 2. Typed by the prover of this seat (an AI agent).
-/
import Derived.Test.YbulkbzcFmtExact0
namespace Go.Proofs.YbulkbzcFmt
open Go.RowKit Go.Extern.Stop Go.Stop Go.Extern
set_option maxRecDepth 100000

attribute [local simp] lb2 lb4 lb8

set_option maxHeartbeats 8000000 in
theorem exact_ok2 {zs : List Int} (b : Value) (sel op dt vb st opq cas ex key val : Int) (w : World)
    (HM : Hid (∀ W, Calls Ybaf.prog 5 #[.int .u8 sel] W fun e w' => e = .returned (.int .u8 128) ∧ w' = W)) (hb : Hid (Seen w b zs)) (hlen : zs.length ≤ 1024)
    (hv : 0 ≤ vb ∧ vb ≤ 65535) (hst : 0 ≤ st ∧ st ≤ 65535) (ho : 0 ≤ opq ∧ opq ≤ 4294967295) (hca : 0 ≤ cas ∧ cas ≤ 18446744073709551615) 
    (he : 0 ≤ ex ∧ ex ≤ 255) (hk : 0 ≤ key ∧ key ≤ 65535) (hva : 0 ≤ val ∧ val ≤ 4294967295) (hbig : ¬ 4294967295 < ex + key + val) :
    Calls Ybaf.prog 3 #[b, .int .u8 sel, .int .u8 op, .int .u8 dt, .int .u16 vb, .int .u16 st, .int .u32 opq, .int .u64 cas, .int .u16 0, .int .u8 ex, .int .u16 key, .int .u32 val] w fun e w' => e = .returned (.bool true) ∧ Below w.heap.size w w' := by
  obtain ⟨ab, cb, rfl, _, _⟩ := hb.out
  have hn : ¬ (1024 : Int) < (zs.length : Int) := by omega
  have HA := hidI ((Below.refl w.heap.size w).alloc (Nat.le_refl _) (.cells #[.int .u8 128, .int .u8 op, .int .u8 0, .int .u16 0, .int .u8 0, .int .u8 dt, .int .u16 vb, .int .u16 st, .int .u32 0, .int .u32 opq, .int .u64 cas] 29))
  have HX0 : Hid (BoxAt (w.alloc (.cells #[.int .u8 128, .int .u8 op, .int .u8 0, .int .u16 0, .int .u8 0, .int .u8 dt, .int .u16 vb, .int .u16 st, .int .u32 0, .int .u32 opq, .int .u64 cas] 29)) w.heap.size 128 op 0 0 0 dt vb st 0 opq cas) := heap_alloc_new w _
  have ef : fg 0 = 0 := by simp [fg]
  have em : mg 128 0 = 128 := by simp [mg]
  have HBG : Hid (¬ Big (fg 0) ex key val) := fun h => by rw [ef] at h; have := (big_small (by omega) he hk hva).1 h; omega
  have HGD : Hid (Good (mg 128 0) (fg 0) ex key val) := by
    show Good _ _ _ _ _
    rw [ef, em, good_small (by omega) he hk hva (by omega)]
    omega
  go_enter Ybaf.func3, Ybaf.ntmps3
  go_wp2_with fail
  refine (HM.out _).mono ?_
  rintro e wm ⟨rfl, hw⟩
  rw [hw]
  clear hw wm
  go_wp2_with fail
  refine (copy_any (hidI (hb.out.below HA.out)) hlen).mono ?_
  rintro e w1 ⟨bc, rfl, hr, hbl⟩
  have HX := hidI (HX0.out.kp (Kp.of_below (B := 0) hbl))
  have HB1 := hidI (HA.out.trans (hbl.mono (by simp)))
  have HR1 := hidI hr
  have hsz : (w.alloc (.cells #[.int .u8 128, .int .u8 op, .int .u8 0, .int .u16 0, .int .u8 0, .int .u8 dt, .int .u16 vb, .int .u16 st, .int .u32 0, .int .u32 opq, .int .u64 cas] 29)).heap.size ≤ w1.heap.size := hbl.size
  clear hr hbl HM HX0
  have d0 := HX.out.c0
  have d1 := HX.out.c1
  have d2 := HX.out.c2
  have d3 := HX.out.c3
  have d4 := HX.out.c4
  have d5 := HX.out.c5
  have d6 := HX.out.c6
  have d7 := HX.out.c7
  have d8 := HX.out.c8
  have d9 := HX.out.c9
  have d10 := HX.out.c10
  go_wp2_with fail
  refine (stream_ok bc 128 op 0 0 0 dt vb st 0 opq cas 0 ex key val w1 hv hst ho hca (by omega) (by omega) (not_long he hk) HBG.out HGD.out HR1 hsz (by omega)).mono ?_
  rintro e w2 ⟨out, rfl, hr, hk'⟩
  have HB2 := hidI (HB1.out.trans ((hk'.below hsz).mono (by simp)))
  have HR2 : Hid (Row (w.heap.size + 1) w2 out (zs ++ headB 128 op 0 key ex dt vb st (ex + key + val) opq cas ++ [])) := hidI <| by
    have := hr
    rw [ef, em, total_small (by omega) he hk hva, u32_id (by omega) (by omega), u16_id hk.1 hk.2, u8_id he.1 he.2, u8_id (x := 0) (by omega) (by omega)] at this
    simpa [tailB] using this
  clear d0 d1 d2 d3 d4 d5 d6 d7 d8 d9 d10 hr hk' HX HR1 HB1 HA hsz HBG HGD ef em
  go_wp2_with fail
  refine (copy_any (hidI (hb.out.below HB2.out)) hlen).mono ?_
  rintro e w3 ⟨v3, rfl, hr, hbl⟩
  have HR3 := hidI hr
  have HK3 := hidI (Kp.of_below (B := w2.heap.size) hbl)
  have hB3 : w2.heap.size ≤ w3.heap.size := hbl.size
  clear hr hbl
  go_wp2_with (first | (at_builtin; refine wpList_row rfl _ _ rfl HR3.out hB3 [128, op] (by simp; omega) _ rfl _ rfl _ rfl rfl rfl ?_) | go_in)
  intro v4 w4 hr hk'
  have HR4 := hidI hr
  have HK4 := hidI (HK3.out.trans hk')
  have hB4 : w2.heap.size ≤ w4.heap.size := Nat.le_trans hB3 hk'.size
  clear hr hk' HR3 HK3 hB3
  go_wp2_with fail
  refine (be_2 key (by omega) (by omega) HR4 hB4 (by simp; omega)).mono ?_
  rintro e w5 ⟨v5, rfl, hr, hk'⟩
  have HR5 := hidI hr
  have HK5 := hidI (HK4.out.trans hk')
  have hB5 : w2.heap.size ≤ w5.heap.size := Nat.le_trans hB4 hk'.size
  clear hr hk' HR4 HK4 hB4
  go_wp2_with (first | (at_builtin; refine wpList_row rfl _ _ rfl HR5.out hB5 [ex, dt] (by simp; omega) _ rfl _ rfl _ rfl rfl rfl ?_) | go_in)
  intro v6 w6 hr hk'
  have HR6 := hidI hr
  have HK6 := hidI (HK5.out.trans hk')
  have hB6 : w2.heap.size ≤ w6.heap.size := Nat.le_trans hB5 hk'.size
  clear hr hk' HR5 HK5 hB5
  go_wp2_with fail
  refine (be_2 vb (by omega) (by omega) HR6 hB6 (by simp; omega)).mono ?_
  rintro e w7 ⟨v7, rfl, hr, hk'⟩
  have HR7 := hidI hr
  have HK7 := hidI (HK6.out.trans hk')
  have hB7 : w2.heap.size ≤ w7.heap.size := Nat.le_trans hB6 hk'.size
  clear hr hk' HR6 HK6 hB6
  go_wp2_with fail
  refine (be_4 (ex + key + val) (by omega) (by omega) HR7 hB7 (by simp; omega)).mono ?_
  rintro e w8 ⟨v8, rfl, hr, hk'⟩
  have HR8 := hidI hr
  have HK8 := hidI (HK7.out.trans hk')
  have hB8 : w2.heap.size ≤ w8.heap.size := Nat.le_trans hB7 hk'.size
  clear hr hk' HR7 HK7 hB7
  go_wp2_with fail
  refine (be_4 opq (by omega) (by omega) HR8 hB8 (by simp; omega)).mono ?_
  rintro e w9 ⟨v9, rfl, hr, hk'⟩
  have HR9 := hidI hr
  have HK9 := hidI (HK8.out.trans hk')
  have hB9 : w2.heap.size ≤ w9.heap.size := Nat.le_trans hB8 hk'.size
  clear hr hk' HR8 HK8 hB8
  go_wp2_with fail
  refine (be_8 cas (by omega) (by omega) HR9 hB9 (by simp; omega)).mono ?_
  rintro e w10 ⟨v10, rfl, hr, hk'⟩
  have HR10 := hidI hr
  have HK10 := hidI (HK9.out.trans hk')
  have hB10 : w2.heap.size ≤ w10.heap.size := Nat.le_trans hB9 hk'.size
  clear hr hk' HR9 HK9 hB9
  have HBe := hidI (HK10.out.below (Nat.le_refl _))
  have HS1 := hidI (HR2.out.below HBe.out).seen
  have HS2 : Hid (Seen w10 v10 (zs ++ headB 128 op 0 key ex dt vb st (ex + key + val) opq cas ++ [])) := hidI <| by
    have := HR10.out.seen
    simpa [headB] using this
  have HBw := hidI (HB2.out.trans (HBe.out.mono HB2.out.size))
  clear HR10 HK10 HR2 HBe
  go_wp2_with fail
  refine (beq_same HS1 HS2 (by simp [headB_length]; omega)).mono ?_
  rintro e wz ⟨rfl, hbl⟩
  have HB3 := hidI (HBw.out.trans (hbl.mono HBw.out.size))
  clear hbl
  go_wp2
  go_ret
  exact ⟨rfl, HB3.out⟩

end Go.Proofs.YbulkbzcFmt
