/-
  'zzs0145bbe' over the call's own bytes. Typed by the prover of this seat (an AI agent).
-/
import Derived.Test.YbulkbzcFmtAppends
namespace Go.Proofs.YbulkbzcFmt
open Go.RowKit
set_option maxRecDepth 100000

set_option maxHeartbeats 2000000 in
theorem be_2 {B : Nat} {w : World} {v : Value} {zs : List Int} (x : Int) (h0 : 0 ≤ x) (h1 : x < 65536) (h : Hid (Row B w v zs)) (hB : B ≤ w.heap.size) (hlen : zs.length ≤ 2000) :
    Calls Ybaf.prog 10 #[v, .int .u64 x, .int .i64 2] w fun e w' => ∃ v', e = .returned v' ∧ Row B w' v' (zs ++ b2 x) ∧ Kp B w w' := by
  have HR0 := h
  have HK0 : Hid (Kp B w w) := Kp.refl _ _
  have hB0 := hB
  clear h
  go_enter Ybaf.func10, Ybaf.ntmps10
  go_wp2_with fail
  refine wp_loop_rounds 3 ?_
  rw [rounds_succ]
  go_wp2_with (first | (at_builtin; refine wpList_row rfl _ _ rfl HR0.out hB0 [x / 256 % 256] (by simp; omega) _ ?c0 _ (by simp) _ rfl rfl rfl ?_) | go_in)
  case c0 => simp; try omega
  intro v1 w1 hr hk
  have HR1 := hidI hr
  have HK1 := hidI (HK0.out.trans hk)
  have hB1 : B ≤ w1.heap.size := Nat.le_trans hB0 hk.size
  clear hr hk HR0 HK0 hB0
  go_wp2_with fail
  rw [rounds_succ]
  go_wp2_with (first | (at_builtin; refine wpList_row rfl _ _ rfl HR1.out hB1 [x % 256] (by simp; omega) _ ?c1 _ (by simp) _ rfl rfl rfl ?_) | go_in)
  case c1 => simp; try omega
  intro v2 w2 hr hk
  have HR2 := hidI hr
  have HK2 := hidI (HK1.out.trans hk)
  have hB2 : B ≤ w2.heap.size := Nat.le_trans hB1 hk.size
  clear hr hk HR1 HK1 hB1
  go_wp2_with fail
  rw [rounds_succ]
  go_wp2
  go_ret
  exact ⟨_, rfl, by simpa [b2] using HR2.out, HK2.out⟩

set_option maxHeartbeats 2000000 in
theorem be_4 {B : Nat} {w : World} {v : Value} {zs : List Int} (x : Int) (h0 : 0 ≤ x) (h1 : x < 4294967296) (h : Hid (Row B w v zs)) (hB : B ≤ w.heap.size) (hlen : zs.length ≤ 2000) :
    Calls Ybaf.prog 10 #[v, .int .u64 x, .int .i64 4] w fun e w' => ∃ v', e = .returned v' ∧ Row B w' v' (zs ++ b4 x) ∧ Kp B w w' := by
  have HR0 := h
  have HK0 : Hid (Kp B w w) := Kp.refl _ _
  have hB0 := hB
  clear h
  go_enter Ybaf.func10, Ybaf.ntmps10
  go_wp2_with fail
  refine wp_loop_rounds 5 ?_
  rw [rounds_succ]
  go_wp2_with (first | (at_builtin; refine wpList_row rfl _ _ rfl HR0.out hB0 [x / 16777216 % 256] (by simp; omega) _ ?c0 _ (by simp) _ rfl rfl rfl ?_) | go_in)
  case c0 => simp; try omega
  intro v1 w1 hr hk
  have HR1 := hidI hr
  have HK1 := hidI (HK0.out.trans hk)
  have hB1 : B ≤ w1.heap.size := Nat.le_trans hB0 hk.size
  clear hr hk HR0 HK0 hB0
  go_wp2_with fail
  rw [rounds_succ]
  go_wp2_with (first | (at_builtin; refine wpList_row rfl _ _ rfl HR1.out hB1 [x / 65536 % 256] (by simp; omega) _ ?c1 _ (by simp) _ rfl rfl rfl ?_) | go_in)
  case c1 => simp; try omega
  intro v2 w2 hr hk
  have HR2 := hidI hr
  have HK2 := hidI (HK1.out.trans hk)
  have hB2 : B ≤ w2.heap.size := Nat.le_trans hB1 hk.size
  clear hr hk HR1 HK1 hB1
  go_wp2_with fail
  rw [rounds_succ]
  go_wp2_with (first | (at_builtin; refine wpList_row rfl _ _ rfl HR2.out hB2 [x / 256 % 256] (by simp; omega) _ ?c2 _ (by simp) _ rfl rfl rfl ?_) | go_in)
  case c2 => simp; try omega
  intro v3 w3 hr hk
  have HR3 := hidI hr
  have HK3 := hidI (HK2.out.trans hk)
  have hB3 : B ≤ w3.heap.size := Nat.le_trans hB2 hk.size
  clear hr hk HR2 HK2 hB2
  go_wp2_with fail
  rw [rounds_succ]
  go_wp2_with (first | (at_builtin; refine wpList_row rfl _ _ rfl HR3.out hB3 [x % 256] (by simp; omega) _ ?c3 _ (by simp) _ rfl rfl rfl ?_) | go_in)
  case c3 => simp; try omega
  intro v4 w4 hr hk
  have HR4 := hidI hr
  have HK4 := hidI (HK3.out.trans hk)
  have hB4 : B ≤ w4.heap.size := Nat.le_trans hB3 hk.size
  clear hr hk HR3 HK3 hB3
  go_wp2_with fail
  rw [rounds_succ]
  go_wp2
  go_ret
  exact ⟨_, rfl, by simpa [b4] using HR4.out, HK4.out⟩

set_option maxHeartbeats 2000000 in
theorem be_8 {B : Nat} {w : World} {v : Value} {zs : List Int} (x : Int) (h0 : 0 ≤ x) (h1 : x < 18446744073709551616) (h : Hid (Row B w v zs)) (hB : B ≤ w.heap.size) (hlen : zs.length ≤ 2000) :
    Calls Ybaf.prog 10 #[v, .int .u64 x, .int .i64 8] w fun e w' => ∃ v', e = .returned v' ∧ Row B w' v' (zs ++ b8 x) ∧ Kp B w w' := by
  have HR0 := h
  have HK0 : Hid (Kp B w w) := Kp.refl _ _
  have hB0 := hB
  clear h
  go_enter Ybaf.func10, Ybaf.ntmps10
  go_wp2_with fail
  refine wp_loop_rounds 9 ?_
  rw [rounds_succ]
  go_wp2_with (first | (at_builtin; refine wpList_row rfl _ _ rfl HR0.out hB0 [x / 72057594037927936 % 256] (by simp; omega) _ ?c0 _ (by simp) _ rfl rfl rfl ?_) | go_in)
  case c0 => simp; try omega
  intro v1 w1 hr hk
  have HR1 := hidI hr
  have HK1 := hidI (HK0.out.trans hk)
  have hB1 : B ≤ w1.heap.size := Nat.le_trans hB0 hk.size
  clear hr hk HR0 HK0 hB0
  go_wp2_with fail
  rw [rounds_succ]
  go_wp2_with (first | (at_builtin; refine wpList_row rfl _ _ rfl HR1.out hB1 [x / 281474976710656 % 256] (by simp; omega) _ ?c1 _ (by simp) _ rfl rfl rfl ?_) | go_in)
  case c1 => simp; try omega
  intro v2 w2 hr hk
  have HR2 := hidI hr
  have HK2 := hidI (HK1.out.trans hk)
  have hB2 : B ≤ w2.heap.size := Nat.le_trans hB1 hk.size
  clear hr hk HR1 HK1 hB1
  go_wp2_with fail
  rw [rounds_succ]
  go_wp2_with (first | (at_builtin; refine wpList_row rfl _ _ rfl HR2.out hB2 [x / 1099511627776 % 256] (by simp; omega) _ ?c2 _ (by simp) _ rfl rfl rfl ?_) | go_in)
  case c2 => simp; try omega
  intro v3 w3 hr hk
  have HR3 := hidI hr
  have HK3 := hidI (HK2.out.trans hk)
  have hB3 : B ≤ w3.heap.size := Nat.le_trans hB2 hk.size
  clear hr hk HR2 HK2 hB2
  go_wp2_with fail
  rw [rounds_succ]
  go_wp2_with (first | (at_builtin; refine wpList_row rfl _ _ rfl HR3.out hB3 [x / 4294967296 % 256] (by simp; omega) _ ?c3 _ (by simp) _ rfl rfl rfl ?_) | go_in)
  case c3 => simp; try omega
  intro v4 w4 hr hk
  have HR4 := hidI hr
  have HK4 := hidI (HK3.out.trans hk)
  have hB4 : B ≤ w4.heap.size := Nat.le_trans hB3 hk.size
  clear hr hk HR3 HK3 hB3
  go_wp2_with fail
  rw [rounds_succ]
  go_wp2_with (first | (at_builtin; refine wpList_row rfl _ _ rfl HR4.out hB4 [x / 16777216 % 256] (by simp; omega) _ ?c4 _ (by simp) _ rfl rfl rfl ?_) | go_in)
  case c4 => simp; try omega
  intro v5 w5 hr hk
  have HR5 := hidI hr
  have HK5 := hidI (HK4.out.trans hk)
  have hB5 : B ≤ w5.heap.size := Nat.le_trans hB4 hk.size
  clear hr hk HR4 HK4 hB4
  go_wp2_with fail
  rw [rounds_succ]
  go_wp2_with (first | (at_builtin; refine wpList_row rfl _ _ rfl HR5.out hB5 [x / 65536 % 256] (by simp; omega) _ ?c5 _ (by simp) _ rfl rfl rfl ?_) | go_in)
  case c5 => simp; try omega
  intro v6 w6 hr hk
  have HR6 := hidI hr
  have HK6 := hidI (HK5.out.trans hk)
  have hB6 : B ≤ w6.heap.size := Nat.le_trans hB5 hk.size
  clear hr hk HR5 HK5 hB5
  go_wp2_with fail
  rw [rounds_succ]
  go_wp2_with (first | (at_builtin; refine wpList_row rfl _ _ rfl HR6.out hB6 [x / 256 % 256] (by simp; omega) _ ?c6 _ (by simp) _ rfl rfl rfl ?_) | go_in)
  case c6 => simp; try omega
  intro v7 w7 hr hk
  have HR7 := hidI hr
  have HK7 := hidI (HK6.out.trans hk)
  have hB7 : B ≤ w7.heap.size := Nat.le_trans hB6 hk.size
  clear hr hk HR6 HK6 hB6
  go_wp2_with fail
  rw [rounds_succ]
  go_wp2_with (first | (at_builtin; refine wpList_row rfl _ _ rfl HR7.out hB7 [x % 256] (by simp; omega) _ ?c7 _ (by simp) _ rfl rfl rfl ?_) | go_in)
  case c7 => simp; try omega
  intro v8 w8 hr hk
  have HR8 := hidI hr
  have HK8 := hidI (HK7.out.trans hk)
  have hB8 : B ≤ w8.heap.size := Nat.le_trans hB7 hk.size
  clear hr hk HR7 HK7 hB7
  go_wp2_with fail
  rw [rounds_succ]
  go_wp2
  go_ret
  exact ⟨_, rfl, by simpa [b8] using HR8.out, HK8.out⟩
end Go.Proofs.YbulkbzcFmt
