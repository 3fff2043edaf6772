/-
  'LawS0145BExact': the refusals. Typed by the prover of this seat (an AI agent).
-/
import Derived.Test.YbulkbzcFmtExact0
namespace Go.Proofs.YbulkbzcFmt
open Go.RowKit Go.Extern.Stop Go.Stop Go.Extern
set_option maxRecDepth 100000

set_option maxHeartbeats 8000000 in
theorem exact_big0 (F : Interp) {N : Nat} {a0 a1 : Addr} {s0 s1 : ByteArray} {zs : List Int} (b : Value) (sel m op dt vb st opq cas ex key val : Int) (w : World) (hF : F.answers w.tape) (hG : Hid (Gl N w a0 a1 s0 s1)) (hN : N ≤ w.heap.size)
    (HM : Hid (∀ W, Calls Ybaf.prog 5 #[.int .u8 sel] W fun e w' => e = .returned (.int .u8 m) ∧ w' = W)) (hb : Hid (Seen w b zs)) (hlen : zs.length ≤ 1024)
    
    (he : 0 ≤ ex ∧ ex ≤ 255) (hk : 0 ≤ key ∧ key ≤ 65535) (hva : 0 ≤ val ∧ val ≤ 4294967295) (hbig : 4294967295 < ex + key + val) :
    Calls Ybaf.prog 3 #[b, .int .u8 sel, .int .u8 op, .int .u8 dt, .int .u16 vb, .int .u16 st, .int .u32 opq, .int .u64 cas, .int .u16 0, .int .u8 ex, .int .u16 key, .int .u32 val] w fun e w' => e = .returned (.bool true) ∧ Below w.heap.size w w' := by
  obtain ⟨ab, cb, rfl, _, _⟩ := hb.out
  have hn : ¬ (1024 : Int) < (zs.length : Int) := by omega
  have HA := hidI ((Below.refl w.heap.size w).alloc (Nat.le_refl _) (.cells #[.int .u8 m, .int .u8 op, .int .u8 0, .int .u16 0, .int .u8 0, .int .u8 dt, .int .u16 vb, .int .u16 st, .int .u32 0, .int .u32 opq, .int .u64 cas] 29))
  have HX0 : Hid (BoxAt (w.alloc (.cells #[.int .u8 m, .int .u8 op, .int .u8 0, .int .u16 0, .int .u8 0, .int .u8 dt, .int .u16 vb, .int .u16 st, .int .u32 0, .int .u32 opq, .int .u64 cas] 29)) w.heap.size m op 0 0 0 dt vb st 0 opq cas) := heap_alloc_new w _
  go_enter Ybaf.func3, Ybaf.ntmps3
  go_wp2_with fail
  refine (HM.out _).mono ?_
  rintro e wm ⟨rfl, hw⟩
  rw [hw]
  clear hw wm
  go_wp2_with fail
  refine (copy_any (hidI (hb.out.below HA.out)) hlen).mono ?_
  rintro e w1 ⟨bc, rfl, hr, hbl⟩
  have HX := hidI (HX0.out.kp (Kp.of_below (B := 0) hbl))
  have HB1 := hidI (HA.out.trans (hbl.mono (by simp)))
  have HR1 := hidI hr
  have hsz : (w.alloc (.cells #[.int .u8 m, .int .u8 op, .int .u8 0, .int .u16 0, .int .u8 0, .int .u8 dt, .int .u16 vb, .int .u16 st, .int .u32 0, .int .u32 opq, .int .u64 cas] 29)).heap.size ≤ w1.heap.size := hbl.size
  clear hr hbl HM HX0
  have d0 := HX.out.c0
  have d1 := HX.out.c1
  have d2 := HX.out.c2
  have d3 := HX.out.c3
  have d4 := HX.out.c4
  have d5 := HX.out.c5
  have d6 := HX.out.c6
  have d7 := HX.out.c7
  have d8 := HX.out.c8
  have d9 := HX.out.c9
  have d10 := HX.out.c10
  go_wp2_with fail
  refine (stream_bad0 F bc m op 0 0 0 dt vb st 0 opq cas 0 ex key val w1 (by rw [HB1.out.tape]; exact hF) (hidI (hG.out.below HB1.out hN)) (Nat.le_trans hN HB1.out.size) (not_long he hk) ((big_small (by simp [fg]) he hk hva).2 (by simpa [fg] using hbig))).mono ?_
  rintro e w2 ⟨ev, rfl, pb, rfl, hc, hbl⟩
  have HB2 := hidI (HB1.out.trans (hbl.mono HB1.out.size))
  have HR2 := hidI (HR1.out.below hbl)
  have HC := hidI hc
  have gg := (hG.out.below HB2.out hN).g0
  clear d0 d1 d2 d3 d4 d5 d6 d7 d8 d9 d10 hc hbl HX HR1 HB1 HA hsz
  go_wp2_with fail
  refine (is_wrap_same pb 0 a0 _ HC.out).mono ?_
  rintro e w3 ⟨rfl, rfl⟩
  go_wp2_with fail
  refine (beq_same (hidI HR2.out.seen) (hidI (hb.out.below HB2.out)) (by omega)).mono ?_
  rintro e w3 ⟨rfl, hbl⟩
  have HB3 := hidI (HB2.out.trans (hbl.mono HB2.out.size))
  clear hbl
  go_wp2
  go_ret
  exact ⟨rfl, HB3.out⟩

set_option maxHeartbeats 8000000 in
theorem exact_big3 (F : Interp) {N : Nat} {a0 a1 : Addr} {s0 s1 : ByteArray} {zs : List Int} (b : Value) (sel m op dt vb st opq cas id ex key val : Int) (w : World) (hF : F.answers w.tape) (hG : Hid (Gl N w a0 a1 s0 s1)) (hN : N ≤ w.heap.size)
    (HM : Hid (∀ W, Calls Ybaf.prog 5 #[.int .u8 sel] W fun e w' => e = .returned (.int .u8 m) ∧ w' = W)) (hb : Hid (Seen w b zs)) (hlen : zs.length ≤ 1024)
    (hid : id ≠ 0) 
    (he : 0 ≤ ex ∧ ex ≤ 255) (hk : 0 ≤ key ∧ key ≤ 65535) (hva : 0 ≤ val ∧ val ≤ 4294967295) (hbig : 4294967295 < 3 + ex + key + val) :
    Calls Ybaf.prog 3 #[b, .int .u8 sel, .int .u8 op, .int .u8 dt, .int .u16 vb, .int .u16 st, .int .u32 opq, .int .u64 cas, .int .u16 id, .int .u8 ex, .int .u16 key, .int .u32 val] w fun e w' => e = .returned (.bool true) ∧ Below w.heap.size w w' := by
  obtain ⟨ab, cb, rfl, _, _⟩ := hb.out
  have hn : ¬ (1024 : Int) < (zs.length : Int) := by omega
  have HA := hidI ((Below.refl w.heap.size w).alloc (Nat.le_refl _) (.cells #[.int .u8 m, .int .u8 op, .int .u8 0, .int .u16 0, .int .u8 0, .int .u8 dt, .int .u16 vb, .int .u16 st, .int .u32 0, .int .u32 opq, .int .u64 cas] 29))
  have HX0 : Hid (BoxAt (w.alloc (.cells #[.int .u8 m, .int .u8 op, .int .u8 0, .int .u16 0, .int .u8 0, .int .u8 dt, .int .u16 vb, .int .u16 st, .int .u32 0, .int .u32 opq, .int .u64 cas] 29)) w.heap.size m op 0 0 0 dt vb st 0 opq cas) := heap_alloc_new w _
  have hid' : (id == 0) = false := beq_eq_false_iff_ne.2 hid
  go_enter Ybaf.func3, Ybaf.ntmps3
  go_wp2_with fail
  refine (HM.out _).mono ?_
  rintro e wm ⟨rfl, hw⟩
  rw [hw]
  clear hw wm
  go_wp2_with fail
  refine (copy_any (hidI (hb.out.below HA.out)) hlen).mono ?_
  rintro e w1 ⟨bc, rfl, hr, hbl⟩
  have HX := hidI (HX0.out.kp (Kp.of_below (B := 0) hbl))
  have HB1 := hidI (HA.out.trans (hbl.mono (by simp)))
  have HR1 := hidI hr
  have hsz : (w.alloc (.cells #[.int .u8 m, .int .u8 op, .int .u8 0, .int .u16 0, .int .u8 0, .int .u8 dt, .int .u16 vb, .int .u16 st, .int .u32 0, .int .u32 opq, .int .u64 cas] 29)).heap.size ≤ w1.heap.size := hbl.size
  clear hr hbl HM HX0
  have d0 := HX.out.c0
  have d1 := HX.out.c1
  have d2 := HX.out.c2
  have d3 := HX.out.c3
  have d4 := HX.out.c4
  have d5 := HX.out.c5
  have d6 := HX.out.c6
  have d7 := HX.out.c7
  have d8 := HX.out.c8
  have d9 := HX.out.c9
  have d10 := HX.out.c10
  go_wp2_with fail
  refine (stream_bad0 F bc m op 0 0 0 dt vb st 0 opq cas id ex key val w1 (by rw [HB1.out.tape]; exact hF) (hidI (hG.out.below HB1.out hN)) (Nat.le_trans hN HB1.out.size) (not_long he hk) ((big_small (by simp [fg, hid]) he hk hva).2 (by simpa [fg, hid] using hbig))).mono ?_
  rintro e w2 ⟨ev, rfl, pb, rfl, hc, hbl⟩
  have HB2 := hidI (HB1.out.trans (hbl.mono HB1.out.size))
  have HR2 := hidI (HR1.out.below hbl)
  have HC := hidI hc
  have gg := (hG.out.below HB2.out hN).g0
  clear d0 d1 d2 d3 d4 d5 d6 d7 d8 d9 d10 hc hbl HX HR1 HB1 HA hsz
  go_wp2_with fail
  refine (is_wrap_same pb 0 a0 _ HC.out).mono ?_
  rintro e w3 ⟨rfl, rfl⟩
  go_wp2_with fail
  refine (beq_same (hidI HR2.out.seen) (hidI (hb.out.below HB2.out)) (by omega)).mono ?_
  rintro e w3 ⟨rfl, hbl⟩
  have HB3 := hidI (HB2.out.trans (hbl.mono HB2.out.size))
  clear hbl
  go_wp2
  go_ret
  exact ⟨rfl, HB3.out⟩

set_option maxHeartbeats 8000000 in
theorem exact_magic (F : Interp) {N : Nat} {a0 a1 : Addr} {s0 s1 : ByteArray} {zs : List Int} (b : Value) (sel m op dt vb st opq cas ex key val : Int) (w : World) (hF : F.answers w.tape) (hG : Hid (Gl N w a0 a1 s0 s1)) (hN : N ≤ w.heap.size)
    (HM : Hid (∀ W, Calls Ybaf.prog 5 #[.int .u8 sel] W fun e w' => e = .returned (.int .u8 m) ∧ w' = W)) (hb : Hid (Seen w b zs)) (hlen : zs.length ≤ 1024)
    
    (he : 0 ≤ ex ∧ ex ≤ 255) (hk : 0 ≤ key ∧ key ≤ 65535) (hva : 0 ≤ val ∧ val ≤ 4294967295) (hbig : ¬ 4294967295 < ex + key + val) (hm : ¬ (m = 128 ∨ m = 129 ∨ m = 8)) :
    Calls Ybaf.prog 3 #[b, .int .u8 sel, .int .u8 op, .int .u8 dt, .int .u16 vb, .int .u16 st, .int .u32 opq, .int .u64 cas, .int .u16 0, .int .u8 ex, .int .u16 key, .int .u32 val] w fun e w' => e = .returned (.bool true) ∧ Below w.heap.size w w' := by
  obtain ⟨ab, cb, rfl, _, _⟩ := hb.out
  have hn : ¬ (1024 : Int) < (zs.length : Int) := by omega
  have HA := hidI ((Below.refl w.heap.size w).alloc (Nat.le_refl _) (.cells #[.int .u8 m, .int .u8 op, .int .u8 0, .int .u16 0, .int .u8 0, .int .u8 dt, .int .u16 vb, .int .u16 st, .int .u32 0, .int .u32 opq, .int .u64 cas] 29))
  have HX0 : Hid (BoxAt (w.alloc (.cells #[.int .u8 m, .int .u8 op, .int .u8 0, .int .u16 0, .int .u8 0, .int .u8 dt, .int .u16 vb, .int .u16 st, .int .u32 0, .int .u32 opq, .int .u64 cas] 29)) w.heap.size m op 0 0 0 dt vb st 0 opq cas) := heap_alloc_new w _
  have ef : fg 0 = 0 := by simp [fg]
  have em : mg m 0 = m := by simp [mg]
  have HBG : Hid (¬ Big (fg 0) ex key val) := fun h => by rw [ef] at h; have := (big_small (by omega) he hk hva).1 h; omega
  have HGD : Hid (¬ Good (mg m 0) (fg 0) ex key val) := by
    show ¬ Good _ _ _ _ _
    rw [ef, em, good_small (by omega) he hk hva (by omega)]
    omega
  have hm1 : (m == 128) = false := beq_eq_false_iff_ne.2 (by omega)
  have hm2 : (m == 129) = false := beq_eq_false_iff_ne.2 (by omega)
  have hm3 : (m == 8) = false := beq_eq_false_iff_ne.2 (by omega)
  clear hm ef em
  go_enter Ybaf.func3, Ybaf.ntmps3
  go_wp2_with fail
  refine (HM.out _).mono ?_
  rintro e wm ⟨rfl, hw⟩
  rw [hw]
  clear hw wm
  go_wp2_with fail
  refine (copy_any (hidI (hb.out.below HA.out)) hlen).mono ?_
  rintro e w1 ⟨bc, rfl, hr, hbl⟩
  have HX := hidI (HX0.out.kp (Kp.of_below (B := 0) hbl))
  have HB1 := hidI (HA.out.trans (hbl.mono (by simp)))
  have HR1 := hidI hr
  have hsz : (w.alloc (.cells #[.int .u8 m, .int .u8 op, .int .u8 0, .int .u16 0, .int .u8 0, .int .u8 dt, .int .u16 vb, .int .u16 st, .int .u32 0, .int .u32 opq, .int .u64 cas] 29)).heap.size ≤ w1.heap.size := hbl.size
  clear hr hbl HM HX0
  have d0 := HX.out.c0
  have d1 := HX.out.c1
  have d2 := HX.out.c2
  have d3 := HX.out.c3
  have d4 := HX.out.c4
  have d5 := HX.out.c5
  have d6 := HX.out.c6
  have d7 := HX.out.c7
  have d8 := HX.out.c8
  have d9 := HX.out.c9
  have d10 := HX.out.c10
  go_wp2_with fail
  refine (stream_bad1 F bc m op 0 0 0 dt vb st 0 opq cas 0 ex key val w1 (by rw [HB1.out.tape]; exact hF) (hidI (hG.out.below HB1.out hN)) (Nat.le_trans hN HB1.out.size) (Or.inr ⟨not_long he hk, HBG.out, HGD.out⟩)).mono ?_
  rintro e w2 ⟨ev, rfl, pb, rfl, hc, hbl⟩
  have HB2 := hidI (HB1.out.trans (hbl.mono HB1.out.size))
  have HR2 := hidI (HR1.out.below hbl)
  have HC := hidI hc
  have gg := (hG.out.below HB2.out hN).g1
  clear d0 d1 d2 d3 d4 d5 d6 d7 d8 d9 d10 hc hbl HX HR1 HB1 HA hsz
  go_wp2_with fail
  refine (is_wrap_same pb 0 a1 _ HC.out).mono ?_
  rintro e w3 ⟨rfl, rfl⟩
  go_wp2_with fail
  refine (beq_same (hidI HR2.out.seen) (hidI (hb.out.below HB2.out)) (by omega)).mono ?_
  rintro e w3 ⟨rfl, hbl⟩
  have HB3 := hidI (HB2.out.trans (hbl.mono HB2.out.size))
  clear hbl
  go_wp2
  go_ret
  exact ⟨rfl, HB3.out⟩

set_option maxHeartbeats 8000000 in
theorem exact_key0 (F : Interp) {N : Nat} {a0 a1 : Addr} {s0 s1 : ByteArray} {zs : List Int} (b : Value) (sel op dt vb st opq cas ex key val : Int) (w : World) (hF : F.answers w.tape) (hG : Hid (Gl N w a0 a1 s0 s1)) (hN : N ≤ w.heap.size)
    (HM : Hid (∀ W, Calls Ybaf.prog 5 #[.int .u8 sel] W fun e w' => e = .returned (.int .u8 8) ∧ w' = W)) (hb : Hid (Seen w b zs)) (hlen : zs.length ≤ 1024)
    
    (he : 0 ≤ ex ∧ ex ≤ 255) (hk : 0 ≤ key ∧ key ≤ 65535) (hva : 0 ≤ val ∧ val ≤ 4294967295) (hbig : ¬ 4294967295 < ex + key + val) (hkk : 255 < key) :
    Calls Ybaf.prog 3 #[b, .int .u8 sel, .int .u8 op, .int .u8 dt, .int .u16 vb, .int .u16 st, .int .u32 opq, .int .u64 cas, .int .u16 0, .int .u8 ex, .int .u16 key, .int .u32 val] w fun e w' => e = .returned (.bool true) ∧ Below w.heap.size w w' := by
  obtain ⟨ab, cb, rfl, _, _⟩ := hb.out
  have hn : ¬ (1024 : Int) < (zs.length : Int) := by omega
  have HA := hidI ((Below.refl w.heap.size w).alloc (Nat.le_refl _) (.cells #[.int .u8 8, .int .u8 op, .int .u8 0, .int .u16 0, .int .u8 0, .int .u8 dt, .int .u16 vb, .int .u16 st, .int .u32 0, .int .u32 opq, .int .u64 cas] 29))
  have HX0 : Hid (BoxAt (w.alloc (.cells #[.int .u8 8, .int .u8 op, .int .u8 0, .int .u16 0, .int .u8 0, .int .u8 dt, .int .u16 vb, .int .u16 st, .int .u32 0, .int .u32 opq, .int .u64 cas] 29)) w.heap.size 8 op 0 0 0 dt vb st 0 opq cas) := heap_alloc_new w _
  have ef : fg 0 = 0 := by simp [fg]
  have em : mg 8 0 = 8 := by simp [mg]
  have HBG : Hid (¬ Big (fg 0) ex key val) := fun h => by rw [ef] at h; have := (big_small (by omega) he hk hva).1 h; omega
  have HGD : Hid (¬ Good (mg 8 0) (fg 0) ex key val) := by
    show ¬ Good _ _ _ _ _
    rw [ef, em, good_small (by omega) he hk hva (by omega)]
    omega
  clear ef em
  go_enter Ybaf.func3, Ybaf.ntmps3
  go_wp2_with fail
  refine (HM.out _).mono ?_
  rintro e wm ⟨rfl, hw⟩
  rw [hw]
  clear hw wm
  go_wp2_with fail
  refine (copy_any (hidI (hb.out.below HA.out)) hlen).mono ?_
  rintro e w1 ⟨bc, rfl, hr, hbl⟩
  have HX := hidI (HX0.out.kp (Kp.of_below (B := 0) hbl))
  have HB1 := hidI (HA.out.trans (hbl.mono (by simp)))
  have HR1 := hidI hr
  have hsz : (w.alloc (.cells #[.int .u8 8, .int .u8 op, .int .u8 0, .int .u16 0, .int .u8 0, .int .u8 dt, .int .u16 vb, .int .u16 st, .int .u32 0, .int .u32 opq, .int .u64 cas] 29)).heap.size ≤ w1.heap.size := hbl.size
  clear hr hbl HM HX0
  have d0 := HX.out.c0
  have d1 := HX.out.c1
  have d2 := HX.out.c2
  have d3 := HX.out.c3
  have d4 := HX.out.c4
  have d5 := HX.out.c5
  have d6 := HX.out.c6
  have d7 := HX.out.c7
  have d8 := HX.out.c8
  have d9 := HX.out.c9
  have d10 := HX.out.c10
  go_wp2_with fail
  refine (stream_bad1 F bc 8 op 0 0 0 dt vb st 0 opq cas 0 ex key val w1 (by rw [HB1.out.tape]; exact hF) (hidI (hG.out.below HB1.out hN)) (Nat.le_trans hN HB1.out.size) (Or.inr ⟨not_long he hk, HBG.out, HGD.out⟩)).mono ?_
  rintro e w2 ⟨ev, rfl, pb, rfl, hc, hbl⟩
  have HB2 := hidI (HB1.out.trans (hbl.mono HB1.out.size))
  have HR2 := hidI (HR1.out.below hbl)
  have HC := hidI hc
  have gg := (hG.out.below HB2.out hN).g1
  clear d0 d1 d2 d3 d4 d5 d6 d7 d8 d9 d10 hc hbl HX HR1 HB1 HA hsz
  go_wp2_with fail
  refine (is_wrap_same pb 0 a1 _ HC.out).mono ?_
  rintro e w3 ⟨rfl, rfl⟩
  go_wp2_with fail
  refine (beq_same (hidI HR2.out.seen) (hidI (hb.out.below HB2.out)) (by omega)).mono ?_
  rintro e w3 ⟨rfl, hbl⟩
  have HB3 := hidI (HB2.out.trans (hbl.mono HB2.out.size))
  clear hbl
  go_wp2
  go_ret
  exact ⟨rfl, HB3.out⟩

set_option maxHeartbeats 8000000 in
theorem exact_key3 (F : Interp) {N : Nat} {a0 a1 : Addr} {s0 s1 : ByteArray} {zs : List Int} (b : Value) (sel m op dt vb st opq cas id ex key val : Int) (w : World) (hF : F.answers w.tape) (hG : Hid (Gl N w a0 a1 s0 s1)) (hN : N ≤ w.heap.size)
    (HM : Hid (∀ W, Calls Ybaf.prog 5 #[.int .u8 sel] W fun e w' => e = .returned (.int .u8 m) ∧ w' = W)) (hb : Hid (Seen w b zs)) (hlen : zs.length ≤ 1024)
    (hid : id ≠ 0) 
    (he : 0 ≤ ex ∧ ex ≤ 255) (hk : 0 ≤ key ∧ key ≤ 65535) (hva : 0 ≤ val ∧ val ≤ 4294967295) (hbig : ¬ 4294967295 < 3 + ex + key + val) (hkk : 255 < key) :
    Calls Ybaf.prog 3 #[b, .int .u8 sel, .int .u8 op, .int .u8 dt, .int .u16 vb, .int .u16 st, .int .u32 opq, .int .u64 cas, .int .u16 id, .int .u8 ex, .int .u16 key, .int .u32 val] w fun e w' => e = .returned (.bool true) ∧ Below w.heap.size w w' := by
  obtain ⟨ab, cb, rfl, _, _⟩ := hb.out
  have hn : ¬ (1024 : Int) < (zs.length : Int) := by omega
  have HA := hidI ((Below.refl w.heap.size w).alloc (Nat.le_refl _) (.cells #[.int .u8 m, .int .u8 op, .int .u8 0, .int .u16 0, .int .u8 0, .int .u8 dt, .int .u16 vb, .int .u16 st, .int .u32 0, .int .u32 opq, .int .u64 cas] 29))
  have HX0 : Hid (BoxAt (w.alloc (.cells #[.int .u8 m, .int .u8 op, .int .u8 0, .int .u16 0, .int .u8 0, .int .u8 dt, .int .u16 vb, .int .u16 st, .int .u32 0, .int .u32 opq, .int .u64 cas] 29)) w.heap.size m op 0 0 0 dt vb st 0 opq cas) := heap_alloc_new w _
  have hid' : (id == 0) = false := beq_eq_false_iff_ne.2 hid
  have ef : fg id = 3 := by simp [fg, hid]
  have em : mg m id = 8 := by simp [mg, hid]
  have HBG : Hid (¬ Big (fg id) ex key val) := fun h => by rw [ef] at h; have := (big_small (by omega) he hk hva).1 h; omega
  have HGD : Hid (¬ Good (mg m id) (fg id) ex key val) := by
    show ¬ Good _ _ _ _ _
    rw [ef, em, good_small (by omega) he hk hva (by omega)]
    omega
  clear ef em
  go_enter Ybaf.func3, Ybaf.ntmps3
  go_wp2_with fail
  refine (HM.out _).mono ?_
  rintro e wm ⟨rfl, hw⟩
  rw [hw]
  clear hw wm
  go_wp2_with fail
  refine (copy_any (hidI (hb.out.below HA.out)) hlen).mono ?_
  rintro e w1 ⟨bc, rfl, hr, hbl⟩
  have HX := hidI (HX0.out.kp (Kp.of_below (B := 0) hbl))
  have HB1 := hidI (HA.out.trans (hbl.mono (by simp)))
  have HR1 := hidI hr
  have hsz : (w.alloc (.cells #[.int .u8 m, .int .u8 op, .int .u8 0, .int .u16 0, .int .u8 0, .int .u8 dt, .int .u16 vb, .int .u16 st, .int .u32 0, .int .u32 opq, .int .u64 cas] 29)).heap.size ≤ w1.heap.size := hbl.size
  clear hr hbl HM HX0
  have d0 := HX.out.c0
  have d1 := HX.out.c1
  have d2 := HX.out.c2
  have d3 := HX.out.c3
  have d4 := HX.out.c4
  have d5 := HX.out.c5
  have d6 := HX.out.c6
  have d7 := HX.out.c7
  have d8 := HX.out.c8
  have d9 := HX.out.c9
  have d10 := HX.out.c10
  go_wp2_with fail
  refine (stream_bad1 F bc m op 0 0 0 dt vb st 0 opq cas id ex key val w1 (by rw [HB1.out.tape]; exact hF) (hidI (hG.out.below HB1.out hN)) (Nat.le_trans hN HB1.out.size) (Or.inr ⟨not_long he hk, HBG.out, HGD.out⟩)).mono ?_
  rintro e w2 ⟨ev, rfl, pb, rfl, hc, hbl⟩
  have HB2 := hidI (HB1.out.trans (hbl.mono HB1.out.size))
  have HR2 := hidI (HR1.out.below hbl)
  have HC := hidI hc
  have gg := (hG.out.below HB2.out hN).g1
  clear d0 d1 d2 d3 d4 d5 d6 d7 d8 d9 d10 hc hbl HX HR1 HB1 HA hsz
  go_wp2_with fail
  refine (is_wrap_same pb 0 a1 _ HC.out).mono ?_
  rintro e w3 ⟨rfl, rfl⟩
  go_wp2_with fail
  refine (beq_same (hidI HR2.out.seen) (hidI (hb.out.below HB2.out)) (by omega)).mono ?_
  rintro e w3 ⟨rfl, hbl⟩
  have HB3 := hidI (HB2.out.trans (hbl.mono HB2.out.size))
  clear hbl
  go_wp2
  go_ret
  exact ⟨rfl, HB3.out⟩

end Go.Proofs.YbulkbzcFmt
