/-
  'LawS0145BInts': the refusals. Typed by the prover of this seat (an AI agent).
-/
import Derived.Test.YbulkbzcFmtInts0
namespace Go.Proofs.YbulkbzcFmt
open Go.RowKit Go.Extern.Stop Go.Stop Go.Extern
set_option maxRecDepth 100000

set_option maxHeartbeats 8000000 in
theorem ints_ex (F : Interp) {N : Nat} {a0 a1 : Addr} {s0 s1 : ByteArray} {zs : List Int} (b : Value) (sel m id ex key val : Int) (w : World) (hF : F.answers w.tape) (hG : Hid (Gl N w a0 a1 s0 s1)) (hN : N ≤ w.heap.size)
    (HM : Hid (∀ W, Calls Ybaf.prog 5 #[.int .u8 sel] W fun e w' => e = .returned (.int .u8 m) ∧ w' = W)) (hb : Hid (Seen w b zs)) (hlen : zs.length ≤ 1024) (h : 255 < ex) :
    Calls Ybaf.prog 4 #[b, .int .u8 sel, .int .u16 id, .int .i64 ex, .int .i64 key, .int .i64 val] w fun e w' => e = .returned (.bool true) ∧ Below w.heap.size w w' := by
  obtain ⟨ab, cb, rfl, _, _⟩ := hb.out
  have hn : ¬ (1024 : Int) < (zs.length : Int) := by omega
  have HA := hidI ((Below.refl w.heap.size w).alloc (Nat.le_refl _) (.cells #[.int .u8 m, .int .u8 7, .int .u8 0, .int .u16 0, .int .u8 0, .int .u8 0, .int .u16 3, .int .u16 0, .int .u32 0, .int .u32 9, .int .u64 0] 29))
  have HX0 : Hid (BoxAt (w.alloc (.cells #[.int .u8 m, .int .u8 7, .int .u8 0, .int .u16 0, .int .u8 0, .int .u8 0, .int .u16 3, .int .u16 0, .int .u32 0, .int .u32 9, .int .u64 0] 29)) w.heap.size m 7 0 0 0 0 3 0 0 9 0) := heap_alloc_new w _
  go_enter Ybaf.func4, Ybaf.ntmps4
  go_wp2_with fail
  refine (HM.out _).mono ?_
  rintro e wm ⟨rfl, hw⟩
  rw [hw]
  clear hw wm
  go_wp2_with fail
  refine (copy_any (hidI (hb.out.below HA.out)) hlen).mono ?_
  rintro e w1 ⟨bc, rfl, hr, hbl⟩
  have HX := hidI (HX0.out.kp (Kp.of_below (B := 0) hbl))
  have HB1 := hidI (HA.out.trans (hbl.mono (by simp)))
  have HR1 := hidI hr
  have hsz : (w.alloc (.cells #[.int .u8 m, .int .u8 7, .int .u8 0, .int .u16 0, .int .u8 0, .int .u8 0, .int .u16 3, .int .u16 0, .int .u32 0, .int .u32 9, .int .u64 0] 29)).heap.size ≤ w1.heap.size := hbl.size
  clear hr hbl HM HX0
  have d0 := HX.out.c0
  have d1 := HX.out.c1
  have d2 := HX.out.c2
  have d3 := HX.out.c3
  have d4 := HX.out.c4
  have d5 := HX.out.c5
  have d6 := HX.out.c6
  have d7 := HX.out.c7
  have d8 := HX.out.c8
  have d9 := HX.out.c9
  have d10 := HX.out.c10
  go_wp2_with fail
  refine (stream_bad1 F bc m 7 0 0 0 0 3 0 0 9 0 id ex key val w1 (by rw [HB1.out.tape]; exact hF) (hidI (hG.out.below HB1.out hN)) (Nat.le_trans hN HB1.out.size) (Or.inl (Or.inl h))).mono ?_
  rintro e w2 ⟨ev, rfl, pb, rfl, hc, hbl⟩
  have HB2 := hidI (HB1.out.trans (hbl.mono HB1.out.size))
  have HR2 := hidI (HR1.out.below hbl)
  have HC := hidI hc
  have gg := (hG.out.below HB2.out hN).g1
  clear d0 d1 d2 d3 d4 d5 d6 d7 d8 d9 d10 hc hbl HX HR1 HB1 HA hsz
  go_wp2_with fail
  refine (is_wrap_same pb 0 a1 _ HC.out).mono ?_
  rintro e w3 ⟨rfl, rfl⟩
  go_wp2_with fail
  refine (beq_same (hidI HR2.out.seen) (hidI (hb.out.below HB2.out)) (by omega)).mono ?_
  rintro e w3 ⟨rfl, hbl⟩
  have HB3 := hidI (HB2.out.trans (hbl.mono HB2.out.size))
  clear hbl
  go_wp2
  go_ret
  exact ⟨rfl, HB3.out⟩

set_option maxHeartbeats 8000000 in
theorem ints_key (F : Interp) {N : Nat} {a0 a1 : Addr} {s0 s1 : ByteArray} {zs : List Int} (b : Value) (sel m id ex key val : Int) (w : World) (hF : F.answers w.tape) (hG : Hid (Gl N w a0 a1 s0 s1)) (hN : N ≤ w.heap.size)
    (HM : Hid (∀ W, Calls Ybaf.prog 5 #[.int .u8 sel] W fun e w' => e = .returned (.int .u8 m) ∧ w' = W)) (hb : Hid (Seen w b zs)) (hlen : zs.length ≤ 1024) (h0 : ¬ 255 < ex) (h : 65535 < key) :
    Calls Ybaf.prog 4 #[b, .int .u8 sel, .int .u16 id, .int .i64 ex, .int .i64 key, .int .i64 val] w fun e w' => e = .returned (.bool true) ∧ Below w.heap.size w w' := by
  obtain ⟨ab, cb, rfl, _, _⟩ := hb.out
  have hn : ¬ (1024 : Int) < (zs.length : Int) := by omega
  have HA := hidI ((Below.refl w.heap.size w).alloc (Nat.le_refl _) (.cells #[.int .u8 m, .int .u8 7, .int .u8 0, .int .u16 0, .int .u8 0, .int .u8 0, .int .u16 3, .int .u16 0, .int .u32 0, .int .u32 9, .int .u64 0] 29))
  have HX0 : Hid (BoxAt (w.alloc (.cells #[.int .u8 m, .int .u8 7, .int .u8 0, .int .u16 0, .int .u8 0, .int .u8 0, .int .u16 3, .int .u16 0, .int .u32 0, .int .u32 9, .int .u64 0] 29)) w.heap.size m 7 0 0 0 0 3 0 0 9 0) := heap_alloc_new w _
  go_enter Ybaf.func4, Ybaf.ntmps4
  go_wp2_with fail
  refine (HM.out _).mono ?_
  rintro e wm ⟨rfl, hw⟩
  rw [hw]
  clear hw wm
  go_wp2_with fail
  refine (copy_any (hidI (hb.out.below HA.out)) hlen).mono ?_
  rintro e w1 ⟨bc, rfl, hr, hbl⟩
  have HX := hidI (HX0.out.kp (Kp.of_below (B := 0) hbl))
  have HB1 := hidI (HA.out.trans (hbl.mono (by simp)))
  have HR1 := hidI hr
  have hsz : (w.alloc (.cells #[.int .u8 m, .int .u8 7, .int .u8 0, .int .u16 0, .int .u8 0, .int .u8 0, .int .u16 3, .int .u16 0, .int .u32 0, .int .u32 9, .int .u64 0] 29)).heap.size ≤ w1.heap.size := hbl.size
  clear hr hbl HM HX0
  have d0 := HX.out.c0
  have d1 := HX.out.c1
  have d2 := HX.out.c2
  have d3 := HX.out.c3
  have d4 := HX.out.c4
  have d5 := HX.out.c5
  have d6 := HX.out.c6
  have d7 := HX.out.c7
  have d8 := HX.out.c8
  have d9 := HX.out.c9
  have d10 := HX.out.c10
  go_wp2_with fail
  refine (stream_bad1 F bc m 7 0 0 0 0 3 0 0 9 0 id ex key val w1 (by rw [HB1.out.tape]; exact hF) (hidI (hG.out.below HB1.out hN)) (Nat.le_trans hN HB1.out.size) (Or.inl (Or.inr h))).mono ?_
  rintro e w2 ⟨ev, rfl, pb, rfl, hc, hbl⟩
  have HB2 := hidI (HB1.out.trans (hbl.mono HB1.out.size))
  have HR2 := hidI (HR1.out.below hbl)
  have HC := hidI hc
  have gg := (hG.out.below HB2.out hN).g1
  clear d0 d1 d2 d3 d4 d5 d6 d7 d8 d9 d10 hc hbl HX HR1 HB1 HA hsz
  go_wp2_with fail
  refine (is_wrap_same pb 0 a1 _ HC.out).mono ?_
  rintro e w3 ⟨rfl, rfl⟩
  go_wp2_with fail
  refine (beq_same (hidI HR2.out.seen) (hidI (hb.out.below HB2.out)) (by omega)).mono ?_
  rintro e w3 ⟨rfl, hbl⟩
  have HB3 := hidI (HB2.out.trans (hbl.mono HB2.out.size))
  clear hbl
  go_wp2
  go_ret
  exact ⟨rfl, HB3.out⟩

set_option maxHeartbeats 8000000 in
theorem ints_big (F : Interp) {N : Nat} {a0 a1 : Addr} {s0 s1 : ByteArray} {zs : List Int} (b : Value) (sel m id ex key val : Int) (w : World) (hF : F.answers w.tape) (hG : Hid (Gl N w a0 a1 s0 s1)) (hN : N ≤ w.heap.size)
    (HM : Hid (∀ W, Calls Ybaf.prog 5 #[.int .u8 sel] W fun e w' => e = .returned (.int .u8 m) ∧ w' = W)) (hb : Hid (Seen w b zs)) (hlen : zs.length ≤ 1024) (h0 : ¬ 255 < ex) (h1 : ¬ 65535 < key) (h : Big (fg id) ex key val) :
    Calls Ybaf.prog 4 #[b, .int .u8 sel, .int .u16 id, .int .i64 ex, .int .i64 key, .int .i64 val] w fun e w' => e = .returned (.bool true) ∧ Below w.heap.size w w' := by
  obtain ⟨ab, cb, rfl, _, _⟩ := hb.out
  have hn : ¬ (1024 : Int) < (zs.length : Int) := by omega
  have HA := hidI ((Below.refl w.heap.size w).alloc (Nat.le_refl _) (.cells #[.int .u8 m, .int .u8 7, .int .u8 0, .int .u16 0, .int .u8 0, .int .u8 0, .int .u16 3, .int .u16 0, .int .u32 0, .int .u32 9, .int .u64 0] 29))
  have HX0 : Hid (BoxAt (w.alloc (.cells #[.int .u8 m, .int .u8 7, .int .u8 0, .int .u16 0, .int .u8 0, .int .u8 0, .int .u16 3, .int .u16 0, .int .u32 0, .int .u32 9, .int .u64 0] 29)) w.heap.size m 7 0 0 0 0 3 0 0 9 0) := heap_alloc_new w _
  go_enter Ybaf.func4, Ybaf.ntmps4
  go_wp2_with fail
  refine (HM.out _).mono ?_
  rintro e wm ⟨rfl, hw⟩
  rw [hw]
  clear hw wm
  go_wp2_with fail
  refine (copy_any (hidI (hb.out.below HA.out)) hlen).mono ?_
  rintro e w1 ⟨bc, rfl, hr, hbl⟩
  have HX := hidI (HX0.out.kp (Kp.of_below (B := 0) hbl))
  have HB1 := hidI (HA.out.trans (hbl.mono (by simp)))
  have HR1 := hidI hr
  have hsz : (w.alloc (.cells #[.int .u8 m, .int .u8 7, .int .u8 0, .int .u16 0, .int .u8 0, .int .u8 0, .int .u16 3, .int .u16 0, .int .u32 0, .int .u32 9, .int .u64 0] 29)).heap.size ≤ w1.heap.size := hbl.size
  clear hr hbl HM HX0
  have d0 := HX.out.c0
  have d1 := HX.out.c1
  have d2 := HX.out.c2
  have d3 := HX.out.c3
  have d4 := HX.out.c4
  have d5 := HX.out.c5
  have d6 := HX.out.c6
  have d7 := HX.out.c7
  have d8 := HX.out.c8
  have d9 := HX.out.c9
  have d10 := HX.out.c10
  go_wp2_with fail
  refine (stream_bad0 F bc m 7 0 0 0 0 3 0 0 9 0 id ex key val w1 (by rw [HB1.out.tape]; exact hF) (hidI (hG.out.below HB1.out hN)) (Nat.le_trans hN HB1.out.size) (by unfold Long; omega) h).mono ?_
  rintro e w2 ⟨ev, rfl, pb, rfl, hc, hbl⟩
  have HB2 := hidI (HB1.out.trans (hbl.mono HB1.out.size))
  have HR2 := hidI (HR1.out.below hbl)
  clear d0 d1 d2 d3 d4 d5 d6 d7 d8 d9 d10 hc hbl HX HR1 HB1 HA hsz
  go_wp2_with fail
  refine (beq_same (hidI HR2.out.seen) (hidI (hb.out.below HB2.out)) (by omega)).mono ?_
  rintro e w3 ⟨rfl, hbl⟩
  have HB3 := hidI (HB2.out.trans (hbl.mono HB2.out.size))
  clear hbl
  go_wp2
  go_ret
  exact ⟨rfl, HB3.out⟩

set_option maxHeartbeats 8000000 in
theorem ints_bad (F : Interp) {N : Nat} {a0 a1 : Addr} {s0 s1 : ByteArray} {zs : List Int} (b : Value) (sel m id ex key val : Int) (w : World) (hF : F.answers w.tape) (hG : Hid (Gl N w a0 a1 s0 s1)) (hN : N ≤ w.heap.size)
    (HM : Hid (∀ W, Calls Ybaf.prog 5 #[.int .u8 sel] W fun e w' => e = .returned (.int .u8 m) ∧ w' = W)) (hb : Hid (Seen w b zs)) (hlen : zs.length ≤ 1024) (h0 : ¬ 255 < ex) (h1 : ¬ 65535 < key) (h2 : ¬ Big (fg id) ex key val) (h : ¬ Good (mg m id) (fg id) ex key val) :
    Calls Ybaf.prog 4 #[b, .int .u8 sel, .int .u16 id, .int .i64 ex, .int .i64 key, .int .i64 val] w fun e w' => e = .returned (.bool true) ∧ Below w.heap.size w w' := by
  obtain ⟨ab, cb, rfl, _, _⟩ := hb.out
  have hn : ¬ (1024 : Int) < (zs.length : Int) := by omega
  have HA := hidI ((Below.refl w.heap.size w).alloc (Nat.le_refl _) (.cells #[.int .u8 m, .int .u8 7, .int .u8 0, .int .u16 0, .int .u8 0, .int .u8 0, .int .u16 3, .int .u16 0, .int .u32 0, .int .u32 9, .int .u64 0] 29))
  have HX0 : Hid (BoxAt (w.alloc (.cells #[.int .u8 m, .int .u8 7, .int .u8 0, .int .u16 0, .int .u8 0, .int .u8 0, .int .u16 3, .int .u16 0, .int .u32 0, .int .u32 9, .int .u64 0] 29)) w.heap.size m 7 0 0 0 0 3 0 0 9 0) := heap_alloc_new w _
  go_enter Ybaf.func4, Ybaf.ntmps4
  go_wp2_with fail
  refine (HM.out _).mono ?_
  rintro e wm ⟨rfl, hw⟩
  rw [hw]
  clear hw wm
  go_wp2_with fail
  refine (copy_any (hidI (hb.out.below HA.out)) hlen).mono ?_
  rintro e w1 ⟨bc, rfl, hr, hbl⟩
  have HX := hidI (HX0.out.kp (Kp.of_below (B := 0) hbl))
  have HB1 := hidI (HA.out.trans (hbl.mono (by simp)))
  have HR1 := hidI hr
  have hsz : (w.alloc (.cells #[.int .u8 m, .int .u8 7, .int .u8 0, .int .u16 0, .int .u8 0, .int .u8 0, .int .u16 3, .int .u16 0, .int .u32 0, .int .u32 9, .int .u64 0] 29)).heap.size ≤ w1.heap.size := hbl.size
  clear hr hbl HM HX0
  have d0 := HX.out.c0
  have d1 := HX.out.c1
  have d2 := HX.out.c2
  have d3 := HX.out.c3
  have d4 := HX.out.c4
  have d5 := HX.out.c5
  have d6 := HX.out.c6
  have d7 := HX.out.c7
  have d8 := HX.out.c8
  have d9 := HX.out.c9
  have d10 := HX.out.c10
  go_wp2_with fail
  refine (stream_bad1 F bc m 7 0 0 0 0 3 0 0 9 0 id ex key val w1 (by rw [HB1.out.tape]; exact hF) (hidI (hG.out.below HB1.out hN)) (Nat.le_trans hN HB1.out.size) (Or.inr ⟨by unfold Long; omega, h2, h⟩)).mono ?_
  rintro e w2 ⟨ev, rfl, pb, rfl, hc, hbl⟩
  have HB2 := hidI (HB1.out.trans (hbl.mono HB1.out.size))
  have HR2 := hidI (HR1.out.below hbl)
  clear d0 d1 d2 d3 d4 d5 d6 d7 d8 d9 d10 hc hbl HX HR1 HB1 HA hsz
  go_wp2_with fail
  refine (beq_same (hidI HR2.out.seen) (hidI (hb.out.below HB2.out)) (by omega)).mono ?_
  rintro e w3 ⟨rfl, hbl⟩
  have HB3 := hidI (HB2.out.trans (hbl.mono HB2.out.size))
  clear hbl
  go_wp2
  go_ret
  exact ⟨rfl, HB3.out⟩

end Go.Proofs.YbulkbzcFmt
