/-
  'LawS0145BInts': the frame, way 3. Typed by the prover of this seat (an AI agent).
-/
import Derived.Test.YbulkbzcFmtInts2
namespace Go.Proofs.YbulkbzcFmt
open Go.RowKit Go.Extern.Stop Go.Stop Go.Extern
set_option maxRecDepth 100000

set_option maxHeartbeats 8000000 in
theorem ints_ok3 {zs : List Int} (b : Value) (sel ex key val : Int) (w : World)
    (HM : Hid (∀ W, Calls Ybaf.prog 5 #[.int .u8 sel] W fun e w' => e = .returned (.int .u8 128) ∧ w' = W)) (hb : Hid (Seen w b zs)) (hlen : zs.length ≤ 1024) (hxr : -9223372036854775808 ≤ ex ∧ ex ≤ 9223372036854775807) (h0 : ¬ 255 < ex) (h1 : ¬ 65535 < key) (h2 : ¬ Big (fg 0) ex key val) (h : Good (mg 128 0) (fg 0) ex key val) :
    Calls Ybaf.prog 4 #[b, .int .u8 sel, .int .u16 0, .int .i64 ex, .int .i64 key, .int .i64 val] w fun e w' => e = .returned (.bool true) ∧ Below w.heap.size w w' := by
  obtain ⟨ab, cb, rfl, _, _⟩ := hb.out
  have hn : ¬ (1024 : Int) < (zs.length : Int) := by omega
  have HA := hidI ((Below.refl w.heap.size w).alloc (Nat.le_refl _) (.cells #[.int .u8 128, .int .u8 7, .int .u8 0, .int .u16 0, .int .u8 0, .int .u8 0, .int .u16 3, .int .u16 0, .int .u32 0, .int .u32 9, .int .u64 0] 29))
  have HX0 : Hid (BoxAt (w.alloc (.cells #[.int .u8 128, .int .u8 7, .int .u8 0, .int .u16 0, .int .u8 0, .int .u8 0, .int .u16 3, .int .u16 0, .int .u32 0, .int .u32 9, .int .u64 0] 29)) w.heap.size 128 7 0 0 0 0 3 0 0 9 0) := heap_alloc_new w _
  obtain ⟨K16, hK⟩ : ∃ k, IntKind.u16.wrap key = k := ⟨_, rfl⟩
  obtain ⟨E8, hE⟩ : ∃ k, IntKind.u8.wrap ex = k := ⟨_, rfl⟩
  obtain ⟨T, hT⟩ : ∃ k, wrap64 (wrap64 (ex + key) + val) = k := ⟨_, rfl⟩
  obtain ⟨BODY, hY⟩ : ∃ k, IntKind.u32.wrap T = k := ⟨_, rfl⟩
  have rK := u16_range key
  have rE := u8_range ex
  have rY := u32_range T
  rw [hK] at rK
  rw [hE] at rE
  rw [hY] at rY
  have ef : fg 0 = 0 := by simp [fg]
  have em : mg 128 0 = 128 := by simp [mg]
  have eT : total (fg 0) ex key val = T := by
    rw [ef, ← hT]
    unfold total
    rw [show (0 : Int) + ex = ex by omega, show wrap64 ex = ex by simp only [wrap64]; omega]
  have HGD := hidI h
  have HBG := hidI h2
  have HF : Hid (Fine 128 0 K16 E8 BODY) := by
    have := h
    unfold Good at this
    rw [eT, em, ef, hK, hE, hY] at this
    exact this
  clear h h2
  go_enter Ybaf.func4, Ybaf.ntmps4
  go_wp2_with fail
  refine (HM.out _).mono ?_
  rintro e wm ⟨rfl, hw⟩
  rw [hw]
  clear hw wm
  go_wp2_with fail
  refine (copy_any (hidI (hb.out.below HA.out)) hlen).mono ?_
  rintro e w1 ⟨bc, rfl, hr, hbl⟩
  have HX := hidI (HX0.out.kp (Kp.of_below (B := 0) hbl))
  have HB1 := hidI (HA.out.trans (hbl.mono (by simp)))
  have HR1 := hidI hr
  have hsz : (w.alloc (.cells #[.int .u8 128, .int .u8 7, .int .u8 0, .int .u16 0, .int .u8 0, .int .u8 0, .int .u16 3, .int .u16 0, .int .u32 0, .int .u32 9, .int .u64 0] 29)).heap.size ≤ w1.heap.size := hbl.size
  clear hr hbl HM HX0
  have d0 := HX.out.c0
  have d1 := HX.out.c1
  have d2 := HX.out.c2
  have d3 := HX.out.c3
  have d4 := HX.out.c4
  have d5 := HX.out.c5
  have d6 := HX.out.c6
  have d7 := HX.out.c7
  have d8 := HX.out.c8
  have d9 := HX.out.c9
  have d10 := HX.out.c10
  go_wp2_with fail
  refine (stream_ok bc 128 7 0 0 0 0 3 0 0 9 0 0 ex key val w1 (by omega) (by omega) (by omega) (by omega) (by omega) (by omega) (by unfold Long; omega) HBG.out HGD.out HR1 hsz (by omega)).mono ?_
  rintro e w2 ⟨out, rfl, hr, hk'⟩
  have HB2 := hidI (HB1.out.trans ((hk'.below hsz).mono (by simp)))
  have HR2 : Hid (Row (w.heap.size + 1) w2 out (zs ++ headB 128 7 0 K16 E8 0 3 0 BODY 9 0 ++ [])) := hidI <| by
    have := hr
    rw [eT, em, ef, hK, hE, hY] at this
    simpa [tailB, w0, w3'] using this
  clear d0 d1 d2 d3 d4 d5 d6 d7 d8 d9 d10 hr hk' HX HR1 HB1 HA hsz HBG HGD ef em eT
  obtain ⟨g, cap, rfl, hcap, HCL⟩ := row_form HR2.out (n := zs.length + 24) (by simp [headB_length]) (by omega)
  have q0 : (zs.length : Int) ≤ (cap : Int) := by omega
  have q1 : (zs.length : Int) + 24 ≤ (cap : Int) := by omega
  have q2 : zs.length < cap := by omega
  have q3 : cap ≠ zs.length := by omega
  have HP := hidI (seen_pre HR2.out)
  go_wp2_with fail
  refine (beq_same HP (hidI (hb.out.below HB2.out)) (by omega)).mono ?_
  rintro e w3 ⟨rfl, hbl⟩
  have HB3 := hidI (HB2.out.trans (hbl.mono HB2.out.size))
  have HC3 : Hid (∀ i, i < zs.length + 24 → w3.cell? ⟨g, i, none⟩ = some (.int .u8 ((zs ++ headB 128 7 0 K16 E8 0 3 0 BODY 9 0 ++ []).getD i 0))) := fun i hi => by rw [hbl.cell (World.block_lt_of_cell? w2 _ (HCL.out i hi))]; exact HCL.out i hi
  have hg3 : g < w3.heap.size := World.block_lt_of_cell? w3 _ (HC3.out 0 (by omega))
  clear hbl HP HR2 HCL HB2
  have HA3 := hidI ((Below.refl w3.heap.size w3).alloc (Nat.le_refl _) (.cells #[.int .u8 0, .int .u8 0, .int .u8 0, .int .u16 0, .int .u8 0, .int .u8 0, .int .u16 0, .int .u16 0, .int .u32 0, .int .u32 0, .int .u64 0] 29))
  have HBX : Hid (BoxAt (w3.alloc (.cells #[.int .u8 0, .int .u8 0, .int .u8 0, .int .u16 0, .int .u8 0, .int .u8 0, .int .u16 0, .int .u16 0, .int .u32 0, .int .u32 0, .int .u64 0] 29)) w3.heap.size 0 0 0 0 0 0 0 0 0 0 0) := heap_alloc_new w3 _
  have HAT : Hid (At (w3.alloc (.cells #[.int .u8 0, .int .u8 0, .int .u8 0, .int .u16 0, .int .u8 0, .int .u8 0, .int .u16 0, .int .u16 0, .int .u32 0, .int .u32 0, .int .u64 0] 29)) g zs.length (headB 128 7 0 K16 E8 0 3 0 BODY 9 0)) := hidI ((at_mid HC3.out (by rw [headB_length]; omega) (headB_range (by omega) (by omega) (by omega) rK rE (by omega) (by omega) (by omega) rY (by omega) (by omega))).below HA3.out)
  go_wp2_with fail
  refine (umh128 w3.heap.size g zs.length (cap - zs.length) 0 0 0 0 0 0 0 0 0 0 0 K16 E8 BODY _ (by omega) HBX rK rE rY HF.out.2.2 HAT.out).mono ?_
  rintro e w4 ⟨rfl, ⟨K, hx⟩, hgr⟩
  have HB4 := hidI ((HB3.out.alloc (HB3.out.size) _).grown hgr (by have := HB3.out.size; simp; omega) (fun k hk => by cases hk; exact HB3.out.size))
  have e0 := hx.c0
  have e2 := hx.c2
  have e3 := hx.c3
  have e4 := hx.c4
  have e8 := hx.c8
  clear hx hgr HC3 HAT HBX HA3 HB3 HF
  go_wp2
  go_ret
  exact ⟨rfl, HB4.out⟩

end Go.Proofs.YbulkbzcFmt
