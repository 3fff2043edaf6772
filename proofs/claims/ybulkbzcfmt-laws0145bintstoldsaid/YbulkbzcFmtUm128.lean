/-
  '(*Header).UnmarshalBinary', magic 128. Typed by the prover of this seat (an AI agent).
-/
import Derived.Test.YbulkbzcFmtUm
namespace Go.Proofs.YbulkbzcFmt
open Go.RowKit
set_option maxRecDepth 100000

set_option maxHeartbeats 8000000 in
theorem um128 (H g o c : Nat) (y0 y1 y2 y3 y4 y5 y6 y7 y8 y9 y10 op ex dt key sp body opq cas : Int) (w : World) (hc : 24 ≤ c) (HH : Hid (BoxAt w H y0 y1 y2 y3 y4 y5 y6 y7 y8 y9 y10)) (hky : 0 ≤ key ∧ key ≤ 65535) (hex : 0 ≤ ex ∧ ex ≤ 255) (hfine : 0 + ex + key ≤ body)
    (c0 : w.cell? ⟨g, o, none⟩ = some (.int .u8 128)) (c1 : w.cell? ⟨g, o + 1, none⟩ = some (.int .u8 op)) (c4 : w.cell? ⟨g, o + 4, none⟩ = some (.int .u8 ex)) (c5 : w.cell? ⟨g, o + 5, none⟩ = some (.int .u8 dt))
    (HC1 : Hid (∀ W, Below w.heap.size w W → Calls Ybaf.prog 17 #[.agg #[], .slice (some ⟨g, o + 2, none⟩) 2 (c - 2)] W fun e w' => e = .returned (.int .u16 key) ∧ Below W.heap.size W w'))
    (HC2 : Hid (∀ W, Below w.heap.size w W → Calls Ybaf.prog 18 #[.agg #[], .slice (some ⟨g, o + 8, none⟩) 4 (c - 8)] W fun e w' => e = .returned (.int .u32 body) ∧ Below W.heap.size W w'))
    (HC3 : Hid (∀ W, Below w.heap.size w W → Calls Ybaf.prog 18 #[.agg #[], .slice (some ⟨g, o + 12, none⟩) 4 (c - 12)] W fun e w' => e = .returned (.int .u32 opq) ∧ Below W.heap.size W w'))
    (HC4 : Hid (∀ W, Below w.heap.size w W → Calls Ybaf.prog 19 #[.agg #[], .slice (some ⟨g, o + 16, none⟩) 8 (c - 16)] W fun e w' => e = .returned (.int .u64 cas) ∧ Below W.heap.size W w'))
    (HC5 : Hid (∀ W, Below w.heap.size w W → Calls Ybaf.prog 17 #[.agg #[], .slice (some ⟨g, o + 6, none⟩) 2 (c - 6)] W fun e w' => e = .returned (.int .u16 sp) ∧ Below W.heap.size W w')) :
    Calls Ybaf.prog 11 #[.pointer (some ⟨H, 0, none⟩), .slice (some ⟨g, o, none⟩) 24 c] w fun e w' => e = .returned .nilIface ∧ BoxAt w' H 128 op 0 key ex dt sp 0 body opq cas ∧ w.grownBy w' (some H) := by
  have hg : g < w.heap.size := World.block_lt_of_cell? w _ c0
  have hw0 : w.heap.size ≤ w.heap.size := Nat.le_refl _
  have HS0 : Hid (Kept w g o 128 op ex dt w.drew) := ⟨(Below.refl _ _).drew, c0, c1, c4, c5⟩
  have q4 : (4 : Int) ≤ (c : Int) := by omega
  have q12 : (12 : Int) ≤ (c : Int) := by omega
  have q16 : (16 : Int) ≤ (c : Int) := by omega
  have q24 : (24 : Int) ≤ (c : Int) := by omega
  have p2 : 2 < c := by omega
  have p8 : 8 < c := by omega
  have p12 : 12 < c := by omega
  have p16 : 16 < c := by omega
  have n2 : c ≠ 2 := by omega
  have n8 : c ≠ 8 := by omega
  have n12 : c ≠ 12 := by omega
  have n16 : c ≠ 16 := by omega
  go_enter Ybaf.func11, Ybaf.ntmps11
  go_wp2_with fail
  go_region_held3 (fun W => Hid (Below w.heap.size w W) ∧ W.cell? ⟨g, o, none⟩ = some (.int .u8 128) ∧ W.cell? ⟨g, o + 1, none⟩ = some (.int .u8 op) ∧ W.cell? ⟨g, o + 4, none⟩ = some (.int .u8 ex) ∧ W.cell? ⟨g, o + 5, none⟩ = some (.int .u8 dt)) (first | (with_reducible exact HS0.out) | (with_reducible exact Kept.next (by assumption) (by assumption)) | (with_reducible exact Kept.set11 (by assumption) hg (by assumption)) | (with_reducible exact Kept.next (by assumption) ((Below.refl _ _).alloc (Nat.le_refl _) _)) | (with_reducible exact Kept.swap (by assumption) hg (by assumption)))
    (first
    | (go_at_call 17; refine (HC1.out _ ?_).mono ?_; exact Hid.out (And.left (show Kept w g o 128 op ex dt _ by assumption)); rintro e w' ⟨rfl, hb⟩; obtain ⟨hl0, hl1⟩ := low_of (show Kept w g o 128 op ex dt _ by assumption) hb; (first | (with_reducible have hz := box_new hb) | (with_reducible have hz := box_newd hb) | (with_reducible have hz := box_next (by assumption) hb) | skip))
    | (go_at_call 18; refine (HC2.out _ ?_).mono ?_; exact Hid.out (And.left (show Kept w g o 128 op ex dt _ by assumption)); rintro e w' ⟨rfl, hb⟩; clear HC2; obtain ⟨hl0, hl1⟩ := low_of (show Kept w g o 128 op ex dt _ by assumption) hb; (first | (with_reducible have hz := box_new hb) | (with_reducible have hz := box_newd hb) | (with_reducible have hz := box_next (by assumption) hb) | skip))
    | (go_at_call 18; refine (HC3.out _ ?_).mono ?_; exact Hid.out (And.left (show Kept w g o 128 op ex dt _ by assumption)); rintro e w' ⟨rfl, hb⟩; obtain ⟨hl0, hl1⟩ := low_of (show Kept w g o 128 op ex dt _ by assumption) hb; (first | (with_reducible have hz := box_new hb) | (with_reducible have hz := box_newd hb) | (with_reducible have hz := box_next (by assumption) hb) | skip))
    | (go_at_call 19; refine (HC4.out _ ?_).mono ?_; exact Hid.out (And.left (show Kept w g o 128 op ex dt _ by assumption)); rintro e w' ⟨rfl, hb⟩; obtain ⟨hl0, hl1⟩ := low_of (show Kept w g o 128 op ex dt _ by assumption) hb; (first | (with_reducible have hz := box_new hb) | (with_reducible have hz := box_newd hb) | (with_reducible have hz := box_next (by assumption) hb) | skip); (first | (have z0 := hz.c0; have z1 := hz.c1; have z2 := hz.c2; have z3 := hz.c3; have z4 := hz.c4; have z5 := hz.c5; have z6 := hz.c6; have z7 := hz.c7; have z8 := hz.c8; have z9 := hz.c9; have z10 := hz.c10; have zf := hz.fz) | skip)))
  all_goals
    have HS := hidI (show Kept w g o 128 op ex dt _ by assumption)
    (first
    | (have HX := hidI (box_set11 hz 128 op 0 key ex dt 0 0 body opq cas); generalize World.setCell _ _ _ = W5 at HX HS ⊢)
    | (have HX : Hid (BoxAt (World.alloc w' (.cells #[.int .u8 128, .int .u8 op, .int .u8 0, .int .u16 key, .int .u8 ex, .int .u8 dt, .int .u16 0, .int .u16 0, .int .u32 body, .int .u32 opq, .int .u64 cas] 29)) w'.heap.size 128 op 0 key ex dt 0 0 body opq cas) := heap_alloc_new _ _; generalize World.alloc _ _ = W5 at HX HS ⊢))
  all_goals
    have hb5 := low_box HX (w := w) (by assumption)
    have HX6 := HX
    have HS6 := hidI HS.out.1.out
    clear HX HS
    have e0 := HX6.out.c0
    have q8 : (8 : Int) ≤ (c : Int) := by omega
    have p6 : 6 < c := by omega
    have n6 : c ≠ 6 := by omega
    have HC6 : Hid (∀ W, Below w.heap.size w W → Calls Ybaf.prog 17 #[.agg #[], .slice (some ⟨g, o + 6, none⟩) 2 (c - 6)] W fun e w' => ∃ v, e = .returned v ∧ (v = .int .u16 sp ∧ Below W.heap.size W w')) := fun W hW => (HC5.out W hW).mono (by rintro e w' ⟨rfl, hb⟩; exact ⟨_, rfl, rfl, hb⟩)
    clear HC5
  all_goals go_wp2
  all_goals (go_region_law (refine step_go Ybaf.func17 (by kernel_rfl) rfl rfl [.tmp 66, .tmp 68] _ rfl [.agg #[], .slice (some ⟨g, o + 6, none⟩) 2 (c - 6)] rfl _ (HC6.out _ HS6.out.drew) ?_; rintro v w7 ⟨rfl, hb7⟩; have HX7 := hidI (box_far (box_drew HX6.out) hb7); have HS7 := hidI (HS6.out.drew.trans (hb7.mono HS6.out.size)); have e6 := HX7.out.c6; have e6f := HX7.out.fz 6; clear hb7))
  all_goals
    have HX8 := hidI (box_set_6 HX7.out sp)
    have HS8 := hidI ((HS7.out).setCell (p := ⟨_, 6, none⟩) hb5 (.int .u16 sp))
    generalize World.setCell _ _ _ = W8 at HX8 HS8 ⊢
    clear HX6 HS6 HX7 HS7 e0 e6 e6f q8 p6 n6 HC6
    have e0 := HX8.out.c0; have e1 := HX8.out.c1; have e2 := HX8.out.c2; have e3 := HX8.out.c3; have e4 := HX8.out.c4; have e5 := HX8.out.c5; have e6 := HX8.out.c6; have e7 := HX8.out.c7; have e8 := HX8.out.c8; have e9 := HX8.out.c9; have e10 := HX8.out.c10
  all_goals go_wp2_with fail
  all_goals
    refine (check_ok 128 op 0 key ex dt sp 0 body opq cas W8 (by omega) hky hex (by omega) ⟨by omega, by omega, by omega⟩).mono ?_
    rintro e w9 ⟨rfl, hb9⟩
    clear e0 e1 e2 e3 e4 e5 e6 e7 e8 e9 e10
    have HX9 := hidI (box_far HX8.out hb9)
    have HS9 := hidI (HS8.out.trans (hb9.mono HS8.out.size))
    have HH9 := hidI (box_far HH.out HS9.out)
    clear hb9 HX8 HS8
    have e0 := HX9.out.c0; have e1 := HX9.out.c1; have e2 := HX9.out.c2; have e3 := HX9.out.c3; have e4 := HX9.out.c4; have e5 := HX9.out.c5; have e6 := HX9.out.c6; have e7 := HX9.out.c7; have e8 := HX9.out.c8; have e9 := HX9.out.c9; have e10 := HX9.out.c10
    have h0 := HH9.out.c0; have h1 := HH9.out.c1; have h2 := HH9.out.c2; have h3 := HH9.out.c3; have h4 := HH9.out.c4; have h5 := HH9.out.c5; have h6 := HH9.out.c6; have h7 := HH9.out.c7; have h8 := HH9.out.c8; have h9 := HH9.out.c9; have h10 := HH9.out.c10
    have hf9 := HH9.out.fz
  all_goals go_wp2
  all_goals go_ret
  all_goals exact ⟨rfl, box_set11 HH9.out _ _ _ _ _ _ _ _ _ _ _, grown_set11 HS9.out⟩
end Go.Proofs.YbulkbzcFmt
