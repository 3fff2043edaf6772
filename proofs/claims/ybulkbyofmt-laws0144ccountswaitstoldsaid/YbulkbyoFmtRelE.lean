/-
  'release' where nobody waits; 'releaseAll'. Typed by the prover of this seat (an AI agent).
-/
import Derived.Test.YbulkbyoFmtRel
namespace Go.Proofs.YbulkbyoFmt
open Go.RowKit Go.MuLone Go.MapFn
set_option maxRecDepth 100000

set_option maxHeartbeats 2000000 in
theorem release_empty (w : World) (B L M KB H0 K0 n n0 : Nat) (qa : Option Addr) (qc : Nat) (mu wts dl mk mk0 : Int) (key : ByteArray) (wt0 : Value) (f f0 : Value → Option Value)
    (hk : key.size ≤ maxLen)
    (hl : LkAt w L M mu wts dl mk) (hm : Hid (MapIs Ybaf.prog 9 w M n f)) (hf : f (.string key) = some (pt KB)) (hkl : KlAt w KB H0 (.slice qa 0 qc))
    (hh0 : HoAt w H0 K0 mk0 wt0) (hk0 : Hid (MapIs Ybaf.prog 9 w K0 n0 f0)) (h1 : f0 (.string key) = some (.agg #[])) (h2 : ∀ x, x ≠ .string key → f0 x = none)
    (hMK : M ≠ K0) (hB : B ≤ w.heap.size) (hBs : ∀ b ∈ [M, K0], B ≤ b) :
    Calls Ybaf.prog 18 #[.pointer (some ⟨L, 0, none⟩), .pointer (some ⟨H0, 0, none⟩)] w fun e w' => e = .returned (.tuple #[]) ∧ Below B w w' ∧ LkAt w' L M mu wts dl mk := by
  obtain ⟨D, hown, hD⟩ := hk0.out
  obtain ⟨hasT, hasU⟩ := one_key hk hD h1 h2
  have HOWN := hidI hown
  have HU := hidI hasU
  have hT1 : w.cell? ⟨H0, 1, none⟩ = some (.map (some K0)) := cell_of hh0 1
  have HL := hidI hl
  have HKL := hidI hkl
  have HH0 := hidI hh0
  have HF := hidI hf
  clear hl hkl hh0 hf hown hasU hD h1 h2
  go_enter Ybaf.func18, Ybaf.ntmps18
  go_wp2_with (first | (at_range; refine wpList_range_own _ rfl _ 54 rfl 9 24 lawS Ybaf.underlying54 rdv K0 n0 D rfl HOWN.out ?_; intro w0 hrg0 hg0 hs0; have HRG := hidI hrg0; have HG0 := hidI hg0; have HS0 := hidI hs0; clear hrg0 hg0 hs0) | fail)
  go_frame
  refine wp_loop_rounds 2 ?_
  rw [rounds_succ]
  go_upto_region 3 with (first | (at_next; refine wpList_next_ranges _ rfl _ rfl 9 lawS rdv Value.string id invK invV K0 w.heap.size n0 D _ _ rfl HRG.out ?_ ?_; (intro _ hl0; exact absurd (hl0 (.string key.data.toList)) (by rw [hasT]; decide)); intro x c kl y w1 cnt1 hkey hlk hv hat hrg hlt hgr hsz1 hen; have HRG1 := hidI hrg; have HGR1 := hidI hgr; have HLK := hidI hlk; have HKE := hidI hkey; clear hrg hgr hlk hkey hv hat hlt) | fail)
  obtain rfl := HU.out x kl HKE.out HLK.out
  obtain rfl : kl = .string x.data.toList := by have := HKE.out; rw [keyS hk] at this; injection this with this; exact this.symm
  have OLD : ∀ {k : Nat} {o : Obj}, w.heap[k]? = some o → w1.heap[k]? = some o := fun h =>
    (HGR1.out.block _ (by have := HS0.out; have := lt_of h; omega) (fun e => by have := lt_of h; injection e with e; omega)).trans ((HG0.out.block _ (lt_of h) (by simp)).trans h)
  have OLDM : ∀ {k : Nat}, k < w.heap.size → w1.heap[k]? = w.heap[k]? := fun h =>
    (HGR1.out.block _ (by have := HS0.out; omega) (fun e => by injection e with e; omega)).trans (HG0.out.block _ h (by simp))
  have hszw : w1.heap.size = w.heap.size + 1 := by have := HS0.out; omega
  have O1 : Hid (Only [M, K0] w w1) := ⟨HGR1.out.os.trans HG0.out.os, HGR1.out.tape.trans HG0.out.tape, HGR1.out.output.trans HG0.out.output, by omega, fun k hk _ => OLDM hk⟩
  have L1 : Hid (LkAt w1 L M mu wts dl mk) := OLD HL.out
  have K1 : Hid (KlAt w1 KB H0 (.slice qa 0 qc)) := OLD HKL.out
  have HZ1 : Hid (HoAt w1 H0 K0 mk0 wt0) := OLD HH0.out
  have M1 : Hid (MapIs Ybaf.prog 9 w1 M n f) := hm.out.same (OLDM hm.out.lt)
  obtain ⟨DM, howM, _⟩ := M1.out
  have HOM := hidI howM
  have l2 : w1.cell? ⟨L, 2, none⟩ = some (.map (some M)) := cell_of L1.out 2
  have k1 : w1.cell? ⟨KB, 1, none⟩ = some (.slice qa 0 qc) := cell_of K1.out 1
  have hlook := M1.out.look lawS Ybaf.underlying31 (zero57 _) (keyS hk)
  rw [HF.out, Option.getD_some] at hlook
  have HNO : Hid (∀ (y : ByteArray) (kl : Lit), keyOf Ybaf.prog 9 (Value.string y) = some kl → (Maps.has D kl && !kl.sameKey (Lit.string x.data.toList)) = true → False) := by
    intro y kl hy hh
    simp only [Bool.and_eq_true] at hh
    obtain rfl := HU.out y kl hy hh.1
    rw [keyS hk] at hy
    injection hy with hy
    rw [← hy, WideAt.sameKey_self (lawS.key (keyS hk))] at hh
    cases hh.2
  have HFIN : Hid (∀ w2, w1.mapTurned w2 M → LkAt w2 L M mu wts dl mk ∧ HoAt w2 H0 K0 mk0 wt0 ∧ Only [M, K0] w w2 ∧ w2.ranges Ybaf.prog 9 rdv K0 w.heap.size n0 D (fun z => Maps.has D z && !z.sameKey (Lit.string x.data.toList)) cnt1) := by
    intro w2 t2
    have isM : ∃ es cl, w1.heap[M]? = some (.map es cl) := by obtain ⟨es, cl, hb, _⟩ := HOM.out; exact ⟨es, cl, hb⟩
    obtain ⟨esM, clM, hMm⟩ := isM
    have nm : ∀ {k : Nat} {o : Obj}, w1.heap[k]? = some o → k ≠ M → w2.heap[k]? = some o := fun h hne => (t2.grown.block _ (lt_of h) (fun e => hne (by injection e))).trans h
    refine ⟨nm L1.out (ne_of L1.out hMm (fun e => by cases e)), nm HZ1.out (ne_of HZ1.out hMm (fun e => by cases e)), O1.out.grown t2.grown (fun b e => by cases e; left; simp), ?_⟩
    have h := HRG1.out
    obtain ⟨es, clock, since, seen, c0, hb', F, hs, hD, hr', _⟩ := HRG1.out
    exact ranges_same h ((nm hb' (fun e => hMK e.symm)).trans hb'.symm) ((nm hr' (ne_of hr' hMm (fun e => by cases e))).trans hr'.symm)
  clear HRG HGR1 HG0 HS0 OLD OLDM HL HKL HH0 hm hen hT1 hszw HLK HKE hk0 hsz1 howM
  unfold pt at hlook
  go_wp2_with (first | (at_delete; refine wpList_delete_own _ rfl _ _ 31 9 rfl 57 lawS Ybaf.underlying31 rdv M n DM rfl HOM.out _ _ rfl (keyS hk) ?_; intro w2 hown2 hturn2; obtain ⟨a1, a2, a3, a4⟩ := HFIN.out w2 hturn2; have A1 := hidI a1; have A2 := hidI a2; have A3 := hidI a3; have A4 := hidI a4; clear a1 a2 a3 a4 hown2 hturn2) | fail)
  rw [rounds_succ]
  obtain ⟨es5, cl5, hb5, _⟩ := A4.out.owns
  have T5 : w2.cell? ⟨H0, 1, none⟩ = some (.map (some K0)) := cell_of A2.out 1
  have hclr := fun ty => run_clear_map w2 ty K0 hb5
  have L6 : Hid (LkAt { w2 with heap := w2.heap.setIfInBounds K0 (.map #[] cl5) } L M mu wts dl mk) := (setObj_far _ _ (ne_of A1.out hb5 (fun e => by cases e))).trans A1.out
  have O6 : Hid (Only [M, K0] w { w2 with heap := w2.heap.setIfInBounds K0 (.map #[] cl5) }) := A3.out.trans ((setObj_only _ K0 _).mono (fun k hk _ => by simp only [List.mem_cons, List.not_mem_nil, or_false] at hk ⊢; omega))
  clear hb5 A1 A2 A3
  go_wp2_with (first | (at_next; refine wpList_next_ranges _ rfl _ rfl 9 lawS rdv Value.string id invK invV K0 w.heap.size n0 D _ _ rfl A4.out ?_ ?_; rotate_left; (intro y c kl v w6 cnt6 hkey hlk; exact (HNO.out y kl hkey hlk).elim); intro _ _) | fail)
  go_end0
  exact ⟨rfl, O6.out.below hBs hB, L6.out⟩

theorem size_pos {D : DataW Value} {k : Lit} (h : Maps.has D k = true) : ((Maps.size D : Int) == 0) = false := by
  refine beq_eq_false_iff_ne.2 ?_
  cases D with
  | map es =>
    cases es with
    | nil => simp [Maps.has] at h
    | cons a l => simp only [Maps.size, List.length_cons]; omega
  | _ => simp [Maps.has] at h

set_option maxHeartbeats 2000000 in
theorem releaseAll_any (w : World) (B L M H0 K0 n0 : Nat) (wts wts' dl mk mk0 : Int) (key : ByteArray) (wt0 : Value) (f0 : Value → Option Value) (hk : key.size ≤ maxLen)
    (hl : LkAt w L M 0 wts dl mk) (hh0 : HoAt w H0 K0 mk0 wt0) (hk0 : Hid (MapIs Ybaf.prog 9 w K0 n0 f0)) (h1 : f0 (.string key) = some (.agg #[])) (hBL : B ≤ L)
    (hrel : Hid (Calls Ybaf.prog 18 #[.pointer (some ⟨L, 0, none⟩), .pointer (some ⟨H0, 0, none⟩)] (w.setCell ⟨L, 0, none⟩ (.int .i32 1)) fun e w' => e = .returned (.tuple #[]) ∧ Below B (w.setCell ⟨L, 0, none⟩ (.int .i32 1)) w' ∧ LkAt w' L M 1 wts' dl mk)) :
    Calls Ybaf.prog 9 #[.pointer (some ⟨L, 0, none⟩), .pointer (some ⟨H0, 0, none⟩)] w fun e w' => e = .returned (.tuple #[]) ∧ Below B w w' ∧ LkAt w' L M 0 wts' dl mk := by
  obtain ⟨D, hown, hD⟩ := hk0.out
  have hlen : ∀ ty, (Builtin.len_ #[54] ty #[.map (some K0)]).run Ybaf.prog w = .ok (.int .i64 (Maps.size D)) w := fun ty => hown.len Ybaf.underlying54 ty
  have hpos := size_pos (D := D) (k := .string key.data.toList) (Maps.has_true_of_atKey (y := .held (.agg #[])) (fun z => by rw [hD _ _ (keyS hk) z, h1]; rfl))
  have c0 : w.cell? ⟨L, 0, none⟩ = some (.int .i32 0) := cell_of hl 0
  have f0' := frozen_of hl 0
  have t1 : w.cell? ⟨H0, 1, none⟩ = some (.map (some K0)) := cell_of hh0 1
  clear hown hD hk0 h1 hh0 hl
  go_enter_defers Ybaf.func9, Ybaf.ntmps9
  go_wp2_with (first | (go_at_call 15; refine (lock_free muLib ⟨L, 0, none⟩ _ c0 f0').mono ?_; rintro e w' ⟨rfl, rfl⟩) | (go_at_call 18; refine hrel.out.mono ?_; rintro e w2 ⟨rfl, hb2, hl2⟩; have HB2 := hidI hb2; have HL2 := hidI hl2; clear hb2 hl2) | fail)
  have u0 : w2.cell? ⟨L, 0, none⟩ = some (.int .i32 1) := cell_of HL2.out 0
  have uf := frozen_of HL2.out 0
  refine leaves_cons (f := 16) (args := #[.pointer (some ⟨L, 0, none⟩)]) (by simp) (by simp [go_sem]) ?_
  refine (unlock_deferred muLib ⟨L, 0, none⟩ .returning _ u0 uf).mono ?_
  rintro e u' w'' ⟨rfl, rfl, rfl⟩
  exact ⟨_, results_none rfl _ _ _, rfl, ((((Below.refl B w).setCell (p := ⟨L, 0, none⟩) hBL _).trans HB2.out).setCell (p := ⟨L, 0, none⟩) hBL _), HL2.out.set0 0⟩
end Go.Proofs.YbulkbyoFmt
