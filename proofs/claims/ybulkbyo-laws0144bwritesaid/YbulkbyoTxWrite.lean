/-
  '(*Tx).write'. Typed by the prover of this seat (an AI agent).
-/
import Derived.Test.YbulkbyoUndo
import Derived.Deep.RegionWith
import Derived.Deep.DeepCutAuto
namespace Go.Proofs.Ybulkbyo
open Go.RowKit Go.MapFn
set_option maxRecDepth 100000

section
variable {B0 T R W9 : Nat} {w : World} {lv sn : Int} {v9 v11 v12 v13 v14 : Value} {rd : Int → Option Int} {wf : Int → Option Value} {sc : Int → Option Int} {sv : Int → Option Bool}
    {n9 : Nat} {fr tw : Nat → ByteArray} {rev : Nat → Int} {n12 : Nat} {xs12 : List Value} {n13 : Nat} {xs13 : List Value} {N : Nat}

theorem Far.next {w wc w3 w4 : World} {b : Nat} (h : Far w wc) (h3 : Far wc w3) (h4 : w3.drew.mapTurned w4 b) : Far w w4 := by
  intro k c t fr hk ht
  have e1 := h k c t fr hk ht
  have e3 := h3 k c t fr (e1.trans hk) ht
  have e4 := turned_cells (w := w3.drew) h4 (e3.trans (e1.trans hk))
  rw [e4]
  exact e3.trans e1

/-- What 'saveUndo' does here, whatever the reads. -/
def UndoC (B0 T R W9 : Nat) (lv sn : Int) (v9 v11 v12 v13 v14 : Value) (wf : Int → Option Value) (sc : Int → Option Int) (sv : Int → Option Bool)
    (n9 : Nat) (fr tw : Nat → ByteArray) (rev : Nat → Int) (n12 : Nat) (xs12 : List Value) (n13 : Nat) (xs13 : List Value) (m : Int) (prev : Value) (wrote : Bool) (sv2 : Int → Option Bool) (n13' : Nat) (xs13' : List Value) : Prop :=
  ∀ (W : World) (rd : Int → Option Int) (N : Nat), N < 100000 → B0 ≤ W.heap.size → St B0 W T R W9 lv sn v9 v11 v12 v13 v14 rd wf sc sv n9 fr tw rev n12 xs12 n13 xs13 N →
    Calls Yba.prog 11 #[.pointer (some ⟨T, 0, none⟩), .string (kb m), prev, .bool wrote] W fun e w' => e = .returned (.tuple #[]) ∧ Below B0 W w' ∧
      Far W w' ∧
      ∃ v13' v14', St B0 w' T R W9 lv sn v9 v11 v12 v13' v14' rd wf sc sv2 n9 fr tw rev n12 xs12 n13' xs13' (N + 1)

set_option maxHeartbeats 2000000 in
theorem write_core (m : Int) (h0 : 0 ≤ m) (h1 : m < 5) (ka xa pa qa : Option Addr) (kl kc xl xc pl pc ql qc : Nat) (nd : Bool) (t : ByteArray) (pd wrote : Bool) (sv2 : Int → Option Bool) (n13' : Nat) (xs13' : List Value) (st : Nat)
    (hnk : Hid (BytesOk w (.slice ka kl kc) (kb m))) (hnv : Hid (BytesOk w (.slice xa xl xc) t)) (hprev : (wf m).getD (.agg #[.slice none 0 0, .slice none 0 0, .bool false]) = .agg #[.slice pa pl pc, .slice qa ql qc, .bool pd]) (hwr : (wf m).isSome = wrote)
    (hN : N < 10000) (hB : B0 ≤ w.heap.size) (h9 : (n9 : Int) ≤ 1024) (hst : (st : Int) ≤ n9) (hsc : (sc m).getD 0 = (st : Int))
    (h : Hid (St B0 w T R W9 lv sn v9 v11 v12 v13 v14 rd wf sc sv n9 fr tw rev n12 xs12 n13 xs13 N))
    (hu : Hid (UndoC B0 T R W9 lv sn v9 v11 v12 v13 v14 wf sc sv n9 fr tw rev n12 xs12 n13 xs13 m (.agg #[.slice pa pl pc, .slice qa ql qc, .bool pd]) wrote sv2 n13' xs13')) :
    Calls Yba.prog 7 #[.pointer (some ⟨T, 0, none⟩), .agg #[.slice ka kl kc, .slice xa xl xc, .bool nd]] w fun e w' => e = .returned (.tuple #[]) ∧ Below B0 w w' ∧ Far w w' ∧
      ∃ v13' v14', St B0 w' T R W9 lv sn v9 v11 v12 v13' v14'
        (if wrote = false ∧ lv = 2 then (fun j => if j = m then some (sinceTo (kb m) fr tw rev ((rd m).getD sn) st (n9 - st)) else rd j) else rd)
        (fun j => if j = m then some (.agg #[.slice ka kl kc, .slice xa xl xc, .bool nd]) else wf j) sc sv2 n9 fr tw rev n12 xs12 n13' xs13' (N + 3) := by
  have hTlt := h.out.tx.lt
  have hT1 : T < w.heap.size + 1 := by omega
  have c1 := h.out.tx.c1
  have c10 := h.out.tx.c10
  have hconv : ∀ o, (convert 26 9 (.slice ka kl kc)).run Yba.prog (w.alloc o) = .ok (.string (kb m)) (w.alloc o) := fun o => (hnk.out.keep (KeepB.of_below ((Below.refl _ _).alloc (Nat.le_refl _) o))).str
  have hlook : ∀ o, (Instr.lookup 30 (.map (some W9)) (.string (kb m)) true).run Yba.prog (w.alloc o) = .ok (.tuple #[.agg #[.slice pa pl pc, .slice qa ql qc, .bool pd], .bool wrote]) (w.alloc o) := by
    intro o
    have := (h.out.below ((Below.refl _ _).alloc (Nat.le_refl _) o)).writes.look_ok Yba.underlying30 (zero61 _) h0 h1
    rw [this, Option.map_id, id, hprev, hwr]
  clear hprev hwr
  -- the world behind the two boxes
  have HB2 : Hid (Below w.heap.size w ((w.alloc (.cells #[.slice ka kl kc, .slice xa xl xc, .bool nd] 61)).alloc (.cells #[.slice pa pl pc, .slice qa ql qc, .bool pd] 61))) := ((Below.refl _ _).alloc (Nat.le_refl _) _).alloc (by simp) _
  have HS2 := hidI (h.out.below HB2.out)
  have h8 := heap_new2 w (.cells #[.slice ka kl kc, .slice xa xl xc, .bool nd] 61) (.cells #[.slice pa pl pc, .slice qa ql qc, .bool pd] 61)
  have h7 : ((w.alloc (.cells #[.slice ka kl kc, .slice xa xl xc, .bool nd] 61)).alloc (.cells #[.slice pa pl pc, .slice qa ql qc, .bool pd] 61)).heap[w.heap.size]? = some (.cells #[.slice ka kl kc, .slice xa xl xc, .bool nd] 61) := by
    rw [Below.heap_alloc _ _ _ (by simp)]; exact (MapKept.heap_alloc w _).1
  have H7 := hidI h7
  have H8 : Hid (((w.alloc (.cells #[.slice ka kl kc, .slice xa xl xc, .bool nd] 61)).alloc (.cells #[.slice pa pl pc, .slice qa ql qc, .bool pd] 61)).heap[w.heap.size + 1]? = some (.cells #[.slice pa pl pc, .slice qa ql qc, .bool pd] 61)) := h8
  clear h7 h8
  by_cases hc : wrote = false ∧ lv = 2
  · obtain ⟨rfl, rfl⟩ := hc
    rw [if_pos ⟨rfl, rfl⟩]
    have c8 := h.out.tx.c8
    have HL : Hid (∀ W, Below w.heap.size w W → Calls Yba.prog 10 #[.pointer (some ⟨T, 0, none⟩), .string (kb m)] W fun e w' => e = .returned (.int .i64 (sinceTo (kb m) fr tw rev ((rd m).getD sn) st (n9 - st))) ∧ Below W.heap.size W w') := by
      intro W hW
      have hs := h.out.below hW
      refine last_any T R N n9 st 2 sn v9 (.map (some W9)) v11 v12 v13 v14 rd fr tw rev m W h0 h1 h9 hst hs.tx hs.reads hs.rangesAt (fun nq => ?_)
      have := (hs.below (w' := W.drewN nq) (below_drewN (Below.refl _ _) nq)).scans.look Yba.underlying40 (zero3 _) h0 h1
      rw [this]
      cases hm : sc m with
      | none => rw [hm] at hsc; simp at hsc; simp [← hsc]
      | some x => rw [hm] at hsc; simp at hsc; simp [hsc]
    have HSC := hidI hsc
    clear hsc
    go_enter Yba.func7, Yba.ntmps7
    go_wp2_with fail
    go_region_with (go_at_call 10; refine (HL.out _ ?_).mono ?_; exact HB2.out.drew; rintro e w1 ⟨rfl, hb1⟩; have hb1' := hb1.mono (B' := w.heap.size) HB2.out.size; have hst1 := h.out.below (HB2.out.drew.trans hb1'); obtain ⟨w2, hrun, hk2, ht2⟩ := hst1.reads.store Yba.underlying29 (by unfold maxLen; omega) h0 h1 (sinceTo (kb m) fr tw rev ((rd m).getD sn) st (n9 - st)); have d8 := hst1.tx.c8; have HS1 := hidI hst1; have HK2 := hidI hk2; have HT2 := hidI ht2; have HB1 := hidI hb1; clear hb1' hst1 hk2 ht2 hb1)
    all_goals
      have HSc := hidI (HS1.out.readsSet HT2.out HK2.out)
      have hs1 := HB1.out.size
      have hs0 : ((w.alloc (.cells #[.slice ka kl kc, .slice xa xl xc, .bool nd] 61)).alloc (.cells #[.slice pa pl pc, .slice qa ql qc, .bool pd] 61)).drew.heap.size = w.heap.size + 2 := by simp
      have HBc : Hid (Below B0 w w2) := ((HB2.out.drew.mono hB).trans (HB1.out.mono (by omega))).grown HT2.out.grown (by omega) (fun k hk => by cases hk; exact h.out.base.1)
      have hsz : w.heap.size + 2 ≤ w2.heap.size := by have := HT2.out.grown.size; omega
      have H7a : w1.heap[w.heap.size]? = some (.cells #[.slice ka kl kc, .slice xa xl xc, .bool nd] 61) := by rw [HB1.out.block _ (by omega)]; exact H7.out
      have H8a : w1.heap[w.heap.size + 1]? = some (.cells #[.slice pa pl pc, .slice qa ql qc, .bool pd] 61) := by rw [HB1.out.block _ (by omega)]; exact H8.out
      have H7c : Hid (w2.heap[w.heap.size]? = some (.cells #[.slice ka kl kc, .slice xa xl xc, .bool nd] 61)) := by show _ = _; rw [turned_cells HT2.out H7a]; exact H7a
      have H8c : Hid (w2.heap[w.heap.size + 1]? = some (.cells #[.slice pa pl pc, .slice qa ql qc, .bool pd] 61)) := by show _ = _; rw [turned_cells HT2.out H8a]; exact H8a
      have HKc : Hid (KeepB w w2) := (KeepB.of_below (HB2.out.drew.trans (HB1.out.mono (by omega)))).trans (fun g c fr e => by rw [turned_cells HT2.out e]; exact e)
      have HFc : Hid (Far w w2) := fun k c t fr hk _ => by
        have e1 := (HB2.out.drew.trans (HB1.out.mono (by omega))).block k (Array.getElem?_eq_some_iff.1 hk).1
        rw [turned_cells HT2.out (e1.trans hk), e1]
      clear H7a H8a hs1 hs0 HK2 HT2 HS1 HB1 d8 hrun c8 HL H7 H8 HB2 HS2 hconv hlook c1 c10
      generalize w2 = wc at *
    all_goals
      have b0 : wc.cell? ⟨w.heap.size + 1, 0, none⟩ = some (.slice pa pl pc) := by unfold World.cell?; rw [H8c.out]; rfl
      have b1 : wc.cell? ⟨w.heap.size + 1, 1, none⟩ = some (.slice qa ql qc) := by unfold World.cell?; rw [H8c.out]; rfl
      have b2 : wc.cell? ⟨w.heap.size + 1, 2, none⟩ = some (.bool pd) := by unfold World.cell?; rw [H8c.out]; rfl
      go_wp2_with fail
      refine (hu.out wc _ (N + 1) (by omega) (by omega) HSc.out).mono ?_
      rintro e w3 ⟨rfl, hb3, hk3, v13', v14', hst3⟩
      have hd : Below w3.heap.size w3 w3.drew := (Below.refl _ _).drew
      have hst3' := hst3.below hd
      obtain ⟨w4, hrun, hk4, ht4⟩ := hst3'.writes.store Yba.underlying30 (by unfold maxLen; omega) h0 h1 (.agg #[.slice ka kl kc, .slice xa xl xc, .bool nd])
      simp only [id] at hrun
      have e10 := hst3.tx.c10
      have h7' : w3.heap[w.heap.size]? = some (.cells #[.slice ka kl kc, .slice xa xl xc, .bool nd] 61) := by rw [hk3 _ _ _ _ H7c.out (by decide)]; exact H7c.out
      have a0 : w3.cell? ⟨w.heap.size, 0, none⟩ = some (.slice ka kl kc) := by unfold World.cell?; rw [h7']; rfl
      have a1 : w3.cell? ⟨w.heap.size, 1, none⟩ = some (.slice xa xl xc) := by unfold World.cell?; rw [h7']; rfl
      have a2 : w3.cell? ⟨w.heap.size, 2, none⟩ = some (.bool nd) := by unfold World.cell?; rw [h7']; rfl
      have kb3 : KeepB w w3.drew := HKc.out.trans (fun g c fr e => by show w3.heap[g]? = _; rw [hk3 g c 5 fr e (by decide)]; exact e)
      have HFIN := hidI (hst3'.writesSet ht4 hk4 (fun j v j0 j1 e => by
        by_cases hj : j = m
        · simp only [hj, if_true] at e; cases e
          exact ⟨_, _, _, _, _, rfl, hnk.out.keep kb3, hnv.out.keep kb3⟩
        · simp only [hj, if_false] at e
          exact (hst3'.wok j v j0 j1 e)))
      have HB4 : Hid (Below B0 w w4) := (HBc.out.trans hb3).drew.grown ht4.grown (by have := hb3.size; have : w3.drew.heap.size = w3.heap.size := rfl; omega) (fun k hk => by cases hk; exact h.out.base.2.1)
      have HF4 : Hid (Far w w4) := HFc.out.next hk3 ht4
      clear hb3 hk3 hst3 hd hst3' hk4 ht4 h7' kb3 b0 b1 b2
      go_wp2_with fail
      go_region
      all_goals
        go_wp2
        go_end0
        exact ⟨rfl, HB4.out, HF4.out, _, _, HFIN.out⟩
  · rw [if_neg hc]
    have HSc := hidI (HS2.out.mono (Nat.le_succ N))
    have HBc : Hid (Below B0 w ((w.alloc (.cells #[.slice ka kl kc, .slice xa xl xc, .bool nd] 61)).alloc (.cells #[.slice pa pl pc, .slice qa ql qc, .bool pd] 61))) := HB2.out.mono hB
    have hsz : w.heap.size + 2 ≤ ((w.alloc (.cells #[.slice ka kl kc, .slice xa xl xc, .bool nd] 61)).alloc (.cells #[.slice pa pl pc, .slice qa ql qc, .bool pd] 61)).heap.size := by simp
    have HKc := hidI (KeepB.of_below HB2.out)
    have HFc : Hid (Far w ((w.alloc (.cells #[.slice ka kl kc, .slice xa xl xc, .bool nd] 61)).alloc (.cells #[.slice pa pl pc, .slice qa ql qc, .bool pd] 61))) := fun k c t fr hk _ => HB2.out.block k (Array.getElem?_eq_some_iff.1 hk).1
    have H7c := H7
    have H8c := H8
    clear hsc HS2 H7 H8 HB2
    cases wrote
    · have hlv : (lv == 2) = false := beq_eq_false_iff_ne.2 (fun e => hc ⟨rfl, e⟩)
      clear hc
      go_enter Yba.func7, Yba.ntmps7
      go_wp2_with fail
      refine (hu.out _ _ (N + 1) (by omega) (by omega) HSc.out).mono ?_
      rintro e w3 ⟨rfl, hb3, hk3, v13', v14', hst3⟩
      have hd : Below w3.heap.size w3 w3.drew := (Below.refl _ _).drew
      have hst3' := hst3.below hd
      obtain ⟨w4, hrun, hk4, ht4⟩ := hst3'.writes.store Yba.underlying30 (by unfold maxLen; omega) h0 h1 (.agg #[.slice ka kl kc, .slice xa xl xc, .bool nd])
      simp only [id] at hrun
      have e10 := hst3.tx.c10
      have h7' : w3.heap[w.heap.size]? = some (.cells #[.slice ka kl kc, .slice xa xl xc, .bool nd] 61) := by rw [hk3 _ _ _ _ H7c.out (by decide)]; exact H7c.out
      have a0 : w3.cell? ⟨w.heap.size, 0, none⟩ = some (.slice ka kl kc) := by unfold World.cell?; rw [h7']; rfl
      have a1 : w3.cell? ⟨w.heap.size, 1, none⟩ = some (.slice xa xl xc) := by unfold World.cell?; rw [h7']; rfl
      have a2 : w3.cell? ⟨w.heap.size, 2, none⟩ = some (.bool nd) := by unfold World.cell?; rw [h7']; rfl
      have kb3 : KeepB w w3.drew := HKc.out.trans (fun g c fr e => by show w3.heap[g]? = _; rw [hk3 g c 5 fr e (by decide)]; exact e)
      have HFIN := hidI (hst3'.writesSet ht4 hk4 (fun j v j0 j1 e => by
        by_cases hj : j = m
        · simp only [hj, if_true] at e; cases e
          exact ⟨_, _, _, _, _, rfl, hnk.out.keep kb3, hnv.out.keep kb3⟩
        · simp only [hj, if_false] at e
          exact (hst3'.wok j v j0 j1 e)))
      have HB4 : Hid (Below B0 w w4) := (HBc.out.trans hb3).drew.grown ht4.grown (by have := hb3.size; have : w3.drew.heap.size = w3.heap.size := rfl; omega) (fun k hk => by cases hk; exact h.out.base.2.1)
      have HF4 : Hid (Far w w4) := HFc.out.next hk3 ht4
      clear hb3 hk3 hst3 hd hst3' hk4 ht4 h7' kb3
      go_wp2_with fail
      go_region
      all_goals
        go_wp2
        go_end0
        exact ⟨rfl, HB4.out, HF4.out, _, _, HFIN.out⟩
    · clear hc
      go_enter Yba.func7, Yba.ntmps7
      go_wp2_with fail
      refine (hu.out _ _ (N + 1) (by omega) (by omega) HSc.out).mono ?_
      rintro e w3 ⟨rfl, hb3, hk3, v13', v14', hst3⟩
      have hd : Below w3.heap.size w3 w3.drew := (Below.refl _ _).drew
      have hst3' := hst3.below hd
      obtain ⟨w4, hrun, hk4, ht4⟩ := hst3'.writes.store Yba.underlying30 (by unfold maxLen; omega) h0 h1 (.agg #[.slice ka kl kc, .slice xa xl xc, .bool nd])
      simp only [id] at hrun
      have e10 := hst3.tx.c10
      have h7' : w3.heap[w.heap.size]? = some (.cells #[.slice ka kl kc, .slice xa xl xc, .bool nd] 61) := by rw [hk3 _ _ _ _ H7c.out (by decide)]; exact H7c.out
      have a0 : w3.cell? ⟨w.heap.size, 0, none⟩ = some (.slice ka kl kc) := by unfold World.cell?; rw [h7']; rfl
      have a1 : w3.cell? ⟨w.heap.size, 1, none⟩ = some (.slice xa xl xc) := by unfold World.cell?; rw [h7']; rfl
      have a2 : w3.cell? ⟨w.heap.size, 2, none⟩ = some (.bool nd) := by unfold World.cell?; rw [h7']; rfl
      have kb3 : KeepB w w3.drew := HKc.out.trans (fun g c fr e => by show w3.heap[g]? = _; rw [hk3 g c 5 fr e (by decide)]; exact e)
      have HFIN := hidI (hst3'.writesSet ht4 hk4 (fun j v j0 j1 e => by
        by_cases hj : j = m
        · simp only [hj, if_true] at e; cases e
          exact ⟨_, _, _, _, _, rfl, hnk.out.keep kb3, hnv.out.keep kb3⟩
        · simp only [hj, if_false] at e
          exact (hst3'.wok j v j0 j1 e)))
      have HB4 : Hid (Below B0 w w4) := (HBc.out.trans hb3).drew.grown ht4.grown (by have := hb3.size; have : w3.drew.heap.size = w3.heap.size := rfl; omega) (fun k hk => by cases hk; exact h.out.base.2.1)
      have HF4 : Hid (Far w w4) := HFc.out.next hk3 ht4
      clear hb3 hk3 hst3 hd hst3' hk4 ht4 h7' kb3
      go_wp2_with fail
      go_region
      all_goals
        go_wp2
        go_end0
        exact ⟨rfl, HB4.out, HF4.out, _, _, HFIN.out⟩

theorem undoC_none (m : Int) (pk pv : Value) (pd wrote : Bool) (hz : n12 = 0) : UndoC B0 T R W9 lv sn v9 v11 v12 v13 v14 wf sc sv n9 fr tw rev n12 xs12 n13 xs13 m (.agg #[pk, pv, .bool pd]) wrote sv n13 xs13 := by
  intro W rd N hN hB h
  refine (undo_none m pk pv pd wrote hz h).mono fun e w' ⟨he, hb⟩ => ⟨he, hb.mono hB, fun k c t fr hk _ => hb.block k (Array.getElem?_eq_some_iff.1 hk).1, _, _, (h.below hb).mono (Nat.le_succ N)⟩

theorem undoC_had (m : Int) (h0 : 0 ≤ m) (h1 : m < 5) (pk pv : Value) (pd wrote : Bool) (hz : 0 < n12) (hn : n12 ≤ 2) (hs : (sv m).getD false = true) : UndoC B0 T R W9 lv sn v9 v11 v12 v13 v14 wf sc sv n9 fr tw rev n12 xs12 n13 xs13 m (.agg #[pk, pv, .bool pd]) wrote sv n13 xs13 := by
  intro W rd N hN hB h
  refine (undo_had m h0 h1 pk pv pd wrote hz hn hs h).mono fun e w' ⟨he, hb⟩ => ⟨he, hb.mono hB, fun k c t fr hk _ => hb.block k (Array.getElem?_eq_some_iff.1 hk).1, _, _, (h.below hb).mono (Nat.le_succ N)⟩

theorem undoC_new (m : Int) (h0 : 0 ≤ m) (h1 : m < 5) (pk pv : Value) (pd wrote : Bool) (hz : 0 < n12) (hn : n12 ≤ 2) (hu : n13 ≤ 2) (hs : (sv m).getD false = false) (ho : pk.oneCell' = true) (ho' : pv.oneCell' = true) :
    UndoC B0 T R W9 lv sn v9 v11 v12 v13 v14 wf sc sv n9 fr tw rev n12 xs12 n13 xs13 m (.agg #[pk, pv, .bool pd]) wrote (fun j => if j = m then some true else sv j) (n13 + 1) (xs13 ++ [.string (kb m), pk, pv, .bool pd, .bool wrote]) := by
  intro W rd N hN hB h
  exact undo_new m h0 h1 pk pv pd wrote hz hn hu hs hN hB h ho ho'
end
end Go.Proofs.Ybulkbyo
