/-
  'saveUndo'. Typed by the prover of this seat (an AI agent).
-/
import Derived.Test.YbulkbyoState
import Derived.Deep.RegionLaw
import Derived.Deep.RegionHeld3
namespace Go.Proofs.Ybulkbyo
open Go.RowKit Go.MapFn
set_option maxRecDepth 100000

/-- All blocks of cells but the transaction's and the undos' stand as they stood. -/
def Far (w w' : World) : Prop := ∀ (k : Nat) c t fr, w.heap[k]? = some (Obj.cells c t fr) → t ≠ 45 ∧ t ≠ 65 → w'.heap[k]? = w.heap[k]?

theorem heap_new2 (w : World) (o1 o2 : Obj) : ((w.alloc o1).alloc o2).drew.heap[w.heap.size + 1]? = some o2 := by
  have := (MapKept.heap_alloc (w.alloc o1) o2).1
  have e : (w.alloc o1).heap.size = w.heap.size + 1 := by simp
  rw [e] at this
  exact this
theorem info65 : (Yba.prog.info? 65).map (fun i => (i.zero, i.size, i.bytes)) = some (some (.agg #[.string ⟨#[]⟩, .slice none 0 0, .slice none 0 0, .bool false, .bool false]), 5, 80) := by kernel_rfl

section
variable {B0 T R W9 : Nat} {w : World} {lv sn : Int} {v9 v11 v12 v13 v14 : Value} {rd : Int → Option Int} {wf : Int → Option Value} {sc : Int → Option Int} {sv : Int → Option Bool}
    {n9 : Nat} {fr to : Nat → ByteArray} {rev : Nat → Int} {n12 : Nat} {xs12 : List Value} {n13 : Nat} {xs13 : List Value} {N : Nat}

theorem St.lenSaves (h : St B0 w T R W9 lv sn v9 v11 v12 v13 v14 rd wf sc sv n9 fr to rev n12 xs12 n13 xs13 N) : ∃ a c, v12 = .slice a n12 c := by
  rcases h.saves.2 with ⟨e, hz⟩ | ⟨g, cap, cur, e, _⟩
  · exact ⟨_, _, by rw [hz]; exact e⟩
  · exact ⟨_, _, e⟩
theorem St.lenUndo (h : St B0 w T R W9 lv sn v9 v11 v12 v13 v14 rd wf sc sv n9 fr to rev n12 xs12 n13 xs13 N) : ∃ a c, v13 = .slice a n13 c := by
  rcases h.undo.2 with ⟨e, hz⟩ | ⟨g, cap, cur, e, _⟩
  · exact ⟨_, _, by rw [hz]; exact e⟩
  · exact ⟨_, _, e⟩

set_option maxHeartbeats 1000000 in
theorem undo_none (m : Int) (pk pv : Value) (pd wrote : Bool) (hz : n12 = 0) (h : Hid (St B0 w T R W9 lv sn v9 v11 v12 v13 v14 rd wf sc sv n9 fr to rev n12 xs12 n13 xs13 N)) :
    Calls Yba.prog 11 #[.pointer (some ⟨T, 0, none⟩), .string (kb m), .agg #[pk, pv, .bool pd], .bool wrote] w fun e w' => e = .returned (.tuple #[]) ∧ Below w.heap.size w w' := by
  obtain ⟨a, c, e12⟩ := h.out.lenSaves
  subst hz
  have c12 := h.out.tx.c12
  rw [e12] at c12
  have hlt := h.out.tx.lt
  clear e12
  go_enter Yba.func11, Yba.ntmps11
  go_wp2
  exact bodyPost_ret (results_none rfl _ _ _) rfl ⟨rfl, (Below.refl _ _).alloc (Nat.le_refl _) _⟩

set_option maxHeartbeats 1000000 in
theorem undo_had (m : Int) (h0 : 0 ≤ m) (h1 : m < 5) (pk pv : Value) (pd wrote : Bool) (hz : 0 < n12) (hn : n12 ≤ 2) (hs : (sv m).getD false = true) (h : Hid (St B0 w T R W9 lv sn v9 v11 v12 v13 v14 rd wf sc sv n9 fr to rev n12 xs12 n13 xs13 N)) :
    Calls Yba.prog 11 #[.pointer (some ⟨T, 0, none⟩), .string (kb m), .agg #[pk, pv, .bool pd], .bool wrote] w fun e w' => e = .returned (.tuple #[]) ∧ Below w.heap.size w w' := by
  obtain ⟨a, c, e12⟩ := h.out.lenSaves
  have c12 := h.out.tx.c12
  rw [e12] at c12
  have hlt := h.out.tx.lt
  have c14 := h.out.tx.c14
  have hl : ∀ o, (Instr.lookup 43 v14 (.string (kb m)) false).run Yba.prog (w.alloc o) = .ok (.bool true) (w.alloc o) := by
    intro o
    have := (h.out.below ((Below.refl _ _).alloc (Nat.le_refl _) o)).saved.look Yba.underlying43 (zero4 _) h0 h1
    rw [this]
    cases hm : sv m <;> simp_all
  have hz' : ((n12 : Int) == 0) = false := beq_eq_false_iff_ne.2 (by omega)
  clear e12 hs
  go_enter Yba.func11, Yba.ntmps11
  go_wp2
  exact bodyPost_ret (results_none rfl _ _ _) rfl ⟨rfl, (Below.refl _ _).alloc (Nat.le_refl _) _⟩

set_option maxHeartbeats 2000000 in
theorem undo_new (m : Int) (h0 : 0 ≤ m) (h1 : m < 5) (pk pv : Value) (pd wrote : Bool) (hz : 0 < n12) (hn : n12 ≤ 2) (hu : n13 ≤ 2) (hs : (sv m).getD false = false) (hNN : N < 100000) (hB : B0 ≤ w.heap.size) (h : Hid (St B0 w T R W9 lv sn v9 v11 v12 v13 v14 rd wf sc sv n9 fr to rev n12 xs12 n13 xs13 N)) (ho : pk.oneCell' = true) (ho' : pv.oneCell' = true) :
    Calls Yba.prog 11 #[.pointer (some ⟨T, 0, none⟩), .string (kb m), .agg #[pk, pv, .bool pd], .bool wrote] w fun e w' => e = .returned (.tuple #[]) ∧ Below B0 w w' ∧
      Far w w' ∧
      ∃ v13' v14', St B0 w' T R W9 lv sn v9 v11 v12 v13' v14' rd wf sc (fun j => if j = m then some true else sv j) n9 fr to rev n12 xs12 (n13 + 1) (xs13 ++ [.string (kb m), pk, pv, .bool pd, .bool wrote]) (N + 1) := by
  obtain ⟨a, c, e12⟩ := h.out.lenSaves
  have c12 := h.out.tx.c12
  rw [e12] at c12
  have hlt := h.out.tx.lt
  have hlt2 : T < w.heap.size + 1 := by omega
  have c13 := h.out.tx.c13
  have c14 := h.out.tx.c14
  have hl : ∀ o, (Instr.lookup 43 v14 (.string (kb m)) false).run Yba.prog (w.alloc o) = .ok (.bool false) (w.alloc o) := by
    intro o
    have := (h.out.below ((Below.refl _ _).alloc (Nat.le_refl _) o)).saved.look Yba.underlying43 (zero4 _) h0 h1
    rw [this]
    cases hm : sv m <;> simp_all
  have hz' : ((n12 : Int) == 0) = false := beq_eq_false_iff_ne.2 (by omega)
  obtain ⟨i0, hi, hz0, hz1, hz2⟩ := info_parts info65
  clear e12
  have HS := hidI hs
  clear hs
  go_enter Yba.func11, Yba.ntmps11
  go_wp2_with fail
  have HB2 : Hid (Below w.heap.size w (((w.alloc (.cells #[pk, pv, .bool pd] 61)).alloc (.cells #[.string (kb m), pk, pv, .bool pd, .bool wrote] 65)).drew)) := (((Below.refl _ _).alloc (Nat.le_refl _) _).alloc (by simp) _).drew
  have HST2 := hidI (h.out.below HB2.out)
  have hnews : Hid (∀ j u, [Value.string (kb m), pk, pv, .bool pd, .bool wrote][j]? = some u → (((w.alloc (.cells #[pk, pv, .bool pd] 61)).alloc (.cells #[.string (kb m), pk, pv, .bool pd, .bool wrote] 65)).drew).cell? ((⟨w.heap.size + 1, 0, none⟩ : Addr).add j) = some u) :=
    fun j u hu => World.news_of_block (cs := #[.string (kb m), pk, pv, .bool pd, .bool wrote]) (t := 65) (fr := (0, 0)) (heap_new2 _ _ _) j u (by simpa using hu)
  have hone : Hid (∀ u ∈ [Value.string (kb m), pk, pv, .bool pd, .bool wrote], u.oneCell' = true) := by
    intro u hu
    simp only [List.mem_cons, List.not_mem_nil, or_false] at hu
    rcases hu with rfl | rfl | rfl | rfl | rfl
    · rfl
    · exact ho
    · exact ho'
    · rfl
    · rfl
  go_region_law (refine step_append_lies _ rfl _ _ 42 rfl B0 65 i0 _ 5 80 Yba.underlying42 hi hz0 hz1 hz2 rfl (by decide) v13 n13 xs13 rfl HST2.out.undo ⟨w.heap.size + 1, 0, none⟩ 1 1 [.string (kb m), pk, pv, .bool pd, .bool wrote] rfl rfl hnews.out hone.out (by decide) (by unfold maxLen; omega) (by omega) (by simp; omega) _ rfl ?_; intro g cap w1 hown hgrow hat hlt1; have HOW := hidI hown; have HGR := hidI hgrow; clear hown hgrow; have hT1 : TxAt w1 T lv sn (.map (some R)) v9 (.map (some W9)) v11 v12 v13 v14 := HST2.out.tx.same (append_far HST2.out.undo HGR.out HST2.out.tx (fun c e => by cases e)); have q1 := hT1.c13; have q2 := hT1.frozen 13; clear hT1)
  all_goals
    have HP := hidI (HST2.out.pushUndo HGR.out HOW.out)
    have HBL : Hid (Below B0 w (w1.setCell ⟨T, 13, none⟩ (.slice (some ⟨g, 0, none⟩) (n13 + 1) cap))) := by
      refine (Below.setCell (p := ⟨T, 13, none⟩) ?_ h.out.base.2.2 _)
      refine (HB2.out.mono hB).grown HGR.out (by simp; omega) (fun k hk => ?_)
      rcases h.out.undo.2 with ⟨e, _⟩ | ⟨g', c', cu, e, hge, _⟩
      · rw [e] at hk; cases hk
      · rw [e] at hk; cases hk; exact hge
    have HFAR : Hid (∀ (k : Nat) c t fr, w.heap[k]? = some (Obj.cells c t fr) → t ≠ 45 ∧ t ≠ 65 → (w1.setCell ⟨T, 13, none⟩ (.slice (some ⟨g, 0, none⟩) (n13 + 1) cap)).heap[k]? = w.heap[k]?) := by
      intro k c t fr hk ht
      have e1 := HB2.out.block k (Array.getElem?_eq_some_iff.1 hk).1
      have hk2 := e1.trans hk
      have e2 := append_far HST2.out.undo HGR.out hk2 (fun c' e' => by cases e'; exact ht.2 rfl)
      have hT1 : TxAt w1 T lv sn (.map (some R)) v9 (.map (some W9)) v11 v12 v13 v14 := HST2.out.tx.same (append_far HST2.out.undo HGR.out HST2.out.tx (fun c e => by cases e))
      rw [set_other hT1 (e2.trans hk2) (fun c' e' => by cases e'; exact ht.1 rfl), e2, e1]
    generalize w1.setCell ⟨T, 13, none⟩ (.slice (some ⟨g, 0, none⟩) (n13 + 1) cap) = w2 at HP HBL HFAR ⊢
    generalize Value.slice (some ⟨g, 0, none⟩) (n13 + 1) cap = v13' at HP ⊢
    clear HST2 HB2 hnews hone HOW HGR q1 q2 hat hlt1 c12 c13 c14 hl
    have qT : ∀ (w : World) (r : Option Nat), (binOp .eql 43 (.map r) (.map none)).run Yba.prog w = .ok (.bool r.isNone) w := fun w r => run_eql_map_nil w _ _ _ r Yba.underlying43
    have hmm := @run_makeMap Yba.prog
    have c14 := HP.out.tx.c14
    have hTlt := HP.out.tx.lt
    have f14 := HP.out.tx.frozen 14
    rcases HP.out.saved with ⟨hv, hsv⟩ | ⟨b, hv, hk⟩
    · obtain rfl : sv = fun _ => none := funext hsv
      rw [hv] at c14
      have HM := hidI (HP.out.savedMake (by have := HBL.out.size; omega))
      have hk : KM Value.bool ((w2.alloc (.map #[] 0)).setCell ⟨T, 14, none⟩ (.map (some w2.heap.size))) w2.heap.size N (fun _ => none) := by
        rcases HM.out.saved with ⟨e, _⟩ | ⟨b, e, k⟩
        · cases e
        · cases e; exact k
      obtain ⟨w3, hrun, hk3, ht3⟩ := hk.store Yba.underlying43 (by unfold maxLen; omega) h0 h1 true
      have HK3 := hidI (HM.out.savedSet ht3 hk3)
      have HB3 : Hid (Below B0 w w3) := ((HBL.out.alloc (by have := HBL.out.size; omega) _).setCell (p := ⟨T, 14, none⟩) h.out.base.2.2 _).grown ht3.grown (by have := HBL.out.size; simp; omega) (fun k hk => by cases hk; have := HBL.out.size; omega)
      have HF3 : Hid (∀ (k : Nat) c t fr, w.heap[k]? = some (Obj.cells c t fr) → t ≠ 45 ∧ t ≠ 65 → w3.heap[k]? = w.heap[k]?) := by
        intro k c t fr hk' ht
        have e1 := HFAR.out k c t fr hk' ht
        have hk2 := e1.trans hk'
        have e2 := Below.heap_alloc w2 (.map #[] 0) k (Array.getElem?_eq_some_iff.1 hk2).1
        have hk3' := e2.trans hk2
        have hTa := HP.out.tx.same (Below.heap_alloc w2 (.map #[] 0) T hTlt)
        have e3 := set_other (j := 14) (u := .map (some w2.heap.size)) hTa hk3' (fun c' e' => by cases e'; exact ht.1 rfl)
        have hk4 := e3.trans hk3'
        rw [turned_cells ht3 hk4, e3, e2, e1]
      clear hk hk3 ht3 hsv
      rw [World.setCell_alloc_past _ _ _ _ hTlt] at hrun
      go_wp2
      go_end0
      exact ⟨rfl, HB3.out, HF3.out, _, _, HK3.out⟩
    · subst hv
      obtain ⟨w3, hrun, hk3, ht3⟩ := hk.store Yba.underlying43 (by unfold maxLen; omega) h0 h1 true
      have HK3 := hidI (HP.out.savedSet ht3 hk3)
      have hbB := (h.out.ne3 b rfl).2.2.2
      have HB3 : Hid (Below B0 w w3) := HBL.out.grown ht3.grown (by have := HBL.out.size; omega) (fun k hk => by cases hk; exact hbB)
      have HF3 : Hid (∀ (k : Nat) c t fr, w.heap[k]? = some (Obj.cells c t fr) → t ≠ 45 ∧ t ≠ 65 → w3.heap[k]? = w.heap[k]?) := by
        intro k c t fr hk' ht
        have e1 := HFAR.out k c t fr hk' ht
        rw [turned_cells ht3 (e1.trans hk'), e1]
      clear hk hk3 ht3
      go_wp2
      go_end0
      exact ⟨rfl, HB3.out, HF3.out, _, _, HK3.out⟩
end
end Go.Proofs.Ybulkbyo
