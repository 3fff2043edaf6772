/-
  'enqueue' at a key that is held. Typed by the prover of this seat (an AI agent).
-/
import Derived.Test.YbulkbyoFmtDeq
import Derived.Conc.SmallLaws
namespace Go.Proofs.YbulkbyoFmt
open Go.RowKit Go.MuLone Go.MapFn
set_option maxRecDepth 100000

theorem info24 : (Ybaf.prog.info? 24).map (·.bytes) = some 0 := by kernel_rfl
theorem mkch (w : World) : (Instr.makeChan 62 (.int .i64 0)).run Ybaf.prog w = .ok (.chan (some w.heap.size)) (w.alloc (.chan 0 #[] false 0 0 false)) := by
  cases e : Ybaf.prog.info? 24 with
  | none => have := info24; rw [e] at this; cases this
  | some i =>
    have := info24
    rw [e] at this
    simp at this
    exact Conc.run_makeChan Ybaf.underlying62 e .i64 0 (by omega) (by rw [this]; omega)
theorem info41 : (Ybaf.prog.info? 41).map (fun i => (i.zero, i.size, i.bytes)) = some (some (.pointer none), 1, 8) := by kernel_rfl

set_option maxHeartbeats 2000000 in
theorem enq_busy (w : World) (B L M KB H0 K0 H K n k : Nat) (mu wts dl mk mk0 mh : Int) (key : ByteArray) (f : Value → Option Value) (q : Value) (xs : List Value)
    (hk : key.size ≤ maxLen) (hk1 : k ≤ 1000) (hw0 : 0 ≤ wts) (hw1 : wts ≤ 1000) (hBw : B ≤ w.heap.size) (hne : H0 ≠ H)
    (hl : LkAt w L M mu wts dl mk) (hm : Hid (MapIs Ybaf.prog 9 w M n f)) (hf : f (.string key) = some (pt KB)) (hkl : KlAt w KB H0 q) (hh0 : HoAt w H0 K0 mk0 (.pointer none)) (hho : HoAt w H K mh (.pointer none))
    (hrow : Hid (w.ownsRow B 41 1 q k xs)) :
    Calls Ybaf.prog 6 #[.pointer (some ⟨L, 0, none⟩), .pointer (some ⟨H, 0, none⟩), .string key, .int .i64 1] w fun e w' => e = .returned (.tuple #[pt (w.heap.size + 1), .nilIface]) ∧
      ∃ q', Only ([L, KB, H] ++ q.ownBlock.toList) w w' ∧ LkAt w' L M mu (wts + 1) dl mk ∧ KlAt w' KB H0 q' ∧ HoAt w' H K mh (pt (w.heap.size + 1)) ∧ WtAt w' (w.heap.size + 1) H w.heap.size key ∧ ChAt w' w.heap.size ∧
        w'.ownsRow B 41 1 q' (k + 1) (xs ++ [pt (w.heap.size + 1)]) ∧ (∀ b, q'.ownBlock = some b → q.ownBlock = some b ∨ w.heap.size + 2 ≤ b) := by
  obtain ⟨i0, hi, hz0, hz1, hz2⟩ := info_parts info41
  have l2 : w.cell? ⟨L, 2, none⟩ = some (.map (some M)) := cell_of hl 2
  have l5 : w.cell? ⟨L, 5, none⟩ = some (.bool false) := cell_of hl 5
  have k0 : w.cell? ⟨KB, 0, none⟩ = some (.pointer (some ⟨H0, 0, none⟩)) := cell_of hkl 0
  have hlook := hm.out.look lawS Ybaf.underlying31 (zero57 _) (keyS hk)
  rw [hf, Option.getD_some] at hlook
  have HV := hidI (victim_any w L H H0 K0 mk0 hne hh0 hho)
  have old : ∀ {j : Nat} {o : Obj} (a b : Obj), w.heap[j]? = some o → ((w.alloc a).alloc b).heap[j]? = some o := fun a b h => (Below.heap_alloc _ _ _ (by have := lt_of h; simp; omega)).trans ((Below.heap_alloc _ _ _ (lt_of h)).trans h)
  have L1 : Hid (LkAt ((w.alloc (.chan 0 #[] false 0 0 false)).alloc (.cells #[.pointer (some ⟨H, 0, none⟩), .string key, .chan (some w.heap.size), .nilIface] 64)) L M mu wts dl mk) := old _ _ hl
  have K1 : Hid (KlAt ((w.alloc (.chan 0 #[] false 0 0 false)).alloc (.cells #[.pointer (some ⟨H, 0, none⟩), .string key, .chan (some w.heap.size), .nilIface] 64)) KB H0 q) := old _ _ hkl
  have HH1 : Hid (HoAt ((w.alloc (.chan 0 #[] false 0 0 false)).alloc (.cells #[.pointer (some ⟨H, 0, none⟩), .string key, .chan (some w.heap.size), .nilIface] 64)) H K mh (.pointer none)) := old _ _ hho
  have W1 : Hid (WtAt ((w.alloc (.chan 0 #[] false 0 0 false)).alloc (.cells #[.pointer (some ⟨H, 0, none⟩), .string key, .chan (some w.heap.size), .nilIface] 64)) (w.heap.size + 1) H w.heap.size key) := by
    have := (MapKept.heap_alloc (w.alloc (.chan 0 #[] false 0 0 false)) (.cells #[.pointer (some ⟨H, 0, none⟩), .string key, .chan (some w.heap.size), .nilIface] 64)).1
    have e : (w.alloc (.chan 0 #[] false 0 0 false)).heap.size = w.heap.size + 1 := by simp
    rw [e] at this
    exact this
  have C1 : Hid (ChAt ((w.alloc (.chan 0 #[] false 0 0 false)).alloc (.cells #[.pointer (some ⟨H, 0, none⟩), .string key, .chan (some w.heap.size), .nilIface] 64)) w.heap.size) := (Below.heap_alloc _ _ _ (by simp)).trans (MapKept.heap_alloc w _).1
  have O1 : Hid (Only ([L, KB, H] ++ q.ownBlock.toList) w ((w.alloc (.chan 0 #[] false 0 0 false)).alloc (.cells #[.pointer (some ⟨H, 0, none⟩), .string key, .chan (some w.heap.size), .nilIface] 64))) := ((Only.refl _ w).alloc _).alloc _
  have R1 : Hid (((w.alloc (.chan 0 #[] false 0 0 false)).alloc (.cells #[.pointer (some ⟨H, 0, none⟩), .string key, .chan (some w.heap.size), .nilIface] 64)).ownsRow B 41 1 q k xs) := by
    obtain ⟨r1, r2⟩ := hrow.out
    refine ⟨r1, ?_⟩
    rcases r2 with r2 | ⟨g, cap, cur, e, hge, hg, r⟩
    · exact Or.inl r2
    · exact Or.inr ⟨g, cap, cur, e, hge, old _ _ hg, r⟩
  have hsz1 : ((w.alloc (.chan 0 #[] false 0 0 false)).alloc (.cells #[.pointer (some ⟨H, 0, none⟩), .string key, .chan (some w.heap.size), .nilIface] 64)).heap.size = w.heap.size + 2 := by simp
  have hmk := mkch w
  clear hl hkl hh0 hho hf old hrow
  unfold pt at hlook ⊢
  go_enter Ybaf.func6, Ybaf.ntmps6
  go_wp2_with fail
  refine wp_loop_rounds 1 ?_
  rw [rounds_succ]
  go_wp2_with fail
  refine HV.out.mono ?_
  rintro e w' ⟨rfl, rfl⟩
  go_upto_region 13 with fail
  clear hmk hlook l2 l5 k0
  generalize World.alloc _ (Obj.cells _ 64) = w1 at L1 K1 HH1 W1 C1 O1 R1 hsz1 ⊢
  have hBz : B ≤ w1.heap.size + 1 := by omega
  have HSZ := hidI hsz1
  clear hsz1
  have nLK : L ≠ KB := ne_of L1.out K1.out (fun e => by cases e)
  have nHK : H ≠ KB := ne_of HH1.out K1.out (fun e => by cases e)
  have nWK : w'.heap.size + 1 ≠ KB := ne_of W1.out K1.out (fun e => by cases e)
  have nCK : w'.heap.size ≠ KB := ne_of C1.out K1.out (fun e => by cases e)
  have nLH : L ≠ H := ne_of L1.out HH1.out (fun e => by cases e)
  have nWH : w'.heap.size + 1 ≠ H := ne_of W1.out HH1.out (fun e => by cases e)
  have nCH : w'.heap.size ≠ H := ne_of C1.out HH1.out (fun e => by cases e)
  have nWL : w'.heap.size + 1 ≠ L := ne_of W1.out L1.out (fun e => by cases e)
  have nCL : w'.heap.size ≠ L := ne_of C1.out L1.out (fun e => by cases e)
  have q1 : w1.cell? ⟨KB, 1, none⟩ = some q := cell_of K1.out 1
  have hKlt := lt_of K1.out
  have al : ∀ {j : Nat} {o : Obj}, w1.heap[j]? = some o → (w1.alloc (.cells #[.pointer (some ⟨w'.heap.size + 1, 0, none⟩)] 41)).heap[j]? = some o := fun h => (Below.heap_alloc _ _ _ (lt_of h)).trans h
  have R2 : Hid ((w1.alloc (.cells #[.pointer (some ⟨w'.heap.size + 1, 0, none⟩)] 41)).ownsRow B 41 1 q k xs) := by
    obtain ⟨r1, r2⟩ := R1.out
    refine ⟨r1, ?_⟩
    rcases r2 with r2 | ⟨g, cap, cur, e, hge, hg, r⟩
    · exact Or.inl r2
    · exact Or.inr ⟨g, cap, cur, e, hge, al hg, r⟩
  have hnews : Hid (∀ j u, [Value.pointer (some ⟨w'.heap.size + 1, 0, none⟩)][j]? = some u → (w1.alloc (.cells #[.pointer (some ⟨w'.heap.size + 1, 0, none⟩)] 41)).cell? ((⟨w1.heap.size, 0, none⟩ : Addr).add j) = some u) :=
    fun j u hu => World.news_of_block (cs := #[.pointer (some ⟨w'.heap.size + 1, 0, none⟩)]) (t := 41) (fr := (0, 0)) (MapKept.heap_alloc w1 _).1 j u (by simpa using hu)
  have hone : Hid (∀ u ∈ [Value.pointer (some ⟨w'.heap.size + 1, 0, none⟩)], u.oneCell' = true) := by
    intro u hu
    simp only [List.mem_cons, List.not_mem_nil, or_false] at hu
    rcases hu with rfl; rfl
  have H2 : Hid (∀ (g cap : Nat) (w2 : World), w2.ownsRow B 41 1 (.slice (some ⟨g, 0, none⟩) (k + 1) cap) (k + 1) (xs ++ [Value.pointer (some ⟨w'.heap.size + 1, 0, none⟩)]) → (w1.alloc (.cells #[.pointer (some ⟨w'.heap.size + 1, 0, none⟩)] 41)).grownBy w2 q.ownBlock → (q.ownBlock = some g ∨ g = w1.heap.size + 1) →
      LkAt w2 L M mu wts dl mk ∧ KlAt w2 KB H0 q ∧ HoAt w2 H K mh (.pointer none) ∧ WtAt w2 (w'.heap.size + 1) H w'.heap.size key ∧ ChAt w2 w'.heap.size ∧ Only ([L, KB, H] ++ q.ownBlock.toList) w' w2 ∧ g ≠ L ∧ g ≠ KB ∧ g ≠ H ∧ (q.ownBlock = some g ∨ w'.heap.size + 2 ≤ g)) := by
    intro g cap w2 hown hg hat
    have qb : ∀ b, q.ownBlock = some b → ∃ c, w1.heap[b]? = some (.cells c 41) := by
      intro b e
      rcases R1.out.2 with ⟨e', _⟩ | ⟨g', c', cu, e', _, h, _⟩
      · rw [e'] at e; cases e
      · rw [e'] at e; cases e; exact ⟨_, h⟩
    have kp : ∀ {j : Nat} {o : Obj}, w1.heap[j]? = some o → (∀ c, o ≠ .cells c 41) → w2.heap[j]? = some o := by
      intro j o h ho
      refine (hg.block j (lt_of (al h)) (fun e => ?_)).trans (al h)
      obtain ⟨c, hc⟩ := qb j e.symm
      rw [h] at hc
      injection hc with hc
      exact ho c hc
    have hgo : ∃ cu, w2.heap[g]? = some (.cells cu 41) := by
      rcases hown.2 with ⟨e, _⟩ | ⟨g', c', cu, e', _, h, _⟩
      · cases e
      · cases e'; exact ⟨_, h⟩
    obtain ⟨cu, hgc⟩ := hgo
    have a1 := kp L1.out (fun c e => by cases e)
    have a2 := kp K1.out (fun c e => by cases e)
    have a3 := kp HH1.out (fun c e => by cases e)
    refine ⟨a1, a2, a3, kp W1.out (fun c e => by cases e), kp C1.out (fun c e => by cases e), (O1.out.alloc _).grown hg (fun b e => Or.inl (by rw [e]; simp)), ne_of hgc a1 (fun e => by cases e), ne_of hgc a2 (fun e => by cases e), ne_of hgc a3 (fun e => by cases e), ?_⟩
    rcases hat with h | h
    · exact Or.inl h
    · exact Or.inr (by have := HSZ.out; omega)
  go_upto_region 14 with (first | (at_builtin; refine wpList_append_lies _ rfl _ _ 49 rfl B 41 i0 _ 1 8 Ybaf.underlying49 hi hz0 hz1 hz2 rfl (by decide) q k xs rfl R2.out ⟨w1.heap.size, 0, none⟩ 1 1 [.pointer (some ⟨w'.heap.size + 1, 0, none⟩)] rfl rfl hnews.out hone.out (by decide) (by unfold maxLen; omega) (by omega) (by simpa using hBz) (w1.heap.size + 1) (by simp) ?_; intro g cap w2 hown hgrow hat hlt1; obtain ⟨b1, b2, b3, b4, b5, b6, b7, b8, b9, b10⟩ := H2.out g cap w2 hown hgrow hat; have HOW := hidI hown; have BB := hidI (And.intro b1 (And.intro b2 (And.intro b3 (And.intro b4 (And.intro b5 b6))))); have y1 : w2.cell? ⟨KB, 1, none⟩ = some q := cell_of b2 1; have y2 : w2.frozen? ⟨KB, 1, none⟩ = false := frozen_of b2 1; clear hown hgrow hat hlt1 b1 b2 b3 b4 b5 b6 H2) | fail)
  obtain ⟨B1, B2, B3, B4, B5, B6⟩ := BB.out
  have K3 : Hid (KlAt (w2.setCell ⟨KB, 1, none⟩ (.slice (some ⟨g, 0, none⟩) (k + 1) cap)) KB H0 (.slice (some ⟨g, 0, none⟩) (k + 1) cap)) := set_at (a := ⟨KB, 1, none⟩) rfl B2
  have L3 : Hid (LkAt (w2.setCell ⟨KB, 1, none⟩ (.slice (some ⟨g, 0, none⟩) (k + 1) cap)) L M mu wts dl mk) := (set_far nLK).trans B1
  have HH3 : Hid (HoAt (w2.setCell ⟨KB, 1, none⟩ (.slice (some ⟨g, 0, none⟩) (k + 1) cap)) H K mh (.pointer none)) := (set_far nHK).trans B3
  have W3 : Hid (WtAt (w2.setCell ⟨KB, 1, none⟩ (.slice (some ⟨g, 0, none⟩) (k + 1) cap)) (w'.heap.size + 1) H w'.heap.size key) := (set_far nWK).trans B4
  have C3 : Hid (ChAt (w2.setCell ⟨KB, 1, none⟩ (.slice (some ⟨g, 0, none⟩) (k + 1) cap)) w'.heap.size) := (set_far nCK).trans B5
  have O3 : Hid (Only ([L, KB, H] ++ q.ownBlock.toList) w' (w2.setCell ⟨KB, 1, none⟩ (.slice (some ⟨g, 0, none⟩) (k + 1) cap))) := B6.set (by simp) _
  have setRow : ∀ {wa : World} {b j : Nat} {u : Value}, wa.ownsRow B 41 1 (.slice (some ⟨g, 0, none⟩) (k + 1) cap) (k + 1) (xs ++ [Value.pointer (some ⟨w'.heap.size + 1, 0, none⟩)]) → g ≠ b → (wa.setCell ⟨b, j, none⟩ u).ownsRow B 41 1 (.slice (some ⟨g, 0, none⟩) (k + 1) cap) (k + 1) (xs ++ [Value.pointer (some ⟨w'.heap.size + 1, 0, none⟩)]) := by
    intro wa b j u h hne
    refine ⟨h.1, ?_⟩
    rcases h.2 with h | ⟨g', cap', cur, e, hge, hg, r⟩
    · exact Or.inl h
    · cases e; exact Or.inr ⟨_, _, cur, rfl, hge, (set_far hne).trans hg, r⟩
  have RW3 := hidI (setRow (b := KB) (j := 1) (u := .slice (some ⟨g, 0, none⟩) (k + 1) cap) HOW.out b8)
  clear B1 B2 B3 B4 B5 B6 BB HOW R2 R1 hnews hone al L1 K1 HH1 W1 C1 O1 y1 y2 q1 HV
  generalize World.setCell _ ⟨KB, 1, none⟩ _ = w3 at K3 L3 HH3 W3 C3 O3 RW3 ⊢
  have h2 : w3.cell? ⟨H, 2, none⟩ = some (.pointer none) := cell_of HH3.out 2
  have hf2 := frozen_of HH3.out 2
  have K4 : Hid (KlAt (w3.setCell ⟨H, 2, none⟩ (pt (w'.heap.size + 1))) KB H0 (.slice (some ⟨g, 0, none⟩) (k + 1) cap)) := (set_far (fun e => nHK e.symm)).trans K3.out
  have L4 : Hid (LkAt (w3.setCell ⟨H, 2, none⟩ (pt (w'.heap.size + 1))) L M mu wts dl mk) := (set_far nLH).trans L3.out
  have HH4 : Hid (HoAt (w3.setCell ⟨H, 2, none⟩ (pt (w'.heap.size + 1))) H K mh (pt (w'.heap.size + 1))) := set_at (a := ⟨H, 2, none⟩) rfl HH3.out
  have W4 : Hid (WtAt (w3.setCell ⟨H, 2, none⟩ (pt (w'.heap.size + 1))) (w'.heap.size + 1) H w'.heap.size key) := (set_far nWH).trans W3.out
  have C4 : Hid (ChAt (w3.setCell ⟨H, 2, none⟩ (pt (w'.heap.size + 1))) w'.heap.size) := (set_far nCH).trans C3.out
  have O4 : Hid (Only ([L, KB, H] ++ q.ownBlock.toList) w' (w3.setCell ⟨H, 2, none⟩ (pt (w'.heap.size + 1)))) := O3.out.set (by simp) _
  have RW4 := hidI (setRow (b := H) (j := 2) (u := pt (w'.heap.size + 1)) RW3.out b9)
  clear K3 L3 HH3 W3 C3 O3 RW3
  unfold pt at K4 L4 HH4 W4 C4 O4 RW4
  go_upto_region 15 with fail
  generalize World.setCell _ ⟨H, 2, none⟩ _ = w4 at K4 L4 HH4 W4 C4 O4 RW4 ⊢
  have l3 : w4.cell? ⟨L, 3, none⟩ = some (.int .i64 wts) := cell_of L4.out 3
  have lf := frozen_of L4.out 3
  have hwr : IntKind.i64.wrap (wts + 1) = wts + 1 := by simp only [IntKind.wrap, IntKind.signed, IntKind.bits]; simp; omega
  have hwr2 : wrap64 (wts + 1) = wts + 1 := by simp only [wrap64]; omega
  have RW5 := hidI (setRow (b := L) (j := 3) (u := .int .i64 (wts + 1)) RW4.out b7)
  have K5 : Hid (KlAt (w4.setCell ⟨L, 3, none⟩ (.int .i64 (wts + 1))) KB H0 (.slice (some ⟨g, 0, none⟩) (k + 1) cap)) := (set_far (fun e => nLK e.symm)).trans K4.out
  have HH5 : Hid (HoAt (w4.setCell ⟨L, 3, none⟩ (.int .i64 (wts + 1))) H K mh (.pointer (some ⟨w'.heap.size + 1, 0, none⟩))) := (set_far (fun e => nLH e.symm)).trans HH4.out
  have W5 : Hid (WtAt (w4.setCell ⟨L, 3, none⟩ (.int .i64 (wts + 1))) (w'.heap.size + 1) H w'.heap.size key) := (set_far nWL).trans W4.out
  have C5 : Hid (ChAt (w4.setCell ⟨L, 3, none⟩ (.int .i64 (wts + 1))) w'.heap.size) := (set_far nCL).trans C4.out
  have L5 := hidI (L4.out.set3 (wts + 1))
  have O5 : Hid (Only ([L, KB, H] ++ q.ownBlock.toList) w' (w4.setCell ⟨L, 3, none⟩ (.int .i64 (wts + 1)))) := O4.out.set (by simp) _
  clear setRow h2 hf2
  have B10 : Hid (q.ownBlock = some g ∨ w'.heap.size + 2 ≤ g) := b10
  clear b10
  go_wp2
  go_ret2
  exact ⟨rfl, _, O5.out, L5.out, K5.out, HH5.out, W5.out, C5.out, RW5.out, fun b e => by cases e; exact B10.out⟩
end Go.Proofs.YbulkbyoFmt
