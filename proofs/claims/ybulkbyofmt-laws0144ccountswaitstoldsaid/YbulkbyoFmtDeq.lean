/-
  'dequeue' of the eldest wait. Typed by the prover of this seat (an AI agent).
-/
import Derived.Test.YbulkbyoFmtDel
namespace Go.Proofs.YbulkbyoFmt
open Go.RowKit Go.MuLone Go.MapFn
set_option maxRecDepth 100000

/-- Nothing old but the blocks of S has turned. -/
structure Only (S : List Nat) (w w' : World) : Prop where
  os : w'.os = w.os
  tape : w'.tape = w.tape
  output : w'.output = w.output
  size : w.heap.size ≤ w'.heap.size
  block : ∀ k, k < w.heap.size → k ∉ S → w'.heap[k]? = w.heap[k]?

section
variable {S : List Nat} {w w' w'' : World}
theorem Only.refl (S : List Nat) (w : World) : Only S w w := ⟨rfl, rfl, rfl, Nat.le_refl _, fun _ _ _ => rfl⟩
theorem Only.trans (h : Only S w w') (h' : Only S w' w'') : Only S w w'' :=
  ⟨h'.os.trans h.os, h'.tape.trans h.tape, h'.output.trans h.output, Nat.le_trans h.size h'.size, fun k hk hS => (h'.block k (by have := h.size; omega) hS).trans (h.block k hk hS)⟩
theorem Only.mono (h : Only S w w') {S' : List Nat} (hs : ∀ k ∈ S, k < w.heap.size → k ∈ S') : Only S' w w' := ⟨h.os, h.tape, h.output, h.size, fun k hk hS => h.block k hk (fun e => hS (hs k e hk))⟩
theorem Only.alloc (h : Only S w w') (o : Obj) : Only S w (w'.alloc o) :=
  ⟨h.os, h.tape, h.output, by have := h.size; simp; omega, fun k hk hS => by rw [Below.heap_alloc _ _ _ (by have := h.size; omega)]; exact h.block k hk hS⟩
theorem Only.drewN (h : Only S w w') (n : Nat) : Only S w (w'.drewN n) := ⟨h.os, h.tape, h.output, h.size, h.block⟩
theorem Only.drew (h : Only S w w') : Only S w w'.drew := ⟨h.os, h.tape, h.output, h.size, h.block⟩
theorem Only.like (h : Only S w w') (hl : Like w' w'') : Only S w w'' := ⟨hl.os.trans h.os, hl.tape.trans h.tape, hl.output.trans h.output, by rw [hl.heap]; exact h.size, fun k hk hS => by rw [hl.heap]; exact h.block k hk hS⟩
theorem Only.set (h : Only S w w') {b j : Nat} (hb : b ∈ S) (u : Value) : Only S w (w'.setCell ⟨b, j, none⟩ u) :=
  ⟨h.os, h.tape, h.output, by have := h.size; simpa using this, fun k hk hS => by rw [set_far (fun e => hS (by rw [e]; exact hb))]; exact h.block k hk hS⟩
theorem Only.grown (h : Only S w w') {row : Option Nat} (hg : w'.grownBy w'' row) (hb : ∀ b, row = some b → b ∈ S ∨ w.heap.size ≤ b) : Only S w w'' :=
  ⟨hg.os.trans h.os, hg.tape.trans h.tape, hg.output.trans h.output, Nat.le_trans h.size hg.size, fun k hk hS => by
    rw [hg.block k (by have := h.size; omega) (fun e => by
      rcases hb k e.symm with h' | h'
      · exact hS h'
      · omega)]
    exact h.block k hk hS⟩
theorem Only.below (h : Only S w w') {B : Nat} (hB : ∀ k ∈ S, B ≤ k) (hw : B ≤ w.heap.size) : Below B w w' := ⟨h.os, h.tape, h.output, h.size, fun k hk => h.block k (by omega) (fun e => by have := hB k e; omega)⟩
end

set_option maxHeartbeats 2000000 in
theorem dequeue_any (w : World) (L M KB H0 W H K C g cap n : Nat) (mu wts dl mk mh : Int) (key : ByteArray) (f : Value → Option Value) (rest : List Nat) (cur : Array Value)
    (hk : key.size ≤ maxLen) (hr : rest.length ≤ 1000) (hcap : rest.length + 1 ≤ cap) (hw0 : 0 ≤ wts) (hw1 : wts ≤ 1000)
    (hl : LkAt w L M mu wts dl mk) (hm : Hid (MapIs Ybaf.prog 9 w M n f)) (hf : f (.string key) = some (pt KB)) (hkl : KlAt w KB H0 (.slice (some ⟨g, 0, none⟩) (rest.length + 1) cap))
    (hwt : WtAt w W H C key) (hho : HoAt w H K mh (pt W)) (hg : w.heap[g]? = some (.cells cur 41)) (hsz : rest.length + 1 ≤ cur.size) (hcur : ∀ i, i < rest.length + 1 → cur[i]? = ((W :: rest)[i]?).map pt)
    (hws : ∀ V ∈ rest, ∃ c, w.heap[V]? = some (.cells c 64)) (hnd : ∀ V ∈ rest, V ≠ W) :
    Calls Ybaf.prog 17 #[.pointer (some ⟨L, 0, none⟩), pt W] w fun e w' => e = .returned (.tuple #[]) ∧ Only [L, KB, H, g] w w' ∧
      LkAt w' L M mu (wts - 1) dl mk ∧ KlAt w' KB H0 (.slice (some ⟨g, 0, none⟩) rest.length cap) ∧ HoAt w' H K mh (.pointer none) ∧
      ∃ cur', w'.heap[g]? = some (.cells cur' 41) ∧ cur'.size = cur.size ∧ ∀ i, i < rest.length → cur'[i]? = (rest[i]?).map pt := by
  have hmf : ∀ (fn : Fn) (first cap : Array Value) (w : World), (Instr.makeFunc fn first cap).run Ybaf.prog w = .ok (.func fn first cap) w := fun _ _ _ _ => rfl
  have hB : ∀ nq, Below w.heap.size w ((w.alloc (.cells #[pt W] 41)).drewN nq) := fun nq => below_drewN ((Below.refl _ _).alloc (Nat.le_refl _) _) nq
  have old : ∀ {k : Nat} {o : Obj} nq, w.heap[k]? = some o → ((w.alloc (.cells #[pt W] 41)).drewN nq).heap[k]? = some o := fun nq h => ((hB nq).block _ (lt_of h)).trans h
  have hlook : ∀ nq, (Instr.lookup 31 (.map (some M)) (.string key) false).run Ybaf.prog ((w.alloc (.cells #[pt W] 41)).drewN nq) = .ok (pt KB) ((w.alloc (.cells #[pt W] 41)).drewN nq) := by
    intro nq
    have := (hm.out.same (w' := (w.alloc (.cells #[pt W] 41)).drewN nq) ((hB nq).block _ hm.out.lt)).look lawS Ybaf.underlying31 (zero57 _) (keyS hk)
    rwa [hf, Option.getD_some] at this
  have hKB1 : w.cell? ⟨KB, 1, none⟩ = some (.slice (some ⟨g, 0, none⟩) (rest.length + 1) cap) := cell_of hkl 1
  have hL2 : w.cell? ⟨L, 2, none⟩ = some (.map (some M)) := cell_of hl 2
  have hW1 : w.cell? ⟨W, 1, none⟩ = some (.string key) := cell_of hwt 1
  have lL := lt_of hl
  have lW := lt_of hwt
  have lK := lt_of hkl
  have hgX : w.heap.size ≠ g := by have := lt_of hg; omega
  have HD : Hid (∀ nq, Calls Ybaf.prog 23 #[.slice (some ⟨g, 0, none⟩) (rest.length + 1) cap, clo w.heap.size] ((w.alloc (.cells #[pt W] 41)).drewN nq) fun e w' => e = .returned (.slice (some ⟨g, 0, none⟩) rest.length cap) ∧
      ((w.alloc (.cells #[pt W] 41)).drewN nq).grownBy w' (some g) ∧ w'.heap.size = ((w.alloc (.cells #[pt W] 41)).drewN nq).heap.size ∧ ∃ cur', w'.heap[g]? = some (.cells cur' 41) ∧ cur'.size = cur.size ∧ ∀ i, i < rest.length → cur'[i]? = (rest[i]?).map pt) := by
    intro nq
    refine delete_first _ w.heap.size W g cap rest cur (cell_of (show ((w.alloc (.cells #[pt W] 41)).drewN nq).heap[w.heap.size]? = some (.cells #[pt W] 41) from (MapKept.heap_alloc w _).1) 0) hgX (by show w.heap.size < (w.alloc (.cells #[pt W] 41)).heap.size; simp) hr hcap (old nq hg) hsz hcur (fun V hV => ?_) hnd
    rcases List.mem_cons.1 hV with rfl | hV
    · exact ⟨_, old nq hwt⟩
    · obtain ⟨c, hc⟩ := hws V hV
      exact ⟨c, old nq hc⟩
  have HL := hidI hl
  have HKL := hidI hkl
  have HWT := hidI hwt
  have HHO := hidI hho
  have HG := hidI hg
  have HOLD : Hid (∀ {k : Nat} {o : Obj} nq, w.heap[k]? = some o → ((w.alloc (.cells #[pt W] 41)).drewN nq).heap[k]? = some o) := old
  clear hl hkl hwt hho hg hcur hws hnd hf hB old hsz
  unfold pt at hlook ⊢
  go_enter Ybaf.func17, Ybaf.ntmps17
  go_wp2_with fail
  go_quiet (fail)
  go_wp2_with fail
  refine (HD.out nq).mono ?_
  rintro e w2 ⟨rfl, hgr, hs2, cur', hc1, hc2, hc3⟩
  have hX := (show ((w.alloc (.cells #[pt W] 41)).drewN nq).heap[w.heap.size]? = some (.cells #[pt W] 41) from (MapKept.heap_alloc w _).1)
  have keep : ∀ {k : Nat} {o : Obj}, ((w.alloc (.cells #[pt W] 41)).drewN nq).heap[k]? = some o → k ≠ g → w2.heap[k]? = some o := fun h hne => (hgr.block _ (lt_of h) (fun e => hne (by injection e))).trans h
  have hg0 := HOLD.out nq HG.out
  have kL := keep (HOLD.out nq HL.out) (ne_of (HOLD.out nq HL.out) hg0 (fun e => by cases e))
  have kK := keep (HOLD.out nq HKL.out) (ne_of (HOLD.out nq HKL.out) hg0 (fun e => by cases e))
  have kW := keep (HOLD.out nq HWT.out) (ne_of (HOLD.out nq HWT.out) hg0 (fun e => by cases e))
  have kH := keep (HOLD.out nq HHO.out) (ne_of (HOLD.out nq HHO.out) hg0 (fun e => by cases e))
  have kX := keep hX hgX
  have HO2 : Hid (Only [L, KB, H, g] w w2) := (((Only.refl _ w).alloc _).drewN nq).grown hgr (fun b e => by cases e; left; simp)
  have nLK : L ≠ KB := ne_of kL kK (fun e => by cases e)
  have nWK : W ≠ KB := ne_of kW kK (fun e => by cases e)
  have nHK : H ≠ KB := ne_of kH kK (fun e => by cases e)
  have nXK : w.heap.size ≠ KB := ne_of kX kK (fun e => by cases e)
  have ngK : g ≠ KB := ne_of hc1 kK (fun e => by cases e)
  have nLH : L ≠ H := ne_of kL kH (fun e => by cases e)
  have nKH : KB ≠ H := fun e => nHK e.symm
  have ngH : g ≠ H := ne_of hc1 kH (fun e => by cases e)
  have nKL : KB ≠ L := fun e => nLK e.symm
  have nHL : H ≠ L := fun e => nLH e.symm
  have ngL : g ≠ L := ne_of hc1 kL (fun e => by cases e)
  have k1 : w2.cell? ⟨KB, 1, none⟩ = some (.slice (some ⟨g, 0, none⟩) (rest.length + 1) cap) := cell_of kK 1
  have kf := frozen_of kK 1
  have K3 : Hid (KlAt (w2.setCell ⟨KB, 1, none⟩ (.slice (some ⟨g, 0, none⟩) rest.length cap)) KB H0 (.slice (some ⟨g, 0, none⟩) rest.length cap)) := set_at (a := ⟨KB, 1, none⟩) rfl kK
  have L3 : Hid (LkAt (w2.setCell ⟨KB, 1, none⟩ (.slice (some ⟨g, 0, none⟩) rest.length cap)) L M mu wts dl mk) := (set_far nLK).trans kL
  have W3 : Hid (WtAt (w2.setCell ⟨KB, 1, none⟩ (.slice (some ⟨g, 0, none⟩) rest.length cap)) W H C key) := (set_far nWK).trans kW
  have H3 : Hid (HoAt (w2.setCell ⟨KB, 1, none⟩ (.slice (some ⟨g, 0, none⟩) rest.length cap)) H K mh (pt W)) := (set_far nHK).trans kH
  have X3 : Hid ((w2.setCell ⟨KB, 1, none⟩ (.slice (some ⟨g, 0, none⟩) rest.length cap)).heap[w.heap.size]? = some (.cells #[pt W] 41)) := (set_far nXK).trans kX
  have G3 : Hid ((w2.setCell ⟨KB, 1, none⟩ (.slice (some ⟨g, 0, none⟩) rest.length cap)).heap[g]? = some (.cells cur' 41)) := (set_far ngK).trans hc1
  have HO3 : Hid (Only [L, KB, H, g] w (w2.setCell ⟨KB, 1, none⟩ (.slice (some ⟨g, 0, none⟩) rest.length cap))) := HO2.out.set (by simp) _
  have HC3 := hidI hc3
  clear hX keep hg0 kL kK kW kH kX hgr hs2 hc1 hc3 HO2 HD HOLD HL HKL HWT HHO HG hlook hmf hKB1 hL2 hW1
  go_upto_region 3 with fail
  generalize World.setCell _ ⟨KB, 1, none⟩ _ = w3 at K3 L3 W3 H3 X3 G3 HO3 ⊢
  clear k1 kf
  have x0 : w3.cell? ⟨w.heap.size, 0, none⟩ = some (.pointer (some ⟨W, 0, none⟩)) := cell_of X3.out 0
  have y0 : w3.cell? ⟨W, 0, none⟩ = some (.pointer (some ⟨H, 0, none⟩)) := cell_of W3.out 0
  have h2 : w3.cell? ⟨H, 2, none⟩ = some (pt W) := cell_of H3.out 2
  have hf2 := frozen_of H3.out 2
  have K4 : Hid (KlAt (w3.setCell ⟨H, 2, none⟩ (.pointer none)) KB H0 (.slice (some ⟨g, 0, none⟩) rest.length cap)) := (set_far nKH).trans K3.out
  have L4 : Hid (LkAt (w3.setCell ⟨H, 2, none⟩ (.pointer none)) L M mu wts dl mk) := (set_far nLH).trans L3.out
  have H4 : Hid (HoAt (w3.setCell ⟨H, 2, none⟩ (.pointer none)) H K mh (.pointer none)) := set_at (a := ⟨H, 2, none⟩) rfl H3.out
  have G4 : Hid ((w3.setCell ⟨H, 2, none⟩ (.pointer none)).heap[g]? = some (.cells cur' 41)) := (set_far ngH).trans G3.out
  have HO4 : Hid (Only [L, KB, H, g] w (w3.setCell ⟨H, 2, none⟩ (.pointer none))) := HO3.out.set (by simp) _
  clear K3 L3 W3 H3 X3 G3 HO3
  go_upto_region 4 with fail
  generalize World.setCell _ ⟨H, 2, none⟩ _ = w4 at K4 L4 H4 G4 HO4 ⊢
  clear x0 y0 h2 hf2
  have l3 : w4.cell? ⟨L, 3, none⟩ = some (.int .i64 wts) := cell_of L4.out 3
  have lf := frozen_of L4.out 3
  have hwr : IntKind.i64.wrap (wts - 1) = wts - 1 := by simp only [IntKind.wrap, IntKind.signed, IntKind.bits]; simp; omega
  have hwr2 : wrap64 (wts - 1) = wts - 1 := by simp only [wrap64]; omega
  have HFIN : Hid (Only [L, KB, H, g] w (w4.setCell ⟨L, 3, none⟩ (.int .i64 (wts - 1))) ∧
      LkAt (w4.setCell ⟨L, 3, none⟩ (.int .i64 (wts - 1))) L M mu (wts - 1) dl mk ∧ KlAt (w4.setCell ⟨L, 3, none⟩ (.int .i64 (wts - 1))) KB H0 (.slice (some ⟨g, 0, none⟩) rest.length cap) ∧ HoAt (w4.setCell ⟨L, 3, none⟩ (.int .i64 (wts - 1))) H K mh (.pointer none) ∧
      ∃ cur', (w4.setCell ⟨L, 3, none⟩ (.int .i64 (wts - 1))).heap[g]? = some (.cells cur' 41) ∧ cur'.size = cur.size ∧ ∀ i, i < rest.length → cur'[i]? = (rest[i]?).map pt) :=
    ⟨HO4.out.set (by simp) _, L4.out.set3 _, (set_far nKL).trans K4.out, (set_far nHL).trans H4.out, cur', (set_far ngL).trans G4.out, hc2, HC3.out⟩
  go_wp2
  go_end0
  exact ⟨rfl, HFIN.out⟩
end Go.Proofs.YbulkbyoFmt
