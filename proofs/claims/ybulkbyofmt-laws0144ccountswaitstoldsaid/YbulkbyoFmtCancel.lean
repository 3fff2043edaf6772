/-
  'cancel' of the eldest wait. Typed by the prover of this seat (an AI agent).
-/
import Derived.Test.YbulkbyoFmtBusy
import Derived.Test.YbulkbyoFmtSel
namespace Go.Proofs.YbulkbyoFmt
open Go.RowKit Go.MuLone Go.MapFn Go.Conc
set_option maxRecDepth 100000

set_option maxHeartbeats 2000000 in
theorem cancel_any (w : World) (L M KB H0 W H K C g cap n : Nat) (wts dl mk mh : Int) (key : ByteArray) (f : Value → Option Value) (rest : List Nat) (cur : Array Value)
    (hk : key.size ≤ maxLen) (hr : rest.length ≤ 1000) (hcap : rest.length + 1 ≤ cap) (hw0 : 0 ≤ wts) (hw1 : wts ≤ 1000)
    (hl : LkAt w L M 0 wts dl mk) (hm : Hid (MapIs Ybaf.prog 9 w M n f)) (hf : f (.string key) = some (pt KB)) (hkl : KlAt w KB H0 (.slice (some ⟨g, 0, none⟩) (rest.length + 1) cap))
    (hwt : WtAt w W H C key) (hch : ChAt w C) (hho : HoAt w H K mh (pt W)) (hg : w.heap[g]? = some (.cells cur 41)) (hsz : rest.length + 1 ≤ cur.size) (hcur : ∀ i, i < rest.length + 1 → cur[i]? = ((W :: rest)[i]?).map pt)
    (hws : ∀ V ∈ rest, ∃ c, w.heap[V]? = some (.cells c 64)) (hnd : ∀ V ∈ rest, V ≠ W) :
    Calls Ybaf.prog 8 #[.pointer (some ⟨L, 0, none⟩), pt W] w fun e w' => e = .returned (.bool true) ∧ Only [L, KB, H, g] w w' ∧
      LkAt w' L M 0 (wts - 1) dl mk ∧ KlAt w' KB H0 (.slice (some ⟨g, 0, none⟩) rest.length cap) ∧ HoAt w' H K mh (.pointer none) ∧
      ∃ cur', w'.heap[g]? = some (.cells cur' 41) ∧ cur'.size = cur.size ∧ ∀ i, i < rest.length → cur'[i]? = (rest[i]?).map pt := by
  have c0 : w.cell? ⟨L, 0, none⟩ = some (.int .i32 0) := cell_of hl 0
  have f0 := frozen_of hl 0
  have hl1 := hl.set0 1
  have far : ∀ {k : Nat} {o : Obj}, w.heap[k]? = some o → (∀ c, o ≠ .cells c 38) → (w.setCell ⟨L, 0, none⟩ (.int .i32 1)).heap[k]? = some o := fun h ho => (set_far (ne_of h hl (ho _))).trans h
  have HD := hidI (dequeue_any (w.setCell ⟨L, 0, none⟩ (.int .i32 1)) L M KB H0 W H K C g cap n 1 wts dl mk mh key f rest cur hk hr hcap hw0 hw1 hl1 (hidI (hm.out.setCell (by have := hm.out.lt; obtain ⟨D, ⟨es, cl, hb, _⟩, _⟩ := hm.out; exact ne_of hb hl (fun e => by cases e)) _)) hf (far hkl (fun c e => by cases e)) (far hwt (fun c e => by cases e)) (far hho (fun c e => by cases e)) (far hg (fun c e => by cases e)) hsz hcur (fun V hV => by obtain ⟨c, hc⟩ := hws V hV; exact ⟨c, far hc (fun c e => by cases e)⟩) hnd)
  have hC1 : Hid ((w.setCell ⟨L, 0, none⟩ (.int .i32 1)).heap[C]? = some (.chan 0 #[] false 0 0 false)) := far hch (fun c e => by cases e)
  have y2 : (w.setCell ⟨L, 0, none⟩ (.int .i32 1)).cell? ⟨W, 2, none⟩ = some (.chan (some C)) := cell_of (far hwt (fun c e => by cases e)) 2
  have hWL : W ≠ L := ne_of hwt hl (fun e => by cases e)
  have z2 : w.cell? ⟨W, 2, none⟩ = some (.chan (some C)) := cell_of hwt 2
  have O1 : Hid (Only [L, KB, H, g] w (w.setCell ⟨L, 0, none⟩ (.int .i32 1))) := (Only.refl _ w).set (by simp) _
  clear hkl hwt hch hho hg hcur hws hnd far hl1 hf
  unfold pt at HD ⊢
  refine SelWalk.calls_select Ybaf.func8 rfl (l := [1, 2]) rfl ?_
  simp only [Ybaf.ntmps8, List.size_toArray, List.length_cons, List.length_nil, Nat.reduceAdd, Nat.reduceSub, Array.replicate_succ,
     Array.replicate_zero, List.push_toArray, List.append_toArray, List.nil_append, List.cons_append]
  go_wp2
  simp only [SelWalk.Nx]
  go_wp2_with (go_at_call 15; refine (lock_free muLib ⟨L, 0, none⟩ _ c0 f0).mono ?_; rintro e w' ⟨rfl, rfl⟩)
  simp only [SelWalk.Nx]
  go_wp2
  simp only [SelWalk.Nx]
  go_wp2
  simp only [SelWalk.Nx]
  refine ⟨{ dst := some 16, op := Go.Op.select #[{ chan := Go.Operand.tmp 15, send := none, elem := 24 }] false, type := 0, pos := "keylock.go:224", after := #[], guard := none }, C, 0, 0, 0, false, .agg #[], rfl, by rfl, by simp [go_sem, execOp, rcase, Act.eval], hC1.out, ?_⟩
  simp only [Act.put, List.setIfInBounds_toArray, List.set_cons_zero, List.set_cons_succ]
  refine SelWalk.wpOps_cons (o := { dst := some 17, op := Go.Op.extract (Go.Operand.tmp 16) 0, type := 3, pos := "keylock.go:224", after := #[{ on := 0, ground := Go.Ground.data }], guard := none }) rfl (by rfl) (fun K1 hK1 => ?_)
  go_simp
  refine hK1 _ _ ?_
  refine SelWalk.wpOps_cons (o := { dst := some 18, op := Go.Op.binOp Go.BinOp.eql 3 (Go.Operand.tmp 17) (Go.Operand.const (Go.Value.int Go.IntKind.i64 0)) 3, type := 4, pos := "keylock.go:224", after := #[{ on := 1, ground := Go.Ground.data }], guard := none }) rfl (by rfl) (fun K2 hK2 => ?_)
  go_simp
  refine hK2 _ _ ?_
  refine SelWalk.wpOps_nil ?_
  simp only [SelWalk.Nx]
  clear hK1 hK2 K1 K2
  go_wp2
  simp only [SelWalk.Nx]
  go_wp2_with fail
  refine HD.out.mono ?_
  rintro e w2 ⟨rfl, o2, l2, k2, h2, cur', g1, g2, g3⟩
  have u0 : w2.cell? ⟨L, 0, none⟩ = some (.int .i32 1) := cell_of l2 0
  have uf := frozen_of l2 0
  have HFIN : Hid (Only [L, KB, H, g] w (w2.setCell ⟨L, 0, none⟩ (.int .i32 0)) ∧ LkAt (w2.setCell ⟨L, 0, none⟩ (.int .i32 0)) L M 0 (wts - 1) dl mk ∧ KlAt (w2.setCell ⟨L, 0, none⟩ (.int .i32 0)) KB H0 (.slice (some ⟨g, 0, none⟩) rest.length cap) ∧ HoAt (w2.setCell ⟨L, 0, none⟩ (.int .i32 0)) H K mh (.pointer none) ∧
      ∃ cur', (w2.setCell ⟨L, 0, none⟩ (.int .i32 0)).heap[g]? = some (.cells cur' 41) ∧ cur'.size = cur.size ∧ ∀ i, i < rest.length → cur'[i]? = (rest[i]?).map pt) :=
    ⟨(O1.out.trans o2).set (by simp) _, l2.set0 0, (set_far (ne_of k2 l2 (fun e => by cases e))).trans k2, (set_far (ne_of h2 l2 (fun e => by cases e))).trans h2, cur', (set_far (ne_of g1 l2 (fun e => by cases e))).trans g1, g2, g3⟩
  clear o2 l2 k2 h2 g1 g2 g3 HD hC1 y2 z2 O1 hl hm c0 f0
  go_wp2_with fail
  refine leaves_cons (f := 16) (args := #[.pointer (some ⟨L, 0, none⟩)]) (by simp) (by simp [go_sem]) ?_
  refine (unlock_deferred muLib ⟨L, 0, none⟩ .returning _ u0 uf).mono ?_
  rintro e u' w'' ⟨rfl, rfl, rfl⟩
  exact ⟨_, results_tmp rfl _ _ _, rfl, HFIN.out⟩
end Go.Proofs.YbulkbyoFmt
