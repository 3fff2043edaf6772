/-
  'releaseAll' of the first holder, on the table. Typed by the prover of this seat (an AI agent).
-/
import Derived.Test.YbulkbyoFmtTab
namespace Go.Proofs.YbulkbyoFmt
open Go.RowKit Go.MuLone Go.MapFn
set_option maxRecDepth 100000

theorem release_tab {w : World} {B L M KB H0 K0 : Nat} {wts dl mk : Int} {key : ByteArray} {q : Value} {ps : List Nat} (h : Tab w B L M KB H0 K0 wts dl mk key q ps) (hk : key.size ≤ maxLen) (hps : ps.length ≤ 1000) (hw0 : 0 ≤ wts) (hw1 : wts ≤ 1000) (hB : B ≤ w.heap.size) :
    Calls Ybaf.prog 9 #[.pointer (some ⟨L, 0, none⟩), .pointer (some ⟨H0, 0, none⟩)] w fun e w' => e = .returned (.tuple #[]) ∧ Below B w w' ∧ LkAt w' L M 0 (if ps = [] then wts else wts - 1) dl mk := by
  obtain ⟨n, f, hm, hf⟩ := h.map
  obtain ⟨mk0, hh⟩ := h.ho
  obtain ⟨f0, hk0, hk1, hk2⟩ := h.hk
  have far : ∀ {k : Nat} {o : Obj}, w.heap[k]? = some o → (∀ c, o ≠ .cells c 38) → (w.setCell ⟨L, 0, none⟩ (.int .i32 1)).heap[k]? = some o := fun h' ho => (set_far (ne_of h' h.lk (ho _))).trans h'
  have mfar : ∀ {k n : Nat} {f : Value → Option Value}, MapIs Ybaf.prog 9 w k n f → MapIs Ybaf.prog 9 (w.setCell ⟨L, 0, none⟩ (.int .i32 1)) k n f := by
    intro k n f hm
    have h0 := hm
    obtain ⟨D, ⟨es, cl, hb, _⟩, _⟩ := h0
    exact hm.same ((far hb (fun c e => by cases e)).trans hb.symm)
  have hz : (w.setCell ⟨L, 0, none⟩ (.int .i32 1)).heap.size = w.heap.size := by simp
  refine releaseAll_any w B L M H0 K0 1 wts (if ps = [] then wts else wts - 1) dl mk mk0 key (.pointer none) f0 hk h.lk hh hk0 hk1 h.base.1 ?_
  cases ps with
  | nil =>
    obtain ⟨a, c, e⟩ : ∃ a c, q = .slice a 0 c := by
      rcases h.row.2 with ⟨e, _⟩ | ⟨g, cap, cur, e, _⟩
      · exact ⟨_, _, e⟩
      · exact ⟨_, _, e⟩
    have hkl := h.kl
    rw [e] at hkl
    rw [if_pos rfl]
    exact release_empty _ B L M KB H0 K0 n 1 a c 1 wts dl mk mk0 key (.pointer none) f f0 hk (h.lk.set0 1) (mfar hm) hf (far hkl (fun c e => by cases e)) (far hh (fun c e => by cases e)) (mfar hk0) hk1 hk2 h.ne (by rw [hz]; exact hB) (fun b hb => by have := h.base; simp at hb; omega)
  | cons W rest =>
    obtain ⟨H, K, C, mh, nk, fk, t1, t2, t3, t4, t5, t6, t7, t8, t9, t10⟩ := h.wt W (List.mem_cons_self ..)
    obtain ⟨g, cap, cur, hq, hBg, hg, hcap, hcz, hcm, hcs, hcur, hwv, hnd⟩ := h.eldest
    have hkl := h.kl
    rw [hq] at hkl
    rw [if_neg (by simp)]
    refine release_busy _ B L M KB H0 K0 W H K C g cap n nk 1 1 wts dl mk mk0 mh key (.pointer none) f fk f0 rest cur hk (by simp at hps; omega) hcap hw0 hw1 (by omega) (h.lk.set0 1) (mfar hm) hf (far hkl (fun c e => by cases e)) (far t1 (fun c e => by cases e)) (far t2 (fun c e => by cases e)) (far t3 (fun c e => by cases e)) (mfar t4) (far hg (fun c e => by cases e)) hcz hcur (fun V hV => by obtain ⟨c, hc⟩ := hwv V hV; exact ⟨c, far hc (fun c e => by cases e)⟩) hnd (far hh (fun c e => by cases e)) (mfar hk0) hk1 hk2 t7 (by rw [hz]; exact hB) (fun b hb => ?_) t6
    have := h.base
    simp only [List.mem_cons, List.not_mem_nil, or_false] at hb
    omega
end Go.Proofs.YbulkbyoFmt
