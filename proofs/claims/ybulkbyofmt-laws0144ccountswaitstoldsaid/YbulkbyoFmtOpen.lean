/-
  Two bridges for a law's frame: the arguments read as before where nothing old has turned; the cells of a slice that came in. Generic over the program. Typed by the prover of this seat (an AI agent).
-/
import Derived.ProofKit
import Derived.ChangeOld
import Derived.Below
import Derived.Carry
import Derived.Deep.Slices
import Derived.OpenShut
namespace Go.LawOpen
open Go.RowKit Go.ChangeShapes Go.WideShapes
variable {H : Type} {enc : TypeId × Value → H} {P : Program}

/-- All arguments read as they did. -/
theorem all_below (hl : laidOutB P = true) {W W' : World} (hb : Below W.heap.size W W') : ∀ (ts : List TypeId) (vs : List Value) (ds : List (DataW H)) (ps : List MemPlace),
    (ts.all fun t => P.readableRec t && decide (t < P.types.size)) = true → DataW.TrodAll enc P W 0 (fun _ => true) true ts vs ds ps →
    DataW.TrodAll enc P W' 0 (fun b => decide (b < W.heap.size)) true ts vs ds ps
  | [], vs, ds, ps, _, h => by
    obtain ⟨rfl, rfl, rfl⟩ := trodAll_nil h
    exact trodAll_mk0
  | t :: ts, vs, ds, ps, hr, h => by
    obtain ⟨v, vs', d, ds', p, q, rfl, rfl, rfl, h0, r0⟩ := trodAll_cons h
    simp only [List.all_cons, Bool.and_eq_true, decide_eq_true_eq] at hr
    have lt0 : ∀ x ∈ p, x.block < W.heap.size := by obtain ⟨m, hm⟩ := h0; exact DataW.trod_lt m _ _ _ hm
    exact trodAll_cons_mk (Below.trod hl hr.1.1 hr.1.2 h0 hb lt0) (all_below hl hb ts vs' ds' q hr.2 r0)

/-- The cells of element i of a slice that came in. -/
theorem slice_cells {w : World} {t e : TypeId} {m : Nat} (ht : P.underlying t = some (.slice e)) (hc : P.cellsOf e = m) (hm : 0 < m) {a : Option Addr} {len cap : Nat} {d : DataW H} {ps : List MemPlace}
    (h : DataW.Trod enc P w 0 (fun _ => true) true t (.slice a len cap) d ps) :
    len ≤ cap ∧ cap ≤ maxLen ∧ ∀ i, i < len → ∃ (b off n : Nat) (cs : List Value) (y : DataW H × List MemPlace), a = some ⟨b, off, none⟩ ∧ b < w.heap.size ∧ cs.length = m ∧
      (∀ j, j < m → w.cell? ⟨b, off + i * m + j, none⟩ = cs[j]?) ∧ DataW.trod enc P w 0 (fun _ => true) true n e cs = some y := by
  obtain ⟨fuel, hf⟩ := h
  rcases Deep.open_slice ht hf with ⟨hcs, _⟩ | ⟨x, l, c, m', n, D, Pl, hcs, _, hl, hmx, hmm, _, hx⟩
  · simp [Value.cells] at hcs
    obtain ⟨rfl, rfl, rfl⟩ := hcs
    exact ⟨Nat.le_refl _, Nat.zero_le _, fun i hi => absurd hi (by omega)⟩
  · simp [Value.cells] at hcs
    obtain ⟨rfl, rfl, rfl⟩ := hcs
    refine ⟨hl, hmx, fun i hi => ?_⟩
    simp at hmm
    obtain ⟨cs, h1, h2⟩ := hx i (by omega)
    rw [hc] at h1
    obtain ⟨_, k1, k2⟩ := World.cells?_some h1
    have hb := World.cells?_block h1 hm
    obtain ⟨c0, r0, _⟩ := hx 0 (by omega)
    rw [hc] at r0
    obtain ⟨_, z1, z2⟩ := World.cells?_some r0
    obtain ⟨b, off, spot⟩ := x
    have e0 := z2 0 hm
    simp only [Nat.zero_mul] at e0
    have hget : c0[0]? = some (c0[0]'(by omega)) := by simp
    rw [hget] at e0
    have hspot : spot = none := by simpa [Addr.add] using World.cell?_spot e0
    subst hspot
    refine ⟨b, off, n, cs, _, rfl, ?_, k1, fun j hj => ?_, h2⟩
    · have : ((⟨b, off, none⟩ : Addr).add (i * m)).block = b := by unfold Addr.add; split <;> rfl
      rw [this] at hb
      exact hb
    · rw [← k2 j hj, add_plain, add_plain]

end Go.LawOpen
