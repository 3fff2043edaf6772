/-
  The lock table with its waits, and what each call leaves of it. Typed by the prover of this seat (an AI agent).
-/
import Derived.Test.YbulkbyoFmtRelE
namespace Go.Proofs.YbulkbyoFmt
open Go.RowKit Go.MuLone Go.MapFn
set_option maxRecDepth 100000

/-- A wait in progress. -/
def Wt (w : World) (key : ByteArray) (B H0 K0 W : Nat) : Prop :=
  ∃ H K C mh nk fk, WtAt w W H C key ∧ ChAt w C ∧ HoAt w H K mh (pt W) ∧ MapIs Ybaf.prog 9 w K nk fk ∧ nk ≤ 10 ∧ H ≠ H0 ∧ K ≠ K0 ∧ B ≤ H ∧ B ≤ K ∧ B ≤ C

structure Tab (w : World) (B L M KB H0 K0 : Nat) (wts dl mk : Int) (key : ByteArray) (q : Value) (ps : List Nat) : Prop where
  lk : LkAt w L M 0 wts dl mk
  map : ∃ n f, MapIs Ybaf.prog 9 w M n f ∧ f (.string key) = some (pt KB)
  kl : KlAt w KB H0 q
  ho : ∃ mk0, HoAt w H0 K0 mk0 (.pointer none)
  hk : ∃ f0, MapIs Ybaf.prog 9 w K0 1 f0 ∧ f0 (.string key) = some (.agg #[]) ∧ ∀ x, x ≠ .string key → f0 x = none
  row : w.ownsRow B 41 1 q ps.length (ps.map pt)
  wt : ∀ W ∈ ps, Wt w key B H0 K0 W
  nd : ps.Nodup
  base : B ≤ L ∧ B ≤ M ∧ B ≤ KB ∧ B ≤ K0
  ne : M ≠ K0

/-- Blocks that may turn: none that a wait, a map or the first holder lies in. -/
def Mild (w : World) (H0 : Nat) (ps : List Nat) (S : List Nat) : Prop :=
  ∀ s ∈ S, s < w.heap.size → ∃ c t, w.heap[s]? = some (.cells c t) ∧ s ≠ H0 ∧ (t = 38 ∨ t = 59 ∨ t = 41 ∨ (t = 56 ∧ ∀ W ∈ ps, c[2]? ≠ some (pt W)))

section
variable {w w' : World} {B L M KB H0 K0 : Nat} {wts dl mk : Int} {key : ByteArray} {q : Value} {ps ps' : List Nat} {S : List Nat}

theorem mild_map (hS : Mild w H0 ps S) (ho : Only S w w') {k n : Nat} {f : Value → Option Value} (h : MapIs Ybaf.prog 9 w k n f) : MapIs Ybaf.prog 9 w' k n f := by
  have h0 := h
  obtain ⟨D, ⟨es, cl, hb, _⟩, _⟩ := h0
  refine h.same (ho.block k (lt_of hb) (fun e => ?_))
  obtain ⟨c, t, hc, _⟩ := hS k e (lt_of hb)
  rw [hb] at hc
  cases hc

theorem Wt.keep {W : Nat} (h : Wt w key B H0 K0 W) (hS : Mild w H0 ps S) (hW : W ∈ ps) (ho : Only S w w') : Wt w' key B H0 K0 W := by
  obtain ⟨H, K, C, mh, nk, fk, h1, h2, h3, h4, r⟩ := h
  refine ⟨H, K, C, mh, nk, fk, (ho.block W (lt_of h1) (fun e => ?_)).trans h1, (ho.block C (lt_of h2) (fun e => ?_)).trans h2, (ho.block H (lt_of h3) (fun e => ?_)).trans h3, mild_map hS ho h4, r⟩
  · obtain ⟨c, t, hc, _, ht⟩ := hS W e (lt_of h1)
    rw [show w.heap[W]? = _ from h1] at hc
    cases hc
    rcases ht with ht | ht | ht | ht
    · cases ht
    · cases ht
    · cases ht
    · cases ht.1
  · obtain ⟨c, t, hc, _⟩ := hS C e (lt_of h2)
    rw [show w.heap[C]? = _ from h2] at hc
    cases hc
  · obtain ⟨c, t, hc, _, ht⟩ := hS H e (lt_of h3)
    rw [show w.heap[H]? = _ from h3] at hc
    cases hc
    rcases ht with ht | ht | ht | ht
    · cases ht
    · cases ht
    · cases ht
    · exact ht.2 W hW rfl

theorem Tab.step (h : Tab w B L M KB H0 K0 wts dl mk key q ps) (hS : Mild w H0 ps' S) (ho : Only S w w') {wts' mk' : Int} {q' : Value} (lk' : LkAt w' L M 0 wts' dl mk') (kl' : KlAt w' KB H0 q')
    (row' : w'.ownsRow B 41 1 q' ps'.length (ps'.map pt)) (nd' : ps'.Nodup) (hw : ∀ W ∈ ps', W ∈ ps ∨ Wt w' key B H0 K0 W) : Tab w' B L M KB H0 K0 wts' dl mk' key q' ps' := by
  obtain ⟨n, f, hm, hf⟩ := h.map
  obtain ⟨mk0, hh⟩ := h.ho
  obtain ⟨f0, hk, hk'⟩ := h.hk
  refine ⟨lk', ⟨n, f, mild_map hS ho hm, hf⟩, kl', ⟨mk0, (ho.block H0 (lt_of hh) (fun e => ?_)).trans hh⟩, ⟨f0, mild_map hS ho hk, hk'⟩, row', fun W hW => ?_, nd', h.base, h.ne⟩
  · obtain ⟨c, t, hc, hne, _⟩ := hS H0 e (lt_of hh)
    exact hne rfl
  · rcases hw W hW with h' | h'
    · exact (h.wt W h').keep hS hW ho
    · exact h'

theorem row_keep {v : Value} {n : Nat} {xs : List Value} (h : w.ownsRow B 41 1 v n xs) (hb : ∀ g, v.ownBlock = some g → w'.heap[g]? = w.heap[g]?) : w'.ownsRow B 41 1 v n xs := by
  refine ⟨h.1, ?_⟩
  rcases h.2 with h' | ⟨g, cap, cur, e, hge, hg, r⟩
  · exact Or.inl h'
  · exact Or.inr ⟨g, cap, cur, e, hge, (hb g (by rw [e]; rfl)).trans hg, r⟩
theorem row_obj {v : Value} {n : Nat} {xs : List Value} (h : w.ownsRow B 41 1 v n xs) {g : Nat} (hg : v.ownBlock = some g) : B ≤ g ∧ ∃ c, w.heap[g]? = some (.cells c 41) := by
  rcases h.2 with ⟨e, _⟩ | ⟨g', cap, cur, e, hge, hg', _⟩
  · rw [e] at hg; cases hg
  · rw [e] at hg; cases hg; exact ⟨hge, _, hg'⟩

theorem Tab.like (h : Tab w B L M KB H0 K0 wts dl mk key q ps) (hl : Like w w') : Tab w' B L M KB H0 K0 wts dl mk key q ps := by
  have ho : Only [] w w' := (Only.refl [] w).like hl
  have e : ∀ k : Nat, w'.heap[k]? = w.heap[k]? := fun k => by rw [hl.heap]
  exact h.step (S := []) (fun s hs => by cases hs) ho ((e L).trans h.lk) ((e KB).trans h.kl) (row_keep h.row (fun g _ => e g)) h.nd (fun W hW => Or.inl hW)

/-- 'newHolder'. -/
theorem Tab.holder (h : Tab w B L M KB H0 K0 wts dl mk key q ps) (x : Int) : Tab (((w.setCell ⟨L, 6, none⟩ (.int .u64 x)).alloc (.map #[] 0)).alloc (.cells #[.int .u64 x, .map (some w.heap.size), .pointer none] 56)) B L M KB H0 K0 wts dl x key q ps := by
  have ho : Only [L] w (((w.setCell ⟨L, 6, none⟩ (.int .u64 x)).alloc (.map #[] 0)).alloc (.cells #[.int .u64 x, .map (some w.heap.size), .pointer none] 56)) := (((Only.refl [L] w).set (by simp) _).alloc _).alloc _
  have al : ∀ {k : Nat} {o : Obj}, (w.setCell ⟨L, 6, none⟩ (.int .u64 x)).heap[k]? = some o → (((w.setCell ⟨L, 6, none⟩ (.int .u64 x)).alloc (.map #[] 0)).alloc (.cells #[.int .u64 x, .map (some w.heap.size), .pointer none] 56)).heap[k]? = some o := fun hk =>
    (Below.heap_alloc _ _ _ (by have := lt_of hk; simp at this ⊢; omega)).trans ((Below.heap_alloc _ _ _ (lt_of hk)).trans hk)
  obtain ⟨mk0, hh⟩ := h.ho
  refine h.step (S := [L]) (fun s hs _ => ?_) ho (al (h.lk.set6 x)) (al ((set_far (ne_of h.kl h.lk (fun e => by cases e))).trans h.kl)) (row_keep h.row (fun g hg => ?_)) h.nd (fun W hW => Or.inl hW)
  · obtain rfl : s = L := by simpa using hs
    exact ⟨_, _, h.lk, ne_of h.lk hh (fun e => by cases e), Or.inl rfl⟩
  · obtain ⟨_, c, hc⟩ := row_obj h.row hg
    exact ho.block g (lt_of hc) (fun e => ne_of hc h.lk (fun e => by cases e) (by simpa using e))

/-- A wait is put at the end. -/
theorem Tab.push (h : Tab w B L M KB H0 K0 wts dl mk key q ps) {H K : Nat} {mh : Int} {q' : Value} {nk : Nat} {fk : Value → Option Value} (hho : HoAt w H K mh (.pointer none)) (hkm : MapIs Ybaf.prog 9 w K nk fk) (hnk : nk ≤ 10) (hne : H ≠ H0) (hKK : K ≠ K0) (hB : B ≤ H) (hBK : B ≤ K) (hBw : B ≤ w.heap.size)
    (ho : Only ([L, KB, H] ++ q.ownBlock.toList) w w') (l' : LkAt w' L M 0 (wts + 1) dl mk) (k' : KlAt w' KB H0 q') (h' : HoAt w' H K mh (pt (w.heap.size + 1))) (t' : WtAt w' (w.heap.size + 1) H w.heap.size key) (c' : ChAt w' w.heap.size)
    (r' : w'.ownsRow B 41 1 q' (ps.length + 1) (ps.map pt ++ [pt (w.heap.size + 1)])) : Tab w' B L M KB H0 K0 (wts + 1) dl mk key q' (ps ++ [w.heap.size + 1]) := by
  obtain ⟨mk0, hh⟩ := h.ho
  have old : ∀ W ∈ ps, W < w.heap.size := fun W hW => by obtain ⟨_, _, _, _, _, _, h1, _⟩ := h.wt W hW; exact lt_of h1
  have hS : Mild w H0 (ps ++ [w.heap.size + 1]) ([L, KB, H] ++ q.ownBlock.toList) := by
    intro s hs hlt
    simp only [List.mem_append, List.mem_cons, List.not_mem_nil, or_false] at hs
    rcases hs with (rfl | rfl | rfl) | hs
    · exact ⟨_, _, h.lk, ne_of h.lk hh (fun e => by cases e), Or.inl rfl⟩
    · exact ⟨_, _, h.kl, ne_of h.kl hh (fun e => by cases e), Or.inr (Or.inl rfl)⟩
    · exact ⟨_, _, hho, hne, Or.inr (Or.inr (Or.inr ⟨rfl, fun W _ e => by cases e⟩))⟩
    · obtain ⟨_, c, hc⟩ := row_obj h.row (Option.mem_toList.1 hs)
      exact ⟨_, _, hc, ne_of hc hh (fun e => by cases e), Or.inr (Or.inr (Or.inl rfl))⟩
  refine h.step hS ho l' k' (by simpa using r') ?_ (fun W hW => ?_)
  · rw [List.nodup_append]
    refine ⟨h.nd, by simp, fun a ha b hb e => ?_⟩
    have := old a ha
    simp at hb
    omega
  · rcases List.mem_append.1 hW with hW | hW
    · exact Or.inl hW
    · obtain rfl : W = w.heap.size + 1 := by simpa using hW
      exact Or.inr ⟨H, K, w.heap.size, mh, nk, fk, t', c', h', mild_map hS ho hkm, hnk, hne, hKK, hB, hBK, hBw⟩

/-- The eldest wait, laid open. -/
theorem Tab.eldest {W : Nat} {rest : List Nat} (h : Tab w B L M KB H0 K0 wts dl mk key q (W :: rest)) : ∃ g cap cur, q = .slice (some ⟨g, 0, none⟩) (rest.length + 1) cap ∧ B ≤ g ∧ w.heap[g]? = some (.cells cur 41) ∧ rest.length + 1 ≤ cap ∧ rest.length + 1 ≤ cur.size ∧ cap ≤ maxLen ∧ cur.size = cap ∧
    (∀ i, i < rest.length + 1 → cur[i]? = ((W :: rest)[i]?).map pt) ∧ (∀ V ∈ rest, ∃ c, w.heap[V]? = some (.cells c 64)) ∧ (∀ V ∈ rest, V ≠ W) := by
  rcases h.row.2 with ⟨_, e⟩ | ⟨g, cap, cur, e, hge, hg, h1, h2, h3, h4⟩
  · simp at e
  · refine ⟨g, cap, cur, by simpa using e, hge, hg, by simpa using h1, ?_, h2, by simpa using h3, fun i hi => ?_, fun V hV => ?_, fun V hV e => ?_⟩
    · simp at h1 h3; omega
    · have : (cur.toList.take ((W :: rest).length * 1))[i]? = ((W :: rest).map pt)[i]? := by rw [h4]
      rw [List.getElem?_take_of_lt (by simp; omega), List.getElem?_map] at this
      simpa using this
    · obtain ⟨_, _, _, _, _, _, h1, _⟩ := h.wt V (List.mem_cons_of_mem _ hV)
      exact ⟨_, h1⟩
    · subst e
      exact (List.nodup_cons.1 h.nd).1 hV

/-- It is taken out. -/
theorem Tab.pop {W g cap H K C : Nat} {mh : Int} {rest : List Nat} {cur cur' : Array Value} (h : Tab w B L M KB H0 K0 wts dl mk key q (W :: rest)) (hq : q = .slice (some ⟨g, 0, none⟩) (rest.length + 1) cap) (hg : w.heap[g]? = some (.cells cur 41)) (hge : B ≤ g) (hcap : rest.length + 1 ≤ cap) (hcm : cap ≤ maxLen) (hsz : cur.size = cap)
    (hho : HoAt w H K mh (pt W)) (hne : H ≠ H0) (hwt : WtAt w W H C key)
    (ho : Only [L, KB, H, g] w w') (l' : LkAt w' L M 0 (wts - 1) dl mk) (k' : KlAt w' KB H0 (.slice (some ⟨g, 0, none⟩) rest.length cap)) (g' : w'.heap[g]? = some (.cells cur' 41)) (s' : cur'.size = cur.size) (c' : ∀ i, i < rest.length → cur'[i]? = (rest[i]?).map pt) :
    Tab w' B L M KB H0 K0 (wts - 1) dl mk key (.slice (some ⟨g, 0, none⟩) rest.length cap) rest := by
  obtain ⟨mk0, hh⟩ := h.ho
  have hnd := List.nodup_cons.1 h.nd
  refine h.step (S := [L, KB, H, g]) (fun s hs hlt => ?_) ho l' k' ⟨by simp, Or.inr ⟨g, cap, cur', rfl, hge, g', by omega, hcm, by omega, ?_⟩⟩ hnd.2 (fun V hV => Or.inl (List.mem_cons_of_mem _ hV))
  · simp only [List.mem_cons, List.not_mem_nil, or_false] at hs
    rcases hs with rfl | rfl | rfl | rfl
    · exact ⟨_, _, h.lk, ne_of h.lk hh (fun e => by cases e), Or.inl rfl⟩
    · exact ⟨_, _, h.kl, ne_of h.kl hh (fun e => by cases e), Or.inr (Or.inl rfl)⟩
    · refine ⟨_, _, hho, hne, Or.inr (Or.inr (Or.inr ⟨rfl, fun V hV e => ?_⟩))⟩
      have e' : pt W = pt V := by simpa using e
      unfold pt at e'
      injection e' with e'
      injection e' with e'
      injection e' with e'
      exact hnd.1 (e' ▸ hV)
    · exact ⟨_, _, hg, ne_of hg hh (fun e => by cases e), Or.inr (Or.inr (Or.inl rfl))⟩
  · apply List.ext_getElem?
    intro i
    by_cases hi : i < rest.length
    · rw [List.getElem?_take_of_lt (by omega)]
      have := c' i hi
      simpa using this
    · rw [List.getElem?_eq_none (by simp; omega), List.getElem?_eq_none (by simp; omega)]
end
end Go.Proofs.YbulkbyoFmt
