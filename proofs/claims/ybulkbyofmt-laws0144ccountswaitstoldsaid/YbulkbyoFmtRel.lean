/-
  'release'. Typed by the prover of this seat (an AI agent).
-/
import Derived.Test.YbulkbyoFmtCancel
import Derived.Maps.RangeWalk
import Derived.Conc.EventLaws
namespace Go.Proofs.YbulkbyoFmt
open Go.RowKit Go.MuLone Go.MapFn
set_option maxRecDepth 100000

theorem ranges_same {w w' : World} {k b r n cnt : Nat} {D : DataW Value} {left : Lit → Bool} (h : w.ranges Ybaf.prog k rdv b r n D left cnt) (hb : w'.heap[b]? = w.heap[b]?) (hr : w'.heap[r]? = w.heap[r]?) : w'.ranges Ybaf.prog k rdv b r n D left cnt := by
  obtain ⟨es, clock, since, seen, c0, hb', F, hs, hD, hr', rest⟩ := h
  exact ⟨es, clock, since, seen, c0, hb.trans hb', F, hs, hD, hr.trans hr', rest⟩

/-- A map of one key: what it has. -/
theorem one_key {D : DataW Value} {fk : Value → Option Value} {key : ByteArray} (hk : key.size ≤ maxLen) (hD : ∀ x kl, keyOf Ybaf.prog 9 x = some kl → ∀ z, D.atKey kl z = ((fk x).map DataW.held).getD z)
    (h1 : fk (.string key) = some (.agg #[])) (h2 : ∀ x, x ≠ .string key → fk x = none) :
    Maps.has D (.string key.data.toList) = true ∧ ∀ x kl, keyOf Ybaf.prog 9 (.string x) = some kl → Maps.has D kl = true → x = key := by
  constructor
  · exact Maps.has_true_of_atKey (y := .held (.agg #[])) (fun z => by rw [hD _ _ (keyS hk) z, h1]; rfl)
  · intro x kl hx hh
    by_cases e : Value.string x = .string key
    · injection e
    · rw [Maps.has_false_of_atKey (fun z => by rw [hD _ _ hx z, h2 _ e]; rfl)] at hh
      cases hh

theorem invK : ∀ key kl, keyOf Ybaf.prog 9 key = some kl → ∃ x, key = Value.string x := fun key kl h => by
  obtain ⟨s, e, _⟩ := WideMaps.string_of_keyOf Ybaf.underlying9 h
  exact ⟨s, e⟩
theorem invV : ∀ (v : Value) (y : DataW Value × List MemPlace), rdv v = some y → ∃ c, v = id c := fun v _ _ => ⟨v, rfl⟩

/-- 'clear(m)'. -/
theorem run_clear_map (w : World) (ty b : Nat) {es : Array MapEntry} {clock : Nat} (hb : w.heap[b]? = some (.map es clock)) :
    (Builtin.clear_ #[54] ty #[.map (some b)]).run Ybaf.prog w = .ok (.tuple #[]) { w with heap := w.heap.setIfInBounds b (.map #[] clock) } := by
  simp [Builtin.clear_, run_underlying Ybaf.underlying54, MapKept.run_getObj_map hb, MapKept.run_setObj_map _ hb]

theorem setObj_only (w : World) (b : Nat) (o : Obj) : Only [b] w { w with heap := w.heap.setIfInBounds b o } :=
  ⟨rfl, rfl, rfl, by simp, fun k hk hne => by
    rw [Array.getElem?_setIfInBounds_ne (fun e => hne (by simp [e]))]⟩
theorem setObj_far (w : World) {b k : Nat} (o : Obj) (h : k ≠ b) : ({ w with heap := w.heap.setIfInBounds b o } : World).heap[k]? = w.heap[k]? := by
  show (w.heap.setIfInBounds b o)[k]? = _
  rw [Array.getElem?_setIfInBounds_ne (fun e => h e.symm)]

set_option maxHeartbeats 2000000 in
theorem release_busy (w : World) (B L M KB H0 K0 W H K C g cap n nk n0 : Nat) (mu wts dl mk mk0 mh : Int) (key : ByteArray) (wt0 : Value) (f fk f0 : Value → Option Value) (rest : List Nat) (cur : Array Value)
    (hk : key.size ≤ maxLen) (hr : rest.length ≤ 1000) (hcap : rest.length + 1 ≤ cap) (hw0 : 0 ≤ wts) (hw1 : wts ≤ 1000) (hnk : nk ≤ 1000)
    (hl : LkAt w L M mu wts dl mk) (hm : Hid (MapIs Ybaf.prog 9 w M n f)) (hf : f (.string key) = some (pt KB)) (hkl : KlAt w KB H0 (.slice (some ⟨g, 0, none⟩) (rest.length + 1) cap))
    (hwt : WtAt w W H C key) (hch : ChAt w C) (hho : HoAt w H K mh (pt W)) (hkm : Hid (MapIs Ybaf.prog 9 w K nk fk)) (hg : w.heap[g]? = some (.cells cur 41)) (hsz : rest.length + 1 ≤ cur.size) (hcur : ∀ i, i < rest.length + 1 → cur[i]? = ((W :: rest)[i]?).map pt)
    (hws : ∀ V ∈ rest, ∃ c, w.heap[V]? = some (.cells c 64)) (hnd : ∀ V ∈ rest, V ≠ W) (hh0 : HoAt w H0 K0 mk0 wt0) (hk0 : Hid (MapIs Ybaf.prog 9 w K0 n0 f0)) (h1 : f0 (.string key) = some (.agg #[])) (h2 : ∀ x, x ≠ .string key → f0 x = none)
    (hKK : K ≠ K0) (hB : B ≤ w.heap.size) (hBs : ∀ b ∈ [L, KB, H, g, K, C, K0], B ≤ b) (hne : H ≠ H0) :
    Calls Ybaf.prog 18 #[.pointer (some ⟨L, 0, none⟩), .pointer (some ⟨H0, 0, none⟩)] w fun e w' => e = .returned (.tuple #[]) ∧ Below B w w' ∧ LkAt w' L M mu (wts - 1) dl mk := by
  obtain ⟨D, hown, hD⟩ := hk0.out
  obtain ⟨hasT, hasU⟩ := one_key hk hD h1 h2
  have HOWN := hidI hown
  have HU := hidI hasU
  have hT1 : w.cell? ⟨H0, 1, none⟩ = some (.map (some K0)) := cell_of hh0 1
  have HL := hidI hl
  have HKL := hidI hkl
  have HWT := hidI hwt
  have HCH := hidI hch
  have HHO := hidI hho
  have HG := hidI hg
  have HCUR := hidI hcur
  have HWS := hidI hws
  have HND := hidI hnd
  have HH0 := hidI hh0
  have HF := hidI hf
  clear hl hkl hwt hch hho hg hcur hws hnd hh0 hf hown hasU hD h1 h2
  go_enter Ybaf.func18, Ybaf.ntmps18
  go_wp2_with (first | (at_range; refine wpList_range_own _ rfl _ 54 rfl 9 24 lawS Ybaf.underlying54 rdv K0 n0 D rfl HOWN.out ?_; intro w0 hrg0 hg0 hs0; have HRG := hidI hrg0; have HG0 := hidI hg0; have HS0 := hidI hs0; clear hrg0 hg0 hs0) | fail)
  go_frame
  refine wp_loop_rounds 2 ?_
  rw [rounds_succ]
  go_upto_region 3 with (first | (at_next; refine wpList_next_ranges _ rfl _ rfl 9 lawS rdv Value.string id invK invV K0 w.heap.size n0 D _ _ rfl HRG.out ?_ ?_; (intro _ hl0; exact absurd (hl0 (.string key.data.toList)) (by rw [hasT]; decide)); intro x c kl y w1 cnt1 hkey hlk hv hat hrg hlt hgr hsz1 hen; have HRG1 := hidI hrg; have HGR1 := hidI hgr; have HLK := hidI hlk; have HKE := hidI hkey; clear hrg hgr hlk hkey hv hat hlt) | fail)
  obtain rfl := HU.out x kl HKE.out HLK.out
  obtain rfl : kl = .string x.data.toList := by have := HKE.out; rw [keyS hk] at this; injection this with this; exact this.symm
  have OLD : ∀ {k : Nat} {o : Obj}, w.heap[k]? = some o → w1.heap[k]? = some o := fun h =>
    (HGR1.out.block _ (by have := HS0.out; have := lt_of h; omega) (fun e => by have := lt_of h; injection e with e; omega)).trans ((HG0.out.block _ (lt_of h) (by simp)).trans h)
  have OLDM : ∀ {k : Nat}, k < w.heap.size → w1.heap[k]? = w.heap[k]? := fun h =>
    (HGR1.out.block _ (by have := HS0.out; omega) (fun e => by injection e with e; omega)).trans (HG0.out.block _ h (by simp))
  have hszw : w1.heap.size = w.heap.size + 1 := by have := HS0.out; omega
  have O1 : Hid (Only [L, KB, H, g, K, C, K0] w w1) := ⟨HGR1.out.os.trans HG0.out.os, HGR1.out.tape.trans HG0.out.tape, HGR1.out.output.trans HG0.out.output, by omega, fun k hk _ => OLDM hk⟩
  have L1 : Hid (LkAt w1 L M mu wts dl mk) := OLD HL.out
  have K1 : Hid (KlAt w1 KB H0 (.slice (some ⟨g, 0, none⟩) (rest.length + 1) cap)) := OLD HKL.out
  have W1 : Hid (WtAt w1 W H C x) := OLD HWT.out
  have C1 : Hid (ChAt w1 C) := OLD HCH.out
  have HO1 : Hid (HoAt w1 H K mh (pt W)) := OLD HHO.out
  have G1 : Hid (w1.heap[g]? = some (.cells cur 41)) := OLD HG.out
  have HZ1 : Hid (HoAt w1 H0 K0 mk0 wt0) := OLD HH0.out
  have M1 : Hid (MapIs Ybaf.prog 9 w1 M n f) := hm.out.same (OLDM hm.out.lt)
  have KM1 : Hid (MapIs Ybaf.prog 9 w1 K nk fk) := hkm.out.same (OLDM hkm.out.lt)
  have HD := hidI (dequeue_any w1 L M KB H0 W H K C g cap n mu wts dl mk mh x f rest cur hk hr hcap hw0 hw1 L1.out M1 HF.out K1.out W1.out HO1.out G1.out hsz HCUR.out (fun V hV => by obtain ⟨c, hc⟩ := HWS.out V hV; exact ⟨c, OLD hc⟩) HND.out)
  have l2 : w1.cell? ⟨L, 2, none⟩ = some (.map (some M)) := cell_of L1.out 2
  have k1 : w1.cell? ⟨KB, 1, none⟩ = some (.slice (some ⟨g, 0, none⟩) (rest.length + 1) cap) := cell_of K1.out 1
  have g0 : w1.cell? ⟨g, 0, none⟩ = some (pt W) := by rw [cell_of G1.out, HCUR.out 0 (by omega)]; rfl
  have hlook := M1.out.look lawS Ybaf.underlying31 (zero57 _) (keyS hk)
  rw [HF.out, Option.getD_some] at hlook
  have hlen : ((rest.length : Int) + 1 == 0) = false := beq_eq_false_iff_ne.2 (by omega)
  have hpos : (0 : Int) < (rest.length : Int) + 1 := by omega
  clear HRG HGR1 HG0 HS0 OLD OLDM HL HKL HWT HCH HHO HG HH0 HCUR HWS HND hm hkm hen hT1 hszw HLK HKE hk0 hsz1
  unfold pt at hlook g0 HD
  go_wp2_with fail
  refine HD.out.mono ?_
  rintro e w2 ⟨rfl, o2, l2', k2', h2', _⟩
  have nf : ∀ {k : Nat} {o : Obj}, w1.heap[k]? = some o → (∀ c t, o = .cells c t → t ≠ 38 ∧ t ≠ 59 ∧ t ≠ 56 ∧ t ≠ 41) → w2.heap[k]? = some o := by
    intro k o h ho
    refine (o2.block k (lt_of h) ?_).trans h
    simp only [List.mem_cons, List.not_mem_nil, or_false]
    rintro (e | e | e | e)
    · exact ne_of h L1.out (fun e' => (ho _ _ e').1 rfl) e
    · exact ne_of h K1.out (fun e' => (ho _ _ e').2.1 rfl) e
    · exact ne_of h HO1.out (fun e' => (ho _ _ e').2.2.1 rfl) e
    · exact ne_of h G1.out (fun e' => (ho _ _ e').2.2.2 rfl) e
  have W2 : Hid (WtAt w2 W H C x) := nf W1.out (fun c t e => by cases e; decide)
  have C2 : Hid (ChAt w2 C) := nf C1.out (fun c t e => by cases e)
  have KM2 : Hid (MapIs Ybaf.prog 9 w2 K nk fk) := by
    obtain ⟨D', ⟨es, cl, hb, _⟩, _⟩ := KM1.out
    exact KM1.out.same ((nf hb (fun c t e => by cases e)).trans hb.symm)
  have R2 : Hid (w2.ranges Ybaf.prog 9 rdv K0 w.heap.size n0 D (fun z => Maps.has D z && !z.sameKey (Lit.string x.data.toList)) cnt1) := by
    have h := HRG1.out
    obtain ⟨es, clock, since, seen, c0, hb', F, hs, hD, hr', _⟩ := HRG1.out
    exact ranges_same h ((nf hb' (fun c t e => by cases e)).trans hb'.symm) ((nf hr' (fun c t e => by cases e)).trans hr'.symm)
  have HZ2 : Hid (HoAt w2 H0 K0 mk0 wt0) := by
    refine (o2.block H0 (lt_of HZ1.out) ?_).trans HZ1.out
    simp only [List.mem_cons, List.not_mem_nil, or_false]
    rintro (e | e | e | e)
    · exact ne_of HZ1.out L1.out (fun e' => by cases e') e
    · exact ne_of HZ1.out K1.out (fun e' => by cases e') e
    · exact hne e.symm
    · exact ne_of HZ1.out G1.out (fun e' => by cases e') e
  have O2 : Hid (Only [L, KB, H, g, K, C, K0] w w2) := O1.out.trans (o2.mono (fun k hk _ => by simp only [List.mem_cons, List.not_mem_nil, or_false] at hk ⊢; omega))
  have L2 := hidI l2'
  have K2 := hidI k2'
  have H2 := hidI h2'
  clear o2 l2' k2' h2' nf HD L1 K1 W1 C1 HO1 G1 HZ1 M1 KM1 O1 HRG1 l2 k1 g0 hlook
  have b0 : w2.cell? ⟨KB, 0, none⟩ = some (.pointer (some ⟨H0, 0, none⟩)) := cell_of K2.out 0
  have bf := frozen_of K2.out 0
  have y0 : w2.cell? ⟨W, 0, none⟩ = some (.pointer (some ⟨H, 0, none⟩)) := cell_of W2.out 0
  have nm : ∀ {k : Nat} {o : Obj} {u : Value}, w2.heap[k]? = some o → (∀ c, o ≠ .cells c 59) → (w2.setCell ⟨KB, 0, none⟩ u).heap[k]? = some o := fun h ho => (set_far (ne_of h K2.out (ho _))).trans h
  have L3 : Hid (LkAt (w2.setCell ⟨KB, 0, none⟩ (.pointer (some ⟨H, 0, none⟩))) L M mu (wts - 1) dl mk) := nm L2.out (fun c e => by cases e)
  have W3 : Hid (WtAt (w2.setCell ⟨KB, 0, none⟩ (.pointer (some ⟨H, 0, none⟩))) W H C x) := nm W2.out (fun c e => by cases e)
  have C3 : Hid (ChAt (w2.setCell ⟨KB, 0, none⟩ (.pointer (some ⟨H, 0, none⟩))) C) := nm C2.out (fun c e => by cases e)
  have H3 : Hid (HoAt (w2.setCell ⟨KB, 0, none⟩ (.pointer (some ⟨H, 0, none⟩))) H K mh (.pointer none)) := nm H2.out (fun c e => by cases e)
  have HZ3 : Hid (HoAt (w2.setCell ⟨KB, 0, none⟩ (.pointer (some ⟨H, 0, none⟩))) H0 K0 mk0 wt0) := nm HZ2.out (fun c e => by cases e)
  have KM3 : Hid (MapIs Ybaf.prog 9 (w2.setCell ⟨KB, 0, none⟩ (.pointer (some ⟨H, 0, none⟩))) K nk fk) := by
    obtain ⟨D', ⟨es, cl, hb, _⟩, _⟩ := KM2.out
    exact KM2.out.same ((nm hb (fun c e => by cases e)).trans hb.symm)
  have R3 : Hid ((w2.setCell ⟨KB, 0, none⟩ (.pointer (some ⟨H, 0, none⟩))).ranges Ybaf.prog 9 rdv K0 w.heap.size n0 D (fun z => Maps.has D z && !z.sameKey (Lit.string x.data.toList)) cnt1) := by
    have h := R2.out
    obtain ⟨es, clock, since, seen, c0, hb', F, hs, hD, hr', _⟩ := R2.out
    exact ranges_same h ((nm hb' (fun c e => by cases e)).trans hb'.symm) ((nm hr' (fun c e => by cases e)).trans hr'.symm)
  have O3 : Hid (Only [L, KB, H, g, K, C, K0] w (w2.setCell ⟨KB, 0, none⟩ (.pointer (some ⟨H, 0, none⟩)))) := O2.out.set (by simp) _
  clear nm L2 W2 C2 H2 HZ2 KM2 R2 O2 K2
  go_upto_region 9 with fail
  generalize World.setCell _ ⟨KB, 0, none⟩ _ = w3 at L3 W3 C3 H3 HZ3 KM3 R3 O3 ⊢
  clear b0 bf y0
  obtain ⟨w4, fk', hrun, m4, _, _, t4⟩ := KM3.out.store lawS Ybaf.underlying54 (by unfold maxLen; omega) (keyS hk) (val := .agg #[])
  have y0 : w3.cell? ⟨W, 0, none⟩ = some (.pointer (some ⟨H, 0, none⟩)) := cell_of W3.out 0
  have z1 : w3.cell? ⟨H, 1, none⟩ = some (.map (some K)) := cell_of H3.out 1
  have nm : ∀ {k : Nat} {o : Obj}, w3.heap[k]? = some o → k ≠ K → w4.heap[k]? = some o := fun h hne => (t4.grown.block _ (lt_of h) (fun e => hne (by injection e))).trans h
  have isM : ∃ es cl, w3.heap[K]? = some (.map es cl) := by obtain ⟨D', ⟨es, cl, hb, _⟩, _⟩ := KM3.out; exact ⟨es, cl, hb⟩
  obtain ⟨esK, clK, hKm⟩ := isM
  have L4 : Hid (LkAt w4 L M mu (wts - 1) dl mk) := nm L3.out (ne_of L3.out hKm (fun e => by cases e))
  have W4 : Hid (WtAt w4 W H C x) := nm W3.out (ne_of W3.out hKm (fun e => by cases e))
  have C4 : Hid (ChAt w4 C) := nm C3.out (ne_of C3.out hKm (fun e => by cases e))
  have HZ4 : Hid (HoAt w4 H0 K0 mk0 wt0) := nm HZ3.out (ne_of HZ3.out hKm (fun e => by cases e))
  have R4 : Hid (w4.ranges Ybaf.prog 9 rdv K0 w.heap.size n0 D (fun z => Maps.has D z && !z.sameKey (Lit.string x.data.toList)) cnt1) := by
    have h := R3.out
    obtain ⟨es, clock, since, seen, c0, hb', F, hs, hD, hr', _⟩ := R3.out
    exact ranges_same h ((nm hb' (fun e => hKK e.symm)).trans hb'.symm) ((nm hr' (ne_of hr' hKm (fun e => by cases e))).trans hr'.symm)
  have O4 : Hid (Only [L, KB, H, g, K, C, K0] w w4) := O3.out.grown t4.grown (fun b e => by cases e; left; simp)
  clear nm hKm m4 t4 L3 W3 C3 H3 HZ3 KM3 R3 O3
  go_upto_region 10 with fail
  clear hrun y0 z1
  have y2 : w4.cell? ⟨W, 2, none⟩ = some (.chan (some C)) := cell_of W4.out 2
  have hcl := fun ats ty => run_close_open (P := Ybaf.prog) (w := w4) ats ty C4.out
  have nm : ∀ {k : Nat} {o : Obj}, w4.heap[k]? = some o → k ≠ C → ({ w4 with heap := w4.heap.setIfInBounds C (.chan 0 #[] true 0 0 false) } : World).heap[k]? = some o := fun h hne => (setObj_far w4 _ hne).trans h
  have L5 : Hid (LkAt { w4 with heap := w4.heap.setIfInBounds C (.chan 0 #[] true 0 0 false) } L M mu (wts - 1) dl mk) := nm L4.out (ne_of L4.out C4.out (fun e => by cases e))
  have HZ5 : Hid (HoAt { w4 with heap := w4.heap.setIfInBounds C (.chan 0 #[] true 0 0 false) } H0 K0 mk0 wt0) := nm HZ4.out (ne_of HZ4.out C4.out (fun e => by cases e))
  have R5 : Hid (({ w4 with heap := w4.heap.setIfInBounds C (.chan 0 #[] true 0 0 false) } : World).ranges Ybaf.prog 9 rdv K0 w.heap.size n0 D (fun z => Maps.has D z && !z.sameKey (Lit.string x.data.toList)) cnt1) := by
    have h := R4.out
    obtain ⟨es, clock, since, seen, c0, hb', F, hs, hD, hr', _⟩ := R4.out
    exact ranges_same h ((nm hb' (ne_of hb' C4.out (fun e => by cases e))).trans hb'.symm) ((nm hr' (ne_of hr' C4.out (fun e => by cases e))).trans hr'.symm)
  have O5 : Hid (Only [L, KB, H, g, K, C, K0] w { w4 with heap := w4.heap.setIfInBounds C (.chan 0 #[] true 0 0 false) }) := O4.out.trans ((setObj_only w4 C _).mono (fun k hk _ => by simp only [List.mem_cons, List.not_mem_nil, or_false] at hk ⊢; omega))
  clear nm L4 W4 C4 HZ4 R4 O4
  go_wp2_with fail
  rw [rounds_succ]
  have OWN5 := R5.out.owns
  obtain ⟨es5, cl5, hb5, _⟩ := OWN5
  have T5 : ({ w4 with heap := w4.heap.setIfInBounds C (.chan 0 #[] true 0 0 false) } : World).cell? ⟨H0, 1, none⟩ = some (.map (some K0)) := cell_of HZ5.out 1
  have hclr := fun ty => run_clear_map { w4 with heap := w4.heap.setIfInBounds C (.chan 0 #[] true 0 0 false) } ty K0 hb5
  have L6 : Hid (LkAt { ({ w4 with heap := w4.heap.setIfInBounds C (.chan 0 #[] true 0 0 false) } : World) with heap := ({ w4 with heap := w4.heap.setIfInBounds C (.chan 0 #[] true 0 0 false) } : World).heap.setIfInBounds K0 (.map #[] cl5) } L M mu (wts - 1) dl mk) := (setObj_far _ _ (ne_of L5.out hb5 (fun e => by cases e))).trans L5.out
  have O6 : Hid (Only [L, KB, H, g, K, C, K0] w { ({ w4 with heap := w4.heap.setIfInBounds C (.chan 0 #[] true 0 0 false) } : World) with heap := ({ w4 with heap := w4.heap.setIfInBounds C (.chan 0 #[] true 0 0 false) } : World).heap.setIfInBounds K0 (.map #[] cl5) }) := O5.out.trans ((setObj_only _ K0 _).mono (fun k hk _ => by simp only [List.mem_cons, List.not_mem_nil, or_false] at hk ⊢; omega))
  have HNO : Hid (∀ (y : ByteArray) (kl : Lit), keyOf Ybaf.prog 9 (Value.string y) = some kl → (Maps.has D kl && !kl.sameKey (Lit.string x.data.toList)) = true → False) := by
    intro y kl hy hh
    simp only [Bool.and_eq_true] at hh
    obtain rfl := HU.out y kl hy hh.1
    rw [keyS hk] at hy
    injection hy with hy
    rw [← hy, WideAt.sameKey_self (lawS.key (keyS hk))] at hh
    cases hh.2
  clear hcl y2 L5 HZ5 O5 hb5
  generalize ({ w4 with heap := w4.heap.setIfInBounds C (.chan 0 #[] true 0 0 false) } : World) = w5 at R5 T5 hclr L6 O6 ⊢
  go_wp2_with (first | (at_next; refine wpList_next_ranges _ rfl _ rfl 9 lawS rdv Value.string id invK invV K0 w.heap.size n0 D _ _ rfl R5.out ?_ ?_; rotate_left; (intro y c kl v w6 cnt6 hkey hlk; exact (HNO.out y kl hkey hlk).elim); intro _ _) | fail)
  go_end0
  exact ⟨rfl, O6.out.below hBs hB, L6.out⟩
end Go.Proofs.YbulkbyoFmt
