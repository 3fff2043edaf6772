/-
  The first loop of the law: the waits are put. Typed by the prover of this seat (an AI agent); the frames' slots by a script of his.
-/
import Derived.Test.YbulkbyoFmtLaw1
namespace Go.Proofs.YbulkbyoFmt
open Go.RowKit Go.MuLone Go.MapFn
set_option maxRecDepth 1000000
section
variable {u0 u1 u2 u3 u4 u5 u6 u7 u8 u9 u10 u11 u12 u13 u14 u15 u16 u17 u18 u19 u20 u21 u22 u23 u24 u25 u26 u27 u28 u29 u30 u31 u32 u33 u34 u35 u36 u37 u38 u39 u40 u41 u42 u43 u44 u45 u46 u47 u48 u49 u50 u51 u52 u53 u54 u55 u56 u57 u58 u59 u60 u61 u62 u63 u64 u65 u66 u67 u68 u69 u70 u71 u72 u73 u74 u75 u76 u77 u78 u79 u80 u81 u82 u83 u84 u85 u86 u87 u88 u89 u90 u91 u92 u93 u94 u95 u96 u97 u98 u99 u100 u101 u102 u103 u104 u105 u106 u107 u108 u109 u110 u111 u112 u113 u114 u115 u116 u117 u118 u119 u120 u121 u122 u123 u124 u125 u126 u127 u128 u129 u130 u131 u132 u133 u134 u135 u136 u137 u138 u139 u140 u141 u142 u143 u144 u145 u146 u147 u148 u149 u150 u151 u152 u153 u154 u155 u156 u157 : Value}
set_option maxHeartbeats 4000000 in
theorem wloop1 (w0 w : World) (B L M KB H0 K0 gw kk : Nat) (dl : Int) (key : ByteArray) (q : Value) (Q : Exit → Act → World → Prop) (hk : key.size ≤ maxLen) (hkk : (kk : Int) ≤ 7) (hB0 : w0.heap.size = B)
    (htab : Hid (Tab w B L M KB H0 K0 ((0 : Nat) : Int) dl (((0 : Nat) : Int) + 1) key q [])) (hws : Hid (WsAt w B gw kk q [])) (hb : Hid (Below B w0 w))
    (hQ : Hid (∀ (x8 x17 x18 x19 x20 x21 x22 x65 x66 x67 x68 x69 x70 x71 x72 x73 x74 x75 x76 x77 x78 x79 x80 x81 x82 x83 x84 x85 x86 x87 x88 x89 x90 x91 x92 x93 x94 x95 x96 x97 x98 x99 x100 x101 x102 : Value) (wr : World) (q : Value) (ps : List Nat), ps.length = kk → Tab wr B L M KB H0 K0 (kk : Int) dl ((kk : Int) + 1) key q ps ∧ WsAt wr B gw kk q ps ∧ Below B w0 wr → Q (.exit 0) ⟨List.toArray (u0 :: u1 :: (.string key) :: (.int .i64 dl) :: u4 :: u5 :: u6 :: u7 :: x8 :: (.pointer (some ⟨L, 0, none⟩)) :: u10 :: u11 :: u12 :: u13 :: u14 :: (.int .i64 kk) :: (.slice (some ⟨gw, 0, none⟩) kk kk) :: x17 :: x18 :: x19 :: x20 :: x21 :: x22 :: u23 :: u24 :: u25 :: u26 :: u27 :: u28 :: u29 :: u30 :: u31 :: u32 :: u33 :: u34 :: u35 :: u36 :: u37 :: u38 :: u39 :: u40 :: u41 :: u42 :: u43 :: u44 :: u45 :: u46 :: u47 :: u48 :: u49 :: u50 :: u51 :: u52 :: u53 :: u54 :: u55 :: u56 :: u57 :: u58 :: u59 :: u60 :: u61 :: u62 :: u63 :: u64 :: x65 :: x66 :: x67 :: x68 :: x69 :: x70 :: x71 :: x72 :: x73 :: x74 :: x75 :: x76 :: x77 :: x78 :: x79 :: x80 :: x81 :: x82 :: x83 :: x84 :: x85 :: x86 :: x87 :: x88 :: x89 :: x90 :: x91 :: x92 :: x93 :: x94 :: x95 :: x96 :: x97 :: x98 :: x99 :: x100 :: x101 :: x102 :: u103 :: u104 :: u105 :: u106 :: u107 :: u108 :: u109 :: u110 :: u111 :: u112 :: u113 :: u114 :: u115 :: u116 :: u117 :: u118 :: u119 :: u120 :: u121 :: u122 :: u123 :: u124 :: u125 :: u126 :: u127 :: u128 :: u129 :: u130 :: u131 :: u132 :: u133 :: u134 :: u135 :: u136 :: u137 :: u138 :: u139 :: u140 :: u141 :: u142 :: u143 :: u144 :: u145 :: u146 :: u147 :: u148 :: u149 :: u150 :: u151 :: u152 :: u153 :: u154 :: u155 :: u156 :: u157 :: []), []⟩ wr)) :
    Code.wp Ybaf.prog (lpOf Ybaf.f3.body 0) Q ⟨List.toArray (u0 :: u1 :: (.string key) :: (.int .i64 dl) :: u4 :: u5 :: u6 :: u7 :: u8 :: (.pointer (some ⟨L, 0, none⟩)) :: u10 :: u11 :: u12 :: u13 :: u14 :: (.int .i64 kk) :: (.slice (some ⟨gw, 0, none⟩) 0 kk) :: (.int .i64 0) :: u18 :: u19 :: u20 :: u21 :: u22 :: u23 :: u24 :: u25 :: u26 :: u27 :: u28 :: u29 :: u30 :: u31 :: u32 :: u33 :: u34 :: u35 :: u36 :: u37 :: u38 :: u39 :: u40 :: u41 :: u42 :: u43 :: u44 :: u45 :: u46 :: u47 :: u48 :: u49 :: u50 :: u51 :: u52 :: u53 :: u54 :: u55 :: u56 :: u57 :: u58 :: u59 :: u60 :: u61 :: u62 :: u63 :: u64 :: u65 :: u66 :: u67 :: u68 :: u69 :: u70 :: u71 :: u72 :: u73 :: u74 :: u75 :: u76 :: u77 :: u78 :: u79 :: u80 :: u81 :: u82 :: u83 :: u84 :: u85 :: u86 :: u87 :: u88 :: u89 :: u90 :: u91 :: u92 :: u93 :: u94 :: u95 :: u96 :: u97 :: u98 :: u99 :: u100 :: u101 :: u102 :: u103 :: u104 :: u105 :: u106 :: u107 :: u108 :: u109 :: u110 :: u111 :: u112 :: u113 :: u114 :: u115 :: u116 :: u117 :: u118 :: u119 :: u120 :: u121 :: u122 :: u123 :: u124 :: u125 :: u126 :: u127 :: u128 :: u129 :: u130 :: u131 :: u132 :: u133 :: u134 :: u135 :: u136 :: u137 :: u138 :: u139 :: u140 :: u141 :: u142 :: u143 :: u144 :: u145 :: u146 :: u147 :: u148 :: u149 :: u150 :: u151 :: u152 :: u153 :: u154 :: u155 :: u156 :: u157 :: []), []⟩ w := by
  conv => arg 2; whnf
  obtain ⟨i0, hi, hz0, hz1, hz2⟩ := info_parts info41
  go_loopw [16, 17] (fun s16 s17 wr => ∃ (i : Nat) (q : Value) (ps : List Nat), i ≤ kk ∧ ps.length = i ∧ s17 = .int .i64 i ∧ s16 = .slice (some ⟨gw, 0, none⟩) i kk ∧ Tab wr B L M KB H0 K0 (i : Int) dl ((i : Int) + 1) key q ps ∧ WsAt wr B gw kk q ps ∧ Below B w0 wr) (fun _ s17 _ => kk - (intOf s17).toNat)
  case atStart => exact ⟨0, q, [], by omega, rfl, rfl, rfl, htab.out, hws.out, hb.out⟩
  case round =>
    obtain ⟨i, q, ps, hik, hlen, rfl, rfl, ht, hw, hbr⟩ := hrel
    have HT := hidI ht
    have HW := hidI hw
    have HB := hidI hbr
    clear ht hw hbr htab hws hb
    have HLEN := hidI hlen
    clear hlen
    by_cases hlt : i < kk
    · have hi1 : i + 1 ≤ kk := by omega
      have ecast : ((i + 1 : Nat) : Int) = (i : Int) + 1 := by omega
      have hmeas : Hid (kk - (intOf (Value.int IntKind.i64 ((i : Int) + 1))).toNat < kk - (intOf (Value.int IntKind.i64 (i : Int))).toNat) := by show _ < _; simp [intOf]; omega
      have hnum : Hid (Value.int IntKind.i64 ((i : Int) + 1) = .int .i64 ((i + 1 : Nat) : Int)) := by show _ = _; rw [ecast]
      have HEC := hidI ecast
      clear ecast
      have hBr : B ≤ wr.heap.size := by have := HB.out.size; omega
      have i0' : (0 : Int) ≤ (i : Int) + 1 := by omega
      have HN := hidI (newHolder_any wr L M 0 i dl ((i : Int) + 1) HT.out.lk i0' (by omega))
      have hsz2 : (((wr.setCell ⟨L, 6, none⟩ (.int .u64 ((i : Int) + 1 + 1))).alloc (.map #[] 0)).alloc (.cells #[.int .u64 ((i : Int) + 1 + 1), .map (some wr.heap.size), .pointer none] 56)).heap.size = wr.heap.size + 2 := by simp
      have HT2 := hidI (HT.out.holder ((i : Int) + 1 + 1))
      have HO2 : Hid (HoAt (((wr.setCell ⟨L, 6, none⟩ (.int .u64 ((i : Int) + 1 + 1))).alloc (.map #[] 0)).alloc (.cells #[.int .u64 ((i : Int) + 1 + 1), .map (some wr.heap.size), .pointer none] 56)) (wr.heap.size + 1) wr.heap.size ((i : Int) + 1 + 1) (.pointer none)) := by
        have := (MapKept.heap_alloc ((wr.setCell ⟨L, 6, none⟩ (.int .u64 ((i : Int) + 1 + 1))).alloc (.map #[] 0)) (.cells #[.int .u64 ((i : Int) + 1 + 1), .map (some wr.heap.size), .pointer none] 56)).1
        have e : ((wr.setCell ⟨L, 6, none⟩ (.int .u64 ((i : Int) + 1 + 1))).alloc (.map #[] 0)).heap.size = wr.heap.size + 1 := by simp
        rw [e] at this
        exact this
      have KM2 : Hid (MapIs Ybaf.prog 9 (((wr.setCell ⟨L, 6, none⟩ (.int .u64 ((i : Int) + 1 + 1))).alloc (.map #[] 0)).alloc (.cells #[.int .u64 ((i : Int) + 1 + 1), .map (some wr.heap.size), .pointer none] 56)) wr.heap.size 0 (fun _ => none)) := by
        have := MapIs.made Ybaf.prog 9 (wr.setCell ⟨L, 6, none⟩ (.int .u64 ((i : Int) + 1 + 1)))
        have e : (wr.setCell ⟨L, 6, none⟩ (.int .u64 ((i : Int) + 1 + 1))).heap.size = wr.heap.size := by simp
        rw [e] at this
        exact this.alloc _
      have O2 : Hid (Only [L] wr (((wr.setCell ⟨L, 6, none⟩ (.int .u64 ((i : Int) + 1 + 1))).alloc (.map #[] 0)).alloc (.cells #[.int .u64 ((i : Int) + 1 + 1), .map (some wr.heap.size), .pointer none] 56))) := (((Only.refl [L] wr).set (by simp) _).alloc _).alloc _
      obtain ⟨hBgw, cw, hcw⟩ := HW.out.obj
      have hgL : gw ≠ L := ne_of hcw HT.out.lk (fun e => by cases e)
      have HW2 := hidI (HW.out.keep (q' := q) (O2.out.block gw (lt_of hcw) (by simpa using hgL)) HW.out.2)
      have HB2 := hidI (HB.out.trans (O2.out.below (B := B) (fun k hk => by have := HT.out.base; simp at hk; omega) hBr))
      have hHlt : H0 < wr.heap.size := by obtain ⟨mk0, h⟩ := HT.out.ho; exact lt_of h
      have hKlt : K0 < wr.heap.size := by obtain ⟨f0, h, _⟩ := HT.out.hk; exact h.lt
      clear O2
      go_wp2_with fail
      refine HN.out.mono ?_
      rintro e w' ⟨rfl, rfl⟩
      clear HN HT HW HB hcw
      generalize World.alloc _ (Obj.cells _ 56) = w2 at HT2 HO2 KM2 HW2 HB2 hsz2 ⊢
      have HSZ := hidI hsz2
      have hB2 : B ≤ w2.heap.size := by omega
      clear hsz2
      obtain ⟨n, f, hm, hf⟩ := HT2.out.map
      obtain ⟨mk0, hh0⟩ := HT2.out.ho
      have HE := hidI (enq_busy w2 B L M KB H0 K0 (wr.heap.size + 1) wr.heap.size n ps.length 0 i dl ((i : Int) + 1 + 1) mk0 ((i : Int) + 1 + 1) key f q (ps.map pt) hk (by have := HLEN.out; omega) (by omega) (by omega) hB2 (by omega) HT2.out.lk hm hf HT2.out.kl hh0 HO2.out HT2.out.row)
      clear hm hf hh0
      go_wp2_with fail
      refine HE.out.mono ?_
      rintro e w3 ⟨rfl, q', ho3, l3, k3, h3, t3, c3, r3, hq3⟩
      have HT3 := hidI (HT2.out.push HO2.out KM2.out (by omega) (by omega) (by omega) (by omega) (by omega) hB2 ho3 l3 k3 h3 t3 c3 r3)
      obtain ⟨_, cw, hcw⟩ := HW2.out.obj
      have hgS : gw ∉ [L, KB, wr.heap.size + 1] ++ q.ownBlock.toList := by
        simp only [List.mem_append, List.mem_cons, List.not_mem_nil, or_false]
        rintro ((e | e | e) | e)
        · exact hgL e
        · exact ne_of hcw HT2.out.kl (fun e => by cases e) e
        · exact ne_of hcw HO2.out (fun e => by cases e) e
        · exact HW2.out.2 (Option.mem_toList.1 e)
      have HW3 := hidI (HW2.out.keep (q' := q') (ho3.block gw (lt_of hcw) hgS) (fun e => by
        rcases hq3 gw e with h | h
        · exact HW2.out.2 h
        · have := lt_of hcw; omega))
      have HB3 := hidI (HB2.out.trans (ho3.below (B := B) (fun k hk => by
        have := HT2.out.base
        simp only [List.mem_append, List.mem_cons, List.not_mem_nil, or_false] at hk
        rcases hk with (rfl | rfl | rfl) | hk
        · omega
        · omega
        · omega
        · exact (row_obj HT2.out.row (Option.mem_toList.1 hk)).1) hB2))
      generalize w2.heap.size + 1 = W at HT3 ⊢
      clear HE ho3 l3 k3 h3 t3 c3 r3 hq3 hcw hgS HT2 HO2 KM2 HW2 HB2 HSZ
      unfold pt
      go_upto_region 19 with fail
      have al : ∀ {j : Nat} {o : Obj}, w3.heap[j]? = some o → (w3.alloc (.cells #[.pointer (some ⟨W, 0, none⟩)] 41)).heap[j]? = some o := fun h => (Below.heap_alloc _ _ _ (lt_of h)).trans h
      have ROW : Hid ((w3.alloc (.cells #[.pointer (some ⟨W, 0, none⟩)] 41)).ownsRow B 41 1 (.slice (some ⟨gw, 0, none⟩) i kk) i (ps.map pt)) := by
        have := HW3.out.1
        rw [HLEN.out] at this
        exact row_keep this (fun g e => by cases e; obtain ⟨_, c, hc⟩ := HW3.out.obj; exact (al hc).trans hc.symm)
      have hnews : Hid (∀ j u, [Value.pointer (some ⟨W, 0, none⟩)][j]? = some u → (w3.alloc (.cells #[.pointer (some ⟨W, 0, none⟩)] 41)).cell? ((⟨w3.heap.size, 0, none⟩ : Addr).add j) = some u) :=
        fun j u hu => World.news_of_block (cs := #[.pointer (some ⟨W, 0, none⟩)]) (t := 41) (fr := (0, 0)) (MapKept.heap_alloc w3 _).1 j u (by simpa using hu)
      have hone : Hid (∀ u ∈ [Value.pointer (some ⟨W, 0, none⟩)], u.oneCell' = true) := by
        intro u hu
        simp only [List.mem_cons, List.not_mem_nil, or_false] at hu
        rcases hu with rfl; rfl
      have HNX : Hid (∀ w4 : World, w4.ownsRow B 41 1 (.slice (some ⟨gw, 0, none⟩) (i + 1) kk) (i + 1) (ps.map pt ++ [Value.pointer (some ⟨W, 0, none⟩)]) → (w3.alloc (.cells #[.pointer (some ⟨W, 0, none⟩)] 41)).grownBy w4 (some gw) →
          Tab w4 B L M KB H0 K0 ((i : Int) + 1) dl ((i : Int) + 1 + 1) key q' (ps ++ [W]) ∧ WsAt w4 B gw kk q' (ps ++ [W]) ∧ Below B w0 w4) := by
        intro w4 hown hgr
        have ho : Only [gw] w3 w4 := ((Only.refl [gw] w3).alloc _).grown hgr (fun b e => by cases e; left; simp)
        obtain ⟨hBg, c, hc⟩ := HW3.out.obj
        obtain ⟨mk0, hh⟩ := HT3.out.ho
        have far : ∀ {j : Nat} {o : Obj}, w3.heap[j]? = some o → j ≠ gw → w4.heap[j]? = some o := fun h hne => (ho.block _ (lt_of h) (by simpa using hne)).trans h
        refine ⟨HT3.out.step (S := [gw]) (fun s hs _ => ?_) ho (far HT3.out.lk (ne_of HT3.out.lk hc (fun e => by cases e))) (far HT3.out.kl (ne_of HT3.out.kl hc (fun e => by cases e))) (row_keep HT3.out.row (fun g hg => ?_)) HT3.out.nd (fun V hV => Or.inl hV), ⟨?_, HW3.out.2⟩, HB3.out.trans (ho.below (fun k hk => by simp at hk; omega) (by have := HB3.out.size; omega))⟩
        · obtain rfl : s = gw := by simpa using hs
          exact ⟨_, _, hc, ne_of hc hh (fun e => by cases e), Or.inr (Or.inr (Or.inl rfl))⟩
        · obtain ⟨_, c', hc'⟩ := row_obj HT3.out.row hg
          exact ho.block g (lt_of hc') (fun e => HW3.out.2 (by rw [hg]; simpa using e))
        · have e : (ps ++ [W]).length = i + 1 := by have := HLEN.out; simp; omega
          rw [e]
          simpa [pt] using hown
      clear al HT3 HW3 HB3
      go_wp2_with (first | (at_builtin; refine wpList_append_fits _ rfl _ _ 49 rfl B 41 i0 1 Ybaf.underlying49 hi hz1 gw i kk (ps.map pt) rfl ROW.out ⟨w3.heap.size, 0, none⟩ 1 1 [.pointer (some ⟨W, 0, none⟩)] rfl rfl hnews.out hone.out (by omega) ?_; intro w4 hown4 hgr4; obtain ⟨t4, s4, b4⟩ := HNX.out w4 hown4 hgr4; have HT4 := hidI t4; have HW4 := hidI s4; have HB4 := hidI b4; clear t4 s4 b4 hown4 hgr4) | fail)
      refine (status_at HT4.out.lk).mono ?_
      rintro e w5 ⟨rfl, hl5⟩
      have HT5 : Hid (Tab w5 B L M KB H0 K0 ((i + 1 : Nat) : Int) dl (((i + 1 : Nat) : Int) + 1) key q' (ps ++ [W])) := by
        have := HT4.out.like hl5
        rw [HEC.out]
        exact this
      have HL5 : Hid ((ps ++ [W]).length = i + 1) := by show _ = _; rw [List.length_append, HLEN.out]; rfl
      have HW5 := hidI (HW4.out.keep (q' := q') (by rw [hl5.heap]) HW4.out.2)
      have HB5 := hidI (HB4.out.trans (hl5.below B))
      clear hl5 HT4 HW4 HB4 HNX ROW hnews hone
      have hwr : IntKind.i64.wrap ((i : Int) + 1) = (i : Int) + 1 := by simp only [IntKind.wrap, IntKind.signed, IntKind.bits]; simp; omega
      have hwr2 : wrap64 ((i : Int) + 1) = (i : Int) + 1 := by simp only [wrap64]; omega
      go_wp2
      exact ⟨⟨i + 1, q', ps ++ [W], hi1, HL5.out, hnum.out, rfl, HT5.out, HW5.out, HB5.out⟩, hmeas.out⟩
    · obtain rfl : i = kk := by omega
      go_wp2
      exact hQ.out _ _ _ _ _ _ _ _ _ _ _ _ _ _ _ _ _ _ _ _ _ _ _ _ _ _ _ _ _ _ _ _ _ _ _ _ _ _ _ _ _ _ _ _ _ _ q ps HLEN.out ⟨HT.out, HW.out, HB.out⟩

end
end Go.Proofs.YbulkbyoFmt
