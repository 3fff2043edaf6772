/-
  The second loop of the law: waits are cancelled. Typed by the prover of this seat (an AI agent); the frames' slots by a script of his.
-/
import Derived.Test.YbulkbyoFmtLaw1
namespace Go.Proofs.YbulkbyoFmt
open Go.RowKit Go.MuLone Go.MapFn
set_option maxRecDepth 1000000
section
variable {u0 u1 u2 u3 u4 u5 u6 u7 u8 u9 u10 u11 u12 u13 u14 u15 u16 u17 u18 u19 u20 u21 u22 u23 u24 u25 u26 u27 u28 u29 u30 u31 u32 u33 u34 u35 u36 u37 u38 u39 u40 u41 u42 u43 u44 u45 u46 u47 u48 u49 u50 u51 u52 u53 u54 u55 u56 u57 u58 u59 u60 u61 u62 u63 u64 u65 u66 u67 u68 u69 u70 u71 u72 u73 u74 u75 u76 u77 u78 u79 u80 u81 u82 u83 u84 u85 u86 u87 u88 u89 u90 u91 u92 u93 u94 u95 u96 u97 u98 u99 u100 u101 u102 u103 u104 u105 u106 u107 u108 u109 u110 u111 u112 u113 u114 u115 u116 u117 u118 u119 u120 u121 u122 u123 u124 u125 u126 u127 u128 u129 u130 u131 u132 u133 u134 u135 u136 u137 u138 u139 u140 u141 u142 u143 u144 u145 u146 u147 u148 u149 u150 u151 u152 u153 u154 u155 u156 u157 : Value}
set_option maxHeartbeats 4000000 in
theorem wloop2 (w0 w : World) (B L M KB H0 K0 gw kk c : Nat) (dl mk : Int) (key : ByteArray) (q : Value) (ps : List Nat) (Q : Exit → Act → World → Prop) (hk : key.size ≤ maxLen) (hkk : (kk : Int) ≤ 7) (hps : ps.length = kk) (hck : (c : Int) ≤ kk) (hB0 : w0.heap.size = B)
    (htab : Hid (Tab w B L M KB H0 K0 (kk : Int) dl mk key q ps)) (hws : Hid (WsAt w B gw kk q ps)) (hb : Hid (Below B w0 w))
    (hQ : Hid (∀ (x8 x24 x108 x109 x110 x111 x112 x113 x114 x115 x116 x117 x118 x119 : Value) (wr : World) (q : Value), Tab wr B L M KB H0 K0 ((kk : Int) - c) dl mk key q (ps.drop c) ∧ Below B w0 wr → Q (.exit 2) ⟨List.toArray (u0 :: u1 :: u2 :: (.int .i64 dl) :: u4 :: u5 :: u6 :: u7 :: x8 :: (.pointer (some ⟨L, 0, none⟩)) :: u10 :: u11 :: u12 :: u13 :: u14 :: u15 :: (.slice (some ⟨gw, 0, none⟩) kk kk) :: u17 :: u18 :: u19 :: u20 :: u21 :: u22 :: (.int .i64 c) :: x24 :: u25 :: u26 :: u27 :: u28 :: u29 :: u30 :: u31 :: u32 :: u33 :: u34 :: u35 :: u36 :: u37 :: u38 :: u39 :: u40 :: u41 :: u42 :: u43 :: u44 :: u45 :: u46 :: u47 :: u48 :: u49 :: u50 :: u51 :: u52 :: u53 :: u54 :: u55 :: u56 :: u57 :: u58 :: u59 :: u60 :: u61 :: u62 :: u63 :: u64 :: u65 :: u66 :: u67 :: u68 :: u69 :: u70 :: u71 :: u72 :: u73 :: u74 :: u75 :: u76 :: u77 :: u78 :: u79 :: u80 :: u81 :: u82 :: u83 :: u84 :: u85 :: u86 :: u87 :: u88 :: u89 :: u90 :: u91 :: u92 :: u93 :: u94 :: u95 :: u96 :: u97 :: u98 :: u99 :: u100 :: u101 :: u102 :: u103 :: u104 :: u105 :: u106 :: u107 :: x108 :: x109 :: x110 :: x111 :: x112 :: x113 :: x114 :: x115 :: x116 :: x117 :: x118 :: x119 :: u120 :: u121 :: u122 :: u123 :: u124 :: u125 :: u126 :: u127 :: u128 :: u129 :: u130 :: u131 :: u132 :: u133 :: u134 :: u135 :: u136 :: u137 :: u138 :: u139 :: u140 :: u141 :: u142 :: u143 :: u144 :: u145 :: u146 :: u147 :: u148 :: u149 :: u150 :: u151 :: u152 :: u153 :: u154 :: u155 :: u156 :: u157 :: []), []⟩ wr)) :
    Code.wp Ybaf.prog (lpOf Ybaf.f3.body 1) Q ⟨List.toArray (u0 :: u1 :: u2 :: (.int .i64 dl) :: u4 :: u5 :: u6 :: u7 :: u8 :: (.pointer (some ⟨L, 0, none⟩)) :: u10 :: u11 :: u12 :: u13 :: u14 :: u15 :: (.slice (some ⟨gw, 0, none⟩) kk kk) :: u17 :: u18 :: u19 :: u20 :: u21 :: u22 :: (.int .i64 c) :: (.int .i64 0) :: u25 :: u26 :: u27 :: u28 :: u29 :: u30 :: u31 :: u32 :: u33 :: u34 :: u35 :: u36 :: u37 :: u38 :: u39 :: u40 :: u41 :: u42 :: u43 :: u44 :: u45 :: u46 :: u47 :: u48 :: u49 :: u50 :: u51 :: u52 :: u53 :: u54 :: u55 :: u56 :: u57 :: u58 :: u59 :: u60 :: u61 :: u62 :: u63 :: u64 :: u65 :: u66 :: u67 :: u68 :: u69 :: u70 :: u71 :: u72 :: u73 :: u74 :: u75 :: u76 :: u77 :: u78 :: u79 :: u80 :: u81 :: u82 :: u83 :: u84 :: u85 :: u86 :: u87 :: u88 :: u89 :: u90 :: u91 :: u92 :: u93 :: u94 :: u95 :: u96 :: u97 :: u98 :: u99 :: u100 :: u101 :: u102 :: u103 :: u104 :: u105 :: u106 :: u107 :: u108 :: u109 :: u110 :: u111 :: u112 :: u113 :: u114 :: u115 :: u116 :: u117 :: u118 :: u119 :: u120 :: u121 :: u122 :: u123 :: u124 :: u125 :: u126 :: u127 :: u128 :: u129 :: u130 :: u131 :: u132 :: u133 :: u134 :: u135 :: u136 :: u137 :: u138 :: u139 :: u140 :: u141 :: u142 :: u143 :: u144 :: u145 :: u146 :: u147 :: u148 :: u149 :: u150 :: u151 :: u152 :: u153 :: u154 :: u155 :: u156 :: u157 :: []), []⟩ w := by
  conv => arg 2; whnf
  go_loopw [24] (fun s24 wr => ∃ (i : Nat) (q : Value), i ≤ c ∧ s24 = .int .i64 i ∧ Tab wr B L M KB H0 K0 ((kk : Int) - i) dl mk key q (ps.drop i) ∧ WsAt wr B gw kk q ps ∧ Below B w0 wr) (fun s24 _ => c - (intOf s24).toNat)
  case atStart => exact ⟨0, q, by omega, rfl, by simpa using htab.out, hws.out, hb.out⟩
  case round =>
    obtain ⟨i, q, hic, rfl, ht, hw, hbr⟩ := hrel
    have HT := hidI ht
    have HW := hidI hw
    have HB := hidI hbr
    clear ht hw hbr htab hws hb
    by_cases hlt : i < c
    · have hi1 : i + 1 ≤ c := by omega
      have ecast : ((i + 1 : Nat) : Int) = (i : Int) + 1 := by omega
      have hmeas : Hid (c - (intOf (Value.int IntKind.i64 ((i : Int) + 1))).toNat < c - (intOf (Value.int IntKind.i64 (i : Int))).toNat) := by show _ < _; simp [intOf]; omega
      have hnum : Hid (Value.int IntKind.i64 ((i : Int) + 1) = .int .i64 ((i + 1 : Nat) : Int)) := by show _ = _; rw [ecast]
      have hsub : (kk : Int) - ((i + 1 : Nat) : Int) = (kk : Int) - i - 1 := by omega
      have HSB := hidI hsub
      clear ecast hsub
      have hBr : B ≤ wr.heap.size := by have := HB.out.size; omega
      have hlp : i < ps.length := by omega
      obtain ⟨W, hWg⟩ : ∃ W, ps[i]? = some W := ⟨ps[i]'hlp, by simp⟩
      have hdrop : ps.drop i = W :: ps.drop (i + 1) := by
        rw [List.drop_eq_getElem_cons hlp]
        congr 1
        simpa [hlp] using hWg
      have HT' := HT.out
      rw [hdrop] at HT'
      obtain ⟨H, K, C, mh, nk, fk, t1, t2, t3, t4, t5, t6, t7, t8, t9, t10⟩ := HT'.wt W (List.mem_cons_self ..)
      obtain ⟨g, cap, cur, hq, hBg, hg, hcap, hcz, hcm, hcs, hcur, hwv, hnd⟩ := HT'.eldest
      obtain ⟨n, f, hm, hf⟩ := HT'.map
      have hrl : (ps.drop (i + 1)).length ≤ 1000 := by simp; omega
      have hkl := HT'.kl
      rw [hq] at hkl
      have hgw : gw ≠ g := fun e => HW.out.2 (by rw [hq, e]; rfl)
      have HC := hidI (cancel_any wr L M KB H0 W H K C g cap n ((kk : Int) - i) dl mk mh key f (ps.drop (i + 1)) cur hk hrl hcap (by omega) (by omega) HT'.lk hm hf hkl t1 t2 t3 hg hcz hcur hwv hnd)
      have g0 : wr.cell? ⟨gw, i, none⟩ = some (pt W) := by
        have := HW.out.1
        rcases this.2 with ⟨e, _⟩ | ⟨g', cap', cu, e, _, hg', _, _, _, h4⟩
        · cases e
        · cases e
          rw [cell_of hg']
          have h5 : (cu.toList.take (ps.length * 1))[i]? = (ps.map pt)[i]? := by rw [h4]
          rw [List.getElem?_take_of_lt (by omega), List.getElem?_map, hWg] at h5
          simpa using h5
      have HNX : Hid (∀ w2, Only [L, KB, H, g] wr w2 → LkAt w2 L M 0 ((kk : Int) - i - 1) dl mk → KlAt w2 KB H0 (.slice (some ⟨g, 0, none⟩) (ps.drop (i + 1)).length cap) → (∃ cur', w2.heap[g]? = some (.cells cur' 41) ∧ cur'.size = cur.size ∧ ∀ j, j < (ps.drop (i + 1)).length → cur'[j]? = ((ps.drop (i + 1))[j]?).map pt) →
          Tab w2 B L M KB H0 K0 ((kk : Int) - ((i + 1 : Nat) : Int)) dl mk key (.slice (some ⟨g, 0, none⟩) (ps.drop (i + 1)).length cap) (ps.drop (i + 1)) ∧ WsAt w2 B gw kk (.slice (some ⟨g, 0, none⟩) (ps.drop (i + 1)).length cap) ps ∧ Below B w0 w2) := by
        rintro w2 ho l2 k2 ⟨cur', g1, g2, g3⟩
        obtain ⟨hBw, cw, hcw⟩ := HW.out.obj
        refine ⟨by rw [HSB.out]; exact HT'.pop hq hg hBg hcap hcm hcs t3 t6 t1 ho l2 k2 g1 g2 g3, HW.out.keep (ho.block gw (lt_of hcw) ?_) (fun e => hgw (by injection e with e; exact e.symm)), HB.out.trans (ho.below (fun k hk => ?_) hBr)⟩
        · simp only [List.mem_cons, List.not_mem_nil, or_false]
          rintro (e | e | e | e)
          · exact ne_of hcw HT'.lk (fun e => by cases e) e
          · exact ne_of hcw HT'.kl (fun e => by cases e) e
          · exact ne_of hcw t3 (fun e => by cases e) e
          · exact hgw e
        · have := HT'.base
          simp only [List.mem_cons, List.not_mem_nil, or_false] at hk
          omega
      clear HT' t1 t2 t3 t4 hm hf hkl hg hcur hwv hnd hWg hdrop HT HW HB
      have hib : (i : Int) < kk := by omega
      unfold pt at g0 HC
      go_wp2_with fail
      refine HC.out.mono ?_
      rintro e w2 ⟨rfl, o2, l2, k2, h2, x2⟩
      obtain ⟨y1, y2, y3⟩ := HNX.out w2 o2 l2 k2 x2
      have HT2 := hidI y1
      have HW2 := hidI y2
      have HB2 := hidI y3
      clear o2 l2 k2 h2 x2 y1 y2 y3 HC HNX g0
      go_wp2
      exact ⟨⟨i + 1, _, hi1, hnum.out, HT2.out, HW2.out, HB2.out⟩, hmeas.out⟩
    · obtain rfl : i = c := by omega
      go_wp2
      exact hQ.out _ _ _ _ _ _ _ _ _ _ _ _ _ _ _ _ ⟨HT.out, HB.out⟩

end
end Go.Proofs.YbulkbyoFmt
