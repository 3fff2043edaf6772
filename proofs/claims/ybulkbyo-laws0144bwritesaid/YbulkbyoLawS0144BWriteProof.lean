/-
  The row of 'transact.LawS0144BWrite'. Typed by the prover of this seat (an AI agent).
-/
import Derived.Test.YbulkbyoRows
import Derived.Test.YbulkbyoMain
import Derived.Test.YbulkbyoData
import Derived.ShutString
namespace Go.Proofs.Ybulkbyo
open Go.ChangeShapes Go.WideShapes Go.ChangeAt Go.RowKit
open Go.ChangeMaps (open_string shut_string)

theorem ownR : ownKnob Yba.prog.godebug = none := by kernel_rfl
theorem laidOutR : laidOutB Yba.prog = true := by kernel_rfl

theorem law_any (lvl sn : Int) (a2 a3 a4 a5 a7 : Option Addr) (l2 c2 l3 c3 l4 c4 l5 c5 l7 c7 : Nat) (nsv key : Int) (val : ByteArray) (del : Bool) (w0 : World)
    (rk rr f t rev sk sa pk : Nat → Int) (pv : Nat → ByteArray) (pd : Nat → Bool) (zk : Nat → Int)
    (hv : 0 ≤ lvl ∧ lvl ≤ 255) (hn : 0 ≤ nsv ∧ nsv ≤ 255) (hk : 0 ≤ key ∧ key ≤ 255)
    (H2 : IsReads w0 a2 l2 rk rr) (H3 : IsRanges w0 a3 l3 f t rev) (H4 : IsScans w0 a4 l4 sk sa) (H5 : IsPrior w0 a5 l5 pk pv pd) (H7 : IsBytes w0 a7 l7 zk) :
    Calls Yba.prog 3 #[.int .u8 lvl, .int .i64 sn, .slice a2 l2 c2, .slice a3 l3 c3, .slice a4 l4 c4, .slice a5 l5 c5, .int .u8 nsv, .slice a7 l7 c7, .int .u8 key, .string val, .bool del] w0 fun e w' => e = .returned (.bool true) ∧ Below w0.heap.size w0 w' := by
  by_cases h : 1024 < l2 ∨ 1024 < l3 ∨ 1024 < l4 ∨ 1024 < l5 ∨ 1024 < l7 ∨ 1024 < val.size
  · exact law_long lvl sn a2 a3 a4 a5 a7 l2 c2 l3 c3 l4 c4 l5 c5 l7 c7 nsv key val del w0 h
  · exact law_short lvl sn a2 a3 a4 a5 a7 l2 c2 l3 c3 l4 c4 l5 c5 l7 c7 nsv key val del w0 rk rr f t rev sk sa pk pv pd zk hv.1 hv.2 hn.1 hn.2 hk.1 hk.2 (by omega) (by omega) (by omega) (by omega) (by omega) (by omega) H2 H3 H4 H5 H7

set_option maxRecDepth 100000 in
theorem lifted3 (os : Os) (started : os.Started) (H : Type) (enc : TypeId × Value → H) :
    ReturnsInHanded {} Yba.checked os 3 .any (Rows.lawS0144BWriteSpec.pre6 enc Yba.prog Yba.f3 Rows.lawS0144BWriteRow.domain false) (Rows.lawS0144BWriteSpec.post enc Yba.prog Yba.f3 false true false false) := by
  refine returnsInHanded_of_change (C := Yba.checked) ownR started (by kernel_rfl) Yba.func3
    (ChangeSpec.witness6 (enc := enc) (C := Yba.checked) false ⟨#[], #[.int .u8 0, .int .i64 0, .slice none 0 0, .slice none 0 0, .slice none 0 0, .slice none 0 0, .int .u8 0, .slice none 0 0, .int .u8 0, .string ⟨#[]⟩, .bool false], []⟩ 8 (by kernel_rfl) (by kernel_rfl) (by kernel_rfl) (by kernel_rfl)) ?_
  intro W base args ds gs before hval0 hW _ _
  have hval : ∀ (j : Nat) t v, Yba.f3.params[j]? = some t → args[j]? = some v → Value.okWide Yba.prog W .any base t v := hval0
  have hW' := hW
  obtain ⟨p, q, hA0, hV, rfl, hfz, hnd⟩ := hW
  have hA : DataW.TrodAll enc Yba.prog W 0 (fun _ => true) true Yba.f3.params.toList args.toList ds p := hA0
  have hAll := hA
  rw [Yba.params3] at hA hval
  obtain ⟨v0, vs0, d0, ds0, p0, q0, hargs, rfl, rfl, h0, r0⟩ := trodAll_cons hA
  obtain ⟨v1, vs1, d1, ds1, p1, q1, rfl, rfl, rfl, h1, r1⟩ := trodAll_cons r0
  obtain ⟨v2, vs2, d2, ds2, p2, q2, rfl, rfl, rfl, h2, r2⟩ := trodAll_cons r1
  obtain ⟨v3, vs3, d3, ds3, p3, q3, rfl, rfl, rfl, h3, r3⟩ := trodAll_cons r2
  obtain ⟨v4, vs4, d4, ds4, p4, q4, rfl, rfl, rfl, h4, r4⟩ := trodAll_cons r3
  obtain ⟨v5, vs5, d5, ds5, p5, q5, rfl, rfl, rfl, h5, r5⟩ := trodAll_cons r4
  obtain ⟨v6, vs6, d6, ds6, p6, q6, rfl, rfl, rfl, h6, r6⟩ := trodAll_cons r5
  obtain ⟨v7, vs7, d7, ds7, p7, q7, rfl, rfl, rfl, h7, r7⟩ := trodAll_cons r6
  obtain ⟨v8, vs8, d8, ds8, p8, q8, rfl, rfl, rfl, h8, r8⟩ := trodAll_cons r7
  obtain ⟨v9, vs9, d9, ds9, p9, q9, rfl, rfl, rfl, h9, r9⟩ := trodAll_cons r8
  obtain ⟨v10, vs10, d10, ds10, p10, q10, rfl, rfl, rfl, h10, r10⟩ := trodAll_cons r9
  obtain ⟨rfl, rfl, rfl⟩ := trodAll_nil r10
  obtain rfl : args = #[v0, v1, v2, v3, v4, v5, v6, v7, v8, v9, v10] := by cases args; simp_all
  obtain ⟨rfl, rfl⟩ := trodVars_none hV
  obtain ⟨lvl, rfl, rfl, rfl, wl⟩ := open_int Yba.underlying5 (hval 0 5 v0 rfl rfl) h0
  obtain ⟨sn, rfl, rfl, rfl, wsn⟩ := open_int Yba.underlying2 (hval 1 2 v1 rfl rfl) h1
  obtain ⟨a2, l2, c2, rfl⟩ := okWide_slice Yba.underlying22 (hval 2 22 v2 rfl rfl)
  obtain ⟨a3, l3, c3, rfl⟩ := okWide_slice Yba.underlying23 (hval 3 23 v3 rfl rfl)
  obtain ⟨a4, l4, c4, rfl⟩ := okWide_slice Yba.underlying24 (hval 4 24 v4 rfl rfl)
  obtain ⟨a5, l5, c5, rfl⟩ := okWide_slice Yba.underlying25 (hval 5 25 v5 rfl rfl)
  obtain ⟨nsv, rfl, rfl, rfl, wn⟩ := open_int Yba.underlying5 (hval 6 5 v6 rfl rfl) h6
  obtain ⟨a7, l7, c7, rfl⟩ := okWide_slice Yba.underlying26 (hval 7 26 v7 rfl rfl)
  obtain ⟨key, rfl, rfl, rfl, wk⟩ := open_int Yba.underlying5 (hval 8 5 v8 rfl rfl) h8
  obtain ⟨val, rfl, rfl, rfl, hz⟩ := open_string Yba.underlying9 (hval 9 9 v9 rfl rfl) h9
  obtain ⟨del, rfl, rfl, rfl⟩ := open_bool Yba.underlying4 (hval 10 4 v10 rfl rfl) h10
  obtain ⟨rk, rr, i2⟩ := reads_of h2
  obtain ⟨f, t, rev, i3⟩ := ranges_of h3
  obtain ⟨sk, sa, i4⟩ := scans_of h4
  obtain ⟨pk, pv, pd, i5⟩ := prior_of h5
  obtain ⟨zk, i7⟩ := bytes_of h7
  clear hA0 hval0
  refine (law_any lvl sn a2 a3 a4 a5 a7 l2 c2 l3 c3 l4 c4 l5 c5 l7 c7 nsv key val del W rk rr f t rev sk sa pk pv pd zk (bounds_u8 wl) (bounds_u8 wn) (bounds_u8 wk) i2 i3 i4 i5 i7).mono fun e W' ⟨he, bel⟩ => ?_
  subst he
  exact ⟨_, rfl, _, _, _, [], _, [], hW', trodAll_mk1 (shut_bool Yba.underlying4 _), LawOpen.all_below laidOutR bel _ _ _ _ (by kernel_rfl) hAll, rfl, bel.frame _, fun h => by cases h⟩

theorem lawS0144BWrite_proved : Rows.LawS0144BWriteSaid :=
  OpenClaim.holds_of_wide 3 Yba.f3 rfl rfl rfl rfl rfl rfl rfl ⟨rfl, rfl, rfl, rfl, rfl⟩ rfl rfl rfl rfl rfl (by kernel_rfl) Yba.func3 (by kernel_rfl)
    (of_decide_eq_true (by kernel_rfl)) (by unfold Func.isWrapper; first | (rw [if_pos (by decide +kernel)]; kernel_rfl) | (rw [if_neg (by decide +kernel)]; exact ⟨rfl, rfl⟩))
    (fun os started H enc _ => lifted3 os started H enc)
#print axioms lawS0144BWrite_proved
end Go.Proofs.Ybulkbyo
