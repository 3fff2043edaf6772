/-
  The card of 'wire.LawS0145BExact': told and tied. Typed by the prover of this seat (an AI agent).
-/
import Derived.Test.YbulkbzcFmtFrame
import Derived.Test.YbulkbzcFmtExactAll
namespace Go.Proofs.YbulkbzcFmt
open Go.ChangeShapes Go.WideShapes Go.ChangeAt Go.RowKit Go.Kit
open Go.Extern.Stop Go.Stop Go.Extern

set_option maxRecDepth 100000 in
theorem exact_lifted (os : Os) (started : os.Started) (H : Type) (enc : TypeId × Value → H) :
    ReturnsInTold none {} Ybaf.checked os 3 .any Input.okWide ((OpenSpec.ofChange Rows.lawS0145BExactSpec).preRow enc Ybaf.prog Ybaf.f3 [] false laid2) (fun F => ((OpenSpec.ofChange Rows.lawS0145BExactSpec).at F).post enc Ybaf.prog Ybaf.f3 false true false false) (aloneAtReturn Ybaf.prog) nothingAlways := by
  refine returnsInTold_of_row (C := Ybaf.checked) (s := OpenSpec.ofChange Rows.lawS0145BExactSpec) (by kernel_rfl) own started (by kernel_rfl) Ybaf.func3
    (OpenSpec.witness_stopped_at (enc := enc) (C := Ybaf.checked) false (laidWorld os) #[.slice none 0 0, .int .u8 0, .int .u8 0, .int .u8 0, .int .u16 0, .int .u16 0, .int .u32 0, .int .u64 0, .int .u16 0, .int .u8 0, .int .u16 0, .int .u32 0] rfl (by kernel_rfl) (by kernel_rfl) (by kernel_rfl)
      (OpenSpec.preRow_of_B rfl 8 (by kernel_rfl) (by kernel_rfl) (laid_met os _))) ?_
  intro F W base args ds gs before _ hF hval0 hW _ _ _ hL _
  have hval : ∀ (j : Nat) t v, Ybaf.f3.params[j]? = some t → args[j]? = some v → Value.okWide Ybaf.prog W .any base t v := hval0
  have hW' := hW
  obtain ⟨p, q, hA0, hV0, rfl, hfz, hnd⟩ := hW
  have hA : DataW.TrodAll enc Ybaf.prog W 0 (fun _ => true) true Ybaf.f3.params.toList args.toList ds p := hA0
  have hV : DataW.TrodVars enc Ybaf.prog W (fun _ => true) [n0, n1] gs q := hV0
  have hAll := hA
  rw [Ybaf.params3] at hA hval
  obtain ⟨v0, vs0, d0, ds0, p0, q0, hargs, rfl, rfl, h0, r0⟩ := trodAll_cons hA
  obtain ⟨v1, vs1, d1, ds1, p1, q1, rfl, rfl, rfl, h1, r1⟩ := trodAll_cons r0
  obtain ⟨v2, vs2, d2, ds2, p2, q2, rfl, rfl, rfl, h2, r2⟩ := trodAll_cons r1
  obtain ⟨v3, vs3, d3, ds3, p3, q3, rfl, rfl, rfl, h3, r3⟩ := trodAll_cons r2
  obtain ⟨v4, vs4, d4, ds4, p4, q4, rfl, rfl, rfl, h4, r4⟩ := trodAll_cons r3
  obtain ⟨v5, vs5, d5, ds5, p5, q5, rfl, rfl, rfl, h5, r5⟩ := trodAll_cons r4
  obtain ⟨v6, vs6, d6, ds6, p6, q6, rfl, rfl, rfl, h6, r6⟩ := trodAll_cons r5
  obtain ⟨v7, vs7, d7, ds7, p7, q7, rfl, rfl, rfl, h7, r7⟩ := trodAll_cons r6
  obtain ⟨v8, vs8, d8, ds8, p8, q8, rfl, rfl, rfl, h8, r8⟩ := trodAll_cons r7
  obtain ⟨v9, vs9, d9, ds9, p9, q9, rfl, rfl, rfl, h9, r9⟩ := trodAll_cons r8
  obtain ⟨v10, vs10, d10, ds10, p10, q10, rfl, rfl, rfl, h10, r10⟩ := trodAll_cons r9
  obtain ⟨v11, vs11, d11, ds11, p11, q11, rfl, rfl, rfl, h11, r11⟩ := trodAll_cons r10
  obtain ⟨rfl, rfl, rfl⟩ := trodAll_nil r11
  obtain rfl : args = #[v0, v1, v2, v3, v4, v5, v6, v7, v8, v9, v10, v11] := by cases args; simp_all
  obtain ⟨a0, a1, s0, s1, hG, hv0, hv1⟩ := gl_of hL
  have vr : ∀ {X : World}, X.var? Ybaf.prog n0 = some #[.iface 73 (.pointer (some a0))] → X.var? Ybaf.prog n1 = some #[.iface 73 (.pointer (some a1))] → ∀ sp : Nat → Bool,
      DataW.TrodVars enc Ybaf.prog X sp [n0, n1] [tok enc (.iface 73 (.pointer (some a0))), tok enc (.iface 73 (.pointer (some a1)))] [.cell 0 0, .cell 1 0] :=
    fun x0 x1 sp => vars_read2 enc gl0 gt0 Ybaf.underlying32 x0 trivial gl1 gt1 Ybaf.underlying32 x1 trivial sp
  obtain ⟨rfl, rfl⟩ := hV.unique (vr hv0 hv1 _)
  obtain ⟨ab, nb, cb, rfl⟩ := okWide_slice Ybaf.underlying22 (hval 0 22 v0 rfl rfl)
  obtain ⟨zs, hb⟩ := seen_of h0
  obtain ⟨sel, rfl, rfl, rfl, w1⟩ := open_int Ybaf.underlying5 (hval 1 5 v1 rfl rfl) h1
  obtain ⟨op, rfl, rfl, rfl, w2⟩ := open_int Ybaf.underlying5 (hval 2 5 v2 rfl rfl) h2
  obtain ⟨dt, rfl, rfl, rfl, w3⟩ := open_int Ybaf.underlying5 (hval 3 5 v3 rfl rfl) h3
  obtain ⟨vb, rfl, rfl, rfl, w4⟩ := open_int Ybaf.underlying23 (hval 4 23 v4 rfl rfl) h4
  obtain ⟨st, rfl, rfl, rfl, w5⟩ := open_int Ybaf.underlying23 (hval 5 23 v5 rfl rfl) h5
  obtain ⟨opq, rfl, rfl, rfl, w6⟩ := open_int Ybaf.underlying24 (hval 6 24 v6 rfl rfl) h6
  obtain ⟨cas, rfl, rfl, rfl, w7⟩ := open_int Ybaf.underlying25 (hval 7 25 v7 rfl rfl) h7
  obtain ⟨id, rfl, rfl, rfl, w8⟩ := open_int Ybaf.underlying23 (hval 8 23 v8 rfl rfl) h8
  obtain ⟨ex, rfl, rfl, rfl, w9⟩ := open_int Ybaf.underlying5 (hval 9 5 v9 rfl rfl) h9
  obtain ⟨key, rfl, rfl, rfl, w10⟩ := open_int Ybaf.underlying23 (hval 10 23 v10 rfl rfl) h10
  obtain ⟨val, rfl, rfl, rfl, w11⟩ := open_int Ybaf.underlying24 (hval 11 24 v11 rfl rfl) h11
  clear hA0 hV0 hval0
  refine (exact_any F.told _ sel op dt vb st opq cas id ex key val W hF hG (Nat.le_refl _) hb (bounds_u8 w1).1 (bounds_u16 w4) (bounds_u16 w5) (bounds_u32 w6) (bounds_u64 w7) (bounds_u16 w8) (bounds_u8 w9) (bounds_u16 w10) (bounds_u32 w11)).mono fun e W' ⟨he, bel⟩ => ?_
  subst he
  have l1 := hG.lt
  exact ⟨_, rfl, _, _, _, [], _, [.cell 0 0, .cell 1 0], hW', trodAll_mk1 (shut_bool Ybaf.underlying4 _), LawOpen.all_below laidOut bel _ _ _ _ (by kernel_rfl) hAll, vr (var?_below bel gl0 (by omega) hv0) (var?_below bel gl1 (by omega) hv1) _, bel.frame _, fun h => by cases h⟩

theorem lawS0145BExact_proved : Rows.LawS0145BExactToldSaid :=
  Claim7.holds_of_told_tied_any_at .later 3 Ybaf.f3 "fmt.errorf" [] [] _ _ _ [.sentinel, .sentinel] true (by kernel_rfl) rfl rfl rfl laidOutP (by kernel_rfl) rfl ⟨rfl, rfl, rfl, rfl, rfl, rfl, rfl⟩ rfl rfl (by kernel_rfl) (by kernel_rfl) Ybaf.func3 (by kernel_rfl)
    (of_decide_eq_true (by kernel_rfl)) (by unfold Func.isWrapper; rw [if_neg (of_decide_eq_false (by kernel_rfl))]; exact ⟨rfl, rfl⟩) stops.symm rfl stopKnobs.symm (by kernel_rfl)
    (by kernel_rfl) (by kernel_rfl) (by kernel_rfl) (by kernel_rfl) (by kernel_rfl) (by kernel_rfl) (by kernel_rfl) (by kernel_rfl) (by kernel_rfl) rfl (by kernel_rfl) rfl rfl
    rfl rfl
    rfl (by kernel_rfl) (by kernel_rfl) (by kernel_rfl) (by decide) (by kernel_rfl) lawS0145BExact_row_tie
    (OpenClaim.moreEntering_of (by kernel_rfl) (by kernel_rfl) (by kernel_rfl) (by kernel_rfl) (by kernel_rfl) (by kernel_rfl) (by kernel_rfl) (by kernel_rfl) (by kernel_rfl) (by kernel_rfl))
    ⟨_, WideRow.started_initial, quiet _⟩
    (fun os started _ H enc _ => exact_lifted os started H enc)

#print axioms lawS0145BExact_proved
end Go.Proofs.YbulkbzcFmt
