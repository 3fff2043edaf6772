/-
  The card of 'store.LawS0141BExists': told. Typed by the prover of this seat (an AI agent).
-/
import Derived.Test.YbulkbwyFmtCards
import Derived.Test.YbulkbwyFmtWalkC
import Derived.Test.YbulkbwyFmtOpen
import Derived.ProofKit
import Derived.OpenShut
import Derived.ShutString
import Derived.Lib.SmallJoins
import Derived.Stop.JoinedAt
import Derived.Stop.JoinedTold
import Derived.SevenToldRow
namespace Go.Proofs.YbulkbwyFmt
open Go.ChangeShapes Go.WideShapes Go.ChangeAt Go.RowKit
open Go.ChangeMaps (open_string shut_string)
open Go.Extern.Stop Go.Stop Go.Extern

theorem own : ownKnob Ybaf.prog.godebug = none := by kernel_rfl
theorem cells29 : Ybaf.prog.cellsOf 29 = 4 := by kernel_rfl
theorem cells5 : Ybaf.prog.cellsOf 5 = 1 := by kernel_rfl
theorem cells4 : Ybaf.prog.cellsOf 4 = 1 := by kernel_rfl

theorem four {α : Type} : ∀ l : List α, l.length = 4 → ∃ a b c d, l = [a, b, c, d]
  | [a, b, c, d], _ => ⟨a, b, c, d, rfl⟩

theorem strs_of {H : Type} {enc : TypeId × Value → H} {w : World} {a : Option Addr} {len cap : Nat} {d : DataW H} {ps : List MemPlace}
    (h : DataW.Trod enc Ybaf.prog w 0 (fun _ => true) true 22 (.slice a len cap) d ps) : ∃ s, IsStrs w a len s := by
  obtain ⟨_, _, h⟩ := LawOpen.slice_cells Ybaf.underlying22 cells9 (by omega) h
  classical
  refine ⟨fun i => if hi : i < len then Classical.choose (show ∃ s : ByteArray, s.size ≤ maxLen ∧ ∃ b off, a = some ⟨b, off, none⟩ ∧ b < w.heap.size ∧ w.cell? ⟨b, off + i, none⟩ = some (.string s) from ?_) else ByteArray.empty, ?_⟩
  · obtain ⟨b, off, n, cs, y, ha, hb, hl, hc, ht⟩ := h i hi
    obtain ⟨s, rfl, _, hs⟩ := DataW.trod_string Ybaf.underlying9 ht
    exact ⟨s, hs, b, off, ha, hb, by simpa using hc 0 (by omega)⟩
  · intro i hi
    have := Classical.choose_spec (show ∃ s : ByteArray, s.size ≤ maxLen ∧ ∃ b off, a = some ⟨b, off, none⟩ ∧ b < w.heap.size ∧ w.cell? ⟨b, off + i, none⟩ = some (.string s) from by
      obtain ⟨b, off, n, cs, y, ha, hb, hl, hc, ht⟩ := h i hi
      obtain ⟨s, rfl, _, hs⟩ := DataW.trod_string Ybaf.underlying9 ht
      exact ⟨s, hs, b, off, ha, hb, by simpa using hc 0 (by omega)⟩)
    simp only [hi, dif_pos]
    exact this

theorem stage_of {H : Type} {enc : TypeId × Value → H} {w : World} {a : Option Addr} {len cap : Nat} {d : DataW H} {ps : List MemPlace}
    (h : DataW.Trod enc Ybaf.prog w 0 (fun _ => true) true 23 (.slice a len cap) d ps) : ∃ kd sd sm hd, IsStage w a len kd sd sm hd := by
  obtain ⟨_, _, h⟩ := LawOpen.slice_cells Ybaf.underlying23 cells29 (by omega) h
  have key : ∀ i, ∃ q : Int × ByteArray × Bool × Bool, i < len → 0 ≤ q.1 ∧ q.1 ≤ 255 ∧ q.2.1.size ≤ maxLen ∧ ∃ b off, a = some ⟨b, off, none⟩ ∧ b < w.heap.size ∧ w.cell? ⟨b, off + i * 4, none⟩ = some (.int .u8 q.1) ∧
      w.cell? ⟨b, off + i * 4 + 1, none⟩ = some (.string q.2.1) ∧ w.cell? ⟨b, off + i * 4 + 2, none⟩ = some (.bool q.2.2.1) ∧ w.cell? ⟨b, off + i * 4 + 3, none⟩ = some (.bool q.2.2.2) := by
    intro i
    by_cases hi : i < len
    · obtain ⟨b, off, n, cs, y, ha, hb, hl, hc, ht⟩ := h i hi
      obtain ⟨y0, y1, y2, y3, n', _, _, t0, t1, t2, t3⟩ := Joins.trod_struct4 Ybaf.underlying29 ht
      obtain ⟨c0, c1, c2, c3, rfl⟩ := four cs hl
      · simp only [cells5, cells9, cells4, List.drop_zero, List.take_succ_cons, List.take_zero, List.drop_succ_cons] at t0 t1 t2 t3
        obtain ⟨k, e0, _, wk⟩ := DataW.trod_int Ybaf.underlying5 t0
        obtain ⟨s, e1, _, hs⟩ := DataW.trod_string Ybaf.underlying9 t1
        obtain ⟨m, e2, _⟩ := DataW.trod_bool Ybaf.underlying4 t2
        obtain ⟨g, e3, _⟩ := DataW.trod_bool Ybaf.underlying4 t3
        simp only [List.cons.injEq, and_true] at e0 e1 e2 e3
        subst e0 e1 e2 e3
        have hk := bounds_u8 wk
        exact ⟨(k, s, m, g), fun _ => ⟨hk.1, hk.2, hs, b, off, ha, hb, by simpa using hc 0 (by omega), by simpa using hc 1 (by omega), by simpa using hc 2 (by omega), by simpa using hc 3 (by omega)⟩⟩
    · exact ⟨(0, ByteArray.empty, false, false), fun h' => absurd h' hi⟩
  exact ⟨fun i => (Classical.choose (key i)).1, fun i => (Classical.choose (key i)).2.1, fun i => (Classical.choose (key i)).2.2.1, fun i => (Classical.choose (key i)).2.2.2, fun i hi => Classical.choose_spec (key i) hi⟩

theorem walk (F : Interp) (id nm : ByteArray) (cr : Int) (a3 a5 : Option Addr) (l3 c3 l5 c5 : Nat) (inn : Bool) (s3 : Nat → ByteArray) (kd : Nat → Int) (sd : Nat → ByteArray) (sm hd : Nat → Bool) (w : World) (hF : F.answers w.tape)
    (hid : id.size ≤ maxLen) (i3 : IsStrs w a3 l3 s3) (i5 : IsStage w a5 l5 kd sd sm hd) :
    Calls Ybaf.prog 3 #[.string id, .string nm, .int .i64 cr, .slice a3 l3 c3, .bool inn, .slice a5 l5 c5] w fun e w' => e = .returned (.bool true) ∧ Below w.heap.size w w' := by
  by_cases h : 1024 < l3 ∨ 1024 < l5
  · exact exists_long id nm cr a3 a5 l3 c3 l5 c5 inn w h
  · exact exists_main F id nm cr a3 a5 l3 c3 l5 c5 inn s3 kd sd sm hd w hF hid (by omega) (by omega) i3 i5

set_option maxRecDepth 100000 in
theorem lifted (os : Os) (started : os.Started) (H : Type) (enc : TypeId × Value → H) :
    ReturnsInTold none {} Ybaf.checked os 3 .any Input.okWide ((OpenSpec.ofChange Rows.lawS0141BExistsSpec).preRow enc Ybaf.prog Ybaf.f3 [] false []) (fun F => ((OpenSpec.ofChange Rows.lawS0141BExistsSpec).at F).post enc Ybaf.prog Ybaf.f3 false true false false) (aloneAtReturn Ybaf.prog) nothingAlways := by
  refine returnsInTold_of_row (C := Ybaf.checked) (s := OpenSpec.ofChange Rows.lawS0141BExistsSpec) (by kernel_rfl) own started (by kernel_rfl) Ybaf.func3
    (OpenSpec.witness_stopped (enc := enc) (C := Ybaf.checked) false ⟨#[], #[.string ⟨#[]⟩, .string ⟨#[]⟩, .int .i64 0, .slice none 0 0, .bool false, .slice none 0 0], []⟩ 8 (by kernel_rfl) (by kernel_rfl) (by kernel_rfl) (by kernel_rfl)) ?_
  intro F W base args ds gs before _ hF hval0 hW _ _ _ _ _
  have hval : ∀ (j : Nat) t v, Ybaf.f3.params[j]? = some t → args[j]? = some v → Value.okWide Ybaf.prog W .any base t v := hval0
  have hW' := hW
  obtain ⟨p, q, hA0, hV, rfl, hfz, hnd⟩ := hW
  have hA : DataW.TrodAll enc Ybaf.prog W 0 (fun _ => true) true Ybaf.f3.params.toList args.toList ds p := hA0
  have hAll := hA
  rw [Ybaf.params3] at hA hval
  obtain ⟨v0, vs0, d0, ds0, p0, q0, hargs, rfl, rfl, h0, r0⟩ := trodAll_cons hA
  obtain ⟨v1, vs1, d1, ds1, p1, q1, rfl, rfl, rfl, h1, r1⟩ := trodAll_cons r0
  obtain ⟨v2, vs2, d2, ds2, p2, q2, rfl, rfl, rfl, h2, r2⟩ := trodAll_cons r1
  obtain ⟨v3, vs3, d3, ds3, p3, q3, rfl, rfl, rfl, h3, r3⟩ := trodAll_cons r2
  obtain ⟨v4, vs4, d4, ds4, p4, q4, rfl, rfl, rfl, h4, r4⟩ := trodAll_cons r3
  obtain ⟨v5, vs5, d5, ds5, p5, q5, rfl, rfl, rfl, h5, r5⟩ := trodAll_cons r4
  obtain ⟨rfl, rfl, rfl⟩ := trodAll_nil r5
  obtain rfl : args = #[v0, v1, v2, v3, v4, v5] := by cases args; simp_all
  obtain ⟨rfl, rfl⟩ := trodVars_none hV
  obtain ⟨id, rfl, rfl, rfl, hid⟩ := open_string Ybaf.underlying9 (hval 0 9 v0 rfl rfl) h0
  obtain ⟨nm, rfl, rfl, rfl, hnm⟩ := open_string Ybaf.underlying9 (hval 1 9 v1 rfl rfl) h1
  obtain ⟨cr, rfl, rfl, rfl, wcr⟩ := open_int Ybaf.underlying2 (hval 2 2 v2 rfl rfl) h2
  obtain ⟨a3, l3, c3, rfl⟩ := okWide_slice Ybaf.underlying22 (hval 3 22 v3 rfl rfl)
  obtain ⟨s3, i3⟩ := strs_of h3
  obtain ⟨inn, rfl, rfl, rfl⟩ := open_bool Ybaf.underlying4 (hval 4 4 v4 rfl rfl) h4
  obtain ⟨a5, l5, c5, rfl⟩ := okWide_slice Ybaf.underlying23 (hval 5 23 v5 rfl rfl)
  obtain ⟨kd, sd, sm, hd, i5⟩ := stage_of h5
  clear hA0 hval0
  refine (walk F.told id nm cr a3 a5 l3 c3 l5 c5 inn s3 kd sd sm hd W hF hid i3 i5).mono fun e W' ⟨he, bel⟩ => ?_
  subst he
  exact ⟨_, rfl, _, _, _, [], _, [], hW', trodAll_mk1 (shut_bool Ybaf.underlying4 _), LawOpen.all_below laidOut bel _ _ _ _ (by kernel_rfl) hAll, rfl, bel.frame _, fun h => by cases h⟩

theorem stops : Ybaf.pinned.checked.prog.stops = ["fmt.errorf"] := by kernel_rfl
theorem stopKnobs : Ybaf.pinned.checked.prog.stopKnobs = [] := by kernel_rfl
theorem quiet (os : Os) : Stop.quiet Ybaf.pinned.checked.prog os := by
  intro k hk
  rw [stopKnobs] at hk
  cases hk
theorem laidOutP : laidOutB Ybaf.pinned.checked.prog = true := by kernel_rfl

theorem lawS0141BExists_proved : Rows.LawS0141BExistsToldSaid :=
  Claim7.holds_of_told_any 3 Ybaf.f3 "fmt.errorf" [] [] _ _ _ (by kernel_rfl) rfl rfl rfl laidOutP (by kernel_rfl) rfl ⟨rfl, rfl, rfl, rfl, rfl, rfl, rfl⟩ rfl rfl (by kernel_rfl) (by kernel_rfl) Ybaf.func3 (by kernel_rfl)
    (of_decide_eq_true (by kernel_rfl)) (by unfold Func.isWrapper; rw [if_neg (of_decide_eq_false (by kernel_rfl))]; exact ⟨rfl, rfl⟩) stops.symm rfl stopKnobs.symm (by kernel_rfl)
    (by kernel_rfl) (by kernel_rfl) (by kernel_rfl) (by kernel_rfl) (by kernel_rfl) (by kernel_rfl) (by kernel_rfl) (by kernel_rfl) (by kernel_rfl) rfl (by kernel_rfl) rfl rfl
    rfl rfl
    rfl (by kernel_rfl) (by kernel_rfl) (by kernel_rfl) (by decide) (by kernel_rfl)
    (OpenClaim.moreEntering_of (by kernel_rfl) (by kernel_rfl) (by kernel_rfl) (by kernel_rfl) (by kernel_rfl) (by kernel_rfl) (by kernel_rfl) (by kernel_rfl) (by kernel_rfl) (by kernel_rfl))
    ⟨_, WideRow.started_initial, quiet _⟩
    (fun os started _ H enc _ => lifted os started H enc)

#print axioms lawS0141BExists_proved
end Go.Proofs.YbulkbwyFmt
