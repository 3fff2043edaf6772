/-
  The walk of 'LawS0142BSmallest'. Typed by the prover of this seat (an AI agent).
-/
import Derived.Test.YbulkbxmMatched
import Derived.Test.YbulkbxmPlain
import Derived.Deep.DeepCutAuto
namespace Go.Proofs.Ybulkbxm
open Go.RowKit Go.Sort Plain
set_option maxRecDepth 100000

theorem groups_at {w w1 : World} {a : Option Addr} {len : Nat} {ga : Nat → Option Addr} {gc : Nat → Nat} {g : Nat → List Int} (h : IsGroups w a len ga gc g) (hb : Below w.heap.size w w1) {i : Nat} (hi : i < len) :
    ∃ b off, a = some ⟨b, off, none⟩ ∧ ((g i = [] ∧ w1.cell? ⟨b, off + i, none⟩ = some (.slice (ga i) 0 (gc i))) ∨
      ∃ b' o', w1.cell? ⟨b, off + i, none⟩ = some (.slice (some ⟨b', o', none⟩) (g i).length (gc i)) ∧ ∀ j, j < (g i).length → w1.cell? ⟨b', o' + j, none⟩ = some (.int .i64 ((g i).getD j 0))) := by
  obtain ⟨⟨b, off, ha, hbl, hc⟩, hgn, hgc⟩ := h i hi
  refine ⟨b, off, ha, ?_⟩
  rw [hb.cell (p := ⟨b, off + i, none⟩) hbl, hc]
  by_cases he : g i = []
  · exact Or.inl ⟨he, by rw [he]; rfl⟩
  · refine Or.inr ?_
    have hpos : 0 < (g i).length := List.length_pos_iff.2 he
    obtain ⟨b', o', e, _, _⟩ := hgc 0 hpos
    refine ⟨b', o', by rw [e], fun j hj => ?_⟩
    obtain ⟨b2, o2, e2, hb2, hc2⟩ := hgc j hj
    rw [e] at e2
    cases e2
    rw [hb.cell (p := ⟨b', o' + j, none⟩) hb2]
    exact hc2

theorem take_snoc (l : List Int) (j : Nat) (h : j < l.length) : l.take (j + 1) = l.take j ++ [l.getD j 0] := by
  rw [List.take_succ_eq_append_getElem h]
  simp [List.getD, h]

theorem smallest_long (a : Option Addr) (l c : Nat) (w : World) (h : (1024 : Int) < l) :
    Calls Yba.prog 4 #[.slice a l c] w fun e w' => e = .returned (.bool true) ∧ Below w.heap.size w w' := by
  go_enter Yba.func4, Yba.ntmps4
  go_wp2
  go_ret
  exact ⟨rfl, Below.refl _ _⟩

set_option maxHeartbeats 2000000 in
theorem smallest_any (a : Option Addr) (l c : Nat) (ga : Nat → Option Addr) (gc : Nat → Nat) (g : Nat → List Int) (w : World) (hI : Hid (IsGroups w a l ga gc g)) (hl : (l : Int) ≤ 1024) :
    Calls Yba.prog 4 #[.slice a l c] w fun e w' => e = .returned (.bool true) ∧ Below w.heap.size w w' := by
  go_enter Yba.func4, Yba.ntmps4
  go_wp2_with fail
  go_loop [3, 19] (fun s3 s19 => ∃ k : Nat, k ≤ l ∧ s19 = .int .i64 k ∧ (flat g k).length ≤ 1024 ∧ s3 = .int .i64 ((flat g k).length : Int)) (fun _ s19 => l - (intOf s19).toNat)
  case atStart => exact ⟨0, by omega, rfl, by simp [flat], rfl⟩
  case round =>
    obtain ⟨k, hk, rfl, hn, rfl⟩ := hrel
    by_cases hlt : k < l
    · have HS : Hid (flat g (k + 1) = flat g k ++ g k) := flat_succ g k
      obtain ⟨⟨b, off, rfl, hbl, hc⟩, hgn, hgc⟩ := hI.out k hlt
      clear hgn hgc
      go_wp2
      · go_ret; exact ⟨rfl, Below.refl _ _⟩
      · go_ret; exact ⟨rfl, Below.refl _ _⟩
      · exact ⟨⟨k + 1, by omega, by go_num, by rw [HS.out, List.length_append]; omega, by rw [HS.out, List.length_append]; go_num⟩, by simp [intOf]; omega⟩
    · obtain rfl : k = l := by omega
      have HM := hidI (matched_any a k c ga gc g w hI hl hn)
      by_cases hz : (flat g k).length = 0
      · rw [hz] at HM ⊢
        go_wp2_with fail
        refine HM.out.mono ?_
        rintro e w1 ⟨v, rfl, hb, hown⟩
        have HB := hidI hb
        rcases hown.2 with ⟨rfl, _⟩ | ⟨B, cap, cur, rfl, _⟩
        all_goals
          clear hown hb
          go_wp2
          go_ret
          exact ⟨rfl, HB.out⟩
      · have hpos : (0 : Int) < ((flat g k).length : Int) := by omega
        have hne : (((flat g k).length : Int) == 0) = false := beq_eq_false_iff_ne.2 (by omega)
        clear hz
        go_wp2_with fail
        refine HM.out.mono ?_
        rintro e w1 ⟨v, rfl, hb, hown⟩
        rcases hown.2 with ⟨_, hz⟩ | ⟨B, cap, cur, rfl, hge, hblk, h1, h2, h3, h4⟩
        · omega
        have HB := hidI hb
        have HR : Hid (∀ j, j < (flat g k).length → w1.cell? ⟨B, j, none⟩ = some (.int .i64 ((srt (flat g k)).getD j 0))) := by
          intro j hj
          have hj' : j < (srt (flat g k)).length := by rw [srt_length]; exact hj
          have e1 : cur.toList[j]? = some (.int .i64 ((srt (flat g k)).getD j 0)) := by
            have : (cur.toList.take ((flat g k).length * 1))[j]? = (((srt (flat g k))).map (Value.int .i64))[j]? := by rw [h4]; rfl
            rw [List.getElem?_take_of_lt (by omega)] at this
            rw [this]
            simp [List.getD, hj']
          simp only [World.cell?, hblk, Option.isSome_none, Bool.false_eq_true, if_false]
          rw [← Array.getElem?_toList]
          exact e1
        clear hb hown hblk h3 h4
        go_wp2_with fail
        go_loop [7, 8, 9, 46] (fun s7 s8 s9 s46 => ∃ i : Nat, i ≤ k ∧ s46 = .int .i64 i ∧ s7 = .bool (ends (flat g i)).1 ∧ s8 = .int .i64 (ends (flat g i)).2.1 ∧ s9 = .int .i64 (ends (flat g i)).2.2) (fun _ _ _ s46 => k - (intOf s46).toNat)
        case atStart => exact ⟨0, by omega, rfl, rfl, rfl, rfl⟩
        case round =>
          obtain ⟨i, hi, rfl, rfl, rfl, rfl⟩ := hrel
          by_cases hlt2 : i < k
          · have HS : Hid (flat g (i + 1) = flat g i ++ g i) := flat_succ g i
            obtain ⟨b, off, rfl, hcase⟩ := groups_at hI.out HB.out hlt2
            rcases hcase with ⟨hnil, hc⟩ | ⟨b', o', hc, hcs⟩
            · have HS' : Hid (flat g (i + 1) = flat g i) := by show _ = _; rw [HS.out, hnil, List.append_nil]
              clear hnil
              go_wp2_with fail
              refine wp_loop_rounds 1 ?_
              rw [rounds_succ]
              go_wp2
              exact ⟨⟨i + 1, by omega, by go_num, by rw [HS'.out], by rw [HS'.out], by rw [HS'.out]⟩, by simp [intOf]; omega⟩
            · have hgi : ((g i).length : Int) ≤ 1024 := by
                have := flat_le g (show i + 1 ≤ k by omega)
                rw [HS.out, List.length_append] at this
                omega
              have HCS := hidI hcs
              clear hcs
              generalize he : ends (flat g i) = E
              have HE := hidI he
              clear he
              obtain ⟨e1, e2, e3⟩ := E
              go_wp2_with fail
              go_loop [7, 8, 9, 52] (fun s7 s8 s9 s52 => ∃ j : Nat, j ≤ (g i).length ∧ s52 = .int .i64 j ∧ s7 = .bool (ends (flat g i ++ (g i).take j)).1 ∧ s8 = .int .i64 (ends (flat g i ++ (g i).take j)).2.1 ∧ s9 = .int .i64 (ends (flat g i ++ (g i).take j)).2.2) (fun _ _ _ s52 => (g i).length - (intOf s52).toNat)
              case atStart => exact ⟨0, by omega, rfl, by simp [HE.out], by simp [HE.out], by simp [HE.out]⟩
              case round =>
                obtain ⟨j, hj, rfl, rfl, rfl, rfl⟩ := hrel
                by_cases hlt3 : j < (g i).length
                · have hcell := HCS.out j hlt3
                  have HT : Hid (ends (flat g i ++ (g i).take (j + 1)) = Plain.step (ends (flat g i ++ (g i).take j)) ((g i).getD j 0)) := by
                    show _ = _
                    rw [take_snoc _ _ hlt3, ← List.append_assoc, ends_snoc]
                  generalize (g i).getD j 0 = x at hcell HT
                  generalize ends (flat g i ++ (g i).take j) = E at HT ⊢
                  obtain ⟨f1, lo, hh⟩ := E
                  cases f1
                  · go_wp2
                    all_goals
                      refine ⟨⟨j + 1, by omega, by go_num, ?_, ?_, ?_⟩, by simp [intOf]; omega⟩
                      all_goals
                        rw [HT.out]
                        simp [Plain.step]
                      all_goals first | done | omega
                  · go_wp2
                    refine ⟨⟨j + 1, by omega, by go_num, ?_, ?_, ?_⟩, by simp [intOf]; omega⟩
                    all_goals
                      rw [HT.out]
                      simp [Plain.step]
                · obtain rfl : j = (g i).length := by omega
                  have HE2 : Hid (ends (flat g i ++ (g i).take (g i).length) = ends (flat g (i + 1))) := by show _ = _; rw [HS.out, List.take_length]
                  rw [HE2.out]
                  go_wp2
                  exact ⟨⟨i + 1, by omega, by go_num, rfl, rfl, rfl⟩, by simp [intOf]; omega⟩
          · obtain rfl : i = k := by omega
            have hls : 0 < (srt (flat g i)).length := by rw [srt_length]; omega
            have hc0 : w1.cell? ⟨B, 0, none⟩ = some (.int .i64 (ends (flat g i)).2.1) := by
              rw [HR.out 0 (by omega), ← srt_first hls]
              simp [List.getD, hls]
            have hc9 : w1.cell? ⟨B, (flat g i).length - 1, none⟩ = some (.int .i64 (ends (flat g i)).2.2) := by
              rw [HR.out _ (by omega), ← srt_last hls]
              have e : (srt (flat g i)).length = (flat g i).length := srt_length _
              simp only [e]
              have h' : (flat g i).length - 1 < (srt (flat g i)).length := by omega
              simp [List.getD, h']
            clear hls
            generalize ends (flat g i) = E at hc0 hc9 ⊢
            go_wp2
            go_ret
            exact ⟨rfl, HB.out⟩
end Go.Proofs.Ybulkbxm
