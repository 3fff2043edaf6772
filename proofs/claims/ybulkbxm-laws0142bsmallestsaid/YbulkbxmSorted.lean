/-
  The walk of 'LawS0142BSortedPermutation'. Typed by the prover of this seat (an AI agent).
-/
import Derived.Test.YbulkbxmSmallest
import Derived.Deep.QuietTactic
import Derived.BigQuiet
namespace Go.Proofs.Ybulkbxm
open Go.RowKit Go.Sort Plain
set_option maxRecDepth 100000

theorem count_snoc (l : List Int) (v x : Int) : (l ++ [v]).count x = l.count x + if v = x then 1 else 0 := by
  rw [List.count_append]
  by_cases h : v = x <;> simp [h]
theorem count_le (l : List Int) (x : Int) : l.count x ≤ l.length := List.count_le_length

set_option maxHeartbeats 1000000 in
theorem countin_any (B cap : Nat) (xs : List Int) (x : Int) (w : World) (hlen : (xs.length : Int) ≤ 1024) (hc : Hid (∀ j, j < xs.length → w.cell? ⟨B, j, none⟩ = some (.int .i64 (xs.getD j 0)))) :
    Calls Yba.prog 6 #[.slice (some ⟨B, 0, none⟩) xs.length cap, .int .i64 x] w fun e w' => e = .returned (.int .i64 (xs.count x : Nat)) ∧ w' = w := by
  go_enter Yba.func6, Yba.ntmps6
  go_wp2_with fail
  go_loop [5, 10] (fun s5 s10 => ∃ j : Nat, j ≤ xs.length ∧ s10 = .int .i64 j ∧ s5 = .int .i64 (((xs.take j).count x : Nat) : Int)) (fun _ s10 => xs.length - (intOf s10).toNat)
  case atStart => exact ⟨0, by omega, rfl, rfl⟩
  case round =>
    obtain ⟨j, hj, rfl, rfl⟩ := hrel
    by_cases hlt : j < xs.length
    · have hcell := hc.out j hlt
      have HT : Hid ((xs.take (j + 1)).count x = (xs.take j).count x + if xs.getD j 0 = x then 1 else 0) := by show _ = _; rw [take_snoc _ _ hlt, count_snoc]
      have hcl : ((xs.take j).count x : Int) ≤ 1024 := by have := count_le (xs.take j) x; have := List.length_take_le j xs; omega
      generalize xs.getD j 0 = v at hcell HT
      generalize (xs.take j).count x = C at hcl HT ⊢
      by_cases hv : v = x
      · have hv' : (v == x) = true := beq_iff_eq.2 hv
        have HT' : Hid ((xs.take (j + 1)).count x = C + 1) := by show _ = _; rw [HT.out, if_pos hv]
        clear hv
        go_wp2
        exact ⟨⟨j + 1, by omega, by go_num, by rw [HT'.out]; go_num⟩, by simp [intOf]; omega⟩
      · have hv' : (v == x) = false := beq_eq_false_iff_ne.2 hv
        have HT' : Hid ((xs.take (j + 1)).count x = C) := by show _ = _; rw [HT.out, if_neg hv]; rfl
        clear hv
        go_wp2
        exact ⟨⟨j + 1, by omega, by go_num, by rw [HT'.out]⟩, by simp [intOf]; omega⟩
    · obtain rfl : j = xs.length := by omega
      go_wp2
      go_ret
      exact ⟨rfl, rfl⟩

set_option maxHeartbeats 1000000 in
theorem count_any (a : Option Addr) (l c : Nat) (ga : Nat → Option Addr) (gc : Nat → Nat) (g : Nat → List Int) (x : Int) (w W : World) (hI : Hid (IsGroups w a l ga gc g)) (hB : Hid (Below w.heap.size w W)) (hl : (l : Int) ≤ 1024) (hn : (flat g l).length ≤ 1024) :
    Calls Yba.prog 7 #[.slice a l c, .int .i64 x] W fun e w' => e = .returned (.int .i64 ((flat g l).count x : Nat)) ∧ w' = W := by
  go_enter Yba.func7, Yba.ntmps7
  go_wp2_with fail
  go_loop [5, 12] (fun s5 s12 => ∃ i : Nat, i ≤ l ∧ s12 = .int .i64 i ∧ s5 = .int .i64 (((flat g i).count x : Nat) : Int)) (fun _ s12 => l - (intOf s12).toNat)
  case atStart => exact ⟨0, by omega, rfl, rfl⟩
  case round =>
    obtain ⟨i, hi, rfl, rfl⟩ := hrel
    by_cases hlt : i < l
    · have HS : Hid (flat g (i + 1) = flat g i ++ g i) := flat_succ g i
      have hgi : ((flat g i).length : Int) + ((g i).length : Int) ≤ 1024 := by
        have := flat_le g (show i + 1 ≤ l by omega)
        rw [HS.out, List.length_append] at this
        omega
      obtain ⟨b, off, rfl, hcase⟩ := groups_at hI.out hB.out hlt
      rcases hcase with ⟨hnil, hc⟩ | ⟨b', o', hc, hcs⟩
      · have HS' : Hid (flat g (i + 1) = flat g i) := by show _ = _; rw [HS.out, hnil, List.append_nil]
        clear hnil
        go_wp2_with fail
        refine wp_loop_rounds 1 ?_
        rw [rounds_succ]
        go_wp2
        exact ⟨⟨i + 1, by omega, by go_num, by rw [HS'.out]⟩, by simp [intOf]; omega⟩
      · have HCS := hidI hcs
        clear hcs
        go_wp2_with fail
        go_loop [5, 18] (fun s5 s18 => ∃ j : Nat, j ≤ (g i).length ∧ s18 = .int .i64 j ∧ s5 = .int .i64 (((flat g i ++ (g i).take j).count x : Nat) : Int)) (fun _ s18 => (g i).length - (intOf s18).toNat)
        case atStart => exact ⟨0, by omega, rfl, by simp⟩
        case round =>
          obtain ⟨j, hj, rfl, rfl⟩ := hrel
          by_cases hlt3 : j < (g i).length
          · have hcell := HCS.out j hlt3
            have HT : Hid ((flat g i ++ (g i).take (j + 1)).count x = (flat g i ++ (g i).take j).count x + if (g i).getD j 0 = x then 1 else 0) := by
              show _ = _; rw [take_snoc _ _ hlt3, ← List.append_assoc, count_snoc]
            have hcl : ((flat g i ++ (g i).take j).count x : Int) ≤ 1024 := by
              have := count_le (flat g i ++ (g i).take j) x
              have := List.length_take_le j (g i)
              rw [List.length_append] at *
              omega
            generalize (g i).getD j 0 = v at hcell HT
            generalize (flat g i ++ (g i).take j).count x = C at hcl HT ⊢
            by_cases hv : v = x
            · have hv' : (v == x) = true := beq_iff_eq.2 hv
              have HT' : Hid ((flat g i ++ (g i).take (j + 1)).count x = C + 1) := by show _ = _; rw [HT.out, if_pos hv]
              clear hv
              go_wp2
              exact ⟨⟨j + 1, by omega, by go_num, by rw [HT'.out]; go_num⟩, by simp [intOf]; omega⟩
            · have hv' : (v == x) = false := beq_eq_false_iff_ne.2 hv
              have HT' : Hid ((flat g i ++ (g i).take (j + 1)).count x = C) := by show _ = _; rw [HT.out, if_neg hv]; rfl
              clear hv
              go_wp2
              exact ⟨⟨j + 1, by omega, by go_num, by rw [HT'.out]⟩, by simp [intOf]; omega⟩
          · obtain rfl : j = (g i).length := by omega
            have HE2 : Hid (flat g i ++ (g i).take (g i).length = flat g (i + 1)) := by show _ = _; rw [HS.out, List.take_length]
            rw [HE2.out]
            go_wp2
            exact ⟨⟨i + 1, by omega, by go_num, rfl⟩, by simp [intOf]; omega⟩
    · obtain rfl : i = l := by omega
      go_wp2
      go_ret
      exact ⟨rfl, rfl⟩

theorem sorted_long (a : Option Addr) (l c : Nat) (w : World) (h : (1024 : Int) < l) :
    Calls Yba.prog 3 #[.slice a l c] w fun e w' => e = .returned (.bool true) ∧ Below w.heap.size w w' := by
  go_enter Yba.func3, Yba.ntmps3
  go_wp2
  go_ret
  exact ⟨rfl, Below.refl _ _⟩

set_option maxHeartbeats 2000000 in
theorem sorted_any (a : Option Addr) (l c : Nat) (ga : Nat → Option Addr) (gc : Nat → Nat) (g : Nat → List Int) (w : World) (hI : Hid (IsGroups w a l ga gc g)) (hl : (l : Int) ≤ 1024) :
    Calls Yba.prog 3 #[.slice a l c] w fun e w' => e = .returned (.bool true) ∧ Below w.heap.size w w' := by
  go_enter Yba.func3, Yba.ntmps3
  go_wp2_with fail
  go_loop [3, 15] (fun s3 s15 => ∃ k : Nat, k ≤ l ∧ s15 = .int .i64 k ∧ (flat g k).length ≤ 1024 ∧ s3 = .int .i64 ((flat g k).length : Int)) (fun _ s15 => l - (intOf s15).toNat)
  case atStart => exact ⟨0, by omega, rfl, by simp [flat], rfl⟩
  case round =>
    obtain ⟨k, hk, rfl, hn, rfl⟩ := hrel
    by_cases hlt : k < l
    · have HS : Hid (flat g (k + 1) = flat g k ++ g k) := flat_succ g k
      obtain ⟨⟨b, off, rfl, hbl, hc⟩, hgn, hgc⟩ := hI.out k hlt
      clear hgn hgc
      go_wp2
      · go_ret; exact ⟨rfl, Below.refl _ _⟩
      · go_ret; exact ⟨rfl, Below.refl _ _⟩
      · exact ⟨⟨k + 1, by omega, by go_num, by rw [HS.out, List.length_append]; omega, by rw [HS.out, List.length_append]; go_num⟩, by simp [intOf]; omega⟩
    · obtain rfl : k = l := by omega
      have HM := hidI (matched_any a k c ga gc g w hI hl hn)
      go_wp2_with fail
      refine HM.out.mono ?_
      rintro e w1 ⟨v, rfl, hb, hown⟩
      have HB := hidI hb
      rcases hown.2 with ⟨rfl, hz⟩ | ⟨B, cap, cur, rfl, hge, hblk, h1, h2, h3, h4⟩
      · rw [hz]
        clear hown hb
        go_wp2_with fail
        refine wp_loop_rounds 1 ?_
        rw [rounds_succ]
        go_wp2_with fail
        refine wp_loop_rounds 1 ?_
        rw [rounds_succ]
        go_wp2
        go_ret
        exact ⟨rfl, HB.out⟩
      · have hBlt := (Array.getElem?_eq_some_iff.1 hblk).1
        have HR : Hid (∀ j, j < (flat g k).length → w1.cell? ⟨B, j, none⟩ = some (.int .i64 ((srt (flat g k)).getD j 0))) := by
          intro j hj
          have hj' : j < (srt (flat g k)).length := by rw [srt_length]; exact hj
          have e1 : cur.toList[j]? = some (.int .i64 ((srt (flat g k)).getD j 0)) := by
            have : (cur.toList.take ((flat g k).length * 1))[j]? = (((srt (flat g k))).map (Value.int .i64))[j]? := by rw [h4]; rfl
            rw [List.getElem?_take_of_lt (by omega)] at this
            rw [this]
            simp [List.getD, hj']
          simp only [World.cell?, hblk, Option.isSome_none, Bool.false_eq_true, if_false]
          rw [← Array.getElem?_toList]
          exact e1
        clear hb hown hblk h3 h4
        have hnI : ((flat g k).length : Int) ≤ 1024 := by omega
        go_wp2_with fail
        go_loopw [7] (fun s7 wr => ∃ i : Nat, 1 ≤ i ∧ (i ≤ (flat g k).length ∨ i = 1) ∧ s7 = .int .i64 i ∧ Below w1.heap.size w1 wr) (fun s7 _ => (flat g k).length - (intOf s7).toNat)
        case atStart => exact ⟨1, by omega, Or.inr rfl, rfl, Below.refl _ _⟩
        case round =>
          obtain ⟨i, hi1, hi2, rfl, hbr⟩ := hrel
          have HBR := hidI hbr
          clear hbr
          have HI2 := hidI hi2
          clear hi2
          by_cases hlt2 : i < (flat g k).length
          · have hc1 : wr.cell? ⟨B, i - 1, none⟩ = some (.int .i64 ((srt (flat g k)).getD (i - 1) 0)) := by rw [HBR.out.cell (p := ⟨B, i - 1, none⟩) hBlt]; exact HR.out _ (by omega)
            have hc2 : wr.cell? ⟨B, i, none⟩ = some (.int .i64 ((srt (flat g k)).getD i 0)) := by rw [HBR.out.cell (p := ⟨B, i, none⟩) hBlt]; exact HR.out _ hlt2
            have hle : (srt (flat g k)).getD (i - 1) 0 ≤ (srt (flat g k)).getD i 0 := by
              have e : (srt (flat g k)).length = (flat g k).length := srt_length _
              have := srt_le (l := flat g k) (i := i - 1) (j := i) (by omega) (by omega)
              simp only [List.getD]
              rw [List.getElem?_eq_getElem (by omega), List.getElem?_eq_getElem (by omega)]
              exact this
            generalize (srt (flat g k)).getD (i - 1) 0 = x1 at hc1 hle
            generalize (srt (flat g k)).getD i 0 = x2 at hc2 hle
            have hi1' : (1 : Int) ≤ (i : Int) := by omega
            have hi2' : (i : Int) < ((flat g k).length : Int) := by omega
            go_wp2_with fail
            go_quiet (fail)
            go_wp2
            exact ⟨⟨i + 1, by omega, Or.inl (by omega), by go_num, below_drewN HBR.out _⟩, by simp [intOf]; omega⟩
          · have hBr := hidI (HB.out.trans (HBR.out.mono HB.out.size))
            have hsl : (srt (flat g k)).length = (flat g k).length := srt_length _
            have HCI := hidI (fun x => countin_any B cap (srt (flat g k)) x wr (by rw [hsl]; exact hnI) (fun j hj => by rw [HBR.out.cell (p := ⟨B, j, none⟩) hBlt]; exact HR.out _ (by omega)))
            have HCO := hidI (fun x => count_any a k c ga gc g x w wr hI hBr hl hn)
            rw [hsl] at HCI
            clear hsl
            go_wp2_with fail
            go_loop [53] (fun s53 => ∃ j : Nat, j ≤ (flat g k).length ∧ s53 = .int .i64 j) (fun s53 => (flat g k).length - (intOf s53).toNat)
            case atStart => exact ⟨0, by omega, rfl⟩
            case round =>
              obtain ⟨j, hj, rfl⟩ := hrel
              by_cases hlt3 : j < (flat g k).length
              · have hcell : wr.cell? ⟨B, j, none⟩ = some (.int .i64 ((srt (flat g k)).getD j 0)) := by rw [HBR.out.cell (p := ⟨B, j, none⟩) hBlt]; exact HR.out _ hlt3
                have hj' : (j : Int) < ((flat g k).length : Int) := by omega
                have HEQ := hidI (srt_count (flat g k))
                generalize (srt (flat g k)).getD j 0 = x at hcell
                go_wp2_with fail
                refine (HCI.out x).mono ?_
                rintro e w2 ⟨rfl, rfl⟩
                go_wp2_with fail
                refine (HCO.out x).mono ?_
                rintro e w2 ⟨rfl, rfl⟩
                rw [HEQ.out x]
                go_wp2
                exact ⟨⟨j + 1, by omega, by go_num⟩, by simp [intOf]; omega⟩
              · go_wp2
                go_ret
                exact ⟨rfl, hBr.out⟩
end Go.Proofs.Ybulkbxm
