/-
  The contract of 'matched': append all groups, sort. Typed by the prover of this seat (an AI agent).
-/
import Derived.Test.YbulkbxmShelf
import Derived.KernelRfl
import Derived.WalkKit
import Derived.WalkSpells
import Derived.WalkLawsBesides
import Derived.Below
import Derived.Carry
import Derived.OwnWalk
import Derived.Deep.DeepMust
import Derived.Deep.Light
import Derived.Sort.OwnSortedInts
namespace Go.Proofs.Ybulkbxm
open Go.RowKit Go.Sort
set_option maxRecDepth 100000

theorem laidOut : laidOutB Yba.prog = true := by kernel_rfl

/-- The first k groups, one behind the other. -/
def flat (g : Nat → List Int) (k : Nat) : List Int := (List.range k).flatMap g
theorem flat_zero (g : Nat → List Int) : flat g 0 = [] := rfl
theorem flat_succ (g : Nat → List Int) (k : Nat) : flat g (k + 1) = flat g k ++ g k := by simp [flat, List.range_succ]
theorem flat_le (g : Nat → List Int) {k n : Nat} (h : k ≤ n) : (flat g k).length ≤ (flat g n).length := by
  induction n with
  | zero => have : k = 0 := by omega
            subst this; exact Nat.le_refl _
  | succ n ih =>
    by_cases e : k = n + 1
    · subst e; exact Nat.le_refl _
    · rw [flat_succ, List.length_append]
      have := ih (by omega)
      omega

/-- What the walks are told of the groups: group i is the slice (ga i, gl i, gc i), its elements 'g i'. -/
def IsGroups (w : World) (a : Option Addr) (len : Nat) (ga : Nat → Option Addr) (gc : Nat → Nat) (g : Nat → List Int) : Prop :=
  ∀ i, i < len → (∃ b off, a = some ⟨b, off, none⟩ ∧ b < w.heap.size ∧ w.cell? ⟨b, off + i, none⟩ = some (.slice (ga i) (g i).length (gc i))) ∧
    (ga i = none → g i = [] ∧ gc i = 0) ∧ ∀ j, j < (g i).length → ∃ b off, ga i = some ⟨b, off, none⟩ ∧ b < w.heap.size ∧ w.cell? ⟨b, off + j, none⟩ = some (.int .i64 ((g i).getD j 0))

theorem hidI {p : Prop} (h : p) : Hid p := h
theorem info3 : (Yba.prog.info? 3).map (fun i => (i.zero, i.size, i.bytes)) = some (some (.int .i64 0), 1, 8) := by kernel_rfl

/-- 'append(xs, nil...)': nothing turns. -/
theorem run_append_nil (b : Option Addr) (n c c' : Nat) (ty : TypeId) (hn : n ≤ c) (w : World) : (Builtin.append_ #[23, 23] ty #[.slice b n c, .slice none 0 c']).run Yba.prog w = .ok (.slice b n c) w := by
  obtain ⟨i, hi, hz0, hz1, hz2⟩ := info_parts info3
  have h1 := run_firstCells_none (P := Yba.prog) w i.size 0 0 c'
  cases b <;> simp [Builtin.append_, run_underlying Yba.underlying23, sizeOf, typeInfo, hi, Builtin.lenOf, hn]
  all_goals rw [h1]
  all_goals simp [storeCells]

theorem append_nil_own {w : World} {base : Nat} {v : Value} {n : Nat} {xs : List Value} (h : w.ownsRow base 3 1 v n xs) (c' : Nat) (ty : TypeId) :
    (Builtin.append_ #[23, 23] ty #[v, .slice none 0 c']).run Yba.prog w = .ok v w := by
  rcases h.2 with ⟨rfl, _⟩ | ⟨g, cap, cur, rfl, _, _, h1, _⟩
  · exact run_append_nil none 0 0 c' ty (Nat.le_refl _) w
  · exact run_append_nil _ _ _ c' ty h1 w

theorem wpList_append_run {P : Program} {w : World} {ops : Array Oper} {rest : List Oper} {o : Oper} {a : Act} {Q : Exit → Act → World → Prop} (hgd : o.guard = none) (s x : Operand) (t tx : TypeId)
    (ho : o.op = .call { callee := .builtin .append, args := #[s, x], argTypes := #[t, tx] }) (vs vx v' : Value) (w' : World) (hs : a.eval s = vs) (hx : a.eval x = vx)
    (hrun : ∀ ty, (Builtin.append_ #[t, tx] ty #[vs, vx]).run P w = .ok v' w') (h : wpList P ops Q rest (a.put o.dst v') w') : wpList P ops Q (o :: rest) a w := by
  refine wpList_plain hgd fun K hK => ?_
  unfold Oper.wp execOp
  simp only [ho, resolve, invoke, builtin, Sem.run_bind, Sem.run_pure, Result.andThen_ok, List.map_toArray, List.map_cons, List.map_nil, hs, hx, hrun]
  exact hK _ _ h

set_option maxHeartbeats 1000000 in
theorem matched_any (a : Option Addr) (l c : Nat) (ga : Nat → Option Addr) (gc : Nat → Nat) (g : Nat → List Int) (w : World) (hI : Hid (IsGroups w a l ga gc g)) (hl : (l : Int) ≤ 1024) (hn : (flat g l).length ≤ 1024) :
    Calls Yba.prog 5 #[.slice a l c] w fun e w' => ∃ v, e = .returned v ∧ Below w.heap.size w w' ∧
      w'.ownsRow w.heap.size 3 1 v (flat g l).length (((flat g l).mergeSort fun x y => decide (x ≤ y)).map (Value.int .i64)) := by
  obtain ⟨i0, hi, hz0, hz1, hz2⟩ := info_parts info3
  go_enter Yba.func5, Yba.ntmps5
  go_wp2_with fail
  go_loopw [3, 8] (fun s3 s8 wr => ∃ k : Nat, k ≤ l ∧ s8 = .int .i64 k ∧ wr.ownsRow w.heap.size 3 1 s3 (flat g k).length ((flat g k).map (Value.int .i64)) ∧ Below w.heap.size w wr) (fun _ s8 _ => l - (intOf s8).toNat)
  case atStart => exact ⟨0, by omega, rfl, ⟨rfl, Or.inl ⟨rfl, rfl⟩⟩, Below.refl _ _⟩
  case round =>
    obtain ⟨k, hk, rfl, hown, hb⟩ := hrel
    have HO : Hid (wr.ownsRow w.heap.size 3 1 u3 (flat g k).length ((flat g k).map (Value.int .i64))) := hown
    have HB : Hid (Below w.heap.size w wr) := hb
    clear hown hb
    by_cases hlt : k < l
    · have hle := flat_le g (show k + 1 ≤ l by omega)
      have HS : Hid (flat g (k + 1) = flat g k ++ g k) := flat_succ g k
      obtain ⟨⟨b, off, rfl, hbl, hc⟩, hgn, hgc⟩ := hI.out k hlt
      have hc' : wr.cell? ⟨b, off + k, none⟩ = some (.slice (ga k) (g k).length (gc k)) := by rw [HB.out.cell hbl]; exact hc
      clear hc
      cases hgk : ga k with
      | none =>
        obtain ⟨hg0, hc0⟩ := hgn hgk
        rw [hgk, hg0, hc0] at hc'
        have HS' : Hid (flat g (k + 1) = flat g k) := by show _ = _; rw [HS.out, hg0, List.append_nil]
        clear hgn hgc hgk hg0 hc0
        go_wp2_with (first | (at_builtin; refine wpList_append_run rfl _ _ 23 23 rfl u3 (.slice none 0 0) u3 wr rfl rfl (fun ty => append_nil_own HO.out 0 ty) ?_) | go_in)
        exact ⟨⟨k + 1, by omega, by go_num, by rw [HS'.out]; exact HO.out, HB.out⟩, by simp [intOf]; omega⟩
      | some ad =>
        rw [hgk] at hc'
        have hnews : ∀ j u, ((g k).map (Value.int .i64))[j]? = some u → wr.cell? (ad.add j) = some u := by
          intro j u hu
          simp only [List.getElem?_map, Option.map_eq_some_iff] at hu
          obtain ⟨x, hx, rfl⟩ := hu
          obtain ⟨hj, hx'⟩ := List.getElem?_eq_some_iff.1 hx
          obtain ⟨b', o', e, hb', hcell⟩ := hgc j hj
          rw [hgk] at e
          injection e with e
          subst e
          rw [WideShapes.add_plain, HB.out.cell (p := ⟨b', o' + j, none⟩) hb', hcell]
          simp [List.getD, hx]
        have HN : Hid (∀ j u, ((g k).map (Value.int .i64))[j]? = some u → wr.cell? (ad.add j) = some u) := hnews
        clear hnews hgn hgc hgk
        have hlen : (flat g k).length + (g k).length ≤ 1024 := by rw [HS.out, List.length_append] at hle; omega
        go_wp2_with (first | (at_builtin; refine wpList_append_own _ rfl _ _ 23 rfl w.heap.size 3 i0 (.int .i64 0) 1 8 Yba.underlying23 hi hz0 hz1 hz2 rfl (by decide) _ _ _ rfl HO.out ad (g k).length (gc k) ((g k).map (Value.int .i64)) rfl (by simp) HN.out (by simp [Value.oneCell']) (by unfold maxLen; omega) (by omega) HB.out.size ?_; intro v1 w1 hown1 hgrow1 hnil1) | go_in)
        refine ⟨⟨k + 1, by omega, by go_num, ?_, HB.out.grown hgrow1 HB.out.size ?_⟩, by simp [intOf]; omega⟩
        · rw [HS.out, List.length_append, List.map_append]; exact hown1
        · intro j hj
          rcases HO.out.2 with ⟨e, _⟩ | ⟨g', cap, cur, e, hge, _⟩
          · rw [e] at hj; cases hj
          · rw [e] at hj; cases hj; exact hge
    · obtain rfl : k = l := by omega
      rcases HO.out.2 with ⟨hu, hz⟩ | ⟨g', cap, cur, hu, hge, hblk, h1, h2, h3, h4⟩
      · have hz' : flat g k = [] := List.eq_nil_of_length_eq_zero hz
        rw [hu]
        go_wp2_with (go_at_call 8; refine (Yba.slices_Sort_int_none _ _ _).mono ?_; rintro e w' ⟨rfl, rfl⟩)
        go_ret
        refine ⟨_, rfl, HB.out, ?_⟩
        rw [hz']
        exact ⟨by simp, Or.inl ⟨rfl, rfl⟩⟩
      · have hH := holds_of_blockI hblk (by simpa using h4)
        have hlt' := (Array.getElem?_eq_some_iff.1 hblk).1
        have hcall := Yba.slices_Sort_int g' 0 cap (flat g k) wr hH hlt' (by omega)
        have HC := hidI hcall
        clear hcall hH
        rw [hu]
        go_wp2_with (go_at_call 8; refine HC.out.mono ?_; rintro e w' ⟨rfl, nn, os, rfl⟩)
        go_ret
        refine ⟨_, rfl, HB.out.grown (grownBy_sortedI _) HB.out.size (fun j hj => by cases hj; exact hge), ?_⟩
        exact ownsRow_sortedI (by simp) hge hblk h1 h2 h3
end Go.Proofs.Ybulkbxm
