/-
  A region that draws its order and whose one writing operation (number x) waits for all that read: what the readers look at (S) need not hold behind x. After the kit's law on held worlds; typed by the prover of this seat (an AI agent).
-/
import Derived.OrdersHeld
import Derived.Deep.RegionHeld3
namespace Go.MapFn
open Go

section
variable {P : Program} {ops : Array Oper} {Q : Exit → Act → World → Prop} {md : Region.Mode} {S : World → Prop} {x : Nat}

/-- Whatever order is picked from here on; S holds behind every operation but number x. -/
def wpAnyX (P : Program) (md : Region.Mode) (ops : Array Oper) (Q : Exit → Act → World → Prop) (S : World → Prop) (x : Nat) : Nat → Array Bool → Act → World → Prop
  | 0, listed, a, w => Region.ready md ops listed = [] ∧ Q .normal a w
  | fuel + 1, listed, a, w =>
    (Region.ready md ops listed = [] → Q .normal a w) ∧
    ∀ i ∈ Region.ready md ops listed, wpOp P ops Q i (fun a' w' => (i ≠ x → S w') ∧ wpAnyX P md ops Q S x fuel (listed.setIfInBounds i true) a' w') a w

theorem wpAny_of_X : ∀ (fuel : Nat) (listed : Array Bool) (a : Act) (w : World), wpAnyX P md ops Q S x fuel listed a w → wpAny P md ops Q fuel listed a w
  | 0, _, _, _, h => h
  | fuel + 1, _, _, _, h => ⟨h.1, fun i hi => wpOp_mono (fun a' w' h' => wpAny_of_X fuel _ a' w' h'.2) (h.2 i hi)⟩

theorem wpAnyX_first {i : Nat} {oi : Oper} {v : Value} (hi : ops[i]? = some oi) (hsel : ∀ (j : Nat) (o : Oper) cs b, ops[j]? = some o → o.op ≠ .select cs b)
    (hQ : ∀ c a w, Q (.panic c) (a.put oi.dst v) w → Q (.panic c) a w)
    (hx : ∀ ox, ops[x]? = some ox → ∃ e ∈ ox.after, Region.binds md e = true ∧ e.on = i) :
    ∀ (fuel : Nat) (listed : Array Bool) (a : Act) (w : World),
      (∀ j oj, ops[j]? = some oj → j ≠ i → listed.getD j true = false → (∀ e ∈ oj.after, Region.binds md e = true → e.on ≠ i) → oi.apart ops oj = true) →
      i ∈ Region.ready md ops listed → YieldsIf P ops S oi v a → S w →
      wpAnyX P md ops Q S x fuel (listed.setIfInBounds i true) (a.put oi.dst v) w → wpAnyX P md ops Q S x (fuel + 1) listed a w := by
  intro fuel
  induction fuel with
  | zero =>
    intro listed a w _ hr hy hS H
    refine ⟨fun h => (by rw [h] at hr; cases hr), fun j hj => ?_⟩
    by_cases hji : j = i
    · subst hji; exact hy.wpOp hi hS ⟨fun _ => hS, H⟩
    · have := ready_mono hj hji
      rw [H.1] at this
      cases this
  | succ fuel ih =>
    intro listed a w hfree hr hy hS H
    refine ⟨fun h => (by rw [h] at hr; cases hr), fun j hj => ?_⟩
    by_cases hji : j = i
    · subst hji; exact hy.wpOp hi hS ⟨fun _ => hS, H⟩
    · have h1 := H.2 j (ready_mono hj hji)
      obtain ⟨hjun, oj, hoj, hall⟩ := mem_ready.1 hj
      have hnot : ∀ e ∈ oj.after, Region.binds md e = true → e.on ≠ i := fun e he hb heq => by
        have h1 := hall e he hb
        have h0 := (mem_ready.1 hr).1
        rw [heq] at h1
        rcases Nat.lt_or_ge i listed.size with h' | h'
        · simp [h'] at h0 h1; rw [h0] at h1; cases h1
        · simp [Array.getElem?_eq_none h'] at h1
      have hjx : j ≠ x := fun e => by
        subst e
        obtain ⟨d, hd, hb, he⟩ := hx oj hoj
        exact hnot d hd hb he
      have h2 := wpOp_putIf hoj (hfree j oj hoj hji hjun hnot) (fun cs b => hsel i oi cs b hi) (fun cs b => hsel j oj cs b hoj) hQ hy h1
      have hfree' : ∀ k ok, ops[k]? = some ok → k ≠ i → (listed.setIfInBounds j true).getD k true = false →
          (∀ e ∈ ok.after, Region.binds md e = true → e.on ≠ i) → oi.apart ops ok = true := fun k ok hk hki hun hno => by
        refine hfree k ok hk hki ?_ hno
        by_cases hjk : j = k
        · subst hjk; exact hjun
        · rw [getD_set_ne true hjk] at hun; exact hun
      refine wpOp_mono (fun a' w' h3 => ⟨h3.2.1, ih (listed.setIfInBounds j true) a' w' hfree' (ready_mono hr (Ne.symm hji)) h3.1 (h3.2.1 hjx) ?_⟩) h2
      rw [Array.setIfInBounds_comm _ _ hji]
      exact h3.2.2

theorem wpAnyX_take {i : Nat} {oi : Oper} {v : Value} {fuel : Nat} {listed : Array Bool} {a : Act} {w : World} (hi : ops[i]? = some oi)
    (hs : Region.noSelect ops = true) (hf : Region.free md ops listed i = true) (hr : (Region.ready md ops listed).contains i = true)
    (hx : (ops[x]?.map fun ox => ox.after.any fun e => Region.binds md e && e.on == i) = some true)
    (hQ : ∀ c a w, Q (.panic c) (a.put oi.dst v) w → Q (.panic c) a w) (hy : YieldsIf P ops S oi v a) (hS : S w)
    (h : wpAnyX P md ops Q S x fuel (listed.setIfInBounds i true) (a.put oi.dst v) w) : wpAnyX P md ops Q S x (fuel + 1) listed a w :=
  wpAnyX_first hi (Region.noSelect_spec hs) hQ (fun ox hox => by
    rw [hox] at hx
    simp only [Option.map_some, Option.some.injEq, Array.any_eq_true'] at hx
    obtain ⟨e, he, hb⟩ := hx
    simp only [Bool.and_eq_true, beq_iff_eq] at hb
    exact ⟨e, he, hb.1, hb.2⟩) fuel listed a w (Region.free_spec hi hf) (by simpa using hr) hy hS h

/-- The one that may come up now comes up. -/
theorem wpAnyX_one {i : Nat} {o : Oper} {fuel : Nat} {listed : Array Bool} {a : Act} {w : World} (hr : Region.ready md ops listed = [i]) (ho : ops[i]? = some o)
    (h : ∀ K' : Act → World → Prop, (∀ a w, (i ≠ x → S w) → wpAnyX P md ops Q S x fuel (listed.setIfInBounds i true) a w → K' a w) → if Region.wanted o (yielded ops a.tmps) = true then Oper.wp P o a w K' Q else K' (a.put o.dst undef) w) :
    wpAnyX P md ops Q S x (fuel + 1) listed a w :=
  ⟨fun h0 => absurd (hr.symm.trans h0) (by simp), fun j hj => by
    rw [hr] at hj
    obtain rfl : j = i := by simpa using hj
    exact wpOp_step ho (fun K' hK => h K' (fun a w hS hW => hK a w ⟨hS, hW⟩))⟩

/-- The two that may come up now, in either order. -/
theorem wpAnyX_two {i j : Nat} {oi oj : Oper} {fuel : Nat} {listed : Array Bool} {a : Act} {w : World} (hr : Region.ready md ops listed = [i, j]) (hoi : ops[i]? = some oi) (hoj : ops[j]? = some oj)
    (h1 : ∀ K' : Act → World → Prop, (∀ a w, (i ≠ x → S w) → wpAnyX P md ops Q S x fuel (listed.setIfInBounds i true) a w → K' a w) → if Region.wanted oi (yielded ops a.tmps) = true then Oper.wp P oi a w K' Q else K' (a.put oi.dst undef) w)
    (h2 : ∀ K' : Act → World → Prop, (∀ a w, (j ≠ x → S w) → wpAnyX P md ops Q S x fuel (listed.setIfInBounds j true) a w → K' a w) → if Region.wanted oj (yielded ops a.tmps) = true then Oper.wp P oj a w K' Q else K' (a.put oj.dst undef) w) :
    wpAnyX P md ops Q S x (fuel + 1) listed a w :=
  ⟨fun h0 => absurd (hr.symm.trans h0) (by simp), fun k hk => by
    rw [hr] at hk
    simp only [List.mem_cons, List.not_mem_nil, or_false] at hk
    rcases hk with rfl | rfl
    · exact wpOp_step hoi (fun K' hK => h1 K' (fun a w hS hW => hK a w ⟨hS, hW⟩))
    · exact wpOp_step hoj (fun K' hK => h2 K' (fun a w hS hW => hK a w ⟨hS, hW⟩))⟩

theorem wpAnyX_done {listed : Array Bool} {a : Act} {w : World} (hr : Region.ready md ops listed = []) (h : Q .normal a w) :
    ∀ fuel, wpAnyX P md ops Q S x fuel listed a w
  | 0 => ⟨hr, h⟩
  | _ + 1 => ⟨fun _ => h, by rw [hr]; simp⟩

theorem wp_region_X {id : Nat} {a : Act} {w : World} (S : World → Prop) (x : Nat) (hm : P.follows .mixedOrders = true)
    (h : wpAnyX P .any ops Q S x ops.size (Array.replicate ops.size false) a w.drew) : (Code.region id ops true).wp P Q a w :=
  wp_region_any hm (wpAny_of_X _ _ _ _ h)
end

/-- A call of a Go function by its contract, at a step of a region that draws: for 'go_region_law'. -/
theorem step_go {P : Program} {ops : Array Oper} {o : Oper} {a : Act} {w : World} {K : Act → World → Prop} {Q : Exit → Act → World → Prop} {E : Prop} {f : FuncId} {fn : Func} {c : Code}
    (hf : P.funcs[f]? = some fn) (hname : (fn.name == "runtime.NumGoroutine") = false) (hb : fn.body = some c) (hgd : o.guard = none) (xs : List Operand) (ts : Array TypeId)
    (ho : o.op = .call { callee := .value (.func f), args := xs.toArray, argTypes := ts }) (args : List Value) (hargs : xs.map a.eval = args) (R : Value → World → Prop)
    (hc : Calls P f args.toArray w fun e w' => ∃ v, e = .returned v ∧ R v w') (k : ∀ v w', R v w' → K (a.put o.dst v) w') :
    if Region.wanted o (yielded ops a.tmps) = true then Oper.wp P o a w K Q else E := by
  have hw : Region.wanted o (yielded ops a.tmps) = true := by simp [Region.wanted, hgd]
  rw [if_pos hw]
  subst hargs
  have h1 : fn.name ≠ "runtime.NumGoroutine" := by simpa using hname
  have hr : (execOp a.eval o).run P w = .ok (.enter f (xs.map a.eval).toArray) w := by
    unfold execOp
    simp only [ho]
    simp [resolve, Deferred.ofValue, Act.eval, invoke, callFunc, hf, h1, hb]
  unfold Oper.wp
  rw [hr]
  refine hc.mono ?_
  rintro e w' ⟨v, rfl, h⟩
  exact k v w' h
end Go.MapFn
