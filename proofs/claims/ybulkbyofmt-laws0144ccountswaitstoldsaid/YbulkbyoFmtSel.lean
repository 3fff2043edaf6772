/-
  A function that defers a call and comes to a select of one receive with a default, where nothing is ready, in one goroutine: its call, from walks of its parts. After the kit's 'calls_of_wp_defers' and 'step_lone_select_default'. Generic over the program. Typed by the prover of this seat (an AI agent).
-/
import Derived.Conc.LoneCalls
import Derived.Defers
namespace Go.SelWalk
open Go.Conc

/-- To the end, and on. -/
def Nx (K : Act → World → Prop) : Exit → Act → World → Prop
  | .normal, a, w => K a w
  | _, _, _ => False

variable {P : Program}

theorem code_next {x : Code} {K : Act → World → Prop} {a : Act} {w : World} (h : x.wp P (Nx K) a w) (b : Frame) (k : List Item) (cs : List Frame) :
    ∃ a' w', K a' w' ∧ Steps P (lone (b.at a (.code x :: k)) cs w) (lone (b.at a' k) cs w') := by
  obtain ⟨e, a', w', hq, harr⟩ := h b k cs
  cases e with
  | normal => exact ⟨a', w', hq, harr⟩
  | _ => exact hq.elim

theorem seq_next {x y : Code} {K : Act → World → Prop} {a : Act} {w : World} (h : x.wp P (Nx K) a w) (b : Frame) (k : List Item) (cs : List Frame) :
    ∃ a' w', K a' w' ∧ Steps P (lone (b.at a (.code (.seq x y) :: k)) cs w) (lone (b.at a' (.code y :: k)) cs w') := by
  obtain ⟨a', w', hq, hs⟩ := code_next h b (.code y :: k) cs
  exact ⟨a', w', hq, .head step_seq hs⟩

/-- What is asked where the select stands. -/
def AtSelect (P : Program) (ops : Array Oper) (l : List Nat) (K : Act → World → Prop) (a : Act) (w : World) : Prop :=
  ∃ o c cap s r tm z, ops[0]? = some o ∧ Region.wanted o (yielded ops a.tmps) = true ∧ (execOp a.eval o).run P w = .ok (.comm #[rcase c z] false .select) w ∧ w.heap[c]? = some (.chan cap #[] false s r tm) ∧
    wpOps P ops (Nx K) l (a.put o.dst (.tuple #[goInt (-1), .bool false, z])) w

theorem select_next {ops : Array Oper} {l : List Nat} {K : Act → World → Prop} {a : Act} {w : World} {id : Nat} (hl : List.range ops.size = 0 :: l) (h : AtSelect P ops l K a w) (b : Frame) (hk : b.kind ≠ .early) (k : List Item) (cs : List Frame) :
    ∃ a' w', K a' w' ∧ Steps P (lone (b.at a (.code (.region id ops false) :: k)) cs w) (lone (b.at a' k) cs w') := by
  obtain ⟨o, c, cap, s, r, tm, z, ho, hw, hr, hc, hops⟩ := h
  have h1 := step_region (P := P) (b := b) (a := a) (k := k) (cs := cs) (w := w) (ops := ops) (id := id)
  rw [hl] at h1
  have h2 : step P (lone (b.at a (.inRegion ops (0 :: l) :: k)) cs w) = .next (lone (b.at (a.put o.dst (.tuple #[goInt (-1), .bool false, z])) (.inRegion ops l :: k)) cs w) := by
    have := step_lone_select_default (cs := cs) (z := z) (stepG_comm (b := b) (a := a) (k := k) (cs := cs) (rest := l) (main := true) ho hw hk hr) hc
    rw [Frame.finish_at, ho] at this
    exact this
  obtain ⟨e, a', w', hq, harr⟩ := wp_ops l _ w hops b k cs
  cases e with
  | normal => exact ⟨a', w', hq, .head h1 (.head h2 harr)⟩
  | _ => exact hq.elim

theorem calls_select {f : FuncId} {fn : Func} {r0 r1 r2 r3 blk rest : Code} {id : Nat} {ops : Array Oper} {l : List Nat} {args : Array Value} {w : World} {R : Ending → World → Prop}
    (hf : P.funcs[f]? = some fn) (hb : fn.body = some (.seq r0 (.seq r1 (.seq r2 (.seq (.seq r3 (.seq (.region id ops false) blk)) rest))))) (hl : List.range ops.size = 0 :: l)
    (h : r0.wp P (Nx fun a w => r1.wp P (Nx fun a w => r2.wp P (Nx fun a w => r3.wp P (Nx fun a w => AtSelect P ops l (fun a w => blk.wp P (Nx fun a w => rest.wp P (bodyPostD P fn R) a w) a w) a w) a w) a w) a w) { tmps := args ++ Array.replicate (fn.ntmps - args.size) undef, defers := [] } w) : Calls P f args w R := by
  intro cs
  let b : Frame := { (default : Frame) with fn := f, kind := .normal }
  have henter : Frame.enter P f args .normal =
      b.at { tmps := args ++ Array.replicate (fn.ntmps - args.size) undef, defers := [] } [.code (.seq r0 (.seq r1 (.seq r2 (.seq (.seq r3 (.seq (.region id ops false) blk)) rest))))] := by
    simp [Frame.enter, Frame.at, hf, hb, b]
  obtain ⟨a0, w0, h0, s0⟩ := seq_next (y := .seq r1 (.seq r2 (.seq (.seq r3 (.seq (.region id ops false) blk)) rest))) h b [] cs
  obtain ⟨a1, w1, h1, s1⟩ := seq_next (y := .seq r2 (.seq (.seq r3 (.seq (.region id ops false) blk)) rest)) h0 b [] cs
  obtain ⟨a2, w2, h2, s2⟩ := seq_next (y := .seq (.seq r3 (.seq (.region id ops false) blk)) rest) h1 b [] cs
  obtain ⟨a3, w3, h3, s3⟩ := seq_next (y := .seq (.region id ops false) blk) h2 b [.code rest] cs
  obtain ⟨a4, w4, h4, s4⟩ := select_next (id := id) hl h3 b (by simp [b]) [.code blk, .code rest] cs
  obtain ⟨a5, w5, h5, s5⟩ := code_next h4 b [.code rest] cs
  obtain ⟨e, a', w', hq, harr⟩ := h5 b [] cs
  have hsteps : Steps P (lone (Frame.enter P f args .normal) cs w) (lone (b.at a5 [.code rest]) cs w5) := by
    rw [henter]
    exact ((s0.trans s1).trans s2).trans (.head step_seq (s3.trans (.head step_seq (s4.trans s5))))
  have harr' := Arrives.of_steps hsteps harr
  cases e with
  | normal =>
    obtain ⟨e', w'', fr', hR, hs, hfn, hl⟩ := leaves_steps a'.defers .returning w' { b.at a' [] with mode := .returning } cs rfl rfl rfl hf rfl hq
    exact ⟨e', w'', fr', hR, Comes.of_steps (Steps.trans harr' (.one step_end)) hs, hfn, hl⟩
  | ret =>
    obtain ⟨todo, hs₀⟩ := harr'
    obtain ⟨e', w'', fr', hR, hs, hfn, hl⟩ := leaves_steps a'.defers .returning w' { b.at a' todo with mode := .returning } cs rfl rfl rfl hf rfl hq
    exact ⟨e', w'', fr', hR, Comes.of_steps hs₀ hs, hfn, hl⟩
  | panic chain =>
    obtain ⟨todo, hs₀⟩ := harr'
    obtain ⟨e', w'', fr', hR, hs, hfn, hl⟩ := leaves_steps a'.defers (.panicking chain) w' { b.at a' todo with mode := .panicking chain } cs rfl rfl rfl hf rfl hq
    exact ⟨e', w'', fr', hR, Comes.of_steps hs₀ hs, hfn, hl⟩
  | exit id => exact hq.elim
  | goto l => exact hq.elim
  | outgrown => exact ⟨.outgrown, w', b, hq, harr'.resolve_left (by simp [b]), rfl, trivial⟩
theorem wpOps_cons {ops : Array Oper} {Q : Exit → Act → World → Prop} {a : Act} {w : World} {i : Nat} {l : List Nat} {o : Oper} (ho : ops[i]? = some o) (hw : Region.wanted o (yielded ops a.tmps) = true)
    (h : ∀ K : Act → World → Prop, (∀ a w, wpOps P ops Q l a w → K a w) → o.wp P a w K Q) : wpOps P ops Q (i :: l) a w := by
  simp only [wpOps, ho, hw, if_true]
  exact Or.inl (h _ (fun _ _ h => h))
theorem wpOps_nil {ops : Array Oper} {Q : Exit → Act → World → Prop} {a : Act} {w : World} (h : Q .normal a w) : wpOps P ops Q [] a w := h
end Go.SelWalk
