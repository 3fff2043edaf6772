/-
  A slice of bytes as a list of numbers: 'Row' (the call's own, or nil), 'Seen' (any that reads so); the frame 'Kp'; the append. Typed by the prover of this seat (an AI agent).
-/
import Derived.Test.YbulkbzcFmtProg
import Derived.KernelRfl
import Derived.Below
import Derived.WalkKit
import Derived.Deep.AppendLies
import Derived.Deep.Onto
namespace Go.Proofs.YbulkbzcFmt
open Go.RowKit
set_option maxRecDepth 100000

theorem hidI {p : Prop} (h : p) : Hid p := h

/-- Nothing has turned but rows of bytes from B on. -/
structure Kp (B : Nat) (w w' : World) : Prop where
  os : w'.os = w.os
  tape : w'.tape = w.tape
  output : w'.output = w.output
  size : w.heap.size ≤ w'.heap.size
  block : ∀ k, k < w.heap.size → (k < B ∨ ∀ c fr, w.heap[k]? ≠ some (.cells c 5 fr)) → w'.heap[k]? = w.heap[k]?

theorem Kp.refl (B : Nat) (w : World) : Kp B w w := ⟨rfl, rfl, rfl, Nat.le_refl _, fun _ _ _ => rfl⟩
theorem Kp.trans {B : Nat} {a b c : World} (h : Kp B a b) (k : Kp B b c) : Kp B a c :=
  ⟨k.os.trans h.os, k.tape.trans h.tape, k.output.trans h.output, Nat.le_trans h.size k.size, fun i hi hc => by
    have e := h.block i hi hc
    rw [k.block i (Nat.lt_of_lt_of_le hi h.size) (hc.imp id fun h c fr => by rw [e]; exact h c fr), e]⟩
theorem Kp.of_below {B : Nat} {w w' : World} (h : Below w.heap.size w w') : Kp B w w' := ⟨h.os, h.tape, h.output, h.size, fun k hk _ => h.block k hk⟩
theorem Kp.below {B : Nat} {w w' : World} (h : Kp B w w') (hB : B ≤ w.heap.size) : Below B w w' := ⟨h.os, h.tape, h.output, h.size, fun k hk => h.block k (by omega) (Or.inl hk)⟩
theorem Kp.mono {B B' : Nat} {w w' : World} (h : Kp B w w') (hB : B' ≤ B) : Kp B' w w' := ⟨h.os, h.tape, h.output, h.size, fun k hk hc => h.block k hk (hc.imp (fun h => by omega) id)⟩
theorem Kp.other {B : Nat} {w w' : World} (h : Kp B w w') {k : Nat} {c : Array Value} {t : TypeId} {fr : Nat × Nat} (hk : w.heap[k]? = some (.cells c t fr)) (ht : t ≠ 5) : w'.heap[k]? = some (.cells c t fr) :=
  (h.block k (Array.getElem?_eq_some_iff.1 hk).1 (Or.inr fun c' fr' e => by rw [hk] at e; cases e; exact ht rfl)).trans hk

/-- The call's own bytes. -/
def Row (B : Nat) (w : World) (v : Value) (zs : List Int) : Prop := w.ownsRow B 5 1 v zs.length (zs.map (Value.int .u8))

/-- Bytes that are there. -/
def Seen (w : World) (v : Value) (zs : List Int) : Prop :=
  ∃ a c, v = .slice a zs.length c ∧ zs.length ≤ c ∧ ∀ i, i < zs.length → ∃ b off, a = some ⟨b, off, none⟩ ∧ w.cell? ⟨b, off + i, none⟩ = some (.int .u8 (zs.getD i 0))

theorem Row.below {B : Nat} {w w' : World} {v : Value} {zs : List Int} (h : Row B w v zs) (hb : Below w.heap.size w w') : Row B w' v zs := by
  refine ⟨h.1, ?_⟩
  rcases h.2 with hn | ⟨g, cap, cur, e, hb', hg, rest⟩
  · exact .inl hn
  · exact .inr ⟨g, cap, cur, e, hb', (hb.block g (Array.getElem?_eq_some_iff.1 hg).1).trans hg, rest⟩
theorem Row.mono {B B' : Nat} {w : World} {v : Value} {zs : List Int} (h : Row B w v zs) (hB : B' ≤ B) : Row B' w v zs := World.ownsRow.mono h hB

theorem Row.seen {B : Nat} {w : World} {v : Value} {zs : List Int} (h : Row B w v zs) : Seen w v zs := by
  rcases h.2 with ⟨e, hz⟩ | ⟨g, cap, cur, e, hb', hg, hc, rest⟩
  · exact ⟨none, 0, by rw [hz]; exact e, by omega, fun i hi => by omega⟩
  · refine ⟨some ⟨g, 0, none⟩, cap, e, hc, fun i hi => ⟨g, 0, rfl, ?_⟩⟩
    have := World.ownsRow.cells h (g := g) (by rw [e]; rfl) i (.int .u8 (zs.getD i 0)) (by simp [hi])
    rwa [WideShapes.add_plain] at this

theorem Seen.below {w w' : World} {v : Value} {zs : List Int} (h : Seen w v zs) (hb : Below w.heap.size w w') : Seen w' v zs := by
  obtain ⟨a, c, e, hc, h⟩ := h
  refine ⟨a, c, e, hc, fun i hi => ?_⟩
  obtain ⟨b, off, ea, h⟩ := h i hi
  exact ⟨b, off, ea, by rw [hb.cell (World.block_lt_of_cell? w _ h)]; exact h⟩

theorem info5 : (Ybaf.prog.info? 5).map (fun i => (i.zero, i.size, i.bytes)) = some (some (.int .u8 0), 1, 1) := by kernel_rfl
theorem info_parts {P : Program} {T : TypeId} {z : Value} {s b : Nat} (h : (P.info? T).map (fun i => (i.zero, i.size, i.bytes)) = some (some z, s, b)) : ∃ i, P.info? T = some i ∧ i.zero = some z ∧ i.size = s ∧ i.bytes = b := by
  cases e : P.info? T with
  | none => rw [e] at h; cases h
  | some i => rw [e] at h; simp at h; exact ⟨i, rfl, h⟩

/-- append of a literal of bytes that has just been laid. -/
theorem Row.append {B : Nat} {w : World} {v : Value} {zs : List Int} (h : Row B w v zs) (hB : B ≤ w.heap.size) (news : List Int) (hlen : zs.length + news.length ≤ 100000) (ty : TypeId) :
    ∃ v' w', (Builtin.append_ #[22, 22] ty #[v, .slice (some ⟨w.heap.size, 0, none⟩) news.length news.length]).run Ybaf.prog (w.alloc (.cells (news.map (Value.int .u8)).toArray 5)) = .ok v' w' ∧ Row B w' v' (zs ++ news) ∧ Kp B w w' := by
  obtain ⟨i, hi, h0, h1, h2⟩ := info_parts info5
  have hrow : (w.alloc (.cells (news.map (Value.int .u8)).toArray 5)).ownsRow B 5 1 v zs.length (zs.map (Value.int .u8)) := World.ownsRow.alloc h _
  have hnews : ∀ j u, (news.map (Value.int .u8))[j]? = some u → (w.alloc (.cells (news.map (Value.int .u8)).toArray 5)).cell? ((⟨w.heap.size, 0, none⟩ : Addr).add j) = some u :=
    fun j u hu => World.news_of_block (cs := (news.map (Value.int .u8)).toArray) (t := 5) (fr := (0, 0)) (heap_alloc_new w _) j u (by simpa using hu)
  obtain ⟨v', w', hr, ho, hg, _⟩ := run_append_own (P := Ybaf.prog) (w.alloc (.cells (news.map (Value.int .u8)).toArray 5)) B 22 ty 5 i (.int .u8 0) 1 1 Ybaf.underlying22 hi h0 h1 h2 rfl (by decide) v zs.length (zs.map (Value.int .u8)) hrow
    ⟨w.heap.size, 0, none⟩ news.length news.length (news.map (Value.int .u8)) (by simp) hnews (by intro u hu; simp only [List.mem_map] at hu; obtain ⟨x, _, rfl⟩ := hu; rfl) (by unfold maxLen; omega) (by omega) (by simp; omega)
  refine ⟨v', w', hr, ?_, ?_⟩
  · unfold Row
    rw [List.length_append, List.map_append]
    exact ho
  · refine ⟨hg.os, hg.tape, hg.output, Nat.le_trans (by simp) hg.size, fun k hk hc => ?_⟩
    have e1 := Below.heap_alloc w (.cells (news.map (Value.int .u8)).toArray 5) k hk
    rw [hg.block k (by simp; omega) ?_, e1]
    intro e
    obtain ⟨g1, g2⟩ := hrow.lt k e.symm
    rcases hc with hc | hc
    · omega
    · rcases h.2 with ⟨e', _⟩ | ⟨g, cap, cur, e', _, hg', _⟩
      · rw [e'] at e; cases e
      · rw [e'] at e; cases e; exact hc _ _ hg'

/-- The same, at the operation. -/
theorem wpList_row {ops : Array Oper} {rest : List Oper} {o : Oper} {a : Act} {Q : Exit → Act → World → Prop} (hgd : o.guard = none) (s x : Operand)
    (ho : o.op = .call { callee := .builtin .append, args := #[s, x], argTypes := #[22, 22] })
    {B : Nat} {w : World} {v : Value} {zs : List Int} (h : Row B w v zs) (hB : B ≤ w.heap.size) (news : List Int) (hlen : zs.length + news.length ≤ 100000)
    (cs : Array Value) (hcs : cs = (news.map (Value.int .u8)).toArray) (H : Nat) (hH : H = w.heap.size) (m : Nat) (hm : m = news.length) (hs : a.eval s = v) (hx : a.eval x = .slice (some ⟨H, 0, none⟩) m m)
    (k : ∀ v' w', Row B w' v' (zs ++ news) → Kp B w w' → wpList Ybaf.prog ops Q rest (a.put o.dst v') w') : wpList Ybaf.prog ops Q (o :: rest) a (w.alloc (.cells cs 5)) := by
  subst hcs hH hm
  obtain ⟨v', w', hr, h1, h2⟩ := h.append hB news hlen o.type
  refine wpList_plain hgd fun _ hK => ?_
  unfold Oper.wp execOp
  simp only [ho, resolve, invoke, builtin, Sem.run_bind, Sem.run_pure, Result.andThen_ok, List.map_toArray, List.map_cons, List.map_nil, hs, hx, hr]
  exact hK _ _ (k v' w' h1 h2)

/-- The same, at a step of a region that draws. -/
theorem step_row {ops : Array Oper} {o : Oper} {a : Act} {K : Act → World → Prop} {Q : Exit → Act → World → Prop} {E : Prop} (hgd : o.guard = none) (s x : Operand)
    (ho : o.op = .call { callee := .builtin .append, args := #[s, x], argTypes := #[22, 22] })
    {B : Nat} {w W : World} {v : Value} {zs : List Int} (h : Row B w v zs) (hB : B ≤ w.heap.size) (news : List Int) (hlen : zs.length + news.length ≤ 100000)
    (hW : W = w.alloc (.cells (news.map (Value.int .u8)).toArray 5)) (H : Nat) (hH : H = w.heap.size) (m : Nat) (hm : m = news.length) (hs : a.eval s = v) (hx : a.eval x = .slice (some ⟨H, 0, none⟩) m m)
    (k : ∀ v' w', Row B w' v' (zs ++ news) → Kp B w w' → K (a.put o.dst v') w') :
    if Region.wanted o (yielded ops a.tmps) = true then Oper.wp Ybaf.prog o a W K Q else E := by
  subst hW hH hm
  have hw : Region.wanted o (yielded ops a.tmps) = true := by unfold Region.wanted; rw [hgd]
  rw [if_pos hw]
  obtain ⟨v', w', hr, h1, h2⟩ := h.append hB news hlen o.type
  unfold Oper.wp execOp
  simp only [ho, resolve, invoke, builtin, Sem.run_bind, Sem.run_pure, Result.andThen_ok, List.map_toArray, List.map_cons, List.map_nil, hs, hx, hr]
  exact k v' w' h1 h2

/-- A call of a Go function by its contract, at a step of a region that draws: for 'go_region_law'. -/
theorem step_go {P : Program} {ops : Array Oper} {o : Oper} {a : Act} {w : World} {K : Act → World → Prop} {Q : Exit → Act → World → Prop} {E : Prop} {f : FuncId} {fn : Func} {c : Code}
    (hf : P.funcs[f]? = some fn) (hname : (fn.name == "runtime.NumGoroutine") = false) (hb : fn.body = some c) (hgd : o.guard = none) (xs : List Operand) (ts : Array TypeId)
    (ho : o.op = .call { callee := .value (.func f), args := xs.toArray, argTypes := ts }) (args : List Value) (hargs : xs.map a.eval = args) (R : Value → World → Prop)
    (hc : Calls P f args.toArray w fun e w' => ∃ v, e = .returned v ∧ R v w') (k : ∀ v w', R v w' → K (a.put o.dst v) w') :
    if Region.wanted o (yielded ops a.tmps) = true then Oper.wp P o a w K Q else E := by
  have hw : Region.wanted o (yielded ops a.tmps) = true := by simp [Region.wanted, hgd]
  rw [if_pos hw]
  subst hargs
  have h1 : fn.name ≠ "runtime.NumGoroutine" := by simpa using hname
  have hr : (execOp a.eval o).run P w = .ok (.enter f (xs.map a.eval).toArray) w := by
    unfold execOp
    simp only [ho]
    simp [resolve, Deferred.ofValue, Act.eval, invoke, callFunc, hf, h1, hb]
  unfold Oper.wp
  rw [hr]
  refine hc.mono ?_
  rintro e w' ⟨v, rfl, h⟩
  exact k v w' h
end Go.Proofs.YbulkbzcFmt
