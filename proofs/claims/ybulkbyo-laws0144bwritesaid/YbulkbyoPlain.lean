/-
  Small laws for the later loops: the keys as lists, the five arrays. Typed by the prover of this seat (an AI agent).
-/
import Derived.Test.YbulkbyoMain0
import Derived.Deep.Cut
namespace Go.Proofs.Ybulkbyo
open Go.RowKit Go.MapFn
set_option maxRecDepth 100000

theorem bytes_beq {a b : ByteArray} (h : a ≠ b) : (a.toList == b.toList) = false := by
  rw [ByteArray.toList_eq, ByteArray.toList_eq]
  exact beq_eq_false_iff_ne.2 (fun e => h (WideShapes.bytes_inj e))
theorem kb_beq {i j : Int} (hi : 0 ≤ i ∧ i < 5) (hj : 0 ≤ j ∧ j < 5) (h : i ≠ j) : ((kb i).toList == (kb j).toList) = false := bytes_beq (fun e => h (kb_inj hi hj e))

/-- A row of n cells. -/
def Arr (w : World) (b : Nat) (t : TypeId) (n : Nat) (f : Nat → Value) : Prop := ∃ cs : Array Value, w.heap[b]? = some (.cells cs t) ∧ cs.size = n ∧ ∀ i, i < n → cs[i]? = some (f i)
section
variable {w w' : World} {b : Nat} {t : TypeId} {n : Nat} {f : Nat → Value}
theorem Arr.same (h : Arr w b t n f) (hb : w'.heap[b]? = w.heap[b]?) : Arr w' b t n f := by
  obtain ⟨cs, h1, h2⟩ := h; exact ⟨cs, hb.trans h1, h2⟩
theorem Arr.lt (h : Arr w b t n f) : b < w.heap.size := by obtain ⟨cs, h1, _⟩ := h; exact (Array.getElem?_eq_some_iff.1 h1).1
theorem Arr.obj (h : Arr w b t n f) : ∃ c, w.heap[b]? = some (.cells c t) := by obtain ⟨cs, h1, _⟩ := h; exact ⟨cs, h1⟩
theorem Arr.congr (h : Arr w b t n f) {g : Nat → Value} (e : ∀ i, i < n → f i = g i) : Arr w b t n g := by
  obtain ⟨cs, h1, h2, h3⟩ := h; exact ⟨cs, h1, h2, fun i hi => by rw [h3 i hi, e i hi]⟩
theorem Arr.cell (h : Arr w b t n f) {i : Nat} (hi : i < n) : w.cell? ⟨b, i, none⟩ = some (f i) := by
  obtain ⟨cs, h1, h2, h3⟩ := h
  unfold World.cell?
  rw [h1]
  exact h3 i hi
theorem Arr.frozen (h : Arr w b t n f) (i : Nat) : w.frozen? ⟨b, i, none⟩ = false := by
  obtain ⟨cs, h1, _⟩ := h
  unfold World.frozen?; rw [h1]; simp
theorem Arr.set (h : Arr w b t n f) {i : Nat} (hi : i < n) (u : Value) : Arr (w.setCell ⟨b, i, none⟩ u) b t n (fun j => if j = i then u else f j) := by
  obtain ⟨cs, h1, h2, h3⟩ := h
  refine ⟨_, setCell_at (a := ⟨b, i, none⟩) rfl h1, by simpa using h2, fun j hj => ?_⟩
  by_cases e : j = i
  · subst e; simp [h2, hi]
  · simp only [e, if_false]
    rw [Array.getElem?_setIfInBounds_ne (fun e' => e e'.symm)]
    exact h3 j hj
end

/-- The value of a write, cell by cell. -/
def wcell (v : Value) (r : Nat) : Value := match v with
  | .agg cs => cs.getD r undef
  | _ => undef

/-- The five arrays, one behind the other. -/
structure Ar (w : World) (A : Nat) (f0 f1 f2 f3 f4 : Nat → Value) : Prop where
  rv : Arr w A 66 5 f0
  rok : Arr w (A + 1) 67 5 f1
  wv : Arr w (A + 2) 68 15 f2
  wok : Arr w (A + 3) 67 5 f3
  sv : Arr w (A + 4) 67 5 f4

section
variable {w w' : World} {A : Nat} {f0 f1 f2 f3 f4 : Nat → Value}
theorem Ar.below (h : Ar w A f0 f1 f2 f3 f4) (hb : Below w.heap.size w w') : Ar w' A f0 f1 f2 f3 f4 :=
  ⟨h.rv.same (hb.block _ h.rv.lt), h.rok.same (hb.block _ h.rok.lt), h.wv.same (hb.block _ h.wv.lt), h.wok.same (hb.block _ h.wok.lt), h.sv.same (hb.block _ h.sv.lt)⟩
theorem set_far' {b j k : Nat} {u : Value} (hk : k ≠ b) : (w.setCell ⟨b, j, none⟩ u).heap[k]? = w.heap[k]? := Below.heap_setCell w ⟨b, j, none⟩ u k hk
theorem Ar.set0 (h : Ar w A f0 f1 f2 f3 f4) {i : Nat} (hi : i < 5) (u : Value) : Ar (w.setCell ⟨A, i, none⟩ u) A (fun j => if j = i then u else f0 j) f1 f2 f3 f4 :=
  ⟨h.rv.set hi u, h.rok.same (set_far' (by omega)), h.wv.same (set_far' (by omega)), h.wok.same (set_far' (by omega)), h.sv.same (set_far' (by omega))⟩
theorem Ar.set1 (h : Ar w A f0 f1 f2 f3 f4) {i : Nat} (hi : i < 5) (u : Value) : Ar (w.setCell ⟨A + 1, i, none⟩ u) A f0 (fun j => if j = i then u else f1 j) f2 f3 f4 :=
  ⟨h.rv.same (set_far' (by omega)), h.rok.set hi u, h.wv.same (set_far' (by omega)), h.wok.same (set_far' (by omega)), h.sv.same (set_far' (by omega))⟩
theorem Ar.set2 (h : Ar w A f0 f1 f2 f3 f4) {i : Nat} (hi : i < 15) (u : Value) : Ar (w.setCell ⟨A + 2, i, none⟩ u) A f0 f1 (fun j => if j = i then u else f2 j) f3 f4 :=
  ⟨h.rv.same (set_far' (by omega)), h.rok.same (set_far' (by omega)), h.wv.set hi u, h.wok.same (set_far' (by omega)), h.sv.same (set_far' (by omega))⟩
theorem Ar.set3 (h : Ar w A f0 f1 f2 f3 f4) {i : Nat} (hi : i < 5) (u : Value) : Ar (w.setCell ⟨A + 3, i, none⟩ u) A f0 f1 f2 (fun j => if j = i then u else f3 j) f4 :=
  ⟨h.rv.same (set_far' (by omega)), h.rok.same (set_far' (by omega)), h.wv.same (set_far' (by omega)), h.wok.set hi u, h.sv.same (set_far' (by omega))⟩
theorem Ar.set4 (h : Ar w A f0 f1 f2 f3 f4) {i : Nat} (hi : i < 5) (u : Value) : Ar (w.setCell ⟨A + 4, i, none⟩ u) A f0 f1 f2 f3 (fun j => if j = i then u else f4 j) :=
  ⟨h.rv.same (set_far' (by omega)), h.rok.same (set_far' (by omega)), h.wv.same (set_far' (by omega)), h.wok.same (set_far' (by omega)), h.sv.set hi u⟩
theorem Ar.congr (h : Ar w A f0 f1 f2 f3 f4) {g0 g1 g2 g3 g4 : Nat → Value} (e0 : ∀ i, i < 5 → f0 i = g0 i) (e1 : ∀ i, i < 5 → f1 i = g1 i) (e2 : ∀ i, i < 15 → f2 i = g2 i) (e3 : ∀ i, i < 5 → f3 i = g3 i) (e4 : ∀ i, i < 5 → f4 i = g4 i) : Ar w A g0 g1 g2 g3 g4 :=
  ⟨h.rv.congr e0, h.rok.congr e1, h.wv.congr e2, h.wok.congr e3, h.sv.congr e4⟩
end

section
variable {B0 T R W9 : Nat} {w : World} {lv sn : Int} {v9 v11 v12 v13 v14 : Value} {rd : Int → Option Int} {wf : Int → Option Value} {sc : Int → Option Int} {sv : Int → Option Bool}
    {n9 : Nat} {fr tw : Nat → ByteArray} {rev : Nat → Int} {n12 : Nat} {xs12 : List Value} {n13 : Nat} {xs13 : List Value} {N : Nat}
/-- A store into a block of another kind. -/
theorem St.setOther (h : St B0 w T R W9 lv sn v9 v11 v12 v13 v14 rd wf sc sv n9 fr tw rev n12 xs12 n13 xs13 N) {b j : Nat} {u : Value} {t : TypeId} (hb : ∃ c, w.heap[b]? = some (.cells c t)) (ht : t ≠ 45 ∧ t ≠ 54 ∧ t ≠ 63 ∧ t ≠ 65 ∧ t ≠ 5) :
    St B0 (w.setCell ⟨b, j, none⟩ u) T R W9 lv sn v9 v11 v12 v13 v14 rd wf sc sv n9 fr tw rev n12 xs12 n13 xs13 N := by
  obtain ⟨c, hb⟩ := hb
  have far : ∀ {k : Nat} {o : Obj}, w.heap[k]? = some o → o ≠ .cells c t → (w.setCell ⟨b, j, none⟩ u).heap[k]? = w.heap[k]? := fun hk ho => set_far' (ne_of_obj hk hb ho)
  refine h.keep_all (far h.tx (fun e => by injection e with _ e; exact ht.1 e.symm)) (fun b es c' hb' => far hb' (fun e => by cases e)) (fun b c' t' fr' hb' ht' => far hb' (fun e => ?_))
  injection e with _ e
  subst e
  rcases ht' with h | h | h | h
  · exact ht.2.1 h
  · exact ht.2.2.1 h
  · exact ht.2.2.2.1 h
  · exact ht.2.2.2.2 h
end
end Go.Proofs.Ybulkbyo
