/-
  The transaction's state in memory, and what each kind of step leaves of it. Typed by the prover of this seat (an AI agent).
-/
import Derived.Test.YbulkbyoEq
import Derived.Deep.AppendLies
namespace Go.Proofs.Ybulkbyo
open Go.RowKit Go.MapFn
set_option maxRecDepth 100000

/-- A map field: nil, or a map. -/
def MapOr {α : Type} (enc : α → Value) (w : World) (v : Value) (N : Nat) (h : Int → Option α) : Prop :=
  (v = .map none ∧ ∀ m, h m = none) ∨ ∃ b, v = .map (some b) ∧ KM enc w b N h

theorem MapOr.look {α : Type} {enc : α → Value} {w : World} {v : Value} {N : Nat} {h : Int → Option α} (k : MapOr enc w v N h) {t e : TypeId} (ht : Yba.prog.underlying t = some (.map 9 e)) {z : Value} (hz : (zeroValue e).run Yba.prog w = .ok z w) {m : Int} (h0 : 0 ≤ m) (h1 : m < 5) :
    (Instr.lookup t v (.string (kb m)) false).run Yba.prog w = .ok (((h m).map enc).getD z) w := by
  rcases k with ⟨rfl, hn⟩ | ⟨b, rfl, k⟩
  · rw [look_none ht hz m false, hn m]; rfl
  · exact k.look ht hz h0 h1

/-- The three cells of each range. -/
def rangeCells (fr to : Nat → ByteArray) (rev : Nat → Int) : Nat → List Value
  | 0 => []
  | n + 1 => rangeCells fr to rev n ++ [.string (fr n), .string (to n), .int .i64 (rev n)]
theorem rangeCells_length (fr to : Nat → ByteArray) (rev : Nat → Int) (n : Nat) : (rangeCells fr to rev n).length = n * 3 := by
  induction n with
  | zero => rfl
  | succ n ih => simp [rangeCells, ih, Nat.add_mul]
theorem rangeCells_get (fr to : Nat → ByteArray) (rev : Nat → Int) (n j : Nat) (hj : j < n) :
    (rangeCells fr to rev n)[j * 3]? = some (.string (fr j)) ∧ (rangeCells fr to rev n)[j * 3 + 1]? = some (.string (to j)) ∧ (rangeCells fr to rev n)[j * 3 + 2]? = some (.int .i64 (rev j)) := by
  induction n with
  | zero => omega
  | succ n ih =>
    have hl := rangeCells_length fr to rev n
    by_cases h : j < n
    · obtain ⟨a, b, c⟩ := ih h
      simp only [rangeCells]
      rw [List.getElem?_append_left (by omega), List.getElem?_append_left (by omega), List.getElem?_append_left (by omega)]
      exact ⟨a, b, c⟩
    · obtain rfl : j = n := by omega
      simp only [rangeCells]
      rw [List.getElem?_append_right (by omega), List.getElem?_append_right (by omega), List.getElem?_append_right (by omega), hl]
      have e1 : j * 3 - j * 3 = 0 := by omega
      have e2 : j * 3 + 1 - j * 3 = 1 := by omega
      have e3 : j * 3 + 2 - j * 3 = 2 := by omega
      rw [e1, e2, e3]
      exact ⟨rfl, rfl, rfl⟩

/-- The state. N bounds the maps' entries. -/
structure St (B0 : Nat) (w : World) (T R W9 : Nat) (lv sn : Int) (v9 v11 v12 v13 v14 : Value) (rd : Int → Option Int) (wf : Int → Option Value) (sc : Int → Option Int) (sv : Int → Option Bool)
    (n9 : Nat) (fr to : Nat → ByteArray) (rev : Nat → Int) (n12 : Nat) (xs12 : List Value) (n13 : Nat) (xs13 : List Value) (N : Nat) : Prop where
  tx : TxAt w T lv sn (.map (some R)) v9 (.map (some W9)) v11 v12 v13 v14
  reads : KM (Value.int .i64) w R N rd
  writes : KM id w W9 N wf
  wok : ∀ m v, 0 ≤ m → m < 5 → wf m = some v → WOk w v
  scans : MapOr (Value.int .i64) w v11 N sc
  saved : MapOr Value.bool w v14 N sv
  ranges : w.ownsRow B0 54 3 v9 n9 (rangeCells fr to rev n9)
  saves : w.ownsRow B0 63 2 v12 n12 xs12
  undo : w.ownsRow B0 65 5 v13 n13 xs13
  base : B0 ≤ R ∧ B0 ≤ W9 ∧ B0 ≤ T
  ne1 : R ≠ W9
  ne2 : ∀ b, v11 = .map (some b) → b ≠ R ∧ b ≠ W9 ∧ B0 ≤ b
  ne3 : ∀ b, v14 = .map (some b) → b ≠ R ∧ b ≠ W9 ∧ v11 ≠ .map (some b) ∧ B0 ≤ b

section
variable {B0 T R W9 : Nat} {w w' : World} {lv sn : Int} {v9 v11 v12 v13 v14 : Value} {rd : Int → Option Int} {wf : Int → Option Value} {sc : Int → Option Int} {sv : Int → Option Bool}
    {n9 : Nat} {fr to : Nat → ByteArray} {rev : Nat → Int} {n12 : Nat} {xs12 : List Value} {n13 : Nat} {xs13 : List Value} {N : Nat}

/-- Two blocks of different make are two. -/
theorem ne_of_obj {w : World} {a b : Nat} {o o' : Obj} (ha : w.heap[a]? = some o) (hb : w.heap[b]? = some o') (h : o ≠ o') : a ≠ b := by
  rintro rfl; rw [ha] at hb; injection hb with hb; exact h hb

theorem row_block {w : World} {base : Nat} {e : TypeId} {size : Nat} {v : Value} {n : Nat} {xs : List Value} (h : w.ownsRow base e size v n xs) {b : Nat} (hb : v.ownBlock = some b) : ∃ c, w.heap[b]? = some (Obj.cells c e) := by
  rcases h.2 with ⟨rfl, _⟩ | ⟨g, cap, cur, rfl, _, hg, _⟩
  · cases hb
  · cases hb; exact ⟨cur, hg⟩

theorem row_same {w w' : World} {base : Nat} {e : TypeId} {size : Nat} {v : Value} {n : Nat} {xs : List Value} (h : w.ownsRow base e size v n xs) (hb : ∀ (b : Nat) c, w.heap[b]? = some (Obj.cells c e) → w'.heap[b]? = w.heap[b]?) : w'.ownsRow base e size v n xs := by
  refine ⟨h.1, ?_⟩
  rcases h.2 with h0 | ⟨g, cap, cur, hv, hge, hg, r⟩
  · exact Or.inl h0
  · exact Or.inr ⟨g, cap, cur, hv, hge, by rw [hb g cur hg]; exact hg, r⟩

/-- What a step may touch: 'touched' blocks are none of these kinds, but for those named. -/
theorem St.keep_all (h : St B0 w T R W9 lv sn v9 v11 v12 v13 v14 rd wf sc sv n9 fr to rev n12 xs12 n13 xs13 N)
    (hT : w'.heap[T]? = w.heap[T]?)
    (hm : ∀ (b : Nat) es c, w.heap[b]? = some (Obj.map es c) → w'.heap[b]? = w.heap[b]?)
    (hc : ∀ (b : Nat) c t fr, w.heap[b]? = some (Obj.cells c t fr) → t = 54 ∨ t = 63 ∨ t = 65 ∨ t = 5 → w'.heap[b]? = w.heap[b]?) :
    St B0 w' T R W9 lv sn v9 v11 v12 v13 v14 rd wf sc sv n9 fr to rev n12 xs12 n13 xs13 N := by
  have km : ∀ {α : Type} {enc : α → Value} {b n : Nat} {f : Int → Option α}, KM enc w b n f → KM enc w' b n f := by
    intro α enc b n f k
    obtain ⟨es, c, hb⟩ := k.isMap
    exact k.same (hm b es c hb)
  have kb' : KeepB w w' := fun g c fr e => by rw [hc g c 5 fr e (by simp)]; exact e
  refine ⟨h.tx.same hT, km h.reads, km h.writes, fun m v h0 h1 e => (h.wok m v h0 h1 e).keep kb', ?_, ?_, ?_, ?_, ?_, h.base, h.ne1, h.ne2, h.ne3⟩
  · rcases h.scans with h | ⟨b, e, k⟩
    · exact Or.inl h
    · exact Or.inr ⟨b, e, km k⟩
  · rcases h.saved with h | ⟨b, e, k⟩
    · exact Or.inl h
    · exact Or.inr ⟨b, e, km k⟩
  · exact row_same h.ranges (fun b c e => hc b c 54 _ e (by simp))
  · exact row_same h.saves (fun b c e => hc b c 63 _ e (by simp))
  · exact row_same h.undo (fun b c e => hc b c 65 _ e (by simp))

/-- New blocks, draws, and stores into blocks of other kinds. -/
theorem St.grown (h : St B0 w T R W9 lv sn v9 v11 v12 v13 v14 rd wf sc sv n9 fr to rev n12 xs12 n13 xs13 N) {row : Option Nat} (hg : w.grownBy w' row)
    (hr : ∀ (b : Nat), row = some b → ∃ c t fr, w.heap[b]? = some (Obj.cells c t fr) ∧ t ≠ 45 ∧ t ≠ 54 ∧ t ≠ 63 ∧ t ≠ 65 ∧ t ≠ 5) :
    St B0 w' T R W9 lv sn v9 v11 v12 v13 v14 rd wf sc sv n9 fr to rev n12 xs12 n13 xs13 N := by
  have far : ∀ (b : Nat) o, w.heap[b]? = some o → (∀ c t fr, o = Obj.cells c t fr → t = 45 ∨ t = 54 ∨ t = 63 ∨ t = 65 ∨ t = 5) → w'.heap[b]? = w.heap[b]? := by
    intro b o hb ho
    refine hg.block b (Array.getElem?_eq_some_iff.1 hb).1 (fun e => ?_)
    obtain ⟨c, t, fr, hb', n1, n2, n3, n4, n5⟩ := hr b e.symm
    rw [hb] at hb'
    injection hb' with hb'
    rcases ho c t fr hb' with h | h | h | h | h <;> contradiction
  refine h.keep_all (far T _ h.tx (fun c t fr e => by cases e; simp)) (fun b es c hb => far b _ hb (fun _ _ _ e => by cases e)) (fun b c t fr hb ht => far b _ hb (fun c' t' fr' e => by cases e; rcases ht with h | h | h | h <;> simp [h]))

theorem St.below (h : St B0 w T R W9 lv sn v9 v11 v12 v13 v14 rd wf sc sv n9 fr to rev n12 xs12 n13 xs13 N) (hb : Below w.heap.size w w') :
    St B0 w' T R W9 lv sn v9 v11 v12 v13 v14 rd wf sc sv n9 fr to rev n12 xs12 n13 xs13 N :=
  h.grown (row := none) ⟨hb.os, hb.tape, hb.output, hb.size, fun k hk _ => hb.block k hk⟩ (fun b e => by cases e)

theorem St.mono (h : St B0 w T R W9 lv sn v9 v11 v12 v13 v14 rd wf sc sv n9 fr to rev n12 xs12 n13 xs13 N) {N' : Nat} (hN : N ≤ N') : St B0 w T R W9 lv sn v9 v11 v12 v13 v14 rd wf sc sv n9 fr to rev n12 xs12 n13 xs13 N' := by
  refine ⟨h.tx, h.reads.mono hN, h.writes.mono hN, h.wok, ?_, ?_, h.ranges, h.saves, h.undo, h.base, h.ne1, h.ne2, h.ne3⟩
  · rcases h.scans with h | ⟨b, e, k⟩
    · exact Or.inl h
    · exact Or.inr ⟨b, e, k.mono hN⟩
  · rcases h.saved with h | ⟨b, e, k⟩
    · exact Or.inl h
    · exact Or.inr ⟨b, e, k.mono hN⟩

/-- What a map's turn leaves. -/
theorem turned_far {b k : Nat} (ht : w.mapTurned w' b) (hk : k ≠ b) (hlt : k < w.heap.size) : w'.heap[k]? = w.heap[k]? := ht.grown.block k hlt (fun e => hk (by injection e))
theorem turned_cells {b k : Nat} {c : Array Value} {t : TypeId} {fr : Nat × Nat} (ht : w.mapTurned w' b) (hk : w.heap[k]? = some (Obj.cells c t fr)) : w'.heap[k]? = w.heap[k]? := by
  refine turned_far ht ?_ (Array.getElem?_eq_some_iff.1 hk).1
  obtain ⟨es, cl, es', cl', hb, _⟩ := ht
  exact ne_of_obj hk hb (fun e => by cases e)

theorem MapOr.same {α : Type} {enc : α → Value} {v : Value} {N : Nat} {f : Int → Option α} (k : MapOr enc w v N f) (hm : ∀ (b : Nat), v = .map (some b) → w'.heap[b]? = w.heap[b]?) : MapOr enc w' v N f := by
  rcases k with h | ⟨b, e, k⟩
  · exact Or.inl h
  · exact Or.inr ⟨b, e, k.same (hm b e)⟩

theorem St.mapLt (h : St B0 w T R W9 lv sn v9 v11 v12 v13 v14 rd wf sc sv n9 fr to rev n12 xs12 n13 xs13 N) {b : Nat} (e : v11 = .map (some b) ∨ v14 = .map (some b)) : ∃ es c, w.heap[b]? = some (Obj.map es c) := by
  rcases e with e | e
  · rcases h.scans with ⟨e', _⟩ | ⟨b', e', k⟩
    · rw [e] at e'; cases e'
    · rw [e] at e'; cases e'; exact k.isMap
  · rcases h.saved with ⟨e', _⟩ | ⟨b', e', k⟩
    · rw [e] at e'; cases e'
    · rw [e] at e'; cases e'; exact k.isMap

/-- A store into the map of reads. -/
theorem St.readsSet (h : St B0 w T R W9 lv sn v9 v11 v12 v13 v14 rd wf sc sv n9 fr to rev n12 xs12 n13 xs13 N) (ht : w.mapTurned w' R) {rd' : Int → Option Int} (k : KM (Value.int .i64) w' R (N + 1) rd') :
    St B0 w' T R W9 lv sn v9 v11 v12 v13 v14 rd' wf sc sv n9 fr to rev n12 xs12 n13 xs13 (N + 1) := by
  have h1 := h.mono (Nat.le_succ N)
  have kb' : KeepB w w' := fun g c fr e => by rw [turned_cells ht e]; exact e
  refine ⟨h.tx.same (turned_cells ht h.tx), k, h1.writes.same (turned_far ht h.ne1.symm h.writes.lt), fun m v h0 h1 e => (h.wok m v h0 h1 e).keep kb', h1.scans.same (fun b e => ?_), h1.saved.same (fun b e => ?_),
    row_same h.ranges (fun b c e => turned_cells ht e), row_same h.saves (fun b c e => turned_cells ht e), row_same h.undo (fun b c e => turned_cells ht e), h.base, h.ne1, h.ne2, h.ne3⟩
  · obtain ⟨es, c, hb⟩ := h.mapLt (.inl e)
    exact turned_far ht (h.ne2 b e).1 (Array.getElem?_eq_some_iff.1 hb).1
  · obtain ⟨es, c, hb⟩ := h.mapLt (.inr e)
    exact turned_far ht (h.ne3 b e).1 (Array.getElem?_eq_some_iff.1 hb).1

/-- A store into the map of writes. -/
theorem St.writesSet (h : St B0 w T R W9 lv sn v9 v11 v12 v13 v14 rd wf sc sv n9 fr to rev n12 xs12 n13 xs13 N) (ht : w.mapTurned w' W9) {wf' : Int → Option Value} (k : KM id w' W9 (N + 1) wf') (hok : ∀ m v, 0 ≤ m → m < 5 → wf' m = some v → WOk w v) :
    St B0 w' T R W9 lv sn v9 v11 v12 v13 v14 rd wf' sc sv n9 fr to rev n12 xs12 n13 xs13 (N + 1) := by
  have h1 := h.mono (Nat.le_succ N)
  have kb' : KeepB w w' := fun g c fr e => by rw [turned_cells ht e]; exact e
  refine ⟨h.tx.same (turned_cells ht h.tx), h1.reads.same (turned_far ht h.ne1 h.reads.lt), k, fun m v h0 h1 e => (hok m v h0 h1 e).keep kb', h1.scans.same (fun b e => ?_), h1.saved.same (fun b e => ?_),
    row_same h.ranges (fun b c e => turned_cells ht e), row_same h.saves (fun b c e => turned_cells ht e), row_same h.undo (fun b c e => turned_cells ht e), h.base, h.ne1, h.ne2, h.ne3⟩
  · obtain ⟨es, c, hb⟩ := h.mapLt (.inl e)
    exact turned_far ht (h.ne2 b e).2.1 (Array.getElem?_eq_some_iff.1 hb).1
  · obtain ⟨es, c, hb⟩ := h.mapLt (.inr e)
    exact turned_far ht (h.ne3 b e).2.1 (Array.getElem?_eq_some_iff.1 hb).1

/-- A store into the map of scans. -/
theorem St.scansSet {b11 : Nat} (h : St B0 w T R W9 lv sn v9 (.map (some b11)) v12 v13 v14 rd wf sc sv n9 fr to rev n12 xs12 n13 xs13 N) (ht : w.mapTurned w' b11) {sc' : Int → Option Int} (k : KM (Value.int .i64) w' b11 (N + 1) sc') :
    St B0 w' T R W9 lv sn v9 (.map (some b11)) v12 v13 v14 rd wf sc' sv n9 fr to rev n12 xs12 n13 xs13 (N + 1) := by
  have h1 := h.mono (Nat.le_succ N)
  have kb' : KeepB w w' := fun g c fr e => by rw [turned_cells ht e]; exact e
  have e2 := h.ne2 b11 rfl
  refine ⟨h.tx.same (turned_cells ht h.tx), h1.reads.same (turned_far ht e2.1.symm h.reads.lt), h1.writes.same (turned_far ht e2.2.1.symm h.writes.lt), fun m v h0 h1 e => (h.wok m v h0 h1 e).keep kb', Or.inr ⟨b11, rfl, k⟩, h1.saved.same (fun b e => ?_),
    row_same h.ranges (fun b c e => turned_cells ht e), row_same h.saves (fun b c e => turned_cells ht e), row_same h.undo (fun b c e => turned_cells ht e), h.base, h.ne1, h.ne2, h.ne3⟩
  obtain ⟨es, c, hb⟩ := h.mapLt (.inr e)
  exact turned_far ht (fun e' => (h.ne3 b e).2.2.1 (by rw [e'])) (Array.getElem?_eq_some_iff.1 hb).1

/-- A store into the map of saved keys. -/
theorem St.savedSet {b14 : Nat} (h : St B0 w T R W9 lv sn v9 v11 v12 v13 (.map (some b14)) rd wf sc sv n9 fr to rev n12 xs12 n13 xs13 N) (ht : w.mapTurned w' b14) {sv' : Int → Option Bool} (k : KM Value.bool w' b14 (N + 1) sv') :
    St B0 w' T R W9 lv sn v9 v11 v12 v13 (.map (some b14)) rd wf sc sv' n9 fr to rev n12 xs12 n13 xs13 (N + 1) := by
  have h1 := h.mono (Nat.le_succ N)
  have kb' : KeepB w w' := fun g c fr e => by rw [turned_cells ht e]; exact e
  have e3 := h.ne3 b14 rfl
  refine ⟨h.tx.same (turned_cells ht h.tx), h1.reads.same (turned_far ht e3.1.symm h.reads.lt), h1.writes.same (turned_far ht e3.2.1.symm h.writes.lt), fun m v h0 h1 e => (h.wok m v h0 h1 e).keep kb', h1.scans.same (fun b e => ?_), Or.inr ⟨b14, rfl, k⟩,
    row_same h.ranges (fun b c e => turned_cells ht e), row_same h.saves (fun b c e => turned_cells ht e), row_same h.undo (fun b c e => turned_cells ht e), h.base, h.ne1, h.ne2, h.ne3⟩
  obtain ⟨es, c, hb⟩ := h.mapLt (.inl e)
  exact turned_far ht (fun e' => e3.2.2.1 (by rw [e, e'])) (Array.getElem?_eq_some_iff.1 hb).1

/-- A store into the transaction's own cells. -/
theorem set_far {j k : Nat} {u : Value} (hk : k ≠ T) : (w.setCell ⟨T, j, none⟩ u).heap[k]? = w.heap[k]? := Below.heap_setCell w ⟨T, j, none⟩ u k hk
theorem set_other {j k : Nat} {u : Value} {o : Obj} (hT : TxAt w T lv sn (.map (some R)) v9 (.map (some W9)) v11 v12 v13 v14) (hk : w.heap[k]? = some o) (ho : ∀ c, o ≠ .cells c 45) : (w.setCell ⟨T, j, none⟩ u).heap[k]? = w.heap[k]? :=
  set_far (ne_of_obj hk hT (ho _))

/-- A new map for the scans. -/
theorem St.scansMake (h : St B0 w T R W9 lv sn v9 v11 v12 v13 v14 rd wf sc sv n9 fr to rev n12 xs12 n13 xs13 N) (hB : B0 ≤ w.heap.size) (h14 : v14 = .map none) :
    St B0 ((w.alloc (.map #[] 0)).setCell ⟨T, 11, none⟩ (.map (some w.heap.size))) T R W9 lv sn v9 (.map (some w.heap.size)) v12 v13 v14 rd wf (fun _ => none) sv n9 fr to rev n12 xs12 n13 xs13 N := by
  have hb : Below w.heap.size w (w.alloc (.map #[] 0)) := (Below.refl _ _).alloc (Nat.le_refl _) _
  have h1 := h.below hb
  have hT := h1.tx
  have km : ∀ {α : Type} {enc : α → Value} {b n : Nat} {f : Int → Option α}, KM enc (w.alloc (.map #[] 0)) b n f → KM enc ((w.alloc (.map #[] 0)).setCell ⟨T, 11, none⟩ (.map (some w.heap.size))) b n f := by
    intro α enc b n f k
    obtain ⟨es, c, hb⟩ := k.isMap
    exact k.same (set_other hT hb (fun c e => by cases e))
  have kb' : KeepB (w.alloc (.map #[] 0)) ((w.alloc (.map #[] 0)).setCell ⟨T, 11, none⟩ (.map (some w.heap.size))) := fun g c fr e => by rw [set_other hT e (fun c' e' => by cases e')]; exact e
  have hlt := h.reads.lt
  have hlt2 := h.writes.lt
  subst h14
  refine ⟨hT.s11 _, km h1.reads, km h1.writes, fun m v h0 h1' e => (h1.wok m v h0 h1' e).keep kb', Or.inr ⟨_, rfl, km ((KM.made _ w).mono (Nat.zero_le _))⟩, ?_, row_same h1.ranges (fun b c e => set_other hT e (fun c' e' => by cases e')), row_same h1.saves (fun b c e => set_other hT e (fun c' e' => by cases e')), row_same h1.undo (fun b c e => set_other hT e (fun c' e' => by cases e')), h.base, h.ne1, ?_, ?_⟩
  · rcases h.saved with h' | ⟨b, e, _⟩
    · exact Or.inl h'
    · cases e
  · intro b e; cases e; exact ⟨by omega, by omega, hB⟩
  · intro b e; cases e

/-- A new map for the saved keys. -/
theorem St.savedMake (h : St B0 w T R W9 lv sn v9 v11 v12 v13 v14 rd wf sc sv n9 fr to rev n12 xs12 n13 xs13 N) (hB : B0 ≤ w.heap.size) :
    St B0 ((w.alloc (.map #[] 0)).setCell ⟨T, 14, none⟩ (.map (some w.heap.size))) T R W9 lv sn v9 v11 v12 v13 (.map (some w.heap.size)) rd wf sc (fun _ => none) n9 fr to rev n12 xs12 n13 xs13 N := by
  have hb : Below w.heap.size w (w.alloc (.map #[] 0)) := (Below.refl _ _).alloc (Nat.le_refl _) _
  have h1 := h.below hb
  have hT := h1.tx
  have km : ∀ {α : Type} {enc : α → Value} {b n : Nat} {f : Int → Option α}, KM enc (w.alloc (.map #[] 0)) b n f → KM enc ((w.alloc (.map #[] 0)).setCell ⟨T, 14, none⟩ (.map (some w.heap.size))) b n f := by
    intro α enc b n f k
    obtain ⟨es, c, hb⟩ := k.isMap
    exact k.same (set_other hT hb (fun c e => by cases e))
  have kb' : KeepB (w.alloc (.map #[] 0)) ((w.alloc (.map #[] 0)).setCell ⟨T, 14, none⟩ (.map (some w.heap.size))) := fun g c fr e => by rw [set_other hT e (fun c' e' => by cases e')]; exact e
  have hlt := h.reads.lt
  have hlt2 := h.writes.lt
  refine ⟨hT.s14 _, km h1.reads, km h1.writes, fun m v h0 h1' e => (h1.wok m v h0 h1' e).keep kb', ?_, Or.inr ⟨_, rfl, km ((KM.made _ w).mono (Nat.zero_le _))⟩, row_same h1.ranges (fun b c e => set_other hT e (fun c' e' => by cases e')), row_same h1.saves (fun b c e => set_other hT e (fun c' e' => by cases e')), row_same h1.undo (fun b c e => set_other hT e (fun c' e' => by cases e')), h.base, h.ne1, h.ne2, ?_⟩
  · rcases h1.scans with h' | ⟨b, e, k⟩
    · exact Or.inl h'
    · exact Or.inr ⟨b, e, km k⟩
  · intro b e; cases e
    refine ⟨by omega, by omega, fun e => ?_, hB⟩
    obtain ⟨es, c, hb⟩ := h.mapLt (.inl e)
    have := (Array.getElem?_eq_some_iff.1 hb).1
    omega

/-- The blocks that an append onto a row of kind e leaves alone. -/
theorem append_far {e : TypeId} {size n : Nat} {v : Value} {xs : List Value} (hown : w.ownsRow B0 e size v n xs) (hg : w.grownBy w' v.ownBlock) {k : Nat} {o : Obj} (hk : w.heap[k]? = some o) (ho : ∀ c, o ≠ .cells c e) : w'.heap[k]? = w.heap[k]? := by
  refine hg.block k (Array.getElem?_eq_some_iff.1 hk).1 (fun e' => ?_)
  obtain ⟨c, hc⟩ := row_block hown e'.symm
  rw [hk] at hc
  injection hc with hc
  exact ho c hc

/-- An append onto the ranges, stored back. -/
theorem St.pushRanges (h : St B0 w T R W9 lv sn v9 v11 v12 v13 v14 rd wf sc sv n9 fr to rev n12 xs12 n13 xs13 N) (hg : w.grownBy w' v9.ownBlock) {v' : Value}
    (hown : w'.ownsRow B0 54 3 v' (n9 + 1) (rangeCells fr to rev n9 ++ [.string (fr n9), .string (to n9), .int .i64 (rev n9)])) :
    St B0 (w'.setCell ⟨T, 9, none⟩ v') T R W9 lv sn v' v11 v12 v13 v14 rd wf sc sv (n9 + 1) fr to rev n12 xs12 n13 xs13 N := by
  have far : ∀ {k : Nat} {o : Obj}, w.heap[k]? = some o → (∀ c, o ≠ .cells c 54) → w'.heap[k]? = w.heap[k]? := fun hk ho => append_far h.ranges hg hk ho
  have hT : TxAt w' T lv sn (.map (some R)) v9 (.map (some W9)) v11 v12 v13 v14 := h.tx.same (far h.tx (fun c e => by cases e))
  have far2 : ∀ {k : Nat} {o : Obj}, w.heap[k]? = some o → (∀ c, o ≠ .cells c 54) → (∀ c, o ≠ .cells c 45) → (w'.setCell ⟨T, 9, none⟩ v').heap[k]? = w.heap[k]? := fun hk ho ho' => by
    rw [set_other hT (by rw [far hk ho]; exact hk) ho', far hk ho]
  have km : ∀ {α : Type} {enc : α → Value} {b n : Nat} {f : Int → Option α}, KM enc w b n f → KM enc (w'.setCell ⟨T, 9, none⟩ v') b n f := by
    intro α enc b n f k
    obtain ⟨es, c, hb⟩ := k.isMap
    exact k.same (far2 hb (fun c e => by cases e) (fun c e => by cases e))
  have kb' : KeepB w (w'.setCell ⟨T, 9, none⟩ v') := fun g c fr e => by rw [far2 e (fun c' e' => by cases e') (fun c' e' => by cases e')]; exact e
  refine ⟨hT.s9 _, km h.reads, km h.writes, fun m v h0 h1' e => (h.wok m v h0 h1' e).keep kb', ?_, ?_, row_same hown (fun b c e => set_other hT e (fun c' e' => by cases e')), row_same h.saves (fun b c e => far2 e (fun c' e' => by cases e') (fun c' e' => by cases e')), row_same h.undo (fun b c e => far2 e (fun c' e' => by cases e') (fun c' e' => by cases e')), h.base, h.ne1, h.ne2, h.ne3⟩
  · rcases h.scans with h' | ⟨b, e, k⟩
    · exact Or.inl h'
    · exact Or.inr ⟨b, e, km k⟩
  · rcases h.saved with h' | ⟨b, e, k⟩
    · exact Or.inl h'
    · exact Or.inr ⟨b, e, km k⟩

theorem St.pushSaves (h : St B0 w T R W9 lv sn v9 v11 v12 v13 v14 rd wf sc sv n9 fr to rev n12 xs12 n13 xs13 N) (hg : w.grownBy w' v12.ownBlock) {v' : Value} {ys : List Value}
    (hown : w'.ownsRow B0 63 2 v' (n12 + 1) (xs12 ++ ys)) :
    St B0 (w'.setCell ⟨T, 12, none⟩ v') T R W9 lv sn v9 v11 v' v13 v14 rd wf sc sv n9 fr to rev (n12 + 1) (xs12 ++ ys) n13 xs13 N := by
  have far : ∀ {k : Nat} {o : Obj}, w.heap[k]? = some o → (∀ c, o ≠ .cells c 63) → w'.heap[k]? = w.heap[k]? := fun hk ho => append_far h.saves hg hk ho
  have hT : TxAt w' T lv sn (.map (some R)) v9 (.map (some W9)) v11 v12 v13 v14 := h.tx.same (far h.tx (fun c e => by cases e))
  have far2 : ∀ {k : Nat} {o : Obj}, w.heap[k]? = some o → (∀ c, o ≠ .cells c 63) → (∀ c, o ≠ .cells c 45) → (w'.setCell ⟨T, 12, none⟩ v').heap[k]? = w.heap[k]? := fun hk ho ho' => by
    rw [set_other hT (by rw [far hk ho]; exact hk) ho', far hk ho]
  have km : ∀ {α : Type} {enc : α → Value} {b n : Nat} {f : Int → Option α}, KM enc w b n f → KM enc (w'.setCell ⟨T, 12, none⟩ v') b n f := by
    intro α enc b n f k
    obtain ⟨es, c, hb⟩ := k.isMap
    exact k.same (far2 hb (fun c e => by cases e) (fun c e => by cases e))
  have kb' : KeepB w (w'.setCell ⟨T, 12, none⟩ v') := fun g c fr e => by rw [far2 e (fun c' e' => by cases e') (fun c' e' => by cases e')]; exact e
  refine ⟨hT.s12 _, km h.reads, km h.writes, fun m v h0 h1' e => (h.wok m v h0 h1' e).keep kb', ?_, ?_, row_same h.ranges (fun b c e => far2 e (fun c' e' => by cases e') (fun c' e' => by cases e')), row_same hown (fun b c e => set_other hT e (fun c' e' => by cases e')), row_same h.undo (fun b c e => far2 e (fun c' e' => by cases e') (fun c' e' => by cases e')), h.base, h.ne1, h.ne2, h.ne3⟩
  · rcases h.scans with h' | ⟨b, e, k⟩
    · exact Or.inl h'
    · exact Or.inr ⟨b, e, km k⟩
  · rcases h.saved with h' | ⟨b, e, k⟩
    · exact Or.inl h'
    · exact Or.inr ⟨b, e, km k⟩

theorem St.pushUndo (h : St B0 w T R W9 lv sn v9 v11 v12 v13 v14 rd wf sc sv n9 fr to rev n12 xs12 n13 xs13 N) (hg : w.grownBy w' v13.ownBlock) {v' : Value} {ys : List Value}
    (hown : w'.ownsRow B0 65 5 v' (n13 + 1) (xs13 ++ ys)) :
    St B0 (w'.setCell ⟨T, 13, none⟩ v') T R W9 lv sn v9 v11 v12 v' v14 rd wf sc sv n9 fr to rev n12 xs12 (n13 + 1) (xs13 ++ ys) N := by
  have far : ∀ {k : Nat} {o : Obj}, w.heap[k]? = some o → (∀ c, o ≠ .cells c 65) → w'.heap[k]? = w.heap[k]? := fun hk ho => append_far h.undo hg hk ho
  have hT : TxAt w' T lv sn (.map (some R)) v9 (.map (some W9)) v11 v12 v13 v14 := h.tx.same (far h.tx (fun c e => by cases e))
  have far2 : ∀ {k : Nat} {o : Obj}, w.heap[k]? = some o → (∀ c, o ≠ .cells c 65) → (∀ c, o ≠ .cells c 45) → (w'.setCell ⟨T, 13, none⟩ v').heap[k]? = w.heap[k]? := fun hk ho ho' => by
    rw [set_other hT (by rw [far hk ho]; exact hk) ho', far hk ho]
  have km : ∀ {α : Type} {enc : α → Value} {b n : Nat} {f : Int → Option α}, KM enc w b n f → KM enc (w'.setCell ⟨T, 13, none⟩ v') b n f := by
    intro α enc b n f k
    obtain ⟨es, c, hb⟩ := k.isMap
    exact k.same (far2 hb (fun c e => by cases e) (fun c e => by cases e))
  have kb' : KeepB w (w'.setCell ⟨T, 13, none⟩ v') := fun g c fr e => by rw [far2 e (fun c' e' => by cases e') (fun c' e' => by cases e')]; exact e
  refine ⟨hT.s13 _, km h.reads, km h.writes, fun m v h0 h1' e => (h.wok m v h0 h1' e).keep kb', ?_, ?_, row_same h.ranges (fun b c e => far2 e (fun c' e' => by cases e') (fun c' e' => by cases e')), row_same h.saves (fun b c e => far2 e (fun c' e' => by cases e') (fun c' e' => by cases e')), row_same hown (fun b c e => set_other hT e (fun c' e' => by cases e')), h.base, h.ne1, h.ne2, h.ne3⟩
  · rcases h.scans with h' | ⟨b, e, k⟩
    · exact Or.inl h'
    · exact Or.inr ⟨b, e, km k⟩
  · rcases h.saved with h' | ⟨b, e, k⟩
    · exact Or.inl h'
    · exact Or.inr ⟨b, e, km k⟩

theorem St.rangesAt (h : St B0 w T R W9 lv sn v9 v11 v12 v13 v14 rd wf sc sv n9 fr to rev n12 xs12 n13 xs13 N) : RangesAt w v9 n9 fr to rev := by
  rcases h.ranges.2 with ⟨e, hz⟩ | ⟨g, cap, cur, e, _, hg, h1, _, _, h4⟩
  · exact Or.inl ⟨hz, e⟩
  · refine Or.inr ⟨g, cap, e, h1, (Array.getElem?_eq_some_iff.1 hg).1, fun j hj => ?_⟩
    have get : ∀ i, i < n9 * 3 → w.cell? ⟨g, i, none⟩ = (rangeCells fr to rev n9)[i]? := by
      intro i hi
      rw [← h4, List.getElem?_take_of_lt hi]
      simp [World.cell?, hg]
    obtain ⟨a, b, c⟩ := rangeCells_get fr to rev n9 j hj
    rw [get _ (by omega), get _ (by omega), get _ (by omega)]
    exact ⟨a, b, c⟩
end
end Go.Proofs.Ybulkbyo
