/-
  The small functions of the road of 'LawS0144BWrite': keys, bounds, 'contains', 'bytes.Equal', the equality of writes. Typed by the prover of this seat (an AI agent).
-/
import Derived.Test.YbulkbyoProg
import Derived.Test.YbulkbyoMapFn
import Derived.KernelRfl
import Derived.WalkKit
import Derived.WalkSpells
import Derived.WalkLawsBesides
import Derived.Carry
import Derived.Deep.QuietTactic
import Derived.BigQuiet
import Derived.Deep.DeepMust
namespace Go.Proofs.Ybulkbyo
open Go.RowKit Go.MapFn
open Go.Maps (Keyed)
set_option maxRecDepth 100000

theorem hidI {p : Prop} (h : p) : Hid p := h

/-- The five keys. -/
def kb (i : Int) : ByteArray := if i = 0 then ⟨#[97]⟩ else if i = 1 then ⟨#[98]⟩ else if i = 2 then ⟨#[97, 98]⟩ else if i = 3 then ⟨#[99]⟩ else ⟨#[]⟩
/-- The six bounds. -/
def bb (i : Int) : ByteArray := if i = 0 then ⟨#[]⟩ else if i = 1 then ⟨#[97]⟩ else if i = 2 then ⟨#[98]⟩ else if i = 3 then ⟨#[99]⟩ else if i = 4 then ⟨#[97, 98]⟩ else ⟨#[98, 99]⟩

theorem kb_size (i : Int) : (kb i).size ≤ 2 := by unfold kb; repeat' split
                                                  all_goals decide
theorem kb_inj {i j : Int} (hi : 0 ≤ i ∧ i < 5) (hj : 0 ≤ j ∧ j < 5) (h : kb i = kb j) : i = j := by
  have hi' : i = 0 ∨ i = 1 ∨ i = 2 ∨ i = 3 ∨ i = 4 := by omega
  have hj' : j = 0 ∨ j = 1 ∨ j = 2 ∨ j = 3 ∨ j = 4 := by omega
  rcases hi' with rfl | rfl | rfl | rfl | rfl <;> rcases hj' with rfl | rfl | rfl | rfl | rfl <;> first | rfl | (exfalso; revert h; decide)

theorem key_any (i : Int) (h0 : 0 ≤ i) (h1 : i ≤ 255) (w : World) : Calls Yba.prog 5 #[.int .u8 i] w fun e w' => e = .returned (.string (kb (i % 5))) ∧ w' = w := by
  have hm : i % 5 = 0 ∨ i % 5 = 1 ∨ i % 5 = 2 ∨ i % 5 = 3 ∨ i % 5 = 4 := by omega
  rcases hm with hm | hm | hm | hm | hm
  all_goals
    rw [hm]
    have HM := hidI hm
    go_enter Yba.func5, Yba.ntmps5
    go_wp2
    go_ret
    exact ⟨rfl, rfl⟩

theorem bound_any (i : Int) (h0 : 0 ≤ i) (h1 : i ≤ 255) (w : World) : Calls Yba.prog 6 #[.int .u8 i] w fun e w' => e = .returned (.string (bb (i % 6))) ∧ w' = w := by
  have hm : i % 6 = 0 ∨ i % 6 = 1 ∨ i % 6 = 2 ∨ i % 6 = 3 ∨ i % 6 = 4 ∨ i % 6 = 5 := by omega
  rcases hm with hm | hm | hm | hm | hm | hm
  all_goals
    rw [hm]
    go_enter Yba.func6, Yba.ntmps6
    go_wp2
    go_ret
    exact ⟨rfl, rfl⟩

/-- 'key >= from && (to == "" || key < to)', as the walk writes it. -/
def within (k f t : ByteArray) : Bool := !(Op.bytesLess k.toList f.toList) && (t.toList.isEmpty || Op.bytesLess k.toList t.toList)

theorem contains_any (k f t : ByteArray) (w : World) : Calls Yba.prog 16 #[.agg #[.string f, .string t], .string k] w fun e w' => e = .returned (.bool (within k f t)) ∧ Below w.heap.size w w' := by
  unfold within
  cases h1 : Op.bytesLess k.toList f.toList <;> cases h2 : t.toList.isEmpty <;> cases h3 : Op.bytesLess k.toList t.toList
  all_goals
    go_enter Yba.func16, Yba.ntmps16
    go_wp2
    go_ret
    exact ⟨rfl, (Below.refl _ _).alloc (Nat.le_refl _) _⟩

theorem lawS : Keyed Yba.prog 9 := Maps.string_keyed Yba.underlying9
theorem keyS (m : Int) : keyOf Yba.prog 9 (.string (kb m)) = some (.string (kb m).data.toList) := WideMaps.keyOf_string_mk Yba.underlying9 (by have := kb_size m; unfold maxLen; omega)

/-- A map keyed by strings, as far as the five keys go. -/
def KM {α : Type} (enc : α → Value) (w : World) (b n : Nat) (h : Int → Option α) : Prop :=
  ∃ f, MapIs Yba.prog 9 w b n f ∧ ∀ m, 0 ≤ m → m < 5 → f (.string (kb m)) = (h m).map enc

theorem KM.made {α : Type} (enc : α → Value) (w : World) : KM enc (w.alloc (.map #[] 0)) w.heap.size 0 (fun _ => none) := ⟨_, MapIs.made _ _ _, fun _ _ _ => rfl⟩
theorem KM.same {α : Type} {enc : α → Value} {w w' : World} {b n : Nat} {h : Int → Option α} (k : KM enc w b n h) (hb : w'.heap[b]? = w.heap[b]?) : KM enc w' b n h := by
  obtain ⟨f, hm, hf⟩ := k; exact ⟨f, hm.same hb, hf⟩
theorem KM.lt {α : Type} {enc : α → Value} {w : World} {b n : Nat} {h : Int → Option α} (k : KM enc w b n h) : b < w.heap.size := by obtain ⟨f, hm, _⟩ := k; exact hm.lt
theorem KM.mono {α : Type} {enc : α → Value} {w : World} {b n n' : Nat} {h : Int → Option α} (k : KM enc w b n h) (hn : n ≤ n') : KM enc w b n' h := by
  obtain ⟨f, hm, hf⟩ := k; exact ⟨f, hm.mono hn, hf⟩
theorem KM.isMap {α : Type} {enc : α → Value} {w : World} {b n : Nat} {h : Int → Option α} (k : KM enc w b n h) : ∃ es c, w.heap[b]? = some (.map es c) := by
  obtain ⟨f, ⟨D, ⟨es, c, hb, _⟩, _⟩, _⟩ := k; exact ⟨es, c, hb⟩
theorem KM.congr {α : Type} {enc : α → Value} {w : World} {b n : Nat} {h h' : Int → Option α} (k : KM enc w b n h) (he : ∀ m, 0 ≤ m → m < 5 → h m = h' m) : KM enc w b n h' := by
  obtain ⟨f, hm, hf⟩ := k; exact ⟨f, hm, fun m h0 h1 => by rw [hf m h0 h1, he m h0 h1]⟩

theorem KM.look_ok {α : Type} {enc : α → Value} {w : World} {b n : Nat} {h : Int → Option α} (k : KM enc w b n h) {t e : TypeId} (ht : Yba.prog.underlying t = some (.map 9 e)) {z : Value} (hz : (zeroValue e).run Yba.prog w = .ok z w) {m : Int} (h0 : 0 ≤ m) (h1 : m < 5) :
    (Instr.lookup t (.map (some b)) (.string (kb m)) true).run Yba.prog w = .ok (.tuple #[((h m).map enc).getD z, .bool (h m).isSome]) w := by
  obtain ⟨f, hm, hf⟩ := k
  have := hm.look_ok lawS ht hz (keyS m)
  rw [hf m h0 h1] at this
  simpa using this
theorem KM.look {α : Type} {enc : α → Value} {w : World} {b n : Nat} {h : Int → Option α} (k : KM enc w b n h) {t e : TypeId} (ht : Yba.prog.underlying t = some (.map 9 e)) {z : Value} (hz : (zeroValue e).run Yba.prog w = .ok z w) {m : Int} (h0 : 0 ≤ m) (h1 : m < 5) :
    (Instr.lookup t (.map (some b)) (.string (kb m)) false).run Yba.prog w = .ok (((h m).map enc).getD z) w := by
  obtain ⟨f, hm, hf⟩ := k
  have := hm.look lawS ht hz (keyS m)
  rw [hf m h0 h1] at this
  exact this
theorem KM.store {α : Type} {enc : α → Value} {w : World} {b n : Nat} {h : Int → Option α} (k : KM enc w b n h) {t e : TypeId} (ht : Yba.prog.underlying t = some (.map 9 e)) (hn : n < maxLen) {m : Int} (h0 : 0 ≤ m) (h1 : m < 5) (x : α) :
    ∃ w', (Instr.mapUpdate t (.map (some b)) (.string (kb m)) (enc x)).run Yba.prog w = .ok () w' ∧ KM enc w' b (n + 1) (fun j => if j = m then some x else h j) ∧ w.mapTurned w' b := by
  obtain ⟨f, hm, hf⟩ := k
  obtain ⟨w', f', hrun, hm', e1, e2, ht'⟩ := hm.store lawS ht hn (keyS m) (val := enc x)
  refine ⟨w', hrun, ⟨f', hm', fun j j0 j1 => ?_⟩, ht'⟩
  by_cases hj : j = m
  · subst hj; rw [e1]; simp
  · rw [e2 _ (fun e => hj (kb_inj ⟨j0, j1⟩ ⟨h0, h1⟩ (by injection e))), hf j j0 j1]; simp [hj]

theorem look_none {t e : TypeId} (ht : Yba.prog.underlying t = some (.map 9 e)) {z : Value} {w : World} (hz : (zeroValue e).run Yba.prog w = .ok z w) (m : Int) (c : Bool) :
    (Instr.lookup t (.map none) (.string (kb m)) c).run Yba.prog w = .ok (if c then .tuple #[z, .bool false] else z) w := Maps.look_nil c lawS ht hz (keyS m)

/-- The transaction in memory. -/
def TxAt (w : World) (T : Nat) (lv sn : Int) (v8 v9 v10 v11 v12 v13 v14 : Value) : Prop :=
  w.heap[T]? = some (.cells #[.pointer none, .int .i64 lv, .int .i64 sn, .bool false, .nilIface, .pointer none, .int .i64 0, .nilFunc, v8, v9, v10, v11, v12, v13, v14] 45)

section
variable {w : World} {T : Nat} {lv sn : Int} {v8 v9 v10 v11 v12 v13 v14 : Value}
theorem TxAt.lt (h : TxAt w T lv sn v8 v9 v10 v11 v12 v13 v14) : T < w.heap.size := (Array.getElem?_eq_some_iff.1 h).1
theorem TxAt.same {w' : World} (h : TxAt w T lv sn v8 v9 v10 v11 v12 v13 v14) (hb : w'.heap[T]? = w.heap[T]?) : TxAt w' T lv sn v8 v9 v10 v11 v12 v13 v14 := hb.trans h
theorem TxAt.frozen (h : TxAt w T lv sn v8 v9 v10 v11 v12 v13 v14) (j : Nat) : w.frozen? ⟨T, j, none⟩ = false := by
  unfold World.frozen?; rw [h]; simp
theorem TxAt.c1 (h : TxAt w T lv sn v8 v9 v10 v11 v12 v13 v14) : w.cell? ⟨T, 1, none⟩ = some (.int .i64 lv) := by unfold World.cell?; rw [h]; rfl
theorem TxAt.c2 (h : TxAt w T lv sn v8 v9 v10 v11 v12 v13 v14) : w.cell? ⟨T, 2, none⟩ = some (.int .i64 sn) := by unfold World.cell?; rw [h]; rfl
theorem TxAt.c8 (h : TxAt w T lv sn v8 v9 v10 v11 v12 v13 v14) : w.cell? ⟨T, 8, none⟩ = some v8 := by unfold World.cell?; rw [h]; rfl
theorem TxAt.c9 (h : TxAt w T lv sn v8 v9 v10 v11 v12 v13 v14) : w.cell? ⟨T, 9, none⟩ = some v9 := by unfold World.cell?; rw [h]; rfl
theorem TxAt.c10 (h : TxAt w T lv sn v8 v9 v10 v11 v12 v13 v14) : w.cell? ⟨T, 10, none⟩ = some v10 := by unfold World.cell?; rw [h]; rfl
theorem TxAt.c11 (h : TxAt w T lv sn v8 v9 v10 v11 v12 v13 v14) : w.cell? ⟨T, 11, none⟩ = some v11 := by unfold World.cell?; rw [h]; rfl
theorem TxAt.c12 (h : TxAt w T lv sn v8 v9 v10 v11 v12 v13 v14) : w.cell? ⟨T, 12, none⟩ = some v12 := by unfold World.cell?; rw [h]; rfl
theorem TxAt.c13 (h : TxAt w T lv sn v8 v9 v10 v11 v12 v13 v14) : w.cell? ⟨T, 13, none⟩ = some v13 := by unfold World.cell?; rw [h]; rfl
theorem TxAt.c14 (h : TxAt w T lv sn v8 v9 v10 v11 v12 v13 v14) : w.cell? ⟨T, 14, none⟩ = some v14 := by unfold World.cell?; rw [h]; rfl
theorem setCell_at {w : World} {a : Addr} {u : Value} {c : Array Value} {e : TypeId} (hs : a.spot = none) (h : w.heap[a.block]? = some (.cells c e)) : (w.setCell a u).heap[a.block]? = some (.cells (c.setIfInBounds a.off u) e) := by
  unfold World.setCell
  simp [Array.getElem?_modify, h, hs]
theorem TxAt.s9 (h : TxAt w T lv sn v8 v9 v10 v11 v12 v13 v14) (u : Value) : TxAt (w.setCell ⟨T, 9, none⟩ u) T lv sn v8 u v10 v11 v12 v13 v14 := setCell_at (a := ⟨T, 9, none⟩) rfl h
theorem TxAt.s11 (h : TxAt w T lv sn v8 v9 v10 v11 v12 v13 v14) (u : Value) : TxAt (w.setCell ⟨T, 11, none⟩ u) T lv sn v8 v9 v10 u v12 v13 v14 := setCell_at (a := ⟨T, 11, none⟩) rfl h
theorem TxAt.s12 (h : TxAt w T lv sn v8 v9 v10 v11 v12 v13 v14) (u : Value) : TxAt (w.setCell ⟨T, 12, none⟩ u) T lv sn v8 v9 v10 v11 u v13 v14 := setCell_at (a := ⟨T, 12, none⟩) rfl h
theorem TxAt.s13 (h : TxAt w T lv sn v8 v9 v10 v11 v12 v13 v14) (u : Value) : TxAt (w.setCell ⟨T, 13, none⟩ u) T lv sn v8 v9 v10 v11 v12 u v14 := setCell_at (a := ⟨T, 13, none⟩) rfl h
theorem TxAt.s14 (h : TxAt w T lv sn v8 v9 v10 v11 v12 v13 v14) (u : Value) : TxAt (w.setCell ⟨T, 14, none⟩ u) T lv sn v8 v9 v10 v11 v12 v13 u := setCell_at (a := ⟨T, 14, none⟩) rfl h
end

theorem zero2 (w : World) : (zeroValue 2).run Yba.prog w = .ok (.int .i64 0) w := by kernel_rfl
theorem zero3 (w : World) : (zeroValue 3).run Yba.prog w = .ok (.int .i64 0) w := by kernel_rfl
theorem zero4 (w : World) : (zeroValue 4).run Yba.prog w = .ok (.bool false) w := by kernel_rfl
theorem zero61 (w : World) : (zeroValue 61).run Yba.prog w = .ok (.agg #[.slice none 0 0, .slice none 0 0, .bool false]) w := by kernel_rfl

theorem readAt_any (T R n : Nat) (lv sn : Int) (v9 v10 v11 v12 v13 v14 : Value) (rd : Int → Option Int) (m : Int) (w : World) (h0 : 0 ≤ m) (h1 : m < 5)
    (ht : Hid (TxAt w T lv sn (.map (some R)) v9 v10 v11 v12 v13 v14)) (hr : Hid (KM (Value.int .i64) w R n rd)) :
    Calls Yba.prog 15 #[.pointer (some ⟨T, 0, none⟩), .string (kb m)] w fun e w' => e = .returned (.int .i64 ((rd m).getD sn)) ∧ w' = w := by
  have c2 := ht.out.c2
  have c8 := ht.out.c8
  have hl := hr.out.look_ok Yba.underlying29 (zero2 _) h0 h1
  cases hm : rd m with
  | none =>
    rw [hm] at hl
    simp at hl
    go_enter Yba.func15, Yba.ntmps15
    go_wp2
    go_ret
    exact ⟨rfl, rfl⟩
  | some r =>
    rw [hm] at hl
    simp at hl
    go_enter Yba.func15, Yba.ntmps15
    go_wp2
    go_ret
    exact ⟨rfl, rfl⟩
end Go.Proofs.Ybulkbyo
