/-
  The law's function: where it starts, what the write leaves. Typed by the prover of this seat (an AI agent).
-/
import Derived.Test.YbulkbyoLoop7
namespace Go.Proofs.Ybulkbyo
open Go.RowKit Go.MapFn
set_option maxRecDepth 1000000

theorem St.init (w : World) (lv sn : Int) (fr tw : Nat → ByteArray) (rev : Nat → Int) :
    St w.heap.size (((w.alloc (.map #[] 0)).alloc (.map #[] 0)).alloc (.cells #[.pointer none, .int .i64 lv, .int .i64 sn, .bool false, .nilIface, .pointer none, .int .i64 0, .nilFunc, .map (some w.heap.size), .slice none 0 0, .map (some (w.heap.size + 1)), .map none, .slice none 0 0, .slice none 0 0, .map none] 45))
      (w.heap.size + 2) w.heap.size (w.heap.size + 1) lv sn (.slice none 0 0) (.map none) (.slice none 0 0) (.slice none 0 0) (.map none) (fun _ => none) (fun _ => none) (fun _ => none) (fun _ => none) 0 fr tw rev 0 [] 0 [] 0 := by
  have e1 : ∀ o, (w.alloc o).heap.size = w.heap.size + 1 := fun o => by simp
  have e2 : ∀ o o', ((w.alloc o).alloc o').heap.size = w.heap.size + 2 := fun o o' => by simp
  refine ⟨?_, ?_, ?_, fun _ _ _ _ e => (by cases e), Or.inl ⟨rfl, fun _ => rfl⟩, Or.inl ⟨rfl, fun _ => rfl⟩, ⟨rfl, Or.inl ⟨rfl, rfl⟩⟩, ⟨rfl, Or.inl ⟨rfl, rfl⟩⟩, ⟨rfl, Or.inl ⟨rfl, rfl⟩⟩, ⟨Nat.le_refl _, by omega, by omega⟩, by omega, fun b e => (by cases e), fun b e => (by cases e)⟩
  · have := (MapKept.heap_alloc ((w.alloc (.map #[] 0)).alloc (.map #[] 0)) (.cells #[.pointer none, .int .i64 lv, .int .i64 sn, .bool false, .nilIface, .pointer none, .int .i64 0, .nilFunc, .map (some w.heap.size), .slice none 0 0, .map (some (w.heap.size + 1)), .map none, .slice none 0 0, .slice none 0 0, .map none] 45)).1
    rw [e2] at this
    exact this
  · exact (((KM.made _ w).same (Below.heap_alloc _ _ _ (by rw [e1]; omega)))).same (Below.heap_alloc _ _ _ (by rw [e2]; omega))
  · have := KM.made (id : Value → Value) (w.alloc (.map #[] 0))
    rw [e1] at this
    exact this.same (Below.heap_alloc _ _ _ (by rw [e2]; omega))


theorem lastTo_mem {α : Type} {ky : Nat → Int} {x : Nat → α} {n : Nat} {j : Int} {v : α} (h : lastTo ky x n j = some v) : ∃ i, i < n ∧ v = x i := by
  induction n with
  | zero => cases h
  | succ n ih =>
    simp only [lastTo] at h
    split at h
    · cases h; exact ⟨n, by omega, rfl⟩
    · obtain ⟨i, hi, hv⟩ := ih h; exact ⟨i, by omega, hv⟩

section
variable {B0 T R W9 : Nat} {w : World} {lv sn : Int} {v9 v11 v12 v13 v14 : Value} {rd : Int → Option Int} {wf : Int → Option Value} {sc : Int → Option Int} {sv : Int → Option Bool}
    {n9 : Nat} {fr tw : Nat → ByteArray} {rev : Nat → Int} {xs12 : List Value} {xs13 : List Value}
theorem undo_cases (ns : Nat) (hns : ns ≤ 2) (m : Int) (h0 : 0 ≤ m) (h1 : m < 5) (pk pv : Value) (pd wrote : Bool) (ho : pk.oneCell' = true) (ho' : pv.oneCell' = true) :
    ∃ sv2 n13' xs13', UndoC B0 T R W9 lv sn v9 v11 v12 v13 v14 wf sc sv n9 fr tw rev ns xs12 ns xs13 m (.agg #[pk, pv, .bool pd]) wrote sv2 n13' xs13' ∧
      (∀ j, 0 ≤ j → j < 5 → (sv2 j).getD false = ((sv j).getD false || (decide (j = m) && decide (0 < ns)))) ∧
      (0 < ns → (sv m).getD false = false → n13' = ns + 1 ∧ xs13' = xs13 ++ [.string (kb m), pk, pv, .bool pd, .bool wrote]) ∧
      (ns = 0 ∨ (sv m).getD false = true → n13' = ns) := by
  by_cases hz : ns = 0
  · subst hz
    exact ⟨sv, 0, xs13, undoC_none m pk pv pd wrote rfl, fun j _ _ => by simp, fun h => absurd h (by omega), fun _ => rfl⟩
  · cases hs : (sv m).getD false
    · refine ⟨_, _, _, undoC_new m h0 h1 pk pv pd wrote (by omega) hns hns hs ho ho', fun j _ _ => ?_, fun _ _ => ⟨rfl, rfl⟩, fun h => ?_⟩
      · by_cases e : j = m
        · subst e; simp; omega
        · simp [e]
      · rcases h with h | h
        · exact absurd h hz
        · cases h
    · refine ⟨sv, ns, xs13, undoC_had m h0 h1 pk pv pd wrote (by omega) hns hs, fun j _ _ => ?_, fun _ h => (by cases h), fun _ => rfl⟩
      by_cases e : j = m
      · subst e; simp [hs]
      · simp [e]
end

theorem wok_getD {w : World} {wf : Int → Option Value} (h : ∀ m v, 0 ≤ m → m < 5 → wf m = some v → WOk w v) {m : Int} (h0 : 0 ≤ m) (h1 : m < 5) : WOk w ((wf m).getD Z61) := by
  cases e : wf m with
  | none => exact WOk.zero w
  | some v => exact h m v h0 h1 e

abbrev Z66 : Obj := .cells #[.int .i64 0, .int .i64 0, .int .i64 0, .int .i64 0, .int .i64 0] 66
abbrev Z67 : Obj := .cells #[.bool false, .bool false, .bool false, .bool false, .bool false] 67
abbrev Z68 : Obj := .cells #[.slice none 0 0, .slice none 0 0, .bool false, .slice none 0 0, .slice none 0 0, .bool false, .slice none 0 0, .slice none 0 0, .bool false, .slice none 0 0, .slice none 0 0, .bool false, .slice none 0 0, .slice none 0 0, .bool false] 68

theorem Arr.far {w w' : World} {b : Nat} {t : TypeId} {n : Nat} {f : Nat → Value} (h : Arr w b t n f) (hf : Far w w') (ht : t ≠ 45 ∧ t ≠ 65) : Arr w' b t n f := by
  obtain ⟨cs, h1, h2⟩ := h; exact ⟨cs, (hf b cs t _ h1 ht).trans h1, h2⟩
theorem Ar.far {w w' : World} {A : Nat} {f0 f1 f2 f3 f4 : Nat → Value} (h : Ar w A f0 f1 f2 f3 f4) (hf : Far w w') : Ar w' A f0 f1 f2 f3 f4 :=
  ⟨h.rv.far hf (by decide), h.rok.far hf (by decide), h.wv.far hf (by decide), h.wok.far hf (by decide), h.sv.far hf (by decide)⟩

/-- A cell of a row that is owned. -/
theorem owns_cell {w : World} {base g : Nat} {e : TypeId} {size n cap : Nat} {xs : List Value} (h : w.ownsRow base e size (.slice (some ⟨g, 0, none⟩) n cap) n xs) {i : Nat} (hi : i < n * size) : w.cell? ⟨g, i, none⟩ = xs[i]? := by
  rcases h.2 with ⟨e, _⟩ | ⟨g', cap', cur, e, _, hg, _, _, _, h4⟩
  · cases e
  · cases e
    rw [← h4, List.getElem?_take_of_lt hi]
    simp [World.cell?, hg]

theorem heap_grow (w : World) (os : List Obj) (i : Nat) (h : i < os.length) : (os.foldl World.alloc w).heap[w.heap.size + i]? = some os[i] := by
  induction os generalizing w i with
  | nil => simp at h
  | cons o os ih =>
    have e1 : (w.alloc o).heap.size = w.heap.size + 1 := by simp
    have keep : ∀ (os : List Obj) (w : World) (k : Nat), k < w.heap.size → (os.foldl World.alloc w).heap[k]? = w.heap[k]? := by
      intro os
      induction os with
      | nil => intro w k _; rfl
      | cons o os ih => intro w k hk; rw [List.foldl_cons, ih _ k (by simp; omega), Below.heap_alloc _ _ _ hk]
    cases i with
    | zero => rw [List.foldl_cons, keep _ _ _ (by simp)]; exact (MapKept.heap_alloc w o).1
    | succ i =>
      have := ih (w.alloc o) i (by simpa using h)
      rw [e1, Nat.add_assoc, Nat.add_comm 1 i] at this
      simpa using this

theorem Ar.init (w : World) (rd : Int → Option Int) (wf : Int → Option Value) (sv : Int → Option Bool) :
    Ar (((((w.alloc Z66).alloc Z67).alloc Z68).alloc Z67).alloc Z67) w.heap.size (rvF rd 0) (rokF rd 0) (wvF wf 0) (rokF wf 0) (svF sv 0) := by
  have g := heap_grow w [Z66, Z67, Z68, Z67, Z67]
  have five : ∀ i, i < 5 → i = 0 ∨ i = 1 ∨ i = 2 ∨ i = 3 ∨ i = 4 := by omega
  refine ⟨⟨_, g 0 (by simp), rfl, fun i hi => ?_⟩, ⟨_, g 1 (by simp), rfl, fun i hi => ?_⟩, ⟨_, g 2 (by simp), rfl, fun i hi => ?_⟩, ⟨_, g 3 (by simp), rfl, fun i hi => ?_⟩, ⟨_, g 4 (by simp), rfl, fun i hi => ?_⟩⟩
  · rcases five i hi with rfl | rfl | rfl | rfl | rfl <;> rfl
  · rcases five i hi with rfl | rfl | rfl | rfl | rfl <;> rfl
  · have : i = 0 ∨ i = 1 ∨ i = 2 ∨ i = 3 ∨ i = 4 ∨ i = 5 ∨ i = 6 ∨ i = 7 ∨ i = 8 ∨ i = 9 ∨ i = 10 ∨ i = 11 ∨ i = 12 ∨ i = 13 ∨ i = 14 := by omega
    rcases this with rfl | rfl | rfl | rfl | rfl | rfl | rfl | rfl | rfl | rfl | rfl | rfl | rfl | rfl | rfl <;> rfl
  · rcases five i hi with rfl | rfl | rfl | rfl | rfl <;> rfl
  · rcases five i hi with rfl | rfl | rfl | rfl | rfl <;> rfl
end Go.Proofs.Ybulkbyo
