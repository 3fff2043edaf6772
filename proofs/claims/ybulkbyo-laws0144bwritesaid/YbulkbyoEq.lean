/-
  'bytes.Equal' and 'zzs0144beq' at one and the same write. Typed by the prover of this seat (an AI agent).
-/
import Derived.Test.YbulkbyoLast
import Derived.Laws.IdiomStrings
import Derived.Lib.ConvBytes
namespace Go.Proofs.Ybulkbyo
open Go.RowKit Go.MapFn
set_option maxRecDepth 100000

/-- A slice of bytes that reads as s: nil, or a row of its own (of bytes). -/
def BytesOk (w : World) (v : Value) (s : ByteArray) : Prop :=
  (v = .slice none 0 0 ∧ s = ⟨#[]⟩) ∨ ∃ g cap, v = .slice (some ⟨g, 0, none⟩) s.size cap ∧ ∃ c fr, w.heap[g]? = some (.cells c 5 fr) ∧ ∀ j, j < s.size → c[j]? = some (.int .u8 ((s.data.toList.getD j 0).toNat : Nat))

/-- Blocks of bytes stand as they stood. -/
def KeepB (w w' : World) : Prop := ∀ (g : Nat) (c : Array Value) (fr : Nat × Nat), w.heap[g]? = some (Obj.cells c 5 fr) → w'.heap[g]? = some (Obj.cells c 5 fr)
theorem KeepB.refl (w : World) : KeepB w w := fun _ _ _ h => h
theorem KeepB.trans {a b c : World} (h : KeepB a b) (k : KeepB b c) : KeepB a c := fun g x fr e => k g x fr (h g x fr e)
theorem KeepB.of_below {w w' : World} (h : Below w.heap.size w w') : KeepB w w' := fun g c fr e => by
  rw [h.block g (Array.getElem?_eq_some_iff.1 e).1]; exact e
theorem KeepB.of_grown {w w' : World} {row : Option Nat} (h : w.grownBy w' row) (hr : ∀ g c fr, row = some g → w.heap[g]? ≠ some (.cells c 5 fr)) : KeepB w w' := fun g c fr e => by
  rw [h.block g (Array.getElem?_eq_some_iff.1 e).1 (fun e' => hr g c fr e'.symm e)]; exact e
theorem KeepB.of_set {w : World} {a : Addr} {u : Value} (hr : ∀ c fr, w.heap[a.block]? ≠ some (.cells c 5 fr)) : KeepB w (w.setCell a u) := fun g c fr e => by
  rw [Below.heap_setCell _ _ _ _ (fun e' => hr c fr (by rw [← e']; exact e))]; exact e

theorem BytesOk.keep {w w' : World} {v : Value} {s : ByteArray} (h : BytesOk w v s) (k : KeepB w w') : BytesOk w' v s := by
  rcases h with h | ⟨g, cap, hv, c, fr, hb, hc⟩
  · exact Or.inl h
  · exact Or.inr ⟨g, cap, hv, c, fr, k g c fr hb, hc⟩

theorem BytesOk.str {w : World} {v : Value} {s : ByteArray} (h : BytesOk w v s) : (convert 26 9 v).run Yba.prog w = .ok (.string s) w := by
  rcases h with ⟨rfl, rfl⟩ | ⟨g, cap, rfl, c, fr, hb, hc⟩
  · rw [run_convert_bytes_string w 26 9 5 none 0 0 Yba.underlying26 Yba.underlying5 Yba.underlying9]
    simp [Conv.bytesToString]
    rfl
  · have := run_convert_bytes_back (P := Yba.prog) w 26 9 5 ⟨g, 0, none⟩ cap s.data.toList Yba.underlying26 Yba.underlying5 Yba.underlying9 (fun j hj => by
      have hj' : j < s.size := by simpa using hj
      rw [WideShapes.add_plain]
      simp only [World.cell?, hb, Option.isSome_none, Bool.false_eq_true, if_false, Nat.zero_add]
      rw [hc j hj']
      simp [List.getD, List.getElem?_eq_getElem hj])
    simpa using this

/-- A write that can be compared. -/
def WOk (w : World) (v : Value) : Prop := ∃ k x d s t, v = .agg #[k, x, .bool d] ∧ BytesOk w k s ∧ BytesOk w x t
theorem WOk.keep {w w' : World} {v : Value} (h : WOk w v) (k : KeepB w w') : WOk w' v := by
  obtain ⟨a, b, d, s, t, e, h1, h2⟩ := h; exact ⟨a, b, d, s, t, e, h1.keep k, h2.keep k⟩
theorem WOk.zero (w : World) : WOk w (.agg #[.slice none 0 0, .slice none 0 0, .bool false]) := ⟨_, _, _, ⟨#[]⟩, ⟨#[]⟩, rfl, Or.inl ⟨rfl, rfl⟩, Or.inl ⟨rfl, rfl⟩⟩

theorem equal_any (k : Value) (s : ByteArray) (w : World) (hk : BytesOk w k s) : Calls Yba.prog 12 #[k, k] w fun e w' => e = .returned (.bool true) ∧ w' = w := by
  have hc := hk.str
  go_enter Yba.func12, Yba.ntmps12
  go_wp2
  go_ret
  exact ⟨rfl, rfl⟩

set_option maxHeartbeats 1000000 in
theorem eq_any (v : Value) (w : World) (hv : WOk w v) : Calls Yba.prog 8 #[v, v] w fun e w' => e = .returned (.bool true) ∧ Below w.heap.size w w' := by
  obtain ⟨k, x, d, s, t, rfl, hk, hx⟩ := hv
  have H1 : Hid (∀ W, Below w.heap.size w W → Calls Yba.prog 12 #[k, k] W fun e w' => e = .returned (.bool true) ∧ w' = W) := fun W hW => equal_any k s W (hk.keep (KeepB.of_below hW))
  have H2 : Hid (∀ W, Below w.heap.size w W → Calls Yba.prog 12 #[x, x] W fun e w' => e = .returned (.bool true) ∧ w' = W) := fun W hW => equal_any x t W (hx.keep (KeepB.of_below hW))
  clear hk hx
  go_enter Yba.func8, Yba.ntmps8
  go_wp2_with fail
  refine (H1.out _ ?_).mono ?_
  · exact ((Below.refl _ _).alloc (Nat.le_refl _) _).alloc (by simp) _
  rintro e w1 ⟨rfl, rfl⟩
  go_wp2_with fail
  refine (H2.out _ ?_).mono ?_
  · exact ((Below.refl _ _).alloc (Nat.le_refl _) _).alloc (by simp) _
  rintro e w1 ⟨rfl, rfl⟩
  cases d
  all_goals
    go_wp2
    go_ret
    exact ⟨rfl, ((Below.refl _ _).alloc (Nat.le_refl _) _).alloc (by simp) _⟩
end Go.Proofs.Ybulkbyo
