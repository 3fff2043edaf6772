/-
  The contract of 'status' and the walk of 'LawS0144CReports'. Typed by the prover of this seat (an AI agent).
-/
import Derived.Test.YbulkbyoLocks
import Derived.WalkKit
import Derived.WalkSpells
import Derived.WalkLawsBesides
import Derived.Carry
import Derived.Deep.QuietTactic
import Derived.BigQuiet
namespace Go.Proofs.Ybulkbyo
open Go.RowKit Go.MuLone
set_option maxRecDepth 100000

/-- The two worlds hold the same memory. -/
structure Like (w w' : World) : Prop where
  os : w'.os = w.os
  tape : w'.tape = w.tape
  output : w'.output = w.output
  heap : w'.heap = w.heap

theorem Like.below {w w' : World} (h : Like w w') (B : Nat) : Below B w w' := ⟨h.os, h.tape, h.output, by rw [h.heap]; exact Nat.le_refl _, fun k _ => by rw [h.heap]⟩
theorem Like.cell {w w' : World} (h : Like w w') (a : Addr) : w'.cell? a = w.cell? a := by unfold World.cell?; rw [h.heap]
theorem Like.frozen {w w' : World} (h : Like w w') (a : Addr) : w'.frozen? a = w.frozen? a := by unfold World.frozen?; rw [h.heap]
theorem Like.trans {a b c : World} (h : Like a b) (k : Like b c) : Like a c := ⟨k.os.trans h.os, k.tape.trans h.tape, k.output.trans h.output, k.heap.trans h.heap⟩

theorem setCell_back {w : World} {a : Addr} {u v : Value} (h : w.cell? a = some u) (n : Nat) : Like w (((w.setCell a v).drewN n).setCell a u) := by
  refine ⟨rfl, rfl, rfl, ?_⟩
  have e0 : ((w.setCell a v).drewN n).heap = (w.setCell a v).heap := rfl
  apply Array.ext_getElem?
  intro i
  unfold World.setCell at e0 ⊢
  simp only
  rw [Array.getElem?_modify, e0]
  simp only
  rw [Array.getElem?_modify]
  by_cases hi : a.block = i
  · subst hi
    simp only [if_true]
    unfold World.cell? at h
    cases hb : w.heap[a.block]? with
    | none => simp
    | some o =>
      rw [hb] at h
      cases o with
      | cells c e fr =>
        simp only at h
        cases hs : a.spot with
        | some x => simp [hs] at h
        | none =>
          simp [hs] at h
          simp only [Option.map_some, Option.isSome_none, Bool.false_eq_true, if_false]
          congr 2
          apply Array.ext_getElem?
          intro j
          by_cases hj : a.off = j
          · subst hj
            obtain ⟨hlt, hget⟩ := Array.getElem?_eq_some_iff.1 h
            simp [hlt, hget]
          · simp [hj]
      | _ => simp
  · simp [hi]

set_option maxHeartbeats 1000000 in
theorem status_any (b : Nat) (wts dl : Int) (w : World) (h0 : w.cell? ⟨b, 0, none⟩ = some (.int .i32 0)) (h3 : w.cell? ⟨b, 3, none⟩ = some (.int .i64 wts)) (h4 : w.cell? ⟨b, 4, none⟩ = some (.int .i64 dl)) (f0 : w.frozen? ⟨b, 0, none⟩ = false) :
    Calls Yba.prog 9 #[.pointer (some ⟨b, 0, none⟩)] w fun e w' => e = .returned (.tuple #[.int .i64 wts, .int .i64 dl]) ∧ Like w w' := by
  go_enter_defers Yba.func9, Yba.ntmps9
  go_wp2_with (go_at_call 13; refine (lock_free muLib ⟨b, 0, none⟩ _ h0 f0).mono ?_; rintro e w' ⟨rfl, rfl⟩)
  go_quiet (fail)
  go_wp2_with fail
  refine leaves_cons (f := 14) (args := #[.pointer (some ⟨b, 0, none⟩)]) (by simp) (by simp [go_sem]) ?_
  refine (unlock_deferred muLib ⟨b, 0, none⟩ .returning _ ?_ ?_).mono ?_
  · exact World.cell?_setCell_same w ⟨b, 0, none⟩ (.int .i32 1) h0
  · simpa using f0
  rintro e u' w'' ⟨rfl, rfl, rfl⟩
  exact ⟨_, results_tmp2 rfl _ _ _, rfl, setCell_back h0 _⟩

set_option maxHeartbeats 1000000 in
theorem reports_any (a0 a1 : Int) (w : World) :
    Calls Yba.prog 4 #[.int .i64 a0, .int .i64 a1] w fun e w' => e = .returned (.bool true) ∧ Below w.heap.size w w' := by
  have hmm := @run_makeMap Yba.prog
  go_enter Yba.func4, Yba.ntmps4
  go_wp2_with fail
  refine (status_any (w.heap.size + 1) a0 a1 _ (by go_simp) (by go_simp) (by go_simp) (by go_simp)).mono ?_
  rintro e w1 ⟨rfl, hl1⟩
  have c0 : w1.cell? ⟨w.heap.size + 1, 0, none⟩ = some (.int .i32 0) := by rw [hl1.cell]; go_simp
  have c3 : w1.cell? ⟨w.heap.size + 1, 3, none⟩ = some (.int .i64 a0) := by rw [hl1.cell]; go_simp
  have c4 : w1.cell? ⟨w.heap.size + 1, 4, none⟩ = some (.int .i64 a1) := by rw [hl1.cell]; go_simp
  have f0 : w1.frozen? ⟨w.heap.size + 1, 0, none⟩ = false := by rw [hl1.frozen]; go_simp
  have HL : Hid (Below w.heap.size w w1) := (((Below.refl _ _).alloc (Nat.le_refl _) _).alloc (by simp) _).trans (hl1.below _)
  clear hl1
  go_wp2_with fail
  refine (status_any (w.heap.size + 1) a0 a1 w1 c0 c3 c4 f0).mono ?_
  rintro e w2 ⟨rfl, hl2⟩
  have d3 : w2.cell? ⟨w.heap.size + 1, 3, none⟩ = some (.int .i64 a0) := by rw [hl2.cell]; exact c3
  have d4 : w2.cell? ⟨w.heap.size + 1, 4, none⟩ = some (.int .i64 a1) := by rw [hl2.cell]; exact c4
  have HL2 : Hid (Below w.heap.size w w2) := HL.out.trans (hl2.below _)
  clear hl2 c0 c3 c4 f0
  go_wp2
  go_ret
  exact ⟨rfl, HL2.out⟩
end Go.Proofs.Ybulkbyo
