/-
  The lock table in memory; 'newKeyLocks', 'newHolder', 'status'. Typed by the prover of this seat (an AI agent).
-/
import Derived.Test.YbulkbyoFmtLocks
import Derived.Test.YbulkbyoFmtMapFn
import Derived.WalkKit
import Derived.WalkSpells
import Derived.WalkLawsBesides
import Derived.Carry
import Derived.Deep.QuietTactic
import Derived.BigQuiet
import Derived.Deep.DeepMust
import Derived.Laws.LoneSync
namespace Go.Proofs.YbulkbyoFmt
open Go.RowKit Go.MuLone Go.MapFn
open Go.Maps (Keyed)
set_option maxRecDepth 100000

theorem hidI {p : Prop} (h : p) : Hid p := h

/-- The two worlds hold the same memory. -/
structure Like (w w' : World) : Prop where
  os : w'.os = w.os
  tape : w'.tape = w.tape
  output : w'.output = w.output
  heap : w'.heap = w.heap

theorem Like.below {w w' : World} (h : Like w w') (B : Nat) : Below B w w' := ⟨h.os, h.tape, h.output, by rw [h.heap]; exact Nat.le_refl _, fun k _ => by rw [h.heap]⟩
theorem Like.cell {w w' : World} (h : Like w w') (a : Addr) : w'.cell? a = w.cell? a := by unfold World.cell?; rw [h.heap]
theorem Like.frozen {w w' : World} (h : Like w w') (a : Addr) : w'.frozen? a = w.frozen? a := by unfold World.frozen?; rw [h.heap]

theorem setCell_back {w : World} {a : Addr} {u v : Value} (h : w.cell? a = some u) (n : Nat) : Like w (((w.setCell a v).drewN n).setCell a u) := by
  refine ⟨rfl, rfl, rfl, ?_⟩
  have e0 : ((w.setCell a v).drewN n).heap = (w.setCell a v).heap := rfl
  apply Array.ext_getElem?
  intro i
  unfold World.setCell at e0 ⊢
  simp only
  rw [Array.getElem?_modify, e0]
  simp only
  rw [Array.getElem?_modify]
  by_cases hi : a.block = i
  · subst hi
    simp only [if_true]
    unfold World.cell? at h
    cases hb : w.heap[a.block]? with
    | none => simp
    | some o =>
      rw [hb] at h
      cases o with
      | cells c e fr =>
        simp only at h
        cases hs : a.spot with
        | some x => simp [hs] at h
        | none =>
          simp [hs] at h
          simp only [Option.map_some, Option.isSome_none, Bool.false_eq_true, if_false]
          congr 2
          apply Array.ext_getElem?
          intro j
          by_cases hj : a.off = j
          · subst hj
            obtain ⟨hlt, hget⟩ := Array.getElem?_eq_some_iff.1 h
            simp [hlt, hget]
          · simp [hj]
      | _ => simp
  · simp [hi]

/-- The lock table. 'mu': the mutex' state. -/
def LkAt (w : World) (L M : Nat) (mu wts dl mk : Int) : Prop :=
  w.heap[L]? = some (.cells #[.int .i32 mu, .int .u32 0, .map (some M), .int .i64 wts, .int .i64 dl, .bool false, .int .u64 mk] 38)
/-- A holder. -/
def HoAt (w : World) (H K : Nat) (mk : Int) (wt : Value) : Prop := w.heap[H]? = some (.cells #[.int .u64 mk, .map (some K), wt] 56)
/-- A key's lock. -/
def KlAt (w : World) (B H : Nat) (q : Value) : Prop := w.heap[B]? = some (.cells #[.pointer (some ⟨H, 0, none⟩), q] 59)
/-- A wait. -/
def WtAt (w : World) (W H C : Nat) (key : ByteArray) : Prop := w.heap[W]? = some (.cells #[.pointer (some ⟨H, 0, none⟩), .string key, .chan (some C), .nilIface] 64)
/-- Its channel. -/
def ChAt (w : World) (C : Nat) : Prop := w.heap[C]? = some (.chan 0 #[] false 0 0 false)

theorem cell_of {w : World} {b : Nat} {cs : Array Value} {t : TypeId} (h : w.heap[b]? = some (.cells cs t)) (i : Nat) : w.cell? ⟨b, i, none⟩ = cs[i]? := by
  unfold World.cell?; rw [h]; rfl
theorem frozen_of {w : World} {b : Nat} {cs : Array Value} {t : TypeId} (h : w.heap[b]? = some (.cells cs t)) (i : Nat) : w.frozen? ⟨b, i, none⟩ = false := by
  unfold World.frozen?; rw [h]; simp
theorem lt_of {w : World} {b : Nat} {o : Obj} (h : w.heap[b]? = some o) : b < w.heap.size := (Array.getElem?_eq_some_iff.1 h).1
theorem ne_of {w : World} {a b : Nat} {o o' : Obj} (ha : w.heap[a]? = some o) (hb : w.heap[b]? = some o') (h : o ≠ o') : a ≠ b := by
  rintro rfl; rw [ha] at hb; injection hb with hb; exact h hb
theorem set_at {w : World} {a : Addr} {u : Value} {c : Array Value} {e : TypeId} (hs : a.spot = none) (h : w.heap[a.block]? = some (.cells c e)) : (w.setCell a u).heap[a.block]? = some (.cells (c.setIfInBounds a.off u) e) := by
  unfold World.setCell
  simp [Array.getElem?_modify, h, hs]
theorem set_far {w : World} {b j k : Nat} {u : Value} (hk : k ≠ b) : (w.setCell ⟨b, j, none⟩ u).heap[k]? = w.heap[k]? := Below.heap_setCell w ⟨b, j, none⟩ u k hk

section
variable {w : World} {L M : Nat} {mu wts dl mk : Int}
theorem LkAt.set0 (h : LkAt w L M mu wts dl mk) (x : Int) : LkAt (w.setCell ⟨L, 0, none⟩ (.int .i32 x)) L M x wts dl mk := set_at (a := ⟨L, 0, none⟩) rfl h
theorem LkAt.set3 (h : LkAt w L M mu wts dl mk) (x : Int) : LkAt (w.setCell ⟨L, 3, none⟩ (.int .i64 x)) L M mu x dl mk := set_at (a := ⟨L, 3, none⟩) rfl h
theorem LkAt.set4 (h : LkAt w L M mu wts dl mk) (x : Int) : LkAt (w.setCell ⟨L, 4, none⟩ (.int .i64 x)) L M mu wts x mk := set_at (a := ⟨L, 4, none⟩) rfl h
theorem LkAt.set6 (h : LkAt w L M mu wts dl mk) (x : Int) : LkAt (w.setCell ⟨L, 6, none⟩ (.int .u64 x)) L M mu wts dl x := set_at (a := ⟨L, 6, none⟩) rfl h
end

set_option maxHeartbeats 1000000 in
theorem status_any (b : Nat) (wts dl : Int) (w : World) (h0 : w.cell? ⟨b, 0, none⟩ = some (.int .i32 0)) (h3 : w.cell? ⟨b, 3, none⟩ = some (.int .i64 wts)) (h4 : w.cell? ⟨b, 4, none⟩ = some (.int .i64 dl)) (f0 : w.frozen? ⟨b, 0, none⟩ = false) :
    Calls Ybaf.prog 7 #[.pointer (some ⟨b, 0, none⟩)] w fun e w' => e = .returned (.tuple #[.int .i64 wts, .int .i64 dl]) ∧ Like w w' := by
  go_enter_defers Ybaf.func7, Ybaf.ntmps7
  go_wp2_with (go_at_call 15; refine (lock_free muLib ⟨b, 0, none⟩ _ h0 f0).mono ?_; rintro e w' ⟨rfl, rfl⟩)
  go_quiet (fail)
  go_wp2_with fail
  refine leaves_cons (f := 16) (args := #[.pointer (some ⟨b, 0, none⟩)]) (by simp) (by simp [go_sem]) ?_
  refine (unlock_deferred muLib ⟨b, 0, none⟩ .returning _ ?_ ?_).mono ?_
  · exact World.cell?_setCell_same w ⟨b, 0, none⟩ (.int .i32 1) h0
  · simpa using f0
  rintro e u' w'' ⟨rfl, rfl, rfl⟩
  exact ⟨_, results_tmp2 rfl _ _ _, rfl, setCell_back h0 _⟩

theorem status_at {w : World} {L M : Nat} {wts dl mk : Int} (h : LkAt w L M 0 wts dl mk) :
    Calls Ybaf.prog 7 #[.pointer (some ⟨L, 0, none⟩)] w fun e w' => e = .returned (.tuple #[.int .i64 wts, .int .i64 dl]) ∧ Like w w' :=
  status_any L wts dl w (cell_of h 0) (cell_of h 3) (cell_of h 4) (frozen_of h 0)

theorem newLocks_any (w : World) : Calls Ybaf.prog 4 #[] w fun e w' => e = .returned (.pointer (some ⟨w.heap.size + 1, 0, none⟩)) ∧
    w' = (w.alloc (.map #[] 0)).alloc (.cells #[.int .i32 0, .int .u32 0, .map (some w.heap.size), .int .i64 0, .int .i64 0, .bool false, .int .u64 0] 38) := by
  have hmm := @run_makeMap Ybaf.prog
  go_enter Ybaf.func4, Ybaf.ntmps4
  go_wp2
  go_ret
  exact ⟨rfl, rfl⟩

theorem add64 {w : World} {a : Addr} {x : Int} (hc : w.cell? a = some (.int .u64 x)) (hz : w.frozen? a = false) (h0 : 0 ≤ x) (h1 : x ≤ 1000) :
    (callFunc 19 #[.pointer (some a), .int .u64 1]).run Ybaf.prog w = .ok (.value (.int .u64 (x + 1))) (w.setCell a (.int .u64 (x + 1))) :=
  run_call_add Ybaf.func19 (by kernel_rfl) rfl rfl .u64 rfl hc hz (by
    have : (x + 1) % 18446744073709551616 = x + 1 := by omega
    simp [Op.intArith, go_sem, IntKind.wrap, IntKind.signed, IntKind.bits, this])

theorem newHolder_any (w : World) (L M : Nat) (mu wts dl mk : Int) (h : LkAt w L M mu wts dl mk) (h0 : 0 ≤ mk) (h1 : mk ≤ 1000) :
    Calls Ybaf.prog 5 #[.pointer (some ⟨L, 0, none⟩)] w fun e w' => e = .returned (.pointer (some ⟨w.heap.size + 1, 0, none⟩)) ∧
      w' = ((w.setCell ⟨L, 6, none⟩ (.int .u64 (mk + 1))).alloc (.map #[] 0)).alloc (.cells #[.int .u64 (mk + 1), .map (some w.heap.size), .pointer none] 56) := by
  have hmm := @run_makeMap Ybaf.prog
  have c6 : w.cell? ⟨L, 6, none⟩ = some (.int .u64 mk) := cell_of h 6
  have f6 : w.frozen? ⟨L, 6, none⟩ = false := frozen_of h 6
  have hadd := add64 c6 f6 h0 h1
  go_enter Ybaf.func5, Ybaf.ntmps5
  go_wp2
  go_ret
  exact ⟨rfl, rfl⟩
end Go.Proofs.YbulkbyoFmt
