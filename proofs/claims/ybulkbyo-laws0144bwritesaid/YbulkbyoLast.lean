/-
  'lastRead'. Typed by the prover of this seat (an AI agent).
-/
import Derived.Test.YbulkbyoKeys
namespace Go.Proofs.Ybulkbyo
open Go.RowKit Go.MapFn
set_option maxRecDepth 100000

def upd (k f t : ByteArray) (r s : Int) : Int := if within k f t = true then (if s < r then r else s) else s
def sinceTo (k : ByteArray) (fr to : Nat → ByteArray) (rev : Nat → Int) (s : Int) (st : Nat) : Nat → Int
  | 0 => s
  | c + 1 => upd k (fr (st + c)) (to (st + c)) (rev (st + c)) (sinceTo k fr to rev s st c)

/-- The ranges in memory. -/
def RangesAt (w : World) (v : Value) (n : Nat) (fr to : Nat → ByteArray) (rev : Nat → Int) : Prop :=
  (n = 0 ∧ v = .slice none 0 0) ∨ ∃ g cap, v = .slice (some ⟨g, 0, none⟩) n cap ∧ n ≤ cap ∧ g < w.heap.size ∧ ∀ j, j < n →
    w.cell? ⟨g, j * 3, none⟩ = some (.string (fr j)) ∧ w.cell? ⟨g, j * 3 + 1, none⟩ = some (.string (to j)) ∧ w.cell? ⟨g, j * 3 + 2, none⟩ = some (.int .i64 (rev j))

set_option maxHeartbeats 1000000 in
theorem last_any (T R n' n st : Nat) (lv sn : Int) (v9 v10 v11 v12 v13 v14 : Value) (rd : Int → Option Int) (fr to : Nat → ByteArray) (rev : Nat → Int) (m : Int) (w : World) (h0 : 0 ≤ m) (h1 : m < 5)
    (hn : (n : Int) ≤ 1024) (hst : (st : Int) ≤ n)
    (ht : Hid (TxAt w T lv sn (.map (some R)) v9 v10 v11 v12 v13 v14)) (hr : Hid (KM (Value.int .i64) w R n' rd)) (hg : Hid (RangesAt w v9 n fr to rev))
    (hs : ∀ nq, (Instr.lookup 40 v11 (.string (kb m)) false).run Yba.prog (w.drewN nq) = .ok (.int .i64 st) (w.drewN nq)) :
    Calls Yba.prog 10 #[.pointer (some ⟨T, 0, none⟩), .string (kb m)] w fun e w' => e = .returned (.int .i64 (sinceTo (kb m) fr to rev ((rd m).getD sn) st (n - st))) ∧ Below w.heap.size w w' := by
  have c9 := ht.out.c9
  have c11 := ht.out.c11
  have HR := hidI (readAt_any T R n' lv sn v9 v10 v11 v12 v13 v14 rd m w h0 h1 ht hr)
  rcases hg.out with ⟨rfl, rfl⟩ | ⟨g, cap, rfl, hcap, hgl, hcells⟩
  · obtain rfl : st = 0 := by omega
    go_enter Yba.func10, Yba.ntmps10
    go_wp2_with fail
    refine HR.out.mono ?_
    rintro e w1 ⟨rfl, rfl⟩
    go_wp2_with fail
    go_quiet (fail)
    go_wp2_with fail
    refine wp_loop_rounds 1 ?_
    rw [rounds_succ]
    go_wp2
    go_ret
    exact ⟨rfl, below_drewN (Below.refl _ _) _⟩
  · have HC := hidI hcells
    clear hcells
    by_cases hsn : st = n
    · subst hsn
      rw [Nat.sub_self]
      by_cases hsc : st = cap
      all_goals
        go_enter Yba.func10, Yba.ntmps10
        go_wp2_with fail
        refine HR.out.mono ?_
        rintro e w1 ⟨rfl, rfl⟩
        go_wp2_with fail
        go_quiet (fail)
        go_wp2_with fail
        refine wp_loop_rounds 1 ?_
        rw [rounds_succ]
        go_wp2
        go_ret
        exact ⟨rfl, below_drewN (Below.refl _ _) _⟩
    · have hlt : st < n := by omega
      have hsc : ¬ st = cap := by omega
      have hlt' : (st : Int) < (n : Int) := by omega
      go_enter Yba.func10, Yba.ntmps10
      go_wp2_with fail
      refine HR.out.mono ?_
      rintro e w1 ⟨rfl, rfl⟩
      go_wp2_with fail
      go_quiet (fail)
      go_wp2_with fail
      have hws : (w1.drewN nq).heap.size = w1.heap.size := rfl
      go_loopw [5, 23] (fun s5 s23 wr => ∃ c : Nat, c ≤ n - st ∧ s23 = .int .i64 c ∧ s5 = .int .i64 (sinceTo (kb m) fr to rev ((rd m).getD sn) st c) ∧ Below w1.heap.size w1 wr) (fun _ s23 _ => (n - st) - (intOf s23).toNat)
      case atStart => exact ⟨0, by omega, rfl, rfl, below_drewN (Below.refl _ _) _⟩
      case round =>
        obtain ⟨c, hc, rfl, rfl, hb⟩ := hrel
        have HB := hidI hb
        clear hb hws
        by_cases hc2 : c < n - st
        · obtain ⟨q0, q1, q2⟩ := HC.out (st + c) (by omega)
          have r0 : wr.cell? ⟨g, st * 3 + c * 3, none⟩ = some (.string (fr (st + c))) := by rw [HB.out.cell (p := ⟨g, st * 3 + c * 3, none⟩) hgl, ← Nat.add_mul]; exact q0
          have r1 : wr.cell? ⟨g, st * 3 + c * 3 + 1, none⟩ = some (.string (to (st + c))) := by rw [HB.out.cell (p := ⟨g, st * 3 + c * 3 + 1, none⟩) hgl, ← Nat.add_mul]; exact q1
          have r2 : wr.cell? ⟨g, st * 3 + c * 3 + 2, none⟩ = some (.int .i64 (rev (st + c))) := by rw [HB.out.cell (p := ⟨g, st * 3 + c * 3 + 2, none⟩) hgl, ← Nat.add_mul]; exact q2
          clear q0 q1 q2
          have HS : Hid (sinceTo (kb m) fr to rev ((rd m).getD sn) st (c + 1) = upd (kb m) (fr (st + c)) (to (st + c)) (rev (st + c)) (sinceTo (kb m) fr to rev ((rd m).getD sn) st c)) := rfl
          generalize sinceTo (kb m) fr to rev ((rd m).getD sn) st c = S at HS ⊢
          generalize fr (st + c) = f1 at HS r0
          generalize to (st + c) = t1 at HS r1
          generalize rev (st + c) = v1 at HS r2
          have hz : w1.heap.size ≤ wr.heap.size := HB.out.size
          go_wp2_with fail
          refine (contains_any (kb m) f1 t1 _).mono ?_
          rintro e w2 ⟨rfl, hb2⟩
          have c3 : w2.cell? ⟨wr.heap.size, 2, none⟩ = some (.int .i64 v1) := by rw [hb2.cell (p := ⟨wr.heap.size, 2, none⟩) (by simp)]; go_simp
          have HB2 : Hid (Below w1.heap.size w1 w2) := (HB.out.alloc hz _).trans (hb2.mono (by simp; omega))
          clear hb2 r0 r1 r2
          cases hw : within (kb m) f1 t1
          · have HS' : Hid (sinceTo (kb m) fr to rev ((rd m).getD sn) st (c + 1) = S) := by show _ = _; rw [HS.out]; simp [upd, hw]
            clear HS hw
            go_wp2
            exact ⟨⟨c + 1, by omega, by go_num, by rw [HS'.out], HB2.out⟩, by simp [intOf]; omega⟩
          · have HS' : Hid (sinceTo (kb m) fr to rev ((rd m).getD sn) st (c + 1) = (if S < v1 then v1 else S)) := by show _ = _; rw [HS.out]; simp [upd, hw]
            clear HS hw
            go_wp2
            exact ⟨⟨c + 1, by omega, by go_num, by rw [HS'.out], HB2.out⟩, by simp [intOf]; omega⟩
        · obtain rfl : c = n - st := by omega
          go_wp2
          go_ret
          exact ⟨rfl, HB.out⟩
end Go.Proofs.Ybulkbyo
