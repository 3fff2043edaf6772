/-
  'zzs0145bcopy'. Typed by the prover of this seat (an AI agent).
-/
import Derived.Test.YbulkbzcFmtSmall
import Derived.Laws.CopyOwn
import Derived.Lib.SliceRun
namespace Go.Proofs.YbulkbzcFmt
open Go.RowKit
set_option maxRecDepth 100000

theorem one5 : (Ybaf.prog.info? 5).map (·.size) = some 1 := by kernel_rfl

set_option maxHeartbeats 1000000 in
theorem copy_any {w : World} {v : Value} {zs : List Int} (hv : Hid (Seen w v zs)) (hlen : zs.length ≤ 1024) :
    Calls Ybaf.prog 6 #[v] w fun e w' => ∃ v', e = .returned v' ∧ Row w.heap.size w' v' zs ∧ Below w.heap.size w w' := by
  obtain ⟨a, c, rfl, _, ha⟩ := hv.out
  have HA := hidI ha
  clear ha hv
  cases a with
  | none =>
    have hz : zs = [] := by
      cases zs with
      | nil => rfl
      | cons z zs => obtain ⟨b, o, e, _⟩ := HA.out 0 (by simp); cases e
    subst hz
    have qe := fun (W : World) (a : Option Addr) (n c : Nat) => Go.Lib.run_eql_slice_nil (P := Ybaf.prog) W 22 5 a n c 0 0 Ybaf.underlying22
    go_enter Ybaf.func6, Ybaf.ntmps6
    go_wp2
    go_ret
    exact ⟨_, rfl, World.ownsRow_nil _ _ _ _, Below.refl _ _⟩
  | some ad =>
    obtain ⟨n, hn⟩ : ∃ n, zs.length = n := ⟨_, rfl⟩
    have HN := hidI hn
    rw [hn] at hlen ⊢
    clear hn
    obtain ⟨M, HM, hmk⟩ : ∃ M : List Value, Hid (M.length = n) ∧ (Instr.makeSlice 22 (.int .i64 n) (.int .i64 n)).run Ybaf.prog w = .ok (.slice (some ⟨w.heap.size, 0, none⟩) n n) (w.alloc (.cells M.toArray 5)) := by
      obtain ⟨i, hi, h0, h1, h2⟩ := info_parts info5
      refine ⟨(madeCells (Value.int .u8 0).cells n).toList, ?_, ?_⟩
      · simp [Hid, madeCells]
      · have := run_makeSlice (P := Ybaf.prog) w 22 5 i (.int .u8 0) Ybaf.underlying22 hi h0 .i64 .i64 n n (by omega) (by omega) (by simp [h1]; omega) (by simp [h2]; omega) (by omega)
        simpa [h1] using this
    have qe := fun (W : World) (a : Option Addr) (n c : Nat) => Go.Lib.run_eql_slice_nil (P := Ybaf.prog) W 22 5 a n c 0 0 Ybaf.underlying22
    have HS : Hid (∀ j v, (zs.map (Value.int .u8))[j]? = some v → (w.alloc (.cells M.toArray 5)).cell? (ad.add j) = some v) := by
      intro j v hj
      have hlt : j < zs.length := by
        have := (List.getElem?_eq_some_iff.1 hj).1
        simpa using this
      obtain ⟨b, o, e, hc⟩ := HA.out j hlt
      cases e
      rw [WideShapes.add_plain, Below.cell ((Below.refl w.heap.size w).alloc (Nat.le_refl _) _) (World.block_lt_of_cell? w _ hc), hc, ← hj]
      simp [hlt]
    have hg : (w.alloc (.cells M.toArray 5)).heap[w.heap.size]? = some (.cells M.toArray 5 (0, 0)) := heap_alloc_new w _
    have hcp := run_copy_row (P := Ybaf.prog) (w.alloc (.cells M.toArray 5)) 22 22 3 5 w.heap.size 0 n n ad n c M.toArray 5 (zs.map (Value.int .u8)) Ybaf.underlying22 one5 hg (by simp [HN.out]) HS.out (by simp [HM.out, HN.out]) (by intro u hu; simp only [List.mem_map] at hu; obtain ⟨x, _, rfl⟩ := hu; rfl)
    have HG := hidI (setRow_heap _ _ _ (M.toArray.toList.take 0 ++ zs.map (Value.int .u8) ++ M.toArray.toList.drop (0 + (zs.map (Value.int .u8)).length)).toArray 5 _ hg)
    have HB := hidI (below_setRow (B := w.heap.size) (w0 := w) ((Below.refl _ _).alloc (Nat.le_refl _) (.cells M.toArray 5)) (Nat.le_refl _) (M.toArray.toList.take 0 ++ zs.map (Value.int .u8) ++ M.toArray.toList.drop (0 + (zs.map (Value.int .u8)).length)).toArray)
    generalize World.setRow _ _ _ = w1 at hcp HG HB
    clear hg HS
    go_enter Ybaf.func6, Ybaf.ntmps6
    go_wp2
    go_ret
    obtain rfl : zs.length = n := HN.out
    refine ⟨_, rfl, ⟨by simp, .inr ⟨w.heap.size, zs.length, _, rfl, Nat.le_refl _, HG.out, Nat.le_refl _, by unfold maxLen; omega, ?_, ?_⟩⟩, HB.out⟩
    · simp [HM.out]
    · simp
end Go.Proofs.YbulkbzcFmt
