/-
  '(Header).AppendBinary'. Typed by the prover of this seat (an AI agent).
-/
import Derived.Test.YbulkbzcFmtCheck
namespace Go.Proofs.YbulkbzcFmt
open Go.RowKit Go.Extern.Stop Go.Stop Go.Extern
set_option maxRecDepth 100000

/-- A header in a block. -/
def BoxAt (w : World) (H : Nat) (m op fr key ex dt vb st body opq cas : Int) : Prop := w.heap[H]? = some (.cells #[.int .u8 m, .int .u8 op, .int .u8 fr, .int .u16 key, .int .u8 ex, .int .u8 dt, .int .u16 vb, .int .u16 st, .int .u32 body, .int .u32 opq, .int .u64 cas] 29 (0, 0))
theorem BoxAt.kp {B : Nat} {w w' : World} {H : Nat} {m op fr key ex dt vb st body opq cas : Int} (h : BoxAt w H m op fr key ex dt vb st body opq cas) (k : Kp B w w') : BoxAt w' H m op fr key ex dt vb st body opq cas := k.other h (by decide)
theorem BoxAt.c0 {w : World} {H : Nat} {m op fr key ex dt vb st body opq cas : Int} (h : BoxAt w H m op fr key ex dt vb st body opq cas) : w.cell? ⟨H, 0, none⟩ = some (.int .u8 m) := by rw [cell_of_row w H 0 _ 29 (0, 0) h]; rfl
theorem BoxAt.c1 {w : World} {H : Nat} {m op fr key ex dt vb st body opq cas : Int} (h : BoxAt w H m op fr key ex dt vb st body opq cas) : w.cell? ⟨H, 1, none⟩ = some (.int .u8 op) := by rw [cell_of_row w H 1 _ 29 (0, 0) h]; rfl
theorem BoxAt.c2 {w : World} {H : Nat} {m op fr key ex dt vb st body opq cas : Int} (h : BoxAt w H m op fr key ex dt vb st body opq cas) : w.cell? ⟨H, 2, none⟩ = some (.int .u8 fr) := by rw [cell_of_row w H 2 _ 29 (0, 0) h]; rfl
theorem BoxAt.c3 {w : World} {H : Nat} {m op fr key ex dt vb st body opq cas : Int} (h : BoxAt w H m op fr key ex dt vb st body opq cas) : w.cell? ⟨H, 3, none⟩ = some (.int .u16 key) := by rw [cell_of_row w H 3 _ 29 (0, 0) h]; rfl
theorem BoxAt.c4 {w : World} {H : Nat} {m op fr key ex dt vb st body opq cas : Int} (h : BoxAt w H m op fr key ex dt vb st body opq cas) : w.cell? ⟨H, 4, none⟩ = some (.int .u8 ex) := by rw [cell_of_row w H 4 _ 29 (0, 0) h]; rfl
theorem BoxAt.c5 {w : World} {H : Nat} {m op fr key ex dt vb st body opq cas : Int} (h : BoxAt w H m op fr key ex dt vb st body opq cas) : w.cell? ⟨H, 5, none⟩ = some (.int .u8 dt) := by rw [cell_of_row w H 5 _ 29 (0, 0) h]; rfl
theorem BoxAt.c6 {w : World} {H : Nat} {m op fr key ex dt vb st body opq cas : Int} (h : BoxAt w H m op fr key ex dt vb st body opq cas) : w.cell? ⟨H, 6, none⟩ = some (.int .u16 vb) := by rw [cell_of_row w H 6 _ 29 (0, 0) h]; rfl
theorem BoxAt.c7 {w : World} {H : Nat} {m op fr key ex dt vb st body opq cas : Int} (h : BoxAt w H m op fr key ex dt vb st body opq cas) : w.cell? ⟨H, 7, none⟩ = some (.int .u16 st) := by rw [cell_of_row w H 7 _ 29 (0, 0) h]; rfl
theorem BoxAt.c8 {w : World} {H : Nat} {m op fr key ex dt vb st body opq cas : Int} (h : BoxAt w H m op fr key ex dt vb st body opq cas) : w.cell? ⟨H, 8, none⟩ = some (.int .u32 body) := by rw [cell_of_row w H 8 _ 29 (0, 0) h]; rfl
theorem BoxAt.c9 {w : World} {H : Nat} {m op fr key ex dt vb st body opq cas : Int} (h : BoxAt w H m op fr key ex dt vb st body opq cas) : w.cell? ⟨H, 9, none⟩ = some (.int .u32 opq) := by rw [cell_of_row w H 9 _ 29 (0, 0) h]; rfl
theorem BoxAt.c10 {w : World} {H : Nat} {m op fr key ex dt vb st body opq cas : Int} (h : BoxAt w H m op fr key ex dt vb st body opq cas) : w.cell? ⟨H, 10, none⟩ = some (.int .u64 cas) := by rw [cell_of_row w H 10 _ 29 (0, 0) h]; rfl

theorem check_bad (F : Interp) {N : Nat} {a0 a1 : Addr} {s0 s1 : ByteArray} (m op fr key ex dt vb st body opq cas : Int) (w : World) (hF : F.answers w.tape) (hG : Hid (Gl N w a0 a1 s0 s1)) (hN : N ≤ w.heap.size)
    (hf : 0 ≤ fr ∧ fr ≤ 255) (hk : 0 ≤ key ∧ key ≤ 65535) (he : 0 ≤ ex ∧ ex ≤ 255) (hz : m ≠ 8 → fr = 0) (h : ¬ Fine m fr key ex body) :
    Calls Ybaf.prog 20 #[.agg #[.int .u8 m, .int .u8 op, .int .u8 fr, .int .u16 key, .int .u8 ex, .int .u8 dt, .int .u16 vb, .int .u16 st, .int .u32 body, .int .u32 opq, .int .u64 cas]] w fun e w' => ∃ v, e = .returned v ∧ Bad w a1 v w' := by
  by_cases hm : m = 128 ∨ m = 129 ∨ m = 8
  · rcases hm with rfl | rfl | rfl
    · obtain rfl := hz (by omega)
      exact check_over128 F op key ex dt vb st body opq cas w hF hG hN hk he (by unfold Fine at h; omega)
    · obtain rfl := hz (by omega)
      exact check_over129 F op key ex dt vb st body opq cas w hF hG hN hk he (by unfold Fine at h; omega)
    · by_cases hkk : 255 < key
      · exact check_key F op fr key ex dt vb st body opq cas w hF hG hN hkk
      · exact check_over8 F op fr key ex dt vb st body opq cas w hF hG hN hf hk he hkk (by unfold Fine at h; omega)
  · exact check_magic F m op fr key ex dt vb st body opq cas w hF hG hN hm

set_option maxHeartbeats 1000000 in
theorem ab_bad (F : Interp) {N : Nat} {a0 a1 : Addr} {s0 s1 : ByteArray} (v : Value) (m op fr key ex dt vb st body opq cas : Int) (w : World) (hF : F.answers w.tape) (hG : Hid (Gl N w a0 a1 s0 s1)) (hN : N ≤ w.heap.size)
    (hf : 0 ≤ fr ∧ fr ≤ 255) (hk : 0 ≤ key ∧ key ≤ 65535) (he : 0 ≤ ex ∧ ex ≤ 255) (hz : m ≠ 8 → fr = 0) (h : ¬ Fine m fr key ex body) :
    Calls Ybaf.prog 21 #[.agg #[.int .u8 m, .int .u8 op, .int .u8 fr, .int .u16 key, .int .u8 ex, .int .u8 dt, .int .u16 vb, .int .u16 st, .int .u32 body, .int .u32 opq, .int .u64 cas], v] w fun e w' => ∃ ev, e = .returned (.tuple #[v, ev]) ∧ Bad w a1 ev w' := by
  have HA := hidI ((Below.refl w.heap.size w).alloc (Nat.le_refl _) (.cells #[.int .u8 m, .int .u8 op, .int .u8 fr, .int .u16 key, .int .u8 ex, .int .u8 dt, .int .u16 vb, .int .u16 st, .int .u32 body, .int .u32 opq, .int .u64 cas] 29))
  have HC := hidI (check_bad F m op fr key ex dt vb st body opq cas (w.alloc (.cells #[.int .u8 m, .int .u8 op, .int .u8 fr, .int .u16 key, .int .u8 ex, .int .u8 dt, .int .u16 vb, .int .u16 st, .int .u32 body, .int .u32 opq, .int .u64 cas] 29)) hF (hidI (hG.out.below HA.out hN)) (by simp; omega) hf hk he hz h)
  clear hf hk he hz h
  go_enter Ybaf.func21, Ybaf.ntmps21
  go_wp2_with fail
  refine HC.out.mono ?_
  rintro e w1 ⟨ev, rfl, pb, rfl, hc, hb⟩
  have HB := hidI (HA.out.trans (hb.mono (by simp)))
  have HX := hidI hc
  clear HC hb hc
  go_wp2
  go_ret2
  exact ⟨_, rfl, pb, rfl, HX.out, HB.out⟩

def headB (m op fr key ex dt vb st body opq cas : Int) : List Int :=
  [m, op] ++ (if m = 8 then [fr, key % 256] else b2 key) ++ [ex, dt] ++ b2 (if m = 129 then st else vb) ++ b4 body ++ b4 opq ++ b8 cas

end Go.Proofs.YbulkbzcFmt
