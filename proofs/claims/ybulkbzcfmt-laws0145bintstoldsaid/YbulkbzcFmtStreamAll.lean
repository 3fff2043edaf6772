/-
  'appendStreamHead' in three statements. Typed by the prover of this seat (an AI agent).
-/
import Derived.Test.YbulkbzcFmtStream
namespace Go.Proofs.YbulkbzcFmt
open Go.RowKit Go.Extern.Stop Go.Stop Go.Extern
set_option maxRecDepth 100000

def mg (m id : Int) : Int := if id = 0 then m else 8
def fg (id : Int) : Int := if id = 0 then 0 else 3
def tailB (id : Int) : List Int := if id = 0 then [] else [34] ++ b2 id

theorem fg_small (id : Int) : ¬ 255 < fg id := by unfold fg; split <;> omega
theorem w0 : IntKind.u8.wrap 0 = 0 := by decide

theorem stream_bad1 (F : Interp) {N : Nat} {a0 a1 : Addr} {s0 s1 : ByteArray} (v : Value) (m op x2 x3 x4 dt vb st x8 opq cas id ex key val : Int) (w : World) (hF : F.answers w.tape) (hG : Hid (Gl N w a0 a1 s0 s1)) (hN : N ≤ w.heap.size)
    (h : Long ex key ∨ (¬ Long ex key ∧ ¬ Big (fg id) ex key val ∧ ¬ Good (mg m id) (fg id) ex key val)) :
    Calls Ybaf.prog 7 #[v, .agg #[.int .u8 m, .int .u8 op, .int .u8 x2, .int .u16 x3, .int .u8 x4, .int .u8 dt, .int .u16 vb, .int .u16 st, .int .u32 x8, .int .u32 opq, .int .u64 cas], .int .u16 id, .int .i64 ex, .int .i64 key, .int .i64 val] w fun e w' => ∃ ev, e = .returned (.tuple #[v, ev]) ∧ Bad w a1 ev w' := by
  by_cases hid : id = 0
  · subst hid
    refine head0_bad v m op x2 x3 x4 dt vb st x8 opq cas ex key val w (fun W hW => ?_)
    have hF' : F.answers W.tape := by rw [hW.tape]; exact hF
    have hG' := hidI (hG.out.below hW hN)
    rcases h with h | ⟨h1, h2, h3⟩
    · exact sized_long F v m op x2 x3 x4 dt vb st x8 opq cas 0 ex key val W hF' hG' (Nat.le_trans hN hW.size) (by omega) h
    · exact sized_bad F v m op x2 x3 x4 dt vb st x8 opq cas 0 ex key val W hF' hG' (Nat.le_trans hN hW.size) (by omega) h1 h2 (fun _ => w0) h3
  · refine head3_bad v m op x2 x3 x4 dt vb st x8 opq cas id ex key val w hid (fun W hW => ?_)
    have hF' : F.answers W.tape := by rw [hW.tape]; exact hF
    have hG' := hidI (hG.out.below hW hN)
    have e1 : fg id = 3 := by simp [fg, hid]
    have e2 : mg m id = 8 := by simp [mg, hid]
    rw [e1, e2] at h
    rcases h with h | ⟨h1, h2, h3⟩
    · exact sized_long F v 8 op x2 x3 x4 dt vb st x8 opq cas 3 ex key val W hF' hG' (Nat.le_trans hN hW.size) (by omega) h
    · exact sized_bad F v 8 op x2 x3 x4 dt vb st x8 opq cas 3 ex key val W hF' hG' (Nat.le_trans hN hW.size) (by omega) h1 h2 (fun h => absurd rfl h) h3

theorem stream_bad0 (F : Interp) {N : Nat} {a0 a1 : Addr} {s0 s1 : ByteArray} (v : Value) (m op x2 x3 x4 dt vb st x8 opq cas id ex key val : Int) (w : World) (hF : F.answers w.tape) (hG : Hid (Gl N w a0 a1 s0 s1)) (hN : N ≤ w.heap.size)
    (hL : ¬ Long ex key) (h : Big (fg id) ex key val) :
    Calls Ybaf.prog 7 #[v, .agg #[.int .u8 m, .int .u8 op, .int .u8 x2, .int .u16 x3, .int .u8 x4, .int .u8 dt, .int .u16 vb, .int .u16 st, .int .u32 x8, .int .u32 opq, .int .u64 cas], .int .u16 id, .int .i64 ex, .int .i64 key, .int .i64 val] w fun e w' => ∃ ev, e = .returned (.tuple #[v, ev]) ∧ Bad w a0 ev w' := by
  by_cases hid : id = 0
  · subst hid
    refine head0_bad v m op x2 x3 x4 dt vb st x8 opq cas ex key val w (fun W hW => ?_)
    exact sized_big F v m op x2 x3 x4 dt vb st x8 opq cas 0 ex key val W (by rw [hW.tape]; exact hF) (hidI (hG.out.below hW hN)) (Nat.le_trans hN hW.size) _ rfl (by omega) (fun h => hL (Or.inl h)) (fun h => hL (Or.inr h)) h
  · refine head3_bad v m op x2 x3 x4 dt vb st x8 opq cas id ex key val w hid (fun W hW => ?_)
    have e1 : fg id = 3 := by simp [fg, hid]
    rw [e1] at h
    exact sized_big F v 8 op x2 x3 x4 dt vb st x8 opq cas 3 ex key val W (by rw [hW.tape]; exact hF) (hidI (hG.out.below hW hN)) (Nat.le_trans hN hW.size) _ rfl (by omega) (fun h => hL (Or.inl h)) (fun h => hL (Or.inr h)) h

theorem headB_length (m op fr key ex dt vb st body opq cas : Int) : (headB m op fr key ex dt vb st body opq cas).length = 24 := by
  unfold headB; split <;> simp [b2, b4, b8]

theorem stream_ok {B : Nat} {zs : List Int} (v : Value) (m op x2 x3 x4 dt vb st x8 opq cas id ex key val : Int) (w : World)
    (hv : 0 ≤ vb ∧ vb ≤ 65535) (hst : 0 ≤ st ∧ st ≤ 65535) (ho : 0 ≤ opq ∧ opq ≤ 4294967295) (hca : 0 ≤ cas ∧ cas ≤ 18446744073709551615) (h0 : 0 ≤ id) (h1 : id < 65536)
    (hL : ¬ Long ex key) (hBg : ¬ Big (fg id) ex key val) (hGd : Good (mg m id) (fg id) ex key val) (hr : Hid (Row B w v zs)) (hB : B ≤ w.heap.size) (hlen : zs.length ≤ 1200) :
    Calls Ybaf.prog 7 #[v, .agg #[.int .u8 m, .int .u8 op, .int .u8 x2, .int .u16 x3, .int .u8 x4, .int .u8 dt, .int .u16 vb, .int .u16 st, .int .u32 x8, .int .u32 opq, .int .u64 cas], .int .u16 id, .int .i64 ex, .int .i64 key, .int .i64 val] w fun e w' => ∃ v', e = .returned (.tuple #[v', .nilIface]) ∧
      Row B w' v' (zs ++ headB (mg m id) op (IntKind.u8.wrap (fg id)) (IntKind.u16.wrap key) (IntKind.u8.wrap ex) dt vb st (IntKind.u32.wrap (total (fg id) ex key val)) opq cas ++ tailB id) ∧ Kp B w w' := by
  by_cases hid : id = 0
  · subst hid
    have := head0_ok (B := B) (L := zs ++ headB m op (IntKind.u8.wrap 0) (IntKind.u16.wrap key) (IntKind.u8.wrap ex) dt vb st (IntKind.u32.wrap (total 0 ex key val)) opq cas) v m op x2 x3 x4 dt vb st x8 opq cas ex key val w
      (fun W hW => sized_ok v m op x2 x3 x4 dt vb st x8 opq cas 0 ex key val W hv hst ho hca (by omega) hL hBg (fun _ => w0) hGd (hidI (hr.out.below hW)) (Nat.le_trans hB hW.size) hlen)
    simpa [mg, fg, tailB] using this
  · have e1 : fg id = 3 := by simp [fg, hid]
    have e2 : mg m id = 8 := by simp [mg, hid]
    rw [e1] at hBg
    rw [e1, e2] at hGd
    have := head3_ok (B := B) (L := zs ++ headB 8 op (IntKind.u8.wrap 3) (IntKind.u16.wrap key) (IntKind.u8.wrap ex) dt vb st (IntKind.u32.wrap (total 3 ex key val)) opq cas) v m op x2 x3 x4 dt vb st x8 opq cas id ex key val w hid h0 h1 hB (by rw [List.length_append, headB_length]; omega)
      (fun W hW => sized_ok v 8 op x2 x3 x4 dt vb st x8 opq cas 3 ex key val W hv hst ho hca (by omega) hL hBg (fun h => absurd rfl h) hGd (hidI (hr.out.below hW)) (Nat.le_trans hB hW.size) hlen)
    rw [e1, e2]
    have e3 : tailB id = [34] ++ b2 id := by simp [tailB, hid]
    rw [e3, ← List.append_assoc]
    exact this
end Go.Proofs.YbulkbzcFmt
