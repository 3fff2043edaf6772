/-
  '(Header).check'. Typed by the prover of this seat (an AI agent).
-/
import Derived.Test.YbulkbzcFmtFacts
import Derived.Test.YbulkbzcFmtSmall
namespace Go.Proofs.YbulkbzcFmt
open Go.RowKit Go.Extern.Stop Go.Stop Go.Extern
set_option maxRecDepth 100000

/-- The two sentinels, below block N. -/
structure Gl (N : Nat) (w : World) (a0 a1 : Addr) (s0 s1 : ByteArray) : Prop where
  g0 : w.cell? ⟨0, 0, none⟩ = some (.iface 73 (.pointer (some a0)))
  g1 : w.cell? ⟨1, 0, none⟩ = some (.iface 73 (.pointer (some a1)))
  t0 : w.cell? a0 = some (.string s0)
  t1 : w.cell? a1 = some (.string s1)
  lt : 1 < N
  l0 : a0.block < N
  l1 : a1.block < N

theorem Gl.below {N : Nat} {w w' : World} {a0 a1 : Addr} {s0 s1 : ByteArray} (h : Gl N w a0 a1 s0 s1) {B : Nat} (hb : Below B w w') (hB : N ≤ B) : Gl N w' a0 a1 s0 s1 :=
  ⟨by rw [hb.cell (p := ⟨0, 0, none⟩) (by have := h.lt; show 0 < B; omega)]; exact h.g0, by rw [hb.cell (p := ⟨1, 0, none⟩) (by have := h.lt; show 1 < B; omega)]; exact h.g1,
    by rw [hb.cell (by have := h.l0; omega)]; exact h.t0, by rw [hb.cell (by have := h.l1; omega)]; exact h.t1, h.lt, h.l0, h.l1⟩

/-- What the function hands back where the header is refused. -/
def Bad (w : World) (a : Addr) (e : Value) (w' : World) : Prop := ∃ pb, e = .iface 70 (.pointer (some ⟨pb, 0, none⟩)) ∧ w'.cell? ⟨pb, 1, none⟩ = some (.iface 73 (.pointer (some a))) ∧ Below w.heap.size w w'

def Fine (m fr key ex body : Int) : Prop := (m = 128 ∨ m = 129 ∨ m = 8) ∧ (m = 8 → key ≤ 255) ∧ fr + ex + key ≤ body

theorem isreq_any (m : Int) (w : World) : Calls Ybaf.prog 25 #[.int .u8 m] w fun e w' => e = .returned (.bool (decide (m = 128) || decide (m = 8))) ∧ w' = w := by
  go_enter Ybaf.func25, Ybaf.ntmps25
  by_cases h : m = 128
  · subst h
    go_wp2
    go_ret
    exact ⟨rfl, rfl⟩
  · have h' : (m == 128) = false := beq_eq_false_iff_ne.2 h
    go_wp2
    go_ret
    refine ⟨?_, rfl⟩
    simp [h]
    rw [Bool.eq_iff_iff]
    simp

set_option maxHeartbeats 2000000 in
theorem check_ok (m op fr key ex dt vb st body opq cas : Int) (w : World) (hf : 0 ≤ fr ∧ fr ≤ 255) (hk : 0 ≤ key ∧ key ≤ 65535) (he : 0 ≤ ex ∧ ex ≤ 255) (hz : m ≠ 8 → fr = 0) (h : Fine m fr key ex body) :
    Calls Ybaf.prog 20 #[.agg #[.int .u8 m, .int .u8 op, .int .u8 fr, .int .u16 key, .int .u8 ex, .int .u8 dt, .int .u16 vb, .int .u16 st, .int .u32 body, .int .u32 opq, .int .u64 cas]] w fun e w' => e = .returned .nilIface ∧ Below w.heap.size w w' := by
  obtain ⟨hm, hk', hs⟩ := h
  have e3 : ¬ body < fr + ex + key := by omega
  go_enter Ybaf.func20, Ybaf.ntmps20
  rcases hm with rfl | rfl | rfl
  · obtain rfl := hz (by omega)
    clear hz hk'
    go_wp2
    go_ret
    exact ⟨rfl, (Below.refl _ _).alloc (Nat.le_refl _) _⟩
  · obtain rfl := hz (by omega)
    clear hz hk'
    go_wp2
    go_ret
    exact ⟨rfl, (Below.refl _ _).alloc (Nat.le_refl _) _⟩
  · have hk2 := hk' rfl
    have hk3 : ¬ 255 < key := by omega
    clear hz hk'
    go_wp2
    go_ret
    exact ⟨rfl, (Below.refl _ _).alloc (Nat.le_refl _) _⟩

attribute [local go_sem] call23 guardF fmt0 fmt0r fmt1 fmt1r fmt2 fmt2r fmt4 fmt4r fmt5 fmt5r op3 op5 op5x op23 op24 ptr73 elem73 isError73 ptr70 elem70 isError70

set_option maxHeartbeats 4000000 in
theorem check_magic (F : Interp) {N : Nat} {a0 a1 : Addr} {s0 s1 : ByteArray} (m op fr key ex dt vb st body opq cas : Int) (w : World) (hF : F.answers w.tape) (hG : Hid (Gl N w a0 a1 s0 s1)) (hN : N ≤ w.heap.size) (h : ¬ (m = 128 ∨ m = 129 ∨ m = 8)) :
    Calls Ybaf.prog 20 #[.agg #[.int .u8 m, .int .u8 op, .int .u8 fr, .int .u16 key, .int .u8 ex, .int .u8 dt, .int .u16 vb, .int .u16 st, .int .u32 body, .int .u32 opq, .int .u64 cas]] w fun e w' => ∃ v, e = .returned v ∧ Bad w a1 v w' := by
  have hF' : ∀ i name reading k range, w.tape i (.extern (word name reading k) range) = F name reading k := hF
  have h1 : (m == 128) = false := beq_eq_false_iff_ne.2 (by omega)
  have h2 : (m == 129) = false := beq_eq_false_iff_ne.2 (by omega)
  have h3 : (m == 8) = false := beq_eq_false_iff_ne.2 (by omega)
  clear h
  have g1 := hG.out.g1
  have hlt : 1 < w.heap.size := by have := hG.out.lt; omega
  have hlt0 : 0 < w.heap.size := by have := hG.out.lt; omega
  have HW := hidI ((Below.refl w.heap.size w).alloc (Nat.le_refl _) (.cells #[.int .u8 m, .int .u8 op, .int .u8 fr, .int .u16 key, .int .u8 ex, .int .u8 dt, .int .u16 vb, .int .u16 st, .int .u32 body, .int .u32 opq, .int .u64 cas] 29))
  have HW2 := hidI (HW.out.alloc (by simp) (.cells #[.iface 73 (.pointer (some a1)), .iface 5 (.int .u8 m)] 20))
  have hop := opPlain "fmt.errorf" a1 s1 _ (hG.out.below HW2.out hN).t1
  go_enter Ybaf.func20, Ybaf.ntmps20
  go_wp2
  go_ret
  exact ⟨_, rfl, w.heap.size + 1 + 1, rfl, by go_simp, (HW2.out.alloc (by simp; omega) _).drew⟩

set_option maxHeartbeats 4000000 in
theorem check_key (F : Interp) {N : Nat} {a0 a1 : Addr} {s0 s1 : ByteArray} (op fr key ex dt vb st body opq cas : Int) (w : World) (hF : F.answers w.tape) (hG : Hid (Gl N w a0 a1 s0 s1)) (hN : N ≤ w.heap.size) (h : 255 < key) :
    Calls Ybaf.prog 20 #[.agg #[.int .u8 8, .int .u8 op, .int .u8 fr, .int .u16 key, .int .u8 ex, .int .u8 dt, .int .u16 vb, .int .u16 st, .int .u32 body, .int .u32 opq, .int .u64 cas]] w fun e w' => ∃ v, e = .returned v ∧ Bad w a1 v w' := by
  have hF' : ∀ i name reading k range, w.tape i (.extern (word name reading k) range) = F name reading k := hF
  have g1 := hG.out.g1
  have hlt : 1 < w.heap.size := by have := hG.out.lt; omega
  have hlt0 : 0 < w.heap.size := by have := hG.out.lt; omega
  have HW := hidI ((Below.refl w.heap.size w).alloc (Nat.le_refl _) (.cells #[.int .u8 8, .int .u8 op, .int .u8 fr, .int .u16 key, .int .u8 ex, .int .u8 dt, .int .u16 vb, .int .u16 st, .int .u32 body, .int .u32 opq, .int .u64 cas] 29))
  have HW2 := hidI (HW.out.alloc (by simp) (.cells #[.iface 73 (.pointer (some a1)), .iface 23 (.int .u16 key)] 20))
  have hop := opPlain "fmt.errorf" a1 s1 _ (hG.out.below HW2.out hN).t1
  go_enter Ybaf.func20, Ybaf.ntmps20
  go_wp2
  go_ret
  exact ⟨_, rfl, w.heap.size + 1 + 1, rfl, by go_simp, (HW2.out.alloc (by simp; omega) _).drew⟩

set_option maxHeartbeats 4000000 in
theorem check_over8 (F : Interp) {N : Nat} {a0 a1 : Addr} {s0 s1 : ByteArray} (op fr key ex dt vb st body opq cas : Int) (w : World) (hF : F.answers w.tape) (hG : Hid (Gl N w a0 a1 s0 s1)) (hN : N ≤ w.heap.size) (hf : 0 ≤ fr ∧ fr ≤ 255) (hk : 0 ≤ key ∧ key ≤ 65535) (he : 0 ≤ ex ∧ ex ≤ 255) (hkk : ¬ 255 < key) (h : body < fr + ex + key) :
    Calls Ybaf.prog 20 #[.agg #[.int .u8 8, .int .u8 op, .int .u8 fr, .int .u16 key, .int .u8 ex, .int .u8 dt, .int .u16 vb, .int .u16 st, .int .u32 body, .int .u32 opq, .int .u64 cas]] w fun e w' => ∃ v, e = .returned v ∧ Bad w a1 v w' := by
  have hF' : ∀ i name reading k range, w.tape i (.extern (word name reading k) range) = F name reading k := hF
  have g1 := hG.out.g1
  have hlt : 1 < w.heap.size := by have := hG.out.lt; omega
  have hlt0 : 0 < w.heap.size := by have := hG.out.lt; omega
  have HW := hidI ((Below.refl w.heap.size w).alloc (Nat.le_refl _) (.cells #[.int .u8 8, .int .u8 op, .int .u8 fr, .int .u16 key, .int .u8 ex, .int .u8 dt, .int .u16 vb, .int .u16 st, .int .u32 body, .int .u32 opq, .int .u64 cas] 29))
  have HW2 := hidI (HW.out.alloc (by simp) (.cells #[.iface 73 (.pointer (some a1)), .iface 5 (.int .u8 fr), .iface 5 (.int .u8 ex), .iface 23 (.int .u16 key), .iface 24 (.int .u32 body)] 20))
  have hop := opPlain "fmt.errorf" a1 s1 _ (hG.out.below HW2.out hN).t1
  go_enter Ybaf.func20, Ybaf.ntmps20
  go_wp2
  go_ret
  exact ⟨_, rfl, w.heap.size + 1 + 1, rfl, by go_simp, (HW2.out.alloc (by simp; omega) _).drew⟩

set_option maxHeartbeats 4000000 in
theorem check_over128 (F : Interp) {N : Nat} {a0 a1 : Addr} {s0 s1 : ByteArray} (op key ex dt vb st body opq cas : Int) (w : World) (hF : F.answers w.tape) (hG : Hid (Gl N w a0 a1 s0 s1)) (hN : N ≤ w.heap.size) (hk : 0 ≤ key ∧ key ≤ 65535) (he : 0 ≤ ex ∧ ex ≤ 255) (h : body < 0 + ex + key) :
    Calls Ybaf.prog 20 #[.agg #[.int .u8 128, .int .u8 op, .int .u8 0, .int .u16 key, .int .u8 ex, .int .u8 dt, .int .u16 vb, .int .u16 st, .int .u32 body, .int .u32 opq, .int .u64 cas]] w fun e w' => ∃ v, e = .returned v ∧ Bad w a1 v w' := by
  have hF' : ∀ i name reading k range, w.tape i (.extern (word name reading k) range) = F name reading k := hF
  have h' : body < ex + key := by omega
  clear h
  have g1 := hG.out.g1
  have hlt : 1 < w.heap.size := by have := hG.out.lt; omega
  have hlt0 : 0 < w.heap.size := by have := hG.out.lt; omega
  have HW := hidI ((Below.refl w.heap.size w).alloc (Nat.le_refl _) (.cells #[.int .u8 128, .int .u8 op, .int .u8 0, .int .u16 key, .int .u8 ex, .int .u8 dt, .int .u16 vb, .int .u16 st, .int .u32 body, .int .u32 opq, .int .u64 cas] 29))
  have HW2 := hidI (HW.out.alloc (by simp) (.cells #[.iface 73 (.pointer (some a1)), .iface 5 (.int .u8 0), .iface 5 (.int .u8 ex), .iface 23 (.int .u16 key), .iface 24 (.int .u32 body)] 20))
  have hop := opPlain "fmt.errorf" a1 s1 _ (hG.out.below HW2.out hN).t1
  go_enter Ybaf.func20, Ybaf.ntmps20
  go_wp2
  go_ret
  exact ⟨_, rfl, w.heap.size + 1 + 1, rfl, by go_simp, (HW2.out.alloc (by simp; omega) _).drew⟩

set_option maxHeartbeats 4000000 in
theorem check_over129 (F : Interp) {N : Nat} {a0 a1 : Addr} {s0 s1 : ByteArray} (op key ex dt vb st body opq cas : Int) (w : World) (hF : F.answers w.tape) (hG : Hid (Gl N w a0 a1 s0 s1)) (hN : N ≤ w.heap.size) (hk : 0 ≤ key ∧ key ≤ 65535) (he : 0 ≤ ex ∧ ex ≤ 255) (h : body < 0 + ex + key) :
    Calls Ybaf.prog 20 #[.agg #[.int .u8 129, .int .u8 op, .int .u8 0, .int .u16 key, .int .u8 ex, .int .u8 dt, .int .u16 vb, .int .u16 st, .int .u32 body, .int .u32 opq, .int .u64 cas]] w fun e w' => ∃ v, e = .returned v ∧ Bad w a1 v w' := by
  have hF' : ∀ i name reading k range, w.tape i (.extern (word name reading k) range) = F name reading k := hF
  have h' : body < ex + key := by omega
  clear h
  have g1 := hG.out.g1
  have hlt : 1 < w.heap.size := by have := hG.out.lt; omega
  have hlt0 : 0 < w.heap.size := by have := hG.out.lt; omega
  have HW := hidI ((Below.refl w.heap.size w).alloc (Nat.le_refl _) (.cells #[.int .u8 129, .int .u8 op, .int .u8 0, .int .u16 key, .int .u8 ex, .int .u8 dt, .int .u16 vb, .int .u16 st, .int .u32 body, .int .u32 opq, .int .u64 cas] 29))
  have HW2 := hidI (HW.out.alloc (by simp) (.cells #[.iface 73 (.pointer (some a1)), .iface 5 (.int .u8 0), .iface 5 (.int .u8 ex), .iface 23 (.int .u16 key), .iface 24 (.int .u32 body)] 20))
  have hop := opPlain "fmt.errorf" a1 s1 _ (hG.out.below HW2.out hN).t1
  go_enter Ybaf.func20, Ybaf.ntmps20
  go_wp2
  go_ret
  exact ⟨_, rfl, w.heap.size + 1 + 1, rfl, by go_simp, (HW2.out.alloc (by simp; omega) _).drew⟩

end Go.Proofs.YbulkbzcFmt
