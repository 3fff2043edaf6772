/-
  '(Header).appendSized'. Typed by the prover of this seat (an AI agent).
-/
import Derived.Test.YbulkbzcFmtHead8
import Derived.Test.YbulkbzcFmtHead128
import Derived.Test.YbulkbzcFmtHead129
namespace Go.Proofs.YbulkbzcFmt
open Go.RowKit Go.Extern.Stop Go.Stop Go.Extern
set_option maxRecDepth 100000
attribute [local go_sem] call23 guardF fmt0 fmt0r fmt1 fmt1r op3 ptr73 elem73 isError73 ptr70 elem70 isError70

set_option maxHeartbeats 4000000 in
theorem sized_ex (F : Interp) {N : Nat} {a0 a1 : Addr} {s0 s1 : ByteArray} (v : Value) (m op x2 x3 x4 dt vb st x8 opq cas fr ex key val : Int) (w : World) (hF : F.answers w.tape) (hG : Hid (Gl N w a0 a1 s0 s1)) (hN : N ≤ w.heap.size) (h1 : ¬ 255 < fr) (h2 : 255 < ex) :
    Calls Ybaf.prog 12 #[.agg #[.int .u8 m, .int .u8 op, .int .u8 x2, .int .u16 x3, .int .u8 x4, .int .u8 dt, .int .u16 vb, .int .u16 st, .int .u32 x8, .int .u32 opq, .int .u64 cas], v, .int .i64 fr, .int .i64 ex, .int .i64 key, .int .i64 val] w fun e w' => ∃ ev, e = .returned (.tuple #[v, ev]) ∧ Bad w a1 ev w' := by
  have hF' : ∀ i name reading k range, w.tape i (.extern (word name reading k) range) = F name reading k := hF
  have g1 := hG.out.g1
  have hlt : 1 < w.heap.size := by have := hG.out.lt; omega
  have hlt0 : 0 < w.heap.size := by have := hG.out.lt; omega
  have HW := hidI ((Below.refl w.heap.size w).alloc (Nat.le_refl _) (.cells #[.int .u8 m, .int .u8 op, .int .u8 x2, .int .u16 x3, .int .u8 x4, .int .u8 dt, .int .u16 vb, .int .u16 st, .int .u32 x8, .int .u32 opq, .int .u64 cas] 29))
  have HW2 := hidI (HW.out.alloc (by simp) (.cells #[.iface 73 (.pointer (some a1)), .iface 3 (.int .i64 fr), .iface 3 (.int .i64 ex), .iface 3 (.int .i64 key)] 20))
  have hop := opPlain "fmt.errorf" a1 s1 _ (hG.out.below HW2.out hN).t1
  go_enter Ybaf.func12, Ybaf.ntmps12
  go_wp2
  go_ret2
  exact ⟨_, rfl, w.heap.size + 1 + 1, rfl, by go_simp, (HW2.out.alloc (by simp; omega) _).drew⟩

set_option maxHeartbeats 4000000 in
theorem sized_key (F : Interp) {N : Nat} {a0 a1 : Addr} {s0 s1 : ByteArray} (v : Value) (m op x2 x3 x4 dt vb st x8 opq cas fr ex key val : Int) (w : World) (hF : F.answers w.tape) (hG : Hid (Gl N w a0 a1 s0 s1)) (hN : N ≤ w.heap.size) (h1 : ¬ 255 < fr) (h2 : ¬ 255 < ex) (h3 : 65535 < key) :
    Calls Ybaf.prog 12 #[.agg #[.int .u8 m, .int .u8 op, .int .u8 x2, .int .u16 x3, .int .u8 x4, .int .u8 dt, .int .u16 vb, .int .u16 st, .int .u32 x8, .int .u32 opq, .int .u64 cas], v, .int .i64 fr, .int .i64 ex, .int .i64 key, .int .i64 val] w fun e w' => ∃ ev, e = .returned (.tuple #[v, ev]) ∧ Bad w a1 ev w' := by
  have hF' : ∀ i name reading k range, w.tape i (.extern (word name reading k) range) = F name reading k := hF
  have g1 := hG.out.g1
  have hlt : 1 < w.heap.size := by have := hG.out.lt; omega
  have hlt0 : 0 < w.heap.size := by have := hG.out.lt; omega
  have HW := hidI ((Below.refl w.heap.size w).alloc (Nat.le_refl _) (.cells #[.int .u8 m, .int .u8 op, .int .u8 x2, .int .u16 x3, .int .u8 x4, .int .u8 dt, .int .u16 vb, .int .u16 st, .int .u32 x8, .int .u32 opq, .int .u64 cas] 29))
  have HW2 := hidI (HW.out.alloc (by simp) (.cells #[.iface 73 (.pointer (some a1)), .iface 3 (.int .i64 fr), .iface 3 (.int .i64 ex), .iface 3 (.int .i64 key)] 20))
  have hop := opPlain "fmt.errorf" a1 s1 _ (hG.out.below HW2.out hN).t1
  go_enter Ybaf.func12, Ybaf.ntmps12
  go_wp2
  go_ret2
  exact ⟨_, rfl, w.heap.size + 1 + 1, rfl, by go_simp, (HW2.out.alloc (by simp; omega) _).drew⟩

set_option maxHeartbeats 4000000 in
theorem sized_big (F : Interp) {N : Nat} {a0 a1 : Addr} {s0 s1 : ByteArray} (v : Value) (m op x2 x3 x4 dt vb st x8 opq cas fr ex key val : Int) (w : World) (hF : F.answers w.tape) (hG : Hid (Gl N w a0 a1 s0 s1)) (hN : N ≤ w.heap.size) (T : Int) (hT : wrap64 (wrap64 (wrap64 (fr + ex) + key) + val) = T) (h1 : ¬ 255 < fr) (h2 : ¬ 255 < ex) (h3 : ¬ 65535 < key) (h4 : 4294967295 < IntKind.u64.wrap T) :
    Calls Ybaf.prog 12 #[.agg #[.int .u8 m, .int .u8 op, .int .u8 x2, .int .u16 x3, .int .u8 x4, .int .u8 dt, .int .u16 vb, .int .u16 st, .int .u32 x8, .int .u32 opq, .int .u64 cas], v, .int .i64 fr, .int .i64 ex, .int .i64 key, .int .i64 val] w fun e w' => ∃ ev, e = .returned (.tuple #[v, ev]) ∧ Bad w a0 ev w' := by
  have hF' : ∀ i name reading k range, w.tape i (.extern (word name reading k) range) = F name reading k := hF
  have g1 := hG.out.g0
  have hlt : 1 < w.heap.size := by have := hG.out.lt; omega
  have hlt0 : 0 < w.heap.size := by have := hG.out.lt; omega
  have HW := hidI ((Below.refl w.heap.size w).alloc (Nat.le_refl _) (.cells #[.int .u8 m, .int .u8 op, .int .u8 x2, .int .u16 x3, .int .u8 x4, .int .u8 dt, .int .u16 vb, .int .u16 st, .int .u32 x8, .int .u32 opq, .int .u64 cas] 29))
  have HW2 := hidI (HW.out.alloc (by simp) (.cells #[.iface 73 (.pointer (some a0)), .iface 3 (.int .i64 T)] 20))
  have hop := opPlain "fmt.errorf" a0 s0 _ (hG.out.below HW2.out hN).t0
  go_enter Ybaf.func12, Ybaf.ntmps12
  go_wp2
  go_ret2
  exact ⟨_, rfl, w.heap.size + 1 + 1, rfl, by go_simp, (HW2.out.alloc (by simp; omega) _).drew⟩

set_option maxHeartbeats 4000000 in
theorem sized_go (v : Value) (m op x2 x3 x4 dt vb st x8 opq cas fr ex key val : Int) (w : World)
    (T fr8 ex8 k16 body : Int) (hT : wrap64 (wrap64 (wrap64 (fr + ex) + key) + val) = T) (h1 : ¬ 255 < fr) (h2 : ¬ 255 < ex) (h3 : ¬ 65535 < key) (h4 : ¬ 4294967295 < IntKind.u64.wrap T)
    (e1 : IntKind.u8.wrap fr = fr8) (e2 : IntKind.u8.wrap ex = ex8) (e3 : IntKind.u16.wrap key = k16) (e4 : IntKind.u32.wrap T = body)
    (R : World → Value → Value → World → Prop) (hC : Hid (∀ W, Below w.heap.size w W → Calls Ybaf.prog 21 #[.agg #[.int .u8 m, .int .u8 op, .int .u8 fr8, .int .u16 k16, .int .u8 ex8, .int .u8 dt, .int .u16 vb, .int .u16 st, .int .u32 body, .int .u32 opq, .int .u64 cas], v] W fun e w' => ∃ x y, e = .returned (.tuple #[x, y]) ∧ R W x y w')) :
    Calls Ybaf.prog 12 #[.agg #[.int .u8 m, .int .u8 op, .int .u8 x2, .int .u16 x3, .int .u8 x4, .int .u8 dt, .int .u16 vb, .int .u16 st, .int .u32 x8, .int .u32 opq, .int .u64 cas], v, .int .i64 fr, .int .i64 ex, .int .i64 key, .int .i64 val] w fun e w' => ∃ W x y, Below w.heap.size w W ∧ e = .returned (.tuple #[x, y]) ∧ R W x y w' := by
  have HA := hidI ((Below.refl w.heap.size w).alloc (Nat.le_refl _) (.cells #[.int .u8 m, .int .u8 op, .int .u8 fr8, .int .u16 k16, .int .u8 ex8, .int .u8 dt, .int .u16 vb, .int .u16 st, .int .u32 body, .int .u32 opq, .int .u64 cas] 29))
  go_enter Ybaf.func12, Ybaf.ntmps12
  go_wp2_with fail
  refine (hC.out _ HA.out).mono ?_
  rintro e w1 ⟨x, y, rfl, hR⟩
  have HR := hidI hR
  clear hR hC
  go_wp2
  go_ret2
  exact ⟨_, _, _, HA.out, rfl, HR.out⟩

theorem ab_ok {B : Nat} {w : World} {v : Value} {zs : List Int} (m op fr key ex dt vb st body opq cas : Int) (hf : 0 ≤ fr ∧ fr ≤ 255) (hk : 0 ≤ key ∧ key ≤ 65535) (he : 0 ≤ ex ∧ ex ≤ 255) (hv : 0 ≤ vb ∧ vb ≤ 65535) (hst : 0 ≤ st ∧ st ≤ 65535)
    (hbo : 0 ≤ body ∧ body ≤ 4294967295) (ho : 0 ≤ opq ∧ opq ≤ 4294967295) (hca : 0 ≤ cas ∧ cas ≤ 18446744073709551615) (hz : m ≠ 8 → fr = 0) (h : Fine m fr key ex body) (hr : Hid (Row B w v zs)) (hB : B ≤ w.heap.size) (hlen : zs.length ≤ 1200) :
    Calls Ybaf.prog 21 #[.agg #[.int .u8 m, .int .u8 op, .int .u8 fr, .int .u16 key, .int .u8 ex, .int .u8 dt, .int .u16 vb, .int .u16 st, .int .u32 body, .int .u32 opq, .int .u64 cas], v] w fun e w' => ∃ v', e = .returned (.tuple #[v', .nilIface]) ∧ Row B w' v' (zs ++ headB m op fr key ex dt vb st body opq cas) ∧ Kp B w w' := by
  obtain ⟨hm, h8, hs⟩ := h
  rcases hm with rfl | rfl | rfl
  · obtain rfl := hz (by omega)
    exact ab_ok128 op key ex dt vb st body opq cas hk he hv hst hbo ho hca hs hr hB hlen
  · obtain rfl := hz (by omega)
    exact ab_ok129 op key ex dt vb st body opq cas hk he hv hst hbo ho hca hs hr hB hlen
  · exact ab_ok8 op fr key ex dt vb st body opq cas hf ⟨hk.1, h8 rfl⟩ he hv hst hbo ho hca hs hr hB hlen

theorem u64_lt (T : Int) : 0 ≤ IntKind.u64.wrap T := by simp [IntKind.wrap, IntKind.signed, IntKind.bits]; omega
theorem u8_range (x : Int) : 0 ≤ IntKind.u8.wrap x ∧ IntKind.u8.wrap x ≤ 255 := by simp [IntKind.wrap, IntKind.signed, IntKind.bits]; omega
theorem u16_range (x : Int) : 0 ≤ IntKind.u16.wrap x ∧ IntKind.u16.wrap x ≤ 65535 := by simp [IntKind.wrap, IntKind.signed, IntKind.bits]; omega
theorem u32_range (x : Int) : 0 ≤ IntKind.u32.wrap x ∧ IntKind.u32.wrap x ≤ 4294967295 := by simp [IntKind.wrap, IntKind.signed, IntKind.bits]; omega

/-- The whole sum. -/
def total (fr ex key val : Int) : Int := wrap64 (wrap64 (wrap64 (fr + ex) + key) + val)

/-- Where the function refuses, and with which of the two. -/
def Long (ex key : Int) : Prop := 255 < ex ∨ 65535 < key
def Big (fr ex key val : Int) : Prop := 4294967295 < IntKind.u64.wrap (total fr ex key val)
def Good (m fr ex key val : Int) : Prop := Fine m (IntKind.u8.wrap fr) (IntKind.u16.wrap key) (IntKind.u8.wrap ex) (IntKind.u32.wrap (total fr ex key val))

theorem sized_long (F : Interp) {N : Nat} {a0 a1 : Addr} {s0 s1 : ByteArray} (v : Value) (m op x2 x3 x4 dt vb st x8 opq cas fr ex key val : Int) (w : World) (hF : F.answers w.tape) (hG : Hid (Gl N w a0 a1 s0 s1)) (hN : N ≤ w.heap.size)
    (h1 : ¬ 255 < fr) (h : Long ex key) :
    Calls Ybaf.prog 12 #[.agg #[.int .u8 m, .int .u8 op, .int .u8 x2, .int .u16 x3, .int .u8 x4, .int .u8 dt, .int .u16 vb, .int .u16 st, .int .u32 x8, .int .u32 opq, .int .u64 cas], v, .int .i64 fr, .int .i64 ex, .int .i64 key, .int .i64 val] w fun e w' => ∃ ev, e = .returned (.tuple #[v, ev]) ∧ Bad w a1 ev w' := by
  by_cases h2 : 255 < ex
  · exact sized_ex F v m op x2 x3 x4 dt vb st x8 opq cas fr ex key val w hF hG hN h1 h2
  · exact sized_key F v m op x2 x3 x4 dt vb st x8 opq cas fr ex key val w hF hG hN h1 h2 (h.resolve_left h2)

theorem sized_bad (F : Interp) {N : Nat} {a0 a1 : Addr} {s0 s1 : ByteArray} (v : Value) (m op x2 x3 x4 dt vb st x8 opq cas fr ex key val : Int) (w : World) (hF : F.answers w.tape) (hG : Hid (Gl N w a0 a1 s0 s1)) (hN : N ≤ w.heap.size)
    (h1 : ¬ 255 < fr) (hL : ¬ Long ex key) (hB : ¬ Big fr ex key val) (hz : m ≠ 8 → IntKind.u8.wrap fr = 0) (hG' : ¬ Good m fr ex key val) :
    Calls Ybaf.prog 12 #[.agg #[.int .u8 m, .int .u8 op, .int .u8 x2, .int .u16 x3, .int .u8 x4, .int .u8 dt, .int .u16 vb, .int .u16 st, .int .u32 x8, .int .u32 opq, .int .u64 cas], v, .int .i64 fr, .int .i64 ex, .int .i64 key, .int .i64 val] w fun e w' => ∃ ev, e = .returned (.tuple #[v, ev]) ∧ Bad w a1 ev w' := by
  refine (sized_go v m op x2 x3 x4 dt vb st x8 opq cas fr ex key val w (total fr ex key val) _ _ _ _ rfl h1 (fun h => hL (Or.inl h)) (fun h => hL (Or.inr h)) hB rfl rfl rfl rfl (fun W x y w' => x = v ∧ Bad W a1 y w') (fun W hW => ?_)).mono ?_
  · refine (ab_bad F v m op _ _ _ dt vb st _ opq cas W (by rw [hW.tape]; exact hF) (hidI (hG.out.below hW hN)) (Nat.le_trans hN hW.size) (u8_range _) (u16_range _) (u8_range _) hz hG').mono ?_
    rintro e w' ⟨ev, rfl, hb⟩
    exact ⟨_, _, rfl, rfl, hb⟩
  · rintro e w' ⟨W, x, y, hW, rfl, rfl, pb, rfl, hc, hb⟩
    exact ⟨_, rfl, pb, rfl, hc, hW.trans (hb.mono hW.size)⟩

theorem sized_ok {B : Nat} {zs : List Int} (v : Value) (m op x2 x3 x4 dt vb st x8 opq cas fr ex key val : Int) (w : World)
    (hv : 0 ≤ vb ∧ vb ≤ 65535) (hst : 0 ≤ st ∧ st ≤ 65535) (ho : 0 ≤ opq ∧ opq ≤ 4294967295) (hca : 0 ≤ cas ∧ cas ≤ 18446744073709551615)
    (h1 : ¬ 255 < fr) (hL : ¬ Long ex key) (hBg : ¬ Big fr ex key val) (hz : m ≠ 8 → IntKind.u8.wrap fr = 0) (hG' : Good m fr ex key val) (hr : Hid (Row B w v zs)) (hB : B ≤ w.heap.size) (hlen : zs.length ≤ 1200) :
    Calls Ybaf.prog 12 #[.agg #[.int .u8 m, .int .u8 op, .int .u8 x2, .int .u16 x3, .int .u8 x4, .int .u8 dt, .int .u16 vb, .int .u16 st, .int .u32 x8, .int .u32 opq, .int .u64 cas], v, .int .i64 fr, .int .i64 ex, .int .i64 key, .int .i64 val] w fun e w' => ∃ v', e = .returned (.tuple #[v', .nilIface]) ∧ Row B w' v' (zs ++ headB m op (IntKind.u8.wrap fr) (IntKind.u16.wrap key) (IntKind.u8.wrap ex) dt vb st (IntKind.u32.wrap (total fr ex key val)) opq cas) ∧ Kp B w w' := by
  refine (sized_go v m op x2 x3 x4 dt vb st x8 opq cas fr ex key val w (total fr ex key val) _ _ _ _ rfl h1 (fun h => hL (Or.inl h)) (fun h => hL (Or.inr h)) hBg rfl rfl rfl rfl
    (fun W x y w' => y = .nilIface ∧ Row B w' x (zs ++ headB m op (IntKind.u8.wrap fr) (IntKind.u16.wrap key) (IntKind.u8.wrap ex) dt vb st (IntKind.u32.wrap (total fr ex key val)) opq cas) ∧ Kp B W w') (fun W hW => ?_)).mono ?_
  · refine (ab_ok m op _ _ _ dt vb st _ opq cas (u8_range _) (u16_range _) (u8_range _) hv hst (u32_range _) ho hca hz hG' (hidI (hr.out.below hW)) (Nat.le_trans hB hW.size) hlen).mono ?_
    rintro e w' ⟨v', rfl, hb⟩
    exact ⟨_, _, rfl, rfl, hb⟩
  · rintro e w' ⟨W, x, y, hW, rfl, rfl, hR, hK⟩
    exact ⟨_, rfl, hR, (Kp.of_below hW).trans hK⟩

end Go.Proofs.YbulkbzcFmt
