/-
  The law's own function, walked from loop to loop. Typed by the prover of this seat (an AI agent).
-/
import Derived.Test.YbulkbyoLoop1
import Derived.Test.YbulkbyoLoop2
import Derived.Test.YbulkbyoIfs
import Derived.Test.YbulkbyoLoop4
import Derived.Test.YbulkbyoLoop5
import Derived.Test.YbulkbyoLoop7
import Derived.Test.YbulkbyoLoop8
import Derived.Test.YbulkbyoLoop9
import Derived.Test.YbulkbyoLoop10
import Derived.Test.YbulkbyoLoop11
import Derived.Test.YbulkbyoFin
namespace Go.Proofs.Ybulkbyo
open Go.RowKit Go.MapFn
set_option maxRecDepth 1000000

/-- A list longer than the law's bound: true at once. -/
theorem law_long (lvl sn : Int) (a2 a3 a4 a5 a7 : Option Addr) (l2 c2 l3 c3 l4 c4 l5 c5 l7 c7 : Nat) (nsv key : Int) (val : ByteArray) (del : Bool) (w0 : World)
    (h : 1024 < l2 ∨ 1024 < l3 ∨ 1024 < l4 ∨ 1024 < l5 ∨ 1024 < l7 ∨ 1024 < val.size) :
    Calls Yba.prog 3 #[.int .u8 lvl, .int .i64 sn, .slice a2 l2 c2, .slice a3 l3 c3, .slice a4 l4 c4, .slice a5 l5 c5, .int .u8 nsv, .slice a7 l7 c7, .int .u8 key, .string val, .bool del] w0 fun e w' => e = .returned (.bool true) ∧ Below w0.heap.size w0 w' := by
  by_cases q0 : 1024 < l2
  · have g0 : decide ((1024 : Int) < (l2 : Nat)) = true := decide_eq_true (by omega)
    clear h
    go_enter Yba.func3, Yba.ntmps3
    go_wp2
    go_ret
    exact ⟨rfl, Below.refl _ _⟩
  have g0 : decide ((1024 : Int) < (l2 : Nat)) = false := decide_eq_false (by omega)
  by_cases q1 : 1024 < l3
  · have g1 : decide ((1024 : Int) < (l3 : Nat)) = true := decide_eq_true (by omega)
    clear h
    go_enter Yba.func3, Yba.ntmps3
    go_wp2
    go_ret
    exact ⟨rfl, Below.refl _ _⟩
  have g1 : decide ((1024 : Int) < (l3 : Nat)) = false := decide_eq_false (by omega)
  by_cases q2 : 1024 < l4
  · have g2 : decide ((1024 : Int) < (l4 : Nat)) = true := decide_eq_true (by omega)
    clear h
    go_enter Yba.func3, Yba.ntmps3
    go_wp2
    go_ret
    exact ⟨rfl, Below.refl _ _⟩
  have g2 : decide ((1024 : Int) < (l4 : Nat)) = false := decide_eq_false (by omega)
  by_cases q3 : 1024 < l5
  · have g3 : decide ((1024 : Int) < (l5 : Nat)) = true := decide_eq_true (by omega)
    clear h
    go_enter Yba.func3, Yba.ntmps3
    go_wp2
    go_ret
    exact ⟨rfl, Below.refl _ _⟩
  have g3 : decide ((1024 : Int) < (l5 : Nat)) = false := decide_eq_false (by omega)
  by_cases q4 : 1024 < l7
  · have g4 : decide ((1024 : Int) < (l7 : Nat)) = true := decide_eq_true (by omega)
    clear h
    go_enter Yba.func3, Yba.ntmps3
    go_wp2
    go_ret
    exact ⟨rfl, Below.refl _ _⟩
  have g4 : decide ((1024 : Int) < (l7 : Nat)) = false := decide_eq_false (by omega)
  by_cases q5 : 1024 < val.size
  · have g5 : decide ((1024 : Int) < (val.size : Nat)) = true := decide_eq_true (by omega)
    clear h
    go_enter Yba.func3, Yba.ntmps3
    go_wp2
    go_ret
    exact ⟨rfl, Below.refl _ _⟩
  have g5 : decide ((1024 : Int) < (val.size : Nat)) = false := decide_eq_false (by omega)
  omega

set_option maxHeartbeats 16000000 in
theorem law_short (lvl sn : Int) (a2 a3 a4 a5 a7 : Option Addr) (l2 c2 l3 c3 l4 c4 l5 c5 l7 c7 : Nat) (nsv key : Int) (val : ByteArray) (del : Bool) (w0 : World)
    (rk rr f t rev sk sa pk : Nat → Int) (pv : Nat → ByteArray) (pd : Nat → Bool) (zk : Nat → Int)
    (hv0 : 0 ≤ lvl) (hv1 : lvl ≤ 255) (hn0 : 0 ≤ nsv) (hn1 : nsv ≤ 255) (hk0 : 0 ≤ key) (hk1 : key ≤ 255)
    (h2 : (l2 : Int) ≤ 1024) (h3 : (l3 : Int) ≤ 1024) (h4 : (l4 : Int) ≤ 1024) (h5 : (l5 : Int) ≤ 1024) (h7 : (l7 : Int) ≤ 1024) (h9 : (val.size : Int) ≤ 1024)
    (H2 : Hid (IsReads w0 a2 l2 rk rr)) (H3 : Hid (IsRanges w0 a3 l3 f t rev)) (H4 : Hid (IsScans w0 a4 l4 sk sa)) (H5 : Hid (IsPrior w0 a5 l5 pk pv pd)) (H7 : Hid (IsBytes w0 a7 l7 zk)) :
    Calls Yba.prog 3 #[.int .u8 lvl, .int .i64 sn, .slice a2 l2 c2, .slice a3 l3 c3, .slice a4 l4 c4, .slice a5 l5 c5, .int .u8 nsv, .slice a7 l7 c7, .int .u8 key, .string val, .bool del] w0 fun e w' => e = .returned (.bool true) ∧ Below w0.heap.size w0 w' := by
  have g2 : decide ((1024 : Int) < l2) = false := decide_eq_false (by omega)
  have g3 : decide ((1024 : Int) < l3) = false := decide_eq_false (by omega)
  have g4 : decide ((1024 : Int) < l4) = false := decide_eq_false (by omega)
  have g5 : decide ((1024 : Int) < l5) = false := decide_eq_false (by omega)
  have g7 : decide ((1024 : Int) < l7) = false := decide_eq_false (by omega)
  have g9 : decide ((1024 : Int) < val.size) = false := decide_eq_false (by omega)
  have hmm := @run_makeMap Yba.prog
  obtain ⟨ns, hns⟩ : ∃ ns : Nat, nsv % 3 = (ns : Int) := ⟨(nsv % 3).toNat, by omega⟩
  obtain ⟨m, hm⟩ : ∃ m : Nat, key % 5 = (m : Int) := ⟨(key % 5).toNat, by omega⟩
  obtain ⟨lv, hlv⟩ : ∃ lv : Int, lvl % 3 = lv := ⟨_, rfl⟩
  have hns2 : (ns : Int) ≤ 2 := by omega
  have hm5 : m < 5 := by omega
  have hm0 : (0 : Int) ≤ m := by omega
  have hm1 : (m : Int) < 5 := by omega
  have hlw : IntKind.i64.wrap lv = lv := by simp only [IntKind.wrap, IntKind.signed, IntKind.bits]; simp; omega
  have hnw : IntKind.i64.wrap (ns : Int) = ns := by simp only [IntKind.wrap, IntKind.signed, IntKind.bits]; simp; omega
  have hmw : IntKind.i64.wrap (m : Int) = m := by simp only [IntKind.wrap, IntKind.signed, IntKind.bits]; simp; omega
  have HKEY : Hid (∀ W, Calls Yba.prog 5 #[.int .u8 key] W fun e w' => e = .returned (.string (kb m)) ∧ w' = W) := fun W => by
    have := key_any key hk0 hk1 W
    rwa [hm] at this
  go_enter Yba.func3, Yba.ntmps3
  go_wp2_with fail
  have HS1 := hidI (St.init w0 lv sn (fun i => bb (f i % 6)) (fun i => bb (t i % 6)) rev)
  have HB1 : Hid (Below w0.heap.size w0 (((w0.alloc (.map #[] 0)).alloc (.map #[] 0)).alloc (.cells #[.pointer none, .int .i64 lv, .int .i64 sn, .bool false, .nilIface, .pointer none, .int .i64 0, .nilFunc, .map (some w0.heap.size), .slice none 0 0, .map (some (w0.heap.size + 1)), .map none, .slice none 0 0, .slice none 0 0, .map none] 45))) := (((Below.refl _ w0).alloc (Nat.le_refl _) _).alloc (by simp) _).alloc (by simp; omega) _
  generalize World.alloc _ (Obj.cells _ 45) = W1 at HS1 HB1 ⊢
  clear hmm g2 g3 g4 g5 g7 g9
  refine loop1 a2 l2 c2 rk rr _ h2 rfl H2 HS1 HB1 ?_
  rintro x26 x110 x111 x112 x113 x114 x115 x116 x117 x118 x119 x120 x121 x122 x123 w1 ⟨hs, hb⟩
  have HS2 := hidI hs
  have HB2 := hidI hb
  clear hs hb HS1 HB1
  go_wp2_with fail
  refine loop2 a3 l3 c3 f t _ h3 rfl H3 HS2 HB2 ?_
  rintro x28 x126 x127 x128 x129 x130 x131 x132 x133 x134 x135 x136 x137 x138 x139 x140 x141 x142 x143 x144 x145 x146 x147 x148 x149 w2 v9 ⟨hs, hb⟩
  have HS3 := hidI hs
  have HB3 := hidI hb
  clear hs hb HS2 HB2
  go_upto_if 152 with fail
  refine if3 a3 l3 c3 a4 l4 c4 sk sa _ _ (by simp) h3 h4 (by omega) rfl H4 HS3 HB3 ?_
  rintro x30 x153 x154 x155 x156 x157 x158 x159 x160 x161 x162 x163 x164 x165 x166 x167 x168 x169 x170 x171 x172 x173 x174 x175 x176 x177 w3 v11 ⟨hs, hb⟩
  have HS4 := hidI hs
  have HB4 := hidI hb
  clear hs hb HS3 HB3
  go_wp2_with fail
  refine loop4 a5 l5 c5 pk pv pd _ h5 (by omega) rfl H5 HS4 HB4 ?_
  rintro x32 x33 x180 x181 x182 x183 x184 x185 x186 x187 x188 x189 x190 x191 x192 x193 x194 x195 x196 x197 x198 x199 x200 w4 wf ⟨hs, hb⟩
  have HS5 := hidI hs
  have HB5 := hidI hb
  clear hs hb HS4 HB4
  go_wp2_with fail
  refine loop5 ns _ hns2 rfl HS5 HB5 ?_
  rintro x35 x204 x205 x206 x207 x208 x209 x210 x211 x212 x213 x214 x215 x216 x217 x218 x219 x220 x221 x222 x223 x224 x225 x226 x227 x228 x229 w5 v12 v13 xs12 xs13 ⟨hs, hb⟩
  have HS6 := hidI hs
  have HB6 := hidI hb
  clear hs hb HS5 HB5
  go_upto_if 232 with fail
  refine if6 a7 l7 c7 zk _ _ (by simp) h7 (by omega) rfl H7 HS6 HB6 ?_
  rintro x37 x233 x234 x235 x236 x237 x238 x239 x240 x241 x242 x243 x244 x245 x246 x247 x248 x249 w6 v14 ⟨hs, hb⟩
  have HS7 := hidI hs
  have HB7 := hidI hb
  clear hs hb HS6 HB6
  go_wp2_with fail
  refine (HKEY.out _).mono ?_
  rintro e w' ⟨rfl, rfl⟩
  go_wp2_with fail
  have HA8 := hidI (Ar.init w' (lastTo rk rr l2) wf (lastTo zk (fun _ => true) l7))
  have hal : Below w'.heap.size w' (((((w'.alloc Z66).alloc Z67).alloc Z68).alloc Z67).alloc Z67) := (((((Below.refl _ w').alloc (Nat.le_refl _) _).alloc (by simp) _).alloc (by simp; omega) _).alloc (by simp; omega) _).alloc (by simp; omega) _
  have HS8 := hidI (HS7.out.below hal)
  have hAz : w0.heap.size ≤ w'.heap.size := HB7.out.size
  have HB8 := hidI (HB7.out.trans (hal.mono hAz))
  clear hal HS7 HB7
  generalize World.alloc _ Z67 = W8 at HA8 HS8 HB8 ⊢
  generalize w'.heap.size = A at HA8 hAz ⊢
  refine loop7 A _ hAz rfl HS8 HA8 HB8 ?_
  rintro x45 x46 x47 x48 x49 x50 x255 x256 x257 x258 x259 x260 x261 x262 x263 x264 x265 x266 x267 x268 x269 x270 x271 x272 x273 x274 x275 x276 x277 x278 x279 x280 x281 x282 x283 x284 x285 x286 x287 x288 x289 x290 x291 x292 x293 x294 x295 x296 x297 x298 x299 w7 ⟨hs, ha, hb⟩
  have HS9 := hidI hs
  have HA9 := hidI ha
  have HB9 := hidI hb
  clear hs ha hb HS8 HA8 HB8
  go_wp2_with fail
  refine loop8 a2 l2 c2 rk rr m _ h2 hm0 hm1 rfl H2 HB9 ?_
  rintro x53 x303 x304 x305 x306 x307 x308 x309 x310 x311 x312 x313 x314 w8 hb
  have HS10 := hidI (HS9.out.below hb)
  have HA10 := hidI (HA9.out.below hb)
  have HB10 := hidI (HB9.out.trans (hb.mono HB9.out.size))
  clear hb HS9 HA9 HB9
  obtain ⟨st, hst, hstl⟩ : ∃ st : Nat, (lastTo sk (fun i => sa i % ((l3 : Int) + 1)) l4 m).getD 0 = (st : Int) ∧ (st : Int) ≤ l3 := by
    cases e : lastTo sk (fun i => sa i % ((l3 : Int) + 1)) l4 m with
    | none => exact ⟨0, rfl, by omega⟩
    | some v =>
      obtain ⟨i, hi, rfl⟩ := lastTo_mem e
      have q0 : 0 ≤ sa i % ((l3 : Int) + 1) := Int.emod_nonneg _ (by omega)
      have q1 : sa i % ((l3 : Int) + 1) < (l3 : Int) + 1 := Int.emod_lt_of_pos _ (by omega)
      exact ⟨(sa i % ((l3 : Int) + 1)).toNat, by simp; omega, by omega⟩
  have HST := hidI hst
  clear hst
  go_wp2_with fail
  refine loop9 a3 l3 c3 a4 l4 c4 sk sa m _ h3 h4 hm0 hm1 rfl H4 HB10 ?_
  rintro x56 x317 x318 x319 x320 x321 x322 x323 x324 x325 x326 x327 x328 x329 x330 x331 x332 x333 w9 hb
  have HS11 := hidI (HS10.out.below hb)
  have HA11 := hidI (HA10.out.below hb)
  have HB11 := hidI (HB10.out.trans (hb.mono HB10.out.size))
  clear hb HS10 HA10 HB10
  rw [HST.out]
  go_wp2_with fail
  refine loop10 a3 l3 c3 st _ f t m _ h3 hstl rfl H3 HB11 ?_
  rintro x57 x58 x59 x60 x335 x336 x337 x338 x339 x340 x341 x342 x343 x344 x345 x346 x347 x348 x349 x350 x351 x352 x353 x354 x355 x356 x357 x358 x359 x360 x361 x362 x363 x364 x365 x366 x367 x368 x369 x370 w10 hb
  have HS12 := hidI (HS11.out.below hb)
  have HA12 := hidI (HA11.out.below hb)
  have HB12 := hidI (HB11.out.trans (hb.mono HB11.out.size))
  clear hb HS11 HA11 HB11
  obtain ⟨since, hsince⟩ : ∃ since, since = sinceTo (kb m) (fun i => bb (f i % 6)) (fun i => bb (t i % 6)) rev ((lastTo rk rr l2 m).getD sn) st (l3 - st) := ⟨_, rfl⟩
  rw [← hsince]
  have HSI := hidI hsince
  clear hsince
  obtain ⟨a13, c13, e13⟩ := HS12.out.lenUndo
  subst e13
  have c13c := HS12.out.tx.c13
  obtain ⟨kv, wA, hcA, okA, bA, zA, ka, kl, kc, rfl⟩ := conv_bytes w10 (kb m)
  obtain ⟨xv, wB, hcB, oxB, bB, zB, xa, xl, xc, rfl⟩ := conv_bytes wA val
  have hz10 := HB12.out.size
  have HBx : Hid (Below w10.heap.size w10 (wB.alloc (.cells #[.slice ka kl kc, .slice xa xl xc, .bool del] 61))) := (bA.trans (bB.mono (by omega))).alloc (by omega) _
  have HKo : Hid (BytesOk (wB.alloc (.cells #[.slice ka kl kc, .slice xa xl xc, .bool del] 61)) (.slice ka kl kc) (kb m)) := (okA.keep (KeepB.of_below bB)).keep (KeepB.of_below ((Below.refl _ _).alloc (Nat.le_refl _) _))
  have HXo : Hid (BytesOk (wB.alloc (.cells #[.slice ka kl kc, .slice xa xl xc, .bool del] 61)) (.slice xa xl xc) val) := oxB.keep (KeepB.of_below ((Below.refl _ _).alloc (Nat.le_refl _) _))
  have HX0 : Hid ((wB.alloc (.cells #[.slice ka kl kc, .slice xa xl xc, .bool del] 61)).heap[wB.heap.size]? = some (.cells #[.slice ka kl kc, .slice xa xl xc, .bool del] 61)) := (MapKept.heap_alloc wB _).1
  have HS13 := hidI (HS12.out.below HBx.out)
  have HA13 := hidI (HA12.out.below HBx.out)
  have HB13 := hidI (HB12.out.trans (HBx.out.mono hz10))
  have hz13 : w0.heap.size ≤ (wB.alloc (.cells #[.slice ka kl kc, .slice xa xl xc, .bool del] 61)).heap.size := HB13.out.size
  obtain ⟨pa, pl, pc, qa, ql, qc, pdd, hv⟩ := write_open HS13.out.wok hm0 hm1
  have hwo := wok_getD HS13.out.wok hm0 hm1
  rw [hv] at hwo
  have HWO := hidI hwo
  have hlen := HS13.out.undo.1
  clear hwo
  have HV := hidI hv
  clear hv okA oxB bA bB zA zB HS12 HA12 HB12 HBx
  obtain ⟨sv2, n13', xs13', hu, hsv, hP, hN⟩ := undo_cases (B0 := w0.heap.size) (T := w0.heap.size + 2) (R := w0.heap.size) (W9 := w0.heap.size + 1) (lv := lv) (sn := sn) (v9 := v9) (v11 := v11) (v12 := v12) (v13 := .slice a13 ns c13) (v14 := v14) (wf := wf) (sc := lastTo sk (fun i => sa i % ((l3 : Int) + 1)) l4) (sv := lastTo zk (fun _ => true) l7) (n9 := l3) (fr := fun i => bb (f i % 6)) (tw := fun i => bb (t i % 6)) (rev := rev) (xs12 := xs12) (xs13 := xs13) ns (by omega) m hm0 hm1 (.slice pa pl pc) (.slice qa ql qc) pdd (wf m).isSome rfl rfl
  have HU := hidI hu
  have HSV := hidI hsv
  have HP := hidI hP
  have HN := hidI hN
  clear hu hsv hP hN
  have HWC := hidI (write_core m hm0 hm1 ka xa pa qa kl kc xl xc pl pc ql qc del val pdd (wf m).isSome sv2 n13' xs13' st HKo HXo HV.out rfl (by omega) hz13 h3 hstl HST.out HS13 HU)
  go_wp2_with fail
  refine HWC.out.mono ?_
  rintro e w11 ⟨rfl, hb, hfar, v13', v14', hs⟩
  have HA14 := hidI (HA13.out.far hfar)
  have HXb : Hid (w11.heap[wB.heap.size]? = some (.cells #[.slice ka kl kc, .slice xa xl xc, .bool del] 61)) := (hfar _ _ _ _ HX0.out (by decide)).trans HX0.out
  have HB14 := hidI (HB13.out.trans hb)
  have HS14 := hidI hs
  have HWO2 := hidI (HWO.out.keep (fun g c fr e => (hfar g c 5 fr e (by decide)).trans e))
  clear hs hb hfar HA13 HB13 HS13 HX0 HKo HXo HWC HU hcA hcB c13c hz13 hz10
  generalize wB.heap.size = X at HXb ⊢
  go_wp2_with fail
  refine loop11 (rd := lastTo rk rr l2) (wf := wf) (sv := lastTo zk (fun _ => true) l7) A X m ns since ka xa kl kc xl xc del _ _ sv2 _ HS14 HA14 HXb (hidI (by simp)) (hidI (fun j hj => by simp [hj])) (hidI (fun q1 q2 => ?h1)) (hidI (fun q => ?h2)) (hidI (fun j hj => ?h3)) HSV ?_
  case h1 =>
    rw [if_pos ⟨q1, q2⟩, HSI.out]
    simp
  case h2 =>
    have hne : ¬ ((wf m).isSome = false ∧ lv = 2) := by
      rintro ⟨c1, c2⟩
      rcases q with q | q
      · rw [q] at c1; cases c1
      · exact q c2
    rw [if_neg hne]
  case h3 =>
    split
    · simp [hj]
    · rfl
  rintro x22 x63 x64 x65 x66 x67 x68 x69 x385 x386 x387 x388 x389 x390 x391 x392 x393 x394 x395 x396 x397 x398 x399 x400 x401 x402 x403 x404 x405 x406 x407 x408 x409 x410 x411 x412 x413 x414 x415 x416 x417 x418 x419 x420 x421 x422 x423 x424 x425 x426 x427 x428 x429 x430 x431 x432 x433 x434 x435 x436 x437 x438 x439 x440 x441 x442 x443 x444 x445 x446 x447 x448 x449 x450 x451 x452 x453 x454 x455 x456 x457 x458 x459 x460 x461 x462 x463 x464 x465 x466 x467 x468 x469 x470 x471 x472 x473 x474 x475 x476 x477 x478 x479 x480 x481 x482 x483 x484 x485 x486 x487 x488 x489 x490 x491 x492 x493 x494 x495 w12 hb12
  have HS15 := hidI (HS14.out.below hb12)
  have HA15 := hidI (HA14.out.below hb12)
  have HB15 := hidI (HB14.out.trans (hb12.mono HB14.out.size))
  have HWO3 := hidI (HWO2.out.keep (KeepB.of_below hb12))
  clear hb12 HS14 HA14 HB14 HWO2 HWO HXb HSV
  have s4 := HA15.out.sv.cell hm5
  rw [svF_five _ hm5] at s4
  by_cases hz : ns = 0
  · have hzf : decide ((0 : Int) < ns) = false := decide_eq_false (by omega)
    go_upto_if 503 with fail
    refine fin A m ns pa qa pl pc ql qc pdd _ _ _ sv2 n13' xs13' _ hm5 hns2 HS15 HA15 HV HWO3 hlen (hidI (fun e => ?_)) (hidI (fun _ => HN.out (Or.inl hz))) ?_
    · cases e
    rintro x22 x70 x504 x505 x506 x507 x508 x509 x510 x511 x512 x513 x514 x515 x516 x517 x518 x519 x520 x521 x522 x523 x524 x525 x526 x527 x528 x529 x530 x531 x532 x533 x534 x535 x536 x537 x538 x539 x540 x541 x542 x543 x544 x545 x546 w13 hb13
    have HB16 := hidI (HB15.out.trans (hb13.mono HB15.out.size))
    clear hb13 HB15
    go_wp2
    go_ret
    exact ⟨rfl, HB16.out⟩
  · have hzt : decide ((0 : Int) < ns) = true := decide_eq_true (by omega)
    cases hsb : (lastTo zk (fun _ => true) l7 m).getD false
    · rw [hsb] at s4
      go_upto_if 503 with fail
      refine fin A m ns pa qa pl pc ql qc pdd _ _ _ sv2 n13' xs13' _ hm5 hns2 HS15 HA15 HV HWO3 hlen (hidI (fun _ => HP.out (by omega) hsb)) (hidI (fun e => ?_)) ?_
      · cases e
      rintro x22 x70 x504 x505 x506 x507 x508 x509 x510 x511 x512 x513 x514 x515 x516 x517 x518 x519 x520 x521 x522 x523 x524 x525 x526 x527 x528 x529 x530 x531 x532 x533 x534 x535 x536 x537 x538 x539 x540 x541 x542 x543 x544 x545 x546 w13 hb13
      have HB16 := hidI (HB15.out.trans (hb13.mono HB15.out.size))
      clear hb13 HB15
      go_wp2
      go_ret
      exact ⟨rfl, HB16.out⟩
    · rw [hsb] at s4
      go_upto_if 503 with fail
      refine fin A m ns pa qa pl pc ql qc pdd _ _ _ sv2 n13' xs13' _ hm5 hns2 HS15 HA15 HV HWO3 hlen (hidI (fun e => ?_)) (hidI (fun _ => HN.out (Or.inr hsb))) ?_
      · cases e
      rintro x22 x70 x504 x505 x506 x507 x508 x509 x510 x511 x512 x513 x514 x515 x516 x517 x518 x519 x520 x521 x522 x523 x524 x525 x526 x527 x528 x529 x530 x531 x532 x533 x534 x535 x536 x537 x538 x539 x540 x541 x542 x543 x544 x545 x546 w13 hb13
      have HB16 := hidI (HB15.out.trans (hb13.mono HB15.out.size))
      clear hb13 HB15
      go_wp2
      go_ret
      exact ⟨rfl, HB16.out⟩
end Go.Proofs.Ybulkbyo
