/-
  The walk of the law. Typed by the prover of this seat (an AI agent).
-/
import Derived.Test.YbulkbwyFmtWalkB
import Derived.Deep.DeepCutAuto
import Derived.Deep.DeepMust
import Derived.Deep.Light
import Derived.Lib.Strings
namespace Go.Proofs.YbulkbwyFmt
open Go.RowKit Go.Extern.Stop Go.Stop Go.Extern Go.MapFn
set_option maxRecDepth 100000

/-- What the walk is told of '[]string' that came in. -/
def IsStrs (w : World) (a : Option Addr) (len : Nat) (s : Nat → ByteArray) : Prop :=
  ∀ i, i < len → (s i).size ≤ maxLen ∧ ∃ b off, a = some ⟨b, off, none⟩ ∧ b < w.heap.size ∧ w.cell? ⟨b, off + i, none⟩ = some (.string (s i))

/-- .. and of '[]ZzS0141BStage'. -/
def IsStage (w : World) (a : Option Addr) (len : Nat) (kd : Nat → Int) (sd : Nat → ByteArray) (sm hd : Nat → Bool) : Prop :=
  ∀ i, i < len → 0 ≤ kd i ∧ kd i ≤ 255 ∧ (sd i).size ≤ maxLen ∧ ∃ b off, a = some ⟨b, off, none⟩ ∧ b < w.heap.size ∧ w.cell? ⟨b, off + i * 4, none⟩ = some (.int .u8 (kd i)) ∧
    w.cell? ⟨b, off + i * 4 + 1, none⟩ = some (.string (sd i)) ∧ w.cell? ⟨b, off + i * 4 + 2, none⟩ = some (.bool (sm i)) ∧ w.cell? ⟨b, off + i * 4 + 3, none⟩ = some (.bool (hd i))

theorem str_eq {a b : ByteArray} (h : (a.toList == b.toList) = true) : a = b := by
  rw [Lib.toList_data, Lib.toList_data] at h
  exact WideShapes.bytes_inj (by simpa using h)
theorem str_ne {a b : ByteArray} (h : (a.toList == b.toList) = false) : Value.string b ≠ Value.string a := by
  rintro e
  cases e
  simp at h

theorem name_ne0 {c : Int} {x y : ByteArray} (h : (c == 0) = false) : nameV 0 y ≠ nameV c x := by
  intro e
  simp only [nameV, Value.agg.injEq, Array.mk.injEq, List.cons.injEq, Value.int.injEq, true_and] at e
  rw [← e.1] at h
  simp at h
theorem name_ne1 {c : Int} {x y : ByteArray} (h : (x.toList == y.toList) = false) : nameV 0 y ≠ nameV c x := by
  intro e
  simp only [nameV, Value.agg.injEq, Array.mk.injEq, List.cons.injEq, Value.string.injEq] at e
  rw [e.2.1] at h
  simp at h
theorem name_eq {c : Int} {x y : ByteArray} (h : (c == 0) = true) (h' : (x.toList == y.toList) = true) : nameV 0 y = nameV c x := by
  have := str_eq h'
  subst this
  simp at h
  subst h
  rfl
/-- The round's step, in the plain. -/
theorem stage_step {g f1 : Value → Option Value} {id x : ByteArray} {c : Int} {fd hl hdk : Bool} (hgk : g (nameV 0 id) = (if fd then some (.bool hl) else none))
    (h1 : f1 (nameV c x) = some (.bool hdk)) (h2 : ∀ y, y ≠ nameV c x → f1 y = g y) :
    f1 (nameV 0 id) = (if (c == 0 && x.toList == id.toList) || fd then some (.bool (if c == 0 && x.toList == id.toList then hdk else hl)) else none) := by
  cases hc : (c == 0) with
  | false => rw [h2 _ (name_ne0 hc), hgk]; simp
  | true =>
    cases hx : (x.toList == id.toList) with
    | false => rw [h2 _ (name_ne1 hx), hgk]; simp
    | true => rw [name_eq hc hx, h1]; simp

/-- The world at the call of 'check'. -/
def atCheck (id nm : ByteArray) (cr : Int) (cs : Array Value) (B9 : Nat) (wr : World) : World :=
  (wr.alloc (.cells #[.string id, .string nm, .int .i64 cr] 34)).alloc (.cells (cs.setIfInBounds 8 (.map (some B9))) 104)

theorem atCheck_size {id nm : ByteArray} {cr : Int} {cs : Array Value} {B9 : Nat} {wr : World} : (atCheck id nm cr cs B9 wr).heap.size = wr.heap.size + 2 := by simp [atCheck]
theorem atCheck_below {id nm : ByteArray} {cr : Int} {cs : Array Value} {B9 : Nat} {wr : World} : Below wr.heap.size wr (atCheck id nm cr cs B9 wr) :=
  ((Below.refl _ _).alloc (Nat.le_refl _) _).alloc (by simp) _
theorem atCheck_c0 {id nm : ByteArray} {cr : Int} {cs : Array Value} {B9 : Nat} {wr : World} : (atCheck id nm cr cs B9 wr).cell? ⟨wr.heap.size, 0, none⟩ = some (.string id) := by unfold atCheck; go_simp
theorem atCheck_c1 {id nm : ByteArray} {cr : Int} {cs : Array Value} {B9 : Nat} {wr : World} : (atCheck id nm cr cs B9 wr).cell? ⟨wr.heap.size, 1, none⟩ = some (.string nm) := by unfold atCheck; go_simp
theorem atCheck_c2 {id nm : ByteArray} {cr : Int} {cs : Array Value} {B9 : Nat} {wr : World} : (atCheck id nm cr cs B9 wr).cell? ⟨wr.heap.size, 2, none⟩ = some (.int .i64 cr) := by unfold atCheck; go_simp
theorem atCheck_m {id nm : ByteArray} {cr : Int} {cs : Array Value} {B9 : Nat} {wr : World} (h : cs.size = 69) : (atCheck id nm cr cs B9 wr).cell? ⟨wr.heap.size + 1, 8, none⟩ = some (.map (some B9)) := by
  unfold atCheck; go_simp

theorem hasIs {id nm : ByteArray} {cr : Int} {cs : Array Value} {B2 B9 k n : Nat} {wr : World} {f g : Value → Option Value} {b : Bool} (hcs : cs.size = 69) (hid : id.size ≤ maxLen)
    (hg : MapIs Ybaf.prog 32 wr B2 k g) (hf : MapIs Ybaf.prog 9 wr B9 n f)
    (hb : g (nameV 0 id) = some (.bool b) ∨ (g (nameV 0 id) = none ∧ (f (.string id)).isSome = b)) :
    ∀ W, Below (atCheck id nm cr cs B9 wr).heap.size (atCheck id nm cr cs B9 wr) W →
      Calls Ybaf.prog 7 #[.agg #[.pointer (some ⟨wr.heap.size + 1, 0, none⟩), .map (some B2)], .agg #[.int .i64 0, .string id]] W fun e w' => e = .returned (.bool b) ∧ Below W.heap.size W w' := by
  intro W hW
  have hbw : Below wr.heap.size wr W := atCheck_below.trans (hW.mono (by simp [atCheck_size]))
  have hg' := hg.same (w' := W) (hbw.block _ hg.lt)
  have hf' := hf.same (w' := W) (hbw.block _ hf.lt)
  rcases hb with hb | ⟨hb, hb'⟩
  · exact has_staged _ B2 k id g b W hid hg' hb
  · rw [← hb']
    refine has_api (wr.heap.size + 1) B2 B9 k n id f g W hid hg' hb hf' ?_ ?_
    · have := hW.size; simp [atCheck_size] at this; omega
    · rw [hW.cell (by simp [atCheck_size])]; exact atCheck_m hcs

theorem call5_f {id nm : ByteArray} {cr : Int} {cs : Array Value} {B2 B9 k n : Nat} {wr : World} {f g : Value → Option Value} (hcs : cs.size = 69) (hid : id.size ≤ maxLen)
    (hg : MapIs Ybaf.prog 32 wr B2 k g) (hf : MapIs Ybaf.prog 9 wr B9 n f)
    (hb : g (nameV 0 id) = some (.bool false) ∨ (g (nameV 0 id) = none ∧ (f (.string id)).isSome = false)) :
    Calls Ybaf.prog 5 #[.pointer (some ⟨wr.heap.size, 0, none⟩), .agg #[.pointer (some ⟨wr.heap.size + 1, 0, none⟩), .map (some B2)]] (atCheck id nm cr cs B9 wr)
      fun e w' => e = .returned .nilIface ∧ Below (atCheck id nm cr cs B9 wr).heap.size (atCheck id nm cr cs B9 wr) w' :=
  check_false _ _ _ id _ (by simp [atCheck_size]) atCheck_c0 (hasIs hcs hid hg hf hb)

theorem call5_t (F : Interp) {id nm : ByteArray} {cr : Int} {cs : Array Value} {B2 B9 k n : Nat} {wr : World} {f g : Value → Option Value} (hF : F.answers wr.tape) (hcs : cs.size = 69) (hid : id.size ≤ maxLen)
    (hg : MapIs Ybaf.prog 32 wr B2 k g) (hf : MapIs Ybaf.prog 9 wr B9 n f)
    (hb : g (nameV 0 id) = some (.bool true) ∨ (g (nameV 0 id) = none ∧ (f (.string id)).isSome = true)) :
    Calls Ybaf.prog 5 #[.pointer (some ⟨wr.heap.size, 0, none⟩), .agg #[.pointer (some ⟨wr.heap.size + 1, 0, none⟩), .map (some B2)]] (atCheck id nm cr cs B9 wr)
      fun e w' => (∃ x, e = .returned (.iface 151 (.pointer (some x)))) ∧ Below (atCheck id nm cr cs B9 wr).heap.size (atCheck id nm cr cs B9 wr) w' :=
  check_true F _ _ _ id _ (by exact hF) (by simp [atCheck_size]) atCheck_c0 (hasIs hcs hid hg hf hb)

theorem exists_long (id nm : ByteArray) (cr : Int) (a3 a5 : Option Addr) (l3 c3 l5 c5 : Nat) (inn : Bool) (w : World) (h : 1024 < l3 ∨ 1024 < l5) :
    Calls Ybaf.prog 3 #[.string id, .string nm, .int .i64 cr, .slice a3 l3 c3, .bool inn, .slice a5 l5 c5] w fun e w' => e = .returned (.bool true) ∧ Below w.heap.size w w' := by
  by_cases h3 : 1024 < l3
  · have h3' : (1024 : Int) < (l3 : Int) := by omega
    go_enter Ybaf.func3, Ybaf.ntmps3
    go_wp2
    go_ret
    exact ⟨rfl, Below.refl _ _⟩
  · have h3' : (l3 : Int) ≤ 1024 := by omega
    have h5' : (1024 : Int) < (l5 : Int) := by omega
    clear h h3
    go_enter Ybaf.func3, Ybaf.ntmps3
    go_wp2
    go_ret
    exact ⟨rfl, Below.refl _ _⟩

set_option maxHeartbeats 1000000 in
theorem exists_main (F : Interp) (id nm : ByteArray) (cr : Int) (a3 a5 : Option Addr) (l3 c3 l5 c5 : Nat) (inn : Bool) (s3 : Nat → ByteArray) (kd : Nat → Int) (sd : Nat → ByteArray) (sm hd : Nat → Bool) (w : World) (hF : F.answers w.tape)
    (hid : id.size ≤ maxLen) (h3 : (l3 : Int) ≤ 1024) (h5 : (l5 : Int) ≤ 1024) (i3 : Hid (IsStrs w a3 l3 s3)) (i5 : Hid (IsStage w a5 l5 kd sd sm hd)) :
    Calls Ybaf.prog 3 #[.string id, .string nm, .int .i64 cr, .slice a3 l3 c3, .bool inn, .slice a5 l5 c5] w fun e w' => e = .returned (.bool true) ∧ Below w.heap.size w w' := by
  have hmm := @run_makeMap Ybaf.prog
  have H0 : Hid (MapIs Ybaf.prog 9 (w.alloc (.map #[] 0)) w.heap.size 0 (fun _ => none)) := MapIs.made _ _ _
  have HK : Hid (∃ kl, keyOf Ybaf.prog 9 (.string id) = some kl) := ⟨_, keyS hid⟩
  go_enter Ybaf.func3, Ybaf.ntmps3
  go_upto_if 37 with (fail)
  go_cut [] (fun wc => ∃ f n, n ≤ 1 ∧ MapIs Ybaf.prog 9 wc w.heap.size n f ∧ (f (.string id)).isSome = inn ∧ Below w.heap.size w wc ∧ w.heap.size < wc.heap.size)
  case first =>
    cases inn
    · go_wp2
      go_meet
      case rel => exact ⟨_, 0, by omega, H0.out, rfl, (Below.refl _ _).alloc (Nat.le_refl _) _, by simp⟩
    · go_wp2_with (first | (at_mapUpdate; refine wpList_mapUpdate_fn _ rfl _ _ _ 24 rfl 9 26 lawS Ybaf.underlying24 w.heap.size 0 _ rfl H0.out (by decide) (.string id) _ rfl rfl HK.out ?_; intro w1 f1 hm1 hf1 hf2 ht1) | go_in)
      go_meet
      case rel => exact ⟨_, 1, by omega, hm1, by rw [hf1]; rfl, ((Below.refl _ _).alloc (Nat.le_refl _) _).grown ht1.grown (by simp) (fun k hk => by cases hk; exact Nat.le_refl _), by have := ht1.grown.size; simp at this; omega⟩
  case rest =>
    obtain ⟨f0, n0, hn0, hm0, hf0, hb0, hz0⟩ := hcut
    have HM0 : Hid (MapIs Ybaf.prog 9 wc w.heap.size n0 f0) := hm0
    have HB0 : Hid (Below w.heap.size w wc) := hb0
    have HF0 : Hid ((f0 (.string id)).isSome = inn) := hf0
    clear hm0 hb0 hf0 H0
    go_wp2_with fail
    go_loopw [14, 44] (fun s14 s44 wr => ∃ (k : Nat) (f : Value → Option Value), k ≤ l3 ∧ s44 = .int .i64 k ∧ MapIs Ybaf.prog 9 wr w.heap.size (k + 1) f ∧ s14 = .bool (f (.string id)).isSome ∧ Below w.heap.size w wr ∧ w.heap.size < wr.heap.size) (fun _ s44 _ => l3 - (intOf s44).toNat)
    case atStart => exact ⟨0, f0, by omega, rfl, HM0.out.mono (by omega), by rw [HF0.out], HB0.out, hz0⟩
    case round =>
      obtain ⟨k, f, hk, rfl, hm, rfl, hb, hz⟩ := hrel
      have HM : Hid (MapIs Ybaf.prog 9 wr w.heap.size (k + 1) f) := hm
      have HB : Hid (Below w.heap.size w wr) := hb
      clear hm hb
      by_cases hlt : k < l3
      · obtain ⟨hsz, b3, o3, rfl, hb3, hc3⟩ := i3.out k hlt
        have hc3' : wr.cell? ⟨b3, o3 + k, none⟩ = some (.string (s3 k)) := by rw [HB.out.cell hb3]; exact hc3
        have HK3 : Hid (∃ kl, keyOf Ybaf.prog 9 (.string (s3 k)) = some kl) := ⟨_, keyS hsz⟩
        clear hc3
        go_wp2_with (first | (at_mapUpdate; refine wpList_mapUpdate_fn _ rfl _ _ _ 24 rfl 9 26 lawS Ybaf.underlying24 w.heap.size (k + 1) f rfl HM.out (by unfold maxLen; omega) (.string (s3 k)) _ rfl rfl HK3.out ?_; intro w1 f1 hm1 hf1 hf2 ht1) | go_in)
        all_goals
          have hbw : Below w.heap.size w w1 := HB.out.grown ht1.grown (by omega) (fun k hk => by cases hk; exact Nat.le_refl _)
          have hz1 : w.heap.size < w1.heap.size := by have := ht1.grown.size; omega
        · rename_i htest
          have e := str_eq htest
          exact ⟨⟨k + 1, f1, by omega, by go_num, hm1, by rw [← e, hf1]; rfl, hbw, hz1⟩, by simp [intOf]; omega⟩
        · rename_i htest
          have e := str_ne htest
          exact ⟨⟨k + 1, f1, by omega, by go_num, hm1, by rw [hf2 _ e], hbw, hz1⟩, by simp [intOf]; omega⟩
      · go_wp2_with fail
        have HG0 : Hid (MapIs Ybaf.prog 32 (wr.alloc (.map #[] 0)) wr.heap.size 0 (fun _ => none)) := MapIs.made _ _ _
        have HF2 : Hid (MapIs Ybaf.prog 9 (wr.alloc (.map #[] 0)) w.heap.size (l3 + 1) f) := (HM.out.alloc _).mono (by omega)
        have HB2 : Hid (Below w.heap.size w (wr.alloc (.map #[] 0))) := HB.out.alloc (by omega) _
        have hzz : wr.heap.size < (wr.alloc (.map #[] 0)).heap.size := by simp
        obtain ⟨wo, rfl⟩ : ∃ wo : World, wo = wr := ⟨_, rfl⟩
        clear HM HB HK
        generalize hwq : wo.alloc (.map #[] 0) = wq at HG0 HF2 HB2 hzz ⊢
        generalize hB : wo.heap.size = B2 at HG0 HF2 HB2 hzz hz ⊢
        clear hwq hB
        generalize hr : (f (.string id)).isSome = r
        have HR : Hid ((f (.string id)).isSome = r) := hr
        clear hr
        go_loopw [18, 19, 59] (fun s18 s19 s59 wr => ∃ (k : Nat) (g : Value → Option Value) (fd hl : Bool), k ≤ l5 ∧ s59 = .int .i64 k ∧ s18 = .bool fd ∧ s19 = .bool hl ∧ MapIs Ybaf.prog 32 wr B2 k g ∧ g (nameV 0 id) = (if fd then some (.bool hl) else none) ∧ MapIs Ybaf.prog 9 wr w.heap.size (l3 + 1) f ∧ Below w.heap.size w wr ∧ B2 < wr.heap.size) (fun _ _ s59 _ => l5 - (intOf s59).toNat)
        case atStart => exact ⟨0, _, false, false, by omega, rfl, rfl, rfl, HG0.out, rfl, HF2.out, HB2.out, hzz⟩
        case round =>
          clear HG0 HF2 HB2 hzz
          obtain ⟨k, g, fd, hl, hk, rfl, rfl, rfl, hg, hgk, hf, hb, hz5⟩ := hrel
          have HG : Hid (MapIs Ybaf.prog 32 wr B2 k g) := hg
          have HGK : Hid (g (nameV 0 id) = (if fd then some (.bool hl) else none)) := hgk
          have HF : Hid (MapIs Ybaf.prog 9 wr w.heap.size (l3 + 1) f) := hf
          have HB : Hid (Below w.heap.size w wr) := hb
          clear hg hgk hf hb
          by_cases hlt : k < l5
          · obtain ⟨hk0, hk1, hsz, b5, o5, rfl, hb5, q0, q1, q2, q3⟩ := i5.out k hlt
            have r0 : wr.cell? ⟨b5, o5 + k * 4, none⟩ = some (.int .u8 (kd k)) := by rw [HB.out.cell hb5]; exact q0
            have r1 : wr.cell? ⟨b5, o5 + k * 4 + 1, none⟩ = some (.string (sd k)) := by rw [HB.out.cell hb5]; exact q1
            have r2 : wr.cell? ⟨b5, o5 + k * 4 + 2, none⟩ = some (.bool (sm k)) := by rw [HB.out.cell hb5]; exact q2
            have r3 : wr.cell? ⟨b5, o5 + k * 4 + 3, none⟩ = some (.bool (hd k)) := by rw [HB.out.cell hb5]; exact q3
            clear q0 q1 q2 q3
            have HKN : Hid (∀ x : ByteArray, x.size ≤ maxLen → ∃ kl, keyOf Ybaf.prog 32 (nameV (kd k % 10) x) = some kl) := fun x hx => keyN (WalkArith.wf_i64 (by omega)) hx
            have HC : Hid (∀ (w1 : World), (wr.alloc (.cells #[.int .u8 (kd k), .string (sd k), .bool (sm k), .bool (hd k)] 29)).mapTurned w1 B2 → w1.cell? ⟨wr.heap.size, 3, none⟩ = some (.bool (hd k))) := by
              intro w1 ht
              rw [World.cell?_of_block (w := wr.alloc _) (ht.grown.block _ (by simp) (by intro e; injection e with e; change wr.heap.size = B2 at e; omega))]
              go_simp
            cases hsm : sm k
            · rw [hsm] at r2 HC
              go_wp2_with (first | (at_mapUpdate; go_must (refine wpList_mapUpdate_fn _ rfl _ _ _ 27 rfl 32 4 lawN Ybaf.underlying27 B2 k g rfl (HG.out.alloc _) (by unfold maxLen; omega) (nameV (kd k % 10) (sd k)) (.bool (hd k)) rfl rfl (HKN.out _ hsz) ?_; intro w1 f1 hm1 hf1 hf2 ht1; have hc4 := HC.out _ ht1)) | go_in)
              all_goals
                have hbw : Below w.heap.size w w1 := (HB.out.alloc HB.out.size _).grown ht1.grown (by have := HB.out.size; simp; omega) (fun k hk => by cases hk; omega)
                have hz1 : B2 < w1.heap.size := by have := ht1.grown.size; simp at this; omega
                have hst := stage_step HGK.out hf1 hf2
                have hm9 := (HF.out.alloc (.cells #[.int .u8 (kd k), .string (sd k), .bool false, .bool (hd k)] 29)).kept ht1.grown (by intro e; injection e with e; omega)
                go_light
                refine ⟨⟨k + 1, f1, _, _, by omega, by go_num, rfl, rfl, hm1, ?_, hm9, hbw, hz1⟩, by simp [intOf]; omega⟩
                rw [hst]
                simp [*]
            · rw [hsm] at r2 HC
              go_wp2_with (first | (at_mapUpdate; go_must (refine wpList_mapUpdate_fn _ rfl _ _ _ 27 rfl 32 4 lawN Ybaf.underlying27 B2 k g rfl (HG.out.alloc _) (by unfold maxLen; omega) (nameV (kd k % 10) id) (.bool (hd k)) rfl rfl (HKN.out _ hid) ?_; intro w1 f1 hm1 hf1 hf2 ht1; have hc4 := HC.out _ ht1)) | go_in)
              all_goals
                have hbw : Below w.heap.size w w1 := (HB.out.alloc HB.out.size _).grown ht1.grown (by have := HB.out.size; simp; omega) (fun k hk => by cases hk; omega)
                have hz1 : B2 < w1.heap.size := by have := ht1.grown.size; simp at this; omega
                have hst := stage_step HGK.out hf1 hf2
                have hm9 := (HF.out.alloc (.cells #[.int .u8 (kd k), .string (sd k), .bool true, .bool (hd k)] 29)).kept ht1.grown (by intro e; injection e with e; omega)
                go_light
                refine ⟨⟨k + 1, f1, _, _, by omega, by go_num, rfl, rfl, hm1, ?_, hm9, hbw, hz1⟩, by simp [intOf]; omega⟩
                rw [hst]
                simp [*]
          · obtain ⟨cs, hcs, hz104⟩ := zero104
            have hFr : F.answers wr.tape := by rw [HB.out.tape]; exact hF
            have HFr : Hid (F.answers wr.tape) := hFr
            clear hFr hF
            have fin : ∀ w1, Below (atCheck id nm cr cs w.heap.size wr).heap.size (atCheck id nm cr cs w.heap.size wr) w1 → Below w.heap.size w w1 ∧ w1.cell? ⟨wr.heap.size, 0, none⟩ = some (.string id) ∧ w1.cell? ⟨wr.heap.size, 1, none⟩ = some (.string nm) ∧ w1.cell? ⟨wr.heap.size, 2, none⟩ = some (.int .i64 cr) := by
              intro w1 hb1
              refine ⟨HB.out.trans ((atCheck_below.trans (hb1.mono (by simp [atCheck_size]))).mono HB.out.size), ?_, ?_, ?_⟩
              · rw [hb1.cell (by simp [atCheck_size])]; exact atCheck_c0
              · rw [hb1.cell (by simp [atCheck_size])]; exact atCheck_c1
              · rw [hb1.cell (by simp [atCheck_size])]; exact atCheck_c2
            have FIN := fin
            clear fin
            have FIN' : Hid (∀ w1, Below (atCheck id nm cr cs w.heap.size wr).heap.size (atCheck id nm cr cs w.heap.size wr) w1 → Below w.heap.size w w1 ∧ w1.cell? ⟨wr.heap.size, 0, none⟩ = some (.string id) ∧ w1.cell? ⟨wr.heap.size, 1, none⟩ = some (.string nm) ∧ w1.cell? ⟨wr.heap.size, 2, none⟩ = some (.int .i64 cr)) := FIN
            clear FIN
            cases fd
            · cases r
              · go_wp2_with fail
                refine (call5_f hcs hid HG.out HF.out (Or.inr ⟨HGK.out, HR.out⟩)).mono ?_
                rintro e w1 ⟨rfl, hb1⟩
                obtain ⟨hbw, x0, x1, x2⟩ := FIN'.out w1 hb1
                have HBW : Hid (Below w.heap.size w w1) := hbw
                clear hb1 hbw
                go_wp2
                go_ret
                exact ⟨rfl, HBW.out⟩
              · go_wp2_with fail
                refine (call5_t F HFr.out hcs hid HG.out HF.out (Or.inr ⟨HGK.out, HR.out⟩)).mono ?_
                rintro e w1 ⟨⟨x, rfl⟩, hb1⟩
                obtain ⟨hbw, x0, x1, x2⟩ := FIN'.out w1 hb1
                have HBW : Hid (Below w.heap.size w w1) := hbw
                clear hb1 hbw
                go_wp2
                go_ret
                exact ⟨rfl, HBW.out⟩
            · cases hl
              · go_wp2_with fail
                refine (call5_f hcs hid HG.out HF.out (Or.inl HGK.out)).mono ?_
                rintro e w1 ⟨rfl, hb1⟩
                obtain ⟨hbw, x0, x1, x2⟩ := FIN'.out w1 hb1
                have HBW : Hid (Below w.heap.size w w1) := hbw
                clear hb1 hbw
                go_wp2
                go_ret
                exact ⟨rfl, HBW.out⟩
              · go_wp2_with fail
                refine (call5_t F HFr.out hcs hid HG.out HF.out (Or.inl HGK.out)).mono ?_
                rintro e w1 ⟨⟨x, rfl⟩, hb1⟩
                obtain ⟨hbw, x0, x1, x2⟩ := FIN'.out w1 hb1
                have HBW : Hid (Below w.heap.size w w1) := hbw
                clear hb1 hbw
                go_wp2
                go_ret
                exact ⟨rfl, HBW.out⟩

end Go.Proofs.YbulkbwyFmt
