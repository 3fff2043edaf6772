/-
  The law's own function. Typed by the prover of this seat (an AI agent).
-/
import Derived.Test.YbulkbyoFmtAll
import Derived.Test.YbulkbyoFmtLoopA
import Derived.Test.YbulkbyoFmtLoopB
namespace Go.Proofs.YbulkbyoFmt
open Go.RowKit Go.MuLone Go.MapFn
set_option maxRecDepth 1000000

theorem cut_at (m : Int) (kk : Nat) (hm0 : 0 ≤ m) : ∃ c : Nat, m.tmod ((kk : Int) + 1) = (c : Int) ∧ m % ((kk : Int) + 1) = (c : Int) ∧ (c : Int) ≤ kk := by
  have h1 := Int.emod_nonneg m (show (kk : Int) + 1 ≠ 0 by omega)
  have h2 := Int.emod_lt_of_pos m (show (0 : Int) < (kk : Int) + 1 by omega)
  rw [Int.tmod_eq_emod_of_nonneg hm0]
  generalize m % ((kk : Int) + 1) = x at h1 h2 ⊢
  exact ⟨x.toNat, by omega, by omega, by omega⟩
theorem wrap_small (x : Int) (h0 : -1000 ≤ x) (h1 : x ≤ 1000) : IntKind.i64.wrap x = x ∧ wrap64 x = x := by
  constructor
  · simp only [IntKind.wrap, IntKind.signed, IntKind.bits]; simp; omega
  · simp only [wrap64]; omega

set_option maxHeartbeats 8000000 in
theorem waits_any (n m dl : Int) (key : ByteArray) (w0 : World) (hn0 : 0 ≤ n) (hn1 : n ≤ 255) (hm0 : 0 ≤ m) (hm1 : m ≤ 255) (hk : key.size ≤ maxLen) :
    Calls Ybaf.prog 3 #[.int .u8 n, .int .u8 m, .string key, .int .i64 dl] w0 fun e w' => e = .returned (.bool true) ∧ Below w0.heap.size w0 w' := by
  obtain ⟨i0, hi, hz0, hz1, hz2⟩ := info_parts info41
  obtain ⟨kk, hkk⟩ : ∃ kk : Nat, n % 8 = (kk : Int) := ⟨(n % 8).toNat, by omega⟩
  have hkk7 : (kk : Int) ≤ 7 := by omega
  obtain ⟨c, hmod, hem, hck⟩ := cut_at m kk hm0
  have HEM := hidI hem
  clear hem
  have hne2 : ((kk : Int) + 1) ≠ 0 := by omega
  have HREM : Hid (∀ W, (Op.intDiv .rem .i64 m ((kk : Int) + 1)).run Ybaf.prog W = .ok (.int .i64 (c : Int)) W) := fun W => by
    simp [Op.intDiv, hmod, hne2]
  have HWN := hidI (wrap_small n (by omega) (by omega))
  have HWM := hidI (wrap_small m (by omega) (by omega))
  have HW1 := hidI (wrap_small ((kk : Int) + 1) (by omega) (by omega))
  have HWC := hidI (wrap_small ((kk : Int) - c) (by omega) (by omega))
  have HWD := hidI (wrap_small ((kk : Int) - c - 1) (by omega) (by omega))
  clear hmod
  -- newKeyLocks
  have LK1 : Hid (LkAt ((w0.alloc (.map #[] 0)).alloc (.cells #[.int .i32 0, .int .u32 0, .map (some w0.heap.size), .int .i64 0, .int .i64 0, .bool false, .int .u64 0] 38)) (w0.heap.size + 1) w0.heap.size 0 0 0 0) := by
    have := (MapKept.heap_alloc (w0.alloc (.map #[] 0)) (.cells #[.int .i32 0, .int .u32 0, .map (some w0.heap.size), .int .i64 0, .int .i64 0, .bool false, .int .u64 0] 38)).1
    have e : (w0.alloc (.map #[] 0)).heap.size = w0.heap.size + 1 := by simp
    rw [e] at this
    exact this
  have M1 : Hid (MapIs Ybaf.prog 9 ((w0.alloc (.map #[] 0)).alloc (.cells #[.int .i32 0, .int .u32 0, .map (some w0.heap.size), .int .i64 0, .int .i64 0, .bool false, .int .u64 0] 38)) w0.heap.size 0 (fun _ => none)) := (MapIs.made Ybaf.prog 9 w0).alloc _
  have B1 : Hid (Below w0.heap.size w0 ((w0.alloc (.map #[] 0)).alloc (.cells #[.int .i32 0, .int .u32 0, .map (some w0.heap.size), .int .i64 0, .int .i64 0, .bool false, .int .u64 0] 38))) := ((Below.refl _ _).alloc (Nat.le_refl _) _).alloc (by simp) _
  go_enter Ybaf.func3, Ybaf.ntmps3
  go_wp2_with fail
  refine (newLocks_any w0).mono ?_
  rintro e w1 ⟨rfl, rfl⟩
  generalize World.alloc _ (Obj.cells _ 38) = w1 at LK1 M1 B1 ⊢
  have d4 : w1.cell? ⟨w0.heap.size + 1, 4, none⟩ = some (.int .i64 0) := cell_of LK1.out 4
  have e4 := frozen_of LK1.out 4
  have LK2 := hidI (LK1.out.set4 dl)
  have M2 := hidI (M1.out.setCell (a := ⟨w0.heap.size + 1, 4, none⟩) (by show w0.heap.size ≠ w0.heap.size + 1; omega) (.int .i64 dl))
  have B2 := hidI (B1.out.setCell (p := ⟨w0.heap.size + 1, 4, none⟩) (by show w0.heap.size ≤ w0.heap.size + 1; omega) (.int .i64 dl))
  go_upto_region 3 with fail
  generalize World.setCell _ ⟨w0.heap.size + 1, 4, none⟩ _ = w2 at LK2 M2 B2 ⊢
  clear d4 e4 LK1 M1 B1
  -- newHolder
  have hs2 : w0.heap.size ≤ w2.heap.size := B2.out.size
  have LK3 : Hid (LkAt (((w2.setCell ⟨w0.heap.size + 1, 6, none⟩ (.int .u64 (0 + 1))).alloc (.map #[] 0)).alloc (.cells #[.int .u64 (0 + 1), .map (some w2.heap.size), .pointer none] 56)) (w0.heap.size + 1) w0.heap.size 0 0 dl (0 + 1)) := by
    have h := LK2.out.set6 (0 + 1)
    exact (Below.heap_alloc _ _ _ (by have := lt_of h; simp at this ⊢; omega)).trans ((Below.heap_alloc _ _ _ (lt_of h)).trans h)
  have M3 := hidI (((M2.out.setCell (a := ⟨w0.heap.size + 1, 6, none⟩) (by show w0.heap.size ≠ w0.heap.size + 1; omega) (.int .u64 (0 + 1))).alloc (.map #[] 0)).alloc (.cells #[.int .u64 (0 + 1), .map (some w2.heap.size), .pointer none] 56))
  have HO3 : Hid (HoAt (((w2.setCell ⟨w0.heap.size + 1, 6, none⟩ (.int .u64 (0 + 1))).alloc (.map #[] 0)).alloc (.cells #[.int .u64 (0 + 1), .map (some w2.heap.size), .pointer none] 56)) (w2.heap.size + 1) w2.heap.size (0 + 1) (.pointer none)) := by
    have := (MapKept.heap_alloc ((w2.setCell ⟨w0.heap.size + 1, 6, none⟩ (.int .u64 (0 + 1))).alloc (.map #[] 0)) (.cells #[.int .u64 (0 + 1), .map (some w2.heap.size), .pointer none] 56)).1
    have e : ((w2.setCell ⟨w0.heap.size + 1, 6, none⟩ (.int .u64 (0 + 1))).alloc (.map #[] 0)).heap.size = w2.heap.size + 1 := by simp
    rw [e] at this
    exact this
  have KM3 : Hid (MapIs Ybaf.prog 9 (((w2.setCell ⟨w0.heap.size + 1, 6, none⟩ (.int .u64 (0 + 1))).alloc (.map #[] 0)).alloc (.cells #[.int .u64 (0 + 1), .map (some w2.heap.size), .pointer none] 56)) w2.heap.size 0 (fun _ => none)) := by
    have := MapIs.made Ybaf.prog 9 (w2.setCell ⟨w0.heap.size + 1, 6, none⟩ (.int .u64 (0 + 1)))
    have e : (w2.setCell ⟨w0.heap.size + 1, 6, none⟩ (.int .u64 (0 + 1))).heap.size = w2.heap.size := by simp
    rw [e] at this
    exact this.alloc _
  have B3 := hidI (((B2.out.setCell (p := ⟨w0.heap.size + 1, 6, none⟩) (by show w0.heap.size ≤ w0.heap.size + 1; omega) (.int .u64 (0 + 1))).alloc (by simp; omega) (.map #[] 0)).alloc (by simp; omega) (.cells #[.int .u64 (0 + 1), .map (some w2.heap.size), .pointer none] 56))
  go_wp2_with fail
  refine (newHolder_any w2 (w0.heap.size + 1) w0.heap.size 0 0 dl 0 LK2.out (by omega) (by omega)).mono ?_
  rintro e w3 ⟨rfl, rfl⟩
  generalize World.alloc _ (Obj.cells _ 56) = w3 at LK3 M3 HO3 KM3 B3 ⊢
  have hlt2 : w0.heap.size < w2.heap.size := M2.out.lt
  have HE := hidI (enq_free w3 w0.heap.size (w0.heap.size + 1) w0.heap.size (w2.heap.size + 1) w2.heap.size 0 0 0 0 dl (0 + 1) (0 + 1) (.pointer none) key (fun _ => none) (fun _ => none) hk (by omega) (by omega) LK3.out HO3.out M3 KM3 rfl (by omega) (Nat.le_refl _) hs2 B3.out.size)
  clear LK2 M2 B2
  go_wp2_with fail
  refine HE.out.mono ?_
  rintro e w4 ⟨rfl, b4, l4, h4, k4, ⟨f', m4, f4⟩, fk', km4, fk4, fo4⟩
  have HT4 : Hid (Tab w4 w0.heap.size (w0.heap.size + 1) w0.heap.size w3.heap.size (w2.heap.size + 1) w2.heap.size ((0 : Nat) : Int) dl (((0 : Nat) : Int) + 1) key (.slice none 0 0) []) :=
    ⟨l4, ⟨_, _, m4, f4⟩, k4, ⟨_, h4⟩, ⟨fk', km4, fk4, fun x hx => by rw [fo4 x hx]⟩, ⟨rfl, Or.inl ⟨rfl, rfl⟩⟩, fun W hW => (by cases hW), List.nodup_nil, ⟨by omega, Nat.le_refl _, B3.out.size, hs2⟩, by omega⟩
  have HB4 := hidI (B3.out.trans b4)
  clear b4 l4 h4 k4 m4 f4 km4 fk4 fo4 HE LK3 M3 HO3 KM3 B3
  generalize w2.heap.size + 1 = H0 at HT4 ⊢
  generalize w2.heap.size = K0 at HT4
  generalize w3.heap.size = KB at HT4
  generalize w0.heap.size + 1 = L at HT4 ⊢
  go_wp2_with fail
  refine (status_at HT4.out.lk).mono ?_
  rintro e w5 ⟨rfl, hl5⟩
  have HT5 := hidI (HT4.out.like hl5)
  have HB5 := hidI (HB4.out.trans (hl5.below _))
  clear hl5 HT4 HB4
  have HMK : Hid (∀ w6, w6.ownsRow w0.heap.size 41 1 (.slice (some ⟨w5.heap.size, 0, none⟩) 0 kk) 0 [] → w5.grownBy w6 none → Tab w6 w0.heap.size L w0.heap.size KB H0 K0 ((0 : Nat) : Int) dl (((0 : Nat) : Int) + 1) key (.slice none 0 0) [] ∧ WsAt w6 w0.heap.size w5.heap.size kk (.slice none 0 0) [] ∧ Below w0.heap.size w0 w6) := by
    intro w6 hown hgr
    have ho : Only [] w5 w6 := (Only.refl [] w5).grown hgr (fun b e => by cases e)
    have far : ∀ {j : Nat} {o : Obj}, w5.heap[j]? = some o → w6.heap[j]? = some o := fun h => (ho.block _ (lt_of h) (by simp)).trans h
    exact ⟨HT5.out.step (S := []) (fun s hs => by cases hs) ho (far HT5.out.lk) (far HT5.out.kl) ⟨rfl, Or.inl ⟨rfl, rfl⟩⟩ List.nodup_nil (fun W hW => (by cases hW)), ⟨hown, fun e => (by cases e)⟩, HB5.out.trans (ho.below (fun k hk => by cases hk) HB5.out.size)⟩
  have hs5 : w0.heap.size ≤ w5.heap.size := HB5.out.size
  have hwn := HWN.out.1
  go_upto_region 11 with fail
  rw [hkk]
  clear hwn
  go_wp2_with (first | (at_make; refine wpList_make_own _ rfl _ _ 49 rfl w0.heap.size 41 i0 _ 1 Ybaf.underlying49 hi hz0 hz1 .i64 .i64 (kk : Int) kk rfl rfl rfl (by rw [hz2]; omega) (by unfold maxLen; omega) hs5 ?_; intro w6 hown6 hgr6; obtain ⟨t6, s6, b6⟩ := HMK.out w6 hown6 hgr6; have HT6 := hidI t6; have HW6 := hidI s6; have HB6 := hidI b6; clear t6 s6 b6 hown6 hgr6) | fail)
  refine wloop1 w0 w6 w0.heap.size L w0.heap.size KB H0 K0 w5.heap.size kk dl key _ _ hk hkk7 rfl HT6 HW6 HB6 ?_
  rintro x8 x17 x18 x19 x20 x21 x22 x65 x66 x67 x68 x69 x70 x71 x72 x73 x74 x75 x76 x77 x78 x79 x80 x81 x82 x83 x84 x85 x86 x87 x88 x89 x90 x91 x92 x93 x94 x95 x96 x97 x98 x99 x100 x101 x102 w7 q ps hps ⟨t7, s7, b7⟩
  have HT7 := hidI t7
  have HW7 := hidI s7
  have HB7 := hidI b7
  clear t7 s7 b7 HT6 HW6 HB6 HT5 HB5 HMK
  have hwm := HWM.out.1
  have hw1 := HW1.out.1
  have hw3 := HW1.out.2
  have hrem := HREM.out
  go_wp2_with fail
  clear hwm hw1 hw3 hrem
  rw [HEM.out]
  refine wloop2 w0 w7 w0.heap.size L w0.heap.size KB H0 K0 w5.heap.size kk c dl ((kk : Int) + 1) key q ps _ hk hkk7 hps hck rfl HT7 HW7 HB7 ?_
  rintro x8 x24 x108 x109 x110 x111 x112 x113 x114 x115 x116 x117 x118 x119 w8 q8 ⟨t8, b8⟩
  have HT8 := hidI t8
  have HB8 := hidI b8
  clear t8 b8 HT7 HW7 HB7
  have hlen : (ps.drop c).length = kk - c := by rw [List.length_drop, hps]
  have HLEN := hidI hlen
  clear hlen hps
  go_wp2_with fail
  refine (status_at HT8.out.lk).mono ?_
  rintro e w9 ⟨rfl, hl9⟩
  have HT9 := hidI (HT8.out.like hl9)
  have HB9 := hidI (HB8.out.trans (hl9.below _))
  clear hl9 HT8 HB8
  have HR := hidI (release_tab HT9.out hk (by have := HLEN.out; omega) (by omega) (by omega) HB9.out.size)
  have hw4 := HWC.out.1
  have hw5 := HWC.out.2
  go_wp2_with fail
  refine HR.out.mono ?_
  rintro e w10 ⟨rfl, b10, l10⟩
  have HB10 := hidI (HB9.out.trans b10)
  have HL10 := hidI l10
  clear b10 l10 HR HT9 HB9 hw4 hw5
  by_cases hkc : c = kk
  · subst hkc
    have he : ps.drop c = [] := List.eq_nil_of_length_eq_zero (by rw [HLEN.out]; omega)
    have HL11 := HL10.out
    rw [if_pos he] at HL11
    have hz : (c : Int) - c = 0 := by omega
    rw [hz] at HL11
    have HLF := hidI HL11
    clear HL11 HL10 he
    have hw4 := HWC.out.1
    have hw5 := HWC.out.2
    rw [hz] at hw4 hw5
    go_wp2_with fail
    refine (status_at HLF.out).mono ?_
    rintro e w11 ⟨rfl, hl11⟩
    have HB11 := hidI (HB10.out.trans (hl11.below _))
    clear hl11 HB10 HLF
    go_wp2
    go_ret
    exact ⟨rfl, HB11.out⟩
  · have he : ps.drop c ≠ [] := fun e => by
      have h1 := HLEN.out
      rw [e] at h1
      simp at h1
      omega
    have HL11 := HL10.out
    rw [if_neg he] at HL11
    have HLF := hidI HL11
    have hpos : (0 : Int) < (kk : Int) - c := by omega
    clear HL11 HL10 he
    have hw4 := HWC.out.1
    have hw5 := HWC.out.2
    have hw6 := HWD.out.1
    have hw7 := HWD.out.2
    go_wp2_with fail
    refine (status_at HLF.out).mono ?_
    rintro e w11 ⟨rfl, hl11⟩
    have HB11 := hidI (HB10.out.trans (hl11.below _))
    clear hl11 HB10 HLF
    go_wp2
    go_ret
    exact ⟨rfl, HB11.out⟩
end Go.Proofs.YbulkbyoFmt
