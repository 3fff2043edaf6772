/-
  AppendUint16, 32, 64 and 'zzs0145bbe' over the call's own bytes. Typed by the prover of this seat (an AI agent).
-/
import Derived.Test.YbulkbzcFmtBytes
namespace Go.Proofs.YbulkbzcFmt
open Go.RowKit
set_option maxRecDepth 100000

def b2 (x : Int) : List Int := [x / 256 % 256, x % 256]
def b4 (x : Int) : List Int := [x / 16777216 % 256, x / 65536 % 256, x / 256 % 256, x % 256]
def b8 (x : Int) : List Int := [x / 72057594037927936 % 256, x / 281474976710656 % 256, x / 1099511627776 % 256, x / 4294967296 % 256, x / 16777216 % 256, x / 65536 % 256, x / 256 % 256, x % 256]

theorem app16 {B : Nat} {w : World} {v : Value} {zs : List Int} (x : Int) (h0 : 0 ≤ x) (h1 : x < 65536) (h : Hid (Row B w v zs)) (hB : B ≤ w.heap.size) (hlen : zs.length ≤ 2000) :
    Calls Ybaf.prog 22 #[.agg #[], v, .int .u16 x] w fun e w' => ∃ v', e = .returned v' ∧ Row B w' v' (zs ++ b2 x) ∧ Kp B w w' := by
  go_enter Ybaf.func22, Ybaf.ntmps22
  go_wp2_with (first | (at_builtin; refine wpList_row rfl _ _ rfl (h.out.below ((Below.refl _ _).alloc (Nat.le_refl _) _)) (by simp; omega) (b2 x) (by simp [b2]; omega) _ ?c1 _ (by simp) _ rfl rfl rfl ?_) | go_in)
  case c1 => simp [b2]; try omega
  intro v1 w1 hr hk
  have HR := hidI hr
  have HK := hidI hk
  clear hr hk
  go_wp2
  go_ret
  exact ⟨_, rfl, HR.out, (Kp.of_below ((Below.refl _ _).alloc (Nat.le_refl _) _)).trans HK.out⟩

theorem app32 {B : Nat} {w : World} {v : Value} {zs : List Int} (x : Int) (h0 : 0 ≤ x) (h1 : x < 4294967296) (h : Hid (Row B w v zs)) (hB : B ≤ w.heap.size) (hlen : zs.length ≤ 2000) :
    Calls Ybaf.prog 26 #[.agg #[], v, .int .u32 x] w fun e w' => ∃ v', e = .returned v' ∧ Row B w' v' (zs ++ b4 x) ∧ Kp B w w' := by
  go_enter Ybaf.func26, Ybaf.ntmps26
  go_wp2_with (first | (at_builtin; refine wpList_row rfl _ _ rfl (h.out.below ((Below.refl _ _).alloc (Nat.le_refl _) _)) (by simp; omega) (b4 x) (by simp [b4]; omega) _ ?c1 _ (by simp) _ rfl rfl rfl ?_) | go_in)
  case c1 => simp [b4]; try omega
  intro v1 w1 hr hk
  have HR := hidI hr
  have HK := hidI hk
  clear hr hk
  go_wp2
  go_ret
  exact ⟨_, rfl, HR.out, (Kp.of_below ((Below.refl _ _).alloc (Nat.le_refl _) _)).trans HK.out⟩

set_option maxHeartbeats 1000000 in
theorem app64 {B : Nat} {w : World} {v : Value} {zs : List Int} (x : Int) (h0 : 0 ≤ x) (h1 : x < 18446744073709551616) (h : Hid (Row B w v zs)) (hB : B ≤ w.heap.size) (hlen : zs.length ≤ 2000) :
    Calls Ybaf.prog 27 #[.agg #[], v, .int .u64 x] w fun e w' => ∃ v', e = .returned v' ∧ Row B w' v' (zs ++ b8 x) ∧ Kp B w w' := by
  go_enter Ybaf.func27, Ybaf.ntmps27
  go_wp2_with (first | (at_builtin; refine wpList_row rfl _ _ rfl (h.out.below ((Below.refl _ _).alloc (Nat.le_refl _) _)) (by simp; omega) (b8 x) (by simp [b8]; omega) _ ?c1 _ (by simp) _ rfl rfl rfl ?_) | go_in)
  case c1 => simp [b8]; try omega
  intro v1 w1 hr hk
  have HR := hidI hr
  have HK := hidI hk
  clear hr hk
  go_wp2
  go_ret
  exact ⟨_, rfl, HR.out, (Kp.of_below ((Below.refl _ _).alloc (Nat.le_refl _) _)).trans HK.out⟩

/-- zzs0145bbe: v's n least bytes, the greatest first. -/
def beI (x : Int) : Nat → List Int
  | 0 => []
  | n + 1 => x / 256 ^ n % 256 :: beI x n
theorem beI_2 (x : Int) : beI x 2 = b2 x := by simp [beI, b2]
theorem beI_4 (x : Int) : beI x 4 = b4 x := by simp [beI, b4]
theorem beI_8 (x : Int) : beI x 8 = b8 x := by simp [beI, b8]
end Go.Proofs.YbulkbzcFmt
