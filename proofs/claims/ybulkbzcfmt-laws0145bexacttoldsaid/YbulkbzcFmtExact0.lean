/-
  'LawS0145BExact': what its ways share. Typed by the prover of this seat (an AI agent).
-/
import Derived.Test.YbulkbzcFmtStreamAll
import Derived.Test.YbulkbzcFmtCopy
import Derived.Test.YbulkbzcFmtBe
namespace Go.Proofs.YbulkbzcFmt
open Go.RowKit Go.Extern.Stop Go.Stop Go.Extern
set_option maxRecDepth 100000

theorem wrap64_id {x : Int} (h0 : -9223372036854775808 ≤ x) (h1 : x ≤ 9223372036854775807) : wrap64 x = x := by
  simp only [wrap64]; omega
theorem total_small {fr ex key val : Int} (h0 : 0 ≤ fr ∧ fr ≤ 3) (h1 : 0 ≤ ex ∧ ex ≤ 255) (h2 : 0 ≤ key ∧ key ≤ 65535) (h3 : 0 ≤ val ∧ val ≤ 4294967295) : total fr ex key val = fr + ex + key + val := by
  unfold total
  rw [wrap64_id (x := fr + ex) (by omega) (by omega), wrap64_id (x := fr + ex + key) (by omega) (by omega), wrap64_id (by omega) (by omega)]
theorem u64_id {x : Int} (h0 : 0 ≤ x) (h1 : x ≤ 18446744073709551615) : IntKind.u64.wrap x = x := by simp [IntKind.wrap, IntKind.signed, IntKind.bits]; omega
theorem u32_id {x : Int} (h0 : 0 ≤ x) (h1 : x ≤ 4294967295) : IntKind.u32.wrap x = x := by simp [IntKind.wrap, IntKind.signed, IntKind.bits]; omega
theorem u16_id {x : Int} (h0 : 0 ≤ x) (h1 : x ≤ 65535) : IntKind.u16.wrap x = x := by simp [IntKind.wrap, IntKind.signed, IntKind.bits]; omega
theorem u8_id {x : Int} (h0 : 0 ≤ x) (h1 : x ≤ 255) : IntKind.u8.wrap x = x := by simp [IntKind.wrap, IntKind.signed, IntKind.bits]; omega
theorem big_small {fr ex key val : Int} (h0 : 0 ≤ fr ∧ fr ≤ 3) (h1 : 0 ≤ ex ∧ ex ≤ 255) (h2 : 0 ≤ key ∧ key ≤ 65535) (h3 : 0 ≤ val ∧ val ≤ 4294967295) : Big fr ex key val ↔ 4294967295 < fr + ex + key + val := by
  unfold Big; rw [total_small h0 h1 h2 h3, u64_id (by omega) (by omega)]
theorem not_long {ex key : Int} (h1 : 0 ≤ ex ∧ ex ≤ 255) (h2 : 0 ≤ key ∧ key ≤ 65535) : ¬ Long ex key := by unfold Long; omega
theorem good_small {m fr ex key val : Int} (h0 : 0 ≤ fr ∧ fr ≤ 3) (h1 : 0 ≤ ex ∧ ex ≤ 255) (h2 : 0 ≤ key ∧ key ≤ 65535) (h3 : 0 ≤ val ∧ val ≤ 4294967295) (hb : ¬ 4294967295 < fr + ex + key + val) :
    Good m fr ex key val ↔ (m = 128 ∨ m = 129 ∨ m = 8) ∧ (m = 8 → key ≤ 255) := by
  unfold Good Fine
  rw [total_small h0 h1 h2 h3, u32_id (by omega) (by omega), u16_id h2.1 h2.2, u8_id h1.1 h1.2, u8_id h0.1 (by omega)]
  constructor
  · rintro ⟨a, b, _⟩; exact ⟨a, b⟩
  · rintro ⟨a, b⟩; exact ⟨a, b, by omega⟩

theorem lb2 (x : Int) : (b2 x).length = 2 := rfl
theorem lb4 (x : Int) : (b4 x).length = 4 := rfl
theorem lb8 (x : Int) : (b8 x).length = 8 := rfl

set_option maxHeartbeats 1000000 in
theorem exact_long (a : Option Addr) (n c : Nat) (v1 v2 v3 v4 v5 v6 v7 v8 v9 v10 v11 : Value) (w : World) (h : 1024 < n) :
    Calls Ybaf.prog 3 #[.slice a n c, v1, v2, v3, v4, v5, v6, v7, v8, v9, v10, v11] w fun e w' => e = .returned (.bool true) ∧ Below w.heap.size w w' := by
  have h' : (1024 : Int) < (n : Int) := by omega
  go_enter Ybaf.func3, Ybaf.ntmps3
  go_wp2
  go_ret
  exact ⟨rfl, Below.refl _ _⟩
end Go.Proofs.YbulkbzcFmt
