/-
  'LawS0145BInts' whole. Typed by the prover of this seat (an AI agent).
-/
import Derived.Test.YbulkbzcFmtInts1
import Derived.Test.YbulkbzcFmtInts3
import Derived.Test.YbulkbzcFmtInts4
import Derived.Test.YbulkbzcFmtInts5
import Derived.Test.YbulkbzcFmtInts6
namespace Go.Proofs.YbulkbzcFmt
open Go.RowKit Go.Extern.Stop Go.Stop Go.Extern
set_option maxRecDepth 100000

theorem ints_any (F : Interp) {N : Nat} {a0 a1 : Addr} {s0 s1 : ByteArray} {zs : List Int} (b : Value) (sel id ex key val : Int) (w : World) (hF : F.answers w.tape) (hG : Hid (Gl N w a0 a1 s0 s1)) (hN : N ≤ w.heap.size)
    (hb : Hid (Seen w b zs)) (hs : 0 ≤ sel) (hi : 0 ≤ id ∧ id ≤ 65535) (hx : -9223372036854775808 ≤ ex ∧ ex ≤ 9223372036854775807) :
    Calls Ybaf.prog 4 #[b, .int .u8 sel, .int .u16 id, .int .i64 ex, .int .i64 key, .int .i64 val] w fun e w' => e = .returned (.bool true) ∧ Below w.heap.size w w' := by
  by_cases hlen : 1024 < zs.length
  · obtain ⟨ab, cb, rfl, _, _⟩ := hb.out
    exact ints_long ab zs.length cb _ _ _ _ _ w hlen
  have hlen : zs.length ≤ 1024 := by omega
  have HM : Hid (∀ W, Calls Ybaf.prog 5 #[.int .u8 sel] W fun e w' => e = .returned (.int .u8 (magicOf sel)) ∧ w' = W) := fun W => magic_any sel hs W
  generalize magicOf sel = m at HM
  by_cases h0 : 255 < ex
  · exact ints_ex F b sel m id ex key val w hF hG hN HM hb hlen h0
  by_cases h1 : 65535 < key
  · exact ints_key F b sel m id ex key val w hF hG hN HM hb hlen h0 h1
  by_cases h2 : Big (fg id) ex key val
  · exact ints_big F b sel m id ex key val w hF hG hN HM hb hlen h0 h1 h2
  by_cases h3 : Good (mg m id) (fg id) ex key val
  · by_cases hid : id = 0
    · subst hid
      have hm := h3
      unfold Good Fine at hm
      have hm1 := hm.1
      rw [show mg m 0 = m by simp [mg]] at hm1
      rcases hm1 with rfl | rfl | rfl
      · exact ints_ok3 b sel ex key val w HM hb hlen hx h0 h1 h2 h3
      · exact ints_ok4 b sel ex key val w HM hb hlen hx h0 h1 h2 h3
      · exact ints_ok5 b sel ex key val w HM hb hlen hx h0 h1 h2 h3
    · exact ints_ok6 b sel m id ex key val w HM hb hlen hx h0 h1 h2 h3 hid hi
  · exact ints_bad F b sel m id ex key val w hF hG hN HM hb hlen h0 h1 h2 h3
end Go.Proofs.YbulkbzcFmt
