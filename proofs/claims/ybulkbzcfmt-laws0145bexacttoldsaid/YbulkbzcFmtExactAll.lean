/-
  'LawS0145BExact' whole. Typed by the prover of this seat (an AI agent).
-/
import Derived.Test.YbulkbzcFmtExact1
import Derived.Test.YbulkbzcFmtExact2
import Derived.Test.YbulkbzcFmtExact3
import Derived.Test.YbulkbzcFmtExact4
import Derived.Test.YbulkbzcFmtExact5
namespace Go.Proofs.YbulkbzcFmt
open Go.RowKit Go.Extern.Stop Go.Stop Go.Extern
set_option maxRecDepth 100000

theorem exact_any (F : Interp) {N : Nat} {a0 a1 : Addr} {s0 s1 : ByteArray} {zs : List Int} (b : Value) (sel op dt vb st opq cas id ex key val : Int) (w : World) (hF : F.answers w.tape) (hG : Hid (Gl N w a0 a1 s0 s1)) (hN : N ≤ w.heap.size)
    (hb : Hid (Seen w b zs)) (hs : 0 ≤ sel)
    (hv : 0 ≤ vb ∧ vb ≤ 65535) (hst : 0 ≤ st ∧ st ≤ 65535) (ho : 0 ≤ opq ∧ opq ≤ 4294967295) (hca : 0 ≤ cas ∧ cas ≤ 18446744073709551615) (hi : 0 ≤ id ∧ id ≤ 65535)
    (he : 0 ≤ ex ∧ ex ≤ 255) (hk : 0 ≤ key ∧ key ≤ 65535) (hva : 0 ≤ val ∧ val ≤ 4294967295) :
    Calls Ybaf.prog 3 #[b, .int .u8 sel, .int .u8 op, .int .u8 dt, .int .u16 vb, .int .u16 st, .int .u32 opq, .int .u64 cas, .int .u16 id, .int .u8 ex, .int .u16 key, .int .u32 val] w fun e w' => e = .returned (.bool true) ∧ Below w.heap.size w w' := by
  by_cases hlen : 1024 < zs.length
  · obtain ⟨ab, cb, rfl, _, _⟩ := hb.out
    exact exact_long ab zs.length cb _ _ _ _ _ _ _ _ _ _ _ w hlen
  have hlen : zs.length ≤ 1024 := by omega
  have HM : Hid (∀ W, Calls Ybaf.prog 5 #[.int .u8 sel] W fun e w' => e = .returned (.int .u8 (magicOf sel)) ∧ w' = W) := fun W => magic_any sel hs W
  generalize magicOf sel = m at HM
  by_cases hid : id = 0
  · subst hid
    by_cases hbig : 4294967295 < ex + key + val
    · exact exact_big0 F b sel m op dt vb st opq cas ex key val w hF hG hN HM hb hlen he hk hva hbig
    by_cases hm : m = 128 ∨ m = 129 ∨ m = 8
    · rcases hm with rfl | rfl | rfl
      · exact exact_ok2 b sel op dt vb st opq cas ex key val w HM hb hlen hv hst ho hca he hk hva hbig
      · exact exact_ok3 b sel op dt vb st opq cas ex key val w HM hb hlen hv hst ho hca he hk hva hbig
      · by_cases hkk : 255 < key
        · exact exact_key0 F b sel op dt vb st opq cas ex key val w hF hG hN HM hb hlen he hk hva hbig hkk
        · exact exact_ok4 b sel op dt vb st opq cas ex key val w HM hb hlen hv hst ho hca he hk hva hbig hkk
    · exact exact_magic F b sel m op dt vb st opq cas ex key val w hF hG hN HM hb hlen he hk hva hbig hm
  · by_cases hbig : 4294967295 < 3 + ex + key + val
    · exact exact_big3 F b sel m op dt vb st opq cas id ex key val w hF hG hN HM hb hlen hid he hk hva hbig
    by_cases hkk : 255 < key
    · exact exact_key3 F b sel m op dt vb st opq cas id ex key val w hF hG hN HM hb hlen hid he hk hva hbig hkk
    · exact exact_ok5 b sel m op dt vb st opq cas id ex key val w HM hb hlen hv hst ho hca hid hi he hk hva hbig hkk
end Go.Proofs.YbulkbzcFmt
