/-
  '(*Header).UnmarshalBinary' over the bytes that AppendBinary laid. Typed by the prover of this seat (an AI agent).
-/
import Derived.Test.YbulkbzcFmtUm8
import Derived.Test.YbulkbzcFmtUm128
import Derived.Test.YbulkbzcFmtUm129
namespace Go.Proofs.YbulkbzcFmt
open Go.RowKit
set_option maxRecDepth 100000

theorem At.sub {w : World} {g o : Nat} {pre sub post : List Int} (h : At w g o (pre ++ (sub ++ post))) : At w g (o + pre.length) sub :=
  ⟨fun i hi => by
    have := h.1 (pre.length + i) (by simp; omega)
    rw [Nat.add_assoc, this, List.getD, List.getD, List.getElem?_append_right (by omega), Nat.add_sub_cancel_left, List.getElem?_append_left hi], fun z hz => h.2 z (by simp [hz])⟩

set_option maxHeartbeats 2000000 in
theorem umh8 (H g o c : Nat) (y0 y1 y2 y3 y4 y5 y6 y7 y8 y9 y10 fr key ex body : Int) (w : World) (hc : 24 ≤ c) (HH : Hid (BoxAt w H y0 y1 y2 y3 y4 y5 y6 y7 y8 y9 y10)) (hf : 0 ≤ fr ∧ fr ≤ 255) (hk : 0 ≤ key ∧ key ≤ 255) (he : 0 ≤ ex ∧ ex ≤ 255) (hb : 0 ≤ body ∧ body ≤ 4294967295)
    (hfine : fr + ex + key ≤ body) (hA0 : At w g o (headB 8 7 fr key ex 0 3 0 body 9 0)) :
    Calls Ybaf.prog 11 #[.pointer (some ⟨H, 0, none⟩), .slice (some ⟨g, o, none⟩) 24 c] w fun e w' => e = .returned .nilIface ∧ (∃ K, BoxAt w' H 8 7 fr key ex 0 3 0 body 9 K) ∧ w.grownBy w' (some H) := by
  have hA : At w g o [8, 7, fr, key % 256, ex, 0, 3 / 256 % 256, 3 % 256, body / 16777216 % 256, body / 65536 % 256, body / 256 % 256, body % 256, 9 / 16777216 % 256, 9 / 65536 % 256, 9 / 256 % 256, 9 % 256, 0 / 72057594037927936 % 256, 0 / 281474976710656 % 256, 0 / 1099511627776 % 256, 0 / 4294967296 % 256, 0 / 16777216 % 256, 0 / 65536 % 256, 0 / 256 % 256, 0 % 256] := hA0
  have eb : (((body / 16777216 % 256) * 256 + body / 65536 % 256) * 256 + body / 256 % 256) * 256 + body % 256 = body := by omega
  have ek : (fr) * 256 + key % 256 = ((fr) * 256 + key % 256) := by rfl
  obtain ⟨K, hK⟩ := rd64 g (o + 16) 8 (c - 16) (0 / 72057594037927936 % 256) (0 / 281474976710656 % 256) (0 / 1099511627776 % 256) (0 / 4294967296 % 256) (0 / 16777216 % 256) (0 / 65536 % 256) (0 / 256 % 256) (0 % 256) (Nat.le_refl _)
  have e2 : key % 256 = key := by omega
  have h17 : ∀ W, Below w.heap.size w W → Calls Ybaf.prog 17 #[.agg #[], .slice (some ⟨g, o + 2, none⟩) 2 (c - 2)] W fun e w' => e = .returned (.int .u16 ((fr) * 256 + key % 256)) ∧ Below W.heap.size W w' := fun W hW => by
    have := rd16 g (o + 2) 2 (c - 2) (fr) (key % 256) W (Nat.le_refl _) ((hA.sub (pre := [8, 7]) (sub := [fr, key % 256]) (post := [ex, 0, 3 / 256 % 256, 3 % 256, body / 16777216 % 256, body / 65536 % 256, body / 256 % 256, body % 256, 9 / 16777216 % 256, 9 / 65536 % 256, 9 / 256 % 256, 9 % 256, 0 / 72057594037927936 % 256, 0 / 281474976710656 % 256, 0 / 1099511627776 % 256, 0 / 4294967296 % 256, 0 / 16777216 % 256, 0 / 65536 % 256, 0 / 256 % 256, 0 % 256])).below hW)
    rw [ek] at this
    exact this
  have h18 : ∀ W, Below w.heap.size w W → Calls Ybaf.prog 18 #[.agg #[], .slice (some ⟨g, o + 8, none⟩) 4 (c - 8)] W fun e w' => e = .returned (.int .u32 body) ∧ Below W.heap.size W w' := fun W hW => by
    have := rd32 g (o + 8) 4 (c - 8) (body / 16777216 % 256) (body / 65536 % 256) (body / 256 % 256) (body % 256) W (Nat.le_refl _) ((hA.sub (pre := [8, 7, fr, key % 256, ex, 0, 3 / 256 % 256, 3 % 256]) (sub := [body / 16777216 % 256, body / 65536 % 256, body / 256 % 256, body % 256]) (post := [9 / 16777216 % 256, 9 / 65536 % 256, 9 / 256 % 256, 9 % 256, 0 / 72057594037927936 % 256, 0 / 281474976710656 % 256, 0 / 1099511627776 % 256, 0 / 4294967296 % 256, 0 / 16777216 % 256, 0 / 65536 % 256, 0 / 256 % 256, 0 % 256])).below hW)
    rw [eb] at this
    exact this
  have h18' : ∀ W, Below w.heap.size w W → Calls Ybaf.prog 18 #[.agg #[], .slice (some ⟨g, o + 12, none⟩) 4 (c - 12)] W fun e w' => e = .returned (.int .u32 9) ∧ Below W.heap.size W w' := fun W hW => by
    have := rd32 g (o + 12) 4 (c - 12) (9 / 16777216 % 256) (9 / 65536 % 256) (9 / 256 % 256) (9 % 256) W (Nat.le_refl _) ((hA.sub (pre := [8, 7, fr, key % 256, ex, 0, 3 / 256 % 256, 3 % 256, body / 16777216 % 256, body / 65536 % 256, body / 256 % 256, body % 256]) (sub := [9 / 16777216 % 256, 9 / 65536 % 256, 9 / 256 % 256, 9 % 256]) (post := [0 / 72057594037927936 % 256, 0 / 281474976710656 % 256, 0 / 1099511627776 % 256, 0 / 4294967296 % 256, 0 / 16777216 % 256, 0 / 65536 % 256, 0 / 256 % 256, 0 % 256])).below hW)
    exact this
  have h17' : ∀ W, Below w.heap.size w W → Calls Ybaf.prog 17 #[.agg #[], .slice (some ⟨g, o + 6, none⟩) 2 (c - 6)] W fun e w' => e = .returned (.int .u16 3) ∧ Below W.heap.size W w' := fun W hW => by
    have := rd16 g (o + 6) 2 (c - 6) (3 / 256 % 256) (3 % 256) W (Nat.le_refl _) ((hA.sub (pre := [8, 7, fr, key % 256, ex, 0]) (sub := [3 / 256 % 256, 3 % 256]) (post := [body / 16777216 % 256, body / 65536 % 256, body / 256 % 256, body % 256, 9 / 16777216 % 256, 9 / 65536 % 256, 9 / 256 % 256, 9 % 256, 0 / 72057594037927936 % 256, 0 / 281474976710656 % 256, 0 / 1099511627776 % 256, 0 / 4294967296 % 256, 0 / 16777216 % 256, 0 / 65536 % 256, 0 / 256 % 256, 0 % 256])).below hW)
    exact this
  have h19 : ∀ W, Below w.heap.size w W → Calls Ybaf.prog 19 #[.agg #[], .slice (some ⟨g, o + 16, none⟩) 8 (c - 16)] W fun e w' => e = .returned (.int .u64 K) ∧ Below W.heap.size W w' := fun W hW => hK W ((hA.sub (pre := [8, 7, fr, key % 256, ex, 0, 3 / 256 % 256, 3 % 256, body / 16777216 % 256, body / 65536 % 256, body / 256 % 256, body % 256, 9 / 16777216 % 256, 9 / 65536 % 256, 9 / 256 % 256, 9 % 256]) (sub := [0 / 72057594037927936 % 256, 0 / 281474976710656 % 256, 0 / 1099511627776 % 256, 0 / 4294967296 % 256, 0 / 16777216 % 256, 0 / 65536 % 256, 0 / 256 % 256, 0 % 256]) (post := [])).below hW)
  refine (um8 H g o c y0 y1 y2 y3 y4 y5 y6 y7 y8 y9 y10 7 fr (key % 256) ex 0 ((fr) * 256 + key % 256) 3 body 9 K w hc HH hf ⟨by omega, by omega⟩ he (by omega) (hA.1 0 (by simp)) (hA.1 1 (by simp)) (hA.1 2 (by simp)) (hA.1 3 (by simp)) (hA.1 4 (by simp)) (hA.1 5 (by simp)) h17 h18 h18' h19 h17').mono ?_
  rintro e w' ⟨he, hx, hgr⟩
  rw [e2] at hx
  exact ⟨he, ⟨K, hx⟩, hgr⟩

set_option maxHeartbeats 2000000 in
theorem umh128 (H g o c : Nat) (y0 y1 y2 y3 y4 y5 y6 y7 y8 y9 y10 key ex body : Int) (w : World) (hc : 24 ≤ c) (HH : Hid (BoxAt w H y0 y1 y2 y3 y4 y5 y6 y7 y8 y9 y10)) (hk : 0 ≤ key ∧ key ≤ 65535) (he : 0 ≤ ex ∧ ex ≤ 255) (hb : 0 ≤ body ∧ body ≤ 4294967295)
    (hfine : 0 + ex + key ≤ body) (hA0 : At w g o (headB 128 7 0 key ex 0 3 0 body 9 0)) :
    Calls Ybaf.prog 11 #[.pointer (some ⟨H, 0, none⟩), .slice (some ⟨g, o, none⟩) 24 c] w fun e w' => e = .returned .nilIface ∧ (∃ K, BoxAt w' H 128 7 0 key ex 0 3 0 body 9 K) ∧ w.grownBy w' (some H) := by
  have hA : At w g o [128, 7, key / 256 % 256, key % 256, ex, 0, 3 / 256 % 256, 3 % 256, body / 16777216 % 256, body / 65536 % 256, body / 256 % 256, body % 256, 9 / 16777216 % 256, 9 / 65536 % 256, 9 / 256 % 256, 9 % 256, 0 / 72057594037927936 % 256, 0 / 281474976710656 % 256, 0 / 1099511627776 % 256, 0 / 4294967296 % 256, 0 / 16777216 % 256, 0 / 65536 % 256, 0 / 256 % 256, 0 % 256] := hA0
  have eb : (((body / 16777216 % 256) * 256 + body / 65536 % 256) * 256 + body / 256 % 256) * 256 + body % 256 = body := by omega
  have ek : (key / 256 % 256) * 256 + key % 256 = key := by omega
  obtain ⟨K, hK⟩ := rd64 g (o + 16) 8 (c - 16) (0 / 72057594037927936 % 256) (0 / 281474976710656 % 256) (0 / 1099511627776 % 256) (0 / 4294967296 % 256) (0 / 16777216 % 256) (0 / 65536 % 256) (0 / 256 % 256) (0 % 256) (Nat.le_refl _)
  have h17 : ∀ W, Below w.heap.size w W → Calls Ybaf.prog 17 #[.agg #[], .slice (some ⟨g, o + 2, none⟩) 2 (c - 2)] W fun e w' => e = .returned (.int .u16 key) ∧ Below W.heap.size W w' := fun W hW => by
    have := rd16 g (o + 2) 2 (c - 2) (key / 256 % 256) (key % 256) W (Nat.le_refl _) ((hA.sub (pre := [128, 7]) (sub := [key / 256 % 256, key % 256]) (post := [ex, 0, 3 / 256 % 256, 3 % 256, body / 16777216 % 256, body / 65536 % 256, body / 256 % 256, body % 256, 9 / 16777216 % 256, 9 / 65536 % 256, 9 / 256 % 256, 9 % 256, 0 / 72057594037927936 % 256, 0 / 281474976710656 % 256, 0 / 1099511627776 % 256, 0 / 4294967296 % 256, 0 / 16777216 % 256, 0 / 65536 % 256, 0 / 256 % 256, 0 % 256])).below hW)
    rw [ek] at this
    exact this
  have h18 : ∀ W, Below w.heap.size w W → Calls Ybaf.prog 18 #[.agg #[], .slice (some ⟨g, o + 8, none⟩) 4 (c - 8)] W fun e w' => e = .returned (.int .u32 body) ∧ Below W.heap.size W w' := fun W hW => by
    have := rd32 g (o + 8) 4 (c - 8) (body / 16777216 % 256) (body / 65536 % 256) (body / 256 % 256) (body % 256) W (Nat.le_refl _) ((hA.sub (pre := [128, 7, key / 256 % 256, key % 256, ex, 0, 3 / 256 % 256, 3 % 256]) (sub := [body / 16777216 % 256, body / 65536 % 256, body / 256 % 256, body % 256]) (post := [9 / 16777216 % 256, 9 / 65536 % 256, 9 / 256 % 256, 9 % 256, 0 / 72057594037927936 % 256, 0 / 281474976710656 % 256, 0 / 1099511627776 % 256, 0 / 4294967296 % 256, 0 / 16777216 % 256, 0 / 65536 % 256, 0 / 256 % 256, 0 % 256])).below hW)
    rw [eb] at this
    exact this
  have h18' : ∀ W, Below w.heap.size w W → Calls Ybaf.prog 18 #[.agg #[], .slice (some ⟨g, o + 12, none⟩) 4 (c - 12)] W fun e w' => e = .returned (.int .u32 9) ∧ Below W.heap.size W w' := fun W hW => by
    have := rd32 g (o + 12) 4 (c - 12) (9 / 16777216 % 256) (9 / 65536 % 256) (9 / 256 % 256) (9 % 256) W (Nat.le_refl _) ((hA.sub (pre := [128, 7, key / 256 % 256, key % 256, ex, 0, 3 / 256 % 256, 3 % 256, body / 16777216 % 256, body / 65536 % 256, body / 256 % 256, body % 256]) (sub := [9 / 16777216 % 256, 9 / 65536 % 256, 9 / 256 % 256, 9 % 256]) (post := [0 / 72057594037927936 % 256, 0 / 281474976710656 % 256, 0 / 1099511627776 % 256, 0 / 4294967296 % 256, 0 / 16777216 % 256, 0 / 65536 % 256, 0 / 256 % 256, 0 % 256])).below hW)
    exact this
  have h17' : ∀ W, Below w.heap.size w W → Calls Ybaf.prog 17 #[.agg #[], .slice (some ⟨g, o + 6, none⟩) 2 (c - 6)] W fun e w' => e = .returned (.int .u16 3) ∧ Below W.heap.size W w' := fun W hW => by
    have := rd16 g (o + 6) 2 (c - 6) (3 / 256 % 256) (3 % 256) W (Nat.le_refl _) ((hA.sub (pre := [128, 7, key / 256 % 256, key % 256, ex, 0]) (sub := [3 / 256 % 256, 3 % 256]) (post := [body / 16777216 % 256, body / 65536 % 256, body / 256 % 256, body % 256, 9 / 16777216 % 256, 9 / 65536 % 256, 9 / 256 % 256, 9 % 256, 0 / 72057594037927936 % 256, 0 / 281474976710656 % 256, 0 / 1099511627776 % 256, 0 / 4294967296 % 256, 0 / 16777216 % 256, 0 / 65536 % 256, 0 / 256 % 256, 0 % 256])).below hW)
    exact this
  have h19 : ∀ W, Below w.heap.size w W → Calls Ybaf.prog 19 #[.agg #[], .slice (some ⟨g, o + 16, none⟩) 8 (c - 16)] W fun e w' => e = .returned (.int .u64 K) ∧ Below W.heap.size W w' := fun W hW => hK W ((hA.sub (pre := [128, 7, key / 256 % 256, key % 256, ex, 0, 3 / 256 % 256, 3 % 256, body / 16777216 % 256, body / 65536 % 256, body / 256 % 256, body % 256, 9 / 16777216 % 256, 9 / 65536 % 256, 9 / 256 % 256, 9 % 256]) (sub := [0 / 72057594037927936 % 256, 0 / 281474976710656 % 256, 0 / 1099511627776 % 256, 0 / 4294967296 % 256, 0 / 16777216 % 256, 0 / 65536 % 256, 0 / 256 % 256, 0 % 256]) (post := [])).below hW)
  refine (um128 H g o c y0 y1 y2 y3 y4 y5 y6 y7 y8 y9 y10 7 ex 0 key 3 body 9 K w hc HH hk he hfine (hA.1 0 (by simp)) (hA.1 1 (by simp)) (hA.1 4 (by simp)) (hA.1 5 (by simp)) h17 h18 h18' h19 h17').mono ?_
  rintro e w' ⟨he, hx, hgr⟩
  exact ⟨he, ⟨K, hx⟩, hgr⟩

set_option maxHeartbeats 2000000 in
theorem umh129 (H g o c : Nat) (y0 y1 y2 y3 y4 y5 y6 y7 y8 y9 y10 key ex body : Int) (w : World) (hc : 24 ≤ c) (HH : Hid (BoxAt w H y0 y1 y2 y3 y4 y5 y6 y7 y8 y9 y10)) (hk : 0 ≤ key ∧ key ≤ 65535) (he : 0 ≤ ex ∧ ex ≤ 255) (hb : 0 ≤ body ∧ body ≤ 4294967295)
    (hfine : 0 + ex + key ≤ body) (hA0 : At w g o (headB 129 7 0 key ex 0 3 0 body 9 0)) :
    Calls Ybaf.prog 11 #[.pointer (some ⟨H, 0, none⟩), .slice (some ⟨g, o, none⟩) 24 c] w fun e w' => e = .returned .nilIface ∧ (∃ K, BoxAt w' H 129 7 0 key ex 0 0 0 body 9 K) ∧ w.grownBy w' (some H) := by
  have hA : At w g o [129, 7, key / 256 % 256, key % 256, ex, 0, 0 / 256 % 256, 0 % 256, body / 16777216 % 256, body / 65536 % 256, body / 256 % 256, body % 256, 9 / 16777216 % 256, 9 / 65536 % 256, 9 / 256 % 256, 9 % 256, 0 / 72057594037927936 % 256, 0 / 281474976710656 % 256, 0 / 1099511627776 % 256, 0 / 4294967296 % 256, 0 / 16777216 % 256, 0 / 65536 % 256, 0 / 256 % 256, 0 % 256] := hA0
  have eb : (((body / 16777216 % 256) * 256 + body / 65536 % 256) * 256 + body / 256 % 256) * 256 + body % 256 = body := by omega
  have ek : (key / 256 % 256) * 256 + key % 256 = key := by omega
  obtain ⟨K, hK⟩ := rd64 g (o + 16) 8 (c - 16) (0 / 72057594037927936 % 256) (0 / 281474976710656 % 256) (0 / 1099511627776 % 256) (0 / 4294967296 % 256) (0 / 16777216 % 256) (0 / 65536 % 256) (0 / 256 % 256) (0 % 256) (Nat.le_refl _)
  have h17 : ∀ W, Below w.heap.size w W → Calls Ybaf.prog 17 #[.agg #[], .slice (some ⟨g, o + 2, none⟩) 2 (c - 2)] W fun e w' => e = .returned (.int .u16 key) ∧ Below W.heap.size W w' := fun W hW => by
    have := rd16 g (o + 2) 2 (c - 2) (key / 256 % 256) (key % 256) W (Nat.le_refl _) ((hA.sub (pre := [129, 7]) (sub := [key / 256 % 256, key % 256]) (post := [ex, 0, 0 / 256 % 256, 0 % 256, body / 16777216 % 256, body / 65536 % 256, body / 256 % 256, body % 256, 9 / 16777216 % 256, 9 / 65536 % 256, 9 / 256 % 256, 9 % 256, 0 / 72057594037927936 % 256, 0 / 281474976710656 % 256, 0 / 1099511627776 % 256, 0 / 4294967296 % 256, 0 / 16777216 % 256, 0 / 65536 % 256, 0 / 256 % 256, 0 % 256])).below hW)
    rw [ek] at this
    exact this
  have h18 : ∀ W, Below w.heap.size w W → Calls Ybaf.prog 18 #[.agg #[], .slice (some ⟨g, o + 8, none⟩) 4 (c - 8)] W fun e w' => e = .returned (.int .u32 body) ∧ Below W.heap.size W w' := fun W hW => by
    have := rd32 g (o + 8) 4 (c - 8) (body / 16777216 % 256) (body / 65536 % 256) (body / 256 % 256) (body % 256) W (Nat.le_refl _) ((hA.sub (pre := [129, 7, key / 256 % 256, key % 256, ex, 0, 0 / 256 % 256, 0 % 256]) (sub := [body / 16777216 % 256, body / 65536 % 256, body / 256 % 256, body % 256]) (post := [9 / 16777216 % 256, 9 / 65536 % 256, 9 / 256 % 256, 9 % 256, 0 / 72057594037927936 % 256, 0 / 281474976710656 % 256, 0 / 1099511627776 % 256, 0 / 4294967296 % 256, 0 / 16777216 % 256, 0 / 65536 % 256, 0 / 256 % 256, 0 % 256])).below hW)
    rw [eb] at this
    exact this
  have h18' : ∀ W, Below w.heap.size w W → Calls Ybaf.prog 18 #[.agg #[], .slice (some ⟨g, o + 12, none⟩) 4 (c - 12)] W fun e w' => e = .returned (.int .u32 9) ∧ Below W.heap.size W w' := fun W hW => by
    have := rd32 g (o + 12) 4 (c - 12) (9 / 16777216 % 256) (9 / 65536 % 256) (9 / 256 % 256) (9 % 256) W (Nat.le_refl _) ((hA.sub (pre := [129, 7, key / 256 % 256, key % 256, ex, 0, 0 / 256 % 256, 0 % 256, body / 16777216 % 256, body / 65536 % 256, body / 256 % 256, body % 256]) (sub := [9 / 16777216 % 256, 9 / 65536 % 256, 9 / 256 % 256, 9 % 256]) (post := [0 / 72057594037927936 % 256, 0 / 281474976710656 % 256, 0 / 1099511627776 % 256, 0 / 4294967296 % 256, 0 / 16777216 % 256, 0 / 65536 % 256, 0 / 256 % 256, 0 % 256])).below hW)
    exact this
  have h17' : ∀ W, Below w.heap.size w W → Calls Ybaf.prog 17 #[.agg #[], .slice (some ⟨g, o + 6, none⟩) 2 (c - 6)] W fun e w' => e = .returned (.int .u16 0) ∧ Below W.heap.size W w' := fun W hW => by
    have := rd16 g (o + 6) 2 (c - 6) (0 / 256 % 256) (0 % 256) W (Nat.le_refl _) ((hA.sub (pre := [129, 7, key / 256 % 256, key % 256, ex, 0]) (sub := [0 / 256 % 256, 0 % 256]) (post := [body / 16777216 % 256, body / 65536 % 256, body / 256 % 256, body % 256, 9 / 16777216 % 256, 9 / 65536 % 256, 9 / 256 % 256, 9 % 256, 0 / 72057594037927936 % 256, 0 / 281474976710656 % 256, 0 / 1099511627776 % 256, 0 / 4294967296 % 256, 0 / 16777216 % 256, 0 / 65536 % 256, 0 / 256 % 256, 0 % 256])).below hW)
    exact this
  have h19 : ∀ W, Below w.heap.size w W → Calls Ybaf.prog 19 #[.agg #[], .slice (some ⟨g, o + 16, none⟩) 8 (c - 16)] W fun e w' => e = .returned (.int .u64 K) ∧ Below W.heap.size W w' := fun W hW => hK W ((hA.sub (pre := [129, 7, key / 256 % 256, key % 256, ex, 0, 0 / 256 % 256, 0 % 256, body / 16777216 % 256, body / 65536 % 256, body / 256 % 256, body % 256, 9 / 16777216 % 256, 9 / 65536 % 256, 9 / 256 % 256, 9 % 256]) (sub := [0 / 72057594037927936 % 256, 0 / 281474976710656 % 256, 0 / 1099511627776 % 256, 0 / 4294967296 % 256, 0 / 16777216 % 256, 0 / 65536 % 256, 0 / 256 % 256, 0 % 256]) (post := [])).below hW)
  refine (um129 H g o c y0 y1 y2 y3 y4 y5 y6 y7 y8 y9 y10 7 ex 0 key 0 body 9 K w hc HH hk he hfine (hA.1 0 (by simp)) (hA.1 1 (by simp)) (hA.1 4 (by simp)) (hA.1 5 (by simp)) h17 h18 h18' h19 h17').mono ?_
  rintro e w' ⟨he, hx, hgr⟩
  exact ⟨he, ⟨K, hx⟩, hgr⟩

end Go.Proofs.YbulkbzcFmt
