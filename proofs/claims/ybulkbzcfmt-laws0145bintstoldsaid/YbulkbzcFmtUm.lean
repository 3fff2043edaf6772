/-
  '(*Header).UnmarshalBinary'. Typed by the prover of this seat (an AI agent).
-/
import Derived.Test.YbulkbzcFmtRead
import Derived.Deep.RegionHeld3
namespace Go.Proofs.YbulkbzcFmt
open Go.RowKit
set_option maxRecDepth 100000

/-- What the region's loads read, kept. -/
abbrev Kept (w : World) (g o : Nat) (m op ex dt : Int) (W : World) : Prop :=
  Hid (Below w.heap.size w W) ∧ W.cell? ⟨g, o, none⟩ = some (.int .u8 m) ∧ W.cell? ⟨g, o + 1, none⟩ = some (.int .u8 op) ∧ W.cell? ⟨g, o + 4, none⟩ = some (.int .u8 ex) ∧ W.cell? ⟨g, o + 5, none⟩ = some (.int .u8 dt)
theorem Kept.next {w W w' : World} {g o : Nat} {m op ex dt : Int} (h : Kept w g o m op ex dt W) (hb : Below W.heap.size W w') : Kept w g o m op ex dt w' := by
  obtain ⟨h0, h1, h2, h3, h4⟩ := h
  exact ⟨hidI (h0.out.trans (hb.mono h0.out.size)), by rw [hb.cell (World.block_lt_of_cell? W _ h1)]; exact h1, by rw [hb.cell (World.block_lt_of_cell? W _ h2)]; exact h2, by rw [hb.cell (World.block_lt_of_cell? W _ h3)]; exact h3, by rw [hb.cell (World.block_lt_of_cell? W _ h4)]; exact h4⟩

theorem Kept.set {w W : World} {g o : Nat} {m op ex dt : Int} (h : Kept w g o m op ex dt W) (hg : g < w.heap.size) {b : Nat} (hb : w.heap.size ≤ b) (j : Nat) (u : Value) : Kept w g o m op ex dt (W.setCell ⟨b, j, none⟩ u) := by
  obtain ⟨h0, h1, h2, h3, h4⟩ := h
  have hs := (Below.refl w.heap.size W).setCell (p := ⟨b, j, none⟩) hb u
  exact ⟨hidI (h0.out.trans hs), by rw [hs.cell (p := ⟨g, o, none⟩) hg]; exact h1, by rw [hs.cell (p := ⟨g, o + 1, none⟩) hg]; exact h2, by rw [hs.cell (p := ⟨g, o + 4, none⟩) hg]; exact h3, by rw [hs.cell (p := ⟨g, o + 5, none⟩) hg]; exact h4⟩
theorem Kept.set11 {w W : World} {g o : Nat} {m op ex dt : Int} (h : Kept w g o m op ex dt W) (hg : g < w.heap.size) {b : Nat} (hb : w.heap.size ≤ b) {u0 u1 u2 u3 u4 u5 u6 u7 u8 u9 u10 : Value} : Kept w g o m op ex dt (((((((((((W.setCell ⟨b, 0, none⟩ u0).setCell ⟨b, 1, none⟩ u1).setCell ⟨b, 2, none⟩ u2).setCell ⟨b, 3, none⟩ u3).setCell ⟨b, 4, none⟩ u4).setCell ⟨b, 5, none⟩ u5).setCell ⟨b, 6, none⟩ u6).setCell ⟨b, 7, none⟩ u7).setCell ⟨b, 8, none⟩ u8).setCell ⟨b, 9, none⟩ u9).setCell ⟨b, 10, none⟩ u10) :=
  (((((((((((h.set hg hb 0 u0).set hg hb 1 u1).set hg hb 2 u2).set hg hb 3 u3).set hg hb 4 u4).set hg hb 5 u5).set hg hb 6 u6).set hg hb 7 u7).set hg hb 8 u8).set hg hb 9 u9).set hg hb 10 u10)
theorem Kept.swap {w W : World} {g o : Nat} {m op ex dt : Int} {x y : Obj} (h : Kept w g o m op ex dt (W.alloc x)) (hg : g < w.heap.size) (hz : w.heap.size ≤ W.heap.size) : Kept w g o m op ex dt (W.alloc y) := by
  obtain ⟨h0, h1, h2, h3, h4⟩ := h
  have hs : Below w.heap.size (W.alloc x) (W.alloc y) := ⟨rfl, rfl, rfl, by simp, fun k hk => by rw [Below.heap_alloc _ _ _ (by omega), Below.heap_alloc _ _ _ (by omega)]⟩
  exact ⟨hidI (h0.out.trans hs), by rw [hs.cell (p := ⟨g, o, none⟩) hg]; exact h1, by rw [hs.cell (p := ⟨g, o + 1, none⟩) hg]; exact h2, by rw [hs.cell (p := ⟨g, o + 4, none⟩) hg]; exact h3, by rw [hs.cell (p := ⟨g, o + 5, none⟩) hg]; exact h4⟩
theorem box_new {W w' : World} (hb : Below (W.alloc (.cells #[.int .u8 0, .int .u8 0, .int .u8 0, .int .u16 0, .int .u8 0, .int .u8 0, .int .u16 0, .int .u16 0, .int .u32 0, .int .u32 0, .int .u64 0] 29)).heap.size (W.alloc (.cells #[.int .u8 0, .int .u8 0, .int .u8 0, .int .u16 0, .int .u8 0, .int .u8 0, .int .u16 0, .int .u16 0, .int .u32 0, .int .u32 0, .int .u64 0] 29)) w') : BoxAt w' W.heap.size 0 0 0 0 0 0 0 0 0 0 0 := by
  have h : BoxAt (W.alloc (.cells #[.int .u8 0, .int .u8 0, .int .u8 0, .int .u16 0, .int .u8 0, .int .u8 0, .int .u16 0, .int .u16 0, .int .u32 0, .int .u32 0, .int .u64 0] 29)) W.heap.size 0 0 0 0 0 0 0 0 0 0 0 := heap_alloc_new W _
  exact h.kp (Kp.of_below (B := 0) hb)
theorem box_newd {W w' : World} (hb : Below ((W.alloc (.cells #[.int .u8 0, .int .u8 0, .int .u8 0, .int .u16 0, .int .u8 0, .int .u8 0, .int .u16 0, .int .u16 0, .int .u32 0, .int .u32 0, .int .u64 0] 29)).drew).heap.size ((W.alloc (.cells #[.int .u8 0, .int .u8 0, .int .u8 0, .int .u16 0, .int .u8 0, .int .u8 0, .int .u16 0, .int .u16 0, .int .u32 0, .int .u32 0, .int .u64 0] 29)).drew) w') : BoxAt w' W.heap.size 0 0 0 0 0 0 0 0 0 0 0 := by
  have h : BoxAt ((W.alloc (.cells #[.int .u8 0, .int .u8 0, .int .u8 0, .int .u16 0, .int .u8 0, .int .u8 0, .int .u16 0, .int .u16 0, .int .u32 0, .int .u32 0, .int .u64 0] 29)).drew) W.heap.size 0 0 0 0 0 0 0 0 0 0 0 := heap_alloc_new W _
  exact h.kp (Kp.of_below (B := 0) hb)
theorem box_next {W w' : World} {b : Nat} (h : BoxAt W b 0 0 0 0 0 0 0 0 0 0 0) (hb : Below W.heap.size W w') : BoxAt w' b 0 0 0 0 0 0 0 0 0 0 0 := h.kp (Kp.of_below (B := 0) hb)
theorem BoxAt.fz {w : World} {H : Nat} {m op fr key ex dt vb st body opq cas : Int} (h : BoxAt w H m op fr key ex dt vb st body opq cas) (j : Nat) : w.frozen? ⟨H, j, none⟩ = false := frozen_of_row w H j _ 29 h
theorem low_of {w W w' : World} {g o : Nat} {m op ex dt : Int} (h : Kept w g o m op ex dt W) (hb : Below W.heap.size W w') : w.heap.size ≤ W.heap.size ∧ w.heap.size ≤ w'.heap.size := ⟨h.1.out.size, Nat.le_trans h.1.out.size hb.size⟩

theorem box_set11 {W : World} {b : Nat} {y0 y1 y2 y3 y4 y5 y6 y7 y8 y9 y10 : Int} (h : BoxAt W b y0 y1 y2 y3 y4 y5 y6 y7 y8 y9 y10) (m op fr key ex dt vb st body opq cas : Int) : BoxAt (((((((((((W.setCell ⟨b, 0, none⟩ (.int .u8 m)).setCell ⟨b, 1, none⟩ (.int .u8 op)).setCell ⟨b, 2, none⟩ (.int .u8 fr)).setCell ⟨b, 3, none⟩ (.int .u16 key)).setCell ⟨b, 4, none⟩ (.int .u8 ex)).setCell ⟨b, 5, none⟩ (.int .u8 dt)).setCell ⟨b, 6, none⟩ (.int .u16 vb)).setCell ⟨b, 7, none⟩ (.int .u16 st)).setCell ⟨b, 8, none⟩ (.int .u32 body)).setCell ⟨b, 9, none⟩ (.int .u32 opq)).setCell ⟨b, 10, none⟩ (.int .u64 cas)) b m op fr key ex dt vb st body opq cas := by
  have h' : W.heap[b]? = some (.cells #[.int .u8 y0, .int .u8 y1, .int .u8 y2, .int .u16 y3, .int .u8 y4, .int .u8 y5, .int .u16 y6, .int .u16 y7, .int .u32 y8, .int .u32 y9, .int .u64 y10] 29 (0, 0)) := h
  have k0 := heap_setCell_same W b 0 _ 29 (.int .u8 m) h'
  have k1 := heap_setCell_same _ b 1 _ 29 (.int .u8 op) k0
  have k2 := heap_setCell_same _ b 2 _ 29 (.int .u8 fr) k1
  have k3 := heap_setCell_same _ b 3 _ 29 (.int .u16 key) k2
  have k4 := heap_setCell_same _ b 4 _ 29 (.int .u8 ex) k3
  have k5 := heap_setCell_same _ b 5 _ 29 (.int .u8 dt) k4
  have k6 := heap_setCell_same _ b 6 _ 29 (.int .u16 vb) k5
  have k7 := heap_setCell_same _ b 7 _ 29 (.int .u16 st) k6
  have k8 := heap_setCell_same _ b 8 _ 29 (.int .u32 body) k7
  have k9 := heap_setCell_same _ b 9 _ 29 (.int .u32 opq) k8
  have k10 := heap_setCell_same _ b 10 _ 29 (.int .u64 cas) k9
  simp only [List.setIfInBounds_toArray, List.set_cons_zero, List.set_cons_succ] at k10
  exact k10
theorem far_box {w : World} {g b : Nat} (hg : g < w.heap.size) (hb : w.heap.size ≤ b) : g ≠ b ∧ b ≠ g := by omega
theorem low_box {w W : World} {b : Nat} {y0 y1 y2 y3 y4 y5 y6 y7 y8 y9 y10 : Int} (_h : Hid (BoxAt W b y0 y1 y2 y3 y4 y5 y6 y7 y8 y9 y10)) (hb : w.heap.size ≤ b) : w.heap.size ≤ b := hb

theorem box_set_2 {W : World} {b : Nat} {m op fr key ex dt vb st body opq cas : Int} (h : BoxAt W b m op fr key ex dt vb st body opq cas) (y : Int) : BoxAt (W.setCell ⟨b, 2, none⟩ (.int .u8 y)) b m op y key ex dt vb st body opq cas := by
  have k := heap_setCell_same W b 2 _ 29 (.int .u8 y) h
  simp only [List.setIfInBounds_toArray, List.set_cons_zero, List.set_cons_succ] at k
  exact k
theorem box_set_3 {W : World} {b : Nat} {m op fr key ex dt vb st body opq cas : Int} (h : BoxAt W b m op fr key ex dt vb st body opq cas) (y : Int) : BoxAt (W.setCell ⟨b, 3, none⟩ (.int .u16 y)) b m op fr y ex dt vb st body opq cas := by
  have k := heap_setCell_same W b 3 _ 29 (.int .u16 y) h
  simp only [List.setIfInBounds_toArray, List.set_cons_zero, List.set_cons_succ] at k
  exact k
theorem box_set_6 {W : World} {b : Nat} {m op fr key ex dt vb st body opq cas : Int} (h : BoxAt W b m op fr key ex dt vb st body opq cas) (y : Int) : BoxAt (W.setCell ⟨b, 6, none⟩ (.int .u16 y)) b m op fr key ex dt y st body opq cas := by
  have k := heap_setCell_same W b 6 _ 29 (.int .u16 y) h
  simp only [List.setIfInBounds_toArray, List.set_cons_zero, List.set_cons_succ] at k
  exact k
theorem box_set_7 {W : World} {b : Nat} {m op fr key ex dt vb st body opq cas : Int} (h : BoxAt W b m op fr key ex dt vb st body opq cas) (y : Int) : BoxAt (W.setCell ⟨b, 7, none⟩ (.int .u16 y)) b m op fr key ex dt vb y body opq cas := by
  have k := heap_setCell_same W b 7 _ 29 (.int .u16 y) h
  simp only [List.setIfInBounds_toArray, List.set_cons_zero, List.set_cons_succ] at k
  exact k
theorem box_drew {W : World} {b : Nat} {m op fr key ex dt vb st body opq cas : Int} (h : BoxAt W b m op fr key ex dt vb st body opq cas) : BoxAt W.drew b m op fr key ex dt vb st body opq cas := h
theorem box_far {w W : World} {H : Nat} {m op fr key ex dt vb st body opq cas : Int} (h : BoxAt w H m op fr key ex dt vb st body opq cas) (hb : Below w.heap.size w W) : BoxAt W H m op fr key ex dt vb st body opq cas := h.kp (Kp.of_below (B := 0) hb)
theorem BoxAt.lt {w : World} {H : Nat} {m op fr key ex dt vb st body opq cas : Int} (h : BoxAt w H m op fr key ex dt vb st body opq cas) : H < w.heap.size := (Array.getElem?_eq_some_iff.1 h).1
theorem grown_set {w W : World} {H : Nat} (h : w.grownBy W (some H)) (j : Nat) (u : Value) : w.grownBy (W.setCell ⟨H, j, none⟩ u) (some H) :=
  ⟨h.os, h.tape, h.output, by simpa using h.size, fun k hk hne => by rw [Below.heap_setCell _ _ _ _ (fun e => hne (by rw [e]))]; exact h.block k hk hne⟩
theorem grown_set11 {w W : World} {H : Nat} (h : Below w.heap.size w W) {u0 u1 u2 u3 u4 u5 u6 u7 u8 u9 u10 : Value} : w.grownBy (((((((((((W.setCell ⟨H, 0, none⟩ u0).setCell ⟨H, 1, none⟩ u1).setCell ⟨H, 2, none⟩ u2).setCell ⟨H, 3, none⟩ u3).setCell ⟨H, 4, none⟩ u4).setCell ⟨H, 5, none⟩ u5).setCell ⟨H, 6, none⟩ u6).setCell ⟨H, 7, none⟩ u7).setCell ⟨H, 8, none⟩ u8).setCell ⟨H, 9, none⟩ u9).setCell ⟨H, 10, none⟩ u10) (some H) :=
  (grown_set (grown_set (grown_set (grown_set (grown_set (grown_set (grown_set (grown_set (grown_set (grown_set (grown_set (show w.grownBy W (some H) from ⟨h.os, h.tape, h.output, h.size, fun k hk _ => h.block k hk⟩) 0 u0) 1 u1) 2 u2) 3 u3) 4 u4) 5 u5) 6 u6) 7 u7) 8 u8) 9 u9) 10 u10)

end Go.Proofs.YbulkbzcFmt
