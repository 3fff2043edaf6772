/-
  The data that came in, cell by cell. Typed by the prover of this seat (an AI agent).
-/
import Derived.Test.YbulkbyoMain0
import Derived.Test.YbulkbyoOpen
import Derived.ProofKit
import Derived.OpenShut
import Derived.ChangeSame
import Derived.Deep.Strs
namespace Go.Proofs.Ybulkbyo
open Go.ChangeShapes Go.WideShapes Go.ChangeAt Go.RowKit
theorem cells47 : Yba.prog.cellsOf 47 = 2 := by kernel_rfl
theorem cells50 : Yba.prog.cellsOf 50 = 3 := by kernel_rfl
theorem cells57 : Yba.prog.cellsOf 57 = 2 := by kernel_rfl
theorem cells59 : Yba.prog.cellsOf 59 = 3 := by kernel_rfl
theorem cells5 : Yba.prog.cellsOf 5 = 1 := by kernel_rfl
theorem cells2 : Yba.prog.cellsOf 2 = 1 := by kernel_rfl
theorem cells4 : Yba.prog.cellsOf 4 = 1 := by kernel_rfl
theorem cells9 : Yba.prog.cellsOf 9 = 1 := by kernel_rfl
theorem cells55 : Yba.prog.cellsOf 55 = 1 := by kernel_rfl
theorem two {α : Type} : ∀ l : List α, l.length = 2 → ∃ a b, l = [a, b]
  | [a, b], _ => ⟨a, b, rfl⟩
theorem three {α : Type} : ∀ l : List α, l.length = 3 → ∃ a b c, l = [a, b, c]
  | [a, b, c], _ => ⟨a, b, c, rfl⟩
section
variable {H : Type} {enc : TypeId × Value → H} {w : World} {a : Option Addr} {len cap : Nat} {d : DataW H} {ps : List MemPlace}

theorem reads_of (h : DataW.Trod enc Yba.prog w 0 (fun _ => true) true 22 (.slice a len cap) d ps) : ∃ rk rr, IsReads w a len rk rr := by
  obtain ⟨_, _, h⟩ := LawOpen.slice_cells Yba.underlying22 cells47 (by omega) h
  have key : ∀ i, ∃ q : Int × Int, i < len → 0 ≤ q.1 ∧ q.1 ≤ 255 ∧ ∃ b off, a = some ⟨b, off, none⟩ ∧ b < w.heap.size ∧ w.cell? ⟨b, off + i * 2, none⟩ = some (.int .u8 (q.1)) ∧ w.cell? ⟨b, off + i * 2 + 1, none⟩ = some (.int .i64 (q.2)) := by
    intro i
    by_cases hi : i < len
    · obtain ⟨b, off, n, cs, y, ha, hb, hl, hc, ht⟩ := h i hi
      obtain ⟨y0, y1, n', _, _, t0, t1⟩ := trod_struct2 Yba.underlying47 ht
      obtain ⟨c0, c1, rfl⟩ := two cs hl
      simp only [cells2, cells5, List.drop_zero, List.take_succ_cons, List.take_zero, List.drop_succ_cons] at t0 t1
      obtain ⟨k0, e0, _, wk0⟩ := DataW.trod_int Yba.underlying5 t0
      obtain ⟨k1, e1, _, wk1⟩ := DataW.trod_int Yba.underlying2 t1
      simp only [List.cons.injEq, and_true] at e0 e1
      subst e0 e1
      have hk0 := bounds_u8 wk0
      exact ⟨(k0, k1), fun _ => ⟨hk0.1, hk0.2, b, off, ha, hb, by simpa using hc 0 (by omega), by simpa using hc 1 (by omega)⟩⟩
    · exact ⟨(0, 0), fun h' => absurd h' hi⟩
  exact ⟨fun i => (Classical.choose (key i)).1, fun i => (Classical.choose (key i)).2, fun i hi => Classical.choose_spec (key i) hi⟩

theorem ranges_of (h : DataW.Trod enc Yba.prog w 0 (fun _ => true) true 23 (.slice a len cap) d ps) : ∃ f t rev, IsRanges w a len f t rev := by
  obtain ⟨_, _, h⟩ := LawOpen.slice_cells Yba.underlying23 cells50 (by omega) h
  have key : ∀ i, ∃ q : Int × Int × Int, i < len → 0 ≤ q.1 ∧ q.1 ≤ 255 ∧ 0 ≤ q.2.1 ∧ q.2.1 ≤ 255 ∧ ∃ b off, a = some ⟨b, off, none⟩ ∧ b < w.heap.size ∧ w.cell? ⟨b, off + i * 3, none⟩ = some (.int .u8 (q.1)) ∧ w.cell? ⟨b, off + i * 3 + 1, none⟩ = some (.int .u8 (q.2.1)) ∧ w.cell? ⟨b, off + i * 3 + 2, none⟩ = some (.int .i64 (q.2.2)) := by
    intro i
    by_cases hi : i < len
    · obtain ⟨b, off, n, cs, y, ha, hb, hl, hc, ht⟩ := h i hi
      obtain ⟨y0, y1, y2, n', _, _, t0, t1, t2⟩ := Deep.trod_struct3 Yba.underlying50 ht
      obtain ⟨c0, c1, c2, rfl⟩ := three cs hl
      simp only [cells2, cells5, List.drop_zero, List.take_succ_cons, List.take_zero, List.drop_succ_cons] at t0 t1 t2
      obtain ⟨k0, e0, _, wk0⟩ := DataW.trod_int Yba.underlying5 t0
      obtain ⟨k1, e1, _, wk1⟩ := DataW.trod_int Yba.underlying5 t1
      obtain ⟨k2, e2, _, wk2⟩ := DataW.trod_int Yba.underlying2 t2
      simp only [List.cons.injEq, and_true] at e0 e1 e2
      subst e0 e1 e2
      have hk0 := bounds_u8 wk0
      have hk1 := bounds_u8 wk1
      exact ⟨(k0, k1, k2), fun _ => ⟨hk0.1, hk0.2, hk1.1, hk1.2, b, off, ha, hb, by simpa using hc 0 (by omega), by simpa using hc 1 (by omega), by simpa using hc 2 (by omega)⟩⟩
    · exact ⟨(0, 0, 0), fun h' => absurd h' hi⟩
  exact ⟨fun i => (Classical.choose (key i)).1, fun i => (Classical.choose (key i)).2.1, fun i => (Classical.choose (key i)).2.2, fun i hi => Classical.choose_spec (key i) hi⟩

theorem scans_of (h : DataW.Trod enc Yba.prog w 0 (fun _ => true) true 24 (.slice a len cap) d ps) : ∃ sk sa, IsScans w a len sk sa := by
  obtain ⟨_, _, h⟩ := LawOpen.slice_cells Yba.underlying24 cells57 (by omega) h
  have key : ∀ i, ∃ q : Int × Int, i < len → 0 ≤ q.1 ∧ q.1 ≤ 255 ∧ 0 ≤ q.2 ∧ q.2 ≤ 65535 ∧ ∃ b off, a = some ⟨b, off, none⟩ ∧ b < w.heap.size ∧ w.cell? ⟨b, off + i * 2, none⟩ = some (.int .u8 (q.1)) ∧ w.cell? ⟨b, off + i * 2 + 1, none⟩ = some (.int .u16 (q.2)) := by
    intro i
    by_cases hi : i < len
    · obtain ⟨b, off, n, cs, y, ha, hb, hl, hc, ht⟩ := h i hi
      obtain ⟨y0, y1, n', _, _, t0, t1⟩ := trod_struct2 Yba.underlying57 ht
      obtain ⟨c0, c1, rfl⟩ := two cs hl
      simp only [cells5, cells55, List.drop_zero, List.take_succ_cons, List.take_zero, List.drop_succ_cons] at t0 t1
      obtain ⟨k0, e0, _, wk0⟩ := DataW.trod_int Yba.underlying5 t0
      obtain ⟨k1, e1, _, wk1⟩ := DataW.trod_int Yba.underlying55 t1
      simp only [List.cons.injEq, and_true] at e0 e1
      subst e0 e1
      have hk0 := bounds_u8 wk0
      have hk1 := bounds_u16 wk1
      exact ⟨(k0, k1), fun _ => ⟨hk0.1, hk0.2, hk1.1, hk1.2, b, off, ha, hb, by simpa using hc 0 (by omega), by simpa using hc 1 (by omega)⟩⟩
    · exact ⟨(0, 0), fun h' => absurd h' hi⟩
  exact ⟨fun i => (Classical.choose (key i)).1, fun i => (Classical.choose (key i)).2, fun i hi => Classical.choose_spec (key i) hi⟩

theorem prior_of (h : DataW.Trod enc Yba.prog w 0 (fun _ => true) true 25 (.slice a len cap) d ps) : ∃ pk pv pd, IsPrior w a len pk pv pd := by
  obtain ⟨_, _, h⟩ := LawOpen.slice_cells Yba.underlying25 cells59 (by omega) h
  have key : ∀ i, ∃ q : Int × ByteArray × Bool, i < len → 0 ≤ q.1 ∧ q.1 ≤ 255 ∧ ∃ b off, a = some ⟨b, off, none⟩ ∧ b < w.heap.size ∧ w.cell? ⟨b, off + i * 3, none⟩ = some (.int .u8 (q.1)) ∧ w.cell? ⟨b, off + i * 3 + 1, none⟩ = some (.string (q.2.1)) ∧ w.cell? ⟨b, off + i * 3 + 2, none⟩ = some (.bool (q.2.2)) := by
    intro i
    by_cases hi : i < len
    · obtain ⟨b, off, n, cs, y, ha, hb, hl, hc, ht⟩ := h i hi
      obtain ⟨y0, y1, y2, n', _, _, t0, t1, t2⟩ := Deep.trod_struct3 Yba.underlying59 ht
      obtain ⟨c0, c1, c2, rfl⟩ := three cs hl
      simp only [cells4, cells5, cells9, List.drop_zero, List.take_succ_cons, List.take_zero, List.drop_succ_cons] at t0 t1 t2
      obtain ⟨k0, e0, _, wk0⟩ := DataW.trod_int Yba.underlying5 t0
      obtain ⟨k1, e1, _, _⟩ := DataW.trod_string Yba.underlying9 t1
      obtain ⟨k2, e2, _⟩ := DataW.trod_bool Yba.underlying4 t2
      simp only [List.cons.injEq, and_true] at e0 e1 e2
      subst e0 e1 e2
      have hk0 := bounds_u8 wk0
      exact ⟨(k0, k1, k2), fun _ => ⟨hk0.1, hk0.2, b, off, ha, hb, by simpa using hc 0 (by omega), by simpa using hc 1 (by omega), by simpa using hc 2 (by omega)⟩⟩
    · exact ⟨(0, ByteArray.empty, false), fun h' => absurd h' hi⟩
  exact ⟨fun i => (Classical.choose (key i)).1, fun i => (Classical.choose (key i)).2.1, fun i => (Classical.choose (key i)).2.2, fun i hi => Classical.choose_spec (key i) hi⟩

theorem bytes_of (h : DataW.Trod enc Yba.prog w 0 (fun _ => true) true 26 (.slice a len cap) d ps) : ∃ zk, IsBytes w a len zk := by
  obtain ⟨_, _, h⟩ := LawOpen.slice_cells Yba.underlying26 cells5 (by omega) h
  have key : ∀ i, ∃ q : Int, i < len → 0 ≤ q ∧ q ≤ 255 ∧ ∃ b off, a = some ⟨b, off, none⟩ ∧ b < w.heap.size ∧ w.cell? ⟨b, off + i, none⟩ = some (.int .u8 q) := by
    intro i
    by_cases hi : i < len
    · obtain ⟨b, off, n, cs, y, ha, hb, hl, hc, ht⟩ := h i hi
      obtain ⟨k0, e0, _, wk0⟩ := DataW.trod_int Yba.underlying5 ht
      subst e0
      have hk0 := bounds_u8 wk0
      exact ⟨k0, fun _ => ⟨hk0.1, hk0.2, b, off, ha, hb, by simpa using hc 0 (by omega)⟩⟩
    · exact ⟨0, fun h' => absurd h' hi⟩
  exact ⟨fun i => (Classical.choose (key i)), fun i hi => Classical.choose_spec (key i) hi⟩
end
end Go.Proofs.Ybulkbyo
