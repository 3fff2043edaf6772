/-
  'LawS0145BInts': helpers of the way that succeeds. Typed by the prover of this seat (an AI agent).
-/
import Derived.Test.YbulkbzcFmtInts0
import Derived.Test.YbulkbzcFmtUmAll
namespace Go.Proofs.YbulkbzcFmt
open Go.RowKit
set_option maxRecDepth 100000

theorem lb2 (x : Int) : (b2 x).length = 2 := rfl
theorem w3' : IntKind.u8.wrap 3 = 3 := by decide
theorem row_form {B : Nat} {w : World} {v : Value} {L : List Int} (h : Row B w v L) {n : Nat} (hl : L.length = n) (hn : 0 < n) :
    ∃ g cap, v = .slice (some ⟨g, 0, none⟩) n cap ∧ n ≤ cap ∧ Hid (∀ i, i < n → w.cell? ⟨g, i, none⟩ = some (.int .u8 (L.getD i 0))) := by
  subst hl
  rcases h.2 with ⟨e, hz⟩ | ⟨g, cap, cur, e, hb', hg, hc, rest⟩
  · omega
  · refine ⟨g, cap, e, hc, fun i hi => ?_⟩
    have := World.ownsRow.cells h (g := g) (by rw [e]; rfl) i (.int .u8 (L.getD i 0)) (by simp [hi])
    rw [WideShapes.add_plain] at this
    simpa using this
theorem at_mid {w : World} {g n : Nat} {zs L R : List Int} (h : ∀ i, i < n → w.cell? ⟨g, i, none⟩ = some (.int .u8 ((zs ++ L ++ R).getD i 0))) (hn : zs.length + L.length ≤ n) (hr : ∀ z ∈ L, 0 ≤ z ∧ z ≤ 255) : At w g zs.length L :=
  ⟨fun i hi => by rw [h (zs.length + i) (by omega), List.append_assoc, List.getD, List.getD, List.getElem?_append_right (by omega), Nat.add_sub_cancel_left, List.getElem?_append_left hi], hr⟩
theorem headB_range {m op fr key ex dt vb st body opq cas : Int} (h0 : 0 ≤ m ∧ m ≤ 255) (h1 : 0 ≤ op ∧ op ≤ 255) (h2 : 0 ≤ fr ∧ fr ≤ 255) (_h3 : 0 ≤ key ∧ key ≤ 65535) (h4 : 0 ≤ ex ∧ ex ≤ 255) (h5 : 0 ≤ dt ∧ dt ≤ 255) (_h6 : 0 ≤ vb) (_h7 : 0 ≤ st) (_h8 : 0 ≤ body ∧ body ≤ 4294967295) (_h9 : 0 ≤ opq) (_h10 : 0 ≤ cas) :
    ∀ z ∈ headB m op fr key ex dt vb st body opq cas, 0 ≤ z ∧ z ≤ 255 := by
  intro z hz
  unfold headB at hz
  have r : ∀ x : Int, 0 ≤ x % 256 ∧ x % 256 ≤ 255 := fun x => by omega
  split at hz <;> simp only [b2, b4, b8, List.cons_append, List.nil_append, List.mem_cons, List.not_mem_nil, or_false] at hz
  all_goals
    rcases hz with rfl | rfl | rfl | rfl | rfl | rfl | rfl | rfl | rfl | rfl | rfl | rfl | rfl | rfl | rfl | rfl | rfl | rfl | rfl | rfl | rfl | rfl | rfl | rfl <;> first | assumption | exact r _
theorem seen_pre {B : Nat} {w : World} {g n cap : Nat} {zs L R : List Int} (h : Row B w (.slice (some ⟨g, 0, none⟩) n cap) (zs ++ L ++ R)) : Seen w (.slice (some ⟨g, 0, none⟩) zs.length cap) zs := by
  rcases h.2 with ⟨e, hz⟩ | ⟨g', cap', cur, e, hb', hg, hc, rest⟩
  · cases e
  · cases e
    refine ⟨_, _, rfl, by simp at hc; omega, fun i hi => ⟨_, 0, rfl, ?_⟩⟩
    have := World.ownsRow.cells h (g := g) rfl i (.int .u8 (zs.getD i 0)) (by rw [List.append_assoc, List.map_append, List.getElem?_append_left (by simpa using hi)]; simp [hi])
    rwa [WideShapes.add_plain] at this
end Go.Proofs.YbulkbzcFmt
