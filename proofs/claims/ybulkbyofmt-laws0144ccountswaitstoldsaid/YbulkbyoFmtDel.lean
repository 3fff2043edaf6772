/-
  The closure of 'dequeue', 'slices.IndexFunc' and 'slices.DeleteFunc' where the first is the one. Typed by the prover of this seat (an AI agent).
-/
import Derived.Test.YbulkbyoFmtEnq
import Derived.Lib.SliceRun
namespace Go.Proofs.YbulkbyoFmt
open Go.RowKit Go.MuLone Go.MapFn
set_option maxRecDepth 100000

/-- A pointer to a block's first cell. -/
def pt (W : Nat) : Value := .pointer (some ⟨W, 0, none⟩)
/-- The closure over the variable in block X. -/
def clo (X : Nat) : Value := .func (Fn.func 24) #[] #[.pointer (some ⟨X, 0, none⟩)]

theorem clo_same (w : World) (X W : Nat) (hX : w.cell? ⟨X, 0, none⟩ = some (pt W)) :
    Calls Ybaf.prog 24 #[pt W, .pointer (some ⟨X, 0, none⟩)] w fun e w' => e = .returned (.bool true) ∧ w' = w := by
  obtain ⟨j, hj, hs⟩ := info_of info64
  have hq := run_eql_ptr_same (P := Ybaf.prog) w ⟨W, 0, none⟩ Ybaf.underlying41 hj
  unfold pt at hX ⊢
  go_enter Ybaf.func24, Ybaf.ntmps24
  go_wp2
  go_ret
  exact ⟨rfl, rfl⟩

theorem clo_other (w : World) (X W V : Nat) (hX : w.cell? ⟨X, 0, none⟩ = some (pt W)) (hne : V ≠ W) {cv cw : Array Value} (hv : w.heap[V]? = some (.cells cv 64)) (hw : w.heap[W]? = some (.cells cw 64)) :
    Calls Ybaf.prog 24 #[pt V, .pointer (some ⟨X, 0, none⟩)] w fun e w' => e = .returned (.bool false) ∧ w' = w := by
  obtain ⟨j, hj, hs⟩ := info_of info64
  have hq := run_eql_ptr_other (P := Ybaf.prog) w (a := ⟨V, 0, none⟩) (b := ⟨W, 0, none⟩) Ybaf.underlying41 hj (by omega) (fun e => hne (by injection e)) hv hw
  unfold pt at hX ⊢
  clear hv hw
  go_enter Ybaf.func24, Ybaf.ntmps24
  go_wp2
  go_ret
  exact ⟨rfl, rfl⟩

set_option maxHeartbeats 1000000 in
theorem index_first (w : World) (X W g r cap : Nat) (hX : w.cell? ⟨X, 0, none⟩ = some (pt W)) (h0 : w.cell? ⟨g, 0, none⟩ = some (pt W)) (hr : r ≤ 1000) :
    Calls Ybaf.prog 36 #[.slice (some ⟨g, 0, none⟩) (r + 1) cap, clo X] w fun e w' => e = .returned (.int .i64 0) ∧ w' = w := by
  have HC := hidI (clo_same w X W hX)
  unfold clo
  unfold pt at h0 HC
  clear hX
  have hp : (0 : Int) < (r : Int) + 1 := by omega
  go_enter Ybaf.func36, Ybaf.ntmps36
  go_wp2_with fail
  refine wp_loop_rounds 1 ?_
  rw [rounds_succ]
  go_wp2_with fail
  refine HC.out.mono ?_
  rintro e w' ⟨rfl, rfl⟩
  go_wp2
  go_ret
  exact ⟨rfl, rfl⟩

theorem zero41 (w : World) : (zeroValue 41).run Ybaf.prog w = .ok (.pointer none) w := by kernel_rfl

/-- What the row holds when c have been moved down. -/
def moved (ps : List Nat) (c i : Nat) : Option Nat := if i < c then ps[i + 1]? else ps[i]?

/-- The row at some stage: c are moved. -/
def RowAt (w : World) (g : Nat) (n : Nat) (ps : List Nat) (c : Nat) (wr : World) : Prop :=
  w.grownBy wr (some g) ∧ wr.heap.size = w.heap.size ∧ ∃ cur, wr.heap[g]? = some (.cells cur 41) ∧ cur.size = n ∧ ∀ i, i < ps.length → cur[i]? = (moved ps c i).map pt

theorem RowAt.cell {w wr : World} {g n c : Nat} {ps : List Nat} (h : RowAt w g n ps c wr) {i V : Nat} (hi : i < ps.length) (hv : moved ps c i = some V) : wr.cell? ⟨g, i, none⟩ = some (pt V) := by
  obtain ⟨_, _, cur, hg, _, hc⟩ := h
  rw [cell_of hg, hc i hi, hv]; rfl
theorem RowAt.frozen {w wr : World} {g n c : Nat} {ps : List Nat} (h : RowAt w g n ps c wr) (i : Nat) : wr.frozen? ⟨g, i, none⟩ = false := by
  obtain ⟨_, _, cur, hg, _⟩ := h
  exact frozen_of hg i
theorem RowAt.far {w wr : World} {g n c : Nat} {ps : List Nat} (h : RowAt w g n ps c wr) {k : Nat} (hk : k < w.heap.size) (hne : k ≠ g) : wr.heap[k]? = w.heap[k]? := h.1.block k hk (fun e => hne (by injection e))
theorem RowAt.set {w wr : World} {g n c : Nat} {ps : List Nat} (h : RowAt w g n ps c wr) {V : Nat} (hc : c + 1 < ps.length) (hn : ps.length ≤ n) (hv : ps[c + 1]? = some V) : RowAt w g n ps (c + 1) (wr.setCell ⟨g, c, none⟩ (pt V)) := by
  obtain ⟨h1, h2, cur, hg, hs, hcs⟩ := h
  refine ⟨⟨h1.os, h1.tape, h1.output, by simpa using h1.size, fun k hk hne => ?_⟩, by simpa using h2, _, set_at (a := ⟨g, c, none⟩) rfl hg, by simpa using hs, fun i hi => ?_⟩
  · rw [set_far (fun e => hne (by rw [e]))]
    exact h1.block k hk hne
  · by_cases e : i = c
    · subst e
      have : i < cur.size := by omega
      simp [moved, hv, this]
    · rw [Array.getElem?_setIfInBounds_ne (fun e' => e e'.symm), hcs i hi]
      have e1 : (i < c + 1) ↔ (i < c) := by omega
      simp [moved, e1]

set_option maxHeartbeats 2000000 in
theorem delete_first (w : World) (X W g cap : Nat) (rest : List Nat) (cur : Array Value) (hX : w.cell? ⟨X, 0, none⟩ = some (pt W)) (hXg : X ≠ g) (hXl : X < w.heap.size) (hr : rest.length ≤ 1000) (hcap : rest.length + 1 ≤ cap)
    (hg : w.heap[g]? = some (.cells cur 41)) (hsz : rest.length + 1 ≤ cur.size) (hcur : ∀ i, i < rest.length + 1 → cur[i]? = ((W :: rest)[i]?).map pt)
    (hw : ∀ V ∈ W :: rest, ∃ c, w.heap[V]? = some (.cells c 64)) (hnd : ∀ V ∈ rest, V ≠ W) :
    Calls Ybaf.prog 23 #[.slice (some ⟨g, 0, none⟩) (rest.length + 1) cap, clo X] w fun e w' => e = .returned (.slice (some ⟨g, 0, none⟩) rest.length cap) ∧
      w.grownBy w' (some g) ∧ w'.heap.size = w.heap.size ∧ ∃ cur', w'.heap[g]? = some (.cells cur' 41) ∧ cur'.size = cur.size ∧ ∀ i, i < rest.length → cur'[i]? = (rest[i]?).map pt := by
  obtain ⟨n, hn⟩ : ∃ n, n = rest.length := ⟨_, rfl⟩
  have H0 : Hid (RowAt w g cur.size (W :: rest) 0 w) := ⟨⟨rfl, rfl, rfl, Nat.le_refl _, fun _ _ _ => rfl⟩, rfl, cur, hg, rfl, fun i hi => by simpa [moved] using hcur i (by simpa using hi)⟩
  have HW := hidI hw
  have HND := hidI hnd
  have HR := hidI hn
  have hr' : (n : Int) ≤ 1000 := by omega
  have hcap' : (n : Int) + 1 ≤ cap := by omega
  have hcap2 : n + 1 ≤ cap := by omega
  have hcz : n + 1 ≤ cur.size := by omega
  have HI := hidI (index_first w X W g n cap hX (by rw [cell_of hg, hcur 0 (by omega)]; rfl) (by omega))
  have hXc := hX
  rw [← hn]
  generalize cur.size = sz at H0 hcz ⊢
  clear hX hg hcur hw hnd hr hsz hcap hn
  unfold clo at HI ⊢
  go_enter Ybaf.func23, Ybaf.ntmps23
  go_wp2_with fail
  refine HI.out.mono ?_
  rintro e w' ⟨rfl, rfl⟩
  go_wp2_with fail
  go_loopw [5, 6] (fun s5 s6 wr => ∃ c : Nat, c ≤ n ∧ s5 = .int .i64 c ∧ s6 = .int .i64 ((c : Int) + 1) ∧ RowAt w' g sz (W :: rest) c wr) (fun s5 _ _ => n - (intOf s5).toNat)
  case atStart => exact ⟨0, by omega, rfl, rfl, H0.out⟩
  case round =>
    obtain ⟨c, hc, rfl, rfl, hrow⟩ := hrel
    have HRW := hidI hrow
    clear hrow
    by_cases hlt : c < n
    · obtain ⟨V, hV⟩ : ∃ V, rest[c]? = some V := ⟨rest[c]'(by have := HR.out; omega), by simp⟩
      have hlen : (W :: rest).length = n + 1 := by have := HR.out; simp; omega
      have hps : (W :: rest)[c + 1]? = some V := by simpa using hV
      have hmem : V ∈ rest := List.mem_of_getElem? hV
      obtain ⟨cv, hv⟩ := HW.out V (List.mem_cons_of_mem _ hmem)
      obtain ⟨cw, hw⟩ := HW.out W (List.mem_cons_self ..)
      have hgo : ∃ cu, w'.heap[g]? = some (.cells cu 41) := by
        obtain ⟨_, _, cu, h, _⟩ := H0.out
        exact ⟨cu, h⟩
      obtain ⟨cu, hgu⟩ := hgo
      have hv' : wr.heap[V]? = some (.cells cv 64) := (HRW.out.far (lt_of hv) (ne_of hv hgu (fun e => by cases e))).trans hv
      have hw' : wr.heap[W]? = some (.cells cw 64) := (HRW.out.far (lt_of hw) (ne_of hw hgu (fun e => by cases e))).trans hw
      have hX' : wr.cell? ⟨X, 0, none⟩ = some (pt W) := by
        rw [← hXc]
        exact World.cell?_of_block (HRW.out.far hXl hXg)
      have HC := hidI (clo_other wr X W V hX' (HND.out V hmem) hv' hw')
      have r0 := HRW.out.cell (i := c + 1) (V := V) (by omega) (by unfold moved; rw [if_neg (by omega)]; exact hps)
      have r1 : wr.cell? ⟨g, c, none⟩ ≠ none := by
        obtain ⟨_, _, cu', h, _, hcs⟩ := HRW.out
        rw [cell_of h, hcs c (by omega)]
        have : ∃ U, (W :: rest)[c]? = some U := ⟨(W :: rest)[c]'(by omega), by simp⟩
        obtain ⟨U, hU⟩ := this
        simp [moved, hU]
      obtain ⟨u, r1'⟩ := Option.ne_none_iff_exists'.1 r1
      have f1 := HRW.out.frozen c
      have HN := hidI (HRW.out.set (by omega) (by omega) hps)
      clear hv hw hv' hw' hX' hgu r1 hps hlen hV
      unfold pt at r0 HC HN
      go_wp2_with fail
      refine HC.out.mono ?_
      rintro e w1 ⟨rfl, rfl⟩
      go_wp2
      exact ⟨⟨c + 1, by omega, by go_num, by go_num, HN.out⟩, by simp [intOf]; omega⟩
    · obtain rfl : c = n := by omega
      have hlen : (W :: rest).length = c + 1 := by have := HR.out; simp; omega
      have r1 : wr.cell? ⟨g, c, none⟩ ≠ none := by
        obtain ⟨_, _, cu', h, _, hcs⟩ := HRW.out
        rw [cell_of h, hcs c (by omega)]
        have : ∃ U, (W :: rest)[c]? = some U := ⟨(W :: rest)[c]'(by omega), by simp⟩
        obtain ⟨U, hU⟩ := this
        simp [moved, hU]
      have f1 := HRW.out.frozen c
      have hclear : ∀ ty k, (Builtin.clear_ #[49] ty #[.slice (some ⟨g, c, none⟩) 1 k]).run Ybaf.prog wr = .ok (.tuple #[]) (wr.setCell ⟨g, c, none⟩ (.pointer none)) := by
        intro ty k
        have q1 : ∀ j, j < 1 → (wr.cell? ⟨g, c + j, none⟩).isSome = true := by
          intro j hj
          obtain rfl : j = 0 := by omega
          exact Option.isSome_iff_ne_none.2 r1
        have q2 : ∀ j, j < 1 → wr.frozen? ⟨g, c + j, none⟩ = false := by
          intro j hj
          obtain rfl : j = 0 := by omega
          exact f1
        have := Lib.run_clear_slice (P := Ybaf.prog) wr 49 41 ty (.pointer none) Ybaf.underlying49 zero41 rfl rfl g c 1 k (by omega) q1 q2
        simpa [World.setCells] using this
      have hcn : ¬ c = cap := by omega
      have hcn2 : (c : Int) ≤ cap := by omega
      have HFIN : Hid (w'.grownBy (wr.setCell ⟨g, c, none⟩ (.pointer none)) (some g) ∧ (wr.setCell ⟨g, c, none⟩ (.pointer none)).heap.size = w'.heap.size ∧ ∃ cur', (wr.setCell ⟨g, c, none⟩ (.pointer none)).heap[g]? = some (.cells cur' 41) ∧ cur'.size = sz ∧ ∀ i, i < c → cur'[i]? = (rest[i]?).map pt) := by
        obtain ⟨h1, h2, cu, hgu, hs, hcs⟩ := HRW.out
        refine ⟨⟨h1.os, h1.tape, h1.output, by simpa using h1.size, fun k hk hne => ?_⟩, by simpa using h2, _, set_at (a := ⟨g, c, none⟩) rfl hgu, by simpa using hs, fun i hi => ?_⟩
        · rw [set_far (fun e => hne (by rw [e]))]
          exact h1.block k hk hne
        · rw [Array.getElem?_setIfInBounds_ne (by show c ≠ i; omega), hcs i (by omega)]
          simp [moved, hi]
      clear r1 f1 hlen HRW HI H0 HW HND HR
      go_wp2
      go_ret
      exact ⟨rfl, HFIN.out⟩
end Go.Proofs.YbulkbyoFmt
