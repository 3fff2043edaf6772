/-
  'victim' and 'enqueue'. Typed by the prover of this seat (an AI agent).
-/
import Derived.Test.YbulkbyoFmtBase
import Derived.Deep.AppendLies
import Derived.Deep.Cut
import Derived.LaidEqlPtr
namespace Go.Proofs.YbulkbyoFmt
open Go.RowKit Go.MuLone Go.MapFn
open Go.Maps (Keyed)
set_option maxRecDepth 100000

theorem lawS : Keyed Ybaf.prog 9 := Maps.string_keyed Ybaf.underlying9
theorem keyS {key : ByteArray} (h : key.size ≤ maxLen) : keyOf Ybaf.prog 9 (.string key) = some (.string key.data.toList) := WideMaps.keyOf_string_mk Ybaf.underlying9 h
theorem zero57 (w : World) : (zeroValue 57).run Ybaf.prog w = .ok (.pointer none) w := by kernel_rfl

theorem run_neq_ptr_other (w : World) {tp te : TypeId} {j : TypeInfo} {a b : Addr} {ca cb : Array Value} {ta tb : TypeId} (hp : Ybaf.prog.underlying tp = some (.pointer te)) (hte : Ybaf.prog.info? te = some j) (hsz : j.size ≠ 0)
    (hne : a ≠ b) (ha : w.heap[a.block]? = some (.cells ca ta (0, 0))) (hb : w.heap[b.block]? = some (.cells cb tb (0, 0))) :
    (binOp .neq tp (.pointer (some a)) (.pointer (some b))).run Ybaf.prog w = .ok (.bool true) w := by
  have h : ∀ d : Nat, (Op.equalIn (d + 1) tp (.pointer (some a)) (.pointer (some b))).run Ybaf.prog w = .ok false w := fun d => by
    simp [Op.equalIn, run_underlying hp, sizeOf, typeInfo, hte, hsz, run_sameAddr_other w hne ha hb]
  simp only [binOp]
  simp [Op.equal, Op.maxDepth, h 9999]
theorem info56 : (Ybaf.prog.info? 56).map (·.size) = some 3 := by kernel_rfl
theorem info64 : (Ybaf.prog.info? 64).map (·.size) = some 4 := by kernel_rfl
theorem info_of {t : TypeId} {n : Nat} (h : (Ybaf.prog.info? t).map (·.size) = some n) : ∃ j, Ybaf.prog.info? t = some j ∧ j.size = n := by
  cases e : Ybaf.prog.info? t with
  | none => rw [e] at h; cases h
  | some j => rw [e] at h; simp at h; exact ⟨j, rfl, h⟩

set_option maxHeartbeats 1000000 in
theorem victim_any (w : World) (L H H0 K0 : Nat) (mk0 : Int) (hne : H0 ≠ H) (h0 : HoAt w H0 K0 mk0 (.pointer none)) {ch : Array Value} (h1 : w.heap[H]? = some (.cells ch 56)) :
    Calls Ybaf.prog 12 #[.pointer (some ⟨L, 0, none⟩), .pointer (some ⟨H, 0, none⟩), .pointer (some ⟨H0, 0, none⟩)] w fun e w' => e = .returned (.pointer none) ∧ w' = w := by
  have c2 : w.cell? ⟨H0, 2, none⟩ = some (.pointer none) := cell_of h0 2
  obtain ⟨j, hj, hs⟩ := info_of info56
  have hq := run_neq_ptr_other w (a := ⟨H0, 0, none⟩) (b := ⟨H, 0, none⟩) Ybaf.underlying39 hj (by omega) (fun e => hne (by injection e)) h0 h1
  clear h0 h1
  go_enter Ybaf.func12, Ybaf.ntmps12
  go_wp2_with fail
  refine wp_loop_rounds 1 ?_
  rw [rounds_succ]
  go_wp2
  go_ret
  exact ⟨rfl, rfl⟩

set_option maxHeartbeats 1000000 in
theorem enq_free (w : World) (B L M H K n nk : Nat) (mu wts dl mk mh : Int) (wt : Value) (key : ByteArray) (f fk : Value → Option Value) (hk : key.size ≤ maxLen) (hn : n ≤ 1000) (hnk : nk ≤ 1000)
    (hl : LkAt w L M mu wts dl mk) (hh : HoAt w H K mh wt) (hm : Hid (MapIs Ybaf.prog 9 w M n f)) (hkm : Hid (MapIs Ybaf.prog 9 w K nk fk)) (hf : f (.string key) = none) (hMK : M ≠ K) (hB : B ≤ M) (hB' : B ≤ K) (hBw : B ≤ w.heap.size) :
    Calls Ybaf.prog 6 #[.pointer (some ⟨L, 0, none⟩), .pointer (some ⟨H, 0, none⟩), .string key, .int .i64 1] w fun e w' => e = .returned (.tuple #[.pointer none, .nilIface]) ∧ Below B w w' ∧
      LkAt w' L M mu wts dl mk ∧ HoAt w' H K mh wt ∧ KlAt w' w.heap.size H (.slice none 0 0) ∧
      (∃ f', MapIs Ybaf.prog 9 w' M (n + 1) f' ∧ f' (.string key) = some (.pointer (some ⟨w.heap.size, 0, none⟩))) ∧
      (∃ fk', MapIs Ybaf.prog 9 w' K (nk + 1) fk' ∧ fk' (.string key) = some (.agg #[]) ∧ ∀ x, x ≠ .string key → fk' x = fk x) := by
  have l2 : w.cell? ⟨L, 2, none⟩ = some (.map (some M)) := cell_of hl 2
  have l5 : w.cell? ⟨L, 5, none⟩ = some (.bool false) := cell_of hl 5
  have h1 : w.cell? ⟨H, 1, none⟩ = some (.map (some K)) := cell_of hh 1
  have hLlt := lt_of hl
  have hHlt := lt_of hh
  have hlook := hm.out.look lawS Ybaf.underlying31 (zero57 _) (keyS hk)
  rw [hf, Option.getD_none] at hlook
  have hmA := hm.out.alloc (.cells #[.pointer (some ⟨H, 0, none⟩), .slice none 0 0] 59)
  obtain ⟨w1, f1, hrun1, m1, e1, _, t1⟩ := hmA.store lawS Ybaf.underlying31 (by unfold maxLen; omega) (keyS hk) (val := .pointer (some ⟨w.heap.size, 0, none⟩))
  have hkA := (hkm.out.alloc (.cells #[.pointer (some ⟨H, 0, none⟩), .slice none 0 0] 59)).kept t1.grown (fun e => hMK (by injection e with e; exact e.symm))
  obtain ⟨w2, f2, hrun2, m2, e2, o2, t2⟩ := hkA.store lawS Ybaf.underlying54 (by unfold maxLen; omega) (keyS hk) (val := .agg #[])
  have turned_cells : ∀ {a b : World} {x k : Nat} {c : Array Value} {t : TypeId} {fr : Nat × Nat}, a.mapTurned b x → a.heap[k]? = some (Obj.cells c t fr) → b.heap[k]? = some (Obj.cells c t fr) := by
    intro a b x k c t fr ht hk
    have hne : k ≠ x := by
      obtain ⟨es, cl, es', cl', hb, _⟩ := ht
      exact ne_of hk hb (fun e => by cases e)
    rw [ht.grown.block k (lt_of hk) (fun e => hne (by injection e))]
    exact hk
  have all : ∀ {k : Nat} {c : Array Value} {t : TypeId} {fr : Nat × Nat}, (w.alloc (.cells #[.pointer (some ⟨H, 0, none⟩), .slice none 0 0] 59)).heap[k]? = some (Obj.cells c t fr) → w2.heap[k]? = some (Obj.cells c t fr) := fun h => turned_cells t2 (turned_cells t1 h)
  have old : ∀ {k : Nat} {c : Array Value} {t : TypeId} {fr : Nat × Nat}, w.heap[k]? = some (Obj.cells c t fr) → w2.heap[k]? = some (Obj.cells c t fr) := fun h => all ((Below.heap_alloc _ _ _ (lt_of h)).trans h)
  have HFIN : Hid (Below B w w2 ∧ LkAt w2 L M mu wts dl mk ∧ HoAt w2 H K mh wt ∧ KlAt w2 w.heap.size H (.slice none 0 0) ∧
      (∃ f', MapIs Ybaf.prog 9 w2 M (n + 1) f' ∧ f' (.string key) = some (.pointer (some ⟨w.heap.size, 0, none⟩))) ∧
      (∃ fk', MapIs Ybaf.prog 9 w2 K (nk + 1) fk' ∧ fk' (.string key) = some (.agg #[]) ∧ ∀ x, x ≠ .string key → fk' x = fk x)) := by
    refine ⟨?_, old hl, old hh, all (MapKept.heap_alloc w _).1, ⟨f1, m1.kept t2.grown (fun e => hMK (by injection e)), e1⟩, ⟨f2, m2, e2, o2⟩⟩
    refine (((Below.refl _ _).alloc hBw _).grown t1.grown (by simp; omega) (fun k hk => by cases hk; exact hB)).grown t2.grown ?_ (fun k hk => by cases hk; exact hB')
    have := t1.grown.size
    simp at this
    omega
  have d1 : w1.cell? ⟨H, 1, none⟩ = some (.map (some K)) := cell_of (turned_cells t1 ((Below.heap_alloc _ _ _ (lt_of hh)).trans hh)) 1
  clear hl hh hmA hkA m1 m2 e1 e2 o2 t1 t2 all old turned_cells hf
  go_enter Ybaf.func6, Ybaf.ntmps6
  go_wp2_with fail
  refine wp_loop_rounds 1 ?_
  rw [rounds_succ]
  go_wp2
  go_ret2
  exact ⟨rfl, HFIN.out⟩
end Go.Proofs.YbulkbyoFmt
