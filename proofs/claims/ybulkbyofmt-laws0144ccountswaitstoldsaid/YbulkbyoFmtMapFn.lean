/-
  A map in memory, said as a function from key values to element values. Generic over the program. Typed by the prover of this seat (an AI agent).
-/
import Derived.Maps.OwnSet
namespace Go.MapFn
open Go.Maps (Keyed)

/-- An element reads as itself. -/
def rdv (v : Value) : Option (DataW Value × List MemPlace) := some (.held v, [])

/-- Block b of w is a map of at most n entries; at key x it holds 'f x'. -/
def MapIs (P : Program) (k : TypeId) (w : World) (b n : Nat) (f : Value → Option Value) : Prop :=
  ∃ D : DataW Value, w.ownsMap P k rdv b n D ∧ ∀ key kl, keyOf P k key = some kl → ∀ z, D.atKey kl z = ((f key).map DataW.held).getD z

variable {P : Program} {k : TypeId} {w : World} {b n : Nat} {f : Value → Option Value}

theorem MapIs.made (P : Program) (k : TypeId) (w : World) : MapIs P k (w.alloc (.map #[] 0)) w.heap.size 0 (fun _ => none) :=
  ⟨.map [], World.ownsMap_made w P k rdv, fun _ _ _ _ => rfl⟩

theorem MapIs.lt (h : MapIs P k w b n f) : b < w.heap.size := by obtain ⟨D, h, _⟩ := h; exact h.lt
theorem MapIs.mono (h : MapIs P k w b n f) {n' : Nat} (hn : n ≤ n') : MapIs P k w b n' f := by obtain ⟨D, h, h'⟩ := h; exact ⟨D, h.mono hn, h'⟩
theorem MapIs.kept {w' : World} {row : Option Nat} (h : MapIs P k w b n f) (hg : w.grownBy w' row) (hne : some b ≠ row) : MapIs P k w' b n f := by
  obtain ⟨D, h, h'⟩ := h; exact ⟨D, h.kept hg hne, h'⟩
theorem MapIs.alloc (h : MapIs P k w b n f) (o : Obj) : MapIs P k (w.alloc o) b n f := by obtain ⟨D, h, h'⟩ := h; exact ⟨D, h.alloc o, h'⟩
theorem MapIs.drew (h : MapIs P k w b n f) : MapIs P k w.drew b n f := by obtain ⟨D, h, h'⟩ := h; exact ⟨D, h.drew, h'⟩
theorem MapIs.setCell (h : MapIs P k w b n f) {a : Addr} (ha : b ≠ a.block) (u : Value) : MapIs P k (w.setCell a u) b n f := by
  obtain ⟨D, h, h'⟩ := h; exact ⟨D, h.setCell ha u, h'⟩
/-- The same map where its block is the same. -/
theorem MapIs.same {w' : World} (h : MapIs P k w b n f) (hb : w'.heap[b]? = w.heap[b]?) : MapIs P k w' b n f := by
  obtain ⟨D, ⟨es, clock, h1, h2⟩, h'⟩ := h
  exact ⟨D, ⟨es, clock, hb.trans h1, h2⟩, h'⟩

theorem MapIs.look (h : MapIs P k w b n f) (K : Keyed P k) {t e : TypeId} (ht : P.underlying t = some (.map k e)) {z : Value} (hz : (zeroValue e).run P w = .ok z w)
    {key : Value} {kl : Lit} (hkey : keyOf P k key = some kl) : (Instr.lookup t (.map (some b)) key false).run P w = .ok ((f key).getD z) w := by
  obtain ⟨D, h, h'⟩ := h
  obtain ⟨v, ps, hrun, hv⟩ := h.lookup K ht hz (zd := .held z) (zp := []) rfl hkey
  rw [hrun]
  rw [h' key kl hkey] at hv
  cases hf : f key with
  | none => rw [hf] at hv; simp [rdv] at hv; simp [hv.1]
  | some u => rw [hf] at hv; simp [rdv] at hv; simp [hv.1]

theorem MapIs.look_ok (h : MapIs P k w b n f) (K : Keyed P k) {t e : TypeId} (ht : P.underlying t = some (.map k e)) {z : Value} (hz : (zeroValue e).run P w = .ok z w)
    {key : Value} {kl : Lit} (hkey : keyOf P k key = some kl) : (Instr.lookup t (.map (some b)) key true).run P w = .ok (.tuple #[(f key).getD z, .bool (f key).isSome]) w := by
  obtain ⟨D, h, h'⟩ := h
  obtain ⟨v, ps, hrun, hv⟩ := h.look_ok K ht hz (zd := .held z) (zp := []) rfl hkey
  rw [hrun]
  rw [h' key kl hkey] at hv
  cases hf : f key with
  | none =>
    rw [hf] at hv; simp [rdv] at hv
    rw [Maps.has_false_of_atKey (k := kl) (D := D) (fun z => by rw [h' key kl hkey, hf]; rfl)]
    simp [hv.1]
  | some u =>
    rw [hf] at hv; simp [rdv] at hv
    rw [Maps.has_true_of_atKey (k := kl) (D := D) (y := .held u) (fun z => by rw [h' key kl hkey, hf]; rfl)]
    simp [hv.1]

theorem MapIs.store (h : MapIs P k w b n f) (K : Keyed P k) {t e : TypeId} (ht : P.underlying t = some (.map k e)) (hn : n < maxLen)
    {key val : Value} {kl : Lit} (hkey : keyOf P k key = some kl) :
    ∃ w' f', (Instr.mapUpdate t (.map (some b)) key val).run P w = .ok () w' ∧ MapIs P k w' b (n + 1) f' ∧ f' key = some val ∧ (∀ x, x ≠ key → f' x = f x) ∧ w.mapTurned w' b := by
  obtain ⟨D, h, h'⟩ := h
  obtain ⟨w', hrun, hown, hturn⟩ := h.store K ht hn hkey (val := val) (d := .held val) (ps := []) rfl
  classical
  refine ⟨w', fun x => if x = key then some val else f x, hrun, ⟨_, hown, fun x l hx z => ?_⟩, by simp, fun x hx => by simp [hx], hturn⟩
  by_cases hxk : x = key
  · subst hxk
    rw [hkey] at hx
    cases hx
    rw [Maps.atKey_put_same h.isMap (K.key hkey)]
    simp
  · have hne : l ≠ kl := fun e => hxk (K.inj (by rw [hx, e]) hkey)
    rw [Maps.atKey_put_other hne, h' x l hx]
    simp [hxk]

/-- 'm[k] = v' at the operation, for the walk (guard: 'at_mapUpdate'). -/
theorem wpList_mapUpdate_fn {P : Program} (w : World) {ops : Array Oper} {rest : List Oper} {o : Oper} {a : Act} {Q : Exit → Act → World → Prop}
    (hg : o.guard = none) (m x v : Operand) (t : TypeId) (hop : o.op = Op.mapUpdate t m x v)
    (k e : TypeId) (K : Keyed P k) (ht : P.underlying t = some (.map k e)) (b n : Nat) (f : Value → Option Value)
    (hm : a.eval m = .map (some b)) (hown : MapIs P k w b n f) (hn : n < maxLen) (key val : Value) (hx : a.eval x = key) (hv : a.eval v = val) (hkey : ∃ kl, keyOf P k key = some kl)
    (hK : ∀ w' f', MapIs P k w' b (n + 1) f' → f' key = some val → (∀ y, y ≠ key → f' y = f y) → w.mapTurned w' b → wpList P ops Q rest (a.put o.dst undef) w') :
    wpList P ops Q (o :: rest) a w := by
  refine wpList_plain hg fun K' hK' => ?_
  obtain ⟨kl, hkey⟩ := hkey
  obtain ⟨w', f', hrun, r1, r2, r3, r4⟩ := hown.store K ht hn hkey (val := val)
  unfold Oper.wp
  simp [execOp, hop, hm, hx, hv, hrun, Result.andThen]
  exact hK' _ _ (hK w' f' r1 r2 r3 r4)

end Go.MapFn
