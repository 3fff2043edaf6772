/-
  Plain laws: the sorted list's ends; counts. No Go in sight. Typed by the prover of this seat (an AI agent).
-/
namespace Go.Proofs.Ybulkbxm.Plain

def le (x y : Int) : Bool := decide (x ≤ y)
def srt (l : List Int) : List Int := l.mergeSort fun x y => decide (x ≤ y)

theorem srt_perm (l : List Int) : (srt l).Perm l := List.mergeSort_perm l _
theorem srt_sorted (l : List Int) : (srt l).Pairwise (fun x y => x ≤ y) := by
  have := List.pairwise_mergeSort (le := fun x y : Int => decide (x ≤ y)) (fun a b c h1 h2 => by simp at *; omega) (fun a b => by simp; omega) l
  exact this.imp (fun h => by simpa using h)
theorem srt_length (l : List Int) : (srt l).length = l.length := (srt_perm l).length_eq
theorem srt_count (l : List Int) (x : Int) : (srt l).count x = l.count x := (srt_perm l).count_eq x

theorem srt_le {l : List Int} {i j : Nat} (hij : i < j) (hj : j < (srt l).length) : (srt l)[i]'(by omega) ≤ (srt l)[j] :=
  List.pairwise_iff_getElem.1 (srt_sorted l) i j (by omega) hj hij

/-- One step of the law's own search for the least and the greatest. -/
def step (s : Bool × Int × Int) (v : Int) : Bool × Int × Int := (false, if s.1 = true ∨ v < s.2.1 then v else s.2.1, if s.1 = true ∨ s.2.2 < v then v else s.2.2)
def ends (l : List Int) : Bool × Int × Int := l.foldl step (true, 0, 0)
theorem ends_nil : ends [] = (true, 0, 0) := rfl
theorem ends_snoc (l : List Int) (v : Int) : ends (l ++ [v]) = step (ends l) v := by simp [ends]

theorem ends_first (l : List Int) : (ends l).1 = true ↔ l = [] := by
  rcases List.eq_nil_or_concat l with rfl | ⟨l', v, rfl⟩
  · simp [ends]
  · rw [List.concat_eq_append, ends_snoc]; simp [step]

theorem ends_spec : ∀ (n : Nat) (l : List Int), l.length = n → l ≠ [] → (ends l).2.1 ∈ l ∧ (ends l).2.2 ∈ l ∧ ∀ x ∈ l, (ends l).2.1 ≤ x ∧ x ≤ (ends l).2.2 := by
  intro n
  induction n with
  | zero => intro l h h'; exact absurd (List.eq_nil_of_length_eq_zero h) h'
  | succ n ih =>
    intro l h _
    rcases List.eq_nil_or_concat l with rfl | ⟨l', v, rfl⟩
    · simp at h
    · rw [List.concat_eq_append] at h ⊢
      rw [ends_snoc]
      by_cases he : l' = []
      · subst he
        simp [ends, step]
      · obtain ⟨h1, h2, h3⟩ := ih l' (by simpa using h) he
        have hf : ¬ (ends l').1 = true := fun e => he ((ends_first l').1 e)
        simp only [step, hf, false_or, Bool.false_eq_true]
        refine ⟨?_, ?_, ?_⟩
        · split <;> simp [h1]
        · split <;> simp [h2]
        · intro x hx
          rcases List.mem_append.1 hx with hx | hx
          · have := h3 x hx
            constructor <;> split <;> omega
          · simp at hx
            subst hx
            constructor <;> split <;> omega

theorem srt_first {l : List Int} (h : 0 < (srt l).length) : (srt l)[0] = (ends l).2.1 := by
  have hl : l ≠ [] := by intro e; subst e; simp [srt] at h
  obtain ⟨h1, _, h3⟩ := ends_spec _ l rfl hl
  have m0 : (srt l)[0] ∈ l := (srt_perm l).mem_iff.1 (List.getElem_mem _)
  have := (h3 _ m0).1
  obtain ⟨i, hi, e⟩ := List.getElem_of_mem ((srt_perm l).mem_iff.2 h1)
  by_cases hz : i = 0
  · subst hz; exact e
  · have := srt_le (l := l) (i := 0) (j := i) (by omega) hi
    rw [e] at this
    omega

theorem srt_last {l : List Int} (h : 0 < (srt l).length) : (srt l)[(srt l).length - 1] = (ends l).2.2 := by
  have hl : l ≠ [] := by intro e; subst e; simp [srt] at h
  obtain ⟨_, h2, h3⟩ := ends_spec _ l rfl hl
  have m0 : (srt l)[(srt l).length - 1] ∈ l := (srt_perm l).mem_iff.1 (List.getElem_mem _)
  have := (h3 _ m0).2
  obtain ⟨i, hi, e⟩ := List.getElem_of_mem ((srt_perm l).mem_iff.2 h2)
  by_cases hz : i = (srt l).length - 1
  · subst hz; exact e
  · have := srt_le (l := l) (i := i) (j := (srt l).length - 1) (by omega) (by omega)
    rw [e] at this
    omega

end Go.Proofs.Ybulkbxm.Plain
