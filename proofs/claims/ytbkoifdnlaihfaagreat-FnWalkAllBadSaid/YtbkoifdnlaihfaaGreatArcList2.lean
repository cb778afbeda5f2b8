/- More plain facts on rows of arcs. -/
import Derived.Test.YtbkoifdnlaihfaaGreatArcList
namespace Go.Proofs.YtbkoifdnlaihfaaGreat

theorem arcOf_found (l : Arcs) (k i : Nat) (hf : FoundAt l k i true) : ∃ x, l[i]? = some (k, x) ∧ arcOf l k = some x := by
  have h4 : i < l.length ∧ toAt l i = k := by have := hf.2.2.2; simpa using this.symm
  obtain ⟨hi, he⟩ := h4
  obtain ⟨⟨t, x⟩, hp⟩ : ∃ p, l[i]? = some p := ⟨_, List.getElem?_eq_getElem hi⟩
  have ht : t = k := by simpa [toAt, List.getD, hp] using he
  subst ht
  refine ⟨x, hp, ?_⟩
  have hlt := hf.2.1
  clear he hf
  induction l generalizing i with
  | nil => simp at hi
  | cons a r ih =>
    cases i with
    | zero =>
      obtain rfl : a = (t, x) := by simpa using hp
      simp [arcOf]
    | succ i =>
      have h0 : a.1 < t := hlt 0 (by omega)
      have : (a.1 == t) = false := by simp; omega
      have ih' := ih i (by simpa using hi) (by simpa using hp) (fun j hj => by have := hlt (j + 1) (by omega); rwa [toAt_succ] at this)
      simp only [arcOf, List.find?_cons, this] at ih' ⊢
      exact ih'
theorem arcOf_none (l : Arcs) (k i : Nat) (h : ArcsUp l) (hf : FoundAt l k i false) : arcOf l k = none := by
  have h4 : ¬ (i < l.length ∧ toAt l i = k) := by have := hf.2.2.2; simpa using this.symm
  have : ∀ j, j < l.length → toAt l j ≠ k := fun j hj e => by
    by_cases h1 : j < i
    · have := hf.2.1 j h1; omega
    · by_cases h2 : j = i
      · subst h2; exact h4 ⟨hj, e⟩
      · have h3 := hf.2.2.1 i (Nat.le_refl _) (by omega)
        have h5 := h i j (by omega) hj
        omega
  unfold arcOf
  rw [List.find?_eq_none.2 (fun a ha => ?_)]
  · rfl
  · obtain ⟨j, hj, rfl⟩ := List.getElem_of_mem ha
    have := this j hj
    simpa [toAt, List.getD, hj] using this

end Go.Proofs.YtbkoifdnlaihfaaGreat
