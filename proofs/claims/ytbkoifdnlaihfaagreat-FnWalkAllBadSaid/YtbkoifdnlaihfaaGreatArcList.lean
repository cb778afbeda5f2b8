/- Plain facts on rows of arcs: an arc laid into a row. -/
import Derived.Test.YtbkoifdnlaihfaaGreatArcMem
namespace Go.Proofs.YtbkoifdnlaihfaaGreat

/-- An arc laid into a row that ascends. -/
def setL : Arcs → Nat → Nat → Arcs
  | [], k, x => [(k, x)]
  | (t, f) :: r, k, x => if t < k then (t, f) :: setL r k x else if t = k then (k, x) :: r else (k, x) :: (t, f) :: r

theorem toAt_zero (a : Nat × Nat) (l : Arcs) : toAt (a :: l) 0 = a.1 := rfl
theorem toAt_succ (a : Nat × Nat) (l : Arcs) (j : Nat) : toAt (a :: l) (j + 1) = toAt l j := by simp [toAt, List.getD]

theorem setL_found (l : Arcs) (k x : Nat) : ∀ i, FoundAt l k i true → setL l k x = l.set i (k, x) ∧ i < l.length := by
  induction l with
  | nil => rintro i ⟨h1, h2, h3, h4⟩; simp at h4
  | cons a r ih =>
    rintro i ⟨h1, h2, h3, h4⟩
    obtain ⟨t, f⟩ := a
    have h4' : i < (r.length + 1) ∧ toAt ((t, f) :: r) i = k := by simpa using h4.symm
    cases i with
    | zero =>
      have : t = k := h4'.2
      simp [setL, this]
    | succ i =>
      have hlt : t < k := h2 0 (by omega)
      have := ih i ⟨by simp at h1; omega, fun a ha => by have := h2 (a + 1) (by omega); rwa [toAt_succ] at this, fun a ha hb => by have := h3 (a + 1) (by omega) (by simp; omega); rwa [toAt_succ] at this, by
        have h5 := h4'.2; rw [toAt_succ] at h5; simp [h5]; omega⟩
      simp [setL, hlt, this.1]; omega

theorem setL_new (l : Arcs) (k x : Nat) : ∀ i, FoundAt l k i false → setL l k x = insL l i (k, x) := by
  induction l with
  | nil => rintro i ⟨h1, h2, h3, h4⟩; simp [setL, insL]
  | cons a r ih =>
    rintro i ⟨h1, h2, h3, h4⟩
    obtain ⟨t, f⟩ := a
    have h4' : ¬ (i < (r.length + 1) ∧ toAt ((t, f) :: r) i = k) := by simpa using h4.symm
    cases i with
    | zero =>
      have h5 : k ≤ t := h3 0 (by omega) (by simp)
      have h6 : ¬ t = k := fun e => h4' ⟨by omega, e⟩
      have h7 : ¬ t < k := by omega
      simp [setL, h6, h7, insL]
    | succ i =>
      have hlt : t < k := h2 0 (by omega)
      have := ih i ⟨by simp at h1; omega, fun a ha => by have := h2 (a + 1) (by omega); rwa [toAt_succ] at this, fun a ha hb => by have := h3 (a + 1) (by omega) (by simp; omega); rwa [toAt_succ] at this, by
        rw [toAt_succ] at h4'; simp; intro h; by_cases e : toAt r i = k
        · exact absurd ⟨by omega, e⟩ h4'
        · exact e⟩
      simp [setL, hlt, this, insL]

theorem ArcsUp_iff (l : Arcs) : ArcsUp l ↔ l.Pairwise (fun a b => a.1 < b.1) := by
  rw [List.pairwise_iff_getElem]
  constructor
  · intro h i j hi hj hij
    have := h i j hij hj
    simpa [toAt, List.getD, hi, hj] using this
  · intro h a b hab hb
    have := h a b (by omega) hb hab
    simpa [toAt, List.getD, hb, show a < l.length by omega] using this

theorem mem_setL (l : Arcs) (k x : Nat) (p : Nat × Nat) (hp : p ∈ setL l k x) : p = (k, x) ∨ (p ∈ l ∧ p.1 ≠ k) ∨ (p ∈ l) := by
  induction l with
  | nil => simp [setL] at hp; exact .inl hp
  | cons a r ih =>
    obtain ⟨t, f⟩ := a
    unfold setL at hp
    split at hp
    · rcases List.mem_cons.1 hp with rfl | h
      · exact .inr (.inr (by simp))
      · rcases ih h with h | h | h
        · exact .inl h
        · exact .inr (.inr (by simp [h.1]))
        · exact .inr (.inr (by simp [h]))
    · split at hp
      · rcases List.mem_cons.1 hp with h | h
        · exact .inl h
        · exact .inr (.inr (by simp [h]))
      · rcases List.mem_cons.1 hp with h | h
        · exact .inl h
        · exact .inr (.inr h)

theorem setL_up (l : Arcs) (k x : Nat) (h : ArcsUp l) : ArcsUp (setL l k x) := by
  rw [ArcsUp_iff] at h ⊢
  induction l with
  | nil => simp [setL]
  | cons a r ih =>
    obtain ⟨t, f⟩ := a
    rw [List.pairwise_cons] at h
    unfold setL
    split
    · rename_i hlt
      refine List.pairwise_cons.2 ⟨fun p hp => ?_, ih h.2⟩
      rcases mem_setL r k x p hp with rfl | h' | h'
      · exact hlt
      · exact h.1 p h'.1
      · exact h.1 p h'
    · split
      · rename_i e; subst e
        exact List.pairwise_cons.2 ⟨fun p hp => h.1 p hp, h.2⟩
      · rename_i h1 h2
        refine List.pairwise_cons.2 ⟨fun p hp => ?_, List.pairwise_cons.2 h⟩
        rcases List.mem_cons.1 hp with rfl | hp
        · show k < t; omega
        · have := h.1 p hp; show k < p.1; have h3 : t < p.1 := this; omega

theorem setL_len (l : Arcs) (k x : Nat) : (setL l k x).length ≤ l.length + 1 := by
  induction l with
  | nil => simp [setL]
  | cons a r ih =>
    obtain ⟨t, f⟩ := a
    unfold setL
    split
    · simp; omega
    · split <;> simp

/-- The weight that a row tells for an end. -/
def arcOf (l : Arcs) (k : Nat) : Option Nat := (l.find? fun a => a.1 == k).map (·.2)
theorem arcOf_setL (l : Arcs) (k x j : Nat) (h : ArcsUp l) : arcOf (setL l k x) j = if j = k then some x else arcOf l j := by
  rw [ArcsUp_iff] at h
  induction l with
  | nil =>
    by_cases e : j = k
    · subst e; simp [setL, arcOf]
    · simp [setL, arcOf, e, Ne.symm e]
  | cons a r ih =>
    obtain ⟨t, f⟩ := a
    rw [List.pairwise_cons] at h
    unfold setL
    split
    · rename_i hlt
      have ih' := ih h.2
      by_cases e : t = j
      · subst e
        have : ¬ t = k := by omega
        simp [arcOf, this]
      · simp only [arcOf, List.find?_cons] at ih' ⊢
        have : (t == j) = false := by simpa using e
        rw [this]; exact ih'
    · split
      · rename_i e; subst e
        by_cases e : j = t
        · subst e; simp [arcOf]
        · have : (t == j) = false := by simpa using Ne.symm e
          simp [arcOf, this, e]
      · by_cases e : j = k
        · subst e; simp [arcOf]
        · have : (k == j) = false := by simpa using Ne.symm e
          simp [arcOf, List.find?_cons, this, e]

theorem toAt_ge (l : Arcs) (h : ArcsUp l) : ∀ j, j < l.length → j ≤ toAt l j := by
  intro j
  induction j with
  | zero => intro _; omega
  | succ j ih => intro hj; have := ih (by omega); have := h j (j + 1) (by omega) hj; omega
theorem arcs_len {l : Arcs} {n : Nat} (h : ArcsUp l) (hn : ∀ a ∈ l, a.1 < n) : l.length ≤ n := by
  by_cases h0 : l.length = 0
  · omega
  · have h1 := toAt_ge l h (l.length - 1) (by omega)
    have h2 : toAt l (l.length - 1) < n := by
      have hj : l.length - 1 < l.length := by omega
      have := hn l[l.length - 1] (List.getElem_mem hj)
      simpa [toAt, List.getD, hj] using this
    omega
theorem toAt_lt {l : Arcs} {n : Nat} (hn : ∀ a ∈ l, a.1 < n) : ∀ j, j < l.length → toAt l j < n := by
  intro j hj
  have := hn l[j] (List.getElem_mem hj)
  simpa [toAt, List.getD, hj] using this

end Go.Proofs.YtbkoifdnlaihfaaGreat
