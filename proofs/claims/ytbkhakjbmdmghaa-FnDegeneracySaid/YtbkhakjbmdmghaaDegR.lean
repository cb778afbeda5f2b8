/- What the lists of levels say. -/
import Derived.Test.YtbkhakjbmdmghaaDegM
namespace Go.Proofs.Ytbkhakjbmdmghaa
open Go.RowKit

/-- How many nodes have a level less than j. -/
def lessN (ps : List (Int × Nat)) (j : Nat) : Nat := ps.countP fun p => decide (p.2 < j)
/-- How many have the level j. -/
def sameN (ps : List (Int × Nat)) (j : Nat) : Nat := ps.countP fun p => decide (p.2 = j)
theorem lessN_zero (ps : List (Int × Nat)) : lessN ps 0 = 0 := by simp [lessN]
theorem lessN_succ : ∀ (ps : List (Int × Nat)) (j : Nat), lessN ps (j + 1) = lessN ps j + sameN ps j
  | [], _ => rfl
  | p :: r, j => by
    have h := lessN_succ r j
    unfold lessN sameN at h ⊢
    simp only [List.countP_cons, decide_eq_true_eq]
    by_cases h1 : p.2 < j
    · rw [if_pos h1, if_pos (by omega), if_neg (by omega)]; omega
    · by_cases h2 : p.2 = j
      · rw [if_neg h1, if_pos (by omega), if_pos h2]; omega
      · rw [if_neg h1, if_neg (by omega), if_neg h2]; omega
theorem lessN_le (ps : List (Int × Nat)) (j : Nat) : lessN ps j ≤ ps.length := List.countP_le_length
theorem sameN_le (ps : List (Int × Nat)) (j : Nat) : sameN ps j ≤ ps.length := List.countP_le_length
theorem lessN_all {ps : List (Int × Nat)} {k : Nat} (h : ∀ p ∈ ps, p.2 ≤ k) : lessN ps (k + 1) = ps.length :=
  List.countP_eq_length.2 fun p hp => by have := h p hp; simp; omega
theorem levels_at (k : Nat) (ps : List (Int × Nat)) {j : Nat} (hj : j ≤ k) : (levelsL k ps)[j]? = some ((sameN ps j : Nat) : Int) := by
  simp [levelsL, sameN, show j < k + 1 by omega]

theorem take_same : ∀ (ps : List (Int × Nat)) (j : Nat), (ps.map (·.2)).Pairwise (· ≤ ·) → (∀ p ∈ ps, j ≤ p.2) → ps.take (sameN ps j) = ps.filter fun p => decide (p.2 = j)
  | [], _, _, _ => rfl
  | p :: r, j, h, hj => by
    rw [List.map_cons, List.pairwise_cons] at h
    by_cases hp : p.2 = j
    · have e : sameN (p :: r) j = sameN r j + 1 := by simp [sameN, List.countP_cons, hp]
      rw [e, List.take_succ_cons, List.filter_cons_of_pos (by simpa using hp), take_same r j h.2 (fun q hq => hj q (List.mem_cons_of_mem _ hq))]
    · have hlt : j < p.2 := by have := hj p (List.mem_cons_self ..); omega
      have hno : ∀ q ∈ p :: r, ¬ q.2 = j := fun q hq => by
        rcases List.mem_cons.1 hq with rfl | hq
        · exact hp
        · have := h.1 q.2 (List.mem_map.2 ⟨q, hq, rfl⟩); omega
      have e : sameN (p :: r) j = 0 := List.countP_eq_zero.2 fun q hq => by simpa using hno q hq
      rw [e, List.take_zero]
      exact (List.filter_eq_nil_iff.2 fun q hq => by simpa using hno q hq).symm

theorem filter_pw {ps : List (Int × Nat)} (f : Int × Nat → Bool) (h : (ps.map (·.2)).Pairwise (· ≤ ·)) : ((ps.filter f).map (·.2)).Pairwise (· ≤ ·) :=
  h.sublist ((List.filter_sublist ..).map _)

/-- The nodes of a level, of the greatest one on. -/
def coreL (ps : List (Int × Nat)) (j : Nat) : List Int := ((ps.filter fun p => decide (p.2 = j)).map (·.1)).reverse
theorem level_part {ps : List (Int × Nat)} (h : (ps.map (·.2)).Pairwise (· ≤ ·)) (j : Nat) : (ps.drop (lessN ps j)).take (sameN ps j) = ps.filter fun p => decide (p.2 = j) := by
  have e1 : ps.drop (lessN ps j) = ps.filter fun p => decide (j ≤ p.2) := drop_levels ps j h
  have e2 : sameN ps j = sameN (ps.filter fun p => decide (j ≤ p.2)) j := by
    unfold sameN
    rw [List.countP_filter]
    refine List.countP_congr fun p _ => ?_
    simp only [decide_eq_true_eq, Bool.and_eq_true]
    omega
  rw [e1, e2, take_same _ j (filter_pw _ h) (fun p hp => by simpa using (List.mem_filter.1 hp).2), List.filter_filter]
  refine List.filter_congr fun p _ => ?_
  by_cases e : p.2 = j <;> simp [e]

theorem core_slice {ps : List (Int × Nat)} (h : (ps.map (·.2)).Pairwise (· ≤ ·)) (j : Nat) : (((ps.map (·.1)).reverse).drop (ps.length - lessN ps (j + 1))).take (sameN ps j) = coreL ps j := by
  have h1 := lessN_succ ps j
  have h2 := lessN_le ps (j + 1)
  unfold coreL
  rw [← level_part h j, List.drop_reverse, List.length_map, show ps.length - (ps.length - lessN ps (j + 1)) = lessN ps (j + 1) by omega, List.take_reverse, List.length_take, List.length_map, Nat.min_eq_left h2,
    show lessN ps (j + 1) - sameN ps j = lessN ps j by omega, List.map_take, List.map_drop]
  congr 1
  rw [List.drop_take, show lessN ps (j + 1) - lessN ps j = sameN ps j by omega]

theorem coreL_len (ps : List (Int × Nat)) (j : Nat) : (coreL ps j).length = sameN ps j := by
  unfold coreL sameN
  rw [List.length_reverse, List.length_map, List.countP_eq_length_filter]
theorem mem_coreL {ps : List (Int × Nat)} {j : Nat} {v : Int} : v ∈ coreL ps j ↔ (v, j) ∈ ps := by
  unfold coreL
  rw [List.mem_reverse, List.mem_map]
  constructor
  · rintro ⟨p, hp, rfl⟩
    obtain ⟨h1, h2⟩ := List.mem_filter.1 hp
    rw [decide_eq_true_eq] at h2
    rw [← h2]; exact h1
  · intro h
    exact ⟨(v, j), List.mem_filter.2 ⟨h, by simp⟩, rfl⟩

/-- What is left from level j on. -/
def kcoreL (ps : List (Int × Nat)) (j : Nat) : List Int := (ps.map (·.1)).drop (lessN ps j)
theorem kcoreL_eq {ps : List (Int × Nat)} (h : (ps.map (·.2)).Pairwise (· ≤ ·)) (j : Nat) : kcoreL ps j = (ps.filter fun p => decide (j ≤ p.2)).map (·.1) := by
  unfold kcoreL
  rw [← List.map_drop]
  exact congrArg _ (drop_levels ps j h)
theorem DegS.kcore {ids : List Int} {adj : Int → List Int} {ps : List (Int × Nat)} {k : Nat} (h : DegS ids adj ps k) (hall : ∀ v ∈ ids, v ∈ ps.map (·.1)) (j : Nat) (v : Int) : v ∈ kcoreL ps j ↔ InCore ids adj j v := by
  rw [kcoreL_eq h.mono]
  exact h.core hall j v
end Go.Proofs.Ytbkhakjbmdmghaa
