/- Cores of a graph: the plain law of the order of degeneracy. No walk. -/
import Derived.Test.YtnfkbjgijelfdaaGreatMem
namespace Go.Proofs.YtnfkbjgijelfdaaGreat

/-- How many nodes of a set a node leads to. -/
def degIn (adj : Int → List Int) (X : Int → Bool) (v : Int) : Nat := (adj v).countP X
theorem degIn_mono {adj : Int → List Int} {X Y : Int → Bool} {v : Int} (h : ∀ u, X u = true → Y u = true) : degIn adj X v ≤ degIn adj Y v :=
  List.countP_mono_left fun u _ hu => h u hu

/-- In some set of nodes each of which leads to k of the set at least. -/
def InCore (ids : List Int) (adj : Int → List Int) (k : Nat) (v : Int) : Prop := ∃ X : Int → Bool, X v = true ∧ ∀ u, X u = true → u ∈ ids ∧ k ≤ degIn adj X u
theorem InCore.less {ids : List Int} {adj : Int → List Int} {k j : Nat} {v : Int} (h : InCore ids adj k v) (hj : j ≤ k) : InCore ids adj j v := by
  obtain ⟨X, h1, h2⟩ := h
  exact ⟨X, h1, fun u hu => ⟨(h2 u hu).1, Nat.le_trans hj (h2 u hu).2⟩⟩
theorem InCore.mem {ids : List Int} {adj : Int → List Int} {k : Nat} {v : Int} (h : InCore ids adj k v) : v ∈ ids := by
  obtain ⟨X, h1, h2⟩ := h
  exact (h2 v h1).1
theorem InCore.zero {ids : List Int} {adj : Int → List Int} {v : Int} (h : v ∈ ids) : InCore ids adj 0 v :=
  ⟨fun u => decide (u ∈ ids), by simpa using h, fun u hu => ⟨by simpa using hu, Nat.zero_le _⟩⟩

/-- The nodes that have not been taken. -/
def leftB (ids l : List Int) (u : Int) : Bool := decide (u ∈ ids) && !decide (u ∈ l)
theorem leftB_iff {ids l : List Int} {u : Int} : leftB ids l u = true ↔ u ∈ ids ∧ u ∉ l := by unfold leftB; simp

/-- Nodes taken one by one, each with its level. -/
structure DegS (ids : List Int) (adj : Int → List Int) (ps : List (Int × Nat)) (k : Nat) : Prop where
  nodup : (ps.map (·.1)).Nodup
  sub : ∀ p ∈ ps, p.1 ∈ ids
  lev : ∀ p ∈ ps, InCore ids adj p.2 p.1 ∧ ¬ InCore ids adj (p.2 + 1) p.1
  mono : (ps.map (·.2)).Pairwise (· ≤ ·)
  le : ∀ p ∈ ps, p.2 ≤ k
  rest : ∀ v ∈ ids, v ∉ ps.map (·.1) → InCore ids adj k v
  few : ∀ (a b : List (Int × Nat)) (p : Int × Nat), ps = a ++ p :: b → degIn adj (leftB ids (a.map (·.1))) p.1 ≤ p.2
  top : (ps = [] ∧ k = 0) ∨ ∃ p ∈ ps, p.2 = k

theorem DegS.start (ids : List Int) (adj : Int → List Int) : DegS ids adj [] 0 :=
  ⟨List.nodup_nil, (fun _ h => nomatch h), (fun _ h => nomatch h), List.Pairwise.nil, (fun _ h => nomatch h), fun _ hv _ => InCore.zero hv, (fun a b p h => by simp at h), .inl ⟨rfl, rfl⟩⟩

theorem DegS.take {ids : List Int} {adj : Int → List Int} {ps : List (Int × Nat)} {k i : Nat} {v : Int} (h : DegS ids adj ps k) (hv : v ∈ ids) (hn : v ∉ ps.map (·.1)) (hi : degIn adj (leftB ids (ps.map (·.1))) v = i)
    (hmin : ∀ u ∈ ids, u ∉ ps.map (·.1) → i ≤ degIn adj (leftB ids (ps.map (·.1))) u) : DegS ids adj (ps ++ [(v, max k i)]) (max k i) := by
  have hcore : ∀ u ∈ ids, u ∉ ps.map (·.1) → InCore ids adj (max k i) u := fun u hu hnu => by
    by_cases hki : i ≤ k
    · rw [Nat.max_eq_left hki]; exact h.rest u hu hnu
    · rw [Nat.max_eq_right (by omega)]
      exact ⟨leftB ids (ps.map (·.1)), leftB_iff.2 ⟨hu, hnu⟩, fun z hz => ⟨(leftB_iff.1 hz).1, hmin z (leftB_iff.1 hz).1 (leftB_iff.1 hz).2⟩⟩
  have hnot : ¬ InCore ids adj (max k i + 1) v := by
    rintro ⟨X, h1, h2⟩
    have hsub : ∀ u, X u = true → leftB ids (ps.map (·.1)) u = true := fun u hu => by
      refine leftB_iff.2 ⟨(h2 u hu).1, fun hm => ?_⟩
      obtain ⟨p, hp, rfl⟩ := List.mem_map.1 hm
      exact (h.lev p hp).2 (InCore.less ⟨X, hu, h2⟩ (by have := h.le p hp; omega))
    have h3 := (h2 v h1).2
    have h4 := degIn_mono (adj := adj) (v := v) hsub
    omega
  have e1 : (ps ++ [(v, max k i)]).map (·.1) = ps.map (·.1) ++ [v] := by simp
  have e2 : (ps ++ [(v, max k i)]).map (·.2) = ps.map (·.2) ++ [max k i] := by simp
  refine ⟨?_, fun p hp => ?_, fun p hp => ?_, ?_, fun p hp => ?_, fun u hu hnu => ?_, fun a b p hab => ?_, .inr ⟨(v, max k i), by simp, rfl⟩⟩
  · rw [e1, List.nodup_append]
    exact ⟨h.nodup, by simp, fun a ha b hb e => hn (by rw [← List.mem_singleton.1 hb, ← e]; exact ha)⟩
  · rcases List.mem_append.1 hp with hp | hp
    · exact h.sub p hp
    · rw [List.mem_singleton.1 hp]; exact hv
  · rcases List.mem_append.1 hp with hp | hp
    · exact h.lev p hp
    · rw [List.mem_singleton.1 hp]; exact ⟨hcore v hv hn, hnot⟩
  · rw [e2, List.pairwise_append]
    exact ⟨h.mono, by simp, fun a ha b hb => by
      rw [List.mem_singleton.1 hb]
      obtain ⟨p, hp, rfl⟩ := List.mem_map.1 ha
      have := h.le p hp; omega⟩
  · rcases List.mem_append.1 hp with hp | hp
    · have := h.le p hp; omega
    · rw [List.mem_singleton.1 hp]; exact Nat.le_refl _
  · rw [e1] at hnu
    exact hcore u hu (fun hm => hnu (List.mem_append_left _ hm))
  · rcases List.eq_nil_or_concat b with rfl | ⟨b', x, rfl⟩
    · obtain ⟨h1, h2⟩ := List.append_inj' hab rfl
      rw [List.cons.injEq] at h2
      rw [← h1, ← h2.1, hi]
      exact Nat.le_max_right _ _
    · rw [List.concat_eq_append, show a ++ p :: (b' ++ [x]) = (a ++ p :: b') ++ [x] by simp] at hab
      exact h.few a b' p (List.append_inj' hab rfl).1

/-- A list that ascends, from the place on where k is reached. -/
theorem drop_levels : ∀ (ps : List (Int × Nat)) (k : Nat), (ps.map (·.2)).Pairwise (· ≤ ·) → ps.drop (ps.countP fun p => decide (p.2 < k)) = ps.filter fun p => decide (k ≤ p.2)
  | [], _, _ => rfl
  | p :: r, k, h => by
    rw [List.map_cons, List.pairwise_cons] at h
    by_cases hp : p.2 < k
    · rw [List.countP_cons_of_pos (by simpa using hp), List.filter_cons_of_neg (by simp; omega), List.drop_succ_cons]
      exact drop_levels r k h.2
    · have hall : ∀ q ∈ r, k ≤ q.2 := fun q hq => by have := h.1 q.2 (List.mem_map.2 ⟨q, hq, rfl⟩); omega
      have h0 : (p :: r).countP (fun p => decide (p.2 < k)) = 0 := by
        rw [List.countP_eq_zero]
        intro q hq
        rcases List.mem_cons.1 hq with rfl | hq
        · simpa using hp
        · have := hall q hq; simp; omega
      rw [h0, List.drop_zero, List.filter_eq_self.2]
      intro q hq
      rcases List.mem_cons.1 hq with rfl | hq
      · simp; omega
      · simpa using hall q hq

/-- All nodes taken: those of the k-core are those of level k at least. -/
theorem DegS.core {ids : List Int} {adj : Int → List Int} {ps : List (Int × Nat)} {k : Nat} (h : DegS ids adj ps k) (hall : ∀ v ∈ ids, v ∈ ps.map (·.1)) (j : Nat) (v : Int) :
    v ∈ (ps.filter fun p => decide (j ≤ p.2)).map (·.1) ↔ InCore ids adj j v := by
  constructor
  · intro hv
    obtain ⟨p, hp, rfl⟩ := List.mem_map.1 hv
    obtain ⟨hp1, hp2⟩ := List.mem_filter.1 hp
    exact (h.lev p hp1).1.less (by simpa using hp2)
  · intro hc
    obtain ⟨p, hp, rfl⟩ := List.mem_map.1 (hall v hc.mem)
    refine List.mem_map.2 ⟨p, List.mem_filter.2 ⟨hp, ?_⟩, rfl⟩
    by_cases hj : j ≤ p.2
    · simpa using hj
    · exact absurd (hc.less (by omega : p.2 + 1 ≤ j)) (h.lev p hp).2
end Go.Proofs.YtnfkbjgijelfdaaGreat
