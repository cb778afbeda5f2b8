/- The plain law of FnUndirect: what Undirect shows is the plain form of the undirected graph. No walk. -/
import Derived.Test.YtbkoifdnlaihfaaGreatUndirI
import Derived.Test.YtbkoifdnlaihfaaGreatShape
import Derived.Test.YtbkoifdnlaihfaaGreatPlainG
namespace Go.Proofs.YtbkoifdnlaihfaaGreat
open Go.RowKit

theorem sortI_sortI (ns : List Int) : sortI (sortI ns) = sortI ns := (sortI_unique (List.Perm.refl _) (sortI_pw ns)).symm

theorem rise_ext {l l' : List Int} (h : l.Pairwise (· < ·)) (h' : l'.Pairwise (· < ·)) (hm : ∀ x, x ∈ l ↔ x ∈ l') : l = l' := by
  have hp : l.Perm l' := (List.perm_ext_iff_of_nodup (h.imp fun h => by omega) (h'.imp fun h => by omega)).2 hm
  rw [sortI_unique hp (h.imp fun h => by omega), ← sortI_unique (List.Perm.refl l') (h'.imp fun h => by omega)]

theorem posOf_get : ∀ {ids : List Int}, ids.Pairwise (· < ·) → ∀ {i : Nat}, i < ids.length → posOf ids (ids.getD i 0) = i := by
  intro ids
  induction ids with
  | nil => intro _ i hi; simp at hi
  | cons a r ih =>
    intro h i hi
    obtain ⟨h1, h2⟩ := List.pairwise_cons.1 h
    cases i with
    | zero =>
      show posOf (a :: r) a = 0
      unfold posOf
      rw [List.countP_cons_of_neg (by simp), List.countP_eq_zero]
      intro y hy
      have := h1 y hy
      simp; omega
    | succ i =>
      have hi' : i < r.length := by simpa using hi
      have e : (a :: r).getD (i + 1) 0 = r.getD i 0 := by simp [List.getD]
      have hx : r.getD i 0 ∈ r := by simp [List.getD, hi']
      have hlt := h1 _ hx
      have := ih h2 hi'
      rw [e]
      unfold posOf at this ⊢
      rw [List.countP_cons_of_pos (by simpa using hlt), this]

theorem get_lt {ids : List Int} (h : ids.Pairwise (· < ·)) {i j : Nat} (hij : i < j) (hj : j < ids.length) : ids.getD i 0 < ids.getD j 0 := by
  have := List.pairwise_iff_getElem.1 h i j (by omega) hj hij
  simpa [List.getD, hj, show i < ids.length from by omega] using this

def swapE (e : Int × Int × Int) : Int × Int × Int := (e.2.1, e.1, e.2.2)
theorem rows_swap (ids : List Int) (es : List (Int × Int × Int)) : ∀ st : List Arcs × List Arcs, (es.foldl (rowsStep true ids) st).2 = ((es.map swapE).foldl (rowsStep true ids) (st.2, st.1)).1 := by
  induction es with
  | nil => intro st; rfl
  | cons e r ih =>
    intro st
    rw [List.map_cons, List.foldl_cons, List.foldl_cons, ih]
    rfl
theorem rowsFrom_swap (ids : List Int) (es : List (Int × Int × Int)) : (rowsFrom true ids es).2 = (rowsFrom true ids (es.map swapE)).1 := rows_swap ids es _

theorem rows_up (d : Bool) (ids : List Int) (es : List (Int × Int × Int)) : ∀ st : List Arcs × List Arcs, RowsUp st.1 → st.1.length = ids.length → RowsUp (es.foldl (rowsStep d ids) st).1 := by
  induction es with
  | nil => intro st h _; exact h
  | cons e r ih =>
    intro st h1 hl
    obtain ⟨i1, i2⟩ := rowsStep_inv d ids st e h1 hl
    rw [List.foldl_cons]
    exact ih _ i1 i2
theorem rowsFrom_up (d : Bool) (ids : List Int) (es : List (Int × Int × Int)) : RowsUp (rowsFrom d ids es).1 := by
  unfold rowsFrom
  have h0 : ∀ i, (List.replicate ids.length ([] : Arcs)).getD i [] = [] := fun i => by
    simp only [List.getD, List.getElem?_replicate]
    split <;> rfl
  exact rows_up d ids es _ (fun i => by rw [h0]; intro a b _ hb; simp at hb) (by simp)

theorem mem_look (rows : List Arcs) (a b : Nat) : (look rows a b).isSome = true ↔ ∃ p ∈ rows.getD a [], p.1 = b := by
  unfold look arcOf
  rw [Option.isSome_map, List.find?_isSome]
  simp

/-- The rows, in plain words. -/
theorem row_tab {ids : List Int} {es : List (Int × Int × Int)} (he : ∀ e ∈ es, e.1 ∈ ids ∧ e.2.1 ∈ ids) (a b : Nat) : (∃ p ∈ (rowsFrom true ids es).1.getD a [], p.1 = b) ↔ tabA true ids es a b = true := by
  rw [← mem_look, rowsFrom_look true ids a b es he, lastE_some]
  simp [tabA]
theorem tab_lt {d : Bool} {ids : List Int} {es : List (Int × Int × Int)} (he : ∀ e ∈ es, e.1 ∈ ids ∧ e.2.1 ∈ ids) {a b : Nat} (h : tabA d ids es a b = true) : a < ids.length ∧ b < ids.length := by
  unfold tabA at h
  obtain ⟨e, hm, hh⟩ := List.any_eq_true.1 h
  have h1 := posOf_len _ _ (he e hm).1
  have h2 := posOf_len _ _ (he e hm).2
  unfold hitsB at hh
  simp only [Bool.or_eq_true, Bool.and_eq_true, decide_eq_true_eq] at hh
  rcases hh with ⟨e1, e2⟩ | ⟨⟨_, e1⟩, e2⟩ <;> omega
theorem mem_next {ids : List Int} {es : List (Int × Int × Int)} (hu : ids.Pairwise (· < ·)) (he : ∀ e ∈ es, e.1 ∈ ids ∧ e.2.1 ∈ ids) {i : Nat} (hi : i < ids.length) (y : Int) :
    y ∈ nextL ids (rowsFrom true ids es).1 (ids.getD i 0) ↔ ∃ b, b < ids.length ∧ tabA true ids es i b = true ∧ ids.getD b 0 = y := by
  unfold nextL endsL
  rw [posOf_get hu hi, List.mem_map]
  constructor
  · rintro ⟨p, hp, rfl⟩
    have h := (row_tab he i p.1).1 ⟨p, hp, rfl⟩
    exact ⟨p.1, (tab_lt he h).2, h, rfl⟩
  · rintro ⟨b, _, h, rfl⟩
    obtain ⟨p, hp, rfl⟩ := (row_tab he i b).2 h
    exact ⟨p, hp, rfl⟩
theorem next_pw {ids : List Int} {es : List (Int × Int × Int)} (hu : ids.Pairwise (· < ·)) (he : ∀ e ∈ es, e.1 ∈ ids ∧ e.2.1 ∈ ids) (x : Int) : (nextL ids (rowsFrom true ids es).1 x).Pairwise (· < ·) := by
  unfold nextL endsL
  rw [List.pairwise_map]
  have h := (ArcsUp_iff _).1 (rowsFrom_up true ids es (posOf ids x))
  refine h.imp_of_mem fun {a b} ha hb hab => get_lt hu hab ?_
  exact (tab_lt he ((row_tab he _ _).1 ⟨b, hb, rfl⟩)).2

theorem tab_swap (ids : List Int) (es : List (Int × Int × Int)) (a b : Nat) : tabA true ids (es.map swapE) a b = tabA true ids es b a := by
  unfold tabA
  rw [List.any_map]
  congr 1
  funext e
  simp only [Function.comp, hitsB, swapE, Bool.not_true, Bool.false_and, Bool.or_false]
  exact Bool.and_comm _ _
theorem tab_false (ids : List Int) (es : List (Int × Int × Int)) (a b : Nat) : tabA false ids es a b = true ↔ tabA true ids es a b = true ∨ tabA true ids es b a = true := by
  unfold tabA
  simp only [List.any_eq_true]
  constructor
  · rintro ⟨e, hm, hh⟩
    unfold hitsB at hh
    simp only [Bool.or_eq_true, Bool.and_eq_true, decide_eq_true_eq] at hh
    rcases hh with ⟨e1, e2⟩ | ⟨⟨_, e1⟩, e2⟩
    · exact .inl ⟨e, hm, by simp [hitsB, e1, e2]⟩
    · exact .inr ⟨e, hm, by simp [hitsB, e1, e2]⟩
  · rintro (⟨e, hm, hh⟩ | ⟨e, hm, hh⟩) <;> (unfold hitsB at hh; simp only [Bool.not_true, Bool.false_and, Bool.or_false, Bool.and_eq_true, decide_eq_true_eq] at hh; exact ⟨e, hm, by simp [hitsB, hh.1, hh.2]⟩)

theorem well_ne {ns : List Int} {es : List (Int × Int × Int)} (h : wellB ns es = true) : ∀ e ∈ es, e.1 ≠ e.2.1 := by
  intro e he
  unfold wellB at h
  rw [Bool.and_eq_true] at h
  have := List.all_eq_true.1 h.2 e he
  unfold edgeB at this
  simp only [Bool.and_eq_true] at this
  have h1 := this.1.1.1.1
  simpa using h1
theorem tab_self {ids : List Int} {es : List (Int × Int × Int)} (he : ∀ e ∈ es, e.1 ∈ ids ∧ e.2.1 ∈ ids) (hne : ∀ e ∈ es, e.1 ≠ e.2.1) (a : Nat) : tabA true ids es a a = false := by
  rw [Bool.eq_false_iff]
  intro h
  unfold tabA at h
  obtain ⟨e, hm, hh⟩ := List.any_eq_true.1 h
  unfold hitsB at hh
  simp only [Bool.not_true, Bool.false_and, Bool.or_false, Bool.and_eq_true, decide_eq_true_eq] at hh
  exact hne e hm ((posOf_inj _ _ _ (he e hm).1 (he e hm).2).1 (hh.1.symm.trans hh.2))

theorem row_same {ids : List Int} {es : List (Int × Int × Int)} (hu : ids.Pairwise (· < ·)) (he : ∀ e ∈ es, e.1 ∈ ids ∧ e.2.1 ∈ ids) (hne : ∀ e ∈ es, e.1 ≠ e.2.1) {i : Nat} (hi : i < ids.length) :
    ((sortI (bothL ids (rowsFrom true ids es).1 (rowsFrom true ids es).2 (ids.getD i 0))).filter fun v => false || decide (ids.getD i 0 ≤ v)) = ((List.range ids.length).filter fun v => tabA false ids es i v && (false || decide (i < v))).map fun v => ids.getD v 0 := by
  have he' : ∀ e ∈ es.map swapE, e.1 ∈ ids ∧ e.2.1 ∈ ids := fun e hm => by
    obtain ⟨e', hm', rfl⟩ := List.mem_map.1 hm
    exact ⟨(he e' hm').2, (he e' hm').1⟩
  rw [rowsFrom_swap]
  have p1 := next_pw hu he (ids.getD i 0)
  have p2 := next_pw hu he' (ids.getD i 0)
  have hnd : (bothL ids (rowsFrom true ids es).1 (rowsFrom true ids (es.map swapE)).1 (ids.getD i 0)).Nodup := by
    unfold bothL
    rw [List.nodup_append]
    refine ⟨p1.imp fun h => by omega, (p2.imp fun h => by omega : List.Nodup _).filter _, fun a ha b hb e => ?_⟩
    subst e
    have := (List.mem_filter.1 hb).2
    simp at this
    exact this ha
  have hpw : (sortI (bothL ids (rowsFrom true ids es).1 (rowsFrom true ids (es.map swapE)).1 (ids.getD i 0))).Pairwise (· < ·) := by
    have h1 := sortI_pw (bothL ids (rowsFrom true ids es).1 (rowsFrom true ids (es.map swapE)).1 (ids.getD i 0))
    have h2 : (sortI (bothL ids (rowsFrom true ids es).1 (rowsFrom true ids (es.map swapE)).1 (ids.getD i 0))).Nodup := (sortI_perm _).nodup_iff.2 hnd
    exact (h1.and h2).imp fun h => by omega
  have hmem : ∀ y, y ∈ bothL ids (rowsFrom true ids es).1 (rowsFrom true ids (es.map swapE)).1 (ids.getD i 0) ↔ ∃ b, b < ids.length ∧ tabA false ids es i b = true ∧ ids.getD b 0 = y := fun y => by
    unfold bothL
    rw [List.mem_append, List.mem_filter, decide_eq_true_eq, mem_next hu he hi, mem_next hu he' hi]
    constructor
    · rintro (⟨b, h1, h2, h3⟩ | ⟨⟨b, h1, h2, h3⟩, _⟩)
      · exact ⟨b, h1, (tab_false _ _ _ _).2 (.inl h2), h3⟩
      · exact ⟨b, h1, (tab_false _ _ _ _).2 (.inr (by rw [← tab_swap]; exact h2)), h3⟩
    · rintro ⟨b, h1, h2, h3⟩
      by_cases h4 : tabA true ids es i b = true
      · exact .inl ⟨b, h1, h4, h3⟩
      · have h5 : tabA true ids (es.map swapE) i b = true := by rw [tab_swap]; exact ((tab_false _ _ _ _).1 h2).resolve_left h4
        refine .inr ⟨⟨b, h1, h5, h3⟩, ?_⟩
        rintro ⟨b', h1', h2', h3'⟩
        have : b' = b := by
          rw [← posOf_get hu h1', ← posOf_get hu h1, h3, h3']
        subst this
        exact h4 h2'
  refine rise_ext (hpw.filter _) ?_ fun y => ?_
  · rw [List.pairwise_map]
    refine (List.Pairwise.filter _ (List.pairwise_lt_range (n := ids.length))).imp_of_mem fun {a b} ha hb hab => get_lt hu hab ?_
    exact List.mem_range.1 (List.mem_filter.1 hb).1
  · rw [List.mem_filter, mem_sortI, hmem, List.mem_map]
    constructor
    · rintro ⟨⟨b, h1, h2, rfl⟩, h3⟩
      refine ⟨b, List.mem_filter.2 ⟨List.mem_range.2 h1, ?_⟩, rfl⟩
      have h4 : ids.getD i 0 ≤ ids.getD b 0 := by simpa using h3
      have h5 : i < b := by
        rcases Nat.lt_trichotomy i b with h | h | h
        · exact h
        · subst h
          rcases (tab_false _ _ _ _).1 h2 with h | h <;> (rw [tab_self he hne] at h; cases h)
        · have := get_lt hu h hi; omega
      simp [h2, h5]
    · rintro ⟨b, hb, rfl⟩
      obtain ⟨h1, h2⟩ := List.mem_filter.1 hb
      simp only [Bool.and_eq_true, Bool.false_or, decide_eq_true_eq] at h2
      exact ⟨⟨b, List.mem_range.1 h1, h2.1, rfl⟩, by have := get_lt hu h2.2 (List.mem_range.1 h1); rw [Bool.false_or, decide_eq_true_eq]; omega⟩

theorem ids_range (ids : List Int) : ids = (List.range ids.length).map fun i => ids.getD i 0 := by
  apply List.ext_getElem?
  intro i
  by_cases h : i < ids.length
  · simp [h, List.getD]
  · simp [h]

theorem undir_same (ns : List Int) (es : List (Int × Int × Int)) (h : wellB ns es = true) : bareE (undirE ns es) = bareE (plainUp false (sortI ns) es ns.length ns.length) := by
  have hu : (sortI ns).Pairwise (· < ·) := rising_pw (by have := h; unfold wellB at this; simp only [Bool.and_eq_true] at this; exact this.1)
  have he : ∀ e ∈ es, e.1 ∈ sortI ns ∧ e.2.1 ∈ sortI ns := fun e hm => ⟨mem_sortI.2 (well_ends h e hm).1, mem_sortI.2 (well_ends h e hm).2⟩
  unfold undirE seenE plainUp bareE
  rw [sortI_sortI, ← sortI_len ns]
  conv => lhs; rw [List.map_flatMap]; arg 2; rw [ids_range (sortI ns)]
  rw [List.map_flatMap, List.flatMap_def, List.flatMap_def, List.map_map]
  congr 1
  apply List.map_congr_left
  intro i hi
  have hi' := List.mem_range.1 hi
  show List.map _ (seenAt false _ ((sortI ns).getD i 0)) = List.map _ (plainAt false (sortI ns) es i (sortI ns).length)
  unfold seenAt plainAt
  rw [row_same hu he (well_ne h) hi', List.map_map, List.map_map, List.map_map]
  rfl

theorem plainUp_len (d : Bool) (ids : List Int) (es : List (Int × Int × Int)) (n : Nat) : ∀ k, (plainUp d ids es n k).length ≤ k * n := by
  intro k
  induction k with
  | zero => simp [plainUp]
  | succ k ih =>
    rw [plainUp_succ, List.length_append, Nat.succ_mul]
    have : (plainAt d ids es k n).length ≤ n := by
      unfold plainAt
      rw [List.length_map]
      exact Nat.le_trans (List.length_filter_le _ _) (by simp)
    omega

theorem undirE_len (ns : List Int) (es : List (Int × Int × Int)) (h : ns.length ≤ 25) (hw : wellB ns es = true) : (undirE ns es).length ≤ 1000000 := by
  have h1 := congrArg List.length (undir_same ns es hw)
  unfold bareE at h1
  simp only [List.length_map] at h1
  have h2 := plainUp_len false (sortI ns) es ns.length ns.length
  have h3 : ns.length * ns.length ≤ 25 * 25 := Nat.mul_le_mul h h
  omega

end Go.Proofs.YtbkoifdnlaihfaaGreat
