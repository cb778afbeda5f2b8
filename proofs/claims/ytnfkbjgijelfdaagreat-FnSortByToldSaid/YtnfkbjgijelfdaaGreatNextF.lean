/- The rows that are laid, and the definition: the same nodes that edges lead to. No walk. The nodes to which edges lead in a directed graph; what is no node leads nowhere. No walk. -/
import Derived.Test.YtnfkbjgijelfdaaGreatRowsMath
import Derived.Test.YtnfkbjgijelfdaaGreatMeth
import Derived.Test.YtnfkbjgijelfdaaGreatSpecP
import Derived.Test.YtnfkbjgijelfdaaGreatGraphO
namespace Go.Proofs.YtnfkbjgijelfdaaGreat
open Go.RowKit

theorem posOf_getF : ∀ {ids : List Int}, ids.Pairwise (· < ·) → ∀ {i : Nat}, i < ids.length → posOf ids (ids.getD i 0) = i := by
  intro ids
  induction ids with
  | nil => intro _ i hi; simp at hi
  | cons a r ih =>
    intro h i hi
    obtain ⟨h1, h2⟩ := List.pairwise_cons.1 h
    cases i with
    | zero =>
      show posOf (a :: r) a = 0
      unfold posOf
      rw [List.countP_cons_of_neg (by simp), List.countP_eq_zero]
      intro y hy
      have := h1 y hy
      simp; omega
    | succ i =>
      have hi' : i < r.length := by simpa using hi
      have e : (a :: r).getD (i + 1) 0 = r.getD i 0 := by simp [List.getD]
      have hx : r.getD i 0 ∈ r := by simp [List.getD, hi']
      have hlt := h1 _ hx
      have := ih h2 hi'
      rw [e]
      unfold posOf at this ⊢
      rw [List.countP_cons_of_pos (by simpa using hlt), this]
theorem getF_lt {ids : List Int} (h : ids.Pairwise (· < ·)) {i j : Nat} (hij : i < j) (hj : j < ids.length) : ids.getD i 0 < ids.getD j 0 := by
  have := List.pairwise_iff_getElem.1 h i j (by omega) hj hij
  simpa [List.getD, hj, show i < ids.length from by omega] using this
theorem getF_mem {ids : List Int} {i : Nat} (hi : i < ids.length) : ids.getD i 0 ∈ ids := by simp [List.getD, hi]
theorem look_memF (rows : List Arcs) (a b : Nat) : (look rows a b).isSome = true ↔ ∃ p ∈ rows.getD a [], p.1 = b := by
  unfold look arcOf
  rw [Option.isSome_map, List.find?_isSome]
  simp
theorem row_ltF {d : Bool} {ids : List Int} {es : List (Int × Int × Int)} (he : ∀ e ∈ es, e.1 ∈ ids ∧ e.2.1 ∈ ids) {a : Nat} {p : Nat × Nat} (hp : p ∈ (rowsFrom d ids es).1.getD a []) : p.1 < ids.length := by
  have h := (look_memF _ a p.1).2 ⟨p, hp, rfl⟩
  rw [rowsFrom_look d ids a p.1 es he, lastE_some] at h
  simp only [Option.isSome_none, Bool.false_or] at h
  obtain ⟨e, hm, hh⟩ := List.any_eq_true.1 h
  have h1 := posOf_len _ _ (he e hm).1
  have h2 := posOf_len _ _ (he e hm).2
  unfold hitsB at hh
  simp only [Bool.or_eq_true, Bool.and_eq_true, decide_eq_true_eq] at hh
  rcases hh with ⟨e1, e2⟩ | ⟨⟨_, e1⟩, e2⟩ <;> omega
theorem rowsF_up0 (d : Bool) (ids : List Int) (es : List (Int × Int × Int)) : ∀ st : List Arcs × List Arcs, RowsUp st.1 → st.1.length = ids.length → RowsUp (es.foldl (rowsStep d ids) st).1 := by
  induction es with
  | nil => intro st h _; exact h
  | cons e r ih =>
    intro st h1 hl
    obtain ⟨i1, i2⟩ := rowsStep_inv d ids st e h1 hl
    rw [List.foldl_cons]
    exact ih _ i1 i2
theorem rowsF_up (d : Bool) (ids : List Int) (es : List (Int × Int × Int)) : RowsUp (rowsFrom d ids es).1 := by
  unfold rowsFrom
  have h0 : ∀ i, (List.replicate ids.length ([] : Arcs)).getD i [] = [] := fun i => by
    simp only [List.getD, List.getElem?_replicate]
    split <;> rfl
  exact rowsF_up0 d ids es _ (fun i => by rw [h0]; intro a b _ hb; simp at hb) (by simp)

theorem sort_ltF {ns : List Int} {es : List (Int × Int × Int)} (hw : wellB ns es = true) : (sortI ns).Pairwise (· < ·) := by
  have hr : risingB (sortI ns) = true := by unfold wellB at hw; rw [Bool.and_eq_true] at hw; exact hw.1
  have h1 := (risingB_iff _).1 hr
  have h2 : ∀ d i, i + d + 1 < (sortI ns).length → (sortI ns).getD i 0 < (sortI ns).getD (i + d + 1) 0 := by
    intro d
    induction d with
    | zero => intro i hi; exact h1 i hi
    | succ d ih => intro i hi; have := ih i (by omega); have := h1 (i + d + 1) (by omega); exact Int.lt_trans ‹_› this
  rw [List.pairwise_iff_getElem]
  intro i j hi hj hij
  have := h2 (j - i - 1) i (by omega)
  rw [show i + (j - i - 1) + 1 = j from by omega] at this
  simpa [List.getD, hi, hj] using this

theorem eq_of_upF {l l' : List Int} (h : l.Pairwise (· < ·)) (h' : l'.Pairwise (· < ·)) (hm : ∀ y, y ∈ l ↔ y ∈ l') : l = l' := by
  have n1 : l.Nodup := h.imp fun h => Int.ne_of_lt h
  have n2 : l'.Nodup := h'.imp fun h => Int.ne_of_lt h
  exact List.Perm.eq_of_pairwise (le := (· < ·)) (fun a b _ _ h1 h2 => absurd h1 (by omega)) h h' ((List.perm_ext_iff_of_nodup n1 n2).2 hm)

/-- From a node: the rows say what the definition says. -/
theorem next_from {d : Bool} {ns : List Int} {es : List (Int × Int × Int)} (hw : wellB ns es = true) {x : Int} (hx : x ∈ sortI ns) : nextL (sortI ns) (rowsFrom d (sortI ns) es).1 x = fromL d ns es x := by
  have hu := sort_ltF hw
  have he : ∀ e ∈ es, e.1 ∈ sortI ns ∧ e.2.1 ∈ sortI ns := fun e h => ⟨mem_sortI.2 (well_ends hw e h).1, mem_sortI.2 (well_ends hw e h).2⟩
  have key : ∀ y, y ∈ sortI ns → ((∃ p ∈ (rowsFrom d (sortI ns) es).1.getD (posOf (sortI ns) x) [], p.1 = posOf (sortI ns) y) ↔ arcB d es x y = true) := by
    intro y hy
    rw [← look_memF, ← find_arc d ns es x y hw]
    unfold findO look
    rw [(memB_iff _ _).2 hx, (memB_iff _ _).2 hy]
    rfl
  refine eq_of_upF ?_ (List.Pairwise.sublist (List.filter_sublist ..) hu) fun y => ?_
  · unfold nextL endsL
    rw [List.pairwise_map]
    have h := (ArcsUp_iff _).1 (rowsF_up d (sortI ns) es (posOf (sortI ns) x))
    exact h.imp_of_mem fun {a b} _ hb hab => getF_lt hu hab (row_ltF he hb)
  · unfold nextL endsL fromL
    rw [List.mem_map, List.mem_filter]
    constructor
    · rintro ⟨p, hp, rfl⟩
      have hl := row_ltF he hp
      refine ⟨getF_mem hl, (key _ (getF_mem hl)).1 ⟨p, hp, (posOf_getF hu hl).symm⟩⟩
    · rintro ⟨hy, ha⟩
      obtain ⟨p, hp, e⟩ := (key y hy).2 ha
      refine ⟨p, hp, ?_⟩
      rw [e]
      obtain ⟨i, hi⟩ := List.getElem?_of_mem hy
      have h := (List.getElem?_eq_some_iff.1 hi)
      have e2 : (sortI ns).getD i 0 = y := by rw [List.getD_eq_getElem?_getD, hi]; rfl
      rw [← e2, posOf_getF hu h.1]
end Go.Proofs.YtnfkbjgijelfdaaGreat
namespace Go.Proofs.YtnfkbjgijelfdaaGreat
open Go.RowKit

def adjD (ns : List Int) (es : List (Int × Int × Int)) (x : Int) : List Int := if x ∈ sortI ns then fromL true ns es x else []
theorem adjD_of {ns : List Int} {es : List (Int × Int × Int)} {x : Int} (h : x ∈ sortI ns) : adjD ns es x = fromL true ns es x := if_pos h
theorem mem_adjD {ns : List Int} {es : List (Int × Int × Int)} {x y : Int} : y ∈ adjD ns es x ↔ x ∈ sortI ns ∧ y ∈ sortI ns ∧ arcB true es x y = true := by
  unfold adjD fromL
  by_cases h : x ∈ sortI ns
  · rw [if_pos h, List.mem_filter]; exact ⟨(fun g => ⟨h, g⟩), (fun g => g.2)⟩
  · rw [if_neg h]; exact ⟨(fun g => nomatch g), (fun g => absurd g.1 h)⟩
theorem adjD_sub {ns : List Int} {es : List (Int × Int × Int)} : ∀ a, ∀ b ∈ adjD ns es a, b ∈ sortI ns := fun _ _ h => (mem_adjD.1 h).2.1
theorem adjD_len {ns : List Int} {es : List (Int × Int × Int)} (a : Int) : (adjD ns es a).length ≤ ns.length := by
  unfold adjD fromL
  by_cases h : a ∈ sortI ns
  · rw [if_pos h, ← sortI_len ns]; exact List.length_filter_le ..
  · rw [if_neg h]; exact Nat.zero_le _
theorem adjD_up {ns : List Int} {es : List (Int × Int × Int)} (hw : wellB ns es = true) (a : Int) : (adjD ns es a).Pairwise (· < ·) := by
  unfold adjD fromL
  by_cases h : a ∈ sortI ns
  · rw [if_pos h]; exact (sort_ltF hw).sublist (List.filter_sublist ..)
  · rw [if_neg h]; exact List.Pairwise.nil

/-- A directed graph that is read. -/
theorem dGraphO_of {bp : Nat} {ns : List Int} {es : List (Int × Int × Int)} (hw : wellB ns es = true) :
    GraphO 72 (.agg #[.pointer (some ⟨bp, 0, none⟩)]) 217 215 (Gr bp (sortI ns) (rowsFrom true (sortI ns) es).1 (rowsFrom true (sortI ns) es).2) (sortI ns) (adjD ns es) :=
  (dGraphO bp _ _ _).congr (fun x hx => by rw [adjD_of hx, next_from hw hx])

/-- Edges turned round. -/
def turnE (es : List (Int × Int × Int)) : List (Int × Int × Int) := es.map fun e => (e.2.1, e.1, e.2.2)
theorem turnE_len (es : List (Int × Int × Int)) : (turnE es).length = es.length := by simp [turnE]
theorem arcB_turn (es : List (Int × Int × Int)) (u v : Int) : arcB true (turnE es) u v = arcB true es v u := by
  unfold arcB turnE
  rw [List.any_map]
  congr 1
  funext e
  show arcAt true (e.2.1, e.1, e.2.2) u v = arcAt true e v u
  unfold arcAt
  simp only [Bool.not_true, Bool.false_and, Bool.or_false]
  exact Bool.and_comm _ _
theorem adjD_turn (ns : List Int) (es : List (Int × Int × Int)) (a b : Int) : b ∈ adjD ns es a ↔ a ∈ adjD ns (turnE es) b := by
  rw [mem_adjD, mem_adjD, arcB_turn]
  exact ⟨fun ⟨h1, h2, h3⟩ => ⟨h2, h1, h3⟩, fun ⟨h1, h2, h3⟩ => ⟨h2, h1, h3⟩⟩
theorem well_turn {ns : List Int} {es : List (Int × Int × Int)} (hw : wellB ns es = true) : wellB ns (turnE es) = true := by
  unfold wellB edgesB at hw ⊢
  rw [Bool.and_eq_true] at hw ⊢
  refine ⟨hw.1, ?_⟩
  unfold turnE
  rw [List.all_map, List.all_eq_true]
  intro e he
  have h := List.all_eq_true.1 hw.2 e he
  show edgeB ns (e.2.1, e.1, e.2.2) = true
  unfold edgeB at h ⊢
  simp only [Bool.and_eq_true, Bool.not_eq_true', beq_eq_false_iff_ne, ne_eq] at h ⊢
  exact ⟨⟨⟨⟨fun g => h.1.1.1.1 g.symm, h.1.1.2⟩, h.1.1.1.2⟩, h.1.2⟩, h.2⟩
end Go.Proofs.YtnfkbjgijelfdaaGreat
