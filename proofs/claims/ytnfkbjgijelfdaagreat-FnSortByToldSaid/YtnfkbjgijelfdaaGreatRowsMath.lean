/- Plain facts on the rows that the edges make: no walk. -/
import Derived.Test.YtnfkbjgijelfdaaGreatRead2
import Derived.Test.YtnfkbjgijelfdaaGreatFind
namespace Go.Proofs.YtnfkbjgijelfdaaGreat

def look (ls : List Arcs) (a b : Nat) : Option Nat := arcOf (ls.getD a []) b
def RowsUp (ls : List Arcs) : Prop := ∀ i, ArcsUp (ls.getD i [])

theorem setAt_up (ls : List Arcs) (i k x : Nat) (h : RowsUp ls) : RowsUp (setAt ls i k x) := by
  intro j
  unfold setAt
  by_cases e : i = j
  · subst e
    by_cases hl : i < ls.length
    · rw [List.getD, List.getElem?_set_self hl]; exact setL_up _ _ _ (h i)
    · rw [List.getD, List.getElem?_set]; simp [hl, ArcsUp]
  · rw [List.getD, List.getElem?_set_ne e]; exact h j
theorem setAt_len (ls : List Arcs) (i k x : Nat) : (setAt ls i k x).length = ls.length := by simp [setAt]
theorem look_setAt (ls : List Arcs) (i k x a b : Nat) (h : RowsUp ls) (hi : i < ls.length) : look (setAt ls i k x) a b = if a = i ∧ b = k then some x else look ls a b := by
  unfold look setAt
  by_cases e : i = a
  · subst e
    rw [show (ls.set i (setL (ls.getD i []) k x)).getD i [] = setL (ls.getD i []) k x from by rw [List.getD, List.getElem?_set_self hi]; rfl]
    rw [arcOf_setL _ _ _ _ (h i)]
    simp
  · rw [show (ls.set i (setL (ls.getD i []) k x)).getD a [] = ls.getD a [] from by rw [List.getD, List.getElem?_set_ne e]; rfl]
    rw [if_neg (fun h => e h.1.symm)]

/-- Whether an edge makes an arc between two places. -/
def hitsB (d : Bool) (ids : List Int) (a b : Nat) (e : Int × Int × Int) : Bool :=
  (decide (a = posOf ids e.1) && decide (b = posOf ids e.2.1)) || (!d && decide (a = posOf ids e.2.1) && decide (b = posOf ids e.1))
def lastE (d : Bool) (ids : List Int) (a b : Nat) (acc : Option Nat) (es : List (Int × Int × Int)) : Option Nat :=
  es.foldl (fun acc e => if hitsB d ids a b e then some (bitsOf e.2.2) else acc) acc

theorem lastE_some (d : Bool) (ids : List Int) (a b : Nat) (es : List (Int × Int × Int)) : ∀ acc, (lastE d ids a b acc es).isSome = (acc.isSome || es.any (hitsB d ids a b)) := by
  induction es with
  | nil => intro acc; simp [lastE]
  | cons e r ih =>
    intro acc
    unfold lastE at ih ⊢
    rw [List.foldl_cons, ih, List.any_cons]
    cases hitsB d ids a b e <;> simp

theorem rowsStep_look (d : Bool) (ids : List Int) (st : List Arcs × List Arcs) (e : Int × Int × Int) (a b : Nat) (h1 : RowsUp st.1) (hl : st.1.length = ids.length) (hx : e.1 ∈ ids) (hy : e.2.1 ∈ ids) :
    look (rowsStep d ids st e).1 a b = if hitsB d ids a b e then some (bitsOf e.2.2) else look st.1 a b := by
  have hi := posOf_len ids _ hx
  have hj := posOf_len ids _ hy
  unfold rowsStep layM hitsB
  cases d
  · simp only [Bool.false_eq_true, if_false]
    rw [look_setAt _ _ _ _ _ _ (setAt_up _ _ _ _ h1) (by rw [setAt_len]; omega), look_setAt _ _ _ _ _ _ h1 (by omega)]
    have hc : ((decide (a = posOf ids e.1) && decide (b = posOf ids e.2.1)) || (!false && decide (a = posOf ids e.2.1) && decide (b = posOf ids e.1))) = true ↔ (a = posOf ids e.1 ∧ b = posOf ids e.2.1) ∨ (a = posOf ids e.2.1 ∧ b = posOf ids e.1) := by simp
    by_cases h1 : a = posOf ids e.2.1 ∧ b = posOf ids e.1
    · rw [if_pos h1, if_pos (hc.2 (.inr h1))]
    · by_cases h2 : a = posOf ids e.1 ∧ b = posOf ids e.2.1
      · rw [if_neg h1, if_pos h2, if_pos (hc.2 (.inl h2))]
      · rw [if_neg h1, if_neg h2, if_neg (fun h => (hc.1 h).elim h2 h1)]
  · simp only [if_true]
    rw [look_setAt _ _ _ _ _ _ h1 (by omega)]
    have hc : ((decide (a = posOf ids e.1) && decide (b = posOf ids e.2.1)) || (!true && decide (a = posOf ids e.2.1) && decide (b = posOf ids e.1))) = true ↔ (a = posOf ids e.1 ∧ b = posOf ids e.2.1) := by simp
    by_cases h2 : a = posOf ids e.1 ∧ b = posOf ids e.2.1
    · rw [if_pos h2, if_pos (hc.2 h2)]
    · rw [if_neg h2, if_neg (fun h => h2 (hc.1 h))]

theorem rowsStep_inv (d : Bool) (ids : List Int) (st : List Arcs × List Arcs) (e : Int × Int × Int) (h1 : RowsUp st.1) (hl : st.1.length = ids.length) : RowsUp (rowsStep d ids st e).1 ∧ (rowsStep d ids st e).1.length = ids.length := by
  unfold rowsStep layM
  cases d
  · exact ⟨setAt_up _ _ _ _ (setAt_up _ _ _ _ h1), by simp only [Bool.false_eq_true, if_false]; rw [setAt_len, setAt_len, hl]⟩
  · exact ⟨setAt_up _ _ _ _ h1, by simp only [if_true]; rw [setAt_len, hl]⟩

theorem rows_look (d : Bool) (ids : List Int) (a b : Nat) (es : List (Int × Int × Int)) : ∀ st : List Arcs × List Arcs, RowsUp st.1 → st.1.length = ids.length → (∀ e ∈ es, e.1 ∈ ids ∧ e.2.1 ∈ ids) →
    look (es.foldl (rowsStep d ids) st).1 a b = lastE d ids a b (look st.1 a b) es := by
  induction es with
  | nil => intro st _ _ _; rfl
  | cons e r ih =>
    intro st h1 hl he
    obtain ⟨i1, i2⟩ := rowsStep_inv d ids st e h1 hl
    rw [List.foldl_cons, ih _ i1 i2 (fun x hx => he x (List.mem_cons_of_mem _ hx)), rowsStep_look d ids st e a b h1 hl (he e (List.mem_cons_self ..)).1 (he e (List.mem_cons_self ..)).2]
    rfl

theorem rowsFrom_look (d : Bool) (ids : List Int) (a b : Nat) (es : List (Int × Int × Int)) (he : ∀ e ∈ es, e.1 ∈ ids ∧ e.2.1 ∈ ids) : look (rowsFrom d ids es).1 a b = lastE d ids a b none es := by
  unfold rowsFrom
  have h0 : ∀ i, (List.replicate ids.length ([] : Arcs)).getD i [] = [] := fun i => by
    simp only [List.getD, List.getElem?_replicate]
    split <;> rfl
  rw [rows_look d ids a b es _ (fun i => by rw [h0]; intro a b _ hb; simp at hb) (by simp) he]
  congr 1
  unfold look
  rw [h0]; rfl

/-- What well says of the edges' ends. -/
theorem well_ends {ns : List Int} {es : List (Int × Int × Int)} (h : wellB ns es = true) : ∀ e ∈ es, e.1 ∈ ns ∧ e.2.1 ∈ ns := by
  intro e he
  unfold wellB at h
  rw [Bool.and_eq_true] at h
  have := List.all_eq_true.1 h.2 e he
  unfold edgeB at this
  simp only [Bool.and_eq_true] at this
  exact ⟨(hasB_iff _ _).1 this.1.1.1.2, (hasB_iff _ _).1 this.1.1.2⟩

theorem find_arc (d : Bool) (ns : List Int) (es : List (Int × Int × Int)) (u v : Int) (h : wellB ns es = true) : (findO (sortI ns) (rowsFrom d (sortI ns) es).1 u v).isSome = arcB d es u v := by
  have hends := well_ends h
  have hends' : ∀ e ∈ es, e.1 ∈ sortI ns ∧ e.2.1 ∈ sortI ns := fun e he => ⟨mem_sortI.2 (hends e he).1, mem_sortI.2 (hends e he).2⟩
  unfold findO
  by_cases hu : memB (sortI ns) u = true
  · by_cases hv : memB (sortI ns) v = true
    · rw [hu, hv]
      simp only [Bool.and_self, if_true]
      have hlook := rowsFrom_look d (sortI ns) (posOf (sortI ns) u) (posOf (sortI ns) v) es hends'
      unfold look at hlook
      rw [hlook, lastE_some]
      simp only [Option.isSome_none, Bool.false_or]
      unfold arcB
      have hum := (memB_iff _ _).1 hu
      have hvm := (memB_iff _ _).1 hv
      rw [Bool.eq_iff_iff, List.any_eq_true, List.any_eq_true]
      have key : ∀ e ∈ es, (hitsB d (sortI ns) (posOf (sortI ns) u) (posOf (sortI ns) v) e = true ↔ arcAt d e u v = true) := fun e he => by
        obtain ⟨h1, h2⟩ := hends' e he
        unfold hitsB arcAt
        simp only [Bool.or_eq_true, Bool.and_eq_true, decide_eq_true_eq, beq_iff_eq, posOf_inj _ _ _ hum h1, posOf_inj _ _ _ hvm h2, posOf_inj _ _ _ hum h2, posOf_inj _ _ _ hvm h1]
        constructor
        · rintro (⟨a, b⟩ | ⟨⟨a, b⟩, c⟩)
          · exact .inl ⟨a.symm, b.symm⟩
          · exact .inr ⟨⟨a, c.symm⟩, b.symm⟩
        · rintro (⟨a, b⟩ | ⟨⟨a, b⟩, c⟩)
          · exact .inl ⟨a.symm, b.symm⟩
          · exact .inr ⟨⟨a, c.symm⟩, b.symm⟩
      constructor
      · rintro ⟨e, he, hh⟩; exact ⟨e, he, (key e he).1 hh⟩
      · rintro ⟨e, he, hh⟩; exact ⟨e, he, (key e he).2 hh⟩
    · have : arcB d es u v = false := by
        rw [Bool.eq_false_iff]
        intro ha
        obtain ⟨e, he, hh⟩ := List.any_eq_true.1 ha
        obtain ⟨h1, h2⟩ := hends' e he
        unfold arcAt at hh
        simp only [Bool.or_eq_true, Bool.and_eq_true, beq_iff_eq] at hh
        rcases hh with ⟨_, b⟩ | ⟨⟨_, b⟩, _⟩
        · exact hv ((memB_iff _ _).2 (b ▸ h2))
        · exact hv ((memB_iff _ _).2 (b ▸ h1))
      rw [this]
      simp [Bool.eq_false_iff.2 hv]
  · have : arcB d es u v = false := by
      rw [Bool.eq_false_iff]
      intro ha
      obtain ⟨e, he, hh⟩ := List.any_eq_true.1 ha
      obtain ⟨h1, h2⟩ := hends' e he
      unfold arcAt at hh
      simp only [Bool.or_eq_true, Bool.and_eq_true, beq_iff_eq] at hh
      rcases hh with ⟨a, _⟩ | ⟨⟨_, _⟩, a⟩
      · exact hu ((memB_iff _ _).2 (a ▸ h1))
      · exact hu ((memB_iff _ _).2 (a ▸ h2))
    rw [this]
    simp [Bool.eq_false_iff.2 hu]

end Go.Proofs.YtnfkbjgijelfdaaGreat
