/- Words on rows of arcs: two cells each. -/
import Derived.Test.YtbkoifdnlaihfaaGreatMem
namespace Go.Proofs.YtbkoifdnlaihfaaGreat
open Go.RowKit

abbrev Arcs := List (Nat × Nat)
def toAt (l : Arcs) (j : Nat) : Nat := (l.getD j (0, 0)).1

/-- A slice (address a, length n) of arcs reads as 'l' in 'w': two cells each: the index, the weight's bits. -/
structure RdA (w : World) (a : Option Addr) (n : Nat) (l : Arcs) : Prop where
  len : l.length = n
  small : n < 4611686018427387904
  at_ : 0 < n → ∃ b off, a = some ⟨b, off, none⟩ ∧ b < w.heap.size ∧ ∀ j, j < n → ∃ t f : Nat, Hid (l[j]? = some (t, f)) ∧
    w.cell? ⟨b, off + j * 2, none⟩ = some (.int .i64 t) ∧ w.cell? ⟨b, off + j * 2 + 1, none⟩ = some (.float .f64 f)

theorem RdA.below {w w' : World} {a : Option Addr} {n : Nat} {l : Arcs} {B : Nat} (h : RdA w a n l) (hb : Below B w w') (hB : w.heap.size ≤ B) : RdA w' a n l :=
  ⟨h.len, h.small, fun h0 => by
    obtain ⟨b, off, e, hb', hc⟩ := h.at_ h0
    exact ⟨b, off, e, Nat.lt_of_lt_of_le hb' hb.size, fun j hj => by
      obtain ⟨u, v, hz, h1, h2⟩ := hc j hj
      exact ⟨u, v, hz, (hb.cell (p := ⟨b, _, none⟩) (by show b < B; omega)).trans h1, (hb.cell (p := ⟨b, _, none⟩) (by show b < B; omega)).trans h2⟩⟩⟩

/-- The arcs' ends ascend. -/
def ArcsUp (l : Arcs) : Prop := ∀ a b, a < b → b < l.length → toAt l a < toAt l b

/-- What a binary search for k says: the place, and whether k stands there. -/
def FoundAt (l : Arcs) (k i : Nat) (found : Bool) : Prop :=
  i ≤ l.length ∧ (∀ a, a < i → toAt l a < k) ∧ (∀ a, i ≤ a → a < l.length → k ≤ toAt l a) ∧ (found = decide (i < l.length ∧ toAt l i = k))

def ArcFound (l : Arcs) (k : Nat) (w : World) (e : Ending) (w' : World) : Prop :=
  ∃ i found, e = .returned (.tuple #[.int .i64 (i : Nat), .bool found]) ∧ FoundAt l k i found ∧ Below w.heap.size w w'

/-- A row of arcs as cells. -/
def flat (l : Arcs) : List Value := l.flatMap fun a => [.int .i64 a.1, .float .f64 a.2]
theorem flat_len (l : Arcs) : (flat l).length = l.length * 2 := by
  induction l with
  | nil => rfl
  | cons a l ih => simp only [flat, List.flatMap_cons, List.length_append, List.length_cons, List.length_nil] at ih ⊢; omega
theorem flat_append (l m : Arcs) : flat (l ++ m) = flat l ++ flat m := List.flatMap_append
theorem flat_cons (a : Nat × Nat) (l : Arcs) : flat (a :: l) = [.int .i64 a.1, .float .f64 a.2] ++ flat l := rfl
theorem flat_take (l : Arcs) (i : Nat) (h : i ≤ l.length) : (flat l).take (i * 2) = flat (l.take i) := by
  have e : flat l = flat (l.take i) ++ flat (l.drop i) := by rw [← flat_append, List.take_append_drop]
  have hl : (flat (l.take i)).length = i * 2 := by rw [flat_len, List.length_take]; omega
  rw [e, ← hl, List.take_left]
theorem flat_drop (l : Arcs) (i : Nat) (h : i ≤ l.length) : (flat l).drop (i * 2) = flat (l.drop i) := by
  have e : flat l = flat (l.take i) ++ flat (l.drop i) := by rw [← flat_append, List.take_append_drop]
  have hl : (flat (l.take i)).length = i * 2 := by rw [flat_len, List.length_take]; omega
  rw [e, ← hl, List.drop_left]
theorem flat_one (l : Arcs) : ∀ v ∈ flat l, v.oneCell' = true := by
  intro v hv
  obtain ⟨a, _, h⟩ := List.mem_flatMap.1 hv
  rcases List.mem_cons.1 h with rfl | h
  · rfl
  · obtain rfl := List.mem_singleton.1 h; rfl
theorem flat_set (l : Arcs) (k f x : Nat) : ∀ i, l[i]? = some (k, f) → (flat l).set (i * 2 + 1) (.float .f64 x) = flat (l.set i (k, x)) := by
  induction l with
  | nil => intro i h; simp at h
  | cons a r ih =>
    intro i h
    cases i with
    | zero =>
      obtain rfl : a = (k, f) := by simpa using h
      rfl
    | succ i =>
      have := ih i (by simpa using h)
      rw [List.set_cons_succ, flat_cons, flat_cons, ← this, show (i + 1) * 2 + 1 = i * 2 + 1 + 1 + 1 by omega]
      rfl
theorem pair_one (k x : Nat) : ∀ v ∈ [Value.int .i64 k, Value.float .f64 x], v.oneCell' = true := by
  intro v hv
  rcases List.mem_cons.1 hv with rfl | hv
  · rfl
  · obtain rfl := List.mem_singleton.1 hv; rfl
theorem flat_get (l : Arcs) (j : Nat) (t f : Nat) (h : l[j]? = some (t, f)) : (flat l)[j * 2]? = some (.int .i64 t) ∧ (flat l)[j * 2 + 1]? = some (.float .f64 f) := by
  obtain ⟨hj, he⟩ := List.getElem?_eq_some_iff.1 h
  have e : flat l = flat (l.take j) ++ flat (l.drop j) := by rw [← flat_append, List.take_append_drop]
  have hl : (flat (l.take j)).length = j * 2 := by rw [flat_len, List.length_take]; omega
  rw [e, List.drop_eq_getElem_cons hj, he, flat_cons]
  constructor
  · rw [List.getElem?_append_right (by omega), hl, Nat.sub_self]; rfl
  · rw [List.getElem?_append_right (by omega), hl, show j * 2 + 1 - j * 2 = 1 by omega]; rfl

/-- The row with an arc put in at i. -/
def insL (l : Arcs) (i : Nat) (a : Nat × Nat) : Arcs := l.take i ++ a :: l.drop i
theorem insL_end (l : Arcs) (n k x : Nat) (h : l.length = n) : flat (insL l n (k, x)) = flat l ++ [.int .i64 k, .float .f64 x] := by
  rw [insL, List.take_of_length_le (by omega), List.drop_eq_nil_of_le (by omega), flat_append]; rfl
theorem insL_len (l : Arcs) (i : Nat) (a : Nat × Nat) (h : i ≤ l.length) : (insL l i a).length = l.length + 1 := by
  simp [insL]; omega

end Go.Proofs.YtbkoifdnlaihfaaGreat
