/- Plain functions on lists: no program. -/
namespace Go.Proofs.YtbkoifdnlaihfaaGreat

/-- Where a number stands in a list first; -1: nowhere. -/
def idxFrom : List Int → Int → Nat → Int
  | [], _, _ => -1
  | z :: r, x, k => if z = x then k else idxFrom r x (k + 1)

theorem idxFrom_step (zs : List Int) (x : Int) (k : Nat) (h : k < zs.length) :
    idxFrom (zs.drop k) x k = if zs.getD k 0 = x then (k : Int) else idxFrom (zs.drop (k + 1)) x (k + 1) := by
  rw [List.drop_eq_getElem_cons h]; simp [idxFrom, List.getD, h]

theorem idxFrom_end (zs : List Int) (x : Int) (k : Nat) (h : zs.length ≤ k) : idxFrom (zs.drop k) x k = -1 := by
  rw [List.drop_eq_nil_of_le h]; rfl

theorem idxFrom_ge (zs : List Int) (x : Int) : ∀ k, (0 ≤ idxFrom zs x k ↔ x ∈ zs) := by
  induction zs with
  | nil => intro k; simp [idxFrom]
  | cons z r ih =>
    intro k
    unfold idxFrom
    by_cases h : z = x
    · simp [h]
    · rw [if_neg h, ih (k + 1)]; simp [Ne.symm h]

/-- Numbers ascend, each once, from the k-th place on. -/
def risingB : List Int → Bool
  | x :: y :: r => decide (x < y) && risingB (y :: r)
  | _ => true

theorem risingB_iff (zs : List Int) : risingB zs = true ↔ ∀ k, k + 1 < zs.length → zs.getD k 0 < zs.getD (k + 1) 0 := by
  induction zs with
  | nil => simp [risingB]
  | cons x r ih =>
    cases r with
    | nil => simp [risingB]
    | cons y r =>
      simp only [risingB, Bool.and_eq_true, decide_eq_true_eq, ih]
      constructor
      · rintro ⟨h1, h2⟩ k hk
        cases k with
        | zero => simpa using h1
        | succ k => simpa using h2 k (by simpa using hk)
      · intro h
        exact ⟨by simpa using h 0 (by simp), fun k hk => by simpa using h (k + 1) (by simpa using hk)⟩

/-- 'has': whether a number is in a list. -/
def hasB (zs : List Int) (x : Int) : Bool := decide (0 ≤ idxFrom zs x 0)
theorem hasB_iff (zs : List Int) (x : Int) : hasB zs x = true ↔ x ∈ zs := by unfold hasB; rw [decide_eq_true_iff, idxFrom_ge]

/-- Sorted, as the sort's contract has it. -/
def sortI (zs : List Int) : List Int := zs.mergeSort fun x y => decide (x ≤ y)

theorem sortI_perm (zs : List Int) : (sortI zs).Perm zs := List.mergeSort_perm _ _
theorem sortI_len (zs : List Int) : (sortI zs).length = zs.length := (sortI_perm zs).length_eq
theorem sortI_pw (zs : List Int) : (sortI zs).Pairwise (· ≤ ·) := by
  have := List.pairwise_mergeSort (le := fun x y : Int => decide (x ≤ y)) (by simp; omega) (by simp; omega) zs
  simpa [sortI] using this
theorem sortI_unique {l zs : List Int} (hp : l.Perm zs) (hs : l.Pairwise (· ≤ ·)) : l = sortI zs :=
  List.Perm.eq_of_pairwise (le := (· ≤ ·)) (fun a b _ _ h1 h2 => by omega) hs (sortI_pw zs) (hp.trans (sortI_perm zs).symm)
theorem mem_sortI {zs : List Int} {x : Int} : x ∈ sortI zs ↔ x ∈ zs := (sortI_perm zs).mem_iff

/-- Two places of a list exchanged. -/
def swapL (l : List Int) (i j : Nat) : List Int := (l.set i (l.getD j 0)).set j (l.getD i 0)
theorem swapL_len (l : List Int) (i j : Nat) : (swapL l i j).length = l.length := by simp [swapL]
theorem swapL_perm (l : List Int) (i j : Nat) (hi : i < l.length) (hj : j < l.length) : (swapL l i j).Perm l := by
  have h := Array.swap_perm (xs := l.toArray) (i := i) (j := j) (by simpa using hi) (by simpa using hj)
  have h2 := Array.perm_iff_toList_perm.1 h
  simpa [Array.swap_def, swapL, List.getD, hi, hj] using h2
theorem swapL_get (l : List Int) (i j k : Nat) (hi : i < l.length) (hj : j < l.length) :
    (swapL l i j).getD k 0 = if k = j then l.getD i 0 else if k = i then l.getD j 0 else l.getD k 0 := by
  unfold swapL
  simp only [List.getD, List.getElem?_set, List.length_set]
  by_cases h1 : j = k
  · subst h1; simp [hj]
  · rw [if_neg h1, if_neg (Ne.symm h1)]
    by_cases h2 : i = k
    · subst h2; simp [hi]
    · rw [if_neg h2, if_neg (Ne.symm h2)]

theorem swapL_comm (l : List Int) (i j : Nat) (h : i ≠ j) : swapL l i j = swapL l j i := by unfold swapL; rw [List.set_comm _ _ h]

/-- The insertion's inner state: the places 0 to k ascend, but for place i, which is not less than what stands behind it. -/
def InsAt (l : List Int) (k i : Nat) : Prop := ∀ a b, a < b → b ≤ k → b ≠ i → l.getD a 0 ≤ l.getD b 0
theorem InsAt.swap {l : List Int} {k i : Nat} (h : InsAt l k i) (hi : 0 < i) (hik : i ≤ k) (hk : k < l.length) (hlt : l.getD i 0 < l.getD (i - 1) 0) :
    InsAt (swapL l (i - 1) i) k (i - 1) := by
  intro a b hab hbk hb
  rw [swapL_get _ _ _ _ (by omega) (by omega), swapL_get _ _ _ _ (by omega) (by omega)]
  by_cases b1 : b = i
  · subst b1
    rw [if_pos rfl]
    by_cases a1 : a = b - 1
    · subst a1; rw [if_neg (by omega), if_pos rfl]; omega
    · rw [if_neg (by omega), if_neg a1]; exact h a (b - 1) (by omega) (by omega) (by omega)
  · rw [if_neg b1, if_neg hb]
    by_cases a1 : a = i
    · subst a1; rw [if_pos rfl]; exact h (a - 1) b (by omega) hbk b1
    · rw [if_neg a1]
      by_cases a2 : a = i - 1
      · subst a2; rw [if_pos rfl]; exact h i b (by omega) hbk b1
      · rw [if_neg a2]; exact h a b hab hbk b1
/-- The places 0 to k ascend. -/
def SortedTo (l : List Int) (k : Nat) : Prop := ∀ a b, a < b → b ≤ k → l.getD a 0 ≤ l.getD b 0
theorem InsAt.done0 {l : List Int} {k : Nat} (h : InsAt l k 0) : SortedTo l k := fun a b hab hbk => h a b hab hbk (by omega)
theorem InsAt.done {l : List Int} {k i : Nat} (h : InsAt l k i) (hi : 0 < i) (hik : i ≤ k) (hge : l.getD (i - 1) 0 ≤ l.getD i 0) : SortedTo l k := by
  intro a b hab hbk
  by_cases b1 : b = i
  · subst b1
    by_cases a1 : a = b - 1
    · subst a1; exact hge
    · have := h a (b - 1) (by omega) (by omega) (by omega); omega
  · exact h a b hab hbk b1
theorem SortedTo.ins {l : List Int} {k : Nat} (h : SortedTo l k) : InsAt l (k + 1) (k + 1) := fun a b hab hbk hb => h a b hab (by omega)
theorem SortedTo.eq {l zs : List Int} (hp : l.Perm zs) (h : SortedTo l (l.length - 1)) : l = sortI zs := by
  refine sortI_unique hp (List.pairwise_iff_getElem.2 fun i j hi hj hij => ?_)
  have := h i j hij (by omega)
  simpa [List.getD, hi, hj] using this

/-- 'arc': whether there is an edge from u to v. -/
def arcAt (d : Bool) (e : Int × Int × Int) (u v : Int) : Bool := (e.1 == u && e.2.1 == v) || (!d && e.1 == v && e.2.1 == u)
def arcB (d : Bool) (es : List (Int × Int × Int)) (u v : Int) : Bool := es.any fun e => arcAt d e u v
theorem arcB_step (d : Bool) (es : List (Int × Int × Int)) (u v : Int) (k : Nat) (e : Int × Int × Int) (h : es[k]? = some e) :
    arcB d (es.drop k) u v = (arcAt d e u v || arcB d (es.drop (k + 1)) u v) := by
  obtain ⟨hk, rfl⟩ := List.getElem?_eq_some_iff.1 h
  rw [List.drop_eq_getElem_cons hk]; rfl
theorem arcB_end (d : Bool) (es : List (Int × Int × Int)) (u v : Int) (k : Nat) (h : es.length ≤ k) : arcB d (es.drop k) u v = false := by
  rw [List.drop_eq_nil_of_le h]; rfl

/-- 'well': an edge that joins two different nodes, with a weight up to 2^40. -/
def most : Int := 1099511627776
def edgeB (ns : List Int) (e : Int × Int × Int) : Bool := !(e.1 == e.2.1) && hasB ns e.1 && hasB ns e.2.1 && !decide (most < e.2.2) && !decide (e.2.2 < -most)
def edgesB (ns : List Int) (es : List (Int × Int × Int)) : Bool := es.all (edgeB ns)
theorem edgesB_step (ns : List Int) (es : List (Int × Int × Int)) (k : Nat) (e : Int × Int × Int) (h : es[k]? = some e) :
    edgesB ns (es.drop k) = (edgeB ns e && edgesB ns (es.drop (k + 1))) := by
  obtain ⟨hk, rfl⟩ := List.getElem?_eq_some_iff.1 h
  rw [List.drop_eq_getElem_cons hk]; rfl
theorem edgesB_end (ns : List Int) (es : List (Int × Int × Int)) (k : Nat) (h : es.length ≤ k) : edgesB ns (es.drop k) = true := by
  rw [List.drop_eq_nil_of_le h]; rfl
def wellB (ns : List Int) (es : List (Int × Int × Int)) : Bool := risingB (sortI ns) && edgesB ns es

end Go.Proofs.YtbkoifdnlaihfaaGreat
