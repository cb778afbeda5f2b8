/- Plain facts for the statements' own reference (spec): no program. -/
import Derived.Test.YtnfkbjgijelfdaaGreatMem
namespace Go.Proofs.YtnfkbjgijelfdaaGreat

theorem ins_pw {l : List Int} {x : Int} {k : Nat} (hs : l.Pairwise (· ≤ ·)) (hk : k ≤ l.length) (h1 : ∀ j, k ≤ j → j < l.length → x ≤ l.getD j 0) (h2 : k = 0 ∨ l.getD (k - 1) 0 ≤ x) :
    (l.take k ++ x :: l.drop k).Pairwise (· ≤ ·) := by
  have hpw := List.pairwise_iff_getElem.1 hs
  have hg : ∀ j (h : j < l.length), l.getD j 0 = l[j] := fun j h => by simp [List.getD, h]
  rw [List.pairwise_append, List.pairwise_cons]
  refine ⟨hs.sublist (List.take_sublist ..), ⟨fun b hb => ?_, hs.sublist (List.drop_sublist ..)⟩, fun a ha b hb => ?_⟩
  · obtain ⟨j, hj, rfl⟩ := List.getElem_of_mem hb
    rw [List.length_drop] at hj
    rw [List.getElem_drop, ← hg]
    exact h1 _ (by omega) (by omega)
  · obtain ⟨i, hi, rfl⟩ := List.getElem_of_mem ha
    rw [List.length_take] at hi
    rw [List.getElem_take]
    have hax : l[i]'(by omega) ≤ x := by
      rcases h2 with h2 | h2
      · omega
      · rw [hg _ (by omega)] at h2
        by_cases e : i = k - 1
        · subst e; exact h2
        · have := hpw i (k - 1) (by omega) (by omega) (by omega); omega
    rcases List.mem_cons.1 hb with rfl | hb
    · exact hax
    · obtain ⟨j, hj, rfl⟩ := List.getElem_of_mem hb
      rw [List.length_drop] at hj
      rw [List.getElem_drop]
      exact hpw _ _ (by omega) (by omega) (by omega)

theorem sortI_ins {l : List Int} {x : Int} {k : Nat} (hk : k ≤ (sortI l).length) (h1 : ∀ j, k ≤ j → j < (sortI l).length → x ≤ (sortI l).getD j 0) (h2 : k = 0 ∨ (sortI l).getD (k - 1) 0 ≤ x) :
    (sortI l).take k ++ x :: (sortI l).drop k = sortI (l ++ [x]) := by
  refine sortI_unique ?_ (ins_pw (sortI_pw l) hk h1 h2)
  have e1 : ((sortI l).take k ++ x :: (sortI l).drop k).Perm (x :: ((sortI l).take k ++ (sortI l).drop k)) := List.perm_middle
  rw [List.take_append_drop] at e1
  exact e1.trans (((sortI_perm l).cons x).trans (List.perm_append_singleton x l).symm)

theorem sortI_nil : sortI [] = [] := (sortI_unique (List.Perm.refl _) List.Pairwise.nil).symm

/-- The nodes that edges lead to. -/
def fromL (d : Bool) (ns : List Int) (es : List (Int × Int × Int)) (u : Int) : List Int := (sortI ns).filter fun v => arcB d es u v

/-- Each node of a list is joined with the next one. -/
def chainS (d : Bool) (es : List (Int × Int × Int)) : List Int → Bool
  | x :: y :: r => arcB d es x y && chainS d es (y :: r)
  | _ => true
theorem chainS_step (d : Bool) (es : List (Int × Int × Int)) (ps : List Int) (t : Nat) (h : t + 1 < ps.length) :
    chainS d es (ps.drop t) = (arcB d es (ps.getD t 0) (ps.getD (t + 1) 0) && chainS d es (ps.drop (t + 1))) := by
  rw [List.drop_eq_getElem_cons (by omega : t < ps.length), List.drop_eq_getElem_cons h]
  simp [chainS, List.getD, h, show t < ps.length by omega]
theorem chainS_end (d : Bool) (es : List (Int × Int × Int)) (ps : List Int) (t : Nat) (h : ps.length ≤ t + 1) : chainS d es (ps.drop t) = true := by
  match hd : ps.drop t, (List.length_drop : (ps.drop t).length = _) with
  | [], _ => rfl
  | [_], _ => rfl
  | _ :: _ :: _, h2 => simp at h2; omega
/-- A list is a path. -/
def pathS (d : Bool) (ns : List Int) (es : List (Int × Int × Int)) (ps : List Int) : Bool :=
  match ps with
  | [x] => hasB ns x
  | _ => chainS d es ps

/-- Two lists are the same from a place on. -/
theorem beq_step {a b : List Int} {k : Nat} (ha : k < a.length) (hb : k < b.length) : (a.drop k == b.drop k) = ((a.getD k 0 == b.getD k 0) && (a.drop (k + 1) == b.drop (k + 1))) := by
  have e1 : a.getD k 0 = a[k] := by simp [List.getD, ha]
  have e2 : b.getD k 0 = b[k] := by simp [List.getD, hb]
  rw [List.drop_eq_getElem_cons ha, List.drop_eq_getElem_cons hb, e1, e2]
  rfl

/-- Two graphs have the same nodes, and the same ones that edges lead to from them. -/
def sameS (l l' : List Int) (f f' : Int → List Int) : Bool := (l == l') && l.all fun u => f u == f' u
theorem all_step {l : List Int} {p : Int → Bool} {k : Nat} (h : k < l.length) : (l.drop k).all p = (p (l.getD k 0) && (l.drop (k + 1)).all p) := by
  have e1 : l.getD k 0 = l[k] := by simp [List.getD, h]
  rw [List.drop_eq_getElem_cons h, e1]
  rfl
end Go.Proofs.YtnfkbjgijelfdaaGreat
