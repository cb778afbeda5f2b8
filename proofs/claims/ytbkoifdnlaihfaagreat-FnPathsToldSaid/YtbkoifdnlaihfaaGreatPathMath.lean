/- The plain law of FnIsPath. -/
import Derived.Test.YtbkoifdnlaihfaaGreatRowsMath
import Derived.Test.YtbkoifdnlaihfaaGreatIsPath
namespace Go.Proofs.YtbkoifdnlaihfaaGreat

def chainB (d : Bool) (es : List (Int × Int × Int)) : List Int → Bool
  | x :: y :: r => arcB d es x y && chainB d es (y :: r)
  | _ => true
theorem chainB_step (d : Bool) (es : List (Int × Int × Int)) (ps : List Int) (t : Nat) (h : t + 1 < ps.length) :
    chainB d es (ps.drop t) = (arcB d es (ps.getD t 0) (ps.getD (t + 1) 0) && chainB d es (ps.drop (t + 1))) := by
  rw [List.drop_eq_getElem_cons (by omega : t < ps.length), List.drop_eq_getElem_cons h]
  simp [chainB, List.getD, h, show t < ps.length by omega]
theorem chainB_end (d : Bool) (es : List (Int × Int × Int)) (ps : List Int) (t : Nat) (h : ps.length ≤ t + 1) : chainB d es (ps.drop t) = true := by
  match hd : ps.drop t, (List.length_drop : (ps.drop t).length = _) with
  | [], _ => rfl
  | [_], _ => rfl
  | _ :: _ :: _, h2 => simp at h2; omega

def wantB (d : Bool) (ns : List Int) (es : List (Int × Int × Int)) (ps : List Int) : Bool := (decide (ps.length = 0) || hasB ns (ps.getD 0 0)) && chainB d es ps

theorem links_chain (d : Bool) (ns : List Int) (es : List (Int × Int × Int)) (h : wellB ns es = true) : ∀ ps, linksB (sortI ns) (rowsFrom d (sortI ns) es).1 ps = chainB d es ps := by
  intro ps
  induction ps with
  | nil => rfl
  | cons x r ih =>
    cases r with
    | nil => rfl
    | cons y r => simp only [linksB, chainB]; rw [find_arc d ns es x y h, ih]

theorem path_want (d : Bool) (ns : List Int) (es : List (Int × Int × Int)) (ps : List Int) (h : wellB ns es = true) : isPathB d ns es ps = wantB d ns es ps := by
  unfold isPathB wantB
  rw [h, Bool.true_and]
  match ps with
  | [] => rfl
  | [x] => simp [pathB, chainB, memB_hasB, List.getD]
  | x :: y :: r =>
    rw [show pathB (sortI ns) (rowsFrom d (sortI ns) es).1 (x :: y :: r) = linksB (sortI ns) (rowsFrom d (sortI ns) es).1 (x :: y :: r) from rfl, links_chain d ns es h]
    cases hc : chainB d es (x :: y :: r)
    · simp
    · have : hasB ns x = true := by
        simp only [chainB, Bool.and_eq_true] at hc
        obtain ⟨e, he, hh⟩ := List.any_eq_true.1 hc.1
        obtain ⟨h1, h2⟩ := well_ends h e he
        unfold arcAt at hh
        simp only [Bool.or_eq_true, Bool.and_eq_true, beq_iff_eq] at hh
        rw [hasB_iff]
        rcases hh with ⟨a, _⟩ | ⟨⟨_, _⟩, a⟩
        · exact a ▸ h1
        · exact a ▸ h2
      simp [List.getD, this]

end Go.Proofs.YtbkoifdnlaihfaaGreat
