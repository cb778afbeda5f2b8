/- The world within a law. -/
import Derived.Test.YtbkoifdnlaihfaaGreatFits
namespace Go.Proofs.YtbkoifdnlaihfaaGreat
open Go.RowKit

/-- The world within the law: all is as it was; the graph's box. -/
structure LawSt (w : World) (d : Bool) (an ae : Option Addr) (n cn m ce : Nat) (W : World) : Prop where
  below : Below w.heap.size w W
  c0 : W.cell? ⟨w.heap.size, 0, none⟩ = some (.bool d)
  c1 : W.cell? ⟨w.heap.size, 1, none⟩ = some (.slice an n cn)
  c2 : W.cell? ⟨w.heap.size, 2, none⟩ = some (.slice ae m ce)
  size : w.heap.size < W.heap.size

theorem LawSt.start (w : World) (d : Bool) (an ae : Option Addr) (n cn m ce : Nat) : LawSt w d an ae n cn m ce (w.alloc (.cells #[.bool d, .slice an n cn, .slice ae m ce] 25)) :=
  ⟨(Below.refl _ _).alloc (Nat.le_refl _) _, by go_simp, by go_simp, by go_simp, by simp⟩
theorem LawSt.later {w W W' : World} {d : Bool} {an ae : Option Addr} {n cn m ce : Nat} (h : LawSt w d an ae n cn m ce W) (hb : Below W.heap.size W W') : LawSt w d an ae n cn m ce W' :=
  ⟨h.below.trans (hb.mono (Nat.le_of_lt h.size)), (hb.cell (p := ⟨w.heap.size, 0, none⟩) h.size).trans h.c0, (hb.cell (p := ⟨w.heap.size, 1, none⟩) h.size).trans h.c1, (hb.cell (p := ⟨w.heap.size, 2, none⟩) h.size).trans h.c2, Nat.lt_of_lt_of_le h.size hb.size⟩

theorem fewB_parts {ns : List Int} {es : List (Int × Int × Int)} {k : Nat} (h : fewB ns es k = true) : ns.length ≤ k ∧ es.length ≤ 8 * k ∧ wellB ns es = true := by
  unfold fewB at h
  simp only [Bool.and_eq_true, decide_eq_true_eq] at h
  exact ⟨h.1.1, h.1.2, h.2⟩
end Go.Proofs.YtbkoifdnlaihfaaGreat
