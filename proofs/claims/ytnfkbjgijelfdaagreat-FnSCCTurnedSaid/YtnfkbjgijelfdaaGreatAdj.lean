/- The nodes to which edges lead in a directed graph; what is no node leads nowhere. No walk. -/
import Derived.Test.YtnfkbjgijelfdaaGreatNextF
import Derived.Test.YtnfkbjgijelfdaaGreatGraphO
namespace Go.Proofs.YtnfkbjgijelfdaaGreat
open Go.RowKit

def adjD (ns : List Int) (es : List (Int × Int × Int)) (x : Int) : List Int := if x ∈ sortI ns then fromL true ns es x else []
theorem adjD_of {ns : List Int} {es : List (Int × Int × Int)} {x : Int} (h : x ∈ sortI ns) : adjD ns es x = fromL true ns es x := if_pos h
theorem mem_adjD {ns : List Int} {es : List (Int × Int × Int)} {x y : Int} : y ∈ adjD ns es x ↔ x ∈ sortI ns ∧ y ∈ sortI ns ∧ arcB true es x y = true := by
  unfold adjD fromL
  by_cases h : x ∈ sortI ns
  · rw [if_pos h, List.mem_filter]; exact ⟨(fun g => ⟨h, g⟩), (fun g => g.2)⟩
  · rw [if_neg h]; exact ⟨(fun g => nomatch g), (fun g => absurd g.1 h)⟩
theorem adjD_sub {ns : List Int} {es : List (Int × Int × Int)} : ∀ a, ∀ b ∈ adjD ns es a, b ∈ sortI ns := fun _ _ h => (mem_adjD.1 h).2.1
theorem adjD_len {ns : List Int} {es : List (Int × Int × Int)} (a : Int) : (adjD ns es a).length ≤ ns.length := by
  unfold adjD fromL
  by_cases h : a ∈ sortI ns
  · rw [if_pos h, ← sortI_len ns]; exact List.length_filter_le ..
  · rw [if_neg h]; exact Nat.zero_le _
theorem adjD_up {ns : List Int} {es : List (Int × Int × Int)} (hw : wellB ns es = true) (a : Int) : (adjD ns es a).Pairwise (· < ·) := by
  unfold adjD fromL
  by_cases h : a ∈ sortI ns
  · rw [if_pos h]; exact (sort_ltF hw).sublist (List.filter_sublist ..)
  · rw [if_neg h]; exact List.Pairwise.nil

/-- A directed graph that is read. -/
theorem dGraphO_of {bp : Nat} {ns : List Int} {es : List (Int × Int × Int)} (hw : wellB ns es = true) :
    GraphO 72 (.agg #[.pointer (some ⟨bp, 0, none⟩)]) 217 215 (Gr bp (sortI ns) (rowsFrom true (sortI ns) es).1 (rowsFrom true (sortI ns) es).2) (sortI ns) (adjD ns es) :=
  (dGraphO bp _ _ _).congr (fun x hx => by rw [adjD_of hx, next_from hw hx])

/-- Edges turned round. -/
def turnE (es : List (Int × Int × Int)) : List (Int × Int × Int) := es.map fun e => (e.2.1, e.1, e.2.2)
theorem turnE_len (es : List (Int × Int × Int)) : (turnE es).length = es.length := by simp [turnE]
theorem arcB_turn (es : List (Int × Int × Int)) (u v : Int) : arcB true (turnE es) u v = arcB true es v u := by
  unfold arcB turnE
  rw [List.any_map]
  congr 1
  funext e
  show arcAt true (e.2.1, e.1, e.2.2) u v = arcAt true e v u
  unfold arcAt
  simp only [Bool.not_true, Bool.false_and, Bool.or_false]
  exact Bool.and_comm _ _
theorem adjD_turn (ns : List Int) (es : List (Int × Int × Int)) (a b : Int) : b ∈ adjD ns es a ↔ a ∈ adjD ns (turnE es) b := by
  rw [mem_adjD, mem_adjD, arcB_turn]
  exact ⟨fun ⟨h1, h2, h3⟩ => ⟨h2, h1, h3⟩, fun ⟨h1, h2, h3⟩ => ⟨h2, h1, h3⟩⟩
theorem well_turn {ns : List Int} {es : List (Int × Int × Int)} (hw : wellB ns es = true) : wellB ns (turnE es) = true := by
  unfold wellB edgesB at hw ⊢
  rw [Bool.and_eq_true] at hw ⊢
  refine ⟨hw.1, ?_⟩
  unfold turnE
  rw [List.all_map, List.all_eq_true]
  intro e he
  have h := List.all_eq_true.1 hw.2 e he
  show edgeB ns (e.2.1, e.1, e.2.2) = true
  unfold edgeB at h ⊢
  simp only [Bool.and_eq_true, Bool.not_eq_true', beq_eq_false_iff_ne, ne_eq] at h ⊢
  exact ⟨⟨⟨⟨fun g => h.1.1.1.1 g.symm, h.1.1.2⟩, h.1.1.1.2⟩, h.1.2⟩, h.2⟩
end Go.Proofs.YtnfkbjgijelfdaaGreat
