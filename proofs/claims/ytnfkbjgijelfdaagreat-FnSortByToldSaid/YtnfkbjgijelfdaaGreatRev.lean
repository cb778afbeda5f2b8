/- slices.Reverse at nodes, at places that may be empty, and at slices of nodes. -/
import Derived.Test.YtnfkbjgijelfdaaGreatShelfR
import Derived.Test.YtnfkbjgijelfdaaGreatLolG
import Derived.Test.YtnfkbjgijelfdaaGreatFoot
import Derived.Test.YtnfkbjgijelfdaaGreatOpen
import Derived.Lib.OwnBridge
namespace Go.Proofs.YtnfkbjgijelfdaaGreat
open Go.RowKit Go.Sort Go.Lib

def RevPost (lo : Nat) (v : Value) (n : Nat) (l : List Int) (w : World) (e : Ending) (w' : World) : Prop :=
  e = .returned (.tuple #[]) ∧ w'.ownsRow lo 103 1 v n (l.reverse.map nodeV) ∧ Foot (fun j => some j = v.ownBlock) w w'

theorem revN_calls (lo : Nat) (v : Value) (n : Nat) (l : List Int) (w : World) (ho : w.ownsRow lo 103 1 v n (l.map nodeV)) (hn : n ≤ 1000000) :
    Calls Tryz.prog 126 #[v] w (RevPost lo v n l w) := by
  obtain ⟨a0, c0, rfl⟩ := own_shape' ho
  have hl : l.length = n := by have := ho.1; simpa using this
  by_cases h0 : n = 0
  · subst h0
    have hnil : l = [] := List.eq_nil_of_length_eq_zero hl
    subst hnil
    refine (Tryz.slices_Reverse_empty_f126 (α := Int) a0 c0 w).mono ?_
    rintro e w' ⟨rfl, rfl⟩
    exact ⟨rfl, ho, Foot.refl _ _⟩
  · obtain ⟨g, c, e, hg0, hg1, hm1, hm2, -, hH⟩ := Lib.holds_of_ownsRow ho (by
      intro e
      simp only [Value.slice.injEq] at e
      exact h0 e.2.1)
    simp only [Value.slice.injEq, true_and] at e
    obtain ⟨rfl, rfl⟩ := e
    have hc := Tryz.slices_Reverse_f126 (α := Int) nodeV (fun _ => rfl) g 0 c0 l w hH (by omega)
    rw [hl] at hc
    refine hc.mono ?_
    rintro e w' ⟨rfl, q, hw'⟩
    have h2 := Lib.ownsRow_putRow (q := q) ho (ys := l.reverse) (by rw [List.length_reverse, hl]) (Nat.le_refl _)
    rw [List.take_of_length_le (by rw [List.length_reverse, hl]; exact Nat.le_refl _), ← hw'] at h2
    refine ⟨rfl, h2, ?_⟩
    rw [hw']
    refine ⟨rfl, rfl, rfl, by simp [Sort.putRow, Sort.mapBlock, Sort.ahead], fun k hk hne => ?_⟩
    have : g ≠ k := fun e => hne (by rw [e]; rfl)
    simp [Sort.putRow, Sort.mapBlock, Sort.ahead, Array.getElem?_modify, this]

/-- A row reversed in place. -/
def RevGPost (T : TypeId) (lo : Nat) (v : Value) (n : Nat) (xs : List Value) (w : World) (e : Ending) (w' : World) : Prop :=
  e = .returned (.tuple #[]) ∧ w'.ownsRow lo T 1 v n xs ∧ Foot (fun j => some j = v.ownBlock) w w'

theorem foot_putRow {α : Type} [Inhabited α] (enc : α → Value) (w : World) (g q : Nat) (d : Array α) : Foot (fun j => some j = some g) w (putRow enc (Sort.ahead w q) g 0 d) := by
  refine ⟨rfl, rfl, rfl, by simp [Sort.putRow, Sort.mapBlock, Sort.ahead], fun k hk hne => ?_⟩
  have : g ≠ k := fun e => hne (by rw [e])
  simp [Sort.putRow, Sort.mapBlock, Sort.ahead, Array.getElem?_modify, this]

theorem revG_calls {α : Type} [Inhabited α] (enc : α → Value) (h1 : OneCell enc) (lo : Nat) (v : Value) (n : Nat) (l : List α) (w : World) (ho : w.ownsRow lo 103 1 v n (l.map enc)) (hn : n ≤ 1000000) :
    Calls Tryz.prog 126 #[v] w (RevGPost 103 lo v n (l.reverse.map enc) w) := by
  obtain ⟨a0, c0, rfl⟩ := own_shape' ho
  have hl : l.length = n := by have := ho.1; simpa using this
  by_cases h0 : n = 0
  · subst h0
    have hnil : l = [] := List.eq_nil_of_length_eq_zero hl
    subst hnil
    refine (Tryz.slices_Reverse_empty_f126 (α := Int) a0 c0 w).mono ?_
    rintro e w' ⟨rfl, rfl⟩
    exact ⟨rfl, ho, Foot.refl _ _⟩
  · obtain ⟨g, c, e, hg0, hg1, hm1, hm2, -, hH⟩ := Lib.holds_of_ownsRow ho (by
      intro e
      simp only [Value.slice.injEq] at e
      exact h0 e.2.1)
    simp only [Value.slice.injEq, true_and] at e
    obtain ⟨rfl, rfl⟩ := e
    have hc := Tryz.slices_Reverse_f126 enc h1 g 0 c0 l w hH (by omega)
    rw [hl] at hc
    refine hc.mono ?_
    rintro e w' ⟨rfl, q, hw'⟩
    have h2 := Lib.ownsRow_putRow (q := q) ho (ys := l.reverse) (by rw [List.length_reverse, hl]) (Nat.le_refl _)
    rw [List.take_of_length_le (by rw [List.length_reverse, hl]; exact Nat.le_refl _), ← hw'] at h2
    exact ⟨rfl, h2, by rw [hw']; exact foot_putRow enc w g q _⟩

/-- The kit's contract of slices.Reverse at slices of nodes that are called topo.Unorderable. -/
def revU_ren : Go.Shelf.Ren := ⟨fun | 35 => 140 | n => n, fun | 22 => 145 | 23 => 77 | 3 => 3 | 4 => 4 | 0 => 0 | n => n, fun | n => n⟩
theorem laysRevU : Go.Proofs.SlLaysE.n35 Tryz.prog revU_ren := {
  mixed := by kernel_rfl
  f35 := ⟨Tryz.f140.name, by decide, Tryz.func140.trans (congrArg some (by kernel_rfl))⟩
  t0 := Tryz.underlying0
  a0 := Tryz.isAgg0
  z0 := Tryz.sizeOf0
  v0 := Tryz.zeroValue0
  t3 := Tryz.underlying3
  a3 := Tryz.isAgg3
  z3 := Tryz.sizeOf3
  v3 := Tryz.zeroValue3
  t4 := Tryz.underlying4
  a4 := Tryz.isAgg4
  z4 := Tryz.sizeOf4
  v4 := Tryz.zeroValue4
  t22 := Tryz.underlying145
  a22 := Tryz.isAgg145
  z22 := Tryz.sizeOf145
  v22 := Tryz.zeroValue145
  a23 := Tryz.isAgg77
  z23 := Tryz.sizeOf77 }

theorem revU_calls {α : Type} [Inhabited α] (enc : α → Value) (h1 : OneCell enc) (lo : Nat) (v : Value) (n : Nat) (l : List α) (w : World) (ho : w.ownsRow lo 77 1 v n (l.map enc)) (hn : n ≤ 1000000) :
    Calls Tryz.prog 140 #[v] w (RevGPost 77 lo v n (l.reverse.map enc) w) := by
  obtain ⟨a0, c0, rfl⟩ := own_shape' ho
  have hl : l.length = n := by have := ho.1; simpa using this
  by_cases h0 : n = 0
  · subst h0
    have hnil : l = [] := List.eq_nil_of_length_eq_zero hl
    subst hnil
    have hc : Calls Tryz.prog 140 #[.slice a0 0 c0] w fun e w' => e = .returned (.tuple #[]) ∧ w' = w := Go.Proofs.AnyE.slices_Reverse_empty laysRevU a0 c0 w
    refine hc.mono ?_
    rintro e w' ⟨rfl, rfl⟩
    exact ⟨rfl, ho, Foot.refl _ _⟩
  · obtain ⟨g, c, e, hg0, hg1, hm1, hm2, -, hH⟩ := Lib.holds_of_ownsRow ho (by
      intro e
      simp only [Value.slice.injEq] at e
      exact h0 e.2.1)
    simp only [Value.slice.injEq, true_and] at e
    obtain ⟨rfl, rfl⟩ := e
    have hc : Calls Tryz.prog 140 #[.slice (some ⟨g, 0, none⟩) l.length c0] w fun e w' => e = .returned (.tuple #[]) ∧ ∃ n, w' = putRow enc (Sort.ahead w n) g 0 l.reverse.toArray := Go.Proofs.AnyE.slices_Reverse laysRevU enc h1 g 0 c0 l w hH (by omega)
    rw [hl] at hc
    refine hc.mono ?_
    rintro e w' ⟨rfl, q, hw'⟩
    have h2 := Lib.ownsRow_putRow (q := q) ho (ys := l.reverse) (by rw [List.length_reverse, hl]) (Nat.le_refl _)
    rw [List.take_of_length_le (by rw [List.length_reverse, hl]; exact Nat.le_refl _), ← hw'] at h2
    exact ⟨rfl, h2, by rw [hw']; exact foot_putRow enc w g q _⟩
end Go.Proofs.YtnfkbjgijelfdaaGreat
