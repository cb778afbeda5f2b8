/- Iterators in general, and the walk of iterated over any of them. -/
import Derived.Test.YtbkoifdnlaihfaaGreatIter
namespace Go.Proofs.YtbkoifdnlaihfaaGreat
open Go.RowKit

/-- Of the blocks that were there, nothing but those from B to E may have changed. -/
def Within (B E : Nat) (w w' : World) : Prop :=
  w'.os = w.os ∧ w'.tape = w.tape ∧ w'.output = w.output ∧ w.heap.size ≤ w'.heap.size ∧ ∀ k, (k < B ∨ (E ≤ k ∧ k < w.heap.size)) → w'.heap[k]? = w.heap[k]?

theorem Within.refl (B E : Nat) (w : World) : Within B E w w := ⟨rfl, rfl, rfl, Nat.le_refl _, fun _ _ => rfl⟩
theorem Within.trans {B E : Nat} {a b c : World} (h : Within B E a b) (g : Within B E b c) : Within B E a c :=
  ⟨g.1.trans h.1, g.2.1.trans h.2.1, g.2.2.1.trans h.2.2.1, Nat.le_trans h.2.2.2.1 g.2.2.2.1, fun k hk => (g.2.2.2.2 k (hk.imp id fun h' => ⟨h'.1, Nat.lt_of_lt_of_le h'.2 h.2.2.2.1⟩)).trans (h.2.2.2.2 k hk)⟩
theorem Within.only {B E b : Nat} {w w' : World} (h : w.grownBy w' (some b)) (h1 : B ≤ b) (h2 : b < E) (h3 : b < w.heap.size) : Within B E w w' :=
  ⟨h.os, h.tape, h.output, h.size, fun k hk => h.block k (by omega) (by simp; omega)⟩
theorem Within.drewN (B E : Nat) (w : World) (q : Nat) : Within B E w (w.drewN q) := ⟨rfl, rfl, rfl, Nat.le_refl _, fun _ _ => rfl⟩

/-- What is read through t at recv gives one node after the other: P says which it has given last, and which are still to come. -/
structure IsIter (B E : Nat) (t : TypeId) (recv : Value) (fN fV : FuncId) (P : World → Option Int → List Int → Prop) : Prop where
  mNext : ∀ w, (method 408 t recv "Next").run Tryz.prog w = .ok (fN, recv) w
  aNext : ∀ w, (nilAhead 408 t recv "Next").run Tryz.prog w = .ok (some false) w
  mNode : ∀ w, (method 408 t recv "Node").run Tryz.prog w = .ok (fV, recv) w
  aNode : ∀ w, (nilAhead 408 t recv "Node").run Tryz.prog w = .ok (some false) w
  eNext : ∀ args w, (callFunc fN args).run Tryz.prog w = .ok (.enter fN args) w
  eNode : ∀ args w, (callFunc fV args).run Tryz.prog w = .ok (.enter fV args) w
  next : ∀ w c l, P w c l → Calls Tryz.prog fN #[recv] w (fun e w' => e = .returned (.bool (!l.isEmpty)) ∧ P w' l.head? l.tail ∧ Within B E w w')
  node : ∀ w x l, P w (some x) l → Calls Tryz.prog fV #[recv] w (fun e w' => e = .returned (nodeV x) ∧ P w' (some x) l ∧ Within B E w w')
  keeps : ∀ w w' c l, P w c l → Below E w w' → P w' c l


/-- The iterator over a list of nodes. -/
def ItP (B bi : Nat) (ns : List Int) (w : World) (c : Option Int) (l : List Int) : Prop :=
  ∃ k, ItSt w B bi k ns ∧ l = ns.drop k ∧ ∀ x, c = some x → 1 ≤ k ∧ k - 1 < ns.length ∧ x = ns.getD (k - 1) 0

theorem ordered_isIter (B E bi : Nat) (ns : List Int) (hE : bi < E) : IsIter B E 290 (.pointer (some ⟨bi, 0, none⟩)) 281 282 (ItP B bi ns) where
  mNext := fun w => by kernel_rfl
  aNext := fun w => by kernel_rfl
  mNode := fun w => by kernel_rfl
  aNode := fun w => by kernel_rfl
  eNext := Tryz.call281
  eNode := Tryz.call282
  next := fun w c l ⟨k, h, hl, hc⟩ => (next_calls B bi k ns w h).mono fun e w' ⟨h1, h2, h3⟩ => by
    have hB : B ≤ bi := by obtain ⟨a, c, _, _, h, _⟩ := h; exact h
    refine ⟨?_, ?_, Within.only h3 hB hE h.lt⟩
    · rw [h1, hl]
      by_cases hk : k < ns.length
      · simp [hk]
      · simp [hk, List.drop_of_length_le (Nat.le_of_not_lt hk)]
    · by_cases hk : k < ns.length
      · rw [if_pos hk] at h2
        refine ⟨k + 1, h2, by rw [hl, List.tail_drop], fun x hx => ⟨by omega, by omega, ?_⟩⟩
        rw [hl, List.head?_drop] at hx
        simp [List.getD, hx]
      · rw [if_neg hk] at h2
        refine ⟨ns.length + 1, h2, ?_, fun x hx => ?_⟩
        · rw [hl, List.drop_of_length_le (Nat.le_of_not_lt hk), List.drop_of_length_le (by omega)]; rfl
        · rw [hl, List.drop_of_length_le (Nat.le_of_not_lt hk)] at hx; cases hx
  node := fun w x l ⟨k, h, hl, hc⟩ => by
    obtain ⟨h1, h2, rfl⟩ := hc x rfl
    refine (nodeOf_calls B bi (k - 1) ns w (by rw [show k - 1 + 1 = k by omega]; exact h) h2).mono fun e w' ⟨h3, q, hq⟩ => ⟨h3, ?_, ?_⟩
    · subst hq
      exact ⟨k, h, hl, fun y hy => by cases hy; exact ⟨h1, h2, rfl⟩⟩
    · subst hq; exact Within.drewN _ _ _ _
  keeps := fun w w' c l ⟨k, h, hl, hc⟩ hb => ⟨k, by
    obtain ⟨a, cc, h1, h2, h3, h4, h5⟩ := h
    exact ⟨a, cc, (hb.block bi hE).trans h1, ownsRow_heap h2 (fun g hg => hb.block g (Nat.lt_trans (h4 g hg) hE)), h3, h4, h5⟩, hl, hc⟩

end Go.Proofs.YtbkoifdnlaihfaaGreat
