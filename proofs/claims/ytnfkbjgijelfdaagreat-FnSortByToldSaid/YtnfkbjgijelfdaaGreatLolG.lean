/- Lists of lists of the call's own, over any element; a list of lists and a list in boxes, as closures keep them. -/
import Derived.Test.YtnfkbjgijelfdaaGreatStack
import Derived.Test.YtnfkbjgijelfdaaGreatIterd
namespace Go.Proofs.YtnfkbjgijelfdaaGreat
open Go.RowKit

/-- A list of lists: v its rows' slices vs, ls what they hold. -/
structure LolG {α : Type} (tl te : TypeId) (enc : α → Value) (w : World) (lo : Nat) (v : Value) (vs : List Value) (ls : List (List α)) : Prop where
  row : w.ownsRow lo tl 1 v ls.length vs
  rows : ∀ (i : Nat) (u : Value) (l : List α), vs[i]? = some u → ls[i]? = some l → w.ownsRow lo te 1 u l.length (l.map enc)
  apart : ∀ u ∈ vs, ∀ g, u.ownBlock = some g → v.ownBlock ≠ some g

/-- Its blocks. -/
def LolGF (v : Value) (vs : List Value) (j : Nat) : Prop := some j = v.ownBlock ∨ ∃ u ∈ vs, u.ownBlock = some j

section
variable {α : Type} {tll tl te : TypeId} {enc : α → Value}
theorem LolG.len {w : World} {lo : Nat} {v : Value} {vs : List Value} {ls : List (List α)} (h : LolG tl te enc w lo v vs ls) : vs.length = ls.length := by
  have := h.row.1; omega
theorem LolG.lt {w : World} {lo : Nat} {v : Value} {vs : List Value} {ls : List (List α)} (h : LolG tl te enc w lo v vs ls) {j : Nat} (hj : LolGF v vs j) : lo ≤ j ∧ j < w.heap.size := by
  rcases hj with hj | ⟨u, hu, hj⟩
  · exact h.row.lt j hj.symm
  · obtain ⟨i, hi⟩ := List.getElem?_of_mem hu
    have hil : i < vs.length := (List.getElem?_eq_some_iff.1 hi).1
    rw [h.len] at hil
    exact (h.rows i u ls[i] hi (List.getElem?_eq_getElem hil)).lt j hj
theorem LolG.of_heap {w w' : World} {lo : Nat} {v : Value} {vs : List Value} {ls : List (List α)} (h : LolG tl te enc w lo v vs ls) (hb : ∀ j, LolGF v vs j → w'.heap[j]? = w.heap[j]?) : LolG tl te enc w' lo v vs ls :=
  ⟨ownsRow_of_heap h.row (fun g hg => hb g (.inl hg.symm)), fun i u l hu hl => ownsRow_of_heap (h.rows i u l hu hl) (fun g hg => hb g (.inr ⟨u, List.mem_of_getElem? hu, hg⟩)), h.apart⟩
theorem LolG.nil (w : World) (lo : Nat) : LolG tl te enc w lo (.slice none 0 0) [] [] := ⟨World.ownsRow_nil _ _ _ _, (fun i u l hu _ => by simp at hu), (fun _ hu => nomatch hu)⟩
theorem LolG.more {w w' : World} {lo : Nat} {v v' u : Value} {vs : List Value} {ls : List (List α)} {p : List α} (h : LolG tl te enc w lo v vs ls) (hu : w.ownsRow lo te 1 u p.length (p.map enc)) (hap : ∀ g, u.ownBlock = some g → ¬ LolGF v vs g)
    (ho : w'.ownsRow lo tl 1 v' (ls.length + 1) (vs ++ [u])) (hk : ∀ j, j < w.heap.size → some j ≠ v.ownBlock → w'.heap[j]? = w.heap[j]?) (hf : Fresh w v v') : LolG tl te enc w' lo v' (vs ++ [u]) (ls ++ [p]) := by
  have hap' : ∀ x ∈ vs ++ [u], ∀ g, x.ownBlock = some g → g < w.heap.size ∧ some g ≠ v.ownBlock := fun x hx g hg => by
    rcases List.mem_append.1 hx with hx | hx
    · exact ⟨(h.lt (.inr ⟨x, hx, hg⟩)).2, fun e => h.apart x hx g hg e.symm⟩
    · rw [List.mem_singleton.1 hx] at hg
      exact ⟨(hu.lt g hg).2, fun e => hap g hg (.inl e)⟩
  refine ⟨by rw [List.length_append]; exact ho, fun i x l hx hl => ?_, fun x hx g hg e => ?_⟩
  · have hb := fun g hg => (fun h : g < w.heap.size ∧ some g ≠ v.ownBlock => hk g h.1 h.2) (hap' x (List.mem_of_getElem? hx) g hg)
    by_cases hi : i < vs.length
    · rw [List.getElem?_append_left hi] at hx
      rw [List.getElem?_append_left (by rw [← h.len]; exact hi)] at hl
      exact ownsRow_of_heap (h.rows i x l hx hl) hb
    · rw [List.getElem?_append_right (by omega)] at hx
      rw [List.getElem?_append_right (by rw [← h.len]; omega)] at hl
      rw [h.len] at hx
      obtain ⟨e1, rfl⟩ : i - ls.length = 0 ∧ u = x := by
        have h1 := (List.getElem?_eq_some_iff.1 hx).1
        simp only [List.length_singleton] at h1
        have h0 : i - ls.length = 0 := by omega
        rw [h0] at hx
        exact ⟨h0, by simpa using hx⟩
      rw [e1] at hl
      obtain rfl : p = l := by simpa using hl
      exact ownsRow_of_heap hu hb
  · have h1 := hap' x hx g hg
    rcases hf with h2 | h2
    · exact h1.2 (e.symm.trans h2)
    · have := h2 g e; omega
theorem LolG.lower {w : World} {lo lo' : Nat} {v : Value} {vs : List Value} {ls : List (List α)} (h : LolG tl te enc w lo v vs ls) (hl : lo' ≤ lo) : LolG tl te enc w lo' v vs ls :=
  ⟨own_lower h.row hl, fun i u l hu hl' => own_lower (h.rows i u l hu hl') hl, h.apart⟩

/-- What the closures keep: the box of the list of lists (bl), that of the list under way (bp). -/
def WACG {α : Type} (tll tl te : TypeId) (enc : α → Value) (lo bl bp : Nat) (w : World) (S : Nat → Prop) (ls : List (List α)) (p : List α) : Prop :=
  ∃ (v : Value) (vs : List Value) (u : Value), w.heap[bl]? = some (.cells #[v] tll (0, 0)) ∧ w.heap[bp]? = some (.cells #[u] tl (0, 0)) ∧ LolG tl te enc w lo v vs ls ∧ w.ownsRow lo te 1 u p.length (p.map enc) ∧
    (∀ g, u.ownBlock = some g → ¬ LolGF v vs g) ∧ bl < lo ∧ bp < lo ∧ bl ≠ bp ∧ (∀ j, S j ↔ j = bl ∨ j = bp ∨ LolGF v vs j ∨ some j = u.ownBlock)

theorem WACG.lt {lo bl bp : Nat} {w : World} {S : Nat → Prop} {ls : List (List α)} {p : List α} (h : WACG tll tl te enc lo bl bp w S ls p) : ∀ j, S j → j < w.heap.size := by
  obtain ⟨v, vs, u, h1, h2, h3, h4, h5, h6, h7, h8, h9⟩ := h
  intro j hj
  rcases (h9 j).1 hj with h | h | h | h
  · rw [h]; exact (Array.getElem?_eq_some_iff.1 h1).1
  · rw [h]; exact (Array.getElem?_eq_some_iff.1 h2).1
  · exact (h3.lt h).2
  · exact (h4.lt j h.symm).2
theorem WACG.keeps {lo bl bp : Nat} {w w' : World} {S : Nat → Prop} {ls : List (List α)} {p : List α} (h : WACG tll tl te enc lo bl bp w S ls p) (hb : ∀ j, S j → w'.heap[j]? = w.heap[j]?) : WACG tll tl te enc lo bl bp w' S ls p := by
  obtain ⟨v, vs, u, h1, h2, h3, h4, h5, h6, h7, h8, h9⟩ := h
  exact ⟨v, vs, u, (hb bl ((h9 bl).2 (.inl rfl))).trans h1, (hb bp ((h9 bp).2 (.inr (.inl rfl)))).trans h2, h3.of_heap (fun j hj => hb j ((h9 j).2 (.inr (.inr (.inl hj))))), ownsRow_of_heap h4 (fun g hg => hb g ((h9 g).2 (.inr (.inr (.inr hg.symm))))), h5, h6, h7, h8, h9⟩

theorem WACG.during {lo bl bp : Nat} {w wa w' : World} {S : Nat → Prop} {ls : List (List α)} {p : List α} {x : α} {u u' : Value} (h : WACG tll tl te enc lo bl bp w S ls p) (hu : w.cell? ⟨bp, 0, none⟩ = some u) (ha : Below w.heap.size w wa)
    (ho : w'.ownsRow lo te 1 u' (p.length + 1) (p.map enc ++ [enc x])) (hg : wa.grownBy w' u.ownBlock) (hf : u'.ownBlock = u.ownBlock ∨ ∀ g, u'.ownBlock = some g → w.heap.size ≤ g) :
    ∃ S', WACG tll tl te enc lo bl bp (w'.setCell ⟨bp, 0, none⟩ u') S' ls (p ++ [x]) ∧ Foot S w (w'.setCell ⟨bp, 0, none⟩ u') ∧ ∀ j, S' j → S j ∨ w.heap.size ≤ j := by
  obtain ⟨v, vs, u0, h1, h2, h3, h4, h5, h6, h7, h8, h9⟩ := h
  obtain rfl : u0 = u := by rw [cell_of_row w bp _ _ _ (0, 0) h2] at hu; simpa using hu
  have hbl := (Array.getElem?_eq_some_iff.1 h1).1
  have hbp := (Array.getElem?_eq_some_iff.1 h2).1
  have hF : Foot (fun j => some j = u0.ownBlock) w w' := (Foot.of_below ha _).trans (Foot.of_row hg) (fun j hj => .inl hj)
  have hF2 : Foot S w (w'.setCell ⟨bp, 0, none⟩ u') := (hF.mono (fun j hj => (h9 j).2 (.inr (.inr (.inr hj))))).setCell bp 0 _ (.inl ((h9 bp).2 (.inr (.inl rfl))))
  have hune : ∀ j, j < lo → some j ≠ u0.ownBlock := fun j hj e => by have := (h4.lt j e.symm).1; omega
  have hset : ∀ j, j ≠ bp → (w'.setCell ⟨bp, 0, none⟩ u').heap[j]? = w'.heap[j]? := fun j hj => Below.heap_setCell _ _ _ _ (fun e => hj e)
  have hL : ∀ j, LolGF v vs j → (w'.setCell ⟨bp, 0, none⟩ u').heap[j]? = w.heap[j]? := fun j hj => by
    rw [hset j (fun e => by have := (h3.lt hj).1; omega)]
    exact hF.block j (h3.lt hj).2 (fun e => h5 j e.symm hj)
  refine ⟨fun j => j = bl ∨ j = bp ∨ LolGF v vs j ∨ some j = u'.ownBlock, ⟨v, vs, u', ?_, ?_, h3.of_heap hL, ?_, fun g hg' hj => ?_, h6, h7, h8, fun j => Iff.rfl⟩, hF2, fun j hj => ?_⟩
  · rw [hset bl h8]; exact (hF.block bl hbl (hune bl h6)).trans h1
  · rw [heap_setCell_same ((hF.block bp hbp (hune bp h7)).trans h2)]; rfl
  · rw [List.length_append, List.map_append]
    exact ownsRow_of_heap ho (fun g hg' => hset g (fun e => by have := (ho.lt g hg').1; omega))
  · rcases hf with hf | hf
    · exact h5 g (hf ▸ hg') hj
    · have := hf g hg'; have := (h3.lt hj).2; omega
  · rcases hj with hj | hj | hj | hj
    · exact .inl ((h9 j).2 (.inl hj))
    · exact .inl ((h9 j).2 (.inr (.inl hj)))
    · exact .inl ((h9 j).2 (.inr (.inr (.inl hj))))
    · rcases hf with hf | hf
      · exact .inl ((h9 j).2 (.inr (.inr (.inr (by rw [hj, hf])))))
      · exact .inr (hf j hj.symm)

theorem own_form {w : World} {base size n : Nat} {e : TypeId} {v : Value} {xs : List Value} (h : w.ownsRow base e size v n xs) (hn : 0 < n) : ∃ g cap, v = .slice (some ⟨g, 0, none⟩) n cap ∧ base ≤ g ∧ g < w.heap.size ∧ w.frozen? ⟨g, 0, none⟩ = false := by
  obtain ⟨h1, h2⟩ := h
  rcases h2 with ⟨h3, h4⟩ | ⟨g, cap, cur, h3, h4, h5, h6, h7, h8, h9⟩
  · omega
  · exact ⟨g, cap, h3, h4, (Array.getElem?_eq_some_iff.1 h5).1, by simp [World.frozen?, h5]⟩
theorem own_at {w : World} {B g c n i : Nat} {e : TypeId} {xs : List Value} {u : Value} (h : w.ownsRow B e 1 (.slice (some ⟨g, 0, none⟩) n c) n xs) (hu : xs[i]? = some u) : w.cell? ⟨g, i, none⟩ = some u ∧ w.frozen? ⟨g, i, none⟩ = false := by
  obtain ⟨h1, h2⟩ := h
  rcases h2 with ⟨h3, _⟩ | ⟨g', cap, cur, h3, h4, h5, h6, h7, h8, h9⟩
  · simp at h3
  · simp only [Value.slice.injEq, Option.some.injEq, Addr.mk.injEq, true_and, and_true] at h3
    obtain ⟨rfl, rfl⟩ := h3
    have hi : i < n * 1 := by have := (List.getElem?_eq_some_iff.1 hu).1; omega
    refine ⟨?_, by simp [World.frozen?, h5]⟩
    rw [cell_of_row w g i cur _ (0, 0) h5, ← hu, ← h9, List.getElem?_take_of_lt (by omega), ← Array.getElem?_toList]

/-- A row's cell is set. -/
theorem own_put {w : World} {B g c n i : Nat} {e : TypeId} {xs : List Value} (h : w.ownsRow B e 1 (.slice (some ⟨g, 0, none⟩) n c) n xs) (u : Value) : (w.setCell ⟨g, i, none⟩ u).ownsRow B e 1 (.slice (some ⟨g, 0, none⟩) n c) n (xs.set i u) := by
  obtain ⟨h1, h2⟩ := h
  refine ⟨by simpa using h1, ?_⟩
  rcases h2 with ⟨h3, _⟩ | ⟨g', cap, cur, h3, h4, h5, h6, h7, h8, h9⟩
  · simp at h3
  · simp only [Value.slice.injEq, Option.some.injEq, Addr.mk.injEq, true_and, and_true] at h3
    obtain ⟨rfl, rfl⟩ := h3
    refine .inr ⟨g, c, cur.setIfInBounds i u, rfl, h4, ?_, h6, h7, by simpa using h8, ?_⟩
    · rw [heap_setCell_same h5]
    · rw [← h9, Array.toList_setIfInBounds, List.take_set]
end
end Go.Proofs.YtnfkbjgijelfdaaGreat
