/- The walk of lay: an arc laid into the rows of a graph. -/
import Derived.Test.YtnfkbjgijelfdaaGreatArcs
import Derived.Deep.RegionHeld3
import Derived.Deep.RegionLaw
import Derived.Deep.RegionWith
namespace Go.Proofs.YtnfkbjgijelfdaaGreat
open Go.RowKit

/-- Rows of arcs, each in a block of its own; ends below n. -/
structure ArcRows (w : World) (B n : Nat) (vs : List Value) (ls : List Arcs) : Prop where
  len : vs.length = ls.length
  own : ∀ (r : Nat) (v : Value) (l : Arcs), vs[r]? = some v → ls[r]? = some l → OwnA w B v l ∧ ArcsUp l ∧ ∀ a ∈ l, a.1 < n
  apart : ∀ (r s : Nat) (v u : Value) (g : Nat), r ≠ s → vs[r]? = some v → vs[s]? = some u → v.ownBlock = some g → u.ownBlock ≠ some g

/-- A graph's lists in memory, as read makes them. -/
structure PlainSt (w : World) (B bp bo bi n : Nat) (ai : Option Addr) (ci : Nat) (vo vi : List Value) (out inn : List Arcs) : Prop where
  p0 : w.cell? ⟨bp, 0, none⟩ = some (.slice ai n ci)
  p1 : w.cell? ⟨bp, 1, none⟩ = some (.slice (some ⟨bo, 0, none⟩) n n)
  p2 : w.cell? ⟨bp, 2, none⟩ = some (.slice (some ⟨bi, 0, none⟩) n n)
  ho : w.heap[bo]? = some (.cells vo.toArray 224 (0, 0))
  hi : w.heap[bi]? = some (.cells vi.toArray 224 (0, 0))
  lo : vo.length = n
  li : vi.length = n
  mo : out.length = n
  mi : inn.length = n
  below : bp < B ∧ bo < B ∧ bi < B ∧ bo ≠ bi ∧ bp ≠ bo ∧ bp ≠ bi ∧ B ≤ w.heap.size
  rows : ArcRows w B n (vo ++ vi) (out ++ inn)

/-- What lay leaves as it was: all blocks below B but the two of the rows. -/
structure LayFr (w w' : World) (B bo bi : Nat) : Prop where
  os : w'.os = w.os
  tape : w'.tape = w.tape
  output : w'.output = w.output
  size : w.heap.size ≤ w'.heap.size
  block : ∀ k, k < B → k ≠ bo → k ≠ bi → w'.heap[k]? = w.heap[k]?

theorem LayFr.refl (w : World) (B bo bi : Nat) : LayFr w w B bo bi := ⟨rfl, rfl, rfl, Nat.le_refl _, fun _ _ _ _ => rfl⟩
theorem LayFr.trans {w w1 w2 : World} {B bo bi : Nat} (h : LayFr w w1 B bo bi) (k : LayFr w1 w2 B bo bi) : LayFr w w2 B bo bi :=
  ⟨k.os.trans h.os, k.tape.trans h.tape, k.output.trans h.output, Nat.le_trans h.size k.size, fun i a b c => (k.block i a b c).trans (h.block i a b c)⟩

theorem OwnA.shape {w : World} {B : Nat} {v : Value} {l : Arcs} (h : OwnA w B v l) : ∃ a c, v = .slice a l.length c := by
  obtain ⟨h1, ⟨rfl, h0⟩ | ⟨g, cap, cur, rfl, hb, hg, h3, h4, h5, h6⟩⟩ := h
  · exact ⟨none, 0, by rw [h0]⟩
  · exact ⟨_, _, rfl⟩

theorem OwnA.setCell {w : World} {B : Nat} {v : Value} {l : Arcs} (h : OwnA w B v l) (b j : Nat) (u : Value) (hb : b < B) : OwnA (w.setCell ⟨b, j, none⟩ u) B v l :=
  ownsRow_setCell_below h hb u

/-- One row made anew. -/
theorem ArcRows.step {w w1 : World} {B n r : Nat} {vs : List Value} {ls : List Arcs} {v v' : Value} {l' : Arcs} (h : ArcRows w B n vs ls) (hv : vs[r]? = some v)
    (h1 : OwnA w1 B v' l') (h2 : w.grownBy w1 v.ownBlock) (h3 : v'.ownBlock = v.ownBlock ∨ ∃ g, v'.ownBlock = some g ∧ w.heap.size ≤ g) (hup : ArcsUp l') (hto : ∀ a ∈ l', a.1 < n)
    (b j : Nat) (hb : b < B) : ArcRows (w1.setCell ⟨b, j, none⟩ v') B n (vs.set r v') (ls.set r l') := by
  have hlt : ∀ (s : Nat) (u : Value) (g : Nat), vs[s]? = some u → u.ownBlock = some g → g < w.heap.size := fun s u g hu hg => by
    obtain ⟨l, hl⟩ : ∃ l, ls[s]? = some l := ⟨_, List.getElem?_eq_getElem (by rw [← h.len]; exact (List.getElem?_eq_some_iff.1 hu).1)⟩
    exact ((h.own s u l hu hl).1.lt g hg).2
  refine ⟨by simp [h.len], fun s u l hu hl => ?_, fun s t u x g hst hu hx hg => ?_⟩
  · by_cases e : r = s
    · subst e
      rw [List.getElem?_set] at hu hl
      simp only [if_true] at hu hl
      split at hu <;> split at hl <;> simp at hu hl
      subst hu; subst hl
      exact ⟨h1.setCell b j _ hb, hup, hto⟩
    · rw [List.getElem?_set_ne e] at hu hl
      obtain ⟨a1, a2, a3⟩ := h.own s u l hu hl
      refine ⟨OwnA.setCell (a1.kept h2 ?_) b j _ hb, a2, a3⟩
      cases hb : u.ownBlock with
      | none => exact .inl rfl
      | some g => exact .inr (fun e' => h.apart s r u v g (fun e2 => e e2.symm) hu hv hb e'.symm)
  · by_cases e1 : r = s
    · subst e1
      rw [List.getElem?_set_ne hst] at hx
      rw [List.getElem?_set] at hu
      simp only [if_true] at hu
      split at hu <;> simp at hu
      subst hu
      rcases h3 with h3 | ⟨g', h3, hg'⟩
      · exact h.apart r t v x g hst hv hx (h3 ▸ hg)
      · intro hxg
        have := hlt t x g hx hxg
        rw [h3] at hg; cases hg; omega
    · rw [List.getElem?_set_ne e1] at hu
      by_cases e2 : r = t
      · subst e2
        rw [List.getElem?_set] at hx
        simp only [if_true] at hx
        split at hx <;> simp at hx
        subst hx
        rcases h3 with h3 | ⟨g', h3, hg'⟩
        · rw [h3]; exact h.apart s r u v g hst hu hv hg
        · intro hxg
          have := hlt s u g hu hg
          rw [h3] at hxg; cases hxg; omega
      · rw [List.getElem?_set_ne e2] at hx
        exact h.apart s t u x g hst hu hx hg

theorem PlainSt.stepO {w w1 : World} {B bp bo bi n i : Nat} {ai : Option Addr} {ci : Nat} {vo vi : List Value} {out inn : List Arcs} {v v' : Value} {l' : Arcs}
    (h : PlainSt w B bp bo bi n ai ci vo vi out inn) (hi : i < n) (hv : vo[i]? = some v)
    (h1 : OwnA w1 B v' l') (h2 : w.grownBy w1 v.ownBlock) (h3 : v'.ownBlock = v.ownBlock ∨ ∃ g, v'.ownBlock = some g ∧ w.heap.size ≤ g) (hup : ArcsUp l') (hto : ∀ a ∈ l', a.1 < n) :
    PlainSt (w1.setCell ⟨bo, i, none⟩ v') B bp bo bi n ai ci (vo.set i v') vi (out.set i l') inn ∧ LayFr w (w1.setCell ⟨bo, i, none⟩ v') B bo bi := by
  obtain ⟨b1, b2, b3, b4, b5, b6, b7⟩ := h.below
  obtain ⟨l, hl⟩ : ∃ l, out[i]? = some l := ⟨_, List.getElem?_eq_getElem (by rw [h.mo]; exact hi)⟩
  have hvv : (vo ++ vi)[i]? = some v := by rw [List.getElem?_append_left (by rw [h.lo]; exact hi)]; exact hv
  have hll : (out ++ inn)[i]? = some l := by rw [List.getElem?_append_left (by rw [h.mo]; exact hi)]; exact hl
  have hlow : ∀ k, k < B → some k ≠ v.ownBlock := fun k hk e => by have := ((h.rows.own i v l hvv hll).1.lt k e.symm).1; omega
  have hblk : ∀ k, k < B → w1.heap[k]? = w.heap[k]? := fun k hk => h2.block k (by omega) (hlow k hk)
  have hblk2 : ∀ k, k < B → k ≠ bo → (w1.setCell ⟨bo, i, none⟩ v').heap[k]? = w.heap[k]? := fun k hk hne => (Below.heap_setCell _ _ _ _ hne).trans (hblk k hk)
  have hcell : ∀ j, (w1.setCell ⟨bo, i, none⟩ v').cell? ⟨bp, j, none⟩ = w.cell? ⟨bp, j, none⟩ := fun j => World.cell?_of_block (w := w) (a := ⟨bp, j, none⟩) (hblk2 bp b1 b5)
  refine ⟨⟨(hcell 0).trans h.p0, (hcell 1).trans h.p1, (hcell 2).trans h.p2, ?_, (hblk2 bi b3 (Ne.symm b4)).trans h.hi, by simp [h.lo], h.li, by simp [h.mo], h.mi, ⟨b1, b2, b3, b4, b5, b6, ?_⟩, ?_⟩, ⟨h2.os, h2.tape, h2.output, ?_, fun k a b c => hblk2 k a b⟩⟩
  · rw [heap_setCell_same ((hblk bo b2).trans h.ho)]; simp
  · simp [World.setCell]; have := h2.size; omega
  · have := h.rows.step (r := i) hvv h1 h2 h3 hup hto bo i b2
    rw [List.set_append_left _ _ (by rw [h.lo]; exact hi), List.set_append_left _ _ (by rw [h.mo]; exact hi)] at this
    exact this
  · simp [World.setCell]; exact h2.size

theorem PlainSt.stepI {w w1 : World} {B bp bo bi n i : Nat} {ai : Option Addr} {ci : Nat} {vo vi : List Value} {out inn : List Arcs} {v v' : Value} {l' : Arcs}
    (h : PlainSt w B bp bo bi n ai ci vo vi out inn) (hi : i < n) (hv : vi[i]? = some v)
    (h1 : OwnA w1 B v' l') (h2 : w.grownBy w1 v.ownBlock) (h3 : v'.ownBlock = v.ownBlock ∨ ∃ g, v'.ownBlock = some g ∧ w.heap.size ≤ g) (hup : ArcsUp l') (hto : ∀ a ∈ l', a.1 < n) :
    PlainSt (w1.setCell ⟨bi, i, none⟩ v') B bp bo bi n ai ci vo (vi.set i v') out (inn.set i l') ∧ LayFr w (w1.setCell ⟨bi, i, none⟩ v') B bo bi := by
  obtain ⟨b1, b2, b3, b4, b5, b6, b7⟩ := h.below
  obtain ⟨l, hl⟩ : ∃ l, inn[i]? = some l := ⟨_, List.getElem?_eq_getElem (by rw [h.mi]; exact hi)⟩
  have hvv : (vo ++ vi)[n + i]? = some v := by rw [List.getElem?_append_right (by rw [h.lo]; omega), h.lo, show n + i - n = i by omega]; exact hv
  have hll : (out ++ inn)[n + i]? = some l := by rw [List.getElem?_append_right (by rw [h.mo]; omega), h.mo, show n + i - n = i by omega]; exact hl
  have hlow : ∀ k, k < B → some k ≠ v.ownBlock := fun k hk e => by have := ((h.rows.own _ v l hvv hll).1.lt k e.symm).1; omega
  have hblk : ∀ k, k < B → w1.heap[k]? = w.heap[k]? := fun k hk => h2.block k (by omega) (hlow k hk)
  have hblk2 : ∀ k, k < B → k ≠ bi → (w1.setCell ⟨bi, i, none⟩ v').heap[k]? = w.heap[k]? := fun k hk hne => (Below.heap_setCell _ _ _ _ hne).trans (hblk k hk)
  have hcell : ∀ j, (w1.setCell ⟨bi, i, none⟩ v').cell? ⟨bp, j, none⟩ = w.cell? ⟨bp, j, none⟩ := fun j => World.cell?_of_block (w := w) (a := ⟨bp, j, none⟩) (hblk2 bp b1 b6)
  refine ⟨⟨(hcell 0).trans h.p0, (hcell 1).trans h.p1, (hcell 2).trans h.p2, (hblk2 bo b2 b4).trans h.ho, ?_, h.lo, by simp [h.li], h.mo, by simp [h.mi], ⟨b1, b2, b3, b4, b5, b6, ?_⟩, ?_⟩, ⟨h2.os, h2.tape, h2.output, ?_, fun k a b c => hblk2 k a c⟩⟩
  · rw [heap_setCell_same ((hblk bi b3).trans h.hi)]; simp
  · simp [World.setCell]; have := h2.size; omega
  · have := h.rows.step (r := n + i) hvv h1 h2 h3 hup hto bi i b3
    rw [List.set_append_right _ _ (by rw [h.lo]; omega), List.set_append_right _ _ (by rw [h.mo]; omega), h.lo, h.mo, show n + i - n = i by omega] at this
    exact this
  · simp [World.setCell]; exact h2.size

/-- What a region of lay wants to know of the row that it makes anew (the cell's block b, its place i). -/
structure RowAt (w : World) (B bp b i n : Nat) (v : Value) (l : Arcs) : Prop where
  own : OwnA w B v l
  up : ArcsUp l
  to : ∀ a ∈ l, a.1 < n
  cell : w.cell? ⟨b, i, none⟩ = some v
  free : w.frozen? ⟨b, i, none⟩ = false
  np : some bp ≠ v.ownBlock
  nb : some b ≠ v.ownBlock
  size : B ≤ w.heap.size

theorem PlainSt.atO {w : World} {B bp bo bi n i : Nat} {ai : Option Addr} {ci : Nat} {vo vi : List Value} {out inn : List Arcs} (h : PlainSt w B bp bo bi n ai ci vo vi out inn) (hi : i < n) :
    ∃ v l, vo[i]? = some v ∧ out[i]? = some l ∧ RowAt w B bp bo i n v l := by
  obtain ⟨b1, b2, b3, b4, b5, b6, b7⟩ := h.below
  obtain ⟨l, hl⟩ : ∃ l, out[i]? = some l := ⟨_, List.getElem?_eq_getElem (by rw [h.mo]; exact hi)⟩
  obtain ⟨v, hv⟩ : ∃ v, vo[i]? = some v := ⟨_, List.getElem?_eq_getElem (by rw [h.lo]; exact hi)⟩
  obtain ⟨ho, hup, hto⟩ := h.rows.own i v l (by rw [List.getElem?_append_left (by rw [h.lo]; exact hi)]; exact hv) (by rw [List.getElem?_append_left (by rw [h.mo]; exact hi)]; exact hl)
  exact ⟨v, l, hv, hl, ho, hup, hto, by rw [cell_of_row w bo i _ _ (0, 0) h.ho]; simpa using hv, by simp [World.frozen?, h.ho], fun e => by have := (ho.lt _ e.symm).1; omega, fun e => by have := (ho.lt _ e.symm).1; omega, b7⟩

theorem PlainSt.atI {w : World} {B bp bo bi n i : Nat} {ai : Option Addr} {ci : Nat} {vo vi : List Value} {out inn : List Arcs} (h : PlainSt w B bp bo bi n ai ci vo vi out inn) (hi : i < n) :
    ∃ v l, vi[i]? = some v ∧ inn[i]? = some l ∧ RowAt w B bp bi i n v l := by
  obtain ⟨b1, b2, b3, b4, b5, b6, b7⟩ := h.below
  obtain ⟨l, hl⟩ : ∃ l, inn[i]? = some l := ⟨_, List.getElem?_eq_getElem (by rw [h.mi]; exact hi)⟩
  obtain ⟨v, hv⟩ : ∃ v, vi[i]? = some v := ⟨_, List.getElem?_eq_getElem (by rw [h.li]; exact hi)⟩
  obtain ⟨ho, hup, hto⟩ := h.rows.own (n + i) v l (by rw [List.getElem?_append_right (by rw [h.lo]; omega), h.lo, show n + i - n = i by omega]; exact hv) (by rw [List.getElem?_append_right (by rw [h.mo]; omega), h.mo, show n + i - n = i by omega]; exact hl)
  exact ⟨v, l, hv, hl, ho, hup, hto, by rw [cell_of_row w bi i _ _ (0, 0) h.hi]; simpa using hv, by simp [World.frozen?, h.hi], fun e => by have := (ho.lt _ e.symm).1; omega, fun e => by have := (ho.lt _ e.symm).1; omega, b7⟩

end Go.Proofs.YtnfkbjgijelfdaaGreat
