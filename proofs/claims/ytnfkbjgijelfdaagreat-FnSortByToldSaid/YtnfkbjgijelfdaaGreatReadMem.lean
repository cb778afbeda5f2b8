/- The state of read: a graph's lists in memory. -/
import Derived.Test.YtnfkbjgijelfdaaGreatLay
import Derived.Test.YtnfkbjgijelfdaaGreatRead1
namespace Go.Proofs.YtnfkbjgijelfdaaGreat
open Go.RowKit

def nils (k : Nat) : Array Value := (List.replicate k (Value.slice none 0 0)).toArray

/-- The numbers stand, sorted. -/
def IdsDone (w0 : World) (bp k : Nat) (ids : List Int) (a : Option Addr) (c : Nat) (w : World) : Prop :=
  w.heap[bp]? = some (.cells #[.slice a k c, .slice none 0 0, .slice none 0 0] 98 (0, 0)) ∧
    w.ownsRow (bp + 1) 2 1 (.slice a k c) k (ids.map (Value.int .i64)) ∧ Below bp w0 w

theorem IdsDone.later {w0 w w' : World} {bp k : Nat} {ids : List Int} {a : Option Addr} {c : Nat} (h : IdsDone w0 bp k ids a c w) (hb : Below w.heap.size w w') : IdsDone w0 bp k ids a c w' :=
  ⟨(hb.block bp (Array.getElem?_eq_some_iff.1 h.1).1).trans h.1, h.2.1.kept (row := none) ⟨hb.os, hb.tape, hb.output, hb.size, fun k hk _ => hb.block k hk⟩ (by cases (Value.slice a k c).ownBlock <;> simp),
    h.2.2.trans (hb.mono (Nat.le_of_lt (Array.getElem?_eq_some_iff.1 h.1).1))⟩
theorem IdsDone.cell {w0 w : World} {bp k : Nat} {ids : List Int} {a : Option Addr} {c : Nat} (h : IdsDone w0 bp k ids a c w) : w.cell? ⟨bp, 0, none⟩ = some (.slice a k c) := by rw [cell_of_row w bp 0 _ _ (0, 0) h.1]; rfl
theorem IdsDone.rd {w0 w : World} {bp k : Nat} {ids : List Int} {a : Option Addr} {c : Nat} (h : IdsDone w0 bp k ids a c w) : RdI w a k ids := by
  obtain ⟨a', c', e, hr⟩ := RdI.of_owns h.2.1
  simp only [Value.slice.injEq, true_and] at e
  obtain ⟨rfl, rfl⟩ := e
  exact hr

/-- A graph's lists as read makes them; the rows' addresses and their blocks are not told. -/
def ReadSt (w0 : World) (bp k : Nat) (ids : List Int) (a : Option Addr) (c : Nat) (out inn : List Arcs) (w : World) : Prop :=
  ∃ (B bo bi : Nat) (vo vi : List Value), PlainSt w B bp bo bi k a c vo vi out inn ∧ w.ownsRow (bp + 1) 2 1 (.slice a k c) k (ids.map (Value.int .i64)) ∧
    (∀ g, (Value.slice a k c).ownBlock = some g → g < B ∧ g ≠ bo ∧ g ≠ bi) ∧ bp < bo ∧ bp < bi ∧ Below bp w0 w

theorem ownsRow_of_heap {w w' : World} {base : Nat} {e : TypeId} {size : Nat} {v : Value} {n : Nat} {xs : List Value} (h : w.ownsRow base e size v n xs) (hh : ∀ g, v.ownBlock = some g → w'.heap[g]? = w.heap[g]?) : w'.ownsRow base e size v n xs := by
  refine ⟨h.1, ?_⟩
  rcases h.2 with hn | ⟨g, cap, cur, rfl, hb, hg, rest⟩
  · exact .inl hn
  · exact .inr ⟨g, cap, cur, rfl, hb, (hh g rfl).trans hg, rest⟩

theorem ReadSt.rd {w0 w : World} {bp k : Nat} {ids : List Int} {a : Option Addr} {c : Nat} {out inn : List Arcs} (h : ReadSt w0 bp k ids a c out inn w) : RdI w a k ids := by
  obtain ⟨B, bo, bi, vo, vi, hp, ho, _⟩ := h
  obtain ⟨a', c', e, hr⟩ := RdI.of_owns ho
  simp only [Value.slice.injEq, true_and] at e
  obtain ⟨rfl, rfl⟩ := e
  exact hr
theorem ReadSt.cell {w0 w : World} {bp k : Nat} {ids : List Int} {a : Option Addr} {c : Nat} {out inn : List Arcs} (h : ReadSt w0 bp k ids a c out inn w) : w.cell? ⟨bp, 0, none⟩ = some (.slice a k c) := by
  obtain ⟨B, bo, bi, vo, vi, hp, _⟩ := h
  exact hp.p0
theorem ReadSt.size {w0 w : World} {bp k : Nat} {ids : List Int} {a : Option Addr} {c : Nat} {out inn : List Arcs} (h : ReadSt w0 bp k ids a c out inn w) : bp < w.heap.size := by
  obtain ⟨B, bo, bi, vo, vi, hp, _⟩ := h
  have := hp.below; omega
theorem ReadSt.below {w0 w : World} {bp k : Nat} {ids : List Int} {a : Option Addr} {c : Nat} {out inn : List Arcs} (h : ReadSt w0 bp k ids a c out inn w) : Below bp w0 w := by
  obtain ⟨B, bo, bi, vo, vi, _, _, _, _, _, hb⟩ := h
  exact hb

theorem PlainSt.later {w w' : World} {B bp bo bi n : Nat} {ai : Option Addr} {ci : Nat} {vo vi : List Value} {out inn : List Arcs} (h : PlainSt w B bp bo bi n ai ci vo vi out inn) (hb : Below w.heap.size w w') :
    PlainSt w' B bp bo bi n ai ci vo vi out inn := by
  obtain ⟨b1, b2, b3, b4, b5, b6, b7⟩ := h.below
  have hc : ∀ j, w'.cell? ⟨bp, j, none⟩ = w.cell? ⟨bp, j, none⟩ := fun j => hb.cell (p := ⟨bp, j, none⟩) (by show bp < _; omega)
  refine ⟨(hc 0).trans h.p0, (hc 1).trans h.p1, (hc 2).trans h.p2, (hb.block bo (by omega)).trans h.ho, (hb.block bi (by omega)).trans h.hi, h.lo, h.li, h.mo, h.mi, ⟨b1, b2, b3, b4, b5, b6, Nat.le_trans b7 hb.size⟩, ⟨h.rows.len, fun r v l hv hl => ?_, h.rows.apart⟩⟩
  obtain ⟨a1, a2, a3⟩ := h.rows.own r v l hv hl
  exact ⟨a1.kept (grownBy_of_below hb none) (by cases v.ownBlock <;> simp), a2, a3⟩

/-- It outlasts new blocks. -/
theorem ReadSt.later {w0 w w' : World} {bp k : Nat} {ids : List Int} {a : Option Addr} {c : Nat} {out inn : List Arcs} (h : ReadSt w0 bp k ids a c out inn w) (hb : Below w.heap.size w w') : ReadSt w0 bp k ids a c out inn w' := by
  obtain ⟨B, bo, bi, vo, vi, hp, ho, hs, h1, h2, h3⟩ := h
  have := hp.below
  exact ⟨B, bo, bi, vo, vi, hp.later hb, ho.kept (grownBy_of_below hb none) (by cases (Value.slice a k c).ownBlock <;> simp), hs, h1, h2, h3.trans (hb.mono (by omega))⟩

/-- Behind the two makes. -/
theorem ReadSt.made {w0 w w' : World} {bp k bo bi : Nat} {ids : List Int} {a : Option Addr} {c : Nat} (h : IdsDone w0 bp k ids a c w)
    (hbb : (bo = w.heap.size ∧ bi = w.heap.size + 1) ∨ (bo = w.heap.size + 1 ∧ bi = w.heap.size))
    (hw : w' = ((((w.setCell ⟨bp, 1, none⟩ (.slice (some ⟨bo, 0, none⟩) k k)).setCell ⟨bp, 2, none⟩ (.slice (some ⟨bi, 0, none⟩) k k)).alloc (.cells (nils k) 224)).alloc (.cells (nils k) 224)).drew) :
    ReadSt w0 bp k ids a c (List.replicate k []) (List.replicate k []) w' := by
  obtain ⟨h1, h2, h3⟩ := h
  have hlt : bp < w.heap.size := (Array.getElem?_eq_some_iff.1 h1).1
  obtain ⟨w1, hw1⟩ : ∃ w1, w1 = (w.setCell ⟨bp, 1, none⟩ (.slice (some ⟨bo, 0, none⟩) k k)).setCell ⟨bp, 2, none⟩ (.slice (some ⟨bi, 0, none⟩) k k) := ⟨_, rfl⟩
  rw [← hw1] at hw
  have hs1 : w1.heap.size = w.heap.size := by rw [hw1]; simp [World.setCell]
  have hp1 : w1.heap[bp]? = some (.cells #[.slice a k c, .slice (some ⟨bo, 0, none⟩) k k, .slice (some ⟨bi, 0, none⟩) k k] 98 (0, 0)) := by
    rw [hw1, heap_setCell_same (heap_setCell_same h1 _) _]; rfl
  have ho1 : ∀ j, j ≠ bp → w1.heap[j]? = w.heap[j]? := fun j hj => by
    rw [hw1, Below.heap_setCell _ _ _ _ hj, Below.heap_setCell _ _ _ _ hj]
  have hx : ∀ j, j < w.heap.size → w'.heap[j]? = w1.heap[j]? := fun j hj => by
    rw [hw]
    show ((w1.alloc _).alloc _).heap[j]? = _
    rw [heap_alloc_old _ _ (by simp; omega), heap_alloc_old _ _ (by omega)]
  have hn0 : w'.heap[w.heap.size]? = some (.cells (nils k) 224 (0, 0)) := by
    rw [hw]
    show ((w1.alloc _).alloc _).heap[w.heap.size]? = _
    rw [heap_alloc_old _ _ (by simp; omega), ← hs1]; exact heap_alloc_new w1 _
  have hn1 : w'.heap[w.heap.size + 1]? = some (.cells (nils k) 224 (0, 0)) := by
    rw [hw]
    have := heap_alloc_new (w1.alloc (.cells (nils k) 224)) (.cells (nils k) 224)
    simp only [World.alloc, Array.size_push, hs1] at this ⊢
    exact this
  have hsz : w'.heap.size = w.heap.size + 2 := by rw [hw]; show ((w1.alloc _).alloc _).heap.size = _; simp [hs1]
  have hbo : w'.heap[bo]? = some (.cells (nils k) 224 (0, 0)) := by rcases hbb with ⟨e, _⟩ | ⟨e, _⟩ <;> rw [e] <;> assumption
  have hbi : w'.heap[bi]? = some (.cells (nils k) 224 (0, 0)) := by rcases hbb with ⟨_, e⟩ | ⟨_, e⟩ <;> rw [e] <;> assumption
  have hpp := (hx bp hlt).trans hp1
  have hown : ∀ g, (Value.slice a k c).ownBlock = some g → bp + 1 ≤ g ∧ g < w.heap.size := fun g hg => h2.lt g hg
  have hnil : ∀ (r : Nat) (v : Value), (List.replicate k (Value.slice none 0 0) ++ List.replicate k (Value.slice none 0 0))[r]? = some v → v = .slice none 0 0 := fun r v hv => by
    have := List.mem_of_getElem? hv
    simp at this; exact this.2
  have hnil2 : ∀ (r : Nat) (l : Arcs), (List.replicate k ([] : Arcs) ++ List.replicate k [])[r]? = some l → l = [] := fun r v hv => by
    have := List.mem_of_getElem? hv
    simp at this; exact this.2
  refine ⟨w.heap.size + 2, bo, bi, List.replicate k (.slice none 0 0), List.replicate k (.slice none 0 0), ⟨?_, ?_, ?_, hbo, hbi, by simp, by simp, by simp, by simp, ?_, ⟨by simp, fun r v l hv hl => ?_, fun r s v u g _ hv _ hg => ?_⟩⟩, ?_, ?_, by omega, by omega, ?_⟩
  · rw [cell_of_row w' bp 0 _ _ (0, 0) hpp]; rfl
  · rw [cell_of_row w' bp 1 _ _ (0, 0) hpp]; rfl
  · rw [cell_of_row w' bp 2 _ _ (0, 0) hpp]; rfl
  · refine ⟨by omega, by omega, by omega, by omega, by omega, by omega, by omega⟩
  · obtain rfl := hnil r v hv
    obtain rfl := hnil2 r l hl
    exact ⟨World.ownsRow_nil _ _ _ _, fun a b _ hb => by simp at hb, by simp⟩
  · obtain rfl := hnil r v hv
    simp [Value.ownBlock] at hg
  · refine ownsRow_of_heap h2 (fun g hg => ?_)
    have := hown g hg
    rw [hx g this.2, ho1 g (by omega)]
  · intro g hg
    have := hown g hg
    omega
  · refine h3.trans ⟨?_, ?_, ?_, by omega, fun j hj => ?_⟩
    · rw [hw, hw1]; rfl
    · rw [hw, hw1]; rfl
    · rw [hw, hw1]; rfl
    · rw [hx j (by omega), ho1 j (by omega)]

/-- Behind a lay. -/
theorem ReadSt.laid {w0 w w' : World} {B bp k bo bi : Nat} {ids : List Int} {a : Option Addr} {c : Nat} {out inn out' inn' : List Arcs} {vo vi : List Value} (hp : PlainSt w B bp bo bi k a c vo vi out inn)
    (ho : w.ownsRow (bp + 1) 2 1 (.slice a k c) k (ids.map (Value.int .i64))) (hs : ∀ g, (Value.slice a k c).ownBlock = some g → g < B ∧ g ≠ bo ∧ g ≠ bi) (h1 : bp < bo) (h2 : bp < bi) (h3 : Below bp w0 w)
    (hl : LaySt w B bp bo bi k a c out' inn' w') : ReadSt w0 bp k ids a c out' inn' w' := by
  obtain ⟨⟨vo', vi', hp'⟩, hf⟩ := hl
  have := hp.below
  refine ⟨B, bo, bi, vo', vi', hp', ownsRow_of_heap ho (fun g hg => ?_), hs, h1, h2, h3.trans ⟨hf.os, hf.tape, hf.output, hf.size, fun j hj => hf.block j (by omega) (by omega) (by omega)⟩⟩
  have := hs g hg
  exact hf.block g this.1 this.2.1 this.2.2

end Go.Proofs.YtnfkbjgijelfdaaGreat
