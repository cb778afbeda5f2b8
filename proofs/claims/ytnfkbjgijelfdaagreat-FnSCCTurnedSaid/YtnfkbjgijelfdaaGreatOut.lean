/- A graph that is being built in a block of its own: its edges grow. -/
import Derived.Test.YtnfkbjgijelfdaaGreatSeen
namespace Go.Proofs.YtnfkbjgijelfdaaGreat
open Go.RowKit

/-- The block bo holds the graph; all blocks below are as in w4. -/
structure OutSt (w4 : World) (bo : Nat) (d : Bool) (vN v : Value) (m : Nat) (es : List (Int × Int × Int)) (wr : World) : Prop where
  blk : wr.heap[bo]? = some (.cells #[.bool d, vN, v] 25 (0, 0))
  edges : wr.ownsRow (bo + 1) 41 3 v m (flatE es)
  below : Below bo w4 wr

section
variable {w4 wr wa w' : World} {bo : Nat} {d : Bool} {vN v v' : Value} {m : Nat} {es : List (Int × Int × Int)}
theorem OutSt.lt (h : OutSt w4 bo d vN v m es wr) : bo < wr.heap.size := (Array.getElem?_eq_some_iff.1 h.blk).1
theorem OutSt.start (h : w4.heap[bo]? = some (.cells #[.bool d, vN, .slice none 0 0] 25 (0, 0))) : OutSt w4 bo d vN (.slice none 0 0) 0 [] w4 := ⟨h, World.ownsRow_nil _ _ _ _, Below.refl _ _⟩
theorem OutSt.later (h : OutSt w4 bo d vN v m es wr) (hb : Below wr.heap.size wr w') : OutSt w4 bo d vN v m es w' := by
  have hlt := h.lt
  exact ⟨(hb.block _ hlt).trans h.blk, ownsRow_of_heap h.edges (fun g hg => hb.block g (h.edges.lt g hg).2), h.below.trans (hb.mono (by omega))⟩
theorem OutSt.cells (h : OutSt w4 bo d vN v m es wr) :
    wr.cell? ⟨bo, 0, none⟩ = some (.bool d) ∧ wr.cell? ⟨bo, 1, none⟩ = some vN ∧ wr.cell? ⟨bo, 2, none⟩ = some v ∧ wr.frozen? ⟨bo, 2, none⟩ = false := by
  refine ⟨?_, ?_, ?_, by simp [World.frozen?, h.blk]⟩ <;> (rw [cell_of_row wr bo _ _ _ (0, 0) h.blk]; rfl)
/-- One more edge. -/
theorem OutSt.more {e : Int × Int × Int} (h : OutSt w4 bo d vN v m es wr) (ha : Below wr.heap.size wr wa)
    (ho : w'.ownsRow (bo + 1) 41 3 v' (m + 1) (flatE es ++ [.int .i64 e.1, .int .i64 e.2.1, .int .i64 e.2.2])) (hg : wa.grownBy w' v.ownBlock) :
    OutSt w4 bo d vN v' (m + 1) (es ++ [e]) (w'.setCell ⟨bo, 2, none⟩ v') := by
  have h1 := h.later ha
  have hlt := h1.lt
  have hv : ∀ j, j ≤ bo → some j ≠ v.ownBlock := fun j hj e => by have := (h1.edges.lt j e.symm).1; omega
  have b1 : w'.heap[bo]? = some (.cells #[.bool d, vN, v] 25 (0, 0)) := (hg.block bo hlt (hv bo (Nat.le_refl _))).trans h1.blk
  refine ⟨?_, ?_, ?_⟩
  · rw [heap_setCell_same b1]; rfl
  · rw [flatE_append]
    refine ownsRow_of_heap ho (fun g hg' => Below.heap_setCell _ _ _ _ (fun e => ?_))
    have := (ho.lt g hg').1
    have e' : g = bo := e
    omega
  · exact (h1.below.grown hg (by omega) (fun j hj => by have := (h1.edges.lt j hj).1; omega)).setCell (by show _ ≤ bo; omega) _
end

theorem flatE_get (es : List (Int × Int × Int)) : ∀ (j : Nat) (e : Int × Int × Int), es[j]? = some e → (flatE es)[j * 3]? = some (.int .i64 e.1) ∧ (flatE es)[j * 3 + 1]? = some (.int .i64 e.2.1) ∧ (flatE es)[j * 3 + 2]? = some (.int .i64 e.2.2) := by
  induction es with
  | nil => intro j e h; simp at h
  | cons a l ih =>
    intro j e h
    have e0 : flatE (a :: l) = .int .i64 a.1 :: .int .i64 a.2.1 :: .int .i64 a.2.2 :: flatE l := rfl
    rw [e0]
    cases j with
    | zero => simp at h; subst h; simp
    | succ j =>
      have := ih j e (by simpa using h)
      rw [show (j + 1) * 3 = j * 3 + 3 from by omega]
      simpa using this

/-- Owned edges read. -/
theorem rdE_of_own {w : World} {B : Nat} {a : Option Addr} {n c : Nat} {es : List (Int × Int × Int)} (h : w.ownsRow B 41 3 (.slice a n c) n (flatE es)) : RdE w a n es := by
  have hlen : es.length = n := by
    have h1 := h.1
    rw [flatE_len] at h1
    omega
  rcases h.2 with ⟨e1, h1⟩ | ⟨g, cap, cur, e1, hb, hg, h3, h4, h5, h6⟩
  · exact ⟨hlen, by omega, by omega⟩
  · simp only [Value.slice.injEq] at e1
    obtain ⟨rfl, -, rfl⟩ := e1
    refine ⟨hlen, by unfold maxLen at h4; omega, fun h0 => ⟨g, 0, rfl, (Array.getElem?_eq_some_iff.1 hg).1, fun j hj => ?_⟩⟩
    obtain ⟨e, he⟩ : ∃ e, es[j]? = some e := ⟨es[j]'(by omega), by simp⟩
    obtain ⟨g0, g1, g2⟩ := flatE_get es j e he
    have key : ∀ i, i < n * 3 → w.cell? ⟨g, i, none⟩ = (flatE es)[i]? := fun i hi => by
      rw [cell_of_row w g i cur _ (0, 0) hg, ← h6, List.getElem?_take_of_lt hi, ← Array.getElem?_toList]
    exact ⟨e.1, e.2.1, e.2.2, he, by rw [Nat.zero_add, key _ (by omega), g0], by rw [Nat.zero_add, key _ (by omega), g1], by rw [Nat.zero_add, key _ (by omega), g2]⟩

/-- A load that a region's walk is not to take first. -/
def slowLoad (t : TypeId) (p : Operand) : Op := Op.load t p
theorem slow_load (t : TypeId) (p : Operand) : Op.load t p = slowLoad t p := rfl
end Go.Proofs.YtnfkbjgijelfdaaGreat
