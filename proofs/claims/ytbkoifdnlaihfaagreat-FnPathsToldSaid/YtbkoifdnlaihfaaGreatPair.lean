/- The walks of the iterator over two lists of nodes, each node once. -/
import Derived.Test.YtbkoifdnlaihfaaGreatIter
import Derived.Test.YtbkoifdnlaihfaaGreatGMaps
import Derived.Test.YtbkoifdnlaihfaaGreatOpen
import Derived.Deep.RegionHeld3
import Derived.StillTailTactics
namespace Go.Proofs.YtbkoifdnlaihfaaGreat
open Go.RowKit

/-- An iterator's own blocks lie from B to bi. -/
theorem ItSt.of_range {w w' : World} {B bi k : Nat} {ns : List Int} (h : ItSt w B bi k ns) (e : ∀ j, B ≤ j → j ≤ bi → w'.heap[j]? = w.heap[j]?) : ItSt w' B bi k ns := by
  obtain ⟨a, c, h1, h2, h3, h4, h5⟩ := h
  refine ⟨a, c, (e bi h3 (Nat.le_refl _)).trans h1, ownsRow_heap h2 (fun g hg => e g ?_ (Nat.le_of_lt (h4 g hg))), h3, h4, h5⟩
  exact (h2.lt g hg).1

def ResetPost (w : World) (B bi : Nat) (ns : List Int) (e : Ending) (w' : World) : Prop :=
  e = .returned (.tuple #[]) ∧ ItSt w' B bi 0 ns ∧ OnlyBlk w w' bi

set_option maxHeartbeats 400000 in
theorem reset_calls (B bi k : Nat) (ns : List Int) (w : World) (h : ItSt w B bi k ns) :
    Calls Tryz.prog 284 #[.pointer (some ⟨bi, 0, none⟩)] w (ResetPost w B bi ns) := by
  have H := Lib.hid h
  obtain ⟨a, c, h1, h2, h3, h4, h5, h6⟩ := h
  have q0 : w.cell? ⟨bi, 0, none⟩ = some (.int .i64 ((k : Int) - 1)) := by rw [cell_of_row w bi 0 _ _ (0, 0) h1]; rfl
  have f0 : w.frozen? ⟨bi, 0, none⟩ = false := by simp [World.frozen?, h1]
  clear h1 h2 h3 h4
  go_enter Tryz.func284, Tryz.ntmps284
  go_wp2
  go_end0
  have hs := H.out.set (k' := 0) (by omega) 0
  exact ⟨rfl, hs.1, hs.2⟩

/-- The pair's block. -/
def PairBlk (w : World) (bn ba bb bm : Nat) (curr : Value) (idx cnt : Int) : Prop :=
  w.heap[bn]? = some (.cells #[iterV ba, iterV bb, curr, .int .i64 idx, .int .i64 cnt, .map (some bm)] 302 (0, 0))

theorem PairBlk.lt {w : World} {bn ba bb bm : Nat} {curr : Value} {idx cnt : Int} (h : PairBlk w bn ba bb bm curr idx cnt) : bn < w.heap.size := (Array.getElem?_eq_some_iff.1 h).1
theorem PairBlk.of_heap {w w' : World} {bn ba bb bm : Nat} {curr : Value} {idx cnt : Int} (h : PairBlk w bn ba bb bm curr idx cnt) (e : w'.heap[bn]? = w.heap[bn]?) : PairBlk w' bn ba bb bm curr idx cnt := e.trans h
theorem PairBlk.cells {w : World} {bn ba bb bm : Nat} {curr : Value} {idx cnt : Int} (h : PairBlk w bn ba bb bm curr idx cnt) :
    w.cell? ⟨bn, 0, none⟩ = some (iterV ba) ∧ w.cell? ⟨bn, 1, none⟩ = some (iterV bb) ∧ w.cell? ⟨bn, 2, none⟩ = some curr ∧ w.cell? ⟨bn, 3, none⟩ = some (.int .i64 idx) ∧ w.cell? ⟨bn, 4, none⟩ = some (.int .i64 cnt) ∧ w.cell? ⟨bn, 5, none⟩ = some (.map (some bm)) := by
  refine ⟨?_, ?_, ?_, ?_, ?_, ?_⟩ <;> (rw [cell_of_row w bn _ _ _ (0, 0) h]; rfl)
theorem PairBlk.free {w : World} {bn ba bb bm : Nat} {curr : Value} {idx cnt : Int} (h : PairBlk w bn ba bb bm curr idx cnt) (j : Nat) : w.frozen? ⟨bn, j, none⟩ = false := by simp [World.frozen?, show w.heap[bn]? = _ from h]
theorem PairBlk.set2 {w : World} {bn ba bb bm : Nat} {curr : Value} {idx cnt : Int} (h : PairBlk w bn ba bb bm curr idx cnt) (v : Value) : PairBlk (w.setCell ⟨bn, 2, none⟩ v) bn ba bb bm v idx cnt := by
  unfold PairBlk; rw [heap_setCell_same h]; rfl
theorem PairBlk.set3 {w : World} {bn ba bb bm : Nat} {curr : Value} {idx cnt : Int} (h : PairBlk w bn ba bb bm curr idx cnt) (v : Int) : PairBlk (w.setCell ⟨bn, 3, none⟩ (.int .i64 v)) bn ba bb bm curr v cnt := by
  unfold PairBlk; rw [heap_setCell_same h]; rfl
theorem PairBlk.set4 {w : World} {bn ba bb bm : Nat} {curr : Value} {idx cnt : Int} (h : PairBlk w bn ba bb bm curr idx cnt) (v : Int) : PairBlk (w.setCell ⟨bn, 4, none⟩ (.int .i64 v)) bn ba bb bm curr idx v := by
  unfold PairBlk; rw [heap_setCell_same h]; rfl

/-- The whole of a pair. -/
structure PairSt (w : World) (B Bb bn ba bb bm ka kb n : Nat) (outs ins : List Int) (curr : Value) (idx cnt : Int) (f : Int → Option Value) : Prop where
  blk : PairBlk w bn ba bb bm curr idx cnt
  ia : ItSt w B ba ka outs
  ib : ItSt w Bb bb kb ins
  map : GM Tryz.prog 2 w bm n f
  ord : ba < Bb ∧ bb < bn ∧ bb < bm ∧ bn ≠ bm

/-- What the map says when the first list has come as far as k. -/
def uniq (outs ins : List Int) : Int → Option Value := fun x => if x ∈ outs then some (.bool false) else if x ∈ ins then some (.bool true) else none

theorem PairSt.nextA {w w' : World} {B Bb bn ba bb bm ka kb n ka' : Nat} {outs ins : List Int} {curr : Value} {idx cnt : Int} {f : Int → Option Value} (h : PairSt w B Bb bn ba bb bm ka kb n outs ins curr idx cnt f)
    (h1 : ItSt w' B ba ka' outs) (h2 : OnlyBlk w w' ba) : PairSt w' B Bb bn ba bb bm ka' kb n outs ins curr idx cnt f := by
  obtain ⟨o1, o2, o3, o4⟩ := h.ord
  have hb := h.ib.lt
  have hB : Bb ≤ bb := by obtain ⟨a, c, _, _, h, _⟩ := h.ib; exact h
  exact ⟨h.blk.of_heap (h2.block bn h.blk.lt (by simp; omega)), h1, h.ib.of_range (fun j j1 j2 => h2.block j (by omega) (by simp; omega)), h.map.kept h2 (by simp; omega), h.ord⟩
theorem PairSt.nextB {w w' : World} {B Bb bn ba bb bm ka kb n kb' : Nat} {outs ins : List Int} {curr : Value} {idx cnt : Int} {f : Int → Option Value} (h : PairSt w B Bb bn ba bb bm ka kb n outs ins curr idx cnt f)
    (h1 : ItSt w' Bb bb kb' ins) (h2 : OnlyBlk w w' bb) : PairSt w' B Bb bn ba bb bm ka kb' n outs ins curr idx cnt f := by
  obtain ⟨o1, o2, o3, o4⟩ := h.ord
  have hb := h.ia.lt
  have hB : Bb ≤ bb := by obtain ⟨a, c, _, _, h, _⟩ := h.ib; exact h
  exact ⟨h.blk.of_heap (h2.block bn h.blk.lt (by simp; omega)), h.ia.of_range (fun j j1 j2 => h2.block j (by omega) (by simp; omega)), h1, h.map.kept h2 (by simp; omega), h.ord⟩
theorem PairSt.mapped {w w' : World} {B Bb bn ba bb bm ka kb n n' : Nat} {outs ins : List Int} {curr : Value} {idx cnt : Int} {f f' : Int → Option Value} (h : PairSt w B Bb bn ba bb bm ka kb n outs ins curr idx cnt f)
    (h1 : GM Tryz.prog 2 w' bm n' f') (h2 : w.grownBy w' (some bm)) : PairSt w' B Bb bn ba bb bm ka kb n' outs ins curr idx cnt f' := by
  obtain ⟨o1, o2, o3, o4⟩ := h.ord
  have ha := h.ia.lt; have hb := h.ib.lt
  have hB : Bb ≤ bb := by obtain ⟨a, c, _, _, h, _⟩ := h.ib; exact h
  exact ⟨h.blk.of_heap (h2.block bn h.blk.lt (by simp; omega)), h.ia.of_range (fun j j1 j2 => h2.block j (by omega) (by simp; omega)), h.ib.of_range (fun j j1 j2 => h2.block j (by omega) (by simp; omega)), h1, h.ord⟩
theorem PairSt.stored {w w' : World} {B Bb bn ba bb bm ka kb n : Nat} {outs ins : List Int} {curr curr' : Value} {idx cnt idx' cnt' : Int} {f : Int → Option Value} (h : PairSt w B Bb bn ba bb bm ka kb n outs ins curr idx cnt f)
    (h1 : PairBlk w' bn ba bb bm curr' idx' cnt') (h2 : w.grownBy w' (some bn)) : PairSt w' B Bb bn ba bb bm ka kb n outs ins curr' idx' cnt' f := by
  obtain ⟨o1, o2, o3, o4⟩ := h.ord
  have ha := h.ia.lt; have hb := h.ib.lt
  have hB : Bb ≤ bb := by obtain ⟨a, c, _, _, h, _⟩ := h.ib; exact h
  exact ⟨h1, h.ia.of_range (fun j j1 j2 => h2.block j (by omega) (by simp; omega)), h.ib.of_range (fun j j1 j2 => h2.block j (by omega) (by simp; omega)), h.map.kept h2 (by simp; omega), h.ord⟩
theorem PairSt.drewN {w : World} {B Bb bn ba bb bm ka kb n : Nat} {outs ins : List Int} {curr : Value} {idx cnt : Int} {f : Int → Option Value} (h : PairSt w B Bb bn ba bb bm ka kb n outs ins curr idx cnt f) (q : Nat) :
    PairSt (w.drewN q) B Bb bn ba bb bm ka kb n outs ins curr idx cnt f := ⟨h.blk, h.ia, h.ib, h.map, h.ord⟩
theorem grownBy_setCell (w : World) (b j : Nat) (v : Value) : w.grownBy (w.setCell ⟨b, j, none⟩ v) (some b) :=
  ⟨rfl, rfl, rfl, by simp [World.setCell], fun k _ hk => Below.heap_setCell _ _ _ _ (fun e => hk (by rw [e]))⟩

end Go.Proofs.YtbkoifdnlaihfaaGreat
