/- Words on memory: a block of ints of the call's own; facts that outlast new blocks. -/
import Derived.WalkKit
import Derived.WalkSpells
import Derived.Lib.Hide
import Derived.Deep.Draws
import Derived.WalkSmall
import Derived.Sort.Grow
namespace Go.Proofs.YtbkoifdnlaihfaaGreat
open Go.RowKit

/-- Block g is a row of cells that begins with the ints 'zs'; 'cap' cells in all. -/
def IntBlk (E : TypeId) (w : World) (g : Nat) (zs : List Int) (cap : Nat) : Prop :=
  ∃ rest : List Value, w.heap[g]? = some (.cells (zs.map (Value.int .i64) ++ rest).toArray E (0, 0)) ∧ zs.length + rest.length = cap

theorem IntBlk.lt {E w g zs cap} (h : IntBlk E w g zs cap) : g < w.heap.size := by
  obtain ⟨_, h, _⟩ := h
  exact (Array.getElem?_eq_some_iff.1 h).1

theorem IntBlk.cell {E w g zs cap} (h : IntBlk E w g zs cap) (j : Nat) (hj : j < zs.length) : w.cell? ⟨g, j, none⟩ = some (.int .i64 (zs.getD j 0)) := by
  obtain ⟨r, h, _⟩ := h
  rw [cell_of_row w g j _ E (0, 0) h]
  simp [List.getElem?_append, hj, List.getD]

theorem IntBlk.free {E w g zs cap} (h : IntBlk E w g zs cap) (j : Nat) : w.frozen? ⟨g, j, none⟩ = false := by
  obtain ⟨r, h, _⟩ := h
  simp [World.frozen?, h]

theorem heap_setCell_same {w : World} {g j : Nat} {cur : Array Value} {E : TypeId} {fr : Nat × Nat} (h : w.heap[g]? = some (.cells cur E fr)) (v : Value) :
    (w.setCell ⟨g, j, none⟩ v).heap[g]? = some (.cells (cur.setIfInBounds j v) E fr) := by
  simp [World.setCell, Array.getElem?_modify, h]

theorem IntBlk.set {E w g zs cap} (h : IntBlk E w g zs cap) (j : Nat) (hj : j < zs.length) (v : Int) : IntBlk E (w.setCell ⟨g, j, none⟩ (.int .i64 v)) g (zs.set j v) cap := by
  obtain ⟨r, h, hl⟩ := h
  refine ⟨r, ?_, by simpa using hl⟩
  rw [heap_setCell_same h]
  congr 2
  simp [List.setIfInBounds_toArray, hj, List.map_set]

theorem IntBlk.of_heap {E w w' g zs cap} (h : IntBlk E w g zs cap) (e : w'.heap[g]? = w.heap[g]?) : IntBlk E w' g zs cap := by
  obtain ⟨r, h, hl⟩ := h
  exact ⟨r, e.trans h, hl⟩

theorem IntBlk.drewN {E w g zs cap} (h : IntBlk E w g zs cap) (q : Nat) : IntBlk E (w.drewN q) g zs cap := h
theorem IntBlk.drew {E w g zs cap} (h : IntBlk E w g zs cap) : IntBlk E w.drew g zs cap := h
theorem IntBlk.below {E w w' g zs cap B} (h : IntBlk E w g zs cap) (hb : Below B w w') (hg : g < B) : IntBlk E w' g zs cap := h.of_heap (hb.block g hg)

theorem IntBlk.of_owns {E w B g n cap zs} (h : w.ownsRow B E 1 (.slice (some ⟨g, 0, none⟩) n cap) n (zs.map (Value.int .i64))) : IntBlk E w g zs cap ∧ zs.length = n ∧ B ≤ g ∧ n ≤ cap ∧ cap ≤ maxLen := by
  obtain ⟨h1, h2 | ⟨g', cap', cur, hv, hb, hg, h3, h4, h5, h6⟩⟩ := h
  · simp at h2
  · simp only [Value.slice.injEq, Option.some.injEq, Addr.mk.injEq, and_true, true_and] at hv
    obtain ⟨rfl, rfl⟩ := hv
    have hn : zs.length = n := by simpa using h1
    refine ⟨⟨cur.toList.drop n, ?_, ?_⟩, hn, hb, h3, h4⟩
    · rw [hg]; congr 2
      apply Array.toList_inj.1
      simp only [Nat.mul_one] at h6
      rw [← h6]; simp
    · simp only [Nat.mul_one] at h5
      simp [hn, h5]; omega

theorem IntBlk.owns {E w B g cap zs} (h : IntBlk E w g zs cap) (hB : B ≤ g) (hm : cap ≤ maxLen) : w.ownsRow B E 1 (.slice (some ⟨g, 0, none⟩) zs.length cap) zs.length (zs.map (Value.int .i64)) := by
  obtain ⟨r, h, hl⟩ := h
  exact ⟨by simp, .inr ⟨g, cap, _, rfl, hB, h, by omega, hm, by simp [hl], by simp⟩⟩

/-- A slice (address a, length n) reads as the ints 'zs' in 'w'. -/
structure RdI (w : World) (a : Option Addr) (n : Nat) (zs : List Int) : Prop where
  len : zs.length = n
  small : n ≤ 9223372036854775807
  at_ : 0 < n → ∃ b off, a = some ⟨b, off, none⟩ ∧ b < w.heap.size ∧ ∀ j, j < n → ∃ z, Hid (zs.getD j 0 = z) ∧ w.cell? ⟨b, off + j, none⟩ = some (.int .i64 z)

theorem RdI.below {w w' : World} {a : Option Addr} {n : Nat} {zs : List Int} {B : Nat} (h : RdI w a n zs) (hb : Below B w w') (hB : w.heap.size ≤ B) : RdI w' a n zs :=
  ⟨h.len, h.small, fun h0 => by
    obtain ⟨b, off, e, hb', hc⟩ := h.at_ h0
    exact ⟨b, off, e, Nat.lt_of_lt_of_le hb' hb.size, fun j hj => by
      obtain ⟨z, hz, hcz⟩ := hc j hj
      exact ⟨z, hz, (hb.cell (p := ⟨b, off + j, none⟩) (by show b < B; omega)).trans hcz⟩⟩⟩

theorem RdI.alloc {w : World} {a : Option Addr} {n : Nat} {zs : List Int} (h : RdI w a n zs) (o : Obj) : RdI (w.alloc o) a n zs :=
  h.below ((Below.refl _ _).alloc (Nat.le_refl _) _) (Nat.le_refl _)
theorem RdI.drewN {w : World} {a : Option Addr} {n : Nat} {zs : List Int} (h : RdI w a n zs) (q : Nat) : RdI (w.drewN q) a n zs := h.below (below_drewN (Below.refl _ _) q) (Nat.le_refl _)

theorem RdI.of_blk {E w g zs cap} (h : IntBlk E w g zs cap) (hm : zs.length ≤ 9223372036854775807) : RdI w (some ⟨g, 0, none⟩) zs.length zs :=
  ⟨rfl, hm, fun _ => ⟨g, 0, rfl, h.lt, fun j hj => ⟨_, Lib.hid rfl, by rw [Nat.zero_add]; exact h.cell j hj⟩⟩⟩

/-- What a call owns reads. -/
theorem RdI.of_owns {E w B v n zs} (h : w.ownsRow B E 1 v n (zs.map (Value.int .i64))) : ∃ a cap, v = .slice a n cap ∧ RdI w a n zs := by
  have h' := h
  obtain ⟨h1, ⟨rfl, rfl⟩ | ⟨g, cap, cur, rfl, hb, hg, h3, h4, h5, h6⟩⟩ := h
  · exact ⟨none, 0, rfl, by simpa using h1, by omega, by omega⟩
  · obtain ⟨hi, rfl, _, h8, h9⟩ := IntBlk.of_owns h'
    exact ⟨_, cap, rfl, RdI.of_blk hi (by unfold maxLen at h9; omega)⟩

/-- A slice (address a, length n) of edges reads as 'es' in 'w': three cells each. -/
structure RdE (w : World) (a : Option Addr) (n : Nat) (es : List (Int × Int × Int)) : Prop where
  len : es.length = n
  small : n ≤ 9223372036854775807
  at_ : 0 < n → ∃ b off, a = some ⟨b, off, none⟩ ∧ b < w.heap.size ∧ ∀ j, j < n → ∃ u v x, Hid (es[j]? = some (u, v, x)) ∧
    w.cell? ⟨b, off + j * 3, none⟩ = some (.int .i64 u) ∧ w.cell? ⟨b, off + j * 3 + 1, none⟩ = some (.int .i64 v) ∧ w.cell? ⟨b, off + j * 3 + 2, none⟩ = some (.int .i64 x)

theorem RdE.below {w w' : World} {a : Option Addr} {n : Nat} {es : List (Int × Int × Int)} {B : Nat} (h : RdE w a n es) (hb : Below B w w') (hB : w.heap.size ≤ B) : RdE w' a n es :=
  ⟨h.len, h.small, fun h0 => by
    obtain ⟨b, off, e, hb', hc⟩ := h.at_ h0
    exact ⟨b, off, e, Nat.lt_of_lt_of_le hb' hb.size, fun j hj => by
      obtain ⟨u, v, x, hz, h1, h2, h3⟩ := hc j hj
      exact ⟨u, v, x, hz, (hb.cell (p := ⟨b, _, none⟩) (by show b < B; omega)).trans h1, (hb.cell (p := ⟨b, _, none⟩) (by show b < B; omega)).trans h2, (hb.cell (p := ⟨b, _, none⟩) (by show b < B; omega)).trans h3⟩⟩⟩

theorem RdE.alloc {w : World} {a : Option Addr} {n : Nat} {es : List (Int × Int × Int)} (h : RdE w a n es) (o : Obj) : RdE (w.alloc o) a n es :=
  h.below ((Below.refl _ _).alloc (Nat.le_refl _) _) (Nat.le_refl _)
theorem RdE.drewN {w : World} {a : Option Addr} {n : Nat} {es : List (Int × Int × Int)} (h : RdE w a n es) (q : Nat) : RdE (w.drewN q) a n es := h.below (below_drewN (Below.refl _ _) q) (Nat.le_refl _)

/-- Two further facts on a 'Below' that a walk wants in the open. -/
theorem bcell {W w1 : World} {B : Nat} (hb : Below B W w1) : (∀ b o, b < B → w1.cell? ⟨b, o, none⟩ = W.cell? ⟨b, o, none⟩) ∧ (∀ b o, b < B → w1.frozen? ⟨b, o, none⟩ = W.frozen? ⟨b, o, none⟩) :=
  ⟨fun b o h => hb.cell (p := ⟨b, o, none⟩) h, fun b o h => hb.frozen (p := ⟨b, o, none⟩) h⟩

theorem ret_int {k : IntKind} {a b : Int} (h : a = b) : Ending.returned (.int k a) = .returned (.int k b) := by rw [h]
theorem ret_bool {a b : Bool} (h : a = b) : Ending.returned (.bool a) = .returned (.bool b) := by rw [h]

end Go.Proofs.YtbkoifdnlaihfaaGreat
