/- The walk of seen, where no weight is asked. A graph that is being built in a block of its own: its edges grow. -/
import Derived.Test.YtnfkbjgijelfdaaGreatGraphV
import Derived.Test.YtnfkbjgijelfdaaGreatIterd
import Derived.Maps.AppendAt
namespace Go.Proofs.YtnfkbjgijelfdaaGreat
open Go.RowKit

/-- Edges as cells. -/
def flatE (es : List (Int × Int × Int)) : List Value := es.flatMap fun e => [.int .i64 e.1, .int .i64 e.2.1, .int .i64 e.2.2]
theorem flatE_append (a b : List (Int × Int × Int)) : flatE (a ++ b) = flatE a ++ flatE b := List.flatMap_append
theorem flatE_len (es : List (Int × Int × Int)) : (flatE es).length = es.length * 3 := by
  induction es with
  | nil => rfl
  | cons a l ih => simp only [flatE, List.flatMap_cons, List.length_append, List.length_cons, List.length_nil] at ih ⊢; omega
/-- The edges that are seen from u. -/
def seenAt (d : Bool) (adj : Int → List Int) (u : Int) : List (Int × Int × Int) := ((sortI (adj u)).filter fun v => d || decide (u ≤ v)).map fun v => (u, v, 0)
def seenE (d : Bool) (adj : Int → List Int) (l : List Int) : List (Int × Int × Int) := l.flatMap (seenAt d adj)

theorem neq_nilFunc (w : World) : (binOp .neq 289 .nilFunc .nilFunc).run Tryz.prog w = .ok (.bool false) w := by kernel_rfl
theorem edge_info : (Tryz.prog.info? 41).map (fun i => (i.zero, i.size, i.bytes)) = some (some (.agg #[.int .i64 0, .int .i64 0, .int .i64 0]), 3, 24) := by kernel_rfl

/-- The state of seen: the result's block (untouched), the graph that is built. -/
structure SeenSt (w : World) (bo : Nat) (d : Bool) (vN v : Value) (n m : Nat) (ns : List Int) (es : List (Int × Int × Int)) (wr : World) : Prop where
  res : wr.heap[w.heap.size]? = some (.cells #[.bool false, .slice none 0 0, .slice none 0 0] 25 (0, 0))
  blk : wr.heap[bo]? = some (.cells #[.bool d, vN, v] 25 (0, 0))
  nodes : wr.ownsRow (w.heap.size + 1) 3 1 vN n (ns.map (Value.int .i64))
  edges : wr.ownsRow (bo + 1) 41 3 v m (flatE es)
  ordN : ∀ g, vN.ownBlock = some g → g < bo
  ord : w.heap.size < bo
  below : Below w.heap.size w wr

theorem SeenSt.lt {w wr : World} {bo : Nat} {d : Bool} {vN v : Value} {n m : Nat} {ns : List Int} {es : List (Int × Int × Int)} (h : SeenSt w bo d vN v n m ns es wr) : bo < wr.heap.size := (Array.getElem?_eq_some_iff.1 h.blk).1

theorem SeenSt.later {w wr w' : World} {bo : Nat} {d : Bool} {vN v : Value} {n m : Nat} {ns : List Int} {es : List (Int × Int × Int)} (h : SeenSt w bo d vN v n m ns es wr) (hb : Below wr.heap.size wr w') : SeenSt w bo d vN v n m ns es w' := by
  have hlt := h.lt
  have := h.ord
  exact ⟨(hb.block _ (by omega)).trans h.res, (hb.block _ hlt).trans h.blk, ownsRow_of_heap h.nodes (fun g hg => hb.block g (by have := h.ordN g hg; omega)), ownsRow_of_heap h.edges (fun g hg => hb.block g (h.edges.lt g hg).2), h.ordN, h.ord, h.below.trans (hb.mono (by omega))⟩

theorem SeenSt.cells {w wr : World} {bo : Nat} {d : Bool} {vN v : Value} {n m : Nat} {ns : List Int} {es : List (Int × Int × Int)} (h : SeenSt w bo d vN v n m ns es wr) :
    wr.cell? ⟨bo, 0, none⟩ = some (.bool d) ∧ wr.cell? ⟨bo, 1, none⟩ = some vN ∧ wr.cell? ⟨bo, 2, none⟩ = some v ∧ wr.frozen? ⟨bo, 2, none⟩ = false := by
  refine ⟨?_, ?_, ?_, by simp [World.frozen?, h.blk]⟩ <;> (rw [cell_of_row wr bo _ _ _ (0, 0) h.blk]; rfl)

/-- One more edge. -/
theorem SeenSt.more {w wr wa w' : World} {bo : Nat} {d : Bool} {vN v v' : Value} {n m : Nat} {ns : List Int} {es : List (Int × Int × Int)} {e : Int × Int × Int} (h : SeenSt w bo d vN v n m ns es wr) (ha : Below wr.heap.size wr wa)
    (ho : w'.ownsRow (bo + 1) 41 3 v' (m + 1) (flatE es ++ [.int .i64 e.1, .int .i64 e.2.1, .int .i64 e.2.2])) (hg : wa.grownBy w' v.ownBlock) :
    SeenSt w bo d vN v' n (m + 1) ns (es ++ [e]) (w'.setCell ⟨bo, 2, none⟩ v') := by
  have h1 := h.later ha
  have hlt := h1.lt
  have hord := h.ord
  have hv : ∀ j, j ≤ bo → some j ≠ v.ownBlock := fun j hj e => by have := (h1.edges.lt j e.symm).1; omega
  have b1 : w'.heap[bo]? = some (.cells #[.bool d, vN, v] 25 (0, 0)) := (hg.block bo hlt (hv bo (Nat.le_refl _))).trans h1.blk
  have keep : ∀ j, j ≤ bo → j ≠ bo → (w'.setCell ⟨bo, 2, none⟩ v').heap[j]? = wa.heap[j]? := fun j hj hne => by
    rw [Below.heap_setCell _ _ _ _ (fun e => hne e)]; exact hg.block j (by omega) (hv j hj)
  refine ⟨(keep _ (by omega) (by omega)).trans h1.res, ?_, ownsRow_of_heap h1.nodes (fun g hg' => keep g (by have := h.ordN g hg'; omega) (by have := h.ordN g hg'; omega)), ?_, h.ordN, h.ord, ?_⟩
  · rw [heap_setCell_same b1]; rfl
  · rw [flatE_append]
    refine ownsRow_of_heap ho (fun g hg' => Below.heap_setCell _ _ _ _ (fun e => ?_))
    have := (ho.lt g hg').1
    have e' : g = bo := e
    omega
  · exact (h1.below.grown hg (by omega) (fun j hj => by have := (h1.edges.lt j hj).1; omega)).setCell (by show _ ≤ bo; omega) _

theorem own_lower {w : World} {B B' : Nat} {e : TypeId} {size : Nat} {v : Value} {n : Nat} {xs : List Value} (h : w.ownsRow B e size v n xs) (hB : B' ≤ B) : w.ownsRow B' e size v n xs := by
  refine ⟨h.1, ?_⟩
  rcases h.2 with hn | ⟨g, cap, cur, e, hb, rest⟩
  · exact .inl hn
  · exact .inr ⟨g, cap, cur, e, Nat.le_trans hB hb, rest⟩

theorem rd_of_own {E : TypeId} {w : World} {B : Nat} {a : Option Addr} {n c : Nat} {zs : List Int} (h : w.ownsRow B E 1 (.slice a n c) n (zs.map (Value.int .i64))) : RdI w a n zs := by
  obtain ⟨a', c', e, hr⟩ := RdI.of_owns h
  simp only [Value.slice.injEq, true_and] at e
  obtain ⟨rfl, rfl⟩ := e
  exact hr

/-- What the first j of the nodes that u leads to have given. -/
def seenUpTo (d : Bool) (u : Int) (l : List Int) : List (Int × Int × Int) := (l.filter fun v => d || decide (u ≤ v)).map fun v => (u, v, 0)
theorem seenUpTo_succ (d : Bool) (u : Int) (l : List Int) (j : Nat) (x : Int) (hj : j < l.length) (hx : l.getD j 0 = x) :
    seenUpTo d u (l.take (j + 1)) = seenUpTo d u (l.take j) ++ (if d || decide (u ≤ x) then [(u, x, 0)] else []) := by
  have e : l[j] = x := by simpa [List.getD, hj] using hx
  unfold seenUpTo
  rw [List.take_succ_eq_append_getElem hj, List.filter_append, List.map_append, e]
  have hf : ∀ p : Int → Bool, [x].filter p = if p x = true then [x] else [] := fun p => by cases h : p x <;> simp [h]
  rw [hf]
  by_cases h : (d || decide (u ≤ x)) = true
  · rw [if_pos h, if_pos h]; rfl
  · rw [if_neg h, if_neg h]; rfl
theorem seenE_succ (d : Bool) (adj : Int → List Int) (l : List Int) (k : Nat) (u : Int) (hk : k < l.length) (hu : l.getD k 0 = u) :
    seenE d adj (l.take (k + 1)) = seenE d adj (l.take k) ++ seenUpTo d u (sortI (adj u)) := by
  have e : l[k] = u := by simpa [List.getD, hk] using hu
  unfold seenE
  rw [List.take_succ_eq_append_getElem hk, List.flatMap_append, e]
  simp [seenAt, seenUpTo]

def SeenPost (d : Bool) (ids : List Int) (adj : Int → List Int) (w : World) (e : Ending) (w' : World) : Prop :=
  ∃ v1 v2 : Value, e = .returned (.agg #[.bool d, v1, v2]) ∧ w'.ownsRow w.heap.size 3 1 v1 ids.length ((sortI ids).map (Value.int .i64)) ∧
    w'.ownsRow w.heap.size 41 3 v2 (seenE d adj (sortI ids)).length (flatE (seenE d adj (sortI ids))) ∧ (∀ g, v1.ownBlock = some g → v2.ownBlock ≠ some g) ∧ Below w.heap.size w w'

end Go.Proofs.YtnfkbjgijelfdaaGreat
namespace Go.Proofs.YtnfkbjgijelfdaaGreat
open Go.RowKit

/-- The block bo holds the graph; all blocks below are as in w4. -/
structure OutSt (w4 : World) (bo : Nat) (d : Bool) (vN v : Value) (m : Nat) (es : List (Int × Int × Int)) (wr : World) : Prop where
  blk : wr.heap[bo]? = some (.cells #[.bool d, vN, v] 25 (0, 0))
  edges : wr.ownsRow (bo + 1) 41 3 v m (flatE es)
  below : Below bo w4 wr

section
variable {w4 wr wa w' : World} {bo : Nat} {d : Bool} {vN v v' : Value} {m : Nat} {es : List (Int × Int × Int)}
theorem OutSt.lt (h : OutSt w4 bo d vN v m es wr) : bo < wr.heap.size := (Array.getElem?_eq_some_iff.1 h.blk).1
theorem OutSt.start (h : w4.heap[bo]? = some (.cells #[.bool d, vN, .slice none 0 0] 25 (0, 0))) : OutSt w4 bo d vN (.slice none 0 0) 0 [] w4 := ⟨h, World.ownsRow_nil _ _ _ _, Below.refl _ _⟩
theorem OutSt.later (h : OutSt w4 bo d vN v m es wr) (hb : Below wr.heap.size wr w') : OutSt w4 bo d vN v m es w' := by
  have hlt := h.lt
  exact ⟨(hb.block _ hlt).trans h.blk, ownsRow_of_heap h.edges (fun g hg => hb.block g (h.edges.lt g hg).2), h.below.trans (hb.mono (by omega))⟩
theorem OutSt.cells (h : OutSt w4 bo d vN v m es wr) :
    wr.cell? ⟨bo, 0, none⟩ = some (.bool d) ∧ wr.cell? ⟨bo, 1, none⟩ = some vN ∧ wr.cell? ⟨bo, 2, none⟩ = some v ∧ wr.frozen? ⟨bo, 2, none⟩ = false := by
  refine ⟨?_, ?_, ?_, by simp [World.frozen?, h.blk]⟩ <;> (rw [cell_of_row wr bo _ _ _ (0, 0) h.blk]; rfl)
/-- One more edge. -/
theorem OutSt.more {e : Int × Int × Int} (h : OutSt w4 bo d vN v m es wr) (ha : Below wr.heap.size wr wa)
    (ho : w'.ownsRow (bo + 1) 41 3 v' (m + 1) (flatE es ++ [.int .i64 e.1, .int .i64 e.2.1, .int .i64 e.2.2])) (hg : wa.grownBy w' v.ownBlock) :
    OutSt w4 bo d vN v' (m + 1) (es ++ [e]) (w'.setCell ⟨bo, 2, none⟩ v') := by
  have h1 := h.later ha
  have hlt := h1.lt
  have hv : ∀ j, j ≤ bo → some j ≠ v.ownBlock := fun j hj e => by have := (h1.edges.lt j e.symm).1; omega
  have b1 : w'.heap[bo]? = some (.cells #[.bool d, vN, v] 25 (0, 0)) := (hg.block bo hlt (hv bo (Nat.le_refl _))).trans h1.blk
  refine ⟨?_, ?_, ?_⟩
  · rw [heap_setCell_same b1]; rfl
  · rw [flatE_append]
    refine ownsRow_of_heap ho (fun g hg' => Below.heap_setCell _ _ _ _ (fun e => ?_))
    have := (ho.lt g hg').1
    have e' : g = bo := e
    omega
  · exact (h1.below.grown hg (by omega) (fun j hj => by have := (h1.edges.lt j hj).1; omega)).setCell (by show _ ≤ bo; omega) _
end

theorem flatE_get (es : List (Int × Int × Int)) : ∀ (j : Nat) (e : Int × Int × Int), es[j]? = some e → (flatE es)[j * 3]? = some (.int .i64 e.1) ∧ (flatE es)[j * 3 + 1]? = some (.int .i64 e.2.1) ∧ (flatE es)[j * 3 + 2]? = some (.int .i64 e.2.2) := by
  induction es with
  | nil => intro j e h; simp at h
  | cons a l ih =>
    intro j e h
    have e0 : flatE (a :: l) = .int .i64 a.1 :: .int .i64 a.2.1 :: .int .i64 a.2.2 :: flatE l := rfl
    rw [e0]
    cases j with
    | zero => simp at h; subst h; simp
    | succ j =>
      have := ih j e (by simpa using h)
      rw [show (j + 1) * 3 = j * 3 + 3 from by omega]
      simpa using this

/-- Owned edges read. -/
theorem rdE_of_own {w : World} {B : Nat} {a : Option Addr} {n c : Nat} {es : List (Int × Int × Int)} (h : w.ownsRow B 41 3 (.slice a n c) n (flatE es)) : RdE w a n es := by
  have hlen : es.length = n := by
    have h1 := h.1
    rw [flatE_len] at h1
    omega
  rcases h.2 with ⟨e1, h1⟩ | ⟨g, cap, cur, e1, hb, hg, h3, h4, h5, h6⟩
  · exact ⟨hlen, by omega, by omega⟩
  · simp only [Value.slice.injEq] at e1
    obtain ⟨rfl, -, rfl⟩ := e1
    refine ⟨hlen, by unfold maxLen at h4; omega, fun h0 => ⟨g, 0, rfl, (Array.getElem?_eq_some_iff.1 hg).1, fun j hj => ?_⟩⟩
    obtain ⟨e, he⟩ : ∃ e, es[j]? = some e := ⟨es[j]'(by omega), by simp⟩
    obtain ⟨g0, g1, g2⟩ := flatE_get es j e he
    have key : ∀ i, i < n * 3 → w.cell? ⟨g, i, none⟩ = (flatE es)[i]? := fun i hi => by
      rw [cell_of_row w g i cur _ (0, 0) hg, ← h6, List.getElem?_take_of_lt hi, ← Array.getElem?_toList]
    exact ⟨e.1, e.2.1, e.2.2, he, by rw [Nat.zero_add, key _ (by omega), g0], by rw [Nat.zero_add, key _ (by omega), g1], by rw [Nat.zero_add, key _ (by omega), g2]⟩

/-- A load that a region's walk is not to take first. -/
def slowLoad (t : TypeId) (p : Operand) : Op := Op.load t p
theorem slow_load (t : TypeId) (p : Operand) : Op.load t p = slowLoad t p := rfl
end Go.Proofs.YtnfkbjgijelfdaaGreat
