/- slices.Sort, Clone and Compact at int64, of slices of the call's own. -/
import Derived.Test.YtnfkbjgijelfdaaGreatProg
import Derived.Test.YtnfkbjgijelfdaaGreatMem
import Derived.Test.YtnfkbjgijelfdaaGreatShelf
import Derived.Sort.Grow
import Derived.Lib.SlicesCompact
namespace Go.Proofs.YtnfkbjgijelfdaaGreat
open Go.RowKit Go.Sort

theorem holds_of_blk {E w g zs cap} (h : IntBlk E w g zs cap) : Holds (Value.int .i64) w g 0 zs.toArray := fun j hj => by
  have hj' : j < zs.length := by simpa using hj
  refine ⟨?_, h.free _⟩
  rw [Nat.zero_add, h.cell j hj']
  simp [List.getD, hj']

theorem blk_putRow {E w g cap} {zs ts : List Int} (h : IntBlk E w g zs cap) (hl : ts.length = zs.length) (n : Nat) (os : Array Obj) :
    IntBlk E (grow (putRow (Value.int .i64) (Sort.ahead w n) g 0 ts.toArray) os) g ts cap := by
  have hlt := h.lt
  obtain ⟨r, hg, hc⟩ := h
  refine ⟨r, ?_, by omega⟩
  rw [heap_grow_old _ _ (by simpa using hlt)]
  have : (putRow (Value.int .i64) (Sort.ahead w n) g 0 ts.toArray).heap[g]? = some (.cells (putCells (Value.int .i64) 0 ts.toArray (zs.map (Value.int .i64) ++ r).toArray) E (0, 0)) := by
    simp [putRow, mapBlock, Sort.ahead, Array.getElem?_modify, hg, onCells]
  rw [this]
  congr 2
  apply Array.ext_getElem?
  intro j
  simp only [putCells, Array.getElem?_mapIdx, List.getElem?_toArray, List.size_toArray]
  by_cases hj : j < ts.length
  · have hj2 : j < zs.length := by omega
    simp [List.getElem?_append, hj, hj2]
  · have hj2 : ¬ j < zs.length := by omega
    simp [List.getElem?_append, hj2, hl]

theorem grownBy_putRow {w : World} {g n : Nat} {os : Array Obj} (d : Array Int) : w.grownBy (grow (putRow (Value.int .i64) (Sort.ahead w n) g 0 d) os) (some g) := by
  refine ⟨rfl, rfl, rfl, by simp, fun k hk hne => ?_⟩
  rw [heap_grow_old _ _ (by simpa using hk)]
  have : g ≠ k := fun e => hne (by rw [e])
  simp [putRow, mapBlock, Sort.ahead, Array.getElem?_modify, this]

theorem below_of_grownBy {w0 w w' : World} {row : Option Nat} {B : Nat} (h : Below B w0 w) (hg : w.grownBy w' row) (hB : B ≤ w.heap.size) (hr : ∀ k, row = some k → B ≤ k) : Below B w0 w' := h.grown hg hB hr

def SortPost (E : TypeId) (B : Nat) (v : Value) (n : Nat) (zs : List Int) (w : World) (e : Ending) (w' : World) : Prop :=
  e = .returned (.tuple #[]) ∧ w'.ownsRow B E 1 v n ((sortI zs).map (Value.int .i64)) ∧ w.grownBy w' v.ownBlock

theorem sort64_calls (B : Nat) (v : Value) (n : Nat) (zs : List Int) (w : World) (hown : w.ownsRow B 2 1 v n (zs.map (Value.int .i64))) (hn : n < 4611686018427387904) :
    Calls Tryz.prog 120 #[v] w (SortPost 2 B v n zs w) := by
  have hown' := hown
  obtain ⟨h1, ⟨rfl, rfl⟩ | ⟨g, cap, cur, rfl, hb, hg, h3, h4, h5, h6⟩⟩ := hown
  · obtain rfl : zs = [] := List.eq_nil_of_length_eq_zero (by simpa using h1)
    have hc : Calls Tryz.prog 120 #[.slice none 0 0] w fun e w' => e = .returned (.tuple #[]) ∧ w' = w := by
      first | exact Tryz.slices_Sort_int_none none 0 w | exact Tryz.slices_Sort_int_none_f120 none 0 w
    refine hc.mono ?_
    rintro e w' ⟨rfl, rfl⟩
    exact ⟨rfl, by simpa [sortI] using World.ownsRow_nil w' B 2 1, rfl, rfl, rfl, Nat.le_refl _, fun _ _ _ => rfl⟩
  · obtain ⟨hi, hl, hbg, hcap, hmax⟩ := IntBlk.of_owns hown'
    subst hl
    have hc : Calls Tryz.prog 120 #[.slice (some ⟨g, 0, none⟩) zs.length cap] w fun e w' =>
        e = .returned (.tuple #[]) ∧ ∃ n os, w' = grow (putRow (Value.int .i64) (Sort.ahead w n) g 0 (zs.mergeSort fun x y => decide (x ≤ y)).toArray) os := by
      first | exact Tryz.slices_Sort_int g 0 cap zs w (holds_of_blk hi) hi.lt hn | exact Tryz.slices_Sort_int_f120 g 0 cap zs w (holds_of_blk hi) hi.lt hn
    refine hc.mono ?_
    rintro e w' ⟨rfl, q, os, rfl⟩
    have hb2 := blk_putRow hi (sortI_len zs) q os
    refine ⟨rfl, ?_, grownBy_putRow _⟩
    have := hb2.owns hb hmax
    rw [sortI_len] at this
    exact this

theorem clone64_calls (a : Option Addr) (n cap : Nat) (zs : List Int) (w : World) (hr : RdI w a n zs) (hn : n * 8 ≤ 140737488355328) :
    Calls Tryz.prog 122 #[.slice a n cap] w fun e w' => ∃ v', e = .returned v' ∧ w'.ownsRow w.heap.size 2 1 v' n (zs.map (Value.int .i64)) ∧ Below w.heap.size w w' := by
  by_cases h0 : 0 < n
  · obtain ⟨b, off, rfl, hb, hc⟩ := hr.at_ h0
    first
      | refine (Tryz.slices_Clone_int_f122 b off n cap zs w (by have := hr.len; omega) hn (fun j hj => ?_)).mono ?_
      | refine (Tryz.slices_Clone_int b off n cap zs w (by have := hr.len; omega) hn (fun j hj => ?_)).mono ?_
    · obtain ⟨z, hz, hcz⟩ := hc j (by have := hr.len; omega)
      rw [hcz, hz.out]
    · rintro e w' ⟨v', rfl, h1, _, h2⟩
      exact ⟨v', rfl, by rw [show zs.take n = zs by rw [← hr.len, List.take_length]] at h1; exact h1, h2⟩
  · obtain rfl : n = 0 := by omega
    obtain rfl : zs = [] := List.eq_nil_of_length_eq_zero hr.len
    cases a with
    | none =>
      first
        | refine (Tryz.slices_Clone_int_nil_f122 0 cap w).mono ?_
        | refine (Tryz.slices_Clone_int_nil 0 cap w).mono ?_
      rintro e w' ⟨rfl, rfl⟩
      exact ⟨_, rfl, World.ownsRow_nil _ _ _ _, Below.refl _ _⟩
    | some a =>
      first
        | refine (Tryz.slices_Clone_int_zero_f122 a cap w).mono ?_
        | refine (Tryz.slices_Clone_int_zero a cap w).mono ?_
      rintro e w' ⟨v', rfl, h1, _, h2⟩
      exact ⟨v', rfl, h1, h2⟩

def CompactPost (zs : List Int) (v : Value) (w : World) (e : Ending) (w' : World) : Prop :=
  ∃ a cap, e = .returned (.slice a (Lib.compact zs).length cap) ∧ w.grownBy w' v.ownBlock

theorem compact64_calls (B : Nat) (v : Value) (n : Nat) (zs : List Int) (w : World) (hown : w.ownsRow B 2 1 v n (zs.map (Value.int .i64))) :
    Calls Tryz.prog 121 #[v] w (CompactPost zs v w) := by
  have hown' := hown
  obtain ⟨h1, ⟨rfl, rfl⟩ | ⟨g, cap, cur, rfl, hb, hg, h3, h4, h5, h6⟩⟩ := hown
  · obtain rfl : zs = [] := List.eq_nil_of_length_eq_zero (by simpa using h1)
    have hc : Calls Tryz.prog 121 #[.slice none 0 0] w fun e w' => e = .returned (.slice none 0 0) ∧ w' = w := by
      first | exact Tryz.slices_Compact_int_empty none 0 w | exact Tryz.slices_Compact_int_empty_f121 none 0 w
    refine hc.mono ?_
    rintro e w' ⟨rfl, rfl⟩
    exact ⟨none, 0, rfl, rfl, rfl, rfl, Nat.le_refl _, fun _ _ _ => rfl⟩
  · obtain ⟨hi, hl, hbg, hcap, hmax⟩ := IntBlk.of_owns hown'
    subst hl
    have hc : Calls Tryz.prog 121 #[.slice (some ⟨g, 0, none⟩) zs.length cap] w fun e w' =>
        e = .returned (.slice (some ⟨g, 0, none⟩) (Lib.compact zs).length cap) ∧ ∃ q, w' = putRow (Value.int .i64) (Sort.ahead w q) g 0 (Lib.compact zs ++ List.replicate (zs.length - (Lib.compact zs).length) 0).toArray := by
      first | exact Tryz.slices_Compact_int g 0 cap zs w (holds_of_blk hi) (by unfold maxLen at hmax; omega) hcap | exact Tryz.slices_Compact_int_f121 g 0 cap zs w (holds_of_blk hi) (by unfold maxLen at hmax; omega) hcap
    refine hc.mono ?_
    rintro e w' ⟨rfl, q, rfl⟩
    refine ⟨_, cap, rfl, ?_⟩
    have := grownBy_putRow (w := w) (g := g) (n := q) (os := #[]) (Lib.compact zs ++ List.replicate (zs.length - (Lib.compact zs).length) 0).toArray
    rwa [grow_empty] at this

/-- Compacting a list that ascends leaves its length just if no number stands twice. -/
theorem compactUpTo_len (d : Array Int) : ∀ m, (Lib.compactUpTo d m).length ≤ m ∧ ((Lib.compactUpTo d m).length = m ↔ ∀ j, j < m → Lib.keeps d j = true) := by
  intro m
  induction m with
  | zero => simp [Lib.compactUpTo]
  | succ m ih =>
    rw [Lib.compactUpTo_succ]
    obtain ⟨h1, h2⟩ := ih
    cases hk : Lib.keeps d m
    · simp only [Bool.false_eq_true, if_false, List.append_nil]
      exact ⟨by omega, ⟨fun h => by omega, fun h => by have := h m (by omega); rw [hk] at this; cases this⟩⟩
    · simp only [if_true, List.length_append, List.length_cons, List.length_nil]
      refine ⟨by omega, ⟨fun h j hj => ?_, fun h => ?_⟩⟩
      · by_cases e : j = m
        · rw [e]; exact hk
        · exact h2.1 (by omega) j (by omega)
      · have := h2.2 (fun j hj => h j (by omega)); omega

theorem compact_len (zs : List Int) (hs : zs.Pairwise (· ≤ ·)) : ((Lib.compact zs).length = zs.length) ↔ risingB zs = true := by
  unfold Lib.compact
  rw [(compactUpTo_len zs.toArray zs.length).2, risingB_iff]
  have key : ∀ k, k + 1 < zs.length → (Lib.keeps zs.toArray (k + 1) = true ↔ zs.getD k 0 < zs.getD (k + 1) 0) := fun k hk => by
    have h1 : zs.getD k 0 ≤ zs.getD (k + 1) 0 := by
      have := List.pairwise_iff_getElem.1 hs k (k + 1) (by omega) hk (by omega)
      simpa [List.getD, hk, show k < zs.length by omega] using this
    have e1 : zs.toArray[k + 1]! = zs.getD (k + 1) 0 := by simp [List.getD, hk]
    have e2 : zs.toArray[k + 1 - 1]! = zs.getD k 0 := by simp [List.getD, show k < zs.length by omega]
    show decide (k + 1 = 0 ∨ zs.toArray[k + 1]! ≠ zs.toArray[k + 1 - 1]!) = true ↔ _
    rw [decide_eq_true_iff, e1, e2]
    constructor
    · rintro (h | h) <;> omega
    · intro h; right; omega
  constructor
  · intro h k hk; exact (key k hk).1 (h (k + 1) hk)
  · intro h j hj
    cases j with
    | zero => exact Lib.keeps_lt_one _ 0 (by omega)
    | succ k => exact (key k hj).2 (h k hj)

end Go.Proofs.YtnfkbjgijelfdaaGreat
