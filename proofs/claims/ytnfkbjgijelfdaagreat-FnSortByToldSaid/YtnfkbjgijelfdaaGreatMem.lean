/- Words on memory: a block of ints of the call's own; facts that outlast new blocks. Plain functions on lists: no program. Laws on append and copy for elements of more than one cell. -/
import Derived.WalkKit
import Derived.WalkSpells
import Derived.Lib.Hide
import Derived.Deep.Draws
import Derived.WalkSmall
import Derived.Sort.Grow
import Derived.Lib.AppendZeros
import Derived.Deep.AppendSrc
import Derived.Laws.CopyRow
import Derived.Laws.CopyOwn
namespace Go.Proofs.YtnfkbjgijelfdaaGreat
open Go.RowKit

/-- Block g is a row of cells that begins with the ints 'zs'; 'cap' cells in all. -/
def IntBlk (E : TypeId) (w : World) (g : Nat) (zs : List Int) (cap : Nat) : Prop :=
  ∃ rest : List Value, w.heap[g]? = some (.cells (zs.map (Value.int .i64) ++ rest).toArray E (0, 0)) ∧ zs.length + rest.length = cap

theorem IntBlk.lt {E w g zs cap} (h : IntBlk E w g zs cap) : g < w.heap.size := by
  obtain ⟨_, h, _⟩ := h
  exact (Array.getElem?_eq_some_iff.1 h).1

theorem IntBlk.cell {E w g zs cap} (h : IntBlk E w g zs cap) (j : Nat) (hj : j < zs.length) : w.cell? ⟨g, j, none⟩ = some (.int .i64 (zs.getD j 0)) := by
  obtain ⟨r, h, _⟩ := h
  rw [cell_of_row w g j _ E (0, 0) h]
  simp [List.getElem?_append, hj, List.getD]

theorem IntBlk.free {E w g zs cap} (h : IntBlk E w g zs cap) (j : Nat) : w.frozen? ⟨g, j, none⟩ = false := by
  obtain ⟨r, h, _⟩ := h
  simp [World.frozen?, h]

theorem heap_setCell_same {w : World} {g j : Nat} {cur : Array Value} {E : TypeId} {fr : Nat × Nat} (h : w.heap[g]? = some (.cells cur E fr)) (v : Value) :
    (w.setCell ⟨g, j, none⟩ v).heap[g]? = some (.cells (cur.setIfInBounds j v) E fr) := by
  simp [World.setCell, Array.getElem?_modify, h]

theorem IntBlk.set {E w g zs cap} (h : IntBlk E w g zs cap) (j : Nat) (hj : j < zs.length) (v : Int) : IntBlk E (w.setCell ⟨g, j, none⟩ (.int .i64 v)) g (zs.set j v) cap := by
  obtain ⟨r, h, hl⟩ := h
  refine ⟨r, ?_, by simpa using hl⟩
  rw [heap_setCell_same h]
  congr 2
  simp [List.setIfInBounds_toArray, hj, List.map_set]

theorem IntBlk.of_heap {E w w' g zs cap} (h : IntBlk E w g zs cap) (e : w'.heap[g]? = w.heap[g]?) : IntBlk E w' g zs cap := by
  obtain ⟨r, h, hl⟩ := h
  exact ⟨r, e.trans h, hl⟩

theorem IntBlk.drewN {E w g zs cap} (h : IntBlk E w g zs cap) (q : Nat) : IntBlk E (w.drewN q) g zs cap := h
theorem IntBlk.drew {E w g zs cap} (h : IntBlk E w g zs cap) : IntBlk E w.drew g zs cap := h
theorem IntBlk.below {E w w' g zs cap B} (h : IntBlk E w g zs cap) (hb : Below B w w') (hg : g < B) : IntBlk E w' g zs cap := h.of_heap (hb.block g hg)

theorem IntBlk.of_owns {E w B g n cap zs} (h : w.ownsRow B E 1 (.slice (some ⟨g, 0, none⟩) n cap) n (zs.map (Value.int .i64))) : IntBlk E w g zs cap ∧ zs.length = n ∧ B ≤ g ∧ n ≤ cap ∧ cap ≤ maxLen := by
  obtain ⟨h1, h2 | ⟨g', cap', cur, hv, hb, hg, h3, h4, h5, h6⟩⟩ := h
  · simp at h2
  · simp only [Value.slice.injEq, Option.some.injEq, Addr.mk.injEq, and_true, true_and] at hv
    obtain ⟨rfl, rfl⟩ := hv
    have hn : zs.length = n := by simpa using h1
    refine ⟨⟨cur.toList.drop n, ?_, ?_⟩, hn, hb, h3, h4⟩
    · rw [hg]; congr 2
      apply Array.toList_inj.1
      simp only [Nat.mul_one] at h6
      rw [← h6]; simp
    · simp only [Nat.mul_one] at h5
      simp [hn, h5]; omega

theorem IntBlk.owns {E w B g cap zs} (h : IntBlk E w g zs cap) (hB : B ≤ g) (hm : cap ≤ maxLen) : w.ownsRow B E 1 (.slice (some ⟨g, 0, none⟩) zs.length cap) zs.length (zs.map (Value.int .i64)) := by
  obtain ⟨r, h, hl⟩ := h
  exact ⟨by simp, .inr ⟨g, cap, _, rfl, hB, h, by omega, hm, by simp [hl], by simp⟩⟩

/-- A slice (address a, length n) reads as the ints 'zs' in 'w'. -/
structure RdI (w : World) (a : Option Addr) (n : Nat) (zs : List Int) : Prop where
  len : zs.length = n
  small : n ≤ 9223372036854775807
  at_ : 0 < n → ∃ b off, a = some ⟨b, off, none⟩ ∧ b < w.heap.size ∧ ∀ j, j < n → ∃ z, Hid (zs.getD j 0 = z) ∧ w.cell? ⟨b, off + j, none⟩ = some (.int .i64 z)

theorem RdI.below {w w' : World} {a : Option Addr} {n : Nat} {zs : List Int} {B : Nat} (h : RdI w a n zs) (hb : Below B w w') (hB : w.heap.size ≤ B) : RdI w' a n zs :=
  ⟨h.len, h.small, fun h0 => by
    obtain ⟨b, off, e, hb', hc⟩ := h.at_ h0
    exact ⟨b, off, e, Nat.lt_of_lt_of_le hb' hb.size, fun j hj => by
      obtain ⟨z, hz, hcz⟩ := hc j hj
      exact ⟨z, hz, (hb.cell (p := ⟨b, off + j, none⟩) (by show b < B; omega)).trans hcz⟩⟩⟩

theorem RdI.alloc {w : World} {a : Option Addr} {n : Nat} {zs : List Int} (h : RdI w a n zs) (o : Obj) : RdI (w.alloc o) a n zs :=
  h.below ((Below.refl _ _).alloc (Nat.le_refl _) _) (Nat.le_refl _)
theorem RdI.drewN {w : World} {a : Option Addr} {n : Nat} {zs : List Int} (h : RdI w a n zs) (q : Nat) : RdI (w.drewN q) a n zs := h.below (below_drewN (Below.refl _ _) q) (Nat.le_refl _)

theorem RdI.of_blk {E w g zs cap} (h : IntBlk E w g zs cap) (hm : zs.length ≤ 9223372036854775807) : RdI w (some ⟨g, 0, none⟩) zs.length zs :=
  ⟨rfl, hm, fun _ => ⟨g, 0, rfl, h.lt, fun j hj => ⟨_, Lib.hid rfl, by rw [Nat.zero_add]; exact h.cell j hj⟩⟩⟩

/-- What a call owns reads. -/
theorem RdI.of_owns {E w B v n zs} (h : w.ownsRow B E 1 v n (zs.map (Value.int .i64))) : ∃ a cap, v = .slice a n cap ∧ RdI w a n zs := by
  have h' := h
  obtain ⟨h1, ⟨rfl, rfl⟩ | ⟨g, cap, cur, rfl, hb, hg, h3, h4, h5, h6⟩⟩ := h
  · exact ⟨none, 0, rfl, by simpa using h1, by omega, by omega⟩
  · obtain ⟨hi, rfl, _, h8, h9⟩ := IntBlk.of_owns h'
    exact ⟨_, cap, rfl, RdI.of_blk hi (by unfold maxLen at h9; omega)⟩

/-- A slice (address a, length n) of edges reads as 'es' in 'w': three cells each. -/
structure RdE (w : World) (a : Option Addr) (n : Nat) (es : List (Int × Int × Int)) : Prop where
  len : es.length = n
  small : n ≤ 9223372036854775807
  at_ : 0 < n → ∃ b off, a = some ⟨b, off, none⟩ ∧ b < w.heap.size ∧ ∀ j, j < n → ∃ u v x, Hid (es[j]? = some (u, v, x)) ∧
    w.cell? ⟨b, off + j * 3, none⟩ = some (.int .i64 u) ∧ w.cell? ⟨b, off + j * 3 + 1, none⟩ = some (.int .i64 v) ∧ w.cell? ⟨b, off + j * 3 + 2, none⟩ = some (.int .i64 x)

theorem RdE.below {w w' : World} {a : Option Addr} {n : Nat} {es : List (Int × Int × Int)} {B : Nat} (h : RdE w a n es) (hb : Below B w w') (hB : w.heap.size ≤ B) : RdE w' a n es :=
  ⟨h.len, h.small, fun h0 => by
    obtain ⟨b, off, e, hb', hc⟩ := h.at_ h0
    exact ⟨b, off, e, Nat.lt_of_lt_of_le hb' hb.size, fun j hj => by
      obtain ⟨u, v, x, hz, h1, h2, h3⟩ := hc j hj
      exact ⟨u, v, x, hz, (hb.cell (p := ⟨b, _, none⟩) (by show b < B; omega)).trans h1, (hb.cell (p := ⟨b, _, none⟩) (by show b < B; omega)).trans h2, (hb.cell (p := ⟨b, _, none⟩) (by show b < B; omega)).trans h3⟩⟩⟩

theorem RdE.alloc {w : World} {a : Option Addr} {n : Nat} {es : List (Int × Int × Int)} (h : RdE w a n es) (o : Obj) : RdE (w.alloc o) a n es :=
  h.below ((Below.refl _ _).alloc (Nat.le_refl _) _) (Nat.le_refl _)
theorem RdE.drewN {w : World} {a : Option Addr} {n : Nat} {es : List (Int × Int × Int)} (h : RdE w a n es) (q : Nat) : RdE (w.drewN q) a n es := h.below (below_drewN (Below.refl _ _) q) (Nat.le_refl _)

/-- Two further facts on a 'Below' that a walk wants in the open. -/
theorem bcell {W w1 : World} {B : Nat} (hb : Below B W w1) : (∀ b o, b < B → w1.cell? ⟨b, o, none⟩ = W.cell? ⟨b, o, none⟩) ∧ (∀ b o, b < B → w1.frozen? ⟨b, o, none⟩ = W.frozen? ⟨b, o, none⟩) :=
  ⟨fun b o h => hb.cell (p := ⟨b, o, none⟩) h, fun b o h => hb.frozen (p := ⟨b, o, none⟩) h⟩

theorem ret_int {k : IntKind} {a b : Int} (h : a = b) : Ending.returned (.int k a) = .returned (.int k b) := by rw [h]
theorem ret_bool {a b : Bool} (h : a = b) : Ending.returned (.bool a) = .returned (.bool b) := by rw [h]

end Go.Proofs.YtnfkbjgijelfdaaGreat
namespace Go.Proofs.YtnfkbjgijelfdaaGreat

/-- Where a number stands in a list first; -1: nowhere. -/
def idxFrom : List Int → Int → Nat → Int
  | [], _, _ => -1
  | z :: r, x, k => if z = x then k else idxFrom r x (k + 1)

theorem idxFrom_step (zs : List Int) (x : Int) (k : Nat) (h : k < zs.length) :
    idxFrom (zs.drop k) x k = if zs.getD k 0 = x then (k : Int) else idxFrom (zs.drop (k + 1)) x (k + 1) := by
  rw [List.drop_eq_getElem_cons h]; simp [idxFrom, List.getD, h]

theorem idxFrom_end (zs : List Int) (x : Int) (k : Nat) (h : zs.length ≤ k) : idxFrom (zs.drop k) x k = -1 := by
  rw [List.drop_eq_nil_of_le h]; rfl

theorem idxFrom_ge (zs : List Int) (x : Int) : ∀ k, (0 ≤ idxFrom zs x k ↔ x ∈ zs) := by
  induction zs with
  | nil => intro k; simp [idxFrom]
  | cons z r ih =>
    intro k
    unfold idxFrom
    by_cases h : z = x
    · simp [h]
    · rw [if_neg h, ih (k + 1)]; simp [Ne.symm h]

/-- Numbers ascend, each once, from the k-th place on. -/
def risingB : List Int → Bool
  | x :: y :: r => decide (x < y) && risingB (y :: r)
  | _ => true

theorem risingB_iff (zs : List Int) : risingB zs = true ↔ ∀ k, k + 1 < zs.length → zs.getD k 0 < zs.getD (k + 1) 0 := by
  induction zs with
  | nil => simp [risingB]
  | cons x r ih =>
    cases r with
    | nil => simp [risingB]
    | cons y r =>
      simp only [risingB, Bool.and_eq_true, decide_eq_true_eq, ih]
      constructor
      · rintro ⟨h1, h2⟩ k hk
        cases k with
        | zero => simpa using h1
        | succ k => simpa using h2 k (by simpa using hk)
      · intro h
        exact ⟨by simpa using h 0 (by simp), fun k hk => by simpa using h (k + 1) (by simpa using hk)⟩

/-- 'has': whether a number is in a list. -/
def hasB (zs : List Int) (x : Int) : Bool := decide (0 ≤ idxFrom zs x 0)
theorem hasB_iff (zs : List Int) (x : Int) : hasB zs x = true ↔ x ∈ zs := by unfold hasB; rw [decide_eq_true_iff, idxFrom_ge]

/-- Sorted, as the sort's contract has it. -/
def sortI (zs : List Int) : List Int := zs.mergeSort fun x y => decide (x ≤ y)

theorem sortI_perm (zs : List Int) : (sortI zs).Perm zs := List.mergeSort_perm _ _
theorem sortI_len (zs : List Int) : (sortI zs).length = zs.length := (sortI_perm zs).length_eq
theorem sortI_pw (zs : List Int) : (sortI zs).Pairwise (· ≤ ·) := by
  have := List.pairwise_mergeSort (le := fun x y : Int => decide (x ≤ y)) (by simp; omega) (by simp; omega) zs
  simpa [sortI] using this
theorem sortI_unique {l zs : List Int} (hp : l.Perm zs) (hs : l.Pairwise (· ≤ ·)) : l = sortI zs :=
  List.Perm.eq_of_pairwise (le := (· ≤ ·)) (fun a b _ _ h1 h2 => by omega) hs (sortI_pw zs) (hp.trans (sortI_perm zs).symm)
theorem mem_sortI {zs : List Int} {x : Int} : x ∈ sortI zs ↔ x ∈ zs := (sortI_perm zs).mem_iff

/-- Two places of a list exchanged. -/
def swapL (l : List Int) (i j : Nat) : List Int := (l.set i (l.getD j 0)).set j (l.getD i 0)
theorem swapL_len (l : List Int) (i j : Nat) : (swapL l i j).length = l.length := by simp [swapL]
theorem swapL_perm (l : List Int) (i j : Nat) (hi : i < l.length) (hj : j < l.length) : (swapL l i j).Perm l := by
  have h := Array.swap_perm (xs := l.toArray) (i := i) (j := j) (by simpa using hi) (by simpa using hj)
  have h2 := Array.perm_iff_toList_perm.1 h
  simpa [Array.swap_def, swapL, List.getD, hi, hj] using h2
theorem swapL_get (l : List Int) (i j k : Nat) (hi : i < l.length) (hj : j < l.length) :
    (swapL l i j).getD k 0 = if k = j then l.getD i 0 else if k = i then l.getD j 0 else l.getD k 0 := by
  unfold swapL
  simp only [List.getD, List.getElem?_set, List.length_set]
  by_cases h1 : j = k
  · subst h1; simp [hj]
  · rw [if_neg h1, if_neg (Ne.symm h1)]
    by_cases h2 : i = k
    · subst h2; simp [hi]
    · rw [if_neg h2, if_neg (Ne.symm h2)]

theorem swapL_comm (l : List Int) (i j : Nat) (h : i ≠ j) : swapL l i j = swapL l j i := by unfold swapL; rw [List.set_comm _ _ h]

/-- The insertion's inner state: the places 0 to k ascend, but for place i, which is not less than what stands behind it. -/
def InsAt (l : List Int) (k i : Nat) : Prop := ∀ a b, a < b → b ≤ k → b ≠ i → l.getD a 0 ≤ l.getD b 0
theorem InsAt.swap {l : List Int} {k i : Nat} (h : InsAt l k i) (hi : 0 < i) (hik : i ≤ k) (hk : k < l.length) (hlt : l.getD i 0 < l.getD (i - 1) 0) :
    InsAt (swapL l (i - 1) i) k (i - 1) := by
  intro a b hab hbk hb
  rw [swapL_get _ _ _ _ (by omega) (by omega), swapL_get _ _ _ _ (by omega) (by omega)]
  by_cases b1 : b = i
  · subst b1
    rw [if_pos rfl]
    by_cases a1 : a = b - 1
    · subst a1; rw [if_neg (by omega), if_pos rfl]; omega
    · rw [if_neg (by omega), if_neg a1]; exact h a (b - 1) (by omega) (by omega) (by omega)
  · rw [if_neg b1, if_neg hb]
    by_cases a1 : a = i
    · subst a1; rw [if_pos rfl]; exact h (a - 1) b (by omega) hbk b1
    · rw [if_neg a1]
      by_cases a2 : a = i - 1
      · subst a2; rw [if_pos rfl]; exact h i b (by omega) hbk b1
      · rw [if_neg a2]; exact h a b hab hbk b1
/-- The places 0 to k ascend. -/
def SortedTo (l : List Int) (k : Nat) : Prop := ∀ a b, a < b → b ≤ k → l.getD a 0 ≤ l.getD b 0
theorem InsAt.done0 {l : List Int} {k : Nat} (h : InsAt l k 0) : SortedTo l k := fun a b hab hbk => h a b hab hbk (by omega)
theorem InsAt.done {l : List Int} {k i : Nat} (h : InsAt l k i) (hi : 0 < i) (hik : i ≤ k) (hge : l.getD (i - 1) 0 ≤ l.getD i 0) : SortedTo l k := by
  intro a b hab hbk
  by_cases b1 : b = i
  · subst b1
    by_cases a1 : a = b - 1
    · subst a1; exact hge
    · have := h a (b - 1) (by omega) (by omega) (by omega); omega
  · exact h a b hab hbk b1
theorem SortedTo.ins {l : List Int} {k : Nat} (h : SortedTo l k) : InsAt l (k + 1) (k + 1) := fun a b hab hbk hb => h a b hab (by omega)
theorem SortedTo.eq {l zs : List Int} (hp : l.Perm zs) (h : SortedTo l (l.length - 1)) : l = sortI zs := by
  refine sortI_unique hp (List.pairwise_iff_getElem.2 fun i j hi hj hij => ?_)
  have := h i j hij (by omega)
  simpa [List.getD, hi, hj] using this

/-- 'arc': whether there is an edge from u to v. -/
def arcAt (d : Bool) (e : Int × Int × Int) (u v : Int) : Bool := (e.1 == u && e.2.1 == v) || (!d && e.1 == v && e.2.1 == u)
def arcB (d : Bool) (es : List (Int × Int × Int)) (u v : Int) : Bool := es.any fun e => arcAt d e u v
theorem arcB_step (d : Bool) (es : List (Int × Int × Int)) (u v : Int) (k : Nat) (e : Int × Int × Int) (h : es[k]? = some e) :
    arcB d (es.drop k) u v = (arcAt d e u v || arcB d (es.drop (k + 1)) u v) := by
  obtain ⟨hk, rfl⟩ := List.getElem?_eq_some_iff.1 h
  rw [List.drop_eq_getElem_cons hk]; rfl
theorem arcB_end (d : Bool) (es : List (Int × Int × Int)) (u v : Int) (k : Nat) (h : es.length ≤ k) : arcB d (es.drop k) u v = false := by
  rw [List.drop_eq_nil_of_le h]; rfl

/-- 'well': an edge that joins two different nodes, with a weight up to 2^40. -/
def most : Int := 1099511627776
def edgeB (ns : List Int) (e : Int × Int × Int) : Bool := !(e.1 == e.2.1) && hasB ns e.1 && hasB ns e.2.1 && !decide (most < e.2.2) && !decide (e.2.2 < -most)
def edgesB (ns : List Int) (es : List (Int × Int × Int)) : Bool := es.all (edgeB ns)
theorem edgesB_step (ns : List Int) (es : List (Int × Int × Int)) (k : Nat) (e : Int × Int × Int) (h : es[k]? = some e) :
    edgesB ns (es.drop k) = (edgeB ns e && edgesB ns (es.drop (k + 1))) := by
  obtain ⟨hk, rfl⟩ := List.getElem?_eq_some_iff.1 h
  rw [List.drop_eq_getElem_cons hk]; rfl
theorem edgesB_end (ns : List Int) (es : List (Int × Int × Int)) (k : Nat) (h : es.length ≤ k) : edgesB ns (es.drop k) = true := by
  rw [List.drop_eq_nil_of_le h]; rfl
def wellB (ns : List Int) (es : List (Int × Int × Int)) : Bool := risingB (sortI ns) && edgesB ns es

end Go.Proofs.YtnfkbjgijelfdaaGreat
namespace Go.Proofs.YtnfkbjgijelfdaaGreat
open Go.RowKit
variable {P : Program}

/-- A store of a float, of an interface value. -/
@[go_sem] theorem run_store_float (w : World) (a : Addr) (m : Mode) (k : FloatKind) (b : Nat) : (store a (.float k b) m).run P w = stored P w a (.float k b) m := run_store P w a _ m rfl
@[go_sem] theorem run_store_iface (w : World) (a : Addr) (m : Mode) (t : TypeId) (v : Value) : (store a (.iface t v) m).run P w = stored P w a (.iface t v) m := run_store P w a _ m rfl
@[go_sem] theorem run_store_nilIface (w : World) (a : Addr) (m : Mode) : (store a .nilIface m).run P w = stored P w a .nilIface m := run_store P w a _ m rfl

/-- copy over a row of cells, elements of 'size' cells. -/
theorem run_copy_rowK (w : World) (dT sT ty elem : TypeId) (size g o dLen dCap : Nat) (a : Addr) (sLen sCap : Nat) (cur : Array Value) (t : TypeId) (cs : List Value)
    (hu : P.underlying dT = some (.slice elem)) (hs : (P.info? elem).map (·.size) = some size)
    (hg : w.heap[g]? = some (.cells cur t (0, 0))) (hn : cs.length = Nat.min sLen dLen * size)
    (hsrc : ∀ j v, cs[j]? = some v → w.cell? (a.add j) = some v) (hfit : o + cs.length ≤ cur.size) (h1 : ∀ v ∈ cs, v.oneCell' = true) :
    (Builtin.copy_ #[dT, sT] ty #[.slice (some ⟨g, o, none⟩) dLen dCap, .slice (some a) sLen sCap]).run P w =
      .ok (goInt (Nat.min sLen dLen)) (w.setRow g (cur.toList.take o ++ cs ++ cur.toList.drop (o + cs.length)).toArray) := by
  have hl := run_firstCells_some (P := P) w size (Nat.min sLen dLen) a sLen sCap cs hn hsrc
  have hst := run_storeCells_at P g o t cs 0 cur w hg (by simpa using hfit) h1
  cases hq : P.info? elem with
  | none => simp [hq] at hs
  | some i =>
    have hi : i.size = size := by simpa [hq] using hs
    simp [Builtin.copy_, run_underlying hu, Builtin.lenOf, sizeOf, typeInfo, hq, hi, hl, hst]

/-- append of n zero values where there is no room: a new row. -/
theorem run_append_zeros_grow (w : World) (t tn ty e : TypeId) (i : TypeInfo) (z : Value) (k kn : IntKind) (ht : P.underlying t = some (.slice e)) (htn : P.underlying tn = some (.int kn)) (hi : P.info? e = some i) (hz : i.zero = some z)
    (base : Option Addr) (sLen sCap : Nat) (olds : List Value) (hold : (Builtin.firstCells i.size sLen (.slice base sLen sCap)).run P w.drew = .ok olds.toArray w.drew)
    (n : Nat) (h0 : 0 < n) (hs : 0 < i.size) (hg : sCap < sLen + n) (h63 : ((sLen + n : Nat) : Int) ≤ 9223372036854775807) (h48 : n * i.bytes ≤ 281474976710656) (hfit : Builtin.nextslicecap (sLen + n) sCap * i.bytes ≤ 281474976710656) :
    (Builtin.append_ #[t, tn] ty #[.slice base sLen sCap, .int k n]).run P w =
      .ok (.slice (some ⟨w.heap.size, 0, none⟩) (sLen + n) (grownCap w (sLen + n) sCap e))
        (w.drew.alloc (.cells (olds.toArray ++ Builtin.zeroCells z.cells n ++ Builtin.zeroCells z.cells (grownCap w (sLen + n) sCap e - (sLen + n))) e)) := by
  have hn : n ≠ 0 := by omega
  have hw : IntKind.i64.wrap (n : Int) = n := by rw [IntKind.wrap_i64]; omega
  have h63' : ¬ (9223372036854775807 < ((sLen : Int) + (n : Int))) := by omega
  have h48' : ¬ (281474976710656 < Builtin.nextslicecap (sLen + n) sCap * i.bytes) := by omega
  have h48i : ¬ (281474976710656 < (n : Int) * (i.bytes : Int)) := by
    rw [← Int.natCast_mul]
    omega
  have hneg : ¬ ((n : Int) < 0) := by omega
  have hns : ¬ (n * i.size = 0) := Nat.mul_ne_zero hn (by omega)
  have hroom : ¬ (sLen + n ≤ sCap) := by omega
  simp [Builtin.append_, run_underlying ht, run_underlying htn, sizeOf, typeInfo, zeroValue, hi, hz, asInt, asIntOf, hw, hneg, hns, hroom, h63', h48', h48i, Question.forced, hold, newRow, grownCap]

theorem wp_copy_run' (w : World) {o : Oper} {a : Act} {K : Act → World → Prop} {Q : Exit → Act → World → Prop} (d s : Operand) (t t' : TypeId)
    (ho : o.op = .call { callee := .builtin .copy, args := #[d, s], argTypes := #[t, t'] }) (v u : Value) (hd : a.eval d = v) (hs : a.eval s = u) {v' : Value} {w' : World}
    (hr : (Builtin.copy_ #[t, t'] o.type #[v, u]).run P w = .ok v' w') (h : K (a.put o.dst v') w') : o.wp P a w K Q := by
  unfold Oper.wp execOp
  simp only [ho, resolve, invoke, builtin, Sem.run_bind, Sem.run_pure, Result.andThen_ok, List.map_toArray, List.map_cons, List.map_nil, hd, hs, hr]
  exact h

/-- The operation copy, where its run is known by an equation. -/
theorem wpList_copy_run' (w : World) {ops : Array Oper} {rest : List Oper} {o : Oper} {a : Act} {Q : Exit → Act → World → Prop} (hgd : o.guard = none) (d s : Operand) (t t' : TypeId)
    (ho : o.op = .call { callee := .builtin .copy, args := #[d, s], argTypes := #[t, t'] }) (v u : Value) (hd : a.eval d = v) (hs : a.eval s = u) {v' : Value} {w' : World}
    (hr : (Builtin.copy_ #[t, t'] o.type #[v, u]).run P w = .ok v' w') (h : wpList P ops Q rest (a.put o.dst v') w') : wpList P ops Q (o :: rest) a w :=
  wpList_plain hgd fun _ hK => wp_copy_run' w d s t t' ho v u hd hs hr (hK _ _ h)

/-- .. and as one step of a region that draws. -/
theorem step_copy_run' {ops : Array Oper} {o : Oper} {a : Act} {w : World} {K : Act → World → Prop} {Q : Exit → Act → World → Prop} {E : Prop}
    (hg : o.guard = none) (d x : Operand) (dT sT : TypeId) (hop : o.op = Op.call { callee := Callee.builtin Builtin.copy, args := #[d, x], argTypes := #[dT, sT] })
    (v u : Value) (hd : a.eval d = v) (hx : a.eval x = u) {v' : Value} {w' : World} (hr : (Builtin.copy_ #[dT, sT] o.type #[v, u]).run P w = .ok v' w') (hK : K (a.put o.dst v') w') :
    if Region.wanted o (yielded ops a.tmps) = true then Oper.wp P o a w K Q else E := by
  have hw : Region.wanted o (yielded ops a.tmps) = true := by simp [Region.wanted, hg]
  rw [if_pos hw]
  unfold Oper.wp
  simp [execOp, hop, resolve, invoke, builtin, hd, hx, hr, Result.andThen]
  exact hK

/-- From x one comes to y. -/
def ReachA (adj : Int → List Int) (x y : Int) : Prop := ∀ S : Int → Prop, S x → (∀ a b, S a → b ∈ adj a → S b) → S y
theorem ReachA.refl (adj : Int → List Int) (x : Int) : ReachA adj x x := fun _ h _ => h
theorem ReachA.step {adj : Int → List Int} {x y z : Int} (h : ReachA adj x y) (hz : z ∈ adj y) : ReachA adj x z := fun S h1 h2 => h2 y z (h S h1 h2) hz
theorem ReachA.trans {adj : Int → List Int} {x y z : Int} (h : ReachA adj x y) (g : ReachA adj y z) : ReachA adj x z := fun S h1 h2 => g S (h S h1 h2) h2
end Go.Proofs.YtnfkbjgijelfdaaGreat
