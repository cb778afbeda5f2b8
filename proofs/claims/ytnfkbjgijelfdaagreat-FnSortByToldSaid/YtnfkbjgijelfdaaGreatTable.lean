/- The table of a graph, in memory and in plain words. The walk of tableOf. -/
import Derived.Test.YtnfkbjgijelfdaaGreatRowsMath
import Derived.Test.YtnfkbjgijelfdaaGreatSeen
import Derived.Test.YtnfkbjgijelfdaaGreatPlain
import Derived.Deep.RegionHeld3
import Derived.Deep.RegionLaw
import Derived.Deep.AppendLies
import Derived.BigQuiet
namespace Go.Proofs.YtnfkbjgijelfdaaGreat
open Go.RowKit

/-- Whether there is an edge between two places; its weight (the last one counts). -/
def tabA (d : Bool) (ids : List Int) (es : List (Int × Int × Int)) (i c : Nat) : Bool := es.any (hitsB d ids i c)
def tabW (d : Bool) (ids : List Int) (es : List (Int × Int × Int)) (i c : Nat) : Int := es.foldl (fun acc e => if hitsB d ids i c e then e.2.2 else acc) 0

theorem tabA_succ (d : Bool) (ids : List Int) (es : List (Int × Int × Int)) (j i c : Nat) (e : Int × Int × Int) (h : es[j]? = some e) : tabA d ids (es.take (j + 1)) i c = (hitsB d ids i c e || tabA d ids (es.take j) i c) := by
  obtain ⟨hj, rfl⟩ := List.getElem?_eq_some_iff.1 h
  unfold tabA
  rw [List.take_succ_eq_append_getElem hj, List.any_append]
  simp [Bool.or_comm]
theorem tabW_succ (d : Bool) (ids : List Int) (es : List (Int × Int × Int)) (j i c : Nat) (e : Int × Int × Int) (h : es[j]? = some e) : tabW d ids (es.take (j + 1)) i c = if hitsB d ids i c e then e.2.2 else tabW d ids (es.take j) i c := by
  obtain ⟨hj, rfl⟩ := List.getElem?_eq_some_iff.1 h
  unfold tabW
  rw [List.take_succ_eq_append_getElem hj, List.foldl_append]
  rfl

theorem idxFrom_posOf (ids : List Int) (x : Int) (hs : ids.Pairwise (· < ·)) (hx : x ∈ ids) : ∀ k : Nat, idxFrom ids x k = ((k + posOf ids x : Nat) : Int) := by
  induction ids with
  | nil => cases hx
  | cons a r ih =>
    intro k
    obtain ⟨h1, h2⟩ := List.pairwise_cons.1 hs
    unfold idxFrom
    by_cases e : a = x
    · subst e
      have h0 : posOf (a :: r) a = 0 := by
        unfold posOf
        rw [List.countP_cons_of_neg (by simp)]
        rw [List.countP_eq_zero]
        intro y hy
        have := h1 y hy
        simp; omega
      simp [h0]
    · have hxr : x ∈ r := by
        rcases List.mem_cons.1 hx with h | h
        · exact absurd h.symm e
        · exact h
      have hlt : a < x := h1 x hxr
      have h0 : posOf (a :: r) x = posOf r x + 1 := by
        unfold posOf
        rw [List.countP_cons_of_pos (by simpa using hlt)]
      simp only [e, if_false]
      rw [ih h2 hxr (k + 1), h0]
      omega

/-- Row i of a matrix that the call owns: its block begins at GA i. -/
def rowV (n : Nat) (GA : Nat → Nat) (i : Nat) : Value := .slice (some ⟨GA i, 0, none⟩) n n
structure Mat {α : Type} (enc : α → Value) (w : World) (lo n k : Nat) (E : TypeId) (GA : Nat → Nat) (M : Nat → Nat → α) : Prop where
  at_ : ∀ i, i < k → w.heap[GA i]? = some (.cells ((List.range n).map fun c => enc (M i c)).toArray E (0, 0))
  lo_ : ∀ i, i < k → lo ≤ GA i
  mono : ∀ i j, i < j → j < k → GA i < GA j

section
variable {α : Type} {enc : α → Value} {w w' : World} {lo n k : Nat} {E : TypeId} {GA : Nat → Nat} {M : Nat → Nat → α}
theorem Mat.lt (h : Mat enc w lo n k E GA M) {i : Nat} (hi : i < k) : GA i < w.heap.size := (Array.getElem?_eq_some_iff.1 (h.at_ i hi)).1
theorem Mat.of_heap (h : Mat enc w lo n k E GA M) (e : ∀ i, i < k → w'.heap[GA i]? = w.heap[GA i]?) : Mat enc w' lo n k E GA M := ⟨fun i hi => (e i hi).trans (h.at_ i hi), h.lo_, h.mono⟩
theorem Mat.congr {M' : Nat → Nat → α} (h : Mat enc w lo n k E GA M) (e : ∀ i c, i < k → c < n → M' i c = M i c) : Mat enc w lo n k E GA M' :=
  ⟨fun i hi => by
    rw [h.at_ i hi]
    congr 3
    apply List.map_congr_left
    intro c hc
    rw [e i c hi (List.mem_range.1 hc)], h.lo_, h.mono⟩
theorem Mat.inj (h : Mat enc w lo n k E GA M) {i j : Nat} (hi : i < k) (hj : j < k) (e : GA i = GA j) : i = j := by
  rcases Nat.lt_trichotomy i j with h1 | h1 | h1
  · have := h.mono i j h1 hj; omega
  · exact h1
  · have := h.mono j i h1 hi; omega
theorem Mat.snoc (h : Mat enc w lo n k E GA M) {g : Nat} (hg : w.heap[g]? = some (.cells ((List.range n).map fun c => enc (M k c)).toArray E (0, 0))) (hlo : lo ≤ g) (hlt : ∀ i, i < k → GA i < g) :
    Mat enc w lo n (k + 1) E (fun i => if i = k then g else GA i) M := by
  refine ⟨fun i hi => ?_, fun i hi => ?_, fun i j hij hj => ?_⟩
  · by_cases e : i = k
    · subst e; simpa using hg
    · simp only [e, if_false]; exact h.at_ i (by omega)
  · by_cases e : i = k
    · simpa [e] using hlo
    · simp only [e, if_false]; exact h.lo_ i (by omega)
  · have e1 : i ≠ k := by omega
    by_cases e : j = k
    · simp only [e, e1, if_true, if_false]; exact hlt i (by omega)
    · simp only [e, e1, if_false]; exact h.mono i j hij (by omega)
theorem Mat.cell (h : Mat enc w lo n k E GA M) {i c : Nat} (hi : i < k) (hc : c < n) : w.cell? ⟨GA i, c, none⟩ = some (enc (M i c)) := by
  rw [cell_of_row w (GA i) c _ _ (0, 0) (h.at_ i hi)]
  simp [hc]
theorem Mat.free (h : Mat enc w lo n k E GA M) {i : Nat} (hi : i < k) (c : Nat) : w.frozen? ⟨GA i, c, none⟩ = false := by simp [World.frozen?, h.at_ i hi]
theorem Mat.set (h : Mat enc w lo n k E GA M) {u v : Nat} (hu : u < k) (hv : v < n) (x : α) : Mat enc (w.setCell ⟨GA u, v, none⟩ (enc x)) lo n k E GA (fun i c => if i = u ∧ c = v then x else M i c) := by
  refine ⟨fun i hi => ?_, h.lo_, h.mono⟩
  by_cases e : i = u
  · subst e
    rw [heap_setCell_same (h.at_ i hi)]
    congr 2
    apply Array.ext_getElem?
    intro j
    simp only [List.setIfInBounds_toArray, List.getElem?_toArray, List.getElem?_set, List.getElem?_map, List.length_map, List.length_range]
    by_cases ej : v = j
    · subst ej; simp [hv]
    · simp only [ej, if_false]
      by_cases hj : j < n
      · simp [hj, show ¬ j = v from fun h => ej h.symm]
      · simp [hj]
  · rw [Below.heap_setCell _ _ _ _ (fun e2 => e (h.inj hi hu e2)), h.at_ i hi]
    simp [e]
end

/-- The state of tableOf: the argument's box, the result's block, the table; ka rows of bools, kw rows of weights. -/
structure TabSt (w : World) (bt : Nat) (d : Bool) (an ae : Option Addr) (n cn m ce : Nat) (vN vA vW : Value) (GA GW : Nat → Nat) (ka kw : Nat) (ids : List Int) (MA : Nat → Nat → Bool) (MW : Nat → Nat → Int) (wr : World) : Prop where
  box : wr.heap[w.heap.size]? = some (.cells #[.bool d, .slice an n cn, .slice ae m ce] 25 (0, 0))
  res : wr.heap[w.heap.size + 1]? = some (.cells #[.slice none 0 0, .slice none 0 0, .slice none 0 0] 150 (0, 0))
  tbl : wr.heap[bt]? = some (.cells #[vN, vA, vW] 150 (0, 0))
  nodes : wr.ownsRow (w.heap.size + 2) 3 1 vN n (ids.map (Value.int .i64))
  ordN : ∀ g, vN.ownBlock = some g → g < bt
  ord : w.heap.size + 1 < bt
  arc : wr.ownsRow (bt + 1) 153 1 vA ka ((List.range ka).map (rowV n GA))
  wts : wr.ownsRow (bt + 1) 22 1 vW kw ((List.range kw).map (rowV n GW))
  ma : Mat Value.bool wr (bt + 1) n ka 4 GA MA
  mw : Mat (Value.int .i64) wr (bt + 1) n kw 3 GW MW
  below : Below w.heap.size w wr

section
variable {w wr w' wa : World} {bt : Nat} {d : Bool} {an ae : Option Addr} {n cn m ce : Nat} {vN vA vW v' : Value} {GA GW : Nat → Nat} {ka kw : Nat} {ids : List Int} {MA : Nat → Nat → Bool} {MW : Nat → Nat → Int}
theorem TabSt.lt (h : TabSt w bt d an ae n cn m ce vN vA vW GA GW ka kw ids MA MW wr) : bt < wr.heap.size := (Array.getElem?_eq_some_iff.1 h.tbl).1
/-- Where all blocks that matter are as they were. -/
theorem TabSt.of_heap (h : TabSt w bt d an ae n cn m ce vN vA vW GA GW ka kw ids MA MW wr) (e : ∀ j, j < wr.heap.size → w'.heap[j]? = wr.heap[j]?) (hb : Below w.heap.size w w') : TabSt w bt d an ae n cn m ce vN vA vW GA GW ka kw ids MA MW w' := by
  have h0 := h.lt; have h1 := h.ord
  exact ⟨(e _ (by omega)).trans h.box, (e _ (by omega)).trans h.res, (e _ h0).trans h.tbl, ownsRow_of_heap h.nodes (fun g hg => e g (h.nodes.lt g hg).2), h.ordN, h.ord, ownsRow_of_heap h.arc (fun g hg => e g (h.arc.lt g hg).2), ownsRow_of_heap h.wts (fun g hg => e g (h.wts.lt g hg).2),
    h.ma.of_heap (fun i hi => e _ (h.ma.lt hi)), h.mw.of_heap (fun i hi => e _ (h.mw.lt hi)), hb⟩
theorem TabSt.later (h : TabSt w bt d an ae n cn m ce vN vA vW GA GW ka kw ids MA MW wr) (hb : Below wr.heap.size wr w') : TabSt w bt d an ae n cn m ce vN vA vW GA GW ka kw ids MA MW w' :=
  h.of_heap (fun j hj => hb.block j hj) (h.below.trans (hb.mono (by have := h.lt; have := h.ord; omega)))
theorem TabSt.cells (h : TabSt w bt d an ae n cn m ce vN vA vW GA GW ka kw ids MA MW wr) :
    wr.cell? ⟨w.heap.size, 0, none⟩ = some (.bool d) ∧ wr.cell? ⟨w.heap.size, 1, none⟩ = some (.slice an n cn) ∧ wr.cell? ⟨w.heap.size, 2, none⟩ = some (.slice ae m ce) ∧
      wr.cell? ⟨bt, 0, none⟩ = some vN ∧ wr.cell? ⟨bt, 1, none⟩ = some vA ∧ wr.cell? ⟨bt, 2, none⟩ = some vW ∧ (∀ j, wr.frozen? ⟨bt, j, none⟩ = false) := by
  refine ⟨?_, ?_, ?_, ?_, ?_, ?_, fun j => by simp [World.frozen?, h.tbl]⟩
  · rw [cell_of_row wr _ _ _ _ (0, 0) h.box]; rfl
  · rw [cell_of_row wr _ _ _ _ (0, 0) h.box]; rfl
  · rw [cell_of_row wr _ _ _ _ (0, 0) h.box]; rfl
  · rw [cell_of_row wr _ _ _ _ (0, 0) h.tbl]; rfl
  · rw [cell_of_row wr _ _ _ _ (0, 0) h.tbl]; rfl
  · rw [cell_of_row wr _ _ _ _ (0, 0) h.tbl]; rfl

theorem own_ty {base : Nat} {e : TypeId} {size : Nat} {v : Value} {xs : List Value} (h : wr.ownsRow base e size v n xs) {g : Nat} (hg : v.ownBlock = some g) : ∃ cs, wr.heap[g]? = some (.cells cs e (0, 0)) := by
  rcases h.2 with ⟨rfl, _⟩ | ⟨g', cap, cur, rfl, _, hh, _⟩
  · simp [Value.ownBlock] at hg
  · have : g' = g := by simpa [Value.ownBlock] using hg
    subst this
    exact ⟨cur, hh⟩

/-- A row of bools more: made in block g, the outer row written. -/
theorem TabSt.moreA (h : TabSt w bt d an ae n cn m ce vN vA vW GA GW ka kw ids MA MW wr) (ha : Below wr.heap.size wr wa) {g : Nat} (hg : wa.heap[g]? = some (.cells ((List.range n).map fun c => Value.bool (MA ka c)).toArray 4 (0, 0))) (hlo : wr.heap.size ≤ g)
    (ho : w'.ownsRow (bt + 1) 153 1 v' (ka + 1) ((List.range ka).map (rowV n GA) ++ [.slice (some ⟨g, 0, none⟩) n n])) (hgr : wa.grownBy w' vA.ownBlock) :
    TabSt w bt d an ae n cn m ce vN v' vW (fun i => if i = ka then g else GA i) GW (ka + 1) kw ids MA MW (w'.setCell ⟨bt, 1, none⟩ v') := by
  have hL := h.later ha
  have h0 := hL.lt; have h1 := hL.ord
  have hgl := (Array.getElem?_eq_some_iff.1 hg).1
  have hv : ∀ j, j ≤ bt → some j ≠ vA.ownBlock := fun j hj e => by have := (hL.arc.lt j e.symm).1; omega
  have b1 : w'.heap[bt]? = some (.cells #[vN, vA, vW] 150 (0, 0)) := (hgr.block bt h0 (hv bt (Nat.le_refl _))).trans hL.tbl
  have keep : ∀ j, j < wa.heap.size → j ≠ bt → some j ≠ vA.ownBlock → (w'.setCell ⟨bt, 1, none⟩ v').heap[j]? = wa.heap[j]? := fun j hj hne hnv => by
    rw [Below.heap_setCell _ _ _ _ (fun e => hne e)]; exact hgr.block j hj hnv
  have hty : ∀ j cs e, wa.heap[j]? = some (.cells cs e (0, 0)) → e ≠ 153 → some j ≠ vA.ownBlock := fun j cs e hj hne heq => by
    obtain ⟨cs', h2⟩ := own_ty hL.arc heq.symm
    rw [hj] at h2
    simp only [Option.some.injEq, Obj.cells.injEq] at h2
    exact hne h2.2.1
  have hgA : ∀ i, i < ka → GA i < g := fun i hi => Nat.lt_of_lt_of_le (h.ma.lt hi) hlo
  refine ⟨(keep _ (by omega) (by omega) (hv _ (by omega))).trans hL.box, (keep _ (by omega) (by omega) (hv _ (by omega))).trans hL.res, ?_, ownsRow_of_heap hL.nodes (fun j hj => keep j (hL.nodes.lt j hj).2 (by have := h.ordN j hj; omega) (hv j (by have := h.ordN j hj; omega))), h.ordN, h.ord, ?_, ownsRow_of_heap hL.wts (fun j hj => ?_), ?_, hL.mw.of_heap (fun i hi => ?_), ?_⟩
  · rw [heap_setCell_same b1]; rfl
  · have e : (List.range (ka + 1)).map (rowV n fun i => if i = ka then g else GA i) = (List.range ka).map (rowV n GA) ++ [.slice (some ⟨g, 0, none⟩) n n] := by
      rw [List.range_succ, List.map_append]
      congr 1
      · apply List.map_congr_left
        intro i hi
        have : i ≠ ka := by have := List.mem_range.1 hi; omega
        simp [rowV, this]
      · simp [rowV]
    rw [e]
    exact ownsRow_of_heap ho (fun j hj => Below.heap_setCell _ _ _ _ (fun e2 => by have e' : j = bt := e2; have := (ho.lt j hj).1; omega))
  · obtain ⟨cs, hcs⟩ := own_ty hL.wts hj
    exact keep j (hL.wts.lt j hj).2 (by have := (hL.wts.lt j hj).1; omega) (hty j _ _ hcs (by decide))
  · have hm := (hL.ma.of_heap (w' := w'.setCell ⟨bt, 1, none⟩ v') (fun i hi => keep _ (hL.ma.lt hi) (by have := hL.ma.lo_ i hi; omega) (hty _ _ _ (hL.ma.at_ i hi) (by decide))))
    exact hm.snoc ((keep g hgl (by have := h.lt; omega) (hty _ _ _ hg (by decide))).trans hg) (by have := h.lt; omega) hgA
  · exact keep _ (hL.mw.lt hi) (by have := hL.mw.lo_ i hi; omega) (hty _ _ _ (hL.mw.at_ i hi) (by decide))
  · exact (hL.below.grown hgr (by omega) (fun j hj => by have := (hL.arc.lt j hj).1; omega)).setCell (by show _ ≤ bt; omega) _

/-- A row of weights more. -/
theorem TabSt.moreW (h : TabSt w bt d an ae n cn m ce vN vA vW GA GW ka kw ids MA MW wr) (ha : Below wr.heap.size wr wa) {g : Nat} (hg : wa.heap[g]? = some (.cells ((List.range n).map fun c => Value.int .i64 (MW kw c)).toArray 3 (0, 0))) (hlo : wr.heap.size ≤ g)
    (ho : w'.ownsRow (bt + 1) 22 1 v' (kw + 1) ((List.range kw).map (rowV n GW) ++ [.slice (some ⟨g, 0, none⟩) n n])) (hgr : wa.grownBy w' vW.ownBlock) :
    TabSt w bt d an ae n cn m ce vN vA v' GA (fun i => if i = kw then g else GW i) ka (kw + 1) ids MA MW (w'.setCell ⟨bt, 2, none⟩ v') := by
  have hL := h.later ha
  have h0 := hL.lt; have h1 := hL.ord
  have hgl := (Array.getElem?_eq_some_iff.1 hg).1
  have hv : ∀ j, j ≤ bt → some j ≠ vW.ownBlock := fun j hj e => by have := (hL.wts.lt j e.symm).1; omega
  have b1 : w'.heap[bt]? = some (.cells #[vN, vA, vW] 150 (0, 0)) := (hgr.block bt h0 (hv bt (Nat.le_refl _))).trans hL.tbl
  have keep : ∀ j, j < wa.heap.size → j ≠ bt → some j ≠ vW.ownBlock → (w'.setCell ⟨bt, 2, none⟩ v').heap[j]? = wa.heap[j]? := fun j hj hne hnv => by
    rw [Below.heap_setCell _ _ _ _ (fun e => hne e)]; exact hgr.block j hj hnv
  have hty : ∀ j cs e, wa.heap[j]? = some (.cells cs e (0, 0)) → e ≠ 22 → some j ≠ vW.ownBlock := fun j cs e hj hne heq => by
    obtain ⟨cs', h2⟩ := own_ty hL.wts heq.symm
    rw [hj] at h2
    simp only [Option.some.injEq, Obj.cells.injEq] at h2
    exact hne h2.2.1
  have hgA : ∀ i, i < kw → GW i < g := fun i hi => Nat.lt_of_lt_of_le (h.mw.lt hi) hlo
  refine ⟨(keep _ (by omega) (by omega) (hv _ (by omega))).trans hL.box, (keep _ (by omega) (by omega) (hv _ (by omega))).trans hL.res, ?_, ownsRow_of_heap hL.nodes (fun j hj => keep j (hL.nodes.lt j hj).2 (by have := h.ordN j hj; omega) (hv j (by have := h.ordN j hj; omega))), h.ordN, h.ord, ownsRow_of_heap hL.arc (fun j hj => ?_), ?_, hL.ma.of_heap (fun i hi => ?_), ?_, ?_⟩
  · rw [heap_setCell_same b1]; rfl
  · obtain ⟨cs, hcs⟩ := own_ty hL.arc hj
    exact keep j (hL.arc.lt j hj).2 (by have := (hL.arc.lt j hj).1; omega) (hty j _ _ hcs (by decide))
  · have e : (List.range (kw + 1)).map (rowV n fun i => if i = kw then g else GW i) = (List.range kw).map (rowV n GW) ++ [.slice (some ⟨g, 0, none⟩) n n] := by
      rw [List.range_succ, List.map_append]
      congr 1
      · apply List.map_congr_left
        intro i hi
        have : i ≠ kw := by have := List.mem_range.1 hi; omega
        simp [rowV, this]
      · simp [rowV]
    rw [e]
    exact ownsRow_of_heap ho (fun j hj => Below.heap_setCell _ _ _ _ (fun e2 => by have e' : j = bt := e2; have := (ho.lt j hj).1; omega))
  · exact keep _ (hL.ma.lt hi) (by have := hL.ma.lo_ i hi; omega) (hty _ _ _ (hL.ma.at_ i hi) (by decide))
  · have hm := (hL.mw.of_heap (w' := w'.setCell ⟨bt, 2, none⟩ v') (fun i hi => keep _ (hL.mw.lt hi) (by have := hL.mw.lo_ i hi; omega) (hty _ _ _ (hL.mw.at_ i hi) (by decide))))
    exact hm.snoc ((keep g hgl (by have := h.lt; omega) (hty _ _ _ hg (by decide))).trans hg) (by have := h.lt; omega) hgA
  · exact (hL.below.grown hgr (by omega) (fun j hj => by have := (hL.wts.lt j hj).1; omega)).setCell (by show _ ≤ bt; omega) _

/-- Both matrices stored into at one place. -/
theorem TabSt.both (h : TabSt w bt d an ae n cn m ce vN vA vW GA GW ka kw ids MA MW wr) {u v : Nat} (hu : u < ka) (hu2 : u < kw) (hv : v < n) (x : Int) :
    TabSt w bt d an ae n cn m ce vN vA vW GA GW ka kw ids (fun i c => if i = u ∧ c = v then true else MA i c) (fun i c => if i = u ∧ c = v then x else MW i c) ((wr.setCell ⟨GA u, v, none⟩ (.bool true)).setCell ⟨GW u, v, none⟩ (.int .i64 x)) := by
  have h0 := h.lt; have h1 := h.ord
  have ga := h.ma.lo_ u hu; have gw := h.mw.lo_ u hu2
  have ta := h.ma.at_ u hu; have tw := h.mw.at_ u hu2
  have hne : ∀ j cs e, wr.heap[j]? = some (.cells cs e (0, 0)) → e ≠ 4 → j ≠ GA u := fun j cs e hj he e2 => by
    subst e2; rw [hj] at ta; simp only [Option.some.injEq, Obj.cells.injEq] at ta; exact he ta.2.1
  have hnw : ∀ j cs e, wr.heap[j]? = some (.cells cs e (0, 0)) → e ≠ 3 → j ≠ GW u := fun j cs e hj he e2 => by
    subst e2; rw [hj] at tw; simp only [Option.some.injEq, Obj.cells.injEq] at tw; exact he tw.2.1
  have keep : ∀ j, j ≠ GA u → j ≠ GW u → ((wr.setCell ⟨GA u, v, none⟩ (.bool true)).setCell ⟨GW u, v, none⟩ (.int .i64 x)).heap[j]? = wr.heap[j]? := fun j h1 h2 => by
    rw [Below.heap_setCell _ _ _ _ (fun e => h2 e), Below.heap_setCell _ _ _ _ (fun e => h1 e)]
  refine ⟨(keep _ (by omega) (by omega)).trans h.box, (keep _ (by omega) (by omega)).trans h.res, (keep _ (by omega) (by omega)).trans h.tbl, ownsRow_of_heap h.nodes (fun j hj => keep j (by have := h.ordN j hj; omega) (by have := h.ordN j hj; omega)), h.ordN, h.ord, ownsRow_of_heap h.arc (fun j hj => ?_), ownsRow_of_heap h.wts (fun j hj => ?_), ?_, ?_, ?_⟩
  · obtain ⟨cs, hcs⟩ := own_ty h.arc hj
    exact keep j (hne _ _ _ hcs (by decide)) (hnw _ _ _ hcs (by decide))
  · obtain ⟨cs, hcs⟩ := own_ty h.wts hj
    exact keep j (hne _ _ _ hcs (by decide)) (hnw _ _ _ hcs (by decide))
  · exact (h.ma.set hu hv true).of_heap (fun i hi => Below.heap_setCell _ _ _ _ (fun e => hnw _ _ _ (h.ma.at_ i hi) (by decide) e))
  · exact (h.mw.of_heap (w' := wr.setCell ⟨GA u, v, none⟩ (.bool true)) (fun i hi => Below.heap_setCell _ _ _ _ (fun e => hne _ _ _ (h.mw.at_ i hi) (by decide) e))).set hu2 hv x
  · exact (h.below.setCell (by show _ ≤ GA u; omega) _).setCell (by show _ ≤ GW u; omega) _
end

theorem TabSt.congr {w wr : World} {bt : Nat} {d : Bool} {an ae : Option Addr} {n cn m ce : Nat} {vN vA vW : Value} {GA GW : Nat → Nat} {ka kw : Nat} {ids : List Int} {MA MA' : Nat → Nat → Bool} {MW MW' : Nat → Nat → Int} (h : TabSt w bt d an ae n cn m ce vN vA vW GA GW ka kw ids MA MW wr)
    (eA : ∀ i c, MA' i c = MA i c) (eW : ∀ i c, MW' i c = MW i c) : TabSt w bt d an ae n cn m ce vN vA vW GA GW ka kw ids MA' MW' wr := by
  obtain rfl : MA' = MA := funext fun i => funext fun c => eA i c
  obtain rfl : MW' = MW := funext fun i => funext fun c => eW i c
  exact h

/-- An element of an outer row, read. -/
theorem own_elem {w : World} {B : Nat} {e : TypeId} {a : Option Addr} {n c i : Nat} {xs : List Value} (h : w.ownsRow B e 1 (.slice a n c) n xs) (hi : i < n) : ∃ g, a = some ⟨g, 0, none⟩ ∧ w.cell? ⟨g, i, none⟩ = xs[i]? ∧ w.heap[g]? ≠ none ∧ ∃ cs, w.heap[g]? = some (.cells cs e (0, 0)) := by
  rcases h.2 with ⟨e1, h1⟩ | ⟨g, cap, cur, e1, hb, hg, h3, h4, h5, h6⟩
  · simp only [Value.slice.injEq] at e1; omega
  · simp only [Value.slice.injEq] at e1
    obtain ⟨rfl, -, rfl⟩ := e1
    refine ⟨g, rfl, ?_, by rw [hg]; simp, cur, hg⟩
    rw [cell_of_row w g i cur _ (0, 0) hg]
    have h7 : (cur.toList.take (n * 1))[i]? = xs[i]? := by rw [h6]
    rw [List.getElem?_take_of_lt (by omega)] at h7
    rw [← Array.getElem?_toList, h7]

theorem hits_true (ids : List Int) (i c : Nat) (u v x : Int) : hitsB true ids i c (u, v, x) = decide (i = posOf ids u ∧ c = posOf ids v) := by
  unfold hitsB; simp
theorem hits_false (ids : List Int) (i c : Nat) (u v x : Int) : hitsB false ids i c (u, v, x) = (decide (i = posOf ids u ∧ c = posOf ids v) || decide (i = posOf ids v ∧ c = posOf ids u)) := by
  unfold hitsB; simp

theorem setCell_far (w : World) (a : Addr) (v : Value) {b j : Nat} (h : b ≠ a.block) : (w.setCell a v).cell? ⟨b, j, none⟩ = w.cell? ⟨b, j, none⟩ := World.cell?_of_block (Below.heap_setCell _ _ _ _ h)
theorem setCell_free (w : World) (a : Addr) (v : Value) {b j : Nat} (h : b ≠ a.block) : (w.setCell a v).frozen? ⟨b, j, none⟩ = w.frozen? ⟨b, j, none⟩ := World.frozen?_of_block (Below.heap_setCell _ _ _ _ h)

/-- What a store into both matrices at (u, v) wants to know. -/
theorem TabSt.place {w wr : World} {bt : Nat} {d : Bool} {an ae : Option Addr} {n cn m ce c2 c3 u v : Nat} {vN : Value} {a2 a3 : Option Addr} {GA GW : Nat → Nat} {ids : List Int} {MA : Nat → Nat → Bool} {MW : Nat → Nat → Int} (h : TabSt w bt d an ae n cn m ce vN (.slice a2 n c2) (.slice a3 n c3) GA GW n n ids MA MW wr) (hu : u < n) (hv : v < n) :
    ∃ gA gW, a2 = some ⟨gA, 0, none⟩ ∧ a3 = some ⟨gW, 0, none⟩ ∧ wr.cell? ⟨gA, u, none⟩ = some (.slice (some ⟨GA u, 0, none⟩) n n) ∧ wr.cell? ⟨gW, u, none⟩ = some (.slice (some ⟨GW u, 0, none⟩) n n) ∧
      wr.cell? ⟨GA u, v, none⟩ = some (.bool (MA u v)) ∧ wr.frozen? ⟨GA u, v, none⟩ = false ∧ wr.cell? ⟨GW u, v, none⟩ = some (.int .i64 (MW u v)) ∧ wr.frozen? ⟨GW u, v, none⟩ = false ∧
      GW u ≠ GA u ∧ bt < GA u ∧ bt < GW u ∧ gA ≠ GA u ∧ gA ≠ GW u ∧ gW ≠ GA u ∧ gW ≠ GW u := by
  obtain ⟨gA, rfl, hcA, -, csA, htA⟩ := own_elem h.arc hu
  obtain ⟨gW, rfl, hcW, -, csW, htW⟩ := own_elem h.wts hu
  have tA := h.ma.at_ u hu; have tW := h.mw.at_ u hu
  have lA := h.ma.lo_ u hu; have lW := h.mw.lo_ u hu
  have ne : ∀ {i j : Nat} {c1 c2 : Array Value} {e1 e2 : TypeId}, wr.heap[i]? = some (.cells c1 e1 (0, 0)) → wr.heap[j]? = some (.cells c2 e2 (0, 0)) → e1 ≠ e2 → i ≠ j := fun {i j c1 c2 e1 e2} h1 h2 h3 e => by
    subst e; rw [h1] at h2; simp only [Option.some.injEq, Obj.cells.injEq] at h2; exact h3 h2.2.1
  refine ⟨gA, gW, rfl, rfl, ?_, ?_, h.ma.cell hu hv, h.ma.free hu v, h.mw.cell hu hv, h.mw.free hu v, ne tW tA (by decide), by omega, by omega, ne htA tA (by decide), ne htA tW (by decide), ne htW tA (by decide), ne htW tW (by decide)⟩
  · rw [hcA]; simp [hu, rowV]
  · rw [hcW]; simp [hu, rowV]

end Go.Proofs.YtnfkbjgijelfdaaGreat
namespace Go.Proofs.YtnfkbjgijelfdaaGreat
open Go.RowKit

theorem bool_info : (Tryz.prog.info? 4).map (fun i => (i.zero, i.size, i.bytes)) = some (some (.bool false), 1, 1) := by kernel_rfl
theorem bools_info : (Tryz.prog.info? 153).map (fun i => (i.zero, i.size, i.bytes)) = some (some (.slice none 0 0), 1, 24) := by kernel_rfl
theorem ints_info : (Tryz.prog.info? 22).map (fun i => (i.zero, i.size, i.bytes)) = some (some (.slice none 0 0), 1, 24) := by kernel_rfl

def zerosOf (v : Value) (n : Nat) : Array Value := ((List.range n).map fun _ => v).toArray
theorem made_zeros (v : Value) (n : Nat) (h : v.cells = #[v]) : madeCells v.cells n = zerosOf v n := by
  apply Array.ext
  · simp [madeCells, zerosOf]
  · intro j h1 h2
    simp [madeCells, zerosOf, h, Nat.mod_one]
theorem make_bools (W : World) (n : Nat) (hn : n ≤ 1000000) : (Instr.makeSlice 153 (.int .i64 n) (.int .i64 n)).run Tryz.prog W = .ok (.slice (some ⟨W.heap.size, 0, none⟩) n n) (W.alloc (.cells (zerosOf (.bool false) n) 4)) := by
  obtain ⟨i0, hi0, hz0, hz1, hz2⟩ := info_parts bool_info
  have := run_make (P := Tryz.prog) W 153 4 i0 _ Tryz.underlying153 hi0 hz0 .i64 .i64 n n (by omega) (by omega) (by rw [hz2]; omega) (by omega)
  rw [this, hz1, Int.toNat_natCast, Nat.mul_one, made_zeros _ _ rfl]
theorem make_ints (W : World) (n : Nat) (hn : n ≤ 1000000) : (Instr.makeSlice 22 (.int .i64 n) (.int .i64 n)).run Tryz.prog W = .ok (.slice (some ⟨W.heap.size, 0, none⟩) n n) (W.alloc (.cells (zerosOf (.int .i64 0) n) 3)) := by
  obtain ⟨i0, hi0, hz0, hz1, hz2⟩ := info_parts int_info
  have := run_make (P := Tryz.prog) W 22 3 i0 _ Tryz.underlying22 hi0 hz0 .i64 .i64 n n (by omega) (by omega) (by rw [hz2]; omega) (by omega)
  rw [this, hz1, Int.toNat_natCast, Nat.mul_one, made_zeros _ _ rfl]

theorem rising_pw {l : List Int} (h : risingB l = true) : l.Pairwise (· < ·) := by
  rw [List.pairwise_iff_getElem]
  have h1 := (risingB_iff l).1 h
  have key : ∀ k i, i + k + 1 < l.length → l.getD i 0 < l.getD (i + k + 1) 0 := by
    intro k
    induction k with
    | zero => intro i hi; exact h1 i hi
    | succ k ih => intro i hi; exact Int.lt_trans (ih i (by omega)) (h1 (i + k + 1) (by omega))
  intro i j hi hj hij
  have := key (j - i - 1) i (by omega)
  rw [show i + (j - i - 1) + 1 = j by omega] at this
  simpa [List.getD, hi, hj] using this

def TabPost (d : Bool) (ns : List Int) (es : List (Int × Int × Int)) (w : World) (e : Ending) (w' : World) : Prop :=
  ∃ (vN vA vW : Value) (lo : Nat) (GA GW : Nat → Nat), e = .returned (.agg #[vN, vA, vW]) ∧ w.heap.size ≤ lo ∧ w'.ownsRow w.heap.size 3 1 vN ns.length ((sortI ns).map (Value.int .i64)) ∧ (∀ g, vN.ownBlock = some g → g < lo) ∧
    w'.ownsRow lo 153 1 vA ns.length ((List.range ns.length).map (rowV ns.length GA)) ∧ w'.ownsRow lo 22 1 vW ns.length ((List.range ns.length).map (rowV ns.length GW)) ∧
    Mat Value.bool w' lo ns.length ns.length 4 GA (tabA d (sortI ns) es) ∧ Mat (Value.int .i64) w' lo ns.length ns.length 3 GW (tabW d (sortI ns) es) ∧ Below w.heap.size w w'

set_option maxHeartbeats 8000000 in
set_option maxRecDepth 100000 in
theorem tableOf_calls (d : Bool) (an ae : Option Addr) (n cn m ce : Nat) (ns : List Int) (es : List (Int × Int × Int)) (w : World) (hn : RdI w an n ns) (hr : RdE w ae m es) (hn8 : n ≤ 1000000) (hw : wellB ns es = true) :
    Calls Tryz.prog 97 #[.agg #[.bool d, .slice an n cn, .slice ae m ce]] w (TabPost d ns es w) := by
  have HR := Lib.hid hr; clear hr
  have HN := Lib.hid hn; clear hn
  have HWELL := Lib.hid hw; clear hw
  have hmb := fun W => make_bools W n hn8
  have hmi := fun W => make_ints W n hn8
  go_enter Tryz.func97, Tryz.ntmps97
  go_wp2_with fail
  obtain ⟨w1, hw1⟩ : ∃ w1, w1 = (w.alloc (.cells #[.bool d, .slice an n cn, .slice ae m ce] 25)).alloc (.cells #[.slice none 0 0, .slice none 0 0, .slice none 0 0] 150) := ⟨_, rfl⟩
  have HB1 : Hid (Below w.heap.size w w1) := by rw [hw1]; exact ((Below.refl _ _).alloc (Nat.le_refl _) _).alloc (by simp) _
  have z0 : w1.heap[w.heap.size]? = some (.cells #[.bool d, .slice an n cn, .slice ae m ce] 25 (0, 0)) := by
    rw [hw1, heap_alloc_old _ _ (by simp)]; exact heap_alloc_new w _
  have z1 : w1.heap[w.heap.size + 1]? = some (.cells #[.slice none 0 0, .slice none 0 0, .slice none 0 0] 150 (0, 0)) := by
    have h := heap_alloc_new (w.alloc (.cells #[.bool d, .slice an n cn, .slice ae m ce] 25)) (.cells #[.slice none 0 0, .slice none 0 0, .slice none 0 0] 150)
    rw [hw1]; simpa using h
  have hs1 : w1.heap.size = w.heap.size + 2 := by rw [hw1]; simp
  have HS1 := Lib.hid hs1
  rw [← hw1]
  clear hw1 hs1
  refine (sorted_calls an n cn ns w1 (HN.out.below HB1.out (Nat.le_refl _)) (by omega)).mono ?_
  rintro e w2 ⟨vN, rfl, ho, hb2⟩
  obtain ⟨a1, c1, rfl⟩ := own_shape' ho
  have HO := Lib.hid ho
  have HB2 := Lib.hid (HB1.out.trans (hb2.mono (by rw [HS1.out]; omega)))
  have y0 := (hb2.block w.heap.size (by rw [HS1.out]; omega)).trans z0
  have y1 := (hb2.block (w.heap.size + 1) (by rw [HS1.out]; omega)).trans z1
  have hs2 : w.heap.size + 2 ≤ w2.heap.size := by have := hb2.size; rw [HS1.out] at this; exact this
  clear ho hb2 z0 z1
  go_wp2_with fail
  obtain ⟨w3, hw3⟩ : ∃ w3, w3 = w2.alloc (.cells #[.slice a1 n c1, .slice none 0 0, .slice none 0 0] 150) := ⟨_, rfl⟩
  have HT3 : Hid (TabSt w w2.heap.size d an ae n cn m ce (.slice a1 n c1) (.slice none 0 0) (.slice none 0 0) (fun _ => 0) (fun _ => 0) 0 0 (sortI ns) (fun _ _ => false) (fun _ _ => 0) w3) := by
    have hb3 : Below w2.heap.size w2 w3 := by rw [hw3]; exact (Below.refl _ _).alloc (Nat.le_refl _) _
    refine ⟨(hb3.block _ (by omega)).trans y0, (hb3.block _ (by omega)).trans y1, by rw [hw3]; exact heap_alloc_new w2 _, ?_, fun g hg => (HO.out.lt g hg).2, by omega, World.ownsRow_nil _ _ _ _, World.ownsRow_nil _ _ _ _, ⟨fun i hi => by omega, fun i hi => by omega, fun i j _ hj => by omega⟩, ⟨fun i hi => by omega, fun i hi => by omega, fun i j _ hj => by omega⟩, HB2.out.trans (hb3.mono (by omega))⟩
    have h := ownsRow_of_heap (w' := w3) HO.out (fun g hg => hb3.block g (HO.out.lt g hg).2)
    rw [HS1.out] at h
    exact h
  rw [← hw3]
  obtain ⟨q0, q1, q2, q3, q4, q5, q6⟩ := HT3.out.cells
  clear hw3 y0 y1 q6
  go_wp2_with fail
  go_loopw [5] (fun i wr => ∃ (k : Nat) (vA vW : Value) (GA GW : Nat → Nat), i = .int .i64 k ∧ k ≤ n ∧ TabSt w w2.heap.size d an ae n cn m ce (.slice a1 n c1) vA vW GA GW k k (sortI ns) (fun _ _ => false) (fun _ _ => 0) wr) (fun i _ => n - (intOf i).toNat)
  case atStart => exact ⟨0, _, _, _, _, rfl, by omega, HT3.out⟩
  case round =>
    obtain ⟨k, vA, vW, GA, GW, rfl, hk, ht⟩ := hrel
    have HT := Lib.hid ht
    clear ht q0 q1 q2 q3 q4 q5 HT3
    obtain ⟨q0, q1, q2, q3, q4, q5, q6⟩ := HT.out.cells
    have f1 := q6 1
    clear q6
    by_cases hlt : k < n
    · obtain ⟨a2, c2, rfl⟩ := own_shape' HT.out.arc
      obtain ⟨a3, c3, rfl⟩ := own_shape' HT.out.wts
      obtain ⟨ib, hib, hzb, hzb1, hzb2⟩ := info_parts bools_info
      obtain ⟨ii, hii, hzi, hzi1, hzi2⟩ := info_parts ints_info
      have hsm : (k + 1) * 24 ≤ 140737488355328 := by omega
      have hmx : k + 1 ≤ maxLen := by unfold maxLen; omega
      have hlo := HT.out.lt
      have HWA4 : Hid (Below wr.heap.size wr (((wr.alloc (.cells (zerosOf (.bool false) n) 4)).alloc (.cells #[.slice (some ⟨wr.heap.size, 0, none⟩) n n] 153)).drew)) := below_drewN (((Below.refl _ _).alloc (Nat.le_refl _) _).alloc (by simp) _) 1
      have NV4 : Hid (some w2.heap.size ≠ (Value.slice a2 k c2).ownBlock) := fun e => by have := (HT.out.arc.lt _ e.symm).1; omega
      go_wp2_with fail
      go_cut [] (fun wx => ∃ (v : Value) (GA' : Nat → Nat), TabSt w w2.heap.size d an ae n cn m ce (.slice a1 n c1) v (.slice a3 k c3) GA' GW (k + 1) k (sortI ns) (fun _ _ => false) (fun _ _ => 0) wx)
      case first =>
        go_region_law ((refine step_append_lies _ (by rfl) _ _ _ (by rfl) (w2.heap.size + 1) 153 ib (.slice none 0 0) 1 24 Tryz.underlying148 hib hzb hzb1 hzb2 rfl (by decide) (.slice a2 k c2) k _ (by rfl) (((HT.out.arc.alloc _).alloc _).drew) ⟨wr.heap.size + 1, 0, none⟩ 1 1 [.slice (some ⟨wr.heap.size, 0, none⟩) n n] (by rfl) (by rfl) (World.news_of_block (cs := #[.slice (some ⟨wr.heap.size, 0, none⟩) n n]) (t := 153) (fr := (0, 0)) (by show ((wr.alloc (.cells (zerosOf (.bool false) n) 4)).alloc (.cells #[.slice (some ⟨wr.heap.size, 0, none⟩) n n] 153)).heap[wr.heap.size + 1]? = _; have h := heap_alloc_new (wr.alloc (.cells (zerosOf (.bool false) n) 4)) (.cells #[.slice (some ⟨wr.heap.size, 0, none⟩) n n] 153); simpa using h)) (by simp [Value.oneCell']) (by omega) hmx hsm (by simp; omega) (wr.heap.size + 2) (by simp) ?_; intro g4 p4 x4 hown4 hgrow4 hat4 hlt4; have k4 := (hgrow4.cell_far ⟨w2.heap.size, 1, none⟩ (Nat.lt_of_lt_of_le hlo HWA4.out.size) NV4.out).trans ((HWA4.out.cell (p := ⟨w2.heap.size, 1, none⟩) hlo).trans q4); have l4 := (hgrow4.frozen_far ⟨w2.heap.size, 1, none⟩ (Nat.lt_of_lt_of_le hlo HWA4.out.size) NV4.out).trans ((HWA4.out.frozen (p := ⟨w2.heap.size, 1, none⟩) hlo).trans f1)))
        all_goals
          obtain ⟨w5, hw5⟩ : ∃ w5, w5 = x4.setCell ⟨w2.heap.size, 1, none⟩ (.slice (some ⟨g4, 0, none⟩) (k + 1) p4) := ⟨_, rfl⟩
          have HT5 : Hid (TabSt w w2.heap.size d an ae n cn m ce (.slice a1 n c1) (.slice (some ⟨g4, 0, none⟩) (k + 1) p4) (.slice a3 k c3) (fun i => if i = k then wr.heap.size else GA i) GW (k + 1) k (sortI ns) (fun _ _ => false) (fun _ _ => 0) w5) := by
            rw [hw5]
            refine HT.out.moreA (wa := ((wr.alloc (.cells (zerosOf (.bool false) n) 4)).alloc (.cells #[.slice (some ⟨wr.heap.size, 0, none⟩) n n] 153)).drew) (below_drewN (((Below.refl _ _).alloc (Nat.le_refl _) _).alloc (by simp) _) 1) (g := wr.heap.size) ?_ (Nat.le_refl _) hown4 hgrow4
            show ((wr.alloc _).alloc _).heap[wr.heap.size]? = _
            rw [heap_alloc_old _ _ (by simp)]
            exact heap_alloc_new wr _
          rw [← hw5]
          go_wp2
          go_meet
          exact ⟨_, _, HT5.out⟩
      case rest =>
        obtain ⟨vA5, GA5, ht5⟩ := hcut
        obtain ⟨a5, c5, rfl⟩ := own_shape' ht5.arc
        have HT5 := Lib.hid ht5
        obtain ⟨w5, rfl⟩ : ∃ w5 : World, w5 = wc := ⟨_, rfl⟩
        clear ht5 q0 q1 q2 q3 q4 q5 f1 HWA4 NV4
        obtain ⟨q0, q1, q2, q3, q4, q5, q6⟩ := HT5.out.cells
        have f2 := q6 2
        clear q6
        have hlo5 := HT5.out.lt
        have HWA6 : Hid (Below w5.heap.size w5 (((w5.alloc (.cells (zerosOf (.int .i64 0) n) 3)).alloc (.cells #[.slice (some ⟨w5.heap.size, 0, none⟩) n n] 22)).drew)) := below_drewN (((Below.refl _ _).alloc (Nat.le_refl _) _).alloc (by simp) _) 1
        have NV6 : Hid (some w2.heap.size ≠ (Value.slice a3 k c3).ownBlock) := fun e => by have := (HT5.out.wts.lt _ e.symm).1; omega
        go_wp2_with fail
        go_region_law ((refine step_append_lies _ (by rfl) _ _ _ (by rfl) (w2.heap.size + 1) 22 ii (.slice none 0 0) 1 24 Tryz.underlying28 hii hzi hzi1 hzi2 rfl (by decide) (.slice a3 k c3) k _ (by rfl) (((HT5.out.wts.alloc _).alloc _).drew) ⟨w5.heap.size + 1, 0, none⟩ 1 1 [.slice (some ⟨w5.heap.size, 0, none⟩) n n] (by rfl) (by rfl) (World.news_of_block (cs := #[.slice (some ⟨w5.heap.size, 0, none⟩) n n]) (t := 22) (fr := (0, 0)) (by show ((w5.alloc (.cells (zerosOf (.int .i64 0) n) 3)).alloc (.cells #[.slice (some ⟨w5.heap.size, 0, none⟩) n n] 22)).heap[w5.heap.size + 1]? = _; have h := heap_alloc_new (w5.alloc (.cells (zerosOf (.int .i64 0) n) 3)) (.cells #[.slice (some ⟨w5.heap.size, 0, none⟩) n n] 22); simpa using h)) (by simp [Value.oneCell']) (by omega) hmx hsm (by simp; omega) (w5.heap.size + 2) (by simp) ?_; intro g6 p6 x6 hown6 hgrow6 hat6 hlt6; have k6 := (hgrow6.cell_far ⟨w2.heap.size, 2, none⟩ (Nat.lt_of_lt_of_le hlo5 HWA6.out.size) NV6.out).trans ((HWA6.out.cell (p := ⟨w2.heap.size, 2, none⟩) hlo5).trans q5); have l6 := (hgrow6.frozen_far ⟨w2.heap.size, 2, none⟩ (Nat.lt_of_lt_of_le hlo5 HWA6.out.size) NV6.out).trans ((HWA6.out.frozen (p := ⟨w2.heap.size, 2, none⟩) hlo5).trans f2)))
        all_goals
          obtain ⟨w7, hw7⟩ : ∃ w7, w7 = x6.setCell ⟨w2.heap.size, 2, none⟩ (.slice (some ⟨g6, 0, none⟩) (k + 1) p6) := ⟨_, rfl⟩
          have HT7 : Hid (TabSt w w2.heap.size d an ae n cn m ce (.slice a1 n c1) (.slice a5 (k + 1) c5) (.slice (some ⟨g6, 0, none⟩) (k + 1) p6) GA5 (fun i => if i = k then w5.heap.size else GW i) (k + 1) (k + 1) (sortI ns) (fun _ _ => false) (fun _ _ => 0) w7) := by
            rw [hw7]
            refine HT5.out.moreW (wa := ((w5.alloc (.cells (zerosOf (.int .i64 0) n) 3)).alloc (.cells #[.slice (some ⟨w5.heap.size, 0, none⟩) n n] 22)).drew) (below_drewN (((Below.refl _ _).alloc (Nat.le_refl _) _).alloc (by simp) _) 1) (g := w5.heap.size) ?_ (Nat.le_refl _) hown6 hgrow6
            show ((w5.alloc _).alloc _).heap[w5.heap.size]? = _
            rw [heap_alloc_old _ _ (by simp)]
            exact heap_alloc_new w5 _
          rw [← hw7]
          clear hw7 hown6 hgrow6 hat6 hlt6 k6 l6 q0 q1 q2 q3 q4 q5 f2
          go_wp2
          go_roundw
          case rel => exact ⟨k + 1, _, _, _, _, by go_num, by omega, HT7.out⟩
          case measure => simp [intOf]; omega
    · obtain rfl : k = n := by omega
      clear f1 hmb hmi hlt q0 q1 q2 q3 q4 q5
      obtain ⟨q0, q1, q2, q3, q4, q5, q6⟩ := HT.out.cells
      clear q6
      have hnm := HN.out.len
      have HLEN := Lib.hid hnm
      have hsm := HR.out.small
      clear hnm
      obtain ⟨a2, c2, rfl⟩ := own_shape' HT.out.arc
      obtain ⟨a3, c3, rfl⟩ := own_shape' HT.out.wts
      have hup : (sortI ns).Pairwise (· < ·) := rising_pw (by have := HWELL.out; unfold wellB at this; simp only [Bool.and_eq_true] at this; exact this.1)
      have HUP := Lib.hid hup
      clear hup
      go_wp2_with fail
      go_loopw [6] (fun i wr => ∃ j : Nat, i = .int .i64 j ∧ j ≤ m ∧ TabSt w w2.heap.size d an ae k cn m ce (.slice a1 k c1) (.slice a2 k c2) (.slice a3 k c3) GA GW k k (sortI ns) (tabA d (sortI ns) (es.take j)) (tabW d (sortI ns) (es.take j)) wr) (fun i _ => m - (intOf i).toNat)
      case atStart => exact ⟨0, rfl, by omega, HT.out⟩
      case round =>
        obtain ⟨j, rfl, hj, ht⟩ := hrel
        have HT' := Lib.hid ht
        clear ht q0 q1 q2 q3 q4 q5 HT
        obtain ⟨q0, q1, q2, q3, q4, q5, q6⟩ := HT'.out.cells
        clear q6
        by_cases hlj : j < m
        · obtain ⟨b, off, rfl, hbb, hc⟩ := HR.out.at_ (by omega)
          obtain ⟨u, v, x, HE, r0, r1, r2⟩ := hc j hlj
          have e0 := (HT'.out.below.cell (p := ⟨b, _, none⟩) hbb).trans r0
          have e1 := (HT'.out.below.cell (p := ⟨b, _, none⟩) hbb).trans r1
          have e2 := (HT'.out.below.cell (p := ⟨b, _, none⟩) hbb).trans r2
          have hends := well_ends HWELL.out (u, v, x) (List.mem_of_getElem? HE.out)
          have hui : u ∈ sortI ns := mem_sortI.2 hends.1
          have hvi : v ∈ sortI ns := mem_sortI.2 hends.2
          have hpu : posOf (sortI ns) u < k := by have := posOf_len _ _ hui; rw [sortI_len, HLEN.out] at this; exact this
          have hpv : posOf (sortI ns) v < k := by have := posOf_len _ _ hvi; rw [sortI_len, HLEN.out] at this; exact this
          have HIU : Hid (∀ q, Calls Tryz.prog 62 #[.slice a1 k c1, .int .i64 u] (wr.drewN q) fun e w' => e = .returned (.int .i64 ((posOf (sortI ns) u : Nat) : Int)) ∧ w' = wr.drewN q) := fun q =>
            (index_calls a1 k c1 (sortI ns) u _ ((rd_of_own HT'.out.nodes).drewN q)).mono fun e w' ⟨h1, h2⟩ => ⟨by rw [h1, idxFrom_posOf _ _ HUP.out hui 0, Nat.zero_add], h2.symm⟩
          have HIV : Hid (∀ q, Calls Tryz.prog 62 #[.slice a1 k c1, .int .i64 v] (wr.drewN q) fun e w' => e = .returned (.int .i64 ((posOf (sortI ns) v : Nat) : Int)) ∧ w' = wr.drewN q) := fun q =>
            (index_calls a1 k c1 (sortI ns) v _ ((rd_of_own HT'.out.nodes).drewN q)).mono fun e w' ⟨h1, h2⟩ => ⟨by rw [h1, idxFrom_posOf _ _ HUP.out hvi 0, Nat.zero_add], h2.symm⟩
          clear hc r0 r1 r2 hends hui hvi
          have hj0 : (0 : Int) ≤ (j : Int) := Int.natCast_nonneg _
          have hj1 : (j : Int) < (m : Int) := by omega
          go_wp2_with fail
          go_quiet (first
            | (go_at_call 62; with_reducible exact Calls.quiet_of_same (HIU.out _))
            | (go_at_call 62; with_reducible exact Calls.quiet_of_same (HIV.out _)))
          obtain ⟨w4, hw4⟩ : ∃ w4, w4 = wr.drewN nq := ⟨_, rfl⟩
          have HT4 : Hid (TabSt w w2.heap.size d an (some ⟨b, off, none⟩) k cn m ce (.slice a1 k c1) (.slice a2 k c2) (.slice a3 k c3) GA GW k k (sortI ns) (tabA d (sortI ns) (es.take j)) (tabW d (sortI ns) (es.take j)) w4) := by
            rw [hw4]; exact HT'.out.later (below_drewN (Below.refl _ _) nq)
          have e2' : w4.cell? ⟨b, off + j * 3 + 2, none⟩ = some (.int .i64 x) := by rw [hw4]; exact e2
          rw [← hw4]
          clear hw4 e0 e1 e2 q0 q1 q2 q3 q4 q5 HIU HIV
          have e2 := e2'
          clear e2'
          obtain ⟨q0, q1, q2, q3, q4, q5, q6⟩ := HT4.out.cells
          clear q6
          have hpu0 : (0 : Int) ≤ ((posOf (sortI ns) u : Nat) : Int) := Int.natCast_nonneg _
          have hpu1 : ((posOf (sortI ns) u : Nat) : Int) < ((k : Nat) : Int) := by omega
          have hpv0 : (0 : Int) ≤ ((posOf (sortI ns) v : Nat) : Int) := Int.natCast_nonneg _
          have hpv1 : ((posOf (sortI ns) v : Nat) : Int) < ((k : Nat) : Int) := by omega
          obtain ⟨gA, gW, eA, eW, kA, kW, sA, fA, sW, fW, n1, n2, n3, n4, n5, n6, n7⟩ := HT4.out.place hpu hpv
          obtain rfl := eA; obtain rfl := eW
          have KA : Hid (∀ (bb jj : Nat), bb ≠ GA (posOf (sortI ns) u) → (w4.setCell ⟨GA (posOf (sortI ns) u), (posOf (sortI ns) v), none⟩ (.bool true)).drew.cell? ⟨bb, jj, none⟩ = w4.cell? ⟨bb, jj, none⟩) := fun bb jj h => setCell_far _ _ _ h
          have KB : Hid (∀ (bb jj : Nat), bb ≠ GA (posOf (sortI ns) u) → bb ≠ GW (posOf (sortI ns) u) → ((w4.setCell ⟨GA (posOf (sortI ns) u), (posOf (sortI ns) v), none⟩ (.bool true)).setCell ⟨GW (posOf (sortI ns) u), (posOf (sortI ns) v), none⟩ (.int .i64 x)).drew.cell? ⟨bb, jj, none⟩ = w4.cell? ⟨bb, jj, none⟩) := fun bb jj h1 h2 => (setCell_far _ _ _ h2).trans (setCell_far _ _ _ h1)
          have tW : (w4.setCell ⟨GA (posOf (sortI ns) u), (posOf (sortI ns) v), none⟩ (.bool true)).cell? ⟨GW (posOf (sortI ns) u), (posOf (sortI ns) v), none⟩ = some (.int .i64 _) := (KA.out _ _ n1).trans sW
          have gf : (w4.setCell ⟨GA (posOf (sortI ns) u), (posOf (sortI ns) v), none⟩ (.bool true)).frozen? ⟨GW (posOf (sortI ns) u), (posOf (sortI ns) v), none⟩ = false := (setCell_free _ _ _ n1).trans fW
          have KS := Lib.hid (And.intro (And.intro ((KA.out w2.heap.size 1 (Nat.ne_of_lt n2)).trans q4) (And.intro ((KA.out _ (posOf (sortI ns) u) n4).trans kA) (And.intro ((KA.out w2.heap.size 2 (Nat.ne_of_lt n2)).trans q5) (And.intro ((KA.out _ (posOf (sortI ns) u) n6).trans kW) (And.intro ((KA.out w.heap.size 2 (by omega)).trans q2) ((KA.out b (off + j * 3 + 2) (by omega)).trans e2))))))
            (And.intro ((KB.out w2.heap.size 1 (Nat.ne_of_lt n2) (Nat.ne_of_lt n3)).trans q4) (And.intro ((KB.out _ (posOf (sortI ns) u) n4 n5).trans kA) (And.intro ((KB.out w2.heap.size 2 (Nat.ne_of_lt n2) (Nat.ne_of_lt n3)).trans q5) (And.intro ((KB.out _ (posOf (sortI ns) u) n6 n7).trans kW) (And.intro ((KB.out w.heap.size 2 (by omega) (by omega)).trans q2) ((KB.out b (off + j * 3 + 2) (by omega) (by omega)).trans e2)))))))
          have N1 := Lib.hid n1
          clear n1 n2 n3 n4 n5 n6 n7
          go_wp2_with fail
          go_region_held3 (fun w' => w'.cell? ⟨w2.heap.size, 1, none⟩ = some (.slice (some ⟨gA, 0, none⟩) k c2) ∧ w'.cell? ⟨gA, (posOf (sortI ns) u), none⟩ = some (.slice (some ⟨GA (posOf (sortI ns) u), 0, none⟩) k k) ∧ w'.cell? ⟨w2.heap.size, 2, none⟩ = some (.slice (some ⟨gW, 0, none⟩) k c3) ∧ w'.cell? ⟨gW, (posOf (sortI ns) u), none⟩ = some (.slice (some ⟨GW (posOf (sortI ns) u), 0, none⟩) k k) ∧ w'.cell? ⟨w.heap.size, 2, none⟩ = some (.slice (some ⟨b, off, none⟩) m ce) ∧ w'.cell? ⟨b, off + j * 3 + 2, none⟩ = some (.int .i64 x))
            (first | with_reducible exact KS.out.1 | with_reducible exact KS.out.2 | go_keep)
            (fail)
          obtain ⟨w5, hw5⟩ : ∃ w5, w5 = ((w4.setCell ⟨GA (posOf (sortI ns) u), (posOf (sortI ns) v), none⟩ (.bool true)).setCell ⟨GW (posOf (sortI ns) u), (posOf (sortI ns) v), none⟩ (.int .i64 x)).drew := ⟨_, rfl⟩
          have HT5 : Hid (TabSt w w2.heap.size d an (some ⟨b, off, none⟩) k cn m ce (.slice a1 k c1) (.slice (some ⟨gA, 0, none⟩) k c2) (.slice (some ⟨gW, 0, none⟩) k c3) GA GW k k (sortI ns) (fun i c => if i = (posOf (sortI ns) u) ∧ c = (posOf (sortI ns) v) then true else tabA d (sortI ns) (es.take j) i c) (fun i c => if i = (posOf (sortI ns) u) ∧ c = (posOf (sortI ns) v) then x else tabW d (sortI ns) (es.take j) i c) w5) := by
            rw [hw5]; exact (HT4.out.both hpu hpu hpv x).later (below_drewN (Below.refl _ _) 1)
          have e2' : w5.cell? ⟨b, off + j * 3 + 2, none⟩ = some (.int .i64 x) := by rw [hw5]; exact KS.out.2.2.2.2.2.2
          rw [← hw5]
          clear hw5 e2 q0 q1 q2 q3 q4 q5 KA KB KS kA kW sA fA sW fW tW gf
          have e2 := e2'
          clear e2'
          obtain ⟨q0, q1, q2, q3, q4, q5, q6⟩ := HT5.out.cells
          clear q6
          cases d
          · obtain ⟨gA', gW', eA, eW, kA, kW, sA, fA, sW, fW, n1, n2, n3, n4, n5, n6, n7⟩ := HT5.out.place hpv hpu
            have eA' : gA' = gA := by simpa using eA.symm
            have eW' : gW' = gW := by simpa using eW.symm
            rw [eA'] at kA n4 n5
            rw [eW'] at kW n6 n7
            clear eA eW eA' eW'
            have KA : Hid (∀ (bb jj : Nat), bb ≠ GA (posOf (sortI ns) v) → (w5.setCell ⟨GA (posOf (sortI ns) v), (posOf (sortI ns) u), none⟩ (.bool true)).drew.cell? ⟨bb, jj, none⟩ = w5.cell? ⟨bb, jj, none⟩) := fun bb jj h => setCell_far _ _ _ h
            have KB : Hid (∀ (bb jj : Nat), bb ≠ GA (posOf (sortI ns) v) → bb ≠ GW (posOf (sortI ns) v) → ((w5.setCell ⟨GA (posOf (sortI ns) v), (posOf (sortI ns) u), none⟩ (.bool true)).setCell ⟨GW (posOf (sortI ns) v), (posOf (sortI ns) u), none⟩ (.int .i64 x)).drew.cell? ⟨bb, jj, none⟩ = w5.cell? ⟨bb, jj, none⟩) := fun bb jj h1 h2 => (setCell_far _ _ _ h2).trans (setCell_far _ _ _ h1)
            have tW : (w5.setCell ⟨GA (posOf (sortI ns) v), (posOf (sortI ns) u), none⟩ (.bool true)).cell? ⟨GW (posOf (sortI ns) v), (posOf (sortI ns) u), none⟩ = some (.int .i64 _) := (KA.out _ _ n1).trans sW
            have gf : (w5.setCell ⟨GA (posOf (sortI ns) v), (posOf (sortI ns) u), none⟩ (.bool true)).frozen? ⟨GW (posOf (sortI ns) v), (posOf (sortI ns) u), none⟩ = false := (setCell_free _ _ _ n1).trans fW
            have KS := Lib.hid (And.intro (And.intro ((KA.out w2.heap.size 1 (Nat.ne_of_lt n2)).trans q4) (And.intro ((KA.out _ (posOf (sortI ns) v) n4).trans kA) (And.intro ((KA.out w2.heap.size 2 (Nat.ne_of_lt n2)).trans q5) (And.intro ((KA.out _ (posOf (sortI ns) v) n6).trans kW) (And.intro ((KA.out w.heap.size 2 (by omega)).trans q2) ((KA.out b (off + j * 3 + 2) (by omega)).trans e2))))))
              (And.intro ((KB.out w2.heap.size 1 (Nat.ne_of_lt n2) (Nat.ne_of_lt n3)).trans q4) (And.intro ((KB.out _ (posOf (sortI ns) v) n4 n5).trans kA) (And.intro ((KB.out w2.heap.size 2 (Nat.ne_of_lt n2) (Nat.ne_of_lt n3)).trans q5) (And.intro ((KB.out _ (posOf (sortI ns) v) n6 n7).trans kW) (And.intro ((KB.out w.heap.size 2 (by omega) (by omega)).trans q2) ((KB.out b (off + j * 3 + 2) (by omega) (by omega)).trans e2)))))))
            clear n1 n2 n3 n4 n5 n6 n7
            go_wp2_with fail
            go_region_held3 (fun w' => w'.cell? ⟨w2.heap.size, 1, none⟩ = some (.slice (some ⟨gA, 0, none⟩) k c2) ∧ w'.cell? ⟨gA, (posOf (sortI ns) v), none⟩ = some (.slice (some ⟨GA (posOf (sortI ns) v), 0, none⟩) k k) ∧ w'.cell? ⟨w2.heap.size, 2, none⟩ = some (.slice (some ⟨gW, 0, none⟩) k c3) ∧ w'.cell? ⟨gW, (posOf (sortI ns) v), none⟩ = some (.slice (some ⟨GW (posOf (sortI ns) v), 0, none⟩) k k) ∧ w'.cell? ⟨w.heap.size, 2, none⟩ = some (.slice (some ⟨b, off, none⟩) m ce) ∧ w'.cell? ⟨b, off + j * 3 + 2, none⟩ = some (.int .i64 x))
              (first | with_reducible exact KS.out.1 | with_reducible exact KS.out.2 | go_keep)
              (fail)
            obtain ⟨w6, hw6⟩ : ∃ w6, w6 = ((w5.setCell ⟨GA (posOf (sortI ns) v), (posOf (sortI ns) u), none⟩ (.bool true)).setCell ⟨GW (posOf (sortI ns) v), (posOf (sortI ns) u), none⟩ (.int .i64 x)).drew := ⟨_, rfl⟩
            have HT6 : Hid (TabSt w w2.heap.size false an (some ⟨b, off, none⟩) k cn m ce (.slice a1 k c1) (.slice (some ⟨gA, 0, none⟩) k c2) (.slice (some ⟨gW, 0, none⟩) k c3) GA GW k k (sortI ns) (fun i c => if i = (posOf (sortI ns) v) ∧ c = (posOf (sortI ns) u) then true else if i = (posOf (sortI ns) u) ∧ c = (posOf (sortI ns) v) then true else tabA false (sortI ns) (es.take j) i c) (fun i c => if i = (posOf (sortI ns) v) ∧ c = (posOf (sortI ns) u) then x else if i = (posOf (sortI ns) u) ∧ c = (posOf (sortI ns) v) then x else tabW false (sortI ns) (es.take j) i c) w6) := by
              rw [hw6]; exact (HT5.out.both hpv hpv hpu x).later (below_drewN (Below.refl _ _) 1)
            rw [← hw6]
            clear hw6 e2 q0 q1 q2 q3 q4 q5 KA KB KS kA kW sA fA sW fW tW gf
            go_wp2
            go_roundw
            case rel =>
              refine ⟨j + 1, by go_num, by omega, HT6.out.congr (fun i c => ?_) (fun i c => ?_)⟩
              · rw [tabA_succ _ _ _ _ _ _ _ HE.out, hits_false]
                by_cases h : i = (posOf (sortI ns) u) ∧ c = (posOf (sortI ns) v) <;> by_cases h' : i = (posOf (sortI ns) v) ∧ c = (posOf (sortI ns) u) <;> simp [h, h']
              · rw [tabW_succ _ _ _ _ _ _ _ HE.out, hits_false]
                by_cases h : i = (posOf (sortI ns) u) ∧ c = (posOf (sortI ns) v) <;> by_cases h' : i = (posOf (sortI ns) v) ∧ c = (posOf (sortI ns) u) <;> simp [h, h']
            case measure => simp [intOf]; omega
          · go_wp2
            go_roundw
            case rel =>
              refine ⟨j + 1, by go_num, by omega, HT5.out.congr (fun i c => ?_) (fun i c => ?_)⟩
              · rw [tabA_succ _ _ _ _ _ _ _ HE.out, hits_true]
                by_cases h : i = (posOf (sortI ns) u) ∧ c = (posOf (sortI ns) v) <;> simp [h]
              · rw [tabW_succ _ _ _ _ _ _ _ HE.out, hits_true]
                by_cases h : i = (posOf (sortI ns) u) ∧ c = (posOf (sortI ns) v) <;> simp [h]
            case measure => simp [intOf]; omega
        · obtain rfl : j = m := by omega
          have z0 : wr.cell? ⟨w.heap.size + 1, 0, none⟩ = some (.slice none 0 0) := by rw [cell_of_row wr _ _ _ _ (0, 0) HT'.out.res]; rfl
          have z1 : wr.cell? ⟨w.heap.size + 1, 1, none⟩ = some (.slice none 0 0) := by rw [cell_of_row wr _ _ _ _ (0, 0) HT'.out.res]; rfl
          have z2 : wr.cell? ⟨w.heap.size + 1, 2, none⟩ = some (.slice none 0 0) := by rw [cell_of_row wr _ _ _ _ (0, 0) HT'.out.res]; rfl
          have zf : ∀ i, wr.frozen? ⟨w.heap.size + 1, i, none⟩ = false := fun i => by simp [World.frozen?, HT'.out.res]
          have zf0 := zf 0
          have zf1 := zf 1
          have zf2 := zf 2
          clear zf
          go_wp2
          have HT := HT'.out
          have hlen : es.length = j := HR.out.len
          rw [show es.take j = es from List.take_of_length_le (by omega)] at HT
          have hord := HT.ord
          refine bodyPost_ret (v := .agg #[.slice a1 k c1, .slice a2 k c2, .slice a3 k c3]) ?_ rfl ?_
          · simp [results, Tryz.results97, go_sem, z0, z1, z2]
          · have keep : ∀ g, g ≠ w.heap.size + 1 → (((wr.setCell ⟨w.heap.size + 1, 0, none⟩ (.slice a1 k c1)).setCell ⟨w.heap.size + 1, 1, none⟩ (.slice a2 k c2)).setCell ⟨w.heap.size + 1, 2, none⟩ (.slice a3 k c3)).heap[g]? = wr.heap[g]? := fun g hg => by
              rw [Below.heap_setCell _ _ _ _ (fun e => hg e), Below.heap_setCell _ _ _ _ (fun e => hg e), Below.heap_setCell _ _ _ _ (fun e => hg e)]
            unfold TabPost
            rw [HLEN.out]
            refine ⟨_, _, _, w2.heap.size + 1, GA, GW, rfl, by omega, own_lower (ownsRow_of_heap HT.nodes (fun g hg => keep g (by have := (HT.nodes.lt g hg).1; omega))) (by omega), fun g hg => by have := HT.ordN g hg; omega, ownsRow_of_heap HT.arc (fun g hg => keep g (by have := (HT.arc.lt g hg).1; omega)), ownsRow_of_heap HT.wts (fun g hg => keep g (by have := (HT.wts.lt g hg).1; omega)), HT.ma.of_heap (fun i hi => keep _ (by have := HT.ma.lo_ i hi; omega)), HT.mw.of_heap (fun i hi => keep _ (by have := HT.mw.lo_ i hi; omega)), ((HT.below.setCell ?_ _).setCell ?_ _).setCell ?_ _⟩ <;> show _ ≤ w.heap.size + 1 <;> omega

end Go.Proofs.YtnfkbjgijelfdaaGreat
