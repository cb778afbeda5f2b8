/- The table of a graph, in memory and in plain words. -/
import Derived.Test.YtbkoifdnlaihfaaGreatRowsMath
import Derived.Test.YtbkoifdnlaihfaaGreatSeen
namespace Go.Proofs.YtbkoifdnlaihfaaGreat
open Go.RowKit

/-- Whether there is an edge between two places; its weight (the last one counts). -/
def tabA (d : Bool) (ids : List Int) (es : List (Int × Int × Int)) (i c : Nat) : Bool := es.any (hitsB d ids i c)
def tabW (d : Bool) (ids : List Int) (es : List (Int × Int × Int)) (i c : Nat) : Int := es.foldl (fun acc e => if hitsB d ids i c e then e.2.2 else acc) 0

theorem tabA_succ (d : Bool) (ids : List Int) (es : List (Int × Int × Int)) (j i c : Nat) (e : Int × Int × Int) (h : es[j]? = some e) : tabA d ids (es.take (j + 1)) i c = (hitsB d ids i c e || tabA d ids (es.take j) i c) := by
  obtain ⟨hj, rfl⟩ := List.getElem?_eq_some_iff.1 h
  unfold tabA
  rw [List.take_succ_eq_append_getElem hj, List.any_append]
  simp [Bool.or_comm]
theorem tabW_succ (d : Bool) (ids : List Int) (es : List (Int × Int × Int)) (j i c : Nat) (e : Int × Int × Int) (h : es[j]? = some e) : tabW d ids (es.take (j + 1)) i c = if hitsB d ids i c e then e.2.2 else tabW d ids (es.take j) i c := by
  obtain ⟨hj, rfl⟩ := List.getElem?_eq_some_iff.1 h
  unfold tabW
  rw [List.take_succ_eq_append_getElem hj, List.foldl_append]
  rfl

theorem idxFrom_posOf (ids : List Int) (x : Int) (hs : ids.Pairwise (· < ·)) (hx : x ∈ ids) : ∀ k : Nat, idxFrom ids x k = ((k + posOf ids x : Nat) : Int) := by
  induction ids with
  | nil => cases hx
  | cons a r ih =>
    intro k
    obtain ⟨h1, h2⟩ := List.pairwise_cons.1 hs
    unfold idxFrom
    by_cases e : a = x
    · subst e
      have h0 : posOf (a :: r) a = 0 := by
        unfold posOf
        rw [List.countP_cons_of_neg (by simp)]
        rw [List.countP_eq_zero]
        intro y hy
        have := h1 y hy
        simp; omega
      simp [h0]
    · have hxr : x ∈ r := by
        rcases List.mem_cons.1 hx with h | h
        · exact absurd h.symm e
        · exact h
      have hlt : a < x := h1 x hxr
      have h0 : posOf (a :: r) x = posOf r x + 1 := by
        unfold posOf
        rw [List.countP_cons_of_pos (by simpa using hlt)]
      simp only [e, if_false]
      rw [ih h2 hxr (k + 1), h0]
      omega

/-- Row i of a matrix that the call owns: its block begins at GA i. -/
def rowV (n : Nat) (GA : Nat → Nat) (i : Nat) : Value := .slice (some ⟨GA i, 0, none⟩) n n
structure Mat {α : Type} (enc : α → Value) (w : World) (lo n k : Nat) (E : TypeId) (GA : Nat → Nat) (M : Nat → Nat → α) : Prop where
  at_ : ∀ i, i < k → w.heap[GA i]? = some (.cells ((List.range n).map fun c => enc (M i c)).toArray E (0, 0))
  lo_ : ∀ i, i < k → lo ≤ GA i
  mono : ∀ i j, i < j → j < k → GA i < GA j

section
variable {α : Type} {enc : α → Value} {w w' : World} {lo n k : Nat} {E : TypeId} {GA : Nat → Nat} {M : Nat → Nat → α}
theorem Mat.lt (h : Mat enc w lo n k E GA M) {i : Nat} (hi : i < k) : GA i < w.heap.size := (Array.getElem?_eq_some_iff.1 (h.at_ i hi)).1
theorem Mat.of_heap (h : Mat enc w lo n k E GA M) (e : ∀ i, i < k → w'.heap[GA i]? = w.heap[GA i]?) : Mat enc w' lo n k E GA M := ⟨fun i hi => (e i hi).trans (h.at_ i hi), h.lo_, h.mono⟩
theorem Mat.congr {M' : Nat → Nat → α} (h : Mat enc w lo n k E GA M) (e : ∀ i c, i < k → c < n → M' i c = M i c) : Mat enc w lo n k E GA M' :=
  ⟨fun i hi => by
    rw [h.at_ i hi]
    congr 3
    apply List.map_congr_left
    intro c hc
    rw [e i c hi (List.mem_range.1 hc)], h.lo_, h.mono⟩
theorem Mat.inj (h : Mat enc w lo n k E GA M) {i j : Nat} (hi : i < k) (hj : j < k) (e : GA i = GA j) : i = j := by
  rcases Nat.lt_trichotomy i j with h1 | h1 | h1
  · have := h.mono i j h1 hj; omega
  · exact h1
  · have := h.mono j i h1 hi; omega
theorem Mat.snoc (h : Mat enc w lo n k E GA M) {g : Nat} (hg : w.heap[g]? = some (.cells ((List.range n).map fun c => enc (M k c)).toArray E (0, 0))) (hlo : lo ≤ g) (hlt : ∀ i, i < k → GA i < g) :
    Mat enc w lo n (k + 1) E (fun i => if i = k then g else GA i) M := by
  refine ⟨fun i hi => ?_, fun i hi => ?_, fun i j hij hj => ?_⟩
  · by_cases e : i = k
    · subst e; simpa using hg
    · simp only [e, if_false]; exact h.at_ i (by omega)
  · by_cases e : i = k
    · simpa [e] using hlo
    · simp only [e, if_false]; exact h.lo_ i (by omega)
  · have e1 : i ≠ k := by omega
    by_cases e : j = k
    · simp only [e, e1, if_true, if_false]; exact hlt i (by omega)
    · simp only [e, e1, if_false]; exact h.mono i j hij (by omega)
theorem Mat.cell (h : Mat enc w lo n k E GA M) {i c : Nat} (hi : i < k) (hc : c < n) : w.cell? ⟨GA i, c, none⟩ = some (enc (M i c)) := by
  rw [cell_of_row w (GA i) c _ _ (0, 0) (h.at_ i hi)]
  simp [hc]
theorem Mat.free (h : Mat enc w lo n k E GA M) {i : Nat} (hi : i < k) (c : Nat) : w.frozen? ⟨GA i, c, none⟩ = false := by simp [World.frozen?, h.at_ i hi]
theorem Mat.set (h : Mat enc w lo n k E GA M) {u v : Nat} (hu : u < k) (hv : v < n) (x : α) : Mat enc (w.setCell ⟨GA u, v, none⟩ (enc x)) lo n k E GA (fun i c => if i = u ∧ c = v then x else M i c) := by
  refine ⟨fun i hi => ?_, h.lo_, h.mono⟩
  by_cases e : i = u
  · subst e
    rw [heap_setCell_same (h.at_ i hi)]
    congr 2
    apply Array.ext_getElem?
    intro j
    simp only [List.setIfInBounds_toArray, List.getElem?_toArray, List.getElem?_set, List.getElem?_map, List.length_map, List.length_range]
    by_cases ej : v = j
    · subst ej; simp [hv]
    · simp only [ej, if_false]
      by_cases hj : j < n
      · simp [hj, show ¬ j = v from fun h => ej h.symm]
      · simp [hj]
  · rw [Below.heap_setCell _ _ _ _ (fun e2 => e (h.inj hi hu e2)), h.at_ i hi]
    simp [e]
end

/-- The state of tableOf: the argument's box, the result's block, the table; ka rows of bools, kw rows of weights. -/
structure TabSt (w : World) (bt : Nat) (d : Bool) (an ae : Option Addr) (n cn m ce : Nat) (vN vA vW : Value) (GA GW : Nat → Nat) (ka kw : Nat) (ids : List Int) (MA : Nat → Nat → Bool) (MW : Nat → Nat → Int) (wr : World) : Prop where
  box : wr.heap[w.heap.size]? = some (.cells #[.bool d, .slice an n cn, .slice ae m ce] 25 (0, 0))
  res : wr.heap[w.heap.size + 1]? = some (.cells #[.slice none 0 0, .slice none 0 0, .slice none 0 0] 60 (0, 0))
  tbl : wr.heap[bt]? = some (.cells #[vN, vA, vW] 60 (0, 0))
  nodes : wr.ownsRow (w.heap.size + 2) 3 1 vN n (ids.map (Value.int .i64))
  ordN : ∀ g, vN.ownBlock = some g → g < bt
  ord : w.heap.size + 1 < bt
  arc : wr.ownsRow (bt + 1) 64 1 vA ka ((List.range ka).map (rowV n GA))
  wts : wr.ownsRow (bt + 1) 22 1 vW kw ((List.range kw).map (rowV n GW))
  ma : Mat Value.bool wr (bt + 1) n ka 4 GA MA
  mw : Mat (Value.int .i64) wr (bt + 1) n kw 3 GW MW
  below : Below w.heap.size w wr

section
variable {w wr w' wa : World} {bt : Nat} {d : Bool} {an ae : Option Addr} {n cn m ce : Nat} {vN vA vW v' : Value} {GA GW : Nat → Nat} {ka kw : Nat} {ids : List Int} {MA : Nat → Nat → Bool} {MW : Nat → Nat → Int}
theorem TabSt.lt (h : TabSt w bt d an ae n cn m ce vN vA vW GA GW ka kw ids MA MW wr) : bt < wr.heap.size := (Array.getElem?_eq_some_iff.1 h.tbl).1
/-- Where all blocks that matter are as they were. -/
theorem TabSt.of_heap (h : TabSt w bt d an ae n cn m ce vN vA vW GA GW ka kw ids MA MW wr) (e : ∀ j, j < wr.heap.size → w'.heap[j]? = wr.heap[j]?) (hb : Below w.heap.size w w') : TabSt w bt d an ae n cn m ce vN vA vW GA GW ka kw ids MA MW w' := by
  have h0 := h.lt; have h1 := h.ord
  exact ⟨(e _ (by omega)).trans h.box, (e _ (by omega)).trans h.res, (e _ h0).trans h.tbl, ownsRow_of_heap h.nodes (fun g hg => e g (h.nodes.lt g hg).2), h.ordN, h.ord, ownsRow_of_heap h.arc (fun g hg => e g (h.arc.lt g hg).2), ownsRow_of_heap h.wts (fun g hg => e g (h.wts.lt g hg).2),
    h.ma.of_heap (fun i hi => e _ (h.ma.lt hi)), h.mw.of_heap (fun i hi => e _ (h.mw.lt hi)), hb⟩
theorem TabSt.later (h : TabSt w bt d an ae n cn m ce vN vA vW GA GW ka kw ids MA MW wr) (hb : Below wr.heap.size wr w') : TabSt w bt d an ae n cn m ce vN vA vW GA GW ka kw ids MA MW w' :=
  h.of_heap (fun j hj => hb.block j hj) (h.below.trans (hb.mono (by have := h.lt; have := h.ord; omega)))
theorem TabSt.cells (h : TabSt w bt d an ae n cn m ce vN vA vW GA GW ka kw ids MA MW wr) :
    wr.cell? ⟨w.heap.size, 0, none⟩ = some (.bool d) ∧ wr.cell? ⟨w.heap.size, 1, none⟩ = some (.slice an n cn) ∧ wr.cell? ⟨w.heap.size, 2, none⟩ = some (.slice ae m ce) ∧
      wr.cell? ⟨bt, 0, none⟩ = some vN ∧ wr.cell? ⟨bt, 1, none⟩ = some vA ∧ wr.cell? ⟨bt, 2, none⟩ = some vW ∧ (∀ j, wr.frozen? ⟨bt, j, none⟩ = false) := by
  refine ⟨?_, ?_, ?_, ?_, ?_, ?_, fun j => by simp [World.frozen?, h.tbl]⟩
  · rw [cell_of_row wr _ _ _ _ (0, 0) h.box]; rfl
  · rw [cell_of_row wr _ _ _ _ (0, 0) h.box]; rfl
  · rw [cell_of_row wr _ _ _ _ (0, 0) h.box]; rfl
  · rw [cell_of_row wr _ _ _ _ (0, 0) h.tbl]; rfl
  · rw [cell_of_row wr _ _ _ _ (0, 0) h.tbl]; rfl
  · rw [cell_of_row wr _ _ _ _ (0, 0) h.tbl]; rfl

theorem own_ty {base : Nat} {e : TypeId} {size : Nat} {v : Value} {xs : List Value} (h : wr.ownsRow base e size v n xs) {g : Nat} (hg : v.ownBlock = some g) : ∃ cs, wr.heap[g]? = some (.cells cs e (0, 0)) := by
  rcases h.2 with ⟨rfl, _⟩ | ⟨g', cap, cur, rfl, _, hh, _⟩
  · simp [Value.ownBlock] at hg
  · have : g' = g := by simpa [Value.ownBlock] using hg
    subst this
    exact ⟨cur, hh⟩

/-- A row of bools more: made in block g, the outer row written. -/
theorem TabSt.moreA (h : TabSt w bt d an ae n cn m ce vN vA vW GA GW ka kw ids MA MW wr) (ha : Below wr.heap.size wr wa) {g : Nat} (hg : wa.heap[g]? = some (.cells ((List.range n).map fun c => Value.bool (MA ka c)).toArray 4 (0, 0))) (hlo : wr.heap.size ≤ g)
    (ho : w'.ownsRow (bt + 1) 64 1 v' (ka + 1) ((List.range ka).map (rowV n GA) ++ [.slice (some ⟨g, 0, none⟩) n n])) (hgr : wa.grownBy w' vA.ownBlock) :
    TabSt w bt d an ae n cn m ce vN v' vW (fun i => if i = ka then g else GA i) GW (ka + 1) kw ids MA MW (w'.setCell ⟨bt, 1, none⟩ v') := by
  have hL := h.later ha
  have h0 := hL.lt; have h1 := hL.ord
  have hgl := (Array.getElem?_eq_some_iff.1 hg).1
  have hv : ∀ j, j ≤ bt → some j ≠ vA.ownBlock := fun j hj e => by have := (hL.arc.lt j e.symm).1; omega
  have b1 : w'.heap[bt]? = some (.cells #[vN, vA, vW] 60 (0, 0)) := (hgr.block bt h0 (hv bt (Nat.le_refl _))).trans hL.tbl
  have keep : ∀ j, j < wa.heap.size → j ≠ bt → some j ≠ vA.ownBlock → (w'.setCell ⟨bt, 1, none⟩ v').heap[j]? = wa.heap[j]? := fun j hj hne hnv => by
    rw [Below.heap_setCell _ _ _ _ (fun e => hne e)]; exact hgr.block j hj hnv
  have hty : ∀ j cs e, wa.heap[j]? = some (.cells cs e (0, 0)) → e ≠ 64 → some j ≠ vA.ownBlock := fun j cs e hj hne heq => by
    obtain ⟨cs', h2⟩ := own_ty hL.arc heq.symm
    rw [hj] at h2
    simp only [Option.some.injEq, Obj.cells.injEq] at h2
    exact hne h2.2.1
  have hgA : ∀ i, i < ka → GA i < g := fun i hi => Nat.lt_of_lt_of_le (h.ma.lt hi) hlo
  refine ⟨(keep _ (by omega) (by omega) (hv _ (by omega))).trans hL.box, (keep _ (by omega) (by omega) (hv _ (by omega))).trans hL.res, ?_, ownsRow_of_heap hL.nodes (fun j hj => keep j (hL.nodes.lt j hj).2 (by have := h.ordN j hj; omega) (hv j (by have := h.ordN j hj; omega))), h.ordN, h.ord, ?_, ownsRow_of_heap hL.wts (fun j hj => ?_), ?_, hL.mw.of_heap (fun i hi => ?_), ?_⟩
  · rw [heap_setCell_same b1]; rfl
  · have e : (List.range (ka + 1)).map (rowV n fun i => if i = ka then g else GA i) = (List.range ka).map (rowV n GA) ++ [.slice (some ⟨g, 0, none⟩) n n] := by
      rw [List.range_succ, List.map_append]
      congr 1
      · apply List.map_congr_left
        intro i hi
        have : i ≠ ka := by have := List.mem_range.1 hi; omega
        simp [rowV, this]
      · simp [rowV]
    rw [e]
    exact ownsRow_of_heap ho (fun j hj => Below.heap_setCell _ _ _ _ (fun e2 => by have e' : j = bt := e2; have := (ho.lt j hj).1; omega))
  · obtain ⟨cs, hcs⟩ := own_ty hL.wts hj
    exact keep j (hL.wts.lt j hj).2 (by have := (hL.wts.lt j hj).1; omega) (hty j _ _ hcs (by decide))
  · have hm := (hL.ma.of_heap (w' := w'.setCell ⟨bt, 1, none⟩ v') (fun i hi => keep _ (hL.ma.lt hi) (by have := hL.ma.lo_ i hi; omega) (hty _ _ _ (hL.ma.at_ i hi) (by decide))))
    exact hm.snoc ((keep g hgl (by have := h.lt; omega) (hty _ _ _ hg (by decide))).trans hg) (by have := h.lt; omega) hgA
  · exact keep _ (hL.mw.lt hi) (by have := hL.mw.lo_ i hi; omega) (hty _ _ _ (hL.mw.at_ i hi) (by decide))
  · exact (hL.below.grown hgr (by omega) (fun j hj => by have := (hL.arc.lt j hj).1; omega)).setCell (by show _ ≤ bt; omega) _

/-- A row of weights more. -/
theorem TabSt.moreW (h : TabSt w bt d an ae n cn m ce vN vA vW GA GW ka kw ids MA MW wr) (ha : Below wr.heap.size wr wa) {g : Nat} (hg : wa.heap[g]? = some (.cells ((List.range n).map fun c => Value.int .i64 (MW kw c)).toArray 3 (0, 0))) (hlo : wr.heap.size ≤ g)
    (ho : w'.ownsRow (bt + 1) 22 1 v' (kw + 1) ((List.range kw).map (rowV n GW) ++ [.slice (some ⟨g, 0, none⟩) n n])) (hgr : wa.grownBy w' vW.ownBlock) :
    TabSt w bt d an ae n cn m ce vN vA v' GA (fun i => if i = kw then g else GW i) ka (kw + 1) ids MA MW (w'.setCell ⟨bt, 2, none⟩ v') := by
  have hL := h.later ha
  have h0 := hL.lt; have h1 := hL.ord
  have hgl := (Array.getElem?_eq_some_iff.1 hg).1
  have hv : ∀ j, j ≤ bt → some j ≠ vW.ownBlock := fun j hj e => by have := (hL.wts.lt j e.symm).1; omega
  have b1 : w'.heap[bt]? = some (.cells #[vN, vA, vW] 60 (0, 0)) := (hgr.block bt h0 (hv bt (Nat.le_refl _))).trans hL.tbl
  have keep : ∀ j, j < wa.heap.size → j ≠ bt → some j ≠ vW.ownBlock → (w'.setCell ⟨bt, 2, none⟩ v').heap[j]? = wa.heap[j]? := fun j hj hne hnv => by
    rw [Below.heap_setCell _ _ _ _ (fun e => hne e)]; exact hgr.block j hj hnv
  have hty : ∀ j cs e, wa.heap[j]? = some (.cells cs e (0, 0)) → e ≠ 22 → some j ≠ vW.ownBlock := fun j cs e hj hne heq => by
    obtain ⟨cs', h2⟩ := own_ty hL.wts heq.symm
    rw [hj] at h2
    simp only [Option.some.injEq, Obj.cells.injEq] at h2
    exact hne h2.2.1
  have hgA : ∀ i, i < kw → GW i < g := fun i hi => Nat.lt_of_lt_of_le (h.mw.lt hi) hlo
  refine ⟨(keep _ (by omega) (by omega) (hv _ (by omega))).trans hL.box, (keep _ (by omega) (by omega) (hv _ (by omega))).trans hL.res, ?_, ownsRow_of_heap hL.nodes (fun j hj => keep j (hL.nodes.lt j hj).2 (by have := h.ordN j hj; omega) (hv j (by have := h.ordN j hj; omega))), h.ordN, h.ord, ownsRow_of_heap hL.arc (fun j hj => ?_), ?_, hL.ma.of_heap (fun i hi => ?_), ?_, ?_⟩
  · rw [heap_setCell_same b1]; rfl
  · obtain ⟨cs, hcs⟩ := own_ty hL.arc hj
    exact keep j (hL.arc.lt j hj).2 (by have := (hL.arc.lt j hj).1; omega) (hty j _ _ hcs (by decide))
  · have e : (List.range (kw + 1)).map (rowV n fun i => if i = kw then g else GW i) = (List.range kw).map (rowV n GW) ++ [.slice (some ⟨g, 0, none⟩) n n] := by
      rw [List.range_succ, List.map_append]
      congr 1
      · apply List.map_congr_left
        intro i hi
        have : i ≠ kw := by have := List.mem_range.1 hi; omega
        simp [rowV, this]
      · simp [rowV]
    rw [e]
    exact ownsRow_of_heap ho (fun j hj => Below.heap_setCell _ _ _ _ (fun e2 => by have e' : j = bt := e2; have := (ho.lt j hj).1; omega))
  · exact keep _ (hL.ma.lt hi) (by have := hL.ma.lo_ i hi; omega) (hty _ _ _ (hL.ma.at_ i hi) (by decide))
  · have hm := (hL.mw.of_heap (w' := w'.setCell ⟨bt, 2, none⟩ v') (fun i hi => keep _ (hL.mw.lt hi) (by have := hL.mw.lo_ i hi; omega) (hty _ _ _ (hL.mw.at_ i hi) (by decide))))
    exact hm.snoc ((keep g hgl (by have := h.lt; omega) (hty _ _ _ hg (by decide))).trans hg) (by have := h.lt; omega) hgA
  · exact (hL.below.grown hgr (by omega) (fun j hj => by have := (hL.wts.lt j hj).1; omega)).setCell (by show _ ≤ bt; omega) _

/-- Both matrices stored into at one place. -/
theorem TabSt.both (h : TabSt w bt d an ae n cn m ce vN vA vW GA GW ka kw ids MA MW wr) {u v : Nat} (hu : u < ka) (hu2 : u < kw) (hv : v < n) (x : Int) :
    TabSt w bt d an ae n cn m ce vN vA vW GA GW ka kw ids (fun i c => if i = u ∧ c = v then true else MA i c) (fun i c => if i = u ∧ c = v then x else MW i c) ((wr.setCell ⟨GA u, v, none⟩ (.bool true)).setCell ⟨GW u, v, none⟩ (.int .i64 x)) := by
  have h0 := h.lt; have h1 := h.ord
  have ga := h.ma.lo_ u hu; have gw := h.mw.lo_ u hu2
  have ta := h.ma.at_ u hu; have tw := h.mw.at_ u hu2
  have hne : ∀ j cs e, wr.heap[j]? = some (.cells cs e (0, 0)) → e ≠ 4 → j ≠ GA u := fun j cs e hj he e2 => by
    subst e2; rw [hj] at ta; simp only [Option.some.injEq, Obj.cells.injEq] at ta; exact he ta.2.1
  have hnw : ∀ j cs e, wr.heap[j]? = some (.cells cs e (0, 0)) → e ≠ 3 → j ≠ GW u := fun j cs e hj he e2 => by
    subst e2; rw [hj] at tw; simp only [Option.some.injEq, Obj.cells.injEq] at tw; exact he tw.2.1
  have keep : ∀ j, j ≠ GA u → j ≠ GW u → ((wr.setCell ⟨GA u, v, none⟩ (.bool true)).setCell ⟨GW u, v, none⟩ (.int .i64 x)).heap[j]? = wr.heap[j]? := fun j h1 h2 => by
    rw [Below.heap_setCell _ _ _ _ (fun e => h2 e), Below.heap_setCell _ _ _ _ (fun e => h1 e)]
  refine ⟨(keep _ (by omega) (by omega)).trans h.box, (keep _ (by omega) (by omega)).trans h.res, (keep _ (by omega) (by omega)).trans h.tbl, ownsRow_of_heap h.nodes (fun j hj => keep j (by have := h.ordN j hj; omega) (by have := h.ordN j hj; omega)), h.ordN, h.ord, ownsRow_of_heap h.arc (fun j hj => ?_), ownsRow_of_heap h.wts (fun j hj => ?_), ?_, ?_, ?_⟩
  · obtain ⟨cs, hcs⟩ := own_ty h.arc hj
    exact keep j (hne _ _ _ hcs (by decide)) (hnw _ _ _ hcs (by decide))
  · obtain ⟨cs, hcs⟩ := own_ty h.wts hj
    exact keep j (hne _ _ _ hcs (by decide)) (hnw _ _ _ hcs (by decide))
  · exact (h.ma.set hu hv true).of_heap (fun i hi => Below.heap_setCell _ _ _ _ (fun e => hnw _ _ _ (h.ma.at_ i hi) (by decide) e))
  · exact (h.mw.of_heap (w' := wr.setCell ⟨GA u, v, none⟩ (.bool true)) (fun i hi => Below.heap_setCell _ _ _ _ (fun e => hne _ _ _ (h.mw.at_ i hi) (by decide) e))).set hu2 hv x
  · exact (h.below.setCell (by show _ ≤ GA u; omega) _).setCell (by show _ ≤ GW u; omega) _
end

theorem TabSt.congr {w wr : World} {bt : Nat} {d : Bool} {an ae : Option Addr} {n cn m ce : Nat} {vN vA vW : Value} {GA GW : Nat → Nat} {ka kw : Nat} {ids : List Int} {MA MA' : Nat → Nat → Bool} {MW MW' : Nat → Nat → Int} (h : TabSt w bt d an ae n cn m ce vN vA vW GA GW ka kw ids MA MW wr)
    (eA : ∀ i c, MA' i c = MA i c) (eW : ∀ i c, MW' i c = MW i c) : TabSt w bt d an ae n cn m ce vN vA vW GA GW ka kw ids MA' MW' wr := by
  obtain rfl : MA' = MA := funext fun i => funext fun c => eA i c
  obtain rfl : MW' = MW := funext fun i => funext fun c => eW i c
  exact h

/-- An element of an outer row, read. -/
theorem own_elem {w : World} {B : Nat} {e : TypeId} {a : Option Addr} {n c i : Nat} {xs : List Value} (h : w.ownsRow B e 1 (.slice a n c) n xs) (hi : i < n) : ∃ g, a = some ⟨g, 0, none⟩ ∧ w.cell? ⟨g, i, none⟩ = xs[i]? ∧ w.heap[g]? ≠ none ∧ ∃ cs, w.heap[g]? = some (.cells cs e (0, 0)) := by
  rcases h.2 with ⟨e1, h1⟩ | ⟨g, cap, cur, e1, hb, hg, h3, h4, h5, h6⟩
  · simp only [Value.slice.injEq] at e1; omega
  · simp only [Value.slice.injEq] at e1
    obtain ⟨rfl, -, rfl⟩ := e1
    refine ⟨g, rfl, ?_, by rw [hg]; simp, cur, hg⟩
    rw [cell_of_row w g i cur _ (0, 0) hg]
    have h7 : (cur.toList.take (n * 1))[i]? = xs[i]? := by rw [h6]
    rw [List.getElem?_take_of_lt (by omega)] at h7
    rw [← Array.getElem?_toList, h7]

theorem hits_true (ids : List Int) (i c : Nat) (u v x : Int) : hitsB true ids i c (u, v, x) = decide (i = posOf ids u ∧ c = posOf ids v) := by
  unfold hitsB; simp
theorem hits_false (ids : List Int) (i c : Nat) (u v x : Int) : hitsB false ids i c (u, v, x) = (decide (i = posOf ids u ∧ c = posOf ids v) || decide (i = posOf ids v ∧ c = posOf ids u)) := by
  unfold hitsB; simp

theorem setCell_far (w : World) (a : Addr) (v : Value) {b j : Nat} (h : b ≠ a.block) : (w.setCell a v).cell? ⟨b, j, none⟩ = w.cell? ⟨b, j, none⟩ := World.cell?_of_block (Below.heap_setCell _ _ _ _ h)
theorem setCell_free (w : World) (a : Addr) (v : Value) {b j : Nat} (h : b ≠ a.block) : (w.setCell a v).frozen? ⟨b, j, none⟩ = w.frozen? ⟨b, j, none⟩ := World.frozen?_of_block (Below.heap_setCell _ _ _ _ h)

/-- What a store into both matrices at (u, v) wants to know. -/
theorem TabSt.place {w wr : World} {bt : Nat} {d : Bool} {an ae : Option Addr} {n cn m ce c2 c3 u v : Nat} {vN : Value} {a2 a3 : Option Addr} {GA GW : Nat → Nat} {ids : List Int} {MA : Nat → Nat → Bool} {MW : Nat → Nat → Int} (h : TabSt w bt d an ae n cn m ce vN (.slice a2 n c2) (.slice a3 n c3) GA GW n n ids MA MW wr) (hu : u < n) (hv : v < n) :
    ∃ gA gW, a2 = some ⟨gA, 0, none⟩ ∧ a3 = some ⟨gW, 0, none⟩ ∧ wr.cell? ⟨gA, u, none⟩ = some (.slice (some ⟨GA u, 0, none⟩) n n) ∧ wr.cell? ⟨gW, u, none⟩ = some (.slice (some ⟨GW u, 0, none⟩) n n) ∧
      wr.cell? ⟨GA u, v, none⟩ = some (.bool (MA u v)) ∧ wr.frozen? ⟨GA u, v, none⟩ = false ∧ wr.cell? ⟨GW u, v, none⟩ = some (.int .i64 (MW u v)) ∧ wr.frozen? ⟨GW u, v, none⟩ = false ∧
      GW u ≠ GA u ∧ bt < GA u ∧ bt < GW u ∧ gA ≠ GA u ∧ gA ≠ GW u ∧ gW ≠ GA u ∧ gW ≠ GW u := by
  obtain ⟨gA, rfl, hcA, -, csA, htA⟩ := own_elem h.arc hu
  obtain ⟨gW, rfl, hcW, -, csW, htW⟩ := own_elem h.wts hu
  have tA := h.ma.at_ u hu; have tW := h.mw.at_ u hu
  have lA := h.ma.lo_ u hu; have lW := h.mw.lo_ u hu
  have ne : ∀ {i j : Nat} {c1 c2 : Array Value} {e1 e2 : TypeId}, wr.heap[i]? = some (.cells c1 e1 (0, 0)) → wr.heap[j]? = some (.cells c2 e2 (0, 0)) → e1 ≠ e2 → i ≠ j := fun {i j c1 c2 e1 e2} h1 h2 h3 e => by
    subst e; rw [h1] at h2; simp only [Option.some.injEq, Obj.cells.injEq] at h2; exact h3 h2.2.1
  refine ⟨gA, gW, rfl, rfl, ?_, ?_, h.ma.cell hu hv, h.ma.free hu v, h.mw.cell hu hv, h.mw.free hu v, ne tW tA (by decide), by omega, by omega, ne htA tA (by decide), ne htA tW (by decide), ne htW tA (by decide), ne htW tW (by decide)⟩
  · rw [hcA]; simp [hu, rowV]
  · rw [hcW]; simp [hu, rowV]

end Go.Proofs.YtbkoifdnlaihfaaGreat
