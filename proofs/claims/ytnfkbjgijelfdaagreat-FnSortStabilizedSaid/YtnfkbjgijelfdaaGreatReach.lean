/- The walk of the laws' own reach: the closure of a table. The walk of the laws' own reach. The closure over all places is where paths lead. -/
import Derived.Test.YtnfkbjgijelfdaaGreatLolG
import Derived.Test.YtnfkbjgijelfdaaGreatShelfS
import Derived.Test.YtnfkbjgijelfdaaGreatTable
import Derived.Test.YtnfkbjgijelfdaaGreatSeen
import Derived.StillTailTactics
import Derived.Deep.RegionHeld3
namespace Go.Proofs.YtnfkbjgijelfdaaGreat
open Go.RowKit

/-- Where one comes over the first k places. -/
def wsh (A : Nat → Nat → Bool) : Nat → Nat → Nat → Bool
  | 0, i, j => decide (i = j) || A i j
  | k + 1, i, j => wsh A k i j || (wsh A k i k && wsh A k k j)
theorem wsh_col (A : Nat → Nat → Bool) (k i : Nat) : wsh A (k + 1) i k = wsh A k i k := by
  show (wsh A k i k || (wsh A k i k && wsh A k k k)) = _
  cases wsh A k i k <;> simp
theorem wsh_row (A : Nat → Nat → Bool) (k j : Nat) : wsh A (k + 1) k j = wsh A k k j := by
  show (wsh A k k j || (wsh A k k k && wsh A k k j)) = _
  cases wsh A k k j <;> simp
def matL (n k : Nat) (M : Nat → Nat → Bool) : List (List Bool) := (List.range k).map fun i => (List.range n).map (M i)
theorem matL_len (n k : Nat) (M : Nat → Nat → Bool) : (matL n k M).length = k := by simp [matL]
theorem matL_get {n k i : Nat} {M : Nat → Nat → Bool} (h : i < k) : (matL n k M)[i]? = some ((List.range n).map (M i)) := by simp [matL, h]
theorem matL_congr {n k : Nat} {M M' : Nat → Nat → Bool} (h : ∀ i c, i < k → c < n → M i c = M' i c) : matL n k M = matL n k M' := by
  unfold matL
  apply List.map_congr_left
  intro i hi
  apply List.map_congr_left
  intro c hc
  exact h i c (List.mem_range.1 hi) (List.mem_range.1 hc)
theorem matL_succ (n k : Nat) (M : Nat → Nat → Bool) : matL n (k + 1) M = matL n k M ++ [(List.range n).map (M k)] := by simp [matL, List.range_succ]
theorem map_set_range {α : Type} (n u : Nat) (f : Nat → α) (x : α) : ((List.range n).map f).set u x = (List.range n).map fun c => if c = u then x else f c := by
  apply List.ext_getElem (by simp)
  intro i h1 h2
  simp only [List.getElem_set, List.getElem_map, List.getElem_range]
  by_cases e : u = i
  · simp [e]
  · simp [e, show ¬ i = u from fun h => e h.symm]

abbrev LolB (w : World) (lo : Nat) (v : Value) (vs : List Value) (ls : List (List Bool)) : Prop := LolG 153 4 Value.bool w lo v vs ls
/-- No two rows share a block. -/
def Dist (vs : List Value) : Prop := ∀ (i j : Nat) (u u' : Value) (g : Nat), i < j → vs[i]? = some u → vs[j]? = some u' → u.ownBlock = some g → u'.ownBlock ≠ some g
theorem Dist.snoc {vs : List Value} {u : Value} (h : Dist vs) (hu : ∀ x ∈ vs, ∀ g, x.ownBlock = some g → u.ownBlock ≠ some g) : Dist (vs ++ [u]) := by
  intro i j a b g hij ha hb hg
  by_cases hj : j < vs.length
  · rw [List.getElem?_append_left hj] at hb
    rw [List.getElem?_append_left (by omega)] at ha
    exact h i j a b g hij ha hb hg
  · have hj2 := (List.getElem?_eq_some_iff.1 hb).1
    simp at hj2
    rw [List.getElem?_append_right (by omega)] at hb
    rw [show j - vs.length = 0 by omega] at hb
    obtain rfl : u = b := by simpa using hb
    rw [List.getElem?_append_left (by omega)] at ha
    exact hu a (List.mem_of_getElem? ha) g hg

/-- A cell of one row is set. -/
theorem LolB.setAt {w : World} {lo g n c u v : Nat} {vv : Value} {vs : List Value} {k : Nat} {M : Nat → Nat → Bool} (h : LolB w lo vv vs (matL n k M)) (hd : Dist vs) (hu : vs[u]? = some (.slice (some ⟨g, 0, none⟩) n c)) (huk : u < k) (x : Bool) :
    LolB (w.setCell ⟨g, v, none⟩ (.bool x)) lo vv vs (matL n k fun i j => if i = u ∧ j = v then x else M i j) := by
  have hlen := matL_len n k M
  have hlen2 := matL_len n k (fun i j => if i = u ∧ j = v then x else M i j)
  refine ⟨?_, fun i y l hy hl => ?_, h.apart⟩
  · rw [hlen2]
    have h1 := h.row
    rw [hlen] at h1
    exact ownsRow_of_heap h1 (fun g' hg' => Below.heap_setCell _ _ _ _ (fun e => h.apart _ (List.mem_of_getElem? hu) g rfl (by rw [hg']; exact congrArg some e)))
  · have hik : i < k := by have := (List.getElem?_eq_some_iff.1 hl).1; rw [hlen2] at this; exact this
    rw [matL_get hik] at hl
    obtain rfl := Option.some.inj hl
    have ho := h.rows i y _ hy (matL_get hik)
    by_cases e : i = u
    · subst e
      rw [hu] at hy
      obtain rfl := Option.some.inj hy
      have hl2 : ((List.range n).map (M i)).length = n := by simp
      rw [hl2] at ho
      have h2 := own_put (i := v) ho (.bool x)
      have hl3 : ((List.range n).map fun j => if i = i ∧ j = v then x else M i j).length = n := by simp
      rw [hl3]
      rw [List.map_map, map_set_range] at h2
      rw [List.map_map]
      have e6 : (Value.bool ∘ fun j => if i = i ∧ j = v then x else M i j) = fun c => if c = v then Value.bool x else (Value.bool ∘ M i) c := by
        funext j
        by_cases e2 : j = v <;> simp [e2]
      rw [e6]
      exact h2
    · have e3 : ((List.range n).map fun j => if i = u ∧ j = v then x else M i j) = (List.range n).map (M i) := by
        apply List.map_congr_left; intro j _; simp [e]
      rw [e3]
      refine ownsRow_of_heap ho (fun g' hg' => Below.heap_setCell _ _ _ _ (fun e4 => ?_))
      have e5 : g' = g := e4
      subst e5
      rcases Nat.lt_trichotomy i u with h5 | h5 | h5
      · exact hd i u y _ g' h5 hy hu hg' rfl
      · exact e h5
      · exact hd u i _ y g' h5 hu hy rfl hg'
end Go.Proofs.YtnfkbjgijelfdaaGreat
namespace Go.Proofs.YtnfkbjgijelfdaaGreat
open Go.RowKit
attribute [local go_sem] slowLoad

/-- The matrix within round k: rows ahead of x are done, row x up to y. -/
def midW (A : Nat → Nat → Bool) (k x y i j : Nat) : Bool := if i < x ∨ (i = x ∧ j < y) then wsh A (k + 1) i j else wsh A k i j

theorem midW_col (A : Nat → Nat → Bool) (k x y i : Nat) : midW A k x y i k = wsh A k i k := by
  unfold midW
  rw [wsh_col]; split <;> rfl
theorem midW_row (A : Nat → Nat → Bool) (k x y j : Nat) : midW A k x y k j = wsh A k k j := by
  unfold midW
  rw [wsh_row]; split <;> rfl
theorem midW_stop (A : Nat → Nat → Bool) (k x y u : Nat) (h : wsh A k x k = false) (i c : Nat) (_ : i < u) (_ : c < u) : midW A k (x + 1) 0 i c = midW A k x y i c := by
  unfold midW
  by_cases e : i = x
  · subst e
    have e1 : wsh A (k + 1) i c = wsh A k i c := by show (wsh A k i c || (wsh A k i k && wsh A k k c)) = _; rw [h]; simp
    rw [e1]; simp
  · by_cases e2 : i < x
    · rw [if_pos (by omega), if_pos (by omega)]
    · rw [if_neg (by omega), if_neg (by omega)]
theorem midW_step (A : Nat → Nat → Bool) (k x y i c : Nat) (h : wsh A k x k = true) : midW A k x (y + 1) i c = if i = x ∧ c = y then (midW A k x y x y || midW A k x y k y) else midW A k x y i c := by
  by_cases e : i = x ∧ c = y
  · obtain ⟨rfl, rfl⟩ := e
    rw [if_pos ⟨rfl, rfl⟩, midW_row]
    have e1 : midW A k i (c + 1) i c = wsh A (k + 1) i c := by unfold midW; rw [if_pos (by omega)]
    have e2 : midW A k i c i c = wsh A k i c := by unfold midW; rw [if_neg (by omega)]
    rw [e1, e2]
    show (wsh A k i c || (wsh A k i k && wsh A k k c)) = _
    rw [h]; simp
  · rw [if_neg e]
    unfold midW
    by_cases e2 : i < x ∨ i = x ∧ c < y
    · rw [if_pos e2, if_pos (by omega)]
    · rw [if_neg e2, if_neg (by omega)]

theorem lolb_at {w : World} {lo i n0 c0 n K : Nat} {a : Option Addr} {vs : List Value} {M : Nat → Nat → Bool} (h : LolB w lo (.slice a n0 c0) vs (matL n K M)) (hi : i < K) (hn : 0 < n := by omega) :
    ∃ g gi ci, Value.slice a n0 c0 = .slice (some ⟨g, 0, none⟩) K c0 ∧ g < w.heap.size ∧ w.cell? ⟨g, i, none⟩ = some (.slice (some ⟨gi, 0, none⟩) n ci) ∧ vs[i]? = some (.slice (some ⟨gi, 0, none⟩) n ci) ∧ gi < w.heap.size ∧
      (∀ j, j < n → w.cell? ⟨gi, j, none⟩ = some (.bool (M i j)) ∧ w.frozen? ⟨gi, j, none⟩ = false) := by
  have hl := h.len
  rw [matL_len] at hl
  have hr := h.row
  rw [matL_len] at hr
  obtain ⟨g, c, e, _, hg, _⟩ := own_form hr (by omega)
  have e1 : vs[i]? = some vs[i] := List.getElem?_eq_getElem (by omega)
  have ho := h.rows i _ _ e1 (matL_get hi)
  have hl2 : ((List.range n).map (M i)).length = n := by simp
  rw [hl2] at ho
  obtain ⟨gi, ci, e2, _, hgi, _⟩ := own_form ho (by omega)
  have e' := e
  simp only [Value.slice.injEq] at e'
  obtain ⟨rfl, rfl, rfl⟩ := e'
  rw [e2] at e1 ho
  refine ⟨g, gi, ci, rfl, hg, (own_at hr e1).1, e1, hgi, fun j hj => own_at ho (by simp [hj])⟩

theorem st_want {P : Program} {ops : Array Oper} {w : World} {Q : Act → Prop} {a : Act} {o : Oper} {rest : List Oper} (hw : Region.wanted o (yielded ops a.tmps) = true)
    (h : ∀ K : Act → Prop, (∀ a, wpStill P ops w Q rest a → K a) → o.still P a w K) : wpStill P ops w Q (o :: rest) a :=
  wpStill_step fun K hK => by rw [if_pos hw]; exact h K hK
theorem st_skip {P : Program} {ops : Array Oper} {w : World} {Q : Act → Prop} {a : Act} {o : Oper} {rest : List Oper} (hw : Region.wanted o (yielded ops a.tmps) = false)
    (h : ∀ K : Act → Prop, (∀ a, wpStill P ops w Q rest a → K a) → K (a.put o.dst undef)) : wpStill P ops w Q (o :: rest) a :=
  wpStill_step fun K hK => by rw [if_neg (by rw [hw]; exact Bool.false_ne_true)]; exact h K hK

theorem st_move {P : Program} {w : World} {a : Act} {o : Oper} {K : Act → Prop} (x : Operand) (h : o.op = .move x) (hk : K (a.put o.dst (a.eval x))) : o.still P a w K := by
  unfold Oper.still
  rw [BigFrame.run_move x h, Oper.stillUpon_value]; exact hk

def ReachPost (n : Nat) (A : Nat → Nat → Bool) (w : World) (e : Ending) (w' : World) : Prop :=
  ∃ v vs, e = .returned v ∧ LolB w' w.heap.size v vs (matL n n (wsh A n)) ∧ Below w.heap.size w w'

/-- The result under way. -/
def OutB (w : World) (n k : Nat) (v : Value) (vs : List Value) (M : Nat → Nat → Bool) (wr : World) : Prop :=
  LolB wr (w.heap.size + 1) v vs (matL n k M) ∧ Dist vs ∧ Below (w.heap.size + 1) (w.alloc (.cells #[] 0)) wr

set_option maxHeartbeats 8000000 in
set_option maxRecDepth 100000 in
theorem reach_calls (vN vA vW : Value) (B lo n : Nat) (GA : Nat → Nat) (A : Nat → Nat → Bool) (ids : List Int) (w : World) (hN : w.ownsRow B 3 1 vN n (ids.map (Value.int .i64))) (hA : w.ownsRow lo 153 1 vA n ((List.range n).map (rowV n GA))) (hM : Mat Value.bool w lo n n 4 GA A) (hn : n ≤ 1000) :
    Calls Tryz.prog 98 #[.agg #[vN, vA, vW]] w (ReachPost n A w) := by
  obtain ⟨aN, cN, rfl⟩ := own_shape' hN
  obtain ⟨aA, cA, rfl⟩ := own_shape' hA
  have HA := Lib.hid hA; have HM := Lib.hid hM
  obtain ⟨i0, hi0, hz0, hz1, hz2⟩ := info_parts bools_info
  have HI := Lib.hid (And.intro hi0 (And.intro hz0 (And.intro hz1 hz2)))
  obtain ⟨i1, hj0, hy0, hy1, hy2⟩ := info_parts bool_info
  have HJ := Lib.hid (And.intro hj0 (And.intro hy0 (And.intro hy1 hy2)))
  clear hN hA hM hi0 hz0 hz1 hz2 hj0 hy0 hy1 hy2
  go_enter Tryz.func98, Tryz.ntmps98
  go_wp2_with fail
  obtain ⟨w1, hw1⟩ : ∃ w1, w1 = w.alloc (.cells #[.slice aN n cN, .slice aA n cA, vW] 150) := ⟨_, rfl⟩
  have HB1 : Hid (Below w.heap.size w w1) := by rw [hw1]; exact (Below.refl _ _).alloc (Nat.le_refl _) _
  have x1 : w1.heap[w.heap.size]? = some (.cells #[.slice aN n cN, .slice aA n cA, vW] 150 (0, 0)) := by rw [hw1]; exact heap_alloc_new w _
  have hs1 : w1.heap.size = w.heap.size + 1 := by rw [hw1]; simp
  rw [← hw1]
  have HX1 := Lib.hid x1
  clear hw1 x1
  go_loopw [4, 5] (fun v i wr => ∃ (u : Nat) (vs : List Value), u ≤ n ∧ i = .int .i64 u ∧ LolB wr (w.heap.size + 1) v vs (matL n u (wsh A 0)) ∧ Hid (Dist vs) ∧ Below (w.heap.size + 1) w1 wr) (fun _ i _ => n - (intOf i).toNat)
  case atStart => exact ⟨0, [], by omega, rfl, LolG.nil _ _, Lib.hid (fun i j u u' g _ h => by simp at h), Below.refl _ _⟩
  case round =>
    obtain ⟨u, vs, hu, rfl, ho, HD, hb⟩ := hrel
    have HLN : Hid ((matL n u (wsh A 0)).length = u) := matL_len _ _ _
    have hor := ho.row
    rw [HLN.out] at hor
    obtain ⟨a1, c1, rfl⟩ := own_shape' hor
    have HO := Lib.hid ho; have HB := Lib.hid hb
    have hszr := hb.size
    rw [hs1] at hszr
    have HX : Hid (wr.heap[w.heap.size]? = some (.cells #[.slice aN n cN, .slice aA n cA, vW] 150 (0, 0))) := (hb.block _ (by omega)).trans HX1.out
    have t1 : wr.cell? ⟨w.heap.size, 1, none⟩ = some (.slice aA n cA) := by rw [cell_of_row wr _ _ _ _ (0, 0) HX.out]; rfl
    have HBW : Hid (Below w.heap.size w wr) := HB1.out.trans (hb.mono (by omega))
    have hbt : w.heap.size < wr.heap.size := by omega
    clear ho hor hb
    by_cases hlt : u < n
    · obtain ⟨gA, cA', e, hgA0, hgA1, -⟩ := own_form HA.out (by omega)
      simp only [Value.slice.injEq, true_and] at e
      obtain ⟨rfl, rfl⟩ := e
      have hcell : w.cell? ⟨gA, u, none⟩ = some (rowV n GA u) := (own_at HA.out (u := rowV n GA u) (by simp [hlt])).1
      have hcw : wr.cell? ⟨gA, u, none⟩ = some (.slice (some ⟨GA u, 0, none⟩) n n) := (HBW.out.cell (p := ⟨gA, u, none⟩) hgA1).trans hcell
      have hMlt := HM.out.lt hlt
      obtain ⟨hj0, hy0, hy1, hy2⟩ := HJ.out
      have HCL := Lib.hid (Tryz.slices_Clone_f145 i1 (.bool false) 1 1 hj0 hy0 hy1 hy2 rfl (by decide) (by intro w; go_simp) (GA u) 0 n n ((List.range n).map fun c => .bool (A u c)) wr (by simp) (by unfold maxLen; omega) (by omega)
        (fun j y hj => by
          have hjn : j < n := by have := (List.getElem?_eq_some_iff.1 hj).1; simpa using this
          have e1 : y = .bool (A u j) := by simp [hjn] at hj; exact hj.symm
          rw [e1, Nat.zero_add]
          exact (HBW.out.cell (p := ⟨GA u, j, none⟩) hMlt).trans (HM.out.cell hlt hjn)) (fun y hy => by obtain ⟨c, _, rfl⟩ := List.mem_map.1 hy; rfl))
      have hgw : gA < wr.heap.size := by have := HBW.out.size; omega
      have hbool : (0 : Nat) < n := by omega
      clear hcell
      go_wp2_with fail
      refine HCL.out.mono ?_
      rintro e w2 ⟨v2, rfl, ho2, -, hb2⟩
      obtain ⟨g2, c2, rfl, hg2, hg2', -⟩ := own_form ho2 (by omega)
      obtain ⟨q1, q2⟩ := own_at (i := u) ho2 (u := .bool (A u u)) (by simp [hlt])
      have HO2 := Lib.hid ho2; have HB2 := Lib.hid hb2
      clear ho2 hb2 HCL
      obtain ⟨w3, hw3⟩ : ∃ w3, w3 = w2.setCell ⟨g2, u, none⟩ (.bool true) := ⟨_, rfl⟩
      have HB3 : Hid (Below wr.heap.size wr w3) := by rw [hw3]; exact HB2.out.setCell hg2 _
      have hs3 : w3.heap.size = w2.heap.size := by rw [hw3]; simp [World.setCell]
      have HL3 : Hid (LolB w3 (w.heap.size + 1) (.slice a1 u c1) vs (matL n u (wsh A 0))) := HO.out.of_heap (fun j hj => HB3.out.block j (HO.out.lt hj).2)
      have HRW : Hid (w3.ownsRow (w.heap.size + 1) 153 1 (.slice a1 u c1) u vs) := by have h := HL3.out.row; rw [HLN.out] at h; exact h
      have HO3 : Hid (w3.ownsRow wr.heap.size 4 1 (.slice (some ⟨g2, 0, none⟩) n c2) n (((List.range n).map (wsh A 0 u)).map Value.bool)) := by
        have h := own_put (i := u) HO2.out (.bool true)
        rw [← hw3, map_set_range] at h
        rw [List.map_map]
        have e6 : (Value.bool ∘ wsh A 0 u) = fun c => if c = u then Value.bool true else Value.bool (A u c) := by
          funext j
          by_cases e2 : j = u
          · simp [wsh, e2]
          · simp [wsh, e2, show ¬ u = j from fun h => e2 h.symm]
        rw [e6]; exact h
      obtain ⟨hi0, hz0, hz1, hz2⟩ := HI.out
      have hsm : (u + 1) * 24 ≤ 140737488355328 := by omega
      have hs3' := HB3.out.size
      have HW3 := Lib.hid hw3
      go_wp2_with (at_builtin; rw [← hw3]; refine wpList_append_own_at _ rfl _ _ 148 rfl (w.heap.size + 1) 153 i0 (.slice none 0 0) 1 24 Tryz.underlying148 hi0 hz0 hz1 hz2 rfl (by decide) (.slice a1 u c1) u vs rfl ?hown ⟨w2.heap.size, 0, none⟩ 1 1 [.slice (some ⟨g2, 0, none⟩) n c2] rfl ?c0 ?c1 ?c2 ?c3 ?c4 ?c5 ?_)
      case hown => exact HRW.out.alloc _
      case c0 => rfl
      case c1 => intro j y hj; match j, hj with | 0, hj => simp at hj; subst hj; rw [← hs3]; exact (World.cell?_alloc_new w3 _ _ _).trans rfl
      case c2 => intro y hy; simp at hy; subst hy; rfl
      case c3 => unfold maxLen; omega
      case c4 => exact hsm
      case c5 => simp; omega
      intro v' w' hown' hgrow _ hloc
      rw [← hw3] at hgrow
      obtain ⟨a', c', rfl⟩ := own_shape' hown'
      have hfr : Fresh w3 (.slice a1 u c1) (.slice a' (u + 1) c') := hloc.imp id fun h g hg => by rw [h] at hg; have h5 := Option.some.inj hg; omega
      have hml : ((List.range n).map (wsh A 0 u)).length = n := by simp
      have HL' : Hid (LolB w' (w.heap.size + 1) (.slice a' (u + 1) c') (vs ++ [.slice (some ⟨g2, 0, none⟩) n c2]) (matL n (u + 1) (wsh A 0))) := by
        rw [matL_succ]
        exact HL3.out.more (by rw [hml]; exact own_lower HO3.out (by omega)) (fun g hg hj => by have h1 := (HO3.out.lt g hg).1; have h2 := (HO.out.lt hj).2; omega) (by rw [HLN.out]; exact hown') (fun j h1 h2 => by rw [hgrow.block j (by simp; omega) h2]; exact heap_alloc_old _ _ h1) hfr
      have HD' : Hid (Dist (vs ++ [.slice (some ⟨g2, 0, none⟩) n c2])) := HD.out.snoc (fun x hx g hg e => by have h1 := (HO.out.lt (.inr ⟨x, hx, hg⟩)).2; have h5 : g2 = g := Option.some.inj e; omega)
      have HB' : Hid (Below (w.heap.size + 1) w1 w') := ((HB.out.trans (HB3.out.mono hszr)).alloc (by omega) _).grown hgrow (by simp; omega) (fun j hj => (HRW.out.lt j hj).1)
      clear hown' hgrow hfr hloc
      go_wp2
      go_roundw
      case rel => exact ⟨u + 1, vs ++ [.slice (some ⟨g2, 0, none⟩) n c2], by omega, by go_num, HL'.out, HD', HB'.out⟩
      case measure => simp [intOf]; omega
    · obtain rfl : u = n := by omega
      clear t1
      obtain ⟨bo, hbo⟩ : ∃ bo, bo = w.heap.size + 1 := ⟨_, rfl⟩
      rw [← hbo] at HO
      have HO1 : Hid (LolB wr bo (.slice a1 u c1) vs (matL u u (wsh A 0))) := HO.out
      have HBO : Hid (Below bo w1 wr) := by rw [hbo]; exact HB.out
      have HBE := Lib.hid hbo
      clear HO HB HX HLN hbo hszr hbt
      go_wp2_with fail
      go_loopw [7] (fun i wr => ∃ k : Nat, k ≤ u ∧ i = .int .i64 k ∧ LolB wr bo (.slice a1 u c1) vs (matL u u (wsh A k)) ∧ Below bo w1 wr) (fun i _ => u - (intOf i).toNat)
      case atStart => exact ⟨0, by omega, rfl, HO1.out, HBO.out⟩
      case round =>
        obtain ⟨k, hk, rfl, ho, hb⟩ := hrel
        have HOk := Lib.hid ho; have HBk := Lib.hid hb
        clear ho hb HO1 HBO
        by_cases hkn : k < u
        · go_wp2_with fail
          go_loopw [8] (fun i wr => ∃ x : Nat, x ≤ u ∧ i = .int .i64 x ∧ LolB wr bo (.slice a1 u c1) vs (matL u u (midW A k x 0)) ∧ Below bo w1 wr) (fun i _ => u - (intOf i).toNat)
          case atStart => exact ⟨0, by omega, rfl, by rw [matL_congr (M' := wsh A k) (fun i c _ _ => by simp [midW])]; exact HOk.out, HBk.out⟩
          case round =>
            obtain ⟨x, hx, rfl, ho, hb⟩ := hrel
            have HOx := Lib.hid ho; have HBx := Lib.hid hb
            clear ho hb HOk HBk
            by_cases hxn : x < u
            · go_wp2_with fail
              go_loopw [9] (fun i wr => ∃ y : Nat, y ≤ u ∧ i = .int .i64 y ∧ LolB wr bo (.slice a1 u c1) vs (matL u u (midW A k x y)) ∧ Below bo w1 wr) (fun i _ => u - (intOf i).toNat)
              case atStart => exact ⟨0, by omega, rfl, HOx.out, HBx.out⟩
              case round =>
                obtain ⟨y, hy, rfl, ho, hb⟩ := hrel
                have HOy := Lib.hid ho; have HBy := Lib.hid hb
                clear ho hb HOx HBx
                obtain ⟨gO, gx, cx, e, hgO, ex, evx, exg, exc⟩ := lolb_at HOy.out hxn
                simp only [Value.slice.injEq, and_true] at e
                subst e
                obtain ⟨gO', gk, ck, e, -, ek, -, ekg, ekc⟩ := lolb_at HOy.out hkn
                simp only [Value.slice.injEq, Option.some.injEq, Addr.mk.injEq, and_true] at e
                subst e
                obtain ⟨bxk, hbxk⟩ : ∃ b, midW A k x y x k = b := ⟨_, rfl⟩
                have cxk := (exc k hkn).1
                rw [hbxk] at cxk
                rw [midW_col] at hbxk
                have HXK := Lib.hid hbxk
                have HVX := Lib.hid evx
                have hne : ¬ gO = gx := fun e => HOy.out.apart _ (List.mem_of_getElem? evx) gx rfl (congrArg some e)
                have hne' : ¬ gx = gO := fun e => hne e.symm
                clear hbxk evx
                by_cases hyn : y < u
                · cases bxk
                  · clear exc ekc
                    go_wp2_with fail
                    go_roundw
                    case rel => exact ⟨x + 1, by omega, by go_num, by rw [matL_congr (M' := midW A k x y) (midW_stop A k x y u HXK.out)]; exact HOy.out, HBy.out⟩
                    case measure => simp [intOf]; omega
                  · obtain ⟨cxy, fxy⟩ := exc y hyn
                    obtain ⟨cky, -⟩ := ekc y hyn
                    obtain ⟨b1, hb1⟩ : ∃ b, midW A k x y x y = b := ⟨_, rfl⟩
                    obtain ⟨b2, hb2⟩ : ∃ b, midW A k x y k y = b := ⟨_, rfl⟩
                    rw [hb1] at cxy
                    rw [hb2] at cky
                    have HNEW : Hid (matL u u (midW A k x (y + 1)) = matL u u (fun i j => if i = x ∧ j = y then (b1 || b2) else midW A k x y i j)) := Lib.hid (matL_congr (fun i c _ _ => by rw [← hb1, ← hb2]; exact midW_step A k x y i c HXK.out))
                    clear hb1 hb2 exc ekc
                    have hgx : bo ≤ gx := (HOy.out.lt (.inr ⟨_, List.mem_of_getElem? HVX.out, rfl⟩)).1
                    cases b1
                    · go_wp2_with fail
                      rw [slow_load 4 (.tmp 65)]
                      try rw [slow_load 4 (.tmp 73)]
                      go_region_held3 (fun w' => w'.cell? ⟨gO, x, none⟩ = some (.slice (some ⟨gx, 0, none⟩) u cx) ∧ w'.cell? ⟨gO, k, none⟩ = some (.slice (some ⟨gk, 0, none⟩) u ck))
                        (go_keep)
                        (fail)
                      all_goals
                        go_wp2
                        go_roundw
                        case rel => exact ⟨y + 1, by omega, by go_num, by rw [HNEW.out]; exact (HOy.out.setAt HD.out HVX.out hxn _).of_heap (fun _ _ => rfl), below_drewN (HBy.out.setCell hgx _) 1⟩
                        case measure => simp [intOf]; omega
                    · go_wp2_with fail
                      go_region
                      all_goals
                        go_wp2
                        go_roundw
                        case rel => exact ⟨y + 1, by omega, by go_num, by rw [HNEW.out]; exact (HOy.out.setAt HD.out HVX.out hxn _).of_heap (fun _ _ => rfl), below_drewN (HBy.out.setCell hgx _) 1⟩
                        case measure => simp [intOf]; omega
                · obtain rfl : y = u := by omega
                  clear exc ekc
                  go_wp2_with fail
                  go_roundw
                  case rel => exact ⟨x + 1, by omega, by go_num, by rw [matL_congr (M' := midW A k x y) (fun i c _ hc => by unfold midW; congr 1; simp; omega)]; exact HOy.out, HBy.out⟩
                  case measure => simp [intOf]; omega
            · obtain rfl : x = u := by omega
              go_wp2_with fail
              go_roundw
              case rel => exact ⟨k + 1, by omega, by go_num, by rw [matL_congr (M' := midW A k x 0) (fun i c hi _ => by simp [midW, hi])]; exact HOx.out, HBx.out⟩
              case measure => simp [intOf]; omega
        · obtain rfl : k = u := by omega
          go_wp2_with fail
          go_ret
          exact ⟨_, vs, rfl, HOk.out.lower (by rw [HBE.out]; omega), HB1.out.trans (HBk.out.mono (by rw [HBE.out]; omega))⟩
end Go.Proofs.YtnfkbjgijelfdaaGreat
namespace Go.Proofs.YtnfkbjgijelfdaaGreat
open Go.RowKit

theorem wsh_succ (A : Nat → Nat → Bool) (k i j : Nat) : wsh A (k + 1) i j = true ↔ wsh A k i j = true ∨ (wsh A k i k = true ∧ wsh A k k j = true) := by
  show (wsh A k i j || (wsh A k i k && wsh A k k j)) = true ↔ _
  simp
theorem wsh_mono (A : Nat → Nat → Bool) {k i j : Nat} : ∀ m, wsh A k i j = true → wsh A (k + m) i j = true
  | 0, h => h
  | m + 1, h => (wsh_succ A (k + m) i j).2 (.inl (wsh_mono A m h))
theorem wsh_self (A : Nat → Nat → Bool) (k i : Nat) : wsh A k i i = true := by
  have h := wsh_mono A (k := 0) (i := i) (j := i) k (by simp [wsh])
  rwa [Nat.zero_add] at h
theorem wsh_arc (A : Nat → Nat → Bool) (k i j : Nat) (h : A i j = true) : wsh A k i j = true := by
  have h := wsh_mono A (k := 0) (i := i) (j := j) k (by simp [wsh, h])
  rwa [Nat.zero_add] at h
theorem wsh_trans (A : Nat → Nat → Bool) : ∀ (k m i j : Nat), m < k → wsh A k i m = true → wsh A k m j = true → wsh A k i j = true
  | 0, m, _, _, h, _, _ => by omega
  | k + 1, m, i, j, h, h1, h2 => by
    by_cases e : m = k
    · subst e
      rw [wsh_col] at h1
      rw [wsh_row] at h2
      exact (wsh_succ A m i j).2 (.inr ⟨h1, h2⟩)
    · have hm : m < k := by omega
      rw [wsh_succ] at h1 h2 ⊢
      rcases h1 with h1 | ⟨h1, h1'⟩
      · rcases h2 with h2 | ⟨h2, h2'⟩
        · exact .inl (wsh_trans A k m i j hm h1 h2)
        · exact .inr ⟨wsh_trans A k m i k hm h1 h2, h2'⟩
      · rcases h2 with h2 | ⟨h2, h2'⟩
        · exact .inr ⟨h1, wsh_trans A k m k j hm h1' h2⟩
        · exact .inr ⟨h1, h2'⟩
/-- Sound: what holds the arcs among the first n places, and is reflexive and transitive, holds the closure. -/
theorem wsh_sound (A : Nat → Nat → Bool) (n : Nat) (R : Nat → Nat → Prop) (hr : ∀ i, R i i) (ha : ∀ i j, i < n → j < n → A i j = true → R i j) (ht : ∀ i j k, R i j → R j k → R i k) :
    ∀ (k i j : Nat), k ≤ n → i < n → j < n → wsh A k i j = true → R i j
  | 0, i, j, _, hi, hj, h => by
    simp only [wsh, Bool.or_eq_true, decide_eq_true_eq] at h
    rcases h with rfl | h
    · exact hr i
    · exact ha i j hi hj h
  | k + 1, i, j, hk, hi, hj, h => by
    rw [wsh_succ] at h
    rcases h with h | ⟨h, h'⟩
    · exact wsh_sound A n R hr ha ht k i j (by omega) hi hj h
    · exact ht i k j (wsh_sound A n R hr ha ht k i k (by omega) hi (by omega) h) (wsh_sound A n R hr ha ht k k j (by omega) (by omega) hj h')
end Go.Proofs.YtnfkbjgijelfdaaGreat
