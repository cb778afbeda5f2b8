/- The walk of seen, where no weight is asked. -/
import Derived.Test.YtbkoifdnlaihfaaGreatGraphV
import Derived.Test.YtbkoifdnlaihfaaGreatIterd
import Derived.Maps.AppendAt
namespace Go.Proofs.YtbkoifdnlaihfaaGreat
open Go.RowKit

/-- Edges as cells. -/
def flatE (es : List (Int × Int × Int)) : List Value := es.flatMap fun e => [.int .i64 e.1, .int .i64 e.2.1, .int .i64 e.2.2]
theorem flatE_append (a b : List (Int × Int × Int)) : flatE (a ++ b) = flatE a ++ flatE b := List.flatMap_append
theorem flatE_len (es : List (Int × Int × Int)) : (flatE es).length = es.length * 3 := by
  induction es with
  | nil => rfl
  | cons a l ih => simp only [flatE, List.flatMap_cons, List.length_append, List.length_cons, List.length_nil] at ih ⊢; omega
/-- The edges that are seen from u. -/
def seenAt (d : Bool) (adj : Int → List Int) (u : Int) : List (Int × Int × Int) := ((sortI (adj u)).filter fun v => d || decide (u ≤ v)).map fun v => (u, v, 0)
def seenE (d : Bool) (adj : Int → List Int) (l : List Int) : List (Int × Int × Int) := l.flatMap (seenAt d adj)

theorem neq_nilFunc (w : World) : (binOp .neq 94 .nilFunc .nilFunc).run Tryz.prog w = .ok (.bool false) w := by kernel_rfl
theorem edge_info : (Tryz.prog.info? 82).map (fun i => (i.zero, i.size, i.bytes)) = some (some (.agg #[.int .i64 0, .int .i64 0, .int .i64 0]), 3, 24) := by kernel_rfl

/-- The state of seen: the result's block (untouched), the graph that is built. -/
structure SeenSt (w : World) (bo : Nat) (d : Bool) (vN v : Value) (n m : Nat) (ns : List Int) (es : List (Int × Int × Int)) (wr : World) : Prop where
  res : wr.heap[w.heap.size]? = some (.cells #[.bool false, .slice none 0 0, .slice none 0 0] 25 (0, 0))
  blk : wr.heap[bo]? = some (.cells #[.bool d, vN, v] 25 (0, 0))
  nodes : wr.ownsRow (w.heap.size + 1) 3 1 vN n (ns.map (Value.int .i64))
  edges : wr.ownsRow (bo + 1) 82 3 v m (flatE es)
  ordN : ∀ g, vN.ownBlock = some g → g < bo
  ord : w.heap.size < bo
  below : Below w.heap.size w wr

theorem SeenSt.lt {w wr : World} {bo : Nat} {d : Bool} {vN v : Value} {n m : Nat} {ns : List Int} {es : List (Int × Int × Int)} (h : SeenSt w bo d vN v n m ns es wr) : bo < wr.heap.size := (Array.getElem?_eq_some_iff.1 h.blk).1

theorem SeenSt.later {w wr w' : World} {bo : Nat} {d : Bool} {vN v : Value} {n m : Nat} {ns : List Int} {es : List (Int × Int × Int)} (h : SeenSt w bo d vN v n m ns es wr) (hb : Below wr.heap.size wr w') : SeenSt w bo d vN v n m ns es w' := by
  have hlt := h.lt
  have := h.ord
  exact ⟨(hb.block _ (by omega)).trans h.res, (hb.block _ hlt).trans h.blk, ownsRow_of_heap h.nodes (fun g hg => hb.block g (by have := h.ordN g hg; omega)), ownsRow_of_heap h.edges (fun g hg => hb.block g (h.edges.lt g hg).2), h.ordN, h.ord, h.below.trans (hb.mono (by omega))⟩

theorem SeenSt.cells {w wr : World} {bo : Nat} {d : Bool} {vN v : Value} {n m : Nat} {ns : List Int} {es : List (Int × Int × Int)} (h : SeenSt w bo d vN v n m ns es wr) :
    wr.cell? ⟨bo, 0, none⟩ = some (.bool d) ∧ wr.cell? ⟨bo, 1, none⟩ = some vN ∧ wr.cell? ⟨bo, 2, none⟩ = some v ∧ wr.frozen? ⟨bo, 2, none⟩ = false := by
  refine ⟨?_, ?_, ?_, by simp [World.frozen?, h.blk]⟩ <;> (rw [cell_of_row wr bo _ _ _ (0, 0) h.blk]; rfl)

/-- One more edge. -/
theorem SeenSt.more {w wr wa w' : World} {bo : Nat} {d : Bool} {vN v v' : Value} {n m : Nat} {ns : List Int} {es : List (Int × Int × Int)} {e : Int × Int × Int} (h : SeenSt w bo d vN v n m ns es wr) (ha : Below wr.heap.size wr wa)
    (ho : w'.ownsRow (bo + 1) 82 3 v' (m + 1) (flatE es ++ [.int .i64 e.1, .int .i64 e.2.1, .int .i64 e.2.2])) (hg : wa.grownBy w' v.ownBlock) :
    SeenSt w bo d vN v' n (m + 1) ns (es ++ [e]) (w'.setCell ⟨bo, 2, none⟩ v') := by
  have h1 := h.later ha
  have hlt := h1.lt
  have hord := h.ord
  have hv : ∀ j, j ≤ bo → some j ≠ v.ownBlock := fun j hj e => by have := (h1.edges.lt j e.symm).1; omega
  have b1 : w'.heap[bo]? = some (.cells #[.bool d, vN, v] 25 (0, 0)) := (hg.block bo hlt (hv bo (Nat.le_refl _))).trans h1.blk
  have keep : ∀ j, j ≤ bo → j ≠ bo → (w'.setCell ⟨bo, 2, none⟩ v').heap[j]? = wa.heap[j]? := fun j hj hne => by
    rw [Below.heap_setCell _ _ _ _ (fun e => hne e)]; exact hg.block j (by omega) (hv j hj)
  refine ⟨(keep _ (by omega) (by omega)).trans h1.res, ?_, ownsRow_of_heap h1.nodes (fun g hg' => keep g (by have := h.ordN g hg'; omega) (by have := h.ordN g hg'; omega)), ?_, h.ordN, h.ord, ?_⟩
  · rw [heap_setCell_same b1]; rfl
  · rw [flatE_append]
    refine ownsRow_of_heap ho (fun g hg' => Below.heap_setCell _ _ _ _ (fun e => ?_))
    have := (ho.lt g hg').1
    have e' : g = bo := e
    omega
  · exact (h1.below.grown hg (by omega) (fun j hj => by have := (h1.edges.lt j hj).1; omega)).setCell (by show _ ≤ bo; omega) _

theorem own_lower {w : World} {B B' : Nat} {e : TypeId} {size : Nat} {v : Value} {n : Nat} {xs : List Value} (h : w.ownsRow B e size v n xs) (hB : B' ≤ B) : w.ownsRow B' e size v n xs := by
  refine ⟨h.1, ?_⟩
  rcases h.2 with hn | ⟨g, cap, cur, e, hb, rest⟩
  · exact .inl hn
  · exact .inr ⟨g, cap, cur, e, Nat.le_trans hB hb, rest⟩

theorem rd_of_own {E : TypeId} {w : World} {B : Nat} {a : Option Addr} {n c : Nat} {zs : List Int} (h : w.ownsRow B E 1 (.slice a n c) n (zs.map (Value.int .i64))) : RdI w a n zs := by
  obtain ⟨a', c', e, hr⟩ := RdI.of_owns h
  simp only [Value.slice.injEq, true_and] at e
  obtain ⟨rfl, rfl⟩ := e
  exact hr

/-- What the first j of the nodes that u leads to have given. -/
def seenUpTo (d : Bool) (u : Int) (l : List Int) : List (Int × Int × Int) := (l.filter fun v => d || decide (u ≤ v)).map fun v => (u, v, 0)
theorem seenUpTo_succ (d : Bool) (u : Int) (l : List Int) (j : Nat) (x : Int) (hj : j < l.length) (hx : l.getD j 0 = x) :
    seenUpTo d u (l.take (j + 1)) = seenUpTo d u (l.take j) ++ (if d || decide (u ≤ x) then [(u, x, 0)] else []) := by
  have e : l[j] = x := by simpa [List.getD, hj] using hx
  unfold seenUpTo
  rw [List.take_succ_eq_append_getElem hj, List.filter_append, List.map_append, e]
  have hf : ∀ p : Int → Bool, [x].filter p = if p x = true then [x] else [] := fun p => by cases h : p x <;> simp [h]
  rw [hf]
  by_cases h : (d || decide (u ≤ x)) = true
  · rw [if_pos h, if_pos h]; rfl
  · rw [if_neg h, if_neg h]; rfl
theorem seenE_succ (d : Bool) (adj : Int → List Int) (l : List Int) (k : Nat) (u : Int) (hk : k < l.length) (hu : l.getD k 0 = u) :
    seenE d adj (l.take (k + 1)) = seenE d adj (l.take k) ++ seenUpTo d u (sortI (adj u)) := by
  have e : l[k] = u := by simpa [List.getD, hk] using hu
  unfold seenE
  rw [List.take_succ_eq_append_getElem hk, List.flatMap_append, e]
  simp [seenAt, seenUpTo]

def SeenPost (d : Bool) (ids : List Int) (adj : Int → List Int) (w : World) (e : Ending) (w' : World) : Prop :=
  ∃ v1 v2 : Value, e = .returned (.agg #[.bool d, v1, v2]) ∧ w'.ownsRow w.heap.size 3 1 v1 ids.length ((sortI ids).map (Value.int .i64)) ∧
    w'.ownsRow w.heap.size 82 3 v2 (seenE d adj (sortI ids)).length (flatE (seenE d adj (sortI ids))) ∧ (∀ g, v1.ownBlock = some g → v2.ownBlock ≠ some g) ∧ Below w.heap.size w w'

set_option maxHeartbeats 4000000 in
set_option maxRecDepth 100000 in
theorem seen0_calls {t : TypeId} {recv : Value} {fNs fFr : FuncId} {G : World → Prop} {ids : List Int} {adj : Int → List Int} (hG : GraphV t recv fNs fFr G ids adj) (d : Bool) (w : World) (hw : G w) (hn : ids.length ≤ 1000000) (ha : ∀ x ∈ ids, (adj x).length ≤ 1000000) :
    Calls Tryz.prog 49 #[.iface t recv, .bool d, .nilFunc] w (SeenPost d ids adj w) := by
  have HG := Lib.hid hG; have HW := Lib.hid hw; have HAD := Lib.hid ha
  have m1 := hG.mNodes; have m2 := hG.aNodes; have m3 := hG.eNodes; have m4 := hG.mFrom; have m5 := hG.aFrom; have m6 := hG.eFrom
  have m7 := neq_nilFunc
  clear hG hw ha
  go_enter Tryz.func49, Tryz.ntmps49
  go_wp2_with fail
  obtain ⟨w1, hw1⟩ : ∃ w1, w1 = w.alloc (.cells #[.bool false, .slice none 0 0, .slice none 0 0] 25) := ⟨_, rfl⟩
  have HB1 : Hid (Below w.heap.size w w1) := by rw [hw1]; exact (Below.refl _ _).alloc (Nat.le_refl _) _
  have hs1 : w1.heap.size = w.heap.size + 1 := by rw [hw1]; simp
  have z1 : Hid (w1.heap[w.heap.size]? = some (.cells #[.bool false, .slice none 0 0, .slice none 0 0] 25 (0, 0))) := by rw [hw1]; exact heap_alloc_new w _
  rw [← hw1]
  clear hw1
  refine (HG.out.nodes w1 (HG.out.keeps w w1 HW.out HB1.out)).mono ?_
  rintro e w2 ⟨t2, r2, fN, fV, P, rfl, hI, hP, hb2⟩
  have HI2 := Lib.hid hI; have HP2 := Lib.hid hP; have HB2 := Lib.hid hb2
  clear hI hP hb2
  go_wp2_with fail
  refine (iterated_calls w1.heap.size w2.heap.size t2 r2 fN fV P HI2.out none ids w2 HP2.out rfl HB2.out.size hn).mono ?_
  rintro e w3 ⟨v1, rfl, ho1, hb3⟩
  obtain ⟨a1, c1, rfl⟩ := own_shape' ho1
  have HO1 := Lib.hid ho1
  have HB3 : Hid (Below w1.heap.size w1 w3) := HB2.out.trans hb3
  clear ho1 hb3 HI2 HP2
  obtain ⟨i0, hi0, hz0, hz1, hz2⟩ := info_parts edge_info
  have HF := Lib.hid (And.intro hi0 (And.intro hz0 (And.intro hz1 hz2)))
  clear hi0 hz0 hz1 hz2
  go_wp2_with fail
  obtain ⟨w4, hw4⟩ : ∃ w4, w4 = w3.alloc (.cells #[.bool d, .slice a1 ids.length c1, .slice none 0 0] 25) := ⟨_, rfl⟩
  have hs3 : w1.heap.size ≤ w3.heap.size := HB3.out.size
  have hs2 : w1.heap.size ≤ w2.heap.size := HB2.out.size
  have HS4 : Hid (SeenSt w w3.heap.size d (.slice a1 ids.length c1) (.slice none 0 0) ids.length 0 (sortI ids) [] w4) := by
    have hb4 : Below w3.heap.size w3 w4 := by rw [hw4]; exact (Below.refl _ _).alloc (Nat.le_refl _) _
    refine ⟨(hb4.block _ (by omega)).trans ((HB3.out.block _ (by omega)).trans z1.out), by rw [hw4]; exact heap_alloc_new w3 _, ?_, World.ownsRow_nil _ _ _ _, fun g hg => (HO1.out.lt g hg).2, by omega, (HB1.out.trans (HB3.out.mono (by omega))).trans (hb4.mono (by omega))⟩
    have := ownsRow_of_heap (w' := w4) HO1.out (fun g hg => hb4.block g (HO1.out.lt g hg).2)
    exact own_lower this (by omega)
  obtain ⟨p0, p1, p2, p3⟩ := HS4.out.cells
  rw [← hw4]
  clear hw4
  go_wp2_with fail
  go_loopw [23] (fun i wr => ∃ (k m : Nat) (v : Value), i = .int .i64 k ∧ k ≤ ids.length ∧ m ≤ k * 1000000 ∧ SeenSt w w3.heap.size d (.slice a1 ids.length c1) v ids.length m (sortI ids) (seenE d adj ((sortI ids).take k)) wr) (fun i _ => ids.length - (intOf i).toNat)
  case atStart => exact ⟨0, 0, _, rfl, by omega, by omega, HS4.out⟩
  case round =>
    obtain ⟨k, m, v, rfl, hk, hm, hst⟩ := hrel
    have HS := Lib.hid hst
    clear hst p0 p1 p2 p3 HS4
    by_cases hlt : k < ids.length
    · obtain ⟨b, off, rfl, hbb, hc⟩ := (rd_of_own HS.out.nodes).at_ (by omega)
      obtain ⟨u, HU, hcu⟩ := hc k hlt
      have hu : u ∈ ids := by
        rw [← mem_sortI, ← HU.out]
        simp [List.getD, sortI_len, hlt]
      have HUI := Lib.hid hu
      have HGR : Hid (G wr) := HG.out.keeps w wr HW.out HS.out.below
      clear hc hu
      go_wp2_with fail
      refine (HG.out.frm wr u HUI.out HGR.out).mono ?_
      rintro e w5 ⟨t5, r5, fN5, fV5, P5, rfl, hI, hP, hb5⟩
      have HI5 := Lib.hid hI; have HP5 := Lib.hid hP; have HB5 := Lib.hid hb5
      clear hI hP hb5
      go_wp2_with fail
      refine (iterated_calls wr.heap.size w5.heap.size t5 r5 fN5 fV5 P5 HI5.out none (adj u) w5 HP5.out rfl HB5.out.size (HAD.out u HUI.out)).mono ?_
      rintro e w6 ⟨vV, rfl, ho6, hb6⟩
      obtain ⟨a6, c6, rfl⟩ := own_shape' ho6
      have HO6 := Lib.hid (own_lower ho6 HB5.out.size)
      have HB6 : Hid (Below wr.heap.size wr w6) := HB5.out.trans hb6
      have HS6 := Lib.hid (HS.out.later HB6.out)
      have hbo := HS.out.lt
      have had := HAD.out u HUI.out
      clear ho6 hb6 HI5 HP5 hcu
      obtain ⟨wo, rfl⟩ : ∃ wo : World, wo = wr := ⟨_, rfl⟩
      go_wp2_with fail
      go_loopw [32] (fun i wx => ∃ (j m' : Nat) (v' : Value), i = .int .i64 j ∧ j ≤ (adj u).length ∧ m' ≤ k * 1000000 + j ∧ SeenSt w w3.heap.size d (.slice (some ⟨b, off, none⟩) ids.length c1) v' ids.length m' (sortI ids) (seenE d adj ((sortI ids).take k) ++ seenUpTo d u ((sortI (adj u)).take j)) wx ∧
        wx.ownsRow wo.heap.size 3 1 (.slice a6 (adj u).length c6) (adj u).length ((sortI (adj u)).map (Value.int .i64)) ∧ (∀ g, (Value.slice a6 (adj u).length c6).ownBlock = some g → v'.ownBlock ≠ some g)) (fun i _ => (adj u).length - (intOf i).toNat)
      case atStart => exact ⟨0, m, v, rfl, by omega, by rw [Nat.add_zero]; exact hm, by rw [show (sortI (adj u)).take 0 = [] from rfl, show seenUpTo d u [] = [] from rfl, List.append_nil]; exact HS6.out, HO6.out, fun g hg e => by have := (HO6.out.lt g hg).1; have := (HS.out.edges.lt g e).2; omega⟩
      case round =>
        obtain ⟨j, m', v', rfl, hj, hm', hst, ho, hap⟩ := hrel
        have HS := Lib.hid hst; have HO := Lib.hid ho; have HAP := Lib.hid hap
        clear hst ho hap HS6 HO6 HB6
        by_cases hlj : j < (adj u).length
        · obtain ⟨b6, off6, rfl, hbb6, hc6⟩ := (rd_of_own HO.out).at_ (by omega)
          obtain ⟨x, HXV, hcx⟩ := hc6 j hlj
          obtain ⟨p0, p1, p2, p3⟩ := HS.out.cells
          have HSU := Lib.hid (seenUpTo_succ d u (sortI (adj u)) j x (by rw [sortI_len]; exact hlj) HXV.out)
          clear hc6
          by_cases hsk : (d || decide (u ≤ x)) = true
          · have HES : Hid (seenE d adj ((sortI ids).take k) ++ seenUpTo d u ((sortI (adj u)).take (j + 1)) = (seenE d adj ((sortI ids).take k) ++ seenUpTo d u ((sortI (adj u)).take j)) ++ [(u, x, 0)]) := by
              rw [HSU.out, if_pos hsk, List.append_assoc]; exact Lib.hid rfl |>.out
            have hcase : d = true ∨ (d = false ∧ decide (x < u) = false) := by
              cases d
              · exact .inr ⟨rfl, by simpa using hsk⟩
              · exact .inl rfl
            clear hsk HSU
            obtain ⟨hi0, hz0, hz1, hz2⟩ := HF.out
            have hsm : (m' + 1) * 24 ≤ 140737488355328 := by
              have : k * 1000000 ≤ 1000000 * 1000000 := Nat.mul_le_mul_right _ (by omega)
              omega
            have hmx : m' + 1 ≤ maxLen := by unfold maxLen; omega
            have hlo := HS.out.lt
            rcases hcase with rfl | ⟨rfl, hd⟩
            all_goals
              go_wp2_with (at_builtin; refine wpList_append_own_at _ rfl _ _ 23 rfl (w3.heap.size + 1) 82 i0 (.agg #[.int .i64 0, .int .i64 0, .int .i64 0]) 3 24 Tryz.underlying23 hi0 hz0 hz1 hz2 rfl (by decide) _ _ _ rfl ((HS.out.edges.alloc _).alloc _) ⟨wr.heap.size + 1, 0, none⟩ 1 1 [.int .i64 u, .int .i64 x, .int .i64 0] rfl rfl ?c1 ?c2 hmx hsm ?c5 ?_)
              case c1 => exact World.news_of_block (cs := #[.int .i64 u, .int .i64 x, .int .i64 0]) (t := 82) (fr := (0, 0)) (by have h := heap_alloc_new (wr.alloc (.cells #[.int .i64 u, .int .i64 x, .int .i64 0] 82)) (.cells #[.int .i64 u, .int .i64 x, .int .i64 0] 82); simpa using h)
              case c2 => intro y hy; simp at hy; rcases hy with rfl | rfl | rfl <;> rfl
              case c5 => simp; omega
              intro v2 w7 hown7 hgrow7 _ hloc7
              obtain ⟨a2, c2, rfl⟩ := own_shape' hown7
              have HWA : Hid (Below wr.heap.size wr ((wr.alloc (.cells #[.int .i64 u, .int .i64 x, .int .i64 0] 82)).alloc (.cells #[.int .i64 u, .int .i64 x, .int .i64 0] 82))) := ((Below.refl _ _).alloc (Nat.le_refl _) _).alloc (by simp) _
              have hvb : ∀ j, j ≤ w3.heap.size → some j ≠ v'.ownBlock := fun j hj e => by have := (HS.out.edges.lt j e.symm).1; omega
              have k2 : w7.cell? ⟨w3.heap.size, 2, none⟩ = some v' := by
                rw [hgrow7.cell_far _ (by simp; omega) (hvb _ (Nat.le_refl _)), HWA.out.cell (p := ⟨w3.heap.size, 2, none⟩) hlo]; exact p2
              have f2 : w7.frozen? ⟨w3.heap.size, 2, none⟩ = false := by
                rw [hgrow7.frozen_far _ (by simp; omega) (hvb _ (Nat.le_refl _)), HWA.out.frozen (p := ⟨w3.heap.size, 2, none⟩) hlo]; exact p3
              have HS7 := Lib.hid (HS.out.more (e := (u, x, 0)) HWA.out hown7 hgrow7)
              have HO7 : Hid ((w7.setCell ⟨w3.heap.size, 2, none⟩ (.slice a2 (m' + 1) c2)).ownsRow wo.heap.size 3 1 (.slice (some ⟨b6, off6, none⟩) (adj u).length c6) (adj u).length ((sortI (adj u)).map (Value.int .i64))) := by
                refine ownsRow_of_heap HO.out (fun g hg => ?_)
                have h1 := HO.out.lt g hg
                have h2 : some g ≠ v'.ownBlock := fun e => HAP.out g hg e.symm
                rw [Below.heap_setCell _ _ _ _ (fun e => by have e' : g = w3.heap.size := e; omega), hgrow7.block g (by simp; omega) h2, HWA.out.block g h1.2]
              have HAP7 : Hid (∀ g, (Value.slice (some ⟨b6, off6, none⟩) (adj u).length c6).ownBlock = some g → (Value.slice a2 (m' + 1) c2).ownBlock ≠ some g) := fun g hg e => by
                rcases hloc7 with h | h
                · exact HAP.out g hg (h.symm.trans e)
                · have h1 := HO.out.lt g hg
                  rw [h] at e
                  simp at e
                  omega
              clear hown7 hgrow7 hloc7 p0 p1 p2 p3
              go_wp2
              go_roundw
              case rel => exact ⟨j + 1, m' + 1, _, by go_num, by omega, by omega, by rw [HES.out]; exact HS7.out, HO7.out, HAP7.out⟩
              case measure => simp [intOf]; omega
          · have HES : Hid (seenUpTo d u ((sortI (adj u)).take (j + 1)) = seenUpTo d u ((sortI (adj u)).take j)) := by
              rw [HSU.out, if_neg hsk, List.append_nil]; exact Lib.hid rfl |>.out
            obtain ⟨rfl, hux⟩ : d = false ∧ x < u := by
              cases d
              · exact ⟨rfl, by simpa using hsk⟩
              · simp at hsk
            have hd : decide (x < u) = true := by simpa using hux
            clear hsk
            go_wp2_with fail
            go_roundw
            case rel => exact ⟨j + 1, m', v', by go_num, by omega, by omega, by rw [HES.out]; exact HS.out, HO.out, HAP.out⟩
            case measure => simp [intOf]; omega
        · obtain rfl : j = (adj u).length := by omega
          have HSE : Hid (SeenSt w w3.heap.size d (.slice (some ⟨b, off, none⟩) ids.length c1) v' ids.length m' (sortI ids) (seenE d adj ((sortI ids).take (k + 1))) wr) := by
            have := HS.out
            rw [show (sortI (adj u)).take (adj u).length = sortI (adj u) from List.take_of_length_le (by rw [sortI_len]; exact Nat.le_refl _), ← seenE_succ d adj (sortI ids) k u (by rw [sortI_len]; exact hlt) HU.out] at this
            exact Lib.hid this
          go_wp2_with fail
          go_roundw
          case rel => exact ⟨k + 1, m', v', by go_num, by omega, by omega, HSE.out⟩
          case measure => simp [intOf]; omega
    · obtain rfl : k = ids.length := by omega
      obtain ⟨p0, p1, p2, p3⟩ := HS.out.cells
      have hr0 : wr.cell? ⟨w.heap.size, 0, none⟩ = some (.bool false) := by rw [cell_of_row wr _ _ _ _ (0, 0) HS.out.res]; rfl
      have hr1 : wr.cell? ⟨w.heap.size, 1, none⟩ = some (.slice none 0 0) := by rw [cell_of_row wr _ _ _ _ (0, 0) HS.out.res]; rfl
      have hr2 : wr.cell? ⟨w.heap.size, 2, none⟩ = some (.slice none 0 0) := by rw [cell_of_row wr _ _ _ _ (0, 0) HS.out.res]; rfl
      have hf : ∀ j, wr.frozen? ⟨w.heap.size, j, none⟩ = false := fun j => by simp [World.frozen?, HS.out.res]
      have hf0 := hf 0; have hf1 := hf 1; have hf2 := hf 2
      obtain ⟨a2, c2, rfl⟩ := own_shape' HS.out.edges
      have hord := HS.out.ord
      clear hf
      go_wp2_with fail
      have HSE := HS.out
      rw [show (sortI ids).take ids.length = sortI ids from List.take_of_length_le (by rw [sortI_len]; exact Nat.le_refl _)] at HSE
      refine bodyPost_ret (v := .agg #[.bool d, .slice a1 ids.length c1, .slice a2 m c2]) ?_ rfl ?_
      · simp [results, Tryz.results49, go_sem, hr0, hr1, hr2]
      · have keep : ∀ g, g ≠ w.heap.size → (((wr.setCell ⟨w.heap.size, 0, none⟩ (.bool d)).setCell ⟨w.heap.size, 1, none⟩ (.slice a1 ids.length c1)).setCell ⟨w.heap.size, 2, none⟩ (.slice a2 m c2)).heap[g]? = wr.heap[g]? := fun g hg => by
          rw [Below.heap_setCell _ _ _ _ (fun e => hg e), Below.heap_setCell _ _ _ _ (fun e => hg e), Below.heap_setCell _ _ _ _ (fun e => hg e)]
        have hml : m = (seenE d adj (sortI ids)).length := by
          have := HSE.edges.1
          have h2 : (flatE (seenE d adj (sortI ids))).length = (seenE d adj (sortI ids)).length * 3 := flatE_len _
          omega
        refine ⟨_, _, rfl, own_lower (ownsRow_of_heap HSE.nodes (fun g hg => keep g (by have := (HSE.nodes.lt g hg).1; omega))) (by omega), ?_, fun g hg e => ?_, ((HSE.below.setCell (Nat.le_refl _) _).setCell (Nat.le_refl _) _).setCell (Nat.le_refl _) _⟩
        · rw [← hml]
          exact own_lower (ownsRow_of_heap HSE.edges (fun g hg => keep g (by have := (HSE.edges.lt g hg).1; omega))) (by omega)
        · have h1 := HSE.ordN g hg
          have h2 := (HSE.edges.lt g e).1
          omega

end Go.Proofs.YtbkoifdnlaihfaaGreat
