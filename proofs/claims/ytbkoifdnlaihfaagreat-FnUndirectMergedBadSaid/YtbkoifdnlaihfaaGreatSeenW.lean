/- The walk of seen, where a weight is asked. -/
import Derived.Test.YtbkoifdnlaihfaaGreatSeen
import Derived.Test.YtbkoifdnlaihfaaGreatFloat
namespace Go.Proofs.YtbkoifdnlaihfaaGreat
open Go.RowKit

/-- Edges without weights. -/
def noW (es : List (Int × Int × Int)) : List (Int × Int × Int) := es.map fun e => (e.1, e.2.1, (0 : Int))
theorem noW_snoc (es : List (Int × Int × Int)) (u v z : Int) : noW (es ++ [(u, v, z)]) = noW es ++ [(u, v, 0)] := by simp [noW]
theorem noW_len (es : List (Int × Int × Int)) : (noW es).length = es.length := by simp [noW]

/-- The weight z of an edge is what the float f cuts to, wherever that is fixed. -/
def CutOf (R : Int → Int → Nat → Prop) (u v z : Int) : Prop := ∃ f, R u v f ∧ ∀ m, floatToIntVal .f64 f .i64 = some m → z = m
def AllCut (R : Int → Int → Nat → Prop) (es : List (Int × Int × Int)) : Prop := ∀ e ∈ es, CutOf R e.1 e.2.1 e.2.2
theorem AllCut.snoc {R : Int → Int → Nat → Prop} {es : List (Int × Int × Int)} {u v z : Int} (h : AllCut R es) (hz : CutOf R u v z) : AllCut R (es ++ [(u, v, z)]) := fun e he => by
  rcases List.mem_append.1 he with he | he
  · exact h e he
  · obtain rfl := List.mem_singleton.1 he; exact hz

/-- What a weight's function says. -/
def WtPost (R : Int → Int → Nat → Prop) (u v : Int) (w : World) (e : Ending) (w' : World) : Prop :=
  ∃ (f : Nat) (b : Bool), e = .returned (.tuple #[.float .f64 f, .bool b]) ∧ R u v f ∧ Below w.heap.size w w'

theorem GraphV.and {t : TypeId} {recv : Value} {fNs fFr : FuncId} {G : World → Prop} {ids : List Int} {adj : Int → List Int} (h : GraphV t recv fNs fFr G ids adj) (K : World → Prop) (hK : ∀ w w', K w → Below w.heap.size w w' → K w') :
    GraphV t recv fNs fFr (fun w => G w ∧ K w) ids adj where
  mNodes := h.mNodes
  aNodes := h.aNodes
  mFrom := h.mFrom
  aFrom := h.aFrom
  eNodes := h.eNodes
  eFrom := h.eFrom
  nodes := fun w hw => h.nodes w hw.1
  frm := fun w x hx hw => h.frm w x hx hw.1
  keeps := fun w w' hw hb => ⟨h.keeps w w' hw.1 hb, hK w w' hw.2 hb⟩

def SeenPostW (d : Bool) (ids : List Int) (adj : Int → List Int) (R : Int → Int → Nat → Prop) (w : World) (e : Ending) (w' : World) : Prop :=
  ∃ (v1 v2 : Value) (es : List (Int × Int × Int)), e = .returned (.agg #[.bool d, v1, v2]) ∧ w'.ownsRow w.heap.size 3 1 v1 ids.length ((sortI ids).map (Value.int .i64)) ∧
    w'.ownsRow w.heap.size 82 3 v2 es.length (flatE es) ∧ noW es = seenE d adj (sortI ids) ∧ AllCut R es ∧ (∀ g, v1.ownBlock = some g → v2.ownBlock ≠ some g) ∧ Below w.heap.size w w'

set_option maxHeartbeats 4000000 in
set_option maxRecDepth 100000 in
theorem seenW_calls {t : TypeId} {recv : Value} {fNs fFr : FuncId} {G : World → Prop} {ids : List Int} {adj : Int → List Int} (hG : GraphV t recv fNs fFr G ids adj) (d : Bool) (w : World) (hw : G w) (hn : ids.length ≤ 1000000) (ha : ∀ x ∈ ids, (adj x).length ≤ 1000000)
    (fW : FuncId) (rW : Value) (R : Int → Int → Nat → Prop) (eW : ∀ args w, (callFunc fW args).run Tryz.prog w = .ok (.enter fW args) w) (mqW : ∀ w, (binOp .neq 94 (.func (.func fW) #[rW] #[]) .nilFunc).run Tryz.prog w = .ok (.bool true) w)
    (hWt : ∀ w u v, u ∈ ids → v ∈ adj u → G w → Calls Tryz.prog fW #[rW, .int .i64 u, .int .i64 v] w (WtPost R u v w)) :
    Calls Tryz.prog 49 #[.iface t recv, .bool d, .func (.func fW) #[rW] #[]] w (SeenPostW d ids adj R w) := by
  have HG := Lib.hid hG; have HW := Lib.hid hw; have HAD := Lib.hid ha
  have m1 := hG.mNodes; have m2 := hG.aNodes; have m3 := hG.eNodes; have m4 := hG.mFrom; have m5 := hG.aFrom; have m6 := hG.eFrom
  have HWT := Lib.hid hWt
  clear hG hw ha hWt
  go_enter Tryz.func49, Tryz.ntmps49
  go_wp2_with fail
  obtain ⟨w1, hw1⟩ : ∃ w1, w1 = w.alloc (.cells #[.bool false, .slice none 0 0, .slice none 0 0] 25) := ⟨_, rfl⟩
  have HB1 : Hid (Below w.heap.size w w1) := by rw [hw1]; exact (Below.refl _ _).alloc (Nat.le_refl _) _
  have hs1 : w1.heap.size = w.heap.size + 1 := by rw [hw1]; simp
  have z1 : Hid (w1.heap[w.heap.size]? = some (.cells #[.bool false, .slice none 0 0, .slice none 0 0] 25 (0, 0))) := by rw [hw1]; exact heap_alloc_new w _
  rw [← hw1]
  clear hw1
  refine (HG.out.nodes w1 (HG.out.keeps w w1 HW.out HB1.out)).mono ?_
  rintro e w2 ⟨t2, r2, fN, fV, P, rfl, hI, hP, hb2⟩
  have HI2 := Lib.hid hI; have HP2 := Lib.hid hP; have HB2 := Lib.hid hb2
  clear hI hP hb2
  go_wp2_with fail
  refine (iterated_calls w1.heap.size w2.heap.size t2 r2 fN fV P HI2.out none ids w2 HP2.out rfl HB2.out.size hn).mono ?_
  rintro e w3 ⟨v1, rfl, ho1, hb3⟩
  obtain ⟨a1, c1, rfl⟩ := own_shape' ho1
  have HO1 := Lib.hid ho1
  have HB3 : Hid (Below w1.heap.size w1 w3) := HB2.out.trans hb3
  clear ho1 hb3 HI2 HP2
  obtain ⟨i0, hi0, hz0, hz1, hz2⟩ := info_parts edge_info
  have HF := Lib.hid (And.intro hi0 (And.intro hz0 (And.intro hz1 hz2)))
  clear hi0 hz0 hz1 hz2
  go_wp2_with fail
  obtain ⟨w4, hw4⟩ : ∃ w4, w4 = w3.alloc (.cells #[.bool d, .slice a1 ids.length c1, .slice none 0 0] 25) := ⟨_, rfl⟩
  have hs3 : w1.heap.size ≤ w3.heap.size := HB3.out.size
  have hs2 : w1.heap.size ≤ w2.heap.size := HB2.out.size
  have HS4 : Hid (SeenSt w w3.heap.size d (.slice a1 ids.length c1) (.slice none 0 0) ids.length 0 (sortI ids) [] w4) := by
    have hb4 : Below w3.heap.size w3 w4 := by rw [hw4]; exact (Below.refl _ _).alloc (Nat.le_refl _) _
    refine ⟨(hb4.block _ (by omega)).trans ((HB3.out.block _ (by omega)).trans z1.out), by rw [hw4]; exact heap_alloc_new w3 _, ?_, World.ownsRow_nil _ _ _ _, fun g hg => (HO1.out.lt g hg).2, by omega, (HB1.out.trans (HB3.out.mono (by omega))).trans (hb4.mono (by omega))⟩
    have := ownsRow_of_heap (w' := w4) HO1.out (fun g hg => hb4.block g (HO1.out.lt g hg).2)
    exact own_lower this (by omega)
  obtain ⟨p0, p1, p2, p3⟩ := HS4.out.cells
  rw [← hw4]
  clear hw4
  go_wp2_with fail
  go_loopw [23] (fun i wr => ∃ (k m : Nat) (v : Value), i = .int .i64 k ∧ k ≤ ids.length ∧ m ≤ k * 1000000 ∧ ∃ es, SeenSt w w3.heap.size d (.slice a1 ids.length c1) v ids.length m (sortI ids) es wr ∧ Hid (noW es = seenE d adj ((sortI ids).take k)) ∧ AllCut R es) (fun i _ => ids.length - (intOf i).toNat)
  case atStart => exact ⟨0, 0, _, rfl, by omega, by omega, [], HS4.out, rfl, fun e he => by cases he⟩
  case round =>
    obtain ⟨k, m, v, rfl, hk, hm, es, hst, HES, hcut⟩ := hrel
    have HS := Lib.hid hst
    have HC := Lib.hid hcut
    clear hst hcut p0 p1 p2 p3 HS4
    by_cases hlt : k < ids.length
    · obtain ⟨b, off, rfl, hbb, hc⟩ := (rd_of_own HS.out.nodes).at_ (by omega)
      obtain ⟨u, HU, hcu⟩ := hc k hlt
      have hu : u ∈ ids := by
        rw [← mem_sortI, ← HU.out]
        simp [List.getD, sortI_len, hlt]
      have HUI := Lib.hid hu
      have HGR : Hid (G wr) := HG.out.keeps w wr HW.out HS.out.below
      clear hc hu
      go_wp2_with fail
      refine (HG.out.frm wr u HUI.out HGR.out).mono ?_
      rintro e w5 ⟨t5, r5, fN5, fV5, P5, rfl, hI, hP, hb5⟩
      have HI5 := Lib.hid hI; have HP5 := Lib.hid hP; have HB5 := Lib.hid hb5
      clear hI hP hb5
      go_wp2_with fail
      refine (iterated_calls wr.heap.size w5.heap.size t5 r5 fN5 fV5 P5 HI5.out none (adj u) w5 HP5.out rfl HB5.out.size (HAD.out u HUI.out)).mono ?_
      rintro e w6 ⟨vV, rfl, ho6, hb6⟩
      obtain ⟨a6, c6, rfl⟩ := own_shape' ho6
      have HO6 := Lib.hid (own_lower ho6 HB5.out.size)
      have HB6 : Hid (Below wr.heap.size wr w6) := HB5.out.trans hb6
      have HS6 := Lib.hid (HS.out.later HB6.out)
      have hbo := HS.out.lt
      have had := HAD.out u HUI.out
      clear ho6 hb6 HI5 HP5 hcu
      obtain ⟨wo, rfl⟩ : ∃ wo : World, wo = wr := ⟨_, rfl⟩
      go_wp2_with fail
      go_loopw [32] (fun i wx => ∃ (j m' : Nat) (v' : Value), i = .int .i64 j ∧ j ≤ (adj u).length ∧ m' ≤ k * 1000000 + j ∧ (∃ es', SeenSt w w3.heap.size d (.slice (some ⟨b, off, none⟩) ids.length c1) v' ids.length m' (sortI ids) es' wx ∧ Hid (noW es' = seenE d adj ((sortI ids).take k) ++ seenUpTo d u ((sortI (adj u)).take j)) ∧ AllCut R es') ∧
        wx.ownsRow wo.heap.size 3 1 (.slice a6 (adj u).length c6) (adj u).length ((sortI (adj u)).map (Value.int .i64)) ∧ (∀ g, (Value.slice a6 (adj u).length c6).ownBlock = some g → v'.ownBlock ≠ some g)) (fun i _ => (adj u).length - (intOf i).toNat)
      case atStart => exact ⟨0, m, v, rfl, by omega, by rw [Nat.add_zero]; exact hm, ⟨es, HS6.out, by rw [HES.out, show (sortI (adj u)).take 0 = [] from rfl, show seenUpTo d u [] = [] from rfl, List.append_nil]; exact rfl, HC.out⟩, HO6.out, fun g hg e => by have := (HO6.out.lt g hg).1; have := (HS.out.edges.lt g e).2; omega⟩
      case round =>
        obtain ⟨j, m', v', rfl, hj, hm', ⟨es', hst, HES', hcut'⟩, ho, hap⟩ := hrel
        have HC' := Lib.hid hcut'; clear hcut'
        have HS := Lib.hid hst; have HO := Lib.hid ho; have HAP := Lib.hid hap
        clear hst ho hap HS6 HO6 HB6
        by_cases hlj : j < (adj u).length
        · obtain ⟨b6, off6, rfl, hbb6, hc6⟩ := (rd_of_own HO.out).at_ (by omega)
          obtain ⟨x, HXV, hcx⟩ := hc6 j hlj
          obtain ⟨p0, p1, p2, p3⟩ := HS.out.cells
          have HSU := Lib.hid (seenUpTo_succ d u (sortI (adj u)) j x (by rw [sortI_len]; exact hlj) HXV.out)
          clear hc6
          by_cases hsk : (d || decide (u ≤ x)) = true
          · have hcase : d = true ∨ (d = false ∧ decide (x < u) = false) := by
              cases d
              · exact .inr ⟨rfl, by simpa using hsk⟩
              · exact .inl rfl
            have HSK := Lib.hid hsk
            have HXI : Hid (x ∈ adj u) := by
              show x ∈ adj u
              rw [← mem_sortI, ← HXV.out]
              simp [List.getD, sortI_len, hlj]
            clear hsk
            obtain ⟨hi0, hz0, hz1, hz2⟩ := HF.out
            have hsm : (m' + 1) * 24 ≤ 140737488355328 := by
              have : k * 1000000 ≤ 1000000 * 1000000 := Nat.mul_le_mul_right _ (by omega)
              omega
            have hmx : m' + 1 ≤ maxLen := by unfold maxLen; omega
            have hlo := HS.out.lt
            rcases hcase with rfl | ⟨rfl, hd⟩
            all_goals
              go_wp2_with fail
              obtain ⟨wb, hwb⟩ : ∃ wb, wb = wr.alloc (.cells #[.int .i64 u, .int .i64 x, .int .i64 0] 82) := ⟨_, rfl⟩
              have Z : Hid (wb.heap[wr.heap.size]? = some (.cells #[.int .i64 u, .int .i64 x, .int .i64 0] 82 (0, 0))) := by rw [hwb]; exact heap_alloc_new wr _
              have HBW : Hid (Below wr.heap.size wr wb) := by rw [hwb]; exact (Below.refl _ _).alloc (Nat.le_refl _) _
              have hlb : wr.heap.size < wb.heap.size := by rw [hwb]; simp
              rw [← hwb]
              clear hwb
              refine (HWT.out wb u x HUI.out HXI.out (HG.out.keeps w wb HW.out (HS.out.below.trans (HBW.out.mono (by have := HS.out.ord; omega))))).mono ?_
              rintro e w7 ⟨f, bb, rfl, hR, hb7⟩
              have HR7 := Lib.hid hR
              have z7 := (hb7.block _ hlb).trans Z.out
              have y0 : w7.cell? ⟨wr.heap.size, 0, none⟩ = some (.int .i64 u) := by rw [cell_of_row w7 _ _ _ _ (0, 0) z7]; rfl
              have y1 : w7.cell? ⟨wr.heap.size, 1, none⟩ = some (.int .i64 x) := by rw [cell_of_row w7 _ _ _ _ (0, 0) z7]; rfl
              have y2 : w7.cell? ⟨wr.heap.size, 2, none⟩ = some (.int .i64 0) := by rw [cell_of_row w7 _ _ _ _ (0, 0) z7]; rfl
              have yf : w7.frozen? ⟨wr.heap.size, 2, none⟩ = false := by simp [World.frozen?, z7]
              have HB7 := Lib.hid (HBW.out.trans (hb7.mono (Nat.le_of_lt hlb)))
              have HS7 := Lib.hid (HS.out.later HB7.out)
              have hl7 : wr.heap.size < w7.heap.size := Nat.lt_of_lt_of_le hlb hb7.size
              have hne : w3.heap.size ≠ wr.heap.size := Nat.ne_of_lt hlo
              obtain ⟨nW, qW, hrun, hn⟩ := run_ftoi_any Tryz.prog 86 3 f w7 (by rw [Tryz.underlying86]; rfl) Tryz.underlying3
              have HCU : Hid (CutOf R u x nW) := ⟨f, hR, hn⟩
              have HWA : Hid (Below wr.heap.size wr (((w7.drewN qW).setCell ⟨wr.heap.size, 2, none⟩ (.int .i64 nW)).alloc (.cells #[.int .i64 u, .int .i64 x, .int .i64 nW] 82))) := ((below_drewN HB7.out qW).setCell (Nat.le_refl _) _).alloc (Nat.le_of_lt (by simp [World.setCell]; exact hl7)) _
              clear p0 p1 p2 p3 hR hn hb7 z7 Z
              obtain ⟨p0, p1, p2, p3⟩ := HS7.out.cells
              go_wp2_with (at_builtin; refine wpList_append_own_at _ rfl _ _ 23 rfl (w3.heap.size + 1) 82 i0 (.agg #[.int .i64 0, .int .i64 0, .int .i64 0]) 3 24 Tryz.underlying23 hi0 hz0 hz1 hz2 rfl (by decide) v' m' (flatE es') rfl ?hown ⟨w7.heap.size, 0, none⟩ 1 1 [.int .i64 u, .int .i64 x, .int .i64 nW] rfl rfl ?c1 ?c2 hmx hsm ?c5 ?_)
              case hown => exact (HS.out.later HWA.out).edges
              case c1 => exact World.news_of_block (cs := #[.int .i64 u, .int .i64 x, .int .i64 nW]) (t := 82) (fr := (0, 0)) (by have h := heap_alloc_new ((w7.drewN qW).setCell ⟨wr.heap.size, 2, none⟩ (.int .i64 nW)) (.cells #[.int .i64 u, .int .i64 x, .int .i64 nW] 82); simpa [World.setCell] using h)
              case c2 => intro y hy; simp at hy; rcases hy with rfl | rfl | rfl <;> rfl
              case c5 => have := HWA.out.size; omega
              intro v2 w8 hown8 hgrow8 _ hloc8
              obtain ⟨a2, c2, rfl⟩ := own_shape' hown8
              have hvb : ∀ j, j ≤ w3.heap.size → some j ≠ v'.ownBlock := fun j hj e => by have := (HS.out.edges.lt j e.symm).1; omega
              have hla : w3.heap.size < (((w7.drewN qW).setCell ⟨wr.heap.size, 2, none⟩ (.int .i64 nW)).alloc (.cells #[.int .i64 u, .int .i64 x, .int .i64 nW] 82)).heap.size := Nat.lt_of_lt_of_le hlo HWA.out.size
              have k2 : w8.cell? ⟨w3.heap.size, 2, none⟩ = some v' := by
                rw [hgrow8.cell_far _ hla (hvb _ (Nat.le_refl _)), HWA.out.cell (p := ⟨w3.heap.size, 2, none⟩) hlo]; exact HS.out.cells.2.2.1
              have f2 : w8.frozen? ⟨w3.heap.size, 2, none⟩ = false := by
                rw [hgrow8.frozen_far _ hla (hvb _ (Nat.le_refl _)), HWA.out.frozen (p := ⟨w3.heap.size, 2, none⟩) hlo]; exact HS.out.cells.2.2.2
              have HS8 := Lib.hid (HS.out.more (e := (u, x, nW)) HWA.out hown8 hgrow8)
              have HO8 : Hid ((w8.setCell ⟨w3.heap.size, 2, none⟩ (.slice a2 (m' + 1) c2)).ownsRow wo.heap.size 3 1 (.slice (some ⟨b6, off6, none⟩) (adj u).length c6) (adj u).length ((sortI (adj u)).map (Value.int .i64))) := by
                refine ownsRow_of_heap HO.out (fun g hg => ?_)
                have h1 := HO.out.lt g hg
                have h2 : some g ≠ v'.ownBlock := fun e => HAP.out g hg e.symm
                rw [Below.heap_setCell _ _ _ _ (fun e => by have e' : g = w3.heap.size := e; omega), hgrow8.block g (Nat.lt_of_lt_of_le h1.2 HWA.out.size) h2, HWA.out.block g h1.2]
              have HAP8 : Hid (∀ g, (Value.slice (some ⟨b6, off6, none⟩) (adj u).length c6).ownBlock = some g → (Value.slice a2 (m' + 1) c2).ownBlock ≠ some g) := fun g hg e => by
                rcases hloc8 with h | h
                · exact HAP.out g hg (h.symm.trans e)
                · have h1 := HO.out.lt g hg
                  have h3 := HWA.out.size
                  rw [h] at e
                  have e' := Option.some.inj e
                  omega
              clear hown8 hgrow8 hloc8 p0 p1 p2 p3 hvb
              go_wp2
              go_roundw
              case rel => exact ⟨j + 1, m' + 1, _, by go_num, by omega, by omega, ⟨_, HS8.out, by rw [noW_snoc, HES'.out, HSU.out, if_pos HSK.out, List.append_assoc]; exact rfl, HC'.out.snoc HCU.out⟩, HO8.out, HAP8.out⟩
              case measure => simp [intOf]; omega
          · have HSK := Lib.hid hsk
            obtain ⟨rfl, hux⟩ : d = false ∧ x < u := by
              cases d
              · exact ⟨rfl, by simpa using hsk⟩
              · simp at hsk
            have hd : decide (x < u) = true := by simpa using hux
            clear hsk
            go_wp2_with fail
            go_roundw
            case rel => exact ⟨j + 1, m', v', by go_num, by omega, by omega, ⟨es', HS.out, by rw [HES'.out, HSU.out, if_neg HSK.out, List.append_nil]; exact rfl, HC'.out⟩, HO.out, HAP.out⟩
            case measure => simp [intOf]; omega
        · obtain rfl : j = (adj u).length := by omega
          have HSE : Hid (noW es' = seenE d adj ((sortI ids).take (k + 1))) := by
            have := HES'.out
            rw [show (sortI (adj u)).take (adj u).length = sortI (adj u) from List.take_of_length_le (by rw [sortI_len]; exact Nat.le_refl _), ← seenE_succ d adj (sortI ids) k u (by rw [sortI_len]; exact hlt) HU.out] at this
            exact this
          go_wp2_with fail
          go_roundw
          case rel => exact ⟨k + 1, m', v', by go_num, by omega, by omega, es', HS.out, HSE, HC'.out⟩
          case measure => simp [intOf]; omega
    · obtain rfl : k = ids.length := by omega
      obtain ⟨p0, p1, p2, p3⟩ := HS.out.cells
      have hr0 : wr.cell? ⟨w.heap.size, 0, none⟩ = some (.bool false) := by rw [cell_of_row wr _ _ _ _ (0, 0) HS.out.res]; rfl
      have hr1 : wr.cell? ⟨w.heap.size, 1, none⟩ = some (.slice none 0 0) := by rw [cell_of_row wr _ _ _ _ (0, 0) HS.out.res]; rfl
      have hr2 : wr.cell? ⟨w.heap.size, 2, none⟩ = some (.slice none 0 0) := by rw [cell_of_row wr _ _ _ _ (0, 0) HS.out.res]; rfl
      have hf : ∀ j, wr.frozen? ⟨w.heap.size, j, none⟩ = false := fun j => by simp [World.frozen?, HS.out.res]
      have hf0 := hf 0; have hf1 := hf 1; have hf2 := hf 2
      obtain ⟨a2, c2, rfl⟩ := own_shape' HS.out.edges
      have hord := HS.out.ord
      clear hf
      go_wp2_with fail
      have HSE := HS.out
      have HEE := HES.out
      rw [show (sortI ids).take ids.length = sortI ids from List.take_of_length_le (by rw [sortI_len]; exact Nat.le_refl _)] at HEE
      refine bodyPost_ret (v := .agg #[.bool d, .slice a1 ids.length c1, .slice a2 m c2]) ?_ rfl ?_
      · simp [results, Tryz.results49, go_sem, hr0, hr1, hr2]
      · have keep : ∀ g, g ≠ w.heap.size → (((wr.setCell ⟨w.heap.size, 0, none⟩ (.bool d)).setCell ⟨w.heap.size, 1, none⟩ (.slice a1 ids.length c1)).setCell ⟨w.heap.size, 2, none⟩ (.slice a2 m c2)).heap[g]? = wr.heap[g]? := fun g hg => by
          rw [Below.heap_setCell _ _ _ _ (fun e => hg e), Below.heap_setCell _ _ _ _ (fun e => hg e), Below.heap_setCell _ _ _ _ (fun e => hg e)]
        have hml : m = es.length := by
          have := HSE.edges.1
          have h2 : (flatE es).length = es.length * 3 := flatE_len _
          omega
        refine ⟨_, _, es, rfl, own_lower (ownsRow_of_heap HSE.nodes (fun g hg => keep g (by have := (HSE.nodes.lt g hg).1; omega))) (by omega), ?_, HEE, HC.out, fun g hg e => ?_, ((HSE.below.setCell (Nat.le_refl _) _).setCell (Nat.le_refl _) _).setCell (Nat.le_refl _) _⟩
        · rw [← hml]
          exact own_lower (ownsRow_of_heap HSE.edges (fun g hg => keep g (by have := (HSE.edges.lt g hg).1; omega))) (by omega)
        · have h1 := HSE.ordN g hg
          have h2 := (HSE.edges.lt g e).1
          omega

end Go.Proofs.YtbkoifdnlaihfaaGreat
