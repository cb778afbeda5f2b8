/- The walk of topo.degeneracyOrdering. -/
import Derived.Test.YtbkhakjbmdmghaaDegM
import Derived.Test.YtbkhakjbmdmghaaHeldL
import Derived.Deep.LoopGhost
import Derived.Deep.DeepCutAuto
import Derived.Deep.CutBlock
import Derived.Deep.RegionHeld3
namespace Go.Proofs.Ytbkhakjbmdmghaa
open Go.RowKit

def DegPost (ids : List Int) (adj : Int → List Int) (w : World) (e : Ending) (w' : World) : Prop :=
  ∃ (vL vS : Value) (ps : List (Int × Nat)) (k : Nat), e = .returned (.tuple #[vL, vS]) ∧ w'.ownsRow w.heap.size 70 1 vL ps.length ((ps.map (·.1)).map nodeV) ∧ w'.ownsRow w.heap.size 3 1 vS (k + 1) ((levelsL k ps).map (Value.int .i64)) ∧
    (∀ g, vL.ownBlock = some g → vS.ownBlock ≠ some g) ∧ DegS ids adj ps k ∧ ps.length = ids.length ∧ k ≤ ids.length ∧ (∀ v ∈ ids, v ∈ ps.map (·.1)) ∧ Below w.heap.size w w'

set_option maxHeartbeats 16000000 in
set_option maxRecDepth 200000 in
theorem degeneracy_calls {t : TypeId} {recv : Value} {fNs fFr : FuncId} {G : World → Prop} {ids : List Int} {adj : Int → List Int} (hA : GraphO t recv fNs fFr G ids adj) (w : World) (hg : G w) (hup : ids.Pairwise (· < ·))
    (hall : ∀ v, (adj v).Nodup) (hsub : ∀ a b, b ∈ adj a → b ∈ ids) (hsym : ∀ a b, b ∈ adj a → a ∈ adj b) (hn : ids.length ≤ 1000) (hwf : ∀ y ∈ ids, (Lit.int .i64 y).wf = true) :
    Calls Try.prog 29 #[.iface t recv] w (DegPost ids adj w) := by
  have HA := Lib.hid hA; have HG := Lib.hid hg; have HUP := Lib.hid hup; have HALL := Lib.hid hall; have HSUB := Lib.hid hsub; have HSYM := Lib.hid hsym; have HWF := Lib.hid hwf
  have m1 := hA.mNodes; have m2 := hA.aNodes; have m3 := hA.mFrom; have m4 := hA.aFrom; have m5 := hA.eNodes; have m6 := hA.eFrom
  clear hA hg hup hall hsub hsym hwf
  go_enter Try.func29, Try.ntmps29
  go_wp2_with fail
  refine (HA.out.nodes w HG.out).mono ?_
  rintro e w1 ⟨b1, rfl, hI1, hb1⟩
  have HI1 := Lib.hid hI1; have HB1 := Lib.hid hb1
  have hge1 : w.heap.size ≤ b1 := by obtain ⟨_, _, _, _, h, _⟩ := hI1; exact h
  clear hI1 hb1
  unfold iterV
  go_wp2_with fail
  have hNO1 := nodesOfG_calls w.heap.size b1 ids w1 HI1.out
  unfold iterV at hNO1
  refine hNO1.mono ?_
  rintro e w2 ⟨vN, rfl, hoN, hg2, hvN⟩
  obtain ⟨aN, cN, rfl⟩ := own_shape' hoN
  have HB2 : Hid (Below w.heap.size w w2) := Lib.hid (HB1.out.grown hg2 HB1.out.size (fun j hj => by have e1 := Option.some.inj hj; omega))
  have HON := Lib.hid hoN
  obtain ⟨n, hnn⟩ : ∃ n, n = ids.length := ⟨_, rfl⟩
  have HNL := Lib.hid hnn
  rw [← hnn] at HON hn ⊢
  clear hNO1 hoN hg2 hvN HI1 HB1 hnn
  have hmm := @run_makeMap Try.prog
  have hmn := fun W => run_makeMapN (P := Try.prog) 88 2 3 Try.underlying88 n W
  go_wp2_with fail
  obtain ⟨w3, hw3⟩ : ∃ w3, w3 = (w2.alloc (.map #[] 0)).alloc (.map #[] 0) := ⟨_, rfl⟩
  obtain ⟨bm, hbm⟩ : ∃ bm, bm = w2.heap.size := ⟨_, rfl⟩
  have hw3s : w3.heap.size = bm + 2 := by rw [hw3, hbm]; simp
  have HNB : Hid (NbSt w3 bm (bm + 1) adj [] (fun _ => .slice none 0 0) w3) := Lib.hid (by
    have g1 := GM.made w2 Try.prog 2
    have g2 := GM.made (w2.alloc (.map #[] 0)) Try.prog 2
    refine ⟨Foot.refl _ _, ?_, ?_, (fun _ h => nomatch h)⟩
    · rw [hw3, hbm]
      exact (g1.alloc _).congr (fun x => by simp)
    · rw [hw3, hbm]
      have e : (w2.alloc (.map #[] 0)).heap.size = w2.heap.size + 1 := by simp
      rw [e] at g2
      exact g2.congr (fun x => by simp))
  have HB3 : Hid (Below w2.heap.size w2 w3) := Lib.hid (by rw [hw3]; exact ((Below.refl _ _).alloc (Nat.le_refl _) _).alloc (by simp) _)
  have hwb : w.heap.size ≤ bm := by rw [hbm]; exact HB2.out.size
  have HON3 : Hid (w3.ownsRow w.heap.size 70 1 (.slice aN n cN) n (ids.map nodeV)) := Lib.hid (ownsRow_of_heap HON.out (fun g hg => HB3.out.block g (HON.out.lt g hg).2))
  have HNLT : Hid (∀ g, (Value.slice aN n cN).ownBlock = some g → g < bm) := Lib.hid (fun g hg => by rw [hbm]; exact (HON.out.lt g hg).2)
  have HBW : Hid (Below w.heap.size w w3) := Lib.hid (HB2.out.trans (HB3.out.mono (by omega)))
  rw [← hw3, ← hbm]
  clear hw3 hbm HB3 HON HB2 hmm hmn
  have m7 := method_ID
  go_loopw [6, 35] (fun m i wr => ∃ (t md : Nat) (NS : Int → Value), t ≤ n ∧ i = .int .i64 t ∧ m = .int .i64 md ∧ md ≤ n ∧ Hid (∀ v ∈ ids.take t, (adj v).length ≤ md) ∧ Hid (NbSt w3 bm (bm + 1) adj (ids.take t) NS wr)) (fun _ i _ => n - (intOf i).toNat)
  case atStart => exact ⟨0, 0, _, by omega, rfl, rfl, by omega, Lib.hid (by simp), HNB⟩
  case round =>
    obtain ⟨t, md, NS, ht, rfl, rfl, hmd, HM, HS⟩ := hrel
    clear HNB
    obtain ⟨wo, rfl⟩ : ∃ wo : World, wo = wr := ⟨_, rfl⟩
    have hsz := HS.out.foot.size
    by_cases hlt : t < n
    · -- <<A
      have htl : t < ids.length := by rw [← HNL.out]; exact hlt
      obtain ⟨x, hx⟩ : ∃ x, x = ids[t] := ⟨_, rfl⟩
      have HX : Hid (ids.take (t + 1) = ids.take t ++ [x]) := Lib.hid (by rw [List.take_succ_eq_append_getElem htl, hx])
      have HXN : Hid (x ∉ ids.take t) := Lib.hid (fun hm => by
        have h1 : (ids.take (t + 1)).Pairwise (· < ·) := HUP.out.sublist (List.take_sublist ..)
        rw [HX.out, List.pairwise_append] at h1
        exact absurd (h1.2.2 x hm x (List.mem_singleton.2 rfl)) (by omega))
      have hxm : x ∈ ids := by rw [hx]; exact List.getElem_mem htl
      have hwx := HWF.out x hxm
      have HXM := Lib.hid hxm
      have HBO : Hid (Below w.heap.size w wo) := Lib.hid (HBW.out.trans (HS.out.foot.below (B := w.heap.size) (fun j hj => by rcases hj with rfl | rfl <;> omega) (by omega)))
      obtain ⟨gN, cN', e, hgN1, hgN2, -⟩ := own_form HON3.out (by omega)
      simp only [Value.slice.injEq, true_and] at e
      obtain ⟨rfl, rfl⟩ := e
      have hgN := HNLT.out gN rfl
      have q0 : wo.cell? ⟨gN, t, none⟩ = some (.iface 151 (.int .i64 x)) := by
        refine HS.out.foot.cell (own_at HON3.out (u := nodeV x) ?_).1 (by omega)
        rw [List.getElem?_map, List.getElem?_eq_getElem htl, hx]; rfl
      clear hx hxm htl hgN1 hgN2
      have HGW : Hid (G wo) := Lib.hid (HA.out.keeps w wo HG.out HBO.out)
      go_wp2_with fail
      refine (nodeID_calls x wo).mono ?_
      rintro e w' ⟨rfl, rfl⟩
      go_wp2_with fail
      refine (HA.out.frm wo x HXM.out HGW.out).mono ?_
      rintro e w4 ⟨b4, rfl, hI4, hb4⟩
      have HI4 := Lib.hid hI4; have HB4 := Lib.hid hb4
      have hge4 : wo.heap.size ≤ b4 := by obtain ⟨_, _, _, _, h, _⟩ := hI4; exact h
      clear hI4 hb4
      unfold iterV
      go_wp2_with fail
      have hNO4 := nodesOfG_calls wo.heap.size b4 (adj x) w4 HI4.out
      unfold iterV at hNO4
      refine hNO4.mono ?_
      rintro e w5 ⟨vA, rfl, hoA, hg5, -⟩
      obtain ⟨aA, cA, rfl⟩ := own_shape' hoA
      have HB5 : Hid (Below wo.heap.size wo w5) := Lib.hid (HB4.out.grown hg5 HB4.out.size (fun j hj => by have e1 := Option.some.inj hj; omega))
      have HOA := Lib.hid hoA
      have HAL : Hid ((adj x).length ≤ n) := Lib.hid (by rw [HNL.out]; exact nodup_lenD (HALL.out x) (fun y hy => HSUB.out x y hy))
      have HLT : Hid (∀ v ∈ ids.take (t + 1), v ∈ ids.take t ∨ v = x) := Lib.hid (fun v hv => by rw [HX.out] at hv; simpa using hv)
      obtain ⟨la, hla⟩ : ∃ la, la = (adj x).length := ⟨_, rfl⟩
      have HLA := Lib.hid hla
      rw [← hla] at HOA HAL ⊢
      have htk : (ids.take t).length = t := by rw [List.length_take, ← HNL.out]; omega
      have HDV : Hid (GM Try.prog 2 w5 bm t (fun v => if v ∈ ids.take t then some (.int .i64 ((adj v).length : Nat)) else none)) := Lib.hid (by have h := HS.out.dv.below HB5.out; rw [htk] at h; exact h)
      have HNB : Hid (GM Try.prog 2 w5 (bm + 1) t (fun v => if v ∈ ids.take t then some (NS v) else none)) := Lib.hid (by have h := HS.out.nb.below HB5.out; rw [htk] at h; exact h)
      clear hNO4 hoA hg5 HI4 HB4 hla htk HGW q0
      have hlan := HAL.out
      by_cases hgt : md < la
      all_goals
        go_wp2_with (first
          | (at_mapUpdate; refine wpList_gm_set _ rfl _ _ _ 89 rfl 2 46 Try.underlying2 Try.underlying89 (bm + 1) t _ rfl HNB.out (by unfold maxLen; omega) x (.slice aA la cA) rfl hwx rfl ?_; intro w6 hm6 hg6; have HM6 := Lib.hid hm6; have HG6 := Lib.hid hg6; clear hm6 hg6)
          | (at_mapUpdate; refine wpList_gm_set _ rfl _ _ _ 88 rfl 2 3 Try.underlying2 Try.underlying88 bm t _ rfl (HDV.out.kept HG6.out (by simp)) (by unfold maxLen; omega) x (.int .i64 la) rfl hwx rfl ?_; intro w7 hm7 hg7; have HM7 := Lib.hid hm7; have HG7 := Lib.hid hg7; clear hm7 hg7))
        have HS7 : Hid (NbSt w3 bm (bm + 1) adj (ids.take (t + 1)) (fun v => if v = x then .slice aA la cA else NS v) w7) := Lib.hid (by
          rw [HX.out]
          have htk : (ids.take t).length = t := by rw [List.length_take, ← HNL.out]; omega
          exact HS.out.step HXN.out (by omega) (by omega) HB5.out (by rw [← HLA.out]; exact HOA.out) HG6.out (by rw [htk]; exact HM6.out) HG7.out (by rw [htk, ← HLA.out]; exact HM7.out) (by omega))
        clear HDV HNB HM6 HG6 HM7 HG7 HOA HB5 HS
        have HGT := Lib.hid hgt
        clear hgt
        go_roundw
        case rel => first
          | exact ⟨t + 1, la, _, by omega, by go_num, rfl, by omega, Lib.hid (fun v hv => by rcases HLT.out v hv with h | rfl; have := HM.out v h; have := HGT.out; omega; have := HLA.out; omega), HS7⟩
          | exact ⟨t + 1, md, _, by omega, by go_num, rfl, by omega, Lib.hid (fun v hv => by rcases HLT.out v hv with h | rfl; exact HM.out v h; have := HLA.out; have := HGT.out; omega), HS7⟩
        case measure => simp [intOf]; omega
      -- A>>
    · obtain rfl : n = t := by omega
      have HALLN : Hid (ids.take n = ids) := Lib.hid (by rw [HNL.out, List.take_length])
      have HMD : Hid (∀ v ∈ ids, (adj v).length ≤ md) := Lib.hid (by have h := HM.out; rw [HALLN.out] at h; exact h)
      have HNB : Hid (NbSt w3 bm (bm + 1) adj ids NS wo) := Lib.hid (by have h := HS.out; rw [HALLN.out] at h; exact h)
      clear hlt ht HM HS m1 m2 m3 m4 m5 m6
      have hmk : ∀ W : World, (Instr.makeSlice 47 (.int .i64 ((md : Int) + 1)) (.int .i64 ((md : Int) + 1))).run Try.prog W = .ok (.slice (some ⟨W.heap.size, 0, none⟩) (md + 1) (md + 1)) (W.alloc (.cells (zerosOf (.slice none 0 0) (md + 1)) 46)) := fun W => by
        have h := make_nodeRows W (md + 1) (by omega)
        simpa using h
      go_wp2_with fail
      obtain ⟨w4, hw4⟩ : ∃ w4, w4 = wo.alloc (.cells (zerosOf (.slice none 0 0) (md + 1)) 46) := ⟨_, rfl⟩
      obtain ⟨gd, hgd⟩ : ∃ gd, gd = wo.heap.size := ⟨_, rfl⟩
      have HK0 : Hid (Bkt w4 gd gd (List.replicate (md + 1) (.slice none 0 0)) (List.replicate (md + 1) [])) := Lib.hid (by rw [hw4, hgd]; exact Bkt.made wo (md + 1) (by omega))
      have HB4 : Hid (Below gd wo w4) := Lib.hid (by rw [hw4]; exact (Below.refl _ _).alloc (by omega) _)
      rw [← hw4, ← hgd]
      rw [← hgd] at hsz
      have HGD := Lib.hid hgd
      clear hw4 hmk hgd
      go_loopw [64] (fun i wr => ∃ (t : Nat) (vs : List Value) (ls : List (List Int)), t ≤ n ∧ i = .int .i64 t ∧ Hid (ls.length = md + 1) ∧ Hid (Bkt wr gd gd vs ls) ∧ Hid (BkD ls (fun v => if v ∈ ids.take t then some (adj v).length else none)) ∧ Hid (Below gd wo wr)) (fun i _ => n - (intOf i).toNat)
      case atStart => exact ⟨0, _, _, by omega, rfl, Lib.hid (by simp), HK0, Lib.hid ((BkD.start _).congr (fun v => by simp)), HB4⟩
      case round =>
        obtain ⟨t, vs, ls, ht, rfl, HLS, HK, HD, HBG⟩ := hrel
        clear HK0 HB4
        by_cases hlt : t < n
        · -- <<B
          have htl : t < ids.length := by rw [← HNL.out]; exact hlt
          obtain ⟨x, hx⟩ : ∃ x, x = ids[t] := ⟨_, rfl⟩
          have HX : Hid (ids.take (t + 1) = ids.take t ++ [x]) := Lib.hid (by rw [List.take_succ_eq_append_getElem htl, hx])
          have HXN : Hid (x ∉ ids.take t) := Lib.hid (fun hm => by
            have h1 : (ids.take (t + 1)).Pairwise (· < ·) := HUP.out.sublist (List.take_sublist ..)
            rw [HX.out, List.pairwise_append] at h1
            exact absurd (h1.2.2 x hm x (List.mem_singleton.2 rfl)) (by omega))
          have hxm : x ∈ ids := by rw [hx]; exact List.getElem_mem htl
          have hwx := HWF.out x hxm
          have HXM := Lib.hid hxm
          obtain ⟨gN, cN', e, hgN1, hgN2, -⟩ := own_form HON3.out (by omega)
          simp only [Value.slice.injEq, true_and] at e
          obtain ⟨rfl, rfl⟩ := e
          have hgN := HNLT.out gN rfl
          have q0 : wr.cell? ⟨gN, t, none⟩ = some (.iface 151 (.int .i64 x)) := by
            refine (HBG.out.cell (p := ⟨gN, t, none⟩) (show gN < gd by omega)).trans (HNB.out.foot.cell (own_at HON3.out (u := nodeV x) ?_).1 (by omega))
            rw [List.getElem?_map, List.getElem?_eq_getElem htl, hx]; rfl
          have hlm := HMD.out x hxm
          obtain ⟨la, hla⟩ : ∃ la, la = (adj x).length := ⟨_, rfl⟩
          rw [← hla] at hlm
          have hlk : (Instr.lookup 88 (.map (some bm)) (.int .i64 x) false).run Try.prog wr = .ok (.int .i64 la) wr := by
            have h := ((HNB.out.dv.of_heap (HBG.out.block bm (by omega))).look (t := 88) Try.underlying2 Try.underlying88 (z := .int .i64 0) (by kernel_rfl) hwx)
            rw [if_pos hxm, ← hla] at h
            exact h
          have HLA := Lib.hid hla
          clear hx hxm hgN1 hgN2 hla
          go_wp2_with fail
          refine (nodeID_calls x wr).mono ?_
          rintro e w' ⟨rfl, rfl⟩
          have hlal : la < ls.length := by rw [HLS.out]; omega
          obtain ⟨u, hu, hcu, hfu, hou⟩ := HK.out.at_ hlal
          obtain ⟨lu, hlu⟩ : ∃ lu, lu = ls[la] := ⟨_, rfl⟩
          have HLU : Hid (ls[la]? = some lu) := Lib.hid (by rw [List.getElem?_eq_getElem hlal, hlu])
          rw [← hlu] at hou
          obtain ⟨aU, cU, rfl⟩ := own_shape' hou
          have hlun : lu.length ≤ n := by
            have h := HD.out.small (ids := ids) (fun v hv => by by_cases h2 : v ∈ ids.take t; exact List.mem_of_mem_take h2; simp [h2] at hv) la
            rw [List.getD, HLU.out, ← HNL.out] at h; exact h
          have HU := Lib.hid hu; have HOU := Lib.hid hou
          have hgw : gd < wr.heap.size := (HK.out.lt (.inl rfl)).2
          have HNU : Hid ((Value.slice aU lu.length cU).ownBlock ≠ some gd) := Lib.hid (HK.out.apart _ (List.mem_of_getElem? hu))
          obtain ⟨i0, hi0, hz0, hz1, hz2⟩ := info_parts node_info
          obtain ⟨nu, hnu⟩ : ∃ nu, nu = lu.length := ⟨_, rfl⟩
          rw [← hnu] at hcu hlun HNU HU HOU
          have HNUL := Lib.hid hnu
          clear hu hlu hou hlal hnu
          go_wp2_with (at_builtin; refine wpList_append_own_at _ rfl _ _ 46 rfl gd 70 i0 .nilIface 1 16 Try.underlying46 hi0 hz0 hz1 hz2 rfl (by decide) (.slice aU nu cU) nu (lu.map nodeV) rfl ?hown ⟨wr.heap.size, 0, none⟩ 1 1 [nodeV x] rfl rfl ?c1 ?c2 ?c3 ?c4 ?c5 ?_)
          case hown => exact HOU.out.alloc _
          case c1 => intro j u hj; match j, hj with | 0, hj => simp at hj; subst hj; exact (World.cell?_alloc_new wr _ _ _).trans rfl
          case c2 => intro u hu; simp at hu; subst hu; rfl
          case c3 => unfold maxLen; omega
          case c4 => omega
          case c5 => simp; omega
          intro v1 w5 hown hgrow _ hloc
          obtain ⟨a1, c1, rfl⟩ := own_shape' hown
          have hk5 := hk_append (u := .slice aU nu cU) hgrow
          have hf5 := hf_append hloc
          have k1 : w5.cell? ⟨gd, la, none⟩ = some (.slice aU nu cU) := (World.cell?_of_block (hk5 gd hgw HNU.out.symm)).trans hcu
          have g1 : w5.frozen? ⟨gd, la, none⟩ = false := (World.frozen?_of_block (a := ⟨gd, la, none⟩) (hk5 gd hgw HNU.out.symm)).trans hfu
          obtain ⟨w6, hw6⟩ : ∃ w6, w6 = w5.setCell ⟨gd, la, none⟩ (.slice a1 (nu + 1) c1) := ⟨_, rfl⟩
          have HK6 : Hid (Bkt w6 gd gd (vs.set la (.slice a1 (nu + 1) c1)) (ls.set la (lu ++ [x]))) := Lib.hid (by
            rw [hw6]
            refine HK.out.put HU.out ?_ hk5 hf5
            rw [List.length_append, List.map_append, ← HNUL.out]
            exact hown)
          have HD6 : Hid (BkD (ls.set la (lu ++ [x])) (fun v => if v ∈ ids.take (t + 1) then some (adj v).length else none)) := Lib.hid (by
            refine (HD.out.into HLU.out (v := x) (by show (if x ∈ ids.take t then some (adj x).length else none) = none; rw [if_neg HXN.out])).congr fun v => ?_
            rw [HX.out]
            by_cases e : v = x
            · subst e; simp [HLA.out]
            · simp [e])
          have HB6 : Hid (Below gd wo w6) := Lib.hid (by
            rw [hw6]
            have h5 : Below gd wo w5 := (HBG.out.alloc (by omega) _).grown hgrow (by simp; omega) (fun j hj => (HOU.out.lt j hj).1)
            exact h5.setCell (Nat.le_refl gd) _)
          clear hown hgrow hloc hk5 hf5 hcu hfu
          go_wp2
          rw [← hw6]
          clear hw6 k1 g1
          go_roundw
          case rel => exact ⟨t + 1, _, _, by omega, by go_num, Lib.hid (by simpa using HLS.out), HK6, HD6, HB6⟩
          case measure => simp [intOf]; omega
          -- B>>
        · obtain rfl : n = t := by omega
          have HD0 : Hid (BkD ls (degD ids adj [])) := Lib.hid (HD.out.congr fun v => by
            rw [HALLN.out]
            unfold degD
            by_cases h : v ∈ ids
            · rw [if_pos (leftB_iff.2 ⟨h, by simp⟩), if_pos h]
              congr 1
              unfold degIn
              rw [List.countP_eq_length]
              intro u hu
              exact leftB_iff.2 ⟨HSUB.out v u hu, by simp⟩
            · rw [if_neg (fun h2 => h (leftB_iff.1 h2).1), if_neg h])
          have HK1 := HK
          clear hlt ht HD HK
          obtain ⟨wb, rfl⟩ : ∃ wb : World, wb = wr := ⟨_, rfl⟩
          go_wp2_with fail
          obtain ⟨w5, hw5⟩ : ∃ w5, w5 = wb.alloc (.cells #[.int .i64 0] 3) := ⟨_, rfl⟩
          have hgb : gd < wb.heap.size := (HK1.out.lt (.inl rfl)).2
          have HMW0 : Hid (MW wo bm gd vs ls (.slice none 0 0) [] (.slice (some ⟨wb.heap.size, 0, none⟩) 1 1) (levelsL 0 []) (degD ids adj []) n w5) := Lib.hid (by
            have hb5 : Below wb.heap.size wb w5 := by rw [hw5]; exact (Below.refl _ _).alloc (Nat.le_refl _) _
            have hf : Foot (fun j => j = bm) wo w5 := ((Foot.of_below (by rw [← HGD.out]; exact HBG.out) _).trans (Foot.of_below hb5 (fun _ => False)) (fun _ h => h.elim))
            refine ⟨hf, ?_, HK1.out.of_heap (fun j hj => hb5.block j (HK1.out.lt hj).2), World.ownsRow_nil _ _ _ _, ?_, (fun g hg => by simp [Value.ownBlock] at hg), (fun g hg hF => ?_), (fun g hg => by simp [Value.ownBlock] at hg)⟩
            · rw [HNL.out]
              refine (HNB.out.dv.of_heap ((hb5.block bm (by omega)).trans (HBG.out.block bm (by omega)))).congr fun v => ?_
              unfold degD
              by_cases h : v ∈ ids
              · rw [if_pos (leftB_iff.2 ⟨h, by simp⟩), if_pos h]
                show some (Value.int .i64 ((degIn adj (leftB ids []) v : Nat) : Int)) = _
                congr 3
                unfold degIn
                rw [List.countP_eq_length]
                intro u hu
                exact leftB_iff.2 ⟨HSUB.out v u hu, by simp⟩
              · rw [if_neg (fun h2 => h (leftB_iff.1 h2).1), if_neg h]; rfl
            · refine ⟨by simp [levelsL], .inr ⟨wb.heap.size, 1, #[.int .i64 0], by simp [levelsL], by omega, (by rw [hw5]; exact heap_alloc_new wb _), by simp [levelsL], by unfold maxLen; omega, by simp, by simp [levelsL]⟩⟩
            · have h1 := (HK1.out.lt hF).2
              have e : wb.heap.size = g := Option.some.inj hg
              omega)
          rw [← hw5]
          have hw5s : gd < w5.heap.size := by rw [hw5]; simp; omega
          clear hw5 HK1
          go_loopw [2, 3, 16, 86] (fun vL vS kv i wr => ∃ (ps : List (Int × Nat)) (k t : Nat) (ls : List (List Int)) (vs : List Value), t ≤ n ∧ i = .int .i64 t ∧ kv = .int .i64 k ∧ k ≤ md ∧ Hid (ps.length = t) ∧ Hid (ls.length = md + 1) ∧ Hid (DegS ids adj ps k) ∧
            Hid (MW wo bm gd vs ls vL (ps.map (·.1)) vS (levelsL k ps) (degD ids adj (ps.map (·.1))) (n + t * 1000) wr) ∧ Hid (BkD ls (degD ids adj (ps.map (·.1))))) (fun _ _ _ i _ => n - (intOf i).toNat)
          case atStart => exact ⟨[], 0, 0, ls, vs, by omega, rfl, rfl, by omega, Lib.hid rfl, HLS, Lib.hid (DegS.start ids adj), Lib.hid (by have h := HMW0.out; simpa using h), HD0⟩
          case round =>
            obtain ⟨ps, k, t, ls2, vs2, ht, rfl, rfl, hkm, HT, HLS2, HDG, HMW, HBD⟩ := hrel
            clear HMW0 HD0 HLS
            obtain ⟨L, hL⟩ : ∃ L, L = ps.map (·.1) := ⟨_, rfl⟩
            have hLt : L.length = t := by rw [hL, List.length_map]; exact HT.out
            have HLT := Lib.hid hLt
            have HL := Lib.hid hL
            rw [← hL] at HMW HBD
            clear hL hLt
            obtain ⟨aL, cL, eL⟩ := own_shape' HMW.out.m3.rl
            obtain ⟨aS, cS, eS⟩ := own_shape' HMW.out.m3.rs
            rw [HLT.out] at eL
            rw [levels_len] at eS
            subst eL; subst eS
            by_cases hlt : t < n
            · go_upto_block 6 with fail
              have HPL : Hid (∃ v ∈ ids, v ∉ L) := Lib.hid (by
                refine Classical.byContradiction fun hno => ?_
                have h1 : ids.length ≤ L.length := nodup_lenD (HUP.out.imp fun h => Int.ne_of_lt h) (fun v hv => Classical.byContradiction fun hm => hno ⟨v, hv, hm⟩)
                rw [HLT.out, ← HNL.out] at h1
                omega)
              obtain ⟨i0, hi0, hne0, hmin0⟩ := least_full ls2 (by
                obtain ⟨v, hv, hnv⟩ := HPL.out
                obtain ⟨l, hl, hvl⟩ := (HBD.out.mem _ v).2 (show degD ids adj L v = some _ from if_pos (leftB_iff.2 ⟨hv, hnv⟩))
                exact ⟨l, List.mem_of_getElem? hl, fun e => by rw [e] at hvl; cases hvl⟩)
              have him : i0 ≤ md := by rw [HLS2.out] at hi0; omega
              obtain ⟨u, hu, hcu, hfu, hou⟩ := HMW.out.m3.bk.at_ hi0
              obtain ⟨lu, hlu⟩ : ∃ lu, lu = ls2[i0] := ⟨_, rfl⟩
              have HLU : Hid (ls2[i0]? = some lu) := Lib.hid (by rw [List.getElem?_eq_getElem hi0, hlu])
              have hlu0 : 0 < lu.length := by
                rw [List.getD, HLU.out] at hne0
                exact List.length_pos_iff.2 hne0
              rw [← hlu] at hou
              obtain ⟨gU, cU, rfl, hgU1, hgU2, hfU⟩ := own_form hou hlu0
              have hlun : lu.length ≤ n := by
                have h := HBD.out.small (ids := ids) (fun v hv => by
                  unfold degD at hv
                  by_cases h2 : leftB ids L v = true
                  · exact (leftB_iff.1 h2).1
                  · rw [if_neg h2] at hv; exact absurd rfl hv) i0
                rw [List.getD, HLU.out, ← HNL.out] at h; exact h
              have HMIN : Hid (∀ j, j < i0 → ls2.getD j [] = []) := Lib.hid hmin0
              have HVU := Lib.hid hu
              obtain ⟨nu, hnu⟩ : ∃ nu, nu = lu.length := ⟨_, rfl⟩
              rw [← hnu] at hcu hlun HVU hlu0
              have HNU := Lib.hid hnu
              clear hnu hlu hou hi0 hne0 hmin0 hu
              obtain ⟨wq, rfl⟩ : ∃ wq : World, wq = wr := ⟨_, rfl⟩
              go_cut [17, 18] (fun a b wc => a = .int .i64 i0 ∧ b = .slice (some ⟨gU, 0, none⟩) nu cU ∧ wc = wq)
              case first =>
                -- <<C
                go_wp2_with fail
                go_loopw [17, 18, 90] (fun _ _ i wx => ∃ j : Nat, i = .int .i64 j ∧ j ≤ i0 ∧ wx = wq) (fun _ _ i _ => md + 1 - (intOf i).toNat)
                case atStart => exact ⟨0, rfl, by omega, rfl⟩
                case round =>
                  obtain ⟨j, rfl, hj, rfl⟩ := hrel
                  have hjm : (j : Int) < (md : Int) + 1 := by omega
                  have hjm2 : j < md + 1 := by omega
                  by_cases hji : j < i0
                  · obtain ⟨u1, -, hc1, -, ho1⟩ := HMW.out.m3.bk.at_ (i := j) (by rw [HLS2.out]; omega)
                    have e1 : ls2[j]'(by rw [HLS2.out]; omega) = [] := by
                      have h := HMIN.out j hji
                      rw [List.getD, List.getElem?_eq_getElem (by rw [HLS2.out]; omega)] at h
                      exact h
                    rw [e1] at ho1
                    obtain ⟨a1, c1, rfl⟩ := own_shape' ho1
                    clear ho1 e1 hcu hfu
                    go_wp2
                    go_roundw
                    case rel => exact ⟨j + 1, by go_num, by omega, by first | rfl | trivial⟩
                    case measure => simp [intOf]; omega
                  · obtain rfl : i0 = j := by omega
                    have hnz : ¬ ((nu : Int) = 0) := by omega
                    have hnz2 : ((nu : Int) == 0) = false := by rw [beq_eq_false_iff_ne]; omega
                    go_wp2
                    go_meet
                    simp
                -- C>>
              case rest =>
                obtain ⟨rfl, rfl, rfl⟩ := hcut
                obtain ⟨w6, rfl⟩ : ∃ w6 : World, w6 = wc := ⟨_, rfl⟩
                clear hcu hfu
                go_upto_if 101 with fail
                obtain ⟨k2, hk2⟩ : ∃ k2, k2 = max k i0 := ⟨_, rfl⟩
                have HK2 := Lib.hid hk2
                have hk2m : k2 ≤ md := by omega
                clear hk2
                go_cut [3, 16] (fun s kv wc => ∃ (aS' : Option Addr) (cS' : Nat), kv = .int .i64 k2 ∧ s = .slice aS' (k2 + 1) cS' ∧ Hid (MW wo bm gd vs2 ls2 (.slice aL t cL) L (.slice aS' (k2 + 1) cS') (levelsL k2 ps) (degD ids adj L) (n + t * 1000) wc))
                case first =>
                  -- <<D
                  by_cases hgt : k < i0
                  · have hrs := HMW.out.m3.rs
                    rw [levels_len] at hrs
                    obtain ⟨gS, cS2, eS, hgS1, hgS2, -⟩ := own_form hrs (by omega)
                    simp only [Value.slice.injEq, true_and] at eS
                    obtain ⟨rfl, rfl⟩ := eS
                    obtain ⟨j0, hj0, hz0, hz1, hz2⟩ := info_parts int_info
                    obtain ⟨g1, c1, w7, hrun, hown, hgrow, hloc⟩ := run_append_zeros (P := Try.prog) w6 22 3 22 3 j0 (.int .i64 0) .i64 .i64 Try.underlying22 Try.underlying3 hj0 hz0 hz1 rfl rfl (by omega) gd gS (k + 1) cS (i0 - k) _ hrs (by omega) (by omega) (by omega)
                    have e1 : k + 1 + (i0 - k) = k2 + 1 := by have := HK2.out; omega
                    have e2 : k2 = i0 := by have := HK2.out; omega
                    rw [e1] at hrun hown
                    have e3 : ((i0 - k : Nat) : Int) = (i0 : Int) - ((k : Int) + 1) + 1 := by omega
                    rw [e3] at hrun
                    have HM7 : Hid (MW wo bm gd vs2 ls2 (.slice aL t cL) L (.slice (some ⟨g1, 0, none⟩) (k2 + 1) c1) (levelsL k2 ps) (degD ids adj L) (n + t * 1000) w7) := Lib.hid (by
                      refine HMW.out.m3step (HMW.out.m3.putS ?_ (fun j hj hne => hgrow.block j hj hne) ?_) ⟨hgrow.os, hgrow.tape, hgrow.output, hgrow.size, fun j hj hn => hgrow.block j hj (fun e => hn (by have := Option.some.inj e; omega))⟩ (by omega) HGD.out
                      · rw [levels_len, levels_more HDG.out.le (by omega), List.map_append, List.map_replicate]
                        rw [e2] at hown
                        rw [e2]
                        exact hown
                      · rcases hloc with h | h
                        · exact .inl (by rw [h]; rfl)
                        · exact .inr (fun g hg => by have e : g1 = g := Option.some.inj hg; omega))
                    rw [e2] at hrun
                    have E2 := Lib.hid e2
                    clear hrs hown hgrow hloc e1 e2 e3
                    go_wp2_with (at_builtin; refine Lib.wpList_append_run _ rfl _ _ _ _ rfl _ _ rfl rfl _ _ hrun ?_)
                    go_meet
                    exact ⟨some ⟨g1, 0, none⟩, c1, by rw [E2.out], by rw [E2.out], HM7⟩
                  · have e2 : k2 = k := by have := HK2.out; omega
                    have E2 := Lib.hid e2
                    clear e2
                    go_wp2
                    go_meet
                    rw [E2.out]
                    exact ⟨_, _, rfl, rfl, HMW⟩
                  -- D>>
                case rest =>
                  obtain ⟨aS', cS', rfl, rfl, HM7⟩ := hcut
                  obtain ⟨w7, rfl⟩ : ∃ w7 : World, w7 = wc := ⟨_, rfl⟩
                  clear HMW
                  obtain ⟨li, v, hlv⟩ : ∃ li v, lu = li ++ [v] := ⟨lu.dropLast, lu.getLast (by intro e; rw [e] at HNU; have := HNU.out; simp at this; omega), (List.dropLast_concat_getLast _).symm⟩
                  subst hlv
                  obtain ⟨m, hm⟩ : ∃ m, m = li.length := ⟨_, rfl⟩
                  obtain rfl : nu = m + 1 := by rw [HNU.out, hm]; simp
                  have HML := Lib.hid hm
                  have hi0s : i0 < ls2.length := by rw [HLS2.out]; omega
                  obtain ⟨u, hu, hcu, hfu, hou⟩ := HM7.out.m3.bk.at_ hi0s
                  have els : ls2[i0] = li ++ [v] := by have h := HLU.out; rw [List.getElem?_eq_getElem hi0s] at h; exact Option.some.inj h
                  obtain rfl : u = .slice (some ⟨gU, 0, none⟩) (m + 1) cU := by
                    have h := HVU.out
                    rw [hu] at h
                    exact Option.some.inj h
                  rw [els] at hou
                  have el2 : (li ++ [v]).length = m + 1 := by rw [hm]; simp
                  rw [el2] at hou
                  have q1 : w7.cell? ⟨gU, m, none⟩ = some (.iface 151 (.int .i64 v)) := (own_at hou (u := nodeV v) (by rw [hm, List.map_append, List.getElem?_append_right (by simp)]; simp)).1
                  have hcap : m + 1 ≤ cU := by
                    rcases hou.2 with ⟨h3, _⟩ | ⟨g', cap, cur, h3, _, _, h6, _⟩
                    · simp at h3
                    · simp only [Value.slice.injEq] at h3; omega
                  have HVI : Hid (v ∈ ids ∧ v ∉ L ∧ degIn adj (leftB ids L) v = i0) := Lib.hid (by
                    have h := (HBD.out.mem i0 v).1 ⟨_, HLU.out, by simp⟩
                    unfold degD at h
                    by_cases h2 : leftB ids L v = true
                    · rw [if_pos h2] at h
                      exact ⟨(leftB_iff.1 h2).1, (leftB_iff.1 h2).2, Option.some.inj h⟩
                    · rw [if_neg h2] at h; cases h)
                  have hwv := HWF.out v HVI.out.1
                  have hi0m : (i0 : Int) < (md : Int) + 1 := by omega
                  have HOU := Lib.hid hou
                  have hne1 : gU ≠ gd := fun e => HM7.out.m3.bk.apart _ (List.mem_of_getElem? hu) (by rw [e]; rfl)
                  have hne2 : gd ≠ gU := fun e => hne1 e.symm
                  clear hm hu hou els el2 hi0s HNU
                  have hm0 : (0 : Int) ≤ (m : Int) := Int.natCast_nonneg _
                  have hm1 : (m : Int) < (m : Int) + 1 := by omega
                  have hm2 : (m : Int) ≤ (cU : Int) := by omega
                  have hm3 : IntKind.i64.wrap ((m : Int) + 1 - 1) = m := by rw [IntKind.wrap_i64]; omega
                  have hm4 : IntKind.i64.wrap (m : Int) = m := by rw [IntKind.wrap_i64]; omega
                  have hi00 : (0 : Int) ≤ (i0 : Int) := Int.natCast_nonneg _
                  go_upto_region 37 with fail
                  go_region_held3 (fun w' => w'.cell? ⟨gU, m, none⟩ = some (.iface 151 (.int .i64 v))) (go_keep) (fail)
                  obtain ⟨w8, hw8⟩ : ∃ w8, w8 = (w7.setCell ⟨gd, i0, none⟩ (.slice (some ⟨gU, 0, none⟩) m cU)).drew := ⟨_, rfl⟩
                  have HM8 : Hid (MW wo bm gd (vs2.set i0 (.slice (some ⟨gU, 0, none⟩) m cU)) (ls2.set i0 li) (.slice aL t cL) L (.slice aS' (k2 + 1) cS') (levelsL k2 ps) (degD ids adj L) (n + t * 1000) w8) := Lib.hid (by
                    have h1 : M3 (w7.setCell ⟨gd, i0, none⟩ (.slice (some ⟨gU, 0, none⟩) m cU)) gd gd (vs2.set i0 (.slice (some ⟨gU, 0, none⟩) m cU)) (ls2.set i0 li) (.slice aL t cL) L (.slice aS' (k2 + 1) cS') (levelsL k2 ps) := by
                      refine HM7.out.m3.putB HVU.out ?_ (fun _ _ _ => rfl) (.inl rfl)
                      have h := own_cut HOU.out (k := m) (by omega)
                      rw [List.map_append, HML.out, List.take_left' (by simp)] at h
                      rw [← HML.out] at h ⊢
                      exact h
                    have h2 := (Foot.refl (fun j => gd ≤ j) w7).setCell gd i0 (.slice (some ⟨gU, 0, none⟩) m cU) (.inl (Nat.le_refl gd))
                    rw [hw8]
                    exact HM7.out.m3step (h1.of_heap (fun _ _ _ => rfl)) ⟨h2.os, h2.tape, h2.output, h2.size, h2.block⟩ (by omega) HGD.out)
                  rw [← hw8]
                  clear hw8 HOU hm0 hm1 hm2 hm3 hm4 hcu hfu q1 hcap hne1 hne2 hi0m hi00
                  obtain ⟨j0, hj0, hz0, hz1, hz2⟩ := info_parts node_info
                  have hg8 : gd < w8.heap.size := (HM8.out.m3.bk.lt (.inl rfl)).2
                  have HRL : Hid (w8.ownsRow gd 70 1 (.slice aL t cL) t (L.map nodeV)) := Lib.hid (by have h := HM8.out.m3.rl; rw [HLT.out] at h; exact h)
                  go_wp2_with (at_builtin; refine wpList_append_own_at _ rfl _ _ 46 rfl gd 70 j0 .nilIface 1 16 Try.underlying46 hj0 hz0 hz1 hz2 rfl (by decide) (.slice aL t cL) t (L.map nodeV) rfl ?hown ⟨w8.heap.size, 0, none⟩ 1 1 [nodeV v] rfl rfl ?c1 ?c2 ?c3 ?c4 ?c5 ?_)
                  case hown => exact HRL.out.alloc _
                  case c1 => intro j u hj; match j, hj with | 0, hj => simp at hj; subst hj; first | exact (World.cell?_alloc_new w8 _ _ _).trans rfl | rfl
                  case c2 => first | rfl | (intro u hu; simp at hu; subst hu; rfl)
                  case c3 => unfold maxLen; omega
                  case c4 => omega
                  case c5 => first | omega | (simp; omega)
                  intro v1 w9 hown hgrow _ hloc
                  obtain ⟨aL2, cL2, rfl⟩ := own_shape' hown
                  have HM9 : Hid (MW wo bm gd (vs2.set i0 (.slice (some ⟨gU, 0, none⟩) m cU)) (ls2.set i0 li) (.slice aL2 (t + 1) cL2) (L ++ [v]) (.slice aS' (k2 + 1) cS') (levelsL k2 ps) (degD ids adj L) (n + t * 1000) w9) := Lib.hid (by
                    refine HM8.out.m3step (HM8.out.m3.putL ?_ (hk_append (u := .slice aL t cL) hgrow) (hf_two hloc)) (foot_append (u := .slice aL t cL) hgrow (fun g hg => (HRL.out.lt g hg).1)) (by omega) HGD.out
                    rw [List.length_append, HLT.out, List.map_append]
                    exact hown)
                  clear hown hgrow hloc HRL hg8 HM8
                  obtain ⟨c, hc1, hc2, hc3⟩ := levels_get k2 ps v
                  rw [HT.out] at hc1
                  have HLV := Lib.hid hc3
                  have HRS : Hid (w9.ownsRow gd 3 1 (.slice aS' (k2 + 1) cS') (k2 + 1) ((levelsL k2 ps).map (Value.int .i64))) := Lib.hid (by have h := HM9.out.m3.rs; rw [levels_len] at h; exact h)
                  obtain ⟨gS, cS2, eS, hgS1, hgS2, -⟩ := own_form HRS.out (by omega)
                  simp only [Value.slice.injEq, true_and] at eS
                  obtain ⟨rfl, rfl⟩ := eS
                  have q1 := own_at HRS.out (i := k2) (u := .int .i64 (c : Int)) (by rw [List.getElem?_map, hc2]; rfl)
                  obtain ⟨q1, q2⟩ := q1
                  have HM10 : Hid (MW wo bm gd (vs2.set i0 (.slice (some ⟨gU, 0, none⟩) m cU)) (ls2.set i0 li) (.slice aL2 (t + 1) cL2) (L ++ [v]) (.slice (some ⟨gS, 0, none⟩) (k2 + 1) cS') (levelsL k2 (ps ++ [(v, k2)])) (degD ids adj L) (n + t * 1000) (w9.setCell ⟨gS, k2, none⟩ (.int .i64 ((c : Int) + 1)))) := Lib.hid (by
                    refine HM9.out.m3step (HM9.out.m3.putS ?_ (fun j _ hne => Below.heap_setCell _ _ _ _ (fun e => hne (by rw [e]; rfl))) (.inl rfl)) ((Foot.refl (fun j => gd ≤ j) w9).setCell gS k2 _ (.inl hgS1)) (by omega) HGD.out
                    rw [levels_len, HLV.out, List.map_set]
                    exact own_put HRS.out _)
                  clear hc2 hc3 HM9 HRS hgS1 hgS2
                  have hk2a : (k2 : Int) < (k2 : Int) + 1 := by omega
                  go_wp2_with fail
                  obtain ⟨w10, hw10⟩ : ∃ w10, w10 = w9.setCell ⟨gS, k2, none⟩ (.int .i64 ((c : Int) + 1)) := ⟨_, rfl⟩
                  rw [← hw10] at HM10 ⊢
                  clear hw10 q1 q2 hk2a hc1 HLV
                  refine (nodeID_calls v w10).mono ?_
                  rintro e w' ⟨rfl, rfl⟩
                  obtain ⟨w11, hdel, hm11, hg11⟩ := HM10.out.dv.take (t := 88) (e := 3) Try.underlying2 Try.underlying88 hwv 0
                  have HM11 : Hid (MW wo bm gd (vs2.set i0 (.slice (some ⟨gU, 0, none⟩) m cU)) (ls2.set i0 li) (.slice aL2 (t + 1) cL2) (L ++ [v]) (.slice (some ⟨gS, 0, none⟩) (k2 + 1) cS') (levelsL k2 (ps ++ [(v, k2)])) (midD ids adj L v 0) (n + t * 1000) w11) := Lib.hid (HM10.out.mapstep (hm11.congr fun u => by
                    rw [midD_zero]
                    unfold cut
                    by_cases e : u = v
                    · rw [if_pos e, if_pos e]; rfl
                    · rw [if_neg e, if_neg e]) hg11 (by omega))
                  have HBD11 : Hid (BkD (ls2.set i0 li) (midD ids adj L v 0)) := Lib.hid ((HBD.out.out HLU.out (v := v) (List.perm_append_comm (l₁ := [v]) (l₂ := li))).congr midD_zero)
                  have hm1 : v ∈ ids := HVI.out.1
                  obtain ⟨aA, cA, eA⟩ := own_shape' (HNB.out.rows v hm1)
                  have hlm := HMD.out v hm1
                  obtain ⟨la, hla⟩ : ∃ la, la = (adj v).length := ⟨_, rfl⟩
                  have hlk2 : (Instr.lookup 89 (.map (some (bm + 1))) (.int .i64 v) false).run Try.prog w11 = .ok (.slice aA la cA) w11 := by
                    have h := ((HNB.out.nb.of_heap (HM11.out.foot.block (bm + 1) HNB.out.nb.lt (by omega))).look (t := 89) Try.underlying2 Try.underlying89 (z := .slice none 0 0) (by kernel_rfl) hwv)
                    rw [if_pos hm1, eA, ← hla] at h
                    exact h
                  have HAR : Hid (∀ W, Foot (fun j => j = bm) wo W → W.ownsRow w3.heap.size 70 1 (.slice aA la cA) la ((adj v).map nodeV)) := Lib.hid (fun W hW => by
                    have h := HNB.out.rows v hm1
                    rw [eA, ← hla] at h
                    exact hW.row h (fun g hg e => by have := (h.lt g hg).1; omega))
                  rw [← hla] at hlm
                  have HLA := Lib.hid hla
                  clear hm11 hg11 HM10 eA hm1 hla
                  go_wp2_with fail
                  refine (nodeID_calls v w11).mono ?_
                  rintro e w' ⟨rfl, rfl⟩
                  go_wp2_with fail
                  have HDT : Hid (DegS ids adj (ps ++ [(v, k2)]) k2) := Lib.hid (by
                    rw [HK2.out]
                    have h1 := HVI.out
                    rw [HL.out] at h1
                    refine HDG.out.take h1.1 h1.2.1 h1.2.2 (fun u hu hnu => ?_)
                    rw [← HL.out] at hnu ⊢
                    refine Nat.le_of_not_lt fun hlt => ?_
                    have h2 : degD ids adj L u = some (degIn adj (leftB ids L) u) := if_pos (leftB_iff.2 ⟨hu, hnu⟩)
                    obtain ⟨l, hl, hul⟩ := (HBD.out.mem _ u).2 h2
                    have h3 := HMIN.out _ hlt
                    rw [List.getD, hl] at h3
                    rw [show l = [] from h3] at hul
                    cases hul)
                  have HLX : Hid (leftB ids L v = true) := Lib.hid (leftB_iff.2 ⟨HVI.out.1, HVI.out.2.1⟩)
                  obtain ⟨vs3, hvs3⟩ : ∃ vs3, vs3 = vs2.set i0 (.slice (some ⟨gU, 0, none⟩) m cU) := ⟨_, rfl⟩
                  obtain ⟨ls3, hls3⟩ : ∃ ls3, ls3 = ls2.set i0 li := ⟨_, rfl⟩
                  have HLS3 : Hid (ls3.length = md + 1) := Lib.hid (by rw [hls3, List.length_set]; exact HLS2.out)
                  rw [← hvs3, ← hls3] at HM11
                  rw [← hls3] at HBD11
                  clear hvs3 hls3 hdel hlk2 HM7 HBD HMIN HLU HVU HDG HLS2 HVI HPL
                  go_loopw [142] (fun i wx => ∃ (j : Nat) (vs : List Value) (ls : List (List Int)), i = .int .i64 j ∧ j ≤ la ∧ Hid (ls.length = md + 1) ∧ Hid (MW wo bm gd vs ls (.slice aL2 (t + 1) cL2) (L ++ [v]) (.slice (some ⟨gS, 0, none⟩) (k2 + 1) cS') (levelsL k2 (ps ++ [(v, k2)])) (midD ids adj L v j) (n + t * 1000 + j) wx) ∧ Hid (BkD ls (midD ids adj L v j))) (fun i _ => la - (intOf i).toNat)
                  case atStart => exact ⟨0, vs3, ls3, rfl, by omega, HLS3, HM11, HBD11⟩
                  case round =>
                    obtain ⟨j, vs4, ls4, rfl, hj, HLS4, HM12, HBD12⟩ := hrel
                    clear HLS3 HM11 HBD11
                    obtain ⟨wx, rfl⟩ : ∃ wx : World, wx = wr := ⟨_, rfl⟩
                    by_cases hjl : j < la
                    · have hjL : j < (adj v).length := by rw [← HLA.out]; exact hjl
                      obtain ⟨z, hz⟩ : ∃ z, z = (adj v)[j] := ⟨_, rfl⟩
                      have HZ : Hid ((adj v).getD j 0 = z) := Lib.hid (by rw [hz, List.getD, List.getElem?_eq_getElem hjL]; rfl)
                      have HZI : Hid (z ∈ ids) := Lib.hid (HSUB.out v z (by rw [hz]; exact List.getElem_mem hjL))
                      have hwz := HWF.out z HZI.out
                      have HAX := HAR.out wx HM12.out.foot
                      obtain ⟨gA, cA2, e, hgA1, hgA2, -⟩ := own_form HAX (by omega)
                      simp only [Value.slice.injEq, true_and] at e
                      obtain ⟨rfl, rfl⟩ := e
                      have q1 : wx.cell? ⟨gA, j, none⟩ = some (.iface 151 (.int .i64 z)) := (own_at HAX (u := nodeV z) (by rw [List.getElem?_map, List.getElem?_eq_getElem hjL, hz]; rfl)).1
                      have hjla : (j : Int) < (la : Int) := by omega
                      have hlk3 := HM12.out.dv.look_ok (t := 88) (e := 3) Try.underlying2 Try.underlying88 (z := .int .i64 0) (by kernel_rfl) hwz
                      clear HAX hgA1 hgA2 hz hjL
                      cases hmz : midD ids adj L v j z with
                      | none =>
                        rw [hmz] at hlk3
                        simp only [Option.map_none, Option.getD_none, Option.isSome_none] at hlk3
                        have HSK : Hid (∀ u, midD ids adj L v (j + 1) u = midD ids adj L v j u) := Lib.hid (midD_skip (by rw [← HLA.out]; exact hjl) HZ.out hmz)
                        clear hmz
                        go_wp2_with fail
                        refine (nodeID_calls z wx).mono ?_
                        rintro e w' ⟨rfl, rfl⟩
                        go_wp2_with fail
                        go_roundw
                        case rel =>
                          have e1 : midD ids adj L v (j + 1) = midD ids adj L v j := funext HSK.out
                          exact ⟨j + 1, vs4, ls4, by go_num, by omega, HLS4, Lib.hid (by rw [e1]; exact HM12.out.mono (by omega)), Lib.hid (by rw [e1]; exact HBD12.out)⟩
                        case measure => simp [intOf]; omega
                      | some dz =>
                        rw [hmz] at hlk3
                        simp only [Option.map_some, Option.getD_some, Option.isSome_some] at hlk3
                        have hdz0 : 0 < dz := midD_pos (HALL.out v) HSYM.out HLX.out (by rw [← HLA.out]; exact hjl) HZ.out hmz
                        obtain ⟨dy, hdy⟩ : ∃ dy, dy = dz - 1 := ⟨_, rfl⟩
                        obtain ⟨ld, hld, hzl⟩ := (HBD12.out.mem dz z).2 hmz
                        have hdzm : dz < md + 1 := by have h := (List.getElem?_eq_some_iff.1 hld).1; rw [HLS4.out] at h; exact h
                        obtain ⟨ud, hud, hcd, hfd, hod⟩ := HM12.out.m3.bk.at_ (i := dz) (by rw [HLS4.out]; exact hdzm)
                        have eld : ls4[dz]'(by rw [HLS4.out]; exact hdzm) = ld := by rw [List.getElem?_eq_getElem (by rw [HLS4.out]; exact hdzm)] at hld; exact Option.some.inj hld
                        rw [eld] at hod
                        obtain ⟨p, hp1, hp2, hp3⟩ := first_pos hzl
                        obtain ⟨gD, cD, rfl, hgD1, hgD2, hfD⟩ := own_form hod (by omega)
                        have hldn : ld.length ≤ n := by
                          have h := HBD12.out.small (ids := ids) (fun u hu => by
                            unfold midD at hu
                            by_cases h2 : (leftB ids L u && !decide (u = v)) = true
                            · rw [Bool.and_eq_true] at h2; exact (leftB_iff.1 h2.1).1
                            · rw [if_neg h2] at hu; exact absurd rfl hu) dz
                          rw [List.getD, hld, ← HNL.out] at h; exact h
                        have HLD := Lib.hid hld
                        have HTU : Hid (∀ u, midD ids adj L v (j + 1) u = if u = z then some dy else (if u = z then none else midD ids adj L v j u)) := Lib.hid (by rw [hdy]; exact midD_turn (HALL.out v) (by rw [← HLA.out]; exact hjl) HZ.out hmz)
                        obtain ⟨ml, hml⟩ : ∃ ml, ld.length = ml + 1 := ⟨ld.length - 1, by omega⟩
                        rw [hml] at hod hcd hp1 hldn
                        rw [hml] at hud
                        have HML := Lib.hid hml; have HP2 := Lib.hid hp2; have HP3 := Lib.hid hp3; have HOD := Lib.hid hod; have HUD := Lib.hid hud
                        have HDY := Lib.hid hdy
                        clear hmz hld hzl eld hp2 hp3 hod hud hml hdy
                        go_wp2_with fail
                        refine (nodeID_calls z wx).mono ?_
                        rintro e w' ⟨rfl, rfl⟩
                        go_upto_block 10 with fail
                        go_cut [22] (fun s wc => s = .int .i64 dy ∧ ∃ (vs : List Value) (ls : List (List Int)), Hid (ls.length = md + 1) ∧ Hid (MW wo bm gd vs ls (.slice aL2 (t + 1) cL2) (L ++ [v]) (.slice (some ⟨gS, 0, none⟩) (k2 + 1) cS') (levelsL k2 (ps ++ [(v, k2)])) (midD ids adj L v j) (n + t * 1000 + j) wc) ∧ Hid (BkD ls (midD ids adj L v (j + 1))))
                        case first =>
                          -- <<F
                          go_wp2_with fail
                          go_loopw [22, 160] (fun s i wy => ∃ q : Nat, s = .int .i64 dz ∧ i = .int .i64 q ∧ q ≤ p ∧ wy = wx) (fun _ i _ => ml + 1 - (intOf i).toNat)
                          case atStart => exact ⟨0, rfl, rfl, by omega, rfl⟩
                          case round =>
                            obtain ⟨q, rfl, rfl, hq, rfl⟩ := hrel
                            have hqm : (q : Int) < (ml : Int) + 1 := by omega
                            clear q1 hlk3
                            have hql : q < ld.length := by rw [HML.out]; omega
                            obtain ⟨y, hy⟩ : ∃ y, y = ld.getD q 0 := ⟨_, rfl⟩
                            obtain ⟨q1, q2⟩ := own_at HOD.out (i := q) (u := nodeV y) (by rw [List.getElem?_map, List.getElem?_eq_getElem hql, hy, List.getD, List.getElem?_eq_getElem hql]; rfl)
                            unfold nodeV at q1
                            by_cases hqp : q < p
                            · have hyz : ¬ (y = z) := by rw [hy]; exact HP3.out q hqp
                              have hyz2 : (y == z) = false := by simpa using hyz
                              clear hy hcd hfd q2 hql
                              go_wp2_with fail
                              refine (nodeID_calls y _).mono ?_
                              rintro e w' ⟨rfl, rfl⟩
                              go_wp2_with fail
                              refine (nodeID_calls z _).mono ?_
                              rintro e w' ⟨rfl, rfl⟩
                              go_wp2_with fail
                              go_roundw
                              case rel => exact ⟨q + 1, rfl, by go_num, by omega, by first | rfl | trivial⟩
                              case measure => simp [intOf]; omega
                            · obtain rfl : p = q := by omega
                              obtain rfl : y = z := by rw [hy]; exact HP2.out
                              obtain ⟨zl, hzl⟩ : ∃ zl, zl = ld.getD ml 0 := ⟨_, rfl⟩
                              have HZL := Lib.hid hzl
                              have hcl : wr.cell? ⟨gD, ml, none⟩ = some (.iface 151 (.int .i64 zl)) := (own_at HOD.out (i := ml) (u := nodeV zl) (by rw [List.getElem?_map, List.getElem?_eq_getElem (by rw [HML.out]; omega), hzl, List.getD, List.getElem?_eq_getElem (by rw [HML.out]; omega)]; rfl)).1
                              have hcapD : ml + 1 ≤ cD := by
                                rcases HOD.out.2 with ⟨h3, _⟩ | ⟨g', cap, cur, h3, _, _, h6, _⟩
                                · simp at h3
                                · simp only [Value.slice.injEq] at h3; omega
                              have hneD : gD ≠ gd := fun e => HM12.out.m3.bk.apart _ (List.mem_of_getElem? HUD.out) (by rw [e]; rfl)
                              have hneD2 : gd ≠ gD := fun e => hneD e.symm
                              clear hy hzl hql hqp
                              go_wp2_with fail
                              refine (nodeID_calls y _).mono ?_
                              rintro e w' ⟨rfl, rfl⟩
                              go_wp2_with fail
                              refine (nodeID_calls y _).mono ?_
                              rintro e w' ⟨rfl, rfl⟩
                              have hm0 : (0 : Int) ≤ (ml : Int) := Int.natCast_nonneg _
                              have hm1 : (ml : Int) < (ml : Int) + 1 := by omega
                              have hm2 : (ml : Int) ≤ (cD : Int) := by omega
                              have hm3 : IntKind.i64.wrap ((ml : Int) + 1 - 1) = ml := by rw [IntKind.wrap_i64]; omega
                              have hm4 : IntKind.i64.wrap (ml : Int) = ml := by rw [IntKind.wrap_i64]; omega
                              have hz00 : (0 : Int) ≤ (dz : Int) := Int.natCast_nonneg _
                              have hz01 : (dz : Int) < (md : Int) + 1 := by omega
                              have hp00 : (0 : Int) ≤ (p : Int) := Int.natCast_nonneg _
                              go_upto_region 50 with fail
                              refine wp_region_L (by kernel_rfl) (fun w' => w'.cell? ⟨gd, dz, none⟩ = some (.slice (some ⟨gD, 0, none⟩) (ml + 1) cD) ∧ w'.cell? ⟨gD, ml, none⟩ = some (.iface 151 (.int .i64 zl))) [33] ⟨hcd, hcl⟩ (fun hHeld => ?_)
                              refine wpAnyL_take (i := 0) (v := ?_) rfl (by kernel_rfl) (by kernel_rfl) (by kernel_rfl) (by kernel_rfl) (fun _ _ _ h => h) (by kernel_rfl) ?_ hHeld ?_
                              rotate_left
                              · intro w hSw; obtain ⟨hSw1, hSw2⟩ := hSw; go_simp; all_goals with_reducible rfl
                              simp only [Act.put]
                              refine wpAnyL_take (i := 1) (v := ?_) rfl (by kernel_rfl) (by kernel_rfl) (by kernel_rfl) (by kernel_rfl) (fun _ _ _ h => h) (by kernel_rfl) ?_ hHeld ?_
                              rotate_left
                              · intro w hSw; obtain ⟨hSw1, hSw2⟩ := hSw; go_simp; all_goals with_reducible rfl
                              simp only [Act.put]
                              refine wpAnyL_take (i := 2) (v := ?_) rfl (by kernel_rfl) (by kernel_rfl) (by kernel_rfl) (by kernel_rfl) (fun _ _ _ h => h) (by kernel_rfl) ?_ hHeld ?_
                              rotate_left
                              · intro w hSw; obtain ⟨hSw1, hSw2⟩ := hSw; go_simp; all_goals with_reducible rfl
                              simp only [Act.put]
                              refine wpAnyL_take (i := 3) (v := ?_) rfl (by kernel_rfl) (by kernel_rfl) (by kernel_rfl) (by kernel_rfl) (fun _ _ _ h => h) (by kernel_rfl) ?_ hHeld ?_
                              rotate_left
                              · intro w hSw; obtain ⟨hSw1, hSw2⟩ := hSw; go_simp; all_goals with_reducible rfl
                              simp only [Act.put]
                              refine wpAnyL_take (i := 4) (v := ?_) rfl (by kernel_rfl) (by kernel_rfl) (by kernel_rfl) (by kernel_rfl) (fun _ _ _ h => h) (by kernel_rfl) ?_ hHeld ?_
                              rotate_left
                              · intro w hSw; obtain ⟨hSw1, hSw2⟩ := hSw; go_simp; all_goals with_reducible rfl
                              simp only [Act.put]
                              refine wpAnyL_take (i := 5) (v := ?_) rfl (by kernel_rfl) (by kernel_rfl) (by kernel_rfl) (by kernel_rfl) (fun _ _ _ h => h) (by kernel_rfl) ?_ hHeld ?_
                              rotate_left
                              · intro w hSw; obtain ⟨hSw1, hSw2⟩ := hSw; go_simp; all_goals with_reducible rfl
                              simp only [Act.put]
                              refine wpAnyL_take (i := 6) (v := ?_) rfl (by kernel_rfl) (by kernel_rfl) (by kernel_rfl) (by kernel_rfl) (fun _ _ _ h => h) (by kernel_rfl) ?_ hHeld ?_
                              rotate_left
                              · intro w hSw; obtain ⟨hSw1, hSw2⟩ := hSw; go_simp; all_goals with_reducible rfl
                              simp only [Act.put]
                              refine wpAnyL_take (i := 7) (v := ?_) rfl (by kernel_rfl) (by kernel_rfl) (by kernel_rfl) (by kernel_rfl) (fun _ _ _ h => h) (by kernel_rfl) ?_ hHeld ?_
                              rotate_left
                              · intro w hSw; obtain ⟨hSw1, hSw2⟩ := hSw; go_simp; all_goals with_reducible rfl
                              simp only [Act.put]
                              refine wpAnyL_take (i := 8) (v := ?_) rfl (by kernel_rfl) (by kernel_rfl) (by kernel_rfl) (by kernel_rfl) (fun _ _ _ h => h) (by kernel_rfl) ?_ hHeld ?_
                              rotate_left
                              · intro w hSw; obtain ⟨hSw1, hSw2⟩ := hSw; go_simp; all_goals with_reducible rfl
                              simp only [Act.put]
                              refine wpAnyL_take (i := 9) (v := ?_) rfl (by kernel_rfl) (by kernel_rfl) (by kernel_rfl) (by kernel_rfl) (fun _ _ _ h => h) (by kernel_rfl) ?_ hHeld ?_
                              rotate_left
                              · intro w hSw; obtain ⟨hSw1, hSw2⟩ := hSw; go_simp; all_goals with_reducible rfl
                              simp only [Act.put]
                              refine wpAnyL_take (i := 10) (v := ?_) rfl (by kernel_rfl) (by kernel_rfl) (by kernel_rfl) (by kernel_rfl) (fun _ _ _ h => h) (by kernel_rfl) ?_ hHeld ?_
                              rotate_left
                              · intro w hSw; obtain ⟨hSw1, hSw2⟩ := hSw; go_simp; all_goals with_reducible rfl
                              simp only [Act.put]
                              refine wpAnyL_take (i := 11) (v := ?_) rfl (by kernel_rfl) (by kernel_rfl) (by kernel_rfl) (by kernel_rfl) (fun _ _ _ h => h) (by kernel_rfl) ?_ hHeld ?_
                              rotate_left
                              · intro w hSw; obtain ⟨hSw1, hSw2⟩ := hSw; go_simp; all_goals with_reducible rfl
                              simp only [Act.put]
                              refine wpAnyL_take (i := 12) (v := ?_) rfl (by kernel_rfl) (by kernel_rfl) (by kernel_rfl) (by kernel_rfl) (fun _ _ _ h => h) (by kernel_rfl) ?_ hHeld ?_
                              rotate_left
                              · intro w hSw; obtain ⟨hSw1, hSw2⟩ := hSw; go_simp; all_goals with_reducible rfl
                              simp only [Act.put]
                              refine wpAnyL_take (i := 13) (v := ?_) rfl (by kernel_rfl) (by kernel_rfl) (by kernel_rfl) (by kernel_rfl) (fun _ _ _ h => h) (by kernel_rfl) ?_ hHeld ?_
                              rotate_left
                              · intro w hSw; obtain ⟨hSw1, hSw2⟩ := hSw; go_simp; all_goals with_reducible rfl
                              simp only [Act.put]
                              refine wpAnyL_take (i := 14) (v := ?_) rfl (by kernel_rfl) (by kernel_rfl) (by kernel_rfl) (by kernel_rfl) (fun _ _ _ h => h) (by kernel_rfl) ?_ hHeld ?_
                              rotate_left
                              · intro w hSw; obtain ⟨hSw1, hSw2⟩ := hSw; go_simp; all_goals with_reducible rfl
                              simp only [Act.put]
                              refine wpAnyL_take (i := 15) (v := ?_) rfl (by kernel_rfl) (by kernel_rfl) (by kernel_rfl) (by kernel_rfl) (fun _ _ _ h => h) (by kernel_rfl) ?_ hHeld ?_
                              rotate_left
                              · intro w hSw; obtain ⟨hSw1, hSw2⟩ := hSw; go_simp; all_goals with_reducible rfl
                              simp only [Act.put]
                              refine wpAnyL_take (i := 16) (v := ?_) rfl (by kernel_rfl) (by kernel_rfl) (by kernel_rfl) (by kernel_rfl) (fun _ _ _ h => h) (by kernel_rfl) ?_ hHeld ?_
                              rotate_left
                              · intro w hSw; obtain ⟨hSw1, hSw2⟩ := hSw; go_simp; all_goals with_reducible rfl
                              simp only [Act.put]
                              refine wpAnyL_take (i := 17) (v := ?_) rfl (by kernel_rfl) (by kernel_rfl) (by kernel_rfl) (by kernel_rfl) (fun _ _ _ h => h) (by kernel_rfl) ?_ hHeld ?_
                              rotate_left
                              · intro w hSw; obtain ⟨hSw1, hSw2⟩ := hSw; go_simp; all_goals with_reducible rfl
                              simp only [Act.put]
                              refine wpAnyL_take (i := 18) (v := ?_) rfl (by kernel_rfl) (by kernel_rfl) (by kernel_rfl) (by kernel_rfl) (fun _ _ _ h => h) (by kernel_rfl) ?_ hHeld ?_
                              rotate_left
                              · intro w hSw; obtain ⟨hSw1, hSw2⟩ := hSw; go_simp; all_goals with_reducible rfl
                              simp only [Act.put]
                              refine wpAnyL_take (i := 19) (v := ?_) rfl (by kernel_rfl) (by kernel_rfl) (by kernel_rfl) (by kernel_rfl) (fun _ _ _ h => h) (by kernel_rfl) ?_ hHeld ?_
                              rotate_left
                              · intro w hSw; obtain ⟨hSw1, hSw2⟩ := hSw; go_simp; all_goals with_reducible rfl
                              simp only [Act.put]
                              refine wpAnyL_take (i := 20) (v := ?_) rfl (by kernel_rfl) (by kernel_rfl) (by kernel_rfl) (by kernel_rfl) (fun _ _ _ h => h) (by kernel_rfl) ?_ hHeld ?_
                              rotate_left
                              · intro w hSw; obtain ⟨hSw1, hSw2⟩ := hSw; go_simp; all_goals with_reducible rfl
                              simp only [Act.put]
                              refine wpAnyL_take (i := 21) (v := ?_) rfl (by kernel_rfl) (by kernel_rfl) (by kernel_rfl) (by kernel_rfl) (fun _ _ _ h => h) (by kernel_rfl) ?_ hHeld ?_
                              rotate_left
                              · intro w hSw; obtain ⟨hSw1, hSw2⟩ := hSw; go_simp; all_goals with_reducible rfl
                              simp only [Act.put]
                              refine wpAnyL_take (i := 22) (v := ?_) rfl (by kernel_rfl) (by kernel_rfl) (by kernel_rfl) (by kernel_rfl) (fun _ _ _ h => h) (by kernel_rfl) ?_ hHeld ?_
                              rotate_left
                              · intro w hSw; obtain ⟨hSw1, hSw2⟩ := hSw; go_simp; all_goals with_reducible rfl
                              simp only [Act.put]
                              refine wpAnyL_take (i := 23) (v := ?_) rfl (by kernel_rfl) (by kernel_rfl) (by kernel_rfl) (by kernel_rfl) (fun _ _ _ h => h) (by kernel_rfl) ?_ hHeld ?_
                              rotate_left
                              · intro w hSw; obtain ⟨hSw1, hSw2⟩ := hSw; go_simp; all_goals with_reducible rfl
                              simp only [Act.put]
                              refine wpAnyL_take (i := 24) (v := ?_) rfl (by kernel_rfl) (by kernel_rfl) (by kernel_rfl) (by kernel_rfl) (fun _ _ _ h => h) (by kernel_rfl) ?_ hHeld ?_
                              rotate_left
                              · intro w hSw; obtain ⟨hSw1, hSw2⟩ := hSw; go_simp; all_goals with_reducible rfl
                              simp only [Act.put]
                              refine wpAnyL_take (i := 25) (v := ?_) rfl (by kernel_rfl) (by kernel_rfl) (by kernel_rfl) (by kernel_rfl) (fun _ _ _ h => h) (by kernel_rfl) ?_ hHeld ?_
                              rotate_left
                              · intro w hSw; obtain ⟨hSw1, hSw2⟩ := hSw; go_simp; all_goals with_reducible rfl
                              simp only [Act.put]
                              refine wpAnyL_take (i := 26) (v := ?_) rfl (by kernel_rfl) (by kernel_rfl) (by kernel_rfl) (by kernel_rfl) (fun _ _ _ h => h) (by kernel_rfl) ?_ hHeld ?_
                              rotate_left
                              · intro w hSw; obtain ⟨hSw1, hSw2⟩ := hSw; go_simp; all_goals with_reducible rfl
                              simp only [Act.put]
                              refine wpAnyL_take (i := 27) (v := ?_) rfl (by kernel_rfl) (by kernel_rfl) (by kernel_rfl) (by kernel_rfl) (fun _ _ _ h => h) (by kernel_rfl) ?_ hHeld ?_
                              rotate_left
                              · intro w hSw; obtain ⟨hSw1, hSw2⟩ := hSw; go_simp; all_goals with_reducible rfl
                              simp only [Act.put]
                              refine wpAnyL_take (i := 28) (v := ?_) rfl (by kernel_rfl) (by kernel_rfl) (by kernel_rfl) (by kernel_rfl) (fun _ _ _ h => h) (by kernel_rfl) ?_ hHeld ?_
                              rotate_left
                              · intro w hSw; obtain ⟨hSw1, hSw2⟩ := hSw; go_simp; all_goals with_reducible rfl
                              simp only [Act.put]
                              refine wpAnyL_take (i := 29) (v := ?_) rfl (by kernel_rfl) (by kernel_rfl) (by kernel_rfl) (by kernel_rfl) (fun _ _ _ h => h) (by kernel_rfl) ?_ hHeld ?_
                              rotate_left
                              · intro w hSw; obtain ⟨hSw1, hSw2⟩ := hSw; go_simp; all_goals with_reducible rfl
                              simp only [Act.put]
                              refine wpAnyL_take (i := 30) (v := ?_) rfl (by kernel_rfl) (by kernel_rfl) (by kernel_rfl) (by kernel_rfl) (fun _ _ _ h => h) (by kernel_rfl) ?_ hHeld ?_
                              rotate_left
                              · intro w hSw; obtain ⟨hSw1, hSw2⟩ := hSw; go_simp; all_goals with_reducible rfl
                              simp only [Act.put]
                              refine wpAnyL_one (i := 31) rfl (by kernel_rfl) (by kernel_rfl) (fun K hK => ?_)
                              go_simp
                              have hHeld2 : (wr.drew.setCell ⟨gD, p, none⟩ (.iface 151 (.int .i64 zl))).cell? ⟨gd, dz, none⟩ = some (.slice (some ⟨gD, 0, none⟩) (ml + 1) cD) ∧ (wr.drew.setCell ⟨gD, p, none⟩ (.iface 151 (.int .i64 zl))).cell? ⟨gD, ml, none⟩ = some (.iface 151 (.int .i64 zl)) := ⟨(World.cell?_setCell_far _ _ _ _ hneD).trans hHeld.1, cell_put_same hHeld.2⟩
                              refine hK.out _ _ (.inr hHeld2) ?_
                              clear hK K
                              refine wpAnyL_take (i := 32) (v := ?_) rfl (by kernel_rfl) (by kernel_rfl) (by kernel_rfl) (by kernel_rfl) (fun _ _ _ h => h) (by kernel_rfl) ?_ hHeld2 ?_
                              rotate_left
                              · intro w hSw; obtain ⟨hSw1, hSw2⟩ := hSw; go_simp; all_goals with_reducible rfl
                              simp only [Act.put]
                              refine wpAnyL_one (i := 33) rfl (by kernel_rfl) (by kernel_rfl) (fun K hK => ?_)
                              go_simp
                              refine hK.out _ _ (.inl (by decide)) ?_
                              clear hK K
                              refine wpAnyL_done (by kernel_rfl) ?_ _
                              obtain ⟨w16, hw16⟩ : ∃ w16, w16 = ((wr.setCell ⟨gD, p, none⟩ (.iface 151 (.int .i64 zl))).setCell ⟨gd, dz, none⟩ (.slice (some ⟨gD, 0, none⟩) ml cD)).drew := ⟨_, rfl⟩
                              have HM16 : Hid (MW wo bm gd (vs4.set dz (.slice (some ⟨gD, 0, none⟩) ml cD)) (ls4.set dz (swapOut ld p)) (.slice aL2 (t + 1) cL2) (L ++ [v]) (.slice (some ⟨gS, 0, none⟩) (k2 + 1) cS') (levelsL k2 (ps ++ [(v, k2)])) (midD ids adj L v j) (n + t * 1000 + j) w16) := Lib.hid (by
                                have hsw := swap_map (p := p) HML.out
                                have h1 : M3 ((wr.setCell ⟨gD, p, none⟩ (nodeV zl)).setCell ⟨gd, dz, none⟩ (.slice (some ⟨gD, 0, none⟩) ml cD)) gd gd (vs4.set dz (.slice (some ⟨gD, 0, none⟩) ml cD)) (ls4.set dz (swapOut ld p)) (.slice aL2 (t + 1) cL2) (L ++ [v]) (.slice (some ⟨gS, 0, none⟩) (k2 + 1) cS') (levelsL k2 (ps ++ [(v, k2)])) := by
                                  refine HM12.out.m3.putB HUD.out ?_ (fun j _ hne => Below.heap_setCell _ _ _ _ (fun e => hne (by rw [e]; rfl))) (.inl rfl)
                                  rw [← hsw.1, hsw.2, ← HZL.out]
                                  exact own_cut (own_put HOD.out (nodeV zl)) (by omega)
                                have h2 := ((Foot.refl (fun j => gd ≤ j) wr).setCell gD p (nodeV zl) (.inl hgD1)).setCell gd dz (.slice (some ⟨gD, 0, none⟩) ml cD) (.inl (Nat.le_refl gd))
                                rw [hw16]
                                exact HM12.out.m3step (h1.of_heap (fun _ _ _ => rfl)) ⟨h2.os, h2.tape, h2.output, h2.size, h2.block⟩ (by omega) HGD.out)
                              have HBD16 : Hid (BkD (ls4.set dz (swapOut ld p)) (fun u => if u = y then none else midD ids adj L v j u)) := Lib.hid (HBD12.out.out HLD.out (v := y) (by
                                have h := swapOut_perm (l := ld) (i := p) (by rw [HML.out]; omega)
                                rw [HP2.out] at h
                                exact h))
                              rw [← hw16]
                              clear hw16 hHeld hHeld2 hcl q1 q2 hcd hfd hm0 hm1 hm2 hm3 hm4 hz00 hz01 hp00 hcapD HM12 HBD12 HOD HUD
                              have hdyz : ((dz : Int) - 1) = (dy : Int) := by have := HDY.out; omega
                              have hdyw : IntKind.i64.wrap ((dz : Int) - 1) = dy := by rw [IntKind.wrap_i64]; omega
                              have hdym : dy < md + 1 := by have := HDY.out; omega
                              have hdy0 : (0 : Int) ≤ (dy : Int) := Int.natCast_nonneg _
                              have hdy1 : (dy : Int) < (md : Int) + 1 := by omega
                              have hls5 : dy < (ls4.set dz (swapOut ld p)).length := by rw [List.length_set, HLS4.out]; exact hdym
                              obtain ⟨u2, hu2, hc2, hf2, ho2⟩ := HM16.out.m3.bk.at_ hls5
                              obtain ⟨l2, hl2⟩ : ∃ l2, l2 = (ls4.set dz (swapOut ld p))[dy] := ⟨_, rfl⟩
                              have HL2 : Hid ((ls4.set dz (swapOut ld p))[dy]? = some l2) := Lib.hid (by rw [List.getElem?_eq_getElem hls5, hl2])
                              rw [← hl2] at ho2
                              obtain ⟨aB, cB, rfl⟩ := own_shape' ho2
                              have hl2n : l2.length ≤ n := by
                                have h := HBD16.out.small (ids := ids) (fun u hu => by
                                  by_cases h3 : u = y
                                  · rw [h3]; exact HZI.out
                                  · simp only [h3, if_false] at hu
                                    unfold midD at hu
                                    by_cases h2 : (leftB ids L u && !decide (u = v)) = true
                                    · rw [Bool.and_eq_true] at h2; exact (leftB_iff.1 h2.1).1
                                    · rw [if_neg h2] at hu; exact absurd rfl hu) dy
                                rw [List.getD, HL2.out, ← HNL.out] at h; exact h
                              obtain ⟨nb, hnb⟩ : ∃ nb, nb = l2.length := ⟨_, rfl⟩
                              rw [← hnb] at hc2 ho2 hu2 hl2n
                              have HNB2 := Lib.hid hnb; have HU2 := Lib.hid hu2; have HO2 := Lib.hid ho2
                              have hg16 : gd < w16.heap.size := (HM16.out.m3.bk.lt (.inl rfl)).2
                              have HNE2 : Hid ((Value.slice aB nb cB).ownBlock ≠ some gd) := Lib.hid (HM16.out.m3.bk.apart _ (List.mem_of_getElem? hu2))
                              obtain ⟨j1, hj1, hy0, hy1, hy2⟩ := info_parts node_info
                              clear hnb hu2 ho2 hl2 hls5
                              go_wp2_with (at_builtin; refine wpList_append_own_at _ rfl _ _ 46 rfl gd 70 j1 .nilIface 1 16 Try.underlying46 hj1 hy0 hy1 hy2 rfl (by decide) (.slice aB nb cB) nb (l2.map nodeV) rfl ?hown ⟨w16.heap.size, 0, none⟩ 1 1 [nodeV y] rfl rfl ?c1 ?c2 ?c3 ?c4 ?c5 ?_)
                              case hown => exact HO2.out.alloc _
                              case c1 => first | (intro j u hj; match j, hj with | 0, hj => simp at hj; subst hj; exact (World.cell?_alloc_new w16 _ _ _).trans rfl) | (intro j u hj; match j, hj with | 0, hj => simp at hj; subst hj; rfl)
                              case c2 => first | rfl | (intro u hu; simp at hu; subst hu; rfl)
                              case c3 => unfold maxLen; omega
                              case c4 => omega
                              case c5 => first | omega | (simp; omega)
                              intro v1 w17 hown hgrow _ hloc
                              obtain ⟨a1, c1, rfl⟩ := own_shape' hown
                              have hk17 := hk_append (u := .slice aB nb cB) hgrow
                              have hf17 := hf_append hloc
                              have k1 : w17.cell? ⟨gd, dy, none⟩ = some (.slice aB nb cB) := (World.cell?_of_block (hk17 gd hg16 HNE2.out.symm)).trans hc2
                              have k2x : w17.frozen? ⟨gd, dy, none⟩ = false := (World.frozen?_of_block (a := ⟨gd, dy, none⟩) (hk17 gd hg16 HNE2.out.symm)).trans hf2
                              obtain ⟨w18, hw18⟩ : ∃ w18, w18 = w17.setCell ⟨gd, dy, none⟩ (.slice a1 (nb + 1) c1) := ⟨_, rfl⟩
                              have HM18 : Hid (MW wo bm gd ((vs4.set dz (.slice (some ⟨gD, 0, none⟩) ml cD)).set dy (.slice a1 (nb + 1) c1)) ((ls4.set dz (swapOut ld p)).set dy (l2 ++ [y])) (.slice aL2 (t + 1) cL2) (L ++ [v]) (.slice (some ⟨gS, 0, none⟩) (k2 + 1) cS') (levelsL k2 (ps ++ [(v, k2)])) (midD ids adj L v j) (n + t * 1000 + j) w18) := Lib.hid (by
                                rw [hw18]
                                refine HM16.out.m3step (HM16.out.m3.putB HU2.out ?_ hk17 hf17) ((foot_append (u := .slice aB nb cB) hgrow (fun g hg => (HO2.out.lt g hg).1)).setCell gd dy _ (.inl (Nat.le_refl gd))) (by omega) HGD.out
                                rw [List.length_append, List.map_append, ← HNB2.out]
                                exact hown)
                              have HBD18 : Hid (BkD ((ls4.set dz (swapOut ld p)).set dy (l2 ++ [y])) (midD ids adj L v (j + 1))) := Lib.hid ((HBD16.out.into HL2.out (v := y) (if_pos rfl)).congr HTU.out)
                              clear hown hgrow hloc hk17 hf17 hc2 hf2
                              go_wp2
                              rw [← hw18]
                              clear hw18 k1 k2x
                              go_meet
                              exact ⟨rfl, _, _, Lib.hid (by simpa using HLS4.out), HM18, HBD18⟩
                          -- F>>
                        case rest =>
                          obtain ⟨rfl, vs5, ls5, HLS5, HM13, HBD13⟩ := hcut
                          obtain ⟨wy, rfl⟩ : ∃ wy : World, wy = wc := ⟨_, rfl⟩
                          have HDV13 : Hid (GM Try.prog 2 wy bm (n + t * 1000 + j) (fun u => (midD ids adj L v j u).map fun d => .int .i64 (d : Nat))) := Lib.hid HM13.out.dv
                          clear hlk3 q1
                          go_wp2_with fail
                          refine (nodeID_calls z wy).mono ?_
                          rintro e w' ⟨rfl, rfl⟩
                          go_wp2_with (at_mapUpdate; refine wpList_gm_set _ rfl _ _ _ 88 rfl 2 3 Try.underlying2 Try.underlying88 bm (n + t * 1000 + j) _ rfl HDV13.out (by unfold maxLen; omega) z (.int .i64 dy) rfl hwz rfl ?_; intro w13 hm13 hg13; have HM14 := Lib.hid hm13; have HG14 := Lib.hid hg13; clear hm13 hg13)
                          have HM15 : Hid (MW wo bm gd vs5 ls5 (.slice aL2 (t + 1) cL2) (L ++ [v]) (.slice (some ⟨gS, 0, none⟩) (k2 + 1) cS') (levelsL k2 (ps ++ [(v, k2)])) (midD ids adj L v (j + 1)) (n + t * 1000 + (j + 1)) w13) := Lib.hid (HM13.out.mapstep (HM14.out.congr fun u => by
                            rw [HTU.out]
                            unfold upd
                            by_cases e : u = z
                            · rw [if_pos e, if_pos e]; rfl
                            · rw [if_neg e, if_neg e, if_neg e]) HG14.out (by omega))
                          go_roundw
                          case rel => exact ⟨j + 1, vs5, ls5, by go_num, by omega, HLS5, HM15, HBD13⟩
                          case measure => simp [intOf]; omega
                    · obtain rfl : la = j := by omega
                      have HMD2 : Hid (∀ u, midD ids adj L v la u = degD ids adj (L ++ [v]) u) := Lib.hid (midD_done HALL.out HSYM.out HLX.out (by have := HLA.out; omega))
                      go_wp2_with fail
                      go_roundw
                      case rel =>
                        have e1 : midD ids adj L v la = degD ids adj (L ++ [v]) := funext HMD2.out
                        have e2 : (ps ++ [(v, k2)]).map (·.1) = L ++ [v] := by rw [HL.out]; simp
                        refine ⟨ps ++ [(v, k2)], k2, t + 1, ls4, vs4, by omega, by go_num, rfl, hk2m, Lib.hid (by rw [List.length_append, HT.out]; rfl), HLS4, HDT, Lib.hid ?_, Lib.hid ?_⟩
                        · rw [e2, ← e1]; exact HM12.out.mono (by omega)
                        · rw [e2, ← e1]; exact HBD12.out
                      case measure => simp [intOf]; omega
            · obtain rfl : n = t := by omega
              go_wp2_with fail
              go_ret2
              -- <<E
              have hl := HT.out
              refine ⟨.slice aL n cL, .slice aS (k + 1) cS, ps, k, rfl, ?_, ?_, fun g hg => HMW.out.m3.apLS g hg, HDG.out, by rw [hl]; exact HNL.out, by have := HNL.out; omega, fun v hv => ?_, ?_⟩
              · have h := HMW.out.m3.rl
                rw [HLT.out, HL.out] at h
                rw [hl]
                exact own_lower h (by omega)
              · have h := HMW.out.m3.rs
                rw [levels_len] at h
                exact own_lower h (by omega)
              · by_cases hm : v ∈ ps.map (·.1)
                · exact hm
                · have h1 : (v :: ps.map (·.1)).length ≤ ids.length := nodup_lenD (List.nodup_cons.2 ⟨hm, HDG.out.nodup⟩) (fun x hx => by
                    rcases List.mem_cons.1 hx with rfl | hx
                    · exact hv
                    · obtain ⟨p, hp, rfl⟩ := List.mem_map.1 hx
                      exact HDG.out.sub p hp)
                  rw [List.length_cons, List.length_map, hl, ← HNL.out] at h1
                  omega
              · exact (HBW.out.trans (HNB.out.foot.below (fun j hj => by rcases hj with rfl | rfl <;> omega) (by omega))).trans (HMW.out.foot.below (fun j hj => by omega) (by have := HGD.out; omega))
              -- E>>
end Go.Proofs.Ytbkhakjbmdmghaa
