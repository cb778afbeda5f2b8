/- The walk of topo.Equal over two graphs behind interface values. -/
import Derived.Test.YtbkoifdnlaihfaaGreatNodesOf
import Derived.Test.YtbkoifdnlaihfaaGreatInv
import Derived.Test.YtbkoifdnlaihfaaGreatPair
import Derived.Test.YtbkoifdnlaihfaaGreatGraphV
import Derived.Test.YtbkoifdnlaihfaaGreatSpecP
namespace Go.Proofs.YtbkoifdnlaihfaaGreat
open Go.RowKit

/-- A graph behind an interface value, whose iterators are ordered nodes. -/
structure GraphO (t : TypeId) (recv : Value) (fNs fFr : FuncId) (G : World → Prop) (ids : List Int) (adj : Int → List Int) : Prop where
  mNodes : ∀ w, (method 408 t recv "Nodes").run Tryz.prog w = .ok (fNs, recv) w
  aNodes : ∀ w, (nilAhead 408 t recv "Nodes").run Tryz.prog w = .ok (some false) w
  mFrom : ∀ w, (method 408 t recv "From").run Tryz.prog w = .ok (fFr, recv) w
  aFrom : ∀ w, (nilAhead 408 t recv "From").run Tryz.prog w = .ok (some false) w
  eNodes : ∀ args w, (callFunc fNs args).run Tryz.prog w = .ok (.enter fNs args) w
  eFrom : ∀ args w, (callFunc fFr args).run Tryz.prog w = .ok (.enter fFr args) w
  nodes : ∀ w, G w → Calls Tryz.prog fNs #[recv] w (NewIter ids w)
  frm : ∀ w x, x ∈ ids → G w → Calls Tryz.prog fFr #[recv, .int .i64 x] w (NewIter (adj x) w)
  keeps : ∀ w w', G w → Below w.heap.size w w' → G w'

theorem uGraphO (bp : Nat) (ids : List Int) (out inn : List Arcs) : GraphO 96 (.agg #[.pointer (some ⟨bp, 0, none⟩)]) 264 261 (Gr bp ids out inn) ids (nextL ids out) where
  mNodes := um_Nodes _
  aNodes := ua_Nodes _
  mFrom := um_From _
  aFrom := ua_From _
  eNodes := Tryz.call264
  eFrom := Tryz.call261
  nodes := fun w h => uNodes_calls bp ids out inn w h
  frm := fun w x hx h => uFrom_calls bp ids out inn x hx w h
  keeps := fun _ _ h hb => h.later hb
theorem dGraphO (bp : Nat) (ids : List Int) (out inn : List Arcs) : GraphO 73 (.agg #[.pointer (some ⟨bp, 0, none⟩)]) 233 229 (Gr bp ids out inn) ids (nextL ids out) where
  mNodes := dm_Nodes _
  aNodes := da_Nodes _
  mFrom := dm_From _
  aFrom := da_From _
  eNodes := Tryz.call233
  eFrom := Tryz.call229
  nodes := fun w h => dNodes_calls bp ids out inn w h
  frm := fun w x hx h => dFrom_calls bp ids out inn x hx w h
  keeps := fun _ _ h hb => h.later hb

set_option maxHeartbeats 8000000 in
set_option maxRecDepth 100000 in
theorem topoEqual_calls {t t' : TypeId} {recv recv' : Value} {fNs fFr fNs' fFr' : FuncId} {G G' : World → Prop} {ids ids' : List Int} {adj adj' : Int → List Int} (hA : GraphO t recv fNs fFr G ids adj) (hB : GraphO t' recv' fNs' fFr' G' ids' adj') (w : World) (hg : G w) (hg' : G' w)
    (hs : ids.Pairwise (· ≤ ·)) (hs' : ids'.Pairwise (· ≤ ·)) (ha : ∀ x ∈ ids, (adj x).Pairwise (· ≤ ·) ∧ (adj x).length ≤ 1000000) (ha' : ∀ x ∈ ids', (adj' x).Pairwise (· ≤ ·) ∧ (adj' x).length ≤ 1000000) (hn : ids.length ≤ 1000000) (hn' : ids'.length ≤ 1000000) :
    Calls Tryz.prog 84 #[.iface t recv, .iface t' recv'] w fun e w' => e = .returned (.bool (sameS ids ids' adj adj')) ∧ Below w.heap.size w w' := by
  have HA := Lib.hid hA; have HB := Lib.hid hB; have HG := Lib.hid hg; have HG' := Lib.hid hg'
  have HS := Lib.hid hs; have HS' := Lib.hid hs'; have HAD := Lib.hid ha; have HAD' := Lib.hid ha'
  have m1 := hA.mNodes; have m2 := hA.aNodes; have m3 := hA.mFrom; have m4 := hA.aFrom; have m5 := hA.eNodes; have m6 := hA.eFrom
  have m1' := hB.mNodes; have m2' := hB.aNodes; have m3' := hB.mFrom; have m4' := hB.aFrom; have m5' := hB.eNodes; have m6' := hB.eFrom
  clear hA hB hg hg' hs hs' ha ha'
  go_enter Tryz.func84, Tryz.ntmps84
  go_wp2_with fail
  refine (HA.out.nodes w HG.out).mono ?_
  rintro e w1 ⟨p1, rfl, hI1, hb1⟩
  have wI1 := Lib.hid hI1; have wB1 := Lib.hid hb1
  have wlt1 := hI1.lt
  have wge1 : w.heap.size ≤ p1 := by obtain ⟨_, _, _, _, h, _⟩ := hI1; exact h
  clear hI1 hb1
  unfold iterV
  go_wp2_with fail
  refine (HB.out.nodes w1 (HB.out.keeps w w1 HG'.out wB1.out)).mono ?_
  rintro e w2 ⟨p2, rfl, hI2, hb2⟩
  have wI12 := Lib.hid (wI1.out.later hb2); have wI2 := Lib.hid hI2; have wB2 := Lib.hid (wB1.out.trans (hb2.mono wB1.out.size))
  have wlt2 := hI2.lt
  have wge2 : w1.heap.size ≤ p2 := by obtain ⟨_, _, _, _, h, _⟩ := hI2; exact h
  have wsz2 := hb2.size
  clear hI2 hb2 wI1
  unfold iterV
  have wl1 := method_Len p1; have wl2 := ahead_Len p1; have wl3 := method_Len p2; have wl4 := ahead_Len p2
  go_wp2_with fail
  refine (lenIt_calls w.heap.size p1 ids w2 wI12.out).mono ?_
  rintro e w3 ⟨rfl, q3, hq3⟩
  have wI13 : Hid (ItSt w3 w.heap.size p1 0 ids) := by rw [hq3]; exact Lib.hid (wI12.out.later (below_drewN (Below.refl _ _) q3))
  have wI23 : Hid (ItSt w3 w1.heap.size p2 0 ids') := by rw [hq3]; exact Lib.hid (wI2.out.later (below_drewN (Below.refl _ _) q3))
  have wB3 : Hid (Below w.heap.size w w3) := by rw [hq3]; exact below_drewN wB2.out q3
  have wsz3 : w3.heap.size = w2.heap.size := by rw [hq3]; rfl
  clear hq3 wI12 wI2 wB2
  go_wp2_with fail
  refine (lenIt_calls w1.heap.size p2 ids' w3 wI23.out).mono ?_
  rintro e w4 ⟨rfl, q4, hq4⟩
  have wI14 : Hid (ItSt w4 w.heap.size p1 0 ids) := by rw [hq4]; exact Lib.hid (wI13.out.later (below_drewN (Below.refl _ _) q4))
  have wI24 : Hid (ItSt w4 w1.heap.size p2 0 ids') := by rw [hq4]; exact Lib.hid (wI23.out.later (below_drewN (Below.refl _ _) q4))
  have wB4 : Hid (Below w.heap.size w w4) := by rw [hq4]; exact below_drewN wB3.out q4
  have wsz4 : w4.heap.size = w2.heap.size := by rw [hq4]; exact wsz3
  clear hq4 wI13 wI23 wB3 wl1 wl2 wl3 wl4
  by_cases wnn : ¬ ids.length = ids'.length
  · have wne : ((ids.length : Int) == (ids'.length : Int)) = false := by rw [beq_eq_false_iff_ne]; omega
    have wFF : Hid ((ids == ids') = false) := Lib.hid (by rw [beq_eq_false_iff_ne]; intro e; exact wnn (by rw [e]))
    clear wnn
    go_wp2_with fail
    go_ret
    exact ⟨ret_bool (by unfold sameS; rw [wFF.out]; rfl), wB4.out⟩
  have weq : ids'.length = ids.length := by omega
  clear wnn
  obtain ⟨n, hlen⟩ : ∃ x, x = ids.length := ⟨_, rfl⟩
  have wHL := Lib.hid hlen
  rw [← hlen] at weq
  have wsm : n ≤ 1000000 := by rw [hlen]; exact hn
  have wHL2 := Lib.hid weq
  have wne : ((ids.length : Int) == (ids'.length : Int)) = true := by rw [beq_iff_eq]; omega
  clear weq hlen
  go_wp2_with fail
  clear wne
  have hNO1 := nodesOfG_calls w.heap.size p1 ids w4 wI14.out
  unfold iterV at hNO1
  refine hNO1.mono ?_
  rintro e w5 ⟨v1, rfl, ho1, hg5, hv1⟩
  obtain ⟨pa1, pc1, rfl⟩ := own_shape' ho1
  have wI25 : Hid (ItSt w5 w1.heap.size p2 0 ids') := Lib.hid (wI24.out.of_range (fun j h1 h2 => hg5.block j (by omega) (fun e => by have e1 := Option.some.inj e; omega)))
  have wB5 : Hid (Below w.heap.size w w5) := Lib.hid (wB4.out.grown hg5 wB4.out.size (fun j hj => by have e1 := Option.some.inj hj; omega))
  have wO5 := Lib.hid ho1; have wV1 : Hid (∀ g, (Value.slice pa1 ids.length pc1).ownBlock = some g → g < p1) := Lib.hid (by
    obtain ⟨_, hl⟩ : ∃ n, True := ⟨0, trivial⟩
    exact hv1)
  have wsz5 : w2.heap.size ≤ w5.heap.size := by have := hg5.size; omega
  clear ho1 hg5 hv1 hNO1 wI14 wI24 wB4
  go_wp2_with fail
  have hNO2 := nodesOfG_calls w1.heap.size p2 ids' w5 wI25.out
  unfold iterV at hNO2
  refine hNO2.mono ?_
  rintro e w6 ⟨v2, rfl, ho2, hg6, hv2⟩
  obtain ⟨pa2, pc2, rfl⟩ := own_shape' ho2
  have wO16 : Hid (w6.ownsRow w.heap.size 100 1 (.slice pa1 ids.length pc1) ids.length (ids.map nodeV)) := Lib.hid (ownsRow_of_heap wO5.out (fun g hg => hg6.block g (wO5.out.lt g hg).2 (fun e => by have e1 := Option.some.inj e; have := wV1.out g hg; omega)))
  have wB6 : Hid (Below w.heap.size w w6) := Lib.hid (wB5.out.grown hg6 wB5.out.size (fun j hj => by have e1 := Option.some.inj hj; omega))
  have wO26 := Lib.hid ho2
  have wsz6 : w2.heap.size ≤ w6.heap.size := by have := hg6.size; omega
  clear ho2 hg6 hv2 hNO2 wI25 wB5 wO5
  go_wp2_with fail
  refine (byID_calls w.heap.size (.slice pa1 ids.length pc1) ids w6 wO16.out HS.out hn).mono ?_
  rintro e w7 ⟨rfl, ho1, hg7⟩
  have wO27 : Hid (w7.ownsRow w1.heap.size 100 1 (.slice pa2 ids'.length pc2) ids'.length (ids'.map nodeV)) := Lib.hid (ownsRow_of_heap wO26.out (fun g hg => hg7.block g (wO26.out.lt g hg).2 (fun e => by have h1 := wV1.out g e.symm; have h2 := (wO26.out.lt g hg).1; omega)))
  have wB7 : Hid (Below w.heap.size w w7) := Lib.hid (wB6.out.grown hg7 wB6.out.size (fun j hj => (wO16.out.lt j hj).1))
  have wO17 := Lib.hid ho1
  have wsz7 : w2.heap.size ≤ w7.heap.size := by have := hg7.size; omega
  clear ho1 hg7 wO16 wO26 wB6
  go_wp2_with fail
  refine (byID_calls w1.heap.size (.slice pa2 ids'.length pc2) ids' w7 wO27.out HS'.out hn').mono ?_
  rintro e w8 ⟨rfl, ho2, hg8⟩
  have wO18 : Hid (w8.ownsRow w.heap.size 100 1 (.slice pa1 ids.length pc1) ids.length (ids.map nodeV)) := Lib.hid (ownsRow_of_heap wO17.out (fun g hg => hg8.block g (wO17.out.lt g hg).2 (fun e => by have h1 := wV1.out g hg; have h2 := (wO27.out.lt g e.symm).1; omega)))
  have wB8 : Hid (Below w.heap.size w w8) := Lib.hid (wB7.out.grown hg8 wB7.out.size (fun j hj => by have h := (wO27.out.lt j hj).1; omega))
  have wO28 := Lib.hid ho2
  rw [← wHL.out] at wO18
  rw [wHL2.out] at wO28
  clear ho2 hg8 wO17 wO27 wB7 wV1
  rw [← wHL.out, wHL2.out]
  go_wp2_with fail
  go_loopw [38] (fun i wr => ∃ k : Nat, k ≤ n ∧ i = .int .i64 k ∧ Hid (sameS ids ids' adj adj' = ((ids.drop k == ids'.drop k) && (ids.drop k).all fun u => adj u == adj' u)) ∧ Below w8.heap.size w8 wr) (fun i _ => n - (intOf i).toNat)
  case atStart => exact ⟨0, by omega, rfl, Lib.hid (by simp [sameS]), Below.refl _ _⟩
  case round =>
    obtain ⟨k, hk, rfl, HE, hb⟩ := hrel
    obtain ⟨wo, rfl⟩ : ∃ wo : World, wo = wr := ⟨_, rfl⟩
    have hw8 : w.heap.size ≤ w8.heap.size := wB8.out.size
    have hszr := hb.size
    have hwo : w.heap.size ≤ wo.heap.size := by omega
    have HBW : Hid (Below w.heap.size w wo) := wB8.out.trans (hb.mono hw8)
    have HBL := Lib.hid hb
    have HO1 : Hid (wo.ownsRow w.heap.size 100 1 (.slice pa1 n pc1) n (ids.map nodeV)) := Lib.hid (ownsRow_of_heap wO18.out (fun g hg => hb.block g (wO18.out.lt g hg).2))
    have HO2 : Hid (wo.ownsRow w1.heap.size 100 1 (.slice pa2 n pc2) n (ids'.map nodeV)) := Lib.hid (ownsRow_of_heap wO28.out (fun g hg => hb.block g (wO28.out.lt g hg).2))
    clear hb
    by_cases hlt : k < n
    · obtain ⟨gA, rfl, x, HX, hcx⟩ := own_node HO1.out hlt
      obtain ⟨gB, rfl, y, HY, hcy⟩ := own_node HO2.out hlt
      have hkl : k < ids.length := by have := wHL.out; omega
      have hkl' : k < ids'.length := by have := wHL2.out; omega
      have HST : Hid ((ids.drop k == ids'.drop k) = ((x == y) && (ids.drop (k + 1) == ids'.drop (k + 1)))) := Lib.hid (by rw [← HX.out, ← HY.out]; exact beq_step hkl hkl')
      have hxm : x ∈ ids := by rw [← HX.out]; simp [List.getD, hkl]
      have hym : y ∈ ids' := by rw [← HY.out]; simp [List.getD, hkl']
      have HXM := Lib.hid hxm; have HYM := Lib.hid hym
      obtain ⟨F, hF⟩ : ∃ F, F = adj x := ⟨_, rfl⟩
      obtain ⟨F', hF'⟩ : ∃ F', F' = adj' x := ⟨_, rfl⟩
      have HAL : Hid (((ids.drop k).all fun u => adj u == adj' u) = ((F == F') && (ids.drop (k + 1)).all fun u => adj u == adj' u)) := Lib.hid (by rw [hF, hF', ← HX.out]; exact all_step hkl)
      have mi1 := method_ID x; have mi2 := method_ID y
      clear hkl hkl' hxm hym
      go_wp2_with fail
      refine (nodeID_calls x wo).mono ?_
      rintro e wq ⟨rfl, hq⟩
      obtain rfl : wo = wq := hq
      go_wp2_with fail
      refine (nodeID_calls y wo).mono ?_
      rintro e wq ⟨rfl, hq⟩
      obtain rfl : wo = wq := hq
      by_cases hxy : x = y
      · subst hxy
        have HCA : Hid (Calls Tryz.prog fFr #[recv, .int .i64 x] wo (NewIter F wo)) := Lib.hid (by rw [hF]; exact HA.out.frm wo x HXM.out (HA.out.keeps w wo HG.out (HBW.out.mono (Nat.le_refl _))))
        have HCB : Hid (∀ W, Below wo.heap.size wo W → Calls Tryz.prog fFr' #[recv', .int .i64 x] W (NewIter F' W)) := Lib.hid (fun W hW => by rw [hF']; exact HB.out.frm W x HYM.out (HB.out.keeps w W HG'.out (HBW.out.trans (hW.mono hwo))))
        have HPW : Hid (F.Pairwise (· ≤ ·) ∧ F.length ≤ 1000000) := Lib.hid (by rw [hF]; exact HAD.out x HXM.out)
        have HPW' : Hid (F'.Pairwise (· ≤ ·) ∧ F'.length ≤ 1000000) := Lib.hid (by rw [hF']; exact HAD'.out x HYM.out)
        have HFF := Lib.hid hF; have HFF' := Lib.hid hF'
        clear hF hF' HO1 HO2 mi2 hcx hcy
        go_wp2_with fail
        refine (HCA.out).mono ?_
        rintro e vw1 ⟨r1, rfl, hI1, hb1⟩
        have vwI1 := Lib.hid hI1; have vwB1 := Lib.hid hb1
        have vwlt1 := hI1.lt
        have vwge1 : wo.heap.size ≤ r1 := by obtain ⟨_, _, _, _, h, _⟩ := hI1; exact h
        clear hI1 hb1
        unfold iterV
        go_wp2_with fail
        refine (HCB.out vw1 vwB1.out).mono ?_
        rintro e vw2 ⟨r2, rfl, hI2, hb2⟩
        have vwI12 := Lib.hid (vwI1.out.later hb2); have vwI2 := Lib.hid hI2; have vwB2 := Lib.hid (vwB1.out.trans (hb2.mono vwB1.out.size))
        have vwlt2 := hI2.lt
        have vwge2 : vw1.heap.size ≤ r2 := by obtain ⟨_, _, _, _, h, _⟩ := hI2; exact h
        have vwsz2 := hb2.size
        clear hI2 hb2 vwI1
        unfold iterV
        have vwl1 := method_Len r1; have vwl2 := ahead_Len r1; have vwl3 := method_Len r2; have vwl4 := ahead_Len r2
        go_wp2_with fail
        refine (lenIt_calls wo.heap.size r1 F vw2 vwI12.out).mono ?_
        rintro e vw3 ⟨rfl, q3, hq3⟩
        have vwI13 : Hid (ItSt vw3 wo.heap.size r1 0 F) := by rw [hq3]; exact Lib.hid (vwI12.out.later (below_drewN (Below.refl _ _) q3))
        have vwI23 : Hid (ItSt vw3 vw1.heap.size r2 0 F') := by rw [hq3]; exact Lib.hid (vwI2.out.later (below_drewN (Below.refl _ _) q3))
        have vwB3 : Hid (Below wo.heap.size wo vw3) := by rw [hq3]; exact below_drewN vwB2.out q3
        have vwsz3 : vw3.heap.size = vw2.heap.size := by rw [hq3]; rfl
        clear hq3 vwI12 vwI2 vwB2
        go_wp2_with fail
        refine (lenIt_calls vw1.heap.size r2 F' vw3 vwI23.out).mono ?_
        rintro e vw4 ⟨rfl, q4, hq4⟩
        have vwI14 : Hid (ItSt vw4 wo.heap.size r1 0 F) := by rw [hq4]; exact Lib.hid (vwI13.out.later (below_drewN (Below.refl _ _) q4))
        have vwI24 : Hid (ItSt vw4 vw1.heap.size r2 0 F') := by rw [hq4]; exact Lib.hid (vwI23.out.later (below_drewN (Below.refl _ _) q4))
        have vwB4 : Hid (Below wo.heap.size wo vw4) := by rw [hq4]; exact below_drewN vwB3.out q4
        have vwsz4 : vw4.heap.size = vw2.heap.size := by rw [hq4]; exact vwsz3
        clear hq4 vwI13 vwI23 vwB3 vwl1 vwl2 vwl3 vwl4
        by_cases vwnn : ¬ F.length = F'.length
        · have vwne : ((F.length : Int) == (F'.length : Int)) = false := by rw [beq_eq_false_iff_ne]; omega
          have vwFF : Hid ((F == F') = false) := Lib.hid (by rw [beq_eq_false_iff_ne]; intro e; exact vwnn (by rw [e]))
          clear vwnn
          go_wp2_with fail
          go_ret
          exact ⟨ret_bool (by rw [HE.out, HST.out, HAL.out, vwFF.out]; simp), HBW.out.trans (vwB4.out.mono hwo)⟩
        have vweq : F'.length = F.length := by omega
        clear vwnn
        obtain ⟨l, hlel⟩ : ∃ x, x = F.length := ⟨_, rfl⟩
        have vwHL := Lib.hid hlel
        rw [← hlel] at vweq
        have vwsm : l ≤ 1000000 := by rw [hlel]; exact HPW.out.2
        have vwHL2 := Lib.hid vweq
        have vwne : ((F.length : Int) == (F'.length : Int)) = true := by rw [beq_iff_eq]; omega
        clear vweq hlel
        go_wp2_with fail
        clear vwne
        have hNO1 := nodesOfG_calls wo.heap.size r1 F vw4 vwI14.out
        unfold iterV at hNO1
        refine hNO1.mono ?_
        rintro e vw5 ⟨v1, rfl, ho1, hg5, hv1⟩
        obtain ⟨ra1, rc1, rfl⟩ := own_shape' ho1
        have vwI25 : Hid (ItSt vw5 vw1.heap.size r2 0 F') := Lib.hid (vwI24.out.of_range (fun j h1 h2 => hg5.block j (by omega) (fun e => by have e1 := Option.some.inj e; omega)))
        have vwB5 : Hid (Below wo.heap.size wo vw5) := Lib.hid (vwB4.out.grown hg5 vwB4.out.size (fun j hj => by have e1 := Option.some.inj hj; omega))
        have vwO5 := Lib.hid ho1; have vwV1 : Hid (∀ g, (Value.slice ra1 F.length rc1).ownBlock = some g → g < r1) := Lib.hid (by
          obtain ⟨_, hl⟩ : ∃ n, True := ⟨0, trivial⟩
          exact hv1)
        have vwsz5 : vw2.heap.size ≤ vw5.heap.size := by have := hg5.size; omega
        clear ho1 hg5 hv1 hNO1 vwI14 vwI24 vwB4
        go_wp2_with fail
        have hNO2 := nodesOfG_calls vw1.heap.size r2 F' vw5 vwI25.out
        unfold iterV at hNO2
        refine hNO2.mono ?_
        rintro e vw6 ⟨v2, rfl, ho2, hg6, hv2⟩
        obtain ⟨ra2, rc2, rfl⟩ := own_shape' ho2
        have vwO16 : Hid (vw6.ownsRow wo.heap.size 100 1 (.slice ra1 F.length rc1) F.length (F.map nodeV)) := Lib.hid (ownsRow_of_heap vwO5.out (fun g hg => hg6.block g (vwO5.out.lt g hg).2 (fun e => by have e1 := Option.some.inj e; have := vwV1.out g hg; omega)))
        have vwB6 : Hid (Below wo.heap.size wo vw6) := Lib.hid (vwB5.out.grown hg6 vwB5.out.size (fun j hj => by have e1 := Option.some.inj hj; omega))
        have vwO26 := Lib.hid ho2
        have vwsz6 : vw2.heap.size ≤ vw6.heap.size := by have := hg6.size; omega
        clear ho2 hg6 hv2 hNO2 vwI25 vwB5 vwO5
        go_wp2_with fail
        refine (byID_calls wo.heap.size (.slice ra1 F.length rc1) F vw6 vwO16.out HPW.out.1 HPW.out.2).mono ?_
        rintro e vw7 ⟨rfl, ho1, hg7⟩
        have vwO27 : Hid (vw7.ownsRow vw1.heap.size 100 1 (.slice ra2 F'.length rc2) F'.length (F'.map nodeV)) := Lib.hid (ownsRow_of_heap vwO26.out (fun g hg => hg7.block g (vwO26.out.lt g hg).2 (fun e => by have h1 := vwV1.out g e.symm; have h2 := (vwO26.out.lt g hg).1; omega)))
        have vwB7 : Hid (Below wo.heap.size wo vw7) := Lib.hid (vwB6.out.grown hg7 vwB6.out.size (fun j hj => (vwO16.out.lt j hj).1))
        have vwO17 := Lib.hid ho1
        have vwsz7 : vw2.heap.size ≤ vw7.heap.size := by have := hg7.size; omega
        clear ho1 hg7 vwO16 vwO26 vwB6
        go_wp2_with fail
        refine (byID_calls vw1.heap.size (.slice ra2 F'.length rc2) F' vw7 vwO27.out HPW'.out.1 HPW'.out.2).mono ?_
        rintro e vw8 ⟨rfl, ho2, hg8⟩
        have vwO18 : Hid (vw8.ownsRow wo.heap.size 100 1 (.slice ra1 F.length rc1) F.length (F.map nodeV)) := Lib.hid (ownsRow_of_heap vwO17.out (fun g hg => hg8.block g (vwO17.out.lt g hg).2 (fun e => by have h1 := vwV1.out g hg; have h2 := (vwO27.out.lt g e.symm).1; omega)))
        have vwB8 : Hid (Below wo.heap.size wo vw8) := Lib.hid (vwB7.out.grown hg8 vwB7.out.size (fun j hj => by have h := (vwO27.out.lt j hj).1; omega))
        have vwO28 := Lib.hid ho2
        rw [← vwHL.out] at vwO18
        rw [vwHL2.out] at vwO28
        clear ho2 hg8 vwO17 vwO27 vwB7 vwV1
        rw [← vwHL.out, vwHL2.out]
        go_wp2_with fail
        go_loopw [73] (fun i wr => ∃ j : Nat, j ≤ l ∧ i = .int .i64 j ∧ Hid ((F == F') = (F.drop j == F'.drop j)) ∧ wr = vw8) (fun i _ => l - (intOf i).toNat)
        case atStart => exact ⟨0, by omega, rfl, Lib.hid (by simp), rfl⟩
        case round =>
          obtain ⟨j, hj, rfl, HEF, rfl⟩ := hrel
          by_cases hjl : j < l
          · obtain ⟨gC, rfl, z, HZ, hcz⟩ := own_node vwO18.out hjl
            obtain ⟨gD, rfl, z', HZ', hcz'⟩ := own_node vwO28.out hjl
            have HSF : Hid ((F.drop j == F'.drop j) = ((z == z') && (F.drop (j + 1) == F'.drop (j + 1)))) := Lib.hid (by rw [← HZ.out, ← HZ'.out]; exact beq_step (by have := vwHL.out; omega) (by have := vwHL2.out; omega))
            have mi3 := method_ID z; have mi4 := method_ID z'
            go_wp2_with fail
            refine (nodeID_calls z wr).mono ?_
            rintro e wq ⟨rfl, hq⟩
            obtain rfl : wr = wq := hq
            go_wp2_with fail
            refine (nodeID_calls z' wr).mono ?_
            rintro e wq ⟨rfl, hq⟩
            obtain rfl : wr = wq := hq
            by_cases hzz : z = z'
            · subst hzz
              have HN : Hid ((F.drop j == F'.drop j) = (F.drop (j + 1) == F'.drop (j + 1))) := Lib.hid (by rw [HSF.out]; simp)
              clear mi4
              go_wp2_with fail
              go_roundw
              case rel => exact ⟨j + 1, by omega, by go_num, Lib.hid (by rw [HEF.out, HN.out]), by first | rfl | trivial⟩
              case measure => simp [intOf]; omega
            · have hzf : (z == z') = false := beq_eq_false_iff_ne.2 hzz
              have HN : Hid ((F == F') = false) := Lib.hid (by rw [HEF.out, HSF.out, hzf]; rfl)
              clear hzz
              go_wp2_with fail
              go_ret
              exact ⟨ret_bool (by rw [HE.out, HST.out, HAL.out, HN.out]; simp), HBW.out.trans (vwB8.out.mono hwo)⟩
          · have HN : Hid ((F == F') = true) := Lib.hid (by
              rw [HEF.out, List.drop_eq_nil_of_le (by have := vwHL.out; omega), List.drop_eq_nil_of_le (by have := vwHL2.out; omega)]; rfl)
            go_wp2_with fail
            go_roundw
            case rel => exact ⟨k + 1, by omega, by go_num, Lib.hid (by rw [HE.out, HST.out, HAL.out, HN.out]; simp), HBL.out.trans (vwB8.out.mono hszr)⟩
            case measure => simp [intOf]; omega
      · have hxf : (x == y) = false := beq_eq_false_iff_ne.2 hxy
        have HN : Hid (sameS ids ids' adj adj' = false) := Lib.hid (by rw [HE.out, HST.out, hxf]; rfl)
        clear hxy hF hF'
        go_wp2_with fail
        go_ret
        exact ⟨ret_bool HN.out.symm, HBW.out⟩
    · have HN : Hid (sameS ids ids' adj adj' = true) := Lib.hid (by
        rw [HE.out, List.drop_eq_nil_of_le (by have := wHL.out; omega), List.drop_eq_nil_of_le (by have := wHL2.out; omega)]; rfl)
      go_wp2_with fail
      go_ret
      exact ⟨ret_bool HN.out.symm, HBW.out⟩
end Go.Proofs.YtbkoifdnlaihfaaGreat
