/- The walk of FnSortTold. -/
import Derived.Test.YtnfkbjgijelfdaaGreatSortI
import Derived.Test.YtnfkbjgijelfdaaGreatSpecE
import Derived.Test.YtnfkbjgijelfdaaGreatPlain
namespace Go.Proofs.YtnfkbjgijelfdaaGreat
open Go.RowKit

theorem from_node {ns : List Int} {es : List (Int × Int × Int)} (hw : wellB ns es = true) (a b : Int) : b ∈ adjD ns es a ↔ b ∈ fromL true ns es a := by
  rw [mem_adjD]
  unfold fromL
  rw [List.mem_filter]
  refine ⟨fun h => h.2, fun h => ⟨?_, h⟩⟩
  obtain ⟨e, he, h1⟩ := List.any_eq_true.1 h.2
  unfold arcAt at h1
  simp only [Bool.not_true, Bool.false_and, Bool.or_false, Bool.and_eq_true, beq_iff_eq] at h1
  rw [← h1.1]
  exact mem_sortI.2 (well_ends hw e he).1

/-- A walk's components, the last one first, are an order. -/
theorem ordR_of {ns : List Int} {es : List (Int × Int × Int)} {adj : Int → List Int} {s : TS} (hf : TFin (sortI ns) adj s) (hm : ∀ a b, b ∈ adj a ↔ b ∈ fromL true ns es a) : OrdR ns es s.sccs.reverse := by
  have hr := reach_mem hm
  have hfp : s.sccs.reverse.flatten.Perm s.sccs.flatten := (List.reverse_perm s.sccs).flatten
  refine ⟨⟨hfp.nodup_iff.2 hf.nd, fun x => hfp.mem_iff.trans (hf.mem x), fun c hc => hf.ne c (List.mem_reverse.1 hc), fun c hc x hx y => by rw [← hr, ← hr]; exact hf.scc c (List.mem_reverse.1 hc) x hx y⟩, fun i j c c' x y hi hj hx hy hxy => ?_⟩
  have hil := (List.getElem?_eq_some_iff.1 hi).1
  have hjl := (List.getElem?_eq_some_iff.1 hj).1
  rw [List.length_reverse] at hil hjl
  rw [List.getElem?_reverse hil] at hi
  rw [List.getElem?_reverse hjl] at hj
  obtain ⟨q, c2, hq, hq2, hy2⟩ := hf.ord _ c x y hi hx ((hm x y).2 hxy)
  have e : q = s.sccs.length - 1 - j := by
    by_cases e : q = s.sccs.length - 1 - j
    · exact e
    · exact absurd hy (flat_disj hf.nd hq2 hj e y hy2)
  omega

theorem cycs_rev (L : List (List Int)) : ((cycs L).map sortI).reverse = (cycs L.reverse).map sortI := by
  unfold cycs
  rw [List.filter_reverse, List.map_reverse]
theorem cycs_empty {ids : List Int} {adj adj' : Int → List Int} {L L' : List (List Int)} (h : SccL ids adj L) (h' : SccL ids adj' L') (hr : ∀ x y, ReachA adj x y ↔ ReachA adj' x y) : (cycs L).isEmpty = (cycs L').isEmpty := by
  have h1 := (cycs_same h h' hr).length_eq
  rw [List.length_map, List.length_map, List.length_map] at h1
  cases h2 : cycs L <;> cases h3 : cycs L' <;> simp [h2, h3] at h1 ⊢

set_option maxHeartbeats 8000000 in
set_option maxRecDepth 100000 in
theorem lawST_calls (d : Bool) (an ae : Option Addr) (n cn m ce : Nat) (ns : List Int) (es : List (Int × Int × Int)) (w : World) (hn : RdI w an n ns) (hr : RdE w ae m es) (hwf : ∀ x ∈ ns, (Lit.int .i64 x).wf = true) :
    Calls Tryz.prog 4 #[.agg #[.bool d, .slice an n cn, .slice ae m ce]] w fun e w' => e = .returned (.bool true) ∧ Below w.heap.size w w' := by
  have hsn := hn.small; have hsm := hr.small
  have HR := Lib.hid hr; clear hr
  have HN := Lib.hid hn; clear hn
  have HWF := Lib.hid hwf; clear hwf
  go_enter Tryz.func4, Tryz.ntmps4
  go_wp2_with fail
  refine (fits_calls d an ae n cn m ce _ hsn hsm).mono ?_
  rintro e w1 ⟨rfl, hb1⟩
  have HS1 := Lib.hid ((LawSt.start w d an ae n cn m ce).later hb1); clear hb1
  cases hf : decide (n ≤ 2147483647 ∧ m ≤ 2147483647)
  · go_wp2_with fail
    go_ret
    exact ⟨rfl, HS1.out.below⟩
  · clear hf
    have j0 := HS1.out.c0; have j1 := HS1.out.c1; have j2 := HS1.out.c2
    go_wp2_with fail
    refine (fewOf_calls d true an ae n cn m ce 14 ns es _ (by omega) (HN.out.below HS1.out.below (Nat.le_refl _)) (HR.out.below HS1.out.below (Nat.le_refl _))).mono ?_
    rintro e w2 ⟨rfl, hb2⟩
    have HS2 := Lib.hid (HS1.out.later hb2); clear hb2 j0 j1 j2
    have j0 := HS2.out.c0; have j1 := HS2.out.c1; have j2 := HS2.out.c2
    obtain ⟨fb, hfb⟩ : ∃ b, ((d == true) && fewB ns es 14) = b := ⟨_, rfl⟩
    have HFB := Lib.hid hfb
    rw [hfb]
    clear hfb
    cases fb
    · go_wp2_with fail
      go_ret
      exact ⟨rfl, HS2.out.below⟩
    obtain ⟨rfl, hfew⟩ : d = true ∧ fewB ns es 14 = true := by
      have h := HFB.out
      rw [Bool.and_eq_true] at h
      exact ⟨by simpa using h.1, h.2⟩
    obtain ⟨hl25, hel, hwell⟩ := fewB_parts hfew
    have hnl : n ≤ 14 := by have := HN.out.len; omega
    have HWELL := Lib.hid hwell
    clear hfew hwell HFB hl25 hel
    go_wp2_with fail
    refine (implSort_calls an ae n cn m ce ns es _ (HN.out.below HS2.out.below (Nat.le_refl _)) (HR.out.below HS2.out.below (Nat.le_refl _)) (by omega) HWF.out HWELL.out).mono ?_
    rintro e w3 ⟨aO, aC, cO, cC, vs1, s1, rfl, hrun1, ho1, hl1, hb3⟩
    have hf1 := hrun1.fin (ids := sortI ns) adjD_sub (fun _ => Iff.rfl)
    have HOR1 : Hid (OrdR ns es s1.sccs.reverse) := Lib.hid (ordR_of hf1 (from_node HWELL.out))
    have HSC1 := Lib.hid hf1.sccL
    rw [← List.map_reverse] at ho1
    rw [cycs_rev] at hl1
    have HRS1 := Lib.hid (rdS_of_own ho1)
    have HRL1 : Hid (RdL w3 aC (cycs s1.sccs).length ((cycs s1.sccs.reverse).map sortI)) := Lib.hid (LolG.rd hl1)
    have HS3 := Lib.hid (HS2.out.later hb3)
    obtain ⟨b1, hb1⟩ : ∃ b1, b1 = (cycs s1.sccs).isEmpty := ⟨_, rfl⟩
    have HB1 := Lib.hid hb1
    obtain ⟨N1, hN1⟩ : ∃ N1, N1 = s1.sccs.length := ⟨_, rfl⟩
    obtain ⟨M1, hM1⟩ : ∃ M1, M1 = (cycs s1.sccs).length := ⟨_, rfl⟩
    rw [← hb1, ← hN1, ← hM1]
    rw [← hN1] at HRS1
    rw [← hM1] at HRL1
    clear hrun1 ho1 hl1 hb3 hf1 hb1 hN1 hM1 j0 j1 j2
    have j0 := HS3.out.c0; have j1 := HS3.out.c1; have j2 := HS3.out.c2
    go_wp2_with fail
    refine (implSortStab_calls an ae n cn m ce ns es _ (HN.out.below HS3.out.below (Nat.le_refl _)) (HR.out.below HS3.out.below (Nat.le_refl _)) (by omega) HWF.out HWELL.out).mono ?_
    rintro e w4 ⟨aP, aD, cP, cD, vs2, s2, rfl, hrun2, ho2, hl2, hb4⟩
    have hf2 := hrun2.fin (ids := sortI ns) (fun a b hb => adjD_sub a b (mem_sortI.1 (List.mem_reverse.1 hb))) (fun x => by rw [List.mem_reverse, mem_sortI])
    have hm2 : ∀ a b, b ∈ (sortI (adjD ns es a)).reverse ↔ b ∈ fromL true ns es a := fun a b => by rw [List.mem_reverse, mem_sortI]; exact from_node HWELL.out a b
    have HOR2 : Hid (OrdR ns es s2.sccs.reverse) := Lib.hid (ordR_of hf2 hm2)
    have HSC2 := Lib.hid hf2.sccL
    have HEQ : Hid ((cycs s2.sccs).isEmpty = b1) := Lib.hid (by
      rw [HB1.out]
      exact cycs_empty hf2.sccL HSC1.out (fun x y => (reach_mem hm2 x y).trans (reach_mem (from_node HWELL.out) x y).symm))
    rw [← List.map_reverse] at ho2
    rw [cycs_rev] at hl2
    have HRS2 := Lib.hid (rdS_of_own ho2)
    have HRL2 : Hid (RdL w4 aD (cycs s2.sccs).length ((cycs s2.sccs.reverse).map sortI)) := Lib.hid (LolG.rd hl2)
    have HS4 := Lib.hid (HS3.out.later hb4)
    have HRS14 := Lib.hid (HRS1.out.below hb4 (Nat.le_refl _))
    have HRL14 := Lib.hid (HRL1.out.below hb4 (Nat.le_refl _))
    rw [HEQ.out]
    obtain ⟨N2, hN2⟩ : ∃ N2, N2 = s2.sccs.length := ⟨_, rfl⟩
    obtain ⟨M2, hM2⟩ : ∃ M2, M2 = (cycs s2.sccs).length := ⟨_, rfl⟩
    rw [← hN2, ← hM2]
    rw [← hN2] at HRS2
    rw [← hM2] at HRL2
    clear hrun2 ho2 hl2 hb4 hf2 hm2 hN2 hM2 HRS1 HRL1 j0 j1 j2
    have j0 := HS4.out.c0; have j1 := HS4.out.c1; have j2 := HS4.out.c2
    go_wp2_with fail
    refine (acyclic_calls true an ae n cn m ce ns es _ (HN.out.below HS4.out.below (Nat.le_refl _)) (HR.out.below HS4.out.below (Nat.le_refl _)) (by omega)).mono ?_
    rintro e w5 ⟨L5, b5, rfl, hb5e, hsc5, hb5⟩
    have hbb : b5 = b1 := by
      rw [hb5e, hsc5.cy, HB1.out]
      exact (cycs_empty HSC1.out hsc5 (reach_mem (from_node HWELL.out))).symm
    subst hbb
    have HS5 := Lib.hid (HS4.out.later hb5)
    have HRS15 := Lib.hid (HRS14.out.below hb5 (Nat.le_refl _))
    have HRL15 := Lib.hid (HRL14.out.below hb5 (Nat.le_refl _))
    have HRS25 := Lib.hid (HRS2.out.below hb5 (Nat.le_refl _))
    have HRL25 := Lib.hid (HRL2.out.below hb5 (Nat.le_refl _))
    clear hb5e hsc5 hb5 HRS14 HRL14 HRS2 HRL2 j0 j1 j2 HB1 HEQ
    have j0 := HS5.out.c0; have j1 := HS5.out.c1; have j2 := HS5.out.c2
    cases b5
    all_goals
      go_wp2_with fail
      refine (sorted_calls_ an ae aO aC n cn m ce N1 cO M1 cC ns es s1.sccs.reverse w5 (HN.out.below HS5.out.below (Nat.le_refl _)) (HR.out.below HS5.out.below (Nat.le_refl _)) (by omega) HWELL.out HRS15.out HRL15.out HOR1.out).mono ?_
      rintro e w6 ⟨rfl, hb6⟩
      have HS6 := Lib.hid (HS5.out.later hb6)
      have HRS26 := Lib.hid (HRS25.out.below hb6 (Nat.le_refl _))
      have HRL26 := Lib.hid (HRL25.out.below hb6 (Nat.le_refl _))
      clear hb6 j0 j1 j2
      have j0 := HS6.out.c0; have j1 := HS6.out.c1; have j2 := HS6.out.c2
      go_wp2_with fail
      refine (sorted_calls_ an ae aP aD n cn m ce N2 cP M2 cD ns es s2.sccs.reverse w6 (HN.out.below HS6.out.below (Nat.le_refl _)) (HR.out.below HS6.out.below (Nat.le_refl _)) (by omega) HWELL.out HRS26.out HRL26.out HOR2.out).mono ?_
      rintro e w7 ⟨rfl, hb7⟩
      have HS7 := Lib.hid (HS6.out.later hb7)
      clear hb7 j0 j1 j2
      go_wp2_with fail
      go_ret
      exact ⟨rfl, HS7.out.below⟩
end Go.Proofs.YtnfkbjgijelfdaaGreat
