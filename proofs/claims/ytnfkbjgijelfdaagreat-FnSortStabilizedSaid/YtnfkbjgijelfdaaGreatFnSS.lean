/- FnSortStabilized returns true for every input, and its arguments read afterwards as they read before. No condition. -/
import Derived.Test.YtnfkbjgijelfdaaGreatSortI
import Derived.Test.YtnfkbjgijelfdaaGreatOrdd
import Derived.Test.YtnfkbjgijelfdaaGreatRolld
import Derived.Test.YtnfkbjgijelfdaaGreatSlot
import Derived.Test.YtnfkbjgijelfdaaGreatOrdP
import Derived.Test.YtnfkbjgijelfdaaGreatHeldL
import Derived.Test.YtnfkbjgijelfdaaGreatPlain
import Derived.Test.YtnfkbjgijelfdaaGreatRows
import Derived.Test.YtnfkbjgijelfdaaGreatReads
import Derived.ShutString
import Derived.ChangeOld
namespace Go.Proofs.YtnfkbjgijelfdaaGreat
open Go.RowKit

set_option maxHeartbeats 8000000 in
set_option maxRecDepth 100000 in
theorem lawSS_calls (d : Bool) (an ae : Option Addr) (n cn m ce b : Nat) (ns : List Int) (es : List (Int × Int × Int)) (w : World) (hn : RdI w an n ns) (hr : RdE w ae m es) (hwf : ∀ x ∈ ns, (Lit.int .i64 x).wf = true) (hb8 : b < 256) :
    Calls Tryz.prog 5 #[.agg #[.bool d, .slice an n cn, .slice ae m ce], .int .u8 b] w fun e w' => e = .returned (.bool true) ∧ Below w.heap.size w w' := by
  have hsn := hn.small; have hsm := hr.small
  have HR := Lib.hid hr; clear hr
  have HN := Lib.hid hn; clear hn
  have HWF := Lib.hid hwf; clear hwf
  go_enter Tryz.func5, Tryz.ntmps5
  go_wp2_with fail
  refine (fits_calls d an ae n cn m ce _ hsn hsm).mono ?_
  rintro e w1 ⟨rfl, hb1⟩
  have HS1 := Lib.hid ((LawSt.start w d an ae n cn m ce).later hb1); clear hb1
  cases hf : decide (n ≤ 2147483647 ∧ m ≤ 2147483647)
  · go_wp2_with fail
    go_ret
    exact ⟨rfl, HS1.out.below⟩
  · clear hf
    have j0 := HS1.out.c0; have j1 := HS1.out.c1; have j2 := HS1.out.c2
    go_wp2_with fail
    refine (fewOf_calls d true an ae n cn m ce 25 ns es _ (by omega) (HN.out.below HS1.out.below (Nat.le_refl _)) (HR.out.below HS1.out.below (Nat.le_refl _))).mono ?_
    rintro e w2 ⟨rfl, hb2⟩
    have HS2 := Lib.hid (HS1.out.later hb2); clear hb2 j0 j1 j2
    have j0 := HS2.out.c0; have j1 := HS2.out.c1; have j2 := HS2.out.c2
    obtain ⟨fb, hfb⟩ : ∃ b, ((d == true) && fewB ns es 25) = b := ⟨_, rfl⟩
    have HFB := Lib.hid hfb
    rw [hfb]
    clear hfb
    cases fb
    · go_wp2_with fail
      go_ret
      exact ⟨rfl, HS2.out.below⟩
    obtain ⟨rfl, hfew⟩ : d = true ∧ fewB ns es 25 = true := by
      have h := HFB.out
      rw [Bool.and_eq_true] at h
      exact ⟨by simpa using h.1, h.2⟩
    obtain ⟨hl25, hel, hwell⟩ := fewB_parts hfew
    have hnl : n ≤ 25 := by have := HN.out.len; omega
    have HWELL := Lib.hid hwell
    have hml : m ≤ 200 := by have := HR.out.len; omega
    clear hfew hwell HFB hl25 hel
    go_wp2_with fail
    refine (implSortStab_calls an ae n cn m ce ns es _ (HN.out.below HS2.out.below (Nat.le_refl _)) (HR.out.below HS2.out.below (Nat.le_refl _)) (by omega) HWF.out HWELL.out).mono ?_
    rintro e w3 ⟨aO, aC, cO, cC, vs1, s1, rfl, hrun1, ho1, hl1, hb3⟩
    have hf1 := hrun1.fin (ids := sortI ns) (fun a b hb => adjD_sub a b (mem_sortI.1 (List.mem_reverse.1 hb))) (fun x => by rw [List.mem_reverse, mem_sortI])
    have hm1 : ∀ a b, b ∈ (sortI (adjD ns es a)).reverse ↔ b ∈ fromL true ns es a := fun a b => by rw [List.mem_reverse, mem_sortI]; exact from_node HWELL.out a b
    have HOR1 : Hid (OrdR ns es s1.sccs.reverse) := Lib.hid (ordR_of hf1 hm1)
    have HRUN1 := Lib.hid hrun1
    rw [← List.map_reverse] at ho1
    rw [cycs_rev] at hl1
    have HRS1 := Lib.hid (rdS_of_own ho1)
    have HLL1 := Lib.hid hl1
    have HS3 := Lib.hid (HS2.out.later hb3)
    obtain ⟨b1, hb1⟩ : ∃ b1, b1 = (cycs s1.sccs).isEmpty := ⟨_, rfl⟩
    have HB1 := Lib.hid hb1
    obtain ⟨N1, hN1⟩ : ∃ N1, N1 = s1.sccs.length := ⟨_, rfl⟩
    obtain ⟨M1, hM1⟩ : ∃ M1, M1 = (cycs s1.sccs).length := ⟨_, rfl⟩
    have HNE1 := Lib.hid hN1; have HME1 := Lib.hid hM1
    rw [← hb1, ← hN1, ← hM1]
    clear hrun1 ho1 hl1 hb3 hf1 hm1 hb1 hN1 hM1 j0 j1 j2
    have j0 := HS3.out.c0; have j1 := HS3.out.c1; have j2 := HS3.out.c2
    have HB8 := Lib.hid hb8
    have HC1 := Lib.hid j1; have HC2 := Lib.hid j2
    have HSZ : Hid (w.heap.size < w3.heap.size) := Lib.hid HS3.out.size
    have HBD : Hid (Below w3.heap.size w3 w3.drew) := Lib.hid (below_drewN (Below.refl _ _) 1)
    go_upto_region 6 with fail
    refine wp_region_L (by kernel_rfl) (fun w' => w'.cell? ⟨w.heap.size, 1, none⟩ = some (.slice an n cn) ∧ w'.cell? ⟨w.heap.size, 2, none⟩ = some (.slice ae m ce)) [] ⟨j1, j2⟩ (fun hHeld => ?_)
    refine wpAnyL_take (i := 0) (v := ?_) rfl (by kernel_rfl) (by kernel_rfl) (by kernel_rfl) (by kernel_rfl) (fun _ _ _ h => h) (by kernel_rfl) ?_ hHeld ?_
    rotate_left
    · intro w hSw; obtain ⟨hs1, hs2⟩ := hSw; go_simp; all_goals with_reducible rfl
    simp only [Act.put]
    refine wpAnyL_take (i := 1) (v := ?_) rfl (by kernel_rfl) (by kernel_rfl) (by kernel_rfl) (by kernel_rfl) (fun _ _ _ h => h) (by kernel_rfl) ?_ hHeld ?_
    rotate_left
    · intro w hSw; obtain ⟨hs1, hs2⟩ := hSw; go_simp; all_goals with_reducible rfl
    simp only [Act.put]
    refine wpAnyL_take (i := 2) (v := ?_) rfl (by kernel_rfl) (by kernel_rfl) (by kernel_rfl) (by kernel_rfl) (fun _ _ _ h => h) (by kernel_rfl) ?_ hHeld ?_
    rotate_left
    · intro w hSw; obtain ⟨hs1, hs2⟩ := hSw; go_simp; all_goals with_reducible rfl
    simp only [Act.put]
    refine wpAnyL_take (i := 4) (v := ?_) rfl (by kernel_rfl) (by kernel_rfl) (by kernel_rfl) (by kernel_rfl) (fun _ _ _ h => h) (by kernel_rfl) ?_ hHeld ?_
    rotate_left
    · intro w hSw; obtain ⟨hs1, hs2⟩ := hSw; go_simp; all_goals with_reducible rfl
    simp only [Act.put]
    refine wpAnyL_take (i := 5) (v := ?_) rfl (by kernel_rfl) (by kernel_rfl) (by kernel_rfl) (by kernel_rfl) (fun _ _ _ h => h) (by kernel_rfl) ?_ hHeld ?_
    rotate_left
    · intro w hSw; obtain ⟨hs1, hs2⟩ := hSw; go_simp; all_goals with_reducible rfl
    simp only [Act.put]
    refine wpAnyL_take (i := 6) (v := ?_) rfl (by kernel_rfl) (by kernel_rfl) (by kernel_rfl) (by kernel_rfl) (fun _ _ _ h => h) (by kernel_rfl) ?_ hHeld ?_
    rotate_left
    · intro w hSw; obtain ⟨hs1, hs2⟩ := hSw; go_simp; all_goals with_reducible rfl
    simp only [Act.put]
    refine wpAnyL_two (i := 3) (j := 9) rfl rfl (by kernel_rfl) (by kernel_rfl) (by kernel_rfl) (fun K hK => ?_) (fun K hK => ?_)
    · go_simp
      refine (rolledI_calls an n cn b ns w3.drew (HN.out.below (HS3.out.below.trans (HBD.out.mono HS3.out.below.size)) (Nat.le_refl _)) (by omega) HB8.out).mono ?_
      rintro e w4 ⟨v4, nl, rfl, hp4, ho4, hb4⟩
      obtain ⟨a4, c4, rfl⟩ := own_shape' ho4
      have HPN := Lib.hid hp4
      have HRN := Lib.hid (rdi_ownO ho4)
      have HB4 : Hid (Below w3.heap.size w3 w4) := Lib.hid (HBD.out.trans (hb4.mono HBD.out.size))
      clear ho4 hb4 hp4
      clear hHeld
      have hHeld : (fun w' : World => w'.cell? ⟨w.heap.size, 1, none⟩ = some (.slice an n cn) ∧ w'.cell? ⟨w.heap.size, 2, none⟩ = some (.slice ae m ce)) w4 := ⟨(HB4.out.cell (p := ⟨w.heap.size, 1, none⟩) HSZ.out).trans HC1.out, (HB4.out.cell (p := ⟨w.heap.size, 2, none⟩) HSZ.out).trans HC2.out⟩
      refine hK.out _ _ (.inr hHeld) ?_
      clear hK K
      refine wpAnyL_two (i := 7) (j := 9) rfl rfl (by kernel_rfl) (by kernel_rfl) (by kernel_rfl) (fun K hK => ?_) (fun K hK => ?_)
      · go_simp
        refine (rolledE_calls ae m ce b es w4 (HR.out.below (HS3.out.below.trans (HB4.out.mono HS3.out.below.size)) (Nat.le_refl _)) (by omega) HB8.out).mono ?_
        rintro e w5 ⟨v5, el, rfl, hp5, ho5, hb5⟩
        obtain ⟨a5, c5, rfl⟩ := own_shape' ho5
        have HPE := Lib.hid hp5
        have HRE := Lib.hid (rdE_of_own ho5)
        have HB5 : Hid (Below w3.heap.size w3 w5) := Lib.hid (HB4.out.trans (hb5.mono HB4.out.size))
        have HB45 := Lib.hid hb5
        clear ho5 hb5 hp5
        clear hHeld
        have hHeld : (fun w' : World => w'.cell? ⟨w.heap.size, 1, none⟩ = some (.slice an n cn) ∧ w'.cell? ⟨w.heap.size, 2, none⟩ = some (.slice ae m ce)) w5 := ⟨(HB5.out.cell (p := ⟨w.heap.size, 1, none⟩) HSZ.out).trans HC1.out, (HB5.out.cell (p := ⟨w.heap.size, 2, none⟩) HSZ.out).trans HC2.out⟩
        refine hK.out _ _ (.inr hHeld) ?_
        clear hK K
        refine wpAnyL_take (i := 8) (v := ?_) rfl (by kernel_rfl) (by kernel_rfl) (by kernel_rfl) (by kernel_rfl) (fun _ _ _ h => h) (by kernel_rfl) ?_ hHeld ?_
        rotate_left
        · intro w hSw; obtain ⟨hs1, hs2⟩ := hSw; go_simp; all_goals with_reducible rfl
        simp only [Act.put]
        refine wpAnyL_one (i := 9) rfl (by kernel_rfl) (by kernel_rfl) (fun K hK => ?_)
        go_simp
        obtain ⟨bh, hbh⟩ : ∃ bh, bh = w5.heap.size := ⟨_, rfl⟩
        obtain ⟨w6, hw6⟩ : ∃ w6, w6 = w5.alloc (.cells #[.bool false, .slice none 0 0, .slice none 0 0] 25) := ⟨_, rfl⟩
        rw [← hw6, ← hbh]
        have x6 : w6.heap[bh]? = some (.cells #[.bool false, .slice none 0 0, .slice none 0 0] 25 (0, 0)) := by rw [hw6, hbh]; exact heap_alloc_new w5 _
        have HB6 : Hid (Below w3.heap.size w3 w6) := Lib.hid (by rw [hw6]; exact HB5.out.alloc HB5.out.size _)
        have HRE6 : Hid (RdE w6 a5 m el) := Lib.hid (HRE.out.below (by rw [hw6]; exact (Below.refl _ _).alloc (Nat.le_refl _) _) (Nat.le_refl _))
        have hbw : w3.heap.size ≤ bh := by rw [hbh]; exact HB5.out.size
        have HB56 : Hid (Below w5.heap.size w5 w6) := Lib.hid (by rw [hw6]; exact (Below.refl _ _).alloc (Nat.le_refl _) _)
        have hbh5 : w5.heap.size ≤ bh := by rw [hbh]; exact Nat.le_refl _
        clear hw6 hbh
        have g0 : w6.cell? ⟨bh, 0, none⟩ = some (.bool false) := by rw [cell_of_row w6 _ _ _ _ (0, 0) x6]; rfl
        have g1 : w6.cell? ⟨bh, 1, none⟩ = some (.slice none 0 0) := by rw [cell_of_row w6 _ _ _ _ (0, 0) x6]; rfl
        have g2 : w6.cell? ⟨bh, 2, none⟩ = some (.slice none 0 0) := by rw [cell_of_row w6 _ _ _ _ (0, 0) x6]; rfl
        have z0 : w6.frozen? ⟨bh, 0, none⟩ = false := by simp [World.frozen?, x6]
        have z1 : w6.frozen? ⟨bh, 1, none⟩ = false := by simp [World.frozen?, x6]
        have z2 : w6.frozen? ⟨bh, 2, none⟩ = false := by simp [World.frozen?, x6]
        clear hHeld
        have hHeld : (fun w' : World => w'.cell? ⟨w.heap.size, 1, none⟩ = some (.slice an n cn) ∧ w'.cell? ⟨w.heap.size, 2, none⟩ = some (.slice ae m ce)) w6 := ⟨(HB6.out.cell (p := ⟨w.heap.size, 1, none⟩) HSZ.out).trans HC1.out, (HB6.out.cell (p := ⟨w.heap.size, 2, none⟩) HSZ.out).trans HC2.out⟩
        refine hK.out _ _ (.inr hHeld) ?_
        clear hK K
        refine wpAnyL_one (i := 10) rfl (by kernel_rfl) (by kernel_rfl) (fun K hK => ?_)
        go_simp
        obtain ⟨w7, hw7⟩ : ∃ w7, w7 = ((w6.setCell ⟨bh, 0, none⟩ (.bool true)).setCell ⟨bh, 1, none⟩ (.slice a4 n c4)).setCell ⟨bh, 2, none⟩ (.slice a5 m c5) := ⟨_, rfl⟩
        rw [← hw7]
        have x7 : w7.heap[bh]? = some (.cells #[.bool true, .slice a4 n c4, .slice a5 m c5] 25 (0, 0)) := by
          rw [hw7, heap_setCell_same (heap_setCell_same (heap_setCell_same x6 _) _) _]; rfl
        have F7 : Foot (fun j => j = bh) w6 w7 := by
          rw [hw7]; exact Foot.setCell (S := fun j => j = bh) (Foot.setCell (S := fun j => j = bh) (Foot.setCell (S := fun j => j = bh) (Foot.refl _ _) bh 0 _ (.inl rfl)) bh 1 _ (.inl rfl)) bh 2 _ (.inl rfl)
        have HB7 : Hid (Below w3.heap.size w3 w7) := Lib.hid (below_of_foot HB6.out F7 HB6.out.size (fun j hj => by rw [hj]; exact hbw))
        have HB57 : Hid (Below w5.heap.size w5 w7) := Lib.hid (below_of_foot HB56.out F7 HB56.out.size (fun j hj => by rw [hj]; exact hbh5))
        have HRE7 := Lib.hid (HRE.out.below HB57.out (Nat.le_refl _))
        have HRN7 := Lib.hid (HRN.out.below (HB45.out.trans (HB57.out.mono HB45.out.size)) (Nat.le_refl _))
        have HX7 := Lib.hid x7; have HF7 := Lib.hid F7
        clear hw7 x7 F7 g0 g1 g2 z0 z1 z2 x6
        clear hHeld
        have hHeld : (fun w' : World => w'.cell? ⟨w.heap.size, 1, none⟩ = some (.slice an n cn) ∧ w'.cell? ⟨w.heap.size, 2, none⟩ = some (.slice ae m ce)) w7 := ⟨(HB7.out.cell (p := ⟨w.heap.size, 1, none⟩) HSZ.out).trans HC1.out, (HB7.out.cell (p := ⟨w.heap.size, 2, none⟩) HSZ.out).trans HC2.out⟩
        refine hK.out _ _ (.inr hHeld) ?_
        clear hK K
        refine wpAnyL_done (by kernel_rfl) ?_ _
        clear hHeld
        have g0 : w7.cell? ⟨bh, 0, none⟩ = some (.bool true) := by rw [cell_of_row w7 _ _ _ _ (0, 0) HX7.out]; rfl
        have g1 : w7.cell? ⟨bh, 1, none⟩ = some (.slice a4 n c4) := by rw [cell_of_row w7 _ _ _ _ (0, 0) HX7.out]; rfl
        have g2 : w7.cell? ⟨bh, 2, none⟩ = some (.slice a5 m c5) := by rw [cell_of_row w7 _ _ _ _ (0, 0) HX7.out]; rfl
        go_wp2_with fail
        refine (implSortStab_calls a4 a5 n c4 m c5 nl el w7 HRN7.out HRE7.out (by omega) (fun x hx => HWF.out x (HPN.out.mem_iff.1 hx)) (by rw [wellB_perm HPN.out HPE.out]; exact HWELL.out)).mono ?_
        rintro e w8 ⟨aP, aD, cP, cD, vs2, s2, rfl, hrun2, ho2, hl2, hb8e⟩
        rw [adjD_perm HPN.out HPE.out, sortI_ofPerm HPN.out] at hrun2
        obtain rfl := HRUN1.out.det hrun2
        rw [← List.map_reverse] at ho2
        rw [cycs_rev] at hl2
        rw [← HNE1.out] at ho2 ⊢
        rw [← HME1.out] at hl2 ⊢
        rw [← HB1.out]
        have HRS2 := Lib.hid (rdS_of_own ho2)
        have HLL2 := Lib.hid hl2
        have HB8e : Hid (Below w3.heap.size w3 w8) := Lib.hid (HB7.out.trans (hb8e.mono HB7.out.size))
        clear hrun2 ho2 hl2 hb8e g0 g1 g2
        have hcr : cycs s1.sccs.reverse = (cycs s1.sccs).reverse := List.filter_reverse
        have hbe : b1 = (cycs s1.sccs.reverse).isEmpty := by rw [hcr, HB1.out]; cases cycs s1.sccs <;> simp
        have hme : M1 = (cycs s1.sccs.reverse).length := by rw [hcr, List.length_reverse]; exact HME1.out
        have HBE := Lib.hid hbe; have HMM := Lib.hid hme
        clear hcr hbe hme
        have q0 := (HB8e.out.cell (p := ⟨w.heap.size, 0, none⟩) HSZ.out).trans HS3.out.c0
        have q1 := (HB8e.out.cell (p := ⟨w.heap.size, 1, none⟩) HSZ.out).trans HS3.out.c1
        have q2 := (HB8e.out.cell (p := ⟨w.heap.size, 2, none⟩) HSZ.out).trans HS3.out.c2
        have HBW8 : Hid (Below w.heap.size w w8) := Lib.hid (HS3.out.below.trans (HB8e.out.mono HS3.out.below.size))
        have hbb : (b1 != b1) = false := by simp
        go_wp2_with fail
        rw [HBE.out]
        refine (ordered_calls an ae aO aC n cn m ce N1 cO M1 cC _ vs1 ns es s1.sccs.reverse w8 (HN.out.below HBW8.out (Nat.le_refl _)) (HR.out.below HBW8.out (Nat.le_refl _)) (by omega) HWELL.out (by rw [HNE1.out]; exact HRS1.out.below HB8e.out (Nat.le_refl _)) (by rw [HME1.out]; exact HLL1.out.of_heap (fun j hj => HB8e.out.block j (HLL1.out.lt hj).2)) HMM.out HOR1.out).mono ?_
        rintro e w9 ⟨rfl, hb9⟩
        have hbb2 : ((cycs s1.sccs.reverse).isEmpty != (cycs s1.sccs.reverse).isEmpty) = false := by simp
        have hN25 : N1 ≤ n := by
          have h1 := nodup_lenT HOR1.out.scc.nd (fun x hx => (HOR1.out.scc.mem x).1 hx)
          have h2 := len_flat HOR1.out.scc.ne
          rw [sortI_len, HN.out.len] at h1
          rw [List.length_reverse, ← HNE1.out] at h2
          omega
        have HB9 : Hid (Below w3.heap.size w3 w9) := Lib.hid (HB8e.out.trans (hb9.mono HB8e.out.size))
        have HS19 : Hid (RdS w9 aO N1 (s1.sccs.reverse.map slotO)) := Lib.hid (by rw [HNE1.out]; exact HRS1.out.below HB9.out (Nat.le_refl _))
        have HS29 : Hid (RdS w9 aP N1 (s1.sccs.reverse.map slotO)) := Lib.hid (HRS2.out.below hb9 (Nat.le_refl _))
        have HL19 : Hid (RdL w9 aC M1 ((cycs s1.sccs.reverse).map sortI)) := Lib.hid (by rw [HME1.out]; exact (LolG.rd HLL1.out).below HB9.out (Nat.le_refl _))
        have HL29 : Hid (RdL w9 aD M1 ((cycs s1.sccs.reverse).map sortI)) := Lib.hid ((LolG.rd HLL2.out).below hb9 (Nat.le_refl _))
        clear hb9 q0 q1 q2
        go_wp2_with fail
        refine (equalS_calls aO aP N1 cO cP (s1.sccs.reverse.map slotO) w9 HS19.out HS29.out (by omega)).mono ?_
        rintro e w10 ⟨rfl, q10, hw10⟩
        have HB10 : Hid (Below w9.heap.size w9 w10) := Lib.hid (by rw [hw10]; exact below_drewN (Below.refl _ _) q10)
        clear hw10
        go_wp2_with fail
        refine (sameLists_calls aC aD M1 cC cD ((cycs s1.sccs.reverse).map sortI) w10 (HL19.out.below HB10.out (Nat.le_refl _)) (HL29.out.below HB10.out (Nat.le_refl _))).mono ?_
        rintro e w11 ⟨rfl, q11, hw11⟩
        have HB11 : Hid (Below w3.heap.size w3 w11) := Lib.hid (by rw [hw11]; exact below_drewN (HB9.out.trans (HB10.out.mono HB9.out.size)) q11)
        clear hw11 hbb hbb2
        have q0 := (HB11.out.cell (p := ⟨w.heap.size, 0, none⟩) HSZ.out).trans HS3.out.c0
        have q1 := (HB11.out.cell (p := ⟨w.heap.size, 1, none⟩) HSZ.out).trans HS3.out.c1
        have q2 := (HB11.out.cell (p := ⟨w.heap.size, 2, none⟩) HSZ.out).trans HS3.out.c2
        go_wp2_with fail
        have HBW11 : Hid (Below w.heap.size w w11) := Lib.hid (HS3.out.below.trans (HB11.out.mono HS3.out.below.size))
        refine (implSortStab_calls an none n cn 0 0 ns [] w11 (HN.out.below HBW11.out (Nat.le_refl _)) ⟨rfl, by omega, fun h => by omega⟩ (by omega) HWF.out (wellB_nil HWELL.out)).mono ?_
        rintro e w12 ⟨aB, aX, cB, cX, vs3, s3, rfl, hrun3, ho3, -, hb12⟩
        have hsc3 := hrun3.bare (fun x => by rw [adjD_nil, List.eq_nil_of_length_eq_zero (sortI_len [])]; rfl) rfl (by rw [sortI_idem]; exact List.pairwise_reverse.2 ((sort_ltF HWELL.out).imp fun {a b} h => by omega)) (fun _ _ => rfl)
        rw [sortI_idem] at hsc3
        have hmap : (s3.sccs.map slotO).reverse = (sortI ns).map some := by
          rw [hsc3]
          simp [TS.start, List.map_map, Function.comp_def, slotO]
        have hlen3 : s3.sccs.length = n := by rw [hsc3]; simp [TS.start, sortI_len, HN.out.len]
        have hfin : (cycs s3.sccs).isEmpty = true := by rw [hsc3]; simp [TS.start, cycs, cyB]
        rw [hfin]
        rw [hmap] at ho3
        rw [hlen3] at ho3 ⊢
        have HRS3 := Lib.hid (rdS_of_own ho3)
        have HB12 : Hid (Below w3.heap.size w3 w12) := Lib.hid (HB11.out.trans (hb12.mono HB11.out.size))
        clear hrun3 ho3 hb12 hsc3 hmap hlen3 hfin q0 q1 q2
        have q0 := (HB12.out.cell (p := ⟨w.heap.size, 0, none⟩) HSZ.out).trans HS3.out.c0
        have q1 := (HB12.out.cell (p := ⟨w.heap.size, 1, none⟩) HSZ.out).trans HS3.out.c1
        have q2 := (HB12.out.cell (p := ⟨w.heap.size, 2, none⟩) HSZ.out).trans HS3.out.c2
        go_wp2_with fail
        have HBW12 : Hid (Below w.heap.size w w12) := Lib.hid (HS3.out.below.trans (HB12.out.mono HS3.out.below.size))
        refine (sorted_calls an n cn ns w12 (HN.out.below HBW12.out (Nat.le_refl _)) (by omega)).mono ?_
        rintro e w13 ⟨v13, rfl, ho13, hb13⟩
        obtain ⟨a13, c13, rfl⟩ := own_shape' ho13
        have HRW := Lib.hid (rdi_ownO ho13)
        have HRS13 := Lib.hid (HRS3.out.below hb13 (Nat.le_refl _))
        have HB13 : Hid (Below w3.heap.size w3 w13) := Lib.hid (HB12.out.trans (hb13.mono HB12.out.size))
        clear ho13 hb13 q0 q1 q2
        go_wp2_with fail
        go_loopw [19] (fun i wr => ∃ (k q : Nat), k ≤ n ∧ i = .int .i64 k ∧ wr = w13.drewN q) (fun i _ => n - (intOf i).toNat)
        case atStart => exact ⟨0, 0, by omega, rfl, rfl⟩
        case round =>
          obtain ⟨k, q, hk, rfl, rfl⟩ := hrel
          by_cases hlt : k < n
          · obtain ⟨bb, ob, rfl, hbbb, hcb⟩ := HRS13.out.at_ (by omega)
            obtain ⟨o, HOO, r0, r1⟩ := hcb k hlt
            obtain ⟨bw, ow, rfl, hbww, hcw⟩ := HRW.out.at_ (by omega)
            obtain ⟨y, HY, r2⟩ := hcw k hlt
            have hoy : o = some y := by
              have h := HOO.out
              have hk2 : k < (sortI ns).length := by rw [sortI_len, HN.out.len]; exact hlt
              rw [List.getElem?_map, List.getElem?_eq_getElem hk2] at h
              have h2 := HY.out
              rw [List.getD_eq_getElem?_getD, List.getElem?_eq_getElem hk2] at h2
              rw [← Option.some.inj h, ← h2]; rfl
            subst hoy
            replace r0 : w13.cell? ⟨bb, ob + k * 2, none⟩ = some (.bool false) := r0
            replace r1 : w13.cell? ⟨bb, ob + k * 2 + 1, none⟩ = some (.int .i64 y) := r1
            have hd1 : ¬ (n : Int) ≤ (k : Int) := by omega
            have hd2 : decide (n ≤ k) = false := by simp; omega
            clear hcb hcw
            go_wp2_with fail
            go_quiet (fail)
            go_wp2_with fail
            go_roundw
            case rel => exact ⟨k + 1, _, by omega, by go_num, rfl⟩
            case measure => simp [intOf]; omega
          · go_wp2_with fail
            go_ret
            exact ⟨rfl, below_drewN (HS3.out.below.trans (HB13.out.mono HS3.out.below.size)) q⟩
      · go_simp
        obtain ⟨bh, hbh⟩ : ∃ bh, bh = w4.heap.size := ⟨_, rfl⟩
        obtain ⟨w5, hw5⟩ : ∃ w5, w5 = w4.alloc (.cells #[.bool false, .slice none 0 0, .slice none 0 0] 25) := ⟨_, rfl⟩
        rw [← hw5, ← hbh]
        have x5 : w5.heap[bh]? = some (.cells #[.bool false, .slice none 0 0, .slice none 0 0] 25 (0, 0)) := by rw [hw5, hbh]; exact heap_alloc_new (w4) _
        have HB5 : Hid (Below w3.heap.size w3 w5) := Lib.hid (by rw [hw5]; exact HB4.out.alloc HB4.out.size _)
        have hbw : w3.heap.size ≤ bh := by rw [hbh]; exact HB4.out.size
        have HBA : Hid (Below (w4).heap.size (w4) w5) := Lib.hid (by rw [hw5]; exact (Below.refl _ _).alloc (Nat.le_refl _) _)
        have hbh0 : (w4).heap.size ≤ bh := by rw [hbh]; exact Nat.le_refl _
        have hbh1 : bh < w5.heap.size := (Array.getElem?_eq_some_iff.1 x5).1
        clear hw5 hbh
        clear hHeld
        have hHeld : (fun w' : World => w'.cell? ⟨w.heap.size, 1, none⟩ = some (.slice an n cn) ∧ w'.cell? ⟨w.heap.size, 2, none⟩ = some (.slice ae m ce)) w5 := ⟨(HB5.out.cell (p := ⟨w.heap.size, 1, none⟩) HSZ.out).trans HC1.out, (HB5.out.cell (p := ⟨w.heap.size, 2, none⟩) HSZ.out).trans HC2.out⟩
        refine hK.out _ _ (.inr hHeld) ?_
        clear hK K
        refine wpAnyL_one (i := 7) rfl (by kernel_rfl) (by kernel_rfl) (fun K hK => ?_)
        go_simp
        refine (rolledE_calls ae m ce b es w5 (HR.out.below (HS3.out.below.trans (HB5.out.mono HS3.out.below.size)) (Nat.le_refl _)) (by omega) HB8.out).mono ?_
        rintro e w6 ⟨v6, el, rfl, hp5, ho5, hb5⟩
        obtain ⟨a5, c5, rfl⟩ := own_shape' ho5
        have HPE := Lib.hid hp5
        have HRE := Lib.hid (rdE_of_own ho5)
        have HB6 : Hid (Below w3.heap.size w3 w6) := Lib.hid (HB5.out.trans (hb5.mono HB5.out.size))
        have HO6 := Lib.hid ho5
        have hb56 := hb5
        have x6 : w6.heap[bh]? = some (.cells #[.bool false, .slice none 0 0, .slice none 0 0] 25 (0, 0)) := by rw [hb56.block bh hbh1]; exact x5
        have HB46 : Hid (Below w4.heap.size w4 w6) := Lib.hid (HBA.out.trans (hb56.mono HBA.out.size))
        clear ho5 hb5 hb56 hp5 x5
        clear hHeld
        have hHeld : (fun w' : World => w'.cell? ⟨w.heap.size, 1, none⟩ = some (.slice an n cn) ∧ w'.cell? ⟨w.heap.size, 2, none⟩ = some (.slice ae m ce)) w6 := ⟨(HB6.out.cell (p := ⟨w.heap.size, 1, none⟩) HSZ.out).trans HC1.out, (HB6.out.cell (p := ⟨w.heap.size, 2, none⟩) HSZ.out).trans HC2.out⟩
        refine hK.out _ _ (.inr hHeld) ?_
        clear hK K
        refine wpAnyL_take (i := 8) (v := ?_) rfl (by kernel_rfl) (by kernel_rfl) (by kernel_rfl) (by kernel_rfl) (fun _ _ _ h => h) (by kernel_rfl) ?_ hHeld ?_
        rotate_left
        · intro w hSw; obtain ⟨hs1, hs2⟩ := hSw; go_simp; all_goals with_reducible rfl
        simp only [Act.put]
        have g0 : w6.cell? ⟨bh, 0, none⟩ = some (.bool false) := by rw [cell_of_row w6 _ _ _ _ (0, 0) x6]; rfl
        have g1 : w6.cell? ⟨bh, 1, none⟩ = some (.slice none 0 0) := by rw [cell_of_row w6 _ _ _ _ (0, 0) x6]; rfl
        have g2 : w6.cell? ⟨bh, 2, none⟩ = some (.slice none 0 0) := by rw [cell_of_row w6 _ _ _ _ (0, 0) x6]; rfl
        have z0 : w6.frozen? ⟨bh, 0, none⟩ = false := by simp [World.frozen?, x6]
        have z1 : w6.frozen? ⟨bh, 1, none⟩ = false := by simp [World.frozen?, x6]
        have z2 : w6.frozen? ⟨bh, 2, none⟩ = false := by simp [World.frozen?, x6]
        refine wpAnyL_one (i := 10) rfl (by kernel_rfl) (by kernel_rfl) (fun K hK => ?_)
        go_simp
        obtain ⟨w7, hw7⟩ : ∃ w7, w7 = ((w6.setCell ⟨bh, 0, none⟩ (.bool true)).setCell ⟨bh, 1, none⟩ (.slice a4 n c4)).setCell ⟨bh, 2, none⟩ (.slice a5 m c5) := ⟨_, rfl⟩
        rw [← hw7]
        have x7 : w7.heap[bh]? = some (.cells #[.bool true, .slice a4 n c4, .slice a5 m c5] 25 (0, 0)) := by
          rw [hw7, heap_setCell_same (heap_setCell_same (heap_setCell_same x6 _) _) _]; rfl
        have F7 : Foot (fun j => j = bh) w6 w7 := by
          rw [hw7]; exact Foot.setCell (S := fun j => j = bh) (Foot.setCell (S := fun j => j = bh) (Foot.setCell (S := fun j => j = bh) (Foot.refl _ _) bh 0 _ (.inl rfl)) bh 1 _ (.inl rfl)) bh 2 _ (.inl rfl)
        have HB7 : Hid (Below w3.heap.size w3 w7) := Lib.hid (below_of_foot HB6.out F7 HB6.out.size (fun j hj => by rw [hj]; exact hbw))
        have HRN7 : Hid (RdI w7 a4 n nl) := Lib.hid (HRN.out.below (below_of_foot HB46.out F7 HB46.out.size (fun j hj => by rw [hj]; exact hbh0)) (Nat.le_refl _))
        have HRE7 : Hid (RdE w7 a5 m el) := Lib.hid (rdE_of_own (B := w5.heap.size) (by rw [hw7]; exact ownsRow_setCell_below (ownsRow_setCell_below (ownsRow_setCell_below HO6.out hbh1 _) hbh1 _) hbh1 _))
        have HX7 := Lib.hid x7; have HF7 := Lib.hid F7
        clear hw7 x7 F7 g0 g1 g2 z0 z1 z2 x6
        clear hHeld
        have hHeld : (fun w' : World => w'.cell? ⟨w.heap.size, 1, none⟩ = some (.slice an n cn) ∧ w'.cell? ⟨w.heap.size, 2, none⟩ = some (.slice ae m ce)) w7 := ⟨(HB7.out.cell (p := ⟨w.heap.size, 1, none⟩) HSZ.out).trans HC1.out, (HB7.out.cell (p := ⟨w.heap.size, 2, none⟩) HSZ.out).trans HC2.out⟩
        refine hK.out _ _ (.inr hHeld) ?_
        clear hK K
        refine wpAnyL_done (by kernel_rfl) ?_ _
        clear hHeld
        have g0 : w7.cell? ⟨bh, 0, none⟩ = some (.bool true) := by rw [cell_of_row w7 _ _ _ _ (0, 0) HX7.out]; rfl
        have g1 : w7.cell? ⟨bh, 1, none⟩ = some (.slice a4 n c4) := by rw [cell_of_row w7 _ _ _ _ (0, 0) HX7.out]; rfl
        have g2 : w7.cell? ⟨bh, 2, none⟩ = some (.slice a5 m c5) := by rw [cell_of_row w7 _ _ _ _ (0, 0) HX7.out]; rfl
        go_wp2_with fail
        refine (implSortStab_calls a4 a5 n c4 m c5 nl el w7 HRN7.out HRE7.out (by omega) (fun x hx => HWF.out x (HPN.out.mem_iff.1 hx)) (by rw [wellB_perm HPN.out HPE.out]; exact HWELL.out)).mono ?_
        rintro e w8 ⟨aP, aD, cP, cD, vs2, s2, rfl, hrun2, ho2, hl2, hb8e⟩
        rw [adjD_perm HPN.out HPE.out, sortI_ofPerm HPN.out] at hrun2
        obtain rfl := HRUN1.out.det hrun2
        rw [← List.map_reverse] at ho2
        rw [cycs_rev] at hl2
        rw [← HNE1.out] at ho2 ⊢
        rw [← HME1.out] at hl2 ⊢
        rw [← HB1.out]
        have HRS2 := Lib.hid (rdS_of_own ho2)
        have HLL2 := Lib.hid hl2
        have HB8e : Hid (Below w3.heap.size w3 w8) := Lib.hid (HB7.out.trans (hb8e.mono HB7.out.size))
        clear hrun2 ho2 hl2 hb8e g0 g1 g2
        have hcr : cycs s1.sccs.reverse = (cycs s1.sccs).reverse := List.filter_reverse
        have hbe : b1 = (cycs s1.sccs.reverse).isEmpty := by rw [hcr, HB1.out]; cases cycs s1.sccs <;> simp
        have hme : M1 = (cycs s1.sccs.reverse).length := by rw [hcr, List.length_reverse]; exact HME1.out
        have HBE := Lib.hid hbe; have HMM := Lib.hid hme
        clear hcr hbe hme
        have q0 := (HB8e.out.cell (p := ⟨w.heap.size, 0, none⟩) HSZ.out).trans HS3.out.c0
        have q1 := (HB8e.out.cell (p := ⟨w.heap.size, 1, none⟩) HSZ.out).trans HS3.out.c1
        have q2 := (HB8e.out.cell (p := ⟨w.heap.size, 2, none⟩) HSZ.out).trans HS3.out.c2
        have HBW8 : Hid (Below w.heap.size w w8) := Lib.hid (HS3.out.below.trans (HB8e.out.mono HS3.out.below.size))
        have hbb : (b1 != b1) = false := by simp
        go_wp2_with fail
        rw [HBE.out]
        refine (ordered_calls an ae aO aC n cn m ce N1 cO M1 cC _ vs1 ns es s1.sccs.reverse w8 (HN.out.below HBW8.out (Nat.le_refl _)) (HR.out.below HBW8.out (Nat.le_refl _)) (by omega) HWELL.out (by rw [HNE1.out]; exact HRS1.out.below HB8e.out (Nat.le_refl _)) (by rw [HME1.out]; exact HLL1.out.of_heap (fun j hj => HB8e.out.block j (HLL1.out.lt hj).2)) HMM.out HOR1.out).mono ?_
        rintro e w9 ⟨rfl, hb9⟩
        have hbb2 : ((cycs s1.sccs.reverse).isEmpty != (cycs s1.sccs.reverse).isEmpty) = false := by simp
        have hN25 : N1 ≤ n := by
          have h1 := nodup_lenT HOR1.out.scc.nd (fun x hx => (HOR1.out.scc.mem x).1 hx)
          have h2 := len_flat HOR1.out.scc.ne
          rw [sortI_len, HN.out.len] at h1
          rw [List.length_reverse, ← HNE1.out] at h2
          omega
        have HB9 : Hid (Below w3.heap.size w3 w9) := Lib.hid (HB8e.out.trans (hb9.mono HB8e.out.size))
        have HS19 : Hid (RdS w9 aO N1 (s1.sccs.reverse.map slotO)) := Lib.hid (by rw [HNE1.out]; exact HRS1.out.below HB9.out (Nat.le_refl _))
        have HS29 : Hid (RdS w9 aP N1 (s1.sccs.reverse.map slotO)) := Lib.hid (HRS2.out.below hb9 (Nat.le_refl _))
        have HL19 : Hid (RdL w9 aC M1 ((cycs s1.sccs.reverse).map sortI)) := Lib.hid (by rw [HME1.out]; exact (LolG.rd HLL1.out).below HB9.out (Nat.le_refl _))
        have HL29 : Hid (RdL w9 aD M1 ((cycs s1.sccs.reverse).map sortI)) := Lib.hid ((LolG.rd HLL2.out).below hb9 (Nat.le_refl _))
        clear hb9 q0 q1 q2
        go_wp2_with fail
        refine (equalS_calls aO aP N1 cO cP (s1.sccs.reverse.map slotO) w9 HS19.out HS29.out (by omega)).mono ?_
        rintro e w10 ⟨rfl, q10, hw10⟩
        have HB10 : Hid (Below w9.heap.size w9 w10) := Lib.hid (by rw [hw10]; exact below_drewN (Below.refl _ _) q10)
        clear hw10
        go_wp2_with fail
        refine (sameLists_calls aC aD M1 cC cD ((cycs s1.sccs.reverse).map sortI) w10 (HL19.out.below HB10.out (Nat.le_refl _)) (HL29.out.below HB10.out (Nat.le_refl _))).mono ?_
        rintro e w11 ⟨rfl, q11, hw11⟩
        have HB11 : Hid (Below w3.heap.size w3 w11) := Lib.hid (by rw [hw11]; exact below_drewN (HB9.out.trans (HB10.out.mono HB9.out.size)) q11)
        clear hw11 hbb hbb2
        have q0 := (HB11.out.cell (p := ⟨w.heap.size, 0, none⟩) HSZ.out).trans HS3.out.c0
        have q1 := (HB11.out.cell (p := ⟨w.heap.size, 1, none⟩) HSZ.out).trans HS3.out.c1
        have q2 := (HB11.out.cell (p := ⟨w.heap.size, 2, none⟩) HSZ.out).trans HS3.out.c2
        go_wp2_with fail
        have HBW11 : Hid (Below w.heap.size w w11) := Lib.hid (HS3.out.below.trans (HB11.out.mono HS3.out.below.size))
        refine (implSortStab_calls an none n cn 0 0 ns [] w11 (HN.out.below HBW11.out (Nat.le_refl _)) ⟨rfl, by omega, fun h => by omega⟩ (by omega) HWF.out (wellB_nil HWELL.out)).mono ?_
        rintro e w12 ⟨aB, aX, cB, cX, vs3, s3, rfl, hrun3, ho3, -, hb12⟩
        have hsc3 := hrun3.bare (fun x => by rw [adjD_nil, List.eq_nil_of_length_eq_zero (sortI_len [])]; rfl) rfl (by rw [sortI_idem]; exact List.pairwise_reverse.2 ((sort_ltF HWELL.out).imp fun {a b} h => by omega)) (fun _ _ => rfl)
        rw [sortI_idem] at hsc3
        have hmap : (s3.sccs.map slotO).reverse = (sortI ns).map some := by
          rw [hsc3]
          simp [TS.start, List.map_map, Function.comp_def, slotO]
        have hlen3 : s3.sccs.length = n := by rw [hsc3]; simp [TS.start, sortI_len, HN.out.len]
        have hfin : (cycs s3.sccs).isEmpty = true := by rw [hsc3]; simp [TS.start, cycs, cyB]
        rw [hfin]
        rw [hmap] at ho3
        rw [hlen3] at ho3 ⊢
        have HRS3 := Lib.hid (rdS_of_own ho3)
        have HB12 : Hid (Below w3.heap.size w3 w12) := Lib.hid (HB11.out.trans (hb12.mono HB11.out.size))
        clear hrun3 ho3 hb12 hsc3 hmap hlen3 hfin q0 q1 q2
        have q0 := (HB12.out.cell (p := ⟨w.heap.size, 0, none⟩) HSZ.out).trans HS3.out.c0
        have q1 := (HB12.out.cell (p := ⟨w.heap.size, 1, none⟩) HSZ.out).trans HS3.out.c1
        have q2 := (HB12.out.cell (p := ⟨w.heap.size, 2, none⟩) HSZ.out).trans HS3.out.c2
        go_wp2_with fail
        have HBW12 : Hid (Below w.heap.size w w12) := Lib.hid (HS3.out.below.trans (HB12.out.mono HS3.out.below.size))
        refine (sorted_calls an n cn ns w12 (HN.out.below HBW12.out (Nat.le_refl _)) (by omega)).mono ?_
        rintro e w13 ⟨v13, rfl, ho13, hb13⟩
        obtain ⟨a13, c13, rfl⟩ := own_shape' ho13
        have HRW := Lib.hid (rdi_ownO ho13)
        have HRS13 := Lib.hid (HRS3.out.below hb13 (Nat.le_refl _))
        have HB13 : Hid (Below w3.heap.size w3 w13) := Lib.hid (HB12.out.trans (hb13.mono HB12.out.size))
        clear ho13 hb13 q0 q1 q2
        go_wp2_with fail
        go_loopw [19] (fun i wr => ∃ (k q : Nat), k ≤ n ∧ i = .int .i64 k ∧ wr = w13.drewN q) (fun i _ => n - (intOf i).toNat)
        case atStart => exact ⟨0, 0, by omega, rfl, rfl⟩
        case round =>
          obtain ⟨k, q, hk, rfl, rfl⟩ := hrel
          by_cases hlt : k < n
          · obtain ⟨bb, ob, rfl, hbbb, hcb⟩ := HRS13.out.at_ (by omega)
            obtain ⟨o, HOO, r0, r1⟩ := hcb k hlt
            obtain ⟨bw, ow, rfl, hbww, hcw⟩ := HRW.out.at_ (by omega)
            obtain ⟨y, HY, r2⟩ := hcw k hlt
            have hoy : o = some y := by
              have h := HOO.out
              have hk2 : k < (sortI ns).length := by rw [sortI_len, HN.out.len]; exact hlt
              rw [List.getElem?_map, List.getElem?_eq_getElem hk2] at h
              have h2 := HY.out
              rw [List.getD_eq_getElem?_getD, List.getElem?_eq_getElem hk2] at h2
              rw [← Option.some.inj h, ← h2]; rfl
            subst hoy
            replace r0 : w13.cell? ⟨bb, ob + k * 2, none⟩ = some (.bool false) := r0
            replace r1 : w13.cell? ⟨bb, ob + k * 2 + 1, none⟩ = some (.int .i64 y) := r1
            have hd1 : ¬ (n : Int) ≤ (k : Int) := by omega
            have hd2 : decide (n ≤ k) = false := by simp; omega
            clear hcb hcw
            go_wp2_with fail
            go_quiet (fail)
            go_wp2_with fail
            go_roundw
            case rel => exact ⟨k + 1, _, by omega, by go_num, rfl⟩
            case measure => simp [intOf]; omega
          · go_wp2_with fail
            go_ret
            exact ⟨rfl, below_drewN (HS3.out.below.trans (HB13.out.mono HS3.out.below.size)) q⟩
    · go_simp
      obtain ⟨bh, hbh⟩ : ∃ bh, bh = w3.heap.size := ⟨_, rfl⟩
      obtain ⟨w4, hw4⟩ : ∃ w4, w4 = (w3.alloc (.cells #[.bool false, .slice none 0 0, .slice none 0 0] 25)).drew := ⟨_, rfl⟩
      rw [← hw4, ← hbh]
      have x4 : w4.heap[bh]? = some (.cells #[.bool false, .slice none 0 0, .slice none 0 0] 25 (0, 0)) := by rw [hw4, hbh]; exact heap_alloc_new (w3) _
      have HB4 : Hid (Below w3.heap.size w3 w4) := Lib.hid (by rw [hw4]; exact ((Below.refl w3.heap.size w3).alloc (Nat.le_refl _) _).drew)
      have hbw : w3.heap.size ≤ bh := by rw [hbh]; exact (Below.refl w3.heap.size w3).size
      have HBA : Hid (Below (w3).heap.size (w3) w4) := Lib.hid (by rw [hw4]; exact ((Below.refl _ _).alloc (Nat.le_refl _) _).drew)
      have hbh0 : (w3).heap.size ≤ bh := by rw [hbh]; exact Nat.le_refl _
      have hbh1 : bh < w4.heap.size := (Array.getElem?_eq_some_iff.1 x4).1
      clear hw4 hbh
      clear hHeld
      have hHeld : (fun w' : World => w'.cell? ⟨w.heap.size, 1, none⟩ = some (.slice an n cn) ∧ w'.cell? ⟨w.heap.size, 2, none⟩ = some (.slice ae m ce)) w4 := ⟨(HB4.out.cell (p := ⟨w.heap.size, 1, none⟩) HSZ.out).trans HC1.out, (HB4.out.cell (p := ⟨w.heap.size, 2, none⟩) HSZ.out).trans HC2.out⟩
      refine hK.out _ _ (.inr hHeld) ?_
      clear hK K
      refine wpAnyL_one (i := 3) rfl (by kernel_rfl) (by kernel_rfl) (fun K hK => ?_)
      go_simp
      refine (rolledI_calls an n cn b ns w4 (HN.out.below (HS3.out.below.trans (HB4.out.mono HS3.out.below.size)) (Nat.le_refl _)) (by omega) HB8.out).mono ?_
      rintro e w5 ⟨v5, nl, rfl, hp4, ho4, hb4⟩
      obtain ⟨a4, c4, rfl⟩ := own_shape' ho4
      have HPN := Lib.hid hp4
      skip
      have HB5 : Hid (Below w3.heap.size w3 w5) := Lib.hid (HB4.out.trans (hb4.mono HB4.out.size))
      have HO5 := Lib.hid ho4; have HB45 := Lib.hid hb4
      clear ho4 hb4 hp4
      clear hHeld
      have hHeld : (fun w' : World => w'.cell? ⟨w.heap.size, 1, none⟩ = some (.slice an n cn) ∧ w'.cell? ⟨w.heap.size, 2, none⟩ = some (.slice ae m ce)) w5 := ⟨(HB5.out.cell (p := ⟨w.heap.size, 1, none⟩) HSZ.out).trans HC1.out, (HB5.out.cell (p := ⟨w.heap.size, 2, none⟩) HSZ.out).trans HC2.out⟩
      refine hK.out _ _ (.inr hHeld) ?_
      clear hK K
      refine wpAnyL_one (i := 7) rfl (by kernel_rfl) (by kernel_rfl) (fun K hK => ?_)
      go_simp
      refine (rolledE_calls ae m ce b es w5 (HR.out.below (HS3.out.below.trans (HB5.out.mono HS3.out.below.size)) (Nat.le_refl _)) (by omega) HB8.out).mono ?_
      rintro e w6 ⟨v6, el, rfl, hp5, ho5, hb5⟩
      obtain ⟨a5, c5, rfl⟩ := own_shape' ho5
      have HPE := Lib.hid hp5
      have HRE := Lib.hid (rdE_of_own ho5)
      have HB6 : Hid (Below w3.heap.size w3 w6) := Lib.hid (HB5.out.trans (hb5.mono HB5.out.size))
      have HO6 := Lib.hid ho5
      have hb56 := hb5
      have x6 : w6.heap[bh]? = some (.cells #[.bool false, .slice none 0 0, .slice none 0 0] 25 (0, 0)) := by rw [hb56.block bh (Nat.lt_of_lt_of_le hbh1 HB45.out.size), HB45.out.block bh hbh1]; exact x4
      have hbh5 : bh < w5.heap.size := Nat.lt_of_lt_of_le hbh1 HB45.out.size
      have HO56 : Hid (w6.ownsRow w4.heap.size 3 1 (.slice a4 n c4) n (nl.map (Value.int .i64))) := Lib.hid (ownsRow_of_heap HO5.out fun g hg => hb56.block g (HO5.out.lt g hg).2)
      clear ho5 hb5 hb56 hp5 x4
      clear hHeld
      have hHeld : (fun w' : World => w'.cell? ⟨w.heap.size, 1, none⟩ = some (.slice an n cn) ∧ w'.cell? ⟨w.heap.size, 2, none⟩ = some (.slice ae m ce)) w6 := ⟨(HB6.out.cell (p := ⟨w.heap.size, 1, none⟩) HSZ.out).trans HC1.out, (HB6.out.cell (p := ⟨w.heap.size, 2, none⟩) HSZ.out).trans HC2.out⟩
      refine hK.out _ _ (.inr hHeld) ?_
      clear hK K
      refine wpAnyL_take (i := 8) (v := ?_) rfl (by kernel_rfl) (by kernel_rfl) (by kernel_rfl) (by kernel_rfl) (fun _ _ _ h => h) (by kernel_rfl) ?_ hHeld ?_
      rotate_left
      · intro w hSw; obtain ⟨hs1, hs2⟩ := hSw; go_simp; all_goals with_reducible rfl
      simp only [Act.put]
      have g0 : w6.cell? ⟨bh, 0, none⟩ = some (.bool false) := by rw [cell_of_row w6 _ _ _ _ (0, 0) x6]; rfl
      have g1 : w6.cell? ⟨bh, 1, none⟩ = some (.slice none 0 0) := by rw [cell_of_row w6 _ _ _ _ (0, 0) x6]; rfl
      have g2 : w6.cell? ⟨bh, 2, none⟩ = some (.slice none 0 0) := by rw [cell_of_row w6 _ _ _ _ (0, 0) x6]; rfl
      have z0 : w6.frozen? ⟨bh, 0, none⟩ = false := by simp [World.frozen?, x6]
      have z1 : w6.frozen? ⟨bh, 1, none⟩ = false := by simp [World.frozen?, x6]
      have z2 : w6.frozen? ⟨bh, 2, none⟩ = false := by simp [World.frozen?, x6]
      refine wpAnyL_one (i := 10) rfl (by kernel_rfl) (by kernel_rfl) (fun K hK => ?_)
      go_simp
      obtain ⟨w7, hw7⟩ : ∃ w7, w7 = ((w6.setCell ⟨bh, 0, none⟩ (.bool true)).setCell ⟨bh, 1, none⟩ (.slice a4 n c4)).setCell ⟨bh, 2, none⟩ (.slice a5 m c5) := ⟨_, rfl⟩
      rw [← hw7]
      have x7 : w7.heap[bh]? = some (.cells #[.bool true, .slice a4 n c4, .slice a5 m c5] 25 (0, 0)) := by
        rw [hw7, heap_setCell_same (heap_setCell_same (heap_setCell_same x6 _) _) _]; rfl
      have F7 : Foot (fun j => j = bh) w6 w7 := by
        rw [hw7]; exact Foot.setCell (S := fun j => j = bh) (Foot.setCell (S := fun j => j = bh) (Foot.setCell (S := fun j => j = bh) (Foot.refl _ _) bh 0 _ (.inl rfl)) bh 1 _ (.inl rfl)) bh 2 _ (.inl rfl)
      have HB7 : Hid (Below w3.heap.size w3 w7) := Lib.hid (below_of_foot HB6.out F7 HB6.out.size (fun j hj => by rw [hj]; exact hbw))
      have HRN7 : Hid (RdI w7 a4 n nl) := Lib.hid (rdi_ownO (B := w4.heap.size) (by rw [hw7]; exact ownsRow_setCell_below (ownsRow_setCell_below (ownsRow_setCell_below HO56.out hbh1 _) hbh1 _) hbh1 _))
      have HRE7 : Hid (RdE w7 a5 m el) := Lib.hid (rdE_of_own (B := w5.heap.size) (by rw [hw7]; exact ownsRow_setCell_below (ownsRow_setCell_below (ownsRow_setCell_below HO6.out hbh5 _) hbh5 _) hbh5 _))
      have HX7 := Lib.hid x7; have HF7 := Lib.hid F7
      clear hw7 x7 F7 g0 g1 g2 z0 z1 z2 x6
      clear hHeld
      have hHeld : (fun w' : World => w'.cell? ⟨w.heap.size, 1, none⟩ = some (.slice an n cn) ∧ w'.cell? ⟨w.heap.size, 2, none⟩ = some (.slice ae m ce)) w7 := ⟨(HB7.out.cell (p := ⟨w.heap.size, 1, none⟩) HSZ.out).trans HC1.out, (HB7.out.cell (p := ⟨w.heap.size, 2, none⟩) HSZ.out).trans HC2.out⟩
      refine hK.out _ _ (.inr hHeld) ?_
      clear hK K
      refine wpAnyL_done (by kernel_rfl) ?_ _
      clear hHeld
      have g0 : w7.cell? ⟨bh, 0, none⟩ = some (.bool true) := by rw [cell_of_row w7 _ _ _ _ (0, 0) HX7.out]; rfl
      have g1 : w7.cell? ⟨bh, 1, none⟩ = some (.slice a4 n c4) := by rw [cell_of_row w7 _ _ _ _ (0, 0) HX7.out]; rfl
      have g2 : w7.cell? ⟨bh, 2, none⟩ = some (.slice a5 m c5) := by rw [cell_of_row w7 _ _ _ _ (0, 0) HX7.out]; rfl
      go_wp2_with fail
      refine (implSortStab_calls a4 a5 n c4 m c5 nl el w7 HRN7.out HRE7.out (by omega) (fun x hx => HWF.out x (HPN.out.mem_iff.1 hx)) (by rw [wellB_perm HPN.out HPE.out]; exact HWELL.out)).mono ?_
      rintro e w8 ⟨aP, aD, cP, cD, vs2, s2, rfl, hrun2, ho2, hl2, hb8e⟩
      rw [adjD_perm HPN.out HPE.out, sortI_ofPerm HPN.out] at hrun2
      obtain rfl := HRUN1.out.det hrun2
      rw [← List.map_reverse] at ho2
      rw [cycs_rev] at hl2
      rw [← HNE1.out] at ho2 ⊢
      rw [← HME1.out] at hl2 ⊢
      rw [← HB1.out]
      have HRS2 := Lib.hid (rdS_of_own ho2)
      have HLL2 := Lib.hid hl2
      have HB8e : Hid (Below w3.heap.size w3 w8) := Lib.hid (HB7.out.trans (hb8e.mono HB7.out.size))
      clear hrun2 ho2 hl2 hb8e g0 g1 g2
      have hcr : cycs s1.sccs.reverse = (cycs s1.sccs).reverse := List.filter_reverse
      have hbe : b1 = (cycs s1.sccs.reverse).isEmpty := by rw [hcr, HB1.out]; cases cycs s1.sccs <;> simp
      have hme : M1 = (cycs s1.sccs.reverse).length := by rw [hcr, List.length_reverse]; exact HME1.out
      have HBE := Lib.hid hbe; have HMM := Lib.hid hme
      clear hcr hbe hme
      have q0 := (HB8e.out.cell (p := ⟨w.heap.size, 0, none⟩) HSZ.out).trans HS3.out.c0
      have q1 := (HB8e.out.cell (p := ⟨w.heap.size, 1, none⟩) HSZ.out).trans HS3.out.c1
      have q2 := (HB8e.out.cell (p := ⟨w.heap.size, 2, none⟩) HSZ.out).trans HS3.out.c2
      have HBW8 : Hid (Below w.heap.size w w8) := Lib.hid (HS3.out.below.trans (HB8e.out.mono HS3.out.below.size))
      have hbb : (b1 != b1) = false := by simp
      go_wp2_with fail
      rw [HBE.out]
      refine (ordered_calls an ae aO aC n cn m ce N1 cO M1 cC _ vs1 ns es s1.sccs.reverse w8 (HN.out.below HBW8.out (Nat.le_refl _)) (HR.out.below HBW8.out (Nat.le_refl _)) (by omega) HWELL.out (by rw [HNE1.out]; exact HRS1.out.below HB8e.out (Nat.le_refl _)) (by rw [HME1.out]; exact HLL1.out.of_heap (fun j hj => HB8e.out.block j (HLL1.out.lt hj).2)) HMM.out HOR1.out).mono ?_
      rintro e w9 ⟨rfl, hb9⟩
      have hbb2 : ((cycs s1.sccs.reverse).isEmpty != (cycs s1.sccs.reverse).isEmpty) = false := by simp
      have hN25 : N1 ≤ n := by
        have h1 := nodup_lenT HOR1.out.scc.nd (fun x hx => (HOR1.out.scc.mem x).1 hx)
        have h2 := len_flat HOR1.out.scc.ne
        rw [sortI_len, HN.out.len] at h1
        rw [List.length_reverse, ← HNE1.out] at h2
        omega
      have HB9 : Hid (Below w3.heap.size w3 w9) := Lib.hid (HB8e.out.trans (hb9.mono HB8e.out.size))
      have HS19 : Hid (RdS w9 aO N1 (s1.sccs.reverse.map slotO)) := Lib.hid (by rw [HNE1.out]; exact HRS1.out.below HB9.out (Nat.le_refl _))
      have HS29 : Hid (RdS w9 aP N1 (s1.sccs.reverse.map slotO)) := Lib.hid (HRS2.out.below hb9 (Nat.le_refl _))
      have HL19 : Hid (RdL w9 aC M1 ((cycs s1.sccs.reverse).map sortI)) := Lib.hid (by rw [HME1.out]; exact (LolG.rd HLL1.out).below HB9.out (Nat.le_refl _))
      have HL29 : Hid (RdL w9 aD M1 ((cycs s1.sccs.reverse).map sortI)) := Lib.hid ((LolG.rd HLL2.out).below hb9 (Nat.le_refl _))
      clear hb9 q0 q1 q2
      go_wp2_with fail
      refine (equalS_calls aO aP N1 cO cP (s1.sccs.reverse.map slotO) w9 HS19.out HS29.out (by omega)).mono ?_
      rintro e w10 ⟨rfl, q10, hw10⟩
      have HB10 : Hid (Below w9.heap.size w9 w10) := Lib.hid (by rw [hw10]; exact below_drewN (Below.refl _ _) q10)
      clear hw10
      go_wp2_with fail
      refine (sameLists_calls aC aD M1 cC cD ((cycs s1.sccs.reverse).map sortI) w10 (HL19.out.below HB10.out (Nat.le_refl _)) (HL29.out.below HB10.out (Nat.le_refl _))).mono ?_
      rintro e w11 ⟨rfl, q11, hw11⟩
      have HB11 : Hid (Below w3.heap.size w3 w11) := Lib.hid (by rw [hw11]; exact below_drewN (HB9.out.trans (HB10.out.mono HB9.out.size)) q11)
      clear hw11 hbb hbb2
      have q0 := (HB11.out.cell (p := ⟨w.heap.size, 0, none⟩) HSZ.out).trans HS3.out.c0
      have q1 := (HB11.out.cell (p := ⟨w.heap.size, 1, none⟩) HSZ.out).trans HS3.out.c1
      have q2 := (HB11.out.cell (p := ⟨w.heap.size, 2, none⟩) HSZ.out).trans HS3.out.c2
      go_wp2_with fail
      have HBW11 : Hid (Below w.heap.size w w11) := Lib.hid (HS3.out.below.trans (HB11.out.mono HS3.out.below.size))
      refine (implSortStab_calls an none n cn 0 0 ns [] w11 (HN.out.below HBW11.out (Nat.le_refl _)) ⟨rfl, by omega, fun h => by omega⟩ (by omega) HWF.out (wellB_nil HWELL.out)).mono ?_
      rintro e w12 ⟨aB, aX, cB, cX, vs3, s3, rfl, hrun3, ho3, -, hb12⟩
      have hsc3 := hrun3.bare (fun x => by rw [adjD_nil, List.eq_nil_of_length_eq_zero (sortI_len [])]; rfl) rfl (by rw [sortI_idem]; exact List.pairwise_reverse.2 ((sort_ltF HWELL.out).imp fun {a b} h => by omega)) (fun _ _ => rfl)
      rw [sortI_idem] at hsc3
      have hmap : (s3.sccs.map slotO).reverse = (sortI ns).map some := by
        rw [hsc3]
        simp [TS.start, List.map_map, Function.comp_def, slotO]
      have hlen3 : s3.sccs.length = n := by rw [hsc3]; simp [TS.start, sortI_len, HN.out.len]
      have hfin : (cycs s3.sccs).isEmpty = true := by rw [hsc3]; simp [TS.start, cycs, cyB]
      rw [hfin]
      rw [hmap] at ho3
      rw [hlen3] at ho3 ⊢
      have HRS3 := Lib.hid (rdS_of_own ho3)
      have HB12 : Hid (Below w3.heap.size w3 w12) := Lib.hid (HB11.out.trans (hb12.mono HB11.out.size))
      clear hrun3 ho3 hb12 hsc3 hmap hlen3 hfin q0 q1 q2
      have q0 := (HB12.out.cell (p := ⟨w.heap.size, 0, none⟩) HSZ.out).trans HS3.out.c0
      have q1 := (HB12.out.cell (p := ⟨w.heap.size, 1, none⟩) HSZ.out).trans HS3.out.c1
      have q2 := (HB12.out.cell (p := ⟨w.heap.size, 2, none⟩) HSZ.out).trans HS3.out.c2
      go_wp2_with fail
      have HBW12 : Hid (Below w.heap.size w w12) := Lib.hid (HS3.out.below.trans (HB12.out.mono HS3.out.below.size))
      refine (sorted_calls an n cn ns w12 (HN.out.below HBW12.out (Nat.le_refl _)) (by omega)).mono ?_
      rintro e w13 ⟨v13, rfl, ho13, hb13⟩
      obtain ⟨a13, c13, rfl⟩ := own_shape' ho13
      have HRW := Lib.hid (rdi_ownO ho13)
      have HRS13 := Lib.hid (HRS3.out.below hb13 (Nat.le_refl _))
      have HB13 : Hid (Below w3.heap.size w3 w13) := Lib.hid (HB12.out.trans (hb13.mono HB12.out.size))
      clear ho13 hb13 q0 q1 q2
      go_wp2_with fail
      go_loopw [19] (fun i wr => ∃ (k q : Nat), k ≤ n ∧ i = .int .i64 k ∧ wr = w13.drewN q) (fun i _ => n - (intOf i).toNat)
      case atStart => exact ⟨0, 0, by omega, rfl, rfl⟩
      case round =>
        obtain ⟨k, q, hk, rfl, rfl⟩ := hrel
        by_cases hlt : k < n
        · obtain ⟨bb, ob, rfl, hbbb, hcb⟩ := HRS13.out.at_ (by omega)
          obtain ⟨o, HOO, r0, r1⟩ := hcb k hlt
          obtain ⟨bw, ow, rfl, hbww, hcw⟩ := HRW.out.at_ (by omega)
          obtain ⟨y, HY, r2⟩ := hcw k hlt
          have hoy : o = some y := by
            have h := HOO.out
            have hk2 : k < (sortI ns).length := by rw [sortI_len, HN.out.len]; exact hlt
            rw [List.getElem?_map, List.getElem?_eq_getElem hk2] at h
            have h2 := HY.out
            rw [List.getD_eq_getElem?_getD, List.getElem?_eq_getElem hk2] at h2
            rw [← Option.some.inj h, ← h2]; rfl
          subst hoy
          replace r0 : w13.cell? ⟨bb, ob + k * 2, none⟩ = some (.bool false) := r0
          replace r1 : w13.cell? ⟨bb, ob + k * 2 + 1, none⟩ = some (.int .i64 y) := r1
          have hd1 : ¬ (n : Int) ≤ (k : Int) := by omega
          have hd2 : decide (n ≤ k) = false := by simp; omega
          clear hcb hcw
          go_wp2_with fail
          go_quiet (fail)
          go_wp2_with fail
          go_roundw
          case rel => exact ⟨k + 1, _, by omega, by go_num, rfl⟩
          case measure => simp [intOf]; omega
        · go_wp2_with fail
          go_ret
          exact ⟨rfl, below_drewN (HS3.out.below.trans (HB13.out.mono HS3.out.below.size)) q⟩
end Go.Proofs.YtnfkbjgijelfdaaGreat
namespace Go.Proofs.YtnfkbjgijelfdaaGreat
open Go.ChangeShapes Go.WideShapes Go.ChangeAt Go.RowKit Go.Joins

theorem own : ownKnob Tryz.prog.godebug = none := by kernel_rfl
theorem laidOut : laidOutB Tryz.prog = true := by kernel_rfl

set_option maxRecDepth 100000 in
theorem fnSortStabilized_lifted (os : Os) (started : os.Started) (H : Type) (enc : TypeId × Value → H) :
    ReturnsInHanded {} Tryz.checked os 5 .any (Rows.fnSortStabilizedSpec.pre6 enc Tryz.prog Tryz.f5 Rows.fnSortStabilizedRow.domain false) (Rows.fnSortStabilizedSpec.post enc Tryz.prog Tryz.f5 false true false false) := by
  refine returnsInHanded_of_change (C := Tryz.checked) own started (by kernel_rfl) Tryz.func5
    (ChangeSpec.witness6 (enc := enc) (C := Tryz.checked) false ⟨#[], #[.agg #[.bool false, .slice none 0 0, .slice none 0 0], .int .u8 0], []⟩ 8 (by kernel_rfl) (by kernel_rfl) (by kernel_rfl) (by kernel_rfl)) ?_
  intro W base args ds gs before hval0 hW hcnd _
  have hval : ∀ (j : Nat) t v, Tryz.f5.params[j]? = some t → args[j]? = some v → Value.okWide Tryz.prog W .any base t v := hval0
  have hW' := hW
  obtain ⟨p, q, hA0, hV, rfl, hfz, hnd⟩ := hW
  have hA : DataW.TrodAll enc Tryz.prog W 0 (fun _ => true) true Tryz.f5.params.toList args.toList ds p := hA0
  rw [Tryz.params5] at hA hval
  obtain ⟨v0, vs0, d0, ds0, p0, q0, hargs, rfl, rfl, h0, r0⟩ := trodAll_cons hA
  obtain ⟨v1, vs1, d1, ds1, p1, q1, rfl, rfl, rfl, h1, r1⟩ := trodAll_cons r0
  obtain ⟨rfl, rfl, rfl⟩ := trodAll_nil r1
  obtain rfl : args = #[v0, v1] := by cases args; simp_all
  obtain ⟨rfl, rfl⟩ := trodVars_none hV
  have k0 := h0
  have k1 := h1
  have lt0 : ∀ x ∈ p0, x.block < W.heap.size := by obtain ⟨m, hm⟩ := k0; exact DataW.trod_lt m _ _ _ hm
  have lt1 : ∀ x ∈ p1, x.block < W.heap.size := by obtain ⟨m, hm⟩ := k1; exact DataW.trod_lt m _ _ _ hm
  obtain ⟨bb0, _, _, y00, y01, y02, m0, hagg0, _, _, hy00, hy01, hy02⟩ := open_agg3 Tryz.underlying25 (by kernel_rfl) cells_Graph (hval 0 25 v0 rfl rfl) h0
  obtain ⟨b0, hb0, _⟩ := DataW.trod_bool Tryz.underlying4 hy00
  obtain rfl : bb0 = .bool b0 := by simpa using hb0
  obtain ⟨an0, n0, cn0, ns0, rfl, hn0, hwf0⟩ := rdIw_of_trod hy01
  obtain ⟨ae0, me0, ce0, es0, rfl, he0⟩ := rdE_of_trod hy02
  obtain ⟨y1, rfl, rfl, rfl, hy1⟩ := open_int Tryz.underlying5 (hval 1 5 v1 rfl rfl) h1
  obtain ⟨x1, rfl, hx1⟩ : ∃ x : Nat, y1 = (x : Int) ∧ x < 256 := by
    have h1 : IntKind.u8.min = 0 := by kernel_rfl
    have h2 : IntKind.u8.max = 255 := by kernel_rfl
    rw [Lit.wf, Bool.and_eq_true, decide_eq_true_iff, decide_eq_true_iff, h1, h2] at hy1
    exact ⟨y1.toNat, by omega, by omega⟩
  subst hagg0
  clear hA0 hval0
  refine (lawSS_calls b0 an0 ae0 n0 cn0 me0 ce0 x1 ns0 es0 W hn0 he0 hwf0 hx1).mono fun e W' ⟨he, bel⟩ => ?_
  subst he
  exact ⟨_, rfl, _, _, _, [], _, [], hW', trodAll_mk1 (shut_bool Tryz.underlying4 _), (trodAll_cons_mk (Below.trod laidOut (by kernel_rfl) (of_decide_eq_true (by kernel_rfl)) k0 bel lt0) (trodAll_cons_mk (Below.trod laidOut (by kernel_rfl) (of_decide_eq_true (by kernel_rfl)) k1 bel lt1) trodAll_mk0)), rfl, bel.frame _, fun h => by cases h⟩

theorem FnSortStabilized_holds : Rows.FnSortStabilizedSaid :=
  OpenClaim.holds_of_wide 5 Tryz.f5 rfl rfl rfl rfl rfl rfl rfl ⟨rfl, rfl, rfl, rfl, rfl⟩ rfl rfl rfl rfl rfl (by kernel_rfl) Tryz.func5 (by kernel_rfl)
    (of_decide_eq_true (by kernel_rfl)) (by unfold Func.isWrapper; first | (rw [if_pos (by decide +kernel)]; kernel_rfl) | (rw [if_neg (by decide +kernel)]; exact ⟨rfl, rfl⟩))
    (fun os started H enc _ => fnSortStabilized_lifted os started H enc)
#print axioms FnSortStabilized_holds
end Go.Proofs.YtnfkbjgijelfdaaGreat
