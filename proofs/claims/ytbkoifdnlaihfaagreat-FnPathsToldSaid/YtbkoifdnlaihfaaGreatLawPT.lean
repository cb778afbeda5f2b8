/- The walk of FnPathsTold. -/
import Derived.Test.YtbkoifdnlaihfaaGreatSpec6
import Derived.Test.YtbkoifdnlaihfaaGreatEqI
import Derived.Test.YtbkoifdnlaihfaaGreatExist
import Derived.Test.YtbkoifdnlaihfaaGreatPathMath
import Derived.Test.YtbkoifdnlaihfaaGreatPlain
namespace Go.Proofs.YtbkoifdnlaihfaaGreat
open Go.RowKit

theorem chain_same (d : Bool) (es : List (Int × Int × Int)) : ∀ ps, chainB d es ps = chainS d es ps
  | [] => rfl
  | [_] => rfl
  | x :: y :: r => by
    show (arcB d es x y && chainB d es (y :: r)) = (arcB d es x y && chainS d es (y :: r))
    rw [chain_same d es (y :: r)]

theorem path_spec (d : Bool) (ns : List Int) (es : List (Int × Int × Int)) (ps : List Int) (h : wellB ns es = true) : isPathB d ns es ps = pathS d ns es ps := by
  unfold isPathB
  rw [h, Bool.true_and]
  match ps with
  | [] => rfl
  | [x] => exact memB_hasB ns x
  | x :: y :: r =>
    show linksB (sortI ns) (rowsFrom d (sortI ns) es).1 (x :: y :: r) = chainS d es (x :: y :: r)
    rw [links_chain d ns es h, chain_same]

set_option maxHeartbeats 8000000 in
set_option maxRecDepth 100000 in
theorem lawPT_calls (d d' : Bool) (an ae an' ae' ap : Option Addr) (n cn m ce n' cn' m' ce' np cp : Nat) (ns ns' ps : List Int) (es es' : List (Int × Int × Int)) (u v : Int) (w : World) (hn : RdI w an n ns) (hr : RdE w ae m es) (hn' : RdI w an' n' ns') (hr' : RdE w ae' m' es') (hp : RdI w ap np ps) (hwf : ∀ x ∈ ns, (Lit.int .i64 x).wf = true) :
    Calls Tryz.prog 8 #[.agg #[.bool d, .slice an n cn, .slice ae m ce], .agg #[.bool d', .slice an' n' cn', .slice ae' m' ce'], .slice ap np cp, .int .i64 u, .int .i64 v] w fun e w' => e = .returned (.bool true) ∧ Below w.heap.size w w' := by
  have hsn := hn.small; have hsm := hr.small; have hsn' := hn'.small; have hsm' := hr'.small; have hsp := hp.small
  have hnl := hn.len; have hnl' := hn'.len
  have HN := Lib.hid hn; have HR := Lib.hid hr; have HN' := Lib.hid hn'; have HR' := Lib.hid hr'; have HP := Lib.hid hp; have HWF := Lib.hid hwf
  clear hn hr hn' hr' hp hwf
  go_enter Tryz.func8, Tryz.ntmps8
  go_wp2_with fail
  obtain ⟨w0, hw0⟩ : ∃ w0, w0 = (w.alloc (.cells #[.bool d, .slice an n cn, .slice ae m ce] 25)).alloc (.cells #[.bool d', .slice an' n' cn', .slice ae' m' ce'] 25) := ⟨_, rfl⟩
  obtain ⟨bb, hbb⟩ : ∃ bb, bb = w.heap.size + 1 := ⟨_, rfl⟩
  have hb0 : Below w.heap.size w w0 := by rw [hw0]; exact ((Below.refl _ _).alloc (Nat.le_refl _) _).alloc (by simp) _
  have hs0 : bb < w0.heap.size := by rw [hw0, hbb]; simp
  have x0 : w0.heap[w.heap.size]? = some (.cells #[.bool d, .slice an n cn, .slice ae m ce] 25 (0, 0)) := by rw [hw0, heap_alloc_old _ _ (by simp)]; exact heap_alloc_new w _
  have y0 : w0.heap[bb]? = some (.cells #[.bool d', .slice an' n' cn', .slice ae' m' ce'] 25 (0, 0)) := by
    rw [hw0, hbb]
    have h := heap_alloc_new (w.alloc (.cells #[.bool d, .slice an n cn, .slice ae m ce] 25)) (.cells #[.bool d', .slice an' n' cn', .slice ae' m' ce'] 25)
    simpa using h
  have HSF : Hid (∀ W, Below w0.heap.size w0 W → W.cell? ⟨w.heap.size, 0, none⟩ = some (.bool d) ∧ W.cell? ⟨w.heap.size, 1, none⟩ = some (.slice an n cn) ∧ W.cell? ⟨w.heap.size, 2, none⟩ = some (.slice ae m ce) ∧ W.cell? ⟨bb, 0, none⟩ = some (.bool d') ∧ W.cell? ⟨bb, 1, none⟩ = some (.slice an' n' cn') ∧ W.cell? ⟨bb, 2, none⟩ = some (.slice ae' m' ce')) := Lib.hid fun W h => by
    have e1 := (h.block w.heap.size (by omega)).trans x0
    have e2 := (h.block bb hs0).trans y0
    refine ⟨?_, ?_, ?_, ?_, ?_, ?_⟩
    · rw [cell_of_row W _ _ _ _ (0, 0) e1]; rfl
    · rw [cell_of_row W _ _ _ _ (0, 0) e1]; rfl
    · rw [cell_of_row W _ _ _ _ (0, 0) e1]; rfl
    · rw [cell_of_row W _ _ _ _ (0, 0) e2]; rfl
    · rw [cell_of_row W _ _ _ _ (0, 0) e2]; rfl
    · rw [cell_of_row W _ _ _ _ (0, 0) e2]; rfl
  have hws : w.heap.size < bb := by omega
  rw [← hw0, ← hbb]
  have HB0 := Lib.hid hb0
  have HBW : Hid (∀ W, Below w0.heap.size w0 W → Below w.heap.size w W) := Lib.hid fun W h => HB0.out.trans (h.mono (by omega))
  have HLT : Hid (∀ W, Below w0.heap.size w0 W → w.heap.size < W.heap.size ∧ bb < W.heap.size) := Lib.hid fun W h => by have := h.size; omega
  clear hw0 hbb hb0 x0 y0
  refine (fits_calls d an ae n cn m ce w0 hsn hsm).mono ?_
  rintro e w1 ⟨rfl, hb1⟩
  have HB1 := Lib.hid hb1
  obtain ⟨j0, j1, j2, j3, j4, j5⟩ := HSF.out w1 hb1
  obtain ⟨z1, z2⟩ := HLT.out w1 hb1
  clear hb1
  cases hf : decide (n ≤ 2147483647 ∧ m ≤ 2147483647)
  · go_wp2_with fail
    go_ret
    exact ⟨rfl, HBW.out w1 HB1.out⟩
  clear hf
  go_wp2_with fail
  refine (fits_calls d' an' ae' n' cn' m' ce' w1 hsn' hsm').mono ?_
  rintro e w2 ⟨rfl, hb2⟩
  have HB2 := Lib.hid (HB1.out.trans (hb2.mono HB1.out.size))
  clear j0 j1 j2 j3 j4 j5 z1 z2 hb2 HB1
  obtain ⟨j0, j1, j2, j3, j4, j5⟩ := HSF.out w2 HB2.out
  obtain ⟨z1, z2⟩ := HLT.out w2 HB2.out
  cases hf : decide (n' ≤ 2147483647 ∧ m' ≤ 2147483647)
  · go_wp2_with fail
    go_ret
    exact ⟨rfl, HBW.out w2 HB2.out⟩
  clear hf
  by_cases hnp : ¬ (np : Int) ≤ 2147483647
  · have hnq : (2147483647 : Int) < (np : Int) := by omega
    clear hnp
    go_wp2_with fail
    go_ret
    exact ⟨rfl, HBW.out w2 HB2.out⟩
  have hnp1 : (np : Int) ≤ 2147483647 := by omega
  clear hnp
  go_wp2_with fail
  refine (few_calls d an ae n cn m ce 14 ns es w2 (by omega) (HN.out.below (HBW.out w2 HB2.out) (Nat.le_refl _)) (HR.out.below (HBW.out w2 HB2.out) (Nat.le_refl _))).mono ?_
  rintro e w3 ⟨rfl, hb3⟩
  have HB3 := Lib.hid (HB2.out.trans (hb3.mono HB2.out.size))
  clear j0 j1 j2 j3 j4 j5 z1 z2 hb3
  obtain ⟨j0, j1, j2, j3, j4, j5⟩ := HSF.out w3 HB3.out
  obtain ⟨z1, z2⟩ := HLT.out w3 HB3.out
  cases hf : fewB ns es 14
  · go_wp2_with fail
    go_ret
    exact ⟨rfl, HBW.out w3 HB3.out⟩
  obtain ⟨hl14, -, hwell⟩ := fewB_parts hf
  have HW := Lib.hid hwell
  clear hf hwell
  go_wp2_with fail
  refine (few_calls d' an' ae' n' cn' m' ce' 14 ns' es' w3 (by omega) (HN'.out.below (HBW.out w3 HB3.out) (Nat.le_refl _)) (HR'.out.below (HBW.out w3 HB3.out) (Nat.le_refl _))).mono ?_
  rintro e w4 ⟨rfl, hb4⟩
  have HB4 := Lib.hid (HB3.out.trans (hb4.mono HB3.out.size))
  clear j0 j1 j2 j3 j4 j5 z1 z2 hb4
  obtain ⟨j0, j1, j2, j3, j4, j5⟩ := HSF.out w4 HB4.out
  obtain ⟨z1, z2⟩ := HLT.out w4 HB4.out
  cases hf : fewB ns' es' 14
  · go_wp2_with fail
    go_ret
    exact ⟨rfl, HBW.out w4 HB4.out⟩
  obtain ⟨hl14', -, hwell'⟩ := fewB_parts hf
  have HW' := Lib.hid hwell'
  clear hf hwell'
  by_cases hnp : ¬ (np : Int) ≤ 60
  · have hnq : (60 : Int) < (np : Int) := by omega
    clear hnp
    go_wp2_with fail
    go_ret
    exact ⟨rfl, HBW.out w4 HB4.out⟩
  have hnp2 : (np : Int) ≤ 60 := by omega
  clear hnp
  go_wp2_with fail
  refine (implEqual_calls d d' an ae an' ae' n cn m ce n' cn' m' ce' ns ns' es es' w4 (HN.out.below (HBW.out w4 HB4.out) (Nat.le_refl _)) (HR.out.below (HBW.out w4 HB4.out) (Nat.le_refl _)) (HN'.out.below (HBW.out w4 HB4.out) (Nat.le_refl _)) (HR'.out.below (HBW.out w4 HB4.out) (Nat.le_refl _)) (by omega) (by omega) HW.out HW'.out).mono ?_
  rintro e w5 ⟨rfl, hb5⟩
  have HB5 := Lib.hid (HB4.out.trans (hb5.mono HB4.out.size))
  clear j0 j1 j2 j3 j4 j5 z1 z2 hb5
  obtain ⟨j0, j1, j2, j3, j4, j5⟩ := HSF.out w5 HB5.out
  obtain ⟨z1, z2⟩ := HLT.out w5 HB5.out
  obtain ⟨bs, hbs⟩ : ∃ b, sameS (sortI ns) (sortI ns') (fromL d ns es) (fromL d' ns' es') = b := ⟨_, rfl⟩
  rw [hbs]
  have HBS := Lib.hid hbs
  clear hbs
  go_wp2_with fail
  refine (implPath_calls d an ae ap n cn m ce np cp ns es ps w5 (HN.out.below (HBW.out w5 HB5.out) (Nat.le_refl _)) (HR.out.below (HBW.out w5 HB5.out) (Nat.le_refl _)) (HP.out.below (HBW.out w5 HB5.out) (Nat.le_refl _)) (by omega) (by omega)).mono ?_
  rintro e w6 ⟨rfl, hb6⟩
  have HB6 := Lib.hid (HB5.out.trans (hb6.mono HB5.out.size))
  clear j0 j1 j2 j3 j4 j5 z1 z2 hb6
  obtain ⟨j0, j1, j2, j3, j4, j5⟩ := HSF.out w6 HB6.out
  obtain ⟨z1, z2⟩ := HLT.out w6 HB6.out
  rw [path_spec d ns es ps HW.out, HW.out]
  obtain ⟨bp, hbp⟩ : ∃ b, pathS d ns es ps = b := ⟨_, rfl⟩
  rw [hbp]
  have HBP := Lib.hid hbp
  clear hbp
  go_wp2_with fail
  refine (implPath_calls d an ae none n cn m ce 0 0 ns es [] w6 (HN.out.below (HBW.out w6 HB6.out) (Nat.le_refl _)) (HR.out.below (HBW.out w6 HB6.out) (Nat.le_refl _)) ⟨rfl, by omega, fun h => by omega⟩ (by omega) (by omega)).mono ?_
  rintro e w7 ⟨rfl, hb7⟩
  have HB7 := Lib.hid (HB6.out.trans (hb7.mono HB6.out.size))
  clear j0 j1 j2 j3 j4 j5 z1 z2 hb7
  obtain ⟨j0, j1, j2, j3, j4, j5⟩ := HSF.out w7 HB7.out
  obtain ⟨z1, z2⟩ := HLT.out w7 HB7.out
  rw [path_spec d ns es [] HW.out, HW.out]
  go_wp2_with fail
  refine (specEqual_calls d d' an ae an' ae' n cn m ce n' cn' m' ce' ns ns' es es' w7 (HN.out.below (HBW.out w7 HB7.out) (Nat.le_refl _)) (HR.out.below (HBW.out w7 HB7.out) (Nat.le_refl _)) (HN'.out.below (HBW.out w7 HB7.out) (Nat.le_refl _)) (HR'.out.below (HBW.out w7 HB7.out) (Nat.le_refl _)) (by omega) (by omega)).mono ?_
  rintro e w8 ⟨rfl, hb8⟩
  have HB8 := Lib.hid (HB7.out.trans (hb8.mono HB7.out.size))
  clear j0 j1 j2 j3 j4 j5 z1 z2 hb8
  obtain ⟨j0, j1, j2, j3, j4, j5⟩ := HSF.out w8 HB8.out
  obtain ⟨z1, z2⟩ := HLT.out w8 HB8.out
  rw [HBS.out]
  go_wp2_with fail
  refine (specPath_calls d an ae ap n cn m ce np cp ns es ps w8 (HN.out.below (HBW.out w8 HB8.out) (Nat.le_refl _)) (HR.out.below (HBW.out w8 HB8.out) (Nat.le_refl _)) (HP.out.below (HBW.out w8 HB8.out) (Nat.le_refl _))).mono ?_
  rintro e w9 ⟨rfl, hb9⟩
  have HB9 := Lib.hid (HB8.out.trans (hb9.mono HB8.out.size))
  clear j0 j1 j2 j3 j4 j5 z1 z2 hb9
  obtain ⟨j0, j1, j2, j3, j4, j5⟩ := HSF.out w9 HB9.out
  obtain ⟨z1, z2⟩ := HLT.out w9 HB9.out
  rw [HBP.out]
  go_wp2_with fail
  refine (has_calls an n cn ns u w9 (HN.out.below (HBW.out w9 HB9.out) (Nat.le_refl _))).mono ?_
  rintro e wq ⟨rfl, hq⟩
  obtain rfl : w9 = wq := hq
  cases hhu : hasB ns u
  · go_wp2_with fail
    go_ret
    exact ⟨rfl, HBW.out w9 HB9.out⟩
  have HUM : Hid (u ∈ ns) := Lib.hid ((hasB_iff ns u).1 hhu)
  clear hhu
  go_wp2_with fail
  refine (has_calls an n cn ns v w9 (HN.out.below (HBW.out w9 HB9.out) (Nat.le_refl _))).mono ?_
  rintro e wq ⟨rfl, hq⟩
  obtain rfl : w9 = wq := hq
  cases hhv : hasB ns v
  · go_wp2_with fail
    go_ret
    exact ⟨rfl, HBW.out w9 HB9.out⟩
  clear hhv
  go_wp2_with fail
  refine (implExists_calls d an ae n cn m ce ns es u v w9 (HN.out.below (HBW.out w9 HB9.out) (Nat.le_refl _)) (HR.out.below (HBW.out w9 HB9.out) (Nat.le_refl _)) HW.out HUM.out (by omega) HWF.out).mono ?_
  rintro e w10 ⟨b1, rfl, hb1i, hb10⟩
  have HB10 := Lib.hid (HB9.out.trans (hb10.mono HB9.out.size))
  clear j0 j1 j2 j3 j4 j5 z1 z2 hb10
  obtain ⟨j0, j1, j2, j3, j4, j5⟩ := HSF.out w10 HB10.out
  obtain ⟨z1, z2⟩ := HLT.out w10 HB10.out
  have HI1 := Lib.hid hb1i
  clear hb1i
  go_wp2_with fail
  refine (reaches_calls d an ae n cn m ce ns es u v w10 (HN.out.below (HBW.out w10 HB10.out) (Nat.le_refl _)) (HR.out.below (HBW.out w10 HB10.out) (Nat.le_refl _)) (by omega)).mono ?_
  rintro e w11 ⟨b2, rfl, hb2i, hb11⟩
  have HB11 := Lib.hid (HB10.out.trans (hb11.mono HB10.out.size))
  clear j0 j1 j2 j3 j4 j5 z1 z2 hb11
  obtain ⟨j0, j1, j2, j3, j4, j5⟩ := HSF.out w11 HB11.out
  obtain ⟨z1, z2⟩ := HLT.out w11 HB11.out
  have hbb : b1 = b2 := by rw [Bool.eq_iff_iff]; exact HI1.out.trans hb2i.symm
  subst hbb
  clear hb2i
  go_wp2_with fail
  go_ret
  exact ⟨rfl, HBW.out w11 HB11.out⟩
end Go.Proofs.YtbkoifdnlaihfaaGreat
