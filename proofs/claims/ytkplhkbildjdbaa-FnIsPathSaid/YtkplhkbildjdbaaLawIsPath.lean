/- The walk of FnIsPath. -/
import Derived.Test.YtkplhkbildjdbaaPathMath
import Derived.Test.YtkplhkbildjdbaaPlain3
import Derived.Test.YtkplhkbildjdbaaPlain4
import Derived.Deep.DeepCutAuto
import Derived.StillTailTactics
namespace Go.Proofs.Ytkplhkbildjdbaa
open Go.RowKit

/-- The world within the law: all is as it was; the graph's box. -/
structure LawSt (w : World) (d : Bool) (an ae : Option Addr) (n cn m ce : Nat) (W : World) : Prop where
  below : Below w.heap.size w W
  c0 : W.cell? ⟨w.heap.size, 0, none⟩ = some (.bool d)
  c1 : W.cell? ⟨w.heap.size, 1, none⟩ = some (.slice an n cn)
  c2 : W.cell? ⟨w.heap.size, 2, none⟩ = some (.slice ae m ce)
  size : w.heap.size < W.heap.size

theorem LawSt.start (w : World) (d : Bool) (an ae : Option Addr) (n cn m ce : Nat) : LawSt w d an ae n cn m ce (w.alloc (.cells #[.bool d, .slice an n cn, .slice ae m ce] 25)) :=
  ⟨(Below.refl _ _).alloc (Nat.le_refl _) _, by go_simp, by go_simp, by go_simp, by simp⟩
theorem LawSt.later {w W W' : World} {d : Bool} {an ae : Option Addr} {n cn m ce : Nat} (h : LawSt w d an ae n cn m ce W) (hb : Below W.heap.size W W') : LawSt w d an ae n cn m ce W' :=
  ⟨h.below.trans (hb.mono (Nat.le_of_lt h.size)), (hb.cell (p := ⟨w.heap.size, 0, none⟩) h.size).trans h.c0, (hb.cell (p := ⟨w.heap.size, 1, none⟩) h.size).trans h.c1, (hb.cell (p := ⟨w.heap.size, 2, none⟩) h.size).trans h.c2, Nat.lt_of_lt_of_le h.size hb.size⟩

theorem fewB_parts {ns : List Int} {es : List (Int × Int × Int)} {k : Nat} (h : fewB ns es k = true) : ns.length ≤ k ∧ es.length ≤ 8 * k ∧ wellB ns es = true := by
  unfold fewB at h
  simp only [Bool.and_eq_true, decide_eq_true_eq] at h
  exact ⟨h.1.1, h.1.2, h.2⟩

set_option maxHeartbeats 4000000 in
set_option maxRecDepth 100000 in
theorem law_calls (d : Bool) (an ae ap : Option Addr) (n cn m ce np cp : Nat) (ns : List Int) (es : List (Int × Int × Int)) (ps : List Int) (w : World) (hn : RdI w an n ns) (hr : RdE w ae m es) (hp : RdI w ap np ps) :
    Calls Try.prog 3 #[.agg #[.bool d, .slice an n cn, .slice ae m ce], .slice ap np cp] w fun e w' => e = .returned (.bool true) ∧ Below w.heap.size w w' := by
  have hsn := hn.small; have hsm := hr.small; have hsp := hp.small
  have HR := Lib.hid hr; clear hr
  have HN := Lib.hid hn; clear hn
  have HP := Lib.hid hp; clear hp
  go_enter Try.func3, Try.ntmps3
  go_wp2_with fail
  refine (fits_calls d an ae n cn m ce _ hsn hsm).mono ?_
  rintro e w1 ⟨rfl, hb1⟩
  have HS1 := Lib.hid ((LawSt.start w d an ae n cn m ce).later hb1); clear hb1
  cases hf : decide (n ≤ 2147483647 ∧ m ≤ 2147483647)
  · go_wp2_with fail
    go_ret
    exact ⟨rfl, HS1.out.below⟩
  · clear hf
    by_cases hp1 : 2147483647 < np
    · go_wp2_with fail
      go_ret
      exact ⟨rfl, HS1.out.below⟩
    · have j0 := HS1.out.c0; have j1 := HS1.out.c1; have j2 := HS1.out.c2
      go_wp2_with fail
      refine (few_calls d an ae n cn m ce 25 ns es _ (by omega) (HN.out.below HS1.out.below (Nat.le_refl _)) (HR.out.below HS1.out.below (Nat.le_refl _))).mono ?_
      rintro e w2 ⟨rfl, hb2⟩
      have HS2 := Lib.hid (HS1.out.later hb2); clear hb2 j0 j1 j2
      cases hw : fewB ns es 25
      · go_wp2_with fail
        go_ret
        exact ⟨rfl, HS2.out.below⟩
      · obtain ⟨hw1, hw2, hw3⟩ := fewB_parts hw
        have hnn : n ≤ 25 := by have := HN.out.len; omega
        have HW := Lib.hid hw3; clear hw hw1 hw2 hw3
        by_cases hp2 : 60 < np
        · go_wp2_with fail
          go_ret
          exact ⟨rfl, HS2.out.below⟩
        · have j0 := HS2.out.c0; have j1 := HS2.out.c1; have j2 := HS2.out.c2
          go_wp2_with fail
          refine (implPath_calls d an ae ap n cn m ce np cp ns es ps _ (HN.out.below HS2.out.below (Nat.le_refl _)) (HR.out.below HS2.out.below (Nat.le_refl _)) (HP.out.below HS2.out.below (Nat.le_refl _)) (by omega) (by omega)).mono ?_
          rintro e w3 ⟨he, hb3⟩
          rw [path_want d ns es ps HW.out, HW.out] at he
          subst he
          have HS3 := Lib.hid (HS2.out.later hb3); clear hb3 j0 j1 j2
          obtain ⟨q, hq⟩ : ∃ q, q = wantB d ns es ps := ⟨_, rfl⟩
          rw [← hq]
          have HQ := Lib.hid hq; clear hq
          have j1 := HS3.out.c1
          go_wp2_with fail
          go_cut [7] (fun s wc => s = .bool (decide (ps.length = 0) || hasB ns (ps.getD 0 0)) ∧ LawSt w d an ae n cn m ce wc)
          case first =>
            by_cases h0 : np = 0
            · subst h0
              have HV := Lib.hid (show (decide (ps.length = 0) || hasB ns (ps.getD 0 0)) = true from by rw [HP.out.len]; rfl)
              go_wp2_with fail
              go_quiet (fail)
              go_wp2
              go_meet
              exact ⟨by rw [HV.out], HS3.out.later (below_drewN (Below.refl _ _) _)⟩
            · obtain ⟨b, off, rfl, hbb, hc⟩ := HP.out.at_ (by omega)
              obtain ⟨z, hz, hcz⟩ := hc 0 (by omega)
              rw [Nat.add_zero] at hcz
              have k0 := (HS3.out.below.cell (p := ⟨b, off, none⟩) hbb).trans hcz
              have b0 : ((np : Int) == 0) = false := by simp; omega
              have hpos : 0 < np := by omega
              have HV := Lib.hid (show (decide (ps.length = 0) || hasB ns (ps.getD 0 0)) = hasB ns z from by rw [HP.out.len, hz.out]; simp [h0])
              clear hc hcz hz
              go_wp2_with fail
              go_quiet ((go_at_call 7; exact Calls.quiet_of_same ((has_calls an n cn ns z _ (RdI.drewN (HN.out.below HS3.out.below (Nat.le_refl _)) _)).mono (fun _ _ h => ⟨h.1, h.2.symm⟩))))
              go_wp2
              go_meet
              exact ⟨by rw [HV.out], HS3.out.later (below_drewN (Below.refl _ _) _)⟩
          case rest =>
            obtain ⟨rfl, hsc⟩ := hcut
            have HSC := Lib.hid hsc; clear hsc j1
            obtain ⟨b0, hb0⟩ : ∃ b0, b0 = (decide (ps.length = 0) || hasB ns (ps.getD 0 0)) := ⟨_, rfl⟩
            rw [← hb0]
            have HB0 := Lib.hid hb0; clear hb0
            go_wp2_with fail
            go_loopw [7, 8] (fun s i wr => ∃ (k : Nat) (b : Bool), 1 ≤ k ∧ (k ≤ np ∨ k = 1) ∧ i = .int .i64 k ∧ s = .bool b ∧ q = (b && chainB d es (ps.drop (k - 1))) ∧ LawSt w d an ae n cn m ce wr) (fun _ i _ => np - (intOf i).toNat)
            case atStart => exact ⟨1, b0, by omega, .inr rfl, rfl, rfl, by rw [HQ.out, HB0.out]; rfl, HSC.out⟩
            case round =>
              obtain ⟨k, b, hk1, hk, rfl, rfl, hqk, hsr⟩ := hrel
              have HQK := Lib.hid hqk; have HSR := Lib.hid hsr; have HK := Lib.hid hk
              clear hqk hk
              by_cases hlt : k < np
              · obtain ⟨bb, off, rfl, hbb, hc⟩ := HP.out.at_ (by omega)
                obtain ⟨y, hy, hcy⟩ := hc (k - 1) (by omega)
                obtain ⟨z, hz, hcz⟩ := hc k hlt
                have ky := (hsr.below.cell (p := ⟨bb, off + (k - 1), none⟩) hbb).trans hcy
                have kz := (hsr.below.cell (p := ⟨bb, off + k, none⟩) hbb).trans hcz
                have HSt : Hid (chainB d es (ps.drop (k - 1)) = (arcB d es y z && chainB d es (ps.drop k))) := by
                  have := chainB_step d es ps (k - 1) (by rw [HP.out.len]; omega)
                  rw [hy.out, show k - 1 + 1 = k by omega, hz.out] at this; exact this
                have j0 := hsr.c0; have j1 := hsr.c1; have j2 := hsr.c2
                have hsub : IntKind.i64.wrap ((k : Int) - 1) = ((k - 1 : Nat) : Int) := by rw [IntKind.wrap_i64]; omega
                clear hc hcy hcz hy hz hsr
                cases b
                · go_wp2_with fail
                  go_quiet (fail)
                  go_wp2
                  go_roundw
                  case rel => exact ⟨k + 1, false, by omega, .inl (by omega), by go_num, rfl, by rw [HQK.out]; rfl, HSR.out.later (below_drewN (Below.refl _ _) _)⟩
                  case measure => simp [intOf]; omega
                · cases hm : arcB d es y z
                  all_goals
                    have HM := Lib.hid hm
                    go_wp2_with fail
                    refine wp_region_still_tail 12 (by kernel_rfl) (by kernel_rfl) ?_
                    obtain ⟨W, hW⟩ : ∃ W : World, W = World.mk wr.heap wr.tape (wr.drawn + 1) wr.os wr.output := ⟨_, rfl⟩
                    rw [← hW]
                    have j0' : W.cell? ⟨w.heap.size, 0, none⟩ = some (.bool d) := by rw [hW]; exact j0
                    have j1' : W.cell? ⟨w.heap.size, 1, none⟩ = some (.slice an n cn) := by rw [hW]; exact j1
                    have j2' : W.cell? ⟨w.heap.size, 2, none⟩ = some (.slice ae m ce) := by rw [hW]; exact j2
                    have ky' : W.cell? ⟨bb, off + (k - 1), none⟩ = some (.int .i64 y) := by rw [hW]; exact ky
                    have kz' : W.cell? ⟨bb, off + k, none⟩ = some (.int .i64 z) := by rw [hW]; exact kz
                    have HWD : Hid (W = wr.drew) := hW
                    have hk2 : k - 1 < np := by omega
                    clear hW
                    simp only [List.take_succ_cons, List.take_zero, List.drop_succ_cons, List.drop_zero]
                    iterate 12 still_step
                    refine wpStill_nil ?_
                    have HSW : Hid (LawSt w d an ae n cn m ce W) := by rw [HWD.out]; exact HSR.out.later ((Below.refl _ _).drew)
                    go_wp2_with fail
                    refine (arc_calls d an ae n cn m ce es y z W (HR.out.below HSW.out.below (Nat.le_refl _))).mono ?_
                    rintro e w5 ⟨he, hb5⟩
                    rw [HM.out] at he
                    subst he
                    have HS5 := Lib.hid (HSW.out.later hb5); clear hb5 j0 j1 j2 ky kz j0' j1' j2' ky' kz'
                    go_wp2_with fail
                    go_roundw
                    case rel => exact ⟨k + 1, _, by omega, .inl (by omega), by go_num, rfl, by rw [HQK.out, HSt.out, HM.out]; rfl, HS5.out⟩
                    case measure => simp [intOf]; omega
              · have hlen : ps.length ≤ k - 1 + 1 := by have := HP.out.len; omega
                have HQB : Hid (q = b) := by rw [HQK.out, chainB_end _ _ _ _ hlen, Bool.and_true]; exact rfl
                have j0 := hsr.c0; have j1 := hsr.c1; have j2 := hsr.c2
                clear hsr
                go_wp2_with fail
                refine (implPath_calls d an ae none n cn m ce 0 0 ns es [] _ (HN.out.below HSR.out.below (Nat.le_refl _)) (HR.out.below HSR.out.below (Nat.le_refl _)) ⟨rfl, by omega, fun h => absurd h (Nat.lt_irrefl _)⟩ (by omega) (by omega)).mono ?_
                rintro e w6 ⟨he, hb6⟩
                rw [isPathB, HW.out] at he
                subst he
                have HS6 := Lib.hid (HSR.out.later hb6); clear hb6 j0 j1 j2
                rw [HQB.out]
                have hbb : (b == b) = true := by simp
                have hpp : pathB (sortI ns) (rowsFrom d (sortI ns) es).1 [] = true := rfl
                go_wp2_with fail
                go_ret
                exact ⟨rfl, HS6.out.below⟩
end Go.Proofs.Ytkplhkbildjdbaa
