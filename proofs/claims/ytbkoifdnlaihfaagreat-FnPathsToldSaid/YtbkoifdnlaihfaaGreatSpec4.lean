/- The walks of the reference's IsPathIn and Equal. -/
import Derived.Test.YtbkoifdnlaihfaaGreatSpec3
namespace Go.Proofs.YtbkoifdnlaihfaaGreat
open Go.RowKit

set_option maxHeartbeats 2000000 in
set_option maxRecDepth 100000 in
theorem specPath_calls (d : Bool) (an ae ap : Option Addr) (n cn m ce np cp : Nat) (ns : List Int) (es : List (Int × Int × Int)) (ps : List Int) (w : World) (hn : RdI w an n ns) (hr : RdE w ae m es) (hp : RdI w ap np ps) :
    Calls Tryz.prog 44 #[.agg #[.bool d, .slice an n cn, .slice ae m ce], .slice ap np cp] w fun e w' => e = .returned (.bool (pathS d ns es ps)) ∧ Below w.heap.size w w' := by
  have hsp := hp.small
  have HN := Lib.hid hn; clear hn
  have HR := Lib.hid hr; clear hr
  have HP := Lib.hid hp; clear hp
  by_cases h1 : np = 1
  · subst h1
    obtain ⟨b, off, rfl, hbb, hc⟩ := HP.out.at_ (by omega)
    obtain ⟨x, HX, hcx0⟩ := hc 0 (by omega)
    have hps : Hid (pathS d ns es ps = hasB ns x) := by
      have hl := HP.out.len
      match ps, hl with
      | [y], _ =>
        have e := HX.out
        simp at e
        subst e
        rfl
    go_enter Tryz.func44, Tryz.ntmps44
    go_wp2_with fail
    obtain ⟨w0, hw0⟩ : ∃ w0, w0 = w.alloc (.cells #[.bool d, .slice an n cn, .slice ae m ce] 25) := ⟨_, rfl⟩
    have k1 : w0.cell? ⟨w.heap.size, 1, none⟩ = some (.slice an n cn) := by rw [hw0]; go_simp
    have hb0 : Below w.heap.size w w0 := by rw [hw0]; exact (Below.refl _ _).alloc (Nat.le_refl _) _
    have hcx : w0.cell? ⟨b, off, none⟩ = some (.int .i64 x) := (hb0.cell (p := ⟨b, off, none⟩) hbb).trans hcx0
    have HN0 : Hid (∀ m, RdI (w0.drewN m) an n ns) := fun m => (HN.out.below hb0 (Nat.le_refl _)).drewN m
    rw [← hw0]
    have HB0 := Lib.hid hb0; clear hb0 hcx0 hc
    clear hw0
    go_quiet ((go_at_call 90; with_reducible exact Calls.quiet_of_same (hasInt_calls an n cn ns x _ (HN0.out _))))
    go_wp2
    go_ret
    exact ⟨ret_bool hps.out.symm, below_drewN HB0.out _⟩
  · have hps : Hid (pathS d ns es ps = chainS d es ps) := by
      have hl := HP.out.len
      match ps, hl with
      | [], _ => rfl
      | [y], hl => exact absurd hl.symm h1
      | _ :: _ :: _, _ => rfl
    have hne : ((np : Int) == 1) = false := by rw [beq_eq_false_iff_ne]; omega
    clear h1
    go_enter Tryz.func44, Tryz.ntmps44
    go_wp2_with fail
    obtain ⟨w0, hw0⟩ : ∃ w0, w0 = w.alloc (.cells #[.bool d, .slice an n cn, .slice ae m ce] 25) := ⟨_, rfl⟩
    have k0 : w0.cell? ⟨w.heap.size, 0, none⟩ = some (.bool d) := by rw [hw0]; go_simp
    have k1 : w0.cell? ⟨w.heap.size, 1, none⟩ = some (.slice an n cn) := by rw [hw0]; go_simp
    have k2 : w0.cell? ⟨w.heap.size, 2, none⟩ = some (.slice ae m ce) := by rw [hw0]; go_simp
    have hb0 : Below w.heap.size w w0 := by rw [hw0]; exact (Below.refl _ _).alloc (Nat.le_refl _) _
    have hs0 : w.heap.size < w0.heap.size := by rw [hw0]; simp
    rw [← hw0]
    have HB0 := Lib.hid hb0; clear hb0
    clear hw0
    go_loopw [5] (fun i wr => ∃ k : Nat, 1 ≤ k ∧ (k ≤ np ∨ k = 1) ∧ i = .int .i64 k ∧ Hid (chainS d es ps = chainS d es (ps.drop (k - 1))) ∧ Below w0.heap.size w0 wr) (fun i _ => np - (intOf i).toNat)
    case atStart => exact ⟨1, by omega, .inr rfl, rfl, Lib.hid (by simp), Below.refl _ _⟩
    case round =>
      obtain ⟨k, hk1, hk, rfl, HE, hb⟩ := hrel
      have HK := Lib.hid hk
      have HB := Lib.hid hb
      have hszr := hb.size
      have j0 := (hb.cell (p := ⟨w.heap.size, 0, none⟩) hs0).trans k0
      have j1 := (hb.cell (p := ⟨w.heap.size, 1, none⟩) hs0).trans k1
      have j2 := (hb.cell (p := ⟨w.heap.size, 2, none⟩) hs0).trans k2
      have HBW : Hid (Below w.heap.size w wr) := HB0.out.trans (hb.mono (by omega))
      clear hb k0 k1 k2 hk
      by_cases hlt : k < np
      · obtain ⟨b, off, rfl, hbb, hc⟩ := HP.out.at_ (by omega)
        obtain ⟨z, HZ, hcz0⟩ := hc k hlt
        obtain ⟨y, HY, hcy0⟩ := hc (k - 1) (by omega)
        have hcz := (HBW.out.cell (p := ⟨b, off + k, none⟩) hbb).trans hcz0
        have hcy := (HBW.out.cell (p := ⟨b, off + (k - 1), none⟩) hbb).trans hcy0
        have w1 : IntKind.i64.wrap ((k : Int) - 1) = ((k - 1 : Nat) : Int) := by rw [IntWalk.i64_in _ (by omega)]; omega
        have hbr : b < wr.heap.size := by have := HBW.out.size; omega
        have hwr : w.heap.size < wr.heap.size := by omega
        have hki : ((k - 1 : Nat) : Int) < (np : Int) := by omega
        have hki0 : (0 : Int) ≤ ((k - 1 : Nat) : Int) := by omega
        obtain ⟨k', hk'⟩ : ∃ k', k' = k - 1 := ⟨_, rfl⟩
        rw [← hk'] at HE HY hcy w1 hki hki0
        have HST : Hid (chainS d es (ps.drop k') = (arcB d es y z && chainS d es (ps.drop k))) := Lib.hid (by
          have h := chainS_step d es ps k' (by have := HP.out.len; omega)
          rw [HY.out, show k' + 1 = k from by omega, HZ.out] at h
          exact h)
        have HKK := Lib.hid hk'
        clear hc hcz0 hcy0 hk'
        obtain ⟨ar, har⟩ : ∃ b, arcB d es y z = b := ⟨_, rfl⟩
        rw [har] at HST
        have HCALL : Hid (Calls Tryz.prog 91 #[.agg #[.bool d, .slice an n cn, .slice ae m ce], .int .i64 y, .int .i64 z] (wr.drewN 1) fun e w' => e = .returned (.bool ar) ∧ Below wr.heap.size wr w') := by
          rw [← har]
          exact Lib.hid ((joined_calls d an ae n cn m ce es y z (wr.drewN 1) ((HR.out.below HBW.out (Nat.le_refl _)).drewN 1)).mono fun e w' ⟨h1, h2⟩ => ⟨h1, (below_drewN (Below.refl wr.heap.size wr) 1).trans h2⟩)
        have HSF : Hid (∀ w', Below wr.heap.size wr w' → w'.cell? ⟨w.heap.size, 0, none⟩ = some (.bool d) ∧ w'.cell? ⟨w.heap.size, 1, none⟩ = some (.slice an n cn) ∧ w'.cell? ⟨w.heap.size, 2, none⟩ = some (.slice ae m ce) ∧ w'.cell? ⟨b, off + k', none⟩ = some (.int .i64 y) ∧ w'.cell? ⟨b, off + k, none⟩ = some (.int .i64 z)) := Lib.hid fun w' h =>
          ⟨(h.cell (p := ⟨w.heap.size, 0, none⟩) hwr).trans j0, (h.cell (p := ⟨w.heap.size, 1, none⟩) hwr).trans j1, (h.cell (p := ⟨w.heap.size, 2, none⟩) hwr).trans j2, (h.cell (p := ⟨b, off + k', none⟩) hbr).trans hcy, (h.cell (p := ⟨b, off + k, none⟩) hbr).trans hcz⟩
        clear har
        cases ar
        all_goals
          go_wp2_with fail
          go_region_held3 (fun w' => w'.cell? ⟨w.heap.size, 0, none⟩ = some (.bool d) ∧ w'.cell? ⟨w.heap.size, 1, none⟩ = some (.slice an n cn) ∧ w'.cell? ⟨w.heap.size, 2, none⟩ = some (.slice ae m ce) ∧ w'.cell? ⟨b, off + k', none⟩ = some (.int .i64 y) ∧ w'.cell? ⟨b, off + k, none⟩ = some (.int .i64 z))
            (first | with_reducible exact s2 | go_keep)
            ((go_at_call 91; refine HCALL.out.mono ?_; rintro e w2 ⟨rfl, hb2⟩; have s2 := HSF.out w2 hb2; have HB2 := Lib.hid hb2; clear hb2))
          go_wp2_with fail
          first
            | (go_ret; exact ⟨ret_bool (by rw [hps.out, HE.out, HST.out]; rfl), HBW.out.trans (HB2.out.mono (by omega))⟩)
            | (go_roundw
               case rel => exact ⟨k + 1, by omega, .inl (by omega), by go_num, Lib.hid (by rw [HE.out, HST.out]; rfl), HB.out.trans (HB2.out.mono hszr)⟩
               case measure => simp [intOf]; omega)
      · have HF : Hid (chainS d es ps = true) := Lib.hid (by
          rw [HE.out]
          exact chainS_end d es ps (k - 1) (by have := HK.out; have := HP.out.len; omega))
        clear j0 j1 j2
        go_wp2
        go_ret
        exact ⟨ret_bool (by rw [hps.out, HF.out]), HBW.out⟩
end Go.Proofs.YtbkoifdnlaihfaaGreat
