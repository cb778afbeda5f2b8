/- The walks of well and few. -/
import Derived.Test.YtbkoifdnlaihfaaGreatPlain1
import Derived.Test.YtbkoifdnlaihfaaGreatPlain2
namespace Go.Proofs.YtbkoifdnlaihfaaGreat
open Go.RowKit

set_option maxHeartbeats 1000000 in
theorem well_calls (d : Bool) (an ae : Option Addr) (n cn m ce : Nat) (ns : List Int) (es : List (Int × Int × Int)) (w : World) (hn : RdI w an n ns) (hr : RdE w ae m es) (hn8 : n * 8 ≤ 140737488355328) :
    Calls Tryz.prog 17 #[.agg #[.bool d, .slice an n cn, .slice ae m ce]] w fun e w' => e = .returned (.bool (wellB ns es)) ∧ Below w.heap.size w w' := by
  have hs := hr.small
  have HR := Lib.hid hr; clear hr
  have HN := Lib.hid hn; clear hn
  go_enter Tryz.func17, Tryz.ntmps17
  go_wp2_with fail
  refine (sorted_calls _ _ _ ns _ (HN.out.alloc _) hn8).mono ?_
  rintro e w1 ⟨v', rfl, hown, hb1⟩
  obtain ⟨a', cap', rfl, hrd⟩ := RdI.of_owns hown
  have HRD := Lib.hid hrd; clear hrd hown
  obtain ⟨c, _⟩ := bcell hb1
  have k0 : w1.cell? ⟨w.heap.size, 1, none⟩ = some (.slice an n cn) := (c w.heap.size 1 (by simp)).trans (by go_simp)
  have k1 : w1.cell? ⟨w.heap.size, 2, none⟩ = some (.slice ae m ce) := (c w.heap.size 2 (by simp)).trans (by go_simp)
  clear c
  have hsz1 : w.heap.size < w1.heap.size := by have := hb1.size; simp at this; omega
  have hb0 : Below w.heap.size w w1 := ((Below.refl _ _).alloc (Nat.le_refl _) _).trans (hb1.mono (by simp))
  have HB0 := Lib.hid hb0; clear hb0 hb1
  go_wp2_with fail
  refine (rising_calls _ _ _ _ _ HRD.out).mono ?_
  rintro e w' ⟨rfl, q, rfl⟩
  cases hris : risingB (sortI ns)
  · go_wp2
    go_ret
    exact ⟨ret_bool (by rw [wellB, hris]; rfl), below_drewN HB0.out _⟩
  · have HW := Lib.hid (show wellB ns es = edgesB ns es from by rw [wellB, hris]; rfl)
    obtain ⟨w2, hw2⟩ : ∃ w2, w2 = w1.drewN q := ⟨_, rfl⟩
    have j0 : w2.cell? ⟨w.heap.size, 1, none⟩ = some (.slice an n cn) := by rw [hw2]; exact k0
    have j1 : w2.cell? ⟨w.heap.size, 2, none⟩ = some (.slice ae m ce) := by rw [hw2]; exact k1
    have hsz2 : w.heap.size < w2.heap.size := by rw [hw2]; exact hsz1
    have HB2 : Hid (Below w.heap.size w w2) := by rw [hw2]; exact below_drewN HB0.out _
    rw [← hw2]
    clear hw2 hsz1 k0 k1 HB0
    go_wp2_with fail
    go_loopw [3] (fun i wr => ∃ k : Nat, k ≤ m ∧ i = .int .i64 k ∧ wellB ns es = edgesB ns (es.drop k) ∧ Below (w.heap.size + 1) w2 wr) (fun i _ => m - (intOf i).toNat)
    case atStart => exact ⟨0, by omega, rfl, by rw [HW.out]; simp, Below.refl _ _⟩
    case round =>
      obtain ⟨k, hk, rfl, he, hb⟩ := hrel
      have HE := Lib.hid he; clear he
      have hszr := hb.size
      have HB := Lib.hid hb
      obtain ⟨c, _⟩ := bcell hb
      have k0 := (c w.heap.size 1 (by omega)).trans j0
      have k1 := (c w.heap.size 2 (by omega)).trans j1
      have hbw := HB2.out.trans (hb.mono (show w.heap.size ≤ w.heap.size + 1 by omega))
      clear c j0 j1 hb
      by_cases hlt : k < m
      · obtain ⟨b, off, rfl, hbb, hc⟩ := HR.out.at_ (by omega)
        obtain ⟨x, y, z, HX, c1, c2, c3⟩ := hc k hlt
        clear hc
        obtain ⟨c, _⟩ := bcell hbw
        have d1 := (c _ _ hbb).trans c1
        have d2 := (c _ _ hbb).trans c2
        have d3 := (c _ _ hbb).trans c3
        clear c c1 c2 c3
        have HNR := Lib.hid (HN.out.below hbw (Nat.le_refl _))
        have HBW := Lib.hid hbw; clear hbw
        have hwr : w.heap.size < wr.heap.size := by omega
        have hbr : b < wr.heap.size := by omega
        have key : ((x == y) = true ∧ Hid (edgeB ns (x, y, z) = false)) ∨ ((x == y) = false ∧ ((hasB ns x = false ∧ Hid (edgeB ns (x, y, z) = false)) ∨ (hasB ns x = true ∧ ((hasB ns y = false ∧ Hid (edgeB ns (x, y, z) = false)) ∨ (hasB ns y = true ∧ ((1099511627776 < z ∧ Hid (edgeB ns (x, y, z) = false)) ∨ (z ≤ 1099511627776 ∧ ((z < -1099511627776 ∧ Hid (edgeB ns (x, y, z) = false)) ∨ (-1099511627776 ≤ z ∧ Hid (edgeB ns (x, y, z) = true)))))))))) := by
          unfold Hid edgeB most
          by_cases g4 : 1099511627776 < z <;> by_cases g5 : z < -1099511627776 <;> cases (x == y) <;> cases hasB ns x <;> cases hasB ns y <;> simp [g4, g5] <;> omega
        rcases key with ⟨g1, HA⟩ | ⟨g1, ⟨g2, HA⟩ | ⟨g2, ⟨g3, HA⟩ | ⟨g3, ⟨g4, HA⟩ | ⟨g4, ⟨g5, HA⟩ | ⟨g5, HA⟩⟩⟩⟩⟩
        all_goals
          go_wp2_with (go_at_call 45; refine (has_calls _ _ _ ns _ _ (HNR.out.alloc _)).mono ?_; rintro e w' ⟨rfl, rfl⟩)
          first
            | (go_ret; exact ⟨ret_bool (by rw [HE.out, edgesB_step _ _ _ _ HX.out, HA.out]; rfl), (HBW.out.alloc (by omega) _)⟩)
            | (go_roundw
               case rel => exact ⟨k + 1, by omega, by go_num, by rw [HE.out, edgesB_step _ _ _ _ HX.out, HA.out]; rfl, HB.out.alloc (by omega) _⟩
               case measure => simp [intOf]; omega)
      · go_wp2
        go_ret
        exact ⟨ret_bool (by rw [HE.out, edgesB_end _ _ _ (by have := HR.out.len; omega)]), HB2.out.trans (HB.out.mono (by omega))⟩

def fewB (ns : List Int) (es : List (Int × Int × Int)) (k : Nat) : Bool := decide (ns.length ≤ k) && decide (es.length ≤ 8 * k) && wellB ns es

set_option maxHeartbeats 1000000 in
theorem few_calls (d : Bool) (an ae : Option Addr) (n cn m ce k : Nat) (ns : List Int) (es : List (Int × Int × Int)) (w : World) (hk : k ≤ 1000) (hn : RdI w an n ns) (hr : RdE w ae m es) :
    Calls Tryz.prog 40 #[.agg #[.bool d, .slice an n cn, .slice ae m ce], .int .i64 k] w fun e w' => e = .returned (.bool (fewB ns es k)) ∧ Below w.heap.size w w' := by
  have hs := hr.small
  have hs2 := hn.small
  have HLn := Lib.hid hn.len
  have HLm := Lib.hid hr.len
  have HR := Lib.hid hr; clear hr
  have HN := Lib.hid hn; clear hn
  by_cases h1 : n ≤ k
  · by_cases h2 : m ≤ 8 * k
    · have HV := Lib.hid (show fewB ns es k = wellB ns es from by rw [fewB, HLn.out, HLm.out]; simp [h1, h2])
      go_enter Tryz.func40, Tryz.ntmps40
      go_wp2_with fail
      refine (well_calls d an ae n cn m ce ns es _ (HN.out.alloc _) (HR.out.alloc _) (by omega)).mono ?_
      rintro e w1 ⟨rfl, hb1⟩
      have HB := Lib.hid (((Below.refl w.heap.size w).alloc (Nat.le_refl _) _).trans (hb1.mono (by simp))); clear hb1
      cases hw : wellB ns es
      all_goals
        go_wp2
        go_ret
        exact ⟨ret_bool (by rw [HV.out, hw]), HB.out⟩
    · have HV := Lib.hid (show fewB ns es k = false from by rw [fewB, HLn.out, HLm.out]; simp [h2])
      go_enter Tryz.func40, Tryz.ntmps40
      go_wp2_with fail
      go_ret
      exact ⟨ret_bool HV.out.symm, (Below.refl _ _).alloc (Nat.le_refl _) _⟩
  · have HV := Lib.hid (show fewB ns es k = false from by rw [fewB, HLn.out, HLm.out]; simp [h1])
    go_enter Tryz.func40, Tryz.ntmps40
    go_wp2_with fail
    go_ret
    exact ⟨ret_bool HV.out.symm, (Below.refl _ _).alloc (Nat.le_refl _) _⟩
end Go.Proofs.YtbkoifdnlaihfaaGreat
