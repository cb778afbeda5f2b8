/- The walk of the statements' own sort. -/
import Derived.Test.YtbkoifdnlaihfaaGreatProg
import Derived.Test.YtbkoifdnlaihfaaGreatMem
import Derived.Test.YtbkoifdnlaihfaaGreatList
import Derived.Test.YtbkoifdnlaihfaaGreatShelf
import Derived.Deep.QuietTactic
import Derived.BigQuiet
import Derived.BigRegion
import Derived.WalkLawsBesides
namespace Go.Proofs.YtbkoifdnlaihfaaGreat
open Go.RowKit

theorem map_getD (zs : List Int) (n : Nat) (h : zs.length = n) : (zs.take n).map (Value.int .i64) = zs.map (Value.int .i64) := by rw [← h, List.take_length]

theorem clone_calls (a : Option Addr) (n cap : Nat) (zs : List Int) (w : World) (hr : RdI w a n zs) (hn : n * 8 ≤ 140737488355328) :
    Calls Tryz.prog 96 #[.slice a n cap] w fun e w' => ∃ v', e = .returned v' ∧ w'.ownsRow w.heap.size 3 1 v' n (zs.map (Value.int .i64)) ∧ Below w.heap.size w w' := by
  by_cases h0 : 0 < n
  · obtain ⟨b, off, rfl, hb, hc⟩ := hr.at_ h0
    refine (Tryz.slices_Clone_int_f96 b off n cap zs w (by have := hr.len; omega) hn (fun j hj => ?_)).mono ?_
    · obtain ⟨z, hz, hcz⟩ := hc j (by have := hr.len; omega)
      rw [hcz, hz.out]
    · rintro e w' ⟨v', rfl, h1, _, h2⟩
      exact ⟨v', rfl, by rw [← map_getD zs n hr.len]; exact h1, h2⟩
  · obtain rfl : n = 0 := by omega
    obtain rfl : zs = [] := List.eq_nil_of_length_eq_zero hr.len
    cases a with
    | none =>
      refine (Tryz.slices_Clone_int_nil_f96 0 cap w).mono ?_
      rintro e w' ⟨rfl, rfl⟩
      exact ⟨_, rfl, World.ownsRow_nil _ _ _ _, Below.refl _ _⟩
    | some a =>
      refine (Tryz.slices_Clone_int_zero_f96 a cap w).mono ?_
      rintro e w' ⟨v', rfl, h1, _, h2⟩
      exact ⟨v', rfl, h1, h2⟩

/-- What the sort has after k rounds, in block g. -/
def SortSt (w0 w1 wr : World) (g cap : Nat) (zs : List Int) (k : Nat) : Prop :=
  ∃ l, IntBlk 3 wr g l cap ∧ l.Perm zs ∧ SortedTo l (k - 1) ∧ Below w0.heap.size w1 wr
/-- .. and within a round. -/
def InsSt (w0 w1 wr : World) (g cap : Nat) (zs : List Int) (k i : Nat) : Prop :=
  ∃ l, IntBlk 3 wr g l cap ∧ l.Perm zs ∧ InsAt l k i ∧ Below w0.heap.size w1 wr

set_option maxHeartbeats 1000000 in
theorem sorted_calls (a : Option Addr) (n cap : Nat) (zs : List Int) (w : World) (hr : RdI w a n zs) (hn : n * 8 ≤ 140737488355328) :
    Calls Tryz.prog 56 #[.slice a n cap] w fun e w' => ∃ v', e = .returned v' ∧ w'.ownsRow w.heap.size 3 1 v' n ((sortI zs).map (Value.int .i64)) ∧ Below w.heap.size w w' := by
  have hs := hr.small
  have HL := Lib.hid hr.len
  have HR := Lib.hid hr; clear hr
  go_enter Tryz.func56, Tryz.ntmps56
  go_wp2_with fail
  refine (clone_calls _ _ _ zs _ HR.out hn).mono ?_
  rintro e w1 ⟨v', rfl, hown, hb1⟩
  have HO := Lib.hid hown
  by_cases hn2 : n < 2
  · obtain ⟨a', cap', rfl, _⟩ := RdI.of_owns hown
    clear hown
    go_wp2_with fail
    refine wp_loop_rounds 1 ?_
    rw [rounds_succ]
    go_wp2
    go_ret
    refine ⟨_, rfl, ?_, hb1⟩
    have e : sortI zs = zs := by
      symm; refine sortI_unique (List.Perm.refl _) ?_
      have := HL.out
      match zs, this with
      | [], _ => simp
      | [z], _ => simp
      | _ :: _ :: _, h => simp at h; omega
    rw [e]; exact HO.out
  · obtain ⟨g, cap', rfl⟩ : ∃ g cap', v' = .slice (some ⟨g, 0, none⟩) n cap' := by
      rcases hown.2 with ⟨_, h⟩ | ⟨g, cap', _, h, _⟩
      · omega
      · exact ⟨g, cap', h⟩
    obtain ⟨hblk, _, hg, hcap, hmax⟩ := IntBlk.of_owns hown
    clear hown
    have HB := Lib.hid hblk; clear hblk
    have HB1 := Lib.hid hb1; clear hb1
    go_wp2_with fail
    go_loopw [4, 5] (fun k _ wr => ∃ j : Nat, 1 ≤ j ∧ j ≤ n ∧ k = .int .i64 j ∧ SortSt w w1 wr g cap' zs j) (fun k _ _ => n - (intOf k).toNat)
    case atStart => exact ⟨1, by omega, by omega, rfl, zs, HB.out, List.Perm.refl _, fun a b _ _ => by omega, Below.refl _ _⟩
    case round =>
      obtain ⟨k, hk1, hkn, rfl, hst⟩ := hrel
      have HS := Lib.hid hst; clear hst
      obtain ⟨wo, rfl⟩ : ∃ wo : World, wo = wr := ⟨_, rfl⟩
      by_cases hlt : k < n
      · go_wp2_with fail
        go_loopw [5] (fun i wr => ∃ i' : Nat, i' ≤ k ∧ i = .int .i64 i' ∧ InsSt w w1 wr g cap' zs k i') (fun i _ => (intOf i).toNat)
        case atStart =>
          obtain ⟨l, h1, h2, h3, h4⟩ := HS.out
          refine ⟨k, by omega, rfl, l, h1, h2, ?_, h4⟩
          have := h3.ins; rw [show k - 1 + 1 = k from by omega] at this; exact this
        case round =>
          obtain ⟨i, hik, rfl, hin⟩ := hrel
          have HI := Lib.hid hin
          obtain ⟨l, h1, h2, h3, h4⟩ := hin
          have hlen : l.length = n := by rw [h2.length_eq]; exact HL.out
          have H1 := Lib.hid h1; have H2 := Lib.hid h2; have H3 := Lib.hid h3; have H4 := Lib.hid h4; have HLen := Lib.hid hlen
          clear h1 h2 h3 h4 hlen
          by_cases hi0 : 0 < i
          · obtain ⟨x, hx⟩ : ∃ x, l.getD i 0 = x := ⟨_, rfl⟩
            obtain ⟨y, hy⟩ : ∃ y, l.getD (i - 1) 0 = y := ⟨_, rfl⟩
            have hcx := H1.out.cell i (by have := HLen.out; omega)
            have hcy := H1.out.cell (i - 1) (by have := HLen.out; omega)
            have hfx := H1.out.free i
            have hfy := H1.out.free (i - 1)
            rw [hx] at hcx; rw [hy] at hcy
            have HX := Lib.hid hx; have HY := Lib.hid hy; clear hx hy
            have hsub : IntKind.i64.wrap ((i : Int) - 1) = ((i - 1 : Nat) : Int) := by rw [IntWalk.i64_in _ (by omega)]; omega
            by_cases hxy : x < y
            · go_wp2_with fail
              go_quiet (fail)
              go_wp2
              go_region
              go_wp2
              refine ⟨⟨i - 1, by omega, rfl, swapL l (i - 1) i, ?_, (swapL_perm _ _ _ (by have := HLen.out; omega) (by have := HLen.out; omega)).trans H2.out, ?_, ?_⟩, by simp [intOf]; omega⟩
              · rw [swapL_comm _ _ _ (by omega)]
                unfold swapL
                rw [HX.out, HY.out]
                have h1 := IntBlk.set (IntBlk.drewN H1.out (nq + 1)) i (by have := HLen.out; omega) y
                exact h1.set (i - 1) (by rw [List.length_set]; have := HLen.out; omega) x
              · exact H3.out.swap hi0 hik (by have := HLen.out; omega) (by rw [HX.out, HY.out]; exact hxy)
              · exact ((below_drewN H4.out _).setCell hg _).setCell hg _
            · have hxy' : decide (x < y) = false := by simpa using hxy
              have Hxy := Lib.hid hxy
              go_wp2_with fail
              go_quiet (fail)
              go_wp2
              refine ⟨⟨k + 1, by omega, by omega, by go_num, l, IntBlk.drewN H1.out _, H2.out, ?_, below_drewN H4.out _⟩, by simp [intOf]; omega⟩
              exact H3.out.done hi0 hik (by rw [HX.out, HY.out]; have := Hxy.out; omega)
          · have hi0' : decide (0 < i) = false := by simpa using hi0
            go_wp2_with fail
            go_quiet (fail)
            go_wp2
            refine ⟨⟨k + 1, by omega, by omega, by go_num, l, IntBlk.drewN H1.out _, H2.out, ?_, below_drewN H4.out _⟩, by simp [intOf]; omega⟩
            have h3 := H3.out
            obtain rfl : i = 0 := by omega
            exact h3.done0
      · go_wp2
        go_ret
        obtain ⟨l, h1, h2, h3, h4⟩ := HS.out
        have hlen : l.length = n := by rw [h2.length_eq]; exact HL.out
        have hl : l = sortI zs := SortedTo.eq h2 (by rw [hlen, show n = k from by omega]; exact h3)
        refine ⟨_, rfl, ?_, HB1.out.trans h4⟩
        rw [← hl, ← hlen]
        exact h1.owns hg hmax

end Go.Proofs.YtbkoifdnlaihfaaGreat
