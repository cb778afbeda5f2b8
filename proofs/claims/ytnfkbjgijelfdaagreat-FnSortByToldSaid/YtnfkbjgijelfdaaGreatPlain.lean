/- The walks of the statements' own small functions: index, has, rising. The walk of the statements' own sort. The walks of well and few. The walks of zzFits1 and fewOf. The world within a law. -/
import Derived.Test.YtnfkbjgijelfdaaGreatProg
import Derived.Test.YtnfkbjgijelfdaaGreatMem
import Derived.Test.YtnfkbjgijelfdaaGreatShelf
import Derived.Deep.QuietTactic
import Derived.BigQuiet
import Derived.WalkLawsBesides
import Derived.BigRegion
namespace Go.Proofs.YtnfkbjgijelfdaaGreat
open Go.RowKit

set_option maxHeartbeats 400000 in
theorem index_calls (a : Option Addr) (n cap : Nat) (zs : List Int) (x : Int) (w : World) (hr : RdI w a n zs) :
    Calls Tryz.prog 62 #[.slice a n cap, .int .i64 x] w fun e w' => e = .returned (.int .i64 (idxFrom zs x 0)) ∧ w = w' := by
  have hs := hr.small
  have HR := Lib.hid hr; clear hr
  go_enter Tryz.func62, Tryz.ntmps62
  go_wp2
  go_loop [5] (fun i => ∃ k : Nat, k ≤ n ∧ i = .int .i64 k ∧ idxFrom zs x 0 = idxFrom (zs.drop k) x k) (fun i => n - (intOf i).toNat)
  case atStart => exact ⟨0, by omega, rfl, by simp⟩
  case round =>
    obtain ⟨k, hk, rfl, he⟩ := hrel
    have HE := Lib.hid he; clear he
    by_cases hlt : k < n
    · obtain ⟨b, off, rfl, hb, hc⟩ := HR.out.at_ (by omega)
      obtain ⟨z, HZ, hck⟩ := hc k hlt
      clear hc
      have HL := Lib.hid HR.out.len
      by_cases hx : z = x
      · subst hx
        go_wp2
        go_ret
        exact ⟨ret_int (by rw [HE.out, idxFrom_step _ _ _ (by have := HL.out; omega), HZ.out, if_pos rfl]), rfl⟩
      · have hx' := beq_eq_false_iff_ne.2 hx
        have HX := Lib.hid hx; clear hx
        go_wp2
        go_round
        case rel => exact ⟨k + 1, by omega, by go_num, by rw [HE.out, idxFrom_step _ _ _ (by have := HL.out; omega), HZ.out, if_neg HX.out]⟩
        case measure => simp [intOf]; omega
    · go_wp2
      go_ret
      exact ⟨ret_int (by rw [HE.out, idxFrom_end _ _ _ (by have := HR.out.len; omega)]), rfl⟩

set_option maxHeartbeats 400000 in
theorem has_calls (a : Option Addr) (n cap : Nat) (zs : List Int) (x : Int) (w : World) (hr : RdI w a n zs) :
    Calls Tryz.prog 119 #[.slice a n cap, .int .i64 x] w fun e w' => e = .returned (.bool (hasB zs x)) ∧ w = w' := by
  have HR := Lib.hid hr; clear hr
  go_enter Tryz.func119, Tryz.ntmps119
  go_wp2_with (go_at_call 62; refine (index_calls _ _ _ zs _ _ HR.out).mono ?_; rintro e w' ⟨rfl, rfl⟩)
  go_ret
  exact ⟨rfl, rfl⟩

set_option maxHeartbeats 400000 in
theorem rising_calls (a : Option Addr) (n cap : Nat) (zs : List Int) (w : World) (hr : RdI w a n zs) :
    Calls Tryz.prog 118 #[.slice a n cap] w fun e w' => e = .returned (.bool (risingB zs)) ∧ ∃ q, w' = w.drewN q := by
  have hs := hr.small
  have HR := Lib.hid hr; clear hr
  go_enter Tryz.func118, Tryz.ntmps118
  go_wp2
  go_loopw [3] (fun i wr => ∃ k : Nat, 1 ≤ k ∧ (k ≤ n ∨ k = 1) ∧ i = .int .i64 k ∧ (∀ j, j + 1 < k → zs.getD j 0 < zs.getD (j + 1) 0) ∧ ∃ q, wr = w.drewN q) (fun i _ => n - (intOf i).toNat)
  case atStart => exact ⟨1, by omega, .inr rfl, rfl, by omega, 0, rfl⟩
  case round =>
    obtain ⟨k, hk1, hk, rfl, he, q, rfl⟩ := hrel
    have HE := Lib.hid he; clear he
    have HK := Lib.hid hk; clear hk
    by_cases hlt : k < n
    · obtain ⟨b, off, rfl, hb, hc⟩ := HR.out.at_ (by omega)
      obtain ⟨z, HZ, hck⟩ := hc k hlt
      obtain ⟨y, HY, hcy⟩ := hc (k - 1) (by omega)
      clear hc
      by_cases hx : y < z
      · go_wp2
        go_quiet (fail)
        go_wp2
        go_roundw
        case rel =>
          refine ⟨k + 1, by omega, .inl (by omega), by go_num, ?_, _, rfl⟩
          intro j hj
          by_cases e : j + 1 < k
          · exact HE.out j e
          · obtain rfl : j = k - 1 := by omega
            rw [HY.out, show k - 1 + 1 = k from by omega, HZ.out]; exact hx
        case measure => simp [intOf]; omega
      · have hx' : decide (z ≤ y) = true := by simpa using hx
        go_wp2
        go_quiet (fail)
        go_wp2
        go_ret
        refine ⟨ret_bool (Eq.symm (Bool.eq_false_iff.2 fun h => ?_)), _, World.drewN_drewN ..⟩
        have h1 := (risingB_iff _).1 h (k - 1) (by have := HR.out.len; omega)
        rw [HY.out, show k - 1 + 1 = k from by omega, HZ.out] at h1
        omega
    · go_wp2
      go_ret
      refine ⟨ret_bool (Eq.symm ((risingB_iff _).2 ?_)), q, rfl⟩
      intro j hj
      have := HK.out; have := HR.out.len
      exact HE.out j (by omega)
end Go.Proofs.YtnfkbjgijelfdaaGreat
namespace Go.Proofs.YtnfkbjgijelfdaaGreat
open Go.RowKit

theorem map_getD (zs : List Int) (n : Nat) (h : zs.length = n) : (zs.take n).map (Value.int .i64) = zs.map (Value.int .i64) := by rw [← h, List.take_length]

theorem clone_calls (a : Option Addr) (n cap : Nat) (zs : List Int) (w : World) (hr : RdI w a n zs) (hn : n * 8 ≤ 140737488355328) :
    Calls Tryz.prog 63 #[.slice a n cap] w fun e w' => ∃ v', e = .returned v' ∧ w'.ownsRow w.heap.size 3 1 v' n (zs.map (Value.int .i64)) ∧ Below w.heap.size w w' := by
  by_cases h0 : 0 < n
  · obtain ⟨b, off, rfl, hb, hc⟩ := hr.at_ h0
    first
      | refine (Tryz.slices_Clone_int_f63 b off n cap zs w (by have := hr.len; omega) hn (fun j hj => ?_)).mono ?_
      | refine (Tryz.slices_Clone_int b off n cap zs w (by have := hr.len; omega) hn (fun j hj => ?_)).mono ?_
    · obtain ⟨z, hz, hcz⟩ := hc j (by have := hr.len; omega)
      rw [hcz, hz.out]
    · rintro e w' ⟨v', rfl, h1, _, h2⟩
      exact ⟨v', rfl, by rw [← map_getD zs n hr.len]; exact h1, h2⟩
  · obtain rfl : n = 0 := by omega
    obtain rfl : zs = [] := List.eq_nil_of_length_eq_zero hr.len
    cases a with
    | none =>
      first
        | refine (Tryz.slices_Clone_int_nil_f63 0 cap w).mono ?_
        | refine (Tryz.slices_Clone_int_nil 0 cap w).mono ?_
      rintro e w' ⟨rfl, rfl⟩
      exact ⟨_, rfl, World.ownsRow_nil _ _ _ _, Below.refl _ _⟩
    | some a =>
      first
        | refine (Tryz.slices_Clone_int_zero_f63 a cap w).mono ?_
        | refine (Tryz.slices_Clone_int_zero a cap w).mono ?_
      rintro e w' ⟨v', rfl, h1, _, h2⟩
      exact ⟨v', rfl, h1, h2⟩

/-- What the sort has after k rounds, in block g. -/
def SortSt (w0 w1 wr : World) (g cap : Nat) (zs : List Int) (k : Nat) : Prop :=
  ∃ l, IntBlk 3 wr g l cap ∧ l.Perm zs ∧ SortedTo l (k - 1) ∧ Below w0.heap.size w1 wr
/-- .. and within a round. -/
def InsSt (w0 w1 wr : World) (g cap : Nat) (zs : List Int) (k i : Nat) : Prop :=
  ∃ l, IntBlk 3 wr g l cap ∧ l.Perm zs ∧ InsAt l k i ∧ Below w0.heap.size w1 wr

set_option maxHeartbeats 1000000 in
theorem sorted_calls (a : Option Addr) (n cap : Nat) (zs : List Int) (w : World) (hr : RdI w a n zs) (hn : n * 8 ≤ 140737488355328) :
    Calls Tryz.prog 22 #[.slice a n cap] w fun e w' => ∃ v', e = .returned v' ∧ w'.ownsRow w.heap.size 3 1 v' n ((sortI zs).map (Value.int .i64)) ∧ Below w.heap.size w w' := by
  have hs := hr.small
  have HL := Lib.hid hr.len
  have HR := Lib.hid hr; clear hr
  go_enter Tryz.func22, Tryz.ntmps22
  go_wp2_with fail
  refine (clone_calls _ _ _ zs _ HR.out hn).mono ?_
  rintro e w1 ⟨v', rfl, hown, hb1⟩
  have HO := Lib.hid hown
  by_cases hn2 : n < 2
  · obtain ⟨a', cap', rfl, _⟩ := RdI.of_owns hown
    clear hown
    go_wp2_with fail
    refine wp_loop_rounds 1 ?_
    rw [rounds_succ]
    go_wp2
    go_ret
    refine ⟨_, rfl, ?_, hb1⟩
    have e : sortI zs = zs := by
      symm; refine sortI_unique (List.Perm.refl _) ?_
      have := HL.out
      match zs, this with
      | [], _ => simp
      | [z], _ => simp
      | _ :: _ :: _, h => simp at h; omega
    rw [e]; exact HO.out
  · obtain ⟨g, cap', rfl⟩ : ∃ g cap', v' = .slice (some ⟨g, 0, none⟩) n cap' := by
      rcases hown.2 with ⟨_, h⟩ | ⟨g, cap', _, h, _⟩
      · omega
      · exact ⟨g, cap', h⟩
    obtain ⟨hblk, _, hg, hcap, hmax⟩ := IntBlk.of_owns hown
    clear hown
    have HB := Lib.hid hblk; clear hblk
    have HB1 := Lib.hid hb1; clear hb1
    go_wp2_with fail
    go_loopw [4, 5] (fun k _ wr => ∃ j : Nat, 1 ≤ j ∧ j ≤ n ∧ k = .int .i64 j ∧ SortSt w w1 wr g cap' zs j) (fun k _ _ => n - (intOf k).toNat)
    case atStart => exact ⟨1, by omega, by omega, rfl, zs, HB.out, List.Perm.refl _, fun a b _ _ => by omega, Below.refl _ _⟩
    case round =>
      obtain ⟨k, hk1, hkn, rfl, hst⟩ := hrel
      have HS := Lib.hid hst; clear hst
      obtain ⟨wo, rfl⟩ : ∃ wo : World, wo = wr := ⟨_, rfl⟩
      by_cases hlt : k < n
      · go_wp2_with fail
        go_loopw [5] (fun i wr => ∃ i' : Nat, i' ≤ k ∧ i = .int .i64 i' ∧ InsSt w w1 wr g cap' zs k i') (fun i _ => (intOf i).toNat)
        case atStart =>
          obtain ⟨l, h1, h2, h3, h4⟩ := HS.out
          refine ⟨k, by omega, rfl, l, h1, h2, ?_, h4⟩
          have := h3.ins; rw [show k - 1 + 1 = k from by omega] at this; exact this
        case round =>
          obtain ⟨i, hik, rfl, hin⟩ := hrel
          have HI := Lib.hid hin
          obtain ⟨l, h1, h2, h3, h4⟩ := hin
          have hlen : l.length = n := by rw [h2.length_eq]; exact HL.out
          have H1 := Lib.hid h1; have H2 := Lib.hid h2; have H3 := Lib.hid h3; have H4 := Lib.hid h4; have HLen := Lib.hid hlen
          clear h1 h2 h3 h4 hlen
          by_cases hi0 : 0 < i
          · obtain ⟨x, hx⟩ : ∃ x, l.getD i 0 = x := ⟨_, rfl⟩
            obtain ⟨y, hy⟩ : ∃ y, l.getD (i - 1) 0 = y := ⟨_, rfl⟩
            have hcx := H1.out.cell i (by have := HLen.out; omega)
            have hcy := H1.out.cell (i - 1) (by have := HLen.out; omega)
            have hfx := H1.out.free i
            have hfy := H1.out.free (i - 1)
            rw [hx] at hcx; rw [hy] at hcy
            have HX := Lib.hid hx; have HY := Lib.hid hy; clear hx hy
            have hsub : IntKind.i64.wrap ((i : Int) - 1) = ((i - 1 : Nat) : Int) := by rw [IntWalk.i64_in _ (by omega)]; omega
            by_cases hxy : x < y
            · go_wp2_with fail
              go_quiet (fail)
              go_wp2
              go_region
              go_wp2
              refine ⟨⟨i - 1, by omega, rfl, swapL l (i - 1) i, ?_, (swapL_perm _ _ _ (by have := HLen.out; omega) (by have := HLen.out; omega)).trans H2.out, ?_, ?_⟩, by simp [intOf]; omega⟩
              · rw [swapL_comm _ _ _ (by omega)]
                unfold swapL
                rw [HX.out, HY.out]
                have h1 := IntBlk.set (IntBlk.drewN H1.out (nq + 1)) i (by have := HLen.out; omega) y
                exact h1.set (i - 1) (by rw [List.length_set]; have := HLen.out; omega) x
              · exact H3.out.swap hi0 hik (by have := HLen.out; omega) (by rw [HX.out, HY.out]; exact hxy)
              · exact ((below_drewN H4.out _).setCell hg _).setCell hg _
            · have hxy' : decide (x < y) = false := by simpa using hxy
              have Hxy := Lib.hid hxy
              go_wp2_with fail
              go_quiet (fail)
              go_wp2
              refine ⟨⟨k + 1, by omega, by omega, by go_num, l, IntBlk.drewN H1.out _, H2.out, ?_, below_drewN H4.out _⟩, by simp [intOf]; omega⟩
              exact H3.out.done hi0 hik (by rw [HX.out, HY.out]; have := Hxy.out; omega)
          · have hi0' : decide (0 < i) = false := by simpa using hi0
            go_wp2_with fail
            go_quiet (fail)
            go_wp2
            refine ⟨⟨k + 1, by omega, by omega, by go_num, l, IntBlk.drewN H1.out _, H2.out, ?_, below_drewN H4.out _⟩, by simp [intOf]; omega⟩
            have h3 := H3.out
            obtain rfl : i = 0 := by omega
            exact h3.done0
      · go_wp2
        go_ret
        obtain ⟨l, h1, h2, h3, h4⟩ := HS.out
        have hlen : l.length = n := by rw [h2.length_eq]; exact HL.out
        have hl : l = sortI zs := SortedTo.eq h2 (by rw [hlen, show n = k from by omega]; exact h3)
        refine ⟨_, rfl, ?_, HB1.out.trans h4⟩
        rw [← hl, ← hlen]
        exact h1.owns hg hmax

end Go.Proofs.YtnfkbjgijelfdaaGreat
namespace Go.Proofs.YtnfkbjgijelfdaaGreat
open Go.RowKit

set_option maxHeartbeats 1000000 in
theorem well_calls (d : Bool) (an ae : Option Addr) (n cn m ce : Nat) (ns : List Int) (es : List (Int × Int × Int)) (w : World) (hn : RdI w an n ns) (hr : RdE w ae m es) (hn8 : n * 8 ≤ 140737488355328) :
    Calls Tryz.prog 86 #[.agg #[.bool d, .slice an n cn, .slice ae m ce]] w fun e w' => e = .returned (.bool (wellB ns es)) ∧ Below w.heap.size w w' := by
  have hs := hr.small
  have HR := Lib.hid hr; clear hr
  have HN := Lib.hid hn; clear hn
  go_enter Tryz.func86, Tryz.ntmps86
  go_wp2_with fail
  refine (sorted_calls _ _ _ ns _ (HN.out.alloc _) hn8).mono ?_
  rintro e w1 ⟨v', rfl, hown, hb1⟩
  obtain ⟨a', cap', rfl, hrd⟩ := RdI.of_owns hown
  have HRD := Lib.hid hrd; clear hrd hown
  obtain ⟨c, _⟩ := bcell hb1
  have k0 : w1.cell? ⟨w.heap.size, 1, none⟩ = some (.slice an n cn) := (c w.heap.size 1 (by simp)).trans (by go_simp)
  have k1 : w1.cell? ⟨w.heap.size, 2, none⟩ = some (.slice ae m ce) := (c w.heap.size 2 (by simp)).trans (by go_simp)
  clear c
  have hsz1 : w.heap.size < w1.heap.size := by have := hb1.size; simp at this; omega
  have hb0 : Below w.heap.size w w1 := ((Below.refl _ _).alloc (Nat.le_refl _) _).trans (hb1.mono (by simp))
  have HB0 := Lib.hid hb0; clear hb0 hb1
  go_wp2_with fail
  refine (rising_calls _ _ _ _ _ HRD.out).mono ?_
  rintro e w' ⟨rfl, q, rfl⟩
  cases hris : risingB (sortI ns)
  · go_wp2
    go_ret
    exact ⟨ret_bool (by rw [wellB, hris]; rfl), below_drewN HB0.out _⟩
  · have HW := Lib.hid (show wellB ns es = edgesB ns es from by rw [wellB, hris]; rfl)
    obtain ⟨w2, hw2⟩ : ∃ w2, w2 = w1.drewN q := ⟨_, rfl⟩
    have j0 : w2.cell? ⟨w.heap.size, 1, none⟩ = some (.slice an n cn) := by rw [hw2]; exact k0
    have j1 : w2.cell? ⟨w.heap.size, 2, none⟩ = some (.slice ae m ce) := by rw [hw2]; exact k1
    have hsz2 : w.heap.size < w2.heap.size := by rw [hw2]; exact hsz1
    have HB2 : Hid (Below w.heap.size w w2) := by rw [hw2]; exact below_drewN HB0.out _
    rw [← hw2]
    clear hw2 hsz1 k0 k1 HB0
    go_wp2_with fail
    go_loopw [3] (fun i wr => ∃ k : Nat, k ≤ m ∧ i = .int .i64 k ∧ wellB ns es = edgesB ns (es.drop k) ∧ Below (w.heap.size + 1) w2 wr) (fun i _ => m - (intOf i).toNat)
    case atStart => exact ⟨0, by omega, rfl, by rw [HW.out]; simp, Below.refl _ _⟩
    case round =>
      obtain ⟨k, hk, rfl, he, hb⟩ := hrel
      have HE := Lib.hid he; clear he
      have hszr := hb.size
      have HB := Lib.hid hb
      obtain ⟨c, _⟩ := bcell hb
      have k0 := (c w.heap.size 1 (by omega)).trans j0
      have k1 := (c w.heap.size 2 (by omega)).trans j1
      have hbw := HB2.out.trans (hb.mono (show w.heap.size ≤ w.heap.size + 1 by omega))
      clear c j0 j1 hb
      by_cases hlt : k < m
      · obtain ⟨b, off, rfl, hbb, hc⟩ := HR.out.at_ (by omega)
        obtain ⟨x, y, z, HX, c1, c2, c3⟩ := hc k hlt
        clear hc
        obtain ⟨c, _⟩ := bcell hbw
        have d1 := (c _ _ hbb).trans c1
        have d2 := (c _ _ hbb).trans c2
        have d3 := (c _ _ hbb).trans c3
        clear c c1 c2 c3
        have HNR := Lib.hid (HN.out.below hbw (Nat.le_refl _))
        have HBW := Lib.hid hbw; clear hbw
        have hwr : w.heap.size < wr.heap.size := by omega
        have hbr : b < wr.heap.size := by omega
        have key : ((x == y) = true ∧ Hid (edgeB ns (x, y, z) = false)) ∨ ((x == y) = false ∧ ((hasB ns x = false ∧ Hid (edgeB ns (x, y, z) = false)) ∨ (hasB ns x = true ∧ ((hasB ns y = false ∧ Hid (edgeB ns (x, y, z) = false)) ∨ (hasB ns y = true ∧ ((1099511627776 < z ∧ Hid (edgeB ns (x, y, z) = false)) ∨ (z ≤ 1099511627776 ∧ ((z < -1099511627776 ∧ Hid (edgeB ns (x, y, z) = false)) ∨ (-1099511627776 ≤ z ∧ Hid (edgeB ns (x, y, z) = true)))))))))) := by
          unfold Hid edgeB most
          by_cases g4 : 1099511627776 < z <;> by_cases g5 : z < -1099511627776 <;> cases (x == y) <;> cases hasB ns x <;> cases hasB ns y <;> simp [g4, g5] <;> omega
        rcases key with ⟨g1, HA⟩ | ⟨g1, ⟨g2, HA⟩ | ⟨g2, ⟨g3, HA⟩ | ⟨g3, ⟨g4, HA⟩ | ⟨g4, ⟨g5, HA⟩ | ⟨g5, HA⟩⟩⟩⟩⟩
        all_goals
          go_wp2_with (go_at_call 119; refine (has_calls _ _ _ ns _ _ (HNR.out.alloc _)).mono ?_; rintro e w' ⟨rfl, rfl⟩)
          first
            | (go_ret; exact ⟨ret_bool (by rw [HE.out, edgesB_step _ _ _ _ HX.out, HA.out]; rfl), (HBW.out.alloc (by omega) _)⟩)
            | (go_roundw
               case rel => exact ⟨k + 1, by omega, by go_num, by rw [HE.out, edgesB_step _ _ _ _ HX.out, HA.out]; rfl, HB.out.alloc (by omega) _⟩
               case measure => simp [intOf]; omega)
      · go_wp2
        go_ret
        exact ⟨ret_bool (by rw [HE.out, edgesB_end _ _ _ (by have := HR.out.len; omega)]), HB2.out.trans (HB.out.mono (by omega))⟩

def fewB (ns : List Int) (es : List (Int × Int × Int)) (k : Nat) : Bool := decide (ns.length ≤ k) && decide (es.length ≤ 8 * k) && wellB ns es

set_option maxHeartbeats 1000000 in
theorem few_calls (d : Bool) (an ae : Option Addr) (n cn m ce k : Nat) (ns : List Int) (es : List (Int × Int × Int)) (w : World) (hk : k ≤ 1000) (hn : RdI w an n ns) (hr : RdE w ae m es) :
    Calls Tryz.prog 40 #[.agg #[.bool d, .slice an n cn, .slice ae m ce], .int .i64 k] w fun e w' => e = .returned (.bool (fewB ns es k)) ∧ Below w.heap.size w w' := by
  have hs := hr.small
  have hs2 := hn.small
  have HLn := Lib.hid hn.len
  have HLm := Lib.hid hr.len
  have HR := Lib.hid hr; clear hr
  have HN := Lib.hid hn; clear hn
  by_cases h1 : n ≤ k
  · by_cases h2 : m ≤ 8 * k
    · have HV := Lib.hid (show fewB ns es k = wellB ns es from by rw [fewB, HLn.out, HLm.out]; simp [h1, h2])
      go_enter Tryz.func40, Tryz.ntmps40
      go_wp2_with fail
      refine (well_calls d an ae n cn m ce ns es _ (HN.out.alloc _) (HR.out.alloc _) (by omega)).mono ?_
      rintro e w1 ⟨rfl, hb1⟩
      have HB := Lib.hid (((Below.refl w.heap.size w).alloc (Nat.le_refl _) _).trans (hb1.mono (by simp))); clear hb1
      cases hw : wellB ns es
      all_goals
        go_wp2
        go_ret
        exact ⟨ret_bool (by rw [HV.out, hw]), HB.out⟩
    · have HV := Lib.hid (show fewB ns es k = false from by rw [fewB, HLn.out, HLm.out]; simp [h2])
      go_enter Tryz.func40, Tryz.ntmps40
      go_wp2_with fail
      go_ret
      exact ⟨ret_bool HV.out.symm, (Below.refl _ _).alloc (Nat.le_refl _) _⟩
  · have HV := Lib.hid (show fewB ns es k = false from by rw [fewB, HLn.out, HLm.out]; simp [h1])
    go_enter Tryz.func40, Tryz.ntmps40
    go_wp2_with fail
    go_ret
    exact ⟨ret_bool HV.out.symm, (Below.refl _ _).alloc (Nat.le_refl _) _⟩
end Go.Proofs.YtnfkbjgijelfdaaGreat
namespace Go.Proofs.YtnfkbjgijelfdaaGreat
open Go.RowKit

set_option maxHeartbeats 400000 in
theorem fits_calls (d : Bool) (an ae : Option Addr) (n cn m ce : Nat) (w : World) (hn : n ≤ 9223372036854775807) (hm : m ≤ 9223372036854775807) :
    Calls Tryz.prog 8 #[.agg #[.bool d, .slice an n cn, .slice ae m ce]] w fun e w' => e = .returned (.bool (decide (n ≤ 2147483647 ∧ m ≤ 2147483647))) ∧ Below w.heap.size w w' := by
  by_cases h1 : n ≤ 2147483647
  · by_cases h2 : m ≤ 2147483647
    all_goals
      go_enter Tryz.func8, Tryz.ntmps8
      go_wp2
      go_ret
      exact ⟨ret_bool (by simp [h1, h2]), (Below.refl _ _).alloc (Nat.le_refl _) _⟩
  · go_enter Tryz.func8, Tryz.ntmps8
    go_wp2
    go_ret
    exact ⟨ret_bool (by simp [h1]), (Below.refl _ _).alloc (Nat.le_refl _) _⟩

set_option maxHeartbeats 1000000 in
theorem fewOf_calls (d dd : Bool) (an ae : Option Addr) (n cn m ce k : Nat) (ns : List Int) (es : List (Int × Int × Int)) (w : World) (hk : k ≤ 1000) (hn : RdI w an n ns) (hr : RdE w ae m es) :
    Calls Tryz.prog 9 #[.agg #[.bool d, .slice an n cn, .slice ae m ce], .bool dd, .int .i64 k] w fun e w' => e = .returned (.bool ((d == dd) && fewB ns es k)) ∧ Below w.heap.size w w' := by
  have HR := Lib.hid hr; clear hr
  have HN := Lib.hid hn; clear hn
  obtain ⟨q, hq⟩ : ∃ q, (d == dd) = q := ⟨_, rfl⟩
  cases q
  · have HQ := Lib.hid hq
    go_enter Tryz.func9, Tryz.ntmps9
    cases d <;> cases dd <;> simp at hq
    all_goals
      go_wp2_with fail
      go_ret
      exact ⟨rfl, (Below.refl _ _).alloc (Nat.le_refl _) _⟩
  · obtain rfl : d = dd := by simpa using hq
    clear hq
    go_enter Tryz.func9, Tryz.ntmps9
    cases d
    all_goals
      go_wp2_with fail
      refine (few_calls _ an ae n cn m ce k ns es _ hk (HN.out.alloc _) (HR.out.alloc _)).mono ?_
      rintro e w1 ⟨rfl, hb1⟩
      have HB := Lib.hid (((Below.refl w.heap.size w).alloc (Nat.le_refl _) _).trans (hb1.mono (by simp))); clear hb1
      go_wp2_with fail
      go_ret
      exact ⟨rfl, HB.out⟩
end Go.Proofs.YtnfkbjgijelfdaaGreat
namespace Go.Proofs.YtnfkbjgijelfdaaGreat
open Go.RowKit

/-- The world within the law: all is as it was; the graph's box. -/
structure LawSt (w : World) (d : Bool) (an ae : Option Addr) (n cn m ce : Nat) (W : World) : Prop where
  below : Below w.heap.size w W
  c0 : W.cell? ⟨w.heap.size, 0, none⟩ = some (.bool d)
  c1 : W.cell? ⟨w.heap.size, 1, none⟩ = some (.slice an n cn)
  c2 : W.cell? ⟨w.heap.size, 2, none⟩ = some (.slice ae m ce)
  size : w.heap.size < W.heap.size

theorem LawSt.start (w : World) (d : Bool) (an ae : Option Addr) (n cn m ce : Nat) : LawSt w d an ae n cn m ce (w.alloc (.cells #[.bool d, .slice an n cn, .slice ae m ce] 25)) :=
  ⟨(Below.refl _ _).alloc (Nat.le_refl _) _, by go_simp, by go_simp, by go_simp, by simp⟩
theorem LawSt.later {w W W' : World} {d : Bool} {an ae : Option Addr} {n cn m ce : Nat} (h : LawSt w d an ae n cn m ce W) (hb : Below W.heap.size W W') : LawSt w d an ae n cn m ce W' :=
  ⟨h.below.trans (hb.mono (Nat.le_of_lt h.size)), (hb.cell (p := ⟨w.heap.size, 0, none⟩) h.size).trans h.c0, (hb.cell (p := ⟨w.heap.size, 1, none⟩) h.size).trans h.c1, (hb.cell (p := ⟨w.heap.size, 2, none⟩) h.size).trans h.c2, Nat.lt_of_lt_of_le h.size hb.size⟩

theorem fewB_parts {ns : List Int} {es : List (Int × Int × Int)} {k : Nat} (h : fewB ns es k = true) : ns.length ≤ k ∧ es.length ≤ 8 * k ∧ wellB ns es = true := by
  unfold fewB at h
  simp only [Bool.and_eq_true, decide_eq_true_eq] at h
  exact ⟨h.1.1, h.1.2, h.2⟩
end Go.Proofs.YtnfkbjgijelfdaaGreat
