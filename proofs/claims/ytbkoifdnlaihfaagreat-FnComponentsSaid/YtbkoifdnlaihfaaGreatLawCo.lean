/- The walks of components and FnComponents. -/
import Derived.Test.YtbkoifdnlaihfaaGreatCompP
import Derived.Test.YtbkoifdnlaihfaaGreatParts
import Derived.Test.YtbkoifdnlaihfaaGreatReach
import Derived.Test.YtbkoifdnlaihfaaGreatPlain
namespace Go.Proofs.YtbkoifdnlaihfaaGreat
open Go.RowKit

theorem sort7 : sortI [7] = [7] := (sortI_unique (List.Perm.refl _) (by simp)).symm
theorem well7 : wellB [7] [] = true := by
  unfold wellB
  rw [sort7]
  rfl
theorem comps7 {adj : Int → List Int} {ps : List (List Int)} (h : CompsFrom (sortI [7]) adj (sortI [7]) [] ps) : ps.length = 1 := by
  rw [sort7] at h
  rcases h with ⟨h, _⟩ | ⟨_, p, ps', rfl, hp, h⟩
  · cases h
  · rw [show ps' = [] from h]; rfl

set_option maxHeartbeats 2000000 in
set_option maxRecDepth 100000 in
theorem components7_calls (w : World) : Calls Tryz.prog 39 #[] w fun e w' => e = .returned (.bool true) ∧ Below w.heap.size w w' := by
  go_enter Tryz.func39, Tryz.ntmps39
  go_wp2_with fail
  obtain ⟨w1, hw1⟩ : ∃ w1, w1 = w.alloc (.cells #[.int .i64 7] 3) := ⟨_, rfl⟩
  have HB1 : Hid (Below w.heap.size w w1) := by rw [hw1]; exact (Below.refl _ _).alloc (Nat.le_refl _) _
  have x1 : w1.heap[w.heap.size]? = some (.cells #[.int .i64 7] 3 (0, 0)) := by rw [hw1]; exact heap_alloc_new w _
  have hs1 : w.heap.size < w1.heap.size := (Array.getElem?_eq_some_iff.1 x1).1
  rw [← hw1]
  clear hw1
  have HR1 : Hid (RdI w1 (some ⟨w.heap.size, 0, none⟩) 1 [7]) := ⟨rfl, by omega, fun _ => ⟨_, 0, rfl, hs1, fun j hj => by
    have h0 : j = 0 := by omega
    subst h0
    exact ⟨7, rfl, by rw [cell_of_row w1 _ _ _ _ (0, 0) x1]; rfl⟩⟩⟩
  have HE1 : Hid (RdE w1 none 0 []) := ⟨rfl, by omega, fun h => by omega⟩
  clear x1
  refine (components_calls false _ none 1 1 0 0 [7] [] w1 HR1.out HE1.out (by omega) (fun x hx => by
    have h7 : x = 7 := by simpa using hx
    subst h7; decide)).mono ?_
  rintro e w2 ⟨v, rfl, hc, hb⟩
  rw [show (wellB [7] [] && !false) = true by rw [well7]; rfl] at hc ⊢
  rw [if_pos rfl] at hc
  obtain ⟨vs, L, ps, hl, hps, hp, -⟩ := hc
  have h1 := comps7 hps
  have h2 := hp.length_eq
  rw [List.length_map, h1] at h2
  have hrow := hl.row
  rw [h2] at hrow
  obtain ⟨a, c, rfl⟩ := own_shape' hrow
  have HB2 := Lib.hid (HB1.out.trans (hb.mono (Nat.le_of_lt hs1)))
  clear hps hl hb HR1 HE1 hrow
  go_wp2_with fail
  go_ret
  exact ⟨rfl, HB2.out⟩

set_option maxHeartbeats 8000000 in
set_option maxRecDepth 100000 in
theorem lawCo_calls (d : Bool) (an ae : Option Addr) (n cn m ce : Nat) (ns : List Int) (es : List (Int × Int × Int)) (w : World) (hn : RdI w an n ns) (hr : RdE w ae m es) (hwf : ∀ x ∈ ns, (Lit.int .i64 x).wf = true) :
    Calls Tryz.prog 7 #[.agg #[.bool d, .slice an n cn, .slice ae m ce]] w fun e w' => e = .returned (.bool true) ∧ Below w.heap.size w w' := by
  have hsn := hn.small; have hsm := hr.small
  have HR := Lib.hid hr; clear hr
  have HN := Lib.hid hn; clear hn
  have HWF := Lib.hid hwf; clear hwf
  go_enter Tryz.func7, Tryz.ntmps7
  go_wp2_with fail
  refine (fits_calls d an ae n cn m ce _ hsn hsm).mono ?_
  rintro e w1 ⟨rfl, hb1⟩
  have HS1 := Lib.hid ((LawSt.start w d an ae n cn m ce).later hb1); clear hb1
  cases hf : decide (n ≤ 2147483647 ∧ m ≤ 2147483647)
  · go_wp2_with fail
    go_ret
    exact ⟨rfl, HS1.out.below⟩
  · clear hf
    have j0 := HS1.out.c0; have j1 := HS1.out.c1; have j2 := HS1.out.c2
    go_wp2_with fail
    refine (fewOf_calls d false an ae n cn m ce 25 ns es _ (by omega) (HN.out.below HS1.out.below (Nat.le_refl _)) (HR.out.below HS1.out.below (Nat.le_refl _))).mono ?_
    rintro e w2 ⟨rfl, hb2⟩
    have HS2 := Lib.hid (HS1.out.later hb2); clear hb2 j0 j1 j2
    have j0 := HS2.out.c0; have j1 := HS2.out.c1; have j2 := HS2.out.c2
    obtain ⟨fb, hfb⟩ : ∃ b, ((d == false) && fewB ns es 25) = b := ⟨_, rfl⟩
    have HFB := Lib.hid hfb
    rw [hfb]
    clear hfb
    cases fb
    · go_wp2_with fail
      go_ret
      exact ⟨rfl, HS2.out.below⟩
    obtain ⟨rfl, hfew⟩ : d = false ∧ fewB ns es 25 = true := by
      have h := HFB.out
      rw [Bool.and_eq_true] at h
      exact ⟨by simpa using h.1, h.2⟩
    obtain ⟨hl25, -, hwell⟩ := fewB_parts hfew
    have hnl : n ≤ 25 := by have := HN.out.len; omega
    have HWELL := Lib.hid hwell
    have HLEN := Lib.hid HN.out.len
    clear hfew hwell HFB hl25
    go_wp2_with fail
    refine (components_calls false an ae n cn m ce ns es _ (HN.out.below HS2.out.below (Nat.le_refl _)) (HR.out.below HS2.out.below (Nat.le_refl _)) (by omega) HWF.out).mono ?_
    rintro e w3 ⟨v, rfl, hc, hb3⟩
    rw [show (wellB ns es && !false) = true by rw [HWELL.out]; rfl] at hc ⊢
    rw [if_pos rfl] at hc
    obtain ⟨vs, L, ps, hL, hcf, hperm, hasc⟩ := hc
    have HCL := Lib.hid (comp_law HWELL.out hcf hperm hasc)
    have hLl : L.length ≤ 25 ∧ L.flatten.length ≤ 25 := by
      have h1 := (compsFrom_len _ _ _ hcf).1
      have h2 := hperm.length_eq
      rw [List.length_map] at h2
      rw [sortI_len] at h1
      have h3 := congrArg List.length HCL.out.all
      rw [sortI_len, sortI_len] at h3
      have := HLEN.out
      omega
    obtain ⟨aL, cL, rfl⟩ := own_shape' hL.row
    have HL3 := Lib.hid hL
    have HS3 := Lib.hid (HS2.out.later hb3)
    have HLM : Hid (∀ l ∈ L, l.length ≤ 1000000) := fun l hl => by
      have h4 := List.Sublist.length_le (List.sublist_flatten_of_mem hl)
      omega
    clear hL hcf hperm hasc hb3 j0 j1 j2
    obtain ⟨hLl1, hLl2⟩ := hLl
    have j0 := HS3.out.c0; have j1 := HS3.out.c1; have j2 := HS3.out.c2
    go_wp2_with fail
    refine (parts_calls _ _ vs L an n cn ns w3 HL3.out (HN.out.below HS3.out.below (Nat.le_refl _)) (by omega) (by omega) HCL.out.each HCL.out.all).mono ?_
    rintro e w4 ⟨rfl, hb4⟩
    have HL4 : Hid (LolI w4 w2.heap.size (.slice aL L.length cL) vs L) := HL3.out.of_heap (fun j hj => hb4.block j (HL3.out.lt hj).2)
    have HS4 := Lib.hid (HS3.out.later hb4)
    clear hb4 j0 j1 j2
    have j0 := HS4.out.c0; have j1 := HS4.out.c1; have j2 := HS4.out.c2
    go_wp2_with fail
    refine (lexical_calls _ _ vs L w4 HL4.out (by omega) HLM.out HCL.out.asc).mono ?_
    rintro e w5 ⟨rfl, q5, rfl⟩
    have HL5 : Hid (LolI (w4.drewN q5) w2.heap.size (.slice aL L.length cL) vs L) := HL4.out.of_heap (fun _ _ => rfl)
    have HS5 := Lib.hid (HS4.out.later (below_drewN (Below.refl _ _) q5))
    clear j0 j1 j2
    have j0 := HS5.out.c0; have j1 := HS5.out.c1; have j2 := HS5.out.c2
    obtain ⟨w5, hw5⟩ : ∃ w5, w5 = w4.drewN q5 := ⟨_, rfl⟩
    rw [← hw5] at HL5 HS5 j0 j1 j2 ⊢
    clear hw5
    go_wp2_with fail
    refine (tableOf_calls false an ae n cn m ce ns es w5 (HN.out.below HS5.out.below (Nat.le_refl _)) (HR.out.below HS5.out.below (Nat.le_refl _)) (by omega) HWELL.out).mono ?_
    rintro e w6 ⟨vN, vA, vW, lo, GA, GW, rfl, hlo, hvN, hvNlo, hvA, hvW, hMA, hMW, hb6⟩
    rw [HLEN.out] at hvN hvA hvW hMA
    obtain ⟨aN, cN, rfl⟩ := own_shape' hvN
    obtain ⟨aA, cA, rfl⟩ := own_shape' hvA
    obtain ⟨aW, cW, rfl⟩ := own_shape' hvW
    have HVN := Lib.hid hvN; have HVA := Lib.hid hvA; have HMA := Lib.hid hMA
    have HL6 : Hid (LolI w6 w2.heap.size (.slice aL L.length cL) vs L) := HL5.out.of_heap (fun j hj => hb6.block j (HL5.out.lt hj).2)
    have HS6 := Lib.hid (HS5.out.later hb6)
    clear hvN hvNlo hvA hvW hMA hMW hb6 hlo j0 j1 j2
    have hs6 := HS6.out.size
    go_wp2_with fail
    obtain ⟨w7, hw7⟩ : ∃ w7, w7 = w6.alloc (.cells #[.slice aN n cN, .slice aA n cA, .slice aW n cW] 60) := ⟨_, rfl⟩
    have HB7 : Hid (Below w6.heap.size w6 w7) := by rw [hw7]; exact (Below.refl _ _).alloc (Nat.le_refl _) _
    have x7 : w7.heap[w6.heap.size]? = some (.cells #[.slice aN n cN, .slice aA n cA, .slice aW n cW] 60 (0, 0)) := by rw [hw7]; exact heap_alloc_new w6 _
    have hs7 : w6.heap.size < w7.heap.size := (Array.getElem?_eq_some_iff.1 x7).1
    rw [← hw7]
    obtain ⟨bt, hbt⟩ : ∃ bt, bt = w6.heap.size := ⟨_, rfl⟩
    rw [← hbt] at x7 hs7 HB7 ⊢
    have HX7 := Lib.hid x7
    have HV7 : Hid (w7.ownsRow w5.heap.size 3 1 (.slice aN n cN) n ((sortI ns).map (Value.int .i64))) := ownsRow_of_heap HVN.out (fun g hg => HB7.out.block g (by have := (HVN.out.lt g hg).2; omega))
    have HA7 : Hid (w7.ownsRow lo 64 1 (.slice aA n cA) n ((List.range n).map (rowV n GA))) := ownsRow_of_heap HVA.out (fun g hg => HB7.out.block g (by have := (HVA.out.lt g hg).2; omega))
    have HM7 : Hid (Mat Value.bool w7 lo n n 4 GA (tabA false (sortI ns) es)) := HMA.out.of_heap (fun i hi => HB7.out.block _ (by have := HMA.out.lt hi; omega))
    have HL7 : Hid (LolI w7 w2.heap.size (.slice aL L.length cL) vs L) := HL6.out.of_heap (fun j hj => HB7.out.block j (by have := (HL6.out.lt hj).2; omega))
    have HB7w : Hid (Below w.heap.size w w7) := HS6.out.below.trans (HB7.out.mono (by omega))
    have hwt : w.heap.size < bt := by omega
    clear hw7 hbt x7
    refine (reach_calls _ _ _ _ lo n GA _ (sortI ns) w7 HV7.out HA7.out HM7.out (by omega)).mono ?_
    rintro e w8 ⟨vR, vsR, rfl, hR, hb8⟩
    have hRr := hR.row
    rw [matL_len] at hRr
    obtain ⟨aR, cR, rfl⟩ := own_shape' hRr
    have HR8 := Lib.hid hR
    have x8 : w8.heap[bt]? = some (.cells #[.slice aN n cN, .slice aA n cA, .slice aW n cW] 60 (0, 0)) := (hb8.block bt hs7).trans HX7.out
    have t0 : w8.cell? ⟨bt, 0, none⟩ = some (.slice aN n cN) := by rw [cell_of_row w8 _ _ _ _ (0, 0) x8]; rfl
    have hs8 : bt < w8.heap.size := (Array.getElem?_eq_some_iff.1 x8).1
    have HV8 : Hid (w8.ownsRow w5.heap.size 3 1 (.slice aN n cN) n ((sortI ns).map (Value.int .i64))) := ownsRow_of_heap HV7.out (fun g hg => hb8.block g (HV7.out.lt g hg).2)
    have HL8 : Hid (LolI w8 w2.heap.size (.slice aL L.length cL) vs L) := HL7.out.of_heap (fun j hj => hb8.block j (HL7.out.lt hj).2)
    have HB8w : Hid (Below w.heap.size w w8) := HB7w.out.trans (hb8.mono (by omega))
    clear hR hRr hb8 HX7 HV7 HA7 HM7 HL7 HB7w HB7 HVN HVA HMA HL6 HS6 x8
    go_wp2_with fail
    go_loopw [7] (fun i wr => ∃ u : Nat, u ≤ n ∧ i = .int .i64 u ∧ ∃ q, wr = w8.drewN q) (fun i _ => n - (intOf i).toNat)
    case atStart => exact ⟨0, by omega, rfl, 0, rfl⟩
    case round =>
      obtain ⟨u, hu, rfl, q1, rfl⟩ := hrel
      by_cases hun : u < n
      · go_wp2_with fail
        go_loopw [8] (fun i wr => ∃ v : Nat, v ≤ n ∧ i = .int .i64 v ∧ ∃ q, wr = w8.drewN q) (fun i _ => n - (intOf i).toNat)
        case atStart => exact ⟨0, by omega, rfl, _, rfl⟩
        case round =>
          obtain ⟨v, hv, rfl, q2, rfl⟩ := hrel
          by_cases hvn : v < n
          · obtain ⟨gN, cN', e, hgN0, hgN1, -⟩ := own_form HV8.out (by omega)
            simp only [Value.slice.injEq, true_and] at e
            obtain ⟨rfl, rfl⟩ := e
            obtain ⟨x, hx⟩ : ∃ x, (sortI ns).getD u 0 = x := ⟨_, rfl⟩
            obtain ⟨y, hy⟩ : ∃ y, (sortI ns).getD v 0 = y := ⟨_, rfl⟩
            have hsl : (sortI ns).length = n := by rw [sortI_len]; exact HLEN.out
            have c1 : w8.cell? ⟨gN, u, none⟩ = some (.int .i64 x) := (own_at HV8.out (i := u) (u := .int .i64 x) (by
              have h1 : u < (sortI ns).length := by omega
              rw [← hx]; simp [List.getD, h1])).1
            have c2 : w8.cell? ⟨gN, v, none⟩ = some (.int .i64 y) := (own_at HV8.out (i := v) (u := .int .i64 y) (by
              have h1 : v < (sortI ns).length := by omega
              rw [← hy]; simp [List.getD, h1])).1
            obtain ⟨gR, gi, ci, e, hgR, hrow, -, hgi, hcs⟩ := lolb_at HR8.out hun
            simp only [Value.slice.injEq, and_true] at e
            subst e
            obtain ⟨b, hb⟩ : ∃ b, wsh (tabA false (sortI ns) es) n u v = b := ⟨_, rfl⟩
            have c3 := (hcs v hvn).1
            rw [hb] at c3
            have HTG : Hid (togB L x y = b) := Lib.hid (by
              have h := HCL.out.tog u v (by have := HLEN.out; omega) (by have := HLEN.out; omega)
              rw [hx, hy, HLEN.out, hb] at h
              exact h)
            have HCALL : Hid (∀ m, Calls Tryz.prog 38 #[.slice aL L.length cL, .int .i64 x, .int .i64 y] (w8.drewN m) fun e w' => e = .returned (.bool b) ∧ w' = w8.drewN m) := fun m => by
              have h := together_calls w2.heap.size (.slice aL L.length cL) vs L x y (w8.drewN m) (HL8.out.of_heap (fun _ _ => rfl)) (by omega)
              rw [HTG.out] at h
              exact h
            clear hx hy hb hcs HTG hsl
            obtain ⟨wq, hwq⟩ : ∃ wq, wq = w8.drewN q2 := ⟨_, rfl⟩
            have t0' : wq.cell? ⟨bt, 0, none⟩ = some (.slice (some ⟨gN, 0, none⟩) n cN) := by rw [hwq]; exact t0
            have c1' : wq.cell? ⟨gN, u, none⟩ = some (.int .i64 x) := by rw [hwq]; exact c1
            have c2' : wq.cell? ⟨gN, v, none⟩ = some (.int .i64 y) := by rw [hwq]; exact c2
            have hrow' : wq.cell? ⟨gR, u, none⟩ = some (.slice (some ⟨gi, 0, none⟩) n ci) := by rw [hwq]; exact hrow
            have c3' : wq.cell? ⟨gi, v, none⟩ = some (.bool b) := by rw [hwq]; exact c3
            have HCALL' : Hid (∀ m, Calls Tryz.prog 38 #[.slice aL L.length cL, .int .i64 x, .int .i64 y] (wq.drewN m) fun e w' => e = .returned (.bool b) ∧ w' = wq.drewN m) := fun m => by
              rw [hwq, World.drewN_drewN]; exact HCALL.out _
            rw [← hwq]
            have HWQ := Lib.hid hwq
            clear hwq HCALL t0 c1 c2 hrow c3
            go_wp2_with fail
            go_quiet ((go_at_call 38; with_reducible exact Calls.quiet_of_same (HCALL'.out _)))
            go_wp2_with fail
            go_roundw
            case rel => exact ⟨v + 1, by omega, by go_num, _, by rw [HWQ.out]; exact World.drewN_drewN ..⟩
            case measure => simp [intOf]; omega
          · go_wp2_with fail
            go_roundw
            case rel => exact ⟨u + 1, by omega, by go_num, _, rfl⟩
            case measure => simp [intOf]; omega
      · clear t0 HR8 HV8 HL8
        obtain ⟨w9, hw9⟩ : ∃ w9, w9 = w8.drewN q1 := ⟨_, rfl⟩
        have HB9 : Hid (Below w.heap.size w w9) := by rw [hw9]; exact below_drewN HB8w.out q1
        rw [← hw9]
        clear hw9
        go_wp2_with fail
        refine (components7_calls w9).mono ?_
        rintro e w10 ⟨rfl, hb10⟩
        have HB10 := Lib.hid (HB9.out.trans (hb10.mono HB9.out.size))
        clear hb10
        go_wp2_with fail
        go_ret
        exact ⟨rfl, HB10.out⟩
end Go.Proofs.YtbkoifdnlaihfaaGreat
