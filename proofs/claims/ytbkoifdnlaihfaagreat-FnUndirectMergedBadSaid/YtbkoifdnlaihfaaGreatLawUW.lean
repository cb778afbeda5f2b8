/- The walks of light, merges and FnUndirectMergedBad. -/
import Derived.Test.YtbkoifdnlaihfaaGreatLawSt
import Derived.Test.YtbkoifdnlaihfaaGreatSameG
import Derived.Test.YtbkoifdnlaihfaaGreatOut
import Derived.Test.YtbkoifdnlaihfaaGreatUndirWI
namespace Go.Proofs.YtbkoifdnlaihfaaGreat
open Go.RowKit

def SomeBool (w : World) (e : Ending) (w' : World) : Prop := (∃ b : Bool, e = .returned (.bool b)) ∧ Below w.heap.size w w'

set_option maxHeartbeats 1000000 in
theorem light_calls (d : Bool) (an ae : Option Addr) (n cn m ce : Nat) (es : List (Int × Int × Int)) (w : World) (hr : RdE w ae m es) :
    Calls Tryz.prog 15 #[.agg #[.bool d, .slice an n cn, .slice ae m ce]] w (SomeBool w) := by
  have hs := hr.small
  have HR := Lib.hid (hr.alloc (.cells #[.bool d, .slice an n cn, .slice ae m ce] 25)); clear hr
  go_enter Tryz.func15, Tryz.ntmps15
  go_wp2_with fail
  go_loop [3] (fun i => ∃ k : Nat, k ≤ m ∧ i = .int .i64 k) (fun i => m - (intOf i).toNat)
  case atStart => exact ⟨0, by omega, rfl⟩
  case round =>
    obtain ⟨k, hk, rfl⟩ := hrel
    by_cases hlt : k < m
    · obtain ⟨b, off, rfl, hbb, hc⟩ := HR.out.at_ (by omega)
      obtain ⟨x, y, z, HX, c1, c2, c3⟩ := hc k hlt
      clear hc c1 c2
      have key : 1099511627776 < z ∨ (z ≤ 1099511627776 ∧ (z < -1099511627776 ∨ -1099511627776 ≤ z)) := by omega
      rcases key with g1 | ⟨g1, g2 | g2⟩
      all_goals
        go_wp2_with fail
        first
          | (go_ret; exact ⟨⟨_, rfl⟩, (Below.refl _ _).alloc (Nat.le_refl _) _⟩)
          | (go_round
             case rel => exact ⟨k + 1, by omega, by go_num⟩
             case measure => simp [intOf]; omega)
    · go_wp2
      go_ret
      exact ⟨⟨_, rfl⟩, (Below.refl _ _).alloc (Nat.le_refl _) _⟩

theorem sort79 : sortI [7, 9] = [7, 9] := (sortI_unique (List.Perm.refl _) (by simp)).symm
theorem sort7 : sortI [7] = [7] := (sortI_unique (List.Perm.refl _) (by simp)).symm
theorem sort9 : sortI [9] = [9] := (sortI_unique (List.Perm.refl _) (by simp)).symm
theorem well79 : wellB [7, 9] [(9, 7, 3)] = true := by
  unfold wellB
  rw [sort79]
  rfl
theorem undir79 : undirE [7, 9] [(9, 7, 3)] = [(7, 9, 0)] := by
  unfold undirE seenE
  rw [sort79, sort79]
  have h7 : bothL [7, 9] (rowsFrom true [7, 9] [(9, 7, 3)]).1 (rowsFrom true [7, 9] [(9, 7, 3)]).2 7 = [9] := by decide +kernel
  have h9 : bothL [7, 9] (rowsFrom true [7, 9] [(9, 7, 3)]).1 (rowsFrom true [7, 9] [(9, 7, 3)]).2 9 = [7] := by decide +kernel
  simp only [List.flatMap_cons, List.flatMap_nil, seenAt, h7, h9, sort7, sort9]
  decide +kernel
theorem add79 : uwAdd (sortI [7, 9]) (rowsFrom true (sortI [7, 9]) [(9, 7, 3)]).1 (bitsOf 4) 7 9 = some 4619567317775286272 := by
  rw [sort79]
  decide +kernel
theorem cut79 : floatToIntVal .f64 4619567317775286272 .i64 = some 7 := by decide +kernel
theorem uw79 : uwB true 4 0 [7, 9] [(9, 7, 3)] = true := by
  unfold uwB
  rw [well79]
  rfl

theorem one79 {es' : List (Int × Int × Int)} (h : noW es' = undirE [7, 9] [(9, 7, 3)]) (hc : AllCut (uwR 4 0 [7, 9] [(9, 7, 3)]) es') : es' = [(7, 9, 7)] := by
  rw [undir79] at h
  match es' with
  | [] => cases h
  | [(u, v, z)] =>
    simp only [noW, List.map_cons, List.map_nil, List.cons.injEq, Prod.mk.injEq, and_true] at h
    obtain ⟨rfl, rfl⟩ := h
    obtain ⟨f, hf, hz⟩ := hc (7, 9, z) (List.mem_singleton.2 rfl)
    have := hf rfl _ add79
    subst this
    have hz' : z = 7 := hz _ cut79
    rw [hz']
  | a :: b :: l => simp [noW] at h

set_option maxHeartbeats 2000000 in
set_option maxRecDepth 100000 in
theorem merges_calls (w : World) : Calls Tryz.prog 18 #[] w fun e w' => e = .returned (.bool true) ∧ Below w.heap.size w w' := by
  go_enter Tryz.func18, Tryz.ntmps18
  go_wp2_with fail
  obtain ⟨w1, hw1⟩ : ∃ w1, w1 = (w.alloc (.cells #[.int .i64 7, .int .i64 9] 3)).alloc (.cells #[.int .i64 9, .int .i64 7, .int .i64 3] 82) := ⟨_, rfl⟩
  have HB1 : Hid (Below w.heap.size w w1) := by rw [hw1]; exact ((Below.refl _ _).alloc (Nat.le_refl _) _).alloc (by simp) _
  have x1 : w1.heap[w.heap.size]? = some (.cells #[.int .i64 7, .int .i64 9] 3 (0, 0)) := by
    rw [hw1, heap_alloc_old _ _ (by simp)]; exact heap_alloc_new w _
  have y1 : w1.heap[w.heap.size + 1]? = some (.cells #[.int .i64 9, .int .i64 7, .int .i64 3] 82 (0, 0)) := by
    have h := heap_alloc_new (w.alloc (.cells #[.int .i64 7, .int .i64 9] 3)) (.cells #[.int .i64 9, .int .i64 7, .int .i64 3] 82)
    rw [hw1]; simpa using h
  have hs1 : w.heap.size + 2 ≤ w1.heap.size := by rw [hw1]; simp
  rw [← hw1]
  clear hw1
  have HR1 : Hid (RdI w1 (some ⟨w.heap.size, 0, none⟩) 2 [7, 9]) := ⟨rfl, by omega, fun _ => ⟨_, 0, rfl, by omega, fun j hj => by
    have h0 : j = 0 ∨ j = 1 := by omega
    rcases h0 with rfl | rfl
    · exact ⟨7, rfl, by rw [cell_of_row w1 _ _ _ _ (0, 0) x1]; rfl⟩
    · exact ⟨9, rfl, by rw [cell_of_row w1 _ _ _ _ (0, 0) x1]; rfl⟩⟩⟩
  have HE1 : Hid (RdE w1 (some ⟨w.heap.size + 1, 0, none⟩) 1 [(9, 7, 3)]) := ⟨rfl, by omega, fun _ => ⟨_, 0, rfl, by omega, fun j hj => by
    have h0 : j = 0 := by omega
    subst h0
    exact ⟨9, 7, 3, rfl, by rw [cell_of_row w1 _ _ _ _ (0, 0) y1]; rfl, by rw [cell_of_row w1 _ _ _ _ (0, 0) y1]; rfl, by rw [cell_of_row w1 _ _ _ _ (0, 0) y1]; rfl⟩⟩⟩
  clear x1 y1
  refine (implUndirectW_calls true 4 0 _ _ 2 2 1 1 [7, 9] [(9, 7, 3)] w1 HR1.out HE1.out (by omega) (fun x hx => by
    have h7 : x = 7 ∨ x = 9 := by simpa using hx
    rcases h7 with rfl | rfl <;> decide)).mono ?_
  rintro e w2 ⟨v1, v2, rfl, hc, hb⟩
  rw [uw79] at hc
  rw [if_pos rfl] at hc
  obtain ⟨es', ho1, ho2, hno, hcut⟩ := hc
  obtain rfl := one79 hno hcut
  rw [sort79, sort79] at ho1
  obtain ⟨a1, c1, rfl⟩ := own_shape' ho1
  obtain ⟨a2, c2, rfl⟩ := own_shape' ho2
  have HN2 : Hid (RdI w2 a1 2 [7, 9]) := rd_of_own ho1
  have HE2 : Hid (RdE w2 a2 1 [(7, 9, 7)]) := rdE_of_own ho2
  have HB2 := Lib.hid (HB1.out.trans (hb.mono (by omega)))
  have HU := Lib.hid uw79
  clear hno hcut ho1 ho2 hb HR1 HE1
  rw [HU.out]
  go_wp2_with fail
  obtain ⟨w3, hw3⟩ : ∃ w3, w3 = ((w2.alloc (.cells #[.bool false, .slice a1 2 c1, .slice a2 1 c2] 25)).alloc (.cells #[.int .i64 7, .int .i64 9] 3)).alloc (.cells #[.int .i64 7, .int .i64 9, .int .i64 7] 82) := ⟨_, rfl⟩
  have HB3 : Hid (Below w2.heap.size w2 w3) := by rw [hw3]; exact (((Below.refl _ _).alloc (Nat.le_refl _) _).alloc (by simp) _).alloc (by simp; omega) _
  have x3 : w3.heap[w2.heap.size + 1]? = some (.cells #[.int .i64 7, .int .i64 9] 3 (0, 0)) := by
    rw [hw3, heap_alloc_old _ _ (by simp)]
    have h := heap_alloc_new (w2.alloc (.cells #[.bool false, .slice a1 2 c1, .slice a2 1 c2] 25)) (.cells #[.int .i64 7, .int .i64 9] 3)
    simpa using h
  have y3 : w3.heap[w2.heap.size + 1 + 1]? = some (.cells #[.int .i64 7, .int .i64 9, .int .i64 7] 82 (0, 0)) := by
    have h := heap_alloc_new ((w2.alloc (.cells #[.bool false, .slice a1 2 c1, .slice a2 1 c2] 25)).alloc (.cells #[.int .i64 7, .int .i64 9] 3)) (.cells #[.int .i64 7, .int .i64 9, .int .i64 7] 82)
    rw [hw3]; simpa using h
  have hs3 : w2.heap.size + 2 < w3.heap.size := by rw [hw3]; simp
  rw [← hw3]
  clear hw3
  have HR3 : Hid (RdI w3 (some ⟨w2.heap.size + 1, 0, none⟩) 2 [7, 9]) := ⟨rfl, by omega, fun _ => ⟨_, 0, rfl, by omega, fun j hj => by
    have h0 : j = 0 ∨ j = 1 := by omega
    rcases h0 with rfl | rfl
    · exact ⟨7, rfl, by rw [cell_of_row w3 _ _ _ _ (0, 0) x3]; rfl⟩
    · exact ⟨9, rfl, by rw [cell_of_row w3 _ _ _ _ (0, 0) x3]; rfl⟩⟩⟩
  have HE3 : Hid (RdE w3 (some ⟨w2.heap.size + 1 + 1, 0, none⟩) 1 [(7, 9, 7)]) := ⟨rfl, by omega, fun _ => ⟨_, 0, rfl, by omega, fun j hj => by
    have h0 : j = 0 := by omega
    subst h0
    exact ⟨7, 9, 7, rfl, by rw [cell_of_row w3 _ _ _ _ (0, 0) y3]; rfl, by rw [cell_of_row w3 _ _ _ _ (0, 0) y3]; rfl, by rw [cell_of_row w3 _ _ _ _ (0, 0) y3]; rfl⟩⟩⟩
  clear x3 y3
  refine (sameGraph_calls false a1 _ a2 _ 2 c1 2 1 c2 1 [7, 9] [(7, 9, 7)] w3 (HN2.out.below HB3.out (Nat.le_refl _)) HR3.out (HE2.out.below HB3.out (Nat.le_refl _)) HE3.out).mono ?_
  rintro e w4 ⟨rfl, hb⟩
  have HB4 := Lib.hid (HB2.out.trans ((HB3.out.trans (hb.mono HB3.out.size)).mono HB2.out.size))
  clear hb
  go_wp2_with fail
  go_ret
  exact ⟨rfl, HB4.out⟩

/-- Where what UndirectWeighted takes fails first. -/
theorem uw_cases (d : Bool) (absent how : Int) (ns : List Int) (es : List (Int × Int × Int)) :
    (wellB ns es = false ∧ Hid (uwB d absent how ns es = false)) ∨ (wellB ns es = true ∧ ((d = false ∧ Hid (uwB d absent how ns es = false)) ∨ (d = true ∧ ((decide (0 ≤ how) = false ∧ how < 0 ∧ Hid (uwB d absent how ns es = false)) ∨ (decide (0 ≤ how) = true ∧ 0 ≤ how ∧
      ((decide (how ≤ 2) = false ∧ 2 < how ∧ Hid (uwB d absent how ns es = false)) ∨ (decide (how ≤ 2) = true ∧ how ≤ 2 ∧ ((decide (absent ≤ 1099511627776) = false ∧ 1099511627776 < absent ∧ Hid (uwB d absent how ns es = false)) ∨ (decide (absent ≤ 1099511627776) = true ∧ absent ≤ 1099511627776 ∧
        ((decide (-1099511627776 ≤ absent) = false ∧ absent < -1099511627776 ∧ Hid (uwB d absent how ns es = false)) ∨ (decide (-1099511627776 ≤ absent) = true ∧ -1099511627776 ≤ absent ∧ Hid (uwB d absent how ns es = true)))))))))))) := by
  unfold Hid uwB nearB
  cases wellB ns es <;> cases d <;> by_cases h1 : 0 ≤ how <;> by_cases h2 : how ≤ 2 <;> by_cases h3 : absent ≤ 1099511627776 <;> by_cases h4 : -1099511627776 ≤ absent <;> simp [h1, h2, h3, h4] <;> omega

set_option maxHeartbeats 8000000 in
set_option maxRecDepth 100000 in
theorem lawUW_calls (d : Bool) (absent how : Int) (an ae : Option Addr) (n cn m ce : Nat) (ns : List Int) (es : List (Int × Int × Int)) (w : World) (hn : RdI w an n ns) (hr : RdE w ae m es) (hwf : ∀ x ∈ ns, (Lit.int .i64 x).wf = true) :
    Calls Tryz.prog 4 #[.agg #[.bool d, .slice an n cn, .slice ae m ce], .int .i64 absent, .int .i64 how] w fun e w' => e = .returned (.bool true) ∧ Below w.heap.size w w' := by
  have hsn := hn.small; have hsm := hr.small
  have HR := Lib.hid hr; clear hr
  have HN := Lib.hid hn; clear hn
  have HWF := Lib.hid hwf; clear hwf
  go_enter Tryz.func4, Tryz.ntmps4
  go_wp2_with fail
  refine (fits_calls d an ae n cn m ce _ hsn hsm).mono ?_
  rintro e w1 ⟨rfl, hb1⟩
  have HS1 := Lib.hid ((LawSt.start w d an ae n cn m ce).later hb1); clear hb1
  cases hf : decide (n ≤ 2147483647 ∧ m ≤ 2147483647)
  · go_wp2_with fail
    go_ret
    exact ⟨rfl, HS1.out.below⟩
  · clear hf
    have j0 := HS1.out.c0; have j1 := HS1.out.c1; have j2 := HS1.out.c2
    have hcase : 40 < n ∨ (n ≤ 40 ∧ (200 < m ∨ m ≤ 200)) := by omega
    rcases hcase with h1 | ⟨h1, h2 | h2⟩
    · go_wp2_with fail
      go_ret
      exact ⟨rfl, HS1.out.below⟩
    · go_wp2_with fail
      go_ret
      exact ⟨rfl, HS1.out.below⟩
    go_wp2_with fail
    refine (light_calls d an ae n cn m ce es _ (HR.out.below HS1.out.below (Nat.le_refl _))).mono ?_
    rintro e w2 ⟨⟨bl, rfl⟩, hb2⟩
    have HS2 := Lib.hid (HS1.out.later hb2); clear hb2 j0 j1 j2
    have j0 := HS2.out.c0; have j1 := HS2.out.c1; have j2 := HS2.out.c2
    cases bl
    · go_wp2_with fail
      go_ret
      exact ⟨rfl, HS2.out.below⟩
    go_wp2_with fail
    refine (implUndirectW_calls d absent how an ae n cn m ce ns es _ (HN.out.below HS2.out.below (Nat.le_refl _)) (HR.out.below HS2.out.below (Nat.le_refl _)) (by omega) HWF.out).mono ?_
    rintro e w3 ⟨v1, v2, rfl, hc, hb3⟩
    obtain ⟨a1, n1, c1, a2, n2, c2, rfl, rfl⟩ : ∃ a1 n1 c1 a2 n2 c2, v1 = .slice a1 n1 c1 ∧ v2 = .slice a2 n2 c2 := by
      cases hu : uwB d absent how ns es
      · rw [hu] at hc
        exact ⟨_, _, _, _, _, _, hc.1, hc.2⟩
      · rw [hu, if_pos rfl] at hc
        obtain ⟨es', h1, h2, _⟩ := hc
        obtain ⟨a1, c1, rfl⟩ := own_shape' h1
        obtain ⟨a2, c2, rfl⟩ := own_shape' h2
        exact ⟨_, _, _, _, _, _, rfl, rfl⟩
    have HC : Hid (uwB d absent how ns es = false → (n1 : Int) = 0 ∧ (n2 : Int) = 0) := fun h => by
      rw [h] at hc
      obtain ⟨h1, h2⟩ := hc
      simp only [Value.slice.injEq] at h1 h2
      omega
    have HS3 := Lib.hid (HS2.out.later hb3)
    clear hc hb3 j0 j1 j2
    have j0 := HS3.out.c0; have j1 := HS3.out.c1; have j2 := HS3.out.c2
    obtain ⟨ub, hub⟩ : ∃ b, uwB d absent how ns es = b := ⟨_, rfl⟩
    have HUB := Lib.hid hub
    rw [hub]
    clear hub
    have hs3 := HS3.out.size
    go_wp2_with fail
    obtain ⟨w4, hw4⟩ : ∃ w4, w4 = w3.alloc (.cells #[.bool false, .slice a1 n1 c1, .slice a2 n2 c2] 25) := ⟨_, rfl⟩
    have HB4 : Hid (Below w3.heap.size w3 w4) := by rw [hw4]; exact (Below.refl _ _).alloc (Nat.le_refl _) _
    have Z4 : w4.heap[w3.heap.size]? = some (.cells #[.bool false, .slice a1 n1 c1, .slice a2 n2 c2] 25 (0, 0)) := by rw [hw4]; exact heap_alloc_new w3 _
    have hs4 : w3.heap.size < w4.heap.size := by rw [hw4]; simp
    have HS4 := Lib.hid (HS3.out.later HB4.out)
    rw [← hw4]
    clear hw4 j0 j1 j2
    refine (well_calls d an ae n cn m ce ns es w4 (HN.out.below HS4.out.below (Nat.le_refl _)) (HR.out.below HS4.out.below (Nat.le_refl _)) (by omega)).mono ?_
    rintro e w5 ⟨rfl, hb5⟩
    have HS5 := Lib.hid (HS4.out.later hb5)
    have z5 := (hb5.block _ hs4).trans Z4
    have q1 : w5.cell? ⟨w3.heap.size, 1, none⟩ = some (.slice a1 n1 c1) := by rw [cell_of_row w5 _ _ _ _ (0, 0) z5]; rfl
    have q2 : w5.cell? ⟨w3.heap.size, 2, none⟩ = some (.slice a2 n2 c2) := by rw [cell_of_row w5 _ _ _ _ (0, 0) z5]; rfl
    have j0 := HS5.out.c0
    clear hb5 z5 Z4
    obtain ⟨wb, hwb⟩ : ∃ b, wellB ns es = b := ⟨_, rfl⟩
    have HWB := Lib.hid hwb
    have hcases := uw_cases d absent how ns es
    rw [hwb] at hcases ⊢
    clear hwb
    rcases hcases with ⟨rfl, hU⟩ | ⟨rfl, ⟨rfl, hU⟩ | ⟨rfl, ⟨g1, g1', hU⟩ | ⟨g1, g1', ⟨g2, g2', hU⟩ | ⟨g2, g2', ⟨g3, g3', hU⟩ | ⟨g3, g3', ⟨g4, g4', hU⟩ | ⟨g4, g4', hU⟩⟩⟩⟩⟩⟩
    rotate_left 6
    · obtain rfl : ub = true := HUB.out.symm.trans hU.out
      go_wp2_with fail
      refine (merges_calls _).mono ?_
      rintro e w6 ⟨rfl, hb6⟩
      have HS6 := Lib.hid (HS5.out.later hb6)
      clear hb6
      go_wp2_with fail
      go_ret
      exact ⟨rfl, HS6.out.below⟩
    all_goals
      obtain rfl : ub = false := HUB.out.symm.trans hU.out
      obtain ⟨rfl, rfl⟩ : n1 = 0 ∧ n2 = 0 := by have := HC.out hU.out; omega
      go_wp2_with fail
      refine (merges_calls _).mono ?_
      rintro e w6 ⟨rfl, hb6⟩
      have HS6 := Lib.hid (HS5.out.later hb6)
      clear hb6
      go_wp2_with fail
      go_ret
      exact ⟨rfl, HS6.out.below⟩
end Go.Proofs.YtbkoifdnlaihfaaGreat
