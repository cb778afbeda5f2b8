/- The walks of wanders and FnWalkAllBad. -/
import Derived.Test.YtbkoifdnlaihfaaGreatLight
import Derived.Test.YtbkoifdnlaihfaaGreatSameL
import Derived.Test.YtbkoifdnlaihfaaGreatWalkAllI
namespace Go.Proofs.YtbkoifdnlaihfaaGreat
open Go.RowKit

theorem sort97 : sortI [9, 7] = [7, 9] := (sortI_unique (List.Perm.swap 9 7 []) (by simp)).symm
theorem well97 : wellB [9, 7] [] = true := by
  unfold wellB
  rw [sort97]
  rfl

theorem part_one {ids : List Int} {adj : Int → List Int} {vis : List Int} {x : Int} {part : List Int} (h : PartOf ids adj vis x part) (ha : adj x = []) : part = [x] := by
  have hall : ∀ y ∈ part, y = x := fun y hy => h.reach y hy (fun z => z = x) rfl (fun a b ha' hb => by rw [ha', ha] at hb; cases hb)
  match part, h.nodup, h.has, hall with
  | [], _, hx, _ => cases hx
  | [y], _, _, hy => rw [hy y (List.mem_singleton.2 rfl)]
  | y :: z :: l, hn, _, hy =>
    have h1 := hy y (List.mem_cons_self ..)
    have h2 := hy z (List.mem_cons_of_mem _ (List.mem_cons_self ..))
    rw [h1, h2] at hn
    simp at hn

theorem comps97 {ps : List (List Int)} (h : CompsFrom (sortI [9, 7]) (nextL (sortI [9, 7]) (rowsFrom false (sortI [9, 7]) []).1) (sortI [9, 7]) [] ps) : ps = [[7], [9]] := by
  rw [sort97] at h
  have e7 : nextL [7, 9] (rowsFrom false [7, 9] []).1 7 = [] := by decide +kernel
  have e9 : nextL [7, 9] (rowsFrom false [7, 9] []).1 9 = [] := by decide +kernel
  rcases h with ⟨h, _⟩ | ⟨_, p, ps', rfl, hp, h⟩
  · cases h
  · obtain rfl := part_one hp e7
    rcases h with ⟨h, _⟩ | ⟨_, p, ps'', rfl, hp, h⟩
    · simp at h
    · obtain rfl := part_one hp e9
      rw [show ps'' = [] from h]

set_option maxHeartbeats 2000000 in
set_option maxRecDepth 100000 in
theorem wanders_calls (deep : Bool) (w : World) : Calls Tryz.prog 20 #[.bool deep] w fun e w' => e = .returned (.bool true) ∧ Below w.heap.size w w' := by
  go_enter Tryz.func20, Tryz.ntmps20
  go_wp2_with fail
  obtain ⟨w1, hw1⟩ : ∃ w1, w1 = w.alloc (.cells #[.int .i64 9, .int .i64 7] 3) := ⟨_, rfl⟩
  have HB1 : Hid (Below w.heap.size w w1) := by rw [hw1]; exact (Below.refl _ _).alloc (Nat.le_refl _) _
  have x1 : w1.heap[w.heap.size]? = some (.cells #[.int .i64 9, .int .i64 7] 3 (0, 0)) := by rw [hw1]; exact heap_alloc_new w _
  have hs1 : w.heap.size < w1.heap.size := (Array.getElem?_eq_some_iff.1 x1).1
  rw [← hw1]
  clear hw1
  have HR1 : Hid (RdI w1 (some ⟨w.heap.size, 0, none⟩) 2 [9, 7]) := ⟨rfl, by omega, fun _ => ⟨_, 0, rfl, hs1, fun j hj => by
    have h0 : j = 0 ∨ j = 1 := by omega
    rcases h0 with rfl | rfl
    · exact ⟨9, rfl, by rw [cell_of_row w1 _ _ _ _ (0, 0) x1]; rfl⟩
    · exact ⟨7, rfl, by rw [cell_of_row w1 _ _ _ _ (0, 0) x1]; rfl⟩⟩⟩
  have HE1 : Hid (RdE w1 none 0 []) := ⟨rfl, by omega, fun h => by omega⟩
  clear x1
  refine (implWalkAll_calls false deep _ none 2 2 0 0 [9, 7] [] w1 HR1.out HE1.out (by omega) (fun x hx => by
    have h7 : x = 9 ∨ x = 7 := by simpa using hx
    rcases h7 with rfl | rfl <;> decide)).mono ?_
  rintro e w2 ⟨v, rfl, hc, hb⟩
  rw [show (wellB [9, 7] [] && !false) = true by rw [well97]; rfl] at hc ⊢
  rw [if_pos rfl] at hc
  obtain ⟨vs, ps, hl, hps⟩ := hc
  obtain rfl := comps97 hps
  obtain ⟨a, c, rfl⟩ := own_shape' hl.row
  have HL2 := Lib.hid hl.rd
  have HB2 := Lib.hid (HB1.out.trans (hb.mono (Nat.le_of_lt hs1)))
  clear hps hl hb HR1 HE1
  go_wp2_with fail
  obtain ⟨w3, hw3⟩ : ∃ w3, w3 = ((w2.alloc (.cells #[.int .i64 7] 3)).alloc (.cells #[.int .i64 9] 3)).alloc (.cells #[.slice (some ⟨w2.heap.size, 0, none⟩) 1 1, .slice (some ⟨w2.heap.size + 1, 0, none⟩) 1 1] 22) := ⟨_, rfl⟩
  have HB3 : Hid (Below w2.heap.size w2 w3) := by rw [hw3]; exact (((Below.refl _ _).alloc (Nat.le_refl _) _).alloc (by simp) _).alloc (by simp; omega) _
  have x3 : w3.heap[w2.heap.size]? = some (.cells #[.int .i64 7] 3 (0, 0)) := by
    rw [hw3, heap_alloc_old _ _ (by simp; omega), heap_alloc_old _ _ (by simp)]; exact heap_alloc_new w2 _
  have y3 : w3.heap[w2.heap.size + 1]? = some (.cells #[.int .i64 9] 3 (0, 0)) := by
    rw [hw3, heap_alloc_old _ _ (by simp)]
    have h := heap_alloc_new (w2.alloc (.cells #[.int .i64 7] 3)) (.cells #[.int .i64 9] 3)
    simpa using h
  have z3 : w3.heap[w2.heap.size + 1 + 1]? = some (.cells #[.slice (some ⟨w2.heap.size, 0, none⟩) 1 1, .slice (some ⟨w2.heap.size + 1, 0, none⟩) 1 1] 22 (0, 0)) := by
    have h := heap_alloc_new ((w2.alloc (.cells #[.int .i64 7] 3)).alloc (.cells #[.int .i64 9] 3)) (.cells #[.slice (some ⟨w2.heap.size, 0, none⟩) 1 1, .slice (some ⟨w2.heap.size + 1, 0, none⟩) 1 1] 22)
    rw [hw3]; simpa using h
  have hs3 : w2.heap.size + 2 < w3.heap.size := by rw [hw3]; simp
  rw [← hw3]
  clear hw3
  have r7 : RdI w3 (some ⟨w2.heap.size, 0, none⟩) 1 [7] := ⟨rfl, by omega, fun _ => ⟨_, 0, rfl, by omega, fun j hj => by
    have h0 : j = 0 := by omega
    subst h0
    exact ⟨7, rfl, by rw [cell_of_row w3 _ _ _ _ (0, 0) x3]; rfl⟩⟩⟩
  have r9 : RdI w3 (some ⟨w2.heap.size + 1, 0, none⟩) 1 [9] := ⟨rfl, by omega, fun _ => ⟨_, 0, rfl, by omega, fun j hj => by
    have h0 : j = 0 := by omega
    subst h0
    exact ⟨9, rfl, by rw [cell_of_row w3 _ _ _ _ (0, 0) y3]; rfl⟩⟩⟩
  have HL3 : Hid (RdL w3 (some ⟨w2.heap.size + 1 + 1, 0, none⟩) 2 [[7], [9]]) := ⟨rfl, by omega, fun _ => ⟨_, 0, rfl, by omega, fun j hj => by
    have h0 : j = 0 ∨ j = 1 := by omega
    rcases h0 with rfl | rfl
    · exact ⟨_, 1, 1, [7], rfl, by rw [cell_of_row w3 _ _ _ _ (0, 0) z3]; rfl, r7⟩
    · exact ⟨_, 1, 1, [9], rfl, by rw [cell_of_row w3 _ _ _ _ (0, 0) z3]; rfl, r9⟩⟩⟩
  clear x3 y3 z3 r7 r9
  refine (sameLists_calls a _ 2 c 2 [[7], [9]] w3 (HL2.out.below HB3.out (Nat.le_refl _)) HL3.out).mono ?_
  rintro e w4 ⟨rfl, q, rfl⟩
  go_wp2_with fail
  go_ret
  exact ⟨rfl, below_drewN (HB2.out.trans (HB3.out.mono HB2.out.size)) _⟩

set_option maxHeartbeats 8000000 in
set_option maxRecDepth 100000 in
theorem lawWA_calls (d deep : Bool) (an ae : Option Addr) (n cn m ce : Nat) (ns : List Int) (es : List (Int × Int × Int)) (w : World) (hn : RdI w an n ns) (hr : RdE w ae m es) (hwf : ∀ x ∈ ns, (Lit.int .i64 x).wf = true) :
    Calls Tryz.prog 5 #[.agg #[.bool d, .slice an n cn, .slice ae m ce], .bool deep] w fun e w' => e = .returned (.bool true) ∧ Below w.heap.size w w' := by
  have hsn := hn.small; have hsm := hr.small
  have HR := Lib.hid hr; clear hr
  have HN := Lib.hid hn; clear hn
  have HWF := Lib.hid hwf; clear hwf
  go_enter Tryz.func5, Tryz.ntmps5
  go_wp2_with fail
  refine (fits_calls d an ae n cn m ce _ hsn hsm).mono ?_
  rintro e w1 ⟨rfl, hb1⟩
  have HS1 := Lib.hid ((LawSt.start w d an ae n cn m ce).later hb1); clear hb1
  cases hf : decide (n ≤ 2147483647 ∧ m ≤ 2147483647)
  · go_wp2_with fail
    go_ret
    exact ⟨rfl, HS1.out.below⟩
  · clear hf
    have j0 := HS1.out.c0; have j1 := HS1.out.c1; have j2 := HS1.out.c2
    have hcase : 40 < n ∨ (n ≤ 40 ∧ (200 < m ∨ m ≤ 200)) := by omega
    rcases hcase with h1 | ⟨h1, h2 | h2⟩
    · go_wp2_with fail
      go_ret
      exact ⟨rfl, HS1.out.below⟩
    · go_wp2_with fail
      go_ret
      exact ⟨rfl, HS1.out.below⟩
    go_wp2_with fail
    refine (light_calls d an ae n cn m ce es _ (HR.out.below HS1.out.below (Nat.le_refl _))).mono ?_
    rintro e w2 ⟨⟨bl, rfl⟩, hb2⟩
    have HS2 := Lib.hid (HS1.out.later hb2); clear hb2 j0 j1 j2
    have j0 := HS2.out.c0; have j1 := HS2.out.c1; have j2 := HS2.out.c2
    cases bl
    · go_wp2_with fail
      go_ret
      exact ⟨rfl, HS2.out.below⟩
    go_wp2_with fail
    refine (implWalkAll_calls d deep an ae n cn m ce ns es _ (HN.out.below HS2.out.below (Nat.le_refl _)) (HR.out.below HS2.out.below (Nat.le_refl _)) (by omega) HWF.out).mono ?_
    rintro e w3 ⟨v, rfl, hc, hb3⟩
    obtain ⟨a1, n1, c1, rfl, hn1⟩ : ∃ a1 n1 c1, v = .slice a1 n1 c1 ∧ ((wellB ns es && !d) = false → n1 = 0) := by
      cases hu : wellB ns es && !d
      · rw [hu] at hc
        exact ⟨_, _, _, hc, fun _ => rfl⟩
      · rw [hu, if_pos rfl] at hc
        obtain ⟨vs, ps, h1, _⟩ := hc
        obtain ⟨a1, c1, rfl⟩ := own_shape' h1.row
        exact ⟨_, _, _, rfl, fun h => nomatch h⟩
    have HN1 := Lib.hid hn1
    have HS3 := Lib.hid (HS2.out.later hb3)
    clear hc hb3 hn1 j0 j1 j2
    have j0 := HS3.out.c0; have j1 := HS3.out.c1; have j2 := HS3.out.c2
    obtain ⟨ub, hub⟩ : ∃ b, (wellB ns es && !d) = b := ⟨_, rfl⟩
    have HUB := Lib.hid hub
    rw [hub]
    clear hub
    go_wp2_with fail
    refine (well_calls d an ae n cn m ce ns es w3 (HN.out.below HS3.out.below (Nat.le_refl _)) (HR.out.below HS3.out.below (Nat.le_refl _)) (by omega)).mono ?_
    rintro e w5 ⟨rfl, hb5⟩
    have HS5 := Lib.hid (HS3.out.later hb5)
    clear hb5 j0 j1 j2
    have j0 := HS5.out.c0
    obtain ⟨wb, hwb⟩ : ∃ b, wellB ns es = b := ⟨_, rfl⟩
    have HWB := Lib.hid hwb
    rw [hwb]
    clear hwb
    have hu2 : (wb && !d) = ub := by rw [← HWB.out]; exact HUB.out
    cases wb <;> cases d
    rotate_left 2
    · obtain rfl : ub = true := hu2.symm
      go_wp2_with fail
      refine (wanders_calls deep _).mono ?_
      rintro e w6 ⟨rfl, hb6⟩
      have HS6 := Lib.hid (HS5.out.later hb6)
      clear hb6
      go_wp2_with fail
      go_ret
      exact ⟨rfl, HS6.out.below⟩
    all_goals
      obtain rfl : ub = false := hu2.symm
      obtain rfl : n1 = 0 := HN1.out HUB.out
      go_wp2_with fail
      refine (wanders_calls deep _).mono ?_
      rintro e w6 ⟨rfl, hb6⟩
      have HS6 := Lib.hid (HS5.out.later hb6)
      clear hb6
      go_wp2_with fail
      go_ret
      exact ⟨rfl, HS6.out.below⟩
end Go.Proofs.YtbkoifdnlaihfaaGreat
