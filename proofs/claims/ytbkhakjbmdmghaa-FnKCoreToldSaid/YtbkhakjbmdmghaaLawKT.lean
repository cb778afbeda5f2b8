/- The walk of FnKCoreTold. -/
import Derived.Test.YtbkhakjbmdmghaaKCoreI
import Derived.Test.YtbkhakjbmdmghaaSpecK
import Derived.Test.YtbkhakjbmdmghaaPeel
import Derived.Test.YtbkhakjbmdmghaaSameG
import Derived.Test.YtbkhakjbmdmghaaHeldL
namespace Go.Proofs.Ytbkhakjbmdmghaa
open Go.RowKit

theorem sort7K : sortI [7] = [7] := (sortI_unique (List.Perm.refl _) (by simp)).symm
theorem well7K : wellB [7] [] = true := by
  unfold wellB
  rw [sort7K]
  rfl
theorem one7 {l : List Int} (hn : l.Nodup) (h : ∀ u, u ∈ l ↔ InCore (sortI [7]) (adjU [7] []) 0 u) : l.length = 1 := by
  rw [sort7K] at h
  have h7 : (7 : Int) ∈ l := (h 7).2 (InCore.zero (by simp))
  have ha : ∀ u ∈ l, u = 7 := fun u hu => by simpa using ((h u).1 hu).mem
  match l, hn, h7, ha with
  | [a], _, _, _ => rfl
  | a :: b :: r, hn, _, ha =>
    have e1 := ha a (by simp); have e2 := ha b (by simp)
    rw [List.nodup_cons] at hn
    exact absurd (by rw [e1, e2]; simp) hn.1
theorem perm_core {l m : List Int} {P : Int → Prop} (hl : l.Nodup) (hm : m.Nodup) (h1 : ∀ u, u ∈ l ↔ P u) (h2 : ∀ u, u ∈ m ↔ P u) : sortI l = sortI m :=
  sortI_unique ((sortI_perm l).trans ((List.perm_ext_iff_of_nodup hl hm).2 fun u => (h1 u).trans (h2 u).symm)) (sortI_pw l)

/-- What the tests of FnKCoreTold let through. -/
def KTok (k : Int) (d : Bool) (n : Nat) (ns : List Int) (es : List (Int × Int × Int)) (b : Bool) : Prop :=
  b = false → d = false ∧ n ≤ 14 ∧ wellB ns es = true ∧ ∃ kk : Nat, k = kk ∧ kk ≤ 20 ∧ ∀ ps q, DegS (sortI ns) (adjU ns es) ps q → (∀ v ∈ sortI ns, v ∈ ps.map (·.1)) → kk ≤ q + 1

set_option maxHeartbeats 8000000 in
set_option maxRecDepth 100000 in
theorem lawKT_calls (k : Int) (d : Bool) (an ae : Option Addr) (n cn m ce : Nat) (ns : List Int) (es : List (Int × Int × Int)) (w : World) (hn : RdI w an n ns) (hr : RdE w ae m es) (hwf : ∀ x ∈ ns, (Lit.int .i64 x).wf = true) :
    Calls Try.prog 4 #[.int .i64 k, .agg #[.bool d, .slice an n cn, .slice ae m ce]] w fun e w' => e = .returned (.bool true) ∧ Below w.heap.size w w' := by
  have hsn := hn.small; have hsm := hr.small
  have HR := Lib.hid hr; clear hr
  have HN := Lib.hid hn; clear hn
  have HWF := Lib.hid hwf; clear hwf
  go_enter Try.func4, Try.ntmps4
  go_wp2_with fail
  refine (fits_calls d an ae n cn m ce _ hsn hsm).mono ?_
  rintro e w1 ⟨rfl, hb1⟩
  have HS1 := Lib.hid ((LawSt.start w d an ae n cn m ce).later hb1); clear hb1
  cases hf : decide (n ≤ 2147483647 ∧ m ≤ 2147483647)
  · go_wp2_with fail
    go_ret
    exact ⟨rfl, HS1.out.below⟩
  · clear hf
    have j0 := HS1.out.c0; have j1 := HS1.out.c1; have j2 := HS1.out.c2
    go_upto_region 3 with fail
    go_cut [34] (fun c wc => ∃ b : Bool, c = .bool b ∧ Hid (LawSt w d an ae n cn m ce wc) ∧ KTok k d n ns es b)
    case first =>
      go_wp2_with fail
      refine (fewOf_calls d false an ae n cn m ce 14 ns es _ (by omega) (HN.out.below HS1.out.below (Nat.le_refl _)) (HR.out.below HS1.out.below (Nat.le_refl _))).mono ?_
      rintro e w2 ⟨rfl, hb2⟩
      have HS2 := Lib.hid (HS1.out.later hb2); clear hb2 j0 j1 j2
      have j0 := HS2.out.c0; have j1 := HS2.out.c1; have j2 := HS2.out.c2
      obtain ⟨fb, hfb⟩ : ∃ b, ((d == false) && fewB ns es 14) = b := ⟨_, rfl⟩
      have HFB := Lib.hid hfb
      rw [hfb]
      clear hfb
      cases fb
      · go_wp2_with fail
        go_meet
        exact ⟨true, rfl, HS2, (fun h => by cases h)⟩
      obtain ⟨rfl, hfew⟩ : d = false ∧ fewB ns es 14 = true := by
        have h := HFB.out
        rw [Bool.and_eq_true] at h
        exact ⟨by simpa using h.1, h.2⟩
      obtain ⟨hl14, -, hwell⟩ := fewB_parts hfew
      have hnl : n ≤ 14 := by have := HN.out.len; omega
      have HWELL := Lib.hid hwell
      clear hfew hwell HFB hl14
      by_cases hk0 : k < 0
      · go_wp2_with fail
        go_meet
        exact ⟨true, rfl, HS2, (fun h => by cases h)⟩
      by_cases hk20 : 20 < k
      · have hk0' : decide (k < 0) = false := by simpa using hk0
        go_wp2_with fail
        go_meet
        exact ⟨true, rfl, HS2, (fun h => by cases h)⟩
      obtain ⟨kk, hkk⟩ : ∃ kk : Nat, k = kk := ⟨k.toNat, by omega⟩
      subst hkk
      have hkk20 : kk ≤ 20 := by omega
      have hq0 : decide ((kk : Int) < 0) = false := by rw [decide_eq_false_iff_not]; omega
      have hq1 : decide ((20 : Int) < (kk : Int)) = false := by rw [decide_eq_false_iff_not]; omega
      have hgo : kk ≤ 1 ∨ 1 < kk := by omega
      rcases hgo with hk1 | hk1
      · have hk1' : decide ((1 : Int) < (kk : Int)) = false := by rw [decide_eq_false_iff_not]; omega
        go_wp2_with fail
        go_meet
        exact ⟨false, rfl, HS2, (fun _ => ⟨rfl, hnl, HWELL.out, kk, rfl, hkk20, fun ps q _ _ => by omega⟩)⟩
      · have hk1' : decide ((1 : Int) < (kk : Int)) = true := by rw [decide_eq_true_iff]; omega
        go_wp2_with fail
        refine (peeled_calls ((kk : Int) - 1) false an ae n cn m ce ns es w2 (HN.out.below HS2.out.below (Nat.le_refl _)) (HR.out.below HS2.out.below (Nat.le_refl _)) (by omega) HWELL.out).mono ?_
        rintro e w3 ⟨v, l, rfl, ho3, hmem, hll, hb3⟩
        have HS3 := Lib.hid (HS2.out.later hb3)
        obtain ⟨a3, c3, rfl⟩ := own_shape' ho3
        have HMEM := Lib.hid (hmem (kk - 1) (by omega))
        clear HS2 j0 j1 j2 ho3 hb3 hmem
        have j0 := HS3.out.c0; have j1 := HS3.out.c1; have j2 := HS3.out.c2
        by_cases hl0 : l.length = 0
        · go_wp2_with fail
          go_meet
          exact ⟨true, rfl, HS3, (fun h => by cases h)⟩
        have hl0' : ¬ ((l.length : Int) = 0) := by omega
        have hl0'' : ((l.length : Int) == 0) = false := by simpa using hl0
        clear hll
        go_wp2_with fail
        go_meet
        refine ⟨false, rfl, HS3, (fun _ => ⟨rfl, hnl, HWELL.out, kk, rfl, hkk20, fun ps q hD hcov => ?_⟩)⟩
        obtain ⟨u, hu⟩ : ∃ u, u ∈ l := by
          cases l with
          | nil => exact absurd rfl hl0
          | cons u r => exact ⟨u, by simp⟩
        have hc := ((HMEM.out u).1 hu).congr (fun x hx => adjU_of hx)
        obtain ⟨p, hp, e⟩ := List.mem_map.1 (hcov u hc.mem)
        have h2 := (hD.lev p hp).2
        have h3 := hD.le p hp
        rw [e] at h2
        by_cases hlt : kk - 1 ≤ p.2
        · omega
        · exact absurd (hc.less (by omega)) h2
    case rest =>
      obtain ⟨b, rfl, HS3, HX⟩ := hcut
      obtain ⟨w3, rfl⟩ : ∃ w3 : World, w3 = wc := ⟨_, rfl⟩
      clear HS1 j0 j1 j2
      have j0 := HS3.out.c0; have j1 := HS3.out.c1; have j2 := HS3.out.c2
      cases b
      rotate_left
      · go_wp2_with fail
        go_ret
        exact ⟨rfl, HS3.out.below⟩
      obtain ⟨rfl, hnl, hwell, kk, rfl, hkk20, hKK⟩ := HX rfl
      have HKK := Lib.hid hKK
      have HWELL := Lib.hid hwell
      have HSUB : Hid (∀ x ∈ sortI ns, adjU ns es x = fromL false ns es x) := Lib.hid (fun x hx => adjU_of hx)
      have HLEN := Lib.hid HN.out.len
      clear HX hwell hKK
      go_wp2_with fail
      clear j0 j1 j2
      have hwb : w.heap.size ≤ w3.heap.size := HS3.out.below.size
      refine (implKCore_calls kk an ae n cn m ce ns es w3 (HN.out.below HS3.out.below (Nat.le_refl _)) (HR.out.below HS3.out.below (Nat.le_refl _)) (by omega) HWF.out HWELL.out (by omega) HKK.out).mono ?_
      rintro e w4 ⟨v, l1, rfl, ho4, hnd4, hm4, hl4, hb4⟩
      obtain ⟨a4, c4, rfl⟩ := own_shape' ho4
      have HS4 := Lib.hid (HS3.out.later hb4)
      have HO4 := Lib.hid ho4; have HND4 := Lib.hid hnd4; have HM4 := Lib.hid hm4
      have hl4 : l1.length ≤ 14 := by rw [sortI_len] at hl4; have := HLEN.out; omega
      clear ho4 hnd4 hm4 hb4 HKK HS3 hwb
      obtain ⟨w5, hw5⟩ : ∃ w5, w5 = w4.alloc (.cells #[.int .i64 7] 3) := ⟨_, rfl⟩
      have HB5 : Hid (Below w4.heap.size w4 w5) := Lib.hid (by rw [hw5]; exact (Below.refl _ _).alloc (Nat.le_refl _) _)
      have x5 : w5.heap[w4.heap.size]? = some (.cells #[.int .i64 7] 3 (0, 0)) := by rw [hw5]; exact heap_alloc_new w4 _
      have hs5 : w4.heap.size < w5.heap.size := (Array.getElem?_eq_some_iff.1 x5).1
      have HR5 : Hid (RdI w5 (some ⟨w4.heap.size, 0, none⟩) 1 [7]) := Lib.hid ⟨rfl, by omega, fun _ => ⟨_, 0, rfl, hs5, fun j hj => by
        have h0 : j = 0 := by omega
        subst h0
        exact ⟨7, rfl, by rw [cell_of_row w5 _ _ _ _ (0, 0) x5]; rfl⟩⟩⟩
      have HE5 : Hid (RdE w5 none 0 []) := Lib.hid ⟨rfl, by omega, fun h => by omega⟩
      have HC7 : Hid (Calls Try.prog 14 #[.int .i64 0, .agg #[.bool false, .slice (some ⟨w4.heap.size, 0, none⟩) 1 1, .slice none 0 0]] w5 (KCIPost (sortI [7]) (adjU [7] []) 0 w5)) :=
        Lib.hid (implKCore_calls 0 _ none 1 1 0 0 [7] [] w5 HR5.out HE5.out (by omega) (fun x hx => by
          have h7 : x = 7 := by simpa using hx
          subst h7; decide) well7K (by omega) (fun _ _ _ _ => by omega))
      clear x5 HR5 HE5
      go_wp2_with fail
      rw [← hw5]
      clear hw5
      refine HC7.out.mono ?_
      rintro e w6 ⟨v, l2, rfl, ho6, hnd6, hm6, -, hb6⟩
      have hl6 := one7 hnd6 hm6
      rw [hl6] at ho6
      obtain ⟨a6, c6, rfl⟩ := own_shape' ho6
      have HB6 : Hid (Below w4.heap.size w4 w6) := Lib.hid (HB5.out.trans (hb6.mono (Nat.le_of_lt hs5)))
      have HS6 := Lib.hid (HS4.out.later HB6.out)
      have HR6 : Hid (RdI w6 a4 l1.length l1) := Lib.hid (rdi_ownK (ownsRow_of_heap HO4.out (fun g hg => HB6.out.block g (HO4.out.lt g hg).2)))
      clear ho6 hnd6 hm6 hb6 hl6 HB6 HB5 HS4 HO4 HC7 hs5
      have j0 := HS6.out.c0; have j1 := HS6.out.c1; have j2 := HS6.out.c2
      go_upto_region 7 with fail
      refine wp_region_L (by kernel_rfl) (fun w' => w'.cell? ⟨w.heap.size, 0, none⟩ = some (.bool false) ∧ w'.cell? ⟨w.heap.size, 1, none⟩ = some (.slice an n cn) ∧ w'.cell? ⟨w.heap.size, 2, none⟩ = some (.slice ae m ce)) [] ⟨j0, j1, j2⟩ (fun hHeld => ?_)
      refine wpAnyL_take (i := 0) (v := ?_) rfl (by kernel_rfl) (by kernel_rfl) (by kernel_rfl) (by kernel_rfl) (fun _ _ _ h => h) (by kernel_rfl) ?_ hHeld ?_
      rotate_left
      · intro w hSw; obtain ⟨hs0, hs1, hs2⟩ := hSw; go_simp; all_goals with_reducible rfl
      simp only [Act.put, List.setIfInBounds_toArray, List.set_cons_zero, List.set_cons_succ]
      refine wpAnyL_take (i := 1) (v := ?_) rfl (by kernel_rfl) (by kernel_rfl) (by kernel_rfl) (by kernel_rfl) (fun _ _ _ h => h) (by kernel_rfl) ?_ hHeld ?_
      rotate_left
      · intro w hSw; obtain ⟨hs0, hs1, hs2⟩ := hSw; go_simp; all_goals with_reducible rfl
      simp only [Act.put, List.setIfInBounds_toArray, List.set_cons_zero, List.set_cons_succ]
      refine wpAnyL_take (i := 2) (v := ?_) rfl (by kernel_rfl) (by kernel_rfl) (by kernel_rfl) (by kernel_rfl) (fun _ _ _ h => h) (by kernel_rfl) ?_ hHeld ?_
      rotate_left
      · intro w hSw; obtain ⟨hs0, hs1, hs2⟩ := hSw; go_simp; all_goals with_reducible rfl
      simp only [Act.put, List.setIfInBounds_toArray, List.set_cons_zero, List.set_cons_succ]
      refine wpAnyL_take (i := 3) (v := ?_) rfl (by kernel_rfl) (by kernel_rfl) (by kernel_rfl) (by kernel_rfl) (fun _ _ _ h => h) (by kernel_rfl) ?_ hHeld ?_
      rotate_left
      · intro w hSw; obtain ⟨hs0, hs1, hs2⟩ := hSw; go_simp; all_goals with_reducible rfl
      simp only [Act.put, List.setIfInBounds_toArray, List.set_cons_zero, List.set_cons_succ]
      refine wpAnyL_take (i := 5) (v := ?_) rfl (by kernel_rfl) (by kernel_rfl) (by kernel_rfl) (by kernel_rfl) (fun _ _ _ h => h) (by kernel_rfl) ?_ hHeld ?_
      rotate_left
      · intro w hSw; obtain ⟨hs0, hs1, hs2⟩ := hSw; go_simp; all_goals with_reducible rfl
      simp only [Act.put, List.setIfInBounds_toArray, List.set_cons_zero, List.set_cons_succ]
      refine wpAnyL_take (i := 6) (v := ?_) rfl (by kernel_rfl) (by kernel_rfl) (by kernel_rfl) (by kernel_rfl) (fun _ _ _ h => h) (by kernel_rfl) ?_ hHeld ?_
      rotate_left
      · intro w hSw; obtain ⟨hs0, hs1, hs2⟩ := hSw; go_simp; all_goals with_reducible rfl
      simp only [Act.put, List.setIfInBounds_toArray, List.set_cons_zero, List.set_cons_succ]
      refine wpAnyL_one (i := 4) rfl (by kernel_rfl) (by rfl) (fun K hK => ?_)
      go_simp
      refine (sorted_calls a4 l1.length c4 l1 w6.drew (HR6.out.drewN 1) (by omega)).mono ?_
      rintro e w7 ⟨v7, rfl, ho7, hb7⟩
      have hb7 : Below w6.heap.size w6 w7 := ⟨hb7.os, hb7.tape, hb7.output, hb7.size, hb7.block⟩
      obtain ⟨a7, c7, rfl⟩ := own_shape' ho7
      have HS7 := Lib.hid (HS6.out.later hb7)
      have hHeld : (fun w' : World => w'.cell? ⟨w.heap.size, 0, none⟩ = some (.bool false) ∧ w'.cell? ⟨w.heap.size, 1, none⟩ = some (.slice an n cn) ∧ w'.cell? ⟨w.heap.size, 2, none⟩ = some (.slice ae m ce)) w7 := ⟨HS7.out.c0, HS7.out.c1, HS7.out.c2⟩
      have HO7 := Lib.hid ho7
      refine hK.out _ _ (.inr hHeld) ?_
      clear hK K ho7 hb7 HS6 HR6 j0 j1 j2
      refine wpAnyL_one (i := 7) rfl (by kernel_rfl) (by rfl) (fun K hK => ?_)
      go_simp
      refine (specKCore_calls kk false an ae n cn m ce ns es w7 (HN.out.below HS7.out.below (Nat.le_refl _)) (HR.out.below HS7.out.below (Nat.le_refl _)) (by omega) ((sort_ltF HWELL.out).imp fun {a b} h => by omega)).mono ?_
      rintro e w8 ⟨v8, l8, rfl, ho8, hsub8, hm8, hb8⟩
      obtain ⟨a8, c8, rfl⟩ := own_shape' ho8
      have HS8 := Lib.hid (HS7.out.later hb8)
      have hnd8 : l8.Nodup := hsub8.nodup ((sort_ltF HWELL.out).imp fun {a b} h => by omega)
      have HEQ : Hid (sortI l1 = sortI l8) := Lib.hid (perm_core (P := fun u => InCore (sortI ns) (adjU ns es) kk u) HND4.out hnd8 HM4.out (fun u => (hm8 kk rfl u).trans ⟨fun h => h.congr (fun x hx => HSUB.out x hx), fun h => h.congr (fun x hx => (HSUB.out x hx).symm)⟩))
      have HLE : Hid (l8.length = l1.length) := Lib.hid (by have h := congrArg List.length HEQ.out; rw [sortI_len, sortI_len] at h; exact h.symm)
      have hl8 : l8.length ≤ 14 := by have := HLE.out; omega
      have HR8 : Hid (RdI w8 a8 l8.length l8) := Lib.hid (rdi_ownK ho8)
      have HO8 : Hid (w8.ownsRow w6.heap.size 3 1 (.slice a7 l1.length c7) l1.length ((sortI l1).map (Value.int .i64))) := Lib.hid (ownsRow_of_heap HO7.out (fun g hg => hb8.block g (HO7.out.lt g hg).2))
      have hHeld : (fun w' : World => w'.cell? ⟨w.heap.size, 0, none⟩ = some (.bool false) ∧ w'.cell? ⟨w.heap.size, 1, none⟩ = some (.slice an n cn) ∧ w'.cell? ⟨w.heap.size, 2, none⟩ = some (.slice ae m ce)) w8 := ⟨HS8.out.c0, HS8.out.c1, HS8.out.c2⟩
      refine hK.out _ _ (.inr hHeld) ?_
      clear hK K ho8 hb8 hsub8 hm8 hnd8 HS7 HO7
      refine wpAnyL_one (i := 8) rfl (by kernel_rfl) (by rfl) (fun K hK => ?_)
      go_simp
      refine (sorted_calls a8 l8.length c8 l8 w8 HR8.out (by omega)).mono ?_
      rintro e w9 ⟨v9, rfl, ho9, hb9⟩
      rw [HLE.out, ← HEQ.out] at ho9
      obtain ⟨a9, c9, rfl⟩ := own_shape' ho9
      have HS9 := Lib.hid (HS8.out.later hb9)
      have HR9 : Hid (RdI w9 a9 l1.length (sortI l1)) := Lib.hid (rdi_ownK ho9)
      have HR7 : Hid (RdI w9 a7 l1.length (sortI l1)) := Lib.hid (rdi_ownK (ownsRow_of_heap HO8.out (fun g hg => hb9.block g (HO8.out.lt g hg).2)))
      have hHeld : (fun w' : World => w'.cell? ⟨w.heap.size, 0, none⟩ = some (.bool false) ∧ w'.cell? ⟨w.heap.size, 1, none⟩ = some (.slice an n cn) ∧ w'.cell? ⟨w.heap.size, 2, none⟩ = some (.slice ae m ce)) w9 := ⟨HS9.out.c0, HS9.out.c1, HS9.out.c2⟩
      refine hK.out _ _ (.inr hHeld) ?_
      clear hK K ho9 hb9 HS8 HO8 HR8
      refine wpAnyL_one (i := 9) rfl (by kernel_rfl) (by rfl) (fun K hK => ?_)
      go_simp
      refine (equalI_calls a7 a9 l1.length c7 c9 (sortI l1) w9 HR7.out HR9.out).mono ?_
      rintro e w10 ⟨rfl, q, hw10⟩
      have HS10 : Hid (LawSt w false an ae n cn m ce w10) := Lib.hid (by rw [hw10]; exact HS9.out.later (below_drewN (Below.refl _ _) q))
      have hHeld : (fun w' : World => w'.cell? ⟨w.heap.size, 0, none⟩ = some (.bool false) ∧ w'.cell? ⟨w.heap.size, 1, none⟩ = some (.slice an n cn) ∧ w'.cell? ⟨w.heap.size, 2, none⟩ = some (.slice ae m ce)) w10 := ⟨HS10.out.c0, HS10.out.c1, HS10.out.c2⟩
      refine hK.out _ _ (.inr hHeld) ?_
      clear hK K hw10 HS9 HR9 HR7
      refine wpAnyL_take (i := 10) (v := ?_) rfl (by kernel_rfl) (by kernel_rfl) (by kernel_rfl) (by kernel_rfl) (fun _ _ _ h => h) (by kernel_rfl) ?_ hHeld ?_
      rotate_left
      · intro w hSw; obtain ⟨hs0, hs1, hs2⟩ := hSw; go_simp; all_goals with_reducible rfl
      simp only [Act.put, List.setIfInBounds_toArray, List.set_cons_zero, List.set_cons_succ]
      refine wpAnyL_take (i := 11) (v := ?_) rfl (by kernel_rfl) (by kernel_rfl) (by kernel_rfl) (by kernel_rfl) (fun _ _ _ h => h) (by kernel_rfl) ?_ hHeld ?_
      rotate_left
      · intro w hSw; obtain ⟨hs0, hs1, hs2⟩ := hSw; go_simp; all_goals with_reducible rfl
      simp only [Act.put, List.setIfInBounds_toArray, List.set_cons_zero, List.set_cons_succ]
      refine wpAnyL_take (i := 12) (v := ?_) rfl (by kernel_rfl) (by kernel_rfl) (by kernel_rfl) (by kernel_rfl) (fun _ _ _ h => h) (by kernel_rfl) ?_ hHeld ?_
      rotate_left
      · intro w hSw; obtain ⟨hs0, hs1, hs2⟩ := hSw; go_simp; all_goals with_reducible rfl
      simp only [Act.put, List.setIfInBounds_toArray, List.set_cons_zero, List.set_cons_succ]
      refine wpAnyL_take (i := 13) (v := ?_) rfl (by kernel_rfl) (by kernel_rfl) (by kernel_rfl) (by kernel_rfl) (fun _ _ _ h => h) (by kernel_rfl) ?_ hHeld ?_
      rotate_left
      · intro w hSw; obtain ⟨hs0, hs1, hs2⟩ := hSw; go_simp; all_goals with_reducible rfl
      simp only [Act.put, List.setIfInBounds_toArray, List.set_cons_zero, List.set_cons_succ]
      refine wpAnyL_take (i := 14) (v := ?_) rfl (by kernel_rfl) (by kernel_rfl) (by kernel_rfl) (by kernel_rfl) (fun _ _ _ h => h) (by kernel_rfl) ?_ hHeld ?_
      rotate_left
      · intro w hSw; obtain ⟨hs0, hs1, hs2⟩ := hSw; go_simp; all_goals with_reducible rfl
      simp only [Act.put, List.setIfInBounds_toArray, List.set_cons_zero, List.set_cons_succ]
      refine wpAnyL_take (i := 15) (v := ?_) rfl (by kernel_rfl) (by kernel_rfl) (by kernel_rfl) (by kernel_rfl) (fun _ _ _ h => h) (by kernel_rfl) ?_ hHeld ?_
      rotate_left
      · intro w hSw; obtain ⟨hs0, hs1, hs2⟩ := hSw; go_simp; all_goals with_reducible rfl
      simp only [Act.put, List.setIfInBounds_toArray, List.set_cons_zero, List.set_cons_succ]
      refine wpAnyL_take (i := 16) (v := ?_) rfl (by kernel_rfl) (by kernel_rfl) (by kernel_rfl) (by kernel_rfl) (fun _ _ _ h => h) (by kernel_rfl) ?_ hHeld ?_
      rotate_left
      · intro w hSw; obtain ⟨hs0, hs1, hs2⟩ := hSw; go_simp; all_goals with_reducible rfl
      simp only [Act.put, List.setIfInBounds_toArray, List.set_cons_zero, List.set_cons_succ]
      refine wpAnyL_take (i := 17) (v := ?_) rfl (by kernel_rfl) (by kernel_rfl) (by kernel_rfl) (by kernel_rfl) (fun _ _ _ h => h) (by kernel_rfl) ?_ hHeld ?_
      rotate_left
      · intro w hSw; obtain ⟨hs0, hs1, hs2⟩ := hSw; go_simp; all_goals with_reducible rfl
      simp only [Act.put, List.setIfInBounds_toArray, List.set_cons_zero, List.set_cons_succ]
      refine wpAnyL_take (i := 18) (v := ?_) rfl (by kernel_rfl) (by kernel_rfl) (by kernel_rfl) (by kernel_rfl) (fun _ _ _ h => h) (by kernel_rfl) ?_ hHeld ?_
      rotate_left
      · intro w hSw; obtain ⟨hs0, hs1, hs2⟩ := hSw; go_simp; all_goals with_reducible rfl
      simp only [Act.put, List.setIfInBounds_toArray, List.set_cons_zero, List.set_cons_succ]
      refine wpAnyL_take (i := 19) (v := ?_) rfl (by kernel_rfl) (by kernel_rfl) (by kernel_rfl) (by kernel_rfl) (fun _ _ _ h => h) (by kernel_rfl) ?_ hHeld ?_
      rotate_left
      · intro w hSw; obtain ⟨hs0, hs1, hs2⟩ := hSw; go_simp; all_goals with_reducible rfl
      simp only [Act.put, List.setIfInBounds_toArray, List.set_cons_zero, List.set_cons_succ]
      refine wpAnyL_one (i := 20) rfl (by kernel_rfl) (by rfl) (fun K hK => ?_)
      go_simp
      refine hK.out _ _ (.inr hHeld) ?_
      clear hK K
      refine wpAnyL_done (by kernel_rfl) ?_ _
      go_wp2_with fail
      go_ret
      exact ⟨rfl, HS10.out.below⟩
end Go.Proofs.Ytbkhakjbmdmghaa
