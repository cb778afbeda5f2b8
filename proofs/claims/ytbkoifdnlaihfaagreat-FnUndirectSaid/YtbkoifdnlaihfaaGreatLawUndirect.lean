/- The walk of FnUndirect. -/
import Derived.Test.YtbkoifdnlaihfaaGreatLawSt
import Derived.Test.YtbkoifdnlaihfaaGreatUndirM
import Derived.Test.YtbkoifdnlaihfaaGreatPlainG
import Derived.Test.YtbkoifdnlaihfaaGreatShape
import Derived.Test.YtbkoifdnlaihfaaGreatSameG
namespace Go.Proofs.YtbkoifdnlaihfaaGreat
open Go.RowKit

theorem well7 : wellB [7] [] = true := by
  unfold wellB
  rw [show sortI [7] = [7] from (sortI_unique (List.Perm.refl _) (by simp)).symm]
  rfl

theorem UndirPost.good {ns : List Int} {es : List (Int × Int × Int)} {w w' : World} {e : Ending} (h : UndirPost true ns es w e w') (hw : wellB ns es = true) :
    ∃ a1 c1 a2 m2 c2, e = .returned (.tuple #[.agg #[.bool false, .slice a1 ns.length c1, .slice a2 m2 c2], .bool false]) ∧ RdI w' a1 ns.length (sortI ns) ∧ RdE w' a2 m2 (undirE ns es) ∧ Below w.heap.size w w' := by
  obtain ⟨v1, v2, he, hc, hb⟩ := h
  rw [hw] at he hc
  rw [if_pos (by rfl)] at hc
  obtain ⟨h1, h2, _⟩ := hc
  obtain ⟨a1, c1, rfl⟩ := own_shape' h1
  obtain ⟨a2, c2, rfl⟩ := own_shape' h2
  rw [sortI_sortI] at h1
  exact ⟨a1, c1, a2, _, c2, he, rd_of_own h1, rdE_of_own h2, hb⟩

set_option maxHeartbeats 8000000 in
set_option maxRecDepth 100000 in
theorem lawUndirect_calls (d : Bool) (an ae : Option Addr) (n cn m ce : Nat) (ns : List Int) (es : List (Int × Int × Int)) (w : World) (hn : RdI w an n ns) (hr : RdE w ae m es) (hwf : ∀ x ∈ ns, (Lit.int .i64 x).wf = true) :
    Calls Tryz.prog 3 #[.agg #[.bool d, .slice an n cn, .slice ae m ce]] w fun e w' => e = .returned (.bool true) ∧ Below w.heap.size w w' := by
  have hsn := hn.small; have hsm := hr.small
  have HR := Lib.hid hr; clear hr
  have HN := Lib.hid hn; clear hn
  have HWF := Lib.hid hwf; clear hwf
  go_enter Tryz.func3, Tryz.ntmps3
  go_wp2_with fail
  refine (fits_calls d an ae n cn m ce _ hsn hsm).mono ?_
  rintro e w1 ⟨rfl, hb1⟩
  have HS1 := Lib.hid ((LawSt.start w d an ae n cn m ce).later hb1); clear hb1
  cases hf : decide (n ≤ 2147483647 ∧ m ≤ 2147483647)
  · go_wp2_with fail
    go_ret
    exact ⟨rfl, HS1.out.below⟩
  · clear hf
    have j0 := HS1.out.c0; have j1 := HS1.out.c1; have j2 := HS1.out.c2
    go_wp2_with fail
    refine (fewOf_calls d true an ae n cn m ce 25 ns es _ (by omega) (HN.out.below HS1.out.below (Nat.le_refl _)) (HR.out.below HS1.out.below (Nat.le_refl _))).mono ?_
    rintro e w2 ⟨rfl, hb2⟩
    have HS2 := Lib.hid (HS1.out.later hb2); clear hb2 j0 j1 j2
    cases hw : ((d == true) && fewB ns es 25)
    · go_wp2_with fail
      go_ret
      exact ⟨rfl, HS2.out.below⟩
    · obtain ⟨rfl, hw'⟩ : d = true ∧ fewB ns es 25 = true := by cases d <;> simp at hw; exact ⟨rfl, hw⟩
      obtain ⟨hw1, hw2, hw3⟩ := fewB_parts hw'
      have hlen := HN.out.len
      have HLEN := Lib.hid hlen
      have hnn : n ≤ 25 := by omega
      have HW := Lib.hid hw3
      have HUL := Lib.hid (undirE_len ns es hw1 hw3)
      clear hw hw' hw1 hw2 hw3 hlen
      have j0 := HS2.out.c0; have j1 := HS2.out.c1; have j2 := HS2.out.c2
      go_wp2_with fail
      refine (implUndirect_calls true an ae n cn m ce ns es _ (HN.out.below HS2.out.below (Nat.le_refl _)) (HR.out.below HS2.out.below (Nat.le_refl _)) (by omega) HWF.out).mono ?_
      intro e w3 hp
      obtain ⟨a1, c1, a2, m2, c2, rfl, hn3, he3, hb3⟩ := hp.good HW.out
      rw [HLEN.out] at hn3 ⊢
      have HN3 := Lib.hid hn3; have HE3 := Lib.hid he3
      have HS3 := Lib.hid (HS2.out.later hb3)
      clear hp hn3 he3 hb3 j0 j1 j2
      have j0 := HS3.out.c0; have j1 := HS3.out.c1; have j2 := HS3.out.c2
      have hs3 := HS3.out.size
      go_wp2_with fail
      obtain ⟨w4, hw4⟩ : ∃ w4, w4 = w3.alloc (.cells #[.bool false, .slice a1 n c1, .slice a2 m2 c2] 25) := ⟨_, rfl⟩
      have Z3 : Hid (w4.heap[w3.heap.size]? = some (.cells #[.bool false, .slice a1 n c1, .slice a2 m2 c2] 25 (0, 0))) := by rw [hw4]; exact heap_alloc_new w3 _
      have HB4 : Hid (Below w3.heap.size w3 w4) := by rw [hw4]; exact (Below.refl _ _).alloc (Nat.le_refl _) _
      have HS4 := Lib.hid (HS3.out.later HB4.out)
      have hl3 : w3.heap.size < w4.heap.size := by rw [hw4]; simp
      rw [← hw4]
      clear hw4 j0 j1 j2
      refine (plain_calls false an ae n cn m ce ns es w4 (HN.out.below HS4.out.below (Nat.le_refl _)) (HR.out.below HS4.out.below (Nat.le_refl _)) (by omega) HW.out).mono ?_
      rintro e w5 ⟨a5, c5, b5, m5, e5, rfl, hn5, he5, hm5, hb5⟩
      rw [HLEN.out] at hn5 he5 ⊢
      have HN5 := Lib.hid hn5; have HE5 := Lib.hid he5
      have HB5 := Lib.hid (HB4.out.trans (hb5.mono HB4.out.size))
      have Z5 := Lib.hid ((hb5.block _ hl3).trans Z3.out)
      have HS5 := Lib.hid (HS4.out.later hb5)
      have hl5 : w3.heap.size < w5.heap.size := Nat.lt_of_lt_of_le hl3 hb5.size
      clear hn5 he5 hb5 HB4 HS4 hl3 Z3
      go_wp2_with fail
      obtain ⟨w6, hw6⟩ : ∃ w6, w6 = (w5.alloc (.cells #[.bool false, .slice a5 n c5, .slice b5 m5 e5] 25)).alloc (.cells #[.int .i64 7] 3) := ⟨_, rfl⟩
      have HB6 : Hid (Below w5.heap.size w5 w6) := by rw [hw6]; exact ((Below.refl _ _).alloc (Nat.le_refl _) _).alloc (by simp) _
      have Z6 : Hid (w6.heap[w5.heap.size]? = some (.cells #[.bool false, .slice a5 n c5, .slice b5 m5 e5] 25 (0, 0))) := by
        rw [hw6]
        show (World.alloc _ _).heap[_]? = _
        rw [heap_alloc_old _ _ (by simp)]; exact heap_alloc_new w5 _
      have Y6 : Hid (w6.heap[w5.heap.size + 1]? = some (.cells #[.int .i64 7] 3 (0, 0))) := by
        have h := heap_alloc_new (w5.alloc (.cells #[.bool false, .slice a5 n c5, .slice b5 m5 e5] 25)) (.cells #[.int .i64 7] 3)
        rw [hw6]
        show (World.alloc _ _).heap[_]? = _
        simpa using h
      have hl6 : w5.heap.size + 1 < w6.heap.size := by rw [hw6]; simp
      rw [← hw6]
      clear hw6
      have HR6 : Hid (RdI w6 (some ⟨w5.heap.size + 1, 0, none⟩) 1 [7]) := ⟨rfl, by omega, fun _ => ⟨_, 0, rfl, hl6, fun j hj => by
        have h0 : j = 0 := by omega
        subst h0
        exact ⟨7, rfl, by rw [cell_of_row w6 _ _ _ _ (0, 0) Y6.out]; rfl⟩⟩⟩
      have HE6 : Hid (RdE w6 none 0 []) := ⟨rfl, by omega, fun h => by omega⟩
      refine (implUndirect_calls true (some ⟨w5.heap.size + 1, 0, none⟩) none 1 1 0 0 [7] [] w6 HR6.out HE6.out (by omega) (fun x hx => by
        have h7 : x = 7 := by simpa using hx
        subst h7
        decide)).mono ?_
      intro e w7 hp
      obtain ⟨a7, c7, b7, m7, e7, rfl, hn7, he7, hb7⟩ := hp.good well7
      have HB7 := Lib.hid (HB6.out.trans (hb7.mono HB6.out.size))
      have Z7 := Lib.hid ((hb7.block _ (Nat.lt_of_le_of_lt (Nat.le_succ _) hl6)).trans Z6.out)
      have hl7 : w5.heap.size < w7.heap.size := Nat.lt_of_lt_of_le (Nat.lt_of_le_of_lt (Nat.le_succ _) hl6) hb7.size
      clear hp hn7 he7 hb7 HR6 HE6 hl6 Y6 Z6
      go_wp2_with fail
      obtain ⟨w8, hw8⟩ : ∃ w8, w8 = w7.alloc (.cells #[.bool false, .slice a7 1 c7, .slice b7 m7 e7] 25) := ⟨_, rfl⟩
      have Z8 : Hid (w8.heap[w7.heap.size]? = some (.cells #[.bool false, .slice a7 1 c7, .slice b7 m7 e7] 25 (0, 0))) := by rw [hw8]; exact heap_alloc_new w7 _
      have HB8 : Hid (Below w7.heap.size w7 w8) := by rw [hw8]; exact (Below.refl _ _).alloc (Nat.le_refl _) _
      have hl8 : w7.heap.size < w8.heap.size := by rw [hw8]; simp
      rw [← hw8]
      clear hw8
      have HB5' : Hid (Below w5.heap.size w5 w8) := HB7.out.trans (HB8.out.mono HB7.out.size)
      have Y3 := Lib.hid ((HB5'.out.block _ hl5).trans Z5.out)
      have Y5 := Lib.hid ((HB8.out.block _ hl7).trans Z7.out)
      have hm3 : m2 ≤ 1000000 := by have := HE3.out.len; have := HUL.out; omega
      have HEQ := Lib.hid (undir_same ns es HW.out)
      rw [HLEN.out] at HEQ
      have hmm : m5 = m2 := by
        have h1 := congrArg List.length HEQ.out
        unfold bareE at h1
        simp only [List.length_map] at h1
        have := HE3.out.len; have := HE5.out.len
        omega
      subst hmm
      have HN3' := Lib.hid (HN3.out.below (HB5.out.trans (HB5'.out.mono HB5.out.size)) (Nat.le_refl _))
      have HE3' := Lib.hid (HE3.out.below (HB5.out.trans (HB5'.out.mono HB5.out.size)) (Nat.le_refl _))
      have HN5' := Lib.hid (HN5.out.below HB5'.out (Nat.le_refl _))
      have HE5' := Lib.hid (HE5.out.below HB5'.out (Nat.le_refl _))
      have HS8 := Lib.hid (HS5.out.later HB5'.out)
      clear HB5 Z5 HS5 HB6 HB7 Z7 HS3 HE3 HN3 HE5 HN5 HUL
      have KS : Hid (∀ W, Below w8.heap.size w8 W → W.cell? ⟨w3.heap.size, 0, none⟩ = some (.bool false) ∧ W.cell? ⟨w3.heap.size, 1, none⟩ = some (.slice a1 n c1) ∧ W.cell? ⟨w3.heap.size, 2, none⟩ = some (.slice a2 m5 c2) ∧
          W.cell? ⟨w5.heap.size, 0, none⟩ = some (.bool false) ∧ W.cell? ⟨w5.heap.size, 1, none⟩ = some (.slice a5 n c5) ∧ W.cell? ⟨w5.heap.size, 2, none⟩ = some (.slice b5 m5 e5) ∧ W.cell? ⟨w7.heap.size, 1, none⟩ = some (.slice a7 1 c7)) := fun W hb => by
        have h3 := (hb.block w3.heap.size (by omega)).trans Y3.out
        have h5 := (hb.block w5.heap.size (by omega)).trans Y5.out
        have h7 := (hb.block w7.heap.size (by omega)).trans Z8.out
        refine ⟨?_, ?_, ?_, ?_, ?_, ?_, ?_⟩
        · rw [cell_of_row W _ _ _ _ (0, 0) h3]; rfl
        · rw [cell_of_row W _ _ _ _ (0, 0) h3]; rfl
        · rw [cell_of_row W _ _ _ _ (0, 0) h3]; rfl
        · rw [cell_of_row W _ _ _ _ (0, 0) h5]; rfl
        · rw [cell_of_row W _ _ _ _ (0, 0) h5]; rfl
        · rw [cell_of_row W _ _ _ _ (0, 0) h5]; rfl
        · rw [cell_of_row W _ _ _ _ (0, 0) h7]; rfl
      obtain ⟨X, hX⟩ : ∃ X, X = bareE (undirE ns es) := ⟨_, rfl⟩
      have SH1 : Hid (∀ W, Below w8.heap.size w8 W → Calls Tryz.prog 14 #[.agg #[.bool false, .slice a1 n c1, .slice a2 m5 c2]] W fun e w' => ∃ ae' ce', e = .returned (.agg #[.bool false, .slice a1 n c1, .slice ae' m5 ce']) ∧ RdE w' ae' m5 X ∧ Below w8.heap.size w8 w') := fun W hb =>
        (shape_calls false a1 a2 n c1 m5 c2 (undirE ns es) W (HE3'.out.below hb (Nat.le_refl _)) hm3).mono fun e w' ⟨b, c, h1, h2, h3⟩ => ⟨b, c, h1, hX ▸ h2, hb.trans (h3.mono hb.size)⟩
      have SH2 : Hid (∀ W, Below w8.heap.size w8 W → Calls Tryz.prog 14 #[.agg #[.bool false, .slice a5 n c5, .slice b5 m5 e5]] W fun e w' => ∃ ae' ce', e = .returned (.agg #[.bool false, .slice a5 n c5, .slice ae' m5 ce']) ∧ RdE w' ae' m5 X ∧ Below W.heap.size W w') := fun W hb =>
        (shape_calls false a5 b5 n c5 m5 e5 (plainUp false (sortI ns) es n n) W (HE5'.out.below hb (Nat.le_refl _)) hm5).mono fun e w' ⟨b, c, h1, h2, h3⟩ => ⟨b, c, h1, by rw [hX, HEQ.out]; exact h2, h3⟩
      have SG : Hid (∀ W b9 e9 b10 e10, Below w8.heap.size w8 W → RdE W b9 m5 X → RdE W b10 m5 X → Calls Tryz.prog 13 #[.agg #[.bool false, .slice a1 n c1, .slice b9 m5 e9], .agg #[.bool false, .slice a5 n c5, .slice b10 m5 e10]] W fun e w' => e = .returned (.bool true) ∧ Below w8.heap.size w8 w') := fun W b9 e9 b10 e10 hb h9 h10 =>
        (sameGraph_calls false a1 a5 b9 b10 n c1 c5 m5 e9 e10 (sortI ns) X W (HN3'.out.below hb (Nat.le_refl _)) (HN5'.out.below hb (Nat.le_refl _)) h9 h10).mono fun e w' ⟨h1, h2⟩ => ⟨h1, hb.trans (h2.mono hb.size)⟩
      clear hX HEQ HE3' HE5' HN3' HN5' hm3 hm5 Y3 Y5 Z8
      have BD : Hid (Below w8.heap.size w8 w8.drew) := below_drewN (Below.refl w8.heap.size w8) 1
      obtain ⟨k0, k1, k2, k3, k4, k5, k6⟩ := KS.out w8 (Below.refl _ _)
      go_wp2_with fail
      go_region_law (first
          | (go_simp; with_reducible refine (SH1.out w8.drew BD.out).mono ?_; rintro e w9 ⟨b9, e9, rfl, hr9, hb9⟩; have B9 := Lib.hid hb9; obtain ⟨t0, t1, t2, t3, t4, t5, t6⟩ := KS.out w9 hb9; have R9' := Lib.hid hr9; try dsimp only)
          | (go_simp; with_reducible refine (SH2.out w9 B9.out).mono ?_; rintro e w10 ⟨b10, e10, rfl, hr10, hb10⟩; have B10 := Lib.hid (B9.out.trans (hb10.mono B9.out.size)); obtain ⟨u0, u1, u2, u3, u4, u5, u6⟩ := KS.out w10 B10.out; have R9 := Lib.hid (R9'.out.below hb10 (Nat.le_refl _)); have R10 := Lib.hid hr10; try dsimp only)
          | (go_simp; with_reducible refine (SG.out w10 b9 e9 b10 e10 B10.out R9.out R10.out).mono ?_; rintro e w11 ⟨rfl, hb11⟩; obtain ⟨x0, x1, x2, x3, x4, x5, x6⟩ := KS.out w11 hb11; try dsimp only))
      all_goals
        go_wp2
        go_ret
        exact ⟨rfl, HS8.out.below.trans (hb11.mono (Nat.le_of_lt HS8.out.size))⟩

end Go.Proofs.YtbkoifdnlaihfaaGreat
