/- The walk of FnSCCTurned. -/
import Derived.Test.YtnfkbjgijelfdaaGreatScc
import Derived.Test.YtnfkbjgijelfdaaGreatSortLL
import Derived.Test.YtnfkbjgijelfdaaGreatTurn
import Derived.Test.YtnfkbjgijelfdaaGreatPlain
namespace Go.Proofs.YtnfkbjgijelfdaaGreat
open Go.RowKit

theorem TFin.len {ids : List Int} {adj : Int → List Int} {s : TS} (h : TFin ids adj s) : s.sccs.length ≤ ids.length ∧ ∀ l ∈ s.sccs.map sortI, l.length ≤ ids.length := by
  have h1 := nodup_lenT h.nd (fun x hx => (h.mem x).1 hx)
  have h2 := len_flatten h.ne
  refine ⟨by omega, fun l hl => ?_⟩
  obtain ⟨c, hc, rfl⟩ := List.mem_map.1 hl
  rw [sortI_len]
  have := List.Sublist.length_le (List.sublist_flatten_of_mem hc)
  omega
theorem sort7S : sortI [7] = [7] := (sortI_unique (List.Perm.refl _) (by simp)).symm
theorem well7S : wellB [7] [] = true := by
  unfold wellB
  rw [sort7S]
  rfl
theorem scc7 {s : TS} (h : TRun (adjD [7] []) TS.start (sortI [7]) s) : s.sccs.length = 1 := by
  have hf := h.fin adjD_sub (fun _ => Iff.rfl)
  have h1 := hf.len.1
  rw [sort7S] at h1
  have h2 : s.sccs ≠ [] := fun e => by
    have h3 := (hf.mem 7).2 (by rw [sort7S]; simp)
    rw [e] at h3; cases h3
  have := List.length_pos_iff.2 h2
  simp at h1; omega

set_option maxHeartbeats 8000000 in
set_option maxRecDepth 100000 in
theorem lawSC_calls (d : Bool) (an ae : Option Addr) (n cn m ce : Nat) (ns : List Int) (es : List (Int × Int × Int)) (w : World) (hn : RdI w an n ns) (hr : RdE w ae m es) (hwf : ∀ x ∈ ns, (Lit.int .i64 x).wf = true) :
    Calls Tryz.prog 3 #[.agg #[.bool d, .slice an n cn, .slice ae m ce]] w fun e w' => e = .returned (.bool true) ∧ Below w.heap.size w w' := by
  have hsn := hn.small; have hsm := hr.small
  have HR := Lib.hid hr; clear hr
  have HN := Lib.hid hn; clear hn
  have HWF := Lib.hid hwf; clear hwf
  go_enter Tryz.func3, Tryz.ntmps3
  go_wp2_with fail
  refine (fits_calls d an ae n cn m ce _ hsn hsm).mono ?_
  rintro e w1 ⟨rfl, hb1⟩
  have HS1 := Lib.hid ((LawSt.start w d an ae n cn m ce).later hb1); clear hb1
  cases hf : decide (n ≤ 2147483647 ∧ m ≤ 2147483647)
  · go_wp2_with fail
    go_ret
    exact ⟨rfl, HS1.out.below⟩
  · clear hf
    have j0 := HS1.out.c0; have j1 := HS1.out.c1; have j2 := HS1.out.c2
    go_wp2_with fail
    refine (fewOf_calls d true an ae n cn m ce 40 ns es _ (by omega) (HN.out.below HS1.out.below (Nat.le_refl _)) (HR.out.below HS1.out.below (Nat.le_refl _))).mono ?_
    rintro e w2 ⟨rfl, hb2⟩
    have HS2 := Lib.hid (HS1.out.later hb2); clear hb2 j0 j1 j2
    have j0 := HS2.out.c0; have j1 := HS2.out.c1; have j2 := HS2.out.c2
    obtain ⟨fb, hfb⟩ : ∃ b, ((d == true) && fewB ns es 40) = b := ⟨_, rfl⟩
    have HFB := Lib.hid hfb
    rw [hfb]
    clear hfb
    cases fb
    · go_wp2_with fail
      go_ret
      exact ⟨rfl, HS2.out.below⟩
    obtain ⟨rfl, hfew⟩ : d = true ∧ fewB ns es 40 = true := by
      have h := HFB.out
      rw [Bool.and_eq_true] at h
      exact ⟨by simpa using h.1, h.2⟩
    obtain ⟨hl25, hel, hwell⟩ := fewB_parts hfew
    have hnl : n ≤ 40 := by have := HN.out.len; omega
    have hml : m ≤ 1000 := by have := HR.out.len; omega
    have HWELL := Lib.hid hwell
    have HL40 := Lib.hid hl25
    clear hfew hwell HFB hl25 hel
    go_wp2_with fail
    refine (implSCC_calls an ae n cn m ce ns es _ (HN.out.below HS2.out.below (Nat.le_refl _)) (HR.out.below HS2.out.below (Nat.le_refl _)) (by omega) HWF.out HWELL.out).mono ?_
    rintro e w3 ⟨v1, vs1, s1, rfl, hrun1, hL1, hb3⟩
    have hf1 := hrun1.fin adjD_sub (fun _ => Iff.rfl)
    obtain ⟨hl1, hm1⟩ := hf1.len
    rw [sortI_len] at hl1
    have HF1 := Lib.hid hf1
    have HM1 : Hid (∀ l ∈ s1.sccs.map sortI, l.length ≤ 1000000) := Lib.hid (fun l hl => by have h := hm1 l hl; rw [sortI_len] at h; have := HL40.out; omega)
    obtain ⟨L1, hL1e⟩ : ∃ L1, L1 = s1.sccs.map sortI := ⟨_, rfl⟩
    have hl1' : L1.length ≤ 40 := by rw [hL1e, List.length_map]; have := HL40.out; omega
    rw [← hL1e] at hL1 HM1
    have HE1 := Lib.hid hL1e
    have HL1 := Lib.hid hL1
    have HS3 := Lib.hid (HS2.out.later hb3)
    clear hrun1 hL1 hb3 hf1 hl1 hm1 hL1e j0 j1 j2
    have j0 := HS3.out.c0; have j1 := HS3.out.c1; have j2 := HS3.out.c2
    go_wp2_with fail
    refine (turned_calls true an ae n cn m ce es _ (HR.out.below HS3.out.below (Nat.le_refl _)) (by omega)).mono ?_
    rintro e w4 ⟨ae', ce', rfl, hre, hb4⟩
    have HRE := Lib.hid hre
    have HS4 := Lib.hid (HS3.out.later hb4)
    have HL14 : Hid (LolI w4 w2.heap.size v1 vs1 L1) := Lib.hid (HL1.out.of_heap (fun j hj => hb4.block j (HL1.out.lt hj).2))
    clear hre hb4 j0 j1 j2 HL1
    go_wp2_with fail
    refine (implSCC_calls an ae' n cn m ce' ns (turnE es) _ (HN.out.below HS4.out.below (Nat.le_refl _)) HRE.out (by omega) HWF.out (well_turn HWELL.out)).mono ?_
    rintro e w5 ⟨v2, vs2, s2, rfl, hrun2, hL2, hb5⟩
    have hf2 := hrun2.fin adjD_sub (fun _ => Iff.rfl)
    obtain ⟨hl2, hm2⟩ := hf2.len
    rw [sortI_len] at hl2
    have HM2 : Hid (∀ l ∈ s2.sccs.map sortI, l.length ≤ 1000000) := Lib.hid (fun l hl => by have h := hm2 l hl; rw [sortI_len] at h; have := HL40.out; omega)
    have HPM : Hid (L1.Perm (s2.sccs.map sortI)) := Lib.hid (by rw [HE1.out]; exact HF1.out.turned hf2 (adjD_turn ns es))
    obtain ⟨L2, hL2e⟩ : ∃ L2, L2 = s2.sccs.map sortI := ⟨_, rfl⟩
    have hl2' : L2.length ≤ 40 := by rw [hL2e, List.length_map]; have := HL40.out; omega
    rw [← hL2e] at hL2 HM2 HPM
    have HL2 := Lib.hid hL2
    have HS5 := Lib.hid (HS4.out.later hb5)
    have HL15 : Hid (LolI w5 w2.heap.size v1 vs1 L1) := Lib.hid (HL14.out.of_heap (fun j hj => hb5.block j (HL14.out.lt hj).2))
    clear hrun2 hL2 hb5 hf2 hl2 hm2 hL2e HL14 HRE HE1 HF1
    go_wp2_with fail
    obtain ⟨w6, hw6⟩ : ∃ w6, w6 = w5.alloc (.cells #[.int .i64 7] 3) := ⟨_, rfl⟩
    have hb6 : Below w5.heap.size w5 w6 := by rw [hw6]; exact (Below.refl _ _).alloc (Nat.le_refl _) _
    have x6 : w6.heap[w5.heap.size]? = some (.cells #[.int .i64 7] 3 (0, 0)) := by rw [hw6]; exact heap_alloc_new w5 _
    have hs6 : w5.heap.size < w6.heap.size := (Array.getElem?_eq_some_iff.1 x6).1
    rw [← hw6]
    clear hw6
    have HR6 : Hid (RdI w6 (some ⟨w5.heap.size, 0, none⟩) 1 [7]) := ⟨rfl, by omega, fun _ => ⟨_, 0, rfl, hs6, fun j hj => by
      have h0 : j = 0 := by omega
      subst h0
      exact ⟨7, rfl, by rw [cell_of_row w6 _ _ _ _ (0, 0) x6]; rfl⟩⟩⟩
    have HE6 : Hid (RdE w6 none 0 []) := ⟨rfl, by omega, fun h => by omega⟩
    have HS6 := Lib.hid (HS5.out.later hb6)
    have HL16 : Hid (LolI w6 w2.heap.size v1 vs1 L1) := Lib.hid (HL15.out.of_heap (fun j hj => hb6.block j (HL15.out.lt hj).2))
    have HL26 : Hid (LolI w6 w4.heap.size v2 vs2 L2) := Lib.hid (HL2.out.of_heap (fun j hj => hb6.block j (HL2.out.lt hj).2))
    clear x6 hb6 HL15 HL2
    refine (implSCC_calls _ none 1 1 0 0 [7] [] w6 HR6.out HE6.out (by omega) (fun x hx => by
      have h7 : x = 7 := by simpa using hx
      subst h7; decide) well7S).mono ?_
    rintro e w7 ⟨v3, vs3, s3, rfl, hrun3, hL3, hb7⟩
    have hrow3 := hL3.row
    rw [List.length_map, scc7 hrun3] at hrow3
    obtain ⟨a3, c3, rfl⟩ := own_shape' hrow3
    have HS7 := Lib.hid (HS6.out.later hb7)
    have HL17 : Hid (LolI w7 w2.heap.size v1 vs1 L1) := Lib.hid (HL16.out.of_heap (fun j hj => hb7.block j (HL16.out.lt hj).2))
    have HL27 : Hid (LolI w7 w4.heap.size v2 vs2 L2) := Lib.hid (HL26.out.of_heap (fun j hj => hb7.block j (HL26.out.lt hj).2))
    clear hrun3 hL3 hrow3 hb7 HL16 HL26 HR6 HE6
    go_wp2_with fail
    refine (sortedLists_calls _ v1 vs1 L1 w7 HL17.out (by omega) HM1.out).mono ?_
    rintro e w8 ⟨v8, ps8, rfl, ho8, hrp8, hp8, hs8, hb8⟩
    obtain ⟨a8, c8, rfl⟩ := own_shape' ho8
    have HRD8 := Lib.hid (RdL.of_rowsP ho8 hrp8 (by omega))
    have HP8 := Lib.hid hp8; have HSRT8 := Lib.hid hs8
    have HS8 := Lib.hid (HS7.out.later hb8)
    have HL28 : Hid (LolI w8 w4.heap.size v2 vs2 L2) := Lib.hid (HL27.out.of_heap (fun j hj => hb8.block j (HL27.out.lt hj).2))
    clear ho8 hrp8 hp8 hs8 hb8 HL27 HL17
    go_wp2_with fail
    refine (sortedLists_calls _ v2 vs2 L2 w8 HL28.out (by omega) HM2.out).mono ?_
    rintro e w9 ⟨v9, ps9, rfl, ho9, hrp9, hp9, hs9, hb9⟩
    obtain ⟨a9, c9, rfl⟩ := own_shape' ho9
    have hll : L2.length = L1.length := HPM.out.length_eq.symm
    have hee : ps9.map (·.2) = ps8.map (·.2) := pwL_unique (hp9.trans (HPM.out.symm.trans HP8.out.symm)) hs9 HSRT8.out
    have hrd9 := RdL.of_rowsP ho9 hrp9 (by omega)
    rw [hee] at hrd9
    obtain ⟨l1, hl1e⟩ : ∃ l1, l1 = L1.length := ⟨_, rfl⟩
    obtain ⟨l2, hl2e⟩ : ∃ l2, l2 = L2.length := ⟨_, rfl⟩
    rw [← hl2e] at hrd9 hll ⊢
    rw [← hl1e] at HRD8 hll ⊢
    obtain rfl : l2 = l1 := hll
    have HRD9 := Lib.hid hrd9
    have HRD89 := Lib.hid (HRD8.out.below hb9 (Nat.le_refl _))
    have HS9 := Lib.hid (HS8.out.later hb9)
    clear ho9 hrp9 hp9 hs9 hb9 hee hrd9 HL28 HRD8 hl1e hl2e
    go_wp2_with fail
    refine (sameLists_calls _ _ _ _ _ _ w9 HRD89.out HRD9.out).mono ?_
    rintro e w10 ⟨rfl, q, rfl⟩
    have HS10 := Lib.hid (HS9.out.later (below_drewN (Below.refl _ _) q))
    go_wp2_with fail
    go_ret
    exact ⟨rfl, HS10.out.below⟩
end Go.Proofs.YtnfkbjgijelfdaaGreat
