/- The walk of FnDegeneracy. -/
import Derived.Test.YtbkhakjbmdmghaaKCoreI
import Derived.Test.YtbkhakjbmdmghaaSpecK
import Derived.Test.YtbkhakjbmdmghaaPeel
import Derived.Test.YtbkhakjbmdmghaaSameG
import Derived.Test.YtbkhakjbmdmghaaHeldL
import Derived.Test.YtbkhakjbmdmghaaPlain3
namespace Go.Proofs.Ytbkhakjbmdmghaa
open Go.RowKit

section
variable {P : Program} {ops : Array Oper} {Q : Exit → Act → World → Prop} {md : Region.Mode} {S : World → Prop} {E : List Nat}
/-- Number i, which is not wanted, is passed over first. -/
theorem wpAnyL_skip {i : Nat} {oi : Oper} {fuel : Nat} {listed : Array Bool} {a : Act} {w : World} (hi : ops[i]? = some oi) (hc : lateOf md ops E i = true)
    (hs : Region.noSelect ops = true) (hf : Region.free md ops listed i = true) (hr : (Region.ready md ops listed).contains i = true)
    (hQ : ∀ c a w, Q (.panic c) (a.put oi.dst undef) w → Q (.panic c) a w) (hw : Region.wanted oi (yielded ops a.tmps) = false) (hS : S w)
    (h : wpAnyL P md ops Q S E fuel (listed.setIfInBounds i true) (a.put oi.dst undef) w) : wpAnyL P md ops Q S E (fuel + 1) listed a w := by
  exact wpAnyL_first hi hc (Region.noSelect_spec hs) hQ fuel listed a w (Region.free_spec hi hf) (by simpa using hr) (.inr ⟨hw, rfl⟩) hS h
end

theorem sort7D : sortI [7] = [7] := (sortI_unique (List.Perm.refl _) (by simp)).symm
theorem well7D : wellB [7] [] = true := by
  unfold wellB
  rw [sort7D]
  rfl

/-- The order of degeneracy, each node with its level. -/
theorem rev_split {ps : List (Int × Nat)} {t : Nat} {q : Int × Nat} (h : ps.reverse[t]? = some q) : ps = (ps.reverse.drop (t + 1)).reverse ++ q :: (ps.reverse.take t).reverse := by
  obtain ⟨ht, e⟩ := List.getElem?_eq_some_iff.1 h
  have h1 : ps.reverse = ps.reverse.take t ++ q :: ps.reverse.drop (t + 1) := by
    rw [← e, ← List.drop_eq_getElem_cons ht, List.take_append_drop]
  have h2 := congrArg List.reverse h1
  rw [List.reverse_reverse, List.reverse_append, List.reverse_cons] at h2
  rw [List.append_assoc] at h2
  exact h2

theorem DegS.ahead {ns : List Int} {es : List (Int × Int × Int)} {ps : List (Int × Nat)} {k t : Nat} {q : Int × Nat} (h : DegS (sortI ns) (adjU ns es) ps k) (ht : ps.reverse[t]? = some q) :
    (ps.reverse.take t).countP (fun p => arcB false es p.1 q.1) ≤ q.2 := by
  have hs := rev_split ht
  have h1 := h.few _ _ q hs
  refine Nat.le_trans ?_ h1
  have hqm : q ∈ ps := by rw [hs]; simp
  have hnd := h.nodup
  rw [hs, List.map_append, List.map_cons, List.nodup_append] at hnd
  obtain ⟨n1, n2, n3⟩ := hnd
  rw [List.nodup_cons] at n2
  have e1 : (ps.reverse.take t).countP (fun p => arcB false es p.1 q.1) = (((ps.reverse.take t).reverse.map (·.1)).filter fun y => arcB false es y q.1).length := by
    rw [← List.countP_eq_length_filter, List.countP_map, List.countP_reverse]
    rfl
  have e2 : degIn (adjU ns es) (leftB (sortI ns) ((ps.reverse.drop (t + 1)).reverse.map (·.1))) q.1 = ((adjU ns es q.1).filter (leftB (sortI ns) ((ps.reverse.drop (t + 1)).reverse.map (·.1)))).length := List.countP_eq_length_filter
  rw [e1, e2]
  refine nodup_lenD (n2.2.sublist (List.filter_sublist ..)) fun y hy => ?_
  obtain ⟨hy1, hy2⟩ := List.mem_filter.1 hy
  obtain ⟨p, hp, rfl⟩ := List.mem_map.1 hy1
  have hpm : p ∈ ps := List.mem_reverse.1 (List.mem_of_mem_take (List.mem_reverse.1 hp))
  refine List.mem_filter.2 ⟨mem_adjU.2 ⟨h.sub q hqm, h.sub p hpm, by rw [arcB_symm]; exact hy2⟩, leftB_iff.2 ⟨h.sub p hpm, fun hm => ?_⟩⟩
  exact n3 p.1 hm p.1 (List.mem_cons_of_mem _ hy1) rfl

theorem DegS.anti {ids : List Int} {adj : Int → List Int} {ps : List (Int × Nat)} {k s t : Nat} {q r : Int × Nat} (h : DegS ids adj ps k) (hs : ps.reverse[s]? = some q) (ht : ps.reverse[t]? = some r) (hst : s ≤ t) : r.2 ≤ q.2 := by
  by_cases e : s = t
  · subst e; rw [hs] at ht; obtain rfl := Option.some.inj ht; exact Nat.le_refl _
  · have h1 : (ps.reverse.map (·.2)).Pairwise (fun a b => b ≤ a) := by
      rw [List.map_reverse, List.pairwise_reverse]; exact h.mono
    obtain ⟨hs1, hs2⟩ := List.getElem?_eq_some_iff.1 hs
    obtain ⟨ht1, ht2⟩ := List.getElem?_eq_some_iff.1 ht
    have := List.pairwise_iff_getElem.1 h1 s t (by simpa using hs1) (by simpa using ht1) (by omega)
    simp only [List.getElem_map] at this
    rw [hs2, ht2] at this
    exact this
theorem DegS.head {ids : List Int} {adj : Int → List Int} {ps : List (Int × Nat)} {k : Nat} {q : Int × Nat} (h : DegS ids adj ps k) (hq : ps.reverse[0]? = some q) : q.2 = k := by
  have hqm : q ∈ ps := List.mem_reverse.1 (List.mem_of_getElem? hq)
  rcases h.top with ⟨rfl, _⟩ | ⟨p, hp, rfl⟩
  · simp at hq
  · obtain ⟨t, ht⟩ := List.getElem?_of_mem (List.mem_reverse.2 hp)
    have h1 := h.anti hq ht (by omega)
    have h2 := h.le q hqm
    omega
theorem DegS.sorted {ns : List Int} {adj : Int → List Int} {ps : List (Int × Nat)} {k : Nat} (h : DegS (sortI ns) adj ps k) (hall : ∀ v ∈ sortI ns, v ∈ ps.map (·.1)) (hu : (sortI ns).Nodup) : sortI (ps.map (·.1)).reverse = sortI ns := by
  refine sortI_unique ((sortI_perm _).trans ?_) (sortI_pw _)
  refine (List.reverse_perm _).trans (((List.perm_ext_iff_of_nodup h.nodup hu).2 fun u => ⟨fun hu' => ?_, hall u⟩).trans (sortI_perm ns))
  obtain ⟨p, hp, rfl⟩ := List.mem_map.1 hu'
  exact h.sub p hp

set_option maxHeartbeats 4000000 in
theorem coreOf_calls (c : Nat) (u : Int) (d : Bool) (an ae : Option Addr) (n cn m ce : Nat) (ns : List Int) (es : List (Int × Int × Int)) (w : World) (hn : RdI w an n ns) (hr : RdE w ae m es) (hn8 : n ≤ 1000) (hw : wellB ns es = true)
    (hc : InCore (sortI ns) (fromL d ns es) c u) (hc' : ¬ InCore (sortI ns) (fromL d ns es) (c + 1) u) (hcb : c ≤ 1000) :
    Calls Try.prog 10 #[.agg #[.bool d, .slice an n cn, .slice ae m ce], .int .i64 u] w fun e w' => e = .returned (.int .i64 c) ∧ Below w.heap.size w w' := by
  have HR := Lib.hid hr; clear hr
  have HN := Lib.hid hn; clear hn
  have HW := Lib.hid hw; have HC := Lib.hid hc; have HC' := Lib.hid hc'
  clear hw hc hc'
  go_enter Try.func10, Try.ntmps10
  go_wp2_with fail
  go_loopw [5] (fun i wr => ∃ k : Nat, k ≤ c ∧ i = .int .i64 k ∧ Hid (LawSt w d an ae n cn m ce wr)) (fun i _ => c + 1 - (intOf i).toNat)
  case atStart => exact ⟨0, by omega, rfl, Lib.hid (LawSt.start w d an ae n cn m ce)⟩
  case round =>
    obtain ⟨k, hk, rfl, HS⟩ := hrel
    have j0 := HS.out.c0; have j1 := HS.out.c1; have j2 := HS.out.c2
    go_wp2_with fail
    refine (peeled_calls ((k : Int) + 1) d an ae n cn m ce ns es wr (HN.out.below HS.out.below (Nat.le_refl _)) (HR.out.below HS.out.below (Nat.le_refl _)) hn8 HW.out).mono ?_
    rintro e w2 ⟨v, l, rfl, ho2, hmem, hll, hb2⟩
    obtain ⟨a2, c2, rfl⟩ := own_shape' ho2
    have HM := Lib.hid (hmem (k + 1) (by omega) u)
    have HS2 := Lib.hid (HS.out.later hb2)
    have HO2 := Lib.hid (rdi_ownK ho2)
    clear j0 j1 j2 ho2 hmem hll hb2 HS
    go_wp2_with fail
    refine (has_calls a2 l.length c2 l u w2 HO2.out).mono ?_
    rintro e w' ⟨rfl, rfl⟩
    have HHB := Lib.hid (hasB_iff l u)
    obtain ⟨b, hb⟩ : ∃ b, hasB l u = b := ⟨_, rfl⟩
    rw [hb] at HHB ⊢
    clear hb
    cases b
    · have hkc : k = c := by
        have h1 : ¬ InCore (sortI ns) (fromL d ns es) (k + 1) u := fun h => by have := HHB.out.2 (HM.out.2 h); cases this
        by_cases hlt : k + 1 ≤ c
        · exact absurd (HC.out.less hlt) h1
        · omega
      subst hkc
      go_wp2_with fail
      go_ret
      exact ⟨rfl, HS2.out.below⟩
    · have hkc : k + 1 ≤ c := by
        have h1 := HM.out.1 (HHB.out.1 rfl)
        by_cases hlt : k + 1 ≤ c
        · exact hlt
        · exact absurd (h1.less (by omega)) HC'.out
      go_wp2_with fail
      go_roundw
      case rel => exact ⟨k + 1, by omega, by go_num, HS2⟩
      case measure => simp [intOf]; omega

theorem one7D {ps : List (Int × Nat)} (h : ps.length = (sortI [7]).length) : ps.length = 1 := by rw [h, sort7D]; rfl
theorem cnt_take {ps : List (Int × Nat)} {f : Int × Nat → Bool} {i : Nat} {q : Int × Nat} (h : ps[i]? = some q) : (ps.take (i + 1)).countP f = (ps.take i).countP f + (if f q = true then 1 else 0) := by
  obtain ⟨hi, e⟩ := List.getElem?_eq_some_iff.1 h
  rw [List.take_succ_eq_append_getElem hi, List.countP_append, e]
  simp [List.countP_cons]
def DgAt (w : World) (an ae : Option Addr) (n cn m ce : Nat) (C : World → Prop) (w' : World) : Prop := LawSt w false an ae n cn m ce w' ∧ C w'

set_option maxHeartbeats 16000000 in
set_option maxRecDepth 200000 in
theorem lawDg_calls (d : Bool) (an ae : Option Addr) (n cn m ce : Nat) (ns : List Int) (es : List (Int × Int × Int)) (w : World) (hn : RdI w an n ns) (hr : RdE w ae m es) (hwf : ∀ x ∈ ns, (Lit.int .i64 x).wf = true) :
    Calls Try.prog 3 #[.agg #[.bool d, .slice an n cn, .slice ae m ce]] w fun e w' => e = .returned (.bool true) ∧ Below w.heap.size w w' := by
  have hsn := hn.small; have hsm := hr.small
  have HR := Lib.hid hr; clear hr
  have HN := Lib.hid hn; clear hn
  have HWF := Lib.hid hwf; clear hwf
  go_enter Try.func3, Try.ntmps3
  go_wp2_with fail
  refine (fits_calls d an ae n cn m ce _ hsn hsm).mono ?_
  rintro e w1 ⟨rfl, hb1⟩
  have HS1 := Lib.hid ((LawSt.start w d an ae n cn m ce).later hb1); clear hb1
  cases hf : decide (n ≤ 2147483647 ∧ m ≤ 2147483647)
  · go_wp2_with fail
    go_ret
    exact ⟨rfl, HS1.out.below⟩
  · clear hf
    have j0 := HS1.out.c0; have j1 := HS1.out.c1; have j2 := HS1.out.c2
    go_wp2_with fail
    refine (fewOf_calls d false an ae n cn m ce 14 ns es _ (by omega) (HN.out.below HS1.out.below (Nat.le_refl _)) (HR.out.below HS1.out.below (Nat.le_refl _))).mono ?_
    rintro e w2 ⟨rfl, hb2⟩
    have HS2 := Lib.hid (HS1.out.later hb2); clear hb2 j0 j1 j2
    have j0 := HS2.out.c0; have j1 := HS2.out.c1; have j2 := HS2.out.c2
    obtain ⟨fb, hfb⟩ : ∃ b, ((d == false) && fewB ns es 14) = b := ⟨_, rfl⟩
    have HFB := Lib.hid hfb
    rw [hfb]
    clear hfb
    cases fb
    · go_wp2_with fail
      go_ret
      exact ⟨rfl, HS2.out.below⟩
    obtain ⟨rfl, hfew⟩ : d = false ∧ fewB ns es 14 = true := by
      have h := HFB.out
      rw [Bool.and_eq_true] at h
      exact ⟨by simpa using h.1, h.2⟩
    obtain ⟨hl14, -, hwell⟩ := fewB_parts hfew
    have hnl : n ≤ 14 := by have := HN.out.len; omega
    have HWELL := Lib.hid hwell
    have HLEN := Lib.hid HN.out.len
    have HSUB : Hid (∀ x ∈ sortI ns, fromL false ns es x = adjU ns es x) := Lib.hid (fun x hx => (adjU_of hx).symm)
    clear hfew hwell HFB hl14
    go_wp2_with fail
    refine (implDeg_calls an ae n cn m ce ns es w2 (HN.out.below HS2.out.below (Nat.le_refl _)) (HR.out.below HS2.out.below (Nat.le_refl _)) (by omega) HWF.out HWELL.out).mono ?_
    rintro e w3 ⟨v, vC, vs, ps, K, rfl, hoO, hlC, hD, hlen, hK, hcov, hb3⟩
    have hpl : ps.length = n := by rw [hlen, sortI_len]; exact HLEN.out
    rw [hpl] at hoO
    have hrC := hlC.row
    rw [show ((List.range (K + 1)).map (coreL ps)).length = K + 1 by simp] at hrC
    obtain ⟨aO, cO, rfl⟩ := own_shape' hoO
    obtain ⟨gC, cC, rfl, hgC1, hgC2, -⟩ := own_form hrC (by omega)
    have hK14 : K ≤ 14 := by rw [sortI_len] at hK; have := HLEN.out; omega
    have HS3 := Lib.hid (HS2.out.later hb3)
    have HO := Lib.hid hoO; have HLC := Lib.hid hlC; have HD := Lib.hid hD; have HCOV := Lib.hid hcov; have HPL := Lib.hid hpl; have HRC := Lib.hid hrC
    have HSRT : Hid (sortI (ps.map (·.1)).reverse = sortI ns) := Lib.hid (hD.sorted hcov ((sort_ltF HWELL.out).imp fun {a b} h => by omega))
    have HR3 : Hid (RdI w3 aO n (ps.map (·.1)).reverse) := Lib.hid (rdi_ownK hoO)
    clear j0 j1 j2 hoO hlC hD hcov hpl hrC hlen hK hb3 HS2
    have j0 := HS3.out.c0; have j1 := HS3.out.c1; have j2 := HS3.out.c2
    go_upto_region 6 with fail
    go_cut [37] (fun c wc => c = .bool false ∧ Hid (LawSt w false an ae n cn m ce wc) ∧ Hid (Below w3.heap.size w3 wc))
    case first =>
      refine wp_region_L (by kernel_rfl) (fun w' => LawSt w false an ae n cn m ce w') [] (HS3.out.later (below_drewN (Below.refl _ _) 1)) (fun hHeld => ?_)
      refine wpAnyL_take (i := 0) (v := ?_) rfl (by kernel_rfl) (by kernel_rfl) (by kernel_rfl) (by kernel_rfl) (fun _ _ _ h => h) (by kernel_rfl) ?_ hHeld ?_
      rotate_left
      · intro w hSw; have hs0 := hSw.c0; have hs1 := hSw.c1; have hs2 := hSw.c2; go_simp; all_goals with_reducible rfl
      simp only [Act.put]
      refine wpAnyL_take (i := 1) (v := ?_) rfl (by kernel_rfl) (by kernel_rfl) (by kernel_rfl) (by kernel_rfl) (fun _ _ _ h => h) (by kernel_rfl) ?_ hHeld ?_
      rotate_left
      · intro w hSw; have hs0 := hSw.c0; have hs1 := hSw.c1; have hs2 := hSw.c2; go_simp; all_goals with_reducible rfl
      simp only [Act.put]
      refine wpAnyL_take (i := 2) (v := ?_) rfl (by kernel_rfl) (by kernel_rfl) (by kernel_rfl) (by kernel_rfl) (fun _ _ _ h => h) (by kernel_rfl) ?_ hHeld ?_
      rotate_left
      · intro w hSw; have hs0 := hSw.c0; have hs1 := hSw.c1; have hs2 := hSw.c2; go_simp; all_goals with_reducible rfl
      simp only [Act.put]
      refine wpAnyL_take (i := 4) (v := ?_) rfl (by kernel_rfl) (by kernel_rfl) (by kernel_rfl) (by kernel_rfl) (fun _ _ _ h => h) (by kernel_rfl) ?_ hHeld ?_
      rotate_left
      · intro w hSw; have hs0 := hSw.c0; have hs1 := hSw.c1; have hs2 := hSw.c2; go_simp; all_goals with_reducible rfl
      simp only [Act.put]
      refine wpAnyL_take (i := 5) (v := ?_) rfl (by kernel_rfl) (by kernel_rfl) (by kernel_rfl) (by kernel_rfl) (fun _ _ _ h => h) (by kernel_rfl) ?_ hHeld ?_
      rotate_left
      · intro w hSw; have hs0 := hSw.c0; have hs1 := hSw.c1; have hs2 := hSw.c2; go_simp; all_goals with_reducible rfl
      simp only [Act.put]
      refine wpAnyL_one (i := 3) rfl (by kernel_rfl) (by kernel_rfl) (fun K hK => ?_)
      go_simp
      refine (sorted_calls aO n cO _ w3.drew (HR3.out.drewN 1) (by omega)).mono ?_
      rintro e w4 ⟨v4, rfl, ho4, hb4⟩
      have hb4 : Below w3.heap.size w3 w4 := ⟨hb4.os, hb4.tape, hb4.output, hb4.size, hb4.block⟩
      obtain ⟨a4, c4, rfl⟩ := own_shape' ho4
      have HS4 := Lib.hid (HS3.out.later hb4)
      have hHeld := HS4.out
      rw [HSRT.out] at ho4
      have HO4 := Lib.hid ho4; have HB4 := Lib.hid hb4
      refine hK.out _ _ (.inr hHeld) ?_
      clear hK K ho4 hb4 j0 j1 j2
      refine wpAnyL_one (i := 6) rfl (by kernel_rfl) (by kernel_rfl) (fun K hK => ?_)
      go_simp
      refine (sorted_calls an n cn ns w4 (HN.out.below HS4.out.below (Nat.le_refl _)) (by omega)).mono ?_
      rintro e w5 ⟨v5, rfl, ho5, hb5⟩
      obtain ⟨a5, c5, rfl⟩ := own_shape' ho5
      have HS5 := Lib.hid (HS4.out.later hb5)
      have hHeld := HS5.out
      have HR5 : Hid (RdI w5 a5 n (sortI ns)) := Lib.hid (rdi_ownK ho5)
      have HR4 : Hid (RdI w5 a4 n (sortI ns)) := Lib.hid (rdi_ownK (ownsRow_of_heap HO4.out (fun g hg => hb5.block g (HO4.out.lt g hg).2)))
      have HB5 := Lib.hid (HB4.out.trans (hb5.mono HB4.out.size))
      refine hK.out _ _ (.inr hHeld) ?_
      clear hK K ho5 hb5 HO4 HB4
      refine wpAnyL_one (i := 7) rfl (by kernel_rfl) (by kernel_rfl) (fun K hK => ?_)
      go_simp
      refine (equalI_calls a4 a5 n c4 c5 (sortI ns) w5 HR4.out HR5.out).mono ?_
      rintro e w6 ⟨rfl, q, hw6⟩
      have HS6 : Hid (LawSt w false an ae n cn m ce w6) := Lib.hid (by rw [hw6]; exact HS5.out.later (below_drewN (Below.refl _ _) q))
      have HB6 : Hid (Below w3.heap.size w3 w6) := Lib.hid (by rw [hw6]; exact below_drewN HB5.out q)
      have hHeld := HS6.out
      refine hK.out _ _ (.inr hHeld) ?_
      clear hK K hw6
      refine wpAnyL_take (i := 8) (v := ?_) rfl (by kernel_rfl) (by kernel_rfl) (by kernel_rfl) (by kernel_rfl) (fun _ _ _ h => h) (by kernel_rfl) ?_ hHeld ?_
      rotate_left
      · intro w hSw; have hs0 := hSw.c0; have hs1 := hSw.c1; have hs2 := hSw.c2; go_simp; all_goals with_reducible rfl
      simp only [Act.put]
      refine wpAnyL_one (i := 9) rfl (by kernel_rfl) (by kernel_rfl) (fun K hK => ?_)
      go_simp
      refine hK.out _ _ (.inr hHeld) ?_
      clear hK K
      refine wpAnyL_done (by kernel_rfl) ?_ _
      go_wp2_with fail
      go_meet
      exact ⟨rfl, HS6, HB6⟩
    case rest =>
      obtain ⟨rfl, HS4, HB4⟩ := hcut
      obtain ⟨w4, rfl⟩ : ∃ w4 : World, w4 = wc := ⟨_, rfl⟩
      clear HS3 HR3 HSRT j0 j1 j2
      go_wp2_with fail
      go_loopw [6, 7] (fun mo i wr => ∃ t mz : Nat, t ≤ n ∧ i = .int .i64 t ∧ mo = .int .i64 mz ∧ Hid (mz = if t = 0 then 0 else K) ∧ Hid (LawSt w false an ae n cn m ce wr) ∧ Hid (Below w3.heap.size w3 wr)) (fun _ i _ => n - (intOf i).toNat)
      case atStart => exact ⟨0, 0, by omega, rfl, rfl, Lib.hid rfl, HS4, HB4⟩
      case round =>
        obtain ⟨t, mz, ht, rfl, rfl, HMZ, HS5, HB5⟩ := hrel
        obtain ⟨wo, rfl⟩ : ∃ wo : World, wo = wr := ⟨_, rfl⟩
        clear HS4 HB4
        by_cases hlt : t < n
        · obtain ⟨q, hq⟩ : ∃ q, ps.reverse[t]? = some q := ⟨_, List.getElem?_eq_getElem (by rw [List.length_reverse, HPL.out]; exact hlt)⟩
          have hqm : q ∈ ps := List.mem_reverse.1 (List.mem_of_getElem? hq)
          have hlev := HD.out.lev q hqm
          have hle := HD.out.le q hqm
          obtain ⟨gO, cO', e, hgO1, hgO2, -⟩ := own_form HO.out (by omega)
          simp only [Value.slice.injEq, true_and] at e
          obtain ⟨rfl, rfl⟩ := e
          have hcO := (own_at HO.out (i := t) (u := .int .i64 q.1) (by rw [← List.map_reverse, List.map_map, List.getElem?_map, hq]; rfl)).1
          have hcO := (HB5.out.cell (p := ⟨gO, t, none⟩) hgO2).trans hcO
          obtain ⟨x, hx⟩ : ∃ x, x = q.1 := ⟨_, rfl⟩
          obtain ⟨c, hc⟩ : ∃ c, c = q.2 := ⟨_, rfl⟩
          rw [← hx, ← hc] at hlev
          rw [← hx] at hcO
          rw [← hc] at hle
          have HQ := Lib.hid hq; have HX := Lib.hid hx; have HCQ := Lib.hid hc
          have HCO : Hid (Calls Try.prog 10 #[.agg #[.bool false, .slice an n cn, .slice ae m ce], .int .i64 x] wo.drew fun e w' => e = .returned (.int .i64 c) ∧ Below wo.heap.size wo w') := Lib.hid
            ((coreOf_calls c x false an ae n cn m ce ns es wo.drew (HN.out.below HS5.out.below (Nat.le_refl _)|>.drewN 1) (HR.out.below HS5.out.below (Nat.le_refl _)|>.drewN 1) (by omega) HWELL.out (hlev.1.congr HSUB.out) (fun h => hlev.2 (h.congr (fun y hy => (HSUB.out y hy).symm))) (by omega)).mono fun e w' ⟨h1, h2⟩ => ⟨h1, h2.os, h2.tape, h2.output, h2.size, h2.block⟩)
          clear hqm hlev hq hx hc
          go_upto_region 12 with fail
          refine wp_region_L (by kernel_rfl) (fun w' => LawSt w false an ae n cn m ce w' ∧ w'.cell? ⟨gO, t, none⟩ = some (.int .i64 x)) [6] ⟨HS5.out.later (below_drewN (Below.refl _ _) 1), hcO⟩ (fun hHeld => ?_)
          refine wpAnyL_take (i := 0) (v := ?_) rfl (by kernel_rfl) (by kernel_rfl) (by kernel_rfl) (by kernel_rfl) (fun _ _ _ h => h) (by kernel_rfl) ?_ hHeld ?_
          rotate_left
          · intro w hSw; obtain ⟨hSw, hs3⟩ := hSw; have hs0 := hSw.c0; have hs1 := hSw.c1; have hs2 := hSw.c2; go_simp; all_goals with_reducible rfl
          simp only [Act.put]
          refine wpAnyL_take (i := 1) (v := ?_) rfl (by kernel_rfl) (by kernel_rfl) (by kernel_rfl) (by kernel_rfl) (fun _ _ _ h => h) (by kernel_rfl) ?_ hHeld ?_
          rotate_left
          · intro w hSw; obtain ⟨hSw, hs3⟩ := hSw; have hs0 := hSw.c0; have hs1 := hSw.c1; have hs2 := hSw.c2; go_simp; all_goals with_reducible rfl
          simp only [Act.put]
          refine wpAnyL_take (i := 2) (v := ?_) rfl (by kernel_rfl) (by kernel_rfl) (by kernel_rfl) (by kernel_rfl) (fun _ _ _ h => h) (by kernel_rfl) ?_ hHeld ?_
          rotate_left
          · intro w hSw; obtain ⟨hSw, hs3⟩ := hSw; have hs0 := hSw.c0; have hs1 := hSw.c1; have hs2 := hSw.c2; go_simp; all_goals with_reducible rfl
          simp only [Act.put]
          refine wpAnyL_take (i := 3) (v := ?_) rfl (by kernel_rfl) (by kernel_rfl) (by kernel_rfl) (by kernel_rfl) (fun _ _ _ h => h) (by kernel_rfl) ?_ hHeld ?_
          rotate_left
          · intro w hSw; obtain ⟨hSw, hs3⟩ := hSw; have hs0 := hSw.c0; have hs1 := hSw.c1; have hs2 := hSw.c2; go_simp; all_goals with_reducible rfl
          simp only [Act.put]
          refine wpAnyL_take (i := 4) (v := ?_) rfl (by kernel_rfl) (by kernel_rfl) (by kernel_rfl) (by kernel_rfl) (fun _ _ _ h => h) (by kernel_rfl) ?_ hHeld ?_
          rotate_left
          · intro w hSw; obtain ⟨hSw, hs3⟩ := hSw; have hs0 := hSw.c0; have hs1 := hSw.c1; have hs2 := hSw.c2; go_simp; all_goals with_reducible rfl
          simp only [Act.put]
          refine wpAnyL_one (i := 5) rfl (by kernel_rfl) (by kernel_rfl) (fun K hK => ?_)
          go_simp
          refine HCO.out.mono ?_
          rintro e w5 ⟨rfl, hb5⟩
          have HS6 := Lib.hid (HS5.out.later hb5)
          have HB6 := Lib.hid (HB5.out.trans (hb5.mono HB5.out.size))
          have hHeld : (fun w' : World => LawSt w false an ae n cn m ce w' ∧ w'.cell? ⟨gO, t, none⟩ = some (.int .i64 x)) w5 := ⟨HS6.out, (hb5.cell (p := ⟨gO, t, none⟩) (show gO < wo.heap.size by have := HB5.out.size; omega)).trans hcO⟩
          refine hK.out _ _ (.inr hHeld) ?_
          clear hK K hb5 HCO hHeld
          refine wpAnyL_one (i := 6) rfl (by kernel_rfl) (by kernel_rfl) (fun K hK => ?_)
          go_simp
          refine hK.out _ _ (.inl (by decide)) ?_
          clear hK K
          refine wpAnyL_done (by kernel_rfl) ?_ _
          have hmz : mz ≤ 14 := by rw [HMZ.out]; split <;> omega
          have hmx : max (mz : Int) (c : Int) = (K : Int) := by
            have h1 := HMZ.out
            by_cases h0 : t = 0
            · rw [if_pos h0] at h1
              have hq0 := HQ.out
              rw [h0] at hq0
              have := HD.out.head hq0
              have := HCQ.out
              omega
            · rw [if_neg h0] at h1
              omega
          clear HMZ
          go_wp2_with fail
          clear hmx
          go_loopw [9, 10] (fun ah ix wx => ∃ (i ci : Nat), i ≤ t ∧ ix = .int .i64 i ∧ ah = .int .i64 ci ∧ Hid (ci = (ps.reverse.take i).countP (fun p => arcB false es p.1 x)) ∧ ci ≤ i ∧ Hid (LawSt w false an ae n cn m ce wx) ∧ Hid (Below w3.heap.size w3 wx)) (fun _ ix _ => t - (intOf ix).toNat)
          case atStart => exact ⟨0, 0, by omega, rfl, rfl, Lib.hid (by simp), by omega, HS6, HB6⟩
          case round =>
            obtain ⟨i, ci, hi, rfl, rfl, HCI, hci, HS7, HB7⟩ := hrel
            clear HS6 HB6
            obtain ⟨wz, rfl⟩ : ∃ wz : World, wz = wr := ⟨_, rfl⟩
            by_cases hit : i < t
            · obtain ⟨r, hr⟩ : ∃ r, ps.reverse[i]? = some r := ⟨_, List.getElem?_eq_getElem (by rw [List.length_reverse, HPL.out]; omega)⟩
              have hcy := (own_at HO.out (i := i) (u := .int .i64 r.1) (by rw [← List.map_reverse, List.map_map, List.getElem?_map, hr]; rfl)).1
              have hcy := (HB7.out.cell (p := ⟨gO, i, none⟩) hgO2).trans hcy
              have hcx := (own_at HO.out (i := t) (u := .int .i64 q.1) (by rw [← List.map_reverse, List.map_map, List.getElem?_map, HQ.out]; rfl)).1
              have hcx := (HB7.out.cell (p := ⟨gO, t, none⟩) hgO2).trans hcx
              rw [← HX.out] at hcx
              obtain ⟨y, hy⟩ : ∃ y, y = r.1 := ⟨_, rfl⟩
              rw [← hy] at hcy
              have HCN := Lib.hid (cnt_take (f := fun p => arcB false es p.1 x) hr)
              have HY := Lib.hid hy
              have HARC := Lib.hid (arc_calls false an ae n cn m ce es y x wz.drew ((HR.out.below HS7.out.below (Nat.le_refl _)).drewN 1))
              obtain ⟨bb, hbb⟩ : ∃ bb, arcB false es y x = bb := ⟨_, rfl⟩
              rw [hbb] at HARC
              have HBB := Lib.hid hbb
              have hin : i < n := by omega
              clear hr hy hbb
              by_cases hb : bb = true
              all_goals
                first
                  | obtain rfl : bb = true := hb
                  | obtain rfl : bb = false := by simpa using hb
                go_upto_region 18 with fail
                refine wp_region_L (by kernel_rfl) (fun w' => LawSt w false an ae n cn m ce w' ∧ w'.cell? ⟨gO, i, none⟩ = some (.int .i64 y) ∧ w'.cell? ⟨gO, t, none⟩ = some (.int .i64 x)) [] ⟨HS7.out.later (below_drewN (Below.refl _ _) 1), hcy, hcx⟩ (fun hHeld => ?_)
                refine wpAnyL_take (i := 0) (v := ?_) rfl (by kernel_rfl) (by kernel_rfl) (by kernel_rfl) (by kernel_rfl) (fun _ _ _ h => h) (by kernel_rfl) ?_ hHeld ?_
                rotate_left
                · intro w hSw; obtain ⟨hSw, hs3, hs4⟩ := hSw; have hs0 := hSw.c0; have hs1 := hSw.c1; have hs2 := hSw.c2; go_simp; all_goals with_reducible rfl
                simp only [Act.put]
                refine wpAnyL_take (i := 1) (v := ?_) rfl (by kernel_rfl) (by kernel_rfl) (by kernel_rfl) (by kernel_rfl) (fun _ _ _ h => h) (by kernel_rfl) ?_ hHeld ?_
                rotate_left
                · intro w hSw; obtain ⟨hSw, hs3, hs4⟩ := hSw; have hs0 := hSw.c0; have hs1 := hSw.c1; have hs2 := hSw.c2; go_simp; all_goals with_reducible rfl
                simp only [Act.put]
                refine wpAnyL_take (i := 2) (v := ?_) rfl (by kernel_rfl) (by kernel_rfl) (by kernel_rfl) (by kernel_rfl) (fun _ _ _ h => h) (by kernel_rfl) ?_ hHeld ?_
                rotate_left
                · intro w hSw; obtain ⟨hSw, hs3, hs4⟩ := hSw; have hs0 := hSw.c0; have hs1 := hSw.c1; have hs2 := hSw.c2; go_simp; all_goals with_reducible rfl
                simp only [Act.put]
                refine wpAnyL_take (i := 3) (v := ?_) rfl (by kernel_rfl) (by kernel_rfl) (by kernel_rfl) (by kernel_rfl) (fun _ _ _ h => h) (by kernel_rfl) ?_ hHeld ?_
                rotate_left
                · intro w hSw; obtain ⟨hSw, hs3, hs4⟩ := hSw; have hs0 := hSw.c0; have hs1 := hSw.c1; have hs2 := hSw.c2; go_simp; all_goals with_reducible rfl
                simp only [Act.put]
                refine wpAnyL_take (i := 4) (v := ?_) rfl (by kernel_rfl) (by kernel_rfl) (by kernel_rfl) (by kernel_rfl) (fun _ _ _ h => h) (by kernel_rfl) ?_ hHeld ?_
                rotate_left
                · intro w hSw; obtain ⟨hSw, hs3, hs4⟩ := hSw; have hs0 := hSw.c0; have hs1 := hSw.c1; have hs2 := hSw.c2; go_simp; all_goals with_reducible rfl
                simp only [Act.put]
                refine wpAnyL_take (i := 5) (v := ?_) rfl (by kernel_rfl) (by kernel_rfl) (by kernel_rfl) (by kernel_rfl) (fun _ _ _ h => h) (by kernel_rfl) ?_ hHeld ?_
                rotate_left
                · intro w hSw; obtain ⟨hSw, hs3, hs4⟩ := hSw; have hs0 := hSw.c0; have hs1 := hSw.c1; have hs2 := hSw.c2; go_simp; all_goals with_reducible rfl
                simp only [Act.put]
                refine wpAnyL_take (i := 6) (v := ?_) rfl (by kernel_rfl) (by kernel_rfl) (by kernel_rfl) (by kernel_rfl) (fun _ _ _ h => h) (by kernel_rfl) ?_ hHeld ?_
                rotate_left
                · intro w hSw; obtain ⟨hSw, hs3, hs4⟩ := hSw; have hs0 := hSw.c0; have hs1 := hSw.c1; have hs2 := hSw.c2; go_simp; all_goals with_reducible rfl
                simp only [Act.put]
                refine wpAnyL_take (i := 7) (v := ?_) rfl (by kernel_rfl) (by kernel_rfl) (by kernel_rfl) (by kernel_rfl) (fun _ _ _ h => h) (by kernel_rfl) ?_ hHeld ?_
                rotate_left
                · intro w hSw; obtain ⟨hSw, hs3, hs4⟩ := hSw; have hs0 := hSw.c0; have hs1 := hSw.c1; have hs2 := hSw.c2; go_simp; all_goals with_reducible rfl
                simp only [Act.put]
                refine wpAnyL_take (i := 8) (v := ?_) rfl (by kernel_rfl) (by kernel_rfl) (by kernel_rfl) (by kernel_rfl) (fun _ _ _ h => h) (by kernel_rfl) ?_ hHeld ?_
                rotate_left
                · intro w hSw; obtain ⟨hSw, hs3, hs4⟩ := hSw; have hs0 := hSw.c0; have hs1 := hSw.c1; have hs2 := hSw.c2; go_simp; all_goals with_reducible rfl
                simp only [Act.put]
                refine wpAnyL_one (i := 9) rfl (by kernel_rfl) (by kernel_rfl) (fun K hK => ?_)
                go_simp
                refine HARC.out.mono ?_
                rintro e w8 ⟨rfl, hb8⟩
                have hb8 : Below wz.heap.size wz w8 := ⟨hb8.os, hb8.tape, hb8.output, hb8.size, hb8.block⟩
                have HS8 := Lib.hid (HS7.out.later hb8)
                have HB8 := Lib.hid (HB7.out.trans (hb8.mono HB7.out.size))
                have hgz : gO < wz.heap.size := by have := HB7.out.size; omega
                have hHeld : (fun w' : World => LawSt w false an ae n cn m ce w' ∧ w'.cell? ⟨gO, i, none⟩ = some (.int .i64 y) ∧ w'.cell? ⟨gO, t, none⟩ = some (.int .i64 x)) w8 := ⟨HS8.out, (hb8.cell (p := ⟨gO, i, none⟩) hgz).trans hcy, (hb8.cell (p := ⟨gO, t, none⟩) hgz).trans hcx⟩
                refine hK.out _ _ (.inr hHeld) ?_
                clear hK K hHeld hb8 hcy hcx
                refine wpAnyL_done (by kernel_rfl) ?_ _
                go_wp2_with fail
                go_roundw
                case rel =>
                  have e := HCN.out
                  simp only [← HY.out, HBB.out] at e
                  rw [← HCI.out] at e
                  first
                    | exact ⟨i + 1, ci + 1, by omega, by go_num, by go_num, Lib.hid (by rw [e]; simp), by omega, HS8, HB8⟩
                    | exact ⟨i + 1, ci, by omega, by go_num, rfl, Lib.hid (by rw [e]; simp), by omega, HS8, HB8⟩
                case measure => simp [intOf]; omega
            · obtain rfl : i = t := by omega
              have hah : ci ≤ c := by
                have h := HD.out.ahead HQ.out
                rw [← HX.out, ← HCQ.out] at h
                rw [HCI.out]; exact h
              have hct : c < K + 1 := by omega
              obtain ⟨u, hu⟩ : ∃ u, vs[c]? = some u := ⟨_, List.getElem?_eq_getElem (by have := HLC.out.len; simp at this; omega)⟩
              have hrw := HLC.out.rows c u (coreL ps c) hu (by simp [hct])
              obtain ⟨au, cu, rfl⟩ := own_shape' hrw
              obtain ⟨lu, hlu⟩ : ∃ lu, lu = (coreL ps c).length := ⟨_, rfl⟩
              rw [← hlu] at hrw hu
              have hcu := (HB7.out.cell (p := ⟨gC, c, none⟩) hgC2).trans (own_at HRC.out hu).1
              have hcx := (own_at HO.out (i := i) (u := .int .i64 q.1) (by rw [← List.map_reverse, List.map_map, List.getElem?_map, HQ.out]; rfl)).1
              have hcx := (HB7.out.cell (p := ⟨gO, i, none⟩) hgO2).trans hcx
              rw [← HX.out] at hcx
              have hhas : hasB (coreL ps c) x = true := (hasB_iff _ _).2 (mem_coreL.2 (by rw [HX.out, HCQ.out]; exact List.mem_reverse.1 (List.mem_of_getElem? HQ.out)))
              have HRU : Hid (RdI w3 au lu (coreL ps c)) := Lib.hid (rdi_ownK hrw)
              have hg1 : decide ((c : Int) < (ci : Int)) = false := by rw [decide_eq_false_iff_not]; omega
              have hg2 : decide ((K : Int) + 1 ≤ (c : Int)) = false := by rw [decide_eq_false_iff_not]; omega
              have hg3 : IntKind.i64.wrap ((K : Int) + 1 - 1) = (K : Int) := by rw [IntKind.wrap_i64]; omega
              have hg4 : max (K : Int) 0 = (K : Int) := by omega
              have hg5 : min (c : Int) (K : Int) = (c : Int) := by omega
              have hn1 : decide (c < ci) = false := by rw [decide_eq_false_iff_not]; omega
              have hn2 : decide (K + 1 ≤ c) = false := by rw [decide_eq_false_iff_not]; omega
              have hn3 : IntKind.i64.wrap (K : Int) = (K : Int) := by rw [IntKind.wrap_i64]; omega
              have hct2 : (c : Int) < (K : Int) + 1 := by omega
              have hn4 : decide (K < c) = false := by rw [decide_eq_false_iff_not]; omega
              have HHAS := Lib.hid hhas
              clear hu hrw hlu hhas HCI hah hci hit
              have hin : i < n := hlt
              by_cases h0 : i = 0
              · have hg6 : decide ((0 : Int) < (i : Int)) = false := by rw [decide_eq_false_iff_not]; omega
                have hn6 : decide (0 < i) = false := by rw [decide_eq_false_iff_not]; omega
                clear h0
                have hH := has_calls au lu cu (coreL ps c) x wz.drew ((HRU.out.below HB7.out (Nat.le_refl _)).drewN 1)
                rw [HHAS.out] at hH
                have HH := Lib.hid hH
                clear hH
                go_upto_region 20 with fail
                refine wp_region_L (by kernel_rfl) (fun w' => LawSt w false an ae n cn m ce w' ∧ w'.cell? ⟨gC, c, none⟩ = some (.slice au lu cu) ∧ w'.cell? ⟨gO, i, none⟩ = some (.int .i64 x)) [] ⟨HS7.out.later (below_drewN (Below.refl _ _) 1), hcu, hcx⟩ (fun hHeld => ?_)
                refine wpAnyL_take (i := 0) (v := ?_) rfl (by kernel_rfl) (by kernel_rfl) (by kernel_rfl) (by kernel_rfl) (fun _ _ _ h => h) (by kernel_rfl) ?_ hHeld ?_
                rotate_left
                · intro w hSw; obtain ⟨hSw, hs3, hs4⟩ := hSw; have hs0 := hSw.c0; have hs1 := hSw.c1; have hs2 := hSw.c2; go_simp; all_goals with_reducible rfl
                simp only [Act.put]
                refine wpAnyL_take (i := 1) (v := ?_) rfl (by kernel_rfl) (by kernel_rfl) (by kernel_rfl) (by kernel_rfl) (fun _ _ _ h => h) (by kernel_rfl) ?_ hHeld ?_
                rotate_left
                · intro w hSw; obtain ⟨hSw, hs3, hs4⟩ := hSw; have hs0 := hSw.c0; have hs1 := hSw.c1; have hs2 := hSw.c2; go_simp; all_goals with_reducible rfl
                simp only [Act.put]
                refine wpAnyL_take (i := 2) (v := ?_) rfl (by kernel_rfl) (by kernel_rfl) (by kernel_rfl) (by kernel_rfl) (fun _ _ _ h => h) (by kernel_rfl) ?_ hHeld ?_
                rotate_left
                · intro w hSw; obtain ⟨hSw, hs3, hs4⟩ := hSw; have hs0 := hSw.c0; have hs1 := hSw.c1; have hs2 := hSw.c2; go_simp; all_goals with_reducible rfl
                simp only [Act.put]
                refine wpAnyL_take (i := 3) (v := ?_) rfl (by kernel_rfl) (by kernel_rfl) (by kernel_rfl) (by kernel_rfl) (fun _ _ _ h => h) (by kernel_rfl) ?_ hHeld ?_
                rotate_left
                · intro w hSw; obtain ⟨hSw, hs3, hs4⟩ := hSw; have hs0 := hSw.c0; have hs1 := hSw.c1; have hs2 := hSw.c2; go_simp; all_goals with_reducible rfl
                simp only [Act.put]
                refine wpAnyL_take (i := 4) (v := ?_) rfl (by kernel_rfl) (by kernel_rfl) (by kernel_rfl) (by kernel_rfl) (fun _ _ _ h => h) (by kernel_rfl) ?_ hHeld ?_
                rotate_left
                · intro w hSw; obtain ⟨hSw, hs3, hs4⟩ := hSw; have hs0 := hSw.c0; have hs1 := hSw.c1; have hs2 := hSw.c2; go_simp; all_goals with_reducible rfl
                simp only [Act.put]
                refine wpAnyL_take (i := 5) (v := ?_) rfl (by kernel_rfl) (by kernel_rfl) (by kernel_rfl) (by kernel_rfl) (fun _ _ _ h => h) (by kernel_rfl) ?_ hHeld ?_
                rotate_left
                · intro w hSw; obtain ⟨hSw, hs3, hs4⟩ := hSw; have hs0 := hSw.c0; have hs1 := hSw.c1; have hs2 := hSw.c2; go_simp; all_goals with_reducible rfl
                simp only [Act.put]
                refine wpAnyL_take (i := 6) (v := ?_) rfl (by kernel_rfl) (by kernel_rfl) (by kernel_rfl) (by kernel_rfl) (fun _ _ _ h => h) (by kernel_rfl) ?_ hHeld ?_
                rotate_left
                · intro w hSw; obtain ⟨hSw, hs3, hs4⟩ := hSw; have hs0 := hSw.c0; have hs1 := hSw.c1; have hs2 := hSw.c2; go_simp; all_goals with_reducible rfl
                simp only [Act.put]
                refine wpAnyL_skip (i := 7) rfl (by kernel_rfl) (by kernel_rfl) (by kernel_rfl) (by kernel_rfl) (fun _ _ _ h => h) (by kernel_rfl) hHeld ?_
                simp only [Act.put]
                refine wpAnyL_skip (i := 8) rfl (by kernel_rfl) (by kernel_rfl) (by kernel_rfl) (by kernel_rfl) (fun _ _ _ h => h) (by kernel_rfl) hHeld ?_
                simp only [Act.put]
                refine wpAnyL_skip (i := 9) rfl (by kernel_rfl) (by kernel_rfl) (by kernel_rfl) (by kernel_rfl) (fun _ _ _ h => h) (by kernel_rfl) hHeld ?_
                simp only [Act.put]
                refine wpAnyL_skip (i := 10) rfl (by kernel_rfl) (by kernel_rfl) (by kernel_rfl) (by kernel_rfl) (fun _ _ _ h => h) (by kernel_rfl) hHeld ?_
                simp only [Act.put]
                refine wpAnyL_skip (i := 11) rfl (by kernel_rfl) (by kernel_rfl) (by kernel_rfl) (by kernel_rfl) (fun _ _ _ h => h) (by kernel_rfl) hHeld ?_
                simp only [Act.put]
                refine wpAnyL_skip (i := 12) rfl (by kernel_rfl) (by kernel_rfl) (by kernel_rfl) (by kernel_rfl) (fun _ _ _ h => h) (by kernel_rfl) hHeld ?_
                simp only [Act.put]
                refine wpAnyL_skip (i := 13) rfl (by kernel_rfl) (by kernel_rfl) (by kernel_rfl) (by kernel_rfl) (fun _ _ _ h => h) (by kernel_rfl) hHeld ?_
                simp only [Act.put]
                refine wpAnyL_skip (i := 14) rfl (by kernel_rfl) (by kernel_rfl) (by kernel_rfl) (by kernel_rfl) (fun _ _ _ h => h) (by kernel_rfl) hHeld ?_
                simp only [Act.put]
                refine wpAnyL_skip (i := 15) rfl (by kernel_rfl) (by kernel_rfl) (by kernel_rfl) (by kernel_rfl) (fun _ _ _ h => h) (by kernel_rfl) hHeld ?_
                simp only [Act.put]
                refine wpAnyL_take (i := 16) (v := ?_) rfl (by kernel_rfl) (by kernel_rfl) (by kernel_rfl) (by kernel_rfl) (fun _ _ _ h => h) (by kernel_rfl) ?_ hHeld ?_
                rotate_left
                · intro w hSw; obtain ⟨hSw, hs3, hs4⟩ := hSw; have hs0 := hSw.c0; have hs1 := hSw.c1; have hs2 := hSw.c2; go_simp; all_goals with_reducible rfl
                simp only [Act.put]
                refine wpAnyL_take (i := 17) (v := ?_) rfl (by kernel_rfl) (by kernel_rfl) (by kernel_rfl) (by kernel_rfl) (fun _ _ _ h => h) (by kernel_rfl) ?_ hHeld ?_
                rotate_left
                · intro w hSw; obtain ⟨hSw, hs3, hs4⟩ := hSw; have hs0 := hSw.c0; have hs1 := hSw.c1; have hs2 := hSw.c2; go_simp; all_goals with_reducible rfl
                simp only [Act.put]
                refine wpAnyL_take (i := 18) (v := ?_) rfl (by kernel_rfl) (by kernel_rfl) (by kernel_rfl) (by kernel_rfl) (fun _ _ _ h => h) (by kernel_rfl) ?_ hHeld ?_
                rotate_left
                · intro w hSw; obtain ⟨hSw, hs3, hs4⟩ := hSw; have hs0 := hSw.c0; have hs1 := hSw.c1; have hs2 := hSw.c2; go_simp; all_goals with_reducible rfl
                simp only [Act.put]
                refine wpAnyL_take (i := 19) (v := ?_) rfl (by kernel_rfl) (by kernel_rfl) (by kernel_rfl) (by kernel_rfl) (fun _ _ _ h => h) (by kernel_rfl) ?_ hHeld ?_
                rotate_left
                · intro w hSw; obtain ⟨hSw, hs3, hs4⟩ := hSw; have hs0 := hSw.c0; have hs1 := hSw.c1; have hs2 := hSw.c2; go_simp; all_goals with_reducible rfl
                simp only [Act.put]
                refine wpAnyL_take (i := 20) (v := ?_) rfl (by kernel_rfl) (by kernel_rfl) (by kernel_rfl) (by kernel_rfl) (fun _ _ _ h => h) (by kernel_rfl) ?_ hHeld ?_
                rotate_left
                · intro w hSw; obtain ⟨hSw, hs3, hs4⟩ := hSw; have hs0 := hSw.c0; have hs1 := hSw.c1; have hs2 := hSw.c2; go_simp; all_goals with_reducible rfl
                simp only [Act.put]
                refine wpAnyL_take (i := 21) (v := ?_) rfl (by kernel_rfl) (by kernel_rfl) (by kernel_rfl) (by kernel_rfl) (fun _ _ _ h => h) (by kernel_rfl) ?_ hHeld ?_
                rotate_left
                · intro w hSw; obtain ⟨hSw, hs3, hs4⟩ := hSw; have hs0 := hSw.c0; have hs1 := hSw.c1; have hs2 := hSw.c2; go_simp; all_goals with_reducible rfl
                simp only [Act.put]
                refine wpAnyL_take (i := 22) (v := ?_) rfl (by kernel_rfl) (by kernel_rfl) (by kernel_rfl) (by kernel_rfl) (fun _ _ _ h => h) (by kernel_rfl) ?_ hHeld ?_
                rotate_left
                · intro w hSw; obtain ⟨hSw, hs3, hs4⟩ := hSw; have hs0 := hSw.c0; have hs1 := hSw.c1; have hs2 := hSw.c2; go_simp; all_goals with_reducible rfl
                simp only [Act.put]
                refine wpAnyL_take (i := 23) (v := ?_) rfl (by kernel_rfl) (by kernel_rfl) (by kernel_rfl) (by kernel_rfl) (fun _ _ _ h => h) (by kernel_rfl) ?_ hHeld ?_
                rotate_left
                · intro w hSw; obtain ⟨hSw, hs3, hs4⟩ := hSw; have hs0 := hSw.c0; have hs1 := hSw.c1; have hs2 := hSw.c2; go_simp; all_goals with_reducible rfl
                simp only [Act.put]
                refine wpAnyL_take (i := 24) (v := ?_) rfl (by kernel_rfl) (by kernel_rfl) (by kernel_rfl) (by kernel_rfl) (fun _ _ _ h => h) (by kernel_rfl) ?_ hHeld ?_
                rotate_left
                · intro w hSw; obtain ⟨hSw, hs3, hs4⟩ := hSw; have hs0 := hSw.c0; have hs1 := hSw.c1; have hs2 := hSw.c2; go_simp; all_goals with_reducible rfl
                simp only [Act.put]
                refine wpAnyL_take (i := 25) (v := ?_) rfl (by kernel_rfl) (by kernel_rfl) (by kernel_rfl) (by kernel_rfl) (fun _ _ _ h => h) (by kernel_rfl) ?_ hHeld ?_
                rotate_left
                · intro w hSw; obtain ⟨hSw, hs3, hs4⟩ := hSw; have hs0 := hSw.c0; have hs1 := hSw.c1; have hs2 := hSw.c2; go_simp; all_goals with_reducible rfl
                simp only [Act.put]
                refine wpAnyL_take (i := 26) (v := ?_) rfl (by kernel_rfl) (by kernel_rfl) (by kernel_rfl) (by kernel_rfl) (fun _ _ _ h => h) (by kernel_rfl) ?_ hHeld ?_
                rotate_left
                · intro w hSw; obtain ⟨hSw, hs3, hs4⟩ := hSw; have hs0 := hSw.c0; have hs1 := hSw.c1; have hs2 := hSw.c2; go_simp; all_goals with_reducible rfl
                simp only [Act.put]
                refine wpAnyL_take (i := 27) (v := ?_) rfl (by kernel_rfl) (by kernel_rfl) (by kernel_rfl) (by kernel_rfl) (fun _ _ _ h => h) (by kernel_rfl) ?_ hHeld ?_
                rotate_left
                · intro w hSw; obtain ⟨hSw, hs3, hs4⟩ := hSw; have hs0 := hSw.c0; have hs1 := hSw.c1; have hs2 := hSw.c2; go_simp; all_goals with_reducible rfl
                simp only [Act.put]
                refine wpAnyL_take (i := 28) (v := ?_) rfl (by kernel_rfl) (by kernel_rfl) (by kernel_rfl) (by kernel_rfl) (fun _ _ _ h => h) (by kernel_rfl) ?_ hHeld ?_
                rotate_left
                · intro w hSw; obtain ⟨hSw, hs3, hs4⟩ := hSw; have hs0 := hSw.c0; have hs1 := hSw.c1; have hs2 := hSw.c2; go_simp; all_goals with_reducible rfl
                simp only [Act.put]
                refine wpAnyL_take (i := 29) (v := ?_) rfl (by kernel_rfl) (by kernel_rfl) (by kernel_rfl) (by kernel_rfl) (fun _ _ _ h => h) (by kernel_rfl) ?_ hHeld ?_
                rotate_left
                · intro w hSw; obtain ⟨hSw, hs3, hs4⟩ := hSw; have hs0 := hSw.c0; have hs1 := hSw.c1; have hs2 := hSw.c2; go_simp; all_goals with_reducible rfl
                simp only [Act.put]
                refine wpAnyL_take (i := 30) (v := ?_) rfl (by kernel_rfl) (by kernel_rfl) (by kernel_rfl) (by kernel_rfl) (fun _ _ _ h => h) (by kernel_rfl) ?_ hHeld ?_
                rotate_left
                · intro w hSw; obtain ⟨hSw, hs3, hs4⟩ := hSw; have hs0 := hSw.c0; have hs1 := hSw.c1; have hs2 := hSw.c2; go_simp; all_goals with_reducible rfl
                simp only [Act.put]
                refine wpAnyL_take (i := 31) (v := ?_) rfl (by kernel_rfl) (by kernel_rfl) (by kernel_rfl) (by kernel_rfl) (fun _ _ _ h => h) (by kernel_rfl) ?_ hHeld ?_
                rotate_left
                · intro w hSw; obtain ⟨hSw, hs3, hs4⟩ := hSw; have hs0 := hSw.c0; have hs1 := hSw.c1; have hs2 := hSw.c2; go_simp; all_goals with_reducible rfl
                simp only [Act.put]
                refine wpAnyL_take (i := 32) (v := ?_) rfl (by kernel_rfl) (by kernel_rfl) (by kernel_rfl) (by kernel_rfl) (fun _ _ _ h => h) (by kernel_rfl) ?_ hHeld ?_
                rotate_left
                · intro w hSw; obtain ⟨hSw, hs3, hs4⟩ := hSw; have hs0 := hSw.c0; have hs1 := hSw.c1; have hs2 := hSw.c2; go_simp; all_goals with_reducible rfl
                simp only [Act.put]
                refine wpAnyL_take (i := 33) (v := ?_) rfl (by kernel_rfl) (by kernel_rfl) (by kernel_rfl) (by kernel_rfl) (fun _ _ _ h => h) (by kernel_rfl) ?_ hHeld ?_
                rotate_left
                · intro w hSw; obtain ⟨hSw, hs3, hs4⟩ := hSw; have hs0 := hSw.c0; have hs1 := hSw.c1; have hs2 := hSw.c2; go_simp; all_goals with_reducible rfl
                simp only [Act.put]
                refine wpAnyL_take (i := 34) (v := ?_) rfl (by kernel_rfl) (by kernel_rfl) (by kernel_rfl) (by kernel_rfl) (fun _ _ _ h => h) (by kernel_rfl) ?_ hHeld ?_
                rotate_left
                · intro w hSw; obtain ⟨hSw, hs3, hs4⟩ := hSw; have hs0 := hSw.c0; have hs1 := hSw.c1; have hs2 := hSw.c2; go_simp; all_goals with_reducible rfl
                simp only [Act.put]
                refine wpAnyL_take (i := 35) (v := ?_) rfl (by kernel_rfl) (by kernel_rfl) (by kernel_rfl) (by kernel_rfl) (fun _ _ _ h => h) (by kernel_rfl) ?_ hHeld ?_
                rotate_left
                · intro w hSw; obtain ⟨hSw, hs3, hs4⟩ := hSw; have hs0 := hSw.c0; have hs1 := hSw.c1; have hs2 := hSw.c2; go_simp; all_goals with_reducible rfl
                simp only [Act.put]
                refine wpAnyL_take (i := 36) (v := ?_) rfl (by kernel_rfl) (by kernel_rfl) (by kernel_rfl) (by kernel_rfl) (fun _ _ _ h => h) (by kernel_rfl) ?_ hHeld ?_
                rotate_left
                · intro w hSw; obtain ⟨hSw, hs3, hs4⟩ := hSw; have hs0 := hSw.c0; have hs1 := hSw.c1; have hs2 := hSw.c2; go_simp; all_goals with_reducible rfl
                simp only [Act.put]
                refine wpAnyL_take (i := 37) (v := ?_) rfl (by kernel_rfl) (by kernel_rfl) (by kernel_rfl) (by kernel_rfl) (fun _ _ _ h => h) (by kernel_rfl) ?_ hHeld ?_
                rotate_left
                · intro w hSw; obtain ⟨hSw, hs3, hs4⟩ := hSw; have hs0 := hSw.c0; have hs1 := hSw.c1; have hs2 := hSw.c2; go_simp; all_goals with_reducible rfl
                simp only [Act.put]
                refine wpAnyL_one (i := 38) rfl (by kernel_rfl) (by kernel_rfl) (fun K hK => ?_)
                go_simp
                refine HH.out.mono ?_
                rintro e w' ⟨rfl, rfl⟩
                refine hK.out _ _ (.inr hHeld) ?_
                clear hK K
                refine wpAnyL_take (i := 39) (v := ?_) rfl (by kernel_rfl) (by kernel_rfl) (by kernel_rfl) (by kernel_rfl) (fun _ _ _ h => h) (by kernel_rfl) ?_ hHeld ?_
                rotate_left
                · intro w hSw; obtain ⟨hSw, hs3, hs4⟩ := hSw; have hs0 := hSw.c0; have hs1 := hSw.c1; have hs2 := hSw.c2; go_simp; all_goals with_reducible rfl
                simp only [Act.put]
                refine wpAnyL_one (i := 40) rfl (by kernel_rfl) (by kernel_rfl) (fun K hK => ?_)
                go_simp
                refine hK.out _ _ (.inr hHeld) ?_
                clear hK K hHeld
                refine wpAnyL_done (by kernel_rfl) ?_ _
                have HS9 : Hid (LawSt w false an ae n cn m ce wz.drew) := Lib.hid (HS7.out.later (below_drewN (Below.refl _ _) 1))
                have HB9 : Hid (Below w3.heap.size w3 wz.drew) := Lib.hid (below_drewN HB7.out 1)
                clear hg1 hg2 hg3 hg4 hg5 hg6 hcu hcx hn1 hn2 hn3 hn4 hn6
                go_wp2_with fail
                go_roundw
                case rel => exact ⟨i + 1, K, by omega, by go_num, rfl, Lib.hid (by rw [if_neg (by omega)]), HS9, HB9⟩
                case measure => simp [intOf]; omega
              · have hg6 : decide ((0 : Int) < (i : Int)) = true := by rw [decide_eq_true_iff]; omega
                have hn6 : decide (0 < i) = true := by rw [decide_eq_true_iff]; omega
                obtain ⟨i', hi'⟩ : ∃ i', i = i' + 1 := ⟨i - 1, by omega⟩
                have hin' : i' < n := by omega
                obtain ⟨r, hr⟩ : ∃ r, ps.reverse[i']? = some r := ⟨_, List.getElem?_eq_getElem (by rw [List.length_reverse, HPL.out]; omega)⟩
                have hrm : r ∈ ps := List.mem_reverse.1 (List.mem_of_getElem? hr)
                have hlev := HD.out.lev r hrm
                have hcc : c ≤ r.2 := by rw [HCQ.out]; exact HD.out.anti hr HQ.out (by omega)
                have hrl := HD.out.le r hrm
                have hcy := (own_at HO.out (i := i') (u := .int .i64 r.1) (by rw [← List.map_reverse, List.map_map, List.getElem?_map, hr]; rfl)).1
                have hcy := (HB7.out.cell (p := ⟨gO, i', none⟩) hgO2).trans hcy
                obtain ⟨y, hy⟩ : ∃ y, y = r.1 := ⟨_, rfl⟩
                obtain ⟨cy, hcye⟩ : ∃ cy, cy = r.2 := ⟨_, rfl⟩
                rw [← hy] at hcy hlev
                rw [← hcye] at hcc hlev hrl
                have hsb1 : (i : Int) - 1 = (i' : Int) := by omega
                have hsb3 : IntKind.i64.wrap (i' : Int) = (i' : Int) := by rw [IntKind.wrap_i64]; omega
                have hsb2 : IntKind.i64.wrap ((i : Int) - 1) = (i' : Int) := by rw [IntKind.wrap_i64]; omega
                have hg7 : decide ((cy : Int) < (c : Int)) = false := by rw [decide_eq_false_iff_not]; omega
                have hn7 : decide (cy < c) = false := by rw [decide_eq_false_iff_not]; omega
                have HCO : Hid (Calls Try.prog 10 #[.agg #[.bool false, .slice an n cn, .slice ae m ce], .int .i64 y] wz.drew fun e w' => e = .returned (.int .i64 cy) ∧ Below wz.heap.size wz w') := Lib.hid
                  ((coreOf_calls cy y false an ae n cn m ce ns es wz.drew (HN.out.below HS7.out.below (Nat.le_refl _)|>.drewN 1) (HR.out.below HS7.out.below (Nat.le_refl _)|>.drewN 1) (by omega) HWELL.out (hlev.1.congr HSUB.out) (fun h => hlev.2 (h.congr (fun y hy => (HSUB.out y hy).symm))) (by omega)).mono fun e w' ⟨h1, h2⟩ => ⟨h1, h2.os, h2.tape, h2.output, h2.size, h2.block⟩)
                clear hr hrm hlev hcc hrl hy hcye hi' h0
                go_upto_region 20 with fail
                refine wp_region_L (by kernel_rfl) (fun w' => LawSt w false an ae n cn m ce w' ∧ (w'.cell? ⟨gC, c, none⟩ = some (.slice au lu cu) ∧ w'.cell? ⟨gO, i, none⟩ = some (.int .i64 x)) ∧ w'.cell? ⟨gO, i', none⟩ = some (.int .i64 y)) [] ⟨HS7.out.later (below_drewN (Below.refl _ _) 1), ⟨hcu, hcx⟩, hcy⟩ (fun hHeld => ?_)
                refine wpAnyL_take (i := 0) (v := ?_) rfl (by kernel_rfl) (by kernel_rfl) (by kernel_rfl) (by kernel_rfl) (fun _ _ _ h => h) (by kernel_rfl) ?_ hHeld ?_
                rotate_left
                · intro w hSw; obtain ⟨hSw, ⟨hs3, hs4⟩, hs5⟩ := hSw; have hs0 := hSw.c0; have hs1 := hSw.c1; have hs2 := hSw.c2; go_simp; all_goals with_reducible rfl
                simp only [Act.put]
                refine wpAnyL_take (i := 1) (v := ?_) rfl (by kernel_rfl) (by kernel_rfl) (by kernel_rfl) (by kernel_rfl) (fun _ _ _ h => h) (by kernel_rfl) ?_ hHeld ?_
                rotate_left
                · intro w hSw; obtain ⟨hSw, ⟨hs3, hs4⟩, hs5⟩ := hSw; have hs0 := hSw.c0; have hs1 := hSw.c1; have hs2 := hSw.c2; go_simp; all_goals with_reducible rfl
                simp only [Act.put]
                refine wpAnyL_take (i := 2) (v := ?_) rfl (by kernel_rfl) (by kernel_rfl) (by kernel_rfl) (by kernel_rfl) (fun _ _ _ h => h) (by kernel_rfl) ?_ hHeld ?_
                rotate_left
                · intro w hSw; obtain ⟨hSw, ⟨hs3, hs4⟩, hs5⟩ := hSw; have hs0 := hSw.c0; have hs1 := hSw.c1; have hs2 := hSw.c2; go_simp; all_goals with_reducible rfl
                simp only [Act.put]
                refine wpAnyL_take (i := 3) (v := ?_) rfl (by kernel_rfl) (by kernel_rfl) (by kernel_rfl) (by kernel_rfl) (fun _ _ _ h => h) (by kernel_rfl) ?_ hHeld ?_
                rotate_left
                · intro w hSw; obtain ⟨hSw, ⟨hs3, hs4⟩, hs5⟩ := hSw; have hs0 := hSw.c0; have hs1 := hSw.c1; have hs2 := hSw.c2; go_simp; all_goals with_reducible rfl
                simp only [Act.put]
                refine wpAnyL_take (i := 4) (v := ?_) rfl (by kernel_rfl) (by kernel_rfl) (by kernel_rfl) (by kernel_rfl) (fun _ _ _ h => h) (by kernel_rfl) ?_ hHeld ?_
                rotate_left
                · intro w hSw; obtain ⟨hSw, ⟨hs3, hs4⟩, hs5⟩ := hSw; have hs0 := hSw.c0; have hs1 := hSw.c1; have hs2 := hSw.c2; go_simp; all_goals with_reducible rfl
                simp only [Act.put]
                refine wpAnyL_take (i := 5) (v := ?_) rfl (by kernel_rfl) (by kernel_rfl) (by kernel_rfl) (by kernel_rfl) (fun _ _ _ h => h) (by kernel_rfl) ?_ hHeld ?_
                rotate_left
                · intro w hSw; obtain ⟨hSw, ⟨hs3, hs4⟩, hs5⟩ := hSw; have hs0 := hSw.c0; have hs1 := hSw.c1; have hs2 := hSw.c2; go_simp; all_goals with_reducible rfl
                simp only [Act.put]
                refine wpAnyL_take (i := 6) (v := ?_) rfl (by kernel_rfl) (by kernel_rfl) (by kernel_rfl) (by kernel_rfl) (fun _ _ _ h => h) (by kernel_rfl) ?_ hHeld ?_
                rotate_left
                · intro w hSw; obtain ⟨hSw, ⟨hs3, hs4⟩, hs5⟩ := hSw; have hs0 := hSw.c0; have hs1 := hSw.c1; have hs2 := hSw.c2; go_simp; all_goals with_reducible rfl
                simp only [Act.put]
                refine wpAnyL_take (i := 7) (v := ?_) rfl (by kernel_rfl) (by kernel_rfl) (by kernel_rfl) (by kernel_rfl) (fun _ _ _ h => h) (by kernel_rfl) ?_ hHeld ?_
                rotate_left
                · intro w hSw; obtain ⟨hSw, ⟨hs3, hs4⟩, hs5⟩ := hSw; have hs0 := hSw.c0; have hs1 := hSw.c1; have hs2 := hSw.c2; go_simp; all_goals with_reducible rfl
                simp only [Act.put]
                refine wpAnyL_take (i := 8) (v := ?_) rfl (by kernel_rfl) (by kernel_rfl) (by kernel_rfl) (by kernel_rfl) (fun _ _ _ h => h) (by kernel_rfl) ?_ hHeld ?_
                rotate_left
                · intro w hSw; obtain ⟨hSw, ⟨hs3, hs4⟩, hs5⟩ := hSw; have hs0 := hSw.c0; have hs1 := hSw.c1; have hs2 := hSw.c2; go_simp; all_goals with_reducible rfl
                simp only [Act.put]
                refine wpAnyL_take (i := 9) (v := ?_) rfl (by kernel_rfl) (by kernel_rfl) (by kernel_rfl) (by kernel_rfl) (fun _ _ _ h => h) (by kernel_rfl) ?_ hHeld ?_
                rotate_left
                · intro w hSw; obtain ⟨hSw, ⟨hs3, hs4⟩, hs5⟩ := hSw; have hs0 := hSw.c0; have hs1 := hSw.c1; have hs2 := hSw.c2; go_simp; all_goals with_reducible rfl
                simp only [Act.put]
                refine wpAnyL_take (i := 10) (v := ?_) rfl (by kernel_rfl) (by kernel_rfl) (by kernel_rfl) (by kernel_rfl) (fun _ _ _ h => h) (by kernel_rfl) ?_ hHeld ?_
                rotate_left
                · intro w hSw; obtain ⟨hSw, ⟨hs3, hs4⟩, hs5⟩ := hSw; have hs0 := hSw.c0; have hs1 := hSw.c1; have hs2 := hSw.c2; go_simp; all_goals with_reducible rfl
                simp only [Act.put]
                refine wpAnyL_take (i := 11) (v := ?_) rfl (by kernel_rfl) (by kernel_rfl) (by kernel_rfl) (by kernel_rfl) (fun _ _ _ h => h) (by kernel_rfl) ?_ hHeld ?_
                rotate_left
                · intro w hSw; obtain ⟨hSw, ⟨hs3, hs4⟩, hs5⟩ := hSw; have hs0 := hSw.c0; have hs1 := hSw.c1; have hs2 := hSw.c2; go_simp; all_goals with_reducible rfl
                simp only [Act.put]
                refine wpAnyL_take (i := 12) (v := ?_) rfl (by kernel_rfl) (by kernel_rfl) (by kernel_rfl) (by kernel_rfl) (fun _ _ _ h => h) (by kernel_rfl) ?_ hHeld ?_
                rotate_left
                · intro w hSw; obtain ⟨hSw, ⟨hs3, hs4⟩, hs5⟩ := hSw; have hs0 := hSw.c0; have hs1 := hSw.c1; have hs2 := hSw.c2; go_simp; all_goals with_reducible rfl
                simp only [Act.put]
                refine wpAnyL_take (i := 14) (v := ?_) rfl (by kernel_rfl) (by kernel_rfl) (by kernel_rfl) (by kernel_rfl) (fun _ _ _ h => h) (by kernel_rfl) ?_ hHeld ?_
                rotate_left
                · intro w hSw; obtain ⟨hSw, ⟨hs3, hs4⟩, hs5⟩ := hSw; have hs0 := hSw.c0; have hs1 := hSw.c1; have hs2 := hSw.c2; go_simp; all_goals with_reducible rfl
                simp only [Act.put]
                refine wpAnyL_one (i := 13) rfl (by kernel_rfl) (by kernel_rfl) (fun K hK => ?_)
                go_simp
                refine HCO.out.mono ?_
                rintro e w8 ⟨rfl, hb8⟩
                have HS9 := Lib.hid (HS7.out.later hb8)
                have HB9 := Lib.hid (HB7.out.trans (hb8.mono HB7.out.size))
                have hgz : gO < wz.heap.size ∧ gC < wz.heap.size := by have := HB7.out.size; omega
                have hHeld : (fun w' : World => LawSt w false an ae n cn m ce w' ∧ (w'.cell? ⟨gC, c, none⟩ = some (.slice au lu cu) ∧ w'.cell? ⟨gO, i, none⟩ = some (.int .i64 x)) ∧ w'.cell? ⟨gO, i', none⟩ = some (.int .i64 y)) w8 := ⟨HS9.out, ⟨(hb8.cell (p := ⟨gC, c, none⟩) hgz.2).trans hcu, (hb8.cell (p := ⟨gO, i, none⟩) hgz.1).trans hcx⟩, (hb8.cell (p := ⟨gO, i', none⟩) hgz.1).trans hcy⟩
                refine hK.out _ _ (.inr hHeld) ?_
                have hH := has_calls au lu cu (coreL ps c) x w8 (HRU.out.below HB9.out (Nat.le_refl _))
                rw [HHAS.out] at hH
                have HH := Lib.hid hH
                clear hK K hb8 hgz HCO hH
                refine wpAnyL_take (i := 15) (v := ?_) rfl (by kernel_rfl) (by kernel_rfl) (by kernel_rfl) (by kernel_rfl) (fun _ _ _ h => h) (by kernel_rfl) ?_ hHeld ?_
                rotate_left
                · intro w hSw; obtain ⟨hSw, ⟨hs3, hs4⟩, hs5⟩ := hSw; have hs0 := hSw.c0; have hs1 := hSw.c1; have hs2 := hSw.c2; go_simp; all_goals with_reducible rfl
                simp only [Act.put]
                refine wpAnyL_take (i := 16) (v := ?_) rfl (by kernel_rfl) (by kernel_rfl) (by kernel_rfl) (by kernel_rfl) (fun _ _ _ h => h) (by kernel_rfl) ?_ hHeld ?_
                rotate_left
                · intro w hSw; obtain ⟨hSw, ⟨hs3, hs4⟩, hs5⟩ := hSw; have hs0 := hSw.c0; have hs1 := hSw.c1; have hs2 := hSw.c2; go_simp; all_goals with_reducible rfl
                simp only [Act.put]
                refine wpAnyL_take (i := 17) (v := ?_) rfl (by kernel_rfl) (by kernel_rfl) (by kernel_rfl) (by kernel_rfl) (fun _ _ _ h => h) (by kernel_rfl) ?_ hHeld ?_
                rotate_left
                · intro w hSw; obtain ⟨hSw, ⟨hs3, hs4⟩, hs5⟩ := hSw; have hs0 := hSw.c0; have hs1 := hSw.c1; have hs2 := hSw.c2; go_simp; all_goals with_reducible rfl
                simp only [Act.put]
                refine wpAnyL_take (i := 18) (v := ?_) rfl (by kernel_rfl) (by kernel_rfl) (by kernel_rfl) (by kernel_rfl) (fun _ _ _ h => h) (by kernel_rfl) ?_ hHeld ?_
                rotate_left
                · intro w hSw; obtain ⟨hSw, ⟨hs3, hs4⟩, hs5⟩ := hSw; have hs0 := hSw.c0; have hs1 := hSw.c1; have hs2 := hSw.c2; go_simp; all_goals with_reducible rfl
                simp only [Act.put]
                refine wpAnyL_take (i := 19) (v := ?_) rfl (by kernel_rfl) (by kernel_rfl) (by kernel_rfl) (by kernel_rfl) (fun _ _ _ h => h) (by kernel_rfl) ?_ hHeld ?_
                rotate_left
                · intro w hSw; obtain ⟨hSw, ⟨hs3, hs4⟩, hs5⟩ := hSw; have hs0 := hSw.c0; have hs1 := hSw.c1; have hs2 := hSw.c2; go_simp; all_goals with_reducible rfl
                simp only [Act.put]
                refine wpAnyL_take (i := 20) (v := ?_) rfl (by kernel_rfl) (by kernel_rfl) (by kernel_rfl) (by kernel_rfl) (fun _ _ _ h => h) (by kernel_rfl) ?_ hHeld ?_
                rotate_left
                · intro w hSw; obtain ⟨hSw, ⟨hs3, hs4⟩, hs5⟩ := hSw; have hs0 := hSw.c0; have hs1 := hSw.c1; have hs2 := hSw.c2; go_simp; all_goals with_reducible rfl
                simp only [Act.put]
                refine wpAnyL_take (i := 21) (v := ?_) rfl (by kernel_rfl) (by kernel_rfl) (by kernel_rfl) (by kernel_rfl) (fun _ _ _ h => h) (by kernel_rfl) ?_ hHeld ?_
                rotate_left
                · intro w hSw; obtain ⟨hSw, ⟨hs3, hs4⟩, hs5⟩ := hSw; have hs0 := hSw.c0; have hs1 := hSw.c1; have hs2 := hSw.c2; go_simp; all_goals with_reducible rfl
                simp only [Act.put]
                refine wpAnyL_take (i := 22) (v := ?_) rfl (by kernel_rfl) (by kernel_rfl) (by kernel_rfl) (by kernel_rfl) (fun _ _ _ h => h) (by kernel_rfl) ?_ hHeld ?_
                rotate_left
                · intro w hSw; obtain ⟨hSw, ⟨hs3, hs4⟩, hs5⟩ := hSw; have hs0 := hSw.c0; have hs1 := hSw.c1; have hs2 := hSw.c2; go_simp; all_goals with_reducible rfl
                simp only [Act.put]
                refine wpAnyL_take (i := 23) (v := ?_) rfl (by kernel_rfl) (by kernel_rfl) (by kernel_rfl) (by kernel_rfl) (fun _ _ _ h => h) (by kernel_rfl) ?_ hHeld ?_
                rotate_left
                · intro w hSw; obtain ⟨hSw, ⟨hs3, hs4⟩, hs5⟩ := hSw; have hs0 := hSw.c0; have hs1 := hSw.c1; have hs2 := hSw.c2; go_simp; all_goals with_reducible rfl
                simp only [Act.put]
                refine wpAnyL_take (i := 24) (v := ?_) rfl (by kernel_rfl) (by kernel_rfl) (by kernel_rfl) (by kernel_rfl) (fun _ _ _ h => h) (by kernel_rfl) ?_ hHeld ?_
                rotate_left
                · intro w hSw; obtain ⟨hSw, ⟨hs3, hs4⟩, hs5⟩ := hSw; have hs0 := hSw.c0; have hs1 := hSw.c1; have hs2 := hSw.c2; go_simp; all_goals with_reducible rfl
                simp only [Act.put]
                refine wpAnyL_take (i := 25) (v := ?_) rfl (by kernel_rfl) (by kernel_rfl) (by kernel_rfl) (by kernel_rfl) (fun _ _ _ h => h) (by kernel_rfl) ?_ hHeld ?_
                rotate_left
                · intro w hSw; obtain ⟨hSw, ⟨hs3, hs4⟩, hs5⟩ := hSw; have hs0 := hSw.c0; have hs1 := hSw.c1; have hs2 := hSw.c2; go_simp; all_goals with_reducible rfl
                simp only [Act.put]
                refine wpAnyL_take (i := 26) (v := ?_) rfl (by kernel_rfl) (by kernel_rfl) (by kernel_rfl) (by kernel_rfl) (fun _ _ _ h => h) (by kernel_rfl) ?_ hHeld ?_
                rotate_left
                · intro w hSw; obtain ⟨hSw, ⟨hs3, hs4⟩, hs5⟩ := hSw; have hs0 := hSw.c0; have hs1 := hSw.c1; have hs2 := hSw.c2; go_simp; all_goals with_reducible rfl
                simp only [Act.put]
                refine wpAnyL_take (i := 27) (v := ?_) rfl (by kernel_rfl) (by kernel_rfl) (by kernel_rfl) (by kernel_rfl) (fun _ _ _ h => h) (by kernel_rfl) ?_ hHeld ?_
                rotate_left
                · intro w hSw; obtain ⟨hSw, ⟨hs3, hs4⟩, hs5⟩ := hSw; have hs0 := hSw.c0; have hs1 := hSw.c1; have hs2 := hSw.c2; go_simp; all_goals with_reducible rfl
                simp only [Act.put]
                refine wpAnyL_take (i := 28) (v := ?_) rfl (by kernel_rfl) (by kernel_rfl) (by kernel_rfl) (by kernel_rfl) (fun _ _ _ h => h) (by kernel_rfl) ?_ hHeld ?_
                rotate_left
                · intro w hSw; obtain ⟨hSw, ⟨hs3, hs4⟩, hs5⟩ := hSw; have hs0 := hSw.c0; have hs1 := hSw.c1; have hs2 := hSw.c2; go_simp; all_goals with_reducible rfl
                simp only [Act.put]
                refine wpAnyL_take (i := 29) (v := ?_) rfl (by kernel_rfl) (by kernel_rfl) (by kernel_rfl) (by kernel_rfl) (fun _ _ _ h => h) (by kernel_rfl) ?_ hHeld ?_
                rotate_left
                · intro w hSw; obtain ⟨hSw, ⟨hs3, hs4⟩, hs5⟩ := hSw; have hs0 := hSw.c0; have hs1 := hSw.c1; have hs2 := hSw.c2; go_simp; all_goals with_reducible rfl
                simp only [Act.put]
                refine wpAnyL_take (i := 30) (v := ?_) rfl (by kernel_rfl) (by kernel_rfl) (by kernel_rfl) (by kernel_rfl) (fun _ _ _ h => h) (by kernel_rfl) ?_ hHeld ?_
                rotate_left
                · intro w hSw; obtain ⟨hSw, ⟨hs3, hs4⟩, hs5⟩ := hSw; have hs0 := hSw.c0; have hs1 := hSw.c1; have hs2 := hSw.c2; go_simp; all_goals with_reducible rfl
                simp only [Act.put]
                refine wpAnyL_take (i := 31) (v := ?_) rfl (by kernel_rfl) (by kernel_rfl) (by kernel_rfl) (by kernel_rfl) (fun _ _ _ h => h) (by kernel_rfl) ?_ hHeld ?_
                rotate_left
                · intro w hSw; obtain ⟨hSw, ⟨hs3, hs4⟩, hs5⟩ := hSw; have hs0 := hSw.c0; have hs1 := hSw.c1; have hs2 := hSw.c2; go_simp; all_goals with_reducible rfl
                simp only [Act.put]
                refine wpAnyL_take (i := 32) (v := ?_) rfl (by kernel_rfl) (by kernel_rfl) (by kernel_rfl) (by kernel_rfl) (fun _ _ _ h => h) (by kernel_rfl) ?_ hHeld ?_
                rotate_left
                · intro w hSw; obtain ⟨hSw, ⟨hs3, hs4⟩, hs5⟩ := hSw; have hs0 := hSw.c0; have hs1 := hSw.c1; have hs2 := hSw.c2; go_simp; all_goals with_reducible rfl
                simp only [Act.put]
                refine wpAnyL_take (i := 33) (v := ?_) rfl (by kernel_rfl) (by kernel_rfl) (by kernel_rfl) (by kernel_rfl) (fun _ _ _ h => h) (by kernel_rfl) ?_ hHeld ?_
                rotate_left
                · intro w hSw; obtain ⟨hSw, ⟨hs3, hs4⟩, hs5⟩ := hSw; have hs0 := hSw.c0; have hs1 := hSw.c1; have hs2 := hSw.c2; go_simp; all_goals with_reducible rfl
                simp only [Act.put]
                refine wpAnyL_take (i := 34) (v := ?_) rfl (by kernel_rfl) (by kernel_rfl) (by kernel_rfl) (by kernel_rfl) (fun _ _ _ h => h) (by kernel_rfl) ?_ hHeld ?_
                rotate_left
                · intro w hSw; obtain ⟨hSw, ⟨hs3, hs4⟩, hs5⟩ := hSw; have hs0 := hSw.c0; have hs1 := hSw.c1; have hs2 := hSw.c2; go_simp; all_goals with_reducible rfl
                simp only [Act.put]
                refine wpAnyL_take (i := 35) (v := ?_) rfl (by kernel_rfl) (by kernel_rfl) (by kernel_rfl) (by kernel_rfl) (fun _ _ _ h => h) (by kernel_rfl) ?_ hHeld ?_
                rotate_left
                · intro w hSw; obtain ⟨hSw, ⟨hs3, hs4⟩, hs5⟩ := hSw; have hs0 := hSw.c0; have hs1 := hSw.c1; have hs2 := hSw.c2; go_simp; all_goals with_reducible rfl
                simp only [Act.put]
                refine wpAnyL_take (i := 36) (v := ?_) rfl (by kernel_rfl) (by kernel_rfl) (by kernel_rfl) (by kernel_rfl) (fun _ _ _ h => h) (by kernel_rfl) ?_ hHeld ?_
                rotate_left
                · intro w hSw; obtain ⟨hSw, ⟨hs3, hs4⟩, hs5⟩ := hSw; have hs0 := hSw.c0; have hs1 := hSw.c1; have hs2 := hSw.c2; go_simp; all_goals with_reducible rfl
                simp only [Act.put]
                refine wpAnyL_take (i := 37) (v := ?_) rfl (by kernel_rfl) (by kernel_rfl) (by kernel_rfl) (by kernel_rfl) (fun _ _ _ h => h) (by kernel_rfl) ?_ hHeld ?_
                rotate_left
                · intro w hSw; obtain ⟨hSw, ⟨hs3, hs4⟩, hs5⟩ := hSw; have hs0 := hSw.c0; have hs1 := hSw.c1; have hs2 := hSw.c2; go_simp; all_goals with_reducible rfl
                simp only [Act.put]
                refine wpAnyL_one (i := 38) rfl (by kernel_rfl) (by kernel_rfl) (fun K hK => ?_)
                go_simp
                refine HH.out.mono ?_
                rintro e w' ⟨rfl, rfl⟩
                refine hK.out _ _ (.inr hHeld) ?_
                clear hK K
                refine wpAnyL_take (i := 39) (v := ?_) rfl (by kernel_rfl) (by kernel_rfl) (by kernel_rfl) (by kernel_rfl) (fun _ _ _ h => h) (by kernel_rfl) ?_ hHeld ?_
                rotate_left
                · intro w hSw; obtain ⟨hSw, ⟨hs3, hs4⟩, hs5⟩ := hSw; have hs0 := hSw.c0; have hs1 := hSw.c1; have hs2 := hSw.c2; go_simp; all_goals with_reducible rfl
                simp only [Act.put]
                refine wpAnyL_one (i := 40) rfl (by kernel_rfl) (by kernel_rfl) (fun K hK => ?_)
                go_simp
                refine hK.out _ _ (.inr hHeld) ?_
                clear hK K hHeld
                refine wpAnyL_done (by kernel_rfl) ?_ _
                clear hg1 hg2 hg3 hg4 hg5 hg6 hg7 hcu hcx hcy hsb1 hsb2 hsb3 hn1 hn2 hn3 hn4 hn6 hn7
                go_wp2_with fail
                go_roundw
                case rel => exact ⟨i + 1, K, by omega, by go_num, rfl, Lib.hid (by rw [if_neg (by omega)]), HS9, HB9⟩
                case measure => simp [intOf]; omega
        · obtain rfl : t = n := by omega
          obtain rfl : mz = K := by
            have h1 := HMZ.out
            by_cases h0 : t = 0
            · rw [if_pos h0] at h1
              rcases HD.out.top with ⟨_, h2⟩ | ⟨p, hp, _⟩
              · omega
              · have h3 := HPL.out
                have := List.length_pos_of_mem hp
                omega
            · rw [if_neg h0] at h1; exact h1
          have HLA := Lib.hid (lessN_all HD.out.le)
          rw [HPL.out] at HLA
          clear HMZ
          go_wp2_with fail
          go_loop [11, 12] (fun nn ix => ∃ i : Nat, i ≤ mz + 1 ∧ ix = .int .i64 i ∧ nn = .int .i64 (lessN ps i : Nat)) (fun _ ix => mz + 2 - (intOf ix).toNat)
          case atStart => exact ⟨0, by omega, rfl, by rw [lessN_zero]; rfl⟩
          case round =>
            obtain ⟨i, hi, rfl, rfl⟩ := hrel
            by_cases hit : i < mz + 1
            · obtain ⟨u, hu⟩ : ∃ u, vs[i]? = some u := ⟨_, List.getElem?_eq_getElem (by have := HLC.out.len; simp at this; omega)⟩
              have hrw := HLC.out.rows i u (coreL ps i) hu (by simp [hit])
              obtain ⟨au, cu, rfl⟩ := own_shape' hrw
              have hcu := (HB5.out.cell (p := ⟨gC, i, none⟩) hgC2).trans (own_at HRC.out hu).1
              rw [coreL_len] at hcu
              have HLS := Lib.hid (lessN_succ ps i)
              have hb1 := lessN_le ps i; have hb2 := sameN_le ps i
              rw [HPL.out] at hb1 hb2
              obtain ⟨li, hli⟩ : ∃ li, li = lessN ps i := ⟨_, rfl⟩
              obtain ⟨si, hsi⟩ : ∃ si, si = sameN ps i := ⟨_, rfl⟩
              rw [← hli] at hb1 HLS ⊢
              rw [← hsi] at hb2 HLS hcu
              have hic : (i : Int) < (mz : Int) + 1 := by omega
              clear hu hrw hli hsi
              go_wp2_with fail
              go_round
              case rel => exact ⟨i + 1, by omega, by go_num, by rw [HLS.out]; go_num⟩
              case measure => simp [intOf]; omega
            · obtain rfl : i = mz + 1 := by omega
              rw [HLA.out]
              clear hit hi
              obtain ⟨w5, hw5⟩ : ∃ w5, w5 = wo.alloc (.cells #[.int .i64 7] 3) := ⟨_, rfl⟩
              have HB6 : Hid (Below wo.heap.size wo w5) := Lib.hid (by rw [hw5]; exact (Below.refl _ _).alloc (Nat.le_refl _) _)
              have x5 : w5.heap[wo.heap.size]? = some (.cells #[.int .i64 7] 3 (0, 0)) := by rw [hw5]; exact heap_alloc_new wo _
              have hs5 : wo.heap.size < w5.heap.size := (Array.getElem?_eq_some_iff.1 x5).1
              have HR5 : Hid (RdI w5 (some ⟨wo.heap.size, 0, none⟩) 1 [7]) := Lib.hid ⟨rfl, by omega, fun _ => ⟨_, 0, rfl, hs5, fun j hj => by
                have h0 : j = 0 := by omega
                subst h0
                exact ⟨7, rfl, by rw [cell_of_row w5 _ _ _ _ (0, 0) x5]; rfl⟩⟩⟩
              have HE5 : Hid (RdE w5 none 0 []) := Lib.hid ⟨rfl, by omega, fun h => by omega⟩
              have HC7 := Lib.hid (implDeg_calls (some ⟨wo.heap.size, 0, none⟩) none 1 1 0 0 [7] [] w5 HR5.out HE5.out (by omega) (fun x hx => by
                have h7 : x = 7 := by simpa using hx
                subst h7; decide) well7D)
              clear x5 HR5 HE5
              go_wp2_with fail
              rw [← hw5]
              clear hw5
              refine HC7.out.mono ?_
              rintro e w6 ⟨v7, vC7, vs7, ps7, k7, rfl, ho7, hl7, -, hlen7, -, -, hb7⟩
              have h17 := one7D hlen7
              rw [h17] at ho7
              obtain ⟨a7, c7, rfl⟩ := own_shape' ho7
              obtain ⟨aC7, cC7, rfl⟩ := own_shape' hl7.row
              have HBE : Hid (Below w.heap.size w w6) := Lib.hid (HS5.out.below.trans ((HB6.out.trans (hb7.mono (Nat.le_of_lt hs5))).mono HS5.out.below.size))
              clear ho7 hl7 hlen7 hb7 h17 HC7
              go_wp2_with fail
              go_ret
              exact ⟨rfl, HBE.out⟩
end Go.Proofs.Ytbkhakjbmdmghaa
