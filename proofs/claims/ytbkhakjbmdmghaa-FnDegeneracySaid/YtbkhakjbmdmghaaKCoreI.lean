/- The walks of impl.KCore and impl.Degeneracy. -/
import Derived.Test.YtbkhakjbmdmghaaDegO
import Derived.Test.YtbkhakjbmdmghaaNextF
import Derived.Test.YtbkhakjbmdmghaaSpecP
import Derived.Test.YtbkhakjbmdmghaaGraphO
namespace Go.Proofs.Ytbkhakjbmdmghaa
open Go.RowKit

theorem GraphO.congr {t : TypeId} {recv : Value} {fNs fFr : FuncId} {G : World → Prop} {ids : List Int} {adj adj' : Int → List Int} (h : GraphO t recv fNs fFr G ids adj) (e : ∀ x ∈ ids, adj' x = adj x) : GraphO t recv fNs fFr G ids adj' :=
  ⟨h.mNodes, h.aNodes, h.mFrom, h.aFrom, h.eNodes, h.eFrom, h.nodes, fun w x hx hg => by rw [e x hx]; exact h.frm w x hx hg, h.keeps⟩
theorem InCore.congr {ids : List Int} {adj adj' : Int → List Int} (e : ∀ x ∈ ids, adj' x = adj x) {k : Nat} {v : Int} (h : InCore ids adj k v) : InCore ids adj' k v := by
  obtain ⟨X, h1, h2⟩ := h
  refine ⟨X, h1, fun u hu => ⟨(h2 u hu).1, ?_⟩⟩
  have h3 := (h2 u hu).2
  unfold degIn at h3 ⊢
  rw [e u (h2 u hu).1]; exact h3
theorem arcB_symm (es : List (Int × Int × Int)) (u v : Int) : arcB false es u v = arcB false es v u := by
  unfold arcB arcAt
  congr 1
  funext e
  cases h1 : (e.1 == u) <;> cases h2 : (e.2.1 == v) <;> cases h3 : (e.1 == v) <;> cases h4 : (e.2.1 == u) <;> rfl

/-- The neighbours of a node of an undirected graph; what is no node has none. -/
def adjU (ns : List Int) (es : List (Int × Int × Int)) (x : Int) : List Int := if x ∈ sortI ns then fromL false ns es x else []
theorem adjU_of {ns : List Int} {es : List (Int × Int × Int)} {x : Int} (h : x ∈ sortI ns) : adjU ns es x = fromL false ns es x := if_pos h
theorem mem_adjU {ns : List Int} {es : List (Int × Int × Int)} {x y : Int} : y ∈ adjU ns es x ↔ x ∈ sortI ns ∧ y ∈ sortI ns ∧ arcB false es x y = true := by
  unfold adjU fromL
  by_cases h : x ∈ sortI ns
  · rw [if_pos h, List.mem_filter]; exact ⟨(fun g => ⟨h, g⟩), (fun g => g.2)⟩
  · rw [if_neg h]; exact ⟨(fun g => nomatch g), (fun g => absurd g.1 h)⟩
theorem adjU_facts {ns : List Int} {es : List (Int × Int × Int)} (hw : wellB ns es = true) :
    (sortI ns).Pairwise (· < ·) ∧ (∀ v, (adjU ns es v).Nodup) ∧ (∀ a b, b ∈ adjU ns es a → b ∈ sortI ns) ∧ (∀ a b, b ∈ adjU ns es a → a ∈ adjU ns es b) := by
  have hu := sort_ltF hw
  refine ⟨hu, fun v => ?_, fun a b h => (mem_adjU.1 h).2.1, fun a b h => ?_⟩
  · unfold adjU fromL
    by_cases h : v ∈ sortI ns
    · rw [if_pos h]
      exact (hu.imp fun {a b} h => by omega : (sortI ns).Nodup).sublist (List.filter_sublist ..)
    · rw [if_neg h]; exact List.nodup_nil
  · obtain ⟨h1, h2, h3⟩ := mem_adjU.1 h
    exact mem_adjU.2 ⟨h2, h1, by rw [arcB_symm]; exact h3⟩

def KCIPost (ids : List Int) (adj : Int → List Int) (kk : Nat) (w : World) (e : Ending) (w' : World) : Prop :=
  ∃ (v : Value) (l : List Int), e = .returned (.tuple #[v, .bool false]) ∧ w'.ownsRow w.heap.size 3 1 v l.length (l.map (Value.int .i64)) ∧ l.Nodup ∧ (∀ u, u ∈ l ↔ InCore ids adj kk u) ∧ l.length ≤ ids.length ∧ Below w.heap.size w w'

set_option maxHeartbeats 4000000 in
theorem implKCore_calls (kk : Nat) (an ae : Option Addr) (n cn m ce : Nat) (ns : List Int) (es : List (Int × Int × Int)) (w : World) (hn : RdI w an n ns) (hr : RdE w ae m es) (hn8 : n ≤ 1000) (hwf : ∀ x ∈ ns, (Lit.int .i64 x).wf = true)
    (hw : wellB ns es = true) (hkb : kk ≤ 1001) (hkk : ∀ ps k, DegS (sortI ns) (adjU ns es) ps k → (∀ v ∈ sortI ns, v ∈ ps.map (·.1)) → kk ≤ k + 1) :
    Calls Try.prog 14 #[.int .i64 kk, .agg #[.bool false, .slice an n cn, .slice ae m ce]] w (KCIPost (sortI ns) (adjU ns es) kk w) := by
  have HR := Lib.hid hr; clear hr
  have HN := Lib.hid hn; clear hn
  have HW := Lib.hid hw; clear hw
  have HWF2 : Hid (∀ x ∈ sortI ns, (Lit.int .i64 x).wf = true) := Lib.hid (fun x hx => hwf x (mem_sortI.1 hx))
  have HKK := Lib.hid hkk
  clear hwf hkk
  have HF := Lib.hid (adjU_facts HW.out)
  have HIL : Hid ((sortI ns).length ≤ 1000) := Lib.hid (by rw [sortI_len]; have := HN.out.len; omega)
  have hk0 : ¬ ((kk : Int) < 0) := by omega
  go_enter Try.func14, Try.ntmps14
  go_wp2_with fail
  obtain ⟨w1, hw1⟩ : ∃ w1, w1 = w.alloc (.cells #[.bool false, .slice an n cn, .slice ae m ce] 25) := ⟨_, rfl⟩
  have HB1 : Hid (Below w.heap.size w w1) := by rw [hw1]; exact (Below.refl _ _).alloc (Nat.le_refl _) _
  rw [← hw1]
  clear hw1
  refine (bothWaysG_calls false an ae n cn m ce ns es w1 (HN.out.below HB1.out (Nat.le_refl _)) (HR.out.below HB1.out (Nat.le_refl _)) (by omega)).mono ?_
  rintro e w2 ⟨hb, bp, rfl, hst⟩
  have HB2 := Lib.hid (HB1.out.trans (hb.mono HB1.out.size))
  obtain ⟨hbp, hgr⟩ := hst HW.out
  have HG2 := Lib.hid hgr
  have HGO : Hid (GraphO 43 (.agg #[.pointer (some ⟨bp, 0, none⟩)]) 90 88 (Gr bp (sortI ns) (rowsFrom false (sortI ns) es).1 (rowsFrom false (sortI ns) es).2) (sortI ns) (adjU ns es)) :=
    Lib.hid ((uGraphO bp _ _ _).congr (fun x hx => by rw [adjU_of hx, next_from HW.out hx]))
  rw [show (wellB ns es && (false == false)) = true by rw [HW.out]; rfl]
  clear hb hst hgr
  go_wp2_with fail
  obtain ⟨w3, hw3⟩ : ∃ w3, w3 = w2.alloc (.cells #[.pointer (some ⟨bp, 0, none⟩)] 43) := ⟨_, rfl⟩
  have HB3 : Hid (Below w2.heap.size w2 w3) := Lib.hid (by rw [hw3]; exact (Below.refl _ _).alloc (Nat.le_refl _) _)
  have hx3 : w3.heap[w2.heap.size]? = some (.cells #[.pointer (some ⟨bp, 0, none⟩)] 43 (0, 0)) := by rw [hw3]; exact heap_alloc_new w2 _
  obtain ⟨bw, hbw⟩ : ∃ bw, bw = w2.heap.size := ⟨_, rfl⟩
  have hs3 : bw < w3.heap.size := by rw [hbw]; exact (Array.getElem?_eq_some_iff.1 hx3).1
  have HG3 := Lib.hid (HG2.out.later HB3.out)
  have HB3w : Hid (Below w.heap.size w w3) := Lib.hid (HB2.out.trans (HB3.out.mono HB2.out.size))
  rw [← hw3]
  rw [← hbw] at hx3 ⊢
  have HX3 := Lib.hid hx3
  clear hw3 hx3 hbw HB2 HB3 HG2
  refine (topoDeg_calls HGO.out w3 HG3.out HF.out.1 HF.out.2.1 HF.out.2.2.1 HF.out.2.2.2 HIL.out HWF2.out).mono ?_
  rintro e w4 ⟨aL, cL, vC, us, ps, k, rfl, -, hrow, -, hD, -, hcov, hb4⟩
  have hkk := HKK.out ps k hD hcov
  obtain ⟨aC, cC, rfl⟩ := own_shape' hrow
  have hk3 : ¬ ((k : Int) + 1 < (kk : Int)) := by omega
  have hx4 : w4.cell? ⟨bw, 0, none⟩ = some (.pointer (some ⟨bp, 0, none⟩)) := by
    rw [cell_of_row w4 _ _ _ _ (0, 0) ((hb4.block bw hs3).trans HX3.out)]; rfl
  have HG4 := Lib.hid (HG3.out.later hb4)
  have HB4 := Lib.hid (HB3w.out.trans (hb4.mono HB3w.out.size))
  clear hrow hD hcov hb4 hkk HB3w HG3 HX3
  go_wp2_with fail
  refine (topoKCore_calls HGO.out w4 HG4.out HF.out.1 HF.out.2.1 HF.out.2.2.1 HF.out.2.2.2 HIL.out HWF2.out kk HKK.out).mono ?_
  rintro e w5 ⟨v, ps2, k2, rfl, ho5, hD2, hlen2, hcov2, hb5⟩
  have HC5 := Lib.hid (hD2.kcore hcov2 kk)
  have hnd : (kcoreL ps2 kk).Nodup := by unfold kcoreL; exact hD2.nodup.sublist (List.drop_sublist ..)
  have hll : (kcoreL ps2 kk).length ≤ (sortI ns).length := by
    unfold kcoreL; rw [List.length_drop, List.length_map]; omega
  have HND := Lib.hid hnd; have HLL := Lib.hid hll
  have HB5 := Lib.hid (HB4.out.trans (hb5.mono HB4.out.size))
  obtain ⟨aK, cK, rfl⟩ := own_shape' ho5
  have HR5 := Lib.hid (RdN.of_own ho5)
  have hl5 : (kcoreL ps2 kk).length ≤ 1000000 := by have := HIL.out; omega
  clear ho5 hD2 hlen2 hcov2 hb5 hnd hll hx4 hk3
  go_wp2_with fail
  refine (numbersR_calls aK _ cK (kcoreL ps2 kk) w5 HR5.out hl5).mono ?_
  rintro e w6 ⟨v, rfl, ho6, hb6⟩
  have HO6 := Lib.hid (own_lower ho6 HB5.out.size)
  have HB6 := Lib.hid (HB5.out.trans (hb6.mono HB5.out.size))
  clear ho6 hb6
  go_wp2_with fail
  refine bodyPost_ret (v := .tuple #[v, .bool false]) (by simp [results, Try.results14, go_sem]) rfl ?_
  exact ⟨v, _, rfl, HO6.out, HND.out, HC5.out, HLL.out, HB6.out⟩

theorem intsD_info : (Try.prog.info? 22).map (fun i => (i.zero, i.size, i.bytes)) = some (some (.slice none 0 0), 1, 24) := by kernel_rfl

def DIPost (ids : List Int) (adj : Int → List Int) (w : World) (e : Ending) (w' : World) : Prop :=
  ∃ (v vC : Value) (vs : List Value) (ps : List (Int × Nat)) (k : Nat), e = .returned (.tuple #[v, vC, .bool false]) ∧ w'.ownsRow w.heap.size 3 1 v ps.length ((ps.map (·.1)).reverse.map (Value.int .i64)) ∧
    LolG 22 3 (Value.int .i64) w' w.heap.size vC vs ((List.range (k + 1)).map (coreL ps)) ∧ DegS ids adj ps k ∧ ps.length = ids.length ∧ k ≤ ids.length ∧ (∀ v ∈ ids, v ∈ ps.map (·.1)) ∧ Below w.heap.size w w'

theorem DegS.k_le {ids : List Int} {adj : Int → List Int} {ps : List (Int × Nat)} {k : Nat} (h : DegS ids adj ps k) (hsub : ∀ v, (adj v).length ≤ ids.length) : k ≤ ids.length := by
  rcases h.top with ⟨_, rfl⟩ | ⟨p, hp, rfl⟩
  · omega
  · obtain ⟨X, h1, h2⟩ := (h.lev p hp).1
    have h3 := (h2 p.1 h1).2
    have h4 : degIn adj X p.1 ≤ (adj p.1).length := List.countP_le_length
    have := hsub p.1
    omega

set_option maxHeartbeats 4000000 in
theorem implDeg_calls (an ae : Option Addr) (n cn m ce : Nat) (ns : List Int) (es : List (Int × Int × Int)) (w : World) (hn : RdI w an n ns) (hr : RdE w ae m es) (hn8 : n ≤ 1000) (hwf : ∀ x ∈ ns, (Lit.int .i64 x).wf = true)
    (hw : wellB ns es = true) :
    Calls Try.prog 7 #[.agg #[.bool false, .slice an n cn, .slice ae m ce]] w (DIPost (sortI ns) (adjU ns es) w) := by
  have HR := Lib.hid hr; clear hr
  have HN := Lib.hid hn; clear hn
  have HW := Lib.hid hw; clear hw
  have HWF2 : Hid (∀ x ∈ sortI ns, (Lit.int .i64 x).wf = true) := Lib.hid (fun x hx => hwf x (mem_sortI.1 hx))
  clear hwf
  have HF := Lib.hid (adjU_facts HW.out)
  have HIL : Hid ((sortI ns).length ≤ 1000) := Lib.hid (by rw [sortI_len]; have := HN.out.len; omega)
  obtain ⟨i0, hi0, hz0, hz1, hz2⟩ := info_parts intsD_info
  have HI := Lib.hid (And.intro hi0 (And.intro hz0 (And.intro hz1 hz2)))
  clear hi0 hz0 hz1 hz2
  go_enter Try.func7, Try.ntmps7
  go_wp2_with fail
  obtain ⟨w1, hw1⟩ : ∃ w1, w1 = w.alloc (.cells #[.bool false, .slice an n cn, .slice ae m ce] 25) := ⟨_, rfl⟩
  have HB1 : Hid (Below w.heap.size w w1) := by rw [hw1]; exact (Below.refl _ _).alloc (Nat.le_refl _) _
  rw [← hw1]
  clear hw1
  refine (bothWaysG_calls false an ae n cn m ce ns es w1 (HN.out.below HB1.out (Nat.le_refl _)) (HR.out.below HB1.out (Nat.le_refl _)) (by omega)).mono ?_
  rintro e w2 ⟨hb, bp, rfl, hst⟩
  have HB2 := Lib.hid (HB1.out.trans (hb.mono HB1.out.size))
  obtain ⟨hbp, hgr⟩ := hst HW.out
  have HG2 := Lib.hid hgr
  have HGO : Hid (GraphO 43 (.agg #[.pointer (some ⟨bp, 0, none⟩)]) 90 88 (Gr bp (sortI ns) (rowsFrom false (sortI ns) es).1 (rowsFrom false (sortI ns) es).2) (sortI ns) (adjU ns es)) :=
    Lib.hid ((uGraphO bp _ _ _).congr (fun x hx => by rw [adjU_of hx, next_from HW.out hx]))
  rw [show (wellB ns es && (false == false)) = true by rw [HW.out]; rfl]
  clear hb hst hgr
  go_wp2_with fail
  obtain ⟨w3, hw3⟩ : ∃ w3, w3 = w2.alloc (.cells #[.pointer (some ⟨bp, 0, none⟩)] 43) := ⟨_, rfl⟩
  have HB3 : Hid (Below w2.heap.size w2 w3) := Lib.hid (by rw [hw3]; exact (Below.refl _ _).alloc (Nat.le_refl _) _)
  have HG3 := Lib.hid (HG2.out.later HB3.out)
  have HB3w : Hid (Below w.heap.size w w3) := Lib.hid (HB2.out.trans (HB3.out.mono HB2.out.size))
  rw [← hw3]
  clear hw3 HB2 HB3 HG2
  refine (topoDeg_calls HGO.out w3 HG3.out HF.out.1 HF.out.2.1 HF.out.2.2.1 HF.out.2.2.2 HIL.out HWF2.out).mono ?_
  rintro e w4 ⟨aL, cL, vC, us, ps, k, rfl, hrd, hrow, hus, hD, hlen, hcov, hb4⟩
  obtain ⟨aC, cC, rfl⟩ := own_shape' hrow
  have hk1 : k ≤ (sortI ns).length := hD.k_le (fun v => nodup_lenD (HF.out.2.1 v) (fun x hx => HF.out.2.2.1 v x hx))
  have hk2 : k ≤ 1000 := by have := HIL.out; omega
  obtain ⟨nl, hnl⟩ : ∃ nl, nl = ps.length := ⟨_, rfl⟩
  have hnl2 : nl ≤ 1000 := by have := HIL.out; omega
  rw [← hnl] at hrd ⊢
  have HRD := Lib.hid hrd; have HROW := Lib.hid hrow; have HUS := Lib.hid hus; have HD := Lib.hid hD; have HLEN := Lib.hid hlen; have HCOV := Lib.hid hcov; have HK1 := Lib.hid hk1; have HNL := Lib.hid hnl
  have HB4 := Lib.hid (HB3w.out.trans (hb4.mono HB3w.out.size))
  clear hrd hrow hus hD hlen hcov hb4 hk1 hnl HB3w HG3
  obtain ⟨gC, cC', e, hgC1, hgC2, -⟩ := own_form HROW.out (by omega)
  simp only [Value.slice.injEq, true_and] at e
  obtain ⟨rfl, rfl⟩ := e
  go_wp2_with fail
  go_loopw [3, 26] (fun v i wr => ∃ (j : Nat) (vs2 : List Value), j ≤ k + 1 ∧ i = .int .i64 j ∧ LolG 22 3 (Value.int .i64) wr w4.heap.size v vs2 ((List.range j).map (coreL ps)) ∧ Below w4.heap.size w4 wr) (fun _ i _ => k + 1 - (intOf i).toNat)
  case atStart => exact ⟨0, [], by omega, rfl, LolG.nil _ _, Below.refl _ _⟩
  case round =>
    obtain ⟨j, vs2, hj, rfl, ho, hb⟩ := hrel
    have hln : ((List.range j).map (coreL ps)).length = j := by simp
    have HLN := Lib.hid hln
    clear hln
    have hor := ho.row
    rw [HLN.out] at hor
    obtain ⟨a1, c1, rfl⟩ := own_shape' hor
    clear hor
    have HO := Lib.hid ho; have HB := Lib.hid hb
    have hszr := hb.size
    clear ho
    by_cases hlt : j < k + 1
    · obtain ⟨a2, c2, hu, hrj⟩ := HUS.out j hlt
      have hcz := (own_at HROW.out hu).1
      have hck := (hb.cell (p := ⟨gC, j, none⟩) hgC2).trans hcz
      have HRJ := Lib.hid (hrj.below hb (Nat.le_refl _))
      have hsb := sameN_le ps j
      obtain ⟨sj, hsj⟩ : ∃ sj, sj = sameN ps j := ⟨_, rfl⟩
      rw [← hsj] at hck hsb HRJ
      have hs3 : sj ≤ 1000000 := by rw [HNL.out] at hnl2; omega
      have hjc : (j : Int) < (k : Int) + 1 := by omega
      clear hcz hb hu hrj hsb hsj
      go_wp2_with fail
      refine (numbersR_calls a2 sj c2 (coreL ps j) wr HRJ.out hs3).mono ?_
      rintro e w5 ⟨v5, rfl, ho5, hb5⟩
      obtain ⟨a3, c3, rfl⟩ := own_shape' ho5
      have HO5 := Lib.hid ho5; have HB5 := Lib.hid hb5
      clear ho5 hb5
      have HL5 : Hid (LolG 22 3 (Value.int .i64) w5 w4.heap.size (.slice a1 j c1) vs2 ((List.range j).map (coreL ps))) := HO.out.of_heap (fun q hq => HB5.out.block q (HO.out.lt hq).2)
      obtain ⟨hi0, hz0, hz1, hz2⟩ := HI.out
      have hsm : (j + 1) * 24 ≤ 140737488355328 := by omega
      have hs5 := HB5.out.size
      have HRW : Hid (w5.ownsRow w4.heap.size 22 1 (.slice a1 j c1) j vs2) := by have h := HL5.out.row; rw [HLN.out] at h; exact h
      obtain ⟨lj, hlj⟩ : ∃ lj, lj = (coreL ps j).length := ⟨_, rfl⟩
      have HLJ := Lib.hid hlj
      rw [← hlj]
      clear hlj
      go_wp2_with (at_builtin; refine wpList_append_own_at _ rfl _ _ 28 rfl w4.heap.size 22 i0 (.slice none 0 0) 1 24 Try.underlying28 hi0 hz0 hz1 hz2 rfl (by decide) (.slice a1 j c1) j vs2 rfl (HRW.out.alloc _) ⟨w5.heap.size, 0, none⟩ 1 1 [.slice a3 lj c3] rfl rfl ?c1 ?c2 ?c3 ?c4 ?c5 ?_)
      case c1 => intro q u hq; match q, hq with | 0, hq => simp at hq; subst hq; simp [Addr.add]
      case c2 => intro u hu; simp at hu; subst hu; rfl
      case c3 => unfold maxLen; omega
      case c4 => exact hsm
      case c5 => simp; omega
      intro v' w' hown' hgrow _ hloc
      obtain ⟨a', c', rfl⟩ := own_shape' hown'
      have hfr : Fresh w5 (.slice a1 j c1) (.slice a' (j + 1) c') := hloc.imp id fun h g hg => by rw [h] at hg; have := Option.some.inj hg; omega
      have HL' : Hid (LolG 22 3 (Value.int .i64) w' w4.heap.size (.slice a' (j + 1) c') (vs2 ++ [.slice a3 lj c3]) ((List.range j).map (coreL ps) ++ [coreL ps j])) :=
        HL5.out.more (by rw [HLJ.out]; exact own_lower HO5.out (by omega)) (fun g hg hj => by rw [HLJ.out] at hg; have h1 := (HO5.out.lt g hg).1; have h2 := (HO.out.lt hj).2; omega) (by rw [HLN.out]; exact hown') (fun q h1 h2 => by rw [hgrow.block q (by simp; omega) h2]; exact heap_alloc_old _ _ h1) hfr
      have HB' : Hid (Below w4.heap.size w4 w') := ((HB.out.trans (HB5.out.mono hszr)).alloc (by omega) _).grown hgrow (by simp; omega) (fun q hq => (HRW.out.lt q hq).1)
      clear hown' hgrow hfr hloc
      go_wp2
      go_roundw
      case rel => exact ⟨j + 1, _, by omega, by go_num, by rw [List.range_succ, List.map_append]; exact HL'.out, HB'.out⟩
      case measure => simp [intOf]; omega
    · obtain rfl : j = k + 1 := by omega
      have HRW : Hid (RdN wr aL nl (ps.map (·.1)).reverse) := Lib.hid (HRD.out.below hb (Nat.le_refl _))
      clear hb
      go_wp2_with fail
      refine (numbersR_calls aL nl cL _ wr HRW.out (by omega)).mono ?_
      rintro e w6 ⟨v6, rfl, ho6, hb6⟩
      have HO6 := Lib.hid ho6; have HB6 := Lib.hid hb6
      have HL6 := Lib.hid (HO.out.of_heap (w' := w6) (fun q hq => hb6.block q (HO.out.lt hq).2))
      clear ho6 hb6
      go_wp2_with fail
      refine bodyPost_ret (v := .tuple #[v6, .slice a1 (k + 1) c1, .bool false]) (by simp [results, Try.results7, go_sem]) rfl ?_
      have hB := HB4.out.size
      refine ⟨v6, _, vs2, ps, k, rfl, ?_, HL6.out.lower hB, HD.out, HLEN.out, HK1.out, HCOV.out, HB4.out.trans ((HB.out.trans (HB6.out.mono hszr)).mono hB)⟩
      have h := own_lower HO6.out (B' := w.heap.size) (by omega)
      rw [List.length_reverse, List.length_map] at h
      exact h
end Go.Proofs.Ytbkhakjbmdmghaa
