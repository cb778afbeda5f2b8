/- The walks of topo.TarjanSCC and impl.SCC. -/
import Derived.Test.YtnfkbjgijelfdaaGreatTar3
import Derived.Test.YtnfkbjgijelfdaaGreatAdj
import Derived.Test.YtnfkbjgijelfdaaGreatLex
namespace Go.Proofs.YtnfkbjgijelfdaaGreat
open Go.RowKit

set_option maxHeartbeats 1000000 in
theorem tarjanSCC_calls {t : TypeId} {recv : Value} {fNs fFr : FuncId} {G : World → Prop} {ids : List Int} {adj : Int → List Int} (hA : GraphO t recv fNs fFr G ids adj) (w : World) (hg : G w) (hwf : ∀ y ∈ ids, (Lit.int .i64 y).wf = true) (hadj : ∀ a, ∀ b ∈ adj a, b ∈ ids) (hdeg : ∀ a, (adj a).length ≤ 1000) (hids : ids.length ≤ 1000) :
    Calls Tryz.prog 42 #[.iface t recv] w (TarPost adj ids w) := by
  have HC := Lib.hid (tarjan0_calls hA w hg hwf hadj hdeg hids)
  clear hA hg hwf hadj hdeg hids
  go_enter Tryz.func42, Tryz.ntmps42
  go_wp2_with fail
  refine HC.out.mono ?_
  rintro e w1 ⟨v, vs, s, rfl, hr, hl, hb⟩
  have HR := Lib.hid hr; have HL := Lib.hid hl; have HB := Lib.hid hb
  clear hr hl hb
  go_wp2_with fail
  go_ret
  exact ⟨v, vs, s, rfl, HR.out, HL.out, HB.out⟩

theorem intsS_info : (Tryz.prog.info? 22).map (fun i => (i.zero, i.size, i.bytes)) = some (some (.slice none 0 0), 1, 24) := by kernel_rfl

def SCCPost (ns : List Int) (es : List (Int × Int × Int)) (w : World) (e : Ending) (w' : World) : Prop :=
  ∃ v vs s, e = .returned (.tuple #[v, .bool false]) ∧ TRun (adjD ns es) TS.start (sortI ns) s ∧ LolI w' w.heap.size v vs (s.sccs.map sortI) ∧ Below w.heap.size w w'

set_option maxHeartbeats 4000000 in
theorem implSCC_calls (an ae : Option Addr) (n cn m ce : Nat) (ns : List Int) (es : List (Int × Int × Int)) (w : World) (hn : RdI w an n ns) (hr : RdE w ae m es) (hn8 : n ≤ 1000) (hwf : ∀ x ∈ ns, (Lit.int .i64 x).wf = true)
    (hw : wellB ns es = true) :
    Calls Tryz.prog 10 #[.agg #[.bool true, .slice an n cn, .slice ae m ce]] w (SCCPost ns es w) := by
  have HR := Lib.hid hr; clear hr
  have HN := Lib.hid hn; clear hn
  have HW := Lib.hid hw; clear hw
  have HWF2 : Hid (∀ x ∈ sortI ns, (Lit.int .i64 x).wf = true) := Lib.hid (fun x hx => hwf x (mem_sortI.1 hx))
  clear hwf
  have HNL : Hid (ns.length ≤ 1000) := Lib.hid (by have := HN.out.len; omega)
  obtain ⟨i0, hi0, hz0, hz1, hz2⟩ := info_parts intsS_info
  have HI := Lib.hid (And.intro hi0 (And.intro hz0 (And.intro hz1 hz2)))
  clear hi0 hz0 hz1 hz2
  go_enter Tryz.func10, Tryz.ntmps10
  go_wp2_with fail
  obtain ⟨w1, hw1⟩ : ∃ w1, w1 = w.alloc (.cells #[.bool true, .slice an n cn, .slice ae m ce] 25) := ⟨_, rfl⟩
  have HB1 : Hid (Below w.heap.size w w1) := by rw [hw1]; exact (Below.refl _ _).alloc (Nat.le_refl _) _
  rw [← hw1]
  clear hw1
  refine (oneWay_calls true an ae n cn m ce ns es w1 (HN.out.below HB1.out (Nat.le_refl _)) (HR.out.below HB1.out (Nat.le_refl _)) (by omega)).mono ?_
  rintro e w2 ⟨hb, bp, rfl, hst⟩
  have HB2 := Lib.hid (HB1.out.trans (hb.mono HB1.out.size))
  have HG2 := Lib.hid (hst HW.out)
  have HGO : Hid (GraphO 72 (.agg #[.pointer (some ⟨bp, 0, none⟩)]) 217 215 (Gr bp (sortI ns) (rowsFrom true (sortI ns) es).1 (rowsFrom true (sortI ns) es).2) (sortI ns) (adjD ns es)) := Lib.hid (dGraphO_of HW.out)
  rw [show (wellB ns es && (true == true)) = true by rw [HW.out]; rfl]
  clear hb hst
  go_wp2_with fail
  obtain ⟨w3, hw3⟩ : ∃ w3, w3 = w2.alloc (.cells #[.pointer (some ⟨bp, 0, none⟩)] 72) := ⟨_, rfl⟩
  have HB3 : Hid (Below w2.heap.size w2 w3) := Lib.hid (by rw [hw3]; exact (Below.refl _ _).alloc (Nat.le_refl _) _)
  have HG3 := Lib.hid (HG2.out.later HB3.out)
  have HB3w : Hid (Below w.heap.size w w3) := Lib.hid (HB2.out.trans (HB3.out.mono HB2.out.size))
  rw [← hw3]
  clear hw3 HB2 HB3 HG2
  refine (tarjanSCC_calls HGO.out w3 HG3.out HWF2.out adjD_sub (fun a => Nat.le_trans (adjD_len a) HNL.out) (by rw [sortI_len]; exact HNL.out)).mono ?_
  rintro e w4 ⟨v0, vs, s, rfl, hrun, hL, hb4⟩
  have hfin := hrun.fin adjD_sub (fun _ => Iff.rfl)
  have hfl : s.sccs.flatten.length ≤ (sortI ns).length := nodup_lenT hfin.nd (fun x hx => (hfin.mem x).1 hx)
  have hsl : s.sccs.length ≤ 1000 := by
    have h1 := len_flatten hfin.ne
    rw [sortI_len] at hfl; have := HNL.out; omega
  have HPL : Hid (∀ p ∈ s.sccs, p.length ≤ 1000000) := Lib.hid (fun p hp => by
    have h1 := List.Sublist.length_le (List.sublist_flatten_of_mem hp)
    rw [sortI_len] at hfl; have := HNL.out; omega)
  have HRUN := Lib.hid hrun
  obtain ⟨ps, hps⟩ : ∃ ps, ps = s.sccs := ⟨_, rfl⟩
  rw [← hps] at hL hsl HPL
  have HPS := Lib.hid hps
  obtain ⟨a0, c0, rfl⟩ := own_shape' hL.row
  have HL := Lib.hid hL
  have HB4 := Lib.hid (HB3w.out.trans (hb4.mono HB3w.out.size))
  have hs34 := hb4.size
  clear hrun hfin hfl hL hb4 hps HB3w HG3
  go_wp2_with fail
  go_loopw [2, 20] (fun v i wr => ∃ (k : Nat) (vs2 : List Value), k ≤ ps.length ∧ i = .int .i64 k ∧ LolI wr w4.heap.size v vs2 ((ps.take k).map sortI) ∧ Below w4.heap.size w4 wr) (fun _ i _ => ps.length - (intOf i).toNat)
  case atStart => exact ⟨0, [], by omega, rfl, LolG.nil _ _, Below.refl _ _⟩
  case round =>
    obtain ⟨k, vs2, hk, rfl, ho, hb⟩ := hrel
    have hln : ((ps.take k).map sortI).length = k := by simp; omega
    have HLN := Lib.hid hln
    clear hln
    have hor := ho.row
    rw [HLN.out] at hor
    obtain ⟨a1, c1, rfl⟩ := own_shape' hor
    clear hor
    have HO := Lib.hid ho; have HB := Lib.hid hb
    have hszr := hb.size
    clear ho
    by_cases hlt : k < ps.length
    · obtain ⟨g, cap, he, hg0, hg1, -⟩ := own_form HL.out.row (by omega)
      simp only [Value.slice.injEq, true_and] at he
      obtain ⟨rfl, rfl⟩ := he
      have hvl := HL.out.len
      obtain ⟨u, hu⟩ : ∃ u, vs[k]? = some u := ⟨vs[k]'(by omega), List.getElem?_eq_getElem (by omega)⟩
      obtain ⟨p, hp⟩ : ∃ p, ps[k]? = some p := ⟨ps[k], List.getElem?_eq_getElem hlt⟩
      have hpo := HL.out.rows k u p hu hp
      obtain ⟨a2, c2, rfl⟩ := own_shape' hpo
      have hcz := (own_at HL.out.row hu).1
      have hck := (hb.cell (p := ⟨g, k, none⟩) hg1).trans hcz
      have hbr : g < wr.heap.size := by omega
      have HP := Lib.hid hp
      have HPO := Lib.hid (RdN.of_own (ownsRow_of_heap (w' := wr) hpo (fun g' hg' => hb.block g' (hpo.lt g' hg').2)))
      have hpm : p.length ≤ 1000000 := HPL.out p (List.mem_of_getElem? hp)
      clear hcz hb hu hp hpo
      go_wp2_with fail
      refine (numbersR_calls a2 p.length c2 p wr HPO.out hpm).mono ?_
      rintro e w5 ⟨v2, rfl, hv2, hb2⟩
      have HV2 := Lib.hid hv2
      obtain ⟨a3, c3, rfl⟩ := own_shape' hv2
      have HB5 := Lib.hid hb2
      clear hv2 hb2
      go_wp2_with fail
      refine (sortInt_calls wr.heap.size _ _ p w5 HV2.out (by omega)).mono ?_
      rintro e w6 ⟨rfl, ho3, hg3⟩
      have HO3 := Lib.hid ho3
      have HB6 : Hid (Below wr.heap.size wr w6) := Lib.hid (HB5.out.grown hg3 (HB5.out.size) (fun j hj => (HV2.out.lt j hj).1))
      clear ho3 hg3
      have HL3 : Hid (LolI w6 w4.heap.size (.slice a1 k c1) vs2 ((ps.take k).map sortI)) := Lib.hid (HO.out.of_heap (fun j hj => HB6.out.block j (HO.out.lt hj).2))
      obtain ⟨hi0, hz0, hz1, hz2⟩ := HI.out
      have hsm : (k + 1) * 24 ≤ 140737488355328 := by omega
      have hs3 := HB6.out.size
      have HRW : Hid (w6.ownsRow w4.heap.size 22 1 (.slice a1 k c1) k vs2) := Lib.hid (by have h := HL3.out.row; rw [HLN.out] at h; exact h)
      go_wp2_with (at_builtin; refine wpList_append_own_at _ rfl _ _ 28 rfl w4.heap.size 22 i0 (.slice none 0 0) 1 24 Tryz.underlying28 hi0 hz0 hz1 hz2 rfl (by decide) (.slice a1 k c1) k vs2 rfl (HRW.out.alloc _) ⟨w6.heap.size, 0, none⟩ 1 1 [.slice a3 p.length c3] rfl rfl ?c1 ?c2 ?c3 ?c4 ?c5 ?_)
      case c1 => intro j u hj; match j, hj with | 0, hj => simp at hj; subst hj; simp [Addr.add]
      case c2 => intro u hu; simp at hu; subst hu; rfl
      case c3 => unfold maxLen; omega
      case c4 => exact hsm
      case c5 => simp; omega
      intro v' w' hown' hgrow _ hloc
      obtain ⟨a', c', rfl⟩ := own_shape' hown'
      have hfr : Fresh w6 (.slice a1 k c1) (.slice a' (k + 1) c') := hloc.imp id fun h g hg => by rw [h] at hg; have := Option.some.inj hg; omega
      have hsl : (sortI p).length = p.length := sortI_len p
      have HL' : Hid (LolI w' w4.heap.size (.slice a' (k + 1) c') (vs2 ++ [.slice a3 p.length c3]) ((ps.take k).map sortI ++ [sortI p])) := Lib.hid
        (HL3.out.more (by rw [hsl]; exact own_lower HO3.out (by omega)) (fun g hg hj => by have h1 := (HO3.out.lt g hg).1; have h2 := (HO.out.lt hj).2; omega) (by rw [HLN.out]; exact hown') (fun j h1 h2 => by rw [hgrow.block j (by simp; omega) h2]; exact heap_alloc_old _ _ h1) hfr)
      have HB' : Hid (Below w4.heap.size w4 w') := Lib.hid (((HB.out.trans (HB6.out.mono hszr)).alloc (by omega) _).grown hgrow (by simp; omega) (fun j hj => (HRW.out.lt j hj).1))
      clear hown' hgrow hfr hloc hsl
      go_wp2
      go_roundw
      case rel =>
        refine ⟨k + 1, vs2 ++ [.slice a3 p.length c3], by omega, by go_num, ?_, HB'.out⟩
        have e2 : (ps.take (k + 1)).map sortI = (ps.take k).map sortI ++ [sortI p] := by
          rw [List.take_succ_eq_append_getElem hlt, List.map_append]
          have := (List.getElem?_eq_some_iff.1 HP.out).2; simp [this]
        rw [e2]; exact HL'.out
      case measure => simp [intOf]; omega
    · obtain rfl : k = ps.length := by omega
      have e3 : (ps.take ps.length).map sortI = ps.map sortI := by rw [List.take_length]
      rw [e3] at HO HLN
      go_wp2_with fail
      refine bodyPost_ret (v := .tuple #[.slice a1 ps.length c1, .bool false]) (by simp [results, Tryz.results10, go_sem]) rfl ?_
      exact ⟨_, vs2, s, rfl, HRUN.out, by rw [← HPS.out]; exact HO.out.lower HB4.out.size, HB4.out.trans (HB.out.mono HB4.out.size)⟩
end Go.Proofs.YtnfkbjgijelfdaaGreat
