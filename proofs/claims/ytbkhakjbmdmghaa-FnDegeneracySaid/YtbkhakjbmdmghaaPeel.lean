/- The walk of the laws' own peeled. -/
import Derived.Test.YtbkhakjbmdmghaaSpec3
import Derived.Test.YtbkhakjbmdmghaaTable
import Derived.Test.YtbkhakjbmdmghaaLolG
import Derived.Test.YtbkhakjbmdmghaaKCoreP
import Derived.Test.YtbkhakjbmdmghaaNextF
import Derived.Deep.LoopGhost
namespace Go.Proofs.Ytbkhakjbmdmghaa
open Go.RowKit

theorem cnt_set : ∀ (gl : List Bool) (u : Nat), u < gl.length → gl.getD u false = false → (gl.set u true).countP (fun b => !b) + 1 = gl.countP (fun b => !b)
  | [], u, h, _ => by simp at h
  | b :: r, 0, _, h => by
    have e : b = false := by simpa using h
    subst e
    simp
  | b :: r, u + 1, h, hg => by
    have h1 := cnt_set r u (by simpa using h) (by simpa using hg)
    rw [List.set_cons_succ, List.countP_cons, List.countP_cons]
    omega

/-- What is left of the first t. -/
def leftTo (ids : List Int) (g : List Bool) (t : Nat) : List Int := ((List.range t).filter fun i => !g.getD i false).map fun i => ids.getD i 0
theorem leftTo_succ (ids : List Int) (g : List Bool) (t : Nat) : leftTo ids g (t + 1) = leftTo ids g t ++ (if g.getD t false = true then [] else [ids.getD t 0]) := by
  unfold leftTo
  rw [List.range_succ, List.filter_append, List.map_append]
  congr 1
  by_cases h : g.getD t false = true
  · rw [if_pos h]; simp only [List.getD] at h ⊢; simp [h]
  · rw [if_neg h]; simp only [List.getD] at h ⊢; simp [h]

def PeelPost (ids : List Int) (adj : Int → List Int) (k : Int) (w : World) (e : Ending) (w' : World) : Prop :=
  ∃ (v : Value) (l : List Int), e = .returned v ∧ w'.ownsRow w.heap.size 3 1 v l.length (l.map (Value.int .i64)) ∧ (∀ j : Nat, k = j → ∀ u, u ∈ l ↔ InCore ids adj j u) ∧ l.length ≤ ids.length ∧ Below w.heap.size w w'

set_option maxHeartbeats 8000000 in
set_option maxRecDepth 100000 in
theorem peeled_calls (k : Int) (d : Bool) (an ae : Option Addr) (n cn m ce : Nat) (ns : List Int) (es : List (Int × Int × Int)) (w : World) (hn : RdI w an n ns) (hr : RdE w ae m es) (hn8 : n ≤ 1000) (hw : wellB ns es = true) :
    Calls Try.prog 13 #[.int .i64 k, .agg #[.bool d, .slice an n cn, .slice ae m ce]] w (PeelPost (sortI ns) (fromL d ns es) k w) := by
  have HN := Lib.hid hn; have HR := Lib.hid hr; have HW := Lib.hid hw
  have hnl := hn.len
  have hmb := fun W => make_bools W n (by omega)
  clear hn hr hw
  go_enter Try.func13, Try.ntmps13
  go_wp2_with fail
  refine (tableOf_calls d an ae n cn m ce ns es _ (HN.out.alloc _) (HR.out.alloc _) (by omega) HW.out).mono ?_
  rintro e w1 ⟨vN, vA, vW, lo, GA, GW, rfl, hlo, hvN, hvNlo, hvA, hvW, hMA, hMW, hb1⟩
  rw [hnl] at hvN hvA hvW hMA
  obtain ⟨aN, cN, rfl⟩ := own_shape' hvN
  obtain ⟨aA, cA, rfl⟩ := own_shape' hvA
  obtain ⟨aW, cW, rfl⟩ := own_shape' hvW
  have HB1 : Hid (Below w.heap.size w w1) := ((Below.refl w.heap.size w).alloc (Nat.le_refl _) _).trans (hb1.mono (by simp))
  have HVN := Lib.hid hvN; have HVA := Lib.hid hvA; have HMA := Lib.hid hMA
  have hs1 := HB1.out.size
  clear hvN hvNlo hvA hvW hMA hMW hb1 hlo
  go_wp2_with fail
  obtain ⟨w2, hw2⟩ : ∃ w2, w2 = w1.alloc (.cells #[.slice aN n cN, .slice aA n cA, .slice aW n cW] 56) := ⟨_, rfl⟩
  have HB2 : Hid (Below w1.heap.size w1 w2) := by rw [hw2]; exact (Below.refl _ _).alloc (Nat.le_refl _) _
  have x2 : w2.heap[w1.heap.size]? = some (.cells #[.slice aN n cN, .slice aA n cA, .slice aW n cW] 56 (0, 0)) := by rw [hw2]; exact heap_alloc_new w1 _
  have hs2 : w2.heap.size = w1.heap.size + 1 := by rw [hw2]; simp
  obtain ⟨bt, hbt⟩ : ∃ bt, bt = w1.heap.size := ⟨_, rfl⟩
  rw [← hw2, ← hbt]
  rw [← hbt] at x2 hs2 HB2
  obtain ⟨gg, hgg⟩ : ∃ gg, gg = bt + 1 := ⟨_, rfl⟩
  obtain ⟨w3, hw3⟩ : ∃ w3, w3 = w2.alloc (.cells (zerosOf (.bool false) n) 4) := ⟨_, rfl⟩
  rw [← hw3, ← hgg]
  have HOG : Hid (w3.ownsRow gg 4 1 (.slice (some ⟨gg, 0, none⟩) n n) n ((List.replicate n false).map Value.bool)) :=
    Lib.hid ⟨by simp, .inr ⟨gg, n, _, rfl, Nat.le_refl _, (by rw [hw3, hgg, ← hs2]; exact heap_alloc_new w2 _), Nat.le_refl _, by unfold maxLen; omega, by simp [zerosOf], by
      simp only [zerosOf, Nat.mul_one]
      rw [List.take_of_length_le (by simp)]
      apply List.ext_getElem (by simp)
      intro i h1 h2
      simp⟩⟩
  have HB3 : Hid (Below gg w2 w3) := by rw [hw3]; exact (Below.refl _ _).alloc (by omega) _
  have hbg : bt < gg := by omega
  have hs2g : w2.heap.size = gg := by omega
  have HVN2 : Hid (w2.ownsRow w.heap.size 3 1 (.slice aN n cN) n ((sortI ns).map (Value.int .i64))) := Lib.hid (ownsRow_of_heap (own_lower HVN.out (by simp)) (fun g hg => HB2.out.block g (by have := (HVN.out.lt g hg).2; omega)))
  have HVA2 : Hid (w2.ownsRow lo 58 1 (.slice aA n cA) n ((List.range n).map (rowV n GA))) := Lib.hid (ownsRow_of_heap HVA.out (fun g hg => HB2.out.block g (by have := (HVA.out.lt g hg).2; omega)))
  have HMA2 : Hid (Mat Value.bool w2 lo n n 4 GA (tabA d (sortI ns) es)) := Lib.hid (HMA.out.of_heap (fun i hi => HB2.out.block _ (by have := HMA.out.lt hi; omega)))
  have HX2 := Lib.hid x2
  obtain ⟨ids, hids⟩ : ∃ ids, ids = sortI ns := ⟨_, rfl⟩
  obtain ⟨adj, hadj⟩ : ∃ adj, adj = fromL d ns es := ⟨_, rfl⟩
  obtain ⟨A, hA⟩ : ∃ A, A = tabA d (sortI ns) es := ⟨_, rfl⟩
  have hidl : ids.length = n := by rw [hids, sortI_len]; exact hnl
  have HIDL := Lib.hid hidl
  have hwgg : w.heap.size < gg := by omega
  have HAP : Hid (∀ a b, a < ids.length → b < ids.length → A a b = arcB d es (ids.getD a 0) (ids.getD b 0)) := Lib.hid (by
    intro a b ha hb
    rw [hA, hids]
    rw [hids] at ha hb
    have hu := sort_ltF HW.out
    have he : ∀ e ∈ es, e.1 ∈ sortI ns ∧ e.2.1 ∈ sortI ns := fun e h => ⟨mem_sortI.2 (well_ends HW.out e h).1, mem_sortI.2 (well_ends HW.out e h).2⟩
    have hm1 := getF_mem ha
    have hm2 := getF_mem hb
    rw [← find_arc d ns es _ _ HW.out]
    unfold findO
    rw [(memB_iff _ _).2 hm1, (memB_iff _ _).2 hm2]
    have h := rowsFrom_look d (sortI ns) (posOf (sortI ns) ((sortI ns).getD a 0)) (posOf (sortI ns) ((sortI ns).getD b 0)) es he
    unfold look at h
    simp only [Bool.and_self, if_true]
    rw [h, lastE_some, posOf_getF hu ha, posOf_getF hu hb]
    simp [tabA])
  have HADJ : Hid (∀ x, adj x = ids.filter (arcB d es x)) := Lib.hid (by intro x; rw [hadj, hids]; rfl)
  have HND : Hid ids.Nodup := Lib.hid (by rw [hids]; exact (sort_ltF HW.out).imp fun h => Int.ne_of_lt h)
  rw [← hids] at HVN2
  rw [← hA] at HMA2
  have HID := Lib.hid hids; have HAD := Lib.hid hadj
  have HBW : Hid (∀ W, Below gg w2 W → Below w.heap.size w W) := Lib.hid fun W h => (HB1.out.trans (HB2.out.mono (by omega))).trans (h.mono (by omega))
  clear hids hadj hA hw2 hw3 hbt hgg x2 hidl HVN HVA HMA hmb HB2 HB1
  have HP0 : Hid (PSt ids adj A k (List.replicate n false) 0 true) := Lib.hid (by have h := PSt.start ids adj A k true; rw [HIDL.out] at h; exact h)
  go_loopg [8] (2 * n + 2) (fun gk ag wr => ∃ (gl : List Bool) (b : Bool), ag = .bool b ∧ wr.ownsRow gg 4 1 (.slice (some ⟨gg, 0, none⟩) n n) n (gl.map Value.bool) ∧ Hid (PSt ids adj A k gl (if b = true then 0 else n) b) ∧ Below gg w2 wr ∧ 2 * gl.countP (fun b => !b) + (if b = true then 1 else 0) ≤ gk)
  case atStart =>
    refine ⟨List.replicate n false, true, rfl, HOG.out, HP0, HB3.out, ?_⟩
    have := List.countP_le_length (p := fun b => !b) (l := List.replicate n false)
    rw [List.length_replicate] at this
    simp; omega
  case round =>
    obtain ⟨gl, b, rfl, hog, HP, hb, hgk⟩ := hrel
    have HG := Lib.hid hog; have HB := Lib.hid hb
    have hszr := hb.size
    clear hog hb
    cases b
    · have HPN : Hid (PSt ids adj A k gl n false) := Lib.hid (by simpa using HP.out)
      have HFIN : Hid (∀ j : Nat, k = j → ∀ u, u ∈ leftTo ids gl n ↔ InCore ids adj j u) := Lib.hid (by
        intro j hj u
        have h := HPN.out
        rw [hj] at h
        have hl : leftTo ids gl n = leftL ids gl := by unfold leftTo leftL; rw [HIDL.out]
        rw [hl]
        rw [← HIDL.out] at h
        exact h.fin HADJ.out HAP.out HND.out u)
      have HGL : Hid (gl.length = n) := Lib.hid (by rw [HPN.out.len]; exact HIDL.out)
      obtain ⟨wo, rfl⟩ : ∃ wo : World, wo = wr := ⟨_, rfl⟩
      obtain ⟨i0, hi0, hz0, hz1, hz2⟩ := info_parts int_info
      have HI := Lib.hid (And.intro hi0 (And.intro hz0 (And.intro hz1 hz2)))
      clear hi0 hz0 hz1 hz2 hgk HP HP0
      have hgow : gg ≤ wo.heap.size := by omega
      go_wp2_with fail
      go_loopw [12, 13] (fun v i wr => ∃ t N : Nat, t ≤ n ∧ i = .int .i64 t ∧ Hid (N = (leftTo ids gl t).length) ∧ wr.ownsRow wo.heap.size 3 1 v N ((leftTo ids gl t).map (Value.int .i64)) ∧ Below wo.heap.size wo wr) (fun _ i _ => n - (intOf i).toNat)
      case atStart => exact ⟨0, 0, by omega, rfl, Lib.hid rfl, World.ownsRow_nil _ _ _ _, Below.refl _ _⟩
      case round =>
        obtain ⟨t, N, ht, rfl, HNN, ho, hbi⟩ := hrel
        obtain ⟨a2, c2, rfl⟩ := own_shape' ho
        have HO := Lib.hid ho; have HBI := Lib.hid hbi
        have hszi := hbi.size
        clear ho hbi
        by_cases htn : t < n
        · have HBX : Hid (Below gg w2 wr) := HB.out.trans (HBI.out.mono hgow)
          obtain ⟨gN, cN', e, hgN0, hgN1, -⟩ := own_form HVN2.out (by omega)
          simp only [Value.slice.injEq, true_and] at e
          obtain ⟨rfl, rfl⟩ := e
          have htl : t < ids.length := by have := HIDL.out; omega
          have htg : t < gl.length := by have := HGL.out; omega
          obtain ⟨y, hy⟩ : ∃ y, ids.getD t 0 = y := ⟨_, rfl⟩
          have t0 : wr.cell? ⟨bt, 0, none⟩ = some (.slice (some ⟨gN, 0, none⟩) n cN) := (HBX.out.cell (p := ⟨bt, 0, none⟩) hbg).trans (by rw [cell_of_row w2 _ _ _ _ (0, 0) HX2.out]; rfl)
          have cy : wr.cell? ⟨gN, t, none⟩ = some (.int .i64 y) := (HBX.out.cell (p := ⟨gN, t, none⟩) (by show gN < gg; omega)).trans (own_at HVN2.out (i := t) (u := .int .i64 y) (by rw [← hy]; simp [List.getD, htl])).1
          obtain ⟨b2, hb2⟩ : ∃ b, gl.getD t false = b := ⟨_, rfl⟩
          obtain ⟨gg', cg, e, hgg0, hgg1, -⟩ := own_form HG.out (by omega)
          have hggo : gg < wo.heap.size := by simp only [Value.slice.injEq, Option.some.injEq, Addr.mk.injEq, true_and, and_true] at e; omega
          have c4 : wr.cell? ⟨gg, t, none⟩ = some (.bool b2) := (HBI.out.cell (p := ⟨gg, t, none⟩) hggo).trans (own_at HG.out (i := t) (u := .bool b2) (by rw [← hb2]; simp [List.getD, htg])).1
          have HLS := Lib.hid (leftTo_succ ids gl t)
          rw [hy, hb2] at HLS
          have hNt : N ≤ t := by
            rw [HNN.out]; unfold leftTo
            rw [List.length_map]
            refine Nat.le_trans (List.length_filter_le ..) ?_
            simp
          clear hy hb2 e
          cases b2
          · have HF2 : Hid (leftTo ids gl (t + 1) = leftTo ids gl t ++ [y]) := Lib.hid (by rw [HLS.out]; simp)
            have hgNw : gN < wr.heap.size := by omega
            have hbtw : bt < wr.heap.size := by omega
            obtain ⟨hi0, hz0, hz1, hz2⟩ := HI.out
            go_wp2_with (at_builtin; refine wpList_append_own _ rfl _ _ 22 rfl wo.heap.size 3 i0 (.int .i64 0) 1 8 Try.underlying22 hi0 hz0 hz1 hz2 rfl (by decide) (.slice a2 N c2) N ((leftTo ids gl t).map (Value.int .i64)) rfl ?hown ⟨wr.heap.size, 0, none⟩ 1 1 [.int .i64 y] rfl ?c0 ?c1 ?c2 ?c3 ?c4 ?c5 ?_)
            case hown => exact HO.out.alloc _
            case c0 => rfl
            case c1 => intro j u hj; match j, hj with | 0, hj => simp at hj; subst hj; simp [Addr.add]
            case c2 => intro u hu; simp at hu; subst hu; rfl
            case c3 => unfold maxLen; omega
            case c4 => omega
            case c5 => simp; omega
            intro v' w' hown' hgrow _
            obtain ⟨a', c', rfl⟩ := own_shape' hown'
            have HO' := Lib.hid hown'
            have HB' : Hid (Below wo.heap.size wo w') := (HBI.out.alloc (by omega) _).grown hgrow (by simp; omega) (fun j hj => (HO.out.lt j hj).1)
            clear hown' hgrow
            go_wp2
            go_roundw
            case rel =>
              refine ⟨t + 1, N + 1, by omega, by go_num, Lib.hid (by rw [HF2.out, List.length_append, ← HNN.out]; rfl), ?_, HB'.out⟩
              rw [HF2.out, List.map_append]
              exact HO'.out
            case measure => simp [intOf]; omega
          · have HF2 : Hid (leftTo ids gl (t + 1) = leftTo ids gl t) := Lib.hid (by rw [HLS.out]; simp)
            go_wp2_with fail
            go_roundw
            case rel => exact ⟨t + 1, N, by omega, by go_num, Lib.hid (by rw [HF2.out]; exact HNN.out), by rw [HF2.out]; exact HO.out, HBI.out⟩
            case measure => simp [intOf]; omega
        · obtain rfl : t = n := by omega
          have hNt : N ≤ t := by
            rw [HNN.out]; unfold leftTo
            rw [List.length_map]
            refine Nat.le_trans (List.length_filter_le ..) ?_
            simp
          have hbw : Below w.heap.size w wr := (HBW.out wo HB.out).trans (HBI.out.mono (by omega))
          have HRES : Hid (PeelPost (sortI ns) (fromL d ns es) k w (.returned (.slice a2 N c2)) wr) := Lib.hid ⟨_, leftTo ids gl t, rfl, by rw [← HNN.out]; exact own_lower HO.out (by omega), by rw [← HID.out, ← HAD.out]; exact HFIN.out, by rw [← HNN.out, ← HID.out, HIDL.out]; exact hNt, hbw⟩
          go_wp2_with fail
          go_ret
          exact HRES.out
    · have hgk2 : 2 * gl.countP (fun b => !b) + 1 ≤ gk := by simpa using hgk
      have HP2 : Hid (PSt ids adj A k gl 0 false) := Lib.hid (HP.out.pass false)
      clear hgk
      go_wp2_with fail
      go_loopw [8, 9] (fun ag i wr => ∃ (gl' : List Bool) (b' : Bool) (u : Nat), u ≤ n ∧ i = .int .i64 u ∧ ag = .bool b' ∧ wr.ownsRow gg 4 1 (.slice (some ⟨gg, 0, none⟩) n n) n (gl'.map Value.bool) ∧ Hid (PSt ids adj A k gl' u b') ∧ Below gg w2 wr ∧ gl'.countP (fun b => !b) + (if b' = true then 1 else 0) ≤ gl.countP (fun b => !b)) (fun _ i _ => n - (intOf i).toNat)
      case atStart => exact ⟨gl, false, 0, by omega, rfl, rfl, HG.out, HP2, HB.out, by simp⟩
      case round =>
        obtain ⟨gl', b', u, hu, rfl, rfl, hog, HPU, hb, hct⟩ := hrel
        have HGU := Lib.hid hog; have HBU := Lib.hid hb
        have HCT := Lib.hid hct
        have hszu := hb.size
        clear hog hb hct
        by_cases hun : u < n
        · obtain ⟨gA, cA', e, hgA0, hgA1, -⟩ := own_form HVA2.out (by omega)
          simp only [Value.slice.injEq, true_and] at e
          obtain ⟨rfl, rfl⟩ := e
          obtain ⟨wo, rfl⟩ : ∃ wo : World, wo = wr := ⟨_, rfl⟩
          have hgAg : gA < gg := by omega
          have hMlt := HMA2.out.lt hun
          have t1 : wo.cell? ⟨bt, 1, none⟩ = some (.slice (some ⟨gA, 0, none⟩) n cA) := (HBU.out.cell (p := ⟨bt, 1, none⟩) hbg).trans (by rw [cell_of_row w2 _ _ _ _ (0, 0) HX2.out]; rfl)
          have t2 : wo.cell? ⟨gA, u, none⟩ = some (.slice (some ⟨GA u, 0, none⟩) n n) := (HBU.out.cell (p := ⟨gA, u, none⟩) hgAg).trans (own_at HVA2.out (u := rowV n GA u) (by simp [hun])).1
          have HROW : Hid (∀ v, v < n → wo.cell? ⟨GA u, v, none⟩ = some (.bool (A u v))) := Lib.hid fun v hv => (HBU.out.cell (p := ⟨GA u, v, none⟩) (by show GA u < gg; omega)).trans (HMA2.out.cell hun hv)
          have HGL : Hid (gl'.length = n) := Lib.hid (by rw [HPU.out.len]; exact HIDL.out)
          have HGC : Hid (∀ v, v < n → wo.cell? ⟨gg, v, none⟩ = some (.bool (gl'.getD v false)) ∧ wo.frozen? ⟨gg, v, none⟩ = false) := Lib.hid fun v hv => own_at HGU.out (i := v) (u := .bool (gl'.getD v false)) (by
            have h1 : v < gl'.length := by have := HGL.out; omega
            simp [List.getD, h1])
          have hggu : gg < wo.heap.size := by obtain ⟨g, c, e, h1, h2, _⟩ := own_form HGU.out (by omega); simp only [Value.slice.injEq, Option.some.injEq, Addr.mk.injEq, true_and, and_true] at e; omega
          go_wp2_with fail
          go_loopw [10, 11] (fun dd i wr => ∃ v : Nat, v ≤ n ∧ i = .int .i64 v ∧ dd = .int .i64 (cntG A gl' u v : Nat) ∧ wr = wo) (fun _ i _ => n - (intOf i).toNat)
          case atStart => exact ⟨0, by omega, rfl, rfl, rfl⟩
          case round =>
            obtain ⟨v, hv, rfl, rfl, rfl⟩ := hrel
            obtain ⟨cv, hcv⟩ : ∃ cv, cntG A gl' u v = cv := ⟨_, rfl⟩
            have hcvv : cv ≤ v := by
              rw [← hcv]; unfold cntG
              refine Nat.le_trans List.countP_le_length ?_
              simp
            rw [hcv]
            have HCV := Lib.hid hcv
            clear hcv
            by_cases hvn : v < n
            · have c3 := HROW.out v hvn
              obtain ⟨c4, -⟩ := HGC.out v hvn
              have HCS := Lib.hid (cntG_succ A gl' u v)
              obtain ⟨b1, hb1⟩ : ∃ b, A u v = b := ⟨_, rfl⟩
              obtain ⟨b2, hb2⟩ : ∃ b, gl'.getD v false = b := ⟨_, rfl⟩
              rw [hb1] at c3 HCS
              rw [hb2] at c4 HCS
              clear hb1 hb2
              cases b1
              · go_wp2_with fail
                go_roundw
                case rel => exact ⟨v + 1, by omega, by go_num, congrArg (Value.int .i64) (by rw [HCS.out, HCV.out]; simp), by first | rfl | trivial⟩
                case measure => simp [intOf]; omega
              · cases b2
                · have HC1 : Hid (cntG A gl' u (v + 1) = cv + 1) := Lib.hid (by rw [HCS.out, HCV.out]; simp)
                  go_wp2_with fail
                  go_roundw
                  case rel => exact ⟨v + 1, by omega, by go_num, by rw [HC1.out]; go_num, by first | rfl | trivial⟩
                  case measure => simp [intOf]; omega
                · go_wp2_with fail
                  go_roundw
                  case rel => exact ⟨v + 1, by omega, by go_num, congrArg (Value.int .i64) (by rw [HCS.out, HCV.out]; simp), by first | rfl | trivial⟩
                  case measure => simp [intOf]; omega
            · obtain rfl : v = n := by omega
              obtain ⟨c4, f4⟩ := HGC.out u hun
              obtain ⟨b2, hb2⟩ : ∃ b, gl'.getD u false = b := ⟨_, rfl⟩
              rw [hb2] at c4
              have HB2 := Lib.hid hb2
              clear hb2
              cases b2
              · by_cases hck : (cv : Int) < k
                · have HT : Hid (PSt ids adj A k (gl'.set u true) (u + 1) true) := Lib.hid (HPU.out.take HADJ.out HAP.out (by have := HIDL.out; omega) (by rw [HIDL.out, HCV.out]; exact hck))
                  have hgl2 : u < gl'.length := by have := HGL.out; omega
                  have HC1 : Hid ((gl'.set u true).countP (fun b => !b) + 1 = gl'.countP (fun b => !b)) := Lib.hid (cnt_set gl' u hgl2 HB2.out)
                  have HPUT : Hid ((wr.setCell ⟨gg, u, none⟩ (.bool true)).ownsRow gg 4 1 (.slice (some ⟨gg, 0, none⟩) v v) v ((gl'.set u true).map Value.bool)) := Lib.hid (by
                    rw [List.map_set]
                    exact own_put (i := u) HGU.out (.bool true))
                  have HBP : Hid (Below gg w2 (wr.setCell ⟨gg, u, none⟩ (.bool true))) := Lib.hid (HBU.out.setCell (Nat.le_refl _) _)
                  clear hgl2
                  go_wp2_with fail
                  go_roundw
                  case rel => exact ⟨gl'.set u true, true, u + 1, by omega, by go_num, rfl, HPUT.out, HT, HBP.out, by have h1 := HC1.out; have h2 := HCT.out; simp; omega⟩
                  case measure => simp [intOf]; omega
                · have HK : Hid (PSt ids adj A k gl' (u + 1) b') := Lib.hid (HPU.out.keep (.inr (by rw [HIDL.out, HCV.out]; omega)))
                  go_wp2_with fail
                  go_roundw
                  case rel => exact ⟨gl', b', u + 1, by omega, by go_num, rfl, HGU.out, HK, HBU.out, HCT.out⟩
                  case measure => simp [intOf]; omega
              · have HK : Hid (PSt ids adj A k gl' (u + 1) b') := Lib.hid (HPU.out.keep (.inl HB2.out))
                go_wp2_with fail
                go_roundw
                case rel => exact ⟨gl', b', u + 1, by omega, by go_num, rfl, HGU.out, HK, HBU.out, HCT.out⟩
                case measure => simp [intOf]; omega
        · obtain rfl : u = n := by omega
          go_wp2_with fail
          go_roundg (gk - 1)
          case measure => omega
          case rel =>
            have h := HCT.out
            cases b'
            · exact ⟨gl', false, rfl, HGU.out, by simpa using HPU, HBU.out, by simp at h ⊢; omega⟩
            · exact ⟨gl', true, rfl, HGU.out, Lib.hid (by simpa using HPU.out.pass true), HBU.out, by simp at h ⊢; omega⟩
end Go.Proofs.Ytbkhakjbmdmghaa
