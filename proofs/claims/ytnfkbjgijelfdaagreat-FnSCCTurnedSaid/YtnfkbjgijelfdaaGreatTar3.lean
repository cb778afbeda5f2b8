/- What the walk of tarjanSCCstabilized leaves. -/
import Derived.Test.YtnfkbjgijelfdaaGreatTar2
import Derived.Test.YtnfkbjgijelfdaaGreatTarQ
import Derived.Deep.RegionWith
import Derived.RegionTactic
import Derived.Outline
import Derived.Deep.DeepCutAuto
import Derived.Deep.CutBlock
import Derived.Test.YtnfkbjgijelfdaaGreatDegM
namespace Go.Proofs.YtnfkbjgijelfdaaGreat
open Go.RowKit

def TarNew (cS : Value) (w : World) (p : Value) (wc : World) : Prop :=
  ∃ bt bT bL bS : Nat, p = .pointer (some ⟨bt, 0, none⟩) ∧ wc.heap[bt]? = some (.cells #[cS, .int .i64 0, .map (some bT), .map (some bL), .map (some bS), .slice none 0 0, .slice none 0 0] 195 (0, 0)) ∧
    wc.heap[bT]? = some (.map #[] 0) ∧ wc.heap[bL]? = some (.map #[] 0) ∧ wc.heap[bS]? = some (.map #[] 0) ∧ (bt ≠ bT ∧ bt ≠ bL ∧ bt ≠ bS ∧ bT ≠ bL ∧ bT ≠ bS ∧ bL ≠ bS) ∧ w.heap.size ≤ bt ∧ w.heap.size ≤ bT ∧ w.heap.size ≤ bL ∧ w.heap.size ≤ bS ∧ Below w.heap.size w wc

theorem heap4 (w : World) (A B C D : Obj) : (((((w.alloc A).alloc B).alloc C).alloc D).heap[w.heap.size]? = some A ∧ ((((w.alloc A).alloc B).alloc C).alloc D).heap[w.heap.size + 1]? = some B) ∧ ((((w.alloc A).alloc B).alloc C).alloc D).heap[w.heap.size + 1 + 1]? = some C ∧ ((((w.alloc A).alloc B).alloc C).alloc D).heap[w.heap.size + 1 + 1 + 1]? = some D := by
  have s1 : (w.alloc A).heap.size = w.heap.size + 1 := by simp
  have s2 : ((w.alloc A).alloc B).heap.size = w.heap.size + 1 + 1 := by simp
  have s3 : (((w.alloc A).alloc B).alloc C).heap.size = w.heap.size + 1 + 1 + 1 := by simp
  refine ⟨⟨?_, ?_⟩, ?_, ?_⟩
  · rw [heap_alloc_old _ _ (by omega), heap_alloc_old _ _ (by omega), heap_alloc_old _ _ (by omega)]; exact heap_alloc_new w A
  · rw [heap_alloc_old _ _ (by omega), heap_alloc_old _ _ (by omega), ← s1]; exact heap_alloc_new _ B
  · rw [heap_alloc_old _ _ (by omega), ← s2]; exact heap_alloc_new _ C
  · rw [← s3]; exact heap_alloc_new _ D

theorem GM.empty {P : Program} {k : TypeId} {w : World} {b : Nat} (h : w.heap[b]? = some (.map #[] 0)) : GM P k w b 0 (fun _ => none) := by
  obtain ⟨D, ⟨es, clock, h1, h2⟩, h3⟩ := GM.made w P k
  have e : Obj.map #[] 0 = .map es clock := Option.some.inj ((heap_alloc_new w _).symm.trans h1)
  cases e
  exact ⟨D, ⟨#[], 0, h, h2⟩, h3⟩

/-- The state at the beginning. -/
theorem TSt.fresh {cS : Value} {wB w : World} {B0 bt bT bL bS : Nat} (hb : w.heap[bt]? = some (.cells #[cS, .int .i64 0, .map (some bT), .map (some bL), .map (some bS), .slice none 0 0, .slice none 0 0] 195 (0, 0)))
    (hT : w.heap[bT]? = some (.map #[] 0)) (hL : w.heap[bL]? = some (.map #[] 0)) (hS : w.heap[bS]? = some (.map #[] 0)) (hne : bt ≠ bT ∧ bt ≠ bL ∧ bt ≠ bS ∧ bT ≠ bL ∧ bT ≠ bS ∧ bL ≠ bS)
    (h1 : B0 ≤ bt) (h2 : B0 ≤ bT) (h3 : B0 ≤ bL) (h4 : B0 ≤ bS) (hB : Below B0 wB w) : ∃ F, TSt wB B0 cS bt bT bL bS w.heap.size TS.start 0 F w := by
  refine ⟨_, fun _ => none, fun _ => none, fun _ => none, .slice none 0 0, .slice none 0 0, [], ⟨fun _ => rfl, fun _ h => absurd rfl h, fun _ => rfl, fun _ _ h => by cases h⟩, ?_, fun j => Iff.rfl⟩
  have l1 := (Array.getElem?_eq_some_iff.1 hb).1
  have l2 := (Array.getElem?_eq_some_iff.1 hT).1
  have l3 := (Array.getElem?_eq_some_iff.1 hL).1
  have l4 := (Array.getElem?_eq_some_iff.1 hS).1
  exact ⟨hb, GM.empty hT, GM.empty hL, GM.empty hS, World.ownsRow_nil _ _ _ _, LolG.nil _ _, (fun _ h => by cases h), hB, hne, ⟨h1, h2, h3, h4, l1, l2, l3, l4, Nat.le_refl _⟩⟩

/-- What the walk over all nodes has done. -/
structure TAll (ids : List Int) (s : TS) : Prop where
  inv : s.idx + unm ids s.tab ≤ ids.length
  sub : ∀ x, s.tab x ≠ 0 → x ∈ ids
theorem TRun.all {ids : List Int} {adj : Int → List Int} (hadj : ∀ a, ∀ b ∈ adj a, b ∈ ids) {s : TS} {l : List Int} (h : TRun adj TS.start l s) (hl : ∀ y ∈ l, y ∈ ids) : TAll ids s := by
  have hc := h.cnt hadj hl
  refine ⟨?_, fun x hx => (hc.sub x hx).resolve_left (fun h0 => h0 rfl)⟩
  have h1 := hc.sum
  have h2 : unm ids TS.start.tab ≤ ids.length := List.countP_le_length
  have h3 : TS.start.idx = 0 := rfl
  omega

def TarPost (adj : Int → List Int) (nl : List Int) (w : World) (e : Ending) (w' : World) : Prop :=
  ∃ v vs s, e = .returned v ∧ TRun adj TS.start nl s ∧ LolG 77 103 nodeV w' w.heap.size v vs s.sccs ∧ Below w.heap.size w w'

theorem SuccF.of1 {t : TypeId} {recv : Value} {fNs fFr : FuncId} {G : World → Prop} {ids : List Int} {adj : Int → List Int} (hA : GraphO t recv fNs fFr G ids adj) {bg B0 : Nat} {w : World} (hg : G w) (hB : B0 = w.heap.size) (hb : w.heap[bg]? = some (.cells #[.iface t recv] 139 (0, 0))) :
    SuccF 125 #[.pointer (some ⟨bg, 0, none⟩)] w B0 ids adj := by
  subst hB
  refine ⟨Tryz.call125, fun w' x hx hw' => ?_⟩
  exact succ1_calls hA bg x w' hx (hA.keeps _ _ hg hw') ((hw'.block bg (Array.getElem?_eq_some_iff.1 hb).1).trans hb)

set_option maxHeartbeats 8000000 in
set_option maxRecDepth 100000 in
theorem tarjan0_calls {t : TypeId} {recv : Value} {fNs fFr : FuncId} {G : World → Prop} {ids : List Int} {adj : Int → List Int} (hA : GraphO t recv fNs fFr G ids adj) (w : World) (hg : G w) (hwf : ∀ y ∈ ids, (Lit.int .i64 y).wf = true) (hadj : ∀ a, ∀ b ∈ adj a, b ∈ ids) (hdeg : ∀ a, (adj a).length ≤ 1000) (hids : ids.length ≤ 1000) :
    Calls Tryz.prog 88 #[.iface t recv, .nilFunc] w (TarPost adj ids w) := by
  have HA := Lib.hid hA; have HG := Lib.hid hg
  have HIDS := Lib.hid hids; have HWF := Lib.hid hwf; have HADJ := Lib.hid hadj; have HDEG := Lib.hid hdeg
  have m1 := hA.mNodes; have m2 := hA.aNodes; have m5 := hA.eNodes; have m7 := method_ID
  obtain ⟨nl, hnl⟩ : ∃ nl, nl = ids := ⟨_, rfl⟩
  have HNL : Hid (∀ x, x ∈ nl ↔ x ∈ ids) := Lib.hid (by rw [hnl]; exact fun _ => Iff.rfl)
  have HNE := Lib.hid hnl
  clear hA hg hids hwf hadj hdeg hnl
  go_enter Tryz.func88, Tryz.ntmps88
  go_wp2_with fail
  obtain ⟨w1, hw1⟩ : ∃ w1, w1 = (w.alloc (.cells #[.iface t recv] 139)).alloc (.cells #[.nilFunc] 106) := ⟨_, rfl⟩
  have HW1 := Lib.hid hw1
  have HB1 : Hid (Below w.heap.size w w1) := Lib.hid (by rw [hw1]; exact ((Below.refl _ _).alloc (Nat.le_refl _) _).alloc (by simp) _)
  have x1 : w1.heap[w.heap.size]? = some (.cells #[.iface t recv] 139 (0, 0)) := by rw [hw1, heap_alloc_old _ _ (by simp)]; exact heap_alloc_new w _
  have x2 : w1.heap[w.heap.size + 1]? = some (.cells #[.nilFunc] 106 (0, 0)) := by
    have h := heap_alloc_new (w.alloc (.cells #[.iface t recv] 139)) (.cells #[.nilFunc] 106)
    rw [hw1]; simpa using h
  have hs1 : w.heap.size + 1 < w1.heap.size := (Array.getElem?_eq_some_iff.1 x2).1
  have HX1 := Lib.hid x1; have HX2 := Lib.hid x2
  rw [← hw1]
  clear hw1 x1 x2
  refine (HA.out.nodes w1 (HA.out.keeps w w1 HG.out HB1.out)).mono ?_
  rintro e w2 ⟨b2, rfl, hI2, hb2⟩
  have HI2 := Lib.hid hI2; have HB2 := Lib.hid hb2
  have hge2 : w1.heap.size ≤ b2 := by obtain ⟨_, _, _, _, h, _⟩ := hI2; exact h
  clear hI2 hb2
  unfold iterV
  go_wp2_with fail
  have hNO2 := nodesOfG_calls w1.heap.size b2 ids w2 HI2.out
  unfold iterV at hNO2
  refine hNO2.mono ?_
  rintro e w3 ⟨vN, rfl, hoN, hg3, hvN⟩
  obtain ⟨aN, cN, rfl⟩ := own_shape' hoN
  have HB3 : Hid (Below w1.heap.size w1 w3) := Lib.hid (HB2.out.grown hg3 HB2.out.size (fun j hj => by have e1 := Option.some.inj hj; omega))
  have HBW : Hid (Below w.heap.size w w3) := Lib.hid (HB1.out.trans (HB3.out.mono HB1.out.size))
  have HG3 : Hid (G w3) := Lib.hid (HA.out.keeps w w3 HG.out HBW.out)
  have HX3 : Hid (w3.heap[w.heap.size]? = some (.cells #[.iface t recv] 139 (0, 0))) := Lib.hid ((HB3.out.block _ (by omega)).trans HX1.out)
  have HON := Lib.hid hoN
  have k2 : w3.cell? ⟨w.heap.size + 1, 0, none⟩ = some .nilFunc := by rw [cell_of_row w3 _ _ _ _ (0, 0) ((HB3.out.block _ hs1).trans HX2.out)]; rfl
  have heq : ∀ W, (binOp .eql 106 .nilFunc .nilFunc).run Tryz.prog W = .ok (.bool true) W := fun _ => by kernel_rfl
  obtain ⟨n, hnn⟩ : ∃ n, n = nl.length := ⟨_, rfl⟩
  have hn : n ≤ 1000 := by rw [hnn, HNE.out]; exact HIDS.out
  rw [← HNE.out, ← hnn] at HON ⊢
  have HNN := Lib.hid hnn
  clear hNO2 hoN hg3 hvN HI2 HB2 hnn
  have hmm := @run_makeMap Tryz.prog
  have hmn : ∀ W : World, (Instr.makeMap 193 (some (.int .i64 n))).run Tryz.prog W = .ok (.map (some W.heap.size)) (W.alloc (.map #[] 0)) := fun W => by
    have h := run_makeMapN (P := Tryz.prog) 193 2 3 Tryz.underlying193 n W
    exact h

  obtain ⟨i0, hi0⟩ : ∃ i0 : Nat, i0 = 0 := ⟨_, rfl⟩
  clear hi0
  go_wp2_with fail
  go_upto_region 8 with fail
  go_cut [7] (fun p wc => TarNew (.func (.func 125) #[] #[.pointer (some ⟨w.heap.size, 0, none⟩)]) w3 p wc)
  case first =>
    go_region_with (fail)
    all_goals
      go_wp2_with fail
      go_meet
      apply Exists.intro; apply Exists.intro; apply Exists.intro; apply Exists.intro
      refine ⟨rfl, ?_, ?_⟩
      · first | exact (heap4 w3 _ _ _ _).2.2 | exact (heap4 w3 _ _ _ _).2.1 | exact (heap4 w3 _ _ _ _).1.2 | exact (heap4 w3 _ _ _ _).1.1
      · refine ⟨?_, ?_, ?_, ⟨?_, ?_, ?_, ?_, ?_, ?_⟩, ?_, ?_, ?_, ?_, ?_⟩
        all_goals first
          | omega
          | exact (heap4 w3 _ _ _ _).2.2 | exact (heap4 w3 _ _ _ _).2.1 | exact (heap4 w3 _ _ _ _).1.2 | exact (heap4 w3 _ _ _ _).1.1
          | exact below_drewN (((((Below.refl _ _).alloc (Nat.le_refl _) _).alloc (by simp) _).alloc (by simp; omega) _).alloc (by simp; omega) _) 1
          | skip
  case rest =>
    obtain ⟨bt, bT, bL, bS, rfl, x1, x2, x3, x4, hne, l1, l2, l3, l4, hbw⟩ := hcut
    obtain ⟨wd, rfl⟩ : ∃ wd : World, wd = wc := ⟨_, rfl⟩
    obtain ⟨F0, hst0⟩ := TSt.fresh (wB := w3) (B0 := w3.heap.size) x1 x2 x3 x4 hne l1 l2 l3 l4 hbw
    have HST0 := Lib.hid hst0
    obtain ⟨lo, hlo⟩ : ∃ lo, lo = wd.heap.size := ⟨_, rfl⟩
    have HLO : Hid (w3.heap.size ≤ lo) := Lib.hid (by rw [hlo]; exact hbw.size)
    rw [← hlo] at HST0
    have HSF := Lib.hid (SuccF.of1 HA.out HG3.out rfl HX3.out)
    clear x1 x2 x3 x4 hne l1 l2 l3 l4 hbw hst0 hlo heq hmm hmn k2 hge2 hs1 m1 m2 m5
    go_wp2_with fail
    go_loopw [33] (fun ix wr => ∃ (j : Nat) (si : TS) (Fj : Nat → Prop), j ≤ n ∧ ix = .int .i64 j ∧ Hid (TRun adj TS.start (nl.take j) si) ∧ Hid (TSt w3 w3.heap.size (.func (.func 125) #[] #[.pointer (some ⟨w.heap.size, 0, none⟩)]) bt bT bL bS lo si (2000 * si.idx) Fj wr)) (fun ix _ => n - (intOf ix).toNat)
    case atStart => exact ⟨0, TS.start, F0, by omega, rfl, Lib.hid (TRun.nil _), HST0⟩
    case round =>
      obtain ⟨j, si, Fj, hj, rfl, HR, HST⟩ := hrel
      clear HST0
      have HALL := Lib.hid (HR.out.all HADJ.out (fun y hy => (HNL.out y).1 (List.mem_of_mem_take hy)))
      obtain ⟨gT, gL, gS, uK, uC, us, hok, hmem, hFx⟩ := HST.out
      have HOKi := Lib.hid hok; have HMi := Lib.hid hmem
      clear hok hmem hFx
      by_cases hlt : j < n
      · have hjl : j < nl.length := by rw [← HNN.out]; exact hlt
        obtain ⟨x, hx⟩ : ∃ x, x = nl[j] := ⟨_, rfl⟩
        have HX : Hid (nl.take (j + 1) = nl.take j ++ [x]) := Lib.hid (by rw [List.take_succ_eq_append_getElem hjl, hx])
        have HXI : Hid (x ∈ ids) := Lib.hid ((HNL.out x).1 (by rw [hx]; exact List.getElem_mem hjl))
        have hwx := HWF.out x HXI.out
        have ho : wr.ownsRow w1.heap.size 103 1 (.slice aN n cN) n (nl.map nodeV) := ownsRow_of_heap HON.out (fun g hg => HMi.out.base.block g (HON.out.lt g hg).2)
        obtain ⟨gN, cN', e, hgN1, hgN2, -⟩ := own_form ho (by omega)
        simp only [Value.slice.injEq, true_and] at e
        obtain ⟨rfl, rfl⟩ := e
        have q1 : wr.cell? ⟨gN, j, none⟩ = some (.iface 133 (.int .i64 x)) := (own_at ho (u := nodeV x) (by rw [List.getElem?_map, List.getElem?_eq_getElem hjl, hx]; rfl)).1
        have hlkT : (Instr.lookup 193 (.map (some bT)) (.int .i64 x) false).run Tryz.prog wr.drew = .ok (.int .i64 (si.tab x : Nat)) wr.drew := by
          have h := (HMi.out.tT.of_heap (w' := wr.drew) rfl).look (t := 193) (e := 3) Tryz.underlying2 Tryz.underlying193 (zero_int wr.drew) hwx
          rw [HOKi.out.t x] at h; exact h
        obtain ⟨-, -, c2, -, -, -, -⟩ := HMi.out.cells
        obtain ⟨tx, htx⟩ : ∃ tx, tx = si.tab x := ⟨_, rfl⟩
        rw [← htx] at hlkT
        have HTX := Lib.hid htx
        have hjla : (j : Int) < (n : Int) := by omega
        have HSTq : Hid (TSt w3 w3.heap.size (.func (.func 125) #[] #[.pointer (some ⟨w.heap.size, 0, none⟩)]) bt bT bL bS lo si (2000 * si.idx) Fj wr.drew) := Lib.hid (by
          obtain ⟨a, b, c, d, e, f, g1, g2, g3⟩ := HST.out
          exact ⟨a, b, c, d, e, f, g1, g2.below (below_drewN (Below.refl _ _) 1), g3⟩)
        clear hx hjl htx hgN1 ho HOKi HMi HST
        have htx01 : ((tx : Int) == 0) = decide (tx = 0) := by
          by_cases h : tx = 0
          · simp [h]
          · rw [decide_eq_false h, beq_eq_false_iff_ne]; omega
        go_upto_region 12 with fail
        refine wp_region_L (by kernel_rfl) (fun w' => w'.cell? ⟨bt, 2, none⟩ = some (.map (some bT)) ∧ (Instr.lookup 193 (.map (some bT)) (.int .i64 x) false).run Tryz.prog w' = .ok (.int .i64 (tx : Int)) w') [] ⟨c2, hlkT⟩ (fun hHeld => ?_)
        refine wpAnyL_take (i := 0) (v := ?_) rfl (by kernel_rfl) (by kernel_rfl) (by kernel_rfl) (by kernel_rfl) (fun _ _ _ h => h) (by kernel_rfl) ?_ hHeld ?_
        rotate_left
        · intro w hSw; obtain ⟨hs0, hs1⟩ := hSw; go_simp; all_goals with_reducible rfl
        simp only [Act.put]
        refine wpAnyL_take (i := 1) (v := ?_) rfl (by kernel_rfl) (by kernel_rfl) (by kernel_rfl) (by kernel_rfl) (fun _ _ _ h => h) (by kernel_rfl) ?_ hHeld ?_
        rotate_left
        · intro w hSw; obtain ⟨hs0, hs1⟩ := hSw; go_simp; all_goals with_reducible rfl
        simp only [Act.put]
        refine wpAnyL_take (i := 2) (v := ?_) rfl (by kernel_rfl) (by kernel_rfl) (by kernel_rfl) (by kernel_rfl) (fun _ _ _ h => h) (by kernel_rfl) ?_ hHeld ?_
        rotate_left
        · intro w hSw; obtain ⟨hs0, hs1⟩ := hSw; go_simp; all_goals with_reducible rfl
        simp only [Act.put]
        refine wpAnyL_one (i := 3) rfl (by kernel_rfl) (by kernel_rfl) (fun K hK => ?_)
        go_simp
        refine (nodeID_calls x wr.drew).mono ?_
        rintro e w' ⟨rfl, rfl⟩
        refine hK.out _ _ (.inr hHeld) ?_
        clear hK K
        refine wpAnyL_take (i := 4) (v := ?_) rfl (by kernel_rfl) (by kernel_rfl) (by kernel_rfl) (by kernel_rfl) (fun _ _ _ h => h) (by kernel_rfl) ?_ hHeld ?_
        rotate_left
        · intro w hSw; obtain ⟨hs0, hs1⟩ := hSw; go_simp; all_goals with_reducible rfl
        simp only [Act.put]
        refine wpAnyL_one (i := 5) rfl (by kernel_rfl) (by kernel_rfl) (fun K hK => ?_)
        go_simp
        refine hK.out _ _ (.inr hHeld) ?_
        clear hK K
        refine wpAnyL_done (by kernel_rfl) ?_ _
        clear hHeld hlkT c2 q1
        by_cases h0 : tx = 0
        · have ht0 : ((tx : Int) == 0) = true := by simp [h0]
          clear htx01
          go_wp2_with fail
          refine (strong_calls HSF.out HWF.out HADJ.out HDEG.out HIDS.out (unm ids si.tab) [] si x (2000 * si.idx) Fj wr.drew (Nat.le_refl _) ?hinv (fun _ h => nomatch h) (by rw [← HTX.out]; exact h0) HXI.out HALL.out.sub (by have := HALL.out.inv; have := HIDS.out; omega) HSTq.out (by have := HALL.out.inv; have := HIDS.out; omega)).mono ?_
          case hinv => exact (HR.out.inv TInv.start).1
          rintro e w8 ⟨rfl, s8, F8, hs8, hst8, -, -⟩
          have hR8 := Lib.hid (by rw [HX.out]; exact HR.out.append (TRun.visit (by rw [← HTX.out]; exact h0) hs8 (TRun.nil _)) : TRun adj TS.start (nl.take (j + 1)) (s8.leave x))
          have hi8 : si.idx ≤ s8.idx := by
            have h1 := (hs8.cnt HADJ.out (fun y hy => HADJ.out x y hy)).idx
            have h2 : (si.enter x).idx = si.idx + 1 := rfl
            omega
          have HST8 : Hid (TSt w3 w3.heap.size (.func (.func 125) #[] #[.pointer (some ⟨w.heap.size, 0, none⟩)]) bt bT bL bS lo (s8.leave x) (2000 * (s8.leave x).idx) F8 w8) := Lib.hid (by
            rw [(leave_tab s8 x).2.1]
            rw [show 2000 * s8.idx = 2000 * si.idx + 2000 * (s8.idx - si.idx) by omega]
            exact hst8)
          clear hs8 hst8 hi8 HSTq HR HALL HTX h0 ht0
          go_wp2_with fail
          go_roundw
          case rel => exact ⟨j + 1, _, _, by omega, by go_num, hR8, HST8⟩
          case measure => simp [intOf]; omega
        · have ht0 : ((tx : Int) == 0) = false := by rw [beq_eq_false_iff_ne]; omega
          have hR8 := Lib.hid (by rw [HX.out]; exact HR.out.append (TRun.skip (by rw [← HTX.out]; exact h0) (TRun.nil _)) : TRun adj TS.start (nl.take (j + 1)) si)
          have ht1 : decide (tx = 0) = false := by simp [h0]
          have ht2 : decide ((tx : Int) = 0) = false := by simp [h0]
          clear htx01 HR HALL HTX
          go_wp2_with fail
          go_roundw
          case rel => exact ⟨j + 1, _, _, by omega, by go_num, hR8, HSTq⟩
          case measure => simp [intOf]; omega
      · obtain ⟨-, -, -, -, -, -, c6⟩ := HMi.out.cells
        have HR8 : Hid (TRun adj TS.start nl si) := Lib.hid (by
          have h := HR.out
          rw [List.take_of_length_le (by have := HNN.out; omega)] at h
          exact h)
        have HS8 := Lib.hid HMi.out.scc
        have HB8 : Hid (Below w.heap.size w wr) := Lib.hid (HBW.out.trans (HMi.out.base.mono HBW.out.size))
        clear HR HMi HST HALL HOKi
        go_wp2_with fail
        go_ret
        exact ⟨_, us, si, rfl, by rw [← HNE.out]; exact HR8.out, HS8.out.lower (by have := HBW.out.size; have := HLO.out; omega), HB8.out⟩
end Go.Proofs.YtnfkbjgijelfdaaGreat
