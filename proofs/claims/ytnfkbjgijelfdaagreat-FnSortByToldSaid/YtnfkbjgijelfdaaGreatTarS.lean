/- The closures of tarjanSCCstabilized. What the walk of tarjanSCCstabilized leaves. Functions that put nodes in an order in place: order.ByID at any list, topo.lexical; tarjanSCCstabilized's second closure. The walk of tarjanSCCstabilized with an order. -/
import Derived.Test.YtnfkbjgijelfdaaGreatTar
import Derived.Test.YtnfkbjgijelfdaaGreatRdN
import Derived.Test.YtnfkbjgijelfdaaGreatGraphO
import Derived.Test.YtnfkbjgijelfdaaGreatTarP
import Derived.Test.YtnfkbjgijelfdaaGreatDegM
import Derived.Test.YtnfkbjgijelfdaaGreatByID
import Derived.Test.YtnfkbjgijelfdaaGreatRev
import Derived.Deep.RegionWith
import Derived.RegionTactic
import Derived.Outline
import Derived.Deep.DeepCutAuto
import Derived.Deep.CutBlock
namespace Go.Proofs.YtnfkbjgijelfdaaGreat
open Go.RowKit

set_option maxHeartbeats 1000000 in
theorem succ1_calls {t : TypeId} {recv : Value} {fNs fFr : FuncId} {G : World → Prop} {ids : List Int} {adj : Int → List Int} (hA : GraphO t recv fNs fFr G ids adj) (bg : Nat) (x : Int) (w : World) (hx : x ∈ ids) (hg : G w) (hb : w.heap[bg]? = some (.cells #[.iface t recv] 139 (0, 0))) :
    Calls Tryz.prog 125 #[.int .i64 x, .pointer (some ⟨bg, 0, none⟩)] w (SuccPost (adj x) w) := by
  have c0 : w.cell? ⟨bg, 0, none⟩ = some (.iface t recv) := by rw [cell_of_row w _ _ _ _ (0, 0) hb]; rfl
  have HA := Lib.hid hA; have HG := Lib.hid hg; have HX := Lib.hid hx
  have m3 := hA.mFrom; have m4 := hA.aFrom; have m6 := hA.eFrom
  clear hA hg hx hb
  go_enter Tryz.func125, Tryz.ntmps125
  go_wp2_with fail
  refine (HA.out.frm w x HX.out HG.out).mono ?_
  rintro e w1 ⟨b1, rfl, hI1, hb1⟩
  have HI1 := Lib.hid hI1; have HB1 := Lib.hid hb1
  have hge1 : w.heap.size ≤ b1 := by obtain ⟨_, _, _, _, h, _⟩ := hI1; exact h
  clear hI1 hb1
  unfold iterV
  go_wp2_with fail
  have hNO1 := nodesOfG_calls w.heap.size b1 (adj x) w1 HI1.out
  unfold iterV at hNO1
  refine hNO1.mono ?_
  rintro e w2 ⟨vN, rfl, hoN, hg2, hvN⟩
  have HB2 : Hid (Below w.heap.size w w2) := Lib.hid (HB1.out.grown hg2 HB1.out.size (fun j hj => by have e1 := Option.some.inj hj; omega))
  have HON := Lib.hid hoN
  clear hNO1 hoN hg2 hvN HI1 HB1
  go_wp2_with fail
  go_ret
  exact ⟨vN, rfl, own_lower HON.out (by first | exact Nat.le_refl _ | omega), HB2.out⟩
end Go.Proofs.YtnfkbjgijelfdaaGreat
namespace Go.Proofs.YtnfkbjgijelfdaaGreat
open Go.RowKit

def TarNew (cS : Value) (w : World) (p : Value) (wc : World) : Prop :=
  ∃ bt bT bL bS : Nat, p = .pointer (some ⟨bt, 0, none⟩) ∧ wc.heap[bt]? = some (.cells #[cS, .int .i64 0, .map (some bT), .map (some bL), .map (some bS), .slice none 0 0, .slice none 0 0] 195 (0, 0)) ∧
    wc.heap[bT]? = some (.map #[] 0) ∧ wc.heap[bL]? = some (.map #[] 0) ∧ wc.heap[bS]? = some (.map #[] 0) ∧ (bt ≠ bT ∧ bt ≠ bL ∧ bt ≠ bS ∧ bT ≠ bL ∧ bT ≠ bS ∧ bL ≠ bS) ∧ w.heap.size ≤ bt ∧ w.heap.size ≤ bT ∧ w.heap.size ≤ bL ∧ w.heap.size ≤ bS ∧ Below w.heap.size w wc

theorem heap4 (w : World) (A B C D : Obj) : (((((w.alloc A).alloc B).alloc C).alloc D).heap[w.heap.size]? = some A ∧ ((((w.alloc A).alloc B).alloc C).alloc D).heap[w.heap.size + 1]? = some B) ∧ ((((w.alloc A).alloc B).alloc C).alloc D).heap[w.heap.size + 1 + 1]? = some C ∧ ((((w.alloc A).alloc B).alloc C).alloc D).heap[w.heap.size + 1 + 1 + 1]? = some D := by
  have s1 : (w.alloc A).heap.size = w.heap.size + 1 := by simp
  have s2 : ((w.alloc A).alloc B).heap.size = w.heap.size + 1 + 1 := by simp
  have s3 : (((w.alloc A).alloc B).alloc C).heap.size = w.heap.size + 1 + 1 + 1 := by simp
  refine ⟨⟨?_, ?_⟩, ?_, ?_⟩
  · rw [heap_alloc_old _ _ (by omega), heap_alloc_old _ _ (by omega), heap_alloc_old _ _ (by omega)]; exact heap_alloc_new w A
  · rw [heap_alloc_old _ _ (by omega), heap_alloc_old _ _ (by omega), ← s1]; exact heap_alloc_new _ B
  · rw [heap_alloc_old _ _ (by omega), ← s2]; exact heap_alloc_new _ C
  · rw [← s3]; exact heap_alloc_new _ D

theorem GM.empty {P : Program} {k : TypeId} {w : World} {b : Nat} (h : w.heap[b]? = some (.map #[] 0)) : GM P k w b 0 (fun _ => none) := by
  obtain ⟨D, ⟨es, clock, h1, h2⟩, h3⟩ := GM.made w P k
  have e : Obj.map #[] 0 = .map es clock := Option.some.inj ((heap_alloc_new w _).symm.trans h1)
  cases e
  exact ⟨D, ⟨#[], 0, h, h2⟩, h3⟩

/-- The state at the beginning. -/
theorem TSt.fresh {cS : Value} {wB w : World} {B0 bt bT bL bS : Nat} (hb : w.heap[bt]? = some (.cells #[cS, .int .i64 0, .map (some bT), .map (some bL), .map (some bS), .slice none 0 0, .slice none 0 0] 195 (0, 0)))
    (hT : w.heap[bT]? = some (.map #[] 0)) (hL : w.heap[bL]? = some (.map #[] 0)) (hS : w.heap[bS]? = some (.map #[] 0)) (hne : bt ≠ bT ∧ bt ≠ bL ∧ bt ≠ bS ∧ bT ≠ bL ∧ bT ≠ bS ∧ bL ≠ bS)
    (h1 : B0 ≤ bt) (h2 : B0 ≤ bT) (h3 : B0 ≤ bL) (h4 : B0 ≤ bS) (hB : Below B0 wB w) : ∃ F, TSt wB B0 cS bt bT bL bS w.heap.size TS.start 0 F w := by
  refine ⟨_, fun _ => none, fun _ => none, fun _ => none, .slice none 0 0, .slice none 0 0, [], ⟨fun _ => rfl, fun _ h => absurd rfl h, fun _ => rfl, fun _ _ h => by cases h⟩, ?_, fun j => Iff.rfl⟩
  have l1 := (Array.getElem?_eq_some_iff.1 hb).1
  have l2 := (Array.getElem?_eq_some_iff.1 hT).1
  have l3 := (Array.getElem?_eq_some_iff.1 hL).1
  have l4 := (Array.getElem?_eq_some_iff.1 hS).1
  exact ⟨hb, GM.empty hT, GM.empty hL, GM.empty hS, World.ownsRow_nil _ _ _ _, LolG.nil _ _, (fun _ h => by cases h), hB, hne, ⟨h1, h2, h3, h4, l1, l2, l3, l4, Nat.le_refl _⟩⟩

/-- What the walk over all nodes has done. -/
structure TAll (ids : List Int) (s : TS) : Prop where
  inv : s.idx + unm ids s.tab ≤ ids.length
  sub : ∀ x, s.tab x ≠ 0 → x ∈ ids
theorem TRun.all {ids : List Int} {adj : Int → List Int} (hadj : ∀ a, ∀ b ∈ adj a, b ∈ ids) {s : TS} {l : List Int} (h : TRun adj TS.start l s) (hl : ∀ y ∈ l, y ∈ ids) : TAll ids s := by
  have hc := h.cnt hadj hl
  refine ⟨?_, fun x hx => (hc.sub x hx).resolve_left (fun h0 => h0 rfl)⟩
  have h1 := hc.sum
  have h2 : unm ids TS.start.tab ≤ ids.length := List.countP_le_length
  have h3 : TS.start.idx = 0 := rfl
  omega

def TarPost (adj : Int → List Int) (nl : List Int) (w : World) (e : Ending) (w' : World) : Prop :=
  ∃ v vs s, e = .returned v ∧ TRun adj TS.start nl s ∧ LolG 77 103 nodeV w' w.heap.size v vs s.sccs ∧ Below w.heap.size w w'

theorem SuccF.of1 {t : TypeId} {recv : Value} {fNs fFr : FuncId} {G : World → Prop} {ids : List Int} {adj : Int → List Int} (hA : GraphO t recv fNs fFr G ids adj) {bg B0 : Nat} {w : World} (hg : G w) (hB : B0 = w.heap.size) (hb : w.heap[bg]? = some (.cells #[.iface t recv] 139 (0, 0))) :
    SuccF 125 #[.pointer (some ⟨bg, 0, none⟩)] w B0 ids adj := by
  subst hB
  refine ⟨Tryz.call125, fun w' x hx hw' => ?_⟩
  exact succ1_calls hA bg x w' hx (hA.keeps _ _ hg hw') ((hw'.block bg (Array.getElem?_eq_some_iff.1 hb).1).trans hb)

set_option maxHeartbeats 8000000 in
set_option maxRecDepth 100000 in
theorem tarjan0_calls {t : TypeId} {recv : Value} {fNs fFr : FuncId} {G : World → Prop} {ids : List Int} {adj : Int → List Int} (hA : GraphO t recv fNs fFr G ids adj) (w : World) (hg : G w) (hwf : ∀ y ∈ ids, (Lit.int .i64 y).wf = true) (hadj : ∀ a, ∀ b ∈ adj a, b ∈ ids) (hdeg : ∀ a, (adj a).length ≤ 1000) (hids : ids.length ≤ 1000) :
    Calls Tryz.prog 88 #[.iface t recv, .nilFunc] w (TarPost adj ids w) := by
  have HA := Lib.hid hA; have HG := Lib.hid hg
  have HIDS := Lib.hid hids; have HWF := Lib.hid hwf; have HADJ := Lib.hid hadj; have HDEG := Lib.hid hdeg
  have m1 := hA.mNodes; have m2 := hA.aNodes; have m5 := hA.eNodes; have m7 := method_ID
  obtain ⟨nl, hnl⟩ : ∃ nl, nl = ids := ⟨_, rfl⟩
  have HNL : Hid (∀ x, x ∈ nl ↔ x ∈ ids) := Lib.hid (by rw [hnl]; exact fun _ => Iff.rfl)
  have HNE := Lib.hid hnl
  clear hA hg hids hwf hadj hdeg hnl
  go_enter Tryz.func88, Tryz.ntmps88
  go_wp2_with fail
  obtain ⟨w1, hw1⟩ : ∃ w1, w1 = (w.alloc (.cells #[.iface t recv] 139)).alloc (.cells #[.nilFunc] 106) := ⟨_, rfl⟩
  have HW1 := Lib.hid hw1
  have HB1 : Hid (Below w.heap.size w w1) := Lib.hid (by rw [hw1]; exact ((Below.refl _ _).alloc (Nat.le_refl _) _).alloc (by simp) _)
  have x1 : w1.heap[w.heap.size]? = some (.cells #[.iface t recv] 139 (0, 0)) := by rw [hw1, heap_alloc_old _ _ (by simp)]; exact heap_alloc_new w _
  have x2 : w1.heap[w.heap.size + 1]? = some (.cells #[.nilFunc] 106 (0, 0)) := by
    have h := heap_alloc_new (w.alloc (.cells #[.iface t recv] 139)) (.cells #[.nilFunc] 106)
    rw [hw1]; simpa using h
  have hs1 : w.heap.size + 1 < w1.heap.size := (Array.getElem?_eq_some_iff.1 x2).1
  have HX1 := Lib.hid x1; have HX2 := Lib.hid x2
  rw [← hw1]
  clear hw1 x1 x2
  refine (HA.out.nodes w1 (HA.out.keeps w w1 HG.out HB1.out)).mono ?_
  rintro e w2 ⟨b2, rfl, hI2, hb2⟩
  have HI2 := Lib.hid hI2; have HB2 := Lib.hid hb2
  have hge2 : w1.heap.size ≤ b2 := by obtain ⟨_, _, _, _, h, _⟩ := hI2; exact h
  clear hI2 hb2
  unfold iterV
  go_wp2_with fail
  have hNO2 := nodesOfG_calls w1.heap.size b2 ids w2 HI2.out
  unfold iterV at hNO2
  refine hNO2.mono ?_
  rintro e w3 ⟨vN, rfl, hoN, hg3, hvN⟩
  obtain ⟨aN, cN, rfl⟩ := own_shape' hoN
  have HB3 : Hid (Below w1.heap.size w1 w3) := Lib.hid (HB2.out.grown hg3 HB2.out.size (fun j hj => by have e1 := Option.some.inj hj; omega))
  have HBW : Hid (Below w.heap.size w w3) := Lib.hid (HB1.out.trans (HB3.out.mono HB1.out.size))
  have HG3 : Hid (G w3) := Lib.hid (HA.out.keeps w w3 HG.out HBW.out)
  have HX3 : Hid (w3.heap[w.heap.size]? = some (.cells #[.iface t recv] 139 (0, 0))) := Lib.hid ((HB3.out.block _ (by omega)).trans HX1.out)
  have HON := Lib.hid hoN
  have k2 : w3.cell? ⟨w.heap.size + 1, 0, none⟩ = some .nilFunc := by rw [cell_of_row w3 _ _ _ _ (0, 0) ((HB3.out.block _ hs1).trans HX2.out)]; rfl
  have heq : ∀ W, (binOp .eql 106 .nilFunc .nilFunc).run Tryz.prog W = .ok (.bool true) W := fun _ => by kernel_rfl
  obtain ⟨n, hnn⟩ : ∃ n, n = nl.length := ⟨_, rfl⟩
  have hn : n ≤ 1000 := by rw [hnn, HNE.out]; exact HIDS.out
  rw [← HNE.out, ← hnn] at HON ⊢
  have HNN := Lib.hid hnn
  clear hNO2 hoN hg3 hvN HI2 HB2 hnn
  have hmm := @run_makeMap Tryz.prog
  have hmn : ∀ W : World, (Instr.makeMap 193 (some (.int .i64 n))).run Tryz.prog W = .ok (.map (some W.heap.size)) (W.alloc (.map #[] 0)) := fun W => by
    have h := run_makeMapN (P := Tryz.prog) 193 2 3 Tryz.underlying193 n W
    exact h

  obtain ⟨i0, hi0⟩ : ∃ i0 : Nat, i0 = 0 := ⟨_, rfl⟩
  clear hi0
  go_wp2_with fail
  go_upto_region 8 with fail
  go_cut [7] (fun p wc => TarNew (.func (.func 125) #[] #[.pointer (some ⟨w.heap.size, 0, none⟩)]) w3 p wc)
  case first =>
    go_region_with (fail)
    all_goals
      go_wp2_with fail
      go_meet
      apply Exists.intro; apply Exists.intro; apply Exists.intro; apply Exists.intro
      refine ⟨rfl, ?_, ?_⟩
      · first | exact (heap4 w3 _ _ _ _).2.2 | exact (heap4 w3 _ _ _ _).2.1 | exact (heap4 w3 _ _ _ _).1.2 | exact (heap4 w3 _ _ _ _).1.1
      · refine ⟨?_, ?_, ?_, ⟨?_, ?_, ?_, ?_, ?_, ?_⟩, ?_, ?_, ?_, ?_, ?_⟩
        all_goals first
          | omega
          | exact (heap4 w3 _ _ _ _).2.2 | exact (heap4 w3 _ _ _ _).2.1 | exact (heap4 w3 _ _ _ _).1.2 | exact (heap4 w3 _ _ _ _).1.1
          | exact below_drewN (((((Below.refl _ _).alloc (Nat.le_refl _) _).alloc (by simp) _).alloc (by simp; omega) _).alloc (by simp; omega) _) 1
          | skip
  case rest =>
    obtain ⟨bt, bT, bL, bS, rfl, x1, x2, x3, x4, hne, l1, l2, l3, l4, hbw⟩ := hcut
    obtain ⟨wd, rfl⟩ : ∃ wd : World, wd = wc := ⟨_, rfl⟩
    obtain ⟨F0, hst0⟩ := TSt.fresh (wB := w3) (B0 := w3.heap.size) x1 x2 x3 x4 hne l1 l2 l3 l4 hbw
    have HST0 := Lib.hid hst0
    obtain ⟨lo, hlo⟩ : ∃ lo, lo = wd.heap.size := ⟨_, rfl⟩
    have HLO : Hid (w3.heap.size ≤ lo) := Lib.hid (by rw [hlo]; exact hbw.size)
    rw [← hlo] at HST0
    have HSF := Lib.hid (SuccF.of1 HA.out HG3.out rfl HX3.out)
    clear x1 x2 x3 x4 hne l1 l2 l3 l4 hbw hst0 hlo heq hmm hmn k2 hge2 hs1 m1 m2 m5
    go_wp2_with fail
    go_loopw [33] (fun ix wr => ∃ (j : Nat) (si : TS) (Fj : Nat → Prop), j ≤ n ∧ ix = .int .i64 j ∧ Hid (TRun adj TS.start (nl.take j) si) ∧ Hid (TSt w3 w3.heap.size (.func (.func 125) #[] #[.pointer (some ⟨w.heap.size, 0, none⟩)]) bt bT bL bS lo si (2000 * si.idx) Fj wr)) (fun ix _ => n - (intOf ix).toNat)
    case atStart => exact ⟨0, TS.start, F0, by omega, rfl, Lib.hid (TRun.nil _), HST0⟩
    case round =>
      obtain ⟨j, si, Fj, hj, rfl, HR, HST⟩ := hrel
      clear HST0
      have HALL := Lib.hid (HR.out.all HADJ.out (fun y hy => (HNL.out y).1 (List.mem_of_mem_take hy)))
      obtain ⟨gT, gL, gS, uK, uC, us, hok, hmem, hFx⟩ := HST.out
      have HOKi := Lib.hid hok; have HMi := Lib.hid hmem
      clear hok hmem hFx
      by_cases hlt : j < n
      · have hjl : j < nl.length := by rw [← HNN.out]; exact hlt
        obtain ⟨x, hx⟩ : ∃ x, x = nl[j] := ⟨_, rfl⟩
        have HX : Hid (nl.take (j + 1) = nl.take j ++ [x]) := Lib.hid (by rw [List.take_succ_eq_append_getElem hjl, hx])
        have HXI : Hid (x ∈ ids) := Lib.hid ((HNL.out x).1 (by rw [hx]; exact List.getElem_mem hjl))
        have hwx := HWF.out x HXI.out
        have ho : wr.ownsRow w1.heap.size 103 1 (.slice aN n cN) n (nl.map nodeV) := ownsRow_of_heap HON.out (fun g hg => HMi.out.base.block g (HON.out.lt g hg).2)
        obtain ⟨gN, cN', e, hgN1, hgN2, -⟩ := own_form ho (by omega)
        simp only [Value.slice.injEq, true_and] at e
        obtain ⟨rfl, rfl⟩ := e
        have q1 : wr.cell? ⟨gN, j, none⟩ = some (.iface 133 (.int .i64 x)) := (own_at ho (u := nodeV x) (by rw [List.getElem?_map, List.getElem?_eq_getElem hjl, hx]; rfl)).1
        have hlkT : (Instr.lookup 193 (.map (some bT)) (.int .i64 x) false).run Tryz.prog wr.drew = .ok (.int .i64 (si.tab x : Nat)) wr.drew := by
          have h := (HMi.out.tT.of_heap (w' := wr.drew) rfl).look (t := 193) (e := 3) Tryz.underlying2 Tryz.underlying193 (zero_int wr.drew) hwx
          rw [HOKi.out.t x] at h; exact h
        obtain ⟨-, -, c2, -, -, -, -⟩ := HMi.out.cells
        obtain ⟨tx, htx⟩ : ∃ tx, tx = si.tab x := ⟨_, rfl⟩
        rw [← htx] at hlkT
        have HTX := Lib.hid htx
        have hjla : (j : Int) < (n : Int) := by omega
        have HSTq : Hid (TSt w3 w3.heap.size (.func (.func 125) #[] #[.pointer (some ⟨w.heap.size, 0, none⟩)]) bt bT bL bS lo si (2000 * si.idx) Fj wr.drew) := Lib.hid (by
          obtain ⟨a, b, c, d, e, f, g1, g2, g3⟩ := HST.out
          exact ⟨a, b, c, d, e, f, g1, g2.below (below_drewN (Below.refl _ _) 1), g3⟩)
        clear hx hjl htx hgN1 ho HOKi HMi HST
        have htx01 : ((tx : Int) == 0) = decide (tx = 0) := by
          by_cases h : tx = 0
          · simp [h]
          · rw [decide_eq_false h, beq_eq_false_iff_ne]; omega
        go_upto_region 12 with fail
        refine wp_region_L (by kernel_rfl) (fun w' => w'.cell? ⟨bt, 2, none⟩ = some (.map (some bT)) ∧ (Instr.lookup 193 (.map (some bT)) (.int .i64 x) false).run Tryz.prog w' = .ok (.int .i64 (tx : Int)) w') [] ⟨c2, hlkT⟩ (fun hHeld => ?_)
        refine wpAnyL_take (i := 0) (v := ?_) rfl (by kernel_rfl) (by kernel_rfl) (by kernel_rfl) (by kernel_rfl) (fun _ _ _ h => h) (by kernel_rfl) ?_ hHeld ?_
        rotate_left
        · intro w hSw; obtain ⟨hs0, hs1⟩ := hSw; go_simp; all_goals with_reducible rfl
        simp only [Act.put]
        refine wpAnyL_take (i := 1) (v := ?_) rfl (by kernel_rfl) (by kernel_rfl) (by kernel_rfl) (by kernel_rfl) (fun _ _ _ h => h) (by kernel_rfl) ?_ hHeld ?_
        rotate_left
        · intro w hSw; obtain ⟨hs0, hs1⟩ := hSw; go_simp; all_goals with_reducible rfl
        simp only [Act.put]
        refine wpAnyL_take (i := 2) (v := ?_) rfl (by kernel_rfl) (by kernel_rfl) (by kernel_rfl) (by kernel_rfl) (fun _ _ _ h => h) (by kernel_rfl) ?_ hHeld ?_
        rotate_left
        · intro w hSw; obtain ⟨hs0, hs1⟩ := hSw; go_simp; all_goals with_reducible rfl
        simp only [Act.put]
        refine wpAnyL_one (i := 3) rfl (by kernel_rfl) (by kernel_rfl) (fun K hK => ?_)
        go_simp
        refine (nodeID_calls x wr.drew).mono ?_
        rintro e w' ⟨rfl, rfl⟩
        refine hK.out _ _ (.inr hHeld) ?_
        clear hK K
        refine wpAnyL_take (i := 4) (v := ?_) rfl (by kernel_rfl) (by kernel_rfl) (by kernel_rfl) (by kernel_rfl) (fun _ _ _ h => h) (by kernel_rfl) ?_ hHeld ?_
        rotate_left
        · intro w hSw; obtain ⟨hs0, hs1⟩ := hSw; go_simp; all_goals with_reducible rfl
        simp only [Act.put]
        refine wpAnyL_one (i := 5) rfl (by kernel_rfl) (by kernel_rfl) (fun K hK => ?_)
        go_simp
        refine hK.out _ _ (.inr hHeld) ?_
        clear hK K
        refine wpAnyL_done (by kernel_rfl) ?_ _
        clear hHeld hlkT c2 q1
        by_cases h0 : tx = 0
        · have ht0 : ((tx : Int) == 0) = true := by simp [h0]
          clear htx01
          go_wp2_with fail
          refine (strong_calls HSF.out HWF.out HADJ.out HDEG.out HIDS.out (unm ids si.tab) [] si x (2000 * si.idx) Fj wr.drew (Nat.le_refl _) ?hinv (fun _ h => nomatch h) (by rw [← HTX.out]; exact h0) HXI.out HALL.out.sub (by have := HALL.out.inv; have := HIDS.out; omega) HSTq.out (by have := HALL.out.inv; have := HIDS.out; omega)).mono ?_
          case hinv => exact (HR.out.inv TInv.start).1
          rintro e w8 ⟨rfl, s8, F8, hs8, hst8, -, -⟩
          have hR8 := Lib.hid (by rw [HX.out]; exact HR.out.append (TRun.visit (by rw [← HTX.out]; exact h0) hs8 (TRun.nil _)) : TRun adj TS.start (nl.take (j + 1)) (s8.leave x))
          have hi8 : si.idx ≤ s8.idx := by
            have h1 := (hs8.cnt HADJ.out (fun y hy => HADJ.out x y hy)).idx
            have h2 : (si.enter x).idx = si.idx + 1 := rfl
            omega
          have HST8 : Hid (TSt w3 w3.heap.size (.func (.func 125) #[] #[.pointer (some ⟨w.heap.size, 0, none⟩)]) bt bT bL bS lo (s8.leave x) (2000 * (s8.leave x).idx) F8 w8) := Lib.hid (by
            rw [(leave_tab s8 x).2.1]
            rw [show 2000 * s8.idx = 2000 * si.idx + 2000 * (s8.idx - si.idx) by omega]
            exact hst8)
          clear hs8 hst8 hi8 HSTq HR HALL HTX h0 ht0
          go_wp2_with fail
          go_roundw
          case rel => exact ⟨j + 1, _, _, by omega, by go_num, hR8, HST8⟩
          case measure => simp [intOf]; omega
        · have ht0 : ((tx : Int) == 0) = false := by rw [beq_eq_false_iff_ne]; omega
          have hR8 := Lib.hid (by rw [HX.out]; exact HR.out.append (TRun.skip (by rw [← HTX.out]; exact h0) (TRun.nil _)) : TRun adj TS.start (nl.take (j + 1)) si)
          have ht1 : decide (tx = 0) = false := by simp [h0]
          have ht2 : decide ((tx : Int) = 0) = false := by simp [h0]
          clear htx01 HR HALL HTX
          go_wp2_with fail
          go_roundw
          case rel => exact ⟨j + 1, _, _, by omega, by go_num, hR8, HSTq⟩
          case measure => simp [intOf]; omega
      · obtain ⟨-, -, -, -, -, -, c6⟩ := HMi.out.cells
        have HR8 : Hid (TRun adj TS.start nl si) := Lib.hid (by
          have h := HR.out
          rw [List.take_of_length_le (by have := HNN.out; omega)] at h
          exact h)
        have HS8 := Lib.hid HMi.out.scc
        have HB8 : Hid (Below w.heap.size w wr) := Lib.hid (HBW.out.trans (HMi.out.base.mono HBW.out.size))
        clear HR HMi HST HALL HOKi
        go_wp2_with fail
        go_ret
        exact ⟨_, us, si, rfl, by first | (rw [← HNE.out]; exact HR8.out) | exact HR8.out, HS8.out.lower (by have := HBW.out.size; have := HLO.out; omega), HB8.out⟩
end Go.Proofs.YtnfkbjgijelfdaaGreat
namespace Go.Proofs.YtnfkbjgijelfdaaGreat
open Go.RowKit Go.Sort

def OrdPost (B : Nat) (v : Value) (l : List Int) (w : World) (e : Ending) (w' : World) : Prop :=
  e = .returned (.tuple #[]) ∧ w'.ownsRow B 103 1 v l.length (l.map nodeV) ∧ w.grownBy w' v.ownBlock

theorem cmp64_le (x y : Int) : (!(ltOf cmp64) y x) = decide (x ≤ y) := by
  rw [cmp64_lt]
  by_cases h : y < x
  · rw [decide_eq_true h, decide_eq_false (by omega)]; rfl
  · rw [decide_eq_false h, decide_eq_true (by omega)]; rfl

set_option maxHeartbeats 1000000 in
theorem byIDS_calls (B : Nat) (v : Value) (ns : List Int) (w : World) (ho : w.ownsRow B 103 1 v ns.length (ns.map nodeV)) (hn : ns.length ≤ 1000000) :
    Calls Tryz.prog 141 #[v] w (OrdPost B v (sortI ns) w) := by
  obtain ⟨a0, c0, rfl⟩ := own_shape' ho
  have hsl := sortI_len ns
  by_cases h0 : ns.length = 0
  · have hns : ns = [] := List.eq_nil_of_length_eq_zero h0
    subst hns
    have HO := Lib.hid ho; clear ho
    have HSL := Lib.hid hsl; clear hsl
    go_enter Tryz.func141, Tryz.ntmps141
    go_wp2_with fail
    refine (Tryz.slices_SortFunc_none_f67 (α := Int) a0 c0 _ w).mono ?_
    rintro e w' ⟨rfl, rfl⟩
    go_wp2_with fail
    go_end0
    exact ⟨rfl, by simpa [sortI] using HO.out, ⟨rfl, rfl, rfl, Nat.le_refl _, fun _ _ _ => rfl⟩⟩
  · obtain ⟨g, c, e, hg0, hg1, hm1, hm2, -, hH⟩ := Lib.holds_of_ownsRow ho (by
      intro e
      simp only [Value.slice.injEq] at e
      exact h0 e.2.1)
    simp only [Value.slice.injEq, true_and] at e
    obtain ⟨rfl, rfl⟩ := e
    have hsz : ns.toArray.size = ns.length := by simp
    have hc := Tryz.slices_SortFunc_total_f67 (α := Int) nodeV (fun _ => rfl) cmp64 cmp64_swo 169 #[] g 0 c0 ns.toArray w
      Tryz.call169
      (fun m os dk _ x y => (cmpNode_calls x y _).mono fun e w' ⟨h1, h2⟩ => ⟨h1, 0, #[], by rw [h2, grow_empty]; rfl⟩) hH hg1 (by rw [hsz]; omega) (fun x y h1 h2 => by
        rw [cmp64_lt] at h1 h2
        simp only [decide_eq_false_iff_not] at h1 h2
        omega)
    rw [hsz] at hc
    have hsort : (ns.toArray.toList.mergeSort fun x y => !(ltOf cmp64) y x) = sortI ns := by
      unfold sortI
      congr 1
      funext x y
      exact cmp64_le x y
    rw [hsort] at hc
    have HC := Lib.hid hc
    have HO := Lib.hid ho
    have HSL := Lib.hid hsl
    clear hc ho hH hsort hsl
    go_enter Tryz.func141, Tryz.ntmps141
    go_wp2_with fail
    refine HC.out.mono ?_
    rintro e w' ⟨rfl, q, os, hw'⟩
    have hgr : w.grownBy w' (some g) := by rw [hw']; exact grownBy_sortN nodeV (sortI ns).toArray
    have hrow : w'.ownsRow B 103 1 (.slice (some ⟨g, 0, none⟩) ns.length c0) ns.length ((sortI ns).map nodeV) := by
      have h2 := Lib.ownsRow_putRow (q := q) HO.out (ys := sortI ns) HSL.out (Nat.le_refl _)
      rw [List.take_of_length_le (by rw [HSL.out]; exact Nat.le_refl _)] at h2
      rw [hw']
      unfold sortWorld
      exact ownsRow_growN h2
    have HG := Lib.hid hgr; have HW := Lib.hid hrow
    clear hw' hgr hrow
    go_wp2_with fail
    go_end0
    exact ⟨rfl, by rw [HSL.out]; exact HW.out, HG.out⟩

set_option maxHeartbeats 1000000 in
theorem lexicalN_calls (B : Nat) (v : Value) (ns : List Int) (w : World) (ho : w.ownsRow B 103 1 v ns.length (ns.map nodeV)) (hn : ns.length ≤ 1000000) :
    Calls Tryz.prog 92 #[v] w (OrdPost B v (sortI ns) w) := by
  have HC := Lib.hid (byIDS_calls B v ns w ho hn)
  clear ho
  go_enter Tryz.func92, Tryz.ntmps92
  go_wp2_with fail
  refine HC.out.mono ?_
  rintro e w1 ⟨rfl, h1, h2⟩
  have H1 := Lib.hid h1; have H2 := Lib.hid h2
  clear h1 h2
  go_wp2_with fail
  go_end0
  exact ⟨rfl, H1.out, H2.out⟩

/-- A function that puts nodes in an order in place. -/
structure OrderF (fO : FuncId) (cO : Array Value) (wB : World) (B0 : Nat) (ids : List Int) (srt : List Int → List Int) : Prop where
  eO : ∀ args w, (callFunc fO args).run Tryz.prog w = .ok (.enter fO args) w
  perm : ∀ l, (srt l).Perm l
  sorts : ∀ (w : World) (v : Value) (l : List Int) (B : Nat), (∀ x ∈ l, x ∈ ids) → l.length ≤ 1000 → B0 ≤ B → Below B0 wB w → w.ownsRow B 103 1 v l.length (l.map nodeV) → Calls Tryz.prog fO (#[v] ++ cO) w (OrdPost B v (srt l) w)
theorem OrderF.later {fO : FuncId} {cO : Array Value} {wB wB' : World} {B0 B0' : Nat} {ids : List Int} {srt : List Int → List Int} (h : OrderF fO cO wB B0 ids srt) (hb : Below B0 wB wB') (hB : B0 ≤ B0') : OrderF fO cO wB' B0' ids srt :=
  ⟨h.eO, h.perm, fun w v l B h1 h2 h3 h4 h5 => h.sorts w v l B h1 h2 (Nat.le_trans hB h3) (hb.trans (h4.mono hB)) h5⟩
theorem lexOrder (wB : World) (B0 : Nat) (ids : List Int) : OrderF 92 #[] wB B0 ids sortI where
  eO := Tryz.call92
  perm := sortI_perm
  sorts := fun w v l B _ h2 _ _ h5 => lexicalN_calls B v l w h5 (by omega)
theorem OrderF.len {fO : FuncId} {cO : Array Value} {wB : World} {B0 : Nat} {ids : List Int} {srt : List Int → List Int} (h : OrderF fO cO wB B0 ids srt) (l : List Int) : (srt l).length = l.length := (h.perm l).length_eq
theorem OrderF.mem {fO : FuncId} {cO : Array Value} {wB : World} {B0 : Nat} {ids : List Int} {srt : List Int → List Int} (h : OrderF fO cO wB B0 ids srt) {l : List Int} {x : Int} : x ∈ srt l ↔ x ∈ l := (h.perm l).mem_iff

set_option maxHeartbeats 2000000 in
theorem succ2_calls {t : TypeId} {recv : Value} {fNs fFr : FuncId} {G : World → Prop} {ids : List Int} {adj : Int → List Int} (hA : GraphO t recv fNs fFr G ids adj) {fO : FuncId} {cO : Array Value} {wB : World} {B0 : Nat} {srt : List Int → List Int} (hO : OrderF fO cO wB B0 ids srt) (hadj : ∀ a, ∀ b ∈ adj a, b ∈ ids) (hdeg : ∀ a, (adj a).length ≤ 1000)
    (bg bo : Nat) (x : Int) (w : World) (hx : x ∈ ids) (hg : G w) (hB : B0 ≤ w.heap.size) (hw : Below B0 wB w) (hb : w.heap[bg]? = some (.cells #[.iface t recv] 139 (0, 0))) (hbo : w.heap[bo]? = some (.cells #[.func (.func fO) #[] cO] 106 (0, 0))) :
    Calls Tryz.prog 127 #[.int .i64 x, .pointer (some ⟨bg, 0, none⟩), .pointer (some ⟨bo, 0, none⟩)] w (SuccPost (srt (adj x)).reverse w) := by
  have c0 : w.cell? ⟨bg, 0, none⟩ = some (.iface t recv) := by rw [cell_of_row w _ _ _ _ (0, 0) hb]; rfl
  have c1 : w.cell? ⟨bo, 0, none⟩ = some (.func (.func fO) #[] cO) := by rw [cell_of_row w _ _ _ _ (0, 0) hbo]; rfl
  have hbl : bo < w.heap.size := (Array.getElem?_eq_some_iff.1 hbo).1
  have HA := Lib.hid hA; have HG := Lib.hid hg; have HX := Lib.hid hx; have HO := Lib.hid hO
  have HADJ := Lib.hid (hadj x); have HDEG := Lib.hid (hdeg x); have HW := Lib.hid hw
  have m3 := hA.mFrom; have m4 := hA.aFrom; have m6 := hA.eFrom; have m7 := hO.eO
  clear hA hg hx hb hO hadj hdeg hw hbo
  go_enter Tryz.func127, Tryz.ntmps127
  go_wp2_with fail
  refine (HA.out.frm w x HX.out HG.out).mono ?_
  rintro e w1 ⟨b1, rfl, hI1, hb1⟩
  have HI1 := Lib.hid hI1; have HB1 := Lib.hid hb1
  have hge1 : w.heap.size ≤ b1 := by obtain ⟨_, _, _, _, h, _⟩ := hI1; exact h
  clear hI1 hb1
  unfold iterV
  go_wp2_with fail
  have hNO1 := nodesOfG_calls w.heap.size b1 (adj x) w1 HI1.out
  unfold iterV at hNO1
  refine hNO1.mono ?_
  rintro e w2 ⟨vN, rfl, hoN, hg2, hvN⟩
  have hb2 : Below w.heap.size w w2 := HB1.out.grown hg2 HB1.out.size (fun j hj => by have e1 := Option.some.inj hj; omega)
  have HB2 := Lib.hid hb2
  have c12 := (hb2.cell (p := ⟨bo, 0, none⟩) hbl).trans c1
  have ho2 := own_lower hoN (B' := w.heap.size) (by first | exact Nat.le_refl _ | omega)
  obtain ⟨n, hn⟩ : ∃ n, n = (adj x).length := ⟨_, rfl⟩
  have HN := Lib.hid hn
  have hn1 : n ≤ 1000 := by rw [hn]; exact HDEG.out
  rw [← hn] at ho2
  obtain ⟨aN, cN, rfl⟩ := own_shape' ho2
  have HON := Lib.hid ho2
  clear hNO1 hoN hg2 hvN HI1 HB1 c0 c1 hn ho2 hb2
  have hcall := HO.out.sorts w2 (.slice aN n cN) (adj x) w.heap.size HADJ.out HDEG.out hB (HW.out.trans (HB2.out.mono hB)) (by rw [← HN.out]; exact HON.out)
  have HC := Lib.hid hcall
  clear hcall
  go_wp2_with fail
  refine HC.out.mono ?_
  rintro e w3 ⟨rfl, ho3, hg3⟩
  rw [HO.out.len, ← HN.out] at ho3
  have HB3 : Hid (Below w.heap.size w w3) := Lib.hid (HB2.out.grown hg3 HB2.out.size (fun j hj => (HON.out.lt j hj).1))
  have HO3 := Lib.hid ho3
  clear ho3 hg3 c12
  go_wp2_with fail
  refine (revN_calls w.heap.size (.slice aN n cN) n (srt (adj x)) w3 HO3.out (by omega)).mono ?_
  rintro e w4 ⟨rfl, ho4, hf4⟩
  have HB4 : Hid (Below w.heap.size w w4) := Lib.hid (HB3.out.trans (hf4.below (fun j hj => (HO3.out.lt j hj.symm).1) HB3.out.size))
  have HO4 := Lib.hid ho4
  clear ho4 hf4
  go_wp2_with fail
  go_ret
  refine ⟨_, rfl, ?_, HB4.out⟩
  rw [List.length_reverse, HO.out.len, ← HN.out]
  exact HO4.out
end Go.Proofs.YtnfkbjgijelfdaaGreat
namespace Go.Proofs.YtnfkbjgijelfdaaGreat
open Go.RowKit

theorem SuccF.of2 {t : TypeId} {recv : Value} {fNs fFr : FuncId} {G : World → Prop} {ids : List Int} {adj : Int → List Int} (hA : GraphO t recv fNs fFr G ids adj) {fO : FuncId} {cO : Array Value} {wB : World} {B : Nat} {srt : List Int → List Int} (hO : OrderF fO cO wB B ids srt) (hadj : ∀ a, ∀ b ∈ adj a, b ∈ ids) (hdeg : ∀ a, (adj a).length ≤ 1000)
    {bg bo B0 : Nat} {w : World} (hg : G w) (hB : B0 = w.heap.size) (hB1 : B ≤ B0) (hw : Below B wB w) (hb : w.heap[bg]? = some (.cells #[.iface t recv] 139 (0, 0))) (hbo : w.heap[bo]? = some (.cells #[.func (.func fO) #[] cO] 106 (0, 0))) {adj2 : Int → List Int} (h2 : adj2 = fun x => (srt (adj x)).reverse) :
    SuccF 127 #[.pointer (some ⟨bg, 0, none⟩), .pointer (some ⟨bo, 0, none⟩)] w B0 ids adj2 := by
  subst hB; subst h2
  refine ⟨Tryz.call127, fun w' x hx hw' => ?_⟩
  exact succ2_calls hA hO hadj hdeg bg bo x w' hx (hA.keeps _ _ hg hw') (by have := hw'.size; omega) (hw.trans (hw'.mono hB1)) ((hw'.block bg (Array.getElem?_eq_some_iff.1 hb).1).trans hb) ((hw'.block bo (Array.getElem?_eq_some_iff.1 hbo).1).trans hbo)

set_option maxHeartbeats 8000000 in
set_option maxRecDepth 100000 in
theorem tarjan1_calls {t : TypeId} {recv : Value} {fNs fFr : FuncId} {G : World → Prop} {ids : List Int} {adj : Int → List Int} (hA : GraphO t recv fNs fFr G ids adj) (w : World) {fO : FuncId} {cO : Array Value} {srt : List Int → List Int} (hO : OrderF fO cO w w.heap.size ids srt) (hg : G w) (hwf : ∀ y ∈ ids, (Lit.int .i64 y).wf = true) (hadj : ∀ a, ∀ b ∈ adj a, b ∈ ids) (hdeg : ∀ a, (adj a).length ≤ 1000) (hids : ids.length ≤ 1000) :
    Calls Tryz.prog 88 #[.iface t recv, .func (.func fO) #[] cO] w (TarPost (fun x => (srt (adj x)).reverse) (srt ids).reverse w) := by
  have HA := Lib.hid hA; have HG := Lib.hid hg; have HOF := Lib.hid hO
  have HIDS := Lib.hid hids; have HWF := Lib.hid hwf; have HADJ0 := Lib.hid hadj; have HDEG0 := Lib.hid hdeg
  have m1 := hA.mNodes; have m2 := hA.aNodes; have m5 := hA.eNodes; have m7 := method_ID; have m8 := hO.eO
  obtain ⟨adj2, hadj2⟩ : ∃ adj2 : Int → List Int, adj2 = fun x => (srt (adj x)).reverse := ⟨_, rfl⟩
  obtain ⟨nl, hnl⟩ : ∃ nl, nl = (srt ids).reverse := ⟨_, rfl⟩
  have HNL : Hid (∀ x, x ∈ nl ↔ x ∈ ids) := Lib.hid (fun x => by rw [hnl, List.mem_reverse, hO.mem])
  have HADJ : Hid (∀ a, ∀ b ∈ adj2 a, b ∈ ids) := Lib.hid (fun a b hb => by
    rw [hadj2] at hb
    exact hadj a b (hO.mem.1 (List.mem_reverse.1 hb)))
  have HDEG : Hid (∀ a, (adj2 a).length ≤ 1000) := Lib.hid (fun a => by
    rw [hadj2]
    show (srt (adj a)).reverse.length ≤ 1000
    rw [List.length_reverse, hO.len]; exact hdeg a)
  rw [← hadj2, ← hnl]
  have HNE : Hid (nl = nl) := Lib.hid rfl
  have HND := Lib.hid hnl; have HA2 := Lib.hid hadj2
  have heq : ∀ W, (binOp .eql 106 (.func (.func fO) #[] cO) .nilFunc).run Tryz.prog W = .ok (.bool false) W := fun _ => by first | kernel_rfl | rfl | simp [binOp]
  clear hA hg hids hwf hadj hdeg hnl hadj2 hO
  go_enter Tryz.func88, Tryz.ntmps88
  go_wp2_with fail
  obtain ⟨w1, hw1⟩ : ∃ w1, w1 = (w.alloc (.cells #[.iface t recv] 139)).alloc (.cells #[.func (.func fO) #[] cO] 106) := ⟨_, rfl⟩
  have HW1 := Lib.hid hw1
  have HB1 : Hid (Below w.heap.size w w1) := Lib.hid (by rw [hw1]; exact ((Below.refl _ _).alloc (Nat.le_refl _) _).alloc (by simp) _)
  have x1 : w1.heap[w.heap.size]? = some (.cells #[.iface t recv] 139 (0, 0)) := by rw [hw1, heap_alloc_old _ _ (by simp)]; exact heap_alloc_new w _
  have x2 : w1.heap[w.heap.size + 1]? = some (.cells #[.func (.func fO) #[] cO] 106 (0, 0)) := by
    have h := heap_alloc_new (w.alloc (.cells #[.iface t recv] 139)) (.cells #[.func (.func fO) #[] cO] 106)
    rw [hw1]; simpa using h
  have hs1 : w.heap.size + 1 < w1.heap.size := (Array.getElem?_eq_some_iff.1 x2).1
  have HX1 := Lib.hid x1; have HX2 := Lib.hid x2
  rw [← hw1]
  clear hw1 x1 x2
  refine (HA.out.nodes w1 (HA.out.keeps w w1 HG.out HB1.out)).mono ?_
  rintro e w2 ⟨b2, rfl, hI2, hb2⟩
  have HI2 := Lib.hid hI2; have HB2 := Lib.hid hb2
  have hge2 : w1.heap.size ≤ b2 := by obtain ⟨_, _, _, _, h, _⟩ := hI2; exact h
  clear hI2 hb2
  unfold iterV
  go_wp2_with fail
  have hNO2 := nodesOfG_calls w1.heap.size b2 ids w2 HI2.out
  unfold iterV at hNO2
  refine hNO2.mono ?_
  rintro e w3 ⟨vN, rfl, hoN, hg3, hvN⟩
  obtain ⟨aN, cN, rfl⟩ := own_shape' hoN
  have HB3 : Hid (Below w1.heap.size w1 w3) := Lib.hid (HB2.out.grown hg3 HB2.out.size (fun j hj => by have e1 := Option.some.inj hj; omega))
  have k2 : w3.cell? ⟨w.heap.size + 1, 0, none⟩ = some (.func (.func fO) #[] cO) := by rw [cell_of_row w3 _ _ _ _ (0, 0) ((HB3.out.block _ hs1).trans HX2.out)]; rfl
  obtain ⟨n, hnn⟩ : ∃ n, n = ids.length := ⟨_, rfl⟩
  have hn : n ≤ 1000 := by rw [hnn]; exact HIDS.out
  have HON3 := Lib.hid hoN
  have HC3 := Lib.hid (HOF.out.sorts w3 (.slice aN ids.length cN) ids w1.heap.size (fun _ h => h) HIDS.out HB1.out.size (HB1.out.trans (HB3.out.mono HB1.out.size)) hoN)
  rw [← hnn] at HC3 HON3 ⊢
  have HNI := Lib.hid hnn
  clear hNO2 hoN hg3 hvN HI2 HB2 hnn
  go_wp2_with fail
  refine HC3.out.mono ?_
  rintro e w4 ⟨rfl, ho4, hg4⟩
  rw [HOF.out.len, ← HNI.out] at ho4
  have HB4 : Hid (Below w1.heap.size w1 w4) := Lib.hid (HB3.out.grown hg4 HB3.out.size (fun j hj => (HON3.out.lt j hj).1))
  have HON4 := Lib.hid ho4
  clear ho4 hg4 HC3 HON3 k2
  go_wp2_with fail
  refine (revN_calls w1.heap.size (.slice aN n cN) n (srt ids) w4 HON4.out (by omega)).mono ?_
  rintro e w5 ⟨rfl, ho5, hf5⟩
  have HB5 : Hid (Below w1.heap.size w1 w5) := Lib.hid (HB4.out.trans (hf5.below (fun j hj => (HON4.out.lt j hj.symm).1) HB4.out.size))
  have HBW : Hid (Below w.heap.size w w5) := Lib.hid (HB1.out.trans (HB5.out.mono HB1.out.size))
  have HG5 : Hid (G w5) := Lib.hid (HA.out.keeps w w5 HG.out HBW.out)
  have HX5 : Hid (w5.heap[w.heap.size]? = some (.cells #[.iface t recv] 139 (0, 0))) := Lib.hid ((HB5.out.block _ (by omega)).trans HX1.out)
  have HY5 : Hid (w5.heap[w.heap.size + 1]? = some (.cells #[.func (.func fO) #[] cO] 106 (0, 0))) := Lib.hid ((HB5.out.block _ hs1).trans HX2.out)
  have HON : Hid (w5.ownsRow w1.heap.size 103 1 (.slice aN n cN) n (nl.map nodeV)) := Lib.hid (by rw [HND.out]; exact ho5)
  have HNN : Hid (n = nl.length) := Lib.hid (by rw [HND.out, List.length_reverse, HOF.out.len]; exact HNI.out)
  clear ho5 hf5 HON4 m8
  have k2 : True := trivial
  have hmm := @run_makeMap Tryz.prog
  have hmn : ∀ W : World, (Instr.makeMap 193 (some (.int .i64 n))).run Tryz.prog W = .ok (.map (some W.heap.size)) (W.alloc (.map #[] 0)) := fun W => by
    have h := run_makeMapN (P := Tryz.prog) 193 2 3 Tryz.underlying193 n W
    exact h

  obtain ⟨i0, hi0⟩ : ∃ i0 : Nat, i0 = 0 := ⟨_, rfl⟩
  clear hi0
  go_wp2_with fail
  go_upto_region 8 with fail
  go_cut [7] (fun p wc => TarNew (.func (.func 127) #[] #[.pointer (some ⟨w.heap.size, 0, none⟩), .pointer (some ⟨w.heap.size + 1, 0, none⟩)]) w5 p wc)
  case first =>
    go_region_with (fail)
    all_goals
      go_wp2_with fail
      go_meet
      apply Exists.intro; apply Exists.intro; apply Exists.intro; apply Exists.intro
      refine ⟨rfl, ?_, ?_⟩
      · first | exact (heap4 w5 _ _ _ _).2.2 | exact (heap4 w5 _ _ _ _).2.1 | exact (heap4 w5 _ _ _ _).1.2 | exact (heap4 w5 _ _ _ _).1.1
      · refine ⟨?_, ?_, ?_, ⟨?_, ?_, ?_, ?_, ?_, ?_⟩, ?_, ?_, ?_, ?_, ?_⟩
        all_goals first
          | omega
          | exact (heap4 w5 _ _ _ _).2.2 | exact (heap4 w5 _ _ _ _).2.1 | exact (heap4 w5 _ _ _ _).1.2 | exact (heap4 w5 _ _ _ _).1.1
          | exact below_drewN (((((Below.refl _ _).alloc (Nat.le_refl _) _).alloc (by simp) _).alloc (by simp; omega) _).alloc (by simp; omega) _) 1
          | skip
  case rest =>
    obtain ⟨bt, bT, bL, bS, rfl, x1, x2, x3, x4, hne, l1, l2, l3, l4, hbw⟩ := hcut
    obtain ⟨wd, rfl⟩ : ∃ wd : World, wd = wc := ⟨_, rfl⟩
    obtain ⟨F0, hst0⟩ := TSt.fresh (wB := w5) (B0 := w5.heap.size) x1 x2 x3 x4 hne l1 l2 l3 l4 hbw
    have HST0 := Lib.hid hst0
    obtain ⟨lo, hlo⟩ : ∃ lo, lo = wd.heap.size := ⟨_, rfl⟩
    have HLO : Hid (w5.heap.size ≤ lo) := Lib.hid (by rw [hlo]; exact hbw.size)
    rw [← hlo] at HST0
    have HSF := Lib.hid (SuccF.of2 HA.out HOF.out HADJ0.out HDEG0.out HG5.out rfl HBW.out.size HBW.out HX5.out HY5.out HA2.out)
    clear x1 x2 x3 x4 hne l1 l2 l3 l4 hbw hst0 hlo heq hmm hmn k2 hge2 hs1 m1 m2 m5
    go_wp2_with fail
    go_loopw [33] (fun ix wr => ∃ (j : Nat) (si : TS) (Fj : Nat → Prop), j ≤ n ∧ ix = .int .i64 j ∧ Hid (TRun adj2 TS.start (nl.take j) si) ∧ Hid (TSt w5 w5.heap.size (.func (.func 127) #[] #[.pointer (some ⟨w.heap.size, 0, none⟩), .pointer (some ⟨w.heap.size + 1, 0, none⟩)]) bt bT bL bS lo si (2000 * si.idx) Fj wr)) (fun ix _ => n - (intOf ix).toNat)
    case atStart => exact ⟨0, TS.start, F0, by omega, rfl, Lib.hid (TRun.nil _), HST0⟩
    case round =>
      obtain ⟨j, si, Fj, hj, rfl, HR, HST⟩ := hrel
      clear HST0
      have HALL := Lib.hid (HR.out.all HADJ.out (fun y hy => (HNL.out y).1 (List.mem_of_mem_take hy)))
      obtain ⟨gT, gL, gS, uK, uC, us, hok, hmem, hFx⟩ := HST.out
      have HOKi := Lib.hid hok; have HMi := Lib.hid hmem
      clear hok hmem hFx
      by_cases hlt : j < n
      · have hjl : j < nl.length := by rw [← HNN.out]; exact hlt
        obtain ⟨x, hx⟩ : ∃ x, x = nl[j] := ⟨_, rfl⟩
        have HX : Hid (nl.take (j + 1) = nl.take j ++ [x]) := Lib.hid (by rw [List.take_succ_eq_append_getElem hjl, hx])
        have HXI : Hid (x ∈ ids) := Lib.hid ((HNL.out x).1 (by rw [hx]; exact List.getElem_mem hjl))
        have hwx := HWF.out x HXI.out
        have ho : wr.ownsRow w1.heap.size 103 1 (.slice aN n cN) n (nl.map nodeV) := ownsRow_of_heap HON.out (fun g hg => HMi.out.base.block g (HON.out.lt g hg).2)
        obtain ⟨gN, cN', e, hgN1, hgN2, -⟩ := own_form ho (by omega)
        simp only [Value.slice.injEq, true_and] at e
        obtain ⟨rfl, rfl⟩ := e
        have q1 : wr.cell? ⟨gN, j, none⟩ = some (.iface 133 (.int .i64 x)) := (own_at ho (u := nodeV x) (by rw [List.getElem?_map, List.getElem?_eq_getElem hjl, hx]; rfl)).1
        have hlkT : (Instr.lookup 193 (.map (some bT)) (.int .i64 x) false).run Tryz.prog wr.drew = .ok (.int .i64 (si.tab x : Nat)) wr.drew := by
          have h := (HMi.out.tT.of_heap (w' := wr.drew) rfl).look (t := 193) (e := 3) Tryz.underlying2 Tryz.underlying193 (zero_int wr.drew) hwx
          rw [HOKi.out.t x] at h; exact h
        obtain ⟨-, -, c2, -, -, -, -⟩ := HMi.out.cells
        obtain ⟨tx, htx⟩ : ∃ tx, tx = si.tab x := ⟨_, rfl⟩
        rw [← htx] at hlkT
        have HTX := Lib.hid htx
        have hjla : (j : Int) < (n : Int) := by omega
        have HSTq : Hid (TSt w5 w5.heap.size (.func (.func 127) #[] #[.pointer (some ⟨w.heap.size, 0, none⟩), .pointer (some ⟨w.heap.size + 1, 0, none⟩)]) bt bT bL bS lo si (2000 * si.idx) Fj wr.drew) := Lib.hid (by
          obtain ⟨a, b, c, d, e, f, g1, g2, g3⟩ := HST.out
          exact ⟨a, b, c, d, e, f, g1, g2.below (below_drewN (Below.refl _ _) 1), g3⟩)
        clear hx hjl htx hgN1 ho HOKi HMi HST
        have htx01 : ((tx : Int) == 0) = decide (tx = 0) := by
          by_cases h : tx = 0
          · simp [h]
          · rw [decide_eq_false h, beq_eq_false_iff_ne]; omega
        go_upto_region 12 with fail
        refine wp_region_L (by kernel_rfl) (fun w' => w'.cell? ⟨bt, 2, none⟩ = some (.map (some bT)) ∧ (Instr.lookup 193 (.map (some bT)) (.int .i64 x) false).run Tryz.prog w' = .ok (.int .i64 (tx : Int)) w') [] ⟨c2, hlkT⟩ (fun hHeld => ?_)
        refine wpAnyL_take (i := 0) (v := ?_) rfl (by kernel_rfl) (by kernel_rfl) (by kernel_rfl) (by kernel_rfl) (fun _ _ _ h => h) (by kernel_rfl) ?_ hHeld ?_
        rotate_left
        · intro w hSw; obtain ⟨hs0, hs1⟩ := hSw; go_simp; all_goals with_reducible rfl
        simp only [Act.put]
        refine wpAnyL_take (i := 1) (v := ?_) rfl (by kernel_rfl) (by kernel_rfl) (by kernel_rfl) (by kernel_rfl) (fun _ _ _ h => h) (by kernel_rfl) ?_ hHeld ?_
        rotate_left
        · intro w hSw; obtain ⟨hs0, hs1⟩ := hSw; go_simp; all_goals with_reducible rfl
        simp only [Act.put]
        refine wpAnyL_take (i := 2) (v := ?_) rfl (by kernel_rfl) (by kernel_rfl) (by kernel_rfl) (by kernel_rfl) (fun _ _ _ h => h) (by kernel_rfl) ?_ hHeld ?_
        rotate_left
        · intro w hSw; obtain ⟨hs0, hs1⟩ := hSw; go_simp; all_goals with_reducible rfl
        simp only [Act.put]
        refine wpAnyL_one (i := 3) rfl (by kernel_rfl) (by kernel_rfl) (fun K hK => ?_)
        go_simp
        refine (nodeID_calls x wr.drew).mono ?_
        rintro e w' ⟨rfl, rfl⟩
        refine hK.out _ _ (.inr hHeld) ?_
        clear hK K
        refine wpAnyL_take (i := 4) (v := ?_) rfl (by kernel_rfl) (by kernel_rfl) (by kernel_rfl) (by kernel_rfl) (fun _ _ _ h => h) (by kernel_rfl) ?_ hHeld ?_
        rotate_left
        · intro w hSw; obtain ⟨hs0, hs1⟩ := hSw; go_simp; all_goals with_reducible rfl
        simp only [Act.put]
        refine wpAnyL_one (i := 5) rfl (by kernel_rfl) (by kernel_rfl) (fun K hK => ?_)
        go_simp
        refine hK.out _ _ (.inr hHeld) ?_
        clear hK K
        refine wpAnyL_done (by kernel_rfl) ?_ _
        clear hHeld hlkT c2 q1
        by_cases h0 : tx = 0
        · have ht0 : ((tx : Int) == 0) = true := by simp [h0]
          clear htx01
          go_wp2_with fail
          refine (strong_calls HSF.out HWF.out HADJ.out HDEG.out HIDS.out (unm ids si.tab) [] si x (2000 * si.idx) Fj wr.drew (Nat.le_refl _) ?hinv (fun _ h => nomatch h) (by rw [← HTX.out]; exact h0) HXI.out HALL.out.sub (by have := HALL.out.inv; have := HIDS.out; omega) HSTq.out (by have := HALL.out.inv; have := HIDS.out; omega)).mono ?_
          case hinv => exact (HR.out.inv TInv.start).1
          rintro e w8 ⟨rfl, s8, F8, hs8, hst8, -, -⟩
          have hR8 := Lib.hid (by rw [HX.out]; exact HR.out.append (TRun.visit (by rw [← HTX.out]; exact h0) hs8 (TRun.nil _)) : TRun adj2 TS.start (nl.take (j + 1)) (s8.leave x))
          have hi8 : si.idx ≤ s8.idx := by
            have h1 := (hs8.cnt HADJ.out (fun y hy => HADJ.out x y hy)).idx
            have h2 : (si.enter x).idx = si.idx + 1 := rfl
            omega
          have HST8 : Hid (TSt w5 w5.heap.size (.func (.func 127) #[] #[.pointer (some ⟨w.heap.size, 0, none⟩), .pointer (some ⟨w.heap.size + 1, 0, none⟩)]) bt bT bL bS lo (s8.leave x) (2000 * (s8.leave x).idx) F8 w8) := Lib.hid (by
            rw [(leave_tab s8 x).2.1]
            rw [show 2000 * s8.idx = 2000 * si.idx + 2000 * (s8.idx - si.idx) by omega]
            exact hst8)
          clear hs8 hst8 hi8 HSTq HR HALL HTX h0 ht0
          go_wp2_with fail
          go_roundw
          case rel => exact ⟨j + 1, _, _, by omega, by go_num, hR8, HST8⟩
          case measure => simp [intOf]; omega
        · have ht0 : ((tx : Int) == 0) = false := by rw [beq_eq_false_iff_ne]; omega
          have hR8 := Lib.hid (by rw [HX.out]; exact HR.out.append (TRun.skip (by rw [← HTX.out]; exact h0) (TRun.nil _)) : TRun adj2 TS.start (nl.take (j + 1)) si)
          have ht1 : decide (tx = 0) = false := by simp [h0]
          have ht2 : decide ((tx : Int) = 0) = false := by simp [h0]
          clear htx01 HR HALL HTX
          go_wp2_with fail
          go_roundw
          case rel => exact ⟨j + 1, _, _, by omega, by go_num, hR8, HSTq⟩
          case measure => simp [intOf]; omega
      · obtain ⟨-, -, -, -, -, -, c6⟩ := HMi.out.cells
        have HR8 : Hid (TRun adj2 TS.start nl si) := Lib.hid (by
          have h := HR.out
          rw [List.take_of_length_le (by have := HNN.out; omega)] at h
          exact h)
        have HS8 := Lib.hid HMi.out.scc
        have HB8 : Hid (Below w.heap.size w wr) := Lib.hid (HBW.out.trans (HMi.out.base.mono HBW.out.size))
        clear HR HMi HST HALL HOKi
        go_wp2_with fail
        go_ret
        exact ⟨_, us, si, rfl, by first | (rw [← HNE.out]; exact HR8.out) | exact HR8.out, HS8.out.lower (by have := HBW.out.size; have := HLO.out; omega), HB8.out⟩
end Go.Proofs.YtnfkbjgijelfdaaGreat
