/- The walks of graph.Undirect over a directed graph that read has made. -/
import Derived.Test.YtbkoifdnlaihfaaGreatPair3
import Derived.Test.YtbkoifdnlaihfaaGreatMeth
import Derived.Test.YtbkoifdnlaihfaaGreatInv
namespace Go.Proofs.YtbkoifdnlaihfaaGreat
open Go.RowKit

set_option maxHeartbeats 400000 in
theorem pairNode_calls (B Bb bn ba bb bm : Nat) (outs ins l : List Int) (x : Int) (w : World) (h : PairP B Bb bn ba bb bm outs ins w (some x) l) :
    Calls Tryz.prog 287 #[.pointer (some ⟨bn, 0, none⟩)] w fun e w' => e = .returned (nodeV x) ∧ w = w' := by
  obtain ⟨ka, kb, n, curr, idx, cnt, hp, hl, hc⟩ := h
  obtain ⟨q0, q1, q2, q3, q4, q5⟩ := hp.blk.cells
  have HC := Lib.hid (hc x rfl)
  clear hp hl hc
  go_enter Tryz.func287, Tryz.ntmps287
  go_wp2_with fail
  go_ret
  exact ⟨by rw [HC.out]; rfl, rfl⟩

theorem pair_isIter (B Bb bn ba bb bm E : Nat) (outs ins : List Int) (hE : bn < E) (hE2 : bm < E) (hwi : ∀ x ∈ ins, (Lit.int .i64 x).wf = true) :
    IsIter B E 296 (.pointer (some ⟨bn, 0, none⟩)) 286 287 (PairP B Bb bn ba bb bm outs ins) where
  mNext := fun w => by kernel_rfl
  aNext := fun w => by kernel_rfl
  mNode := fun w => by kernel_rfl
  aNode := fun w => by kernel_rfl
  eNext := Tryz.call286
  eNode := Tryz.call287
  next := fun w c l h => pairNext_calls B Bb bn ba bb bm E outs ins l c w h hE hwi
  node := fun w x l h => (pairNode_calls B Bb bn ba bb bm outs ins l x w h).mono fun e w' ⟨h1, h2⟩ => by
    subst h2
    exact ⟨h1, h, Within.refl _ _ _⟩
  keeps := fun w w' c l ⟨ka, kb, n, curr, idx, cnt, hp, hl, hc⟩ hb => by
    obtain ⟨o1, o2, o3, o4⟩ := hp.ord
    have hbB : Bb ≤ bb := by obtain ⟨a, c, _, _, h, _⟩ := hp.ib; exact h
    exact ⟨ka, kb, n, curr, idx, cnt, ⟨hp.blk.of_heap (hb.block bn hE), hp.ia.of_range (fun j _ j2 => hb.block j (by omega)), hp.ib.of_range (fun j _ j2 => hb.block j (by omega)), hp.map.of_heap (hb.block bm hE2), hp.ord⟩, hl, hc⟩

/-- A directed graph as an interface value. -/
def dirV (bp : Nat) : Value := .iface 73 (.agg #[.pointer (some ⟨bp, 0, none⟩)])

set_option maxHeartbeats 1000000 in
theorem undirNodes_calls (bp : Nat) (ids : List Int) (out inn : List Arcs) (w : World) (h : Gr bp ids out inn w) :
    Calls Tryz.prog 250 #[.agg #[dirV bp]] w (NewIter ids w) := by
  have H := Lib.hid h; clear h
  unfold dirV
  have m1 := dm_Nodes; have m2 := da_Nodes
  go_enter Tryz.func250, Tryz.ntmps250
  go_wp2_with fail
  refine (dNodes_calls bp ids out inn _ (H.out.later ((Below.refl _ _).alloc (Nat.le_refl _) _))).mono ?_
  rintro e w' ⟨bi, rfl, hit, hb⟩
  have HIT := Lib.hid (hit.lower (show w.heap.size ≤ _ by simp))
  have HB := Lib.hid (((Below.refl w.heap.size w).alloc (Nat.le_refl _) (.cells #[.iface 73 (.agg #[.pointer (some ⟨bp, 0, none⟩)])] 80)).trans (hb.mono (by simp)))
  clear hit hb
  go_wp2_with fail
  go_ret
  exact ⟨bi, rfl, HIT.out, HB.out⟩

def UndirFrom (outs ins : List Int) (w : World) (e : Ending) (w' : World) : Prop :=
  ∃ B Bb bn ba bb bm : Nat, e = .returned (.iface 296 (.pointer (some ⟨bn, 0, none⟩))) ∧ PairP B Bb bn ba bb bm outs ins w' none (outs ++ ins.filter (fun x => decide (x ∉ outs))) ∧ w.heap.size ≤ B ∧ bn < w'.heap.size ∧ bm < w'.heap.size ∧ Below w.heap.size w w'

set_option maxHeartbeats 2000000 in
set_option maxRecDepth 100000 in
theorem undirFrom_calls (bp : Nat) (ids : List Int) (out inn : List Arcs) (x : Int) (hx : x ∈ ids) (hwf : ∀ x ∈ ids, (Lit.int .i64 x).wf = true) (w : World) (h : Gr bp ids out inn w) :
    Calls Tryz.prog 247 #[.agg #[dirV bp], .int .i64 x] w (UndirFrom (nextL ids out x) (nextL ids inn x) w) := by
  have H := Lib.hid h
  obtain ⟨w0, a, c, hr, hs, hk⟩ := h
  have HX := Lib.hid hx; have HR := Lib.hid hr; have HS := Lib.hid hs; have HWF := Lib.hid hwf
  clear hr hs hx hwf
  unfold dirV
  have m1 := dm_Node; have m2 := da_Node; have m3 := dm_From; have m4 := da_From; have m5 := dm_To; have m6 := da_To
  go_enter Tryz.func247, Tryz.ntmps247
  go_wp2_with fail
  obtain ⟨w1, hw1⟩ : ∃ w1, w1 = w.alloc (.cells #[.iface 73 (.agg #[.pointer (some ⟨bp, 0, none⟩)])] 80) := ⟨_, rfl⟩
  have HB1 : Hid (Below w.heap.size w w1) := by rw [hw1]; exact (Below.refl _ _).alloc (Nat.le_refl _) _
  have z1 : w1.heap[w.heap.size]? = some (.cells #[.iface 73 (.agg #[.pointer (some ⟨bp, 0, none⟩)])] 80 (0, 0)) := by rw [hw1]; exact heap_alloc_new w _
  have hs1 : w.heap.size < w1.heap.size := (Array.getElem?_eq_some_iff.1 z1).1
  have y1 : w1.cell? ⟨w.heap.size, 0, none⟩ = some (.iface 73 (.agg #[.pointer (some ⟨bp, 0, none⟩)])) := by rw [cell_of_row w1 _ 0 _ _ (0, 0) z1]; rfl
  rw [← hw1]
  clear hw1 z1
  refine (dNode_calls w0 bp ids.length ids a c out inn x w1 (HR.out.later HB1.out) HS.out hk).mono ?_
  rintro e w2 ⟨he, hb2⟩
  rw [if_pos ((memB_iff _ _).2 HX.out)] at he
  subst he
  have HB2 := Lib.hid (HB1.out.trans (hb2.mono (Nat.le_of_lt hs1)))
  have hs2 : w.heap.size < w2.heap.size := Nat.lt_of_lt_of_le hs1 hb2.size
  have y2 := (hb2.cell (p := ⟨w.heap.size, 0, none⟩) hs1).trans y1
  clear hb2 y1 HB1
  go_wp2_with fail
  go_region_held3 (fun w' => w'.cell? ⟨w.heap.size, 0, none⟩ = some (.iface 73 (.agg #[.pointer (some ⟨bp, 0, none⟩)])))
    (go_keep)
    (first
      | (go_at_call 229; refine (dFrom_calls bp ids out inn x HX.out (w2.drewN 1) (H.out.later (below_drewN HB2.out 1))).mono ?_; rintro e w3 ⟨ba, rfl, hit, hb3⟩; have s3 := (hb3.cell (p := ⟨w.heap.size, 0, none⟩) hs2).trans y2; have hs3 : w2.heap.size ≤ w3.heap.size := hb3.size; have HIA := Lib.hid hit; have HB3 := Lib.hid ((below_drewN HB2.out 1).trans (hb3.mono (Nat.le_of_lt hs2))); clear hit hb3)
      | (go_at_call 234; refine (dTo_calls bp ids out inn x HX.out w3 (H.out.later HB3.out)).mono ?_; rintro e w4 ⟨bb, rfl, hit, hb4⟩; have s4 := (hb4.cell (p := ⟨w.heap.size, 0, none⟩) (show w.heap.size < w3.heap.size by omega)).trans s3; have HIB := Lib.hid hit; have HIA4 := Lib.hid (HIA.out.later hb4); have HB4 := Lib.hid (HB3.out.trans (hb4.mono (show w.heap.size ≤ w3.heap.size by omega))); have hs4 := hb4.size; clear hit hb4)
      | (go_at_call 252; refine (newPair_calls _ _ ba bb _ _ w4 HIA4.out HIB.out HIA.out.lt (fun y hy => HWF.out y (H.out.mem_out HX.out hy)) (fun y hy => HWF.out y (H.out.mem_in HX.out hy))).mono ?_; rintro e w5 ⟨bn, bm, n, cnt, rfl, hp, hb5⟩; have s5 := (hb5.cell (p := ⟨w.heap.size, 0, none⟩) (show w.heap.size < w2.heap.size from hs2)).trans s4; have HPP := Lib.hid hp; have HB5 := Lib.hid hb5; clear hp hb5))
  have hs5 : w4.heap.size ≤ w5.heap.size := HB5.out.size
  go_wp2
  go_ret
  exact ⟨_, _, bn, ba, bb, bm, rfl, ⟨0, 0, n, _, _, cnt, HPP.out, by simp, fun y hy => by cases hy⟩, Nat.le_of_lt hs2, HPP.out.blk.lt, HPP.out.map.lt, HB4.out.trans (HB5.out.mono (Nat.le_of_lt hs2))⟩
end Go.Proofs.YtbkoifdnlaihfaaGreat
