/- The walks of graph.UndirectWeighted over a directed graph that read has made. -/
import Derived.Test.YtbkoifdnlaihfaaGreatUndir
import Derived.Test.YtbkoifdnlaihfaaGreatWeight
import Derived.Test.YtbkoifdnlaihfaaGreatFloat
import Derived.Test.YtbkoifdnlaihfaaGreatUndirI
namespace Go.Proofs.YtbkoifdnlaihfaaGreat
open Go.RowKit

/-- What merges two weights: a closure over 'how'. -/
def clV (bh : Nat) : Value := .func (.func 53) #[] #[.pointer (some ⟨bh, 0, none⟩)]
def uwV (bp ab bh : Nat) : Value := .agg #[dirV bp, .float .f64 ab, clV bh]

def MergePost (how : Int) (x y : Nat) (w : World) (e : Ending) (w' : World) : Prop :=
  ∃ z : Nat, e = .returned (.float .f64 z) ∧ (how = 0 → ∀ r, floatBits .add .f64 x y = some r → z = r) ∧ Below w.heap.size w w'

set_option maxHeartbeats 1000000 in
theorem merge_calls (bh : Nat) (how : Int) (x y : Nat) (e1 e2 : Value) (w : World) (hc : w.cell? ⟨bh, 0, none⟩ = some (.int .i64 how)) :
    Calls Tryz.prog 53 #[.float .f64 x, .float .f64 y, e1, e2, .pointer (some ⟨bh, 0, none⟩)] w (MergePost how x y w) := by
  by_cases h0 : how = 0
  · subst h0
    obtain ⟨z, q, hr, hz⟩ := run_add_any Tryz.prog 86 x y w
    have HZ := Lib.hid hz; clear hz
    go_enter Tryz.func53, Tryz.ntmps53
    go_wp2_with fail
    go_ret
    exact ⟨z, rfl, fun _ => HZ.out, below_drewN (Below.refl _ _) _⟩
  · have g0 : (how == 0) = false := by simpa using h0
    by_cases h1 : how = 1
    · subst h1
      obtain ⟨z, q, hr⟩ := run_min_any Tryz.prog #[86, 86] 86 x y w
      go_enter Tryz.func53, Tryz.ntmps53
      go_wp2_with fail
      go_ret
      exact ⟨z, rfl, fun h => absurd h (by decide), below_drewN (Below.refl _ _) _⟩
    · have g1 : (how == 1) = false := by simpa using h1
      have H0 := Lib.hid h0
      clear h0 h1
      obtain ⟨z, q, hr⟩ := run_max_any Tryz.prog #[86, 86] 86 x y w
      go_enter Tryz.func53, Tryz.ntmps53
      go_wp2_with fail
      go_ret
      exact ⟨z, rfl, fun h => absurd h H0.out, below_drewN (Below.refl _ _) _⟩

set_option maxHeartbeats 1000000 in
theorem uwNodes_calls (bp ab bh : Nat) (ids : List Int) (out inn : List Arcs) (w : World) (h : Gr bp ids out inn w) :
    Calls Tryz.prog 257 #[uwV bp ab bh] w (NewIter ids w) := by
  have H := Lib.hid h; clear h
  unfold uwV clV dirV
  have m1 := dm_Nodes; have m2 := da_Nodes
  go_enter Tryz.func257, Tryz.ntmps257
  go_wp2_with fail
  refine (dNodes_calls bp ids out inn _ (H.out.later ((Below.refl _ _).alloc (Nat.le_refl _) _))).mono ?_
  rintro e w' ⟨bi, rfl, hit, hb⟩
  have HIT := Lib.hid (hit.lower (show w.heap.size ≤ _ by simp))
  have HB := Lib.hid (((Below.refl w.heap.size w).alloc (Nat.le_refl _) _).trans (hb.mono (by simp)))
  clear hit hb
  go_wp2_with fail
  go_ret
  exact ⟨bi, rfl, HIT.out, HB.out⟩

set_option maxHeartbeats 2000000 in
set_option maxRecDepth 100000 in
theorem uwFrom_calls (bp ab bh : Nat) (ids : List Int) (out inn : List Arcs) (x : Int) (hx : x ∈ ids) (hwf : ∀ x ∈ ids, (Lit.int .i64 x).wf = true) (w : World) (h : Gr bp ids out inn w) :
    Calls Tryz.prog 254 #[uwV bp ab bh, .int .i64 x] w (UndirFrom (nextL ids out x) (nextL ids inn x) w) := by
  have H := Lib.hid h
  obtain ⟨w0, a, c, hr, hs, hk⟩ := h
  have HX := Lib.hid hx; have HR := Lib.hid hr; have HS := Lib.hid hs; have HWF := Lib.hid hwf
  clear hr hs hx hwf
  unfold uwV clV dirV
  have m1 := dm_Node; have m2 := da_Node; have m3 := dm_From; have m4 := da_From; have m5 := dm_To; have m6 := da_To
  go_enter Tryz.func254, Tryz.ntmps254
  go_wp2_with fail
  obtain ⟨w1, hw1⟩ : ∃ w1, w1 = w.alloc (.cells #[.iface 73 (.agg #[.pointer (some ⟨bp, 0, none⟩)]), .float .f64 ab, .func (.func 53) #[] #[.pointer (some ⟨bh, 0, none⟩)]] 93) := ⟨_, rfl⟩
  have HB1 : Hid (Below w.heap.size w w1) := by rw [hw1]; exact (Below.refl _ _).alloc (Nat.le_refl _) _
  have z1 : w1.heap[w.heap.size]? = some (.cells #[.iface 73 (.agg #[.pointer (some ⟨bp, 0, none⟩)]), .float .f64 ab, .func (.func 53) #[] #[.pointer (some ⟨bh, 0, none⟩)]] 93 (0, 0)) := by rw [hw1]; exact heap_alloc_new w _
  have hs1 : w.heap.size < w1.heap.size := (Array.getElem?_eq_some_iff.1 z1).1
  have y1 : w1.cell? ⟨w.heap.size, 0, none⟩ = some (.iface 73 (.agg #[.pointer (some ⟨bp, 0, none⟩)])) := by rw [cell_of_row w1 _ 0 _ _ (0, 0) z1]; rfl
  rw [← hw1]
  clear hw1 z1
  refine (dNode_calls w0 bp ids.length ids a c out inn x w1 (HR.out.later HB1.out) HS.out hk).mono ?_
  rintro e w2 ⟨he, hb2⟩
  rw [if_pos ((memB_iff _ _).2 HX.out)] at he
  subst he
  have HB2 := Lib.hid (HB1.out.trans (hb2.mono (Nat.le_of_lt hs1)))
  have hs2 : w.heap.size < w2.heap.size := Nat.lt_of_lt_of_le hs1 hb2.size
  have y2 := (hb2.cell (p := ⟨w.heap.size, 0, none⟩) hs1).trans y1
  clear hb2 y1 HB1
  go_wp2_with fail
  go_region_held3 (fun w' => w'.cell? ⟨w.heap.size, 0, none⟩ = some (.iface 73 (.agg #[.pointer (some ⟨bp, 0, none⟩)])))
    (go_keep)
    (first
      | (go_at_call 229; refine (dFrom_calls bp ids out inn x HX.out (w2.drewN 1) (H.out.later (below_drewN HB2.out 1))).mono ?_; rintro e w3 ⟨ba, rfl, hit, hb3⟩; have s3 := (hb3.cell (p := ⟨w.heap.size, 0, none⟩) hs2).trans y2; have hs3 : w2.heap.size ≤ w3.heap.size := hb3.size; have HIA := Lib.hid hit; have HB3 := Lib.hid ((below_drewN HB2.out 1).trans (hb3.mono (Nat.le_of_lt hs2))); clear hit hb3)
      | (go_at_call 234; refine (dTo_calls bp ids out inn x HX.out w3 (H.out.later HB3.out)).mono ?_; rintro e w4 ⟨bb, rfl, hit, hb4⟩; have s4 := (hb4.cell (p := ⟨w.heap.size, 0, none⟩) (show w.heap.size < w3.heap.size by omega)).trans s3; have HIB := Lib.hid hit; have HIA4 := Lib.hid (HIA.out.later hb4); have HB4 := Lib.hid (HB3.out.trans (hb4.mono (show w.heap.size ≤ w3.heap.size by omega))); have hs4 := hb4.size; clear hit hb4)
      | (go_at_call 252; refine (newPair_calls _ _ ba bb _ _ w4 HIA4.out HIB.out HIA.out.lt (fun y hy => HWF.out y (H.out.mem_out HX.out hy)) (fun y hy => HWF.out y (H.out.mem_in HX.out hy))).mono ?_; rintro e w5 ⟨bn, bm, n, cnt, rfl, hp, hb5⟩; have s5 := (hb5.cell (p := ⟨w.heap.size, 0, none⟩) (show w.heap.size < w2.heap.size from hs2)).trans s4; have HPP := Lib.hid hp; have HB5 := Lib.hid hb5; clear hp hb5))
  have hs5 : w4.heap.size ≤ w5.heap.size := HB5.out.size
  go_wp2
  go_ret
  exact ⟨_, _, bn, ba, bb, bm, rfl, ⟨0, 0, n, _, _, cnt, HPP.out, by simp, fun y hy => by cases hy⟩, Nat.le_of_lt hs2, HPP.out.blk.lt, HPP.out.map.lt, HB4.out.trans (HB5.out.mono (Nat.le_of_lt hs2))⟩

theorem uw_graphV (bp ab bh : Nat) (ids : List Int) (out inn : List Arcs) (hwf : ∀ x ∈ ids, (Lit.int .i64 x).wf = true) :
    GraphV 93 (uwV bp ab bh) 257 254 (Gr bp ids out inn) ids (bothL ids out inn) where
  mNodes := fun w => by kernel_rfl
  aNodes := fun w => by kernel_rfl
  mFrom := fun w => by kernel_rfl
  aFrom := fun w => by kernel_rfl
  eNodes := Tryz.call257
  eFrom := Tryz.call254
  nodes := fun w hw => (uwNodes_calls bp ab bh ids out inn w hw).mono fun _ _ h => IterRes.of_new h
  frm := fun w x hx hw => (uwFrom_calls bp ab bh ids out inn x hx hwf w hw).mono fun e w' ⟨B, Bb, bn, ba, bb, bm, h1, h2, h3, h4, h5, h6⟩ =>
    ⟨_, _, _, _, _, h1, (pair_isIter B Bb bn ba bb bm w'.heap.size _ _ h4 h5 (fun y hy => hwf y (hw.mem_in hx hy))).lower h3, h2, h6⟩
  keeps := fun w w' h hb => h.later hb

/-- The weight that UndirectWeighted merges of two nodes' weights (the absent one where there is none), where they are added. -/
def uwAdd (ids : List Int) (out : List Arcs) (ab : Nat) (u v : Int) : Option Nat := floatBits .add .f64 ((wOf ids out u v).getD ab) ((wOf ids out v u).getD ab)

def UwWeight (ids : List Int) (out : List Arcs) (ab : Nat) (how u v : Int) (w : World) (e : Ending) (w' : World) : Prop :=
  ∃ (z : Nat) (b : Bool), e = .returned (.tuple #[.float .f64 z, .bool b]) ∧ (how = 0 → ∀ r, uwAdd ids out ab u v = some r → z = r) ∧ Below w.heap.size w w'

/-- The world within the method: the box of its receiver. -/
structure UwSt (w : World) (bp ab bh : Nat) (how : Int) (W : World) : Prop where
  below : Below w.heap.size w W
  box : W.heap[w.heap.size]? = some (.cells #[.iface 73 (.agg #[.pointer (some ⟨bp, 0, none⟩)]), .float .f64 ab, .func (.func 53) #[] #[.pointer (some ⟨bh, 0, none⟩)]] 93 (0, 0))
  how_ : W.cell? ⟨bh, 0, none⟩ = some (.int .i64 how)
  lt : bh < w.heap.size

theorem UwSt.later {w W W' : World} {bp ab bh : Nat} {how : Int} (h : UwSt w bp ab bh how W) (hb : Below W.heap.size W W') : UwSt w bp ab bh how W' := by
  have hl := (Array.getElem?_eq_some_iff.1 h.box).1
  have := h.lt
  exact ⟨h.below.trans (hb.mono (by omega)), (hb.block _ hl).trans h.box, (hb.cell (p := ⟨bh, 0, none⟩) (show bh < W.heap.size by omega)).trans h.how_, h.lt⟩
theorem UwSt.cells {w W : World} {bp ab bh : Nat} {how : Int} (h : UwSt w bp ab bh how W) :
    W.cell? ⟨w.heap.size, 0, none⟩ = some (.iface 73 (.agg #[.pointer (some ⟨bp, 0, none⟩)])) ∧ W.cell? ⟨w.heap.size, 1, none⟩ = some (.float .f64 ab) ∧
      W.cell? ⟨w.heap.size, 2, none⟩ = some (.func (.func 53) #[] #[.pointer (some ⟨bh, 0, none⟩)]) := by
  refine ⟨?_, ?_, ?_⟩ <;> (rw [cell_of_row W _ _ _ _ (0, 0) h.box]; rfl)

set_option maxHeartbeats 4000000 in
set_option maxRecDepth 100000 in
theorem uwWeight_calls (bp ab bh : Nat) (how : Int) (ids : List Int) (out inn : List Arcs) (u v : Int) (w : World) (h : Gr bp ids out inn w) (hh : w.cell? ⟨bh, 0, none⟩ = some (.int .i64 how)) (hlt : bh < w.heap.size) :
    Calls Tryz.prog 54 #[uwV bp ab bh, .int .i64 u, .int .i64 v] w (UwWeight ids out ab how u v w) := by
  obtain ⟨w0, a, c, hr, hs, hk⟩ := h
  have HR := Lib.hid hr; have HS := Lib.hid hs
  clear hr hs
  have HH := Lib.hid hh; clear hh
  unfold uwV clV dirV
  have m1 := dm_Edge; have m2 := da_Edge; have m3 := dm_Weight; have m4 := da_Weight
  have mq : ∀ (w : World) (bh : Nat), (binOp .eql 89 (.func (.func 53) #[] #[.pointer (some ⟨bh, 0, none⟩)]) .nilFunc).run Tryz.prog w = .ok (.bool false) w := fun w bh => by kernel_rfl
  go_enter Tryz.func54, Tryz.ntmps54
  go_wp2_with fail
  obtain ⟨w1, hw1⟩ : ∃ w1, w1 = w.alloc (.cells #[.iface 73 (.agg #[.pointer (some ⟨bp, 0, none⟩)]), .float .f64 ab, .func (.func 53) #[] #[.pointer (some ⟨bh, 0, none⟩)]] 93) := ⟨_, rfl⟩
  have HU1 : Hid (UwSt w bp ab bh how w1) := by
    have hb : Below w.heap.size w w1 := by rw [hw1]; exact (Below.refl _ _).alloc (Nat.le_refl _) _
    exact ⟨hb, by rw [hw1]; exact heap_alloc_new w _, (hb.cell (p := ⟨bh, 0, none⟩) hlt).trans HH.out, hlt⟩
  rw [← hw1]
  clear hw1
  obtain ⟨k0, k1, k2⟩ := HU1.out.cells
  refine (dEdgeV_calls w0 bp ids.length ids a c out inn u v w1 (HR.out.later HU1.out.below) HS.out hk).mono ?_
  rintro e w2 ⟨⟨e1, rfl⟩, hb⟩
  have HU2 := Lib.hid (HU1.out.later hb)
  clear hb k0 k1 k2 HU1
  obtain ⟨k0, k1, k2⟩ := HU2.out.cells
  go_wp2_with fail
  refine (dEdgeV_calls w0 bp ids.length ids a c out inn v u w2 (HR.out.later HU2.out.below) HS.out hk).mono ?_
  rintro e w3 ⟨⟨e2, rfl⟩, hb⟩
  have HU3 := Lib.hid (HU2.out.later hb)
  clear hb k0 k1 k2 HU2
  obtain ⟨k0, k1, k2⟩ := HU3.out.cells
  go_wp2_with fail
  refine (dWeight_calls w0 bp ids.length ids a c out inn u v w3 (HR.out.later HU3.out.below) HS.out hk).mono ?_
  rintro e w4 ⟨x, rfl, hx, hb⟩
  have HU4 := Lib.hid (HU3.out.later hb)
  clear hb k0 k1 k2 HU3
  obtain ⟨k0, k1, k2⟩ := HU4.out.cells
  have HX : Hid ((wOf ids out u v).getD ab = if (wOf ids out u v).isSome then x else ab) := by
    unfold Hid
    cases h : wOf ids out u v with
    | none => rfl
    | some y => rw [hx y h]; rfl
  clear hx
  obtain ⟨b1, hb1⟩ : ∃ b, (wOf ids out u v).isSome = b := ⟨_, rfl⟩
  have HB1 := Lib.hid hb1
  rw [hb1]
  clear hb1
  cases b1
  all_goals
    go_wp2_with fail
    refine (dWeight_calls w0 bp ids.length ids a c out inn v u w4 (HR.out.later HU4.out.below) HS.out hk).mono ?_
    rintro e w5 ⟨y, rfl, hy, hb⟩
    have HU5 := Lib.hid (HU4.out.later hb)
    clear hb k0 k1 k2 HU4
    obtain ⟨k0, k1, k2⟩ := HU5.out.cells
    have HY : Hid ((wOf ids out v u).getD ab = if (wOf ids out v u).isSome then y else ab) := by
      unfold Hid
      cases h : wOf ids out v u with
      | none => rfl
      | some y => rw [hy y h]; rfl
    clear hy
    obtain ⟨b2, hb2⟩ : ∃ b, (wOf ids out v u).isSome = b := ⟨_, rfl⟩
    have HB2 := Lib.hid hb2
    rw [hb2]
    clear hb2
    cases b2
    all_goals
      go_wp2_with fail
      refine (merge_calls bh how _ _ e1 e2 w5 HU5.out.how_).mono ?_
      rintro e w6 ⟨z, rfl, hz, hb⟩
      have HU6 := Lib.hid (HU5.out.later hb)
      have HZ := Lib.hid hz
      clear hb hz k0 k1 k2 HU5
      go_wp2_with fail
      go_ret2
      refine ⟨z, _, rfl, fun h0 r hr => HZ.out h0 r ?_, HU6.out.below⟩
      unfold uwAdd at hr
      rw [HX.out, HY.out, HB1.out, HB2.out] at hr
      exact hr
end Go.Proofs.YtbkoifdnlaihfaaGreat
