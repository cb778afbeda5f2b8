/- The walk of laws.shape. -/
import Derived.Test.YtbkoifdnlaihfaaGreatOut
import Derived.Test.YtbkoifdnlaihfaaGreatTable
namespace Go.Proofs.YtbkoifdnlaihfaaGreat
open Go.RowKit
attribute [local go_sem] slowLoad

/-- The edges without their weights. -/
def bareE (es : List (Int × Int × Int)) : List (Int × Int × Int) := es.map fun e => (e.1, e.2.1, (0 : Int))
theorem bareE_succ (es : List (Int × Int × Int)) (k : Nat) (e : Int × Int × Int) (h : es[k]? = some e) : bareE (es.take (k + 1)) = bareE (es.take k) ++ [(e.1, e.2.1, 0)] := by
  obtain ⟨hj, rfl⟩ := List.getElem?_eq_some_iff.1 h
  unfold bareE
  rw [List.take_succ_eq_append_getElem hj, List.map_append]
  rfl

set_option maxHeartbeats 4000000 in
set_option maxRecDepth 100000 in
theorem shape_calls (d : Bool) (an ae : Option Addr) (n cn m ce : Nat) (es : List (Int × Int × Int)) (w : World) (hr : RdE w ae m es) (hm : m ≤ 1000000) :
    Calls Tryz.prog 14 #[.agg #[.bool d, .slice an n cn, .slice ae m ce]] w fun e w' => ∃ ae' ce', e = .returned (.agg #[.bool d, .slice an n cn, .slice ae' m ce']) ∧ RdE w' ae' m (bareE es) ∧ Below w.heap.size w w' := by
  have HR := Lib.hid hr; clear hr
  go_enter Tryz.func14, Tryz.ntmps14
  go_wp2_with fail
  obtain ⟨w4, hw4⟩ : ∃ w4, w4 = (((w.alloc (.cells #[.bool d, .slice an n cn, .slice ae m ce] 25)).alloc (.cells #[.bool false, .slice none 0 0, .slice none 0 0] 25)).alloc (.cells #[.bool d, .slice an n cn, .slice none 0 0] 25)) := ⟨_, rfl⟩
  have HB4 : Hid (Below w.heap.size w w4) := by rw [hw4]; exact (((Below.refl _ _).alloc (Nat.le_refl _) _).alloc (by simp) _).alloc (by simp; omega) _
  have z0 : Hid (w4.heap[w.heap.size]? = some (.cells #[.bool d, .slice an n cn, .slice ae m ce] 25 (0, 0))) := by
    rw [hw4]
    show (World.alloc _ _).heap[_]? = _
    rw [heap_alloc_old _ _ (by simp; omega), heap_alloc_old _ _ (by simp)]; exact heap_alloc_new w _
  have z1 : Hid (w4.heap[w.heap.size + 1]? = some (.cells #[.bool false, .slice none 0 0, .slice none 0 0] 25 (0, 0))) := by
    rw [hw4]
    show (World.alloc _ _).heap[_]? = _
    rw [heap_alloc_old _ _ (by simp)]
    have h := heap_alloc_new (w.alloc (.cells #[.bool d, .slice an n cn, .slice ae m ce] 25)) (.cells #[.bool false, .slice none 0 0, .slice none 0 0] 25)
    simpa using h
  have z2 : Hid (w4.heap[w.heap.size + 2]? = some (.cells #[.bool d, .slice an n cn, .slice none 0 0] 25 (0, 0))) := by
    rw [hw4]
    have h := heap_alloc_new ((w.alloc (.cells #[.bool d, .slice an n cn, .slice ae m ce] 25)).alloc (.cells #[.bool false, .slice none 0 0, .slice none 0 0] 25)) (.cells #[.bool d, .slice an n cn, .slice none 0 0] 25)
    rw [show ((w.alloc (.cells #[.bool d, .slice an n cn, .slice ae m ce] 25)).alloc (.cells #[.bool false, .slice none 0 0, .slice none 0 0] 25)).heap.size = w.heap.size + 2 from by simp] at h
    exact h
  rw [← hw4]
  clear hw4
  have HS4 := Lib.hid (OutSt.start (w4 := w4) (bo := w.heap.size + 2) z2.out)
  have hsm := HR.out.small
  go_loopw [4] (fun i wr => ∃ (k : Nat) (v : Value), i = .int .i64 k ∧ k ≤ m ∧ OutSt w4 (w.heap.size + 2) d (.slice an n cn) v k (bareE (es.take k)) wr) (fun i _ => m - (intOf i).toNat)
  case atStart => exact ⟨0, _, rfl, by omega, HS4.out⟩
  case round =>
    obtain ⟨k, v, rfl, hk, hst⟩ := hrel
    have HS := Lib.hid hst
    clear hst HS4
    have hlo := HS.out.lt
    have b0 : Hid (wr.heap[w.heap.size]? = some (.cells #[.bool d, .slice an n cn, .slice ae m ce] 25 (0, 0))) := (HS.out.below.block _ (by omega)).trans z0.out
    have b1 : Hid (wr.heap[w.heap.size + 1]? = some (.cells #[.bool false, .slice none 0 0, .slice none 0 0] 25 (0, 0))) := (HS.out.below.block _ (by omega)).trans z1.out
    have k2 : wr.cell? ⟨w.heap.size, 2, none⟩ = some (.slice ae m ce) := by rw [cell_of_row wr _ _ _ _ (0, 0) b0.out]; rfl
    obtain ⟨q0, q1, q2, q3⟩ := HS.out.cells
    have HBR : Hid (Below w.heap.size w wr) := HB4.out.trans (HS.out.below.mono (by omega))
    by_cases hlt : k < m
    · obtain ⟨b, off, rfl, hbb, hc⟩ := HR.out.at_ (by omega)
      obtain ⟨x, y, z, HX, c1, c2, c3⟩ := hc k hlt
      have e0 := (HBR.out.cell (p := ⟨b, _, none⟩) hbb).trans c1
      have e1 := (HBR.out.cell (p := ⟨b, _, none⟩) hbb).trans c2
      clear hc c1 c2 c3
      obtain ⟨a2, c2, rfl⟩ := own_shape' HS.out.edges
      obtain ⟨i0, hi0, hz0, hz1, hz2⟩ := info_parts edge_info
      have hsmm : (k + 1) * 24 ≤ 140737488355328 := by omega
      have hmx : k + 1 ≤ maxLen := by unfold maxLen; omega
      have HWA : Hid (Below wr.heap.size wr ((wr.alloc (.cells #[.int .i64 x, .int .i64 y, .int .i64 0] 82)).drew)) := below_drewN ((Below.refl _ _).alloc (Nat.le_refl _) _) 1
      have NV : Hid (some (w.heap.size + 2) ≠ (Value.slice a2 k c2).ownBlock) := fun e => by have := (HS.out.edges.lt _ e.symm).1; omega
      have hbo : b ≤ w.heap.size + 2 := by omega
      have hne1 : w.heap.size ≠ w.heap.size + 2 := by omega
      have hne2 : b ≠ w.heap.size + 2 := by omega
      have NV' : Hid (∀ j, j ≤ w.heap.size + 2 → some j ≠ (Value.slice a2 k c2).ownBlock) := fun j hj e => by have := (HS.out.edges.lt _ e.symm).1; omega
      have FAR : Hid (∀ (g : World) (j i : Nat) (u : Value), j ≤ w.heap.size + 2 → ((wr.alloc (.cells #[.int .i64 x, .int .i64 y, .int .i64 0] 82)).drew).grownBy g (Value.slice a2 k c2).ownBlock → wr.cell? ⟨j, i, none⟩ = some u → g.cell? ⟨j, i, none⟩ = some u) := fun g j i u hj hg hc =>
        (hg.cell_far ⟨j, i, none⟩ (Nat.lt_of_lt_of_le (Nat.lt_of_le_of_lt hj hlo) HWA.out.size) (NV'.out j hj)).trans ((HWA.out.cell (p := ⟨j, i, none⟩) (Nat.lt_of_le_of_lt hj hlo)).trans hc)
      go_wp2_with fail
      rw [slow_load 23 (.tmp 17)]
      go_region_held3 (fun w' => w'.cell? ⟨w.heap.size, 2, none⟩ = some (.slice (some ⟨b, off, none⟩) m ce) ∧ w'.cell? ⟨b, off + k * 3, none⟩ = some (.int .i64 x) ∧ w'.cell? ⟨b, off + k * 3 + 1, none⟩ = some (.int .i64 y))
        (first | with_reducible exact s4 | with_reducible exact s5 _ | exact s5 _ | go_keep)
        ((refine step_append_lies _ (by rfl) _ _ _ (by rfl) (w.heap.size + 2 + 1) 82 i0 (.agg #[.int .i64 0, .int .i64 0, .int .i64 0]) 3 24 Tryz.underlying23 hi0 hz0 hz1 hz2 rfl (by decide) (.slice a2 k c2) k _ (by rfl) ((HS.out.edges.alloc _).drew) ⟨wr.heap.size, 0, none⟩ 1 1 [.int .i64 x, .int .i64 y, .int .i64 0] (by rfl) (by rfl) (World.news_of_block (cs := #[.int .i64 x, .int .i64 y, .int .i64 0]) (t := 82) (fr := (0, 0)) (by exact heap_alloc_new wr (.cells #[.int .i64 x, .int .i64 y, .int .i64 0] 82))) (by simp [Value.oneCell']) (by omega) hmx hsmm (by simp; omega) (wr.heap.size + 1) (by simp) ?_; intro g4 p4 x4 hown4 hgrow4 hat4 hlt4; have k4 := (hgrow4.cell_far ⟨w.heap.size + 2, 2, none⟩ (Nat.lt_of_lt_of_le hlo HWA.out.size) NV.out).trans ((HWA.out.cell (p := ⟨w.heap.size + 2, 2, none⟩) hlo).trans q2); have l4 := (hgrow4.frozen_far ⟨w.heap.size + 2, 2, none⟩ (Nat.lt_of_lt_of_le hlo HWA.out.size) NV.out).trans ((HWA.out.frozen (p := ⟨w.heap.size + 2, 2, none⟩) hlo).trans q3); have s4 := And.intro (FAR.out x4 w.heap.size 2 _ (by omega) hgrow4 k2) (And.intro (FAR.out x4 b (off + k * 3) _ hbo hgrow4 e0) (FAR.out x4 b (off + k * 3 + 1) _ hbo hgrow4 e1)); have s5 := fun u : Value => And.intro ((setCell_far x4 ⟨w.heap.size + 2, 2, none⟩ u (hne1)).trans s4.1) (And.intro ((setCell_far x4 ⟨w.heap.size + 2, 2, none⟩ u hne2).trans s4.2.1) ((setCell_far x4 ⟨w.heap.size + 2, 2, none⟩ u hne2).trans s4.2.2))))
      all_goals
        obtain ⟨w5, hw5⟩ : ∃ w5, w5 = x4.setCell ⟨w.heap.size + 2, 2, none⟩ (.slice (some ⟨g4, 0, none⟩) (k + 1) p4) := ⟨_, rfl⟩
        have HS5 : Hid (OutSt w4 (w.heap.size + 2) d (.slice an n cn) (.slice (some ⟨g4, 0, none⟩) (k + 1) p4) (k + 1) (bareE (es.take (k + 1))) w5) := by
          rw [hw5, bareE_succ es k _ HX.out]
          exact HS.out.more (e := (x, y, 0)) HWA.out hown4 hgrow4
        rw [← hw5]
        clear hw5 hown4 hgrow4 hat4 hlt4 k4 l4 q0 q1 q2 q3 k2 e0 e1
        go_wp2
        go_roundw
        case rel => exact ⟨k + 1, _, by go_num, by omega, HS5.out⟩
        case measure => simp [intOf]; omega
    · obtain rfl : k = m := by omega
      have y0 : wr.cell? ⟨w.heap.size + 1, 0, none⟩ = some (.bool false) := by rw [cell_of_row wr _ _ _ _ (0, 0) b1.out]; rfl
      have y1 : wr.cell? ⟨w.heap.size + 1, 1, none⟩ = some (.slice none 0 0) := by rw [cell_of_row wr _ _ _ _ (0, 0) b1.out]; rfl
      have y2 : wr.cell? ⟨w.heap.size + 1, 2, none⟩ = some (.slice none 0 0) := by rw [cell_of_row wr _ _ _ _ (0, 0) b1.out]; rfl
      have hf : ∀ j, wr.frozen? ⟨w.heap.size + 1, j, none⟩ = false := fun j => by simp [World.frozen?, b1.out]
      have hf0 := hf 0; have hf1 := hf 1; have hf2 := hf 2
      obtain ⟨a2, c2, rfl⟩ := own_shape' HS.out.edges
      clear hf
      go_wp2
      have HSE := HS.out
      rw [show es.take k = es from List.take_of_length_le (by have := HR.out.len; omega)] at HSE
      refine bodyPost_ret (v := .agg #[.bool d, .slice an n cn, .slice a2 k c2]) ?_ rfl ?_
      · simp [results, Tryz.results14, go_sem, y0, y1, y2]
      · have keep : ∀ g, g ≠ w.heap.size + 1 → (((wr.setCell ⟨w.heap.size + 1, 0, none⟩ (.bool d)).setCell ⟨w.heap.size + 1, 1, none⟩ (.slice an n cn)).setCell ⟨w.heap.size + 1, 2, none⟩ (.slice a2 k c2)).heap[g]? = wr.heap[g]? := fun g hg => by
          rw [Below.heap_setCell _ _ _ _ (fun e => hg e), Below.heap_setCell _ _ _ _ (fun e => hg e), Below.heap_setCell _ _ _ _ (fun e => hg e)]
        refine ⟨a2, c2, rfl, rdE_of_own (ownsRow_of_heap HSE.edges (fun g hg => keep g (by have := (HSE.edges.lt g hg).1; omega))), ((HBR.out.setCell ?_ _).setCell ?_ _).setCell ?_ _⟩ <;> show _ ≤ w.heap.size + 1 <;> omega

end Go.Proofs.YtbkoifdnlaihfaaGreat
