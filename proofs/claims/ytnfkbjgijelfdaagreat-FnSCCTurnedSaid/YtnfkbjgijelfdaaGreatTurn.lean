/- The walk of laws.turned. -/
import Derived.Test.YtnfkbjgijelfdaaGreatOut
import Derived.Test.YtnfkbjgijelfdaaGreatAdj
namespace Go.Proofs.YtnfkbjgijelfdaaGreat
open Go.RowKit

theorem turnE_succ (es : List (Int × Int × Int)) (k : Nat) (e : Int × Int × Int) (h : es[k]? = some e) : turnE (es.take (k + 1)) = turnE (es.take k) ++ [(e.2.1, e.1, e.2.2)] := by
  obtain ⟨hj, rfl⟩ := List.getElem?_eq_some_iff.1 h
  unfold turnE
  rw [List.take_succ_eq_append_getElem hj, List.map_append]
  rfl

set_option maxHeartbeats 4000000 in
set_option maxRecDepth 100000 in
theorem turned_calls (d : Bool) (an ae : Option Addr) (n cn m ce : Nat) (es : List (Int × Int × Int)) (w : World) (hr : RdE w ae m es) (hm : m ≤ 1000000) :
    Calls Tryz.prog 11 #[.agg #[.bool d, .slice an n cn, .slice ae m ce]] w fun e w' => ∃ ae' ce', e = .returned (.agg #[.bool d, .slice an n cn, .slice ae' m ce']) ∧ RdE w' ae' m (turnE es) ∧ Below w.heap.size w w' := by
  have HR := Lib.hid hr; clear hr
  go_enter Tryz.func11, Tryz.ntmps11
  go_wp2_with fail
  obtain ⟨w4, hw4⟩ : ∃ w4, w4 = (((w.alloc (.cells #[.bool d, .slice an n cn, .slice ae m ce] 25)).alloc (.cells #[.bool false, .slice none 0 0, .slice none 0 0] 25)).alloc (.cells #[.bool d, .slice an n cn, .slice none 0 0] 25)) := ⟨_, rfl⟩
  have HB4 : Hid (Below w.heap.size w w4) := by rw [hw4]; exact (((Below.refl _ _).alloc (Nat.le_refl _) _).alloc (by simp) _).alloc (by simp; omega) _
  have z0 : Hid (w4.heap[w.heap.size]? = some (.cells #[.bool d, .slice an n cn, .slice ae m ce] 25 (0, 0))) := by
    rw [hw4]
    show (World.alloc _ _).heap[_]? = _
    rw [heap_alloc_old _ _ (by simp; omega), heap_alloc_old _ _ (by simp)]; exact heap_alloc_new w _
  have z1 : Hid (w4.heap[w.heap.size + 1]? = some (.cells #[.bool false, .slice none 0 0, .slice none 0 0] 25 (0, 0))) := by
    rw [hw4]
    show (World.alloc _ _).heap[_]? = _
    rw [heap_alloc_old _ _ (by simp)]
    have h := heap_alloc_new (w.alloc (.cells #[.bool d, .slice an n cn, .slice ae m ce] 25)) (.cells #[.bool false, .slice none 0 0, .slice none 0 0] 25)
    simpa using h
  have z2 : Hid (w4.heap[w.heap.size + 2]? = some (.cells #[.bool d, .slice an n cn, .slice none 0 0] 25 (0, 0))) := by
    rw [hw4]
    have h := heap_alloc_new ((w.alloc (.cells #[.bool d, .slice an n cn, .slice ae m ce] 25)).alloc (.cells #[.bool false, .slice none 0 0, .slice none 0 0] 25)) (.cells #[.bool d, .slice an n cn, .slice none 0 0] 25)
    rw [show ((w.alloc (.cells #[.bool d, .slice an n cn, .slice ae m ce] 25)).alloc (.cells #[.bool false, .slice none 0 0, .slice none 0 0] 25)).heap.size = w.heap.size + 2 from by simp] at h
    exact h
  rw [← hw4]
  clear hw4
  have HS4 := Lib.hid (OutSt.start (w4 := w4) (bo := w.heap.size + 2) z2.out)
  have hsm := HR.out.small
  obtain ⟨i0, hi0, hz0, hz1, hz2⟩ := info_parts edge_info
  have HF := Lib.hid (And.intro hi0 (And.intro hz0 (And.intro hz1 hz2)))
  clear hi0 hz0 hz1 hz2
  go_loopw [4] (fun i wr => ∃ (k : Nat) (v : Value), i = .int .i64 k ∧ k ≤ m ∧ OutSt w4 (w.heap.size + 2) d (.slice an n cn) v k (turnE (es.take k)) wr) (fun i _ => m - (intOf i).toNat)
  case atStart => exact ⟨0, _, rfl, by omega, HS4.out⟩
  case round =>
    obtain ⟨k, v, rfl, hk, hst⟩ := hrel
    have HS := Lib.hid hst
    clear hst HS4
    have hlo := HS.out.lt
    have b0 : Hid (wr.heap[w.heap.size]? = some (.cells #[.bool d, .slice an n cn, .slice ae m ce] 25 (0, 0))) := (HS.out.below.block _ (by omega)).trans z0.out
    have b1 : Hid (wr.heap[w.heap.size + 1]? = some (.cells #[.bool false, .slice none 0 0, .slice none 0 0] 25 (0, 0))) := (HS.out.below.block _ (by omega)).trans z1.out
    have k2 : wr.cell? ⟨w.heap.size, 2, none⟩ = some (.slice ae m ce) := by rw [cell_of_row wr _ _ _ _ (0, 0) b0.out]; rfl
    obtain ⟨q0, q1, q2, q3⟩ := HS.out.cells
    have HBR : Hid (Below w.heap.size w wr) := HB4.out.trans (HS.out.below.mono (by omega))
    by_cases hlt : k < m
    · obtain ⟨b, off, rfl, hbb, hc⟩ := HR.out.at_ (by omega)
      obtain ⟨x, y, z, HX, c1, c2, c3⟩ := hc k hlt
      have e0 := (HBR.out.cell (p := ⟨b, _, none⟩) hbb).trans c1
      have e1 := (HBR.out.cell (p := ⟨b, _, none⟩) hbb).trans c2
      have e2 := (HBR.out.cell (p := ⟨b, _, none⟩) hbb).trans c3
      clear hc c1 c2 c3
      obtain ⟨a2, c2, rfl⟩ := own_shape' HS.out.edges
      obtain ⟨hi0, hz0, hz1, hz2⟩ := HF.out
      have hsmm : (k + 1) * 24 ≤ 140737488355328 := by omega
      have hmx : k + 1 ≤ maxLen := by unfold maxLen; omega
      go_wp2_with (at_builtin; refine wpList_append_own_at _ rfl _ _ 23 rfl (w.heap.size + 2 + 1) 41 i0 (.agg #[.int .i64 0, .int .i64 0, .int .i64 0]) 3 24 Tryz.underlying23 hi0 hz0 hz1 hz2 rfl (by decide) _ _ _ rfl ((HS.out.edges.alloc _).alloc _) ⟨wr.heap.size + 1, 0, none⟩ 1 1 [.int .i64 y, .int .i64 x, .int .i64 z] rfl rfl ?c1 ?c2 hmx hsmm ?c5 ?_)
      case c1 => exact World.news_of_block (cs := #[.int .i64 y, .int .i64 x, .int .i64 z]) (t := 41) (fr := (0, 0)) (by have h := heap_alloc_new (wr.alloc (.cells #[.int .i64 x, .int .i64 y, .int .i64 z] 41)) (.cells #[.int .i64 y, .int .i64 x, .int .i64 z] 41); simpa using h)
      case c2 => intro y hy; simp at hy; rcases hy with rfl | rfl | rfl <;> rfl
      case c5 => simp; omega
      intro v2 w7 hown7 hgrow7 _ hloc7
      obtain ⟨a3, c3, rfl⟩ := own_shape' hown7
      have HWA : Hid (Below wr.heap.size wr ((wr.alloc (.cells #[.int .i64 x, .int .i64 y, .int .i64 z] 41)).alloc (.cells #[.int .i64 y, .int .i64 x, .int .i64 z] 41))) := ((Below.refl _ _).alloc (Nat.le_refl _) _).alloc (by simp) _
      have hvb : ∀ j, j ≤ w.heap.size + 2 → some j ≠ (Value.slice a2 k c2).ownBlock := fun j hj e => by have := (HS.out.edges.lt j e.symm).1; omega
      have p2 : w7.cell? ⟨w.heap.size + 2, 2, none⟩ = some (.slice a2 k c2) := by
        rw [hgrow7.cell_far _ (by simp; omega) (hvb _ (Nat.le_refl _)), HWA.out.cell (p := ⟨w.heap.size + 2, 2, none⟩) hlo]; exact q2
      have f2 : w7.frozen? ⟨w.heap.size + 2, 2, none⟩ = false := by
        rw [hgrow7.frozen_far _ (by simp; omega) (hvb _ (Nat.le_refl _)), HWA.out.frozen (p := ⟨w.heap.size + 2, 2, none⟩) hlo]; exact q3
      have HS7 := Lib.hid (HS.out.more (e := (y, x, z)) HWA.out hown7 hgrow7)
      have HES : Hid (turnE (es.take (k + 1)) = turnE (es.take k) ++ [(y, x, z)]) := Lib.hid (turnE_succ es k _ HX.out)
      clear hown7 hgrow7 hloc7 q0 q1 q2 q3 hvb e0 e1 e2 k2
      go_wp2
      go_roundw
      case rel => exact ⟨k + 1, _, by go_num, by omega, by rw [HES.out]; exact HS7.out⟩
      case measure => simp [intOf]; omega
    · obtain rfl : k = m := by omega
      have y0 : wr.cell? ⟨w.heap.size + 1, 0, none⟩ = some (.bool false) := by rw [cell_of_row wr _ _ _ _ (0, 0) b1.out]; rfl
      have y1 : wr.cell? ⟨w.heap.size + 1, 1, none⟩ = some (.slice none 0 0) := by rw [cell_of_row wr _ _ _ _ (0, 0) b1.out]; rfl
      have y2 : wr.cell? ⟨w.heap.size + 1, 2, none⟩ = some (.slice none 0 0) := by rw [cell_of_row wr _ _ _ _ (0, 0) b1.out]; rfl
      have hf : ∀ j, wr.frozen? ⟨w.heap.size + 1, j, none⟩ = false := fun j => by simp [World.frozen?, b1.out]
      have hf0 := hf 0; have hf1 := hf 1; have hf2 := hf 2
      obtain ⟨a2, c2, rfl⟩ := own_shape' HS.out.edges
      clear hf
      go_wp2
      have HSE := HS.out
      rw [show es.take k = es from List.take_of_length_le (by have := HR.out.len; omega)] at HSE
      refine bodyPost_ret (v := .agg #[.bool d, .slice an n cn, .slice a2 k c2]) ?_ rfl ?_
      · simp [results, Tryz.results11, go_sem, y0, y1, y2]
      · have keep : ∀ g, g ≠ w.heap.size + 1 → (((wr.setCell ⟨w.heap.size + 1, 0, none⟩ (.bool d)).setCell ⟨w.heap.size + 1, 1, none⟩ (.slice an n cn)).setCell ⟨w.heap.size + 1, 2, none⟩ (.slice a2 k c2)).heap[g]? = wr.heap[g]? := fun g hg => by
          rw [Below.heap_setCell _ _ _ _ (fun e => hg e), Below.heap_setCell _ _ _ _ (fun e => hg e), Below.heap_setCell _ _ _ _ (fun e => hg e)]
        refine ⟨a2, c2, rfl, rdE_of_own (ownsRow_of_heap HSE.edges (fun g hg => keep g (by have := (HSE.edges.lt g hg).1; omega))), ((HBR.out.setCell ?_ _).setCell ?_ _).setCell ?_ _⟩ <;> show _ ≤ w.heap.size + 1 <;> omega
end Go.Proofs.YtnfkbjgijelfdaaGreat
