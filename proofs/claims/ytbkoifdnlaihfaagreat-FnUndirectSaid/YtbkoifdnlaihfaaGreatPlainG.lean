/- The walk of laws.plain. -/
import Derived.Test.YtbkoifdnlaihfaaGreatOut
import Derived.Test.YtbkoifdnlaihfaaGreatTable
namespace Go.Proofs.YtbkoifdnlaihfaaGreat
open Go.RowKit
attribute [local go_sem] slowLoad

/-- An element of a matrix, as it is read. -/
theorem mat_elem {α : Type} {enc : α → Value} {w : World} {lo n u v c : Nat} {a : Option Addr} {E E' : TypeId} {GA : Nat → Nat} {M : Nat → Nat → α} (ho : w.ownsRow lo E' 1 (.slice a n c) n ((List.range n).map (rowV n GA))) (hm : Mat enc w lo n n E GA M) (hu : u < n) (hv : v < n) :
    ∃ g, a = some ⟨g, 0, none⟩ ∧ g < w.heap.size ∧ w.cell? ⟨g, u, none⟩ = some (.slice (some ⟨GA u, 0, none⟩) n n) ∧ GA u < w.heap.size ∧ w.cell? ⟨GA u, v, none⟩ = some (enc (M u v)) := by
  obtain ⟨g, rfl, hc, -, cs, hg⟩ := own_elem ho hu
  refine ⟨g, rfl, (Array.getElem?_eq_some_iff.1 hg).1, ?_, hm.lt hu, hm.cell hu hv⟩
  rw [hc]; simp [hu, rowV]

/-- The edges of the plain form: those of one row, up to some column; those of the rows up to some row. -/
def plainAt (d : Bool) (ids : List Int) (es : List (Int × Int × Int)) (u j : Nat) : List (Int × Int × Int) :=
  ((List.range j).filter fun v => tabA d ids es u v && (d || decide (u < v))).map fun v => (ids.getD u 0, ids.getD v 0, tabW d ids es u v)
def plainUp (d : Bool) (ids : List Int) (es : List (Int × Int × Int)) (n k : Nat) : List (Int × Int × Int) := (List.range k).flatMap fun u => plainAt d ids es u n
theorem plainAt_succ (d : Bool) (ids : List Int) (es : List (Int × Int × Int)) (u j : Nat) :
    plainAt d ids es u (j + 1) = plainAt d ids es u j ++ (if tabA d ids es u j && (d || decide (u < j)) then [(ids.getD u 0, ids.getD j 0, tabW d ids es u j)] else []) := by
  unfold plainAt
  rw [List.range_succ, List.filter_append, List.map_append]
  have hf : ∀ p : Nat → Bool, [j].filter p = if p j = true then [j] else [] := fun p => by cases h : p j <;> simp [h]
  rw [hf]
  by_cases h : (tabA d ids es u j && (d || decide (u < j))) = true
  · rw [if_pos h, if_pos h]; rfl
  · rw [if_neg h, if_neg h]; rfl
theorem plainUp_succ (d : Bool) (ids : List Int) (es : List (Int × Int × Int)) (n k : Nat) : plainUp d ids es n (k + 1) = plainUp d ids es n k ++ plainAt d ids es k n := by
  unfold plainUp
  rw [List.range_succ, List.flatMap_append]
  simp

def PlainPost (d : Bool) (ns : List Int) (es : List (Int × Int × Int)) (w : World) (e : Ending) (w' : World) : Prop :=
  ∃ a c ae' m' ce', e = .returned (.agg #[.bool d, .slice a ns.length c, .slice ae' m' ce']) ∧ RdI w' a ns.length (sortI ns) ∧ RdE w' ae' m' (plainUp d (sortI ns) es ns.length ns.length) ∧ m' ≤ 1000000 ∧ Below w.heap.size w w'

set_option maxHeartbeats 8000000 in
set_option maxRecDepth 100000 in
theorem plain_calls (d : Bool) (an ae : Option Addr) (n cn m ce : Nat) (ns : List Int) (es : List (Int × Int × Int)) (w : World) (hn : RdI w an n ns) (hr : RdE w ae m es) (hn8 : n ≤ 999) (hw : wellB ns es = true) :
    Calls Tryz.prog 12 #[.agg #[.bool d, .slice an n cn, .slice ae m ce]] w (PlainPost d ns es w) := by
  have HR := Lib.hid hr; clear hr
  have HN := Lib.hid hn; clear hn
  have HWELL := Lib.hid hw; clear hw
  have HLEN := Lib.hid HN.out.len
  go_enter Tryz.func12, Tryz.ntmps12
  go_wp2_with fail
  obtain ⟨w1, hw1⟩ : ∃ w1, w1 = (w.alloc (.cells #[.bool d, .slice an n cn, .slice ae m ce] 25)).alloc (.cells #[.bool false, .slice none 0 0, .slice none 0 0] 25) := ⟨_, rfl⟩
  have HB1 : Hid (Below w.heap.size w w1) := by rw [hw1]; exact ((Below.refl _ _).alloc (Nat.le_refl _) _).alloc (by simp) _
  have z0 : w1.heap[w.heap.size]? = some (.cells #[.bool d, .slice an n cn, .slice ae m ce] 25 (0, 0)) := by
    rw [hw1, heap_alloc_old _ _ (by simp)]; exact heap_alloc_new w _
  have z1 : w1.heap[w.heap.size + 1]? = some (.cells #[.bool false, .slice none 0 0, .slice none 0 0] 25 (0, 0)) := by
    have h := heap_alloc_new (w.alloc (.cells #[.bool d, .slice an n cn, .slice ae m ce] 25)) (.cells #[.bool false, .slice none 0 0, .slice none 0 0] 25)
    rw [hw1]; simpa using h
  have hs1 : w1.heap.size = w.heap.size + 2 := by rw [hw1]; simp
  have HS1 := Lib.hid hs1
  rw [← hw1]
  clear hw1 hs1
  refine (tableOf_calls d an ae n cn m ce ns es w1 (HN.out.below HB1.out (Nat.le_refl _)) (HR.out.below HB1.out (Nat.le_refl _)) (by omega) HWELL.out).mono ?_
  rintro e w2 ⟨vN, vA, vW, lo, GA, GW, rfl, hlo, hoN, hoN2, hoA, hoW, hmA, hmW, hb2⟩
  rw [HLEN.out] at hoN hoA hoW hmA hmW
  obtain ⟨a1, c1, rfl⟩ := own_shape' hoN
  obtain ⟨a2, c2, rfl⟩ := own_shape' hoA
  obtain ⟨a3, c3, rfl⟩ := own_shape' hoW
  have HRN := Lib.hid (rd_of_own hoN)
  have HON := Lib.hid hoN
  have HNB : Hid (∀ g, (Value.slice a1 n c1).ownBlock = some g → w.heap.size + 2 ≤ g ∧ g < w2.heap.size) := fun g hg => by have := hoN.lt g hg; rw [HS1.out] at this; exact this
  have HOA := Lib.hid hoA; have HOW := Lib.hid hoW; have HMA := Lib.hid hmA; have HMW := Lib.hid hmW
  have HB2 := Lib.hid (HB1.out.trans (hb2.mono (by rw [HS1.out]; omega)))
  have y0 := (hb2.block w.heap.size (by rw [HS1.out]; omega)).trans z0
  have y1 := (hb2.block (w.heap.size + 1) (by rw [HS1.out]; omega)).trans z1
  have hs2 : w.heap.size + 2 ≤ w2.heap.size := by have := hb2.size; rw [HS1.out] at this; exact this
  have g0 : w2.cell? ⟨w.heap.size, 0, none⟩ = some (.bool d) := by rw [cell_of_row w2 _ _ _ _ (0, 0) y0]; rfl
  have hs0 : w.heap.size < w2.heap.size := by omega
  clear hoN hoN2 hoA hoW hmA hmW hb2 z0 z1 hlo
  go_wp2_with fail
  obtain ⟨w4, hw4⟩ : ∃ w4, w4 = (w2.alloc (.cells #[.slice a1 n c1, .slice a2 n c2, .slice a3 n c3] 60)).alloc (.cells #[.bool d, .slice a1 n c1, .slice none 0 0] 25) := ⟨_, rfl⟩
  have HB4 : Hid (Below w2.heap.size w2 w4) := by rw [hw4]; exact ((Below.refl _ _).alloc (Nat.le_refl _) _).alloc (by simp) _
  have z0 : Hid (w4.heap[w2.heap.size]? = some (.cells #[.slice a1 n c1, .slice a2 n c2, .slice a3 n c3] 60 (0, 0))) := by
    rw [hw4]
    show (World.alloc _ _).heap[_]? = _
    rw [heap_alloc_old _ _ (by simp)]; exact heap_alloc_new w2 _
  have z1 : Hid (w4.heap[w2.heap.size + 1]? = some (.cells #[.bool d, .slice a1 n c1, .slice none 0 0] 25 (0, 0))) := by
    rw [hw4]
    have h := heap_alloc_new (w2.alloc (.cells #[.slice a1 n c1, .slice a2 n c2, .slice a3 n c3] 60)) (.cells #[.bool d, .slice a1 n c1, .slice none 0 0] 25)
    show (World.alloc _ _).heap[_]? = _
    simpa using h
  rw [← hw4]
  clear hw4 g0
  have HS4 := Lib.hid (OutSt.start (w4 := w4) (bo := w2.heap.size + 1) z1.out)
  have Y0 := Lib.hid y0; have Y1 := Lib.hid y1
  clear y0 y1 HS1
  have tb : ∀ wr, Below (w2.heap.size + 1) w4 wr → wr.cell? ⟨w.heap.size, 0, none⟩ = some (.bool d) ∧ wr.cell? ⟨w2.heap.size, 0, none⟩ = some (.slice a1 n c1) ∧ wr.cell? ⟨w2.heap.size, 1, none⟩ = some (.slice a2 n c2) ∧ wr.cell? ⟨w2.heap.size, 2, none⟩ = some (.slice a3 n c3) := fun wr hb => by
    have h0 := (hb.block w.heap.size (by omega)).trans ((HB4.out.block w.heap.size (by omega)).trans Y0.out)
    have h1 := (hb.block w2.heap.size (by omega)).trans z0.out
    refine ⟨?_, ?_, ?_, ?_⟩
    · rw [cell_of_row wr _ _ _ _ (0, 0) h0]; rfl
    · rw [cell_of_row wr _ _ _ _ (0, 0) h1]; rfl
    · rw [cell_of_row wr _ _ _ _ (0, 0) h1]; rfl
    · rw [cell_of_row wr _ _ _ _ (0, 0) h1]; rfl
  have TB := Lib.hid tb
  clear tb
  obtain ⟨q0, q1, q2, q3⟩ := TB.out w4 (Below.refl _ _)
  go_loopw [5] (fun i wr => ∃ (k m' : Nat) (v : Value), i = .int .i64 k ∧ k ≤ n ∧ m' ≤ k * 1000 ∧ OutSt w4 (w2.heap.size + 1) d (.slice a1 n c1) v m' (plainUp d (sortI ns) es n k) wr) (fun i _ => n - (intOf i).toNat)
  case atStart => exact ⟨0, 0, _, rfl, by omega, by omega, HS4.out⟩
  case round =>
    obtain ⟨k, m1, v, rfl, hk, hm1, hst⟩ := hrel
    have HS := Lib.hid hst
    clear hst HS4 q0 q1 q2 q3
    obtain ⟨q0, q1, q2, q3⟩ := TB.out wr HS.out.below
    by_cases hlt : k < n
    · obtain ⟨wo, rfl⟩ : ∃ wo : World, wo = wr := ⟨_, rfl⟩
      obtain ⟨bN, oN, rfl, hbN, hcN⟩ := HRN.out.at_ (by omega)
      obtain ⟨x, HX, hcx⟩ := hcN k hlt
      have HCN := Lib.hid hcN
      clear hcN
      go_wp2_with fail
      go_loopw [6] (fun i wx => ∃ (j m' : Nat) (v' : Value), i = .int .i64 j ∧ j ≤ n ∧ m' ≤ k * 1000 + j ∧ OutSt w4 (w2.heap.size + 1) d (.slice (some ⟨bN, oN, none⟩) n c1) v' m' (plainUp d (sortI ns) es n k ++ plainAt d (sortI ns) es k j) wx) (fun i _ => n - (intOf i).toNat)
      case atStart => exact ⟨0, m1, v, rfl, by omega, by omega, by rw [show plainAt d (sortI ns) es k 0 = [] from rfl, List.append_nil]; exact HS.out⟩
      case round =>
        obtain ⟨j, m', v', rfl, hj, hm', hst⟩ := hrel
        have HS := Lib.hid hst
        clear hst q0 q1 q2 q3
        obtain ⟨q0, q1, q2, q3⟩ := TB.out wr HS.out.below
        by_cases hlj : j < n
        · obtain ⟨gA, rfl, hgA, eA1, hgA2, eA2⟩ := mat_elem HOA.out HMA.out hlt hlj
          obtain ⟨gW, rfl, hgW, eW1, hgW2, eW2⟩ := mat_elem HOW.out HMW.out hlt hlj
          obtain ⟨y, HY, hcy⟩ := HCN.out j hlj
          have HBR : Hid (Below w2.heap.size w2 wr) := HB4.out.trans (HS.out.below.mono (by omega))
          have rA1 := (HBR.out.cell (p := ⟨gA, _, none⟩) hgA).trans eA1
          have rA2 := (HBR.out.cell (p := ⟨GA k, _, none⟩) hgA2).trans eA2
          have rW1 := (HBR.out.cell (p := ⟨gW, _, none⟩) hgW).trans eW1
          have rW2 := (HBR.out.cell (p := ⟨GW k, _, none⟩) hgW2).trans eW2
          have rx := (HBR.out.cell (p := ⟨bN, _, none⟩) hbN).trans hcx
          have ry := (HBR.out.cell (p := ⟨bN, _, none⟩) hbN).trans hcy
          have HSU := Lib.hid (plainAt_succ d (sortI ns) es k j)
          rw [HX.out, HY.out] at HSU
          obtain ⟨bA, hbA⟩ : ∃ b, b = tabA d (sortI ns) es k j := ⟨_, rfl⟩
          obtain ⟨xW, hxW⟩ : ∃ b, b = tabW d (sortI ns) es k j := ⟨_, rfl⟩
          rw [← hbA] at rA2 HSU
          rw [← hxW] at rW2 HSU
          clear hbA hxW eA1 eA2 eW1 eW2 hcy
          have hj0 : (0 : Int) ≤ (j : Int) := Int.natCast_nonneg _
          have hj1 : (j : Int) < (n : Int) := by omega
          have hk0 : (0 : Int) ≤ (k : Int) := Int.natCast_nonneg _
          have hk1 : (k : Int) < (n : Int) := by omega
          by_cases hkeep : (bA && (d || decide (k < j))) = true
          · have HES : Hid (plainUp d (sortI ns) es n k ++ plainAt d (sortI ns) es k (j + 1) = (plainUp d (sortI ns) es n k ++ plainAt d (sortI ns) es k j) ++ [(x, y, xW)]) := by
              rw [HSU.out, if_pos hkeep, List.append_assoc]; exact Lib.hid rfl |>.out
            have hcase : (bA = true ∧ d = true) ∨ (bA = true ∧ d = false ∧ decide (k < j) = true ∧ k < j) := by
              cases bA <;> cases d <;> simp at hkeep ⊢ <;> omega
            obtain ⟨a5, c5, rfl⟩ := own_shape' HS.out.edges
            obtain ⟨i0, hi0, hz0, hz1, hz2⟩ := info_parts edge_info
            have hsmm : (m' + 1) * 24 ≤ 140737488355328 := by omega
            have hmx : m' + 1 ≤ maxLen := by unfold maxLen; omega
            have hlo := HS.out.lt
            obtain ⟨p0, p1, p2, p3⟩ := HS.out.cells
            have HWA : Hid (Below wr.heap.size wr ((wr.alloc (.cells #[.int .i64 x, .int .i64 y, .int .i64 xW] 82)).drew)) := below_drewN ((Below.refl _ _).alloc (Nat.le_refl _) _) 1
            have NV' : Hid (∀ j, j ≤ w2.heap.size + 1 → some j ≠ (Value.slice a5 m' c5).ownBlock) := fun j hj e => by have := (HS.out.edges.lt _ e.symm).1; omega
            have FAR : Hid (∀ (g : World) (j i : Nat) (u : Value), j ≤ w2.heap.size + 1 → ((wr.alloc (.cells #[.int .i64 x, .int .i64 y, .int .i64 xW] 82)).drew).grownBy g (Value.slice a5 m' c5).ownBlock → wr.cell? ⟨j, i, none⟩ = some u → g.cell? ⟨j, i, none⟩ = some u) := fun g j i u hj hg hc =>
              (hg.cell_far ⟨j, i, none⟩ (Nat.lt_of_lt_of_le (Nat.lt_of_le_of_lt hj hlo) HWA.out.size) (NV'.out j hj)).trans ((HWA.out.cell (p := ⟨j, i, none⟩) (Nat.lt_of_le_of_lt hj hlo)).trans hc)
            have hbN' : bN ≤ w2.heap.size + 1 := by omega
            have hgW' : gW ≤ w2.heap.size + 1 := by omega
            have hgX' : GW k ≤ w2.heap.size + 1 := by omega
            have hbN'' : bN ≠ w2.heap.size + 1 := by omega
            have hgW'' : gW ≠ w2.heap.size + 1 := by omega
            have hgX'' : GW k ≠ w2.heap.size + 1 := by omega
            have hbt : w2.heap.size ≠ w2.heap.size + 1 := by omega
            clear hkeep HSU
            rcases hcase with ⟨rfl, rfl⟩ | ⟨rfl, rfl, hdd, hdn⟩
            all_goals
              go_wp2_with fail
              rw [slow_load 23 (.tmp 45)]
              go_region_held3 (fun w' => w'.cell? ⟨w2.heap.size, 0, none⟩ = some (.slice (some ⟨bN, oN, none⟩) n c1) ∧ w'.cell? ⟨w2.heap.size, 2, none⟩ = some (.slice (some ⟨gW, 0, none⟩) n c3) ∧ w'.cell? ⟨gW, k, none⟩ = some (.slice (some ⟨GW k, 0, none⟩) n n) ∧ w'.cell? ⟨GW k, j, none⟩ = some (.int .i64 xW) ∧ w'.cell? ⟨bN, oN + k, none⟩ = some (.int .i64 x) ∧ w'.cell? ⟨bN, oN + j, none⟩ = some (.int .i64 y))
                (first | with_reducible exact s4 | with_reducible exact s5 _ | exact s5 _ | go_keep)
                ((refine step_append_lies _ (by rfl) _ _ _ (by rfl) (w2.heap.size + 1 + 1) 82 i0 (.agg #[.int .i64 0, .int .i64 0, .int .i64 0]) 3 24 Tryz.underlying23 hi0 hz0 hz1 hz2 rfl (by decide) (.slice a5 m' c5) m' _ (by rfl) ((HS.out.edges.alloc _).drew) ⟨wr.heap.size, 0, none⟩ 1 1 [.int .i64 x, .int .i64 y, .int .i64 xW] (by rfl) (by rfl) (World.news_of_block (cs := #[.int .i64 x, .int .i64 y, .int .i64 xW]) (t := 82) (fr := (0, 0)) (by exact heap_alloc_new wr (.cells #[.int .i64 x, .int .i64 y, .int .i64 xW] 82))) (by simp [Value.oneCell']) (by omega) hmx hsmm (by simp; omega) (wr.heap.size + 1) (by simp) ?_; intro g4 p4 x4 hown4 hgrow4 hat4 hlt4; have k4 := FAR.out x4 (w2.heap.size + 1) 2 _ (Nat.le_refl _) hgrow4 p2; have l4 := (hgrow4.frozen_far ⟨w2.heap.size + 1, 2, none⟩ (Nat.lt_of_lt_of_le hlo HWA.out.size) (NV'.out _ (Nat.le_refl _))).trans ((HWA.out.frozen (p := ⟨w2.heap.size + 1, 2, none⟩) hlo).trans p3); have s4 := And.intro (FAR.out x4 w2.heap.size 0 _ (by omega) hgrow4 q1) (And.intro (FAR.out x4 w2.heap.size 2 _ (by omega) hgrow4 q3) (And.intro (FAR.out x4 gW k _ hgW' hgrow4 rW1) (And.intro (FAR.out x4 (GW k) j _ hgX' hgrow4 rW2) (And.intro (FAR.out x4 bN (oN + k) _ hbN' hgrow4 rx) (FAR.out x4 bN (oN + j) _ hbN' hgrow4 ry))))); have s5 := fun u : Value => And.intro ((setCell_far x4 ⟨w2.heap.size + 1, 2, none⟩ u hbt).trans s4.1) (And.intro ((setCell_far x4 ⟨w2.heap.size + 1, 2, none⟩ u hbt).trans s4.2.1) (And.intro ((setCell_far x4 ⟨w2.heap.size + 1, 2, none⟩ u hgW'').trans s4.2.2.1) (And.intro ((setCell_far x4 ⟨w2.heap.size + 1, 2, none⟩ u hgX'').trans s4.2.2.2.1) (And.intro ((setCell_far x4 ⟨w2.heap.size + 1, 2, none⟩ u hbN'').trans s4.2.2.2.2.1) ((setCell_far x4 ⟨w2.heap.size + 1, 2, none⟩ u hbN'').trans s4.2.2.2.2.2)))))))
            all_goals
              obtain ⟨w5, hw5⟩ : ∃ w5, w5 = x4.setCell ⟨w2.heap.size + 1, 2, none⟩ (.slice (some ⟨g4, 0, none⟩) (m' + 1) p4) := ⟨_, rfl⟩
              have HS5 := Lib.hid (HS.out.more (e := (x, y, xW)) HWA.out hown4 hgrow4)
              rw [← hw5] at HS5 ⊢
              rw [← HES.out] at HS5
              clear hw5 hown4 hgrow4 hat4 hlt4 k4 l4 q0 q1 q2 q3 p0 p1 p2 p3 s4 s5 rA1 rA2 rW1 rW2 rx ry
              go_wp2
              go_roundw
              case rel => exact ⟨j + 1, m' + 1, _, by go_num, by omega, by omega, HS5.out⟩
              case measure => simp [intOf]; omega
          · have HES : Hid (plainAt d (sortI ns) es k (j + 1) = plainAt d (sortI ns) es k j) := by
              rw [HSU.out, if_neg hkeep, List.append_nil]; exact Lib.hid rfl |>.out
            have hcase : bA = false ∨ (bA = true ∧ d = false ∧ decide (k < j) = false ∧ ¬ k < j) := by
              cases bA <;> cases d <;> simp at hkeep ⊢ <;> omega
            have HS5 : Hid (OutSt w4 (w2.heap.size + 1) d (.slice (some ⟨bN, oN, none⟩) n c1) v' m' (plainUp d (sortI ns) es n k ++ plainAt d (sortI ns) es k (j + 1)) wr) := by rw [HES.out]; exact HS.out
            clear hkeep HSU
            rcases hcase with rfl | ⟨rfl, rfl, hdd, hdn⟩
            all_goals
              go_wp2_with fail
              go_roundw
              case rel => exact ⟨j + 1, m', v', by go_num, by omega, by omega, HS5.out⟩
              case measure => simp [intOf]; omega
        · obtain rfl : j = n := by omega
          have HS5 := Lib.hid HS.out
          rw [← plainUp_succ] at HS5
          go_wp2
          go_roundw
          case rel => exact ⟨k + 1, m', v', by go_num, by omega, by omega, HS5.out⟩
          case measure => simp [intOf]; omega
    · obtain rfl : k = n := by omega
      have b1 : Hid (wr.heap[w.heap.size + 1]? = some (.cells #[.bool false, .slice none 0 0, .slice none 0 0] 25 (0, 0))) := (HS.out.below.block _ (by omega)).trans ((HB4.out.block _ (by omega)).trans Y1.out)
      have y0 : wr.cell? ⟨w.heap.size + 1, 0, none⟩ = some (.bool false) := by rw [cell_of_row wr _ _ _ _ (0, 0) b1.out]; rfl
      have y1 : wr.cell? ⟨w.heap.size + 1, 1, none⟩ = some (.slice none 0 0) := by rw [cell_of_row wr _ _ _ _ (0, 0) b1.out]; rfl
      have y2 : wr.cell? ⟨w.heap.size + 1, 2, none⟩ = some (.slice none 0 0) := by rw [cell_of_row wr _ _ _ _ (0, 0) b1.out]; rfl
      have hf : ∀ j, wr.frozen? ⟨w.heap.size + 1, j, none⟩ = false := fun j => by simp [World.frozen?, b1.out]
      have hf0 := hf 0; have hf1 := hf 1; have hf2 := hf 2
      obtain ⟨a5, c5, rfl⟩ := own_shape' HS.out.edges
      obtain ⟨p0, p1, p2, p3⟩ := HS.out.cells
      clear hf
      go_wp2
      have HSE := HS.out
      refine bodyPost_ret (v := .agg #[.bool d, .slice a1 k c1, .slice a5 m1 c5]) ?_ rfl ?_
      · simp [results, Tryz.results12, go_sem, y0, y1, y2]
      · have keep : ∀ g, g ≠ w.heap.size + 1 → (((wr.setCell ⟨w.heap.size + 1, 0, none⟩ (.bool d)).setCell ⟨w.heap.size + 1, 1, none⟩ (.slice a1 k c1)).setCell ⟨w.heap.size + 1, 2, none⟩ (.slice a5 m1 c5)).heap[g]? = wr.heap[g]? := fun g hg => by
          rw [Below.heap_setCell _ _ _ _ (fun e => hg e), Below.heap_setCell _ _ _ _ (fun e => hg e), Below.heap_setCell _ _ _ _ (fun e => hg e)]
        unfold PlainPost
        rw [HLEN.out]
        have HB : Below w.heap.size w wr := HB2.out.trans ((HB4.out.trans (HSE.below.mono (by omega))).mono (by omega))
        refine ⟨a1, c1, a5, m1, c5, rfl, ?_, rdE_of_own (ownsRow_of_heap HSE.edges (fun g hg => keep g (by have := (HSE.edges.lt g hg).1; omega))), by omega, ((HB.setCell ?_ _).setCell ?_ _).setCell ?_ _⟩
        · refine rd_of_own (ownsRow_of_heap HON.out (fun g hg => ?_))
          have h1 := HNB.out g hg
          rw [keep g (by omega), HSE.below.block g (by omega)]
          exact HB4.out.block g h1.2
        all_goals show _ ≤ w.heap.size + 1; omega

end Go.Proofs.YtbkoifdnlaihfaaGreat
