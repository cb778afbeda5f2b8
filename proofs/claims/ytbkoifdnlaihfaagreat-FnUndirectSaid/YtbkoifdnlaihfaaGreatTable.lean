/- The walk of tableOf. -/
import Derived.Test.YtbkoifdnlaihfaaGreatTab
import Derived.Test.YtbkoifdnlaihfaaGreatPlain1
import Derived.Test.YtbkoifdnlaihfaaGreatPlain2
import Derived.Deep.RegionHeld3
import Derived.Deep.RegionLaw
import Derived.Deep.AppendLies
import Derived.BigQuiet
namespace Go.Proofs.YtbkoifdnlaihfaaGreat
open Go.RowKit

theorem bool_info : (Tryz.prog.info? 4).map (fun i => (i.zero, i.size, i.bytes)) = some (some (.bool false), 1, 1) := by kernel_rfl
theorem bools_info : (Tryz.prog.info? 64).map (fun i => (i.zero, i.size, i.bytes)) = some (some (.slice none 0 0), 1, 24) := by kernel_rfl
theorem ints_info : (Tryz.prog.info? 22).map (fun i => (i.zero, i.size, i.bytes)) = some (some (.slice none 0 0), 1, 24) := by kernel_rfl

def zerosOf (v : Value) (n : Nat) : Array Value := ((List.range n).map fun _ => v).toArray
theorem made_zeros (v : Value) (n : Nat) (h : v.cells = #[v]) : madeCells v.cells n = zerosOf v n := by
  apply Array.ext
  · simp [madeCells, zerosOf]
  · intro j h1 h2
    simp [madeCells, zerosOf, h, Nat.mod_one]
theorem make_bools (W : World) (n : Nat) (hn : n ≤ 1000000) : (Instr.makeSlice 64 (.int .i64 n) (.int .i64 n)).run Tryz.prog W = .ok (.slice (some ⟨W.heap.size, 0, none⟩) n n) (W.alloc (.cells (zerosOf (.bool false) n) 4)) := by
  obtain ⟨i0, hi0, hz0, hz1, hz2⟩ := info_parts bool_info
  have := run_make (P := Tryz.prog) W 64 4 i0 _ Tryz.underlying64 hi0 hz0 .i64 .i64 n n (by omega) (by omega) (by rw [hz2]; omega) (by omega)
  rw [this, hz1, Int.toNat_natCast, Nat.mul_one, made_zeros _ _ rfl]
theorem make_ints (W : World) (n : Nat) (hn : n ≤ 1000000) : (Instr.makeSlice 22 (.int .i64 n) (.int .i64 n)).run Tryz.prog W = .ok (.slice (some ⟨W.heap.size, 0, none⟩) n n) (W.alloc (.cells (zerosOf (.int .i64 0) n) 3)) := by
  obtain ⟨i0, hi0, hz0, hz1, hz2⟩ := info_parts int_info
  have := run_make (P := Tryz.prog) W 22 3 i0 _ Tryz.underlying22 hi0 hz0 .i64 .i64 n n (by omega) (by omega) (by rw [hz2]; omega) (by omega)
  rw [this, hz1, Int.toNat_natCast, Nat.mul_one, made_zeros _ _ rfl]

theorem rising_pw {l : List Int} (h : risingB l = true) : l.Pairwise (· < ·) := by
  rw [List.pairwise_iff_getElem]
  have h1 := (risingB_iff l).1 h
  have key : ∀ k i, i + k + 1 < l.length → l.getD i 0 < l.getD (i + k + 1) 0 := by
    intro k
    induction k with
    | zero => intro i hi; exact h1 i hi
    | succ k ih => intro i hi; exact Int.lt_trans (ih i (by omega)) (h1 (i + k + 1) (by omega))
  intro i j hi hj hij
  have := key (j - i - 1) i (by omega)
  rw [show i + (j - i - 1) + 1 = j by omega] at this
  simpa [List.getD, hi, hj] using this

def TabPost (d : Bool) (ns : List Int) (es : List (Int × Int × Int)) (w : World) (e : Ending) (w' : World) : Prop :=
  ∃ (vN vA vW : Value) (lo : Nat) (GA GW : Nat → Nat), e = .returned (.agg #[vN, vA, vW]) ∧ w.heap.size ≤ lo ∧ w'.ownsRow w.heap.size 3 1 vN ns.length ((sortI ns).map (Value.int .i64)) ∧ (∀ g, vN.ownBlock = some g → g < lo) ∧
    w'.ownsRow lo 64 1 vA ns.length ((List.range ns.length).map (rowV ns.length GA)) ∧ w'.ownsRow lo 22 1 vW ns.length ((List.range ns.length).map (rowV ns.length GW)) ∧
    Mat Value.bool w' lo ns.length ns.length 4 GA (tabA d (sortI ns) es) ∧ Mat (Value.int .i64) w' lo ns.length ns.length 3 GW (tabW d (sortI ns) es) ∧ Below w.heap.size w w'

set_option maxHeartbeats 8000000 in
set_option maxRecDepth 100000 in
theorem tableOf_calls (d : Bool) (an ae : Option Addr) (n cn m ce : Nat) (ns : List Int) (es : List (Int × Int × Int)) (w : World) (hn : RdI w an n ns) (hr : RdE w ae m es) (hn8 : n ≤ 1000000) (hw : wellB ns es = true) :
    Calls Tryz.prog 36 #[.agg #[.bool d, .slice an n cn, .slice ae m ce]] w (TabPost d ns es w) := by
  have HR := Lib.hid hr; clear hr
  have HN := Lib.hid hn; clear hn
  have HWELL := Lib.hid hw; clear hw
  have hmb := fun W => make_bools W n hn8
  have hmi := fun W => make_ints W n hn8
  go_enter Tryz.func36, Tryz.ntmps36
  go_wp2_with fail
  obtain ⟨w1, hw1⟩ : ∃ w1, w1 = (w.alloc (.cells #[.bool d, .slice an n cn, .slice ae m ce] 25)).alloc (.cells #[.slice none 0 0, .slice none 0 0, .slice none 0 0] 60) := ⟨_, rfl⟩
  have HB1 : Hid (Below w.heap.size w w1) := by rw [hw1]; exact ((Below.refl _ _).alloc (Nat.le_refl _) _).alloc (by simp) _
  have z0 : w1.heap[w.heap.size]? = some (.cells #[.bool d, .slice an n cn, .slice ae m ce] 25 (0, 0)) := by
    rw [hw1, heap_alloc_old _ _ (by simp)]; exact heap_alloc_new w _
  have z1 : w1.heap[w.heap.size + 1]? = some (.cells #[.slice none 0 0, .slice none 0 0, .slice none 0 0] 60 (0, 0)) := by
    have h := heap_alloc_new (w.alloc (.cells #[.bool d, .slice an n cn, .slice ae m ce] 25)) (.cells #[.slice none 0 0, .slice none 0 0, .slice none 0 0] 60)
    rw [hw1]; simpa using h
  have hs1 : w1.heap.size = w.heap.size + 2 := by rw [hw1]; simp
  have HS1 := Lib.hid hs1
  rw [← hw1]
  clear hw1 hs1
  refine (sorted_calls an n cn ns w1 (HN.out.below HB1.out (Nat.le_refl _)) (by omega)).mono ?_
  rintro e w2 ⟨vN, rfl, ho, hb2⟩
  obtain ⟨a1, c1, rfl⟩ := own_shape' ho
  have HO := Lib.hid ho
  have HB2 := Lib.hid (HB1.out.trans (hb2.mono (by rw [HS1.out]; omega)))
  have y0 := (hb2.block w.heap.size (by rw [HS1.out]; omega)).trans z0
  have y1 := (hb2.block (w.heap.size + 1) (by rw [HS1.out]; omega)).trans z1
  have hs2 : w.heap.size + 2 ≤ w2.heap.size := by have := hb2.size; rw [HS1.out] at this; exact this
  clear ho hb2 z0 z1
  go_wp2_with fail
  obtain ⟨w3, hw3⟩ : ∃ w3, w3 = w2.alloc (.cells #[.slice a1 n c1, .slice none 0 0, .slice none 0 0] 60) := ⟨_, rfl⟩
  have HT3 : Hid (TabSt w w2.heap.size d an ae n cn m ce (.slice a1 n c1) (.slice none 0 0) (.slice none 0 0) (fun _ => 0) (fun _ => 0) 0 0 (sortI ns) (fun _ _ => false) (fun _ _ => 0) w3) := by
    have hb3 : Below w2.heap.size w2 w3 := by rw [hw3]; exact (Below.refl _ _).alloc (Nat.le_refl _) _
    refine ⟨(hb3.block _ (by omega)).trans y0, (hb3.block _ (by omega)).trans y1, by rw [hw3]; exact heap_alloc_new w2 _, ?_, fun g hg => (HO.out.lt g hg).2, by omega, World.ownsRow_nil _ _ _ _, World.ownsRow_nil _ _ _ _, ⟨fun i hi => by omega, fun i hi => by omega, fun i j _ hj => by omega⟩, ⟨fun i hi => by omega, fun i hi => by omega, fun i j _ hj => by omega⟩, HB2.out.trans (hb3.mono (by omega))⟩
    have h := ownsRow_of_heap (w' := w3) HO.out (fun g hg => hb3.block g (HO.out.lt g hg).2)
    rw [HS1.out] at h
    exact h
  rw [← hw3]
  obtain ⟨q0, q1, q2, q3, q4, q5, q6⟩ := HT3.out.cells
  clear hw3 y0 y1 q6
  go_wp2_with fail
  go_loopw [5] (fun i wr => ∃ (k : Nat) (vA vW : Value) (GA GW : Nat → Nat), i = .int .i64 k ∧ k ≤ n ∧ TabSt w w2.heap.size d an ae n cn m ce (.slice a1 n c1) vA vW GA GW k k (sortI ns) (fun _ _ => false) (fun _ _ => 0) wr) (fun i _ => n - (intOf i).toNat)
  case atStart => exact ⟨0, _, _, _, _, rfl, by omega, HT3.out⟩
  case round =>
    obtain ⟨k, vA, vW, GA, GW, rfl, hk, ht⟩ := hrel
    have HT := Lib.hid ht
    clear ht q0 q1 q2 q3 q4 q5 HT3
    obtain ⟨q0, q1, q2, q3, q4, q5, q6⟩ := HT.out.cells
    have f1 := q6 1
    clear q6
    by_cases hlt : k < n
    · obtain ⟨a2, c2, rfl⟩ := own_shape' HT.out.arc
      obtain ⟨a3, c3, rfl⟩ := own_shape' HT.out.wts
      obtain ⟨ib, hib, hzb, hzb1, hzb2⟩ := info_parts bools_info
      obtain ⟨ii, hii, hzi, hzi1, hzi2⟩ := info_parts ints_info
      have hsm : (k + 1) * 24 ≤ 140737488355328 := by omega
      have hmx : k + 1 ≤ maxLen := by unfold maxLen; omega
      have hlo := HT.out.lt
      have HWA4 : Hid (Below wr.heap.size wr (((wr.alloc (.cells (zerosOf (.bool false) n) 4)).alloc (.cells #[.slice (some ⟨wr.heap.size, 0, none⟩) n n] 64)).drew)) := below_drewN (((Below.refl _ _).alloc (Nat.le_refl _) _).alloc (by simp) _) 1
      have NV4 : Hid (some w2.heap.size ≠ (Value.slice a2 k c2).ownBlock) := fun e => by have := (HT.out.arc.lt _ e.symm).1; omega
      go_wp2_with fail
      go_cut [] (fun wx => ∃ (v : Value) (GA' : Nat → Nat), TabSt w w2.heap.size d an ae n cn m ce (.slice a1 n c1) v (.slice a3 k c3) GA' GW (k + 1) k (sortI ns) (fun _ _ => false) (fun _ _ => 0) wx)
      case first =>
        go_region_law ((refine step_append_lies _ (by rfl) _ _ _ (by rfl) (w2.heap.size + 1) 64 ib (.slice none 0 0) 1 24 Tryz.underlying58 hib hzb hzb1 hzb2 rfl (by decide) (.slice a2 k c2) k _ (by rfl) (((HT.out.arc.alloc _).alloc _).drew) ⟨wr.heap.size + 1, 0, none⟩ 1 1 [.slice (some ⟨wr.heap.size, 0, none⟩) n n] (by rfl) (by rfl) (World.news_of_block (cs := #[.slice (some ⟨wr.heap.size, 0, none⟩) n n]) (t := 64) (fr := (0, 0)) (by show ((wr.alloc (.cells (zerosOf (.bool false) n) 4)).alloc (.cells #[.slice (some ⟨wr.heap.size, 0, none⟩) n n] 64)).heap[wr.heap.size + 1]? = _; have h := heap_alloc_new (wr.alloc (.cells (zerosOf (.bool false) n) 4)) (.cells #[.slice (some ⟨wr.heap.size, 0, none⟩) n n] 64); simpa using h)) (by simp [Value.oneCell']) (by omega) hmx hsm (by simp; omega) (wr.heap.size + 2) (by simp) ?_; intro g4 p4 x4 hown4 hgrow4 hat4 hlt4; have k4 := (hgrow4.cell_far ⟨w2.heap.size, 1, none⟩ (Nat.lt_of_lt_of_le hlo HWA4.out.size) NV4.out).trans ((HWA4.out.cell (p := ⟨w2.heap.size, 1, none⟩) hlo).trans q4); have l4 := (hgrow4.frozen_far ⟨w2.heap.size, 1, none⟩ (Nat.lt_of_lt_of_le hlo HWA4.out.size) NV4.out).trans ((HWA4.out.frozen (p := ⟨w2.heap.size, 1, none⟩) hlo).trans f1)))
        all_goals
          obtain ⟨w5, hw5⟩ : ∃ w5, w5 = x4.setCell ⟨w2.heap.size, 1, none⟩ (.slice (some ⟨g4, 0, none⟩) (k + 1) p4) := ⟨_, rfl⟩
          have HT5 : Hid (TabSt w w2.heap.size d an ae n cn m ce (.slice a1 n c1) (.slice (some ⟨g4, 0, none⟩) (k + 1) p4) (.slice a3 k c3) (fun i => if i = k then wr.heap.size else GA i) GW (k + 1) k (sortI ns) (fun _ _ => false) (fun _ _ => 0) w5) := by
            rw [hw5]
            refine HT.out.moreA (wa := ((wr.alloc (.cells (zerosOf (.bool false) n) 4)).alloc (.cells #[.slice (some ⟨wr.heap.size, 0, none⟩) n n] 64)).drew) (below_drewN (((Below.refl _ _).alloc (Nat.le_refl _) _).alloc (by simp) _) 1) (g := wr.heap.size) ?_ (Nat.le_refl _) hown4 hgrow4
            show ((wr.alloc _).alloc _).heap[wr.heap.size]? = _
            rw [heap_alloc_old _ _ (by simp)]
            exact heap_alloc_new wr _
          rw [← hw5]
          go_wp2
          go_meet
          exact ⟨_, _, HT5.out⟩
      case rest =>
        obtain ⟨vA5, GA5, ht5⟩ := hcut
        obtain ⟨a5, c5, rfl⟩ := own_shape' ht5.arc
        have HT5 := Lib.hid ht5
        obtain ⟨w5, rfl⟩ : ∃ w5 : World, w5 = wc := ⟨_, rfl⟩
        clear ht5 q0 q1 q2 q3 q4 q5 f1 HWA4 NV4
        obtain ⟨q0, q1, q2, q3, q4, q5, q6⟩ := HT5.out.cells
        have f2 := q6 2
        clear q6
        have hlo5 := HT5.out.lt
        have HWA6 : Hid (Below w5.heap.size w5 (((w5.alloc (.cells (zerosOf (.int .i64 0) n) 3)).alloc (.cells #[.slice (some ⟨w5.heap.size, 0, none⟩) n n] 22)).drew)) := below_drewN (((Below.refl _ _).alloc (Nat.le_refl _) _).alloc (by simp) _) 1
        have NV6 : Hid (some w2.heap.size ≠ (Value.slice a3 k c3).ownBlock) := fun e => by have := (HT5.out.wts.lt _ e.symm).1; omega
        go_wp2_with fail
        go_region_law ((refine step_append_lies _ (by rfl) _ _ _ (by rfl) (w2.heap.size + 1) 22 ii (.slice none 0 0) 1 24 Tryz.underlying35 hii hzi hzi1 hzi2 rfl (by decide) (.slice a3 k c3) k _ (by rfl) (((HT5.out.wts.alloc _).alloc _).drew) ⟨w5.heap.size + 1, 0, none⟩ 1 1 [.slice (some ⟨w5.heap.size, 0, none⟩) n n] (by rfl) (by rfl) (World.news_of_block (cs := #[.slice (some ⟨w5.heap.size, 0, none⟩) n n]) (t := 22) (fr := (0, 0)) (by show ((w5.alloc (.cells (zerosOf (.int .i64 0) n) 3)).alloc (.cells #[.slice (some ⟨w5.heap.size, 0, none⟩) n n] 22)).heap[w5.heap.size + 1]? = _; have h := heap_alloc_new (w5.alloc (.cells (zerosOf (.int .i64 0) n) 3)) (.cells #[.slice (some ⟨w5.heap.size, 0, none⟩) n n] 22); simpa using h)) (by simp [Value.oneCell']) (by omega) hmx hsm (by simp; omega) (w5.heap.size + 2) (by simp) ?_; intro g6 p6 x6 hown6 hgrow6 hat6 hlt6; have k6 := (hgrow6.cell_far ⟨w2.heap.size, 2, none⟩ (Nat.lt_of_lt_of_le hlo5 HWA6.out.size) NV6.out).trans ((HWA6.out.cell (p := ⟨w2.heap.size, 2, none⟩) hlo5).trans q5); have l6 := (hgrow6.frozen_far ⟨w2.heap.size, 2, none⟩ (Nat.lt_of_lt_of_le hlo5 HWA6.out.size) NV6.out).trans ((HWA6.out.frozen (p := ⟨w2.heap.size, 2, none⟩) hlo5).trans f2)))
        all_goals
          obtain ⟨w7, hw7⟩ : ∃ w7, w7 = x6.setCell ⟨w2.heap.size, 2, none⟩ (.slice (some ⟨g6, 0, none⟩) (k + 1) p6) := ⟨_, rfl⟩
          have HT7 : Hid (TabSt w w2.heap.size d an ae n cn m ce (.slice a1 n c1) (.slice a5 (k + 1) c5) (.slice (some ⟨g6, 0, none⟩) (k + 1) p6) GA5 (fun i => if i = k then w5.heap.size else GW i) (k + 1) (k + 1) (sortI ns) (fun _ _ => false) (fun _ _ => 0) w7) := by
            rw [hw7]
            refine HT5.out.moreW (wa := ((w5.alloc (.cells (zerosOf (.int .i64 0) n) 3)).alloc (.cells #[.slice (some ⟨w5.heap.size, 0, none⟩) n n] 22)).drew) (below_drewN (((Below.refl _ _).alloc (Nat.le_refl _) _).alloc (by simp) _) 1) (g := w5.heap.size) ?_ (Nat.le_refl _) hown6 hgrow6
            show ((w5.alloc _).alloc _).heap[w5.heap.size]? = _
            rw [heap_alloc_old _ _ (by simp)]
            exact heap_alloc_new w5 _
          rw [← hw7]
          clear hw7 hown6 hgrow6 hat6 hlt6 k6 l6 q0 q1 q2 q3 q4 q5 f2
          go_wp2
          go_roundw
          case rel => exact ⟨k + 1, _, _, _, _, by go_num, by omega, HT7.out⟩
          case measure => simp [intOf]; omega
    · obtain rfl : k = n := by omega
      clear f1 hmb hmi hlt q0 q1 q2 q3 q4 q5
      obtain ⟨q0, q1, q2, q3, q4, q5, q6⟩ := HT.out.cells
      clear q6
      have hnm := HN.out.len
      have HLEN := Lib.hid hnm
      have hsm := HR.out.small
      clear hnm
      obtain ⟨a2, c2, rfl⟩ := own_shape' HT.out.arc
      obtain ⟨a3, c3, rfl⟩ := own_shape' HT.out.wts
      have hup : (sortI ns).Pairwise (· < ·) := rising_pw (by have := HWELL.out; unfold wellB at this; simp only [Bool.and_eq_true] at this; exact this.1)
      have HUP := Lib.hid hup
      clear hup
      go_wp2_with fail
      go_loopw [6] (fun i wr => ∃ j : Nat, i = .int .i64 j ∧ j ≤ m ∧ TabSt w w2.heap.size d an ae k cn m ce (.slice a1 k c1) (.slice a2 k c2) (.slice a3 k c3) GA GW k k (sortI ns) (tabA d (sortI ns) (es.take j)) (tabW d (sortI ns) (es.take j)) wr) (fun i _ => m - (intOf i).toNat)
      case atStart => exact ⟨0, rfl, by omega, HT.out⟩
      case round =>
        obtain ⟨j, rfl, hj, ht⟩ := hrel
        have HT' := Lib.hid ht
        clear ht q0 q1 q2 q3 q4 q5 HT
        obtain ⟨q0, q1, q2, q3, q4, q5, q6⟩ := HT'.out.cells
        clear q6
        by_cases hlj : j < m
        · obtain ⟨b, off, rfl, hbb, hc⟩ := HR.out.at_ (by omega)
          obtain ⟨u, v, x, HE, r0, r1, r2⟩ := hc j hlj
          have e0 := (HT'.out.below.cell (p := ⟨b, _, none⟩) hbb).trans r0
          have e1 := (HT'.out.below.cell (p := ⟨b, _, none⟩) hbb).trans r1
          have e2 := (HT'.out.below.cell (p := ⟨b, _, none⟩) hbb).trans r2
          have hends := well_ends HWELL.out (u, v, x) (List.mem_of_getElem? HE.out)
          have hui : u ∈ sortI ns := mem_sortI.2 hends.1
          have hvi : v ∈ sortI ns := mem_sortI.2 hends.2
          have hpu : posOf (sortI ns) u < k := by have := posOf_len _ _ hui; rw [sortI_len, HLEN.out] at this; exact this
          have hpv : posOf (sortI ns) v < k := by have := posOf_len _ _ hvi; rw [sortI_len, HLEN.out] at this; exact this
          have HIU : Hid (∀ q, Calls Tryz.prog 81 #[.slice a1 k c1, .int .i64 u] (wr.drewN q) fun e w' => e = .returned (.int .i64 ((posOf (sortI ns) u : Nat) : Int)) ∧ w' = wr.drewN q) := fun q =>
            (index_calls a1 k c1 (sortI ns) u _ ((rd_of_own HT'.out.nodes).drewN q)).mono fun e w' ⟨h1, h2⟩ => ⟨by rw [h1, idxFrom_posOf _ _ HUP.out hui 0, Nat.zero_add], h2.symm⟩
          have HIV : Hid (∀ q, Calls Tryz.prog 81 #[.slice a1 k c1, .int .i64 v] (wr.drewN q) fun e w' => e = .returned (.int .i64 ((posOf (sortI ns) v : Nat) : Int)) ∧ w' = wr.drewN q) := fun q =>
            (index_calls a1 k c1 (sortI ns) v _ ((rd_of_own HT'.out.nodes).drewN q)).mono fun e w' ⟨h1, h2⟩ => ⟨by rw [h1, idxFrom_posOf _ _ HUP.out hvi 0, Nat.zero_add], h2.symm⟩
          clear hc r0 r1 r2 hends hui hvi
          have hj0 : (0 : Int) ≤ (j : Int) := Int.natCast_nonneg _
          have hj1 : (j : Int) < (m : Int) := by omega
          go_wp2_with fail
          go_quiet (first
            | (go_at_call 81; with_reducible exact Calls.quiet_of_same (HIU.out _))
            | (go_at_call 81; with_reducible exact Calls.quiet_of_same (HIV.out _)))
          obtain ⟨w4, hw4⟩ : ∃ w4, w4 = wr.drewN nq := ⟨_, rfl⟩
          have HT4 : Hid (TabSt w w2.heap.size d an (some ⟨b, off, none⟩) k cn m ce (.slice a1 k c1) (.slice a2 k c2) (.slice a3 k c3) GA GW k k (sortI ns) (tabA d (sortI ns) (es.take j)) (tabW d (sortI ns) (es.take j)) w4) := by
            rw [hw4]; exact HT'.out.later (below_drewN (Below.refl _ _) nq)
          have e2' : w4.cell? ⟨b, off + j * 3 + 2, none⟩ = some (.int .i64 x) := by rw [hw4]; exact e2
          rw [← hw4]
          clear hw4 e0 e1 e2 q0 q1 q2 q3 q4 q5 HIU HIV
          have e2 := e2'
          clear e2'
          obtain ⟨q0, q1, q2, q3, q4, q5, q6⟩ := HT4.out.cells
          clear q6
          have hpu0 : (0 : Int) ≤ ((posOf (sortI ns) u : Nat) : Int) := Int.natCast_nonneg _
          have hpu1 : ((posOf (sortI ns) u : Nat) : Int) < ((k : Nat) : Int) := by omega
          have hpv0 : (0 : Int) ≤ ((posOf (sortI ns) v : Nat) : Int) := Int.natCast_nonneg _
          have hpv1 : ((posOf (sortI ns) v : Nat) : Int) < ((k : Nat) : Int) := by omega
          obtain ⟨gA, gW, eA, eW, kA, kW, sA, fA, sW, fW, n1, n2, n3, n4, n5, n6, n7⟩ := HT4.out.place hpu hpv
          obtain rfl := eA; obtain rfl := eW
          have KA : Hid (∀ (bb jj : Nat), bb ≠ GA (posOf (sortI ns) u) → (w4.setCell ⟨GA (posOf (sortI ns) u), (posOf (sortI ns) v), none⟩ (.bool true)).drew.cell? ⟨bb, jj, none⟩ = w4.cell? ⟨bb, jj, none⟩) := fun bb jj h => setCell_far _ _ _ h
          have KB : Hid (∀ (bb jj : Nat), bb ≠ GA (posOf (sortI ns) u) → bb ≠ GW (posOf (sortI ns) u) → ((w4.setCell ⟨GA (posOf (sortI ns) u), (posOf (sortI ns) v), none⟩ (.bool true)).setCell ⟨GW (posOf (sortI ns) u), (posOf (sortI ns) v), none⟩ (.int .i64 x)).drew.cell? ⟨bb, jj, none⟩ = w4.cell? ⟨bb, jj, none⟩) := fun bb jj h1 h2 => (setCell_far _ _ _ h2).trans (setCell_far _ _ _ h1)
          have tW : (w4.setCell ⟨GA (posOf (sortI ns) u), (posOf (sortI ns) v), none⟩ (.bool true)).cell? ⟨GW (posOf (sortI ns) u), (posOf (sortI ns) v), none⟩ = some (.int .i64 _) := (KA.out _ _ n1).trans sW
          have gf : (w4.setCell ⟨GA (posOf (sortI ns) u), (posOf (sortI ns) v), none⟩ (.bool true)).frozen? ⟨GW (posOf (sortI ns) u), (posOf (sortI ns) v), none⟩ = false := (setCell_free _ _ _ n1).trans fW
          have KS := Lib.hid (And.intro (And.intro ((KA.out w2.heap.size 1 (Nat.ne_of_lt n2)).trans q4) (And.intro ((KA.out _ (posOf (sortI ns) u) n4).trans kA) (And.intro ((KA.out w2.heap.size 2 (Nat.ne_of_lt n2)).trans q5) (And.intro ((KA.out _ (posOf (sortI ns) u) n6).trans kW) (And.intro ((KA.out w.heap.size 2 (by omega)).trans q2) ((KA.out b (off + j * 3 + 2) (by omega)).trans e2))))))
            (And.intro ((KB.out w2.heap.size 1 (Nat.ne_of_lt n2) (Nat.ne_of_lt n3)).trans q4) (And.intro ((KB.out _ (posOf (sortI ns) u) n4 n5).trans kA) (And.intro ((KB.out w2.heap.size 2 (Nat.ne_of_lt n2) (Nat.ne_of_lt n3)).trans q5) (And.intro ((KB.out _ (posOf (sortI ns) u) n6 n7).trans kW) (And.intro ((KB.out w.heap.size 2 (by omega) (by omega)).trans q2) ((KB.out b (off + j * 3 + 2) (by omega) (by omega)).trans e2)))))))
          have N1 := Lib.hid n1
          clear n1 n2 n3 n4 n5 n6 n7
          go_wp2_with fail
          go_region_held3 (fun w' => w'.cell? ⟨w2.heap.size, 1, none⟩ = some (.slice (some ⟨gA, 0, none⟩) k c2) ∧ w'.cell? ⟨gA, (posOf (sortI ns) u), none⟩ = some (.slice (some ⟨GA (posOf (sortI ns) u), 0, none⟩) k k) ∧ w'.cell? ⟨w2.heap.size, 2, none⟩ = some (.slice (some ⟨gW, 0, none⟩) k c3) ∧ w'.cell? ⟨gW, (posOf (sortI ns) u), none⟩ = some (.slice (some ⟨GW (posOf (sortI ns) u), 0, none⟩) k k) ∧ w'.cell? ⟨w.heap.size, 2, none⟩ = some (.slice (some ⟨b, off, none⟩) m ce) ∧ w'.cell? ⟨b, off + j * 3 + 2, none⟩ = some (.int .i64 x))
            (first | with_reducible exact KS.out.1 | with_reducible exact KS.out.2 | go_keep)
            (fail)
          obtain ⟨w5, hw5⟩ : ∃ w5, w5 = ((w4.setCell ⟨GA (posOf (sortI ns) u), (posOf (sortI ns) v), none⟩ (.bool true)).setCell ⟨GW (posOf (sortI ns) u), (posOf (sortI ns) v), none⟩ (.int .i64 x)).drew := ⟨_, rfl⟩
          have HT5 : Hid (TabSt w w2.heap.size d an (some ⟨b, off, none⟩) k cn m ce (.slice a1 k c1) (.slice (some ⟨gA, 0, none⟩) k c2) (.slice (some ⟨gW, 0, none⟩) k c3) GA GW k k (sortI ns) (fun i c => if i = (posOf (sortI ns) u) ∧ c = (posOf (sortI ns) v) then true else tabA d (sortI ns) (es.take j) i c) (fun i c => if i = (posOf (sortI ns) u) ∧ c = (posOf (sortI ns) v) then x else tabW d (sortI ns) (es.take j) i c) w5) := by
            rw [hw5]; exact (HT4.out.both hpu hpu hpv x).later (below_drewN (Below.refl _ _) 1)
          have e2' : w5.cell? ⟨b, off + j * 3 + 2, none⟩ = some (.int .i64 x) := by rw [hw5]; exact KS.out.2.2.2.2.2.2
          rw [← hw5]
          clear hw5 e2 q0 q1 q2 q3 q4 q5 KA KB KS kA kW sA fA sW fW tW gf
          have e2 := e2'
          clear e2'
          obtain ⟨q0, q1, q2, q3, q4, q5, q6⟩ := HT5.out.cells
          clear q6
          cases d
          · obtain ⟨gA', gW', eA, eW, kA, kW, sA, fA, sW, fW, n1, n2, n3, n4, n5, n6, n7⟩ := HT5.out.place hpv hpu
            have eA' : gA' = gA := by simpa using eA.symm
            have eW' : gW' = gW := by simpa using eW.symm
            rw [eA'] at kA n4 n5
            rw [eW'] at kW n6 n7
            clear eA eW eA' eW'
            have KA : Hid (∀ (bb jj : Nat), bb ≠ GA (posOf (sortI ns) v) → (w5.setCell ⟨GA (posOf (sortI ns) v), (posOf (sortI ns) u), none⟩ (.bool true)).drew.cell? ⟨bb, jj, none⟩ = w5.cell? ⟨bb, jj, none⟩) := fun bb jj h => setCell_far _ _ _ h
            have KB : Hid (∀ (bb jj : Nat), bb ≠ GA (posOf (sortI ns) v) → bb ≠ GW (posOf (sortI ns) v) → ((w5.setCell ⟨GA (posOf (sortI ns) v), (posOf (sortI ns) u), none⟩ (.bool true)).setCell ⟨GW (posOf (sortI ns) v), (posOf (sortI ns) u), none⟩ (.int .i64 x)).drew.cell? ⟨bb, jj, none⟩ = w5.cell? ⟨bb, jj, none⟩) := fun bb jj h1 h2 => (setCell_far _ _ _ h2).trans (setCell_far _ _ _ h1)
            have tW : (w5.setCell ⟨GA (posOf (sortI ns) v), (posOf (sortI ns) u), none⟩ (.bool true)).cell? ⟨GW (posOf (sortI ns) v), (posOf (sortI ns) u), none⟩ = some (.int .i64 _) := (KA.out _ _ n1).trans sW
            have gf : (w5.setCell ⟨GA (posOf (sortI ns) v), (posOf (sortI ns) u), none⟩ (.bool true)).frozen? ⟨GW (posOf (sortI ns) v), (posOf (sortI ns) u), none⟩ = false := (setCell_free _ _ _ n1).trans fW
            have KS := Lib.hid (And.intro (And.intro ((KA.out w2.heap.size 1 (Nat.ne_of_lt n2)).trans q4) (And.intro ((KA.out _ (posOf (sortI ns) v) n4).trans kA) (And.intro ((KA.out w2.heap.size 2 (Nat.ne_of_lt n2)).trans q5) (And.intro ((KA.out _ (posOf (sortI ns) v) n6).trans kW) (And.intro ((KA.out w.heap.size 2 (by omega)).trans q2) ((KA.out b (off + j * 3 + 2) (by omega)).trans e2))))))
              (And.intro ((KB.out w2.heap.size 1 (Nat.ne_of_lt n2) (Nat.ne_of_lt n3)).trans q4) (And.intro ((KB.out _ (posOf (sortI ns) v) n4 n5).trans kA) (And.intro ((KB.out w2.heap.size 2 (Nat.ne_of_lt n2) (Nat.ne_of_lt n3)).trans q5) (And.intro ((KB.out _ (posOf (sortI ns) v) n6 n7).trans kW) (And.intro ((KB.out w.heap.size 2 (by omega) (by omega)).trans q2) ((KB.out b (off + j * 3 + 2) (by omega) (by omega)).trans e2)))))))
            clear n1 n2 n3 n4 n5 n6 n7
            go_wp2_with fail
            go_region_held3 (fun w' => w'.cell? ⟨w2.heap.size, 1, none⟩ = some (.slice (some ⟨gA, 0, none⟩) k c2) ∧ w'.cell? ⟨gA, (posOf (sortI ns) v), none⟩ = some (.slice (some ⟨GA (posOf (sortI ns) v), 0, none⟩) k k) ∧ w'.cell? ⟨w2.heap.size, 2, none⟩ = some (.slice (some ⟨gW, 0, none⟩) k c3) ∧ w'.cell? ⟨gW, (posOf (sortI ns) v), none⟩ = some (.slice (some ⟨GW (posOf (sortI ns) v), 0, none⟩) k k) ∧ w'.cell? ⟨w.heap.size, 2, none⟩ = some (.slice (some ⟨b, off, none⟩) m ce) ∧ w'.cell? ⟨b, off + j * 3 + 2, none⟩ = some (.int .i64 x))
              (first | with_reducible exact KS.out.1 | with_reducible exact KS.out.2 | go_keep)
              (fail)
            obtain ⟨w6, hw6⟩ : ∃ w6, w6 = ((w5.setCell ⟨GA (posOf (sortI ns) v), (posOf (sortI ns) u), none⟩ (.bool true)).setCell ⟨GW (posOf (sortI ns) v), (posOf (sortI ns) u), none⟩ (.int .i64 x)).drew := ⟨_, rfl⟩
            have HT6 : Hid (TabSt w w2.heap.size false an (some ⟨b, off, none⟩) k cn m ce (.slice a1 k c1) (.slice (some ⟨gA, 0, none⟩) k c2) (.slice (some ⟨gW, 0, none⟩) k c3) GA GW k k (sortI ns) (fun i c => if i = (posOf (sortI ns) v) ∧ c = (posOf (sortI ns) u) then true else if i = (posOf (sortI ns) u) ∧ c = (posOf (sortI ns) v) then true else tabA false (sortI ns) (es.take j) i c) (fun i c => if i = (posOf (sortI ns) v) ∧ c = (posOf (sortI ns) u) then x else if i = (posOf (sortI ns) u) ∧ c = (posOf (sortI ns) v) then x else tabW false (sortI ns) (es.take j) i c) w6) := by
              rw [hw6]; exact (HT5.out.both hpv hpv hpu x).later (below_drewN (Below.refl _ _) 1)
            rw [← hw6]
            clear hw6 e2 q0 q1 q2 q3 q4 q5 KA KB KS kA kW sA fA sW fW tW gf
            go_wp2
            go_roundw
            case rel =>
              refine ⟨j + 1, by go_num, by omega, HT6.out.congr (fun i c => ?_) (fun i c => ?_)⟩
              · rw [tabA_succ _ _ _ _ _ _ _ HE.out, hits_false]
                by_cases h : i = (posOf (sortI ns) u) ∧ c = (posOf (sortI ns) v) <;> by_cases h' : i = (posOf (sortI ns) v) ∧ c = (posOf (sortI ns) u) <;> simp [h, h']
              · rw [tabW_succ _ _ _ _ _ _ _ HE.out, hits_false]
                by_cases h : i = (posOf (sortI ns) u) ∧ c = (posOf (sortI ns) v) <;> by_cases h' : i = (posOf (sortI ns) v) ∧ c = (posOf (sortI ns) u) <;> simp [h, h']
            case measure => simp [intOf]; omega
          · go_wp2
            go_roundw
            case rel =>
              refine ⟨j + 1, by go_num, by omega, HT5.out.congr (fun i c => ?_) (fun i c => ?_)⟩
              · rw [tabA_succ _ _ _ _ _ _ _ HE.out, hits_true]
                by_cases h : i = (posOf (sortI ns) u) ∧ c = (posOf (sortI ns) v) <;> simp [h]
              · rw [tabW_succ _ _ _ _ _ _ _ HE.out, hits_true]
                by_cases h : i = (posOf (sortI ns) u) ∧ c = (posOf (sortI ns) v) <;> simp [h]
            case measure => simp [intOf]; omega
        · obtain rfl : j = m := by omega
          have z0 : wr.cell? ⟨w.heap.size + 1, 0, none⟩ = some (.slice none 0 0) := by rw [cell_of_row wr _ _ _ _ (0, 0) HT'.out.res]; rfl
          have z1 : wr.cell? ⟨w.heap.size + 1, 1, none⟩ = some (.slice none 0 0) := by rw [cell_of_row wr _ _ _ _ (0, 0) HT'.out.res]; rfl
          have z2 : wr.cell? ⟨w.heap.size + 1, 2, none⟩ = some (.slice none 0 0) := by rw [cell_of_row wr _ _ _ _ (0, 0) HT'.out.res]; rfl
          have zf : ∀ i, wr.frozen? ⟨w.heap.size + 1, i, none⟩ = false := fun i => by simp [World.frozen?, HT'.out.res]
          have zf0 := zf 0
          have zf1 := zf 1
          have zf2 := zf 2
          clear zf
          go_wp2
          have HT := HT'.out
          have hlen : es.length = j := HR.out.len
          rw [show es.take j = es from List.take_of_length_le (by omega)] at HT
          have hord := HT.ord
          refine bodyPost_ret (v := .agg #[.slice a1 k c1, .slice a2 k c2, .slice a3 k c3]) ?_ rfl ?_
          · simp [results, Tryz.results36, go_sem, z0, z1, z2]
          · have keep : ∀ g, g ≠ w.heap.size + 1 → (((wr.setCell ⟨w.heap.size + 1, 0, none⟩ (.slice a1 k c1)).setCell ⟨w.heap.size + 1, 1, none⟩ (.slice a2 k c2)).setCell ⟨w.heap.size + 1, 2, none⟩ (.slice a3 k c3)).heap[g]? = wr.heap[g]? := fun g hg => by
              rw [Below.heap_setCell _ _ _ _ (fun e => hg e), Below.heap_setCell _ _ _ _ (fun e => hg e), Below.heap_setCell _ _ _ _ (fun e => hg e)]
            unfold TabPost
            rw [HLEN.out]
            refine ⟨_, _, _, w2.heap.size + 1, GA, GW, rfl, by omega, own_lower (ownsRow_of_heap HT.nodes (fun g hg => keep g (by have := (HT.nodes.lt g hg).1; omega))) (by omega), fun g hg => by have := HT.ordN g hg; omega, ownsRow_of_heap HT.arc (fun g hg => keep g (by have := (HT.arc.lt g hg).1; omega)), ownsRow_of_heap HT.wts (fun g hg => keep g (by have := (HT.wts.lt g hg).1; omega)), HT.ma.of_heap (fun i hi => keep _ (by have := HT.ma.lo_ i hi; omega)), HT.mw.of_heap (fun i hi => keep _ (by have := HT.mw.lo_ i hi; omega)), ((HT.below.setCell ?_ _).setCell ?_ _).setCell ?_ _⟩ <;> show _ ≤ w.heap.size + 1 <;> omega

end Go.Proofs.YtbkoifdnlaihfaaGreat
