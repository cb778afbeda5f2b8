/- The walks of the reference's Weight, Joined, Nodes and From. -/
import Derived.Test.YtbkoifdnlaihfaaGreatSpec2
namespace Go.Proofs.YtbkoifdnlaihfaaGreat
open Go.RowKit

theorem arcB_take {d : Bool} {es : List (Int × Int × Int)} {u v : Int} {k : Nat} {e : Int × Int × Int} (h : es[k]? = some e) : arcB d (es.take (k + 1)) u v = (arcB d (es.take k) u v || arcAt d e u v) := by
  obtain ⟨hk, rfl⟩ := List.getElem?_eq_some_iff.1 h
  unfold arcB
  rw [List.take_succ_eq_append_getElem hk, List.any_append]
  simp

set_option maxHeartbeats 2000000 in
set_option maxRecDepth 100000 in
theorem weight_calls (d : Bool) (an ae : Option Addr) (n cn m ce : Nat) (es : List (Int × Int × Int)) (u v : Int) (w : World) (hr : RdE w ae m es) :
    Calls Tryz.prog 126 #[.agg #[.bool d, .slice an n cn, .slice ae m ce], .int .i64 u, .int .i64 v] w fun e w' => (∃ z, e = .returned (.tuple #[.int .i64 z, .bool (arcB d es u v)])) ∧ Below w.heap.size w w' := by
  have hs := hr.small
  have HR := Lib.hid hr; clear hr
  go_enter Tryz.func126, Tryz.ntmps126
  go_wp2
  obtain ⟨w0, hw0⟩ : ∃ w0, w0 = w.alloc (.cells #[.bool d, .slice an n cn, .slice ae m ce] 25) := ⟨_, rfl⟩
  have k0 : w0.cell? ⟨w.heap.size, 0, none⟩ = some (.bool d) := by rw [hw0]; go_simp
  have hsz : w.heap.size < w0.heap.size := by rw [hw0]; simp
  have hb0 : Below w.heap.size w w0 := by rw [hw0]; exact (Below.refl _ _).alloc (Nat.le_refl _) _
  rw [← hw0]
  have HB0 := Lib.hid hb0; clear hb0
  clear hw0
  go_loopw [6, 7, 13] (fun z6 b7 i wr => ∃ (k : Nat) (z : Int), k ≤ m ∧ i = .int .i64 k ∧ z6 = .int .i64 z ∧ b7 = .bool (arcB d (es.take k) u v) ∧ Below (w.heap.size + 1) w0 wr) (fun _ _ i _ => m - (intOf i).toNat)
  case atStart => exact ⟨0, 0, by omega, rfl, rfl, rfl, Below.refl _ _⟩
  case round =>
    obtain ⟨k, z0, hk, rfl, rfl, rfl, hb⟩ := hrel
    have hszr := hb.size
    have HB := Lib.hid hb
    obtain ⟨c, _⟩ := bcell hb
    have j0 := (c w.heap.size 0 (by omega)).trans k0
    have hbw := HB0.out.trans (hb.mono (show w.heap.size ≤ w.heap.size + 1 by omega))
    clear c k0 hb
    obtain ⟨b7, hb7⟩ : ∃ b, arcB d (es.take k) u v = b := ⟨_, rfl⟩
    rw [hb7]
    have HB7 := Lib.hid hb7
    clear hb7
    by_cases hlt : k < m
    · obtain ⟨b, off, rfl, hbb, hc⟩ := HR.out.at_ (by omega)
      obtain ⟨x, y, z, HX, c1, c2, c3⟩ := hc k hlt
      clear hc
      obtain ⟨c, _⟩ := bcell hbw
      have d1 := (c _ _ hbb).trans c1
      have d2 := (c _ _ hbb).trans c2
      have d3 := (c _ _ hbb).trans c3
      clear c c1 c2 c3
      have HBW := Lib.hid hbw; clear hbw
      have hwr : w.heap.size < wr.heap.size := by omega
      have hbr : b < wr.heap.size := by omega
      have key : ((x == u) = true ∧ (y == v) = true ∧ Hid (arcAt d (x, y, z) u v = true)) ∨ (((x == u) = false ∨ ((x == u) = true ∧ (y == v) = false)) ∧ ((d = true ∧ Hid (arcAt d (x, y, z) u v = false)) ∨ (d = false ∧ (((x == v) = false ∧ Hid (arcAt d (x, y, z) u v = false)) ∨ ((x == v) = true ∧ (y == u) = false ∧ Hid (arcAt d (x, y, z) u v = false)) ∨ ((x == v) = true ∧ (y == u) = true ∧ Hid (arcAt d (x, y, z) u v = true)))))) := by
        unfold Hid arcAt
        cases (x == u) <;> cases (y == v) <;> cases d <;> cases (x == v) <;> cases (y == u) <;> simp
      rcases key with ⟨g1, g2, HA⟩ | ⟨g1 | ⟨g1, g2⟩, ⟨rfl, HA⟩ | ⟨rfl, ⟨g3, HA⟩ | ⟨g3, g4, HA⟩ | ⟨g3, g4, HA⟩⟩⟩
      all_goals
        go_wp2
        go_roundw
        case rel => exact ⟨k + 1, _, by omega, by go_num, rfl, congrArg Value.bool (by rw [arcB_take HX.out, HA.out, HB7.out]; simp), HB.out.alloc (by omega) _⟩
        case measure => simp [intOf]; omega
    · go_wp2
      go_ret2
      have hke : arcB d es u v = b7 := by
        have h := HB7.out
        rw [List.take_of_length_le (by have := HR.out.len; omega)] at h
        exact h
      rw [hke]
      exact ⟨⟨_, rfl⟩, HB0.out.trans (HB.out.mono (by omega))⟩

set_option maxHeartbeats 1000000 in
theorem joined_calls (d : Bool) (an ae : Option Addr) (n cn m ce : Nat) (es : List (Int × Int × Int)) (u v : Int) (w : World) (hr : RdE w ae m es) :
    Calls Tryz.prog 91 #[.agg #[.bool d, .slice an n cn, .slice ae m ce], .int .i64 u, .int .i64 v] w fun e w' => e = .returned (.bool (arcB d es u v)) ∧ Below w.heap.size w w' := by
  have HR := Lib.hid hr; clear hr
  go_enter Tryz.func91, Tryz.ntmps91
  go_wp2_with fail
  refine (weight_calls d an ae n cn m ce es u v _ (HR.out.alloc _)).mono ?_
  rintro e w1 ⟨⟨z, rfl⟩, hb1⟩
  have HB1 : Hid (Below w.heap.size w w1) := ((Below.refl w.heap.size w).alloc (Nat.le_refl _) _).trans (hb1.mono (by simp))
  clear hb1
  obtain ⟨b, hb⟩ : ∃ b, arcB d es u v = b := ⟨_, rfl⟩
  rw [hb]
  have HBB := Lib.hid hb
  clear hb
  go_wp2_with fail
  go_ret
  exact ⟨ret_bool HBB.out.symm, HB1.out⟩

set_option maxHeartbeats 1000000 in
theorem specNodes_calls (d : Bool) (an ae : Option Addr) (n cn m ce : Nat) (ns : List Int) (w : World) (hn : RdI w an n ns) (hn8 : n ≤ 1000) :
    Calls Tryz.prog 87 #[.agg #[.bool d, .slice an n cn, .slice ae m ce]] w fun e w' => ∃ v, e = .returned v ∧ w'.ownsRow (w.heap.size + 1) 3 1 v n ((sortI ns).map (Value.int .i64)) ∧ Below w.heap.size w w' := by
  have HN := Lib.hid hn; clear hn
  go_enter Tryz.func87, Tryz.ntmps87
  go_wp2_with fail
  refine (sortInts_calls an n cn ns _ (HN.out.alloc _) hn8).mono ?_
  rintro e w1 ⟨v, rfl, ho, hb1⟩
  have HO := Lib.hid ho
  have HB1 : Hid (Below w.heap.size w w1) := ((Below.refl w.heap.size w).alloc (Nat.le_refl _) _).trans (hb1.mono (by simp))
  clear ho hb1
  go_wp2_with fail
  go_ret
  exact ⟨_, rfl, by have h := HO.out; simpa using h, HB1.out⟩

set_option maxHeartbeats 2000000 in
set_option maxRecDepth 100000 in
theorem specFrom_calls (d : Bool) (an ae : Option Addr) (n cn m ce : Nat) (ns : List Int) (es : List (Int × Int × Int)) (x : Int) (w : World) (hn : RdI w an n ns) (hr : RdE w ae m es) (hn8 : n ≤ 1000) :
    Calls Tryz.prog 89 #[.agg #[.bool d, .slice an n cn, .slice ae m ce], .int .i64 x] w fun e w' => ∃ v, e = .returned v ∧ w'.ownsRow (w.heap.size + 1) 3 1 v (fromL d ns es x).length ((fromL d ns es x).map (Value.int .i64)) ∧ Below w.heap.size w w' := by
  have HN := Lib.hid hn; clear hn
  have HR := Lib.hid hr; clear hr
  obtain ⟨i0, hi0, hz0, hz1, hz2⟩ := info_parts int_info
  have HI := Lib.hid (And.intro hi0 (And.intro hz0 (And.intro hz1 hz2)))
  clear hi0 hz0 hz1 hz2
  go_enter Tryz.func89, Tryz.ntmps89
  go_wp2_with fail
  refine (specNodes_calls d an ae n cn m ce ns _ (HN.out.alloc _) hn8).mono ?_
  rintro e w1 ⟨v1, rfl, ho1, hb1⟩
  obtain ⟨a1, c1, rfl⟩ := own_shape' ho1
  have k0 : w1.cell? ⟨w.heap.size, 0, none⟩ = some (.bool d) := (hb1.cell (p := ⟨w.heap.size, 0, none⟩) (by simp)).trans (by go_simp)
  have k1 : w1.cell? ⟨w.heap.size, 1, none⟩ = some (.slice an n cn) := (hb1.cell (p := ⟨w.heap.size, 1, none⟩) (by simp)).trans (by go_simp)
  have k2 : w1.cell? ⟨w.heap.size, 2, none⟩ = some (.slice ae m ce) := (hb1.cell (p := ⟨w.heap.size, 2, none⟩) (by simp)).trans (by go_simp)
  have HO1 := Lib.hid ho1
  have hs1 : w.heap.size < w1.heap.size := by have := hb1.size; simp at this; omega
  have HB1 : Hid (Below w.heap.size w w1) := ((Below.refl w.heap.size w).alloc (Nat.le_refl _) _).trans (hb1.mono (by simp))
  clear ho1 hb1
  obtain ⟨S, hS⟩ : ∃ S, S = sortI ns := ⟨_, rfl⟩
  have HS := Lib.hid hS
  rw [← hS] at HO1
  have HSL : Hid (S.length = n) := Lib.hid (by rw [hS, sortI_len]; exact HN.out.len)
  clear hS
  go_wp2_with fail
  go_loopw [5, 11] (fun v i wr => ∃ k N : Nat, k ≤ n ∧ i = .int .i64 k ∧ Hid (N = ((S.take k).filter fun y => arcB d es x y).length) ∧ wr.ownsRow w1.heap.size 3 1 v N (((S.take k).filter fun y => arcB d es x y).map (Value.int .i64)) ∧ Below w1.heap.size w1 wr) (fun _ i _ => n - (intOf i).toNat)
  case atStart => exact ⟨0, 0, by omega, rfl, Lib.hid rfl, World.ownsRow_nil _ _ _ _, Below.refl _ _⟩
  case round =>
    obtain ⟨k, N, hk, rfl, HNN, ho, hb⟩ := hrel
    obtain ⟨a2, c2, rfl⟩ := own_shape' ho
    have HO := Lib.hid ho; have HB := Lib.hid hb
    have hszr := hb.size
    have j0 := (hb.cell (p := ⟨w.heap.size, 0, none⟩) hs1).trans k0
    have j1 := (hb.cell (p := ⟨w.heap.size, 1, none⟩) hs1).trans k1
    have j2 := (hb.cell (p := ⟨w.heap.size, 2, none⟩) hs1).trans k2
    have HBW : Hid (Below w.heap.size w wr) := HB1.out.trans (hb.mono (by omega))
    clear ho hb k0 k1 k2
    by_cases hlt : k < n
    · obtain ⟨gS, c, e, hg0, hg1, -⟩ := own_form HO1.out (by omega)
      simp only [Value.slice.injEq, true_and] at e
      obtain ⟨rfl, rfl⟩ := e
      have hkl : k < S.length := by have := HSL.out; omega
      obtain ⟨y, hy⟩ : ∃ y, S[k] = y := ⟨_, rfl⟩
      have hcy : wr.cell? ⟨gS, k, none⟩ = some (.int .i64 y) := (HB.out.cell (p := ⟨gS, k, none⟩) hg1).trans (own_at HO1.out (i := k) (u := .int .i64 y) (by rw [← hy]; simp [hkl])).1
      have hgw : gS < wr.heap.size := by omega
      have hNk : N ≤ k := by
        rw [HNN.out]
        refine Nat.le_trans (List.length_filter_le ..) ?_
        rw [List.length_take]; omega
      have hfil : (S.take (k + 1)).filter (fun y => arcB d es x y) = (S.take k).filter (fun y => arcB d es x y) ++ (if arcB d es x y then [y] else []) := by
        rw [List.take_succ_eq_append_getElem hkl, List.filter_append, hy]
        by_cases h : arcB d es x y = true
        · rw [if_pos h]; simp [h]
        · rw [if_neg h]; simp [h]
      have HFIL := Lib.hid hfil
      clear hfil hy
      go_wp2_with fail
      refine (joined_calls d an ae n cn m ce es x y wr (HR.out.below HBW.out (Nat.le_refl _))).mono ?_
      rintro e w2 ⟨rfl, hb2⟩
      have HO2 : Hid (w2.ownsRow w1.heap.size 3 1 (.slice a2 N c2) N (((S.take k).filter fun y => arcB d es x y).map (Value.int .i64))) := ownsRow_of_heap HO.out (fun g hg => hb2.block g (HO.out.lt g hg).2)
      have HB2 : Hid (Below w1.heap.size w1 w2) := HB.out.trans (hb2.mono hszr)
      have hs2 : w1.heap.size ≤ w2.heap.size := HB2.out.size
      clear hb2 HO HB
      obtain ⟨b, hbb⟩ : ∃ b, arcB d es x y = b := ⟨_, rfl⟩
      rw [hbb] at HFIL ⊢
      clear hbb j0 j1 j2
      cases b
      · go_wp2_with fail
        go_roundw
        case rel => exact ⟨k + 1, N, by omega, by go_num, Lib.hid (by rw [HFIL.out]; simpa using HNN.out), by rw [HFIL.out]; simpa using HO2.out, HB2.out⟩
        case measure => simp [intOf]; omega
      · obtain ⟨hi0, hz0, hz1, hz2⟩ := HI.out
        go_wp2_with (at_builtin; refine wpList_append_own _ rfl _ _ 22 rfl w1.heap.size 3 i0 (.int .i64 0) 1 8 Tryz.underlying22 hi0 hz0 hz1 hz2 rfl (by decide) (.slice a2 N c2) N (((S.take k).filter fun y => arcB d es x y).map (Value.int .i64)) rfl ?hown ⟨w2.heap.size, 0, none⟩ 1 1 [.int .i64 y] rfl ?c0 ?c1 ?c2 ?c3 ?c4 ?c5 ?_)
        case hown => exact HO2.out.alloc _
        case c0 => rfl
        case c1 => intro j u hj; match j, hj with | 0, hj => simp at hj; subst hj; simp [Addr.add]
        case c2 => intro u hu; simp at hu; subst hu; rfl
        case c3 => unfold maxLen; omega
        case c4 => omega
        case c5 => simp; omega
        intro v' w' hown' hgrow _
        obtain ⟨a', c', rfl⟩ := own_shape' hown'
        have HO' := Lib.hid hown'
        have HB' : Hid (Below w1.heap.size w1 w') := (HB2.out.alloc (by omega) _).grown hgrow (by simp; omega) (fun j hj => (HO2.out.lt j hj).1)
        clear hown' hgrow
        go_wp2
        go_roundw
        case rel =>
          refine ⟨k + 1, N + 1, by omega, by go_num, Lib.hid (by rw [HFIL.out, if_pos trivial, List.length_append, ← HNN.out]; rfl), ?_, HB'.out⟩
          rw [HFIL.out, if_pos trivial, List.map_append]
          exact HO'.out
        case measure => simp [intOf]; omega
    · obtain rfl : k = n := by omega
      have hfin : (S.take k).filter (fun y => arcB d es x y) = fromL d ns es x := by
        rw [List.take_of_length_le (by have := HSL.out; omega), HS.out]; rfl
      have HOF : Hid (wr.ownsRow (w.heap.size + 1) 3 1 (.slice a2 N c2) (fromL d ns es x).length ((fromL d ns es x).map (Value.int .i64))) := Lib.hid (by
        have h := own_lower HO.out (B' := w.heap.size + 1) (by omega)
        have h2 := HNN.out
        rw [hfin] at h h2
        rw [← h2]
        exact h)
      clear hfin j0 j1 j2
      go_wp2
      go_ret
      exact ⟨_, rfl, HOF.out, HBW.out⟩
end Go.Proofs.YtbkoifdnlaihfaaGreat
