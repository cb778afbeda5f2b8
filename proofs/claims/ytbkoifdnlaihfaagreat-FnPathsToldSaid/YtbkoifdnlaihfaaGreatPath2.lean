/- The walk of topo.IsPathIn at two nodes and more. -/
import Derived.Test.YtbkoifdnlaihfaaGreatPath
import Derived.Test.YtbkoifdnlaihfaaGreatAssert
namespace Go.Proofs.YtbkoifdnlaihfaaGreat
open Go.RowKit

theorem method_uEdge (a : Addr) (w : World) : (method 408 96 (.agg #[.pointer (some a)]) "HasEdgeBetween").run Tryz.prog w = .ok (262, .agg #[.pointer (some a)]) w := by kernel_rfl
theorem method_dEdge (a : Addr) (w : World) : (method 408 73 (.agg #[.pointer (some a)]) "HasEdgeFromTo").run Tryz.prog w = .ok (231, .agg #[.pointer (some a)]) w := by kernel_rfl
theorem ahead_uEdge (a : Addr) (w : World) : (nilAhead 408 96 (.agg #[.pointer (some a)]) "HasEdgeBetween").run Tryz.prog w = .ok (some false) w := by kernel_rfl
theorem ahead_dEdge (a : Addr) (w : World) : (nilAhead 408 73 (.agg #[.pointer (some a)]) "HasEdgeFromTo").run Tryz.prog w = .ok (some false) w := by kernel_rfl

theorem assert_u (a : Addr) (w : World) : (Instr.typeAssert (.iface 96 (.agg #[.pointer (some a)])) 150 78 true).run Tryz.prog w = .ok (.tuple #[.nilIface, .bool false]) w := by
  have h0 : ((Tryz.prog.info? 96).bind fun i => (Tryz.prog.underlying 78).map fun u => match u with | .interface want => (missingOf want i.methods).isEmpty | _ => true) = some false := by kernel_rfl
  have h1 : (Tryz.prog.info? 78).bind (·.zero) = some .nilIface := by kernel_rfl
  cases hi : Tryz.prog.info? 96 with
  | none => rw [hi] at h0; cases h0
  | some i =>
    rw [hi, Tryz.underlying78] at h0
    cases hi' : Tryz.prog.info? 78 with
    | none => rw [hi'] at h1; cases h1
    | some i' =>
      rw [hi'] at h1
      exact run_typeAssert_not w _ _ _ _ _ _ i i' Tryz.underlying78 hi (by simpa using h0) hi' h1
theorem assert_d (a : Addr) (w : World) : (Instr.typeAssert (.iface 73 (.agg #[.pointer (some a)])) 150 78 true).run Tryz.prog w = .ok (.tuple #[.iface 73 (.agg #[.pointer (some a)]), .bool true]) w := by kernel_rfl

set_option maxHeartbeats 4000000 in
set_option maxRecDepth 100000 in
theorem isPath2_calls (d : Bool) (w0 : World) (bp k : Nat) (ids : List Int) (ai : Option Addr) (ci : Nat) (out inn : List Arcs) (a : Option Addr) (n c : Nat) (ps : List Int) (w : World)
    (h : ReadSt w0 bp k ids ai ci out inn w) (hs : ids.Pairwise (· ≤ ·)) (hk : k ≤ 1000000) (hn : NodesAt w a n ps) (hn2 : 2 ≤ n) (hnc : n ≤ c) (hn6 : n ≤ 1000000) :
    Calls Tryz.prog 85 #[graphV d bp, .slice a n c] w (PathPost (linksB ids out ps) w) := by
  have H := Lib.hid h; clear h
  have HS := Lib.hid hs; clear hs
  obtain ⟨g, rfl, hg, hc⟩ := hn.2 (by omega)
  have HC := Lib.hid hc
  have HL := Lib.hid hn.1
  clear hn hc
  have b1 : ((n : Int) == 0) = false := by simp; omega
  have b2 : ((n : Int) == 1) = false := by simp; omega
  cases d
  · unfold graphV
    simp only [Bool.false_eq_true, if_false]
    have m1 := method_ID
    have m2 := method_uEdge
    have m3 := ahead_uEdge
    have m4 := assert_u
    go_enter Tryz.func85, Tryz.ntmps85
    go_wp2_with fail
    clear m4
    go_loopw [28] (fun i wr => ∃ t : Nat, t + 1 ≤ n ∧ i = .int .i64 t ∧ linksB ids out ps = linksB ids out (ps.drop t) ∧ Below w.heap.size w wr) (fun i _ => n - (intOf i).toNat)
    case atStart => exact ⟨0, by omega, rfl, by simp, Below.refl _ _⟩
    case round =>
      obtain ⟨t, ht, rfl, he, hb⟩ := hrel
      have HE := Lib.hid he; have HB := Lib.hid hb
      by_cases hlt : t + 1 < n
      · have hlt2 : (t : Int) < ((n - 1 : Nat) : Int) := by omega
        obtain ⟨x, hx, hcx⟩ := HC.out t (by omega)
        obtain ⟨y, hy, hcy⟩ := HC.out (t + 1) hlt
        have kx := (hb.cell (p := ⟨g, t, none⟩) hg).trans hcx
        have ky := (hb.cell (p := ⟨g, t + 1, none⟩) hg).trans hcy
        have hw1 : IntKind.i64.wrap ((t : Int) + 1) = (t : Int) + 1 := by rw [IntKind.wrap_i64]; omega
        have hw2 : (0 : Int) ≤ (t : Int) + 1 := by omega
        have hw3 : (t : Int) + 1 < (n : Int) := by omega
        have hw4 : ((t : Int) + 1).toNat = t + 1 := by omega
        have HSt : Hid (linksB ids out ps = ((findO ids out x y).isSome && linksB ids out (ps.drop (t + 1)))) := by
          rw [HE.out, linksB_step _ _ _ _ (by rw [HL.out]; exact hlt), hx.out, hy.out]
          exact rfl
        clear he hcx hcy hx hy hb
        have HR : Hid (ReadSt w0 bp k ids ai ci out inn wr) := H.out.later HB.out
        cases hm : (findO ids out x y).isSome
        all_goals
          have HM := Lib.hid hm
          go_wp2_with fail
          go_region_with (first
            | (go_at_call 267; refine (nodeID_calls _ _).mono ?_; rintro e w' ⟨rfl, rfl⟩)
            | (go_at_call 262; refine (uEdge_calls w0 bp k ids ai ci out inn x y _ (HR.out.later ((Below.refl _ _).drew)) HS.out hk).mono ?_; rintro e w2 ⟨he, hb2⟩; rw [HM.out] at he; subst he; have HB2 := Lib.hid ((HB.out.drew).trans (hb2.mono HB.out.size)); clear hb2))
        all_goals
          first
            | (go_wp2; go_ret; exact ⟨ret_bool (by rw [HSt.out, HM.out]; rfl), HB2.out⟩)
            | (go_wp2
               go_roundw
               case rel => exact ⟨t + 1, by omega, by go_num, by rw [HSt.out, HM.out]; rfl, HB2.out⟩
               case measure => simp [intOf]; omega)
      · go_wp2
        go_ret
        exact ⟨ret_bool (by rw [HE.out, linksB_end _ _ _ _ (by rw [HL.out]; omega)]), HB.out⟩
  · unfold graphV
    simp only [if_true]
    have m1 := method_ID
    have m2 := method_dEdge
    have m3 := ahead_dEdge
    have m4 := assert_d
    go_enter Tryz.func85, Tryz.ntmps85
    go_wp2_with fail
    clear m4
    go_loopw [28] (fun i wr => ∃ t : Nat, t + 1 ≤ n ∧ i = .int .i64 t ∧ linksB ids out ps = linksB ids out (ps.drop t) ∧ Below w.heap.size w wr) (fun i _ => n - (intOf i).toNat)
    case atStart => exact ⟨0, by omega, rfl, by simp, Below.refl _ _⟩
    case round =>
      obtain ⟨t, ht, rfl, he, hb⟩ := hrel
      have HE := Lib.hid he; have HB := Lib.hid hb
      by_cases hlt : t + 1 < n
      · have hlt2 : (t : Int) < ((n - 1 : Nat) : Int) := by omega
        obtain ⟨x, hx, hcx⟩ := HC.out t (by omega)
        obtain ⟨y, hy, hcy⟩ := HC.out (t + 1) hlt
        have kx := (hb.cell (p := ⟨g, t, none⟩) hg).trans hcx
        have ky := (hb.cell (p := ⟨g, t + 1, none⟩) hg).trans hcy
        have hw1 : IntKind.i64.wrap ((t : Int) + 1) = (t : Int) + 1 := by rw [IntKind.wrap_i64]; omega
        have hw2 : (0 : Int) ≤ (t : Int) + 1 := by omega
        have hw3 : (t : Int) + 1 < (n : Int) := by omega
        have hw4 : ((t : Int) + 1).toNat = t + 1 := by omega
        have HSt : Hid (linksB ids out ps = ((findO ids out x y).isSome && linksB ids out (ps.drop (t + 1)))) := by
          rw [HE.out, linksB_step _ _ _ _ (by rw [HL.out]; exact hlt), hx.out, hy.out]
          exact rfl
        clear he hcx hcy hx hy hb
        have HR : Hid (ReadSt w0 bp k ids ai ci out inn wr) := H.out.later HB.out
        cases hm : (findO ids out x y).isSome
        all_goals
          have HM := Lib.hid hm
          go_wp2_with fail
          go_region_with (first
            | (go_at_call 267; refine (nodeID_calls _ _).mono ?_; rintro e w' ⟨rfl, rfl⟩)
            | (go_at_call 231; refine (dEdge_calls w0 bp k ids ai ci out inn x y _ (HR.out.later ((Below.refl _ _).drew)) HS.out hk).mono ?_; rintro e w2 ⟨he, hb2⟩; rw [HM.out] at he; subst he; have HB2 := Lib.hid ((HB.out.drew).trans (hb2.mono HB.out.size)); clear hb2))
        all_goals
          first
            | (go_wp2; go_ret; exact ⟨ret_bool (by rw [HSt.out, HM.out]; rfl), HB2.out⟩)
            | (go_wp2
               go_roundw
               case rel => exact ⟨t + 1, by omega, by go_num, by rw [HSt.out, HM.out]; rfl, HB2.out⟩
               case measure => simp [intOf]; omega)
      · go_wp2
        go_ret
        exact ⟨ret_bool (by rw [HE.out, linksB_end _ _ _ _ (by rw [HL.out]; omega)]), HB.out⟩
end Go.Proofs.YtbkoifdnlaihfaaGreat
