/- The walks of an iterator's NodeSlice and of graph.NodesOf. -/
import Derived.Test.YtnfkbjgijelfdaaGreatOpen
import Derived.Test.YtnfkbjgijelfdaaGreatLolG
import Derived.Test.YtnfkbjgijelfdaaGreatMeth
namespace Go.Proofs.YtnfkbjgijelfdaaGreat
open Go.RowKit

set_option maxHeartbeats 1000000 in
theorem lenIt_calls (B bi : Nat) (ns : List Int) (w : World) (h : ItSt w B bi 0 ns) :
    Calls Tryz.prog 251 #[.pointer (some ⟨bi, 0, none⟩)] w fun e w' => e = .returned (.int .i64 ns.length) ∧ ∃ q, w' = w.drewN q := by
  obtain ⟨a, c, h1, h2, h3, h4, h5, h6⟩ := h
  have q0 : w.cell? ⟨bi, 0, none⟩ = some (.int .i64 (-1)) := by rw [cell_of_row w bi 0 _ _ (0, 0) h1]; rfl
  have q1 : w.cell? ⟨bi, 1, none⟩ = some (.slice a ns.length c) := by rw [cell_of_row w bi 1 _ _ (0, 0) h1]; rfl
  have hnc : (a = none ∧ ns.length = 0 ∧ c = 0) ∨ (∃ g, a = some ⟨g, 0, none⟩ ∧ ns.length ≤ c) := by
    rcases h2.2 with ⟨e, e0⟩ | ⟨g, cap, cur, e, hb, hg, hn, _⟩
    · simp only [Value.slice.injEq] at e
      exact .inl ⟨e.1, e.2.1, e.2.2⟩
    · simp only [Value.slice.injEq] at e
      exact .inr ⟨g, e.1, by omega⟩
  clear h1 h2 h3 h4
  obtain ⟨n, hn⟩ : ∃ n, n = ns.length := ⟨_, rfl⟩
  rw [← hn] at q1 hnc h6 ⊢
  clear hn h5
  have hlt : ¬ ((n : Int) ≤ -1) := by omega
  rcases hnc with ⟨rfl, rfl, rfl⟩ | ⟨g, rfl, hnc⟩
  all_goals
    go_enter Tryz.func251, Tryz.ntmps251
    go_wp2_with fail
    go_quiet (fail)
    go_wp2
    obtain ⟨w1, hw1⟩ : ∃ w1, w1 = w.drewN nq := ⟨_, rfl⟩
    have q0' : w1.cell? ⟨bi, 0, none⟩ = some (.int .i64 (-1)) := by rw [hw1]; exact q0
    have q1' := (show w1.cell? ⟨bi, 1, none⟩ = w.cell? ⟨bi, 1, none⟩ from by rw [hw1]; rfl).trans q1
    rw [← hw1]
    have HW1 := Lib.hid hw1
    clear hw1 q0 q1
    go_quiet (fail)
    go_wp2
    go_ret
    exact ⟨by first | rfl | simp, _, by rw [HW1.out]; exact World.drewN_drewN ..⟩
def SlicePost (B bi : Nat) (ns : List Int) (w : World) (e : Ending) (w' : World) : Prop :=
  ∃ v, e = .returned v ∧ w'.ownsRow B 103 1 v ns.length (ns.map nodeV) ∧ w.grownBy w' (some bi) ∧ (∀ g, v.ownBlock = some g → g < bi)

set_option maxHeartbeats 1000000 in
theorem nodeSlice_calls (B bi : Nat) (ns : List Int) (w : World) (h : ItSt w B bi 0 ns) (hpos : 0 < ns.length) :
    Calls Tryz.prog 254 #[.pointer (some ⟨bi, 0, none⟩)] w (SlicePost B bi ns w) := by
  have H := Lib.hid h
  obtain ⟨a, c, h1, h2, h3, h4, h5, h6⟩ := h
  have q0 : w.cell? ⟨bi, 0, none⟩ = some (.int .i64 (-1)) := by rw [cell_of_row w bi 0 _ _ (0, 0) h1]; rfl
  have q1 : w.cell? ⟨bi, 1, none⟩ = some (.slice a ns.length c) := by rw [cell_of_row w bi 1 _ _ (0, 0) h1]; rfl
  have f0 : w.frozen? ⟨bi, 0, none⟩ = false := by simp [World.frozen?, h1]
  obtain ⟨g, c', e, hg0, hg1, -⟩ := own_form h2 hpos
  simp only [Value.slice.injEq, true_and] at e
  obtain ⟨rfl, rfl⟩ := e
  have hnc : ns.length ≤ c := by
    rcases h2.2 with ⟨e, e0⟩ | ⟨g, cap, cur, e, hb, hg, hn, _⟩
    · cases e
    · simp only [Value.slice.injEq] at e; omega
  have hgb := h4 g rfl
  have HOW := Lib.hid h2
  clear h1 h2 h3 h4
  obtain ⟨n, hn⟩ : ∃ n, n = ns.length := ⟨_, rfl⟩
  rw [← hn] at q1 hnc h6 hpos
  have HNN := Lib.hid hn
  clear hn h5
  have hlt : ¬ ((n : Int) ≤ -1) := by omega
  go_enter Tryz.func254, Tryz.ntmps254
  go_wp2_with fail
  go_quiet (fail)
  go_wp2_with fail
  go_ret
  have hs := H.out.set (k' := ns.length + 1) (by omega) nq
  rw [show ((ns.length + 1 : Nat) : Int) - 1 = (n : Int) by rw [← HNN.out]; omega] at hs
  refine ⟨_, rfl, ?_, hs.2, fun g' hg' => ?_⟩
  · rw [← HNN.out]
    have h := HOW.out
    rw [← HNN.out] at h
    exact ownsRow_of_heap h (fun g' hg' => hs.2.block g' (HOW.out.lt g' hg').2 (fun e => by
      have e1 : g = g' := Option.some.inj hg'
      have e2 : g' = bi := Option.some.inj e
      omega))
  · have e1 : g = g' := Option.some.inj hg'
    omega

theorem method_Len (bi : Nat) (w : World) : (method 393 285 (.pointer (some ⟨bi, 0, none⟩)) "Len").run Tryz.prog w = .ok (251, .pointer (some ⟨bi, 0, none⟩)) w := by kernel_rfl
theorem ahead_Len (bi : Nat) (w : World) : (nilAhead 393 285 (.pointer (some ⟨bi, 0, none⟩)) "Len").run Tryz.prog w = .ok (some false) w := by kernel_rfl
theorem method_NS (bi : Nat) (w : World) : (method 393 285 (.pointer (some ⟨bi, 0, none⟩)) "NodeSlice").run Tryz.prog w = .ok (254, .pointer (some ⟨bi, 0, none⟩)) w := by kernel_rfl
theorem ahead_NS (bi : Nat) (w : World) : (nilAhead 393 285 (.pointer (some ⟨bi, 0, none⟩)) "NodeSlice").run Tryz.prog w = .ok (some false) w := by kernel_rfl

theorem assert_NS (bi : Nat) (w : World) : (Instr.typeAssert (.iface 285 (.pointer (some ⟨bi, 0, none⟩))) 182 227 true).run Tryz.prog w = .ok (.tuple #[.iface 285 (.pointer (some ⟨bi, 0, none⟩)), .bool true]) w := by kernel_rfl

set_option maxHeartbeats 2000000 in
set_option maxRecDepth 100000 in
theorem nodesOfG_calls (B bi : Nat) (ns : List Int) (w : World) (h : ItSt w B bi 0 ns) :
    Calls Tryz.prog 124 #[iterV bi] w (SlicePost B bi ns w) := by
  have H := Lib.hid h
  have hlt := h.lt
  have h6 : ns.length ≤ 1000000 := by obtain ⟨a, c, h1, h2, h3, h4, h5, h6⟩ := h; exact h6
  clear h
  unfold iterV
  have m1 := method_Len bi; have m2 := ahead_Len bi; have m3 := method_NS bi; have m4 := ahead_NS bi
  by_cases h0 : ns.length = 0
  · have HZ := Lib.hid h0
    go_enter Tryz.func124, Tryz.ntmps124
    go_wp2_with fail
    refine (lenIt_calls B bi ns w H.out).mono ?_
    rintro e w1 ⟨rfl, q, rfl⟩
    rw [HZ.out]
    go_wp2_with fail
    go_ret
    have e : ns = [] := List.eq_nil_of_length_eq_zero HZ.out
    subst e
    exact ⟨_, rfl, World.ownsRow_nil _ _ _ _, ⟨rfl, rfl, rfl, Nat.le_refl _, fun _ _ _ => rfl⟩, fun g hg => by cases hg⟩
  · have m5 := assert_NS bi
    have hz : ¬ ((ns.length : Int) = 0) := by omega
    have hz2 : ((ns.length : Int) == 0) = false := by rw [beq_eq_false_iff_ne]; omega
    have hz3 : ¬ ((ns.length : Int) < 0) := by omega
    go_enter Tryz.func124, Tryz.ntmps124
    go_wp2_with fail
    refine (lenIt_calls B bi ns w H.out).mono ?_
    rintro e w1 ⟨rfl, q, rfl⟩
    have H2 : Hid (ItSt (w.drewN q) B bi 0 ns) := Lib.hid (H.out.later (below_drewN (Below.refl _ _) q))
    go_wp2_with fail
    refine (nodeSlice_calls B bi ns (w.drewN q) H2.out (by omega)).mono ?_
    rintro e w2 ⟨v, rfl, ho, hg, hv⟩
    obtain ⟨a, c, rfl⟩ := own_shape' ho
    have HO := Lib.hid ho; have HG : Hid (w.grownBy w2 (some bi)) := Lib.hid ⟨hg.os, hg.tape, hg.output, hg.size, hg.block⟩
    have HV := Lib.hid hv
    clear ho hg hv
    go_wp2_with fail
    go_ret
    exact ⟨_, rfl, HO.out, HG.out, HV.out⟩
end Go.Proofs.YtnfkbjgijelfdaaGreat
