/- FnPathsTold returns true for every input, and its arguments read afterwards as they read before. No condition. -/
import Derived.Test.YtbkoifdnlaihfaaGreatRows
import Derived.Test.YtbkoifdnlaihfaaGreatLawPT
import Derived.Test.YtbkoifdnlaihfaaGreatReadsW
import Derived.ShutString
import Derived.ChangeOld
namespace Go.Proofs.YtbkoifdnlaihfaaGreat
open Go.ChangeShapes Go.WideShapes Go.ChangeAt Go.RowKit Go.Joins

theorem own : ownKnob Tryz.prog.godebug = none := by kernel_rfl
theorem laidOut : laidOutB Tryz.prog = true := by kernel_rfl

set_option maxRecDepth 100000 in
theorem fnPathsTold_lifted (os : Os) (started : os.Started) (H : Type) (enc : TypeId × Value → H) :
    ReturnsInHanded {} Tryz.checked os 8 .any (Rows.fnPathsToldSpec.pre6 enc Tryz.prog Tryz.f8 Rows.fnPathsToldRow.domain false) (Rows.fnPathsToldSpec.post enc Tryz.prog Tryz.f8 false true false false) := by
  refine returnsInHanded_of_change (C := Tryz.checked) own started (by kernel_rfl) Tryz.func8
    (ChangeSpec.witness6 (enc := enc) (C := Tryz.checked) false ⟨#[], #[.agg #[.bool false, .slice none 0 0, .slice none 0 0], .agg #[.bool false, .slice none 0 0, .slice none 0 0], .slice none 0 0, .int .i64 0, .int .i64 0], []⟩ 8 (by kernel_rfl) (by kernel_rfl) (by kernel_rfl) (by kernel_rfl)) ?_
  intro W base args ds gs before hval0 hW hcnd _
  have hval : ∀ (j : Nat) t v, Tryz.f8.params[j]? = some t → args[j]? = some v → Value.okWide Tryz.prog W .any base t v := hval0
  have hW' := hW
  obtain ⟨p, q, hA0, hV, rfl, hfz, hnd⟩ := hW
  have hA : DataW.TrodAll enc Tryz.prog W 0 (fun _ => true) true Tryz.f8.params.toList args.toList ds p := hA0
  rw [Tryz.params8] at hA hval
  obtain ⟨v0, vs0, d0, ds0, p0, q0, hargs, rfl, rfl, h0, r0⟩ := trodAll_cons hA
  obtain ⟨v1, vs1, d1, ds1, p1, q1, rfl, rfl, rfl, h1, r1⟩ := trodAll_cons r0
  obtain ⟨v2, vs2, d2, ds2, p2, q2, rfl, rfl, rfl, h2, r2⟩ := trodAll_cons r1
  obtain ⟨v3, vs3, d3, ds3, p3, q3, rfl, rfl, rfl, h3, r3⟩ := trodAll_cons r2
  obtain ⟨v4, vs4, d4, ds4, p4, q4, rfl, rfl, rfl, h4, r4⟩ := trodAll_cons r3
  obtain ⟨rfl, rfl, rfl⟩ := trodAll_nil r4
  obtain rfl : args = #[v0, v1, v2, v3, v4] := by cases args; simp_all
  obtain ⟨rfl, rfl⟩ := trodVars_none hV
  have k0 := h0
  have k1 := h1
  have k2 := h2
  have k3 := h3
  have k4 := h4
  have lt0 : ∀ x ∈ p0, x.block < W.heap.size := by obtain ⟨m, hm⟩ := k0; exact DataW.trod_lt m _ _ _ hm
  have lt1 : ∀ x ∈ p1, x.block < W.heap.size := by obtain ⟨m, hm⟩ := k1; exact DataW.trod_lt m _ _ _ hm
  have lt2 : ∀ x ∈ p2, x.block < W.heap.size := by obtain ⟨m, hm⟩ := k2; exact DataW.trod_lt m _ _ _ hm
  have lt3 : ∀ x ∈ p3, x.block < W.heap.size := by obtain ⟨m, hm⟩ := k3; exact DataW.trod_lt m _ _ _ hm
  have lt4 : ∀ x ∈ p4, x.block < W.heap.size := by obtain ⟨m, hm⟩ := k4; exact DataW.trod_lt m _ _ _ hm
  obtain ⟨bb0, _, _, y00, y01, y02, m0, hagg0, _, _, hy00, hy01, hy02⟩ := open_agg3 Tryz.underlying25 (by kernel_rfl) cells_Graph (hval 0 25 v0 rfl rfl) h0
  obtain ⟨b0, hb0, _⟩ := DataW.trod_bool Tryz.underlying4 hy00
  obtain rfl : bb0 = .bool b0 := by simpa using hb0
  obtain ⟨an0, n0, cn0, ns0, rfl, hn0, hwf0⟩ := rdIw_of_trod hy01
  obtain ⟨ae0, me0, ce0, es0, rfl, he0⟩ := rdE_of_trod hy02
  obtain ⟨bb1, _, _, y10, y11, y12, m1, hagg1, _, _, hy10, hy11, hy12⟩ := open_agg3 Tryz.underlying25 (by kernel_rfl) cells_Graph (hval 1 25 v1 rfl rfl) h1
  obtain ⟨b1, hb1, _⟩ := DataW.trod_bool Tryz.underlying4 hy10
  obtain rfl : bb1 = .bool b1 := by simpa using hb1
  obtain ⟨an1, n1, cn1, ns1, rfl, hn1, hwf1⟩ := rdIw_of_trod hy11
  obtain ⟨ae1, me1, ce1, es1, rfl, he1⟩ := rdE_of_trod hy12
  obtain ⟨a2, len2, cap2, hv2⟩ := okWide_slice Tryz.underlying22 (hval 2 22 v2 rfl rfl)
  obtain ⟨ap2, np2, cp2, ps2, hvp2, hp2⟩ : ∃ a n c ns, v2 = .slice a n c ∧ RdI W a n ns := by
    obtain ⟨fuel, hf⟩ := h2
    rw [hv2] at hf ⊢
    exact rdI_of_trod (by simpa [Value.cells] using hf)
  obtain ⟨x3, rfl, rfl, rfl, hx3⟩ := open_int Tryz.underlying3 (hval 3 3 v3 rfl rfl) h3
  obtain ⟨x4, rfl, rfl, rfl, hx4⟩ := open_int Tryz.underlying3 (hval 4 3 v4 rfl rfl) h4
  subst hagg0 hagg1 hvp2
  clear hA0 hval0
  refine (lawPT_calls b0 b1 an0 ae0 an1 ae1 ap2 n0 cn0 me0 ce0 n1 cn1 me1 ce1 np2 cp2 ns0 ns1 ps2 es0 es1 x3 x4 W hn0 he0 hn1 he1 hp2 hwf0).mono fun e W' ⟨he, bel⟩ => ?_
  subst he
  exact ⟨_, rfl, _, _, _, [], _, [], hW', trodAll_mk1 (shut_bool Tryz.underlying4 _), (trodAll_cons_mk (Below.trod laidOut (by kernel_rfl) (of_decide_eq_true (by kernel_rfl)) k0 bel lt0) (trodAll_cons_mk (Below.trod laidOut (by kernel_rfl) (of_decide_eq_true (by kernel_rfl)) k1 bel lt1) (trodAll_cons_mk (Below.trod laidOut (by kernel_rfl) (of_decide_eq_true (by kernel_rfl)) k2 bel lt2) (trodAll_cons_mk (Below.trod laidOut (by kernel_rfl) (of_decide_eq_true (by kernel_rfl)) k3 bel lt3) (trodAll_cons_mk (Below.trod laidOut (by kernel_rfl) (of_decide_eq_true (by kernel_rfl)) k4 bel lt4) trodAll_mk0))))), rfl, bel.frame _, fun h => by cases h⟩

theorem FnPathsTold_holds : Rows.FnPathsToldSaid :=
  OpenClaim.holds_of_wide 8 Tryz.f8 rfl rfl rfl rfl rfl rfl rfl ⟨rfl, rfl, rfl, rfl, rfl⟩ rfl rfl rfl rfl rfl (by kernel_rfl) Tryz.func8 (by kernel_rfl)
    (of_decide_eq_true (by kernel_rfl)) (by unfold Func.isWrapper; first | (rw [if_pos (by decide +kernel)]; kernel_rfl) | (rw [if_neg (by decide +kernel)]; exact ⟨rfl, rfl⟩))
    (fun os started H enc _ => fnPathsTold_lifted os started H enc)
#print axioms FnPathsTold_holds
end Go.Proofs.YtbkoifdnlaihfaaGreat
