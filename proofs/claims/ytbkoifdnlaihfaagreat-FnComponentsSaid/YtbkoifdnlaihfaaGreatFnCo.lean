/- FnComponents returns true for every input, and its arguments read afterwards as they read before. No condition. -/
import Derived.Test.YtbkoifdnlaihfaaGreatRows
import Derived.Test.YtbkoifdnlaihfaaGreatLawCo
import Derived.Test.YtbkoifdnlaihfaaGreatReadsW
import Derived.ShutString
import Derived.ChangeOld
namespace Go.Proofs.YtbkoifdnlaihfaaGreat
open Go.ChangeShapes Go.WideShapes Go.ChangeAt Go.RowKit Go.Joins

theorem own : ownKnob Tryz.prog.godebug = none := by kernel_rfl
theorem laidOut : laidOutB Tryz.prog = true := by kernel_rfl

set_option maxRecDepth 100000 in
theorem components_lifted (os : Os) (started : os.Started) (H : Type) (enc : TypeId × Value → H) :
    ReturnsInHanded {} Tryz.checked os 7 .any (Rows.fnComponentsSpec.pre6 enc Tryz.prog Tryz.f7 Rows.fnComponentsRow.domain false) (Rows.fnComponentsSpec.post enc Tryz.prog Tryz.f7 false true false false) := by
  refine returnsInHanded_of_change (C := Tryz.checked) own started (by kernel_rfl) Tryz.func7
    (ChangeSpec.witness6 (enc := enc) (C := Tryz.checked) false ⟨#[], #[.agg #[.bool false, .slice none 0 0, .slice none 0 0]], []⟩ 8 (by kernel_rfl) (by kernel_rfl) (by kernel_rfl) (by kernel_rfl)) ?_
  intro W base args ds gs before hval0 hW hcnd _
  have hval : ∀ (j : Nat) t v, Tryz.f7.params[j]? = some t → args[j]? = some v → Value.okWide Tryz.prog W .any base t v := hval0
  have hW' := hW
  obtain ⟨p, q, hA0, hV, rfl, hfz, hnd⟩ := hW
  have hA : DataW.TrodAll enc Tryz.prog W 0 (fun _ => true) true Tryz.f7.params.toList args.toList ds p := hA0
  rw [Tryz.params7] at hA hval
  obtain ⟨v0, vs0, d0, ds0, p0, q0, hargs, rfl, rfl, h0, r0⟩ := trodAll_cons hA
  obtain ⟨rfl, rfl, rfl⟩ := trodAll_nil r0
  obtain rfl : args = #[v0] := by cases args; simp_all
  obtain ⟨rfl, rfl⟩ := trodVars_none hV
  have k0 := h0
  have lt0 : ∀ x ∈ p0, x.block < W.heap.size := by obtain ⟨m, hm⟩ := k0; exact DataW.trod_lt m _ _ _ hm
  obtain ⟨b0, b1, b2, y0, y1, y2, m, hagg, _, _, hy0, hy1, hy2⟩ := open_agg3 Tryz.underlying25 (by kernel_rfl) cells_Graph (hval 0 25 v0 rfl rfl) h0
  obtain ⟨b, hb, _⟩ := DataW.trod_bool Tryz.underlying4 hy0
  obtain rfl : b0 = .bool b := by simpa using hb
  obtain ⟨an, n, cn, ns, rfl, hn, hwf⟩ := rdIw_of_trod hy1
  obtain ⟨ae, me, ce, es, rfl, he⟩ := rdE_of_trod hy2
  subst hagg
  clear hA0 hval0
  refine (lawCo_calls b an ae n cn me ce ns es W hn he hwf).mono fun e W' ⟨he, bel⟩ => ?_
  subst he
  exact ⟨_, rfl, _, _, _, [], _, [], hW', trodAll_mk1 (shut_bool Tryz.underlying4 _), (trodAll_cons_mk (Below.trod laidOut (by kernel_rfl) (of_decide_eq_true (by kernel_rfl)) k0 bel lt0) trodAll_mk0), rfl, bel.frame _, fun h => by cases h⟩

theorem FnComponents_holds : Rows.FnComponentsSaid :=
  OpenClaim.holds_of_wide 7 Tryz.f7 rfl rfl rfl rfl rfl rfl rfl ⟨rfl, rfl, rfl, rfl, rfl⟩ rfl rfl rfl rfl rfl (by kernel_rfl) Tryz.func7 (by kernel_rfl)
    (of_decide_eq_true (by kernel_rfl)) (by unfold Func.isWrapper; first | (rw [if_pos (by decide +kernel)]; kernel_rfl) | (rw [if_neg (by decide +kernel)]; exact ⟨rfl, rfl⟩))
    (fun os started H enc _ => components_lifted os started H enc)
#print axioms FnComponents_holds
end Go.Proofs.YtbkoifdnlaihfaaGreat
