/- FnIsPath returns true for every input, and its arguments read afterwards as they read before. No condition. -/
import Derived.Test.YtkplhkbildjdbaaRows
import Derived.Test.YtkplhkbildjdbaaLawIsPath
import Derived.Test.YtkplhkbildjdbaaReads
import Derived.ShutString
import Derived.ChangeOld
namespace Go.Proofs.Ytkplhkbildjdbaa
open Go.ChangeShapes Go.WideShapes Go.ChangeAt Go.RowKit Go.Joins

theorem own : ownKnob Try.prog.godebug = none := by kernel_rfl
theorem laidOut : laidOutB Try.prog = true := by kernel_rfl

set_option maxRecDepth 100000 in
theorem isPath_lifted (os : Os) (started : os.Started) (H : Type) (enc : TypeId × Value → H) :
    ReturnsInHanded {} Try.checked os 3 .any (Rows.fnIsPathSpec.pre6 enc Try.prog Try.f3 Rows.fnIsPathRow.domain false) (Rows.fnIsPathSpec.post enc Try.prog Try.f3 false true false false) := by
  refine returnsInHanded_of_change (C := Try.checked) own started (by kernel_rfl) Try.func3
    (ChangeSpec.witness6 (enc := enc) (C := Try.checked) false ⟨#[], #[.agg #[.bool false, .slice none 0 0, .slice none 0 0], .slice none 0 0], []⟩ 8 (by kernel_rfl) (by kernel_rfl) (by kernel_rfl) (by kernel_rfl)) ?_
  intro W base args ds gs before hval0 hW hcnd _
  have hval : ∀ (j : Nat) t v, Try.f3.params[j]? = some t → args[j]? = some v → Value.okWide Try.prog W .any base t v := hval0
  have hW' := hW
  obtain ⟨p, q, hA0, hV, rfl, hfz, hnd⟩ := hW
  have hA : DataW.TrodAll enc Try.prog W 0 (fun _ => true) true Try.f3.params.toList args.toList ds p := hA0
  rw [Try.params3] at hA hval
  obtain ⟨v0, vs0, d0, ds0, p0, q0, hargs, rfl, rfl, h0, r0⟩ := trodAll_cons hA
  obtain ⟨v1, vs1, d1, ds1, p1, q1, rfl, rfl, rfl, h1, r1⟩ := trodAll_cons r0
  obtain ⟨rfl, rfl, rfl⟩ := trodAll_nil r1
  obtain rfl : args = #[v0, v1] := by cases args; simp_all
  obtain ⟨rfl, rfl⟩ := trodVars_none hV
  have k0 := h0
  have k1 := h1
  have lt0 : ∀ x ∈ p0, x.block < W.heap.size := by obtain ⟨m, hm⟩ := k0; exact DataW.trod_lt m _ _ _ hm
  have lt1 : ∀ x ∈ p1, x.block < W.heap.size := by obtain ⟨m, hm⟩ := k1; exact DataW.trod_lt m _ _ _ hm
  obtain ⟨b0, b1, b2, y0, y1, y2, m, hagg, _, _, hy0, hy1, hy2⟩ := open_agg3 Try.underlying25 (by kernel_rfl) cells_Graph (hval 0 25 v0 rfl rfl) h0
  obtain ⟨b, hb, _⟩ := DataW.trod_bool Try.underlying4 hy0
  obtain rfl : b0 = .bool b := by simpa using hb
  obtain ⟨an, n, cn, ns, rfl, hn⟩ := rdI_of_trod hy1
  obtain ⟨ae, me, ce, es, rfl, he⟩ := rdE_of_trod hy2
  obtain ⟨a1, len1, cap1, hv1⟩ := okWide_slice Try.underlying22 (hval 1 22 v1 rfl rfl)
  obtain ⟨ap, np, cp, ps, hvp, hp⟩ : ∃ a n c ns, v1 = .slice a n c ∧ RdI W a n ns := by
    obtain ⟨fuel, hf⟩ := h1
    rw [hv1] at hf ⊢
    exact rdI_of_trod (by simpa [Value.cells] using hf)
  subst hagg hvp
  clear hA0 hval0
  refine (law_calls b an ae ap n cn me ce np cp ns es ps W hn he hp).mono fun e W' ⟨he, bel⟩ => ?_
  subst he
  exact ⟨_, rfl, _, _, _, [], _, [], hW', trodAll_mk1 (shut_bool Try.underlying4 _), (trodAll_cons_mk (Below.trod laidOut (by kernel_rfl) (of_decide_eq_true (by kernel_rfl)) k0 bel lt0) (trodAll_cons_mk (Below.trod laidOut (by kernel_rfl) (of_decide_eq_true (by kernel_rfl)) k1 bel lt1) trodAll_mk0)), rfl, bel.frame _, fun h => by cases h⟩

theorem FnIsPath_holds : Rows.FnIsPathSaid :=
  OpenClaim.holds_of_wide 3 Try.f3 rfl rfl rfl rfl rfl rfl rfl ⟨rfl, rfl, rfl, rfl, rfl⟩ rfl rfl rfl rfl rfl (by kernel_rfl) Try.func3 (by kernel_rfl)
    (of_decide_eq_true (by kernel_rfl)) (by unfold Func.isWrapper; first | (rw [if_pos (by decide +kernel)]; kernel_rfl) | (rw [if_neg (by decide +kernel)]; exact ⟨rfl, rfl⟩))
    (fun os started H enc _ => isPath_lifted os started H enc)
#print axioms FnIsPath_holds
end Go.Proofs.Ytkplhkbildjdbaa
