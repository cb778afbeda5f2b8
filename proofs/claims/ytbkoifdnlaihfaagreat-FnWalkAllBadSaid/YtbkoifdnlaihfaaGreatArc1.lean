/- The walk of slices.BinarySearchFunc over arcs. -/
import Derived.Test.YtbkoifdnlaihfaaGreatProg
import Derived.Test.YtbkoifdnlaihfaaGreatArcMem
import Derived.Deep.QuietTactic
import Derived.BigQuiet
import Derived.Deep.LoopGhost
import Derived.WalkLawsBesides
namespace Go.Proofs.YtbkoifdnlaihfaaGreat
open Go.RowKit

/-- What is known of a closure that compares an arc's end with a number. -/
def Compares (f : FuncId) : Prop := (∀ args w, (callFunc f args).run Tryz.prog w = .ok (.enter f args) w) ∧ ∀ (t k x : Nat) (w : World), t < 4611686018427387904 → k < 4611686018427387904 →
  Calls Tryz.prog f #[.agg #[.int .i64 t, .float .f64 x], .int .i64 k] w fun e w' => e = .returned (.int .i64 ((t : Int) - k)) ∧ Below w.heap.size w w'

set_option maxHeartbeats 400000 in
theorem set_cmp : Compares 179 := by
  refine ⟨fun args w => by go_simp, ?_⟩
  intro t k x w ht hk
  go_enter Tryz.func179, Tryz.ntmps179
  go_wp2
  go_ret
  exact ⟨rfl, (Below.refl _ _).alloc (Nat.le_refl _) _⟩

set_option maxHeartbeats 2000000 in
theorem search_calls (f : FuncId) (hf : Compares f) (a : Option Addr) (n c k : Nat) (l : Arcs) (w : World) (hr : RdA w a n l) (hup : ArcsUp l) (hk : k < 4611686018427387904) (hto : ∀ j, j < n → toAt l j < 4611686018427387904) :
    Calls Tryz.prog 178 #[.slice a n c, .int .i64 k, .func (.func f) #[] #[]] w (ArcFound l k w) := by
  have hs := hr.small
  have hen := hf.1
  have HF := Lib.hid hf.2; clear hf
  have HR := Lib.hid hr; clear hr
  have HU := Lib.hid hup; clear hup
  have HT := Lib.hid hto; clear hto
  go_enter Tryz.func178, Tryz.ntmps178
  go_wp2
  go_loopg [9, 10] n (fun g s7 s8 wr => ∃ lo hi : Nat, s7 = .int .i64 lo ∧ s8 = .int .i64 hi ∧ lo ≤ hi ∧ hi ≤ n ∧ hi - lo ≤ g ∧ Below w.heap.size w wr ∧ (∀ t, t < lo → toAt l t < k) ∧ (∀ t, hi ≤ t → t < n → k ≤ toAt l t))
  case atStart => exact ⟨0, n, rfl, rfl, Nat.zero_le _, Nat.le_refl _, by omega, Below.refl _ _, fun t ht => absurd ht (Nat.not_lt_zero _), fun t h1 h2 => by omega⟩
  case round =>
    obtain ⟨lo, hi, rfl, rfl, hlh, hin, hg, hb, h1, h2⟩ := hrel
    have I := Lib.hid (And.intro h1 h2)
    have HB := Lib.hid hb
    clear h1 h2
    by_cases hlt : lo < hi
    · obtain ⟨b, off, rfl, hbb, hc⟩ := HR.out.at_ (by omega)
      obtain ⟨t, x, HL, c1, c2⟩ := hc ((lo + hi) / 2) (by omega)
      clear hc
      obtain ⟨c', _⟩ := bcell hb
      have d1 := (c' _ _ hbb).trans c1
      have d2 := (c' _ _ hbb).trans c2
      clear c' c1 c2 hb
      have HTo := Lib.hid (show toAt l ((lo + hi) / 2) = t from by unfold toAt; simp [List.getD, HL.out])
      have ht : t < 4611686018427387904 := by rw [← HTo.out]; exact HT.out _ (by omega)
      go_wp2_with fail
      refine (HF.out t k x wr ht hk).mono ?_
      rintro e w1 ⟨rfl, hb1⟩
      have HB1 := Lib.hid (HB.out.trans (hb1.mono HB.out.size)); clear hb1
      by_cases hyx : (t : Int) - k < 0
      · go_wp2_with fail
        go_roundg (hi - ((lo + hi) / 2 + 1))
        case measure => omega
        case rel =>
          refine ⟨(lo + hi) / 2 + 1, hi, by rw [show ((lo : Int) + (hi : Int)) / 2 + 1 = (((lo + hi) / 2 + 1 : Nat) : Int) by omega], rfl, by omega, hin, Nat.le_refl _, HB1.out, fun t' ht' => ?_, I.out.2⟩
          by_cases e : t' = (lo + hi) / 2
          · rw [e, HTo.out]; omega
          · have := HU.out t' ((lo + hi) / 2) (by omega) (by have := HR.out.len; omega)
            rw [HTo.out] at this; omega
      · go_wp2_with fail
        go_roundg ((lo + hi) / 2 - lo)
        case measure => omega
        case rel =>
          refine ⟨lo, (lo + hi) / 2, rfl, by rw [show ((lo : Int) + (hi : Int)) / 2 = (((lo + hi) / 2 : Nat) : Int) by omega], by omega, by omega, Nat.le_refl _, HB1.out, I.out.1, fun t' ht' htn => ?_⟩
          by_cases e : t' = (lo + hi) / 2
          · rw [e, HTo.out]; omega
          · have := HU.out ((lo + hi) / 2) t' (by omega) (by have := HR.out.len; omega)
            rw [HTo.out] at this; omega
    · obtain rfl : hi = lo := by omega
      by_cases hn : hi < n
      · obtain ⟨b, off, rfl, hbb, hc⟩ := HR.out.at_ (by omega)
        obtain ⟨t, x, HL, c1, c2⟩ := hc hi (by omega)
        clear hc
        obtain ⟨c', _⟩ := bcell hb
        have d1 := (c' _ _ hbb).trans c1
        have d2 := (c' _ _ hbb).trans c2
        clear c' c1 c2 hb
        have HTo := Lib.hid (show toAt l hi = t from by unfold toAt; simp [List.getD, HL.out])
        have ht : t < 4611686018427387904 := by rw [← HTo.out]; exact HT.out _ (by omega)
        go_wp2_with fail
        refine (HF.out t k x wr ht hk).mono ?_
        rintro e w1 ⟨rfl, hb1⟩
        have HB1 := Lib.hid (HB.out.trans (hb1.mono HB.out.size)); clear hb1
        by_cases hyx : t = k
        · have hd : ((t : Int) - k == 0) = true := beq_iff_eq.2 (by omega)
          have HX := Lib.hid hyx; clear hyx
          go_wp2_with fail
          go_ret2
          exact ⟨hi, true, rfl, ⟨by have := HR.out.len; omega, I.out.1, fun a h1 h2 => I.out.2 a h1 (by have := HR.out.len; omega), by rw [HTo.out, HX.out]; simp; have := HR.out.len; omega⟩, HB1.out⟩
        · have hd : ((t : Int) - k == 0) = false := beq_eq_false_iff_ne.2 (by omega)
          have HX := Lib.hid hyx; clear hyx
          go_wp2_with fail
          go_ret2
          exact ⟨hi, false, rfl, ⟨by have := HR.out.len; omega, I.out.1, fun a h1 h2 => I.out.2 a h1 (by have := HR.out.len; omega), by rw [HTo.out]; simp [HX.out]⟩, HB1.out⟩
      · go_wp2_with fail
        go_ret2
        exact ⟨hi, false, rfl, ⟨by have := HR.out.len; omega, I.out.1, fun a h1 h2 => I.out.2 a h1 (by have := HR.out.len; omega), by simp; have := HR.out.len; omega⟩, HB.out⟩
end Go.Proofs.YtbkoifdnlaihfaaGreat
