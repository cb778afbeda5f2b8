/- The walks of zzFits1 and fewOf. -/
import Derived.Test.YtbkoifdnlaihfaaGreatPlain4
namespace Go.Proofs.YtbkoifdnlaihfaaGreat
open Go.RowKit

set_option maxHeartbeats 400000 in
theorem fits_calls (d : Bool) (an ae : Option Addr) (n cn m ce : Nat) (w : World) (hn : n ≤ 9223372036854775807) (hm : m ≤ 9223372036854775807) :
    Calls Tryz.prog 9 #[.agg #[.bool d, .slice an n cn, .slice ae m ce]] w fun e w' => e = .returned (.bool (decide (n ≤ 2147483647 ∧ m ≤ 2147483647))) ∧ Below w.heap.size w w' := by
  by_cases h1 : n ≤ 2147483647
  · by_cases h2 : m ≤ 2147483647
    all_goals
      go_enter Tryz.func9, Tryz.ntmps9
      go_wp2
      go_ret
      exact ⟨ret_bool (by simp [h1, h2]), (Below.refl _ _).alloc (Nat.le_refl _) _⟩
  · go_enter Tryz.func9, Tryz.ntmps9
    go_wp2
    go_ret
    exact ⟨ret_bool (by simp [h1]), (Below.refl _ _).alloc (Nat.le_refl _) _⟩

set_option maxHeartbeats 1000000 in
theorem fewOf_calls (d dd : Bool) (an ae : Option Addr) (n cn m ce k : Nat) (ns : List Int) (es : List (Int × Int × Int)) (w : World) (hk : k ≤ 1000) (hn : RdI w an n ns) (hr : RdE w ae m es) :
    Calls Tryz.prog 10 #[.agg #[.bool d, .slice an n cn, .slice ae m ce], .bool dd, .int .i64 k] w fun e w' => e = .returned (.bool ((d == dd) && fewB ns es k)) ∧ Below w.heap.size w w' := by
  have HR := Lib.hid hr; clear hr
  have HN := Lib.hid hn; clear hn
  obtain ⟨q, hq⟩ : ∃ q, (d == dd) = q := ⟨_, rfl⟩
  cases q
  · have HQ := Lib.hid hq
    go_enter Tryz.func10, Tryz.ntmps10
    cases d <;> cases dd <;> simp at hq
    all_goals
      go_wp2_with fail
      go_ret
      exact ⟨rfl, (Below.refl _ _).alloc (Nat.le_refl _) _⟩
  · obtain rfl : d = dd := by simpa using hq
    clear hq
    go_enter Tryz.func10, Tryz.ntmps10
    cases d
    all_goals
      go_wp2_with fail
      refine (few_calls _ an ae n cn m ce k ns es _ hk (HN.out.alloc _) (HR.out.alloc _)).mono ?_
      rintro e w1 ⟨rfl, hb1⟩
      have HB := Lib.hid (((Below.refl w.heap.size w).alloc (Nat.le_refl _) _).trans (hb1.mono (by simp))); clear hb1
      go_wp2_with fail
      go_ret
      exact ⟨rfl, HB.out⟩
end Go.Proofs.YtbkoifdnlaihfaaGreat
