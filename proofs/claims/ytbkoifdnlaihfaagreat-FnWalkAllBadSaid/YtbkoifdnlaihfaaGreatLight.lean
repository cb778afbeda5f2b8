/- The walk of light. -/
import Derived.Test.YtbkoifdnlaihfaaGreatLawSt
namespace Go.Proofs.YtbkoifdnlaihfaaGreat
open Go.RowKit

def SomeBool (w : World) (e : Ending) (w' : World) : Prop := (∃ b : Bool, e = .returned (.bool b)) ∧ Below w.heap.size w w'

set_option maxHeartbeats 1000000 in
theorem light_calls (d : Bool) (an ae : Option Addr) (n cn m ce : Nat) (es : List (Int × Int × Int)) (w : World) (hr : RdE w ae m es) :
    Calls Tryz.prog 15 #[.agg #[.bool d, .slice an n cn, .slice ae m ce]] w (SomeBool w) := by
  have hs := hr.small
  have HR := Lib.hid (hr.alloc (.cells #[.bool d, .slice an n cn, .slice ae m ce] 25)); clear hr
  go_enter Tryz.func15, Tryz.ntmps15
  go_wp2_with fail
  go_loop [3] (fun i => ∃ k : Nat, k ≤ m ∧ i = .int .i64 k) (fun i => m - (intOf i).toNat)
  case atStart => exact ⟨0, by omega, rfl⟩
  case round =>
    obtain ⟨k, hk, rfl⟩ := hrel
    by_cases hlt : k < m
    · obtain ⟨b, off, rfl, hbb, hc⟩ := HR.out.at_ (by omega)
      obtain ⟨x, y, z, HX, c1, c2, c3⟩ := hc k hlt
      clear hc c1 c2
      have key : 1099511627776 < z ∨ (z ≤ 1099511627776 ∧ (z < -1099511627776 ∨ -1099511627776 ≤ z)) := by omega
      rcases key with g1 | ⟨g1, g2 | g2⟩
      all_goals
        go_wp2_with fail
        first
          | (go_ret; exact ⟨⟨_, rfl⟩, (Below.refl _ _).alloc (Nat.le_refl _) _⟩)
          | (go_round
             case rel => exact ⟨k + 1, by omega, by go_num⟩
             case measure => simp [intOf]; omega)
    · go_wp2
      go_ret
      exact ⟨⟨_, rfl⟩, (Below.refl _ _).alloc (Nat.le_refl _) _⟩
end Go.Proofs.YtbkoifdnlaihfaaGreat
