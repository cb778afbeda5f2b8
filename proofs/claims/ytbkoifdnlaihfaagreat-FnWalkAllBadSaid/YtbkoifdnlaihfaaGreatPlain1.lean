/- The walks of the statements' own small functions: index, has, rising. -/
import Derived.Test.YtbkoifdnlaihfaaGreatProg
import Derived.Test.YtbkoifdnlaihfaaGreatMem
import Derived.Test.YtbkoifdnlaihfaaGreatList
import Derived.Deep.QuietTactic
import Derived.BigQuiet
import Derived.WalkLawsBesides
namespace Go.Proofs.YtbkoifdnlaihfaaGreat
open Go.RowKit

set_option maxHeartbeats 400000 in
theorem index_calls (a : Option Addr) (n cap : Nat) (zs : List Int) (x : Int) (w : World) (hr : RdI w a n zs) :
    Calls Tryz.prog 81 #[.slice a n cap, .int .i64 x] w fun e w' => e = .returned (.int .i64 (idxFrom zs x 0)) ∧ w = w' := by
  have hs := hr.small
  have HR := Lib.hid hr; clear hr
  go_enter Tryz.func81, Tryz.ntmps81
  go_wp2
  go_loop [5] (fun i => ∃ k : Nat, k ≤ n ∧ i = .int .i64 k ∧ idxFrom zs x 0 = idxFrom (zs.drop k) x k) (fun i => n - (intOf i).toNat)
  case atStart => exact ⟨0, by omega, rfl, by simp⟩
  case round =>
    obtain ⟨k, hk, rfl, he⟩ := hrel
    have HE := Lib.hid he; clear he
    by_cases hlt : k < n
    · obtain ⟨b, off, rfl, hb, hc⟩ := HR.out.at_ (by omega)
      obtain ⟨z, HZ, hck⟩ := hc k hlt
      clear hc
      have HL := Lib.hid HR.out.len
      by_cases hx : z = x
      · subst hx
        go_wp2
        go_ret
        exact ⟨ret_int (by rw [HE.out, idxFrom_step _ _ _ (by have := HL.out; omega), HZ.out, if_pos rfl]), rfl⟩
      · have hx' := beq_eq_false_iff_ne.2 hx
        have HX := Lib.hid hx; clear hx
        go_wp2
        go_round
        case rel => exact ⟨k + 1, by omega, by go_num, by rw [HE.out, idxFrom_step _ _ _ (by have := HL.out; omega), HZ.out, if_neg HX.out]⟩
        case measure => simp [intOf]; omega
    · go_wp2
      go_ret
      exact ⟨ret_int (by rw [HE.out, idxFrom_end _ _ _ (by have := HR.out.len; omega)]), rfl⟩

set_option maxHeartbeats 400000 in
theorem has_calls (a : Option Addr) (n cap : Nat) (zs : List Int) (x : Int) (w : World) (hr : RdI w a n zs) :
    Calls Tryz.prog 45 #[.slice a n cap, .int .i64 x] w fun e w' => e = .returned (.bool (hasB zs x)) ∧ w = w' := by
  have HR := Lib.hid hr; clear hr
  go_enter Tryz.func45, Tryz.ntmps45
  go_wp2_with (go_at_call 81; refine (index_calls _ _ _ zs _ _ HR.out).mono ?_; rintro e w' ⟨rfl, rfl⟩)
  go_ret
  exact ⟨rfl, rfl⟩

set_option maxHeartbeats 400000 in
theorem rising_calls (a : Option Addr) (n cap : Nat) (zs : List Int) (w : World) (hr : RdI w a n zs) :
    Calls Tryz.prog 55 #[.slice a n cap] w fun e w' => e = .returned (.bool (risingB zs)) ∧ ∃ q, w' = w.drewN q := by
  have hs := hr.small
  have HR := Lib.hid hr; clear hr
  go_enter Tryz.func55, Tryz.ntmps55
  go_wp2
  go_loopw [3] (fun i wr => ∃ k : Nat, 1 ≤ k ∧ (k ≤ n ∨ k = 1) ∧ i = .int .i64 k ∧ (∀ j, j + 1 < k → zs.getD j 0 < zs.getD (j + 1) 0) ∧ ∃ q, wr = w.drewN q) (fun i _ => n - (intOf i).toNat)
  case atStart => exact ⟨1, by omega, .inr rfl, rfl, by omega, 0, rfl⟩
  case round =>
    obtain ⟨k, hk1, hk, rfl, he, q, rfl⟩ := hrel
    have HE := Lib.hid he; clear he
    have HK := Lib.hid hk; clear hk
    by_cases hlt : k < n
    · obtain ⟨b, off, rfl, hb, hc⟩ := HR.out.at_ (by omega)
      obtain ⟨z, HZ, hck⟩ := hc k hlt
      obtain ⟨y, HY, hcy⟩ := hc (k - 1) (by omega)
      clear hc
      by_cases hx : y < z
      · go_wp2
        go_quiet (fail)
        go_wp2
        go_roundw
        case rel =>
          refine ⟨k + 1, by omega, .inl (by omega), by go_num, ?_, _, rfl⟩
          intro j hj
          by_cases e : j + 1 < k
          · exact HE.out j e
          · obtain rfl : j = k - 1 := by omega
            rw [HY.out, show k - 1 + 1 = k from by omega, HZ.out]; exact hx
        case measure => simp [intOf]; omega
      · have hx' : decide (z ≤ y) = true := by simpa using hx
        go_wp2
        go_quiet (fail)
        go_wp2
        go_ret
        refine ⟨ret_bool (Eq.symm (Bool.eq_false_iff.2 fun h => ?_)), _, World.drewN_drewN ..⟩
        have h1 := (risingB_iff _).1 h (k - 1) (by have := HR.out.len; omega)
        rw [HY.out, show k - 1 + 1 = k from by omega, HZ.out] at h1
        omega
    · go_wp2
      go_ret
      refine ⟨ret_bool (Eq.symm ((risingB_iff _).2 ?_)), q, rfl⟩
      intro j hj
      have := HK.out; have := HR.out.len
      exact HE.out j (by omega)
end Go.Proofs.YtbkoifdnlaihfaaGreat
