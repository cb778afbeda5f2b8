/- The walks of the reference's small functions: hasInt, sameInts. -/
import Derived.Test.YtbkoifdnlaihfaaGreatPlain
import Derived.Test.YtbkoifdnlaihfaaGreatSpecP
namespace Go.Proofs.YtbkoifdnlaihfaaGreat
open Go.RowKit

set_option maxHeartbeats 400000 in
theorem hasInt_calls (a : Option Addr) (n cap : Nat) (zs : List Int) (x : Int) (w : World) (hr : RdI w a n zs) :
    Calls Tryz.prog 90 #[.slice a n cap, .int .i64 x] w fun e w' => e = .returned (.bool (hasB zs x)) ∧ w' = w := by
  have hs := hr.small
  have HR := Lib.hid hr; clear hr
  go_enter Tryz.func90, Tryz.ntmps90
  go_wp2
  go_loopw [9] (fun i wr => ∃ k : Nat, k ≤ n ∧ i = .int .i64 k ∧ hasB zs x = hasB (zs.drop k) x ∧ wr = w) (fun i _ => n - (intOf i).toNat)
  case atStart => exact ⟨0, by omega, rfl, by simp, rfl⟩
  case round =>
    obtain ⟨k, hk, rfl, he, rfl⟩ := hrel
    have HE := Lib.hid he; clear he
    by_cases hlt : k < n
    · obtain ⟨b, off, rfl, hb, hc⟩ := HR.out.at_ (by omega)
      obtain ⟨z, HZ, hck⟩ := hc k hlt
      clear hc
      have hkl : k < zs.length := by have := HR.out.len; omega
      have hst : hasB (zs.drop k) x = ((z == x) || hasB (zs.drop (k + 1)) x) := by
        have e1 : zs[k] = z := by have := HZ.out; simpa [List.getD, hkl] using this
        rw [Bool.eq_iff_iff, hasB_iff, Bool.or_eq_true, hasB_iff, List.drop_eq_getElem_cons hkl, e1, List.mem_cons, beq_iff_eq]
        exact ⟨fun h => h.imp Eq.symm id, fun h => h.imp Eq.symm id⟩
      by_cases hx : z = x
      · subst hx
        have HST : Hid (hasB (zs.drop k) z = true) := Lib.hid (by rw [hst]; simp)
        clear hst
        go_wp2
        go_ret
        exact ⟨ret_bool (by rw [HE.out, HST.out]), by first | rfl | trivial⟩
      · have hx' := beq_eq_false_iff_ne.2 hx
        have HST : Hid (hasB (zs.drop k) x = hasB (zs.drop (k + 1)) x) := Lib.hid (by rw [hst, hx']; rfl)
        clear hst
        clear hx
        go_wp2
        go_roundw
        case rel => exact ⟨k + 1, by omega, by go_num, by rw [HE.out, HST.out], by first | rfl | trivial⟩
        case measure => simp [intOf]; omega
    · go_wp2
      go_ret
      have hd : zs.drop k = [] := List.drop_eq_nil_of_le (by have := HR.out.len; omega)
      exact ⟨ret_bool (by rw [HE.out, hd]; rfl), by first | rfl | trivial⟩

set_option maxHeartbeats 400000 in
theorem sameInts_calls (a a' : Option Addr) (n n' c c' : Nat) (zs zs' : List Int) (w : World) (hr : RdI w a n zs) (hr' : RdI w a' n' zs') :
    Calls Tryz.prog 88 #[.slice a n c, .slice a' n' c'] w fun e w' => e = .returned (.bool (zs == zs')) ∧ ∃ q, w' = w.drewN q := by
  have hs := hr.small
  have hs' := hr'.small
  have HR := Lib.hid hr; clear hr
  have HR' := Lib.hid hr'; clear hr'
  by_cases hnn : n = n'
  · subst hnn
    go_enter Tryz.func88, Tryz.ntmps88
    go_wp2
    go_loopw [14] (fun i wr => ∃ k : Nat, k ≤ n ∧ i = .int .i64 k ∧ Hid ((zs == zs') = (zs.drop k == zs'.drop k)) ∧ ∃ q, wr = w.drewN q) (fun i _ => n - (intOf i).toNat)
    case atStart => exact ⟨0, by omega, rfl, Lib.hid (by simp), 0, rfl⟩
    case round =>
      obtain ⟨k, hk, rfl, HE, q, rfl⟩ := hrel
      by_cases hlt : k < n
      · obtain ⟨b, off, rfl, hb, hc⟩ := HR.out.at_ (by omega)
        obtain ⟨z, HZ, hck⟩ := hc k hlt
        obtain ⟨b', off', rfl, hb', hc'⟩ := HR'.out.at_ (by omega)
        obtain ⟨z', HZ', hck'⟩ := hc' k hlt
        have HST : Hid ((zs.drop k == zs'.drop k) = ((z == z') && (zs.drop (k + 1) == zs'.drop (k + 1)))) := by
          rw [← HZ.out, ← HZ'.out]
          exact beq_step (by have := HR.out.len; omega) (by have := HR'.out.len; omega)
        clear hc hc'
        by_cases hx : z = z'
        · subst hx
          have HST2 : Hid ((zs.drop k == zs'.drop k) = (zs.drop (k + 1) == zs'.drop (k + 1))) := Lib.hid (by rw [HST.out]; simp)
          go_wp2
          go_roundw
          case rel => exact ⟨k + 1, by omega, by go_num, Lib.hid (by rw [HE.out, HST2.out]), _, rfl⟩
          case measure => simp [intOf]; omega
        · have hx' := beq_eq_false_iff_ne.2 hx
          have HST2 : Hid ((zs.drop k == zs'.drop k) = false) := Lib.hid (by rw [HST.out, hx']; rfl)
          clear hx
          go_wp2
          go_ret
          exact ⟨ret_bool (by rw [HE.out, HST2.out]), q, rfl⟩
      · go_wp2
        go_ret
        have hd : zs.drop k = [] := List.drop_eq_nil_of_le (by have := HR.out.len; omega)
        have hd' : zs'.drop k = [] := List.drop_eq_nil_of_le (by have := HR'.out.len; omega)
        exact ⟨ret_bool (by rw [HE.out, hd, hd']; rfl), q, rfl⟩
  · have hne : ¬ ((n : Int) = (n' : Int)) := by omega
    have HF : Hid ((zs == zs') = false) := Lib.hid (by
      rw [beq_eq_false_iff_ne]
      intro e
      have h1 := HR.out.len
      have h2 := HR'.out.len
      rw [e] at h1; omega)
    clear hnn
    go_enter Tryz.func88, Tryz.ntmps88
    go_wp2
    go_ret
    exact ⟨ret_bool HF.out.symm, 0, rfl⟩
end Go.Proofs.YtbkoifdnlaihfaaGreat
