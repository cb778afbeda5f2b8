/- The walks of slices.Equal and laws.sameGraph, where both say the same. -/
import Derived.Test.YtbkoifdnlaihfaaGreatMem
import Derived.Test.YtbkoifdnlaihfaaGreatProg
import Derived.Deep.QuietTactic
import Derived.BigQuiet
import Derived.LoopTactic
namespace Go.Proofs.YtbkoifdnlaihfaaGreat
open Go.RowKit

set_option maxHeartbeats 1000000 in
theorem equalI_calls (a a' : Option Addr) (n c c' : Nat) (zs : List Int) (w : World) (h : RdI w a n zs) (h' : RdI w a' n zs) :
    Calls Tryz.prog 50 #[.slice a n c, .slice a' n c'] w fun e w' => e = .returned (.bool true) ∧ ∃ q, w' = w.drewN q := by
  have hs := h.small
  have H := Lib.hid h; have H' := Lib.hid h'
  clear h h'
  go_enter Tryz.func50, Tryz.ntmps50
  go_wp2_with fail
  go_loopw [13] (fun i wr => ∃ (k q : Nat), k ≤ n ∧ i = .int .i64 k ∧ wr = w.drewN q) (fun i _ => n - (intOf i).toNat)
  case atStart => exact ⟨0, 0, by omega, rfl, rfl⟩
  case round =>
    obtain ⟨k, q, hk, rfl, rfl⟩ := hrel
    by_cases hlt : k < n
    · obtain ⟨b, off, rfl, hb, hc⟩ := H.out.at_ (by omega)
      obtain ⟨b', off', rfl, hb', hc'⟩ := H'.out.at_ (by omega)
      obtain ⟨z, HZ, hcz⟩ := hc k hlt
      obtain ⟨z', HZ', hcz'⟩ := hc' k hlt
      obtain rfl : z = z' := by rw [← HZ.out, ← HZ'.out]
      clear hc hc'
      go_wp2_with fail
      go_quiet (fail)
      go_wp2
      go_roundw
      case rel => exact ⟨k + 1, _, by omega, by go_num, rfl⟩
      case measure => simp [intOf]; omega
    · go_wp2
      go_ret
      exact ⟨rfl, q, rfl⟩

set_option maxHeartbeats 2000000 in
theorem equalE_calls (a a' : Option Addr) (n c c' : Nat) (es : List (Int × Int × Int)) (w : World) (h : RdE w a n es) (h' : RdE w a' n es) :
    Calls Tryz.prog 51 #[.slice a n c, .slice a' n c'] w fun e w' => e = .returned (.bool true) ∧ ∃ q, w' = w.drewN q := by
  have hs := h.small
  have H := Lib.hid h; have H' := Lib.hid h'
  clear h h'
  go_enter Tryz.func51, Tryz.ntmps51
  go_wp2_with fail
  go_loopw [13] (fun i wr => ∃ (k q : Nat), k ≤ n ∧ i = .int .i64 k ∧ wr = w.drewN q) (fun i _ => n - (intOf i).toNat)
  case atStart => exact ⟨0, 0, by omega, rfl, rfl⟩
  case round =>
    obtain ⟨k, q, hk, rfl, rfl⟩ := hrel
    by_cases hlt : k < n
    · obtain ⟨b, off, rfl, hb, hc⟩ := H.out.at_ (by omega)
      obtain ⟨b', off', rfl, hb', hc'⟩ := H'.out.at_ (by omega)
      obtain ⟨x, y, z, HZ, e0, e1, e2⟩ := hc k hlt
      obtain ⟨x', y', z', HZ', d0, d1, d2⟩ := hc' k hlt
      have e := HZ.out.symm.trans HZ'.out
      simp only [Option.some.injEq, Prod.mk.injEq] at e
      obtain ⟨rfl, rfl, rfl⟩ := e
      clear hc hc'
      go_wp2_with fail
      go_quiet (fail)
      go_wp2
      go_roundw
      case rel => exact ⟨k + 1, _, by omega, by go_num, rfl⟩
      case measure => simp [intOf]; omega
    · go_wp2
      go_ret
      exact ⟨rfl, q, rfl⟩

set_option maxHeartbeats 2000000 in
theorem sameGraph_calls (d : Bool) (an an' ae ae' : Option Addr) (n cn cn' m ce ce' : Nat) (ns : List Int) (es : List (Int × Int × Int)) (w : World) (hn : RdI w an n ns) (hn' : RdI w an' n ns) (hr : RdE w ae m es) (hr' : RdE w ae' m es) :
    Calls Tryz.prog 13 #[.agg #[.bool d, .slice an n cn, .slice ae m ce], .agg #[.bool d, .slice an' n cn', .slice ae' m ce']] w fun e w' => e = .returned (.bool true) ∧ Below w.heap.size w w' := by
  have HN := Lib.hid hn; have HN' := Lib.hid hn'; have HR := Lib.hid hr; have HR' := Lib.hid hr'
  clear hn hn' hr hr'
  go_enter Tryz.func13, Tryz.ntmps13
  cases d
  all_goals
    go_wp2_with fail
    refine (equalI_calls an an' n cn cn' ns _ ((HN.out.alloc _).alloc _) ((HN'.out.alloc _).alloc _)).mono ?_
    rintro e w1 ⟨rfl, q1, rfl⟩
    go_wp2_with fail
    refine (equalE_calls ae ae' m ce ce' es _ (((HR.out.alloc _).alloc _).drewN _) (((HR'.out.alloc _).alloc _).drewN _)).mono ?_
    rintro e w2 ⟨rfl, q2, rfl⟩
    go_wp2_with fail
    go_ret
    exact ⟨rfl, below_drewN (((Below.refl _ _).alloc (Nat.le_refl _) _).alloc (by simp) _) _⟩

end Go.Proofs.YtbkoifdnlaihfaaGreat
