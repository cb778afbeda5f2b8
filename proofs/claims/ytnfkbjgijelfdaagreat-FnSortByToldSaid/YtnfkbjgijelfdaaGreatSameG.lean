/- The walks of slices.Equal and laws.sameGraph, where both say the same. -/
import Derived.Test.YtnfkbjgijelfdaaGreatMem
import Derived.Test.YtnfkbjgijelfdaaGreatProg
import Derived.Deep.QuietTactic
import Derived.BigQuiet
import Derived.LoopTactic
namespace Go.Proofs.YtnfkbjgijelfdaaGreat
open Go.RowKit

set_option maxHeartbeats 1000000 in
theorem equalI_calls (a a' : Option Addr) (n c c' : Nat) (zs : List Int) (w : World) (h : RdI w a n zs) (h' : RdI w a' n zs) :
    Calls Tryz.prog 46 #[.slice a n c, .slice a' n c'] w fun e w' => e = .returned (.bool true) ∧ ∃ q, w' = w.drewN q := by
  have hs := h.small
  have H := Lib.hid h; have H' := Lib.hid h'
  clear h h'
  go_enter Tryz.func46, Tryz.ntmps46
  go_wp2_with fail
  go_loopw [13] (fun i wr => ∃ (k q : Nat), k ≤ n ∧ i = .int .i64 k ∧ wr = w.drewN q) (fun i _ => n - (intOf i).toNat)
  case atStart => exact ⟨0, 0, by omega, rfl, rfl⟩
  case round =>
    obtain ⟨k, q, hk, rfl, rfl⟩ := hrel
    by_cases hlt : k < n
    · obtain ⟨b, off, rfl, hb, hc⟩ := H.out.at_ (by omega)
      obtain ⟨b', off', rfl, hb', hc'⟩ := H'.out.at_ (by omega)
      obtain ⟨z, HZ, hcz⟩ := hc k hlt
      obtain ⟨z', HZ', hcz'⟩ := hc' k hlt
      obtain rfl : z = z' := by rw [← HZ.out, ← HZ'.out]
      clear hc hc'
      go_wp2_with fail
      go_quiet (fail)
      go_wp2
      go_roundw
      case rel => exact ⟨k + 1, _, by omega, by go_num, rfl⟩
      case measure => simp [intOf]; omega
    · go_wp2
      go_ret
      exact ⟨rfl, q, rfl⟩

end Go.Proofs.YtnfkbjgijelfdaaGreat
