/- The walk of the laws' own arc. -/
import Derived.Test.YtbkhakjbmdmghaaProg
import Derived.Test.YtbkhakjbmdmghaaMem
import Derived.Deep.QuietTactic
import Derived.BigQuiet
import Derived.WalkLawsBesides
namespace Go.Proofs.Ytbkhakjbmdmghaa
open Go.RowKit

set_option maxHeartbeats 1000000 in
theorem arc_calls (d : Bool) (an ae : Option Addr) (n cn m ce : Nat) (es : List (Int × Int × Int)) (u v : Int) (w : World) (hr : RdE w ae m es) :
    Calls Try.prog 11 #[.agg #[.bool d, .slice an n cn, .slice ae m ce], .int .i64 u, .int .i64 v] w fun e w' => e = .returned (.bool (arcB d es u v)) ∧ Below w.heap.size w w' := by
  have hs := hr.small
  have HR := Lib.hid hr; clear hr
  go_enter Try.func11, Try.ntmps11
  go_wp2
  obtain ⟨w0, hw0⟩ : ∃ w0, w0 = w.alloc (.cells #[.bool d, .slice an n cn, .slice ae m ce] 25) := ⟨_, rfl⟩
  have k0 : w0.cell? ⟨w.heap.size, 0, none⟩ = some (.bool d) := by rw [hw0]; go_simp
  have k1 : w0.cell? ⟨w.heap.size, 2, none⟩ = some (.slice ae m ce) := by rw [hw0]; go_simp
  have hsz : w.heap.size < w0.heap.size := by rw [hw0]; simp
  have hb0 : Below w.heap.size w w0 := by rw [hw0]; exact (Below.refl _ _).alloc (Nat.le_refl _) _
  rw [← hw0]
  have HB0 := Lib.hid hb0; clear hb0
  clear hw0
  go_loopw [7] (fun i wr => ∃ k : Nat, k ≤ m ∧ i = .int .i64 k ∧ arcB d es u v = arcB d (es.drop k) u v ∧ Below (w.heap.size + 1) w0 wr) (fun i _ => m - (intOf i).toNat)
  case atStart => exact ⟨0, by omega, rfl, by simp, Below.refl _ _⟩
  case round =>
    obtain ⟨k, hk, rfl, he, hb⟩ := hrel
    have HE := Lib.hid he; clear he
    have hszr := hb.size
    have HB := Lib.hid hb
    obtain ⟨c, _⟩ := bcell hb
    have j0 := (c w.heap.size 0 (by omega)).trans k0
    have j1 := (c w.heap.size 2 (by omega)).trans k1
    have hbw := HB0.out.trans (hb.mono (show w.heap.size ≤ w.heap.size + 1 by omega))
    clear c k0 k1 hb
    by_cases hlt : k < m
    · obtain ⟨b, off, rfl, hbb, hc⟩ := HR.out.at_ (by omega)
      obtain ⟨x, y, z, HX, c1, c2, c3⟩ := hc k hlt
      clear hc
      obtain ⟨c, _⟩ := bcell hbw
      have d1 := (c _ _ hbb).trans c1
      have d2 := (c _ _ hbb).trans c2
      have d3 := (c _ _ hbb).trans c3
      clear c c1 c2 c3
      have HBW := Lib.hid hbw; clear hbw
      have hwr : w.heap.size < wr.heap.size := by omega
      have hbr : b < wr.heap.size := by omega
      have key : ((x == u) = true ∧ (y == v) = true ∧ Hid (arcAt d (x, y, z) u v = true)) ∨ (((x == u) = false ∨ ((x == u) = true ∧ (y == v) = false)) ∧ ((d = true ∧ Hid (arcAt d (x, y, z) u v = false)) ∨ (d = false ∧ (((x == v) = false ∧ Hid (arcAt d (x, y, z) u v = false)) ∨ ((x == v) = true ∧ (y == u) = false ∧ Hid (arcAt d (x, y, z) u v = false)) ∨ ((x == v) = true ∧ (y == u) = true ∧ Hid (arcAt d (x, y, z) u v = true)))))) := by
        unfold Hid arcAt
        cases (x == u) <;> cases (y == v) <;> cases d <;> cases (x == v) <;> cases (y == u) <;> simp
      rcases key with ⟨g1, g2, HA⟩ | ⟨g1 | ⟨g1, g2⟩, ⟨rfl, HA⟩ | ⟨rfl, ⟨g3, HA⟩ | ⟨g3, g4, HA⟩ | ⟨g3, g4, HA⟩⟩⟩
      all_goals
        go_wp2
        first
          | (go_ret; exact ⟨ret_bool (by rw [HE.out, arcB_step _ _ _ _ _ _ HX.out, HA.out]; rfl), (HBW.out.alloc (by omega) _)⟩)
          | (go_roundw
             case rel => exact ⟨k + 1, by omega, by go_num, by rw [HE.out, arcB_step _ _ _ _ _ _ HX.out, HA.out]; rfl, HB.out.alloc (by omega) _⟩
             case measure => simp [intOf]; omega)
    · go_wp2
      go_ret
      exact ⟨ret_bool (by rw [HE.out, arcB_end _ _ _ _ _ (by have := HR.out.len; omega)]), HB0.out.trans (HB.out.mono (by omega))⟩
end Go.Proofs.Ytbkhakjbmdmghaa
