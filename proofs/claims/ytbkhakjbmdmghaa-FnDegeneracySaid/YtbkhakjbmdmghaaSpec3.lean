/- The walks of the reference's Weight, Joined, Nodes and From. -/
import Derived.Test.YtbkhakjbmdmghaaSpec2
namespace Go.Proofs.Ytbkhakjbmdmghaa
open Go.RowKit

theorem arcB_take {d : Bool} {es : List (Int × Int × Int)} {u v : Int} {k : Nat} {e : Int × Int × Int} (h : es[k]? = some e) : arcB d (es.take (k + 1)) u v = (arcB d (es.take k) u v || arcAt d e u v) := by
  obtain ⟨hk, rfl⟩ := List.getElem?_eq_some_iff.1 h
  unfold arcB
  rw [List.take_succ_eq_append_getElem hk, List.any_append]
  simp

set_option maxHeartbeats 2000000 in
set_option maxRecDepth 100000 in
theorem specWeight_calls (d : Bool) (an ae : Option Addr) (n cn m ce : Nat) (es : List (Int × Int × Int)) (u v : Int) (w : World) (hr : RdE w ae m es) :
    Calls Try.prog 33 #[.agg #[.bool d, .slice an n cn, .slice ae m ce], .int .i64 u, .int .i64 v] w fun e w' => (∃ z, e = .returned (.tuple #[.int .i64 z, .bool (arcB d es u v)])) ∧ Below w.heap.size w w' := by
  have hs := hr.small
  have HR := Lib.hid hr; clear hr
  go_enter Try.func33, Try.ntmps33
  go_wp2
  obtain ⟨w0, hw0⟩ : ∃ w0, w0 = w.alloc (.cells #[.bool d, .slice an n cn, .slice ae m ce] 25) := ⟨_, rfl⟩
  have k0 : w0.cell? ⟨w.heap.size, 0, none⟩ = some (.bool d) := by rw [hw0]; go_simp
  have hsz : w.heap.size < w0.heap.size := by rw [hw0]; simp
  have hb0 : Below w.heap.size w w0 := by rw [hw0]; exact (Below.refl _ _).alloc (Nat.le_refl _) _
  rw [← hw0]
  have HB0 := Lib.hid hb0; clear hb0
  clear hw0
  go_loopw [6, 7, 13] (fun z6 b7 i wr => ∃ (k : Nat) (z : Int), k ≤ m ∧ i = .int .i64 k ∧ z6 = .int .i64 z ∧ b7 = .bool (arcB d (es.take k) u v) ∧ Below (w.heap.size + 1) w0 wr) (fun _ _ i _ => m - (intOf i).toNat)
  case atStart => exact ⟨0, 0, by omega, rfl, rfl, rfl, Below.refl _ _⟩
  case round =>
    obtain ⟨k, z0, hk, rfl, rfl, rfl, hb⟩ := hrel
    have hszr := hb.size
    have HB := Lib.hid hb
    obtain ⟨c, _⟩ := bcell hb
    have j0 := (c w.heap.size 0 (by omega)).trans k0
    have hbw := HB0.out.trans (hb.mono (show w.heap.size ≤ w.heap.size + 1 by omega))
    clear c k0 hb
    obtain ⟨b7, hb7⟩ : ∃ b, arcB d (es.take k) u v = b := ⟨_, rfl⟩
    rw [hb7]
    have HB7 := Lib.hid hb7
    clear hb7
    by_cases hlt : k < m
    · obtain ⟨b, off, rfl, hbb, hc⟩ := HR.out.at_ (by omega)
      obtain ⟨x, y, z, HX, c1, c2, c3⟩ := hc k hlt
      clear hc
      obtain ⟨c, _⟩ := bcell hbw
      have d1 := (c _ _ hbb).trans c1
      have d2 := (c _ _ hbb).trans c2
      have d3 := (c _ _ hbb).trans c3
      clear c c1 c2 c3
      have HBW := Lib.hid hbw; clear hbw
      have hwr : w.heap.size < wr.heap.size := by omega
      have hbr : b < wr.heap.size := by omega
      have key : ((x == u) = true ∧ (y == v) = true ∧ Hid (arcAt d (x, y, z) u v = true)) ∨ (((x == u) = false ∨ ((x == u) = true ∧ (y == v) = false)) ∧ ((d = true ∧ Hid (arcAt d (x, y, z) u v = false)) ∨ (d = false ∧ (((x == v) = false ∧ Hid (arcAt d (x, y, z) u v = false)) ∨ ((x == v) = true ∧ (y == u) = false ∧ Hid (arcAt d (x, y, z) u v = false)) ∨ ((x == v) = true ∧ (y == u) = true ∧ Hid (arcAt d (x, y, z) u v = true)))))) := by
        unfold Hid arcAt
        cases (x == u) <;> cases (y == v) <;> cases d <;> cases (x == v) <;> cases (y == u) <;> simp
      rcases key with ⟨g1, g2, HA⟩ | ⟨g1 | ⟨g1, g2⟩, ⟨rfl, HA⟩ | ⟨rfl, ⟨g3, HA⟩ | ⟨g3, g4, HA⟩ | ⟨g3, g4, HA⟩⟩⟩
      all_goals
        go_wp2
        go_roundw
        case rel => exact ⟨k + 1, _, by omega, by go_num, rfl, congrArg Value.bool (by rw [arcB_take HX.out, HA.out, HB7.out]; simp), HB.out.alloc (by omega) _⟩
        case measure => simp [intOf]; omega
    · go_wp2
      go_ret2
      have hke : arcB d es u v = b7 := by
        have h := HB7.out
        rw [List.take_of_length_le (by have := HR.out.len; omega)] at h
        exact h
      rw [hke]
      exact ⟨⟨_, rfl⟩, HB0.out.trans (HB.out.mono (by omega))⟩

set_option maxHeartbeats 1000000 in
theorem joined_calls (d : Bool) (an ae : Option Addr) (n cn m ce : Nat) (es : List (Int × Int × Int)) (u v : Int) (w : World) (hr : RdE w ae m es) :
    Calls Try.prog 25 #[.agg #[.bool d, .slice an n cn, .slice ae m ce], .int .i64 u, .int .i64 v] w fun e w' => e = .returned (.bool (arcB d es u v)) ∧ Below w.heap.size w w' := by
  have HR := Lib.hid hr; clear hr
  go_enter Try.func25, Try.ntmps25
  go_wp2_with fail
  refine (specWeight_calls d an ae n cn m ce es u v _ (HR.out.alloc _)).mono ?_
  rintro e w1 ⟨⟨z, rfl⟩, hb1⟩
  have HB1 : Hid (Below w.heap.size w w1) := ((Below.refl w.heap.size w).alloc (Nat.le_refl _) _).trans (hb1.mono (by simp))
  clear hb1
  obtain ⟨b, hb⟩ : ∃ b, arcB d es u v = b := ⟨_, rfl⟩
  rw [hb]
  have HBB := Lib.hid hb
  clear hb
  go_wp2_with fail
  go_ret
  exact ⟨ret_bool HBB.out.symm, HB1.out⟩

set_option maxHeartbeats 1000000 in
theorem specNodes_calls (d : Bool) (an ae : Option Addr) (n cn m ce : Nat) (ns : List Int) (w : World) (hn : RdI w an n ns) (hn8 : n ≤ 1000) :
    Calls Try.prog 24 #[.agg #[.bool d, .slice an n cn, .slice ae m ce]] w fun e w' => ∃ v, e = .returned v ∧ w'.ownsRow (w.heap.size + 1) 3 1 v n ((sortI ns).map (Value.int .i64)) ∧ Below w.heap.size w w' := by
  have HN := Lib.hid hn; clear hn
  go_enter Try.func24, Try.ntmps24
  go_wp2_with fail
  refine (sortInts_calls an n cn ns _ (HN.out.alloc _) hn8).mono ?_
  rintro e w1 ⟨v, rfl, ho, hb1⟩
  have HO := Lib.hid ho
  have HB1 : Hid (Below w.heap.size w w1) := ((Below.refl w.heap.size w).alloc (Nat.le_refl _) _).trans (hb1.mono (by simp))
  clear ho hb1
  go_wp2_with fail
  go_ret
  exact ⟨_, rfl, by have h := HO.out; simpa using h, HB1.out⟩

end Go.Proofs.Ytbkhakjbmdmghaa
