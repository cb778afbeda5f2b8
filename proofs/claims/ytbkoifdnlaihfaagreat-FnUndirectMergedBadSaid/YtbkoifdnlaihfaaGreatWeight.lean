/- The walks of a graph's weights and edges: plain.weight, plain.edge, directed.Weight, directed.Edge. -/
import Derived.Test.YtbkoifdnlaihfaaGreatInv
import Derived.Test.YtbkoifdnlaihfaaGreatOpen
import Derived.Test.YtbkoifdnlaihfaaGreatMeth
import Derived.WalkLawsBesides
namespace Go.Proofs.YtbkoifdnlaihfaaGreat
open Go.RowKit

/-- The weight's bits between two nodes, if there is one (of a node with itself: 0). -/
def wOf (ids : List Int) (out : List Arcs) (u v : Int) : Option Nat := if u = v then (if memB ids u then some 0 else none) else findO ids out u v

def InfPost (w : World) (e : Ending) (w' : World) : Prop := (∃ x : Nat, e = .returned (.float .f64 x)) ∧ w = w'

theorem frombits_run (w : World) : (callFunc 245 #[.int .u64 9218868437227405312]).run Tryz.prog w = .ok (.value (.float .f64 9218868437227405312)) w := by kernel_rfl

set_option maxHeartbeats 400000 in
theorem inf_calls (w : World) : Calls Tryz.prog 244 #[.int .i64 1] w (InfPost w) := by
  have h := frombits_run
  go_enter Tryz.func244, Tryz.ntmps244
  go_wp2_with fail
  go_ret
  exact ⟨⟨_, rfl⟩, rfl⟩

def WeightPost (ids : List Int) (out : List Arcs) (u v : Int) (w : World) (e : Ending) (w' : World) : Prop :=
  ∃ x : Nat, e = .returned (.tuple #[.float .f64 x, .bool (wOf ids out u v).isSome]) ∧ (∀ y, wOf ids out u v = some y → x = y) ∧ Below w.heap.size w w'

set_option maxHeartbeats 1000000 in
theorem weight_calls (w0 : World) (bp k : Nat) (ids : List Int) (a : Option Addr) (c : Nat) (out inn : List Arcs) (u v : Int) (w : World) (h : ReadSt w0 bp k ids a c out inn w) (hs : ids.Pairwise (· ≤ ·)) (hk : k ≤ 1000000) :
    Calls Tryz.prog 241 #[.pointer (some ⟨bp, 0, none⟩), .int .i64 u, .int .i64 v] w (WeightPost ids out u v w) := by
  have H := Lib.hid h; clear h
  have HS := Lib.hid hs; clear hs
  by_cases huv : u = v
  · subst huv
    have HW : Hid (wOf ids out u u = if memB ids u then some 0 else none) := by unfold Hid wOf; rw [if_pos rfl]
    go_enter Tryz.func241, Tryz.ntmps241
    go_wp2_with fail
    refine (pidx_calls bp a k c ids u w H.out.cell H.out.rd (by omega) HS.out).mono ?_
    rintro e w' ⟨rfl, q, rfl⟩
    cases hu : memB ids u
    all_goals
      have HU := Lib.hid hu
      go_wp2_with fail
      go_ret2
      exact ⟨0, by rw [HW.out, HU.out]; rfl, fun y hy => by rw [HW.out, HU.out] at hy; simp at hy <;> first | exact hy | exact hy.symm, below_drewN (Below.refl _ _) _⟩
  · have hne : (u == v) = false := by simpa using huv
    have HW : Hid (wOf ids out u v = findO ids out u v) := by unfold Hid wOf; rw [if_neg huv]
    clear huv
    go_enter Tryz.func241, Tryz.ntmps241
    go_wp2_with fail
    refine (find_calls w0 bp k ids a c out inn u v w H.out HS.out hk).mono ?_
    rintro e w1 ⟨hb, t, x, rfl, hx⟩
    have HB := Lib.hid hb; have HX := Lib.hid hx
    clear hb hx
    obtain ⟨r, hr⟩ : ∃ r, (findO ids out u v).isSome = r := ⟨_, rfl⟩
    rw [hr]
    have HR := Lib.hid hr; clear hr
    cases r
    · go_wp2_with fail
      refine (inf_calls _).mono ?_
      rintro e w2 ⟨⟨y, rfl⟩, rfl⟩
      go_wp2_with fail
      go_ret2
      refine ⟨y, by rw [HW.out, HR.out]; rfl, fun z hz => ?_, ?_⟩
      · rw [HW.out] at hz; have := HR.out; rw [hz] at this; cases this
      · exact HB.out.alloc HB.out.size _
    · go_wp2_with fail
      go_ret2
      refine ⟨x, by rw [HW.out, HR.out]; rfl, fun z hz => ?_, ?_⟩
      · rw [HW.out] at hz
        rcases HX.out with h | ⟨h, _⟩
        · rw [h] at hz; cases hz
        · rw [h] at hz; exact Option.some.inj hz
      · exact HB.out.alloc HB.out.size _

set_option maxHeartbeats 1000000 in
theorem dWeight_calls (w0 : World) (bp k : Nat) (ids : List Int) (a : Option Addr) (c : Nat) (out inn : List Arcs) (u v : Int) (w : World) (h : ReadSt w0 bp k ids a c out inn w) (hs : ids.Pairwise (· ≤ ·)) (hk : k ≤ 1000000) :
    Calls Tryz.prog 235 #[.agg #[.pointer (some ⟨bp, 0, none⟩)], .int .i64 u, .int .i64 v] w (WeightPost ids out u v w) := by
  have H := Lib.hid h; clear h
  have HS := Lib.hid hs; clear hs
  go_enter Tryz.func235, Tryz.ntmps235
  go_wp2_with fail
  refine (weight_calls w0 bp k ids a c out inn u v _ (H.out.later ((Below.refl _ _).alloc (Nat.le_refl _) _)) HS.out hk).mono ?_
  rintro e w1 ⟨x, rfl, hx, hb⟩
  have HB := Lib.hid (((Below.refl w.heap.size w).alloc (Nat.le_refl _) (.cells #[.pointer (some ⟨bp, 0, none⟩)] 73)).trans (hb.mono (by simp)))
  have HX := Lib.hid hx
  obtain ⟨r, hr⟩ : ∃ r, (wOf ids out u v).isSome = r := ⟨_, rfl⟩
  rw [hr]
  have HR := Lib.hid hr; clear hr hx hb
  go_wp2_with fail
  go_ret2
  exact ⟨x, by rw [HR.out]; rfl, HX.out, HB.out⟩

/-- An edge, whichever. -/
def AnyEdge (w : World) (e : Ending) (w' : World) : Prop := (∃ v : Value, e = .returned v) ∧ Below w.heap.size w w'

set_option maxHeartbeats 1000000 in
theorem edge_calls (w0 : World) (bp k : Nat) (ids : List Int) (a : Option Addr) (c : Nat) (out inn : List Arcs) (u v : Int) (w : World) (h : ReadSt w0 bp k ids a c out inn w) (hs : ids.Pairwise (· ≤ ·)) (hk : k ≤ 1000000) :
    Calls Tryz.prog 236 #[.pointer (some ⟨bp, 0, none⟩), .int .i64 u, .int .i64 v] w (AnyEdge w) := by
  have H := Lib.hid h; clear h
  have HS := Lib.hid hs; clear hs
  go_enter Tryz.func236, Tryz.ntmps236
  go_wp2_with fail
  refine (find_calls w0 bp k ids a c out inn u v w H.out HS.out hk).mono ?_
  rintro e w1 ⟨hb, t, x, rfl, hx⟩
  have HB := Lib.hid hb
  clear hb hx
  obtain ⟨r, hr⟩ : ∃ r, (findO ids out u v).isSome = r := ⟨_, rfl⟩
  rw [hr]
  clear hr
  cases r
  all_goals
    go_wp2_with fail
    go_ret
    exact ⟨⟨_, rfl⟩, HB.out.alloc HB.out.size _⟩

set_option maxHeartbeats 1000000 in
theorem dEdgeV_calls (w0 : World) (bp k : Nat) (ids : List Int) (a : Option Addr) (c : Nat) (out inn : List Arcs) (u v : Int) (w : World) (h : ReadSt w0 bp k ids a c out inn w) (hs : ids.Pairwise (· ≤ ·)) (hk : k ≤ 1000000) :
    Calls Tryz.prog 228 #[.agg #[.pointer (some ⟨bp, 0, none⟩)], .int .i64 u, .int .i64 v] w (AnyEdge w) := by
  have H := Lib.hid h; clear h
  have HS := Lib.hid hs; clear hs
  go_enter Tryz.func228, Tryz.ntmps228
  go_wp2_with fail
  obtain ⟨w1, hw1⟩ : ∃ w1, w1 = w.alloc (.cells #[.pointer (some ⟨bp, 0, none⟩)] 73) := ⟨_, rfl⟩
  have HB1 : Hid (Below w.heap.size w w1) := by rw [hw1]; exact (Below.refl _ _).alloc (Nat.le_refl _) _
  have k0 : w1.cell? ⟨w.heap.size, 0, none⟩ = some (.pointer (some ⟨bp, 0, none⟩)) := by rw [hw1]; go_simp
  have hs1 : w.heap.size < w1.heap.size := by rw [hw1]; simp
  rw [← hw1]
  clear hw1
  refine (dEdge_calls w0 bp k ids a c out inn u v w1 (H.out.later HB1.out) HS.out hk).mono ?_
  rintro e w2 ⟨rfl, hb⟩
  have k2 := (hb.cell (p := ⟨w.heap.size, 0, none⟩) hs1).trans k0
  have HB2 := Lib.hid (HB1.out.trans (hb.mono (by omega)))
  have hs2 : w.heap.size < w2.heap.size := Nat.lt_of_lt_of_le hs1 hb.size
  clear hb k0 hs1
  obtain ⟨r, hr⟩ : ∃ r, (findO ids out u v).isSome = r := ⟨_, rfl⟩
  rw [hr]
  clear hr
  cases r
  · go_wp2_with fail
    go_ret
    exact ⟨⟨_, rfl⟩, HB2.out⟩
  · go_wp2_with fail
    refine (edge_calls w0 bp k ids a c out inn u v w2 (H.out.later HB2.out) HS.out hk).mono ?_
    rintro e w3 ⟨⟨x, rfl⟩, hb⟩
    have HB3 := Lib.hid (HB2.out.trans (hb.mono (by omega)))
    clear hb
    go_wp2_with fail
    go_ret
    exact ⟨⟨_, rfl⟩, HB3.out⟩
end Go.Proofs.YtbkoifdnlaihfaaGreat
