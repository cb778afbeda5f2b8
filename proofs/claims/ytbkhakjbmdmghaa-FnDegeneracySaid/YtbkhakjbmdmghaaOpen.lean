/- The walks of open and of the graphs' methods. -/
import Derived.Test.YtbkhakjbmdmghaaFind
import Derived.Test.YtbkhakjbmdmghaaRead2
namespace Go.Proofs.Ytbkhakjbmdmghaa
open Go.RowKit

set_option maxHeartbeats 400000 in
theorem nodeID_calls (x : Int) (w : World) : Calls Try.prog 102 #[.int .i64 x] w fun e w' => e = .returned (.int .i64 x) ∧ w = w' := by
  go_enter Try.func102, Try.ntmps102
  go_wp2
  go_ret
  exact ⟨rfl, rfl⟩

theorem method_ID (x : Int) (w : World) : (method 261 151 (.int .i64 x) "ID").run Try.prog w = .ok (102, .int .i64 x) w := by kernel_rfl

/-- What the graph's own functions say over a graph that read has made. -/
def NodeSays (ids : List Int) (x : Int) (w : World) (e : Ending) (w' : World) : Prop :=
  e = .returned (if memB ids x then .iface 151 (.int .i64 x) else .nilIface) ∧ Below w.heap.size w w'

set_option maxHeartbeats 1000000 in
theorem uNode_calls (w0 : World) (bp k : Nat) (ids : List Int) (a : Option Addr) (c : Nat) (out inn : List Arcs) (x : Int) (w : World) (h : ReadSt w0 bp k ids a c out inn w) (hs : ids.Pairwise (· ≤ ·)) (hk : k ≤ 1000000) :
    Calls Try.prog 89 #[.agg #[.pointer (some ⟨bp, 0, none⟩)], .int .i64 x] w (NodeSays ids x w) := by
  have H := Lib.hid h; clear h
  have HS := Lib.hid hs; clear hs
  go_enter Try.func89, Try.ntmps89
  go_wp2_with fail
  refine (node_calls w0 bp k ids a c out inn x _ (H.out.later ((Below.refl _ _).alloc (Nat.le_refl _) _)) HS.out hk).mono ?_
  rintro e w' ⟨rfl, q, rfl⟩
  cases hu : memB ids x
  all_goals
    have HU := Lib.hid hu
    go_wp2_with fail
    go_ret
    exact ⟨by rw [HU.out]; rfl, below_drewN ((Below.refl _ _).alloc (Nat.le_refl _) _) _⟩

def EdgeSays (ids : List Int) (out : List Arcs) (u v : Int) (w : World) (e : Ending) (w' : World) : Prop :=
  e = .returned (.bool (findO ids out u v).isSome) ∧ Below w.heap.size w w'

end Go.Proofs.Ytbkhakjbmdmghaa
