/- The walks of number and iterated (over any iterator); slices.Sort at int. -/
import Derived.Test.YtbkhakjbmdmghaaIter
import Derived.Test.YtbkhakjbmdmghaaRead1
import Derived.Test.YtbkhakjbmdmghaaOpen
namespace Go.Proofs.Ytbkhakjbmdmghaa
open Go.RowKit Go.Sort

set_option maxHeartbeats 400000 in
theorem number_calls (x : Int) (w : World) : Calls Try.prog 31 #[nodeV x] w fun e w' => e = .returned (.int .i64 x) ∧ w = w' := by
  unfold nodeV
  have m1 := method_ID
  go_enter Try.func31, Try.ntmps31
  go_wp2_with fail
  refine (nodeID_calls x w).mono ?_
  rintro e w' ⟨rfl, rfl⟩
  go_wp2_with fail
  go_ret
  exact ⟨rfl, rfl⟩

def slLen : Value → Nat
  | .slice _ n _ => n
  | _ => 0

theorem own_within {w w' : World} {B E B' : Nat} {e : TypeId} {size : Nat} {v : Value} {n : Nat} {xs : List Value} (h : w.ownsRow B' e size v n xs) (hw : Within B E w w') (hB : E ≤ B') : w'.ownsRow B' e size v n xs :=
  ownsRow_of_heap h (fun g hg => hw.2.2.2.2 g (.inr (by have := h.lt g hg; omega)))

theorem Within.below {B E : Nat} {w0 w w' : World} (hb : Below B w0 w) (hw : Within B E w w') : Below B w0 w' :=
  hb.trans ⟨hw.1, hw.2.1, hw.2.2.1, hw.2.2.2.1, fun j hj => hw.2.2.2.2 j (.inl hj)⟩

def ItdPost (B : Nat) (ns : List Int) (w : World) (e : Ending) (w' : World) : Prop :=
  ∃ v, e = .returned v ∧ w'.ownsRow w.heap.size 3 1 v ns.length ((sortI ns).map (Value.int .i64)) ∧ Below B w w'

theorem int_info : (Try.prog.info? 3).map (fun i => (i.zero, i.size, i.bytes)) = some (some (.int .i64 0), 1, 8) := by kernel_rfl

end Go.Proofs.Ytbkhakjbmdmghaa
