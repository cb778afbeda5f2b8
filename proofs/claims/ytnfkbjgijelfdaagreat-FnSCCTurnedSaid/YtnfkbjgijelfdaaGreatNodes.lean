/- The walk of nodesOf. -/
import Derived.Test.YtnfkbjgijelfdaaGreatProg
import Derived.Test.YtnfkbjgijelfdaaGreatMem
namespace Go.Proofs.YtnfkbjgijelfdaaGreat
open Go.RowKit

theorem node_info : (Tryz.prog.info? 103).map (fun i => (i.zero, i.size, i.bytes)) = some (some .nilIface, 1, 16) := by kernel_rfl

def nodeV (z : Int) : Value := .iface 133 (.int .i64 z)

theorem own_shape' {w : World} {base : Nat} {e : TypeId} {size : Nat} {v : Value} {n : Nat} {xs : List Value} (h : w.ownsRow base e size v n xs) : ∃ a c, v = .slice a n c := by
  rcases h.2 with ⟨rfl, rfl⟩ | ⟨g, cap, cur, rfl, _⟩
  · exact ⟨none, 0, rfl⟩
  · exact ⟨_, _, rfl⟩

def NodesPost (n : Nat) (ns : List Int) (w : World) (e : Ending) (w' : World) : Prop :=
  ∃ v, e = .returned v ∧ w'.ownsRow w.heap.size 103 1 v n (ns.map nodeV) ∧ Below w.heap.size w w'

end Go.Proofs.YtnfkbjgijelfdaaGreat
