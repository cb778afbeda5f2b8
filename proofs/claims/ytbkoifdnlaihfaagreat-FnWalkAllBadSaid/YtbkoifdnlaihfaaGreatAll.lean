/- The walks of all and ends: iterators of a graph's nodes. -/
import Derived.Test.YtbkoifdnlaihfaaGreatIter
import Derived.BigRegion
namespace Go.Proofs.YtbkoifdnlaihfaaGreat
open Go.RowKit

/-- An iterator as an interface value. -/
def iterV (bi : Nat) : Value := .iface 290 (.pointer (some ⟨bi, 0, none⟩))

/-- A new iterator over ns. -/
def NewIter (ns : List Int) (w : World) (e : Ending) (w' : World) : Prop :=
  ∃ bi : Nat, e = .returned (iterV bi) ∧ ItSt w' w.heap.size bi 0 ns ∧ Below w.heap.size w w'

set_option maxHeartbeats 1000000 in
theorem newOrdered_calls (B : Nat) (v : Value) (ns : List Int) (w : World) (ho : w.ownsRow B 100 1 v ns.length (ns.map nodeV)) (hn : ns.length ≤ 1000000) (hB : B ≤ w.heap.size) :
    Calls Tryz.prog 242 #[v] w fun e w' => ∃ bi : Nat, e = .returned (.pointer (some ⟨bi, 0, none⟩)) ∧ ItSt w' B bi 0 ns ∧ Below w.heap.size w w' := by
  obtain ⟨a, c, rfl⟩ := own_shape' ho
  have HO := Lib.hid ho; clear ho
  go_enter Tryz.func242, Tryz.ntmps242
  go_wp2_with fail
  go_ret
  refine ⟨w.heap.size, rfl, ⟨a, c, by first | (simp; done) | exact (Go.MapKept.heap_alloc w _).1, HO.out.alloc _, hB, fun g hg => ?_, by omega, hn⟩, (Below.refl _ _).alloc (Nat.le_refl _) _⟩
  rcases HO.out.2 with ⟨e, -⟩ | ⟨g', cap, cur, e, -, hgb, -⟩
  · rw [e] at hg; cases hg
  · rw [e] at hg
    simp only [Value.ownBlock, Option.some.injEq] at hg
    have := (Array.getElem?_eq_some_iff.1 hgb).1
    omega
end Go.Proofs.YtbkoifdnlaihfaaGreat
