/- The walks of linear.NodeStack within traverse.DepthFirst: Push, Len, Pop. -/
import Derived.Test.YtbkhakjbmdmghaaSets
import Derived.Test.YtbkhakjbmdmghaaSeen
import Derived.Maps.AppendAt
import Derived.Deep.QuietTactic
import Derived.BigQuiet
namespace Go.Proofs.Ytbkhakjbmdmghaa
open Go.RowKit

/-- A slice's block is the old one or a new one. -/
def Fresh (w : World) (v v' : Value) : Prop := v'.ownBlock = v.ownBlock ∨ ∀ g, v'.ownBlock = some g → w.heap.size ≤ g

/-- A prefix of a row. -/
theorem own_take {w : World} {B : Nat} {e : TypeId} {a : Option Addr} {n c k : Nat} {xs : List Value} (h : w.ownsRow B e 1 (.slice a n c) n xs) (hk : k ≤ n) : w.ownsRow B e 1 (.slice a k c) k (xs.take k) := by
  obtain ⟨h1, h2⟩ := h
  refine ⟨by simp; omega, ?_⟩
  rcases h2 with ⟨h3, h4⟩ | ⟨g, cap, cur, h3, h4, h5, h6, h7, h8, h9⟩
  · simp only [Value.slice.injEq] at h3
    obtain ⟨rfl, rfl, rfl⟩ := h3
    obtain rfl : k = 0 := by omega
    left
    exact ⟨rfl, rfl⟩
  · simp only [Value.slice.injEq] at h3
    obtain ⟨rfl, -, rfl⟩ := h3
    right
    refine ⟨g, _, cur, rfl, h4, h5, by omega, h7, h8, ?_⟩
    rw [← h9, List.take_take]
    congr 1
    omega

end Go.Proofs.Ytbkhakjbmdmghaa
