/- The walks of set.Ints[int64]: Has, Add. -/
import Derived.Test.YtbkhakjbmdmghaaFoot
import Derived.Test.YtbkhakjbmdmghaaProg
import Derived.WalkKit
import Derived.WalkLawsBesides
namespace Go.Proofs.Ytbkhakjbmdmghaa
open Go.RowKit

/-- A set of numbers as a map. -/
def setF (vis : List Int) : Int → Option Value := fun x => if x ∈ vis then some (.agg #[]) else none
theorem setF_snoc (vis : List Int) (y : Int) : ∀ x, setF (vis ++ [y]) x = upd (setF vis) y (.agg #[]) x := fun x => by
  unfold setF upd
  by_cases h : x = y
  · subst h; simp
  · simp [h]

/-- A set that may be nil. -/
def SetV (w : World) (m : Option Nat) (vis : List Int) : Prop := (m = none ∧ vis = []) ∨ ∃ b, m = some b ∧ GM Try.prog 2 w b vis.length (setF vis)

def AddPost (b : Nat) (vis : List Int) (y : Int) (w : World) (e : Ending) (w' : World) : Prop :=
  e = .returned (.tuple #[]) ∧ GM Try.prog 2 w' b (vis.length + 1) (setF (vis ++ [y])) ∧ w.grownBy w' (some b)

end Go.Proofs.Ytbkhakjbmdmghaa
