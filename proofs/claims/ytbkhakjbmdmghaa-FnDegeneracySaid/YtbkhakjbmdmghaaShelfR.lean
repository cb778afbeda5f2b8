/- Contracts of the library at instances of this program, under further names. -/
import Derived.Test.YtbkhakjbmdmghaaShelf
namespace Go.Proofs
open Go.Shelf
open Go.RowKit Go.Lib Go.Sort in
theorem Try.slices_Reverse_f30 {α : Type} [Inhabited α] (enc : α → Value) (h1 : OneCell enc) (blk off cap : Nat) (zs : List α) (w : World) (hH : Holds enc w blk off zs.toArray) (hsz : zs.length ≤ 9223372036854775807) :
    Calls Try.prog 30 #[.slice (some ⟨blk, off, none⟩) zs.length cap] w fun e w' => e = .returned (.tuple #[]) ∧ ∃ n, w' = putRow enc (Sort.ahead w n) blk off zs.reverse.toArray := AnyE.slices_Reverse Try.laysSlE35_f30 enc h1 blk off cap zs w hH hsz
open Go.RowKit Go.Lib Go.Sort in
theorem Try.slices_Reverse_empty_f30 {α : Type} [Inhabited α] (a : Option Addr) (cap : Nat) (w : World) :
    Calls Try.prog 30 #[.slice a 0 cap] w fun e w' => e = .returned (.tuple #[]) ∧ w' = w := AnyE.slices_Reverse_empty Try.laysSlE35_f30 a cap w
end Go.Proofs
