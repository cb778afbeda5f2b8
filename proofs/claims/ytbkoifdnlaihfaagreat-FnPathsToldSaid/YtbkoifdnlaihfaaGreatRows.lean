/-
  No cell of these rows narrows 'for every input' (looked for: loops, veiled, ifaces, maps, wideKeys, modest, calm, conditions, laid).
  DERIVED. THE GIVEN ROWS OF THIS SEAT. 6 by the template 'for every input the law returns true; each argument reads behind the call as it read before'; 0 by the template 'total and deterministic' (their statements: YtbkoifdnlaihfaaGreatTotals.lean).
  GIVEN WITH THE SEED: the statements are not yours to turn. If you find one false, say at which input.
  Laid BY PROGRAM, IN A SANDBOX (cutbox-rows.mjs): the forced cells as the released guide's own fill.sh prints them over the translation ade5f401729f288d… (all of the seat's roots in one cut). By AI agents, Wed Nov 11 2026. No macro, syntax, notation, axiom, sorry.
-/
import Derived.Test.YtbkoifdnlaihfaaGreatChecked
import GoSem.Claim
import GoSem.ClaimJoined
import GoSem.ClaimMapViews
import Derived.JoinedTies
import Derived.KernelRfl
namespace Go.Proofs.YtbkoifdnlaihfaaGreat
/- THE CELL 'sum', in the pinned program and in every row, IS THE sha256 OF THE DUMP (.gsa) THAT YtbkoifdnlaihfaaGreatProg.lean LOADS. Nothing in Lean hashes anything: it is a label: what it is worth is what the hold of that sum in a sandbox is worth. -/
noncomputable def Tryz.pinned : Pinned := { name := "ytbkoifdnlaihfaagreat", sum := "ade5f401729f288d7a6bbb21292b0d726804473e1099d5e4bb3e5c196f5a7eeb", checked := Tryz.checked }
namespace Rows
def none {H : Type} : Left H := { results := [], args := [] }

/-- 'laws.FnUndirect': WHATEVER THE INPUT: true; the input reads as it did. -/
def fnUndirectSpec : ChangeSpec := { name := "fnUndirect", fn := fun _ => fun
  | [d] => { results := [.lit (.bool true)], args := [d] }
  | _ => none }
def fnUndirectRow : OpenClaim := { program := "ytbkoifdnlaihfaagreat", sum := "ade5f401729f288d7a6bbb21292b0d726804473e1099d5e4bb3e5c196f5a7eeb", func := "pub-labyrinth/laws.FnUndirect", spec := "fnUndirect", inPlace := ["slices.overlaps[pub-labyrinth/impl.arc]"], unfollowed := true, recurses := true, apart := false }
def FnUndirectSaid : Prop := fnUndirectRow.holds Tryz.pinned (OpenSpec.ofChange fnUndirectSpec)

/-- ITS FALSE NEIGHBOUR: 'it returns false'. Refute it at one input. -/
def fnUndirectWrong : ChangeSpec := { name := "fnUndirect", fn := fun _ => fun
  | [d] => { results := [.lit (.bool false)], args := [d] }
  | _ => none }
def FnUndirectWrongFalsely : Prop := fnUndirectRow.holds Tryz.pinned (OpenSpec.ofChange fnUndirectWrong)

/-- 'laws.FnUndirectMergedBad': WHATEVER THE INPUT: true; the input reads as it did. -/
def fnUndirectMergedBadSpec : ChangeSpec := { name := "fnUndirectMergedBad", fn := fun _ => fun
  | [d1, d2, d3] => { results := [.lit (.bool true)], args := [d1, d2, d3] }
  | _ => none }
def fnUndirectMergedBadRow : OpenClaim := { program := "ytbkoifdnlaihfaagreat", sum := "ade5f401729f288d7a6bbb21292b0d726804473e1099d5e4bb3e5c196f5a7eeb", func := "pub-labyrinth/laws.FnUndirectMergedBad", spec := "fnUndirectMergedBad", inPlace := ["slices.overlaps[pub-labyrinth/impl.arc]"], unfollowed := true, recurses := true, apart := false }
def FnUndirectMergedBadSaid : Prop := fnUndirectMergedBadRow.holds Tryz.pinned (OpenSpec.ofChange fnUndirectMergedBadSpec)

/-- ITS FALSE NEIGHBOUR: 'it returns false'. Refute it at one input. -/
def fnUndirectMergedBadWrong : ChangeSpec := { name := "fnUndirectMergedBad", fn := fun _ => fun
  | [d1, d2, d3] => { results := [.lit (.bool false)], args := [d1, d2, d3] }
  | _ => none }
def FnUndirectMergedBadWrongFalsely : Prop := fnUndirectMergedBadRow.holds Tryz.pinned (OpenSpec.ofChange fnUndirectMergedBadWrong)

/-- 'laws.FnWalkAllBad': WHATEVER THE INPUT: true; the input reads as it did. -/
def fnWalkAllBadSpec : ChangeSpec := { name := "fnWalkAllBad", fn := fun _ => fun
  | [d1, d2] => { results := [.lit (.bool true)], args := [d1, d2] }
  | _ => none }
def fnWalkAllBadRow : OpenClaim := { program := "ytbkoifdnlaihfaagreat", sum := "ade5f401729f288d7a6bbb21292b0d726804473e1099d5e4bb3e5c196f5a7eeb", func := "pub-labyrinth/laws.FnWalkAllBad", spec := "fnWalkAllBad", inPlace := ["slices.overlaps[pub-labyrinth/impl.arc]"], unfollowed := true, recurses := true, apart := false }
def FnWalkAllBadSaid : Prop := fnWalkAllBadRow.holds Tryz.pinned (OpenSpec.ofChange fnWalkAllBadSpec)

/-- ITS FALSE NEIGHBOUR: 'it returns false'. Refute it at one input. -/
def fnWalkAllBadWrong : ChangeSpec := { name := "fnWalkAllBad", fn := fun _ => fun
  | [d1, d2] => { results := [.lit (.bool false)], args := [d1, d2] }
  | _ => none }
def FnWalkAllBadWrongFalsely : Prop := fnWalkAllBadRow.holds Tryz.pinned (OpenSpec.ofChange fnWalkAllBadWrong)

/-- 'laws.FnBreadthFirst': WHATEVER THE INPUT: true; the input reads as it did. -/
def fnBreadthFirstSpec : ChangeSpec := { name := "fnBreadthFirst", fn := fun _ => fun
  | [d1, d2, d3, d4] => { results := [.lit (.bool true)], args := [d1, d2, d3, d4] }
  | _ => none }
def fnBreadthFirstRow : OpenClaim := { program := "ytbkoifdnlaihfaagreat", sum := "ade5f401729f288d7a6bbb21292b0d726804473e1099d5e4bb3e5c196f5a7eeb", func := "pub-labyrinth/laws.FnBreadthFirst", spec := "fnBreadthFirst", inPlace := ["slices.overlaps[pub-labyrinth/impl.arc]"], unfollowed := true, recurses := true, apart := false }
def FnBreadthFirstSaid : Prop := fnBreadthFirstRow.holds Tryz.pinned (OpenSpec.ofChange fnBreadthFirstSpec)

/-- ITS FALSE NEIGHBOUR: 'it returns false'. Refute it at one input. -/
def fnBreadthFirstWrong : ChangeSpec := { name := "fnBreadthFirst", fn := fun _ => fun
  | [d1, d2, d3, d4] => { results := [.lit (.bool false)], args := [d1, d2, d3, d4] }
  | _ => none }
def FnBreadthFirstWrongFalsely : Prop := fnBreadthFirstRow.holds Tryz.pinned (OpenSpec.ofChange fnBreadthFirstWrong)

/-- 'laws.FnComponents': WHATEVER THE INPUT: true; the input reads as it did. -/
def fnComponentsSpec : ChangeSpec := { name := "fnComponents", fn := fun _ => fun
  | [d] => { results := [.lit (.bool true)], args := [d] }
  | _ => none }
def fnComponentsRow : OpenClaim := { program := "ytbkoifdnlaihfaagreat", sum := "ade5f401729f288d7a6bbb21292b0d726804473e1099d5e4bb3e5c196f5a7eeb", func := "pub-labyrinth/laws.FnComponents", spec := "fnComponents", inPlace := ["slices.overlaps[pub-labyrinth/impl.arc]"], unfollowed := true, recurses := true, apart := false }
def FnComponentsSaid : Prop := fnComponentsRow.holds Tryz.pinned (OpenSpec.ofChange fnComponentsSpec)

/-- ITS FALSE NEIGHBOUR: 'it returns false'. Refute it at one input. -/
def fnComponentsWrong : ChangeSpec := { name := "fnComponents", fn := fun _ => fun
  | [d] => { results := [.lit (.bool false)], args := [d] }
  | _ => none }
def FnComponentsWrongFalsely : Prop := fnComponentsRow.holds Tryz.pinned (OpenSpec.ofChange fnComponentsWrong)

/-- 'laws.FnPathsTold': WHATEVER THE INPUT: true; the input reads as it did. -/
def fnPathsToldSpec : ChangeSpec := { name := "fnPathsTold", fn := fun _ => fun
  | [d1, d2, d3, d4, d5] => { results := [.lit (.bool true)], args := [d1, d2, d3, d4, d5] }
  | _ => none }
def fnPathsToldRow : OpenClaim := { program := "ytbkoifdnlaihfaagreat", sum := "ade5f401729f288d7a6bbb21292b0d726804473e1099d5e4bb3e5c196f5a7eeb", func := "pub-labyrinth/laws.FnPathsTold", spec := "fnPathsTold", inPlace := ["slices.overlaps[pub-labyrinth/impl.arc]"], unfollowed := true, recurses := true, apart := false }
def FnPathsToldSaid : Prop := fnPathsToldRow.holds Tryz.pinned (OpenSpec.ofChange fnPathsToldSpec)

/-- ITS FALSE NEIGHBOUR: 'it returns false'. Refute it at one input. -/
def fnPathsToldWrong : ChangeSpec := { name := "fnPathsTold", fn := fun _ => fun
  | [d1, d2, d3, d4, d5] => { results := [.lit (.bool false)], args := [d1, d2, d3, d4, d5] }
  | _ => none }
def FnPathsToldWrongFalsely : Prop := fnPathsToldRow.holds Tryz.pinned (OpenSpec.ofChange fnPathsToldWrong)

/- THE SECOND FORM. 'bulk': how many values and letters a reading holds, each counted each time it is reached (what is shared counts as often as it is met; a slice's spare places count too). A statement '..UptoSaid' is the law's where the arguments, and the package variables that the reading takes, are together of bulk at most 1048576: NARROWER than '..Said'. Prove '..Said' where nothing that the law and all that it calls make is longer than what came in: it says more and counts as full. Else prove '..UptoSaid'. A law counts once. -/
mutual
def uptoBulk {H : Type} : DataW H → Nat
  | .lit (.string bytes) => bytes.length + 1
  | .lit _ => 1
  | .nil => 1
  | .ptr d => uptoBulk d + 1
  | .slice elems spare => uptoBulkAll elems + uptoBulkAll spare + 1
  | .agg parts => uptoBulkAll parts + 1
  | .iface _ d => uptoBulk d + 1
  | .map entries => uptoBulkEntries entries + 1
  | .held _ => 1
def uptoBulkAll {H : Type} : List (DataW H) → Nat
  | [] => 0
  | d :: r => uptoBulk d + uptoBulkAll r
def uptoBulkEntries {H : Type} : List (Lit × DataW H) → Nat
  | [] => 0
  | x :: r => uptoBulkEntry x + uptoBulkEntries r
def uptoBulkEntry {H : Type} : Lit × DataW H → Nat
  | (.string bytes, d) => bytes.length + uptoBulk d + 1
  | (_, d) => uptoBulk d + 1
 end
def uptoSmall : (H : Type) → List (DataW H) → Bool := fun _ ds => decide (uptoBulkAll ds ≤ 1048576)
def OpenSpec.upto (s : _root_.Go.ChangeSpec) : _root_.Go.OpenSpec := { _root_.Go.OpenSpec.ofChange s with cond := some uptoSmall }

/-- 'laws.FnUndirect', WHERE WHAT IT READS IS OF BULK AT MOST 1048576: true; the input reads as it did. -/
def fnUndirectUptoRow : OpenClaim := { program := "ytbkoifdnlaihfaagreat", sum := "ade5f401729f288d7a6bbb21292b0d726804473e1099d5e4bb3e5c196f5a7eeb", func := "pub-labyrinth/laws.FnUndirect", spec := "fnUndirect", inPlace := ["slices.overlaps[pub-labyrinth/impl.arc]"], unfollowed := true, recurses := true, apart := false, narrowed := true }
def FnUndirectUptoSaid : Prop := fnUndirectUptoRow.holds Tryz.pinned (OpenSpec.upto fnUndirectSpec)

/-- 'laws.FnUndirectMergedBad', WHERE WHAT IT READS IS OF BULK AT MOST 1048576: true; the input reads as it did. -/
def fnUndirectMergedBadUptoRow : OpenClaim := { program := "ytbkoifdnlaihfaagreat", sum := "ade5f401729f288d7a6bbb21292b0d726804473e1099d5e4bb3e5c196f5a7eeb", func := "pub-labyrinth/laws.FnUndirectMergedBad", spec := "fnUndirectMergedBad", inPlace := ["slices.overlaps[pub-labyrinth/impl.arc]"], unfollowed := true, recurses := true, apart := false, narrowed := true }
def FnUndirectMergedBadUptoSaid : Prop := fnUndirectMergedBadUptoRow.holds Tryz.pinned (OpenSpec.upto fnUndirectMergedBadSpec)

/-- 'laws.FnWalkAllBad', WHERE WHAT IT READS IS OF BULK AT MOST 1048576: true; the input reads as it did. -/
def fnWalkAllBadUptoRow : OpenClaim := { program := "ytbkoifdnlaihfaagreat", sum := "ade5f401729f288d7a6bbb21292b0d726804473e1099d5e4bb3e5c196f5a7eeb", func := "pub-labyrinth/laws.FnWalkAllBad", spec := "fnWalkAllBad", inPlace := ["slices.overlaps[pub-labyrinth/impl.arc]"], unfollowed := true, recurses := true, apart := false, narrowed := true }
def FnWalkAllBadUptoSaid : Prop := fnWalkAllBadUptoRow.holds Tryz.pinned (OpenSpec.upto fnWalkAllBadSpec)

/-- 'laws.FnBreadthFirst', WHERE WHAT IT READS IS OF BULK AT MOST 1048576: true; the input reads as it did. -/
def fnBreadthFirstUptoRow : OpenClaim := { program := "ytbkoifdnlaihfaagreat", sum := "ade5f401729f288d7a6bbb21292b0d726804473e1099d5e4bb3e5c196f5a7eeb", func := "pub-labyrinth/laws.FnBreadthFirst", spec := "fnBreadthFirst", inPlace := ["slices.overlaps[pub-labyrinth/impl.arc]"], unfollowed := true, recurses := true, apart := false, narrowed := true }
def FnBreadthFirstUptoSaid : Prop := fnBreadthFirstUptoRow.holds Tryz.pinned (OpenSpec.upto fnBreadthFirstSpec)

/-- 'laws.FnComponents', WHERE WHAT IT READS IS OF BULK AT MOST 1048576: true; the input reads as it did. -/
def fnComponentsUptoRow : OpenClaim := { program := "ytbkoifdnlaihfaagreat", sum := "ade5f401729f288d7a6bbb21292b0d726804473e1099d5e4bb3e5c196f5a7eeb", func := "pub-labyrinth/laws.FnComponents", spec := "fnComponents", inPlace := ["slices.overlaps[pub-labyrinth/impl.arc]"], unfollowed := true, recurses := true, apart := false, narrowed := true }
def FnComponentsUptoSaid : Prop := fnComponentsUptoRow.holds Tryz.pinned (OpenSpec.upto fnComponentsSpec)

/-- 'laws.FnPathsTold', WHERE WHAT IT READS IS OF BULK AT MOST 1048576: true; the input reads as it did. -/
def fnPathsToldUptoRow : OpenClaim := { program := "ytbkoifdnlaihfaagreat", sum := "ade5f401729f288d7a6bbb21292b0d726804473e1099d5e4bb3e5c196f5a7eeb", func := "pub-labyrinth/laws.FnPathsTold", spec := "fnPathsTold", inPlace := ["slices.overlaps[pub-labyrinth/impl.arc]"], unfollowed := true, recurses := true, apart := false, narrowed := true }
def FnPathsToldUptoSaid : Prop := fnPathsToldUptoRow.holds Tryz.pinned (OpenSpec.upto fnPathsToldSpec)

end Rows
end Go.Proofs.YtbkoifdnlaihfaaGreat
