/-
  No cell of these rows narrows 'for every input' (looked for: loops, veiled, ifaces, maps, wideKeys, modest, calm, conditions, laid).
  DERIVED. THE GIVEN ROWS OF THIS SEAT. 5 by the template 'for every input the law returns true; each argument reads behind the call as it read before'; 0 by the template 'total and deterministic' (their statements: YtnfkbjgijelfdaaGreatTotals.lean).
  GIVEN WITH THE SEED: the statements are not yours to turn. If you find one false, say at which input.
  Laid BY PROGRAM, IN A SANDBOX (cutbox-rows.mjs): the forced cells as the released guide's own fill.sh prints them over the translation 59812131c50b6009… (all of the seat's roots in one cut). By AI agents, Wed Nov 11 2026. No macro, syntax, notation, axiom, sorry.
-/
import Derived.Test.YtnfkbjgijelfdaaGreatChecked
import GoSem.Claim
import GoSem.ClaimJoined
import GoSem.ClaimMapViews
import Derived.JoinedTies
import Derived.KernelRfl
namespace Go.Proofs.YtnfkbjgijelfdaaGreat
/- THE CELL 'sum', in the pinned program and in every row, IS THE sha256 OF THE DUMP (.gsa) THAT YtnfkbjgijelfdaaGreatProg.lean LOADS. Nothing in Lean hashes anything: it is a label: what it is worth is what the hold of that sum in a sandbox is worth. -/
noncomputable def Tryz.pinned : Pinned := { name := "ytnfkbjgijelfdaagreat", sum := "59812131c50b6009ef28618207d668030360e97d67ecfe43487b00f5cd960490", checked := Tryz.checked }
namespace Rows
def none {H : Type} : Left H := { results := [], args := [] }

/-- 'laws.FnSCCTurned': WHATEVER THE INPUT: true; the input reads as it did. -/
def fnSCCTurnedSpec : ChangeSpec := { name := "fnSCCTurned", fn := fun _ => fun
  | [d] => { results := [.lit (.bool true)], args := [d] }
  | _ => none }
def fnSCCTurnedRow : OpenClaim := { program := "ytnfkbjgijelfdaagreat", sum := "59812131c50b6009ef28618207d668030360e97d67ecfe43487b00f5cd960490", func := "pub-labyrinth/laws.FnSCCTurned", spec := "fnSCCTurned", inPlace := ["slices.overlaps[pub-labyrinth/impl.arc]"], unfollowed := true, recurses := true, apart := false }
def FnSCCTurnedSaid : Prop := fnSCCTurnedRow.holds Tryz.pinned (OpenSpec.ofChange fnSCCTurnedSpec)

/-- ITS FALSE NEIGHBOUR: 'it returns false'. Refute it at one input. -/
def fnSCCTurnedWrong : ChangeSpec := { name := "fnSCCTurned", fn := fun _ => fun
  | [d] => { results := [.lit (.bool false)], args := [d] }
  | _ => none }
def FnSCCTurnedWrongFalsely : Prop := fnSCCTurnedRow.holds Tryz.pinned (OpenSpec.ofChange fnSCCTurnedWrong)

/-- 'laws.FnSortTold': WHATEVER THE INPUT: true; the input reads as it did. -/
def fnSortToldSpec : ChangeSpec := { name := "fnSortTold", fn := fun _ => fun
  | [d] => { results := [.lit (.bool true)], args := [d] }
  | _ => none }
def fnSortToldRow : OpenClaim := { program := "ytnfkbjgijelfdaagreat", sum := "59812131c50b6009ef28618207d668030360e97d67ecfe43487b00f5cd960490", func := "pub-labyrinth/laws.FnSortTold", spec := "fnSortTold", inPlace := ["slices.overlaps[pub-labyrinth/impl.arc]"], unfollowed := true, recurses := true, apart := false }
def FnSortToldSaid : Prop := fnSortToldRow.holds Tryz.pinned (OpenSpec.ofChange fnSortToldSpec)

/-- ITS FALSE NEIGHBOUR: 'it returns false'. Refute it at one input. -/
def fnSortToldWrong : ChangeSpec := { name := "fnSortTold", fn := fun _ => fun
  | [d] => { results := [.lit (.bool false)], args := [d] }
  | _ => none }
def FnSortToldWrongFalsely : Prop := fnSortToldRow.holds Tryz.pinned (OpenSpec.ofChange fnSortToldWrong)

/-- 'laws.FnSortStabilized': WHATEVER THE INPUT: true; the input reads as it did. -/
def fnSortStabilizedSpec : ChangeSpec := { name := "fnSortStabilized", fn := fun _ => fun
  | [d1, d2] => { results := [.lit (.bool true)], args := [d1, d2] }
  | _ => none }
def fnSortStabilizedRow : OpenClaim := { program := "ytnfkbjgijelfdaagreat", sum := "59812131c50b6009ef28618207d668030360e97d67ecfe43487b00f5cd960490", func := "pub-labyrinth/laws.FnSortStabilized", spec := "fnSortStabilized", inPlace := ["slices.overlaps[pub-labyrinth/impl.arc]"], unfollowed := true, recurses := true, apart := false }
def FnSortStabilizedSaid : Prop := fnSortStabilizedRow.holds Tryz.pinned (OpenSpec.ofChange fnSortStabilizedSpec)

/-- ITS FALSE NEIGHBOUR: 'it returns false'. Refute it at one input. -/
def fnSortStabilizedWrong : ChangeSpec := { name := "fnSortStabilized", fn := fun _ => fun
  | [d1, d2] => { results := [.lit (.bool false)], args := [d1, d2] }
  | _ => none }
def FnSortStabilizedWrongFalsely : Prop := fnSortStabilizedRow.holds Tryz.pinned (OpenSpec.ofChange fnSortStabilizedWrong)

/-- 'laws.FnSortByTold': WHATEVER THE INPUT: true; the input reads as it did. -/
def fnSortByToldSpec : ChangeSpec := { name := "fnSortByTold", fn := fun _ => fun
  | [d1, d2, d3] => { results := [.lit (.bool true)], args := [d1, d2, d3] }
  | _ => none }
def fnSortByToldRow : OpenClaim := { program := "ytnfkbjgijelfdaagreat", sum := "59812131c50b6009ef28618207d668030360e97d67ecfe43487b00f5cd960490", func := "pub-labyrinth/laws.FnSortByTold", spec := "fnSortByTold", inPlace := ["slices.overlaps[pub-labyrinth/impl.arc]"], unfollowed := true, recurses := true, apart := false }
def FnSortByToldSaid : Prop := fnSortByToldRow.holds Tryz.pinned (OpenSpec.ofChange fnSortByToldSpec)

/-- ITS FALSE NEIGHBOUR: 'it returns false'. Refute it at one input. -/
def fnSortByToldWrong : ChangeSpec := { name := "fnSortByTold", fn := fun _ => fun
  | [d1, d2, d3] => { results := [.lit (.bool false)], args := [d1, d2, d3] }
  | _ => none }
def FnSortByToldWrongFalsely : Prop := fnSortByToldRow.holds Tryz.pinned (OpenSpec.ofChange fnSortByToldWrong)

/-- 'laws.FnBreadthFirst': WHATEVER THE INPUT: true; the input reads as it did. -/
def fnBreadthFirstSpec : ChangeSpec := { name := "fnBreadthFirst", fn := fun _ => fun
  | [d1, d2, d3, d4] => { results := [.lit (.bool true)], args := [d1, d2, d3, d4] }
  | _ => none }
def fnBreadthFirstRow : OpenClaim := { program := "ytnfkbjgijelfdaagreat", sum := "59812131c50b6009ef28618207d668030360e97d67ecfe43487b00f5cd960490", func := "pub-labyrinth/laws.FnBreadthFirst", spec := "fnBreadthFirst", inPlace := ["slices.overlaps[pub-labyrinth/impl.arc]"], unfollowed := true, recurses := true, apart := false }
def FnBreadthFirstSaid : Prop := fnBreadthFirstRow.holds Tryz.pinned (OpenSpec.ofChange fnBreadthFirstSpec)

/-- ITS FALSE NEIGHBOUR: 'it returns false'. Refute it at one input. -/
def fnBreadthFirstWrong : ChangeSpec := { name := "fnBreadthFirst", fn := fun _ => fun
  | [d1, d2, d3, d4] => { results := [.lit (.bool false)], args := [d1, d2, d3, d4] }
  | _ => none }
def FnBreadthFirstWrongFalsely : Prop := fnBreadthFirstRow.holds Tryz.pinned (OpenSpec.ofChange fnBreadthFirstWrong)

/- THE SECOND FORM. 'bulk': how many values and letters a reading holds, each counted each time it is reached (what is shared counts as often as it is met; a slice's spare places count too). A statement '..UptoSaid' is the law's where the arguments, and the package variables that the reading takes, are together of bulk at most 1048576: NARROWER than '..Said'. Prove '..Said' where nothing that the law and all that it calls make is longer than what came in: it says more and counts as full. Else prove '..UptoSaid'. A law counts once. -/
mutual
def uptoBulk {H : Type} : DataW H → Nat
  | .lit (.string bytes) => bytes.length + 1
  | .lit _ => 1
  | .nil => 1
  | .ptr d => uptoBulk d + 1
  | .slice elems spare => uptoBulkAll elems + uptoBulkAll spare + 1
  | .agg parts => uptoBulkAll parts + 1
  | .iface _ d => uptoBulk d + 1
  | .map entries => uptoBulkEntries entries + 1
  | .held _ => 1
def uptoBulkAll {H : Type} : List (DataW H) → Nat
  | [] => 0
  | d :: r => uptoBulk d + uptoBulkAll r
def uptoBulkEntries {H : Type} : List (Lit × DataW H) → Nat
  | [] => 0
  | x :: r => uptoBulkEntry x + uptoBulkEntries r
def uptoBulkEntry {H : Type} : Lit × DataW H → Nat
  | (.string bytes, d) => bytes.length + uptoBulk d + 1
  | (_, d) => uptoBulk d + 1
 end
def uptoSmall : (H : Type) → List (DataW H) → Bool := fun _ ds => decide (uptoBulkAll ds ≤ 1048576)
def OpenSpec.upto (s : _root_.Go.ChangeSpec) : _root_.Go.OpenSpec := { _root_.Go.OpenSpec.ofChange s with cond := some uptoSmall }

/-- 'laws.FnSCCTurned', WHERE WHAT IT READS IS OF BULK AT MOST 1048576: true; the input reads as it did. -/
def fnSCCTurnedUptoRow : OpenClaim := { program := "ytnfkbjgijelfdaagreat", sum := "59812131c50b6009ef28618207d668030360e97d67ecfe43487b00f5cd960490", func := "pub-labyrinth/laws.FnSCCTurned", spec := "fnSCCTurned", inPlace := ["slices.overlaps[pub-labyrinth/impl.arc]"], unfollowed := true, recurses := true, apart := false, narrowed := true }
def FnSCCTurnedUptoSaid : Prop := fnSCCTurnedUptoRow.holds Tryz.pinned (OpenSpec.upto fnSCCTurnedSpec)

/-- 'laws.FnSortTold', WHERE WHAT IT READS IS OF BULK AT MOST 1048576: true; the input reads as it did. -/
def fnSortToldUptoRow : OpenClaim := { program := "ytnfkbjgijelfdaagreat", sum := "59812131c50b6009ef28618207d668030360e97d67ecfe43487b00f5cd960490", func := "pub-labyrinth/laws.FnSortTold", spec := "fnSortTold", inPlace := ["slices.overlaps[pub-labyrinth/impl.arc]"], unfollowed := true, recurses := true, apart := false, narrowed := true }
def FnSortToldUptoSaid : Prop := fnSortToldUptoRow.holds Tryz.pinned (OpenSpec.upto fnSortToldSpec)

/-- 'laws.FnSortStabilized', WHERE WHAT IT READS IS OF BULK AT MOST 1048576: true; the input reads as it did. -/
def fnSortStabilizedUptoRow : OpenClaim := { program := "ytnfkbjgijelfdaagreat", sum := "59812131c50b6009ef28618207d668030360e97d67ecfe43487b00f5cd960490", func := "pub-labyrinth/laws.FnSortStabilized", spec := "fnSortStabilized", inPlace := ["slices.overlaps[pub-labyrinth/impl.arc]"], unfollowed := true, recurses := true, apart := false, narrowed := true }
def FnSortStabilizedUptoSaid : Prop := fnSortStabilizedUptoRow.holds Tryz.pinned (OpenSpec.upto fnSortStabilizedSpec)

/-- 'laws.FnSortByTold', WHERE WHAT IT READS IS OF BULK AT MOST 1048576: true; the input reads as it did. -/
def fnSortByToldUptoRow : OpenClaim := { program := "ytnfkbjgijelfdaagreat", sum := "59812131c50b6009ef28618207d668030360e97d67ecfe43487b00f5cd960490", func := "pub-labyrinth/laws.FnSortByTold", spec := "fnSortByTold", inPlace := ["slices.overlaps[pub-labyrinth/impl.arc]"], unfollowed := true, recurses := true, apart := false, narrowed := true }
def FnSortByToldUptoSaid : Prop := fnSortByToldUptoRow.holds Tryz.pinned (OpenSpec.upto fnSortByToldSpec)

/-- 'laws.FnBreadthFirst', WHERE WHAT IT READS IS OF BULK AT MOST 1048576: true; the input reads as it did. -/
def fnBreadthFirstUptoRow : OpenClaim := { program := "ytnfkbjgijelfdaagreat", sum := "59812131c50b6009ef28618207d668030360e97d67ecfe43487b00f5cd960490", func := "pub-labyrinth/laws.FnBreadthFirst", spec := "fnBreadthFirst", inPlace := ["slices.overlaps[pub-labyrinth/impl.arc]"], unfollowed := true, recurses := true, apart := false, narrowed := true }
def FnBreadthFirstUptoSaid : Prop := fnBreadthFirstUptoRow.holds Tryz.pinned (OpenSpec.upto fnBreadthFirstSpec)

end Rows
end Go.Proofs.YtnfkbjgijelfdaaGreat
