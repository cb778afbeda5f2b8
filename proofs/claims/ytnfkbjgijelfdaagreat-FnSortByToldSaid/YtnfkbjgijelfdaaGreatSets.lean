/- The walks of set.Ints[int64]: Has, Add. -/
import Derived.Test.YtnfkbjgijelfdaaGreatFoot
import Derived.Test.YtnfkbjgijelfdaaGreatProg
import Derived.WalkKit
import Derived.WalkLawsBesides
namespace Go.Proofs.YtnfkbjgijelfdaaGreat
open Go.RowKit

/-- A set of numbers as a map. -/
def setF (vis : List Int) : Int → Option Value := fun x => if x ∈ vis then some (.agg #[]) else none
theorem setF_snoc (vis : List Int) (y : Int) : ∀ x, setF (vis ++ [y]) x = upd (setF vis) y (.agg #[]) x := fun x => by
  unfold setF upd
  by_cases h : x = y
  · subst h; simp
  · simp [h]

/-- A set that may be nil. -/
def SetV (w : World) (m : Option Nat) (vis : List Int) : Prop := (m = none ∧ vis = []) ∨ ∃ b, m = some b ∧ GM Tryz.prog 2 w b vis.length (setF vis)

theorem zero_unit (w : World) : (zeroValue 221).run Tryz.prog w = .ok (.agg #[]) w := by kernel_rfl

theorem SetV.look {w : World} {m : Option Nat} {vis : List Int} (h : SetV w m vis) {y : Int} (hy : (Lit.int .i64 y).wf = true) :
    (Instr.lookup 129 (.map m) (.int .i64 y) true).run Tryz.prog w = .ok (.tuple #[.agg #[], .bool (decide (y ∈ vis))]) w := by
  rcases h with ⟨rfl, rfl⟩ | ⟨b, rfl, h⟩
  · rw [Maps.look_nil true (Maps.int_keyed Tryz.underlying2) Tryz.underlying129 (zero_unit w) (key64 Tryz.underlying2 hy)]
    rfl
  · rw [h.look_ok Tryz.underlying2 Tryz.underlying129 (zero_unit w) hy]
    unfold setF
    by_cases hv : y ∈ vis <;> simp [hv]

set_option maxHeartbeats 1000000 in
theorem has64_calls (m : Option Nat) (vis : List Int) (y : Int) (w : World) (h : SetV w m vis) (hy : (Lit.int .i64 y).wf = true) :
    Calls Tryz.prog 114 #[.map m, .int .i64 y] w fun e w' => e = .returned (.bool (decide (y ∈ vis))) ∧ Below w.heap.size w w' := by
  have hl := h.look hy
  clear h
  obtain ⟨b, hb⟩ : ∃ b, decide (y ∈ vis) = b := ⟨_, rfl⟩
  rw [hb] at hl ⊢
  clear hb
  go_enter Tryz.func114, Tryz.ntmps114
  go_wp2_with fail
  go_ret
  exact ⟨rfl, (Below.refl _ _).alloc (Nat.le_refl _) _⟩

def AddPost (b : Nat) (vis : List Int) (y : Int) (w : World) (e : Ending) (w' : World) : Prop :=
  e = .returned (.tuple #[]) ∧ GM Tryz.prog 2 w' b (vis.length + 1) (setF (vis ++ [y])) ∧ w.grownBy w' (some b)

set_option maxHeartbeats 1000000 in
theorem add64_calls (b : Nat) (vis : List Int) (y : Int) (w : World) (h : GM Tryz.prog 2 w b vis.length (setF vis)) (hn : vis.length < 1000000) (hy : (Lit.int .i64 y).wf = true) :
    Calls Tryz.prog 115 #[.map (some b), .int .i64 y] w (AddPost b vis y w) := by
  obtain ⟨w1, hrun, h1, h2⟩ := h.set (t := 129) Tryz.underlying2 Tryz.underlying129 (by unfold maxLen; omega) hy (.agg #[])
  have H1 := Lib.hid h1; have H2 := Lib.hid h2
  clear h h1 h2
  go_enter Tryz.func115, Tryz.ntmps115
  go_wp2_with fail
  go_end0
  exact ⟨rfl, H1.out.congr (setF_snoc vis y), H2.out⟩
end Go.Proofs.YtnfkbjgijelfdaaGreat
