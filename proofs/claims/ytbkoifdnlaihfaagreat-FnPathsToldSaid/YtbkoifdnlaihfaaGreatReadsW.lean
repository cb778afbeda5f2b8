/- A slice of ints, opened, with the bounds of its numbers. -/
import Derived.Test.YtbkoifdnlaihfaaGreatReads
namespace Go.Proofs.YtbkoifdnlaihfaaGreat
open Go.ChangeShapes Go.WideShapes Go.ChangeAt Go.RowKit Go.Joins

theorem rdIw_of_trod {H : Type} {enc : TypeId × Value → H} {W : World} {fuel : Nat} {x : DataW H × List MemPlace} {v : Value} (hf : DataW.trod enc Tryz.prog W 0 (fun _ => true) true fuel 22 [v] = some x) :
    ∃ a n c ns, v = .slice a n c ∧ RdI W a n ns ∧ ∀ y ∈ ns, (Lit.int .i64 y).wf = true := by
  rcases open_ints Tryz.underlying22 Tryz.underlying3 cells_int hf with ⟨hcs, _⟩ | ⟨a, n, c, zs, hcs, _, hl, hm, hz, _, hcell, hwf⟩
  · obtain rfl : v = .slice none 0 0 := by simpa using hcs
    exact ⟨none, 0, 0, [], rfl, ⟨rfl, by omega, by omega⟩, fun y hy => by cases hy⟩
  · obtain rfl : v = .slice (some a) n c := by simpa using hcs
    have hz' : zs.length = c := by simpa using hz
    have hlt : (zs.take n).length = n := by rw [List.length_take]; omega
    refine ⟨some a, n, c, zs.take n, rfl, ⟨hlt, by unfold maxLen at hm; omega, fun h0 => ?_⟩, fun y hy => hwf y (List.mem_of_mem_take hy)⟩
    have h1 := hcell 0 (by omega)
    obtain ⟨b, off, spot⟩ := a
    have hspot : spot = none := by simpa [Addr.add] using World.cell?_spot h1
    subst hspot
    refine ⟨b, off, rfl, World.block_lt_of_cell? W _ h1, fun j hj => ⟨_, rfl, ?_⟩⟩
    have := hcell j (by omega)
    rw [Addr.add_lit] at this
    rw [this]
    congr 2
    simp [List.getD, hj]
end Go.Proofs.YtbkoifdnlaihfaaGreat
