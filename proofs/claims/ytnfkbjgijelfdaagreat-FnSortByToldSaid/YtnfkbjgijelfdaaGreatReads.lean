/- Arguments opened: a slice of ints, a slice of edges. A slice of ints, opened, with the bounds of its numbers. -/
import Derived.Test.YtnfkbjgijelfdaaGreatProg
import Derived.Test.YtnfkbjgijelfdaaGreatMem
import Derived.ProofKit
import Derived.OpenShut
import Derived.Deep.Slices
import Derived.Deep.Strs
import Derived.Lib.SmallJoins
namespace Go.Proofs.YtnfkbjgijelfdaaGreat
open Go.ChangeShapes Go.WideShapes Go.ChangeAt Go.RowKit Go.Joins

theorem cells_Edge : Tryz.prog.cellsOf 41 = 3 := by kernel_rfl
theorem cells_Graph : Tryz.prog.cellsOf 25 = 3 := by kernel_rfl
theorem cells_int : Tryz.prog.cellsOf 3 = 1 := by kernel_rfl

section
variable {H : Type} {enc : TypeId × Value → H} {W : World} {fuel : Nat} {x : DataW H × List MemPlace}

theorem rdI_of_trod {v : Value} (hf : DataW.trod enc Tryz.prog W 0 (fun _ => true) true fuel 22 [v] = some x) : ∃ a n c ns, v = .slice a n c ∧ RdI W a n ns := by
  rcases open_ints Tryz.underlying22 Tryz.underlying3 cells_int hf with ⟨hcs, _⟩ | ⟨a, n, c, zs, hcs, _, hl, hm, hz, _, hcell, _⟩
  · obtain rfl : v = .slice none 0 0 := by simpa using hcs
    exact ⟨none, 0, 0, [], rfl, rfl, by omega, by omega⟩
  · obtain rfl : v = .slice (some a) n c := by simpa using hcs
    have hz' : zs.length = c := by simpa using hz
    have hlt : (zs.take n).length = n := by rw [List.length_take]; omega
    refine ⟨some a, n, c, zs.take n, rfl, hlt, by unfold maxLen at hm; omega, fun h0 => ?_⟩
    have h1 := hcell 0 (by omega)
    obtain ⟨b, off, spot⟩ := a
    have hspot : spot = none := by simpa [Addr.add] using World.cell?_spot h1
    subst hspot
    refine ⟨b, off, rfl, World.block_lt_of_cell? W _ h1, fun j hj => ⟨_, rfl, ?_⟩⟩
    have := hcell j (by omega)
    rw [Addr.add_lit] at this
    rw [this]
    congr 2
    simp [List.getD, hj]

set_option maxRecDepth 100000 in
theorem rdE_of_trod {v : Value} (hf : DataW.trod enc Tryz.prog W 0 (fun _ => true) true fuel 23 [v] = some x) : ∃ a n c es, v = .slice a n c ∧ RdE W a n es := by
  rcases Deep.open_slice Tryz.underlying23 hf with ⟨hcs, _⟩ | ⟨a, n, c, m, k, D, Pl, hcs, _, hl, hm, hmm, _, hx⟩
  · obtain rfl : v = .slice none 0 0 := by simpa using hcs
    exact ⟨none, 0, 0, [], rfl, rfl, by omega, by omega⟩
  · obtain rfl : v = .slice (some a) n c := by simpa using hcs
    have hmc : m = c := by simpa using hmm
    subst hmc
    rw [cells_Edge] at hx
    have key : ∀ i, i < m → ∃ e : Int × Int × Int, W.cell? (a.add (i * 3)) = some (.int .i64 e.1) ∧ W.cell? ((a.add (i * 3)).add 1) = some (.int .i64 e.2.1) ∧ W.cell? ((a.add (i * 3)).add 2) = some (.int .i64 e.2.2) := fun i hi => by
      obtain ⟨cs, h1, h2⟩ := hx i hi
      obtain ⟨_, hlen, hcell⟩ := World.cells?_some h1
      obtain ⟨y0, y1, y2, k', _, _, t0, t1, t2⟩ := Deep.trod_struct3 Tryz.underlying41 h2
      match cs, hlen with
      | [c0, c1, c2], _ =>
        obtain ⟨n0, e0, _, _⟩ := DataW.trod_int Tryz.underlying3 t0
        obtain ⟨n1, e1, _, _⟩ := DataW.trod_int Tryz.underlying3 t1
        obtain ⟨n2, e2, _, _⟩ := DataW.trod_int Tryz.underlying3 t2
        rw [cells_int] at e0 e1 e2
        simp at e0 e1 e2
        refine ⟨(n0, n1, n2), ?_, ?_, ?_⟩
        · have := hcell 0 (by omega); simpa [Addr.add, e0] using this
        · have := hcell 1 (by omega); simpa [e1] using this
        · have := hcell 2 (by omega); simpa [e2] using this
    obtain ⟨f, hf'⟩ := Deep.choose_lt (α := Int × Int × Int) key
    refine ⟨some a, n, m, (List.range n).map f, rfl, by simp, by unfold maxLen at hm; omega, fun h0 => ?_⟩
    obtain ⟨h1, _, _⟩ := hf' 0 (by omega)
    obtain ⟨b, off, spot⟩ := a
    have hspot : spot = none := by simpa [Addr.add] using World.cell?_spot h1
    subst hspot
    refine ⟨b, off, rfl, World.block_lt_of_cell? W _ h1, fun j hj => ⟨(f j).1, (f j).2.1, (f j).2.2, ?_, ?_, ?_, ?_⟩⟩
    · show ((List.range n).map f)[j]? = _; simp [hj]
    · have := (hf' j (by omega)).1; rwa [Addr.add_lit] at this
    · have := (hf' j (by omega)).2.1; rwa [Addr.add_lit, Addr.add_lit] at this
    · have := (hf' j (by omega)).2.2; rwa [Addr.add_lit, Addr.add_lit] at this
end
end Go.Proofs.YtnfkbjgijelfdaaGreat
namespace Go.Proofs.YtnfkbjgijelfdaaGreat
open Go.ChangeShapes Go.WideShapes Go.ChangeAt Go.RowKit Go.Joins

theorem rdIw_of_trod {H : Type} {enc : TypeId × Value → H} {W : World} {fuel : Nat} {x : DataW H × List MemPlace} {v : Value} (hf : DataW.trod enc Tryz.prog W 0 (fun _ => true) true fuel 22 [v] = some x) :
    ∃ a n c ns, v = .slice a n c ∧ RdI W a n ns ∧ ∀ y ∈ ns, (Lit.int .i64 y).wf = true := by
  rcases open_ints Tryz.underlying22 Tryz.underlying3 cells_int hf with ⟨hcs, _⟩ | ⟨a, n, c, zs, hcs, _, hl, hm, hz, _, hcell, hwf⟩
  · obtain rfl : v = .slice none 0 0 := by simpa using hcs
    exact ⟨none, 0, 0, [], rfl, ⟨rfl, by omega, by omega⟩, fun y hy => by cases hy⟩
  · obtain rfl : v = .slice (some a) n c := by simpa using hcs
    have hz' : zs.length = c := by simpa using hz
    have hlt : (zs.take n).length = n := by rw [List.length_take]; omega
    refine ⟨some a, n, c, zs.take n, rfl, ⟨hlt, by unfold maxLen at hm; omega, fun h0 => ?_⟩, fun y hy => hwf y (List.mem_of_mem_take hy)⟩
    have h1 := hcell 0 (by omega)
    obtain ⟨b, off, spot⟩ := a
    have hspot : spot = none := by simpa [Addr.add] using World.cell?_spot h1
    subst hspot
    refine ⟨b, off, rfl, World.block_lt_of_cell? W _ h1, fun j hj => ⟨_, rfl, ?_⟩⟩
    have := hcell j (by omega)
    rw [Addr.add_lit] at this
    rw [this]
    congr 2
    simp [List.getD, hj]
end Go.Proofs.YtnfkbjgijelfdaaGreat
