/- The walks of number and iterated (over any iterator); slices.Sort at int. -/
import Derived.Test.YtnfkbjgijelfdaaGreatIter
import Derived.Test.YtnfkbjgijelfdaaGreatRead1
import Derived.Test.YtnfkbjgijelfdaaGreatOpen
namespace Go.Proofs.YtnfkbjgijelfdaaGreat
open Go.RowKit Go.Sort

theorem sortInt_calls (B : Nat) (v : Value) (n : Nat) (zs : List Int) (w : World) (hown : w.ownsRow B 3 1 v n (zs.map (Value.int .i64))) (hn : n < 4611686018427387904) :
    Calls Tryz.prog 44 #[v] w (SortPost 3 B v n zs w) := by
  have hown' := hown
  obtain ⟨h1, ⟨rfl, rfl⟩ | ⟨g, cap, cur, rfl, hb, hg, h3, h4, h5, h6⟩⟩ := hown
  · obtain rfl : zs = [] := List.eq_nil_of_length_eq_zero (by simpa using h1)
    have hc : Calls Tryz.prog 44 #[.slice none 0 0] w fun e w' => e = .returned (.tuple #[]) ∧ w' = w := by
      first | exact Tryz.slices_Sort_int_none none 0 w | exact Tryz.slices_Sort_int_none_f44 none 0 w
    refine hc.mono ?_
    rintro e w' ⟨rfl, rfl⟩
    exact ⟨rfl, by simpa [sortI] using World.ownsRow_nil w' B 3 1, rfl, rfl, rfl, Nat.le_refl _, fun _ _ _ => rfl⟩
  · obtain ⟨hi, hl, hbg, hcap, hmax⟩ := IntBlk.of_owns hown'
    subst hl
    have hc : Calls Tryz.prog 44 #[.slice (some ⟨g, 0, none⟩) zs.length cap] w fun e w' =>
        e = .returned (.tuple #[]) ∧ ∃ n os, w' = grow (putRow (Value.int .i64) (Sort.ahead w n) g 0 (zs.mergeSort fun x y => decide (x ≤ y)).toArray) os := by
      first | exact Tryz.slices_Sort_int g 0 cap zs w (holds_of_blk hi) hi.lt hn | exact Tryz.slices_Sort_int_f44 g 0 cap zs w (holds_of_blk hi) hi.lt hn
    refine hc.mono ?_
    rintro e w' ⟨rfl, q, os, rfl⟩
    have hb2 := blk_putRow hi (sortI_len zs) q os
    refine ⟨rfl, ?_, grownBy_putRow _⟩
    have := hb2.owns hb hmax
    rw [sortI_len] at this
    exact this

set_option maxHeartbeats 400000 in
theorem number_calls (x : Int) (w : World) : Calls Tryz.prog 69 #[nodeV x] w fun e w' => e = .returned (.int .i64 x) ∧ w = w' := by
  unfold nodeV
  have m1 := method_ID
  go_enter Tryz.func69, Tryz.ntmps69
  go_wp2_with fail
  refine (nodeID_calls x w).mono ?_
  rintro e w' ⟨rfl, rfl⟩
  go_wp2_with fail
  go_ret
  exact ⟨rfl, rfl⟩

def slLen : Value → Nat
  | .slice _ n _ => n
  | _ => 0

theorem own_within {w w' : World} {B E B' : Nat} {e : TypeId} {size : Nat} {v : Value} {n : Nat} {xs : List Value} (h : w.ownsRow B' e size v n xs) (hw : Within B E w w') (hB : E ≤ B') : w'.ownsRow B' e size v n xs :=
  ownsRow_of_heap h (fun g hg => hw.2.2.2.2 g (.inr (by have := h.lt g hg; omega)))

theorem Within.below {B E : Nat} {w0 w w' : World} (hb : Below B w0 w) (hw : Within B E w w') : Below B w0 w' :=
  hb.trans ⟨hw.1, hw.2.1, hw.2.2.1, hw.2.2.2.1, fun j hj => hw.2.2.2.2 j (.inl hj)⟩

def ItdPost (B : Nat) (ns : List Int) (w : World) (e : Ending) (w' : World) : Prop :=
  ∃ v, e = .returned v ∧ w'.ownsRow w.heap.size 3 1 v ns.length ((sortI ns).map (Value.int .i64)) ∧ Below B w w'

theorem int_info : (Tryz.prog.info? 3).map (fun i => (i.zero, i.size, i.bytes)) = some (some (.int .i64 0), 1, 8) := by kernel_rfl

end Go.Proofs.YtnfkbjgijelfdaaGreat
