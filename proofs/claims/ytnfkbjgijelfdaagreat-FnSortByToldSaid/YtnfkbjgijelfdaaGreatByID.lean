/- The walks of cmp.Compare at int64, order.ByID, an iterator's Len and NodeSlice, and graph.NodesOf. -/
import Derived.Test.YtnfkbjgijelfdaaGreatShelfN
import Derived.Test.YtnfkbjgijelfdaaGreatOpen
import Derived.Test.YtnfkbjgijelfdaaGreatLolG
import Derived.Test.YtnfkbjgijelfdaaGreatMeth
import Derived.Lib.OwnBridge
namespace Go.Proofs.YtnfkbjgijelfdaaGreat
open Go.RowKit Go.Sort

def cmp64 (x y : Int) : Int := if x < y then -1 else if y < x then 1 else 0

set_option maxHeartbeats 1000000 in
theorem compare64_calls (x y : Int) (w : World) : Calls Tryz.prog 170 #[.int .i64 x, .int .i64 y] w fun e w' => e = .returned (.int .i64 (cmp64 x y)) ∧ w' = w := by
  have key : (x < y ∧ Hid (cmp64 x y = -1)) ∨ (¬ x < y ∧ y < x ∧ Hid (cmp64 x y = 1)) ∨ (¬ x < y ∧ ¬ y < x ∧ Hid (cmp64 x y = 0)) := by
    unfold Hid cmp64
    by_cases h1 : x < y
    · exact .inl ⟨h1, by rw [if_pos h1]⟩
    · by_cases h2 : y < x
      · exact .inr (.inl ⟨h1, h2, by rw [if_neg h1, if_pos h2]⟩)
      · exact .inr (.inr ⟨h1, h2, by rw [if_neg h1, if_neg h2]⟩)
  rcases key with ⟨g1, HA⟩ | ⟨g1, g2, HA⟩ | ⟨g1, g2, HA⟩
  all_goals
    go_enter Tryz.func170, Tryz.ntmps170
    go_wp2_with fail
    refine (Tryz.cmp_isNaN_int2_f171 x w).mono ?_
    rintro e w' ⟨rfl, rfl⟩
    go_wp2_with fail
    refine (Tryz.cmp_isNaN_int2_f171 y w').mono ?_
    rintro e w2 ⟨rfl, rfl⟩
    go_wp2_with fail
    go_ret
    exact ⟨ret_int HA.out.symm, by first | rfl | trivial⟩

set_option maxHeartbeats 1000000 in
theorem cmpNode_calls (x y : Int) (w : World) : Calls Tryz.prog 169 #[nodeV x, nodeV y] w fun e w' => e = .returned (.int .i64 (cmp64 x y)) ∧ w' = w := by
  unfold nodeV
  have m1 := method_ID x; have m2 := method_ID y
  go_enter Tryz.func169, Tryz.ntmps169
  go_wp2_with fail
  refine (nodeID_calls x w).mono ?_
  rintro e w' ⟨rfl, rfl⟩
  go_wp2_with fail
  refine (nodeID_calls y w).mono ?_
  rintro e w' ⟨rfl, rfl⟩
  go_wp2_with fail
  refine (compare64_calls x y w).mono ?_
  rintro e w2 ⟨rfl, rfl⟩
  go_wp2_with fail
  go_ret
  exact ⟨rfl, by first | rfl | trivial⟩

theorem cmp64_lt (x y : Int) : ltOf cmp64 x y = decide (x < y) := by
  unfold ltOf cmp64
  by_cases h : x < y
  · rw [if_pos h]; simp [h]
  · rw [if_neg h]
    by_cases h2 : y < x
    · rw [if_pos h2]; simp [h]
    · rw [if_neg h2]; simp [h]
theorem cmp64_swo : SWO (ltOf cmp64) where
  irrefl x := by rw [cmp64_lt, decide_eq_false_iff_not]; omega
  trans x y z h1 h2 := by
    rw [cmp64_lt, decide_eq_true_iff] at h1 h2 ⊢
    omega
  ntrans x y z h1 h2 := by
    rw [cmp64_lt, decide_eq_false_iff_not] at h1 h2 ⊢
    omega
theorem grownBy_sortN {α : Type} [Inhabited α] (enc : α → Value) {w : World} {g n off : Nat} {os : Array Obj} (d : Array α) : w.grownBy (sortWorld enc w g off n d os) (some g) := by
  unfold sortWorld
  refine ⟨rfl, rfl, rfl, by simp, fun k hk hne => ?_⟩
  rw [heap_grow_old _ _ (by simpa using hk)]
  have : g ≠ k := fun e => hne (by rw [e])
  simp [putRow, mapBlock, Sort.ahead, Array.getElem?_modify, this]
theorem ownsRow_growN {w : World} {B : Nat} {e : TypeId} {size : Nat} {v : Value} {n : Nat} {xs : List Value} {os : Array Obj} (h : w.ownsRow B e size v n xs) : (grow w os).ownsRow B e size v n xs :=
  ownsRow_of_heap h (fun g hg => heap_grow_old _ _ (h.lt g hg).2)

def ByIDPost (B : Nat) (v : Value) (ns : List Int) (w : World) (e : Ending) (w' : World) : Prop :=
  e = .returned (.tuple #[]) ∧ w'.ownsRow B 103 1 v ns.length (ns.map nodeV) ∧ w.grownBy w' v.ownBlock

set_option maxHeartbeats 1000000 in
theorem byID_calls (B : Nat) (v : Value) (ns : List Int) (w : World) (ho : w.ownsRow B 103 1 v ns.length (ns.map nodeV)) (hs : ns.Pairwise (· ≤ ·)) (hn : ns.length ≤ 1000000) :
    Calls Tryz.prog 141 #[v] w (ByIDPost B v ns w) := by
  obtain ⟨a0, c0, rfl⟩ := own_shape' ho
  by_cases h0 : ns.length = 0
  · have hns : ns = [] := List.eq_nil_of_length_eq_zero h0
    subst hns
    have HO := Lib.hid ho; clear ho
    go_enter Tryz.func141, Tryz.ntmps141
    go_wp2_with fail
    refine (Tryz.slices_SortFunc_none_f67 (α := Int) a0 c0 _ w).mono ?_
    rintro e w' ⟨rfl, rfl⟩
    go_wp2_with fail
    go_end0
    exact ⟨rfl, HO.out, ⟨rfl, rfl, rfl, Nat.le_refl _, fun _ _ _ => rfl⟩⟩
  · obtain ⟨g, c, e, hg0, hg1, hm1, hm2, -, hH⟩ := Lib.holds_of_ownsRow ho (by
      intro e
      simp only [Value.slice.injEq] at e
      exact h0 e.2.1)
    simp only [Value.slice.injEq, true_and] at e
    obtain ⟨rfl, rfl⟩ := e
    have hsz : ns.toArray.size = ns.length := by simp
    have hc := Tryz.slices_SortFunc_total_f67 (α := Int) nodeV (fun _ => rfl) cmp64 cmp64_swo 169 #[] g 0 c0 ns.toArray w
      Tryz.call169
      (fun m os dk _ x y => (cmpNode_calls x y _).mono fun e w' ⟨h1, h2⟩ => ⟨h1, 0, #[], by rw [h2, grow_empty]; rfl⟩) hH hg1 (by rw [hsz]; omega) (fun x y h1 h2 => by
        rw [cmp64_lt] at h1 h2
        simp only [decide_eq_false_iff_not] at h1 h2
        omega)
    rw [hsz] at hc
    have hsort : (ns.toArray.toList.mergeSort fun x y => !(ltOf cmp64) y x) = ns := by
      refine List.mergeSort_of_pairwise ?_
      refine hs.imp fun {a b} h => ?_
      rw [cmp64_lt]
      simp only [Bool.not_eq_true', decide_eq_false_iff_not]
      omega
    rw [hsort] at hc
    have HC := Lib.hid hc
    have HO := Lib.hid ho
    clear hc ho hH hsort
    go_enter Tryz.func141, Tryz.ntmps141
    go_wp2_with fail
    refine HC.out.mono ?_
    rintro e w' ⟨rfl, q, os, hw'⟩
    have hgr : w.grownBy w' (some g) := by rw [hw']; exact grownBy_sortN nodeV ns.toArray
    have hrow : w'.ownsRow B 103 1 (.slice (some ⟨g, 0, none⟩) ns.length c0) ns.length (ns.map nodeV) := by
      have h2 := Lib.ownsRow_putRow (q := q) HO.out (ys := ns) rfl (Nat.le_refl _)
      rw [List.take_of_length_le (Nat.le_refl _)] at h2
      rw [hw']
      unfold sortWorld
      exact ownsRow_growN h2
    have HG := Lib.hid hgr; have HW := Lib.hid hrow
    clear hw' hgr hrow
    go_wp2_with fail
    go_end0
    exact ⟨rfl, HW.out, HG.out⟩

end Go.Proofs.YtnfkbjgijelfdaaGreat
