/- The walk of slices.Insert of one arc: at the end; and in the midst where there is no room. -/
import Derived.Test.YtbkoifdnlaihfaaGreatArc2
namespace Go.Proofs.YtbkoifdnlaihfaaGreat
open Go.RowKit

/-- Put in, in a new row. -/
def InsNew (w : World) (n : Nat) (l' : Arcs) (v' : Value) (w' : World) : Prop :=
  ∃ (cp : Nat) (cells : List Value), v' = .slice (some ⟨w.heap.size, 0, none⟩) (n + 1) cp ∧ Below w.heap.size w w' ∧ w'.heap[w.heap.size]? = some (.cells cells.toArray 238 (0, 0)) ∧
    cells.length = cp * 2 ∧ n + 1 ≤ cp ∧ cp ≤ maxLen ∧ cells.take ((n + 1) * 2) = flat l'

def RetNew (w : World) (n : Nat) (l' : Arcs) (e : Ending) (w' : World) : Prop := ∃ v', e = .returned v' ∧ InsNew w n l' v' w'

theorem zeroCells_len (z : Array Value) (n : Nat) : (Builtin.zeroCells z n).toList.length = n * z.size := by simp [Builtin.zeroCells]

set_option maxHeartbeats 4000000 in
set_option maxRecDepth 100000 in
theorem insert_end_room (g n c k x bv : Nat) (cur : List Value) (l : Arcs) (w : World) (hlen : l.length = n) (hroom : n + 1 ≤ c) (hc63 : c ≤ 9223372036854775807)
    (hg : w.heap[g]? = some (.cells cur.toArray 238 (0, 0))) (hcur : cur.length = c * 2) (htake : cur.take (n * 2) = flat l)
    (hbv : w.heap[bv]? = some (.cells #[.int .i64 k, .float .f64 x] 238 (0, 0))) :
    Calls Tryz.prog 180 #[.slice (some ⟨g, 0, none⟩) n c, .int .i64 n, .slice (some ⟨bv, 0, none⟩) 1 1] w fun e w' =>
      e = .returned (.slice (some ⟨g, 0, none⟩) (n + 1) c) ∧ InsHere w g c n (insL l n (k, x)) w' := by
  obtain ⟨i0, hi0, hz0, hz1, hz2⟩ := info_parts arc_info
  have hrun := fun ty => run_append_room (P := Tryz.prog) w 209 ty 238 i0 Tryz.underlying209 hi0 g n c cur.toArray hg ⟨bv, 0, none⟩ 1 1 [.int .i64 k, .float .f64 x] (by rw [hz1]; rfl)
      (fun j v hj => by
        rw [Addr.add_lit, cell_of_row w bv _ _ 238 (0, 0) hbv]
        simpa using hj)
      (pair_one k x)
      hroom (by rw [hz1, List.size_toArray, hcur]; simp; omega)
  obtain ⟨cur', hcur'⟩ : ∃ cur' : List Value, cur' = cur.take (n * 2) ++ [.int .i64 k, .float .f64 x] ++ cur.drop (n * 2 + 2) := ⟨_, rfl⟩
  have hrun' : ∀ ty, (Builtin.append_ #[209, 209] ty #[.slice (some ⟨g, 0, none⟩) n c, .slice (some ⟨bv, 0, none⟩) 1 1]).run Tryz.prog w = .ok (.slice (some ⟨g, 0, none⟩) (n + 1) c) (w.setRow g cur'.toArray) := fun ty => by
    rw [hrun ty, hz1, hcur']; rfl
  have hfin : InsHere w g c n (insL l n (k, x)) (w.setRow g cur'.toArray) := by
    refine ⟨0, cur', rfl, ?_, ?_⟩
    · rw [hcur']; simp only [List.length_append, List.length_take, List.length_drop, List.length_cons, List.length_nil, hcur]; omega
    · rw [hcur', insL_end l n k x hlen, htake]
      have h1 : (flat l ++ [Value.int .i64 k, Value.float .f64 x]).length = (n + 1) * 2 := by
        rw [List.length_append, flat_len, hlen]; simp; omega
      rw [← h1, List.take_append_of_le_length (Nat.le_refl _), List.take_length]
  have HF := Lib.hid hfin
  clear hrun hg hcur htake hbv hlen hz0 hz1 hz2 hi0 hcur' hfin
  go_enter Tryz.func180, Tryz.ntmps180
  go_wp2_with (at_builtin; refine Lib.wpList_append_run _ rfl _ _ _ _ rfl _ _ rfl rfl _ _ (hrun' _) ?_)
  all_goals
    go_ret
    exact ⟨rfl, HF.out⟩

set_option maxHeartbeats 4000000 in
set_option maxRecDepth 100000 in
theorem insert_end_grow (base : Option Addr) (n c k x bv : Nat) (l : Arcs) (w : World) (hlen : l.length = n) (hnc : n ≤ c) (hroom : c < n + 1) (hbig : (n + 1) * 16 ≤ 140737488355328)
    (hold : (base = none ∧ n = 0) ∨ ∃ g, base = some ⟨g, 0, none⟩ ∧ ∀ j v, (flat l)[j]? = some v → w.cell? ⟨g, j, none⟩ = some v)
    (hbv : w.heap[bv]? = some (.cells #[.int .i64 k, .float .f64 x] 238 (0, 0))) :
    Calls Tryz.prog 180 #[.slice base n c, .int .i64 n, .slice (some ⟨bv, 0, none⟩) 1 1] w
      (RetNew w n (insL l n (k, x))) := by
  obtain ⟨i0, hi0, hz0, hz1, hz2⟩ := info_parts arc_info
  have hsrc : Src Tryz.prog 2 209 (.slice (some ⟨bv, 0, none⟩) 1 1) 1 [.int .i64 k, .float .f64 x] w := Src.ofSlice w Tryz.underlying209 ⟨bv, 0, none⟩ 1 1 _ rfl (fun j v hj => by
        rw [Addr.add_lit, cell_of_row w bv _ _ 238 (0, 0) hbv]
        simpa using hj)
      (pair_one k x)
  have hfirst : (Builtin.firstCells i0.size n (.slice base n c)).run Tryz.prog w.drew = .ok (flat l).toArray w.drew := by
    rw [hz1]
    rcases hold with ⟨rfl, rfl⟩ | ⟨g, rfl, hc⟩
    · obtain rfl := List.eq_nil_of_length_eq_zero hlen
      exact run_firstCells_none w.drew 2 0 0 c
    · exact run_firstCells_some w.drew 2 n ⟨g, 0, none⟩ n c (flat l) (by rw [flat_len, hlen]) (fun j v hj => by rw [Addr.add_lit, Nat.zero_add]; exact hc j v hj)
  have hrun := fun ty => run_append_grow_src (P := Tryz.prog) w 209 209 ty 238 i0 _ Tryz.underlying209 hi0 hz0 base n c (flat l) hfirst _ 1 _ (by rw [hz1]; exact hsrc) hroom (by omega) (by rw [hz2]; exact growslice_fits hroom hbig)
  have hcp : n + 1 ≤ grownCap w (n + 1) c 238 := grownCap_ge _ _ _ _
  have hcm : grownCap w (n + 1) c 238 ≤ maxLen := grownCap_le_maxLen _ _ _ _ (by unfold maxLen; omega)
  obtain ⟨cp, hcpe⟩ : ∃ cp, cp = grownCap w (n + 1) c 238 := ⟨_, rfl⟩
  rw [← hcpe] at hcp hcm
  simp only [← hcpe] at hrun
  obtain ⟨cells, hcells⟩ : ∃ cells : List Value, cells = (flat l ++ [Value.int .i64 k, Value.float .f64 x]) ++ (Builtin.zeroCells (Value.agg #[.int .i64 0, .float .f64 0]).cells (cp - (n + 1))).toList := ⟨_, rfl⟩
  have hrun' : ∀ ty, (Builtin.append_ #[209, 209] ty #[.slice base n c, .slice (some ⟨bv, 0, none⟩) 1 1]).run Tryz.prog w = .ok (.slice (some ⟨w.heap.size, 0, none⟩) (n + 1) cp) (w.drew.alloc (.cells cells.toArray 238)) := fun ty => by
    rw [hrun ty, hcells]; congr 3; apply Array.ext'; simp
  have hfin : InsNew w n (insL l n (k, x)) (.slice (some ⟨w.heap.size, 0, none⟩) (n + 1) cp) (w.drew.alloc (.cells cells.toArray 238)) := by
    refine ⟨cp, cells, rfl, ((Below.refl _ _).drew).alloc (Nat.le_refl _) _, heap_alloc_new w.drew _, ?_, hcp, hcm, ?_⟩
    · rw [hcells, List.length_append, List.length_append, flat_len, hlen, zeroCells_len]
      show n * 2 + 2 + (cp - (n + 1)) * 2 = cp * 2
      omega
    · have h1 : (flat l ++ [Value.int .i64 k, Value.float .f64 x]).length = (n + 1) * 2 := by
        rw [List.length_append, flat_len, hlen]; simp; omega
      rw [hcells, ← h1, insL_end l n k x hlen, List.take_append_of_le_length (Nat.le_refl _), List.take_length]
  have HF := Lib.hid hfin; clear hfin
  have Hnc := Lib.hid hnc
  have hb : (base = none ∧ n = 0) ∨ ∃ g o s, base = some ⟨g, o, s⟩ := by
    rcases hold with h | ⟨g, h, _⟩
    · exact .inl h
    · exact .inr ⟨_, _, _, h⟩
  clear hcpe hfirst hsrc hbv hz0 hz1 hz2 hi0 hold hlen hcells hrun
  go_enter Tryz.func180, Tryz.ntmps180
  rcases hb with ⟨rfl, rfl⟩ | ⟨g, o, s, rfl⟩
  all_goals
    go_wp2_with (at_builtin; refine Lib.wpList_append_run _ rfl _ _ _ _ rfl _ _ rfl rfl _ _ (hrun' _) ?_)
  all_goals
    go_ret
    exact ⟨_, rfl, HF.out⟩

set_option maxHeartbeats 4000000 in
set_option maxRecDepth 100000 in
theorem insert_mid_grow (g n c i k x bv : Nat) (l : Arcs) (w : World) (hlen : l.length = n) (hi : i < n) (hnc : n ≤ c) (hroom : c < n + 1) (hbig : (n + 1) * 16 ≤ 140737488355328)
    (hc : ∀ j v, (flat l)[j]? = some v → w.cell? ⟨g, j, none⟩ = some v) (hgw : g < w.heap.size)
    (hbv : w.heap[bv]? = some (.cells #[.int .i64 k, .float .f64 x] 238 (0, 0))) :
    Calls Tryz.prog 180 #[.slice (some ⟨g, 0, none⟩) n c, .int .i64 i, .slice (some ⟨bv, 0, none⟩) 1 1] w
      (RetNew w n (insL l i (k, x))) := by
  obtain ⟨i0, hi0, hz0, hz1, hz2⟩ := info_parts arc_info
  have hsz : (Tryz.prog.info? 238).map (·.size) = some 2 := by rw [hi0]; simp [hz1]
  have hti : (flat (l.take i)).length = i * 2 := by rw [flat_len, List.length_take]; omega
  have hdl : (flat (l.drop i)).length = (n - i) * 2 := by rw [flat_len, List.length_drop, hlen]
  have hfirst : (Builtin.firstCells i0.size i (.slice (some ⟨g, 0, none⟩) i c)).run Tryz.prog w.drew = .ok (flat (l.take i)).toArray w.drew := by
    rw [hz1]
    refine run_firstCells_some w.drew 2 i ⟨g, 0, none⟩ i c (flat (l.take i)) hti (fun j v hj => ?_)
    rw [Addr.add_lit, Nat.zero_add]
    have hj2 : j < i * 2 := by have := (List.getElem?_eq_some_iff.1 hj).1; omega
    refine hc j v ?_
    rw [← flat_take l i (by omega), List.getElem?_take_of_lt hj2] at hj
    exact hj
  have hrun := fun ty => run_append_zeros_grow (P := Tryz.prog) w 209 3 ty 238 i0 _ .i64 .i64 Tryz.underlying209 Tryz.underlying3 hi0 hz0 (some ⟨g, 0, none⟩) i c (flat (l.take i)) hfirst (n + 1 - i) (by omega) (by omega) (by omega) (by omega) (by rw [hz2]; omega) (by rw [hz2]; exact growslice_fits (by omega) (by rw [show i + (n + 1 - i) = n + 1 by omega]; exact hbig))
  rw [show i + (n + 1 - i) = n + 1 by omega] at hrun
  have hcp : n + 1 ≤ grownCap w (n + 1) c 238 := grownCap_ge _ _ _ _
  have hcm : grownCap w (n + 1) c 238 ≤ maxLen := grownCap_le_maxLen _ _ _ _ (by unfold maxLen; omega)
  obtain ⟨cp, hcpe⟩ : ∃ cp, cp = grownCap w (n + 1) c 238 := ⟨_, rfl⟩
  rw [← hcpe] at hcp hcm
  simp only [← hcpe] at hrun
  -- the three states of the new row
  obtain ⟨cur0, hcur0⟩ : ∃ cur0 : List Value, cur0 = flat (l.take i) ++ (Builtin.zeroCells (Value.agg #[.int .i64 0, .float .f64 0]).cells (n + 1 - i)).toList ++ (Builtin.zeroCells (Value.agg #[.int .i64 0, .float .f64 0]).cells (cp - (n + 1))).toList := ⟨_, rfl⟩
  have hl0 : cur0.length = cp * 2 := by
    rw [hcur0, List.length_append, List.length_append, hti, zeroCells_len, zeroCells_len]
    show i * 2 + (n + 1 - i) * 2 + (cp - (n + 1)) * 2 = cp * 2
    omega
  have ht0 : cur0.take (i * 2) = flat (l.take i) := by rw [hcur0, List.append_assoc, ← hti, List.take_left]
  obtain ⟨cur1, hcur1⟩ : ∃ cur1 : List Value, cur1 = cur0.take (i * 2) ++ [.int .i64 k, .float .f64 x] ++ cur0.drop (i * 2 + 2) := ⟨_, rfl⟩
  have hl1 : cur1.length = cp * 2 := by rw [hcur1]; simp only [List.length_append, List.length_take, List.length_drop, List.length_cons, List.length_nil, hl0]; omega
  obtain ⟨cur2, hcur2⟩ : ∃ cur2 : List Value, cur2 = cur1.take ((i + 1) * 2) ++ flat (l.drop i) ++ cur1.drop ((i + 1) * 2 + (flat (l.drop i)).length) := ⟨_, rfl⟩
  have hl2 : cur2.length = cp * 2 := by rw [hcur2]; simp only [List.length_append, List.length_take, List.length_drop, hdl, hl1]; omega
  have hfin : cur2.take ((n + 1) * 2) = flat (insL l i (k, x)) := by
    have h1 : (flat (l.take i) ++ [Value.int .i64 k, Value.float .f64 x]).length = (i + 1) * 2 := by
      rw [List.length_append, hti]; simp; omega
    have e1 : cur1.take ((i + 1) * 2) = flat (l.take i) ++ [.int .i64 k, .float .f64 x] := by
      rw [hcur1, ht0, ← h1, List.take_left]
    have e2 : (flat (l.take i) ++ [Value.int .i64 k, Value.float .f64 x] ++ flat (l.drop i)).length = (n + 1) * 2 := by
      rw [List.length_append, h1, hdl]; omega
    rw [hcur2, e1, ← e2, List.take_append_of_le_length (Nat.le_refl _), List.take_length, insL, flat_append, flat_cons, List.append_assoc]
  have hrun' : ∀ ty, (Builtin.append_ #[209, 3] ty #[.slice (some ⟨g, 0, none⟩) i c, .int .i64 ((n : Int) + 1 - i)]).run Tryz.prog w = .ok (.slice (some ⟨w.heap.size, 0, none⟩) (n + 1) cp) (w.drew.alloc (.cells cur0.toArray 238)) := fun ty => by
    rw [show ((n : Int) + 1 - i) = ((n + 1 - i : Nat) : Int) by omega, hrun ty, hcur0]; congr 3; apply Array.ext'; simp
  obtain ⟨w1, hw1⟩ : ∃ w1, w1 = w.drew.alloc (.cells cur0.toArray 238) := ⟨_, rfl⟩
  have hh0 : w1.heap[w.heap.size]? = some (.cells cur0.toArray 238 (0, 0)) := by rw [hw1]; exact heap_alloc_new w.drew _
  have hold : ∀ b, b < w.heap.size → w1.heap[b]? = w.heap[b]? := fun b hb => by rw [hw1]; exact heap_alloc_old w.drew _ hb
  have hbw : bv < w.heap.size := (Array.getElem?_eq_some_iff.1 hbv).1
  have hb1 : Below w.heap.size w w1 := by rw [hw1]; exact ((Below.refl _ _).drew).alloc (Nat.le_refl _) _
  rw [← hw1] at hrun'
  have hcp2 : ∀ ty dc, (Builtin.copy_ #[209, 209] ty #[.slice (some ⟨w.heap.size, i * 2, none⟩) (n + 1 - i) dc, .slice (some ⟨bv, 0, none⟩) 1 1]).run Tryz.prog w1 = .ok (goInt ((1 : Nat) : Int)) (w1.setRow w.heap.size cur1.toArray) := fun ty dc => by
    have hm : Nat.min 1 (n + 1 - i) = 1 := by simp only [Nat.min_def]; split <;> omega
    have := run_copy_rowK (P := Tryz.prog) w1 209 209 ty 238 2 w.heap.size (i * 2) (n + 1 - i) dc ⟨bv, 0, none⟩ 1 1 cur0.toArray 238 [.int .i64 k, .float .f64 x] Tryz.underlying209 hsz hh0 (by rw [hm]; rfl)
      (fun j v hj => by
        rw [Addr.add_lit, cell_of_row w1 bv _ _ 238 (0, 0) (by rw [hold _ hbw]; exact hbv)]
        simpa using hj)
      (by simp only [List.length_cons, List.length_nil, List.size_toArray, hl0]; omega) (pair_one k x)
    rw [this, hm, hcur1]; rfl
  obtain ⟨w2, hw2⟩ : ∃ w2, w2 = w1.setRow w.heap.size cur1.toArray := ⟨_, rfl⟩
  have hh1 : w2.heap[w.heap.size]? = some (.cells cur1.toArray 238 (0, 0)) := by rw [hw2]; exact setRow_heap w1 _ _ _ _ _ hh0
  have hb2 : Below w.heap.size w w2 := by rw [hw2]; exact below_setRow hb1 (Nat.le_refl _) _
  rw [← hw2] at hcp2
  have hcp1 : ∀ ty dc sc, (Builtin.copy_ #[209, 209] ty #[.slice (some ⟨w.heap.size, (i + 1) * 2, none⟩) (n - i) dc, .slice (some ⟨g, i * 2, none⟩) (n - i) sc]).run Tryz.prog w2.drew = .ok (goInt ((n - i : Nat) : Int)) (w2.drew.setRow w.heap.size cur2.toArray) := fun ty dc sc => by
    have hm : Nat.min (n - i) (n - i) = n - i := by simp only [Nat.min_def]; split <;> omega
    have := run_copy_rowK (P := Tryz.prog) w2.drew 209 209 ty 238 2 w.heap.size ((i + 1) * 2) (n - i) dc ⟨g, i * 2, none⟩ (n - i) sc cur1.toArray 238 (flat (l.drop i)) Tryz.underlying209 hsz hh1 (by rw [hm]; exact hdl)
      (fun j v hj => by
        rw [Addr.add_lit]
        refine (hb2.cell (p := ⟨g, i * 2 + j, none⟩) hgw).trans (hc _ v ?_)
        rw [← flat_drop l i (by omega), List.getElem?_drop] at hj
        exact hj)
      (by rw [hdl, List.size_toArray, hl1]; omega) (flat_one _)
    rw [this, hm, hcur2]
  have HF : Hid (InsNew w n (insL l i (k, x)) (.slice (some ⟨w.heap.size, 0, none⟩) (n + 1) cp) (w2.drew.setRow w.heap.size cur2.toArray)) :=
    ⟨cp, cur2, rfl, below_setRow hb2.drew (Nat.le_refl _) _, setRow_heap w2.drew _ _ _ _ _ hh1, hl2, hcp, hcm, hfin⟩
  have Hcm := Lib.hid hcm
  unfold maxLen at hcm
  clear hi0 hz0 hz1 hz2 hsz hti hdl hfirst hrun hcpe hcur0 hl0 ht0 hcur1 hl1 hcur2 hl2 hfin hw1 hh0 hold hbw hb1 hw2 hh1 hb2 hc hbv hlen
  go_enter Tryz.func180, Tryz.ntmps180
  go_wp2_with (at_builtin; refine Lib.wpList_append_run _ rfl _ _ _ _ rfl _ _ rfl rfl _ _ (hrun' _) ?_)
  have hw1 : IntKind.i64.wrap ((i : Int) + 1) = (i : Int) + 1 := by rw [IntKind.wrap_i64]; omega
  have hb1 : (0 : Int) ≤ (i : Int) + 1 := by omega
  have hb3 : (i : Int) + 1 ≤ (n : Int) + 1 := by omega
  have hb5 : (i : Int) ≤ (n : Int) := by omega
  have htn : ((i : Int) + 1).toNat = i + 1 := by omega
  have hb2 : ¬ (cp = i + 1) := by omega
  have hb4 : ¬ (c = i) := by omega
  have hb6 : n + 1 - (i + 1) = n - i := by omega
  go_region_law (refine step_copy_run' rfl _ _ 209 209 rfl _ _ (by simp [Act.eval, Act.put]) (by simp [Act.eval, Act.put]) (hcp1 _ _ _) ?_)
  go_wp2
  go_ret
  exact ⟨_, rfl, HF.out⟩
end Go.Proofs.YtbkoifdnlaihfaaGreat
