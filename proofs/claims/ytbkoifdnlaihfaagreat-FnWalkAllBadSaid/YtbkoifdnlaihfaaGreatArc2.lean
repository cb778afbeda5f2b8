/- The walk of slices.Insert of one arc, in the midst of a row, where there is room. -/
import Derived.Test.YtbkoifdnlaihfaaGreatProg
import Derived.Test.YtbkoifdnlaihfaaGreatArcMem
import Derived.Test.YtbkoifdnlaihfaaGreatLaws
import Derived.Deep.QuietTactic
import Derived.BigQuiet
import Derived.Deep.RegionLaw
import Derived.Lib.Overlaps
import Derived.Laws.Externs
import Derived.WalkLawsBesides
namespace Go.Proofs.YtbkoifdnlaihfaaGreat
open Go.RowKit

/-- Put in where it lies. -/
def InsHere (w : World) (g c n : Nat) (l' : Arcs) (w' : World) : Prop :=
  ∃ (q : Nat) (cur' : List Value), w' = (w.drewN q).setRow g cur'.toArray ∧ cur'.length = c * 2 ∧ cur'.take ((n + 1) * 2) = flat l'

theorem arc_info : (Tryz.prog.info? 238).map (fun i => (i.zero, i.size, i.bytes)) = some (some (.agg #[.int .i64 0, .float .f64 0]), 2, 16) := by kernel_rfl

set_option maxHeartbeats 4000000 in
set_option maxRecDepth 100000 in
theorem insert_mid_room (g n c i k x bv : Nat) (cur : List Value) (l : Arcs) (w : World) (hlen : l.length = n) (hi : i < n) (hroom : n + 1 ≤ c) (hc63 : c ≤ 9223372036854775807)
    (hg : w.heap[g]? = some (.cells cur.toArray 238 (0, 0))) (hcur : cur.length = c * 2) (htake : cur.take (n * 2) = flat l)
    (hbv : w.heap[bv]? = some (.cells #[.int .i64 k, .float .f64 x] 238 (0, 0))) (hne : bv ≠ g) :
    Calls Tryz.prog 180 #[.slice (some ⟨g, 0, none⟩) n c, .int .i64 i, .slice (some ⟨bv, 0, none⟩) 1 1] w fun e w' =>
      e = .returned (.slice (some ⟨g, 0, none⟩) (n + 1) c) ∧ InsHere w g c n (insL l i (k, x)) w' := by
  have hov : ∀ lb cb, (callFunc 200 #[.slice (some ⟨bv, 0, none⟩) 1 1, .slice (some ⟨g, (i + 1) * 2, none⟩) lb cb]).run Tryz.prog w = .ok (.value (.bool false)) w := fun lb cb => by
    rw [run_callFunc_extern Tryz.func200 (by kernel_rfl) (by kernel_rfl) (by kernel_rfl) (e := Extern.SlicesOverlaps.overlaps #[209, 209] #[4]) (by kernel_rfl),
      Lib.run_overlaps_apart w 209 4 238 Tryz.underlying209 2 Tryz.sizeOf238 ⟨bv, 0, none⟩ ⟨g, (i + 1) * 2, none⟩ 1 1 lb cb hne 238 238 2 (c * 2) (by simp [World.shape?, hbv]) (by simp [World.shape?, hg, hcur]) (by omega) (by simp [World.frozen?, hbv]) (by simp [World.frozen?, hbv])]
    rfl
  have hsz : (Tryz.prog.info? 238).map (·.size) = some 2 := by
    obtain ⟨i0, hi0, h0, h1, h2⟩ := info_parts arc_info
    rw [hi0]; simp [h1]
  go_enter Tryz.func180, Tryz.ntmps180
  have Hg := Lib.hid hg; clear hg
  have Hcur := Lib.hid hcur; clear hcur
  have Ht := Lib.hid htake; clear htake
  have Hbv := Lib.hid hbv; clear hbv
  have Hlen := Lib.hid hlen; clear hlen
  have hdl : (flat (l.drop i)).length = (n - i) * 2 := by rw [flat_len, List.length_drop, Hlen.out]
  have Hdl := Lib.hid hdl; clear hdl
  obtain ⟨cur1, hcur1⟩ : ∃ cur1 : List Value, cur1 = cur.take ((i + 1) * 2) ++ flat (l.drop i) ++ cur.drop ((i + 1) * 2 + (flat (l.drop i)).length) := ⟨_, rfl⟩
  have Hc1 := Lib.hid hcur1; clear hcur1
  have hcp1 : ∀ (W : World), W.heap = w.heap → ∀ ty dc sc, (Builtin.copy_ #[209, 209] ty #[.slice (some ⟨g, (i + 1) * 2, none⟩) (n - i) dc, .slice (some ⟨g, i * 2, none⟩) (n + 1 - i) sc]).run Tryz.prog W = .ok (goInt ((n - i : Nat) : Int)) (W.setRow g cur1.toArray) := fun W hW ty dc sc => by
    have hm : Nat.min (n + 1 - i) (n - i) = n - i := by simp only [Nat.min_def]; split <;> omega
    have := run_copy_rowK (P := Tryz.prog) W 209 209 ty 238 2 g ((i + 1) * 2) (n - i) dc ⟨g, i * 2, none⟩ (n + 1 - i) sc cur.toArray 238 (flat (l.drop i)) Tryz.underlying209 hsz (by rw [hW]; exact Hg.out) (by rw [hm]; exact Hdl.out)
      (fun j v hj => by
        have hj2 : j < (n - i) * 2 := by have := (List.getElem?_eq_some_iff.1 hj).1; rw [Hdl.out] at this; exact this
        rw [Addr.add_lit, cell_of_row W g _ cur.toArray 238 (0, 0) (by rw [hW]; exact Hg.out), List.getElem?_toArray]
        rw [← flat_drop l i (by rw [Hlen.out]; omega), List.getElem?_drop, ← Ht.out, List.getElem?_take_of_lt (by omega)] at hj
        exact hj)
      (by rw [Hdl.out, List.size_toArray, Hcur.out]; omega) (flat_one _)
    rw [this, hm, Hc1.out]
  have hl1 : cur1.length = c * 2 := by
    rw [Hc1.out]; simp only [List.length_append, List.length_take, List.length_drop, Hdl.out, Hcur.out]; omega
  have Hl1 := Lib.hid hl1; clear hl1
  obtain ⟨cur2, hcur2⟩ : ∃ cur2 : List Value, cur2 = cur1.take (i * 2) ++ [.int .i64 k, .float .f64 x] ++ cur1.drop (i * 2 + 2) := ⟨_, rfl⟩
  have Hc2 := Lib.hid hcur2; clear hcur2
  have hcp2 : ∀ (W : World), W.heap[g]? = some (.cells cur1.toArray 238 (0, 0)) → W.heap[bv]? = w.heap[bv]? → ∀ ty dc, (Builtin.copy_ #[209, 209] ty #[.slice (some ⟨g, i * 2, none⟩) (n + 1 - i) dc, .slice (some ⟨bv, 0, none⟩) 1 1]).run Tryz.prog W = .ok (goInt ((1 : Nat) : Int)) (W.setRow g cur2.toArray) := fun W hW hW2 ty dc => by
    have hm : Nat.min 1 (n + 1 - i) = 1 := by simp only [Nat.min_def]; split <;> omega
    have := run_copy_rowK (P := Tryz.prog) W 209 209 ty 238 2 g (i * 2) (n + 1 - i) dc ⟨bv, 0, none⟩ 1 1 cur1.toArray 238 [.int .i64 k, .float .f64 x] Tryz.underlying209 hsz hW (by rw [hm]; rfl)
      (fun j v hj => by
        rw [Addr.add_lit, cell_of_row W bv _ _ 238 (0, 0) (by rw [hW2]; exact Hbv.out)]
        simpa using hj)
      (by simp only [List.length_cons, List.length_nil, List.size_toArray, Hl1.out]; omega) (by intro v hv; rcases List.mem_cons.1 hv with rfl | hv; · rfl
                                                                                                · obtain rfl := List.mem_singleton.1 hv; rfl)
    rw [this, hm, Hc2.out]; rfl
  go_wp2_with (simp only [hov])
  have hw1 : IntKind.i64.wrap ((i : Int) + 1) = (i : Int) + 1 := by rw [IntKind.wrap_i64]; omega
  have hb1 : (0 : Int) ≤ (i : Int) + 1 := by omega
  have hb3 : (i : Int) + 1 ≤ (n : Int) + 1 := by omega
  have hb5 : (i : Int) ≤ (n : Int) + 1 := by omega
  have htn : ((i : Int) + 1).toNat = i + 1 := by omega
  have hb2 : ¬ (c = i + 1) := by omega
  have hb4 : ¬ (c = i) := by omega
  have hb6 : n + 1 - (i + 1) = n - i := by omega
  have hcpa := hcp1 w.drew rfl
  clear hcp1
  go_region_law (refine step_copy_run' rfl _ _ 209 209 rfl _ _ (by simp [Act.eval, Act.put]) (by simp [Act.eval, Act.put]) (hcpa _ _ _) ?_)
  have hW1 : (w.drew.setRow g cur1.toArray).heap[g]? = some (.cells cur1.toArray 238 (0, 0)) := setRow_heap w.drew g cur.toArray cur1.toArray 238 (0, 0) Hg.out
  have hW2 : (w.drew.setRow g cur1.toArray).heap[bv]? = w.heap[bv]? := setRow_other w.drew g bv _ hne
  have hcpb := hcp2 _ hW1 hW2
  clear hcp2 hcpa hW1 hW2
  go_wp2_with (at_builtin; refine wpList_copy_run' _ rfl _ _ 209 209 rfl _ _ rfl rfl (hcpb _ _) ?_)
  go_ret
  refine ⟨rfl, 1, cur2, by rw [setRow_setRow]; rfl, ?_, ?_⟩
  · rw [Hc2.out]; simp only [List.length_append, List.length_take, List.length_drop, List.length_cons, List.length_nil, Hl1.out]; omega
  · have e1 : cur1.take (i * 2) = flat (l.take i) := by
      rw [Hc1.out, List.append_assoc, List.take_append_of_le_length (by rw [List.length_take, Hcur.out]; omega), List.take_take, Nat.min_eq_left (by omega), ← flat_take l i (by rw [Hlen.out]; omega), ← Ht.out, List.take_take, Nat.min_eq_left (by omega)]
    have e2 : (cur1.drop (i * 2 + 2)).take ((n - i) * 2) = flat (l.drop i) := by
      rw [Hc1.out, List.append_assoc, List.drop_append_of_le_length (by rw [List.length_take, Hcur.out]; omega), List.drop_eq_nil_of_le (by rw [List.length_take, Hcur.out]; omega), List.nil_append, ← Hdl.out, List.take_left]
    rw [Hc2.out, e1, insL, flat_append, flat_cons, ← e2]
    have h1 : (flat (l.take i) ++ [Value.int .i64 k, Value.float .f64 x]).length = i * 2 + 2 := by
      rw [List.length_append, flat_len, List.length_take, Hlen.out]; simp; omega
    rw [show (n + 1) * 2 = (flat (l.take i) ++ [Value.int .i64 k, Value.float .f64 x]).length + (n - i) * 2 by rw [h1]; omega, List.take_length_add_append, List.append_assoc]
end Go.Proofs.YtbkoifdnlaihfaaGreat
