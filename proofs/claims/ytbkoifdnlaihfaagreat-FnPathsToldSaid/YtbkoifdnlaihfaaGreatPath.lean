/- The walk of topo.IsPathIn over a graph that read has made. -/
import Derived.Test.YtbkoifdnlaihfaaGreatOpen
import Derived.Test.YtbkoifdnlaihfaaGreatNodes
import Derived.Deep.RegionWith
import Derived.WideLaws
namespace Go.Proofs.YtbkoifdnlaihfaaGreat
open Go.RowKit

def linksB (ids : List Int) (out : List Arcs) : List Int → Bool
  | x :: y :: r => (findO ids out x y).isSome && linksB ids out (y :: r)
  | _ => true
def pathB (ids : List Int) (out : List Arcs) (ps : List Int) : Bool :=
  match ps with
  | [] => true
  | [x] => memB ids x
  | _ => linksB ids out ps
theorem linksB_step (ids : List Int) (out : List Arcs) (ps : List Int) (t : Nat) (h : t + 1 < ps.length) :
    linksB ids out (ps.drop t) = ((findO ids out (ps.getD t 0) (ps.getD (t + 1) 0)).isSome && linksB ids out (ps.drop (t + 1))) := by
  rw [List.drop_eq_getElem_cons (by omega : t < ps.length), List.drop_eq_getElem_cons h]
  simp [linksB, List.getD, h, show t < ps.length by omega]
theorem linksB_end (ids : List Int) (out : List Arcs) (ps : List Int) (t : Nat) (h : ps.length ≤ t + 1) : linksB ids out (ps.drop t) = true := by
  match hd : ps.drop t, (List.length_drop : (ps.drop t).length = _) with
  | [], _ => rfl
  | [_], _ => rfl
  | _ :: _ :: _, h2 => simp at h2; omega

/-- The nodes of a list, read. -/
def NodesAt (w : World) (a : Option Addr) (n : Nat) (ps : List Int) : Prop :=
  ps.length = n ∧ (0 < n → ∃ g, a = some ⟨g, 0, none⟩ ∧ g < w.heap.size ∧ ∀ j, j < n → ∃ z, Hid (ps.getD j 0 = z) ∧ w.cell? ⟨g, j, none⟩ = some (.iface 133 (.int .i64 z)))

theorem NodesAt.of_owns {w : World} {B : Nat} {a : Option Addr} {n c : Nat} {ps : List Int} (h : w.ownsRow B 100 1 (.slice a n c) n (ps.map nodeV)) : NodesAt w a n ps := by
  have hl : ps.length = n := by simpa using h.1
  refine ⟨hl, fun h0 => ?_⟩
  rcases h.2 with ⟨e, h1⟩ | ⟨g, cap, cur, e, hb, hg, h3, h4, h5, h6⟩
  · omega
  · simp only [Value.slice.injEq] at e
    obtain ⟨rfl, -, rfl⟩ := e
    refine ⟨g, rfl, (Array.getElem?_eq_some_iff.1 hg).1, fun j hj => ⟨_, rfl, ?_⟩⟩
    rw [cell_of_row w g j cur _ (0, 0) hg]
    have h7 : (cur.toList.take (n * 1))[j]? = (ps.map nodeV)[j]? := by rw [h6]
    rw [List.getElem?_take_of_lt (by omega)] at h7
    have hj2 : j < ps.length := by omega
    rw [← Array.getElem?_toList, h7]
    simp [nodeV, List.getD, hj2]

theorem NodesAt.below {w w' : World} {a : Option Addr} {n : Nat} {ps : List Int} (h : NodesAt w a n ps) (hb : Below w.heap.size w w') : NodesAt w' a n ps := by
  refine ⟨h.1, fun h0 => ?_⟩
  obtain ⟨g, e, hg, hc⟩ := h.2 h0
  refine ⟨g, e, Nat.lt_of_lt_of_le hg hb.size, fun j hj => ?_⟩
  obtain ⟨z, hz, hcz⟩ := hc j hj
  exact ⟨z, hz, (hb.cell (p := ⟨g, j, none⟩) hg).trans hcz⟩

theorem method_uNode (a : Addr) (w : World) : (method 408 96 (.agg #[.pointer (some a)]) "Node").run Tryz.prog w = .ok (263, .agg #[.pointer (some a)]) w := by kernel_rfl
theorem method_dNode (a : Addr) (w : World) : (method 408 73 (.agg #[.pointer (some a)]) "Node").run Tryz.prog w = .ok (232, .agg #[.pointer (some a)]) w := by kernel_rfl
theorem ahead_uNode (a : Addr) (w : World) : (nilAhead 408 96 (.agg #[.pointer (some a)]) "Node").run Tryz.prog w = .ok (some false) w := by kernel_rfl
theorem ahead_dNode (a : Addr) (w : World) : (nilAhead 408 73 (.agg #[.pointer (some a)]) "Node").run Tryz.prog w = .ok (some false) w := by kernel_rfl

def PathPost (r : Bool) (w : World) (e : Ending) (w' : World) : Prop := e = .returned (.bool r) ∧ Below w.heap.size w w'

set_option maxHeartbeats 1000000 in
theorem isPath0_calls (g : Value) (a : Option Addr) (c : Nat) (w : World) :
    Calls Tryz.prog 85 #[g, .slice a 0 c] w (PathPost true w) := by
  go_enter Tryz.func85, Tryz.ntmps85
  go_wp2
  go_ret
  exact ⟨rfl, Below.refl _ _⟩

set_option maxHeartbeats 1000000 in
set_option maxRecDepth 100000 in
theorem isPath1_calls (d : Bool) (w0 : World) (bp k : Nat) (ids : List Int) (ai : Option Addr) (ci : Nat) (out inn : List Arcs) (a : Option Addr) (c : Nat) (x : Int) (w : World)
    (h : ReadSt w0 bp k ids ai ci out inn w) (hs : ids.Pairwise (· ≤ ·)) (hk : k ≤ 1000000) (hn : NodesAt w a 1 [x]) :
    Calls Tryz.prog 85 #[graphV d bp, .slice a 1 c] w (PathPost (memB ids x) w) := by
  have H := Lib.hid h; clear h
  have HS := Lib.hid hs; clear hs
  obtain ⟨g, rfl, hg, hc⟩ := hn.2 (by omega)
  obtain ⟨z, hz, hcz⟩ := hc 0 (by omega)
  obtain rfl : x = z := hz.out
  clear hn hc hz
  cases hm : memB ids x
  · have HM := Lib.hid hm
    have m1 := method_ID
    cases d
    · unfold graphV
      simp only [Bool.false_eq_true, if_false]
      have m2 := method_uNode
      have m3 := ahead_uNode
      go_enter Tryz.func85, Tryz.ntmps85
      go_wp2_with fail
      go_region_with (first
        | (go_at_call 267; refine (nodeID_calls _ _).mono ?_; rintro e w' ⟨rfl, rfl⟩)
        | (go_at_call 263; refine (uNode_calls w0 bp k ids ai ci out inn x _ (H.out.later ((Below.refl _ _).drew)) HS.out hk).mono ?_; rintro e w2 ⟨he, hb2⟩; obtain rfl := he.trans (show _ = Ending.returned (.nilIface) from by rw [HM.out]; rfl); have HB2 := Lib.hid (((Below.refl w.heap.size w).drew).trans hb2); clear he hb2))
      all_goals
        go_wp2
        go_ret
        exact ⟨rfl, HB2.out⟩
    · unfold graphV
      simp only [if_true]
      have m2 := method_dNode
      have m3 := ahead_dNode
      go_enter Tryz.func85, Tryz.ntmps85
      go_wp2_with fail
      go_region_with (first
        | (go_at_call 267; refine (nodeID_calls _ _).mono ?_; rintro e w' ⟨rfl, rfl⟩)
        | (go_at_call 232; refine (dNode_calls w0 bp k ids ai ci out inn x _ (H.out.later ((Below.refl _ _).drew)) HS.out hk).mono ?_; rintro e w2 ⟨he, hb2⟩; obtain rfl := he.trans (show _ = Ending.returned (.nilIface) from by rw [HM.out]; rfl); have HB2 := Lib.hid (((Below.refl w.heap.size w).drew).trans hb2); clear he hb2))
      all_goals
        go_wp2
        go_ret
        exact ⟨rfl, HB2.out⟩
  · have HM := Lib.hid hm
    have m1 := method_ID
    cases d
    · unfold graphV
      simp only [Bool.false_eq_true, if_false]
      have m2 := method_uNode
      have m3 := ahead_uNode
      go_enter Tryz.func85, Tryz.ntmps85
      go_wp2_with fail
      go_region_with (first
        | (go_at_call 267; refine (nodeID_calls _ _).mono ?_; rintro e w' ⟨rfl, rfl⟩)
        | (go_at_call 263; refine (uNode_calls w0 bp k ids ai ci out inn x _ (H.out.later ((Below.refl _ _).drew)) HS.out hk).mono ?_; rintro e w2 ⟨he, hb2⟩; obtain rfl := he.trans (show _ = Ending.returned (.iface 133 (.int .i64 x)) from by rw [HM.out]; rfl); have HB2 := Lib.hid (((Below.refl w.heap.size w).drew).trans hb2); clear he hb2))
      all_goals
        go_wp2
        go_ret
        exact ⟨rfl, HB2.out⟩
    · unfold graphV
      simp only [if_true]
      have m2 := method_dNode
      have m3 := ahead_dNode
      go_enter Tryz.func85, Tryz.ntmps85
      go_wp2_with fail
      go_region_with (first
        | (go_at_call 267; refine (nodeID_calls _ _).mono ?_; rintro e w' ⟨rfl, rfl⟩)
        | (go_at_call 232; refine (dNode_calls w0 bp k ids ai ci out inn x _ (H.out.later ((Below.refl _ _).drew)) HS.out hk).mono ?_; rintro e w2 ⟨he, hb2⟩; obtain rfl := he.trans (show _ = Ending.returned (.iface 133 (.int .i64 x)) from by rw [HM.out]; rfl); have HB2 := Lib.hid (((Below.refl w.heap.size w).drew).trans hb2); clear he hb2))
      all_goals
        go_wp2
        go_ret
        exact ⟨rfl, HB2.out⟩

end Go.Proofs.YtbkoifdnlaihfaaGreat
