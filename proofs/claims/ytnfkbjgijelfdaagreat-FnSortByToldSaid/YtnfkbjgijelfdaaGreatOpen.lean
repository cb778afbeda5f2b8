/- The walks of open and of the graphs' methods. -/
import Derived.Test.YtnfkbjgijelfdaaGreatFind
import Derived.Test.YtnfkbjgijelfdaaGreatRead2
namespace Go.Proofs.YtnfkbjgijelfdaaGreat
open Go.RowKit

/-- A graph as an interface value. -/
def graphV (d : Bool) (bp : Nat) : Value := if d then .iface 72 (.agg #[.pointer (some ⟨bp, 0, none⟩)]) else .iface 219 (.agg #[.pointer (some ⟨bp, 0, none⟩)])

def OpenPost (d : Bool) (n : Nat) (ns : List Int) (es : List (Int × Int × Int)) (w : World) (e : Ending) (w' : World) : Prop :=
  Below w.heap.size w w' ∧ ∃ bp : Nat, e = .returned (.tuple #[graphV d bp, .pointer (some ⟨bp, 0, none⟩), .bool (wellB ns es)]) ∧
    (wellB ns es = true → w.heap.size ≤ bp ∧ ∃ (w0 : World) (a : Option Addr) (c : Nat), ReadSt w0 bp n (sortI ns) a c (rowsFrom d (sortI ns) es).1 (rowsFrom d (sortI ns) es).2 w')

set_option maxHeartbeats 1000000 in
theorem open_calls (d : Bool) (an ae : Option Addr) (n cn m ce : Nat) (ns : List Int) (es : List (Int × Int × Int)) (w : World) (hn : RdI w an n ns) (hr : RdE w ae m es) (hn8 : n ≤ 1000000) :
    Calls Tryz.prog 110 #[.agg #[.bool d, .slice an n cn, .slice ae m ce]] w (OpenPost d n ns es w) := by
  have HR := Lib.hid hr; clear hr
  have HN := Lib.hid hn; clear hn
  go_enter Tryz.func110, Tryz.ntmps110
  go_wp2_with fail
  refine (read_calls d an ae n cn m ce ns es _ (HN.out.alloc _) (HR.out.alloc _) hn8).mono ?_
  rintro e w1 ⟨hb, bp, rfl, hst⟩
  obtain ⟨c, _⟩ := bcell hb
  have k0 : w1.cell? ⟨w.heap.size, 0, none⟩ = some (.bool d) := (c w.heap.size 0 (by simp)).trans (by go_simp)
  have HB := Lib.hid (((Below.refl w.heap.size w).alloc (Nat.le_refl _) (.cells #[.bool d, .slice an n cn, .slice ae m ce] 25)).trans (hb.mono (by simp)))
  have HS := Lib.hid hst
  clear c hb hst
  cases d
  all_goals
    go_wp2_with fail
    go_ret3
    exact ⟨HB.out, bp, rfl, fun h => ⟨by have := (HS.out h).1; simp at this; omega, (HS.out h).2⟩⟩

set_option maxHeartbeats 400000 in
theorem nodeID_calls (x : Int) (w : World) : Calls Tryz.prog 227 #[.int .i64 x] w fun e w' => e = .returned (.int .i64 x) ∧ w = w' := by
  go_enter Tryz.func227, Tryz.ntmps227
  go_wp2
  go_ret
  exact ⟨rfl, rfl⟩

theorem method_ID (x : Int) (w : World) : (method 393 133 (.int .i64 x) "ID").run Tryz.prog w = .ok (227, .int .i64 x) w := by kernel_rfl

/-- What the graph's own functions say over a graph that read has made. -/
def NodeSays (ids : List Int) (x : Int) (w : World) (e : Ending) (w' : World) : Prop :=
  e = .returned (if memB ids x then .iface 133 (.int .i64 x) else .nilIface) ∧ Below w.heap.size w w'

set_option maxHeartbeats 1000000 in
theorem dNode_calls (w0 : World) (bp k : Nat) (ids : List Int) (a : Option Addr) (c : Nat) (out inn : List Arcs) (x : Int) (w : World) (h : ReadSt w0 bp k ids a c out inn w) (hs : ids.Pairwise (· ≤ ·)) (hk : k ≤ 1000000) :
    Calls Tryz.prog 216 #[.agg #[.pointer (some ⟨bp, 0, none⟩)], .int .i64 x] w (NodeSays ids x w) := by
  have H := Lib.hid h; clear h
  have HS := Lib.hid hs; clear hs
  go_enter Tryz.func216, Tryz.ntmps216
  go_wp2_with fail
  refine (node_calls w0 bp k ids a c out inn x _ (H.out.later ((Below.refl _ _).alloc (Nat.le_refl _) _)) HS.out hk).mono ?_
  rintro e w' ⟨rfl, q, rfl⟩
  cases hu : memB ids x
  all_goals
    have HU := Lib.hid hu
    go_wp2_with fail
    go_ret
    exact ⟨by rw [HU.out]; rfl, below_drewN ((Below.refl _ _).alloc (Nat.le_refl _) _) _⟩

set_option maxHeartbeats 1000000 in
theorem uNode_calls (w0 : World) (bp k : Nat) (ids : List Int) (a : Option Addr) (c : Nat) (out inn : List Arcs) (x : Int) (w : World) (h : ReadSt w0 bp k ids a c out inn w) (hs : ids.Pairwise (· ≤ ·)) (hk : k ≤ 1000000) :
    Calls Tryz.prog 234 #[.agg #[.pointer (some ⟨bp, 0, none⟩)], .int .i64 x] w (NodeSays ids x w) := by
  have H := Lib.hid h; clear h
  have HS := Lib.hid hs; clear hs
  go_enter Tryz.func234, Tryz.ntmps234
  go_wp2_with fail
  refine (node_calls w0 bp k ids a c out inn x _ (H.out.later ((Below.refl _ _).alloc (Nat.le_refl _) _)) HS.out hk).mono ?_
  rintro e w' ⟨rfl, q, rfl⟩
  cases hu : memB ids x
  all_goals
    have HU := Lib.hid hu
    go_wp2_with fail
    go_ret
    exact ⟨by rw [HU.out]; rfl, below_drewN ((Below.refl _ _).alloc (Nat.le_refl _) _) _⟩

def EdgeSays (ids : List Int) (out : List Arcs) (u v : Int) (w : World) (e : Ending) (w' : World) : Prop :=
  e = .returned (.bool (findO ids out u v).isSome) ∧ Below w.heap.size w w'

set_option maxHeartbeats 1000000 in
theorem dEdge_calls (w0 : World) (bp k : Nat) (ids : List Int) (a : Option Addr) (c : Nat) (out inn : List Arcs) (u v : Int) (w : World) (h : ReadSt w0 bp k ids a c out inn w) (hs : ids.Pairwise (· ≤ ·)) (hk : k ≤ 1000000) :
    Calls Tryz.prog 219 #[.agg #[.pointer (some ⟨bp, 0, none⟩)], .int .i64 u, .int .i64 v] w (EdgeSays ids out u v w) := by
  have H := Lib.hid h; clear h
  have HS := Lib.hid hs; clear hs
  go_enter Tryz.func219, Tryz.ntmps219
  go_wp2_with fail
  refine (find_calls w0 bp k ids a c out inn u v _ (H.out.later ((Below.refl _ _).alloc (Nat.le_refl _) _)) HS.out hk).mono ?_
  rintro e w1 ⟨hb, t, x, rfl, _⟩
  have HB := Lib.hid (((Below.refl w.heap.size w).alloc (Nat.le_refl _) (.cells #[.pointer (some ⟨bp, 0, none⟩)] 72)).trans (hb.mono (by simp)))
  clear hb
  obtain ⟨r, hr⟩ : ∃ r, (findO ids out u v).isSome = r := ⟨_, rfl⟩
  rw [hr]
  have HRR := Lib.hid hr; clear hr
  go_wp2_with fail
  go_ret
  exact ⟨by rw [HRR.out]; rfl, by repeat (first | exact HB.out | refine Below.setCell ?_ (by show _ ≤ w1.heap.size; have := HB.out.size; omega) _ | refine Below.alloc ?_ (by have := HB.out.size; omega) _)⟩

set_option maxHeartbeats 1000000 in
theorem uEdge_calls (w0 : World) (bp k : Nat) (ids : List Int) (a : Option Addr) (c : Nat) (out inn : List Arcs) (u v : Int) (w : World) (h : ReadSt w0 bp k ids a c out inn w) (hs : ids.Pairwise (· ≤ ·)) (hk : k ≤ 1000000) :
    Calls Tryz.prog 233 #[.agg #[.pointer (some ⟨bp, 0, none⟩)], .int .i64 u, .int .i64 v] w (EdgeSays ids out u v w) := by
  have H := Lib.hid h; clear h
  have HS := Lib.hid hs; clear hs
  go_enter Tryz.func233, Tryz.ntmps233
  go_wp2_with fail
  refine (find_calls w0 bp k ids a c out inn u v _ (H.out.later ((Below.refl _ _).alloc (Nat.le_refl _) _)) HS.out hk).mono ?_
  rintro e w1 ⟨hb, t, x, rfl, _⟩
  have HB := Lib.hid (((Below.refl w.heap.size w).alloc (Nat.le_refl _) (.cells #[.pointer (some ⟨bp, 0, none⟩)] 219)).trans (hb.mono (by simp)))
  clear hb
  obtain ⟨r, hr⟩ : ∃ r, (findO ids out u v).isSome = r := ⟨_, rfl⟩
  rw [hr]
  have HRR := Lib.hid hr; clear hr
  go_wp2_with fail
  go_ret
  exact ⟨by rw [HRR.out]; rfl, by repeat (first | exact HB.out | refine Below.setCell ?_ (by show _ ≤ w1.heap.size; have := HB.out.size; omega) _ | refine Below.alloc ?_ (by have := HB.out.size; omega) _)⟩

end Go.Proofs.YtnfkbjgijelfdaaGreat
