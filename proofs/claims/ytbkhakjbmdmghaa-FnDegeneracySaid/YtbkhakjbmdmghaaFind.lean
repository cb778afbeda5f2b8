/- The walks of find and node over a graph that read has made. -/
import Derived.Test.YtbkhakjbmdmghaaReadMem
import Derived.Test.YtbkhakjbmdmghaaIndex
import Derived.Test.YtbkhakjbmdmghaaArcs
namespace Go.Proofs.Ytbkhakjbmdmghaa
open Go.RowKit

/-- The weight's bits of the arc from u to v, if there is one. -/
def findO (ids : List Int) (out : List Arcs) (u v : Int) : Option Nat :=
  if memB ids u && memB ids v then arcOf (out.getD (posOf ids u) []) (posOf ids v) else none

/-- What find wants to know of a row. -/
theorem ReadSt.row {w0 w : World} {bp k i : Nat} {ids : List Int} {a : Option Addr} {c : Nat} {out inn : List Arcs} (h : ReadSt w0 bp k ids a c out inn w) (hi : i < k) (hk : k ≤ 1000000) :
    ∃ (bo : Nat) (a' : Option Addr) (c' : Nat) (l : Arcs), w.cell? ⟨bp, 1, none⟩ = some (.slice (some ⟨bo, 0, none⟩) k k) ∧ w.cell? ⟨bo, i, none⟩ = some (.slice a' l.length c') ∧ bo < w.heap.size ∧
      Hid (out[i]? = some l) ∧ RdA w a' l.length l ∧ ArcsUp l ∧ (∀ x ∈ l, x.1 < k) := by
  obtain ⟨B, bo, bi, vo, vi, hp, _⟩ := h
  obtain ⟨v, l, hv, hl, hr⟩ := hp.atO hi
  have hb := hp.below
  have hlen := arcs_len hr.up hr.to
  obtain ⟨a', c', rfl, hrd⟩ := OwnA.rd hr.own (by omega)
  exact ⟨bo, a', c', l, hp.p1, hr.cell, by omega, hl, hrd, hr.up, hr.to⟩

def FindPost (ids : List Int) (out : List Arcs) (u v : Int) (w : World) (e : Ending) (w' : World) : Prop :=
  Below w.heap.size w w' ∧ ∃ t x : Nat, e = .returned (.tuple #[.agg #[.int .i64 t, .float .f64 x], .bool (findO ids out u v).isSome]) ∧ (findO ids out u v = none ∨ (findO ids out u v = some x ∧ t = posOf ids v))

def NodePost (ids : List Int) (x : Int) (w : World) (e : Ending) (w' : World) : Prop :=
  (e = .returned (if memB ids x then .iface 151 (.int .i64 x) else .nilIface)) ∧ ∃ q, w' = w.drewN q

set_option maxHeartbeats 1000000 in
theorem node_calls (w0 : World) (bp k : Nat) (ids : List Int) (a : Option Addr) (c : Nat) (out inn : List Arcs) (x : Int) (w : World) (h : ReadSt w0 bp k ids a c out inn w) (hs : ids.Pairwise (· ≤ ·)) (hk : k ≤ 1000000) :
    Calls Try.prog 92 #[.pointer (some ⟨bp, 0, none⟩), .int .i64 x] w (NodePost ids x w) := by
  have H := Lib.hid h; clear h
  have HS := Lib.hid hs; clear hs
  go_enter Try.func92, Try.ntmps92
  go_wp2_with fail
  refine (pidx_calls bp a k c ids x w H.out.cell H.out.rd (by omega) HS.out).mono ?_
  rintro e w' ⟨rfl, q, rfl⟩
  cases hu : memB ids x
  all_goals
    have HU := Lib.hid hu
    go_wp2_with fail
    go_ret
    exact ⟨by rw [HU.out]; rfl, q, rfl⟩

end Go.Proofs.Ytbkhakjbmdmghaa
