/- The walks of OrderedNodes: an iterator over a list of nodes. -/
import Derived.Test.YtbkoifdnlaihfaaGreatNodes
import Derived.Deep.QuietTactic
import Derived.BigQuiet
namespace Go.Proofs.YtbkoifdnlaihfaaGreat
open Go.RowKit

/-- An iterator in block bi that has given k of the nodes ns (k = length + 1: it has said that there are no more). -/
def ItSt (w : World) (B bi k : Nat) (ns : List Int) : Prop :=
  ∃ (a : Option Addr) (c : Nat), w.heap[bi]? = some (.cells #[.int .i64 ((k : Int) - 1), .slice a ns.length c] 294 (0, 0)) ∧
    w.ownsRow B 100 1 (.slice a ns.length c) ns.length (ns.map nodeV) ∧ B ≤ bi ∧ (∀ g, (Value.slice a ns.length c).ownBlock = some g → g < bi) ∧ k ≤ ns.length + 1 ∧ ns.length ≤ 1000000

theorem ownsRow_heap {w w' : World} {base : Nat} {e : TypeId} {size : Nat} {v : Value} {n : Nat} {xs : List Value} (h : w.ownsRow base e size v n xs) (hh : ∀ g, v.ownBlock = some g → w'.heap[g]? = w.heap[g]?) : w'.ownsRow base e size v n xs := by
  refine ⟨h.1, ?_⟩
  rcases h.2 with hn | ⟨g, cap, cur, rfl, hb, hg, rest⟩
  · exact .inl hn
  · exact .inr ⟨g, cap, cur, rfl, hb, (hh g rfl).trans hg, rest⟩

theorem ItSt.lt {w : World} {B bi k : Nat} {ns : List Int} (h : ItSt w B bi k ns) : bi < w.heap.size := by
  obtain ⟨a, c, h, _⟩ := h
  exact (Array.getElem?_eq_some_iff.1 h).1

theorem ItSt.later {w w' : World} {B bi k : Nat} {ns : List Int} (h : ItSt w B bi k ns) (hb : Below w.heap.size w w') : ItSt w' B bi k ns := by
  obtain ⟨a, c, h1, h2, h3⟩ := h
  refine ⟨a, c, (hb.block bi (Array.getElem?_eq_some_iff.1 h1).1).trans h1, h2.kept (row := none) ⟨hb.os, hb.tape, hb.output, hb.size, fun k hk _ => hb.block k hk⟩ (by cases (Value.slice a ns.length c).ownBlock <;> simp), h3⟩

/-- What turns an iterator alone. -/
def OnlyBlk (w w' : World) (b : Nat) : Prop := w.grownBy w' (some b)

theorem ItSt.set {w : World} {B bi k k' : Nat} {ns : List Int} (h : ItSt w B bi k ns) (hk : k' ≤ ns.length + 1) (q : Nat) :
    ItSt ((w.drewN q).setCell ⟨bi, 0, none⟩ (.int .i64 ((k' : Int) - 1))) B bi k' ns ∧ OnlyBlk w ((w.drewN q).setCell ⟨bi, 0, none⟩ (.int .i64 ((k' : Int) - 1))) bi := by
  obtain ⟨a, c, h1, h2, h3, h4, h5, h6⟩ := h
  refine ⟨⟨a, c, ?_, ?_, h3, h4, hk, h6⟩, rfl, rfl, rfl, by simp [World.setCell], fun j hj hne => ?_⟩
  · rw [heap_setCell_same (w := w.drewN q) h1]; rfl
  · refine ⟨h2.1, ?_⟩
    rcases h2.2 with hn | ⟨g, cap, cur, e, hb, hg, rest⟩
    · exact .inl hn
    · refine .inr ⟨g, cap, cur, e, hb, ?_, rest⟩
      have : g ≠ bi := Nat.ne_of_lt (h4 g (by rw [e]; rfl))
      rw [Below.heap_setCell _ _ _ _ this]; exact hg
  · exact Below.heap_setCell _ _ _ _ (fun e => hne (by rw [e]))

def NextPost (w : World) (B bi k : Nat) (ns : List Int) (e : Ending) (w' : World) : Prop :=
  e = .returned (.bool (decide (k < ns.length))) ∧ ItSt w' B bi (if k < ns.length then k + 1 else ns.length + 1) ns ∧ OnlyBlk w w' bi

set_option maxHeartbeats 1000000 in
theorem next_calls (B bi k : Nat) (ns : List Int) (w : World) (h : ItSt w B bi k ns) :
    Calls Tryz.prog 281 #[.pointer (some ⟨bi, 0, none⟩)] w (NextPost w B bi k ns) := by
  have H := Lib.hid h
  obtain ⟨a, c, h1, h2, h3, h4, h5, h6⟩ := h
  have q0 : w.cell? ⟨bi, 0, none⟩ = some (.int .i64 ((k : Int) - 1)) := by rw [cell_of_row w bi 0 _ _ (0, 0) h1]; rfl
  have q1 : w.cell? ⟨bi, 1, none⟩ = some (.slice a ns.length c) := by rw [cell_of_row w bi 1 _ _ (0, 0) h1]; rfl
  have f0 : w.frozen? ⟨bi, 0, none⟩ = false := by simp [World.frozen?, h1]
  clear h1 h2 h3 h4
  have u0 : IntKind.u64.wrap (IntKind.u64.wrap ((k : Int) - 1) + 1) = (k : Int) := by unfold IntKind.wrap; simp [IntKind.signed, IntKind.bits]; omega
  have u1 : IntKind.u64.wrap (ns.length : Int) = (ns.length : Int) := by unfold IntKind.wrap; simp [IntKind.signed, IntKind.bits]; omega
  have u2 : IntKind.i64.wrap ((k : Int) - 1 + 1) = (k : Int) := by rw [IntWalk.i64_in _ (by omega)]; omega
  go_enter Tryz.func281, Tryz.ntmps281
  by_cases hlt : k < ns.length
  · have hd : decide ((k : Int) < (ns.length : Int)) = true := by simpa using hlt
    have hd' : decide (k < ns.length) = true := by simpa using hlt
    go_wp2_with fail
    go_quiet (fail)
    go_wp2
    go_ret
    have hs := H.out.set (k' := k + 1) (by omega) nq
    rw [show ((k + 1 : Nat) : Int) - 1 = (k : Int) by omega] at hs
    exact ⟨by rw [hd']; rfl, by rw [if_pos hlt]; exact hs.1, hs.2⟩
  · have hd : decide ((k : Int) < (ns.length : Int)) = false := by simpa using hlt
    have hd' : decide (k < ns.length) = false := by simpa using hlt
    go_wp2_with fail
    go_quiet (fail)
    go_wp2
    go_ret
    have hs := H.out.set (k' := ns.length + 1) (by omega) nq
    rw [show ((ns.length + 1 : Nat) : Int) - 1 = (ns.length : Int) by omega] at hs
    exact ⟨by rw [hd']; rfl, by rw [if_neg hlt]; exact hs.1, hs.2⟩

theorem own_node {w : World} {B : Nat} {a : Option Addr} {n c k : Nat} {ps : List Int} (h : w.ownsRow B 100 1 (.slice a n c) n (ps.map nodeV)) (hk : k < n) :
    ∃ g, a = some ⟨g, 0, none⟩ ∧ ∃ z, Hid (ps.getD k 0 = z) ∧ w.cell? ⟨g, k, none⟩ = some (.iface 133 (.int .i64 z)) := by
  have hl : ps.length = n := by simpa using h.1
  rcases h.2 with ⟨e, h1⟩ | ⟨g, cap, cur, e, hb, hg, h3, h4, h5, h6⟩
  · omega
  · simp only [Value.slice.injEq] at e
    obtain ⟨rfl, -, rfl⟩ := e
    refine ⟨g, rfl, _, rfl, ?_⟩
    rw [cell_of_row w g k cur _ (0, 0) hg]
    have h7 : (cur.toList.take (n * 1))[k]? = (ps.map nodeV)[k]? := by rw [h6]
    rw [List.getElem?_take_of_lt (by omega)] at h7
    have hj2 : k < ps.length := by omega
    rw [← Array.getElem?_toList, h7]
    simp [nodeV, List.getD, hj2]

/-- The node that an iterator gave last. -/
def NodeOfPost (w : World) (x : Int) (e : Ending) (w' : World) : Prop := e = .returned (nodeV x) ∧ ∃ q, w' = w.drewN q

set_option maxHeartbeats 1000000 in
theorem nodeOf_calls (B bi k : Nat) (ns : List Int) (w : World) (h : ItSt w B bi (k + 1) ns) (hk : k < ns.length) :
    Calls Tryz.prog 282 #[.pointer (some ⟨bi, 0, none⟩)] w (NodeOfPost w (ns.getD k 0)) := by
  obtain ⟨a, c, h1, h2, h3, h4, h5, h6⟩ := h
  rw [show ((k + 1 : Nat) : Int) - 1 = (k : Int) by omega] at h1
  have q0 : w.cell? ⟨bi, 0, none⟩ = some (.int .i64 (k : Int)) := by rw [cell_of_row w bi 0 _ _ (0, 0) h1]; rfl
  have q1 : w.cell? ⟨bi, 1, none⟩ = some (.slice a ns.length c) := by rw [cell_of_row w bi 1 _ _ (0, 0) h1]; rfl
  obtain ⟨g, rfl, z, HZ, hz⟩ := own_node h2 hk
  clear h1 h2 h3 h4
  have hd1 : decide ((ns.length : Int) ≤ (k : Int)) = false := by simpa using hk
  have hd2 : decide ((k : Int) < 0) = false := by simp
  go_enter Tryz.func282, Tryz.ntmps282
  go_wp2_with fail
  go_quiet (fail)
  go_wp2
  go_quiet (fail)
  go_wp2
  go_ret
  refine ⟨by rw [HZ.out]; rfl, ?_⟩
  exact ⟨_ + _, by simp only [World.drewN, Nat.add_assoc]; rfl⟩
end Go.Proofs.YtbkoifdnlaihfaaGreat
