/- The walk of nodesOf. The walks of OrderedNodes: an iterator over a list of nodes. Iterators in general, and the walk of iterated over any of them. The walks of all and ends: iterators of a graph's nodes. -/
import Derived.Test.YtnfkbjgijelfdaaGreatProg
import Derived.Test.YtnfkbjgijelfdaaGreatMem
import Derived.Deep.QuietTactic
import Derived.BigQuiet
import Derived.BigRegion
namespace Go.Proofs.YtnfkbjgijelfdaaGreat
open Go.RowKit

theorem node_info : (Tryz.prog.info? 103).map (fun i => (i.zero, i.size, i.bytes)) = some (some .nilIface, 1, 16) := by kernel_rfl

def nodeV (z : Int) : Value := .iface 133 (.int .i64 z)

theorem own_shape' {w : World} {base : Nat} {e : TypeId} {size : Nat} {v : Value} {n : Nat} {xs : List Value} (h : w.ownsRow base e size v n xs) : ∃ a c, v = .slice a n c := by
  rcases h.2 with ⟨rfl, rfl⟩ | ⟨g, cap, cur, rfl, _⟩
  · exact ⟨none, 0, rfl⟩
  · exact ⟨_, _, rfl⟩

def NodesPost (n : Nat) (ns : List Int) (w : World) (e : Ending) (w' : World) : Prop :=
  ∃ v, e = .returned v ∧ w'.ownsRow w.heap.size 103 1 v n (ns.map nodeV) ∧ Below w.heap.size w w'

end Go.Proofs.YtnfkbjgijelfdaaGreat
namespace Go.Proofs.YtnfkbjgijelfdaaGreat
open Go.RowKit

/-- An iterator in block bi that has given k of the nodes ns (k = length + 1: it has said that there are no more). -/
def ItSt (w : World) (B bi k : Nat) (ns : List Int) : Prop :=
  ∃ (a : Option Addr) (c : Nat), w.heap[bi]? = some (.cells #[.int .i64 ((k : Int) - 1), .slice a ns.length c] 288 (0, 0)) ∧
    w.ownsRow B 103 1 (.slice a ns.length c) ns.length (ns.map nodeV) ∧ B ≤ bi ∧ (∀ g, (Value.slice a ns.length c).ownBlock = some g → g < bi) ∧ k ≤ ns.length + 1 ∧ ns.length ≤ 1000000

theorem ownsRow_heap {w w' : World} {base : Nat} {e : TypeId} {size : Nat} {v : Value} {n : Nat} {xs : List Value} (h : w.ownsRow base e size v n xs) (hh : ∀ g, v.ownBlock = some g → w'.heap[g]? = w.heap[g]?) : w'.ownsRow base e size v n xs := by
  refine ⟨h.1, ?_⟩
  rcases h.2 with hn | ⟨g, cap, cur, rfl, hb, hg, rest⟩
  · exact .inl hn
  · exact .inr ⟨g, cap, cur, rfl, hb, (hh g rfl).trans hg, rest⟩

theorem ItSt.lt {w : World} {B bi k : Nat} {ns : List Int} (h : ItSt w B bi k ns) : bi < w.heap.size := by
  obtain ⟨a, c, h, _⟩ := h
  exact (Array.getElem?_eq_some_iff.1 h).1

theorem ItSt.later {w w' : World} {B bi k : Nat} {ns : List Int} (h : ItSt w B bi k ns) (hb : Below w.heap.size w w') : ItSt w' B bi k ns := by
  obtain ⟨a, c, h1, h2, h3⟩ := h
  refine ⟨a, c, (hb.block bi (Array.getElem?_eq_some_iff.1 h1).1).trans h1, h2.kept (row := none) ⟨hb.os, hb.tape, hb.output, hb.size, fun k hk _ => hb.block k hk⟩ (by cases (Value.slice a ns.length c).ownBlock <;> simp), h3⟩

/-- What turns an iterator alone. -/
def OnlyBlk (w w' : World) (b : Nat) : Prop := w.grownBy w' (some b)

theorem ItSt.set {w : World} {B bi k k' : Nat} {ns : List Int} (h : ItSt w B bi k ns) (hk : k' ≤ ns.length + 1) (q : Nat) :
    ItSt ((w.drewN q).setCell ⟨bi, 0, none⟩ (.int .i64 ((k' : Int) - 1))) B bi k' ns ∧ OnlyBlk w ((w.drewN q).setCell ⟨bi, 0, none⟩ (.int .i64 ((k' : Int) - 1))) bi := by
  obtain ⟨a, c, h1, h2, h3, h4, h5, h6⟩ := h
  refine ⟨⟨a, c, ?_, ?_, h3, h4, hk, h6⟩, rfl, rfl, rfl, by simp [World.setCell], fun j hj hne => ?_⟩
  · rw [heap_setCell_same (w := w.drewN q) h1]; rfl
  · refine ⟨h2.1, ?_⟩
    rcases h2.2 with hn | ⟨g, cap, cur, e, hb, hg, rest⟩
    · exact .inl hn
    · refine .inr ⟨g, cap, cur, e, hb, ?_, rest⟩
      have : g ≠ bi := Nat.ne_of_lt (h4 g (by rw [e]; rfl))
      rw [Below.heap_setCell _ _ _ _ this]; exact hg
  · exact Below.heap_setCell _ _ _ _ (fun e => hne (by rw [e]))

def NextPost (w : World) (B bi k : Nat) (ns : List Int) (e : Ending) (w' : World) : Prop :=
  e = .returned (.bool (decide (k < ns.length))) ∧ ItSt w' B bi (if k < ns.length then k + 1 else ns.length + 1) ns ∧ OnlyBlk w w' bi

set_option maxHeartbeats 1000000 in
theorem next_calls (B bi k : Nat) (ns : List Int) (w : World) (h : ItSt w B bi k ns) :
    Calls Tryz.prog 252 #[.pointer (some ⟨bi, 0, none⟩)] w (NextPost w B bi k ns) := by
  have H := Lib.hid h
  obtain ⟨a, c, h1, h2, h3, h4, h5, h6⟩ := h
  have q0 : w.cell? ⟨bi, 0, none⟩ = some (.int .i64 ((k : Int) - 1)) := by rw [cell_of_row w bi 0 _ _ (0, 0) h1]; rfl
  have q1 : w.cell? ⟨bi, 1, none⟩ = some (.slice a ns.length c) := by rw [cell_of_row w bi 1 _ _ (0, 0) h1]; rfl
  have f0 : w.frozen? ⟨bi, 0, none⟩ = false := by simp [World.frozen?, h1]
  clear h1 h2 h3 h4
  have u0 : IntKind.u64.wrap (IntKind.u64.wrap ((k : Int) - 1) + 1) = (k : Int) := by unfold IntKind.wrap; simp [IntKind.signed, IntKind.bits]; omega
  have u1 : IntKind.u64.wrap (ns.length : Int) = (ns.length : Int) := by unfold IntKind.wrap; simp [IntKind.signed, IntKind.bits]; omega
  have u2 : IntKind.i64.wrap ((k : Int) - 1 + 1) = (k : Int) := by rw [IntWalk.i64_in _ (by omega)]; omega
  go_enter Tryz.func252, Tryz.ntmps252
  by_cases hlt : k < ns.length
  · have hd : decide ((k : Int) < (ns.length : Int)) = true := by simpa using hlt
    have hd' : decide (k < ns.length) = true := by simpa using hlt
    go_wp2_with fail
    go_quiet (fail)
    go_wp2
    go_ret
    have hs := H.out.set (k' := k + 1) (by omega) nq
    rw [show ((k + 1 : Nat) : Int) - 1 = (k : Int) by omega] at hs
    exact ⟨by rw [hd']; rfl, by rw [if_pos hlt]; exact hs.1, hs.2⟩
  · have hd : decide ((k : Int) < (ns.length : Int)) = false := by simpa using hlt
    have hd' : decide (k < ns.length) = false := by simpa using hlt
    go_wp2_with fail
    go_quiet (fail)
    go_wp2
    go_ret
    have hs := H.out.set (k' := ns.length + 1) (by omega) nq
    rw [show ((ns.length + 1 : Nat) : Int) - 1 = (ns.length : Int) by omega] at hs
    exact ⟨by rw [hd']; rfl, by rw [if_neg hlt]; exact hs.1, hs.2⟩

theorem own_node {w : World} {B : Nat} {a : Option Addr} {n c k : Nat} {ps : List Int} (h : w.ownsRow B 103 1 (.slice a n c) n (ps.map nodeV)) (hk : k < n) :
    ∃ g, a = some ⟨g, 0, none⟩ ∧ ∃ z, Hid (ps.getD k 0 = z) ∧ w.cell? ⟨g, k, none⟩ = some (.iface 133 (.int .i64 z)) := by
  have hl : ps.length = n := by simpa using h.1
  rcases h.2 with ⟨e, h1⟩ | ⟨g, cap, cur, e, hb, hg, h3, h4, h5, h6⟩
  · omega
  · simp only [Value.slice.injEq] at e
    obtain ⟨rfl, -, rfl⟩ := e
    refine ⟨g, rfl, _, rfl, ?_⟩
    rw [cell_of_row w g k cur _ (0, 0) hg]
    have h7 : (cur.toList.take (n * 1))[k]? = (ps.map nodeV)[k]? := by rw [h6]
    rw [List.getElem?_take_of_lt (by omega)] at h7
    have hj2 : k < ps.length := by omega
    rw [← Array.getElem?_toList, h7]
    simp [nodeV, List.getD, hj2]

/-- The node that an iterator gave last. -/
def NodeOfPost (w : World) (x : Int) (e : Ending) (w' : World) : Prop := e = .returned (nodeV x) ∧ ∃ q, w' = w.drewN q

set_option maxHeartbeats 1000000 in
theorem nodeOf_calls (B bi k : Nat) (ns : List Int) (w : World) (h : ItSt w B bi (k + 1) ns) (hk : k < ns.length) :
    Calls Tryz.prog 253 #[.pointer (some ⟨bi, 0, none⟩)] w (NodeOfPost w (ns.getD k 0)) := by
  obtain ⟨a, c, h1, h2, h3, h4, h5, h6⟩ := h
  rw [show ((k + 1 : Nat) : Int) - 1 = (k : Int) by omega] at h1
  have q0 : w.cell? ⟨bi, 0, none⟩ = some (.int .i64 (k : Int)) := by rw [cell_of_row w bi 0 _ _ (0, 0) h1]; rfl
  have q1 : w.cell? ⟨bi, 1, none⟩ = some (.slice a ns.length c) := by rw [cell_of_row w bi 1 _ _ (0, 0) h1]; rfl
  obtain ⟨g, rfl, z, HZ, hz⟩ := own_node h2 hk
  clear h1 h2 h3 h4
  have hd1 : decide ((ns.length : Int) ≤ (k : Int)) = false := by simpa using hk
  have hd2 : decide ((k : Int) < 0) = false := by simp
  go_enter Tryz.func253, Tryz.ntmps253
  go_wp2_with fail
  go_quiet (fail)
  go_wp2
  go_quiet (fail)
  go_wp2
  go_ret
  refine ⟨by rw [HZ.out]; rfl, ?_⟩
  exact ⟨_ + _, by simp only [World.drewN, Nat.add_assoc]; rfl⟩
end Go.Proofs.YtnfkbjgijelfdaaGreat
namespace Go.Proofs.YtnfkbjgijelfdaaGreat
open Go.RowKit

/-- Of the blocks that were there, nothing but those from B to E may have changed. -/
def Within (B E : Nat) (w w' : World) : Prop :=
  w'.os = w.os ∧ w'.tape = w.tape ∧ w'.output = w.output ∧ w.heap.size ≤ w'.heap.size ∧ ∀ k, (k < B ∨ (E ≤ k ∧ k < w.heap.size)) → w'.heap[k]? = w.heap[k]?

theorem Within.refl (B E : Nat) (w : World) : Within B E w w := ⟨rfl, rfl, rfl, Nat.le_refl _, fun _ _ => rfl⟩
theorem Within.trans {B E : Nat} {a b c : World} (h : Within B E a b) (g : Within B E b c) : Within B E a c :=
  ⟨g.1.trans h.1, g.2.1.trans h.2.1, g.2.2.1.trans h.2.2.1, Nat.le_trans h.2.2.2.1 g.2.2.2.1, fun k hk => (g.2.2.2.2 k (hk.imp id fun h' => ⟨h'.1, Nat.lt_of_lt_of_le h'.2 h.2.2.2.1⟩)).trans (h.2.2.2.2 k hk)⟩
theorem Within.only {B E b : Nat} {w w' : World} (h : w.grownBy w' (some b)) (h1 : B ≤ b) (h2 : b < E) (h3 : b < w.heap.size) : Within B E w w' :=
  ⟨h.os, h.tape, h.output, h.size, fun k hk => h.block k (by omega) (by simp; omega)⟩
theorem Within.drewN (B E : Nat) (w : World) (q : Nat) : Within B E w (w.drewN q) := ⟨rfl, rfl, rfl, Nat.le_refl _, fun _ _ => rfl⟩

/-- What is read through t at recv gives one node after the other: P says which it has given last, and which are still to come. -/
structure IsIter (B E : Nat) (t : TypeId) (recv : Value) (fN fV : FuncId) (P : World → Option Int → List Int → Prop) : Prop where
  mNext : ∀ w, (method 393 t recv "Next").run Tryz.prog w = .ok (fN, recv) w
  aNext : ∀ w, (nilAhead 393 t recv "Next").run Tryz.prog w = .ok (some false) w
  mNode : ∀ w, (method 393 t recv "Node").run Tryz.prog w = .ok (fV, recv) w
  aNode : ∀ w, (nilAhead 393 t recv "Node").run Tryz.prog w = .ok (some false) w
  eNext : ∀ args w, (callFunc fN args).run Tryz.prog w = .ok (.enter fN args) w
  eNode : ∀ args w, (callFunc fV args).run Tryz.prog w = .ok (.enter fV args) w
  next : ∀ w c l, P w c l → Calls Tryz.prog fN #[recv] w (fun e w' => e = .returned (.bool (!l.isEmpty)) ∧ P w' l.head? l.tail ∧ Within B E w w')
  node : ∀ w x l, P w (some x) l → Calls Tryz.prog fV #[recv] w (fun e w' => e = .returned (nodeV x) ∧ P w' (some x) l ∧ Within B E w w')
  keeps : ∀ w w' c l, P w c l → Below E w w' → P w' c l


/-- The iterator over a list of nodes. -/
def ItP (B bi : Nat) (ns : List Int) (w : World) (c : Option Int) (l : List Int) : Prop :=
  ∃ k, ItSt w B bi k ns ∧ l = ns.drop k ∧ ∀ x, c = some x → 1 ≤ k ∧ k - 1 < ns.length ∧ x = ns.getD (k - 1) 0

theorem ordered_isIter (B E bi : Nat) (ns : List Int) (hE : bi < E) : IsIter B E 285 (.pointer (some ⟨bi, 0, none⟩)) 252 253 (ItP B bi ns) where
  mNext := fun w => by kernel_rfl
  aNext := fun w => by kernel_rfl
  mNode := fun w => by kernel_rfl
  aNode := fun w => by kernel_rfl
  eNext := Tryz.call252
  eNode := Tryz.call253
  next := fun w c l ⟨k, h, hl, hc⟩ => (next_calls B bi k ns w h).mono fun e w' ⟨h1, h2, h3⟩ => by
    have hB : B ≤ bi := by obtain ⟨a, c, _, _, h, _⟩ := h; exact h
    refine ⟨?_, ?_, Within.only h3 hB hE h.lt⟩
    · rw [h1, hl]
      by_cases hk : k < ns.length
      · simp [hk]
      · simp [hk, List.drop_of_length_le (Nat.le_of_not_lt hk)]
    · by_cases hk : k < ns.length
      · rw [if_pos hk] at h2
        refine ⟨k + 1, h2, by rw [hl, List.tail_drop], fun x hx => ⟨by omega, by omega, ?_⟩⟩
        rw [hl, List.head?_drop] at hx
        simp [List.getD, hx]
      · rw [if_neg hk] at h2
        refine ⟨ns.length + 1, h2, ?_, fun x hx => ?_⟩
        · rw [hl, List.drop_of_length_le (Nat.le_of_not_lt hk), List.drop_of_length_le (by omega)]; rfl
        · rw [hl, List.drop_of_length_le (Nat.le_of_not_lt hk)] at hx; cases hx
  node := fun w x l ⟨k, h, hl, hc⟩ => by
    obtain ⟨h1, h2, rfl⟩ := hc x rfl
    refine (nodeOf_calls B bi (k - 1) ns w (by rw [show k - 1 + 1 = k by omega]; exact h) h2).mono fun e w' ⟨h3, q, hq⟩ => ⟨h3, ?_, ?_⟩
    · subst hq
      exact ⟨k, h, hl, fun y hy => by cases hy; exact ⟨h1, h2, rfl⟩⟩
    · subst hq; exact Within.drewN _ _ _ _
  keeps := fun w w' c l ⟨k, h, hl, hc⟩ hb => ⟨k, by
    obtain ⟨a, cc, h1, h2, h3, h4, h5⟩ := h
    exact ⟨a, cc, (hb.block bi hE).trans h1, ownsRow_heap h2 (fun g hg => hb.block g (Nat.lt_trans (h4 g hg) hE)), h3, h4, h5⟩, hl, hc⟩

end Go.Proofs.YtnfkbjgijelfdaaGreat
namespace Go.Proofs.YtnfkbjgijelfdaaGreat
open Go.RowKit

/-- An iterator as an interface value. -/
def iterV (bi : Nat) : Value := .iface 285 (.pointer (some ⟨bi, 0, none⟩))

/-- A new iterator over ns. -/
def NewIter (ns : List Int) (w : World) (e : Ending) (w' : World) : Prop :=
  ∃ bi : Nat, e = .returned (iterV bi) ∧ ItSt w' w.heap.size bi 0 ns ∧ Below w.heap.size w w'

set_option maxHeartbeats 1000000 in
theorem newOrdered_calls (B : Nat) (v : Value) (ns : List Int) (w : World) (ho : w.ownsRow B 103 1 v ns.length (ns.map nodeV)) (hn : ns.length ≤ 1000000) (hB : B ≤ w.heap.size) :
    Calls Tryz.prog 225 #[v] w fun e w' => ∃ bi : Nat, e = .returned (.pointer (some ⟨bi, 0, none⟩)) ∧ ItSt w' B bi 0 ns ∧ Below w.heap.size w w' := by
  obtain ⟨a, c, rfl⟩ := own_shape' ho
  have HO := Lib.hid ho; clear ho
  go_enter Tryz.func225, Tryz.ntmps225
  go_wp2_with fail
  go_ret
  refine ⟨w.heap.size, rfl, ⟨a, c, by first | (simp; done) | exact (Go.MapKept.heap_alloc w _).1, HO.out.alloc _, hB, fun g hg => ?_, by omega, hn⟩, (Below.refl _ _).alloc (Nat.le_refl _) _⟩
  rcases HO.out.2 with ⟨e, -⟩ | ⟨g', cap, cur, e, -, hgb, -⟩
  · rw [e] at hg; cases hg
  · rw [e] at hg
    simp only [Value.ownBlock, Option.some.injEq] at hg
    have := (Array.getElem?_eq_some_iff.1 hgb).1
    omega
end Go.Proofs.YtnfkbjgijelfdaaGreat
