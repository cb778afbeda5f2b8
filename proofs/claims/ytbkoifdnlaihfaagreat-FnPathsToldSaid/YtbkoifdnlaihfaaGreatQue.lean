/- The walks of linear.NodeQueue within traverse.BreadthFirst: Len, Reset, Dequeue, Enqueue. The walk of linear.NodeQueue.Enqueue within traverse.BreadthFirst. -/
import Derived.Test.YtbkoifdnlaihfaaGreatStack
import Derived.Test.YtbkoifdnlaihfaaGreatMem
import Derived.Deep.RegionHeld3
import Derived.Deep.RegionLaw
import Derived.RegionTactic
import Derived.BigRegion
import Derived.StillTailTactics
namespace Go.Proofs.YtbkoifdnlaihfaaGreat
open Go.RowKit

/-- The walker's block: its queue (its first node at place hd of a row), its set. -/
structure BfSt (w : World) (bd lo hd : Nat) (v : Value) (m : Option Nat) (q : List Int) : Prop where
  blk : w.heap[bd]? = some (.cells #[.nilFunc, .nilFunc, .int .i64 hd, v, .map m] 114 (0, 0))
  row : ∃ junk : List Value, junk.length = hd ∧ w.ownsRow lo 100 1 v (hd + q.length) (junk ++ q.map nodeV)
  lo_ : bd < lo

theorem BfSt.lt {w : World} {bd lo hd : Nat} {v : Value} {m : Option Nat} {q : List Int} (h : BfSt w bd lo hd v m q) : bd < w.heap.size := (Array.getElem?_eq_some_iff.1 h.blk).1
theorem BfSt.own {w : World} {bd lo hd : Nat} {v : Value} {m : Option Nat} {q : List Int} (h : BfSt w bd lo hd v m q) {g : Nat} (hg : v.ownBlock = some g) : bd < g ∧ g < w.heap.size := by
  obtain ⟨j, _, hr⟩ := h.row
  have := hr.lt g hg
  have := h.lo_
  omega
theorem BfSt.foot {S : Nat → Prop} {w w' : World} {bd lo hd : Nat} {v : Value} {m : Option Nat} {q : List Int} (h : BfSt w bd lo hd v m q) (hf : Foot S w w') (h1 : ¬ S bd) (h2 : ∀ g, v.ownBlock = some g → ¬ S g) : BfSt w' bd lo hd v m q := by
  obtain ⟨j, hj, hr⟩ := h.row
  exact ⟨(hf.block bd h.lt h1).trans h.blk, ⟨j, hj, hf.row hr h2⟩, h.lo_⟩
theorem BfSt.cells {w : World} {bd lo hd : Nat} {v : Value} {m : Option Nat} {q : List Int} (h : BfSt w bd lo hd v m q) :
    w.cell? ⟨bd, 0, none⟩ = some .nilFunc ∧ w.cell? ⟨bd, 1, none⟩ = some .nilFunc ∧ w.cell? ⟨bd, 2, none⟩ = some (.int .i64 hd) ∧ w.cell? ⟨bd, 3, none⟩ = some v ∧ w.cell? ⟨bd, 4, none⟩ = some (.map m) ∧ ∀ j, w.frozen? ⟨bd, j, none⟩ = false := by
  refine ⟨?_, ?_, ?_, ?_, ?_, fun j => by simp [World.frozen?, h.blk]⟩ <;> (rw [cell_of_row w bd _ _ _ (0, 0) h.blk]; rfl)
theorem BfSt.shape {w : World} {bd lo hd : Nat} {v : Value} {m : Option Nat} {q : List Int} (h : BfSt w bd lo hd v m q) : ∃ a c, v = .slice a (hd + q.length) c ∧ hd + q.length ≤ c ∧ c ≤ maxLen ∧ (0 < hd + q.length → ∃ g, a = some ⟨g, 0, none⟩ ∧ g ≠ bd ∧ bd < g) := by
  obtain ⟨j, hj, hr⟩ := h.row
  rcases hr.2 with ⟨h3, h4⟩ | ⟨g, cap, cur, h3, h4, h5, h6, h7, h8, h9⟩
  · have h1 := hr.1
    rw [h4] at h1
    have : hd + q.length = 0 := h4
    rw [this]
    exact ⟨none, 0, h3, Nat.le_refl _, by unfold maxLen; omega, fun h => by omega⟩
  · have := h.lo_
    exact ⟨_, _, h3, h6, h7, fun _ => ⟨g, rfl, by omega, by omega⟩⟩

set_option maxHeartbeats 400000 in
theorem qlen_calls (bd lo hd : Nat) (v : Value) (m : Option Nat) (q : List Int) (w : World) (h : BfSt w bd lo hd v m q) (hn : hd + q.length ≤ 1000000000000) :
    Calls Tryz.prog 115 #[.pointer (some ⟨bd, 2, none⟩)] w fun e w' => e = .returned (.int .i64 q.length) ∧ ∃ n, w' = w.drewN n := by
  obtain ⟨q0, q1, q2, q3, q4, q5⟩ := h.cells
  obtain ⟨a, c, rfl, _, _, _⟩ := h.shape
  clear h q0 q1 q4 q5
  have hsub : IntKind.i64.wrap (((hd + q.length : Nat) : Int) - (hd : Int)) = (q.length : Int) := by rw [IntWalk.i64_in _ (by omega)]; omega
  have hsub2 : IntKind.i64.wrap ((hd : Int) + (q.length : Int) - (hd : Int)) = (q.length : Int) := by rw [IntWalk.i64_in _ (by omega)]; omega
  go_enter Tryz.func115, Tryz.ntmps115
  go_wp2_with fail
  go_quiet (fail)
  go_wp2
  go_ret
  exact ⟨rfl, nq, rfl⟩

/-- A slice's row as a new walker has it: none. -/
theorem BfSt.start {w : World} {bd lo : Nat} (hb : w.heap[bd]? = some (.cells #[.nilFunc, .nilFunc, .int .i64 0, .slice none 0 0, .map none] 114 (0, 0))) (hl : bd < lo) : BfSt w bd lo 0 (.slice none 0 0) none [] :=
  ⟨hb, ⟨[], rfl, World.ownsRow_nil _ _ _ _⟩, hl⟩

def ResetQ (bd lo : Nat) (w : World) (e : Ending) (w' : World) : Prop :=
  e = .returned (.tuple #[]) ∧ BfSt w' bd lo 0 (.slice none 0 0) none [] ∧ Foot (· = bd) w w'

set_option maxHeartbeats 1000000 in
theorem qReset_calls (bd lo : Nat) (w : World) (h : BfSt w bd lo 0 (.slice none 0 0) none []) :
    Calls Tryz.prog 135 #[.pointer (some ⟨bd, 2, none⟩)] w (ResetQ bd lo w) := by
  obtain ⟨q0, q1, q2, q3, q4, q5⟩ := h.cells
  have H := Lib.hid h
  have f2 := q5 2; have f3 := q5 3
  clear h q0 q1 q4 q5
  go_enter Tryz.func135, Tryz.ntmps135
  go_wp2_with fail
  go_end0
  have h1 := heap_setCell_same H.out.blk (j := 2) (.int .i64 0)
  have h2 := heap_setCell_same h1 (j := 3) (.slice none 0 0)
  exact ⟨rfl, BfSt.start h2 H.out.lo_, ((Foot.refl (fun j => j = bd) w).setCell bd 2 _ (.inl rfl)).setCell bd 3 _ (.inl rfl)⟩

set_option maxHeartbeats 1000000 in
theorem bReset_calls (bd lo : Nat) (w : World) (h : BfSt w bd lo 0 (.slice none 0 0) none []) :
    Calls Tryz.prog 101 #[.pointer (some ⟨bd, 0, none⟩)] w (ResetQ bd lo w) := by
  have H := Lib.hid h
  clear h
  go_enter Tryz.func101, Tryz.ntmps101
  go_wp2_with fail
  refine (qReset_calls bd lo w H.out).mono ?_
  rintro e w1 ⟨rfl, h1, hf1⟩
  obtain ⟨q0, q1, q2, q3, q4, q5⟩ := h1.cells
  have H1 := Lib.hid h1; have HF1 := Lib.hid hf1
  have f4 := q5 4
  clear h1 hf1 q0 q1 q2 q3 q5
  go_wp2_with fail
  go_end0
  have h1 := heap_setCell_same H1.out.blk (j := 4) (.map none)
  exact ⟨rfl, BfSt.start h1 H.out.lo_, HF1.out.setCell bd 4 _ (.inl rfl)⟩

/-- The first node of the queue is taken. -/
theorem BfSt.deq {w : World} {bd lo hd c g : Nat} {m : Option Nat} {u : Int} {q : List Int} (h : BfSt w bd lo hd (.slice (some ⟨g, 0, none⟩) (hd + (u :: q).length) c) m (u :: q)) :
    BfSt ((w.setCell ⟨g, hd, none⟩ .nilIface).setCell ⟨bd, 2, none⟩ (.int .i64 ((hd : Int) + 1))) bd lo (hd + 1) (.slice (some ⟨g, 0, none⟩) (hd + (u :: q).length) c) m q ∧
      Foot (fun j => j = bd ∨ j = g) w ((w.setCell ⟨g, hd, none⟩ .nilIface).setCell ⟨bd, 2, none⟩ (.int .i64 ((hd : Int) + 1))) := by
  obtain ⟨j, hj, hr⟩ := h.row
  have hg := h.own (g := g) rfl
  have hst := (hr.stored hd .nilIface).1
  have hb : (w.setCell ⟨g, hd, none⟩ .nilIface).heap[bd]? = some (.cells #[.nilFunc, .nilFunc, .int .i64 hd, .slice (some ⟨g, 0, none⟩) (hd + (u :: q).length) c, .map m] 114 (0, 0)) :=
    (Below.heap_setCell _ _ _ _ (fun e => by have e' : bd = g := e; omega)).trans h.blk
  refine ⟨⟨?_, ⟨j ++ [.nilIface], by simp [hj], ?_⟩, h.lo_⟩, ((Foot.refl _ w).setCell g hd _ (.inl (.inr rfl))).setCell bd 2 _ (.inl (.inl rfl))⟩
  · rw [heap_setCell_same hb]; rfl
  · have e : (j ++ (u :: q).map nodeV).set hd .nilIface = j ++ [.nilIface] ++ q.map nodeV := by
      rw [List.map_cons, List.set_append_right _ _ (by omega), hj, Nat.sub_self, List.set_cons_zero, List.append_assoc]; rfl
    rw [e] at hst
    have hl : hd + 1 + q.length = hd + (u :: q).length := by simp only [List.length_cons]; omega
    rw [hl]
    exact ownsRow_of_heap hst (fun k hk => Below.heap_setCell _ _ _ _ (fun e => by have e' : k = bd := e; have hk' : g = k := Option.some.inj hk; omega))

/-- An empty queue begins anew. -/
theorem BfSt.empty {w : World} {bd lo hd n c : Nat} {a : Option Addr} {m : Option Nat} (h : BfSt w bd lo hd (.slice a n c) m []) :
    BfSt ((w.setCell ⟨bd, 2, none⟩ (.int .i64 0)).setCell ⟨bd, 3, none⟩ (.slice a 0 c)) bd lo 0 (.slice a 0 c) m [] ∧ Foot (fun j => j = bd) w ((w.setCell ⟨bd, 2, none⟩ (.int .i64 0)).setCell ⟨bd, 3, none⟩ (.slice a 0 c)) := by
  obtain ⟨j, hj, hr⟩ := h.row
  have h1 := heap_setCell_same h.blk (j := 2) (.int .i64 0)
  have h2 := heap_setCell_same h1 (j := 3) (.slice a 0 c)
  have hf : Foot (fun j => j = bd) w ((w.setCell ⟨bd, 2, none⟩ (.int .i64 0)).setCell ⟨bd, 3, none⟩ (.slice a 0 c)) := ((Foot.refl (fun j => j = bd) w).setCell bd 2 _ (.inl rfl)).setCell bd 3 _ (.inl rfl)
  obtain ⟨a', c', e, _⟩ := h.shape
  simp only [Value.slice.injEq] at e
  obtain ⟨rfl, rfl, rfl⟩ := e
  have htk := own_take (k := 0) hr (by omega)
  rw [List.take_zero] at htk
  exact ⟨⟨h2, ⟨[], rfl, hf.row htk (fun g hg e => by have := (htk.lt g hg).1; have := h.lo_; omega)⟩, h.lo_⟩, hf⟩

def DeqPost (bd lo hd : Nat) (v : Value) (m : Option Nat) (u : Int) (q : List Int) (w : World) (e : Ending) (w' : World) : Prop :=
  e = .returned (nodeV u) ∧ ∃ hd' v', BfSt w' bd lo hd' v' m q ∧ hd' ≤ hd + 1 ∧ (q = [] → hd' = 0) ∧ Foot (fun j => j = bd ∨ some j = v.ownBlock) w w' ∧ v'.ownBlock = v.ownBlock

set_option maxHeartbeats 2000000 in
set_option maxRecDepth 100000 in
theorem deq_calls (bd lo hd : Nat) (v : Value) (m : Option Nat) (u : Int) (q : List Int) (w : World) (h : BfSt w bd lo hd v m (u :: q)) (hn : hd + (q.length + 1) ≤ 1000000000000) :
    Calls Tryz.prog 116 #[.pointer (some ⟨bd, 2, none⟩)] w (DeqPost bd lo hd v m u q w) := by
  obtain ⟨a, c, rfl, hc1, hc2, hg⟩ := h.shape
  obtain ⟨g, rfl, hgb, hbg⟩ := hg (by simp only [List.length_cons]; omega)
  have hgl := (h.own (g := g) rfl).2
  obtain ⟨j, hj, hr⟩ := h.row
  have hz : w.cell? ⟨g, hd, none⟩ = some (.iface 133 (.int .i64 u)) := by
    rcases hr.2 with ⟨e, _⟩ | ⟨g', cap, cur, e, hb, hgc, h3, h4, h5, h6⟩
    · simp at e
    · simp only [Value.slice.injEq, Option.some.injEq, Addr.mk.injEq, and_true, true_and] at e
      obtain ⟨rfl, rfl⟩ := e
      rw [cell_of_row w g hd cur _ (0, 0) hgc]
      have h7 := congrArg (fun l => l[hd]?) h6
      simp only [List.length_cons] at h7
      rw [List.getElem?_take_of_lt (by omega), List.getElem?_append_right (by omega), hj, Nat.sub_self] at h7
      rw [← Array.getElem?_toList, h7]
      rfl
  have fz : w.frozen? ⟨g, hd, none⟩ = false := by
    rcases hr.2 with ⟨e, _⟩ | ⟨g', cap, cur, e, hb, hgc, _⟩
    · simp at e
    · simp only [Value.slice.injEq, Option.some.injEq, Addr.mk.injEq, and_true, true_and] at e
      obtain ⟨rfl, rfl⟩ := e
      simp [World.frozen?, hgc]
  obtain ⟨q0, q1, q2, q3, q4, q5⟩ := h.cells
  have f2 := q5 2
  have H := Lib.hid h
  have hlt := h.lt
  have hl : (u :: q).length = q.length + 1 := rfl
  rw [hl] at q3 hc1
  have hne : ((q.length : Int) + 1 == 0) = false := by simp; omega
  have hlt1 : (hd : Int) < (hd : Int) + ((q.length : Int) + 1) := by omega
  have hadd : IntKind.i64.wrap ((hd : Int) + 1) = (hd : Int) + 1 := by rw [IntWalk.i64_in _ (by omega)]
  clear h hr hj q0 q1 q4 q5 hl hg
  go_enter Tryz.func116, Tryz.ntmps116
  go_wp2_with fail
  refine (qlen_calls bd lo hd _ m (u :: q) w H.out (by simp; omega)).mono ?_
  rintro e w1 ⟨rfl, n1, rfl⟩
  rw [show (((u :: q).length : Nat) : Int) = (q.length : Int) + 1 by simp]
  go_wp2_with fail
  refine wp_region_still_tail 20 (by kernel_rfl) (by kernel_rfl) ?_
  obtain ⟨W, hW⟩ : ∃ W : World, W = World.mk (w.drewN n1).heap (w.drewN n1).tape ((w.drewN n1).drawn + 1) (w.drewN n1).os (w.drewN n1).output := ⟨_, rfl⟩
  rw [← hW]
  have r2 : W.cell? ⟨bd, 2, none⟩ = some (.int .i64 hd) := by rw [hW]; exact q2
  have r3 : W.cell? ⟨bd, 3, none⟩ = some (.slice (some ⟨g, 0, none⟩) (hd + (q.length + 1)) c) := by rw [hW]; exact q3
  have rz : W.cell? ⟨g, hd, none⟩ = some (.iface 133 (.int .i64 u)) := by rw [hW]; exact hz
  have rf : W.frozen? ⟨g, hd, none⟩ = false := by rw [hW]; exact fz
  have rf2 : W.frozen? ⟨bd, 2, none⟩ = false := by rw [hW]; exact f2
  have HFW : Hid (Foot (fun j => j = bd ∨ j = g) w W) := by rw [hW]; exact Foot.of_below (below_drewN (Below.refl _ _) (n1 + 1)) _
  have HQ : Hid (BfSt W bd lo hd (.slice (some ⟨g, 0, none⟩) (hd + (u :: q).length) c) m (u :: q)) := by
    rw [hW]; exact H.out.foot (w' := w.drewN (n1 + 1)) (Foot.of_below (below_drewN (Below.refl _ _) _) (fun _ => False)) (fun h => h) (fun _ _ h => h)
  clear hW q2 q3 hz fz f2 H
  have i0 : (0 : Int) ≤ (hd : Int) := by omega
  have i1 : (hd : Int) < ((hd + (q.length + 1) : Nat) : Int) := by omega
  have i2 : hd < hd + (q.length + 1) := by omega
  simp only [List.take_succ_cons, List.take_zero, List.drop_succ_cons, List.drop_zero]
  iterate 20 still_step
  refine wpStill_nil ?_
  go_wp2_with fail
  obtain ⟨w5, hw5⟩ : ∃ w5, w5 = (W.setCell ⟨g, hd, none⟩ .nilIface).setCell ⟨bd, 2, none⟩ (.int .i64 ((hd : Int) + 1)) := ⟨_, rfl⟩
  obtain ⟨hq5, hf5⟩ := HQ.out.deq
  rw [← hw5] at hq5 hf5 ⊢
  have HQ5 := Lib.hid hq5
  have HF5 : Hid (Foot (fun j => j = bd ∨ some j = (Value.slice (some ⟨g, 0, none⟩) (hd + (u :: q).length) c).ownBlock) w w5) :=
    (HFW.out.trans hf5 (fun j hj => .inl hj)).mono (fun j hj => hj.imp id fun h => by rw [h]; rfl)
  clear hw5 hq5 hf5 HQ HFW r2 r3 rz rf rf2 i0 i1 i2 hne hlt1 hadd
  refine (qlen_calls bd lo (hd + 1) _ m q w5 HQ5.out (by omega)).mono ?_
  rintro e w6 ⟨rfl, n2, rfl⟩
  have HQ6 : Hid (BfSt (w5.drewN n2) bd lo (hd + 1) (.slice (some ⟨g, 0, none⟩) (hd + (u :: q).length) c) m q) := HQ5.out.foot (Foot.of_below (below_drewN (Below.refl _ _) _) (fun _ => False)) (fun h => h) (fun _ _ h => h)
  have HF6 := Lib.hid (HF5.out.trans (Foot.of_below (below_drewN (Below.refl w5.heap.size w5) n2) (fun _ => False)) (fun _ h => h.elim))
  obtain ⟨w6, rfl⟩ : ∃ w6, w6 = w5.drewN n2 := ⟨_, rfl⟩
  clear HQ5 HF5
  obtain ⟨q0, q1, q2, q3, q4, q5⟩ := HQ6.out.cells
  have f2 := q5 2; have f3 := q5 3
  cases q with
  | nil =>
    go_wp2_with fail
    go_ret
    obtain ⟨h1, h2⟩ := HQ6.out.empty
    exact ⟨rfl, 0, _, h1, by omega, fun _ => rfl, HF6.out.trans h2 (fun j hj => .inl (.inl hj)), rfl⟩
  | cons z q =>
    have hne : ((q.length : Int) + 1 == 0) = false := by simp; omega
    rw [show (((z :: q).length : Nat) : Int) = (q.length : Int) + 1 by simp]
    go_wp2_with fail
    go_ret
    exact ⟨rfl, hd + 1, _, HQ6.out, by omega, (fun h => nomatch h), HF6.out, rfl⟩
end Go.Proofs.YtbkoifdnlaihfaaGreat
namespace Go.Proofs.YtbkoifdnlaihfaaGreat
open Go.RowKit

def EnqPost (bd lo hd : Nat) (v : Value) (m : Option Nat) (q : List Int) (x : Int) (w : World) (e : Ending) (w' : World) : Prop :=
  e = .returned (.tuple #[]) ∧ ∃ hd' v', BfSt w' bd lo hd' v' m (q ++ [x]) ∧ hd' ≤ hd ∧ Foot (fun j => j = bd ∨ some j = v.ownBlock) w w' ∧ Fresh w v v'

theorem BfSt.more {w' : World} {bd lo hd : Nat} {v v' : Value} {m : Option Nat} {q : List Int} {x : Int} {junk : List Value} (hb : w'.heap[bd]? = some (.cells #[.nilFunc, .nilFunc, .int .i64 hd, v, .map m] 114 (0, 0))) (hlo : bd < lo) (hj : junk.length = hd)
    (ho : w'.ownsRow lo 100 1 v' (hd + q.length + 1) (junk ++ (q.map nodeV ++ [nodeV x]))) : BfSt (w'.setCell ⟨bd, 3, none⟩ v') bd lo hd v' m (q ++ [x]) := by
  refine ⟨?_, ⟨junk, hj, ?_⟩, hlo⟩
  · rw [heap_setCell_same hb]; rfl
  · rw [List.map_append, show hd + (q ++ [x]).length = hd + q.length + 1 by rw [List.length_append]; rfl]
    refine ownsRow_of_heap ho (fun g hg => Below.heap_setCell _ _ _ _ (fun e => ?_))
    have := (ho.lt g hg).1
    have e' : g = bd := e
    omega

set_option maxHeartbeats 2000000 in
set_option maxRecDepth 100000 in
theorem enq_calls (bd lo hd : Nat) (v : Value) (m : Option Nat) (q : List Int) (x : Int) (w : World) (h : BfSt w bd lo hd v m q) (hlo : lo ≤ w.heap.size) (hn : hd + q.length ≤ 1000000000000) (he : q = [] → hd = 0) :
    Calls Tryz.prog 112 #[.pointer (some ⟨bd, 2, none⟩), nodeV x] w (EnqPost bd lo hd v m q x w) := by
  obtain ⟨a, c, rfl, hc1, hc2, hg⟩ := h.shape
  obtain ⟨q0, q1, q2, q3, q4, q5⟩ := h.cells
  have f2 := q5 2; have f3 := q5 3
  obtain ⟨junk, hj, hrow⟩ := h.row
  have HROW := Lib.hid hrow; have HJ := Lib.hid hj
  have H := Lib.hid h
  have hlt := h.lt
  have HNE : Hid (∀ g, (Value.slice a (hd + q.length) c).ownBlock = some g → g ≠ bd) := fun g hg => by have := h.own hg; omega
  obtain ⟨i0, hi0, hz0, hz1, hz2⟩ := info_parts node_info
  have HG := Lib.hid hg; have HE := Lib.hid he
  have hcm : c ≤ 9223372036854775807 := by unfold maxLen at hc2; exact hc2
  clear h q0 q1 q4 q5 hrow hj hg he
  unfold nodeV
  have key : (((hd : Int) + (q.length : Int) == (c : Int)) = false) ∨ (((hd : Int) + (q.length : Int) == (c : Int)) = true ∧ ((decide ((0 : Int) < (hd : Int)) = false ∧ ¬ 0 < hd) ∨ (decide ((0 : Int) < (hd : Int)) = true ∧ 0 < hd ∧ hd + q.length = c))) := by
    by_cases h1 : hd + q.length = c
    · right
      refine ⟨by simp; omega, ?_⟩
      by_cases h2 : 0 < hd
      · exact .inr ⟨by simp; omega, h2, h1⟩
      · exact .inl ⟨by simp; omega, h2⟩
    · left; simp; omega
  rcases key with hk | ⟨hk, ⟨hk2, hk3⟩ | ⟨hk2, hk3, hk4⟩⟩
  rotate_left 2
  · obtain ⟨g, rfl, hgb, hbg⟩ := HG.out (by omega)
    have hgl := (H.out.own (g := g) rfl).2
    obtain ⟨cur, hgc, hcs, htk⟩ : ∃ cur : Array Value, w.heap[g]? = some (.cells cur 100 (0, 0)) ∧ cur.size = c ∧ cur.toList.take (hd + q.length) = junk ++ q.map nodeV := by
      rcases HROW.out.2 with ⟨e, _⟩ | ⟨g', cap, cur, e, hb, hgc, h3, h4, h5, h6⟩
      · simp only [Value.slice.injEq, reduceCtorEq, false_and] at e
      · simp only [Value.slice.injEq, Option.some.injEq, Addr.mk.injEq, and_true, true_and] at e
        obtain ⟨rfl, rfl⟩ := e
        exact ⟨cur, hgc, by omega, by rw [Nat.mul_one] at h6; exact h6⟩
    have hq0 : 0 < q.length := by
      have := HE.out
      cases q with
      | nil => have := this rfl; omega
      | cons z q => simp
    have hlog : lo ≤ g := (HROW.out.lt g rfl).1
    have hcell : ∀ j v, (q.map nodeV)[j]? = some v → w.cell? ⟨g, hd + j, none⟩ = some v := fun j v hv => by
      have hjl : j < q.length := by have := (List.getElem?_eq_some_iff.1 hv).1; simpa using this
      rw [cell_of_row w g _ cur _ (0, 0) hgc, ← Array.getElem?_toList]
      have h7 := congrArg (fun l => l[hd + j]?) htk
      rw [List.getElem?_take_of_lt (by omega), List.getElem?_append_right (by rw [HJ.out]; omega), HJ.out, show hd + j - hd = j by omega, hv] at h7
      exact h7
    have HGC := Lib.hid hgc; have HCS := Lib.hid hcs; have HTK := Lib.hid htk; have HCELL := Lib.hid hcell
    have i0' : (0 : Int) ≤ (hd : Int) := by omega
    have i1 : (hd : Int) ≤ ((hd + q.length : Nat) : Int) := by omega
    have i2 : (hd : Int) ≤ (c : Int) := by omega
    have i3 : hd < c := by omega
    have hcd : ¬ c = hd := by omega
    clear hgc hcs htk hcell
    go_enter Tryz.func112, Tryz.ntmps112
    go_wp2_with fail
    go_quiet (fail)
    go_wp2_with fail
    refine (qlen_calls bd lo hd _ m q _ (H.out.foot (Foot.of_below (below_drewN (Below.refl _ _) nq) (fun _ => False)) (fun h => h) (fun _ _ h => h)) hn).mono ?_
    rintro e w1 ⟨rfl, n1, rfl⟩
    go_wp2_with fail
    refine wp_region_still_tail 13 (by kernel_rfl) (by kernel_rfl) ?_
    obtain ⟨W, hW⟩ : ∃ W : World, W = World.mk (w.drewN (nq + n1)).heap (w.drewN (nq + n1)).tape ((w.drewN (nq + n1)).drawn + 1) (w.drewN (nq + n1)).os (w.drewN (nq + n1)).output := ⟨_, rfl⟩
    rw [← hW]
    have r2 : W.cell? ⟨bd, 2, none⟩ = some (.int .i64 hd) := by rw [hW]; exact q2
    have r3 : W.cell? ⟨bd, 3, none⟩ = some (.slice (some ⟨g, 0, none⟩) (hd + q.length) c) := by rw [hW]; exact q3
    have HWD : Hid (W = w.drewN (nq + n1 + 1)) := hW
    clear hW q2 q3
    simp only [List.take_succ_cons, List.take_zero, List.drop_succ_cons, List.drop_zero]
    iterate 13 still_step
    refine wpStill_nil ?_
    have hmap : (q.map nodeV).length = q.length := by simp
    have hcw : W.heap[g]? = some (.cells cur 100 (0, 0)) := by rw [HWD.out]; exact HGC.out
    have hcopy : ∀ ty, (Builtin.copy_ #[104, 104] ty #[.slice (some ⟨g, 0, none⟩) c c, .slice (some ⟨g, hd, none⟩) (c - hd) (c - hd)]).run Tryz.prog W =
        .ok (goInt (Nat.min (c - hd) c)) (W.setRow g (cur.toList.take 0 ++ q.map nodeV ++ cur.toList.drop (0 + (q.map nodeV).length)).toArray) := fun ty => by
      refine run_copy_rowK (P := Tryz.prog) W 104 104 ty 100 1 g 0 c c ⟨g, hd, none⟩ (c - hd) (c - hd) cur 100 (q.map nodeV) Tryz.underlying104 (by rw [hi0]; simp [hz1]) hcw ?_ (fun j v hv => ?_) ?_ ?_
      · rw [hmap, Nat.mul_one]; show q.length = min (c - hd) c; omega
      · rw [HWD.out, Addr.add_lit]; exact HCELL.out j v hv
      · rw [hmap, HCS.out]; omega
      · intro v hv
        obtain ⟨z, _, rfl⟩ := List.mem_map.1 hv
        rfl
    rw [List.take_zero, List.nil_append, Nat.zero_add, hmap] at hcopy
    refine wpList_copy_run' W rfl (.tmp 28) (.tmp 37) 104 104 rfl _ _ rfl rfl (hcopy _) ?_
    obtain ⟨R, hR⟩ : ∃ R, R = (q.map nodeV ++ cur.toList.drop q.length).toArray := ⟨_, rfl⟩
    rw [← hR]
    have hRs : R.size = c := by rw [hR]; simp [HCS.out]; omega
    have hRt : R.toList.take q.length = q.map nodeV := by rw [hR]; exact List.take_left' hmap
    obtain ⟨w6, hw6⟩ : ∃ w6, w6 = W.setRow g R := ⟨_, rfl⟩
    have HF6 : Hid (Foot (fun j => j = bd ∨ some j = (Value.slice (some ⟨g, 0, none⟩) (hd + q.length) c).ownBlock) w w6) := by
      rw [hw6, HWD.out]
      exact ⟨rfl, rfl, rfl, by simp, fun j hj hn => (setRow_other _ _ _ _ (fun e => hn (.inr (by rw [e]; rfl))))⟩
    have hg6 : w6.heap[g]? = some (.cells R 100 (0, 0)) := by rw [hw6]; exact setRow_heap _ _ _ _ _ _ hcw
    have hb6 : w6.heap[bd]? = some (.cells #[.nilFunc, .nilFunc, .int .i64 hd, .slice (some ⟨g, 0, none⟩) (hd + q.length) c, .map m] 114 (0, 0)) := by
      rw [hw6, setRow_other _ _ _ _ (Ne.symm hgb), HWD.out]; exact H.out.blk
    have hs6 : w6.heap.size = w.heap.size := by rw [hw6, HWD.out]; simp
    rw [← hw6]
    have HS6 := Lib.hid hs6
    have hlo6 : lo ≤ w6.heap.size := by omega
    have hgl6 : g < w6.heap.size := by omega
    clear hs6
    have HN1 : Hid (((w6.setCell ⟨bd, 2, none⟩ (.int .i64 0)).alloc (.cells #[.iface 133 (.int .i64 x)] 100)).cell? ⟨w6.heap.size, 0, none⟩ = some (nodeV x)) := by
      have h := World.cell?_alloc_new (w6.setCell ⟨bd, 2, none⟩ (.int .i64 0)) #[.iface 133 (.int .i64 x)] 100 0
      rw [show (w6.setCell ⟨bd, 2, none⟩ (.int .i64 0)).heap.size = w6.heap.size by simp [World.setCell]] at h
      exact Lib.hid h
    have HG6 := Lib.hid hg6; have HB6 := Lib.hid hb6; have HRS := Lib.hid hRs; have HRT := Lib.hid hRt
    have r3 : w6.cell? ⟨bd, 3, none⟩ = some (.slice (some ⟨g, 0, none⟩) (hd + q.length) c) := by rw [cell_of_row w6 bd _ _ _ (0, 0) hb6]; rfl
    have f2 : w6.frozen? ⟨bd, 2, none⟩ = false := by simp [World.frozen?, hb6]
    have f3 : w6.frozen? ⟨bd, 3, none⟩ = false := by simp [World.frozen?, hb6]
    have e2 : w6.cell? ⟨bd, 2, none⟩ = some (.int .i64 hd) := by rw [cell_of_row w6 bd _ _ _ (0, 0) hb6]; rfl
    have l1 : (q.length : Int) ≤ (c : Int) := by omega
    have l2 : q.length ≤ c := by omega
    have HOWN : Hid (((w6.setCell ⟨bd, 2, none⟩ (.int .i64 0)).alloc (.cells #[.iface 133 (.int .i64 x)] 100)).ownsRow lo 100 1 (.slice (some ⟨g, 0, none⟩) q.length c) q.length (q.map nodeV)) := by
      refine ⟨by simp, .inr ⟨g, c, R, rfl, hlog, ?_, l2, hc2, by omega, by rw [Nat.mul_one]; exact hRt⟩⟩
      rw [heap_alloc_old _ _ (by simp [World.setCell]; omega), Below.heap_setCell _ _ _ _ (fun e => hgb e)]; exact HG6.out
    clear hw6 hg6 hb6 hRs hRt hR hcopy hcw HWD hmap i0' i1 i2 i3 hcd hk hk2
    go_wp2_with (at_builtin; refine wpList_append_own_at _ rfl _ _ 104 rfl lo 100 i0 .nilIface 1 16 Tryz.underlying104 hi0 hz0 hz1 hz2 rfl (by decide) (.slice (some ⟨g, 0, none⟩) q.length c) q.length (q.map nodeV) rfl ?hown ⟨w6.heap.size, 0, none⟩ 1 1 [nodeV x] rfl rfl ?c1 ?c2 ?c3 ?c4 ?c5 ?_)
    case hown => exact HOWN.out
    case c1 => intro j u hj; match j, hj with | 0, hj => simp at hj; subst hj; exact HN1.out
    case c2 => intro u hu; simp at hu; subst hu; rfl
    case c3 => unfold maxLen; omega
    case c4 => omega
    case c5 => simp [World.setCell]; omega
    intro v1 w1 hown hgrow _ hloc
    obtain ⟨a1, c1, rfl⟩ := own_shape' hown
    have hb1 : w1.heap[bd]? = some (.cells #[.nilFunc, .nilFunc, .int .i64 0, .slice (some ⟨g, 0, none⟩) (hd + q.length) c, .map m] 114 (0, 0)) := by
      rw [hgrow.block bd (by simp [World.setCell]; omega) (fun e => hgb (Option.some.inj e).symm), heap_alloc_old _ _ (by simp [World.setCell]; omega), heap_setCell_same HB6.out]; rfl
    have k3 : w1.cell? ⟨bd, 3, none⟩ = some (.slice (some ⟨g, 0, none⟩) (hd + q.length) c) := by rw [cell_of_row w1 bd _ _ _ (0, 0) hb1]; rfl
    have g3 : w1.frozen? ⟨bd, 3, none⟩ = false := by simp [World.frozen?, hb1]
    have HD := Lib.hid (BfSt.more (x := x) (q := q) (hd := 0) (junk := []) hb1 H.out.lo_ rfl (by rw [Nat.zero_add]; exact hown))
    have HF : Hid (Foot (fun j => j = bd ∨ some j = (Value.slice (some ⟨g, 0, none⟩) (hd + q.length) c).ownBlock) w (w1.setCell ⟨bd, 3, none⟩ (.slice a1 (q.length + 1) c1))) :=
      ((((HF6.out.setCell bd 2 _ (.inl (.inl rfl))).trans (Foot.of_below ((Below.refl _ _).alloc (Nat.le_refl _) (.cells #[.iface 133 (.int .i64 x)] 100)) (fun _ => False)) (fun _ h => h.elim)).trans (Foot.of_row hgrow) (fun j hj => .inl (.inr hj))).setCell bd 3 _ (.inl (.inl rfl)))
    have HL : Hid (Fresh w (.slice (some ⟨g, 0, none⟩) (hd + q.length) c) (.slice a1 (q.length + 1) c1)) := by
      rcases hloc with h | h
      · exact .inl h
      · exact .inr fun k hk => by rw [h] at hk; have h1 := Option.some.inj hk; have h2 := HS6.out; omega
    clear hown hgrow hloc hb1
    go_wp2
    go_end0
    exact ⟨rfl, 0, _, HD.out, by omega, HF.out, HL.out⟩
  all_goals
    go_enter Tryz.func112, Tryz.ntmps112
    go_wp2_with fail
    go_quiet (fail)
    go_wp2_with (at_builtin; refine wpList_append_own_at _ rfl _ _ 104 rfl lo 100 i0 .nilIface 1 16 Tryz.underlying104 hi0 hz0 hz1 hz2 rfl (by decide) (.slice a (hd + q.length) c) (hd + q.length) (junk ++ q.map nodeV) rfl ?hown ⟨w.heap.size, 0, none⟩ 1 1 [nodeV x] rfl rfl ?c1 ?c2 ?c3 ?c4 ?c5 ?_)
    case hown => exact ownsRow_of_heap HROW.out (fun g hg => heap_alloc_old (w.drewN nq) _ (HROW.out.lt g hg).2)
    case c1 => intro j u hj; match j, hj with | 0, hj => simp at hj; subst hj; exact (World.cell?_alloc_new (w.drewN nq) _ _ _).trans rfl
    case c2 => intro u hu; simp at hu; subst hu; rfl
    case c3 => unfold maxLen; omega
    case c4 => omega
    case c5 => simp; omega
    intro v1 w1 hown hgrow _ hloc
    obtain ⟨a1, c1, rfl⟩ := own_shape' hown
    have hb1 : w1.heap[bd]? = some (.cells #[.nilFunc, .nilFunc, .int .i64 hd, .slice a (hd + q.length) c, .map m] 114 (0, 0)) := by
      rw [hgrow.block bd (by simp; omega) (fun e => HNE.out bd e.symm rfl)]
      exact (heap_alloc_old (w.drewN nq) _ hlt).trans H.out.blk
    have k3 : w1.cell? ⟨bd, 3, none⟩ = some (.slice a (hd + q.length) c) := by rw [cell_of_row w1 bd _ _ _ (0, 0) hb1]; rfl
    have g3 : w1.frozen? ⟨bd, 3, none⟩ = false := by simp [World.frozen?, hb1]
    have HD := Lib.hid (BfSt.more (x := x) hb1 H.out.lo_ HJ.out hown)
    have HF : Hid (Foot (fun j => j = bd ∨ some j = (Value.slice a (hd + q.length) c).ownBlock) w (w1.setCell ⟨bd, 3, none⟩ (.slice a1 (hd + q.length + 1) c1))) :=
      (((Foot.of_below ((below_drewN (Below.refl w.heap.size w) nq).alloc (Nat.le_refl _) (.cells #[.iface 133 (.int .i64 x)] 100)) _).trans (Foot.of_row hgrow) (fun j hj => .inl (.inr hj))).setCell bd 3 _ (.inl (.inl rfl)))
    have HL : Hid (Fresh w (.slice a (hd + q.length) c) (.slice a1 (hd + q.length + 1) c1)) := by
      rcases hloc with h | h
      · exact .inl h
      · exact .inr fun g hg => by rw [h] at hg; have := Option.some.inj hg; omega
    clear hown hgrow hloc hb1
    go_wp2
    go_end0
    exact ⟨rfl, hd, _, HD.out, by omega, HF.out, HL.out⟩
end Go.Proofs.YtbkoifdnlaihfaaGreat
