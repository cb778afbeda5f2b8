/- The walks of linear.NodeStack within traverse.DepthFirst: Push, Len, Pop. -/
import Derived.Test.YtnfkbjgijelfdaaGreatSets
import Derived.Test.YtnfkbjgijelfdaaGreatSeen
import Derived.Maps.AppendAt
import Derived.Deep.QuietTactic
import Derived.BigQuiet
namespace Go.Proofs.YtnfkbjgijelfdaaGreat
open Go.RowKit

/-- The walker's block: its stack, its set. -/
structure DfSt (w : World) (bd lo : Nat) (v : Value) (m : Option Nat) (stk : List Int) : Prop where
  blk : w.heap[bd]? = some (.cells #[.nilFunc, .nilFunc, v, .map m] 165 (0, 0))
  row : w.ownsRow lo 103 1 v stk.length (stk.map nodeV)
  lo_ : bd < lo

/-- A slice's block is the old one or a new one. -/
def Fresh (w : World) (v v' : Value) : Prop := v'.ownBlock = v.ownBlock ∨ ∀ g, v'.ownBlock = some g → w.heap.size ≤ g

theorem DfSt.lt {w : World} {bd lo : Nat} {v : Value} {m : Option Nat} {stk : List Int} (h : DfSt w bd lo v m stk) : bd < w.heap.size := (Array.getElem?_eq_some_iff.1 h.blk).1
theorem DfSt.foot {S : Nat → Prop} {w w' : World} {bd lo : Nat} {v : Value} {m : Option Nat} {stk : List Int} (h : DfSt w bd lo v m stk) (hf : Foot S w w') (h1 : ¬ S bd) (h2 : ∀ g, v.ownBlock = some g → ¬ S g) : DfSt w' bd lo v m stk :=
  ⟨(hf.block bd h.lt h1).trans h.blk, hf.row h.row h2, h.lo_⟩
theorem DfSt.ne {w : World} {bd lo : Nat} {v : Value} {m : Option Nat} {stk : List Int} (h : DfSt w bd lo v m stk) : v.ownBlock ≠ some bd := fun e => by
  have := (h.row.lt bd e).1
  have := h.lo_
  omega
theorem DfSt.cells {w : World} {bd lo : Nat} {v : Value} {m : Option Nat} {stk : List Int} (h : DfSt w bd lo v m stk) :
    w.cell? ⟨bd, 0, none⟩ = some .nilFunc ∧ w.cell? ⟨bd, 1, none⟩ = some .nilFunc ∧ w.cell? ⟨bd, 2, none⟩ = some v ∧ w.cell? ⟨bd, 3, none⟩ = some (.map m) ∧ w.frozen? ⟨bd, 2, none⟩ = false ∧ w.frozen? ⟨bd, 3, none⟩ = false := by
  refine ⟨?_, ?_, ?_, ?_, by simp [World.frozen?, h.blk], by simp [World.frozen?, h.blk]⟩ <;> (rw [cell_of_row w bd _ _ _ (0, 0) h.blk]; rfl)

theorem DfSt.set {w' : World} {bd lo : Nat} {v v' : Value} {m : Option Nat} {stk : List Int} (hb : w'.heap[bd]? = some (.cells #[.nilFunc, .nilFunc, v, .map m] 165 (0, 0))) (hlo : bd < lo) (ho : w'.ownsRow lo 103 1 v' stk.length (stk.map nodeV)) :
    DfSt (w'.setCell ⟨bd, 2, none⟩ v') bd lo v' m stk := by
  refine ⟨?_, ?_, hlo⟩
  · rw [heap_setCell_same hb]; rfl
  · refine ownsRow_of_heap ho (fun g hg => Below.heap_setCell _ _ _ _ (fun e => ?_))
    have := (ho.lt g hg).1
    have e' : g = bd := e
    omega

def PushPost (bd lo : Nat) (v : Value) (m : Option Nat) (stk : List Int) (x : Int) (w : World) (e : Ending) (w' : World) : Prop :=
  e = .returned (.tuple #[]) ∧ ∃ v', DfSt w' bd lo v' m (stk ++ [x]) ∧ Foot (fun j => j = bd ∨ some j = v.ownBlock) w w' ∧ Fresh w v v'

set_option maxHeartbeats 1000000 in
theorem push_calls (bd lo : Nat) (v : Value) (m : Option Nat) (stk : List Int) (x : Int) (w : World) (h : DfSt w bd lo v m stk) (hlo : lo ≤ w.heap.size) (hn : stk.length ≤ 1000000000000) :
    Calls Tryz.prog 157 #[.pointer (some ⟨bd, 2, none⟩), nodeV x] w (PushPost bd lo v m stk x w) := by
  obtain ⟨q0, q1, q2, q3, q4, q5⟩ := h.cells
  have H := Lib.hid h
  have hlt := h.lt
  obtain ⟨i0, hi0, hz0, hz1, hz2⟩ := info_parts node_info
  have hne := H.out.ne
  have HNE := Lib.hid hne
  clear h q0 q1 q3 q5 hne
  unfold nodeV
  go_enter Tryz.func157, Tryz.ntmps157
  go_wp2_with (at_builtin; refine wpList_append_own_at _ rfl _ _ 163 rfl lo 103 i0 .nilIface 1 16 Tryz.underlying163 hi0 hz0 hz1 hz2 rfl (by decide) v stk.length _ rfl (H.out.row.alloc _) ⟨w.heap.size, 0, none⟩ 1 1 [nodeV x] rfl rfl ?c1 ?c2 ?c3 ?c4 ?c5 ?_)
  case c1 => intro j u hj; match j, hj with | 0, hj => simp at hj; subst hj; simp [Addr.add, nodeV]
  case c2 => intro u hu; simp at hu; subst hu; rfl
  case c3 => unfold maxLen; omega
  case c4 => omega
  case c5 => simp; omega
  intro v1 w1 hown hgrow _ hloc
  obtain ⟨a1, c1, rfl⟩ := own_shape' hown
  have hb1 : w1.heap[bd]? = some (.cells #[.nilFunc, .nilFunc, v, .map m] 165 (0, 0)) := by
    rw [hgrow.block bd (by simp; omega) (fun e => HNE.out e.symm), heap_alloc_old _ _ hlt]; exact H.out.blk
  have k2 : w1.cell? ⟨bd, 2, none⟩ = some v := by rw [cell_of_row w1 bd _ _ _ (0, 0) hb1]; rfl
  have f2 : w1.frozen? ⟨bd, 2, none⟩ = false := by simp [World.frozen?, hb1]
  have HD : Hid (DfSt (w1.setCell ⟨bd, 2, none⟩ (.slice a1 (stk.length + 1) c1)) bd lo (.slice a1 (stk.length + 1) c1) m (stk ++ [x])) :=
    DfSt.set hb1 H.out.lo_ (by rw [List.map_append, List.length_append]; exact hown)
  have HF : Hid (Foot (fun j => j = bd ∨ some j = v.ownBlock) w (w1.setCell ⟨bd, 2, none⟩ (.slice a1 (stk.length + 1) c1))) :=
    (((Foot.of_below ((Below.refl _ _).alloc (Nat.le_refl _) (.cells #[.iface 133 (.int .i64 x)] 103)) _).trans (Foot.of_row hgrow) (fun j hj => .inl (.inr hj))).setCell bd 2 _ (.inl (.inl rfl)))
  have HL : Hid (Fresh w v (.slice a1 (stk.length + 1) c1)) := by
    rcases hloc with h | h
    · exact .inl h
    · exact .inr fun g hg => by rw [h] at hg; have := Option.some.inj hg; omega
  clear hown hgrow hloc hb1
  go_wp2
  go_end0
  exact ⟨rfl, _, HD.out, HF.out, HL.out⟩

set_option maxHeartbeats 400000 in
theorem slen_calls (bd lo : Nat) (v : Value) (m : Option Nat) (stk : List Int) (w : World) (h : DfSt w bd lo v m stk) :
    Calls Tryz.prog 158 #[.pointer (some ⟨bd, 2, none⟩)] w fun e w' => e = .returned (.int .i64 stk.length) ∧ w = w' := by
  obtain ⟨q0, q1, q2, q3, q4, q5⟩ := h.cells
  obtain ⟨a, c, rfl⟩ := own_shape' h.row
  clear h q0 q1 q3 q4 q5
  go_enter Tryz.func158, Tryz.ntmps158
  go_wp2
  go_ret
  exact ⟨rfl, rfl⟩

/-- A prefix of a row. -/
theorem own_take {w : World} {B : Nat} {e : TypeId} {a : Option Addr} {n c k : Nat} {xs : List Value} (h : w.ownsRow B e 1 (.slice a n c) n xs) (hk : k ≤ n) : w.ownsRow B e 1 (.slice a k c) k (xs.take k) := by
  obtain ⟨h1, h2⟩ := h
  refine ⟨by simp; omega, ?_⟩
  rcases h2 with ⟨h3, h4⟩ | ⟨g, cap, cur, h3, h4, h5, h6, h7, h8, h9⟩
  · simp only [Value.slice.injEq] at h3
    obtain ⟨rfl, rfl, rfl⟩ := h3
    obtain rfl : k = 0 := by omega
    left
    exact ⟨rfl, rfl⟩
  · simp only [Value.slice.injEq] at h3
    obtain ⟨rfl, -, rfl⟩ := h3
    right
    refine ⟨g, _, cur, rfl, h4, h5, by omega, h7, h8, ?_⟩
    rw [← h9, List.take_take]
    congr 1
    omega

def PopPost (bd lo : Nat) (v : Value) (m : Option Nat) (stk : List Int) (x : Int) (w : World) (e : Ending) (w' : World) : Prop :=
  e = .returned (nodeV x) ∧ ∃ v', DfSt w' bd lo v' m stk ∧ Foot (· = bd) w w' ∧ v'.ownBlock = v.ownBlock

set_option maxHeartbeats 1000000 in
theorem pop_calls (bd lo : Nat) (v : Value) (m : Option Nat) (stk : List Int) (x : Int) (w : World) (h : DfSt w bd lo v m (stk ++ [x])) (hn : stk.length ≤ 1000000000000) :
    Calls Tryz.prog 159 #[.pointer (some ⟨bd, 2, none⟩)] w (PopPost bd lo v m stk x w) := by
  obtain ⟨q0, q1, q2, q3, q4, q5⟩ := h.cells
  obtain ⟨a, c, rfl⟩ := own_shape' h.row
  have hrow := h.row
  have hl : (stk ++ [x]).length = stk.length + 1 := by simp
  rw [hl] at hrow q2
  obtain ⟨g, rfl, z, HZ, hz⟩ := own_node hrow (k := stk.length) (by omega)
  obtain rfl : z = x := by have := HZ.out; simpa [List.getD] using this.symm
  have htk := own_take (k := stk.length) hrow (by omega)
  have hcap : stk.length + 1 ≤ c := by
    rcases hrow.2 with ⟨h3, _⟩ | ⟨g', cap, cur, h3, _, _, h6, _⟩
    · simp at h3
    · simp only [Value.slice.injEq] at h3
      omega
  have H := Lib.hid h
  have hlt := h.lt
  have HT := Lib.hid htk
  clear h hrow htk q0 q1 q3 q5 hl
  go_enter Tryz.func159, Tryz.ntmps159
  go_wp2_with fail
  go_quiet (fail)
  go_wp2
  go_ret
  have hd : DfSt ((w.drewN nq).setCell ⟨bd, 2, none⟩ (.slice (some ⟨g, 0, none⟩) stk.length c)) bd lo (.slice (some ⟨g, 0, none⟩) stk.length c) m stk :=
    DfSt.set (v := .slice (some ⟨g, 0, none⟩) (stk ++ [z]).length c) H.out.blk H.out.lo_ (by
      have := HT.out
      rw [List.map_append, List.take_left' (by simp)] at this
      exact this)
  exact ⟨rfl, _, hd, (Foot.of_below (below_drewN (Below.refl _ _) nq) _).setCell bd 2 _ (.inl rfl), rfl⟩
end Go.Proofs.YtnfkbjgijelfdaaGreat
