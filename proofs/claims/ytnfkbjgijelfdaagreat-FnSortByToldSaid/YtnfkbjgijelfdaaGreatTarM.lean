/- The memory of Tarjan's walk. The walks of set.Ints[int64]: Has, Add, Remove. -/
import Derived.Test.YtnfkbjgijelfdaaGreatTarP
import Derived.Test.YtnfkbjgijelfdaaGreatBkt
import Derived.Test.YtnfkbjgijelfdaaGreatSets
namespace Go.Proofs.YtnfkbjgijelfdaaGreat
open Go.RowKit

/-- The memory: the count, three maps, the stack, the components. -/
structure TMem (wB : World) (B0 : Nat) (cS : Value) (bt bT bL bS lo : Nat) (i : Nat) (fT fL fS : Int → Option Value) (vK : Value) (K : List Int) (vC : Value) (vs : List Value) (C : List (List Int)) (B : Nat) (w : World) : Prop where
  blk : w.heap[bt]? = some (.cells #[cS, .int .i64 i, .map (some bT), .map (some bL), .map (some bS), vK, vC] 195 (0, 0))
  tT : GM Tryz.prog 2 w bT B fT
  tL : GM Tryz.prog 2 w bL B fL
  tS : GM Tryz.prog 2 w bS B fS
  stk : w.ownsRow lo 103 1 vK K.length (K.map nodeV)
  scc : LolG 77 103 nodeV w lo vC vs C
  ap : ∀ g, vK.ownBlock = some g → ¬ LolGF vC vs g
  base : Below B0 wB w
  ne : bt ≠ bT ∧ bt ≠ bL ∧ bt ≠ bS ∧ bT ≠ bL ∧ bT ≠ bS ∧ bL ≠ bS
  lt : B0 ≤ bt ∧ B0 ≤ bT ∧ B0 ≤ bL ∧ B0 ≤ bS ∧ bt < lo ∧ bT < lo ∧ bL < lo ∧ bS < lo ∧ lo ≤ w.heap.size

/-- Its blocks. -/
def TF (bt bT bL bS : Nat) (vK vC : Value) (vs : List Value) (j : Nat) : Prop := j = bt ∨ j = bT ∨ j = bL ∨ j = bS ∨ vK.ownBlock = some j ∨ LolGF vC vs j

section
variable {wB w w' : World} {B0 : Nat} {cS : Value} {bt bT bL bS lo : Nat} {i : Nat} {fT fL fS : Int → Option Value} {vK : Value} {K : List Int} {vC : Value} {vs : List Value} {C : List (List Int)} {B : Nat}
theorem TMem.flt (h : TMem wB B0 cS bt bT bL bS lo i fT fL fS vK K vC vs C B w) {j : Nat} (hj : TF bt bT bL bS vK vC vs j) : B0 ≤ j ∧ j < w.heap.size := by
  obtain ⟨l1, l2, l3, l4, l5, l6, l7, l8, l9⟩ := h.lt
  rcases hj with rfl | rfl | rfl | rfl | hj | hj
  · exact ⟨l1, by omega⟩
  · exact ⟨l2, by omega⟩
  · exact ⟨l3, by omega⟩
  · exact ⟨l4, by omega⟩
  · have := h.stk.lt j hj; omega
  · have := h.scc.lt hj; omega
theorem TMem.cells (h : TMem wB B0 cS bt bT bL bS lo i fT fL fS vK K vC vs C B w) :
    w.cell? ⟨bt, 0, none⟩ = some cS ∧ w.cell? ⟨bt, 1, none⟩ = some (.int .i64 i) ∧ w.cell? ⟨bt, 2, none⟩ = some (.map (some bT)) ∧ w.cell? ⟨bt, 3, none⟩ = some (.map (some bL)) ∧ w.cell? ⟨bt, 4, none⟩ = some (.map (some bS)) ∧ w.cell? ⟨bt, 5, none⟩ = some vK ∧ w.cell? ⟨bt, 6, none⟩ = some vC := by
  refine ⟨?_, ?_, ?_, ?_, ?_, ?_, ?_⟩ <;> (rw [cell_of_row w bt _ _ _ (0, 0) h.blk]; rfl)
theorem TMem.free (h : TMem wB B0 cS bt bT bL bS lo i fT fL fS vK K vC vs C B w) (j : Nat) : w.frozen? ⟨bt, j, none⟩ = false := by simp [World.frozen?, h.blk]

/-- One of the four fixed blocks has changed. -/
theorem TMem.step {x i' B' : Nat} {fT' fL' fS' : Int → Option Value} (h : TMem wB B0 cS bt bT bL bS lo i fT fL fS vK K vC vs C B w) (hf : Foot (fun j => j = x) w w') (hx : x = bt ∨ x = bT ∨ x = bL ∨ x = bS)
    (hb : w'.heap[bt]? = some (.cells #[cS, .int .i64 i', .map (some bT), .map (some bL), .map (some bS), vK, vC] 195 (0, 0))) (hT : GM Tryz.prog 2 w' bT B' fT') (hL : GM Tryz.prog 2 w' bL B' fL') (hS : GM Tryz.prog 2 w' bS B' fS') :
    TMem wB B0 cS bt bT bL bS lo i' fT' fL' fS' vK K vC vs C B' w' := by
  obtain ⟨l1, l2, l3, l4, l5, l6, l7, l8, l9⟩ := h.lt
  have hxl : B0 ≤ x ∧ x < lo := by rcases hx with rfl | rfl | rfl | rfl <;> omega
  refine ⟨hb, hT, hL, hS, hf.row h.stk (fun g hg e => by have := h.stk.lt g hg; omega), h.scc.of_heap (fun j hj => hf.block j (h.scc.lt hj).2 (fun e => by have := h.scc.lt hj; omega)), h.ap, h.base.trans (hf.below (B := B0) (fun j hj => by omega) (by omega)), h.ne, ⟨l1, l2, l3, l4, l5, l6, l7, l8, Nat.le_trans l9 hf.size⟩⟩
theorem TMem.setIdx (h : TMem wB B0 cS bt bT bL bS lo i fT fL fS vK K vC vs C B w) (i' : Nat) : TMem wB B0 cS bt bT bL bS lo i' fT fL fS vK K vC vs C B (w.setCell ⟨bt, 1, none⟩ (.int .i64 i')) := by
  have hf : Foot (fun j => j = bt) w (w.setCell ⟨bt, 1, none⟩ (.int .i64 i')) := (Foot.refl _ w).setCell bt 1 _ (.inl rfl)
  obtain ⟨n1, n2, n3, -, -, -⟩ := h.ne
  refine h.step hf (.inl rfl) ((heap_setCell_same h.blk _).trans rfl) (hf.gm h.tT n1.symm) (hf.gm h.tL n2.symm) (hf.gm h.tS n3.symm)
theorem TMem.setT {fT' : Int → Option Value} (h : TMem wB B0 cS bt bT bL bS lo i fT fL fS vK K vC vs C B w) (hg : w.grownBy w' (some bT)) (hm : GM Tryz.prog 2 w' bT (B + 1) fT') : TMem wB B0 cS bt bT bL bS lo i fT' fL fS vK K vC vs C (B + 1) w' := by
  have hf := Foot.of_grown hg
  obtain ⟨n1, n2, n3, n4, n5, n6⟩ := h.ne
  have hbt : bt < w.heap.size := (h.flt (.inl rfl)).2
  exact h.step hf (.inr (.inl rfl)) ((hf.block bt hbt n1).trans h.blk) hm ((hf.gm h.tL n4.symm).mono (Nat.le_succ _)) ((hf.gm h.tS n5.symm).mono (Nat.le_succ _))
theorem TMem.setL {fL' : Int → Option Value} (h : TMem wB B0 cS bt bT bL bS lo i fT fL fS vK K vC vs C B w) (hg : w.grownBy w' (some bL)) (hm : GM Tryz.prog 2 w' bL (B + 1) fL') : TMem wB B0 cS bt bT bL bS lo i fT fL' fS vK K vC vs C (B + 1) w' := by
  have hf := Foot.of_grown hg
  obtain ⟨n1, n2, n3, n4, n5, n6⟩ := h.ne
  have hbt : bt < w.heap.size := (h.flt (.inl rfl)).2
  exact h.step hf (.inr (.inr (.inl rfl))) ((hf.block bt hbt n2).trans h.blk) ((hf.gm h.tT n4).mono (Nat.le_succ _)) hm ((hf.gm h.tS n6.symm).mono (Nat.le_succ _))
theorem TMem.setS {B' : Nat} {fS' : Int → Option Value} (h : TMem wB B0 cS bt bT bL bS lo i fT fL fS vK K vC vs C B w) (hg : w.grownBy w' (some bS)) (hB : B ≤ B') (hm : GM Tryz.prog 2 w' bS B' fS') : TMem wB B0 cS bt bT bL bS lo i fT fL fS' vK K vC vs C B' w' := by
  have hf := Foot.of_grown hg
  obtain ⟨n1, n2, n3, n4, n5, n6⟩ := h.ne
  have hbt : bt < w.heap.size := (h.flt (.inl rfl)).2
  exact h.step hf (.inr (.inr (.inr rfl))) ((hf.block bt hbt n3).trans h.blk) ((hf.gm h.tT n5).mono hB) ((hf.gm h.tL n6).mono hB) hm
theorem TMem.mono {B' : Nat} (h : TMem wB B0 cS bt bT bL bS lo i fT fL fS vK K vC vs C B w) (hB : B ≤ B') : TMem wB B0 cS bt bT bL bS lo i fT fL fS vK K vC vs C B' w :=
  ⟨h.blk, h.tT.mono hB, h.tL.mono hB, h.tS.mono hB, h.stk, h.scc, h.ap, h.base, h.ne, h.lt⟩
/-- What leaves the blocks. -/
theorem TMem.foot {S : Nat → Prop} (h : TMem wB B0 cS bt bT bL bS lo i fT fL fS vK K vC vs C B w) (hf : Foot S w w') (hS : ∀ j, TF bt bT bL bS vK vC vs j → ¬ S j) (hB : ∀ j, S j → B0 ≤ j) : TMem wB B0 cS bt bT bL bS lo i fT fL fS vK K vC vs C B w' := by
  obtain ⟨l1, l2, l3, l4, l5, l6, l7, l8, l9⟩ := h.lt
  refine ⟨(hf.block bt (h.flt (.inl rfl)).2 (hS _ (.inl rfl))).trans h.blk, hf.gm h.tT (hS _ (.inr (.inl rfl))), hf.gm h.tL (hS _ (.inr (.inr (.inl rfl)))), hf.gm h.tS (hS _ (.inr (.inr (.inr (.inl rfl))))), hf.row h.stk (fun g hg => hS g (.inr (.inr (.inr (.inr (.inl hg)))))),
    h.scc.of_heap (fun j hj => hf.block j (h.scc.lt hj).2 (hS j (.inr (.inr (.inr (.inr (.inr hj))))))), h.ap, h.base.trans (hf.below hB (by omega)), h.ne, ⟨l1, l2, l3, l4, l5, l6, l7, l8, Nat.le_trans l9 hf.size⟩⟩
theorem TMem.below (h : TMem wB B0 cS bt bT bL bS lo i fT fL fS vK K vC vs C B w) (hb : Below w.heap.size w w') : TMem wB B0 cS bt bT bL bS lo i fT fL fS vK K vC vs C B w' :=
  h.foot (Foot.of_below hb (fun _ => False)) (fun _ _ h => h) (fun _ h => h.elim)

/-- The stack has another slice. -/
theorem TMem.newK {vK' : Value} {K' : List Int} (h : TMem wB B0 cS bt bT bL bS lo i fT fL fS vK K vC vs C B w) (hf : Foot (fun j => vK.ownBlock = some j) w w') (ho : w'.ownsRow lo 103 1 vK' K'.length (K'.map nodeV)) (hv : ∀ g, vK'.ownBlock = some g → vK.ownBlock = some g ∨ w.heap.size ≤ g) :
    TMem wB B0 cS bt bT bL bS lo i fT fL fS vK' K' vC vs C B (w'.setCell ⟨bt, 5, none⟩ vK') ∧ Foot (fun j => j = bt ∨ vK.ownBlock = some j) w (w'.setCell ⟨bt, 5, none⟩ vK') := by
  obtain ⟨l1, l2, l3, l4, l5, l6, l7, l8, l9⟩ := h.lt
  have hno : ∀ j, j < lo → ¬ vK.ownBlock = some j := fun j hj e => by have := h.stk.lt j e; omega
  have hf2 : Foot (fun j => j = bt ∨ vK.ownBlock = some j) w (w'.setCell ⟨bt, 5, none⟩ vK') := (hf.mono (fun j hj => .inr hj)).setCell bt 5 _ (.inl (.inl rfl))
  have hb := (hf.block bt (h.flt (.inl rfl)).2 (hno bt l5)).trans h.blk
  obtain ⟨n1, n2, n3, n4, n5, n6⟩ := h.ne
  refine ⟨⟨(heap_setCell_same hb _).trans rfl, hf2.gm h.tT (fun e => by rcases e with e | e; exact n1 e.symm; exact hno bT l6 e), hf2.gm h.tL (fun e => by rcases e with e | e; exact n2 e.symm; exact hno bL l7 e), hf2.gm h.tS (fun e => by rcases e with e | e; exact n3 e.symm; exact hno bS l8 e), ?_, ?_, fun g hg hF => ?_, ?_, h.ne, ⟨l1, l2, l3, l4, l5, l6, l7, l8, Nat.le_trans l9 hf2.size⟩⟩, hf2⟩
  · exact ownsRow_of_heap ho (fun g hg => Below.heap_setCell _ _ _ _ (fun e => by have := ho.lt g hg; replace e : g = bt := e; omega))
  · exact h.scc.of_heap (fun j hj => hf2.block j (h.scc.lt hj).2 (fun e => by
      rcases e with e | e
      · have := h.scc.lt hj; omega
      · exact h.ap j e hj))
  · rcases hv g hg with h1 | h1
    · exact h.ap g h1 hF
    · have := h.scc.lt hF; omega
  · exact h.base.trans (hf2.below (B := B0) (fun j hj => by
      rcases hj with hj | hj
      · omega
      · have := h.stk.lt j hj; omega) (by omega))
/-- The components have another slice. -/
theorem TMem.newC {vC' : Value} {vs' : List Value} {C' : List (List Int)} (h : TMem wB B0 cS bt bT bL bS lo i fT fL fS vK K vC vs C B w) (hf : Foot (fun j => vC.ownBlock = some j) w w') (ho : LolG 77 103 nodeV w' lo vC' vs' C') (hv : ∀ g, LolGF vC' vs' g → vK.ownBlock ≠ some g) :
    TMem wB B0 cS bt bT bL bS lo i fT fL fS vK K vC' vs' C' B (w'.setCell ⟨bt, 6, none⟩ vC') ∧ Foot (fun j => j = bt ∨ vC.ownBlock = some j) w (w'.setCell ⟨bt, 6, none⟩ vC') := by
  obtain ⟨l1, l2, l3, l4, l5, l6, l7, l8, l9⟩ := h.lt
  have hcl : ∀ j, vC.ownBlock = some j → LolGF vC vs j := fun j e => .inl e.symm
  have hno : ∀ j, j < lo → ¬ vC.ownBlock = some j := fun j hj e => by have := h.scc.lt (hcl j e); omega
  have hf2 : Foot (fun j => j = bt ∨ vC.ownBlock = some j) w (w'.setCell ⟨bt, 6, none⟩ vC') := (hf.mono (fun j hj => .inr hj)).setCell bt 6 _ (.inl (.inl rfl))
  have hb := (hf.block bt (h.flt (.inl rfl)).2 (hno bt l5)).trans h.blk
  obtain ⟨n1, n2, n3, n4, n5, n6⟩ := h.ne
  refine ⟨⟨(heap_setCell_same hb _).trans rfl, hf2.gm h.tT (fun e => by rcases e with e | e; exact n1 e.symm; exact hno bT l6 e), hf2.gm h.tL (fun e => by rcases e with e | e; exact n2 e.symm; exact hno bL l7 e), hf2.gm h.tS (fun e => by rcases e with e | e; exact n3 e.symm; exact hno bS l8 e), ?_, ?_, fun g hg hF => hv g hF hg, ?_, h.ne, ⟨l1, l2, l3, l4, l5, l6, l7, l8, Nat.le_trans l9 hf2.size⟩⟩, hf2⟩
  · exact hf2.row h.stk (fun g hg e => by
      rcases e with e | e
      · have := h.stk.lt g hg; omega
      · exact h.ap g hg (hcl g e))
  · exact ho.of_heap (fun j hj => Below.heap_setCell _ _ _ _ (fun e => by have := ho.lt hj; replace e : j = bt := e; omega))
  · exact h.base.trans (hf2.below (B := B0) (fun j hj => by
      rcases hj with hj | hj
      · omega
      · have := h.scc.lt (hcl j hj); omega) (by omega))
end

/-- The tables say what the state says. -/
structure TOk (s : TS) (fT fL fS : Int → Option Value) : Prop where
  t : ∀ x, (fT x).getD (.int .i64 0) = .int .i64 (s.tab x)
  l : ∀ x, s.tab x ≠ 0 → (fL x).getD (.int .i64 0) = .int .i64 (s.low x)
  o : ∀ x, (fS x).isSome = decide (x ∈ s.stack)
  u : ∀ x v, fS x = some v → v = .agg #[]

theorem TOk.enter {s : TS} {fT fL fS : Int → Option Value} (h : TOk s fT fL fS) (v : Int) {n : Nat} (hn : n = s.idx + 1) : TOk (s.enter v) (upd fT v (.int .i64 (n : Int))) (upd fL v (.int .i64 (n : Int))) (upd fS v (.agg #[])) := by
  refine ⟨fun x => ?_, fun x hx => ?_, fun x => ?_, fun x u hu => ?_⟩
  · show (upd fT v _ x).getD _ = .int .i64 ((updN s.tab v (s.idx + 1) x : Nat) : Int)
    unfold upd updN
    by_cases e : x = v
    · rw [if_pos e, if_pos e, hn]; rfl
    · rw [if_neg e, if_neg e]; exact h.t x
  · show (upd fL v _ x).getD _ = .int .i64 ((updN s.low v (s.idx + 1) x : Nat) : Int)
    replace hx : updN s.tab v (s.idx + 1) x ≠ 0 := hx
    unfold upd
    unfold updN at hx ⊢
    by_cases e : x = v
    · rw [if_pos e, if_pos e, hn]; rfl
    · rw [if_neg e] at hx
      rw [if_neg e, if_neg e]; exact h.l x hx
  · show _ = decide (x ∈ s.stack ++ [v])
    unfold upd
    by_cases e : x = v
    · rw [if_pos e]; simp [e]
    · rw [if_neg e, h.o x]; simp [e]
  · unfold upd at hu
    by_cases e : x = v
    · rw [if_pos e] at hu; exact (Option.some.inj hu).symm
    · rw [if_neg e] at hu; exact h.u x u hu
theorem TOk.setLow {s : TS} {fT fL fS : Int → Option Value} (h : TOk s fT fL fS) (v : Int) (n : Nat) : TOk (s.setLow v n) fT (upd fL v (.int .i64 (n : Int))) fS := by
  refine ⟨h.t, fun x hx => ?_, h.o, h.u⟩
  show (upd fL v _ x).getD _ = .int .i64 ((updN s.low v n x : Nat) : Int)
  unfold upd updN
  by_cases e : x = v
  · rw [if_pos e, if_pos e]; rfl
  · rw [if_neg e, if_neg e]; exact h.l x hx

/-- The state in memory; F: its blocks. -/
def TSt (wB : World) (B0 : Nat) (cS : Value) (bt bT bL bS lo : Nat) (s : TS) (B : Nat) (F : Nat → Prop) (w : World) : Prop :=
  ∃ fT fL fS vK vC vs, TOk s fT fL fS ∧ TMem wB B0 cS bt bT bL bS lo s.idx fT fL fS vK s.stack vC vs s.sccs B w ∧ ∀ j, F j ↔ TF bt bT bL bS vK vC vs j

theorem zero_int (w : World) : (zeroValue 3).run Tryz.prog w = .ok (.int .i64 0) w := by kernel_rfl

/-- A set by what it has. -/
def SetG (w : World) (b n : Nat) (f : Int → Option Value) : Prop := GM Tryz.prog 2 w b n f

def HasPost (b : Bool) (w : World) (e : Ending) (w' : World) : Prop := e = .returned (.bool b) ∧ Below w.heap.size w w'

set_option maxHeartbeats 1000000 in
theorem hasG_calls (b n : Nat) (f : Int → Option Value) (y : Int) (bb : Bool) (w : World) (h : GM Tryz.prog 2 w b n f) (hf : (f y).isSome = bb) (hu : ∀ v, f y = some v → v = .agg #[]) (hy : (Lit.int .i64 y).wf = true) :
    Calls Tryz.prog 114 #[.map (some b), .int .i64 y] w (HasPost bb w) := by
  have hl := h.look_ok (t := 129) (e := 221) Tryz.underlying2 Tryz.underlying129 (zero_unit w) hy
  have he : (f y).getD (.agg #[]) = .agg #[] := by
    cases hfy : f y with
    | none => rfl
    | some v => exact hu v hfy
  rw [he, hf] at hl
  clear h hf hu he
  go_enter Tryz.func114, Tryz.ntmps114
  go_wp2_with fail
  go_ret
  exact ⟨rfl, (Below.refl _ _).alloc (Nat.le_refl _) _⟩

def AddGPost (b n : Nat) (f : Int → Option Value) (y : Int) (w : World) (e : Ending) (w' : World) : Prop :=
  e = .returned (.tuple #[]) ∧ GM Tryz.prog 2 w' b (n + 1) (upd f y (.agg #[])) ∧ w.grownBy w' (some b)
set_option maxHeartbeats 1000000 in
theorem addG_calls (b n : Nat) (f : Int → Option Value) (y : Int) (w : World) (h : GM Tryz.prog 2 w b n f) (hn : n < 100000000) (hy : (Lit.int .i64 y).wf = true) :
    Calls Tryz.prog 115 #[.map (some b), .int .i64 y] w (AddGPost b n f y w) := by
  obtain ⟨w1, hrun, h1, h2⟩ := h.set (t := 129) Tryz.underlying2 Tryz.underlying129 (by unfold maxLen; omega) hy (.agg #[])
  have H1 := Lib.hid h1; have H2 := Lib.hid h2
  clear h h1 h2
  go_enter Tryz.func115, Tryz.ntmps115
  go_wp2_with fail
  go_end0
  exact ⟨rfl, H1.out, H2.out⟩

def RemGPost (b n : Nat) (f : Int → Option Value) (y : Int) (w : World) (e : Ending) (w' : World) : Prop :=
  e = .returned (.tuple #[]) ∧ GM Tryz.prog 2 w' b n (cut f y) ∧ w.grownBy w' (some b)
set_option maxHeartbeats 1000000 in
theorem removeG_calls (b n : Nat) (f : Int → Option Value) (y : Int) (w : World) (h : GM Tryz.prog 2 w b n f) (hy : (Lit.int .i64 y).wf = true) :
    Calls Tryz.prog 162 #[.map (some b), .int .i64 y] w (RemGPost b n f y w) := by
  obtain ⟨w1, hrun, h1, h2⟩ := h.take (t := 129) (e := 221) Tryz.underlying2 Tryz.underlying129 hy 0
  have H1 := Lib.hid h1; have H2 := Lib.hid h2
  clear h h1 h2
  go_enter Tryz.func162, Tryz.ntmps162
  go_wp2_with fail
  go_end0
  exact ⟨rfl, H1.out, H2.out⟩
end Go.Proofs.YtnfkbjgijelfdaaGreat
