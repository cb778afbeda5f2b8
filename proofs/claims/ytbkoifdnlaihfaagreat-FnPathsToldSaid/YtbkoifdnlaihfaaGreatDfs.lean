/- The state of a walk depth first through a graph, with what its caller keeps. The walks of traverse.DepthFirst: the closure that WalkAll hands on, Visited, Reset, Walk. The walk of traverse.DepthFirst.Walk. -/
import Derived.Test.YtbkoifdnlaihfaaGreatStack
import Derived.Test.YtbkoifdnlaihfaaGreatGraphR
import Derived.Test.YtbkoifdnlaihfaaGreatOpen
import Derived.Laws.EntriesVeiled
import Derived.Deep.RegionHeld3
import Derived.Deep.DeepCutAuto
import Derived.Deep.CutBlock
import Derived.RegionTactic
import Derived.BigRegion
namespace Go.Proofs.YtbkoifdnlaihfaaGreat
open Go.RowKit

/-- From x one comes to y. -/
def ReachA (adj : Int → List Int) (x y : Int) : Prop := ∀ S : Int → Prop, S x → (∀ a b, S a → b ∈ adj a → S b) → S y
theorem ReachA.refl (adj : Int → List Int) (x : Int) : ReachA adj x x := fun _ h _ => h
theorem ReachA.step {adj : Int → List Int} {x y z : Int} (h : ReachA adj x y) (hz : z ∈ adj y) : ReachA adj x z := fun S h1 h2 => h2 y z (h S h1 h2) hz
theorem ReachA.trans {adj : Int → List Int} {x y z : Int} (h : ReachA adj x y) (g : ReachA adj y z) : ReachA adj x z := fun S h1 h2 => g S (h S h1 h2) h2

/-- What a walk from x visits, where vis are visited. -/
structure PartOf (ids : List Int) (adj : Int → List Int) (vis : List Int) (x : Int) (part : List Int) : Prop where
  nodup : part.Nodup
  new : ∀ y ∈ part, y ∉ vis
  has : x ∈ part
  closed : ∀ y ∈ part, ∀ z ∈ adj y, z ∈ vis ∨ z ∈ part
  reach : ∀ y ∈ part, ReachA adj x y
  sub : ∀ y ∈ part, y ∈ ids

/-- Within the walk: what stands on the stack is still to be visited. -/
structure PartSt (ids : List Int) (adj : Int → List Int) (vis : List Int) (x : Int) (part stk : List Int) : Prop where
  nodup : part.Nodup
  new : ∀ y ∈ part, y ∉ vis
  has : x ∈ part ∨ x ∈ stk
  closed : ∀ y ∈ part, ∀ z ∈ adj y, z ∈ vis ∨ z ∈ part ∨ z ∈ stk
  reach : ∀ y, y ∈ part ∨ y ∈ stk → ReachA adj x y
  sub : ∀ y, y ∈ part ∨ y ∈ stk → y ∈ ids

theorem PartSt.start {ids : List Int} {adj : Int → List Int} {vis : List Int} {x : Int} (hx : x ∈ ids) : PartSt ids adj vis x [] [x] :=
  ⟨List.nodup_nil, (fun _ h => nomatch h), .inr (List.mem_singleton.2 rfl), (fun _ h => nomatch h), (fun y h => by
    rcases h with h | h
    · cases h
    · rw [List.mem_singleton.1 h]; exact ReachA.refl _ _), (fun y h => by
    rcases h with h | h
    · cases h
    · rw [List.mem_singleton.1 h]; exact hx)⟩
theorem PartSt.done {ids : List Int} {adj : Int → List Int} {vis : List Int} {x : Int} {part : List Int} (h : PartSt ids adj vis x part []) : PartOf ids adj vis x part :=
  ⟨h.nodup, h.new, (by rcases h.has with h | h; exact h; cases h), (fun y hy z hz => by
    rcases h.closed y hy z hz with h | h | h
    · exact .inl h
    · exact .inr h
    · cases h), fun y hy => h.reach y (.inl hy), fun y hy => h.sub y (.inl hy)⟩
theorem PartSt.skip {ids : List Int} {adj : Int → List Int} {vis : List Int} {x u : Int} {part stk : List Int} (h : PartSt ids adj vis x part (stk ++ [u])) (hx : x ∉ vis) (hu : u ∈ vis ++ part) : PartSt ids adj vis x part stk := by
  have hm : ∀ y, y ∈ stk ++ [u] → y ∈ stk ∨ y ∈ vis ∨ y ∈ part := fun y hy => by
    rcases List.mem_append.1 hy with hy | hy
    · exact .inl hy
    · rw [List.mem_singleton.1 hy]; rcases List.mem_append.1 hu with h | h; exact .inr (.inl h); exact .inr (.inr h)
  refine ⟨h.nodup, h.new, ?_, fun y hy z hz => ?_, fun y hy => h.reach y (hy.imp id fun h => List.mem_append_left _ h), fun y hy => h.sub y (hy.imp id fun h => List.mem_append_left _ h)⟩
  · rcases h.has with h1 | h1
    · exact .inl h1
    · rcases hm x h1 with h2 | h2 | h2
      · exact .inr h2
      · exact absurd h2 hx
      · exact .inl h2
  · rcases h.closed y hy z hz with h1 | h1 | h1
    · exact .inl h1
    · exact .inr (.inl h1)
    · rcases hm z h1 with h2 | h2 | h2
      · exact .inr (.inr h2)
      · exact .inl h2
      · exact .inr (.inl h2)
theorem PartSt.visit {ids : List Int} {adj : Int → List Int} {vis : List Int} {x u : Int} {part stk : List Int} (h : PartSt ids adj vis x part (stk ++ [u])) (hu : u ∉ vis ++ part) (hc : ∀ y ∈ adj u, y ∈ ids) : PartSt ids adj vis x (part ++ [u]) (stk ++ adj u) := by
  have hus : u ∈ stk ++ [u] := List.mem_append_right _ (List.mem_singleton.2 rfl)
  have hru := h.reach u (.inr hus)
  have huv : u ∉ vis := fun e => hu (List.mem_append_left _ e)
  have hup : u ∉ part := fun e => hu (List.mem_append_right _ e)
  have hin : ∀ y, y ∈ part ++ [u] ∨ y ∈ stk ++ adj u → (y ∈ part ∨ y ∈ stk ++ [u]) ∨ y ∈ adj u := fun y hy => by
    simp only [List.mem_append, List.mem_singleton] at hy ⊢
    rcases hy with (h | h) | (h | h)
    · exact .inl (.inl h)
    · exact .inl (.inr (.inr h))
    · exact .inl (.inr (.inl h))
    · exact .inr h
  refine ⟨?_, fun y hy => ?_, ?_, fun y hy z hz => ?_, fun y hy => ?_, fun y hy => ?_⟩
  · rw [List.nodup_append]
    exact ⟨h.nodup, by simp, fun a ha b hb => by rw [List.mem_singleton.1 hb]; intro e; exact hup (e ▸ ha)⟩
  · rcases List.mem_append.1 hy with hy | hy
    · exact h.new y hy
    · rw [List.mem_singleton.1 hy]; exact huv
  · simp only [List.mem_append, List.mem_singleton]
    rcases h.has with h1 | h1
    · exact .inl (.inl h1)
    · rcases List.mem_append.1 h1 with h2 | h2
      · exact .inr (.inl h2)
      · exact .inl (.inr (List.mem_singleton.1 h2))
  · simp only [List.mem_append, List.mem_singleton]
    rcases List.mem_append.1 hy with hy | hy
    · rcases h.closed y hy z hz with h1 | h1 | h1
      · exact .inl h1
      · exact .inr (.inl (.inl h1))
      · rcases List.mem_append.1 h1 with h2 | h2
        · exact .inr (.inr (.inl h2))
        · exact .inr (.inl (.inr (List.mem_singleton.1 h2)))
    · rw [List.mem_singleton.1 hy] at hz
      exact .inr (.inr (.inr hz))
  · rcases hin y hy with h1 | h1
    · exact h.reach y h1
    · exact hru.step h1
  · rcases hin y hy with h1 | h1
    · exact h.sub y h1
    · exact hc y h1

theorem nodup_len : ∀ {l m : List Int}, l.Nodup → (∀ x ∈ l, x ∈ m) → l.length ≤ m.length
  | [], _, _, _ => Nat.zero_le _
  | x :: l, m, hn, hs => by
    have hx : x ∈ m := hs x (List.mem_cons_self ..)
    have h1 := List.nodup_cons.1 hn
    have h2 := nodup_len (l := l) (m := m.erase x) h1.2 (fun y hy => (List.mem_erase_of_ne (fun e => h1.1 (by rw [← e]; exact hy))).2 (hs y (List.mem_cons_of_mem _ hy)))
    rw [List.length_erase_of_mem hx] at h2
    have := List.length_pos_of_mem hx
    simp only [List.length_cons]
    omega

/-- What a caller of a walk keeps: S, its blocks; ls, the parts that are done; p, the part under way. -/
structure Client (fD fA : FuncId) (cD cA : Array Value) (C : World → (Nat → Prop) → List (List Int) → List Int → Prop) : Prop where
  eD : ∀ args w, (callFunc fD args).run Tryz.prog w = .ok (.enter fD args) w
  eA : ∀ args w, (callFunc fA args).run Tryz.prog w = .ok (.enter fA args) w
  lt : ∀ w S ls p, C w S ls p → ∀ j, S j → j < w.heap.size
  keeps : ∀ w w' S ls p, C w S ls p → w.heap.size ≤ w'.heap.size → (∀ j, S j → w'.heap[j]? = w.heap[j]?) → C w' S ls p
  during : ∀ w S ls p x, C w S ls p → p.length ≤ 1000000 → Calls Tryz.prog fD (#[nodeV x] ++ cD) w fun e w' => e = .returned (.tuple #[]) ∧ ∃ S', C w' S' ls (p ++ [x]) ∧ Foot S w w' ∧ ∀ j, S' j → S j ∨ w.heap.size ≤ j
  after : ∀ w S ls p, C w S ls p → p ≠ [] → ls.length ≤ 1000000 → p.length ≤ 1000000 → Calls Tryz.prog fA cA w fun e w' => e = .returned (.tuple #[]) ∧ ∃ S', C w' S' (ls ++ [p]) [] ∧ Foot S w w' ∧ ∀ j, S' j → S j ∨ w.heap.size ≤ j

/-- The walker and its caller in memory. -/
structure WalkSt (w0 : World) (T0 : Nat → Prop) (C : World → (Nat → Prop) → List (List Int) → List Int → Prop) (bd lo bx : Nat) (dv : Value) (m : Option Nat) (v : Value) (S : Nat → Prop) (vis stk : List Int) (ls : List (List Int)) (p : List Int) (w : World) : Prop where
  df : DfSt w bd lo v m stk
  set : SetV w m vis
  cl : C w S ls p
  box : w.cell? ⟨bx, 0, none⟩ = some dv
  mne : ∀ b, m = some b → b ≠ bd ∧ b ≠ bx ∧ ¬ S b ∧ v.ownBlock ≠ some b
  vne : ∀ g, v.ownBlock = some g → ¬ S g ∧ g ≠ bx
  sne : ¬ S bd ∧ ¬ S bx ∧ bd ≠ bx
  foot : Foot T0 w0 w
  new : ∀ j, S j ∨ some j = v.ownBlock ∨ m = some j ∨ j = bd → T0 j ∨ w0.heap.size ≤ j

section
variable {fD fA : FuncId} {cD cA : Array Value} {C : World → (Nat → Prop) → List (List Int) → List Int → Prop} {w0 w w' : World} {T0 : Nat → Prop} {bd lo bx : Nat} {dv v v' : Value} {m : Option Nat} {S S' : Nat → Prop} {vis stk stk' : List Int} {ls ls' : List (List Int)} {p p' : List Int}

theorem SetV.lt {b : Nat} (h : SetV w (some b) vis) : b < w.heap.size := by
  rcases h with ⟨h, _⟩ | ⟨b', e, h⟩
  · cases h
  · cases e; exact h.lt
theorem SetV.foot (h : SetV w m vis) {U : Nat → Prop} (hf : Foot U w w') (hm : ∀ b, m = some b → ¬ U b) : SetV w' m vis := by
  rcases h with h | ⟨b', e, h⟩
  · exact .inl h
  · exact .inr ⟨b', e, hf.gm h (hm b' e)⟩

/-- The stack has changed. -/
theorem WalkSt.stepD (hc : Client fD fA cD cA C) (h : WalkSt w0 T0 C bd lo bx dv m v S vis stk ls p w) (hd : DfSt w' bd lo v' m stk') (hf : Foot (fun j => j = bd ∨ some j = v.ownBlock) w w') (hv : Fresh w v v') : WalkSt w0 T0 C bd lo bx dv m v' S vis stk' ls p w' := by
  have hlt := hc.lt w S ls p h.cl
  have hbx : bx < w.heap.size := World.block_lt_of_cell? w _ h.box
  have hm : ∀ b, m = some b → b < w.heap.size := fun b e => by have := h.set; rw [e] at this; exact this.lt
  have hS : ∀ j, S j → ¬ (j = bd ∨ some j = v.ownBlock) := fun j hj e => by
    rcases e with e | e
    · exact h.sne.1 (e ▸ hj)
    · exact (h.vne j e.symm).1 hj
  have hmu : ∀ b, m = some b → ¬ (b = bd ∨ some b = v.ownBlock) := fun b e h1 => by
    rcases h1 with h1 | h1
    · exact (h.mne b e).1 h1
    · exact (h.mne b e).2.2.2 h1.symm
  refine ⟨hd, h.set.foot hf hmu, hc.keeps w w' S ls p h.cl hf.size (fun j hj => hf.block j (hlt j hj) (hS j hj)), hf.cell h.box (fun e => ?_), fun b e => ⟨(h.mne b e).1, (h.mne b e).2.1, (h.mne b e).2.2.1, fun e' => ?_⟩, fun g hg => ?_, h.sne, h.foot.trans hf (fun j hj => ?_), fun j hj => ?_⟩
  · rcases e with e | e
    · exact h.sne.2.2 e.symm
    · exact (h.vne bx e.symm).2 rfl
  · rcases hv with hv | hv
    · exact (h.mne b e).2.2.2 (hv ▸ e')
    · have := hv b e'; have := hm b e; omega
  · rcases hv with hv | hv
    · exact h.vne g (hv ▸ hg)
    · have := hv g hg
      exact ⟨fun hs => by have := hlt g hs; omega, by omega⟩
  · exact h.new j (by rcases hj with hj | hj; exact .inr (.inr (.inr hj)); exact .inr (.inl hj))
  · rcases hj with hj | hj | hj | hj
    · exact h.new j (.inl hj)
    · rcases hv with hv | hv
      · exact h.new j (.inr (.inl (by rw [hj, hv])))
      · right; have := hv j hj.symm; have := h.foot.size; omega
    · exact h.new j (.inr (.inr (.inl hj)))
    · exact h.new j (.inr (.inr (.inr hj)))

/-- Nothing has changed but for new blocks. -/
theorem WalkSt.stepB (hc : Client fD fA cD cA C) (h : WalkSt w0 T0 C bd lo bx dv m v S vis stk ls p w) (hb : Below w.heap.size w w') : WalkSt w0 T0 C bd lo bx dv m v S vis stk ls p w' :=
  h.stepD hc (h.df.foot (Foot.of_below hb (fun _ => False)) (fun h => h) (fun _ _ h => h)) (Foot.of_below hb _) (.inl rfl)

/-- The set has changed. -/
theorem WalkSt.stepM (hc : Client fD fA cD cA C) {b : Nat} {y : Int} (h : WalkSt w0 T0 C bd lo bx dv (some b) v S vis stk ls p w) (hs : GM Tryz.prog 2 w' b (vis.length + 1) (setF (vis ++ [y]))) (hg : w.grownBy w' (some b)) : WalkSt w0 T0 C bd lo bx dv (some b) v S (vis ++ [y]) stk ls p w' := by
  have hlt := hc.lt w S ls p h.cl
  have hf := Foot.of_grown hg
  obtain ⟨m1, m2, m3, m4⟩ := h.mne b rfl
  refine ⟨h.df.foot hf (fun e => m1 e.symm) (fun g hg e => m4 (e ▸ hg)), .inr ⟨b, rfl, by rw [List.length_append]; exact hs⟩, hc.keeps w w' S ls p h.cl hf.size (fun j hj => hf.block j (hlt j hj) (fun e => m3 (e ▸ hj))), hf.cell h.box (fun e => m2 e.symm), h.mne, h.vne, h.sne, h.foot.trans hf (fun j hj => h.new j (.inr (.inr (.inl (by rw [hj]))))), h.new⟩

/-- The set is made. -/
theorem WalkSt.stepN (hc : Client fD fA cD cA C) (h : WalkSt w0 T0 C bd lo bx dv none v S vis stk ls p w) : WalkSt w0 T0 C bd lo bx dv (some w.heap.size) v S vis stk ls p ((w.setCell ⟨bd, 3, none⟩ (.map (some w.heap.size))).alloc (.map #[] 0)) := by
  have hlt := hc.lt w S ls p h.cl
  have hbx : bx < w.heap.size := World.block_lt_of_cell? w _ h.box
  have hbd := h.df.lt
  have hvis : vis = [] := by
    rcases h.set with ⟨_, h⟩ | ⟨b, h, _⟩
    · exact h
    · cases h
  have hsz : (w.setCell ⟨bd, 3, none⟩ (.map (some w.heap.size))).heap.size = w.heap.size := by simp [World.setCell]
  have hf : Foot (· = bd) w ((w.setCell ⟨bd, 3, none⟩ (.map (some w.heap.size))).alloc (.map #[] 0)) :=
    ((Foot.refl (fun j => j = bd) w).setCell bd 3 _ (.inl rfl)).trans (Foot.of_below ((Below.refl _ _).alloc (Nat.le_refl _) _) (fun _ => False)) (fun _ h => h.elim)
  refine ⟨⟨by rw [heap_alloc_old _ _ (by rw [hsz]; exact hbd), heap_setCell_same h.df.blk]; rfl, hf.row h.df.row (fun g hg e => h.df.ne (e ▸ hg)), h.df.lo_⟩, .inr ⟨_, rfl, ?_⟩, hc.keeps w _ S ls p h.cl hf.size (fun j hj => hf.block j (hlt j hj) (fun e => h.sne.1 (e ▸ hj))), hf.cell h.box (fun e => h.sne.2.2 e.symm), fun b e => ?_, h.vne, h.sne, h.foot.trans hf (fun j hj => h.new j (.inr (.inr (.inr hj)))), fun j hj => ?_⟩
  · subst hvis
    have h1 := GM.made (w.setCell ⟨bd, 3, none⟩ (.map (some w.heap.size))) Tryz.prog 2
    rw [hsz] at h1
    exact h1.congr (g := setF []) (fun x => by simp [setF])
  · obtain rfl := Option.some.inj e
    exact ⟨by omega, by omega, fun hs => by have := hlt _ hs; omega, fun e' => by have := (h.df.row.lt _ e').2; omega⟩
  · rcases hj with hj | hj | hj | hj
    · exact h.new j (.inl hj)
    · exact h.new j (.inr (.inl hj))
    · right; have := Option.some.inj hj; have := h.foot.size; omega
    · exact h.new j (.inr (.inr (.inr hj)))

/-- The caller's part has changed. -/
theorem WalkSt.stepC (h : WalkSt w0 T0 C bd lo bx dv m v S vis stk ls p w) (hcl : C w' S' ls' p') (hf : Foot S w w') (hS : ∀ j, S' j → S j ∨ w.heap.size ≤ j) : WalkSt w0 T0 C bd lo bx dv m v S' vis stk ls' p' w' := by
  have hbx : bx < w.heap.size := World.block_lt_of_cell? w _ h.box
  have hbd := h.df.lt
  have hm : ∀ b, m = some b → b < w.heap.size := fun b e => by have := h.set; rw [e] at this; exact this.lt
  have hno : ∀ j, j < w.heap.size → ¬ S j → ¬ S' j := fun j h1 h2 h3 => by rcases hS j h3 with h | h; exact h2 h; omega
  refine ⟨h.df.foot hf h.sne.1 (fun g hg => (h.vne g hg).1), h.set.foot hf (fun b e => (h.mne b e).2.2.1), hcl, hf.cell h.box h.sne.2.1, fun b e => ⟨(h.mne b e).1, (h.mne b e).2.1, hno b (hm b e) (h.mne b e).2.2.1, (h.mne b e).2.2.2⟩, fun g hg => ⟨hno g (h.df.row.lt g hg).2 (h.vne g hg).1, (h.vne g hg).2⟩, ⟨hno bd hbd h.sne.1, hno bx hbx h.sne.2.1, h.sne.2.2⟩, h.foot.trans hf (fun j hj => h.new j (.inl hj)), fun j hj => ?_⟩
  rcases hj with hj | hj
  · rcases hS j hj with h1 | h1
    · exact h.new j (.inl h1)
    · right; have := h.foot.size; omega
  · exact h.new j (.inr hj)

/-- The world at hand as the beginning. -/
theorem WalkSt.rebase (h : WalkSt w0 T0 C bd lo bx dv m v S vis stk ls p w) : WalkSt w (fun j => S j ∨ some j = v.ownBlock ∨ m = some j ∨ j = bd) C bd lo bx dv m v S vis stk ls p w :=
  ⟨h.df, h.set, h.cl, h.box, h.mne, h.vne, h.sne, Foot.refl _ _, fun _ hj => .inl hj⟩
/-- And back. -/
theorem WalkSt.unbase {m' : Option Nat} {vis' : List Int} (h : WalkSt w0 T0 C bd lo bx dv m v S vis stk ls p w) (g : WalkSt w (fun j => S j ∨ some j = v.ownBlock ∨ m = some j ∨ j = bd) C bd lo bx dv m' v' S' vis' stk' ls' p' w') : WalkSt w0 T0 C bd lo bx dv m' v' S' vis' stk' ls' p' w' :=
  ⟨g.df, g.set, g.cl, g.box, g.mne, g.vne, g.sne, h.foot.trans g.foot (fun j hj => h.new j hj), fun j hj => by
    rcases g.new j hj with h1 | h1
    · exact h.new j h1
    · exact .inr (Nat.le_trans h.foot.size h1)⟩
/-- Other blocks have changed, of those that are new. -/
theorem WalkSt.stepF (hc : Client fD fA cD cA C) (h : WalkSt w0 T0 C bd lo bx dv m v S vis stk ls p w) {U : Nat → Prop} (hf : Foot U w w') (hU : ∀ j, U j → ¬ (S j ∨ some j = v.ownBlock ∨ m = some j ∨ j = bd) ∧ j ≠ bx) (hU2 : ∀ j, U j → w0.heap.size ≤ j) : WalkSt w0 T0 C bd lo bx dv m v S vis stk ls p w' := by
  have hlt := hc.lt w S ls p h.cl
  exact ⟨h.df.foot hf (fun e => (hU _ e).1 (.inr (.inr (.inr rfl)))) (fun g hg e => (hU _ e).1 (.inr (.inl hg.symm))), h.set.foot hf (fun b e hb => (hU _ hb).1 (.inr (.inr (.inl e)))), hc.keeps w w' S ls p h.cl hf.size (fun j hj => hf.block j (hlt j hj) (fun e => (hU _ e).1 (.inl hj))), hf.cell h.box (fun e => (hU _ e).2 rfl), h.mne, h.vne, h.sne, h.foot.trans hf (fun j hj => .inr (hU2 j hj)), h.new⟩
end
end Go.Proofs.YtbkoifdnlaihfaaGreat
namespace Go.Proofs.YtbkoifdnlaihfaaGreat
open Go.RowKit

theorem neq_fNode (f : Fn) (a c : Array Value) (w : World) : (binOp .neq 102 (.func f a c) .nilFunc).run Tryz.prog w = .ok (.bool true) w := by kernel_rfl
theorem neq_fNodeB (f : Fn) (a c : Array Value) (w : World) : (binOp .neq 163 (.func f a c) .nilFunc).run Tryz.prog w = .ok (.bool true) w := by kernel_rfl
theorem neq_f0 (f : Fn) (a c : Array Value) (w : World) : (binOp .neq 1 (.func f a c) .nilFunc).run Tryz.prog w = .ok (.bool true) w := by kernel_rfl
theorem nil_fNode (w : World) : (binOp .neq 102 .nilFunc .nilFunc).run Tryz.prog w = .ok (.bool false) w := by kernel_rfl
theorem nil_fEdgeB (w : World) : (binOp .neq 103 .nilFunc .nilFunc).run Tryz.prog w = .ok (.bool false) w := by kernel_rfl
theorem nil_f0 (w : World) : (binOp .neq 1 .nilFunc .nilFunc).run Tryz.prog w = .ok (.bool false) w := by kernel_rfl

section
variable {fD fA : FuncId} {cD cA : Array Value} {C : World → (Nat → Prop) → List (List Int) → List Int → Prop}

def DuringPost (C : World → (Nat → Prop) → List (List Int) → List Int → Prop) (v : Value) (S : Nat → Prop) (ls : List (List Int)) (p : List Int) (x : Int) (w : World) (e : Ending) (w' : World) : Prop :=
  e = .returned v ∧ ∃ S', C w' S' ls (p ++ [x]) ∧ Foot S w w' ∧ ∀ j, S' j → S j ∨ w.heap.size ≤ j

set_option maxHeartbeats 1000000 in
theorem dfsClosure_calls (hc : Client fD fA cD cA C) (bx : Nat) (S : Nat → Prop) (ls : List (List Int)) (p : List Int) (x : Int) (w : World) (h : C w S ls p) (hb : w.cell? ⟨bx, 0, none⟩ = some (.func (.func fD) #[] cD)) (hp : p.length ≤ 1000000) :
    Calls Tryz.prog 100 #[nodeV x, .pointer (some ⟨bx, 0, none⟩)] w (DuringPost C (.bool false) S ls p x w) := by
  have H := Lib.hid h; have HC := Lib.hid hc
  have m1 := neq_fNode; have m2 := hc.eD
  clear h hc
  unfold nodeV
  go_enter Tryz.func100, Tryz.ntmps100
  go_wp2_with fail
  refine (HC.out.during w S ls p x H.out hp).mono ?_
  rintro e w1 ⟨rfl, S', h1, h2, h3⟩
  have H1 := Lib.hid h1; have H2 := Lib.hid h2; have H3 := Lib.hid h3
  clear h1 h2 h3
  go_wp2_with fail
  go_ret
  exact ⟨rfl, S', H1.out, H2.out, H3.out⟩

set_option maxHeartbeats 1000000 in
theorem dVisited_calls (bd : Nat) (m : Option Nat) (vis : List Int) (x : Int) (w : World) (hb : w.cell? ⟨bd, 3, none⟩ = some (.map m)) (h : SetV w m vis) (hx : (Lit.int .i64 x).wf = true) :
    Calls Tryz.prog 98 #[.pointer (some ⟨bd, 0, none⟩), nodeV x] w fun e w' => e = .returned (.bool (decide (x ∈ vis))) ∧ Below w.heap.size w w' := by
  have H := Lib.hid h; clear h
  have m1 := method_ID x
  unfold nodeV
  obtain ⟨b, hbb⟩ : ∃ b, decide (x ∈ vis) = b := ⟨_, rfl⟩
  have HBB := Lib.hid hbb
  rw [hbb]
  clear hbb
  go_enter Tryz.func98, Tryz.ntmps98
  go_wp2_with fail
  go_region_held3 (fun w' => w'.cell? ⟨bd, 3, none⟩ = some (.map m))
    (first | with_reducible exact s2 | go_keep)
    (first
      | (go_at_call 267; refine (nodeID_calls x (w.drewN 1)).mono ?_; rintro e w' ⟨rfl, rfl⟩)
      | (go_at_call 113; refine (has64_calls m vis x (w.drewN 1) (H.out.foot (Foot.of_below (below_drewN (Below.refl _ _) 1) (fun _ => False)) (fun _ _ h => h)) hx).mono ?_; rintro e w2 ⟨he, hb2⟩; rw [HBB.out] at he; subst he; have s2 := (hb2.cell (p := ⟨bd, 3, none⟩) (World.block_lt_of_cell? w _ hb)).trans hb; have HB2 := Lib.hid ((below_drewN (Below.refl w.heap.size w) 1).trans hb2); clear hb2))
  go_wp2
  go_ret
  exact ⟨rfl, HB2.out⟩

def ResetD (bd lo : Nat) (w : World) (e : Ending) (w' : World) : Prop :=
  e = .returned (.tuple #[]) ∧ DfSt w' bd lo (.slice none 0 0) none [] ∧ Foot (· = bd) w w'

set_option maxHeartbeats 1000000 in
/-- Reset of a walker that is new. -/
theorem dReset_calls (bd lo : Nat) (w : World) (h : DfSt w bd lo (.slice none 0 0) none []) :
    Calls Tryz.prog 97 #[.pointer (some ⟨bd, 0, none⟩)] w (ResetD bd lo w) := by
  obtain ⟨q0, q1, q2, q3, q4, q5⟩ := h.cells
  have H := Lib.hid h
  clear h q0 q1
  go_enter Tryz.func97, Tryz.ntmps97
  go_wp2_with fail
  go_end0
  have hd := DfSt.set (v' := .slice none 0 0) (stk := []) H.out.blk H.out.lo_ (World.ownsRow_nil _ _ _ _)
  have hd2 := heap_setCell_same hd.blk (j := 3) (.map none)
  exact ⟨rfl, ⟨hd2, World.ownsRow_nil _ _ _ _, H.out.lo_⟩, ((Foot.refl (fun j => j = bd) w).setCell bd 2 _ (.inl rfl)).setCell bd 3 _ (.inl rfl)⟩
end
end Go.Proofs.YtbkoifdnlaihfaaGreat
namespace Go.Proofs.YtbkoifdnlaihfaaGreat
open Go.RowKit

section
variable {fD fA : FuncId} {cD cA : Array Value} {C : World → (Nat → Prop) → List (List Int) → List Int → Prop}

def DWalkPost (ids : List Int) (adj : Int → List Int) (w0 : World) (T0 : Nat → Prop) (C : World → (Nat → Prop) → List (List Int) → List Int → Prop) (bd bx : Nat) (dv : Value) (vis : List Int) (x : Int) (ls : List (List Int)) (e : Ending) (w' : World) : Prop :=
  e = .returned .nilIface ∧ ∃ b v S part, WalkSt w0 T0 C bd (bd + 1) bx dv (some b) v S (vis ++ part) [] ls part w' ∧ PartOf ids adj vis x part

/-- The stack while the nodes that u leads to are laid on it. -/
structure InSt (wf : World) (bd : Nat) (v0 : Value) (m : Option Nat) (E : Nat) (v : Value) (stk : List Int) (w : World) : Prop where
  df : DfSt w bd (bd + 1) v m stk
  foot : Foot (fun j => j = bd ∨ some j = v0.ownBlock) wf w
  own : v.ownBlock = v0.ownBlock ∨ ∀ g, v.ownBlock = some g → E ≤ g
  lt : E ≤ w.heap.size

theorem InSt.within {wf : World} {bd : Nat} {v0 : Value} {m : Option Nat} {E : Nat} {v : Value} {stk : List Int} {w w' : World} (h : InSt wf bd v0 m E v stk w) (hw : Within wf.heap.size E w w') (hv0 : ∀ g, v0.ownBlock = some g → g < wf.heap.size) (hbd : bd < wf.heap.size) : InSt wf bd v0 m E v stk w' := by
  have hf := Foot.of_within hw
  have hown : ∀ g, v.ownBlock = some g → ¬ (wf.heap.size ≤ g ∧ g < E) := fun g hg => by
    rcases h.own with h1 | h1
    · have := hv0 g (h1 ▸ hg); omega
    · have := h1 g hg; omega
  exact ⟨h.df.foot hf (by omega) hown, h.foot.trans hf (fun j hj => .inr hj.1), h.own, Nat.le_trans h.lt hw.2.2.2.1⟩
theorem InSt.push {wf : World} {bd : Nat} {v0 : Value} {m : Option Nat} {E : Nat} {v v' : Value} {stk stk' : List Int} {w w' : World} (h : InSt wf bd v0 m E v stk w) (hE : wf.heap.size ≤ E) (hd : DfSt w' bd (bd + 1) v' m stk') (hf : Foot (fun j => j = bd ∨ some j = v.ownBlock) w w') (hfr : Fresh w v v') : InSt wf bd v0 m E v' stk' w' := by
  refine ⟨hd, h.foot.trans hf (fun j hj => ?_), ?_, Nat.le_trans h.lt hf.size⟩
  · rcases hj with hj | hj
    · exact .inl (.inl hj)
    · rcases h.own with h1 | h1
      · exact .inl (.inr (hj.trans h1))
      · right; have := h1 j hj.symm; omega
  · rcases hfr with h1 | h1
    · rw [h1]; exact h.own
    · exact .inr fun g hg => Nat.le_trans h.lt (h1 g hg)
theorem InSt.sets {wf : World} {bd : Nat} {v0 : Value} {m : Option Nat} {E : Nat} {v : Value} {stk : List Int} {w : World} (h : InSt wf bd v0 m E v stk w) (hv0 : ∀ g, v0.ownBlock = some g → g < wf.heap.size) (hbd : bd < wf.heap.size) : ∀ j, j = bd ∨ some j = v.ownBlock → j < wf.heap.size ∨ E ≤ j := fun j hj => by
  rcases hj with hj | hj
  · left; omega
  · rcases h.own with h1 | h1
    · exact .inl (hv0 j (by rw [← h1, hj]))
    · exact .inr (h1 j hj.symm)

theorem eql_map (m : Option Nat) (w : World) : (binOp .eql 107 (.map m) (.map none)).run Tryz.prog w = .ok (.bool m.isNone) w := by
  cases m <;> kernel_rfl

theorem meas_step {n p s a g M : Nat} (h : (n - p) * (M + 1) + (s + 1) ≤ g) (hp : p + 1 ≤ n) (ha : a ≤ M) : (n - (p + 1)) * (M + 1) + (s + a) ≤ g - 1 := by
  obtain ⟨r, rfl⟩ : ∃ r, n = p + 1 + r := ⟨n - (p + 1), by omega⟩
  rw [show p + 1 + r - p = r + 1 by omega, Nat.succ_mul] at h
  rw [show p + 1 + r - (p + 1) = r by omega]
  omega

set_option maxHeartbeats 8000000 in
set_option maxRecDepth 100000 in
theorem dWalk_calls {t : TypeId} {recv : Value} {fNs fFr : FuncId} {G : World → Prop} {ids : List Int} {adj : Int → List Int} (hG : GraphR t recv fNs fFr G ids adj) (hc : Client fD fA cD cA C) {w0 w : World} {T0 : Nat → Prop} (hg : ∀ w', Foot T0 w0 w' → G w')
    (hwf : ∀ y ∈ ids, (Lit.int .i64 y).wf = true) (M : Nat) (hM : ∀ y ∈ ids, (adj y).length ≤ M) (hMM : M ≤ 100000) (hn : ids.length ≤ 100000)
    {bd bx : Nat} {m : Option Nat} {v : Value} {S : Nat → Prop} {vis : List Int} {ls : List (List Int)} {x : Int} (h : WalkSt w0 T0 C bd (bd + 1) bx (.func (.func fD) #[] cD) m v S vis [] ls [] w)
    (hx : x ∈ ids) (hxv : x ∉ vis) (hvn : vis.Nodup) (hvs : ∀ y ∈ vis, y ∈ ids) :
    Calls Tryz.prog 99 #[.pointer (some ⟨bd, 0, none⟩), .iface t recv, nodeV x, .func (.func 100) #[] #[.pointer (some ⟨bx, 0, none⟩)]] w
      (DWalkPost ids adj w0 T0 C bd bx (.func (.func fD) #[] cD) vis x ls) := by
  have HG := Lib.hid hG; have HC := Lib.hid hc; have HGG := Lib.hid hg; have HWF := Lib.hid hwf; have HM := Lib.hid hM
  have HX := Lib.hid hx; have HXV := Lib.hid hxv; have HVN := Lib.hid hvn; have HVS := Lib.hid hvs
  have HCLO := Lib.hid (fun u y hu hy => hG.closed w u y (hg w h.foot) hu hy)
  have m1 := hG.mFrom; have m2 := hG.aFrom; have m3 := hG.eFrom
  have m4 := method_ID; have m5 := neq_fNodeB; have m6 := nil_fNode; have m7 := nil_fEdgeB
  have hmm := @run_makeMap Tryz.prog
  obtain ⟨q0, q1, q2, q3, q4, q5⟩ := h.df.cells
  have HW := Lib.hid h
  have hbd := h.df.lt
  have heq := eql_map m w
  obtain ⟨b0, hb0⟩ : ∃ b, m.isNone = b := ⟨_, rfl⟩
  rw [hb0] at heq
  have HB0 := Lib.hid hb0
  clear hG hc hg hwf hM hx hxv hvn hvs h hb0 q0 q1 q2 q4
  unfold nodeV
  go_enter Tryz.func99, Tryz.ntmps99
  go_upto_if 18 with fail
  go_cut [] (fun wc => ∃ b, WalkSt w0 T0 C bd (bd + 1) bx (.func (.func fD) #[] cD) (some b) v S vis [] ls [] wc)
  case first =>
    cases b0
    · go_wp2
      go_meet
      cases m with
      | none => cases HB0.out
      | some b => exact ⟨b, HW.out⟩
    · obtain rfl : m = none := by have := HB0.out; cases m <;> simp at this; rfl
      go_wp2_with fail
      go_meet
      exact ⟨_, HW.out.stepN HC.out⟩
  case rest =>
    obtain ⟨b, hw1⟩ := hcut
    obtain ⟨w1, rfl⟩ : ∃ w1 : World, w1 = wc := ⟨_, rfl⟩
    clear heq HB0 HW q3 q5 hbd hmm
    have HW1 := Lib.hid hw1
    have hbd := hw1.df.lt
    clear hw1
    go_wp2_with fail
    refine (push_calls bd (bd + 1) v (some b) [] x w1 HW1.out.df (by omega) (by simp)).mono ?_
    rintro e w2 ⟨rfl, v2, hd2, hf2, hfr2⟩
    have HW2 := Lib.hid (HW1.out.stepD HC.out hd2 hf2 hfr2)
    clear hd2 hf2 hfr2 HW1 hbd
    go_wp2_with fail
    go_loopg [] (ids.length * (M + 1) + 2) (fun g wr => ∃ (v : Value) (S : Nat → Prop) (part stk : List Int), WalkSt w0 T0 C bd (bd + 1) bx (.func (.func fD) #[] cD) (some b) v S (vis ++ part) stk ls part wr ∧ PartSt ids adj vis x part stk ∧ (ids.length - part.length) * (M + 1) + stk.length < g ∧ stk.length ≤ 1 + part.length * M)
    case atStart => exact ⟨v2, S, [], [x], by rw [List.append_nil]; exact HW2.out, PartSt.start HX.out, by simp, by simp⟩
    case round =>
      obtain ⟨v3, S3, part, stk, hw3, hp3, hgk, hlen⟩ := hrel
      clear HW2
      have HW3 := Lib.hid hw3; have HP3 := Lib.hid hp3
      have hpl : part.length ≤ ids.length := nodup_len hp3.nodup (fun y hy => hp3.sub y (.inl hy))
      have hlen2 : stk.length ≤ 10000000001 := by
        have : part.length * M ≤ 100000 * 100000 := Nat.mul_le_mul (by omega) hMM
        omega
      clear hw3 hp3
      have hcs : stk = [] ∨ ∃ s u, stk = s ++ [u] := by
        rcases List.eq_nil_or_concat stk with h | ⟨s, u, h⟩
        · exact .inl h
        · exact .inr ⟨s, u, by rw [h, List.concat_eq_append]⟩
      rcases hcs with rfl | ⟨s, u, rfl⟩
      · go_wp2_with fail
        refine (slen_calls bd (bd + 1) v3 (some b) [] wr HW3.out.df).mono ?_
        rintro e w' ⟨rfl, rfl⟩
        go_wp2_with fail
        go_ret
        exact ⟨rfl, b, v3, S3, part, HW3.out, HP3.out.done⟩
      · have hs1 : s.length + 1 ≤ 10000000001 := by simpa using hlen2
        have HGK : Hid ((ids.length - part.length) * (M + 1) + (s.length + 1) < gk) := by
          have := hgk
          simp only [List.length_append, List.length_cons, List.length_nil] at this
          exact Lib.hid this
        have HLEN : Hid (s.length + 1 ≤ 1 + part.length * M) := Lib.hid (by simpa using hlen)
        clear hgk hlen hlen2
        have hne1 : ((s.length : Int) + 1 == 0) = false := by simp; omega
        have hne2 : ((s.length : Int) + 1 != 0) = true := by simp; omega
        go_wp2_with fail
        refine (slen_calls bd (bd + 1) v3 (some b) (s ++ [u]) wr HW3.out.df).mono ?_
        rintro e w' ⟨rfl, rfl⟩
        rw [show (((s ++ [u]).length : Nat) : Int) = (s.length : Int) + 1 by simp]
        go_wp2_with fail
        refine (pop_calls bd (bd + 1) v3 (some b) s u wr HW3.out.df (by omega)).mono ?_
        rintro e w4 ⟨rfl, v4, hd4, hf4, ho4⟩
        have HW4 := Lib.hid (HW3.out.stepD HC.out hd4 (hf4.mono (fun j hj => .inl hj)) (.inl ho4))
        have huv : u ∈ ids := HP3.out.sub u (.inr (List.mem_append_right _ (List.mem_singleton.2 rfl)))
        have hwu := HWF.out u huv
        have HU := Lib.hid huv
        clear hd4 hf4 ho4 HW3 huv hne1 hne2
        unfold nodeV
        go_wp2_with fail
        refine (nodeID_calls u w4).mono ?_
        rintro e w' ⟨rfl, rfl⟩
        obtain ⟨q0, q1, q2, q3, q4, q5⟩ := HW4.out.df.cells
        go_wp2_with fail
        refine (has64_calls (some b) (vis ++ part) u w4 HW4.out.set hwu).mono ?_
        rintro e w5 ⟨rfl, hb5⟩
        have HW5 := Lib.hid (HW4.out.stepB HC.out hb5)
        clear hb5 HW4 q0 q1 q2 q3 q4 q5
        obtain ⟨q0, q1, q2, q3, q4, q5⟩ := HW5.out.df.cells
        by_cases hin : u ∈ vis ++ part
        · have hd : decide (u ∈ vis ++ part) = true := by simpa using hin
          rw [hd]
          have HIN := Lib.hid hin
          clear hin hd
          go_wp2_with fail
          go_roundg (gk - 1)
          case measure => have := HGK.out; omega
          case rel => exact ⟨v4, S3, part, s, HW5.out, HP3.out.skip HXV.out HIN.out, by have := HGK.out; omega, by have := HLEN.out; omega⟩
        · have hd : decide (u ∈ vis ++ part) = false := by simpa using hin
          rw [hd]
          have HIN := Lib.hid hin
          clear hin hd
          have hvp : (vis ++ part).length ≤ ids.length := nodup_len (List.nodup_append.2 ⟨HVN.out, HP3.out.nodup, fun a ha c hc e => HP3.out.new c hc (e ▸ ha)⟩) (fun y hy => by
            rcases List.mem_append.1 hy with hy | hy
            · exact HVS.out y hy
            · exact HP3.out.sub y (.inl hy))
          have HGM : Hid (GM Tryz.prog 2 w5 b (vis ++ part).length (setF (vis ++ part))) := by
            rcases HW5.out.set with ⟨h, _⟩ | ⟨b', h, h2⟩
            · cases h
            · cases h; exact h2
          have HPV := Lib.hid (HP3.out.visit HIN.out (fun y hy => HCLO.out u y HU.out hy))
          have hpl2 : (part ++ [u]).length ≤ ids.length := nodup_len HPV.out.nodup (fun y hy => HPV.out.sub y (.inl hy))
          rw [List.length_append, List.length_singleton] at hpl2
          go_wp2_with fail
          refine (add64_calls b (vis ++ part) u w5 HGM.out (by omega) hwu).mono ?_
          rintro e w6 ⟨rfl, hgm6, hg6⟩
          have HW6 : Hid (WalkSt w0 T0 C bd (bd + 1) bx (.func (.func fD) #[] cD) (some b) v4 S3 (vis ++ (part ++ [u])) s ls part w6) := by
            have := HW5.out.stepM HC.out hgm6 hg6
            rw [List.append_assoc] at this
            exact Lib.hid this
          clear hgm6 hg6 HGM HW5 q0 q1 q2 q3 q4 q5 hvp
          obtain ⟨q0, q1, q2, q3, q4, q5⟩ := HW6.out.df.cells
          go_wp2_with fail
          refine (dfsClosure_calls HC.out bx S3 ls part u w6 HW6.out.cl HW6.out.box (by omega)).mono ?_
          rintro e w7 ⟨rfl, S7, hc7, hf7, hs7⟩
          have HW7 := Lib.hid (HW6.out.stepC hc7 hf7 hs7)
          clear hc7 hf7 hs7 HW6 q0 q1 q2 q3 q4 q5
          have HGR : Hid (G w7) := HGG.out w7 HW7.out.foot
          have HOW : Hid (∀ g, v4.ownBlock = some g → g < w7.heap.size) := fun g hg => (HW7.out.df.row.lt g hg).2
          have hbd := HW7.out.df.lt
          have hlu := HM.out u HU.out
          go_wp2_with fail
          refine (HG.out.frm w7 u HU.out HGR.out).mono ?_
          rintro e w8 ⟨t8, r8, fN8, fV8, P8, rfl, hI, hP, hb8⟩
          have HI8 := Lib.hid hI; have HP8 := Lib.hid hP; have HB8 := Lib.hid hb8
          have n1 := hI.it.mNext; have n2 := hI.it.aNext; have n3 := hI.it.mNode; have n4 := hI.it.aNode; have n5 := hI.it.eNext; have n6 := hI.it.eNode
          have hs8 := hb8.size
          clear hI hP hb8 HGR
          obtain ⟨wo, rfl⟩ : ∃ wo : World, wo = wr := ⟨_, rfl⟩
          obtain ⟨go, rfl⟩ : ∃ go : Nat, go = gk := ⟨_, rfl⟩
          go_wp2_with fail
          go_loopg [] ((adj u).length + 1) (fun g wx => ∃ (v : Value) (pre l : List Int) (c : Option Int), adj u = pre ++ l ∧ InSt w7 bd v4 (some b) w8.heap.size v (s ++ pre) wx ∧ P8 wx c l ∧ l.length < g)
          case atStart => exact ⟨v4, [], adj u, none, rfl, ⟨by rw [List.append_nil]; exact HW7.out.df.foot (Foot.of_below HB8.out (fun _ => False)) (fun h => h) (fun _ _ h => h), Foot.of_below HB8.out _, .inl rfl, Nat.le_refl _⟩, HP8.out, by omega⟩
          case round =>
            obtain ⟨v9, pre, l, c9, hpre, hin, hp9, hl9⟩ := hrel
            have HPRE := Lib.hid hpre; have HIN9 := Lib.hid hin; have HP9 := Lib.hid hp9
            clear hpre hin hp9 HP8
            cases l with
            | nil =>
              go_wp2_with fail
              refine (HI8.out.it.next wr c9 [] HP9.out).mono ?_
              rintro e w9 ⟨rfl, -, hw9⟩
              have HIN10 := Lib.hid (HIN9.out.within hw9 HOW.out hbd)
              rw [show (!([] : List Int).isEmpty) = false from rfl]
              clear hw9
              have HPE : Hid (adj u = pre) := by rw [HPRE.out, List.append_nil]; exact Lib.hid rfl
              go_wp2_with fail
              go_roundg (go - 1)
              case measure => have := HGK.out; omega
              case rel =>
                refine ⟨v9, S7, part ++ [u], s ++ adj u, ?_, HPV.out, ?_, ?_⟩
                · have hd := HIN10.out.df
                  rw [← HPE.out] at hd
                  exact HW7.out.stepD HC.out hd HIN10.out.foot (HIN10.out.own.imp id fun h g hg => Nat.le_trans hs8 (h g hg))
                · have h1 := HGK.out
                  rw [List.length_append, List.length_append, List.length_singleton]
                  have := meas_step (n := ids.length) (p := part.length) (s := s.length) (a := (adj u).length) (g := go - 1) (M := M) (by omega) hpl2 hlu
                  omega
                · have h1 := HLEN.out
                  rw [List.length_append, List.length_append, List.length_singleton, Nat.succ_mul]
                  omega
            | cons z l =>
              go_wp2_with fail
              refine (HI8.out.it.next wr c9 (z :: l) HP9.out).mono ?_
              rintro e w9 ⟨rfl, hp10, hw9⟩
              have HIN10 := Lib.hid (HIN9.out.within hw9 HOW.out hbd)
              have HP10 := Lib.hid hp10
              rw [show (!(z :: l).isEmpty) = true from rfl]
              clear hw9 hp10
              go_wp2_with fail
              refine (HI8.out.it.node w9 z l HP10.out).mono ?_
              rintro e w10 ⟨rfl, hp11, hw10⟩
              have HIN11 := Lib.hid (HIN10.out.within hw10 HOW.out hbd)
              have HP11 := Lib.hid hp11
              clear hw10 hp11 HP10 HIN10
              obtain ⟨q0, q1, q2, q3, q4, q5⟩ := HIN11.out.df.cells
              unfold nodeV
              go_wp2_with fail
              refine (nodeID_calls z w10).mono ?_
              rintro e w' ⟨rfl, rfl⟩
              have HIN12 : Hid (InSt w7 bd v4 (some b) w8.heap.size v9 (s ++ pre) w10.drew) :=
                HIN11.out.push hs8 (HIN11.out.df.foot (Foot.of_below (below_drewN (Below.refl _ _) 1) (fun _ => False)) (fun h => h) (fun _ _ h => h)) (Foot.of_below (below_drewN (Below.refl _ _) 1) _) (.inl rfl)
              have HP12 : Hid (P8 w10.drew (some z) l) := HI8.out.foot HP11.out (Foot.of_below (below_drewN (Below.refl w10.heap.size w10) 1) (fun _ => False)) HIN11.out.lt (fun _ h => h.elim)
              have hpl3 : pre.length + (l.length + 1) ≤ M := by
                have := congrArg List.length HPRE.out
                simp only [List.length_append, List.length_cons] at this
                omega
              have hbig : (s ++ pre).length ≤ 1000000000000 := by rw [List.length_append]; omega
              have hlo12 : bd + 1 ≤ w10.drew.heap.size := HIN12.out.df.lt
              clear HIN11 HP11
              go_wp2_with fail
              go_region
              go_wp2_with fail
              refine (push_calls bd (bd + 1) v9 (some b) (s ++ pre) z w10.drew HIN12.out.df hlo12 hbig).mono ?_
              rintro e w13 ⟨rfl, v13, hd13, hf13, hfr13⟩
              have HIN13 := Lib.hid (HIN12.out.push hs8 hd13 hf13 hfr13)
              have HP13 := Lib.hid (HI8.out.foot HP12.out hf13 HIN12.out.lt (HIN12.out.sets HOW.out hbd))
              clear hd13 hf13 hfr13
              go_wp2
              go_roundg (gk - 1)
              case measure => simp only [List.length_cons] at hl9; omega
              case rel => exact ⟨v13, pre ++ [z], l, some z, by rw [HPRE.out, List.append_assoc]; rfl, by rw [← List.append_assoc]; exact HIN13.out, HP13.out, by simp only [List.length_cons] at hl9; omega⟩
end
end Go.Proofs.YtbkoifdnlaihfaaGreat
