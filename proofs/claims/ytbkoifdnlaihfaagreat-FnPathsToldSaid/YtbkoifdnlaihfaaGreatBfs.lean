/- The state of a walk breadth first through a graph, with what its caller keeps. The walk of traverse.BreadthFirst.Walk, where nothing but the end is asked for. -/
import Derived.Test.YtbkoifdnlaihfaaGreatQue
import Derived.Test.YtbkoifdnlaihfaaGreatDfs
namespace Go.Proofs.YtbkoifdnlaihfaaGreat
open Go.RowKit

/-- What a caller of a walk breadth first keeps: S, its blocks; p, the nodes that it was asked about. -/
structure ClientU (fU : FuncId) (cU : Array Value) (stop : Int → Bool) (C : World → (Nat → Prop) → List Int → Prop) : Prop where
  eU : ∀ args w, (callFunc fU args).run Tryz.prog w = .ok (.enter fU args) w
  lt : ∀ w S p, C w S p → ∀ j, S j → j < w.heap.size
  keeps : ∀ w w' S p, C w S p → w.heap.size ≤ w'.heap.size → (∀ j, S j → w'.heap[j]? = w.heap[j]?) → C w' S p
  asks : ∀ w S p x d, C w S p → p.length ≤ 1000000 → Calls Tryz.prog fU (#[nodeV x, .int .i64 d] ++ cU) w fun e w' => e = .returned (.bool (stop x)) ∧ ∃ S', C w' S' (p ++ [x]) ∧ Foot S w w' ∧ ∀ j, S' j → S j ∨ w.heap.size ≤ j

/-- Within the walk: what stands in the queue is visited, and still to be left. -/
structure PartQ (ids : List Int) (adj : Int → List Int) (vis : List Int) (x : Int) (part q : List Int) : Prop where
  nodup : (part ++ q).Nodup
  new : ∀ y ∈ part ++ q, y ∉ vis
  has : x ∈ part ++ q
  closed : ∀ y ∈ part, ∀ z ∈ adj y, z ∈ vis ∨ z ∈ part ++ q
  reach : ∀ y ∈ part ++ q, ReachA adj x y
  sub : ∀ y ∈ part ++ q, y ∈ ids
/-- While u is left: pre, the nodes that it leads to that were looked at. -/
structure PartU (ids : List Int) (adj : Int → List Int) (vis : List Int) (x : Int) (part : List Int) (u : Int) (pre q : List Int) : Prop where
  nodup : (part ++ u :: q).Nodup
  new : ∀ y ∈ part ++ u :: q, y ∉ vis
  has : x ∈ part ++ u :: q
  closed : ∀ y ∈ part, ∀ z ∈ adj y, z ∈ vis ∨ z ∈ part ++ u :: q
  looked : ∀ z ∈ pre, z ∈ vis ∨ z ∈ part ++ u :: q
  reach : ∀ y ∈ part ++ u :: q, ReachA adj x y
  sub : ∀ y ∈ part ++ u :: q, y ∈ ids

theorem PartQ.start {ids : List Int} {adj : Int → List Int} {vis : List Int} {x : Int} (hx : x ∈ ids) (hv : x ∉ vis) : PartQ ids adj vis x [] [x] where
  nodup := by simp
  new := fun y hy => by rw [List.nil_append, List.mem_singleton] at hy; rw [hy]; exact hv
  has := by simp
  closed := fun y hy => by cases hy
  reach := fun y hy => by rw [List.nil_append, List.mem_singleton] at hy; rw [hy]; exact ReachA.refl _ _
  sub := fun y hy => by rw [List.nil_append, List.mem_singleton] at hy; rw [hy]; exact hx
theorem PartQ.done {ids : List Int} {adj : Int → List Int} {vis : List Int} {x : Int} {part : List Int} (h : PartQ ids adj vis x part []) : PartOf ids adj vis x part := by
  obtain ⟨h1, h2, h3, h4, h5, h6⟩ := h
  rw [List.append_nil] at h1 h2 h3 h4 h5 h6
  exact ⟨h1, h2, h3, h4, h5, h6⟩
theorem PartQ.leave {ids : List Int} {adj : Int → List Int} {vis : List Int} {x u : Int} {part q : List Int} (h : PartQ ids adj vis x part (u :: q)) : PartU ids adj vis x part u [] q :=
  ⟨h.nodup, h.new, h.has, h.closed, (fun _ hz => nomatch hz), h.reach, h.sub⟩
theorem PartU.skip {ids : List Int} {adj : Int → List Int} {vis : List Int} {x u z : Int} {part pre q : List Int} (h : PartU ids adj vis x part u pre q) (hz : z ∈ vis ++ (part ++ u :: q)) : PartU ids adj vis x part u (pre ++ [z]) q :=
  ⟨h.nodup, h.new, h.has, h.closed, fun y hy => by
    rcases List.mem_append.1 hy with hy | hy
    · exact h.looked y hy
    · rw [List.mem_singleton.1 hy]; exact List.mem_append.1 hz, h.reach, h.sub⟩
theorem PartU.add {ids : List Int} {adj : Int → List Int} {vis : List Int} {x u z : Int} {part pre q : List Int} (h : PartU ids adj vis x part u pre q) (hz : z ∉ vis ++ (part ++ u :: q)) (hu : z ∈ adj u) (hi : z ∈ ids) : PartU ids adj vis x part u (pre ++ [z]) (q ++ [z]) := by
  have e : part ++ u :: (q ++ [z]) = (part ++ u :: q) ++ [z] := by simp
  have hin : ∀ y, y ∈ part ++ u :: (q ++ [z]) → y ∈ part ++ u :: q ∨ y = z := fun y hy => by
    rw [e] at hy
    rcases List.mem_append.1 hy with hy | hy
    · exact .inl hy
    · exact .inr (List.mem_singleton.1 hy)
  have hzv : z ∉ vis := fun h => hz (List.mem_append_left _ h)
  have hzp : z ∉ part ++ u :: q := fun h => hz (List.mem_append_right _ h)
  have hup : u ∈ part ++ u :: q := by simp
  have hle : ∀ y, y ∈ part ++ u :: q → y ∈ part ++ u :: (q ++ [z]) := fun y hy => by rw [e]; exact List.mem_append_left _ hy
  have hze : z ∈ part ++ u :: (q ++ [z]) := by rw [e]; exact List.mem_append_right _ (List.mem_singleton.2 rfl)
  refine ⟨?_, fun y hy => ?_, hle _ h.has, fun y hy w hw => (h.closed y hy w hw).imp id (hle w), fun y hy => ?_, fun y hy => ?_, fun y hy => ?_⟩
  · rw [e, List.nodup_append]
    exact ⟨h.nodup, by simp, fun a ha b hb => by rw [List.mem_singleton.1 hb]; intro e'; exact hzp (e' ▸ ha)⟩
  · rcases hin y hy with h1 | h1
    · exact h.new y h1
    · rw [h1]; exact hzv
  · rcases List.mem_append.1 hy with hy | hy
    · exact (h.looked y hy).imp id (hle y)
    · rw [List.mem_singleton.1 hy]; exact .inr hze
  · rcases hin y hy with h1 | h1
    · exact h.reach y h1
    · rw [h1]; exact (h.reach u hup).step hu
  · rcases hin y hy with h1 | h1
    · exact h.sub y h1
    · rw [h1]; exact hi
theorem PartU.done {ids : List Int} {adj : Int → List Int} {vis : List Int} {x u : Int} {part q : List Int} (h : PartU ids adj vis x part u (adj u) q) : PartQ ids adj vis x (part ++ [u]) q := by
  have e : part ++ [u] ++ q = part ++ u :: q := by simp
  refine ⟨by rw [e]; exact h.nodup, by rw [e]; exact h.new, by rw [e]; exact h.has, ?_, by rw [e]; exact h.reach, by rw [e]; exact h.sub⟩
  rw [e]
  intro y hy z hz
  rcases List.mem_append.1 hy with hy | hy
  · exact h.closed y hy z hz
  · rw [List.mem_singleton.1 hy] at hz; exact h.looked z hz

/-- The walker and its caller in memory. -/
structure BWalkSt (w0 : World) (T0 : Nat → Prop) (C : World → (Nat → Prop) → List Int → Prop) (bd hd : Nat) (m : Option Nat) (v : Value) (S : Nat → Prop) (vis q p : List Int) (w : World) : Prop where
  df : BfSt w bd (bd + 1) hd v m q
  emp : q = [] → hd = 0
  set : SetV w m vis
  cl : C w S p
  mne : ∀ b, m = some b → b ≠ bd ∧ ¬ S b ∧ v.ownBlock ≠ some b
  vne : ∀ g, v.ownBlock = some g → ¬ S g
  sne : ¬ S bd
  foot : Foot T0 w0 w
  new : ∀ j, S j ∨ some j = v.ownBlock ∨ m = some j ∨ j = bd → T0 j ∨ w0.heap.size ≤ j

section
variable {fU : FuncId} {cU : Array Value} {stop : Int → Bool} {C : World → (Nat → Prop) → List Int → Prop} {w0 w w' : World} {T0 : Nat → Prop} {bd hd hd' : Nat} {v v' : Value} {m : Option Nat} {S S' : Nat → Prop} {vis q q' p p' : List Int}


/-- The queue has changed. -/
theorem BWalkSt.stepD (hc : ClientU fU cU stop C) (h : BWalkSt w0 T0 C bd hd m v S vis q p w) (hdf : BfSt w' bd (bd + 1) hd' v' m q') (he : q' = [] → hd' = 0) (hf : Foot (fun j => j = bd ∨ some j = v.ownBlock) w w') (hv : Fresh w v v') : BWalkSt w0 T0 C bd hd' m v' S vis q' p w' := by
  have hlt := hc.lt w S p h.cl
  have hm : ∀ b, m = some b → b < w.heap.size := fun b e => by have := h.set; rw [e] at this; exact this.lt
  have hS : ∀ j, S j → ¬ (j = bd ∨ some j = v.ownBlock) := fun j hj e => by
    rcases e with e | e
    · exact h.sne (e ▸ hj)
    · exact h.vne j e.symm hj
  have hmu : ∀ b, m = some b → ¬ (b = bd ∨ some b = v.ownBlock) := fun b e h1 => by
    rcases h1 with h1 | h1
    · exact (h.mne b e).1 h1
    · exact (h.mne b e).2.2 h1.symm
  refine ⟨hdf, he, h.set.foot hf hmu, hc.keeps w w' S p h.cl hf.size (fun j hj => hf.block j (hlt j hj) (hS j hj)), fun b e => ⟨(h.mne b e).1, (h.mne b e).2.1, fun e' => ?_⟩, fun g hg => ?_, h.sne, h.foot.trans hf (fun j hj => ?_), fun j hj => ?_⟩
  · rcases hv with hv | hv
    · exact (h.mne b e).2.2 (hv ▸ e')
    · have := hv b e'; have := hm b e; omega
  · rcases hv with hv | hv
    · exact h.vne g (hv ▸ hg)
    · have := hv g hg
      exact fun hs => by have := hlt g hs; omega
  · exact h.new j (by rcases hj with hj | hj; exact .inr (.inr (.inr hj)); exact .inr (.inl hj))
  · rcases hj with hj | hj | hj | hj
    · exact h.new j (.inl hj)
    · rcases hv with hv | hv
      · exact h.new j (.inr (.inl (by rw [hj, hv])))
      · right; have := hv j hj.symm; have := h.foot.size; omega
    · exact h.new j (.inr (.inr (.inl hj)))
    · exact h.new j (.inr (.inr (.inr hj)))

/-- Nothing has changed but for new blocks. -/
theorem BWalkSt.stepB (hc : ClientU fU cU stop C) (h : BWalkSt w0 T0 C bd hd m v S vis q p w) (hb : Below w.heap.size w w') : BWalkSt w0 T0 C bd hd m v S vis q p w' :=
  h.stepD hc (h.df.foot (Foot.of_below hb (fun _ => False)) (fun h => h) (fun _ _ h => h)) h.emp (Foot.of_below hb _) (.inl rfl)

/-- The set has changed. -/
theorem BWalkSt.stepM (hc : ClientU fU cU stop C) {b : Nat} {y : Int} (h : BWalkSt w0 T0 C bd hd (some b) v S vis q p w) (hs : GM Tryz.prog 2 w' b (vis.length + 1) (setF (vis ++ [y]))) (hg : w.grownBy w' (some b)) : BWalkSt w0 T0 C bd hd (some b) v S (vis ++ [y]) q p w' := by
  have hlt := hc.lt w S p h.cl
  have hf := Foot.of_grown hg
  obtain ⟨m1, m3, m4⟩ := h.mne b rfl
  exact ⟨h.df.foot hf (fun e => m1 e.symm) (fun g hg e => m4 (e ▸ hg)), h.emp, .inr ⟨b, rfl, by rw [List.length_append]; exact hs⟩, hc.keeps w w' S p h.cl hf.size (fun j hj => hf.block j (hlt j hj) (fun e => m3 (e ▸ hj))), h.mne, h.vne, h.sne, h.foot.trans hf (fun j hj => h.new j (.inr (.inr (.inl (by rw [hj]))))), h.new⟩

/-- The set is made. -/
theorem BWalkSt.stepN (hc : ClientU fU cU stop C) (h : BWalkSt w0 T0 C bd hd none v S vis q p w) : BWalkSt w0 T0 C bd hd (some w.heap.size) v S vis q p ((w.setCell ⟨bd, 4, none⟩ (.map (some w.heap.size))).alloc (.map #[] 0)) := by
  have hlt := hc.lt w S p h.cl
  have hbd := h.df.lt
  have hvis : vis = [] := by
    rcases h.set with ⟨_, h⟩ | ⟨b, h, _⟩
    · exact h
    · cases h
  have hsz : (w.setCell ⟨bd, 4, none⟩ (.map (some w.heap.size))).heap.size = w.heap.size := by simp [World.setCell]
  have hf : Foot (· = bd) w ((w.setCell ⟨bd, 4, none⟩ (.map (some w.heap.size))).alloc (.map #[] 0)) :=
    ((Foot.refl (fun j => j = bd) w).setCell bd 4 _ (.inl rfl)).trans (Foot.of_below ((Below.refl _ _).alloc (Nat.le_refl _) _) (fun _ => False)) (fun _ h => h.elim)
  have hdf : BfSt ((w.setCell ⟨bd, 4, none⟩ (.map (some w.heap.size))).alloc (.map #[] 0)) bd (bd + 1) hd v (some w.heap.size) q := by
    obtain ⟨junk, hj, hr⟩ := h.df.row
    exact ⟨by rw [heap_alloc_old _ _ (by rw [hsz]; exact hbd), heap_setCell_same h.df.blk]; rfl, ⟨junk, hj, hf.row hr (fun g hg e => by have := h.df.own hg; omega)⟩, h.df.lo_⟩
  refine ⟨hdf, h.emp, .inr ⟨_, rfl, ?_⟩, hc.keeps w _ S p h.cl hf.size (fun j hj => hf.block j (hlt j hj) (fun e => h.sne (e ▸ hj))), fun b e => ?_, h.vne, h.sne, h.foot.trans hf (fun j hj => h.new j (.inr (.inr (.inr hj)))), fun j hj => ?_⟩
  · subst hvis
    have h1 := GM.made (w.setCell ⟨bd, 4, none⟩ (.map (some w.heap.size))) Tryz.prog 2
    rw [hsz] at h1
    exact h1.congr (g := setF []) (fun x => by simp [setF])
  · obtain rfl := Option.some.inj e
    exact ⟨by omega, fun hs => by have := hlt _ hs; omega, fun e' => by have := (h.df.own e').2; omega⟩
  · rcases hj with hj | hj | hj | hj
    · exact h.new j (.inl hj)
    · exact h.new j (.inr (.inl hj))
    · right; have := Option.some.inj hj; have := h.foot.size; omega
    · exact h.new j (.inr (.inr (.inr hj)))

/-- The caller's part has changed. -/
theorem BWalkSt.stepC {C2 : World → (Nat → Prop) → List Int → Prop} (h : BWalkSt w0 T0 C bd hd m v S vis q p w) (hcl : C2 w' S' p') (hf : Foot S w w') (hS : ∀ j, S' j → S j ∨ w.heap.size ≤ j) : BWalkSt w0 T0 C2 bd hd m v S' vis q p' w' := by
  have hbd := h.df.lt
  have hm : ∀ b, m = some b → b < w.heap.size := fun b e => by have := h.set; rw [e] at this; exact this.lt
  have hno : ∀ j, j < w.heap.size → ¬ S j → ¬ S' j := fun j h1 h2 h3 => by rcases hS j h3 with h | h; exact h2 h; omega
  refine ⟨h.df.foot hf h.sne (fun g hg => h.vne g hg), h.emp, h.set.foot hf (fun b e => (h.mne b e).2.1), hcl, fun b e => ⟨(h.mne b e).1, hno b (hm b e) (h.mne b e).2.1, (h.mne b e).2.2⟩, fun g hg => hno g (h.df.own hg).2 (h.vne g hg), hno bd hbd h.sne, h.foot.trans hf (fun j hj => h.new j (.inl hj)), fun j hj => ?_⟩
  rcases hj with hj | hj
  · rcases hS j hj with h1 | h1
    · exact h.new j (.inl h1)
    · right; have := h.foot.size; omega
  · exact h.new j (.inr hj)

/-- The world at hand as the beginning. -/
theorem BWalkSt.rebase (h : BWalkSt w0 T0 C bd hd m v S vis q p w) : BWalkSt w (fun j => S j ∨ some j = v.ownBlock ∨ m = some j ∨ j = bd) C bd hd m v S vis q p w :=
  ⟨h.df, h.emp, h.set, h.cl, h.mne, h.vne, h.sne, Foot.refl _ _, fun _ hj => .inl hj⟩
/-- And back. -/
theorem BWalkSt.unbase {C' : World → (Nat → Prop) → List Int → Prop} {m' : Option Nat} {vis' : List Int} (h : BWalkSt w0 T0 C bd hd m v S vis q p w) (g : BWalkSt w (fun j => S j ∨ some j = v.ownBlock ∨ m = some j ∨ j = bd) C' bd hd' m' v' S' vis' q' p' w') : BWalkSt w0 T0 C' bd hd' m' v' S' vis' q' p' w' :=
  ⟨g.df, g.emp, g.set, g.cl, g.mne, g.vne, g.sne, h.foot.trans g.foot (fun j hj => h.new j hj), fun j hj => by
    rcases g.new j hj with h1 | h1
    · exact h.new j h1
    · exact .inr (Nat.le_trans h.foot.size h1)⟩
/-- Other blocks have changed, of those that are new. -/
theorem BWalkSt.stepF (hc : ClientU fU cU stop C) (h : BWalkSt w0 T0 C bd hd m v S vis q p w) {U : Nat → Prop} (hf : Foot U w w') (hU : ∀ j, U j → ¬ (S j ∨ some j = v.ownBlock ∨ m = some j ∨ j = bd)) (hU2 : ∀ j, U j → w0.heap.size ≤ j) : BWalkSt w0 T0 C bd hd m v S vis q p w' := by
  have hlt := hc.lt w S p h.cl
  exact ⟨h.df.foot hf (fun e => hU _ e (.inr (.inr (.inr rfl)))) (fun g hg e => hU _ e (.inr (.inl hg.symm))), h.emp, h.set.foot hf (fun b e hb => hU _ hb (.inr (.inr (.inl e)))), hc.keeps w w' S p h.cl hf.size (fun j hj => hf.block j (hlt j hj) (fun e => hU _ e (.inl hj))), h.mne, h.vne, h.sne, h.foot.trans hf (fun j hj => .inr (hU2 j hj)), h.new⟩
end
end Go.Proofs.YtbkoifdnlaihfaaGreat
namespace Go.Proofs.YtbkoifdnlaihfaaGreat
open Go.RowKit

theorem neq_fNodeIB (f : Fn) (a c : Array Value) (w : World) : (binOp .neq 134 (.func f a c) .nilFunc).run Tryz.prog w = .ok (.bool true) w := by kernel_rfl

section
variable {fU : FuncId} {cU : Array Value} {stop : Int → Bool} {C : World → (Nat → Prop) → List Int → Prop}

def BWalkPost (ids : List Int) (adj : Int → List Int) (w0 : World) (T0 : Nat → Prop) (C : World → (Nat → Prop) → List Int → Prop) (stop : Int → Bool) (bd : Nat) (vis : List Int) (x : Int) (p0 : List Int) (e : Ending) (w' : World) : Prop :=
  (e = .returned .nilIface ∧ ∃ b v S part, BWalkSt w0 T0 C bd 0 (some b) v S (vis ++ part) [] (p0 ++ part) w' ∧ PartOf ids adj vis x part ∧ ∀ y ∈ part, stop y = false) ∨
  (∃ u, e = .returned (nodeV u) ∧ stop u = true ∧ u ∈ ids ∧ ReachA adj x u ∧ Foot T0 w0 w')

/-- The queue while the nodes that u leads to are laid into it. -/
theorem BWalkSt.keepI (hc : ClientU fU cU stop C) {w0 w w' : World} {T0 : Nat → Prop} {bd hd : Nat} {v : Value} {m : Option Nat} {S : Nat → Prop} {vis q p : List Int} {B E : Nat} (h : BWalkSt w0 T0 C bd hd m v S vis q p w) (hw : Within B E w w') (hB : w0.heap.size ≤ B) (hav : ∀ j, S j ∨ some j = v.ownBlock ∨ m = some j ∨ j = bd → j < B ∨ E ≤ j) : BWalkSt w0 T0 C bd hd m v S vis q p w' :=
  h.stepF hc (Foot.of_within hw) (fun j hj h1 => by have := hav j h1; omega) (fun j hj => by omega)

set_option maxHeartbeats 8000000 in
set_option maxRecDepth 100000 in
theorem bWalk_calls {t : TypeId} {recv : Value} {fNs fFr : FuncId} {G : World → Prop} {ids : List Int} {adj : Int → List Int} (hG : GraphR t recv fNs fFr G ids adj) (hc : ClientU fU cU stop C) {w0 w : World} {T0 : Nat → Prop} (hg : ∀ w', Foot T0 w0 w' → G w')
    (hwf : ∀ y ∈ ids, (Lit.int .i64 y).wf = true) (hn : ids.length ≤ 100000)
    {bd : Nat} {m : Option Nat} {v : Value} {S : Nat → Prop} {vis p0 : List Int} {x : Int} (h : BWalkSt w0 T0 C bd 0 m v S vis [] p0 w)
    (hx : x ∈ ids) (hxv : x ∉ vis) (hvn : vis.Nodup) (hvs : ∀ y ∈ vis, y ∈ ids) (hp0 : p0.length ≤ 100000) :
    Calls Tryz.prog 75 #[.pointer (some ⟨bd, 0, none⟩), .iface t recv, nodeV x, .func (.func fU) #[] cU] w (BWalkPost ids adj w0 T0 C stop bd vis x p0) := by
  have HG := Lib.hid hG; have HC := Lib.hid hc; have HGG := Lib.hid hg; have HWF := Lib.hid hwf
  have HX := Lib.hid hx; have HXV := Lib.hid hxv; have HVN := Lib.hid hvn; have HVS := Lib.hid hvs
  have HCLO := Lib.hid (fun u y hu hy => hG.closed w u y (hg w h.foot) hu hy)
  have m1 := hG.mFrom; have m2 := hG.aFrom; have m3 := hG.eFrom
  have m4 := method_ID; have m5 := neq_fNodeIB; have m6 := nil_fNode; have m7 := nil_fEdgeB; have m8 := hc.eU
  have hmm := @run_makeMap Tryz.prog
  obtain ⟨q0, q1, q2, q3, q4, q5⟩ := h.df.cells
  have f4 := q5 4
  have HW := Lib.hid h
  have hbd := h.df.lt
  have heq := eql_map m w
  have hwx := hwf x hx
  obtain ⟨b0, hb0⟩ : ∃ b, m.isNone = b := ⟨_, rfl⟩
  rw [hb0] at heq
  have HB0 := Lib.hid hb0
  clear hG hc hg hwf hx hxv hvn hvs h hb0 q0 q1 q2 q3 q5
  unfold nodeV
  go_enter Tryz.func75, Tryz.ntmps75
  go_upto_if 21 with fail
  go_cut [] (fun wc => ∃ b, BWalkSt w0 T0 C bd 0 (some b) v S vis [] p0 wc)
  case first =>
    cases b0
    · go_wp2
      go_meet
      cases m with
      | none => cases HB0.out
      | some b => exact ⟨b, HW.out⟩
    · obtain rfl : m = none := by have := HB0.out; cases m <;> simp at this; rfl
      go_wp2_with fail
      go_meet
      exact ⟨_, HW.out.stepN HC.out⟩
  case rest =>
    obtain ⟨b, hw1⟩ := hcut
    obtain ⟨w1, rfl⟩ : ∃ w1 : World, w1 = wc := ⟨_, rfl⟩
    clear heq HB0 HW q4 f4 hbd hmm
    have HW1 := Lib.hid hw1
    have hbd := hw1.df.lt
    clear hw1
    go_wp2_with fail
    refine (enq_calls bd (bd + 1) 0 v (some b) [] x w1 HW1.out.df (by omega) (by simp) (fun _ => rfl)).mono ?_
    rintro e w2 ⟨rfl, hd2, v2, hdf2, hle2, hf2, hfr2⟩
    obtain rfl : hd2 = 0 := by omega
    have HW2 := Lib.hid (HW1.out.stepD HC.out hdf2 (fun h => nomatch h) hf2 hfr2)
    clear hdf2 hf2 hfr2 HW1 hbd hle2
    obtain ⟨q0, q1, q2, q3, q4, q5⟩ := HW2.out.df.cells
    have hvl : vis.length ≤ ids.length := nodup_len HVN.out HVS.out
    go_wp2_with fail
    go_region
    go_wp2_with fail
    obtain ⟨w3, hw3⟩ : ∃ w3, w3 = w2.drew := ⟨_, rfl⟩
    have HW3 : Hid (BWalkSt w0 T0 C bd 0 (some b) v2 S vis [x] p0 w3) := by rw [hw3]; exact HW2.out.stepB HC.out (below_drewN (Below.refl _ _) 1)
    have z4 : w3.cell? ⟨bd, 4, none⟩ = some (.map (some b)) := by rw [hw3]; exact q4
    rw [← hw3]
    clear hw3 HW2 q0 q1 q2 q3 q4 q5
    have HGM : Hid (GM Tryz.prog 2 w3.drew b vis.length (setF vis)) := by
      rcases HW3.out.set with ⟨h, _⟩ | ⟨b', h, h2⟩
      · cases h
      · cases h; exact h2.of_heap rfl
    have HNE : Hid (b ≠ bd) := (HW3.out.mne b rfl).1
    have hbd3 := HW3.out.df.lt
    go_region_held3 (fun w' => w'.cell? ⟨bd, 4, none⟩ = some (.map (some b)))
      (first | with_reducible exact s4 | go_keep)
      (first
        | (go_at_call 267; refine (nodeID_calls x (w3.drewN 1)).mono ?_; rintro e w' ⟨rfl, rfl⟩)
        | (go_at_call 114; refine (add64_calls b vis x (w3.drewN 1) HGM.out (by omega) hwx).mono ?_; rintro e w4 ⟨rfl, hgm4, hg4⟩; have s4 := (hg4.cell_far ⟨bd, 4, none⟩ hbd3 (fun e => HNE.out (Option.some.inj e).symm)).trans z4))
    have HW4 : Hid (BWalkSt w0 T0 C bd 0 (some b) v2 S (vis ++ ([] ++ [x])) [x] (p0 ++ []) w4) := by
      rw [List.append_nil, List.nil_append]
      exact Lib.hid ((HW3.out.stepB HC.out (below_drewN (Below.refl _ _) 1)).stepM HC.out hgm4 hg4)
    clear hgm4 hg4 s4 z4 HGM HNE HW3 hbd3
    go_wp2_with fail
    go_loopg [9, 10, 11] (ids.length + 1) (fun g s9 s10 s11 wr => ∃ (d c n : Int) (hd : Nat) (v : Value) (S : Nat → Prop) (part q : List Int), s9 = .int .i64 d ∧ s10 = .int .i64 c ∧ s11 = .int .i64 n ∧ BWalkSt w0 T0 C bd hd (some b) v S (vis ++ (part ++ q)) q (p0 ++ part) wr ∧ PartQ ids adj vis x part q ∧ hd ≤ part.length ∧ (∀ y ∈ part, stop y = false) ∧ ids.length + 1 ≤ g + part.length)
    case atStart => exact ⟨0, 0, 1, 0, v2, S, [], [x], rfl, rfl, rfl, HW4.out, PartQ.start HX.out HXV.out, Nat.le_refl _, (fun _ h => nomatch h), by simp⟩
    case round =>
      obtain ⟨d, c, n, hd, v3, S3, part, q, rfl, rfl, rfl, hw3, hp3, hhd, hst, hgk⟩ := hrel
      clear HW4
      have HW3 := Lib.hid hw3; have HP3 := Lib.hid hp3; have HST := Lib.hid hst
      have hpl : (part ++ q).length ≤ ids.length := nodup_len hp3.nodup hp3.sub
      rw [List.length_append] at hpl
      clear hw3 hp3 hst
      cases q with
      | nil =>
        go_wp2_with fail
        refine (qlen_calls bd (bd + 1) hd v3 (some b) [] wr HW3.out.df (by simp only [List.length_nil]; omega)).mono ?_
        rintro e w4 ⟨rfl, n4, rfl⟩
        rw [show (((([] : List Int).length : Nat)) : Int) = 0 from rfl]
        have HW4 := Lib.hid (HW3.out.stepB HC.out (below_drewN (Below.refl wr.heap.size wr) n4))
        obtain rfl := HW3.out.emp rfl
        go_wp2_with fail
        go_ret
        refine .inl ⟨rfl, b, v3, S3, part, ?_, HP3.out.done, HST.out⟩
        have := HW4.out
        rw [List.append_nil] at this
        exact this
      | cons u q =>
        simp only [List.length_cons] at hpl
        have hlt1 : decide ((0 : Int) < (q.length : Int) + 1) = true := decide_eq_true (by omega)
        go_wp2_with fail
        refine (qlen_calls bd (bd + 1) hd v3 (some b) (u :: q) wr HW3.out.df (by simp only [List.length_cons]; omega)).mono ?_
        rintro e w4 ⟨rfl, n4, rfl⟩
        rw [show (((u :: q).length : Nat) : Int) = (q.length : Int) + 1 by simp]
        have HW4 := Lib.hid (HW3.out.stepB HC.out (below_drewN (Below.refl wr.heap.size wr) n4))
        obtain ⟨w4, hw4⟩ : ∃ w4, w4 = wr.drewN n4 := ⟨_, rfl⟩
        rw [← hw4] at HW4 ⊢
        clear hw4
        clear HW3
        go_wp2_with fail
        refine (deq_calls bd (bd + 1) hd v3 (some b) u q w4 HW4.out.df (by omega)).mono ?_
        rintro e w5 ⟨rfl, hd5, v5, hdf5, hle5, hem5, hf5, ho5⟩
        have HW5 := Lib.hid (HW4.out.stepD HC.out hdf5 hem5 hf5 (.inl ho5))
        clear hdf5 hem5 hf5 ho5 HW4 hlt1
        have HPU := Lib.hid HP3.out.leave
        unfold nodeV
        go_wp2_with fail
        refine (HC.out.asks w5 S3 (p0 ++ part) u d HW5.out.cl (by rw [List.length_append]; omega)).mono ?_
        rintro e w6 ⟨rfl, S6, hc6, hf6, hs6⟩
        have HW6 := Lib.hid (HW5.out.stepC hc6 hf6 hs6)
        clear hc6 hf6 hs6 HW5
        have huv : u ∈ ids := HP3.out.sub u (by simp)
        have HU := Lib.hid huv
        have hru := HP3.out.reach u (by simp)
        have HRU := Lib.hid hru
        clear huv hru
        obtain ⟨sb, hsb⟩ : ∃ sb, stop u = sb := ⟨_, rfl⟩
        have HSB := Lib.hid hsb
        rw [hsb]
        clear hsb
        cases sb
        rotate_left 1
        · go_wp2_with fail
          go_ret
          exact .inr ⟨u, rfl, HSB.out, HU.out, HRU.out, HW6.out.foot⟩
        · go_wp2_with fail
          refine (nodeID_calls u w6).mono ?_
          rintro e w' ⟨rfl, rfl⟩
          have HGR : Hid (G w6) := HGG.out w6 HW6.out.foot
          go_wp2_with fail
          refine (HG.out.frm w6 u HU.out HGR.out).mono ?_
          rintro e w8 ⟨t8, r8, fN8, fV8, P8, rfl, hI, hP, hb8⟩
          have HI8 := Lib.hid hI; have HP8 := Lib.hid hP
          have n1 := hI.it.mNext; have n2 := hI.it.aNext; have n3 := hI.it.mNode; have n4' := hI.it.aNode; have n5 := hI.it.eNext; have n6 := hI.it.eNode
          have hs8 := hb8.size
          have HW8 := Lib.hid (HW6.out.rebase.stepB HC.out hb8)
          have HAV8 : Hid (∀ j, S6 j ∨ some j = v5.ownBlock ∨ some b = some j ∨ j = bd → j < w6.heap.size ∨ w8.heap.size ≤ j) := fun j hj => by
            left
            rcases hj with hj | hj | hj | hj
            · exact HC.out.lt w6 S6 _ HW6.out.cl j hj
            · exact (HW6.out.df.own hj.symm).2
            · have h := HW6.out.set
              rw [hj] at h
              exact h.lt
            · rw [hj]; exact HW6.out.df.lt
          clear hI hP hb8 HGR
          obtain ⟨wo, rfl⟩ : ∃ wo : World, wo = wr := ⟨_, rfl⟩
          obtain ⟨go, rfl⟩ : ∃ go : Nat, go = gk := ⟨_, rfl⟩
          go_wp2_with fail
          go_loopg [10] ((adj u).length + 1) (fun g s10 wx => ∃ (c : Int) (hd : Nat) (v : Value) (q pre l : List Int) (c9 : Option Int), s10 = .int .i64 c ∧ adj u = pre ++ l ∧ BWalkSt w6 (fun j => S6 j ∨ some j = v5.ownBlock ∨ some b = some j ∨ j = bd) C bd hd (some b) v S6 (vis ++ (part ++ u :: q)) q (p0 ++ part ++ [u]) wx ∧ PartU ids adj vis x part u pre q ∧ P8 wx c9 l ∧ w8.heap.size ≤ wx.heap.size ∧
            (∀ j, S6 j ∨ some j = v.ownBlock ∨ some b = some j ∨ j = bd → j < w6.heap.size ∨ w8.heap.size ≤ j) ∧ hd ≤ part.length + 1 ∧ l.length < g)
          case atStart => exact ⟨c, hd5, v5, q, [], adj u, none, rfl, rfl, HW8.out, HPU.out, HP8.out, Nat.le_refl _, HAV8.out, by omega, by omega⟩
          case round =>
            obtain ⟨c9, hd9, v9, q9, pre, l, cc, rfl, hpre, hw9, hpu9, hp9, hsr, hav9, hhd9, hl9⟩ := hrel
            have HPRE := Lib.hid hpre; have HW9 := Lib.hid hw9; have HPU9 := Lib.hid hpu9; have HP9 := Lib.hid hp9; have HAV9 := Lib.hid hav9
            clear hpre hw9 hpu9 hp9 hav9 HP8 HW8 HAV8
            cases l with
            | nil =>
              have hab : ∀ z : Int, (z == 0) = true ∨ (z == 0) = false := fun z => by cases (z == 0) <;> simp
              go_wp2_with fail
              refine (HI8.out.it.next wr cc [] HP9.out).mono ?_
              rintro e w9 ⟨rfl, -, hw9⟩
              have HW10 := Lib.hid (HW9.out.keepI HC.out hw9 (Nat.le_refl _) HAV9.out)
              rw [show (!([] : List Int).isEmpty) = false from rfl]
              clear hw9
              have HPE : Hid (adj u = pre) := by rw [HPRE.out, List.append_nil]; exact Lib.hid rfl
              have HPQ : Hid (PartQ ids adj vis x (part ++ [u]) q9) := by
                have := HPU9.out
                rw [← HPE.out] at this
                exact this.done
              have HST2 : Hid (∀ y ∈ part ++ [u], stop y = false) := fun y hy => by
                rcases List.mem_append.1 hy with hy | hy
                · exact HST.out y hy
                · rw [List.mem_singleton.1 hy]; exact HSB.out
              have HWE : Hid (BWalkSt w0 T0 C bd hd9 (some b) v9 S6 (vis ++ (part ++ [u] ++ q9)) q9 (p0 ++ (part ++ [u])) w9) := by
                have := HW6.out.unbase HW10.out
                rw [List.append_assoc p0, show part ++ u :: q9 = part ++ [u] ++ q9 by simp] at this
                exact this
              go_wp2_with fail
              all_goals
                go_roundg (go - 1)
                case measure => omega
                case rel => exact ⟨_, _, _, hd9, v9, S6, part ++ [u], q9, rfl, rfl, rfl, HWE.out, HPQ.out, by rw [List.length_append]; exact hhd9, HST2.out, by rw [List.length_append, List.length_singleton]; omega⟩
            | cons z l =>
              go_wp2_with fail
              refine (HI8.out.it.next wr cc (z :: l) HP9.out).mono ?_
              rintro e w9 ⟨rfl, hp10, hw9⟩
              have HW10 := Lib.hid (HW9.out.keepI HC.out hw9 (Nat.le_refl _) HAV9.out)
              have HP10 := Lib.hid hp10
              have hs10 := hw9.2.2.2.1
              rw [show (!(z :: l).isEmpty) = true from rfl]
              clear hw9 hp10 HW9 HP9
              go_wp2_with fail
              refine (HI8.out.it.node w9 z l HP10.out).mono ?_
              rintro e w10 ⟨rfl, hp11, hw10⟩
              have HW11 := Lib.hid (HW10.out.keepI HC.out hw10 (Nat.le_refl _) HAV9.out)
              have HP11 := Lib.hid hp11
              have hs11 := hw10.2.2.2.1
              clear hw10 hp11 HP10 HW10
              obtain ⟨q0, q1, q2, q3, q4, q5⟩ := HW11.out.df.cells
              have hzu : z ∈ adj u := by rw [HPRE.out]; simp
              have hzi : z ∈ ids := HCLO.out u z HU.out hzu
              have hwz := HWF.out z hzi
              have HZU := Lib.hid hzu; have HZI := Lib.hid hzi
              clear hzu hzi
              unfold nodeV
              go_wp2_with fail
              refine (nodeID_calls z w10).mono ?_
              rintro e w' ⟨rfl, rfl⟩
              go_wp2_with fail
              go_region
              go_wp2_with fail
              obtain ⟨w11, hw11⟩ : ∃ w11, w11 = w10.drew := ⟨_, rfl⟩
              have HW12 : Hid (BWalkSt w6 (fun j => S6 j ∨ some j = v5.ownBlock ∨ some b = some j ∨ j = bd) C bd hd9 (some b) v9 S6 (vis ++ (part ++ u :: q9)) q9 (p0 ++ part ++ [u]) w11) := by rw [hw11]; exact HW11.out.stepB HC.out (below_drewN (Below.refl _ _) 1)
              have HP12 : Hid (P8 w11 (some z) l) := by rw [hw11]; exact HI8.out.foot HP11.out (Foot.of_below (below_drewN (Below.refl w10.heap.size w10) 1) (fun _ => False)) (by omega) (fun _ h => h.elim)
              have hs12 : w8.heap.size ≤ w11.heap.size := by rw [hw11]; show _ ≤ w10.heap.size; omega
              rw [← hw11]
              clear hw11 HW11 HP11 q0 q1 q2 q3 q4 q5
              refine (has64_calls (some b) (vis ++ (part ++ u :: q9)) z w11 HW12.out.set hwz).mono ?_
              rintro e w12 ⟨rfl, hb12⟩
              have HW13 := Lib.hid (HW12.out.stepB HC.out hb12)
              have HP13 : Hid (P8 w12 (some z) l) := HI8.out.foot HP12.out (Foot.of_below hb12 (fun _ => False)) hs12 (fun _ h => h.elim)
              have hs13 := hb12.size
              clear hb12 HW12 HP12
              by_cases hin : z ∈ vis ++ (part ++ u :: q9)
              · have hd' : decide (z ∈ vis ++ (part ++ u :: q9)) = true := by simpa using hin
                rw [hd']
                have HIN := Lib.hid hin
                clear hin hd'
                go_wp2_with fail
                go_roundg (gk - 1)
                case measure => simp only [List.length_cons] at hl9; omega
                case rel => exact ⟨c9, hd9, v9, q9, pre ++ [z], l, some z, rfl, by rw [HPRE.out, List.append_assoc]; rfl, HW13.out, HPU9.out.skip HIN.out, HP13.out, by omega, HAV9.out, hhd9, by simp only [List.length_cons] at hl9; omega⟩
              · have hd' : decide (z ∈ vis ++ (part ++ u :: q9)) = false := by simpa using hin
                rw [hd']
                have HIN := Lib.hid hin
                clear hin hd'
                obtain ⟨q0, q1, q2, q3, q4, q5⟩ := HW13.out.df.cells
                have hvp : (vis ++ (part ++ u :: q9)).length ≤ ids.length := nodup_len (List.nodup_append.2 ⟨HVN.out, HPU9.out.nodup, fun a ha c hc e => HPU9.out.new c hc (e ▸ ha)⟩) (fun y hy => by
                  rcases List.mem_append.1 hy with hy | hy
                  · exact HVS.out y hy
                  · exact HPU9.out.sub y hy)
                have hql : q9.length ≤ ids.length := by
                  simp only [List.length_append, List.length_cons] at hvp
                  omega
                have HGM : Hid (GM Tryz.prog 2 w12 b (vis ++ (part ++ u :: q9)).length (setF (vis ++ (part ++ u :: q9)))) := by
                  rcases HW13.out.set with ⟨h, _⟩ | ⟨b', h, h2⟩
                  · cases h
                  · cases h; exact h2
                go_wp2_with fail
                refine (add64_calls b (vis ++ (part ++ u :: q9)) z w12 HGM.out (by omega) hwz).mono ?_
                rintro e w13 ⟨rfl, hgm13, hg13⟩
                have HW14 : Hid (BWalkSt w6 (fun j => S6 j ∨ some j = v5.ownBlock ∨ some b = some j ∨ j = bd) C bd hd9 (some b) v9 S6 (vis ++ (part ++ u :: (q9 ++ [z]))) q9 (p0 ++ part ++ [u]) w13) := by
                  have := HW13.out.stepM HC.out hgm13 hg13
                  rw [show vis ++ (part ++ u :: q9) ++ [z] = vis ++ (part ++ u :: (q9 ++ [z])) by simp] at this
                  exact this
                have HP14 : Hid (P8 w13 (some z) l) := HI8.out.foot HP13.out (Foot.of_grown hg13) (by omega) (fun j hj => HAV9.out j (.inr (.inr (.inl (by rw [hj])))))
                have hs14 := hg13.size
                clear hgm13 hg13 HW13 HP13 HGM q0 q1 q2 q3 q4 q5
                have hbd14 := HW14.out.df.lt
                go_wp2_with fail
                refine (enq_calls bd (bd + 1) hd9 v9 (some b) q9 z w13 HW14.out.df (by omega) (by omega) HW14.out.emp).mono ?_
                rintro e w14 ⟨rfl, hd15, v15, hdf15, hle15, hf15, hfr15⟩
                have HW15 := Lib.hid (HW14.out.stepD HC.out hdf15 (fun h => by simp at h) hf15 hfr15)
                have HP15 : Hid (P8 w14 (some z) l) := HI8.out.foot HP14.out hf15 (by omega) (fun j hj => HAV9.out j (by rcases hj with hj | hj; exact .inr (.inr (.inr hj)); exact .inr (.inl hj)))
                have HAV15 : Hid (∀ j, S6 j ∨ some j = v15.ownBlock ∨ some b = some j ∨ j = bd → j < w6.heap.size ∨ w8.heap.size ≤ j) := fun j hj => by
                  rcases hj with hj | hj | hj
                  · exact HAV9.out j (.inl hj)
                  · rcases hfr15 with h | h
                    · exact HAV9.out j (.inr (.inl (by rw [hj, h])))
                    · right; have := h j hj.symm; omega
                  · exact HAV9.out j (.inr (.inr hj))
                have hs15 := hf15.size
                clear hdf15 hf15 hfr15 HW14 HP14
                go_wp2
                go_roundg (gk - 1)
                case measure => simp only [List.length_cons] at hl9; omega
                case rel => exact ⟨_, hd15, v15, q9 ++ [z], pre ++ [z], l, some z, rfl, by rw [HPRE.out, List.append_assoc]; rfl, HW15.out, HPU9.out.add HIN.out HZU.out HZI.out, HP15.out, by omega, HAV15.out, by omega, by simp only [List.length_cons] at hl9; omega⟩
end
end Go.Proofs.YtbkoifdnlaihfaaGreat
