/- What a whole walk of Tarjan's leaves; the strongly connected components of a graph that is turned round; lists of lists in lexical order. -/
import Derived.Test.YtnfkbjgijelfdaaGreatTarP
import Derived.Test.YtnfkbjgijelfdaaGreatCmp
namespace Go.Proofs.YtnfkbjgijelfdaaGreat

section
variable {adj : Int → List Int}
theorem TRun.cnt {ids : List Int} (hadj : ∀ a, ∀ b ∈ adj a, b ∈ ids) {s s' : TS} {l : List Int} (h : TRun adj s l s') : (∀ y ∈ l, y ∈ ids) → TCnt ids s s' := by
  induction h with
  | nil s => exact fun _ => TCnt.refl _ _
  | @visit w s s1 s' r h0 h1 h2 ih =>
    intro hl
    have hw := hl w (by simp)
    have g1 := ((TCnt.enter hw h0).trans (h1.cnt hadj (hadj w))).of_eq (leave_tab s1 w).1 (leave_tab s1 w).2.1
    exact g1.trans (ih (fun y hy => hl y (List.mem_cons_of_mem _ hy)))
  | @skip w s s' r h0 h1 ih => exact fun hl => ih (fun y hy => hl y (List.mem_cons_of_mem _ hy))

/-- What a whole walk leaves. -/
structure TFin (ids : List Int) (adj : Int → List Int) (s : TS) : Prop where
  nd : s.sccs.flatten.Nodup
  mem : ∀ x, x ∈ s.sccs.flatten ↔ x ∈ ids
  ne : ∀ c ∈ s.sccs, c ≠ []
  scc : ∀ c ∈ s.sccs, ∀ x ∈ c, ∀ y, y ∈ c ↔ (ReachA adj x y ∧ ReachA adj y x)
  ord : ∀ (i : Nat) (c : List Int) (x y : Int), s.sccs[i]? = some c → x ∈ c → y ∈ adj x → ∃ j c', j ≤ i ∧ s.sccs[j]? = some c' ∧ y ∈ c'

theorem TRun.fin {ids : List Int} (hadj : ∀ a, ∀ b ∈ adj a, b ∈ ids) {s : TS} {l : List Int} (h : TRun adj TS.start l s) (hl : ∀ x, x ∈ l ↔ x ∈ ids) : TFin ids adj s := by
  obtain ⟨hi, -, hm⟩ := h.inv TInv.start
  have hc := h.cnt hadj (fun y hy => (hl y).1 hy)
  have hst := hi.empty_stack
  have hnd := hi.nd
  rw [hst, List.nil_append] at hnd
  refine ⟨hnd, fun x => ⟨fun hx => ?_, fun hx => ?_⟩, fun c hc => (hi.scc c hc).1, fun c hc => (hi.scc c hc).2, hi.ord⟩
  · rcases hc.sub x ((hi.met x).2 (.inr hx)) with h0 | h0
    · exact absurd rfl h0
    · exact h0
  · rcases (hi.met x).1 (hm x ((hl x).2 hx)) with h0 | h0
    · rw [hst] at h0; cases h0
    · exact h0
end

section
variable {ids : List Int} {adj adj' : Int → List Int} {s s' : TS}
theorem TFin.nodup_of (h : TFin ids adj s) {c : List Int} (hc : c ∈ s.sccs) : c.Nodup := h.nd.sublist (List.sublist_flatten_of_mem hc)
theorem TFin.sub (h : TFin ids adj s) {c : List Int} (hc : c ∈ s.sccs) {x : Int} (hx : x ∈ c) : x ∈ ids := (h.mem x).1 (List.mem_flatten.2 ⟨c, hc, hx⟩)
theorem TFin.at (h : TFin ids adj s) {x : Int} (hx : x ∈ ids) : ∃ c ∈ s.sccs, x ∈ c := by
  obtain ⟨c, h1, h2⟩ := List.mem_flatten.1 ((h.mem x).2 hx)
  exact ⟨c, h1, h2⟩
theorem TFin.map_nodup (h : TFin ids adj s) : (s.sccs.map sortI).Nodup := by
  have h1 := h.nd
  have h2 := h.ne
  generalize s.sccs = L at h1 h2
  induction L with
  | nil => simp
  | cons c L ih =>
    rw [List.flatten_cons, List.nodup_append] at h1
    rw [List.map_cons, List.nodup_cons]
    refine ⟨fun hm => ?_, ih h1.2.1 (fun d hd => h2 d (List.mem_cons_of_mem _ hd))⟩
    obtain ⟨d, hd, e⟩ := List.mem_map.1 hm
    obtain ⟨x, hx⟩ := List.exists_mem_of_ne_nil c (h2 c (by simp))
    have hxd : x ∈ d := by
      have := mem_sortI.2 hx
      rw [← e] at this
      exact mem_sortI.1 this
    exact h1.2.2 x hx x (List.mem_flatten.2 ⟨d, hd, hxd⟩) rfl

theorem sortI_congr {a b : List Int} (ha : a.Nodup) (hb : b.Nodup) (h : ∀ x, x ∈ a ↔ x ∈ b) : sortI a = sortI b :=
  sortI_unique ((sortI_perm a).trans ((List.perm_ext_iff_of_nodup ha hb).2 h)) (sortI_pw a)

theorem TFin.same_sub (h : TFin ids adj s) (h' : TFin ids adj' s') (hr : ∀ x ∈ ids, ∀ y ∈ ids, (ReachA adj x y ∧ ReachA adj y x) ↔ (ReachA adj' x y ∧ ReachA adj' y x)) (l : List Int) (hl : l ∈ s.sccs.map sortI) : l ∈ s'.sccs.map sortI := by
  obtain ⟨c, hc, rfl⟩ := List.mem_map.1 hl
  obtain ⟨x, hx⟩ := List.exists_mem_of_ne_nil c (h.ne c hc)
  have hxi := h.sub hc hx
  obtain ⟨d, hd, hxd⟩ := h'.at hxi
  refine List.mem_map.2 ⟨d, hd, sortI_congr (h'.nodup_of hd) (h.nodup_of hc) (fun y => ⟨fun hy => ?_, fun hy => ?_⟩)⟩
  · exact (h.scc c hc x hx y).2 ((hr x hxi y (h'.sub hd hy)).2 ((h'.scc d hd x hxd y).1 hy))
  · exact (h'.scc d hd x hxd y).2 ((hr x hxi y (h.sub hc hy)).1 ((h.scc c hc x hx y).1 hy))

/-- The same components. -/
theorem TFin.same (h : TFin ids adj s) (h' : TFin ids adj' s') (hr : ∀ x ∈ ids, ∀ y ∈ ids, (ReachA adj x y ∧ ReachA adj y x) ↔ (ReachA adj' x y ∧ ReachA adj' y x)) : (s.sccs.map sortI).Perm (s'.sccs.map sortI) :=
  (List.perm_ext_iff_of_nodup h.map_nodup h'.map_nodup).2 fun l => ⟨h.same_sub h' hr l, h'.same_sub h (fun x hx y hy => (hr x hx y hy).symm) l⟩

theorem reach_turn (ht : ∀ a b, b ∈ adj a → a ∈ adj' b) {x y : Int} (h : ReachA adj x y) : ReachA adj' y x :=
  h (fun z => ReachA adj' z x) (ReachA.refl _ _) (fun a b ha hb => (ReachA.step (ReachA.refl adj' b) (ht a b hb)).trans ha)
theorem TFin.turned (h : TFin ids adj s) (h' : TFin ids adj' s') (ht : ∀ a b, b ∈ adj a ↔ a ∈ adj' b) : (s.sccs.map sortI).Perm (s'.sccs.map sortI) :=
  h.same h' (fun x _ y _ => ⟨fun ⟨a, b⟩ => ⟨reach_turn (fun p q => (ht p q).1) b, reach_turn (fun p q => (ht p q).1) a⟩, fun ⟨a, b⟩ => ⟨reach_turn (fun p q => (ht q p).2) b, reach_turn (fun p q => (ht q p).2) a⟩⟩)
end
end Go.Proofs.YtnfkbjgijelfdaaGreat
