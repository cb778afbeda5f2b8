/- A walk depth first tells the order in which Tarjan's walk leaves its components; plain laws. The order of a graph that is sorted by an order of its nodes: the walk over the nodes' places tells it; plain laws. -/
import Derived.Test.YtnfkbjgijelfdaaGreatTarP
import Derived.Test.YtnfkbjgijelfdaaGreatOrdP
import Derived.Test.YtnfkbjgijelfdaaGreatNextF
namespace Go.Proofs.YtnfkbjgijelfdaaGreat

/-- A walk depth first: the nodes met and the nodes left. -/
structure WS where
  met : List Int
  left : List Int

/-- The walk over the nodes of a list, each with what it leads to, but for those met. -/
inductive VRun (adj : Int → List Int) : WS → List Int → WS → Prop
  | nil (s : WS) : VRun adj s [] s
  | visit {w : Int} {s s1 s' : WS} {r : List Int} : w ∉ s.met → VRun adj ⟨s.met ++ [w], s.left⟩ (adj w) s1 → VRun adj ⟨s1.met, s1.left ++ [w]⟩ r s' → VRun adj s (w :: r) s'
  | skip {w : Int} {s s' : WS} {r : List Int} : w ∈ s.met → VRun adj s r s' → VRun adj s (w :: r) s'

theorem VRun.det {adj : Int → List Int} {s a b : WS} {l : List Int} (h : VRun adj s l a) : VRun adj s l b → a = b := by
  induction h generalizing b with
  | nil s => intro g; cases g; rfl
  | visit h0 _ _ ih1 ih2 =>
    intro g
    cases g with
    | visit g0 g1 g2 => rw [← ih1 g1] at g2; exact ih2 g2
    | skip g0 _ => exact absurd g0 h0
  | skip h0 _ ih =>
    intro g
    cases g with
    | visit g0 _ _ => exact absurd h0 g0
    | skip _ g1 => exact ih g1

theorem VRun.append {adj : Int → List Int} {s s1 s2 : WS} {l m : List Int} (h : VRun adj s l s1) : VRun adj s1 m s2 → VRun adj s (l ++ m) s2 := by
  induction h with
  | nil s => intro g; exact g
  | visit h0 h1 _ _ ih => intro g; exact .visit h0 h1 (ih g)
  | skip h0 _ ih => intro g; exact .skip h0 (ih g)

/-- Tarjan's state and a walk's state tell of the same nodes. -/
structure TW (s : TS) (d : WS) : Prop where
  left : d.left = s.left
  met : ∀ x, s.tab x ≠ 0 ↔ x ∈ d.met
  len : d.met.length = s.idx
  at_ : ∀ (i : Nat) (x : Int), d.met[i]? = some x → s.tab x = i + 1

theorem TW.start : TW TS.start ⟨[], []⟩ := ⟨rfl, fun x => by simp [TS.start], rfl, fun i x h => by simp at h⟩
theorem TW.enter {s : TS} {d : WS} (h : TW s d) {w : Int} (h0 : s.tab w = 0) : TW (s.enter w) ⟨d.met ++ [w], d.left⟩ where
  left := h.left
  met := fun x => by
    have hx : (s.enter w).tab x = if x = w then s.idx + 1 else s.tab x := rfl
    rw [hx, List.mem_append, List.mem_singleton, ← h.met x]
    by_cases e : x = w
    · simp [e]
    · simp [e]
  len := by
    rw [List.length_append, h.len]; rfl
  at_ := fun i x hx => by
    have hd : (s.enter w).tab x = if x = w then s.idx + 1 else s.tab x := rfl
    rw [hd]
    rcases Nat.lt_or_ge i d.met.length with hi | hi
    · rw [List.getElem?_append_left hi] at hx
      have h1 := h.at_ i x hx
      rw [if_neg (fun e => by rw [e, h0] at h1; omega)]
      exact h1
    · rw [List.getElem?_append_right hi] at hx
      have hi2 : i - d.met.length = 0 := by
        rcases Nat.eq_zero_or_pos (i - d.met.length) with e | e
        · exact e
        · rw [List.getElem?_eq_none (by simp; omega)] at hx; cases hx
      rw [hi2] at hx
      have hx2 : w = x := by simpa using hx
      rw [if_pos hx2.symm]
      have := h.len
      omega
theorem TW.setLow {s : TS} {d : WS} (h : TW s d) (v : Int) (n : Nat) : TW (s.setLow v n) d := ⟨h.left, h.met, h.len, h.at_⟩
theorem TW.leave {s : TS} {d : WS} (h : TW s d) (w : Int) : TW (s.leave w) ⟨d.met, d.left ++ [w]⟩ := by
  have e1 : (s.leave w).left = s.left ++ [w] := by unfold TS.leave; split <;> rfl
  have e2 : (s.leave w).tab = s.tab := by unfold TS.leave; split <;> rfl
  have e3 : (s.leave w).idx = s.idx := by unfold TS.leave; split <;> rfl
  exact ⟨by rw [e1, ← h.left], by rw [e2]; exact h.met, by rw [e3]; exact h.len, by rw [e2]; exact h.at_⟩

theorem Suc.walk {adj : Int → List Int} {v : Int} {s s' : TS} {l : List Int} (h : Suc adj v s l s') : ∀ d, TW s d → ∃ d', VRun adj d l d' ∧ TW s' d' := by
  induction h with
  | nil v s => intro d hd; exact ⟨d, .nil d, hd⟩
  | visit h0 _ _ ih1 ih2 =>
    intro d hd
    obtain ⟨d1, r1, t1⟩ := ih1 _ (hd.enter h0)
    obtain ⟨d2, r2, t2⟩ := ih2 _ ((t1.leave _).setLow _ _)
    exact ⟨d2, .visit (fun hm => (hd.met _).2 hm h0) r1 r2, t2⟩
  | back h0 _ _ ih =>
    intro d hd
    obtain ⟨d1, r1, t1⟩ := ih _ (hd.setLow _ _)
    exact ⟨d1, .skip ((hd.met _).1 h0) r1, t1⟩
  | skip h0 _ _ ih =>
    intro d hd
    obtain ⟨d1, r1, t1⟩ := ih _ hd
    exact ⟨d1, .skip ((hd.met _).1 h0) r1, t1⟩

theorem TRun.walk {adj : Int → List Int} {s s' : TS} {l : List Int} (h : TRun adj s l s') : ∀ d, TW s d → ∃ d', VRun adj d l d' ∧ TW s' d' := by
  induction h with
  | nil s => intro d hd; exact ⟨d, .nil d, hd⟩
  | visit h0 h1 _ ih =>
    intro d hd
    obtain ⟨d1, r1, t1⟩ := h1.walk _ (hd.enter h0)
    obtain ⟨d2, r2, t2⟩ := ih _ (t1.leave _)
    exact ⟨d2, .visit (fun hm => (hd.met _).2 hm h0) r1 r2, t2⟩
  | skip h0 _ ih =>
    intro d hd
    obtain ⟨d1, r1, t1⟩ := ih _ hd
    exact ⟨d1, .skip ((hd.met _).1 h0) r1, t1⟩

/-- Where a component was met: its last node. -/
def rootI (c : List Int) : Int := c.getLastD 0

/-- Each component has its least node last, and these stand among the nodes left in the order of the components. -/
structure RInv (g : List Int) (s : TS) : Prop where
  nd : (s.stack ++ s.sccs.flatten).Nodup
  tabd : ∀ x, x ∈ s.stack ∨ x ∈ s.sccs.flatten → s.tab x ≠ 0
  up : s.stack.Pairwise (fun a b => s.tab a < s.tab b)
  le : ∀ x, s.tab x ≤ s.idx
  gs : ∀ y ∈ g, y ∈ s.stack
  gup : g.Pairwise (fun a b => s.tab a < s.tab b)
  lt : ∀ x ∈ s.left, s.tab x ≠ 0
  gl : ∀ y ∈ g, y ∉ s.left
  ne : ∀ c ∈ s.sccs, c ≠ []
  roots : s.left.filter (fun u => (s.sccs.map rootI).contains u) = s.sccs.map rootI
  least : ∀ c ∈ s.sccs, ∀ x ∈ c, s.tab (rootI c) ≤ s.tab x

theorem RInv.start : RInv [] TS.start := by
  refine ⟨?_, ?_, ?_, ?_, ?_, ?_, ?_, ?_, ?_, ?_, ?_⟩ <;> simp [TS.start]

theorem rootI_mem {c : List Int} (h : c ≠ []) : rootI c ∈ c := by
  unfold rootI
  rw [List.getLastD_eq_getLast?, List.getLast?_eq_some_getLast h]
  exact List.getLast_mem h

theorem RInv.enter {g : List Int} {s : TS} (h : RInv g s) {w : Int} (h0 : s.tab w = 0) : RInv (g ++ [w]) (s.enter w) := by
  have hne : ∀ x, s.tab x ≠ 0 → x ≠ w := fun x hx e => hx (e ▸ h0)
  have ht : ∀ x, s.tab x ≠ 0 → (s.enter w).tab x = s.tab x := fun x hx => if_neg (hne x hx)
  have hw : (s.enter w).tab w = s.idx + 1 := if_pos rfl
  have hws : w ∉ s.stack := fun hm => h.tabd w (.inl hm) h0
  have hwf : w ∉ s.sccs.flatten := fun hm => h.tabd w (.inr hm) h0
  have hpair : ∀ l : List Int, (∀ x ∈ l, s.tab x ≠ 0) → l.Pairwise (fun a b => s.tab a < s.tab b) → (l ++ [w]).Pairwise (fun a b => (s.enter w).tab a < (s.enter w).tab b) := by
    intro l hl hp
    rw [List.pairwise_append]
    refine ⟨?_, by simp, fun a ha b hb => ?_⟩
    · refine hp.imp_of_mem fun {a b} ha hb hab => ?_
      rw [ht a (hl a ha), ht b (hl b hb)]; exact hab
    · rw [List.mem_singleton.1 hb, hw, ht a (hl a ha)]
      have := h.le a
      omega
  refine ⟨?_, ?_, hpair _ (fun x hx => h.tabd x (.inl hx)) h.up, ?_, ?_, hpair _ (fun x hx => h.tabd x (.inl (h.gs x hx))) h.gup, ?_, ?_, h.ne, h.roots, ?_⟩
  · show ((s.stack ++ [w]) ++ s.sccs.flatten).Nodup
    rw [List.append_assoc]
    have hn := h.nd
    rw [List.nodup_append] at hn ⊢
    refine ⟨hn.1, ?_, fun a ha b hb => ?_⟩
    · rw [List.singleton_append, List.nodup_cons]; exact ⟨hwf, hn.2.1⟩
    · rw [List.singleton_append] at hb
      rcases List.mem_cons.1 hb with e | hb
      · rw [e]; exact fun e => hws (e ▸ ha)
      · exact hn.2.2 a ha b hb
  · intro x hx
    by_cases e : x = w
    · rw [e, hw]; omega
    · have hx2 : x ∈ s.stack ∨ x ∈ s.sccs.flatten := by
        rcases hx with hx | hx
        · rcases List.mem_append.1 hx with hx | hx
          · exact .inl hx
          · exact absurd (List.mem_singleton.1 hx) e
        · exact .inr hx
      rw [ht x (h.tabd x hx2)]; exact h.tabd x hx2
  · intro x
    by_cases e : x = w
    · rw [e, hw]; exact Nat.le_refl _
    · have he : (s.enter w).tab x = s.tab x := if_neg e
      rw [he]; exact Nat.le_succ_of_le (h.le x)
  · intro y hy
    rcases List.mem_append.1 hy with hy | hy
    · exact List.mem_append_left _ (h.gs y hy)
    · exact List.mem_append_right _ hy
  · intro x hx; rw [ht x (h.lt x hx)]; exact h.lt x hx
  · intro y hy hl
    rcases List.mem_append.1 hy with hy | hy
    · exact h.gl y hy hl
    · rw [List.mem_singleton.1 hy] at hl; exact h.lt w hl h0
  · intro c hc x hx
    have h1 := h.tabd (rootI c) (.inr (List.mem_flatten.2 ⟨c, hc, rootI_mem (h.ne c hc)⟩))
    have h2 := h.tabd x (.inr (List.mem_flatten.2 ⟨c, hc, hx⟩))
    rw [ht _ h1, ht _ h2]; exact h.least c hc x hx

theorem RInv.setLow {g : List Int} {s : TS} (h : RInv g s) (v : Int) (n : Nat) : RInv g (s.setLow v n) :=
  ⟨h.nd, h.tabd, h.up, h.le, h.gs, h.gup, h.lt, h.gl, h.ne, h.roots, h.least⟩

theorem split_at {l : List Int} {v : Int} (h : v ∈ l) : ∃ b, fromOf l v = v :: b ∧ belowOf l v ++ v :: b = l := by
  induction l with
  | nil => cases h
  | cons x l ih =>
    by_cases e : x = v
    · subst e
      exact ⟨l, by simp [fromOf], by simp [belowOf]⟩
    · obtain ⟨b, h1, h2⟩ := ih (by rcases List.mem_cons.1 h with e2 | h; exact absurd e2.symm e; exact h)
      refine ⟨b, ?_, ?_⟩
      · rw [← h1]; simp [fromOf, e]
      · have : belowOf (x :: l) v = x :: belowOf l v := by simp [belowOf, e]
        rw [this, List.cons_append, h2]

theorem RInv.leave {g : List Int} {s : TS} {w : Int} (h : RInv (g ++ [w]) s) : RInv g (s.leave w) := by
  have hws : w ∈ s.stack := h.gs w (by simp)
  have hwl : w ∉ s.left := h.gl w (by simp)
  have hnd := h.nd
  have hgw : ∀ y ∈ g, s.tab y < s.tab w := fun y hy => (List.pairwise_append.1 h.gup).2.2 y hy w (by simp)
  have hgl : ∀ y ∈ g, y ∉ s.left ++ [w] := fun y hy hm => by
    rcases List.mem_append.1 hm with hm | hm
    · exact h.gl y (List.mem_append_left _ hy) hm
    · rw [List.mem_singleton] at hm; have := hgw y hy; rw [hm] at this; omega
  have hlt : ∀ x ∈ s.left ++ [w], s.tab x ≠ 0 := fun x hx => by
    rcases List.mem_append.1 hx with hx | hx
    · exact h.lt x hx
    · rw [List.mem_singleton.1 hx]; exact h.tabd w (.inl hws)
  have hroot : ∀ u ∈ s.sccs.map rootI, u ∈ s.sccs.flatten := fun u hu => by
    obtain ⟨c, hc, rfl⟩ := List.mem_map.1 hu
    exact List.mem_flatten.2 ⟨c, hc, rootI_mem (h.ne c hc)⟩
  have hwr : w ∉ s.sccs.map rootI := fun hm => (List.nodup_append.1 hnd).2.2 w hws w (hroot w hm) rfl
  unfold TS.leave
  split
  · obtain ⟨b, hf, hb⟩ := split_at hws
    have hst : s.stack = belowOf s.stack w ++ w :: b := hb.symm
    have hup := h.up
    rw [hst] at hup hnd
    rw [hf]
    have hmem : ∀ x, x ∈ (w :: b).reverse ↔ x ∈ w :: b := fun x => List.mem_reverse
    have hrt : rootI (w :: b).reverse = w := by simp [rootI]
    refine ⟨?_, ?_, (List.pairwise_append.1 hup).1, h.le, ?_, (List.pairwise_append.1 h.gup).1, hlt, hgl, ?_, ?_, ?_⟩
    · show (belowOf s.stack w ++ (s.sccs ++ [(w :: b).reverse]).flatten).Nodup
      rw [List.flatten_append, List.flatten_singleton]
      have hp : (belowOf s.stack w ++ (s.sccs.flatten ++ (w :: b).reverse)).Perm (belowOf s.stack w ++ w :: b ++ s.sccs.flatten) := by
        rw [List.append_assoc]
        exact List.Perm.append_left _ ((List.Perm.append_left _ (List.reverse_perm _)).trans List.perm_append_comm)
      exact hp.nodup_iff.2 hnd
    · intro x hx
      refine h.tabd x ?_
      rcases hx with hx | hx
      · exact .inl (by rw [hst]; exact List.mem_append_left _ hx)
      · have hx : x ∈ (s.sccs ++ [(w :: b).reverse]).flatten := hx
        rw [List.flatten_append, List.flatten_singleton] at hx
        rcases List.mem_append.1 hx with hx | hx
        · exact .inr hx
        · exact .inl (by rw [hst]; exact List.mem_append_right _ ((hmem x).1 hx))
    · intro y hy
      have h1 := h.gs y (List.mem_append_left _ hy)
      rw [hst] at h1
      rcases List.mem_append.1 h1 with h1 | h1
      · exact h1
      · have h2 := hgw y hy
        rcases List.mem_cons.1 h1 with e | h1
        · rw [e] at h2; omega
        · have := (List.pairwise_cons.1 (List.pairwise_append.1 hup).2.1).1 y h1
          omega
    · intro c hc
      rcases List.mem_append.1 hc with hc | hc
      · exact h.ne c hc
      · rw [List.mem_singleton.1 hc]; simp
    · show (s.left ++ [w]).filter (fun u => ((s.sccs ++ [(w :: b).reverse]).map rootI).contains u) = (s.sccs ++ [(w :: b).reverse]).map rootI
      rw [List.map_append, List.map_singleton, hrt, List.filter_append]
      have e1 : s.left.filter (fun u => (s.sccs.map rootI ++ [w]).contains u) = s.left.filter (fun u => (s.sccs.map rootI).contains u) := by
        refine List.filter_congr fun u hu => ?_
        have huw : u ≠ w := fun e => hwl (e ▸ hu)
        rw [Bool.eq_iff_iff, List.contains_iff_mem, List.contains_iff_mem, List.mem_append, List.mem_singleton]
        exact ⟨fun hx => hx.elim id (fun e => absurd e huw), .inl⟩
      rw [e1, h.roots]
      simp
    · intro c hc x hx
      rcases List.mem_append.1 hc with hc | hc
      · exact h.least c hc x hx
      · rw [List.mem_singleton.1 hc] at hx ⊢
        rw [hrt]
        rcases List.mem_cons.1 ((hmem x).1 hx) with e | hx
        · rw [e]; exact Nat.le_refl _
        · exact Nat.le_of_lt ((List.pairwise_cons.1 (List.pairwise_append.1 hup).2.1).1 x hx)
  · refine ⟨h.nd, h.tabd, h.up, h.le, fun y hy => h.gs y (List.mem_append_left _ hy), (List.pairwise_append.1 h.gup).1, hlt, hgl, h.ne, ?_, h.least⟩
    show (s.left ++ [w]).filter (fun u => (s.sccs.map rootI).contains u) = s.sccs.map rootI
    rw [List.filter_append, h.roots]
    have : [w].filter (fun u => (s.sccs.map rootI).contains u) = [] := by
      rw [List.filter_cons_of_neg (by rw [List.contains_iff_mem]; exact hwr)]; rfl
    rw [this, List.append_nil]

theorem Suc.rinv {adj : Int → List Int} {v : Int} {s s' : TS} {l : List Int} (h : Suc adj v s l s') : ∀ g, RInv (g ++ [v]) s → RInv (g ++ [v]) s' := by
  induction h with
  | nil v s => intro g hg; exact hg
  | visit h0 _ _ ih1 ih2 =>
    intro g hg
    exact ih2 g ((ih1 _ (hg.enter h0)).leave.setLow _ _)
  | back _ _ _ ih => intro g hg; exact ih g (hg.setLow _ _)
  | skip _ _ _ ih => intro g hg; exact ih g hg
theorem TRun.rinv {adj : Int → List Int} {s s' : TS} {l : List Int} (h : TRun adj s l s') : RInv [] s → RInv [] s' := by
  induction h with
  | nil s => intro hg; exact hg
  | visit h0 h1 _ ih =>
    intro hg
    exact ih (RInv.leave (g := []) (h1.rinv [] (RInv.enter (g := []) hg h0)))
  | skip _ _ ih => exact ih

/-- The walk with its nodes renamed. -/
theorem VRun.map {adjH adj : Int → List Int} {φ : Int → Int} {I : Int → Prop} (hinj : ∀ a b, I a → I b → φ a = φ b → a = b) (hadj : ∀ a, I a → adj (φ a) = (adjH a).map φ) (hI : ∀ a, I a → ∀ b ∈ adjH a, I b) {s s' : WS} {l : List Int} (h : VRun adjH s l s') :
    (∀ x ∈ s.met, I x) → (∀ x ∈ s.left, I x) → (∀ x ∈ l, I x) → VRun adj ⟨s.met.map φ, s.left.map φ⟩ (l.map φ) ⟨s'.met.map φ, s'.left.map φ⟩ ∧ (∀ x ∈ s'.met, I x) ∧ (∀ x ∈ s'.left, I x) := by
  induction h with
  | nil s => intro h1 h2 _; exact ⟨.nil _, h1, h2⟩
  | @visit w s s1 s' r h0 _ _ ih1 ih2 =>
    intro h1 h2 hl
    have hw : I w := hl w (by simp)
    have happ : ∀ l : List Int, (∀ x ∈ l, I x) → ∀ x ∈ l ++ [w], I x := fun l hl x hx => by
      rcases List.mem_append.1 hx with hx | hx
      · exact hl x hx
      · rw [List.mem_singleton.1 hx]; exact hw
    obtain ⟨r1, m1, l1⟩ := ih1 (happ _ h1) h2 (hI w hw)
    obtain ⟨r2, m2, l2⟩ := ih2 m1 (happ _ l1) (fun x hx => hl x (List.mem_cons_of_mem _ hx))
    refine ⟨.visit (s1 := ⟨s1.met.map φ, s1.left.map φ⟩) (fun hm => ?_) ?_ ?_, m2, l2⟩
    · obtain ⟨y, hy, e⟩ := List.mem_map.1 hm
      rw [hinj y w (h1 y hy) hw e] at hy
      exact h0 hy
    · rw [hadj w hw]
      simpa using r1
    · simpa using r2
  | @skip w s s' r h0 _ ih =>
    intro h1 h2 hl
    obtain ⟨r1, m1, l1⟩ := ih h1 h2 (fun x hx => hl x (List.mem_cons_of_mem _ hx))
    exact ⟨.skip (List.mem_map_of_mem h0) r1, m1, l1⟩

/-- The component of a node; the first number of a list that is in another one; what a stable order makes of a walk. -/
def compOf (parts : List (List Int)) (u : Int) : List Int := (parts.find? fun c => c.contains u).getD []
def firstOfI (l c : List Int) : Int := (l.find? fun x => c.contains x).getD 0
def stabL (parts : List (List Int)) (d : WS) : List (List Int) := (d.left.reverse.filter fun u => firstOfI d.met (compOf parts u) == u).map (compOf parts)

theorem find_least {p : Int → Bool} : ∀ {l : List Int} {k : Nat} {r : Int}, l[k]? = some r → p r = true → (∀ j x, l[j]? = some x → p x = true → k ≤ j) → l.find? p = some r
  | [], k, r, h, _, _ => by simp at h
  | a :: l, 0, r, h, hp, _ => by
    have e : a = r := by simpa using h
    rw [e, List.find?_cons_of_pos hp]
  | a :: l, k + 1, r, h, hp, hl => by
    have h2 : l[k]? = some r := by simpa using h
    have ha : ¬ p a = true := fun hpa => by have := hl 0 a (by simp) hpa; omega
    rw [List.find?_cons_of_neg ha]
    exact find_least h2 hp (fun j x hx hpx => by have := hl (j + 1) x (by simpa using hx) hpx; omega)

theorem map_of_map {φ : Int → Int} {g : Int → List Int} {root : List Int → Int} {f : List Int → List Int} : ∀ {L : List Int} {C : List (List Int)}, L.map φ = C.map root → (∀ i ∈ L, ∀ c ∈ C, φ i = root c → g i = f c) → L.map g = C.map f
  | [], [], _, _ => rfl
  | [], c :: C, h, _ => by simp at h
  | i :: L, [], h, _ => by simp at h
  | i :: L, c :: C, h, hg => by
    rw [List.map_cons, List.map_cons, List.cons.injEq] at h
    rw [List.map_cons, List.map_cons, hg i (by simp) c (by simp) h.1, map_of_map h.2 (fun i hi c hc => hg i (List.mem_cons_of_mem _ hi) c (List.mem_cons_of_mem _ hc))]

theorem stab_eq {s : TS} {dH : WS} {φ : Int → Int} {I : Int → Prop} (hR : RInv [] s) (hw : TW s ⟨dH.met.map φ, dH.left.map φ⟩) (hIm : ∀ i ∈ dH.met, I i) (hIl : ∀ i ∈ dH.left, I i) (hinj : ∀ a b, I a → I b → φ a = φ b → a = b)
    (ht : ∀ x, s.tab x ≠ 0 → x ∈ s.sccs.flatten) (hsame : ∀ c ∈ s.sccs, ∀ c' ∈ s.sccs, ∀ x, x ∈ c → x ∈ c' → ∀ y, y ∈ c → y ∈ c') {parts : List (List Int)} {f : List Int → List Int}
    (hf : ∀ c ∈ s.sccs, ∀ i, I i → φ i ∈ c → compOf parts i = f c) (hm : ∀ c ∈ s.sccs, ∀ j, I j → (j ∈ f c ↔ φ j ∈ c)) : stabL parts dH = s.sccs.reverse.map f := by
  have htab : ∀ x ∈ s.sccs.flatten, s.tab x ≠ 0 := fun x hx => hR.tabd x (.inr hx)
  -- the root of a component is the first one met
  have hfirst : ∀ c ∈ s.sccs, ∃ r, I r ∧ φ r = rootI c ∧ firstOfI dH.met (f c) = r := by
    intro c hc
    have hrc := rootI_mem (hR.ne c hc)
    have h1 := (hw.met (rootI c)).1 (htab _ (List.mem_flatten.2 ⟨c, hc, hrc⟩))
    obtain ⟨r, hr, e⟩ := List.mem_map.1 h1
    obtain ⟨k, hk, hkr⟩ := List.getElem_of_mem hr
    have hk2 : dH.met[k]? = some r := by rw [List.getElem?_eq_getElem hk, hkr]
    have hat : ∀ j x, dH.met[j]? = some x → s.tab (φ x) = j + 1 := fun j x hx => hw.at_ j (φ x) (by show (dH.met.map φ)[j]? = _; rw [List.getElem?_map, hx]; rfl)
    refine ⟨r, hIm r hr, e, ?_⟩
    unfold firstOfI
    rw [find_least hk2 (by rw [List.contains_iff_mem]; exact (hm c hc r (hIm r hr)).2 (by rw [e]; exact hrc)) (fun j x hx hp => ?_)]
    · rfl
    · rw [List.contains_iff_mem] at hp
      have hIx := hIm x (List.mem_of_getElem? hx)
      have h2 := hR.least c hc (φ x) ((hm c hc x hIx).1 hp)
      rw [← e, hat k r hk2, hat j x hx] at h2
      omega
  have hinjT : ∀ x y, s.tab x ≠ 0 → s.tab x = s.tab y → x = y := by
    intro x y hx hxy
    obtain ⟨k, hk, e1⟩ := List.getElem_of_mem ((hw.met x).1 hx)
    obtain ⟨j, hj, e2⟩ := List.getElem_of_mem ((hw.met y).1 (by rw [← hxy]; exact hx))
    have h1 := hw.at_ k x (by rw [List.getElem?_eq_getElem hk, e1])
    have h2 := hw.at_ j y (by rw [List.getElem?_eq_getElem hj, e2])
    have : k = j := by omega
    subst this
    rw [← e1, ← e2]
  have hcond : ∀ i ∈ dH.left, (firstOfI dH.met (compOf parts i) == i) = (s.sccs.map rootI).contains (φ i) := by
    intro i hi
    have hIi := hIl i hi
    have h1 : s.tab (φ i) ≠ 0 := hR.lt (φ i) (by rw [← hw.left]; exact List.mem_map_of_mem hi)
    obtain ⟨c, hc, hic⟩ := List.mem_flatten.1 (ht _ h1)
    obtain ⟨r, hIr, hr, hfr⟩ := hfirst c hc
    rw [hf c hc i hIi hic, hfr, Bool.eq_iff_iff, beq_iff_eq, List.contains_iff_mem, List.mem_map]
    constructor
    · intro e
      exact ⟨c, hc, by rw [← hr, e]⟩
    · rintro ⟨c', hc', e⟩
      have h2 : φ i ∈ c' := by rw [← e]; exact rootI_mem (hR.ne c' hc')
      have h3 : rootI c ∈ c' := hsame c hc c' hc' (φ i) hic h2 _ (rootI_mem (hR.ne c hc))
      have h4 := hR.least c' hc' _ h3
      have h5 := hR.least c hc _ hic
      rw [e] at h4
      exact hinj r i hIr hIi (by rw [hr]; exact (hinjT _ _ h1 (by omega)).symm)
  unfold stabL
  rw [List.filter_congr (fun u hu => hcond u (List.mem_reverse.1 hu)), List.filter_reverse, List.map_reverse, List.map_reverse]
  congr 1
  refine map_of_map (φ := φ) (root := rootI) ?_ ?_
  · have h1 := hR.roots
    rw [← hw.left] at h1
    rw [List.filter_map] at h1
    exact h1
  · intro i hi c hc e
    have hi2 := (List.mem_filter.1 hi).1
    exact hf c hc i (hIl i hi2) (by rw [e]; exact rootI_mem (hR.ne c hc))

end Go.Proofs.YtnfkbjgijelfdaaGreat
namespace Go.Proofs.YtnfkbjgijelfdaaGreat

/-- Where a node stands in a list, and the node at a place. -/
def posP : List Int → Int → Nat
  | [], _ => 0
  | y :: l, x => if y = x then 0 else posP l x + 1
def atP (P : List Int) (i : Int) : Int := P.getD i.toNat 0
theorem posP_get : ∀ {P : List Int} {x : Int}, x ∈ P → P[posP P x]? = some x
  | y :: l, x, h => by
    unfold posP
    by_cases e : y = x
    · rw [if_pos e, e]; rfl
    · rw [if_neg e, List.getElem?_cons_succ]
      exact posP_get (by rcases List.mem_cons.1 h with e2 | h; exact absurd e2.symm e; exact h)
theorem posP_lt {P : List Int} {x : Int} (h : x ∈ P) : posP P x < P.length := (List.getElem?_eq_some_iff.1 (posP_get h)).1
theorem posP_at : ∀ {P : List Int} {i : Nat} {x : Int}, P.Nodup → P[i]? = some x → posP P x = i
  | y :: l, 0, x, _, h => by
    have e : y = x := by simpa using h
    unfold posP; rw [if_pos e]
  | y :: l, i + 1, x, hn, h => by
    have h2 : l[i]? = some x := by simpa using h
    have e : y ≠ x := fun e => (List.nodup_cons.1 hn).1 (e ▸ List.mem_of_getElem? h2)
    unfold posP; rw [if_neg e, posP_at (List.nodup_cons.1 hn).2 h2]
  | [], i, x, _, h => by simp at h
theorem posP_inj {P : List Int} {x y : Int} (hx : x ∈ P) (hy : y ∈ P) (h : posP P x = posP P y) : x = y := by
  have h1 := posP_get hx
  rw [h, posP_get hy] at h1
  exact (Option.some.inj h1).symm
theorem atP_pos {P : List Int} {x : Int} (h : x ∈ P) : atP P (posP P x : Nat) = x := by
  unfold atP
  rw [Int.toNat_natCast, List.getD_eq_getElem?_getD, posP_get h]; rfl
/-- The places of a list of k. -/
def InK (k : Nat) (i : Int) : Prop := 0 ≤ i ∧ i < k
theorem atP_get {P : List Int} {i : Int} (h : InK P.length i) : P[i.toNat]? = some (atP P i) := by
  have h2 : i.toNat < P.length := by have := h.1; have := h.2; omega
  unfold atP
  rw [List.getD_eq_getElem?_getD, List.getElem?_eq_getElem h2]; rfl
theorem atP_mem {P : List Int} {i : Int} (h : InK P.length i) : atP P i ∈ P := List.mem_of_getElem? (atP_get h)
theorem pos_atP {P : List Int} (hn : P.Nodup) {i : Int} (h : InK P.length i) : (posP P (atP P i) : Int) = i := by
  rw [posP_at hn (atP_get h)]
  have := h.1
  omega
theorem pos_inK {P : List Int} {x : Int} (h : x ∈ P) : InK P.length (posP P x : Nat) := ⟨by omega, by have := posP_lt h; omega⟩

/-- A list in the order of its places; the graph of the places. -/
def srtP (P l : List Int) : List Int := l.mergeSort fun x y => decide (posP P x ≤ posP P y)
def hN (k : Nat) : List Int := (List.range k).map fun (i : Nat) => (i : Int)
def hE (P : List Int) (es : List (Int × Int × Int)) : List (Int × Int × Int) := es.map fun e => ((posP P e.1 : Nat), (posP P e.2.1 : Nat), (0 : Int))
theorem srtP_perm (P l : List Int) : (srtP P l).Perm l := List.mergeSort_perm _ _
theorem srtP_pw (P l : List Int) : (srtP P l).Pairwise (fun x y => posP P x ≤ posP P y) := by
  have := List.pairwise_mergeSort (le := fun x y : Int => decide (posP P x ≤ posP P y)) (by simp; omega) (by simp; omega) l
  simpa [srtP] using this
theorem mem_hN {k : Nat} {i : Int} : i ∈ hN k ↔ InK k i := by
  unfold hN InK
  rw [List.mem_map]
  constructor
  · rintro ⟨j, hj, rfl⟩
    rw [List.mem_range] at hj
    omega
  · rintro ⟨h1, h2⟩
    exact ⟨i.toNat, List.mem_range.2 (by omega), by omega⟩
theorem hN_up (k : Nat) : (hN k).Pairwise (· < ·) := by
  unfold hN
  rw [List.pairwise_map]
  exact List.pairwise_lt_range.imp fun {a b} h => by omega
theorem hN_len (k : Nat) : (hN k).length = k := by simp [hN]
theorem sortI_hN (k : Nat) : sortI (hN k) = hN k := (sortI_unique (List.Perm.refl _) ((hN_up k).imp fun {a b} h => by omega)).symm
theorem arc_hE {P : List Int} {es : List (Int × Int × Int)} (he : ∀ e ∈ es, e.1 ∈ P ∧ e.2.1 ∈ P) {x y : Int} (hx : x ∈ P) (hy : y ∈ P) : arcB true (hE P es) (posP P x : Nat) (posP P y : Nat) = arcB true es x y := by
  unfold arcB hE
  rw [List.any_map, Bool.eq_iff_iff, List.any_eq_true, List.any_eq_true]
  have key : ∀ e ∈ es, (((fun e => arcAt true e (posP P x : Nat) (posP P y : Nat)) ∘ fun e : Int × Int × Int => (((posP P e.1 : Nat) : Int), ((posP P e.2.1 : Nat) : Int), (0 : Int))) e = true ↔ arcAt true e x y = true) := by
    intro e h
    obtain ⟨h1, h2⟩ := he e h
    simp only [Function.comp_apply, arcAt, Bool.not_true, Bool.false_and, Bool.or_false, Bool.and_eq_true, beq_iff_eq]
    constructor
    · rintro ⟨a, b⟩
      exact ⟨posP_inj h1 hx (by omega), posP_inj h2 hy (by omega)⟩
    · rintro ⟨a, b⟩
      rw [a, b]; exact ⟨rfl, rfl⟩
  exact ⟨fun ⟨e, h, h1⟩ => ⟨e, h, (key e h).1 h1⟩, fun ⟨e, h, h1⟩ => ⟨e, h, (key e h).2 h1⟩⟩

section
variable {ns : List Int} {es : List (Int × Int × Int)} {P : List Int}
theorem ends_P (hw : wellB ns es = true) (hP : P.Perm (sortI ns)) : ∀ e ∈ es, e.1 ∈ P ∧ e.2.1 ∈ P := fun e h =>
  ⟨hP.mem_iff.2 (mem_sortI.2 (well_ends hw e h).1), hP.mem_iff.2 (mem_sortI.2 (well_ends hw e h).2)⟩
theorem P_nodup (hw : wellB ns es = true) (hP : P.Perm (sortI ns)) : P.Nodup := hP.nodup_iff.2 ((sort_ltF hw).imp fun {a b} h => by omega)
theorem from_hE (hw : wellB ns es = true) (hP : P.Perm (sortI ns)) {x : Int} (hx : x ∈ P) : fromL true (hN P.length) (hE P es) (posP P x : Nat) = (srtP P (adjD ns es x)).map fun y => ((posP P y : Nat) : Int) := by
  have hsub : ∀ y ∈ srtP P (adjD ns es x), y ∈ P := fun y hy => hP.mem_iff.2 (adjD_sub x y ((srtP_perm P _).mem_iff.1 hy))
  have hnd : (srtP P (adjD ns es x)).Nodup := (srtP_perm P _).nodup_iff.2 ((adjD_up hw x).imp fun {a b} h => by omega)
  refine eq_of_upF ?_ ?_ fun j => ?_
  · unfold fromL
    rw [sortI_hN]
    exact (hN_up _).sublist List.filter_sublist
  · rw [List.pairwise_map]
    refine ((srtP_pw P _).and hnd).imp_of_mem fun {a b} ha hb h => ?_
    have h1 := h.1
    have h2 : posP P a ≠ posP P b := fun e => h.2 (posP_inj (hsub a ha) (hsub b hb) e)
    omega
  · unfold fromL
    rw [List.mem_filter, sortI_hN, mem_hN, List.mem_map]
    constructor
    · rintro ⟨h1, h2⟩
      refine ⟨atP P j, ?_, pos_atP (P_nodup hw hP) h1⟩
      rw [← pos_atP (P_nodup hw hP) h1, arc_hE (ends_P hw hP) hx (atP_mem h1)] at h2
      exact (srtP_perm P _).mem_iff.2 (mem_adjD.2 ⟨hP.mem_iff.1 hx, hP.mem_iff.1 (atP_mem h1), h2⟩)
    · rintro ⟨y, hy, rfl⟩
      have h3 := mem_adjD.1 ((srtP_perm P _).mem_iff.1 hy)
      exact ⟨pos_inK (hsub y hy), by rw [arc_hE (ends_P hw hP) hx (hsub y hy)]; exact h3.2.2⟩
/-- What a node leads to, by places and by nodes. -/
theorem adj_map (hw : wellB ns es = true) (hP : P.Perm (sortI ns)) {i : Int} (hi : InK P.length i) : (srtP P (adjD ns es (atP P i))).reverse = ((fromL true (hN P.length) (hE P es) i).reverse).map (atP P) := by
  have h := from_hE hw hP (atP_mem hi)
  rw [pos_atP (P_nodup hw hP) hi] at h
  rw [h, List.map_reverse, List.map_map]
  congr 1
  conv => lhs; rw [← List.map_id (srtP P (adjD ns es (atP P i)))]
  refine List.map_congr_left fun y hy => ?_
  exact (atP_pos (hP.mem_iff.2 (adjD_sub _ y ((srtP_perm P _).mem_iff.1 hy)))).symm
theorem srt_all (hw : wellB ns es = true) (hP : P.Perm (sortI ns)) : srtP P (sortI ns) = P := by
  have hnd := P_nodup hw hP
  refine List.Perm.eq_of_pairwise (le := fun x y => posP P x ≤ posP P y) (fun a b ha hb h1 h2 => posP_inj (hP.mem_iff.2 ((srtP_perm P _).mem_iff.1 ha)) hb (by omega)) (srtP_pw P _) ?_ ((srtP_perm P _).trans hP.symm)
  rw [List.pairwise_iff_getElem]
  intro i j hi hj hij
  rw [posP_at hnd (List.getElem?_eq_getElem hi), posP_at hnd (List.getElem?_eq_getElem hj)]
  omega
theorem P_map : P = (hN P.length).map (atP P) := by
  refine List.ext_getElem (by simp [hN_len]) fun i h1 h2 => ?_
  rw [List.getElem_map]
  unfold hN atP
  simp [h1]
theorem reach_at (hw : wellB ns es = true) (hP : P.Perm (sortI ns)) {i j : Int} (hi : InK P.length i) (h : ReachA (fromL true (hN P.length) (hE P es)) i j) : InK P.length j ∧ ReachA (fun x => (srtP P (adjD ns es x)).reverse) (atP P i) (atP P j) := by
  refine h (fun j => InK P.length j ∧ ReachA (fun x => (srtP P (adjD ns es x)).reverse) (atP P i) (atP P j)) ⟨hi, ReachA.refl _ _⟩ ?_
  rintro a b ⟨h1, h2⟩ hb
  refine ⟨mem_hN.1 (by rw [← sortI_hN]; exact (List.mem_filter.1 hb).1), h2.step ?_⟩
  show atP P b ∈ (srtP P (adjD ns es (atP P a))).reverse
  rw [adj_map hw hP h1]
  exact List.mem_map_of_mem (List.mem_reverse.2 hb)
theorem reach_pos (hw : wellB ns es = true) (hP : P.Perm (sortI ns)) {x y : Int} (hx : x ∈ P) (h : ReachA (fun x => (srtP P (adjD ns es x)).reverse) x y) : y ∈ P ∧ ReachA (fromL true (hN P.length) (hE P es)) (posP P x : Nat) (posP P y : Nat) := by
  refine h (fun y => y ∈ P ∧ ReachA (fromL true (hN P.length) (hE P es)) (posP P x : Nat) (posP P y : Nat)) ⟨hx, ReachA.refl _ _⟩ ?_
  rintro a b ⟨h1, h2⟩ hb
  have hb2 : b ∈ adjD ns es a := (srtP_perm P _).mem_iff.1 (List.mem_reverse.1 hb)
  refine ⟨hP.mem_iff.2 (adjD_sub a b hb2), h2.step ?_⟩
  rw [from_hE hw hP h1]
  exact List.mem_map_of_mem (f := fun y => ((posP P y : Nat) : Int)) ((srtP_perm P _).mem_iff.2 hb2)
end

theorem comp_of {ids : List Int} {adj : Int → List Int} {L : List (List Int)} (h : SccL ids adj L) {u : Int} (hu : u ∈ ids) : compOf L u ∈ L ∧ u ∈ compOf L u := by
  obtain ⟨c, hc, huc⟩ := List.mem_flatten.1 ((h.mem u).2 hu)
  unfold compOf
  cases hf : L.find? fun c => c.contains u with
  | none => exact absurd (List.contains_iff_mem.2 huc) (by simpa using List.find?_eq_none.1 hf c hc)
  | some d =>
    exact ⟨List.mem_of_find?_eq_some hf, by have := List.find?_some hf; rw [List.contains_iff_mem] at this; exact this⟩
theorem nodup_same {L : List (List Int)} (hn : L.flatten.Nodup) {c d : List Int} (hc : c ∈ L) (hd : d ∈ L) {x : Int} (h1 : x ∈ c) (h2 : x ∈ d) : c = d := by
  induction L with
  | nil => cases hc
  | cons e L ih =>
    rw [List.flatten_cons, List.nodup_append] at hn
    rcases List.mem_cons.1 hc with e1 | hc2
    · rcases List.mem_cons.1 hd with e2 | hd2
      · rw [e1, e2]
      · rw [e1] at h1
        exact absurd rfl (hn.2.2 x h1 x (List.mem_flatten.2 ⟨d, hd2, h2⟩))
    · rcases List.mem_cons.1 hd with e2 | hd2
      · rw [e2] at h2
        exact absurd rfl (hn.2.2 x h2 x (List.mem_flatten.2 ⟨c, hc2, h1⟩))
      · exact ih hn.2.1 hc2 hd2

/-- The order that a walk over the places tells is that of Tarjan's walk over the nodes, the components the other way round. -/
theorem sortBy_law {ns : List Int} {es : List (Int × Int × Int)} {P : List Int} (hw : wellB ns es = true) (hP : P.Perm (sortI ns)) {s : TS} {dH : WS} {parts : List (List Int)}
    (hrun : TRun (fun x => (srtP P (adjD ns es x)).reverse) TS.start (srtP P (sortI ns)).reverse s)
    (hv : VRun (fun i => (fromL true (hN P.length) (hE P es) i).reverse) ⟨[], []⟩ (sortI (hN P.length)).reverse dH)
    (hs : SccL (sortI (hN P.length)) (fromL true (hN P.length) (hE P es)) parts) :
    ∃ f : List Int → List Int, stabL parts dH = s.sccs.reverse.map f ∧ ∀ c ∈ s.sccs, ((f c).map (atP P)).Perm c := by
  have hnd := P_nodup hw hP
  have hadj : ∀ a, ∀ b ∈ (srtP P (adjD ns es a)).reverse, b ∈ sortI ns := fun a b hb => adjD_sub a b ((srtP_perm P _).mem_iff.1 (List.mem_reverse.1 hb))
  have hall : ∀ x, x ∈ (srtP P (sortI ns)).reverse ↔ x ∈ sortI ns := fun x => by rw [List.mem_reverse, (srtP_perm P _).mem_iff]
  have hfin := hrun.fin (ids := sortI ns) hadj hall
  have hinv := (hrun.inv TInv.start).1
  have hst := hinv.empty_stack
  have hR := hrun.rinv RInv.start
  obtain ⟨d, hd, htw⟩ := hrun.walk _ TW.start
  have hinj : ∀ a b, InK P.length a → InK P.length b → atP P a = atP P b → a = b := fun a b ha hb e => by rw [← pos_atP hnd ha, ← pos_atP hnd hb, e]
  have hsubH : ∀ a, InK P.length a → ∀ b ∈ (fromL true (hN P.length) (hE P es) a).reverse, InK P.length b := fun a _ b hb => mem_hN.1 (by rw [← sortI_hN]; exact (List.mem_filter.1 (List.mem_reverse.1 hb)).1)
  obtain ⟨hm, hIm, hIl⟩ := VRun.map (adj := fun x => (srtP P (adjD ns es x)).reverse) (φ := atP P) (I := InK P.length) hinj (fun a ha => adj_map hw hP ha) hsubH hv (fun _ h => nomatch h) (fun _ h => nomatch h) (fun x hx => mem_hN.1 (by rw [← sortI_hN]; exact List.mem_reverse.1 hx))
  have hl : (sortI (hN P.length)).reverse.map (atP P) = (srtP P (sortI ns)).reverse := by
    rw [srt_all hw hP, sortI_hN, List.map_reverse, ← P_map]
  rw [hl] at hm
  have hde := hm.det hd
  rw [← hde] at htw
  have hreach : ∀ i j, InK P.length i → InK P.length j → (ReachA (fromL true (hN P.length) (hE P es)) i j ↔ ReachA (fun x => (srtP P (adjD ns es x)).reverse) (atP P i) (atP P j)) := by
    intro i j hi hj
    refine ⟨fun h => (reach_at hw hP hi h).2, fun h => ?_⟩
    have h2 := (reach_pos hw hP (atP_mem hi) h).2
    rw [pos_atP hnd hi, pos_atP hnd hj] at h2
    exact h2
  have hids : ∀ i, InK P.length i ↔ i ∈ sortI (hN P.length) := fun i => by rw [sortI_hN, mem_hN]
  have hrootP : ∀ c ∈ s.sccs, rootI c ∈ P := fun c hc => hP.mem_iff.2 (hfin.sub hc (rootI_mem (hfin.ne c hc)))
  have hcomp : ∀ c ∈ s.sccs, ∀ i, InK P.length i → (i ∈ compOf parts (posP P (rootI c) : Nat) ↔ atP P i ∈ c) := by
    intro c hc i hi
    have hr := hrootP c hc
    obtain ⟨h1, h2⟩ := comp_of hs ((hids _).1 (pos_inK hr))
    rw [hs.scc _ h1 _ h2 i, hfin.scc c hc _ (rootI_mem (hfin.ne c hc)) (atP P i), hreach _ _ (pos_inK hr) hi, hreach _ _ hi (pos_inK hr), atP_pos hr]
  refine ⟨fun c => compOf parts (posP P (rootI c) : Nat), ?_, fun c hc => ?_⟩
  · refine stab_eq (φ := atP P) (I := InK P.length) hR htw hIm hIl hinj (fun x hx => ?_) (fun c hc c' hc' x h1 h2 y hy => ?_) (fun c hc i hi hic => ?_) (fun c hc j hj => hcomp c hc j hj)
    · rcases (hinv.met x).1 hx with h | h
      · rw [hst] at h; cases h
      · exact h
    · exact (hfin.scc c' hc' x h2 y).2 ((hfin.scc c hc x h1 y).1 hy)
    · obtain ⟨h1, h2⟩ := comp_of hs ((hids i).1 hi)
      obtain ⟨h3, h4⟩ := comp_of hs ((hids _).1 (pos_inK (hrootP c hc)))
      exact nodup_same hs.nd h1 h3 h2 ((hcomp c hc i hi).2 hic)
  · obtain ⟨h3, h4⟩ := comp_of hs ((hids _).1 (pos_inK (hrootP c hc)))
    have hsub : ∀ j ∈ compOf parts (posP P (rootI c) : Nat), InK P.length j := fun j hj => (hids j).2 ((hs.mem j).1 (List.mem_flatten.2 ⟨_, h3, hj⟩))
    refine (List.perm_ext_iff_of_nodup ?_ (hfin.nodup_of hc)).2 fun x => ?_
    · exact List.pairwise_map.2 ((hs.nodup_of h3).imp_of_mem fun {a b} ha hb hab e => hab (hinj a b (hsub a ha) (hsub b hb) e))
    · rw [List.mem_map]
      constructor
      · rintro ⟨j, hj, rfl⟩
        exact (hcomp c hc j (hsub j hj)).1 hj
      · intro hx
        have hxP := hP.mem_iff.2 (hfin.sub hc hx)
        exact ⟨(posP P x : Nat), (hcomp c hc _ (pos_inK hxP)).2 (by rw [atP_pos hxP]; exact hx), atP_pos hxP⟩
end Go.Proofs.YtnfkbjgijelfdaaGreat
