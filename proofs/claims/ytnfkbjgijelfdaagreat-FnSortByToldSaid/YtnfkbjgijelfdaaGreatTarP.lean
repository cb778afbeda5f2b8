/- Tarjan's walk as a relation, and what it makes: the strongly connected components, each behind those to which it leads. Lists of ints in lexical order. What a whole walk of Tarjan's leaves; the strongly connected components of a graph that is turned round; lists of lists in lexical order. -/
import Derived.Test.YtnfkbjgijelfdaaGreatMem
namespace Go.Proofs.YtnfkbjgijelfdaaGreat
/-- The state of Tarjan's walk: the count, the tables, the stack (its top at the end), the components, and the nodes left. -/
structure TS where
  idx : Nat
  tab : Int → Nat
  low : Int → Nat
  stack : List Int
  sccs : List (List Int)
  left : List Int

def updN (f : Int → Nat) (x : Int) (n : Nat) (y : Int) : Nat := if y = x then n else f y
def TS.enter (s : TS) (v : Int) : TS := { s with idx := s.idx + 1, tab := updN s.tab v (s.idx + 1), low := updN s.low v (s.idx + 1), stack := s.stack ++ [v] }
def TS.setLow (s : TS) (v : Int) (n : Nat) : TS := { s with low := updN s.low v n }
def belowOf (l : List Int) (v : Int) : List Int := l.takeWhile fun x => !(x == v)
def fromOf (l : List Int) (v : Int) : List Int := l.dropWhile fun x => !(x == v)
def TS.leave (s : TS) (v : Int) : TS :=
  if s.low v = s.tab v then { s with stack := belowOf s.stack v, sccs := s.sccs ++ [(fromOf s.stack v).reverse], left := s.left ++ [v] } else { s with left := s.left ++ [v] }

/-- The successors of v that are still to be considered. -/
inductive Suc (adj : Int → List Int) : Int → TS → List Int → TS → Prop
  | nil (v : Int) (s : TS) : Suc adj v s [] s
  | visit {v w : Int} {s s1 s' : TS} {r : List Int} : s.tab w = 0 → Suc adj w (s.enter w) (adj w) s1 → Suc adj v ((s1.leave w).setLow v (min ((s1.leave w).low v) ((s1.leave w).low w))) r s' → Suc adj v s (w :: r) s'
  | back {v w : Int} {s s' : TS} {r : List Int} : s.tab w ≠ 0 → w ∈ s.stack → Suc adj v (s.setLow v (min (s.low v) (s.tab w))) r s' → Suc adj v s (w :: r) s'
  | skip {v w : Int} {s s' : TS} {r : List Int} : s.tab w ≠ 0 → w ∉ s.stack → Suc adj v s r s' → Suc adj v s (w :: r) s'

/-- The nodes from which a walk is still to begin. -/
inductive TRun (adj : Int → List Int) : TS → List Int → TS → Prop
  | nil (s : TS) : TRun adj s [] s
  | visit {w : Int} {s s1 s' : TS} {r : List Int} : s.tab w = 0 → Suc adj w (s.enter w) (adj w) s1 → TRun adj (s1.leave w) r s' → TRun adj s (w :: r) s'
  | skip {w : Int} {s s' : TS} {r : List Int} : s.tab w ≠ 0 → TRun adj s r s' → TRun adj s (w :: r) s'

theorem Suc.det {adj : Int → List Int} {v : Int} {s a b : TS} {l : List Int} (h : Suc adj v s l a) : Suc adj v s l b → a = b := by
  induction h generalizing b with
  | nil v s => intro h; cases h; rfl
  | visit h0 _ _ ih1 ih2 =>
    intro h
    cases h with
    | visit _ g1 g2 => rw [← ih1 g1] at g2; exact ih2 g2
    | back g0 _ _ => exact absurd h0 g0
    | skip g0 _ _ => exact absurd h0 g0
  | back h0 h1 _ ih =>
    intro h
    cases h with
    | visit g0 _ _ => exact absurd g0 h0
    | back _ _ g => exact ih g
    | skip _ g1 _ => exact absurd h1 g1
  | skip h0 h1 _ ih =>
    intro h
    cases h with
    | visit g0 _ _ => exact absurd g0 h0
    | back _ g1 _ => exact absurd g1 h1
    | skip _ _ g => exact ih g
theorem TRun.det {adj : Int → List Int} {s a b : TS} {l : List Int} (h : TRun adj s l a) : TRun adj s l b → a = b := by
  induction h generalizing b with
  | nil s => intro h; cases h; rfl
  | visit h0 h1 _ ih =>
    intro h
    cases h with
    | visit _ g1 g2 => rw [← h1.det g1] at g2; exact ih g2
    | skip g0 _ => exact absurd h0 g0
  | skip h0 _ ih =>
    intro h
    cases h with
    | visit g0 _ _ => exact absurd g0 h0
    | skip _ g => exact ih g

/-- What holds while the nodes g are being walked. -/
structure TInv (adj : Int → List Int) (g : List Int) (s : TS) : Prop where
  nd : (s.stack ++ s.sccs.flatten).Nodup
  met : ∀ x, s.tab x ≠ 0 ↔ x ∈ s.stack ∨ x ∈ s.sccs.flatten
  up : s.stack.Pairwise (fun a b => s.tab a < s.tab b)
  le : ∀ x, s.tab x ≤ s.idx
  ord : ∀ (i : Nat) (c : List Int) (x y : Int), s.sccs[i]? = some c → x ∈ c → y ∈ adj x → ∃ j c', j ≤ i ∧ s.sccs[j]? = some c' ∧ y ∈ c'
  scc : ∀ c ∈ s.sccs, c ≠ [] ∧ ∀ x ∈ c, ∀ y, y ∈ c ↔ (ReachA adj x y ∧ ReachA adj y x)
  gs : ∀ y ∈ g, y ∈ s.stack
  down : ∀ y ∈ g, ∀ x ∈ s.stack, s.tab y ≤ s.tab x → ReachA adj y x
  upw : ∀ x ∈ s.stack, ∃ y ∈ g, s.tab y ≤ s.tab x ∧ ReachA adj x y
  blk : ∀ x, s.tab x ≠ 0 → x ∉ g → ∀ y ∈ adj x, s.tab y ≠ 0

/-- What the low link of v says, of whose successors those of pre have been considered. -/
structure TLow (adj : Int → List Int) (st0 : List Int) (v : Int) (b pre : List Int) (s : TS) : Prop where
  le : s.low v ≤ s.tab v
  wit : ∃ y ∈ s.stack, s.tab y = s.low v ∧ ReachA adj v y
  old : ∀ x ∈ b, ∀ y ∈ adj x, y ∈ st0 → s.low v ≤ s.tab y
  own : ∀ y ∈ pre, s.tab y ≠ 0 ∧ (y ∈ st0 → s.low v ≤ s.tab y)

structure TKeep (v : Int) (s s' : TS) : Prop where
  tab : ∀ x, s.tab x ≠ 0 → s'.tab x = s.tab x
  low : ∀ x, s.tab x ≠ 0 → x ≠ v → s'.low x = s.low x
  sccs : ∃ e, s'.sccs = s.sccs ++ e

theorem TKeep.refl (v : Int) (s : TS) : TKeep v s s := ⟨fun _ _ => rfl, fun _ _ _ => rfl, [], by simp⟩
theorem TKeep.trans {v : Int} {a b c : TS} (h : TKeep v a b) (g : TKeep v b c) : TKeep v a c :=
  ⟨fun x hx => (g.tab x (by rw [h.tab x hx]; exact hx)).trans (h.tab x hx), fun x hx hv => (g.low x (by rw [h.tab x hx]; exact hx) hv).trans (h.low x hx hv), by
    obtain ⟨e, he⟩ := h.sccs; obtain ⟨f, hf⟩ := g.sccs; exact ⟨e ++ f, by rw [hf, he, List.append_assoc]⟩⟩

section
variable {adj : Int → List Int}
theorem TInv.fresh {g : List Int} {s : TS} (h : TInv adj g s) {w : Int} (hw : s.tab w = 0) : w ∉ s.stack ∧ w ∉ s.sccs.flatten :=
  ⟨fun hm => (h.met w).2 (.inl hm) hw, fun hm => (h.met w).2 (.inr hm) hw⟩

theorem TInv.enter {g : List Int} {s : TS} (h : TInv adj g s) {w : Int} (hw : s.tab w = 0) (hr : ∀ y ∈ g, ReachA adj y w) : TInv adj (g ++ [w]) (s.enter w) := by
  obtain ⟨f1, f2⟩ := h.fresh hw
  have ht : ∀ x, x ≠ w → (s.enter w).tab x = s.tab x := fun x hx => if_neg hx
  have htw : (s.enter w).tab w = s.idx + 1 := if_pos rfl
  have hst : ∀ x ∈ s.stack, (s.enter w).tab x = s.tab x := fun x hx => ht x (fun e => f1 (e ▸ hx))
  have hg : ∀ y ∈ g, y ≠ w := fun y hy e => f1 (e ▸ h.gs y hy)
  have hle : ∀ x, s.tab x < s.idx + 1 := fun x => Nat.lt_succ_of_le (h.le x)
  refine ⟨?_, fun x => ?_, ?_, fun x => ?_, h.ord, h.scc, fun y hy => ?_, fun y hy x hx hxy => ?_, fun x hx => ?_, fun x hx hxg y hy => ?_⟩
  · show ((s.stack ++ [w]) ++ s.sccs.flatten).Nodup
    have h0 := h.nd
    rw [List.append_assoc, List.nodup_append] at *
    refine ⟨h0.1, List.nodup_append.2 ⟨by simp, h0.2.1, fun a ha b hb e => ?_⟩, fun a ha b hb e => ?_⟩
    · rw [List.mem_singleton] at ha; subst ha; subst e; exact f2 hb
    · subst e
      rcases List.mem_append.1 hb with hb | hb
      · rw [List.mem_singleton] at hb; subst hb; exact f1 ha
      · exact h0.2.2 a ha a hb rfl
  · show (s.enter w).tab x ≠ 0 ↔ x ∈ s.stack ++ [w] ∨ x ∈ s.sccs.flatten
    by_cases e : x = w
    · subst e; rw [htw]; simp
    · rw [ht x e, h.met x]; simp [e]
  · show (s.stack ++ [w]).Pairwise _
    rw [List.pairwise_append]
    refine ⟨h.up.imp_of_mem fun {a b} ha hb hab => by rw [hst a ha, hst b hb]; exact hab, by simp, fun a ha b hb => ?_⟩
    rw [List.mem_singleton] at hb; subst hb
    rw [hst a ha, htw]; exact hle a
  · show (s.enter w).tab x ≤ s.idx + 1
    by_cases e : x = w
    · subst e; rw [htw]; exact Nat.le_refl _
    · rw [ht x e]; exact Nat.le_of_lt (hle x)
  · show y ∈ s.stack ++ [w]
    rcases List.mem_append.1 hy with hy | hy
    · exact List.mem_append_left _ (h.gs y hy)
    · exact List.mem_append_right _ hy
  · replace hx : x ∈ s.stack ++ [w] := hx
    rcases List.mem_append.1 hy with hy1 | hy
    · rcases List.mem_append.1 hx with hx | hx
      · rw [ht y (hg y hy1), hst x hx] at hxy
        exact h.down y hy1 x hx hxy
      · rw [List.mem_singleton] at hx; subst hx; exact hr y hy1
    · rw [List.mem_singleton] at hy; subst hy
      rcases List.mem_append.1 hx with hx | hx
      · rw [htw, hst x hx] at hxy
        have := hle x; omega
      · rw [List.mem_singleton] at hx; subst hx; exact ReachA.refl _ _
  · replace hx : x ∈ s.stack ++ [w] := hx
    rcases List.mem_append.1 hx with hx | hx
    · obtain ⟨y, hy, h1, h2⟩ := h.upw x hx
      exact ⟨y, List.mem_append_left _ hy, by rw [ht y (hg y hy), hst x hx]; exact h1, h2⟩
    · rw [List.mem_singleton] at hx; subst hx
      exact ⟨x, List.mem_append_right _ (List.mem_singleton.2 rfl), Nat.le_refl _, ReachA.refl _ _⟩
  · have hxw : x ≠ w := fun e => hxg (List.mem_append_right _ (List.mem_singleton.2 e))
    rw [ht x hxw] at hx
    have h1 := h.blk x hx (fun hm => hxg (List.mem_append_left _ hm)) y hy
    by_cases e : y = w
    · subst e; exact absurd hw h1
    · rw [ht y e]; exact h1

theorem TInv.setLow {g : List Int} {s : TS} (h : TInv adj g s) (v : Int) (n : Nat) : TInv adj g (s.setLow v n) :=
  ⟨h.nd, h.met, h.up, h.le, h.ord, h.scc, h.gs, h.down, h.upw, h.blk⟩
end
theorem belowOf_at {a b : List Int} {v : Int} (h : v ∉ a) : belowOf (a ++ v :: b) v = a ∧ fromOf (a ++ v :: b) v = v :: b := by
  unfold belowOf fromOf
  induction a with
  | nil => simp
  | cons x r ih =>
    have hx : x ≠ v := fun e => h (by simp [e])
    have hr : v ∉ r := fun hm => h (List.mem_cons_of_mem _ hm)
    simp [hx, ih hr]

section
variable {adj : Int → List Int}
theorem TInv.part {g st0 b : List Int} {v : Int} {s : TS} (h : TInv adj (g ++ [v]) s) (hst : s.stack = st0 ++ v :: b) :
    v ∉ st0 ∧ v ∉ b ∧ (∀ x ∈ b, x ∉ st0) ∧ (∀ x ∈ st0, s.tab x < s.tab v) ∧ (∀ x ∈ b, s.tab v < s.tab x) ∧ (∀ x ∈ v :: b, x ∉ s.sccs.flatten) ∧ (∀ x ∈ st0, x ∉ s.sccs.flatten) := by
  have h0 := h.nd
  have h1 := h.up
  rw [hst] at h0 h1
  rw [List.nodup_append] at h0
  obtain ⟨h2, h3, h4⟩ := h0
  rw [List.nodup_append] at h2
  obtain ⟨h5, h6, h7⟩ := h2
  rw [List.nodup_cons] at h6
  rw [List.pairwise_append, List.pairwise_cons] at h1
  refine ⟨fun hm => h7 v hm v (by simp) rfl, h6.1, fun x hx hm => h7 x hm x (List.mem_cons_of_mem _ hx) rfl, fun x hx => h1.2.2 x hx v (by simp), fun x hx => h1.2.1.1 x hx, fun x hx hm => h4 x (List.mem_append_right _ hx) x hm rfl, fun x hx hm => h4 x (List.mem_append_left _ hx) x hm rfl⟩

/-- Each edge out of what lies from v on upward. -/
theorem TInv.cross {g st0 b : List Int} {v : Int} {s : TS} (h : TInv adj (g ++ [v]) s) (hst : s.stack = st0 ++ v :: b) (hg : ∀ y ∈ g, y ∈ st0) (hl : TLow adj st0 v b (adj v) s) :
    ∀ x ∈ v :: b, ∀ y ∈ adj x, s.tab y ≠ 0 ∧ (y ∈ st0 → s.low v ≤ s.tab y) := by
  obtain ⟨p1, p2, p3, -⟩ := h.part hst
  intro x hx y hy
  rcases List.mem_cons.1 hx with rfl | hxb
  · exact hl.own y hy
  · have hxs : x ∈ s.stack := by rw [hst]; exact List.mem_append_right _ hx
    refine ⟨h.blk x ((h.met x).2 (.inl hxs)) (fun hm => ?_) y hy, fun hy0 => hl.old x hxb y hy hy0⟩
    rcases List.mem_append.1 hm with hm | hm
    · exact p3 x hxb (hg x hm)
    · rw [List.mem_singleton] at hm; subst hm; exact p2 hxb

/-- Among the done ones nothing leads out. -/
theorem TInv.shut {g : List Int} {s : TS} (h : TInv adj g s) {x y : Int} (hx : x ∈ s.sccs.flatten) (hxy : ReachA adj x y) : y ∈ s.sccs.flatten := by
  refine hxy (fun z => z ∈ s.sccs.flatten) hx (fun a b ha hb => ?_)
  obtain ⟨c, hc, hac⟩ := List.mem_flatten.1 ha
  obtain ⟨i, hi⟩ := List.getElem?_of_mem hc
  obtain ⟨j, c', _, hj, hbc⟩ := h.ord i c a b hi hac hb
  exact List.mem_flatten.2 ⟨c', List.mem_of_getElem? hj, hbc⟩

theorem TInv.leave {g st0 b : List Int} {v : Int} {s : TS} (h : TInv adj (g ++ [v]) s) (hst : s.stack = st0 ++ v :: b) (hg : ∀ y ∈ g, y ∈ st0) (hl : TLow adj st0 v b (adj v) s) :
    TInv adj g (s.leave v) ∧ (s.leave v).tab = s.tab ∧ (s.leave v).low = s.low ∧ (s.leave v).left = s.left ++ [v] ∧
      ((s.low v = s.tab v ∧ (s.leave v).stack = st0 ∧ (s.leave v).sccs = s.sccs ++ [(v :: b).reverse]) ∨ (s.low v < s.tab v ∧ (s.leave v).stack = s.stack ∧ (s.leave v).sccs = s.sccs ∧ ∃ y ∈ st0, s.tab y = s.low v ∧ ReachA adj v y)) := by
  obtain ⟨p1, p2, p3, p4, p5, p6, p7⟩ := h.part hst
  have hcr := h.cross hst hg hl
  obtain ⟨q1, q2⟩ := belowOf_at (b := b) p1
  have hvg : v ∈ g ++ [v] := List.mem_append_right _ (by simp)
  have hvs : v ∈ s.stack := h.gs v hvg
  by_cases e : s.low v = s.tab v
  · have e1 : s.leave v = { s with stack := st0, sccs := s.sccs ++ [(v :: b).reverse], left := s.left ++ [v] } := by
      unfold TS.leave; rw [if_pos e, hst, q1, q2]
    have hin : ∀ x ∈ v :: b, ∀ y ∈ adj x, y ∈ v :: b ∨ y ∈ s.sccs.flatten := fun x hx y hy => by
      obtain ⟨h1, h2⟩ := hcr x hx y hy
      rcases (h.met y).1 h1 with h3 | h3
      · rw [hst] at h3
        rcases List.mem_append.1 h3 with h4 | h4
        · have := h2 h4; have := p4 y h4; omega
        · exact .inl h4
      · exact .inr h3
    have hcl : ∀ x ∈ v :: b, ∀ y, ReachA adj x y → y ∈ v :: b ∨ y ∈ s.sccs.flatten := fun x hx y hxy =>
      hxy (fun z => z ∈ v :: b ∨ z ∈ s.sccs.flatten) (.inl hx) (fun a c ha hc => by
        rcases ha with ha | ha
        · exact hin a ha c hc
        · exact .inr (h.shut ha (ReachA.step (ReachA.refl _ _) hc)))
    have hdn : ∀ x ∈ v :: b, ReachA adj v x := fun x hx => h.down v hvg x (by rw [hst]; exact List.mem_append_right _ hx) (by
      rcases List.mem_cons.1 hx with rfl | hx
      · exact Nat.le_refl _
      · exact Nat.le_of_lt (p5 x hx))
    have hup : ∀ x ∈ v :: b, ReachA adj x v := fun x hx => by
      obtain ⟨y, hy, h1, h2⟩ := h.upw x (by rw [hst]; exact List.mem_append_right _ hx)
      rcases List.mem_append.1 hy with hy | hy
      · exfalso
        rcases hcl x hx y h2 with h3 | h3
        · rcases List.mem_cons.1 h3 with h4 | h4
          · exact p1 (h4 ▸ hg y hy)
          · exact p3 y h4 (hg y hy)
        · exact p7 y (hg y hy) h3
      · rw [List.mem_singleton] at hy; subst hy; exact h2
    refine ⟨?_, by rw [e1], by rw [e1], by rw [e1], .inl ⟨e, by rw [e1], by rw [e1]⟩⟩
    rw [e1]
    have hfl : (s.sccs ++ [(v :: b).reverse]).flatten = s.sccs.flatten ++ (v :: b).reverse := by simp
    have hmf : ∀ x, x ∈ (s.sccs ++ [(v :: b).reverse]).flatten ↔ x ∈ s.sccs.flatten ∨ x ∈ v :: b := fun x => by rw [hfl, List.mem_append, List.mem_reverse]
    refine ⟨?_, fun x => ?_, ?_, h.le, fun i c x y hi hx hy => ?_, fun c hc => ?_, hg, fun y hy x hx hxy => ?_, fun x hx => ?_, fun x hx hxg y hy => ?_⟩
    · show (st0 ++ (s.sccs ++ [(v :: b).reverse]).flatten).Nodup
      rw [hfl]
      have h0 := h.nd
      rw [hst, List.append_assoc] at h0
      refine (List.Perm.nodup_iff ?_).1 h0
      exact List.Perm.append_left _ (List.perm_append_comm.trans (List.Perm.append_left _ (List.reverse_perm _).symm))
    · show s.tab x ≠ 0 ↔ x ∈ st0 ∨ x ∈ (s.sccs ++ [(v :: b).reverse]).flatten
      rw [hmf, h.met x, hst, List.mem_append]
      constructor
      · rintro ((h1 | h1) | h1)
        · exact .inl h1
        · exact .inr (.inr h1)
        · exact .inr (.inl h1)
      · rintro (h1 | h1 | h1)
        · exact .inl (.inl h1)
        · exact .inr h1
        · exact .inl (.inr h1)
    · have h1 := h.up
      rw [hst, List.pairwise_append] at h1
      exact h1.1
    · replace hi : (s.sccs ++ [(v :: b).reverse])[i]? = some c := hi
      by_cases hil : i < s.sccs.length
      · rw [List.getElem?_append_left hil] at hi
        obtain ⟨j, c', h1, h2, h3⟩ := h.ord i c x y hi hx hy
        refine ⟨j, c', h1, ?_, h3⟩
        show (s.sccs ++ [(v :: b).reverse])[j]? = some c'
        rw [List.getElem?_append_left (by omega)]; exact h2
      · have hlen := (List.getElem?_eq_some_iff.1 hi).1
        rw [List.length_append, List.length_singleton] at hlen
        obtain rfl : i = s.sccs.length := by omega
        rw [List.getElem?_append_right (Nat.le_refl _), Nat.sub_self] at hi
        obtain rfl : (v :: b).reverse = c := Option.some.inj hi
        rcases hin x (List.mem_reverse.1 hx) y hy with h1 | h1
        · refine ⟨s.sccs.length, _, Nat.le_refl _, ?_, List.mem_reverse.2 h1⟩
          show (s.sccs ++ [(v :: b).reverse])[s.sccs.length]? = _
          rw [List.getElem?_append_right (Nat.le_refl _), Nat.sub_self]; rfl
        · obtain ⟨c', hc', hyc⟩ := List.mem_flatten.1 h1
          obtain ⟨j, hj⟩ := List.getElem?_of_mem hc'
          have hjl := (List.getElem?_eq_some_iff.1 hj).1
          refine ⟨j, c', by omega, ?_, hyc⟩
          show (s.sccs ++ [(v :: b).reverse])[j]? = some c'
          rw [List.getElem?_append_left hjl]; exact hj
    · replace hc : c ∈ s.sccs ++ [(v :: b).reverse] := hc
      rcases List.mem_append.1 hc with hc | hc
      · exact h.scc c hc
      · rw [List.mem_singleton] at hc; subst hc
        refine ⟨by simp, fun x hx y => ?_⟩
        have hxv := List.mem_reverse.1 hx
        rw [List.mem_reverse]
        constructor
        · intro hy
          exact ⟨(hup x hxv).trans (hdn y hy), (hup y hy).trans (hdn x hxv)⟩
        · rintro ⟨h1, h2⟩
          rcases hcl x hxv y h1 with h3 | h3
          · exact h3
          · exact absurd (h.shut h3 h2) (p6 x hxv)
    · exact h.down y (List.mem_append_left _ hy) x (by rw [hst]; exact List.mem_append_left _ hx) hxy
    · replace hx : x ∈ st0 := hx
      obtain ⟨y, hy, h1, h2⟩ := h.upw x (by rw [hst]; exact List.mem_append_left _ hx)
      rcases List.mem_append.1 hy with hy | hy
      · exact ⟨y, hy, h1, h2⟩
      · rw [List.mem_singleton] at hy; subst hy
        have := p4 x hx; omega
    · replace hx : s.tab x ≠ 0 := hx
      by_cases hxv : x = v
      · subst hxv; exact (hcr x (by simp) y hy).1
      · exact h.blk x hx (fun hm => by
          rcases List.mem_append.1 hm with hm | hm
          · exact hxg hm
          · exact hxv (List.mem_singleton.1 hm)) y hy
  · have hlt : s.low v < s.tab v := by have := hl.le; omega
    have e1 : s.leave v = { s with left := s.left ++ [v] } := by unfold TS.leave; rw [if_neg e]
    obtain ⟨y, hys, hyt, hry⟩ := hl.wit
    have hy0 : y ∈ st0 := by
      rw [hst] at hys
      rcases List.mem_append.1 hys with h1 | h1
      · exact h1
      · rcases List.mem_cons.1 h1 with rfl | h1
        · omega
        · have := p5 y h1; omega
    refine ⟨?_, by rw [e1], by rw [e1], by rw [e1], .inr ⟨hlt, by rw [e1], by rw [e1], y, hy0, hyt, hry⟩⟩
    rw [e1]
    refine ⟨h.nd, h.met, h.up, h.le, h.ord, h.scc, fun y hy => h.gs y (List.mem_append_left _ hy), fun y hy => h.down y (List.mem_append_left _ hy), fun x hx => ?_, fun x hx hxg z hz => ?_⟩
    · obtain ⟨z, hz, h1, h2⟩ := h.upw x hx
      rcases List.mem_append.1 hz with hz | hz
      · exact ⟨z, hz, h1, h2⟩
      · rw [List.mem_singleton] at hz; subst hz
        obtain ⟨u, hu, h3, h4⟩ := h.upw y hys
        rcases List.mem_append.1 hu with hu | hu
        · exact ⟨u, hu, by show s.tab u ≤ s.tab x; omega, h2.trans (hry.trans h4)⟩
        · rw [List.mem_singleton] at hu; subst hu; omega
    · replace hx : s.tab x ≠ 0 := hx
      by_cases hxv : x = v
      · subst hxv; exact (hcr x (by simp) z hz).1
      · exact h.blk x hx (fun hm => by
          rcases List.mem_append.1 hm with hm | hm
          · exact hxg hm
          · exact hxv (List.mem_singleton.1 hm)) z hz
end
section
variable {adj : Int → List Int}
theorem TLow.start (st0 : List Int) (w : Int) (s : TS) (hst : (s.enter w).stack = st0 ++ [w]) : TLow adj st0 w [] [] (s.enter w) := by
  have h1 : (s.enter w).tab w = s.idx + 1 := if_pos rfl
  have h2 : (s.enter w).low w = s.idx + 1 := if_pos rfl
  exact ⟨by rw [h1, h2]; exact Nat.le_refl _, ⟨w, by rw [hst]; simp, by rw [h1, h2], ReachA.refl _ _⟩, (fun _ hx => nomatch hx), (fun _ hx => nomatch hx)⟩

/-- What a whole visit of w leaves. -/
structure TDone (adj : Int → List Int) (g : List Int) (w : Int) (s s2 : TS) : Prop where
  inv : TInv adj g s2
  grow : ∃ n, s2.stack = s.stack ++ n ∧ ∀ x ∈ n, ∀ y ∈ adj x, y ∈ s.stack → s2.low w ≤ s2.tab y
  low : s2.low w = s2.tab w ∨ ∃ y ∈ s.stack, s2.tab y = s2.low w ∧ ReachA adj w y
  num : s2.tab w = s.idx + 1
  keep : TKeep w s s2
  old : ∀ x, s.tab x ≠ 0 → s2.low x = s.low x

theorem TInv.done {g b1 : List Int} {w : Int} {s s1 : TS} (h : TInv adj g s) (hw : s.tab w = 0) (h1 : TInv adj (g ++ [w]) s1) (hst : s1.stack = s.stack ++ w :: b1) (hl : TLow adj s.stack w b1 (adj w) s1) (hk : TKeep w (s.enter w) s1) : TDone adj g w s (s1.leave w) := by
  have hgs : ∀ y ∈ g, y ∈ s.stack := h.gs
  obtain ⟨k1, k2, k3, -, k4⟩ := h1.leave hst hgs hl
  have hcr := h1.cross hst hgs hl
  have ht : ∀ x, s.tab x ≠ 0 → x ≠ w := fun x hx e => hx (e ▸ hw)
  have htab : ∀ x, s.tab x ≠ 0 → (s1.leave w).tab x = s.tab x := fun x hx => by
    have e : (s.enter w).tab x = s.tab x := if_neg (ht x hx)
    rw [k2, hk.tab x (by rw [e]; exact hx), e]
  have hlow : ∀ x, s.tab x ≠ 0 → (s1.leave w).low x = s.low x := fun x hx => by
    have e : (s.enter w).tab x = s.tab x := if_neg (ht x hx)
    have e2 : (s.enter w).low x = s.low x := if_neg (ht x hx)
    rw [k3, hk.low x (by rw [e]; exact hx) (ht x hx), e2]
  have hnum : (s1.leave w).tab w = s.idx + 1 := by
    have e : (s.enter w).tab w = s.idx + 1 := if_pos rfl
    rw [k2, hk.tab w (by rw [e]; omega), e]
  obtain ⟨e, he⟩ := hk.sccs
  replace he : s1.sccs = s.sccs ++ e := he
  refine ⟨k1, ?_, ?_, hnum, ⟨htab, fun x hx _ => hlow x hx, ?_⟩, hlow⟩
  · rcases k4 with ⟨_, h3, _⟩ | ⟨_, h3, _, _⟩
    · exact ⟨[], by rw [h3, List.append_nil], fun x hx => nomatch hx⟩
    · exact ⟨w :: b1, by rw [h3, hst], fun x hx y hy hys => by rw [k2, k3]; exact (hcr x hx y hy).2 hys⟩
  · rcases k4 with ⟨h3, _⟩ | ⟨_, _, _, y, h3, h4, h5⟩
    · exact .inl (by rw [k2, k3]; exact h3)
    · exact .inr ⟨y, h3, by rw [k2, k3]; exact h4, h5⟩
  · rcases k4 with ⟨_, _, h3⟩ | ⟨_, _, h3, _⟩
    · exact ⟨e ++ [(w :: b1).reverse], by rw [h3, he, List.append_assoc]⟩
    · exact ⟨e, by rw [h3, he]⟩

theorem Suc.inv {v : Int} {s s' : TS} {l : List Int} (h : Suc adj v s l s') : ∀ (g st0 b pre : List Int), TInv adj (g ++ [v]) s → s.stack = st0 ++ v :: b → (∀ y ∈ g, y ∈ st0) → TLow adj st0 v b pre s → (∀ y ∈ l, y ∈ adj v) →
    ∃ b', TInv adj (g ++ [v]) s' ∧ s'.stack = st0 ++ v :: b' ∧ TLow adj st0 v b' (pre ++ l) s' ∧ TKeep v s s' := by
  induction h with
  | nil v s =>
    intro g st0 b pre hi hst hg hl hp
    rw [List.append_nil]
    exact ⟨b, hi, hst, hl, TKeep.refl _ _⟩
  | @visit v w s s1 s' r h0 h1 h2 ih1 ih2 =>
    intro g st0 b pre hi hst hg hl hp
    obtain ⟨p1, p2, p3, p4, p5, p6, p7⟩ := hi.part hst
    obtain ⟨f1, f2⟩ := hi.fresh h0
    have hwv : w ∈ adj v := hp w (by simp)
    have hvs : v ∈ s.stack := by rw [hst]; simp
    have hvm : s.tab v ≠ 0 := (hi.met v).2 (.inl hvs)
    have hvw : v ≠ w := fun e => hvm (e ▸ h0)
    have hrw : ∀ y ∈ g ++ [v], ReachA adj y w := fun y hy => by
      have h3 : ReachA adj y v := hi.down y hy v hvs (by
        rcases List.mem_append.1 hy with hy | hy
        · exact Nat.le_of_lt (p4 y (hg y hy))
        · rw [List.mem_singleton.1 hy]; exact Nat.le_refl _)
      exact h3.step hwv
    obtain ⟨b1, q1, q2, q3, q4⟩ := ih1 (g ++ [v]) s.stack [] [] (hi.enter h0 hrw) rfl hi.gs (TLow.start _ _ _ rfl) (fun y hy => hy)
    rw [List.nil_append] at q3
    have hd := hi.done h0 q1 q2 q3 q4
    obtain ⟨n, hn1, hn2⟩ := hd.grow
    have hsub : ∀ x ∈ s.stack, x ∈ (s1.leave w).stack := fun x hx => by rw [hn1]; exact List.mem_append_left _ hx
    have hst0 : ∀ x ∈ st0, x ∈ s.stack := fun x hx => by rw [hst]; exact List.mem_append_left _ hx
    have hms : ∀ x ∈ s.stack, s.tab x ≠ 0 := fun x hx => (hi.met x).2 (.inl hx)
    obtain ⟨m, hm⟩ : ∃ m, m = min ((s1.leave w).low v) ((s1.leave w).low w) := ⟨_, rfl⟩
    rw [← hm] at h2 ih2
    have hlv := hd.old v hvm
    have htv := hd.keep.tab v hvm
    have hm1 : m ≤ s.low v := by rw [hm, hlv]; exact Nat.min_le_left _ _
    have hm2 : m ≤ (s1.leave w).low w := by rw [hm]; exact Nat.min_le_right _ _
    have e1 : ((s1.leave w).setLow v m).low v = m := if_pos rfl
    have e2 : ((s1.leave w).setLow v m).tab = (s1.leave w).tab := rfl
    have e3 : ((s1.leave w).setLow v m).stack = (s1.leave w).stack := rfl
    have hnw : (s1.leave w).tab w ≠ 0 := by rw [hd.num]; omega
    have hL : TLow adj st0 v (b ++ n) (pre ++ [w]) ((s1.leave w).setLow v m) := by
     refine ⟨by rw [e1, e2, htv]; have := hl.le; omega, ?_, fun x hx y hy hy0 => ?_, fun y hy => ?_⟩
     · rw [e1, e2, e3]
       by_cases hc : s.low v ≤ (s1.leave w).low w
       · obtain ⟨y, hy, h3, h4⟩ := hl.wit
         exact ⟨y, hsub y hy, by rw [hd.keep.tab y (hms y hy), h3, hm, hlv, Nat.min_eq_left hc], h4⟩
       · have hm3 : m = (s1.leave w).low w := by rw [hm, hlv]; exact Nat.min_eq_right (by omega)
         rcases hd.low with h3 | ⟨y, h3, h4, h5⟩
         · exfalso
           rw [hd.num] at h3
           have := hl.le; have := hi.le v; omega
         · exact ⟨y, hsub y h3, by rw [h4, hm3], (ReachA.step (ReachA.refl _ _) hwv).trans h5⟩
     · rw [e1, e2]
       rcases List.mem_append.1 hx with hx | hx
       · have h3 := hl.old x hx y hy hy0
         rw [hd.keep.tab y (hms y (hst0 y hy0))]; omega
       · have h3 := hn2 x hx y hy (hst0 y hy0)
         omega
     · rw [e1, e2]
       rcases List.mem_append.1 hy with hy | hy
       · obtain ⟨h3, h4⟩ := hl.own y hy
         rw [hd.keep.tab y h3]
         exact ⟨h3, fun hy0 => by have := h4 hy0; omega⟩
       · rw [List.mem_singleton] at hy; subst hy
         exact ⟨hnw, fun hy0 => absurd (hst0 _ hy0) f1⟩
    obtain ⟨b', r1, r2, r3, r4⟩ := ih2 g st0 (b ++ n) (pre ++ [w]) (hd.inv.setLow v m) (by rw [e3, hn1, hst]; simp) hg hL (fun y hy => hp y (List.mem_cons_of_mem _ hy))
    rw [List.append_assoc, List.singleton_append] at r3
    exact ⟨b', r1, r2, r3, TKeep.trans (b := (s1.leave w).setLow v m) ⟨fun x hx => hd.keep.tab x hx, fun x hx hxv => (if_neg hxv).trans (hd.old x hx), hd.keep.sccs⟩ r4⟩
  | @back v w s s' r h0 h1 h2 ih =>
    intro g st0 b pre hi hst hg hl hp
    have hwv : w ∈ adj v := hp w (by simp)
    obtain ⟨m, hm⟩ : ∃ m, m = min (s.low v) (s.tab w) := ⟨_, rfl⟩
    rw [← hm] at h2 ih
    have hm1 : m ≤ s.low v := by rw [hm]; exact Nat.min_le_left _ _
    have hm2 : m ≤ s.tab w := by rw [hm]; exact Nat.min_le_right _ _
    have e1 : (s.setLow v m).low v = m := if_pos rfl
    have e2 : (s.setLow v m).tab = s.tab := rfl
    have e3 : (s.setLow v m).stack = s.stack := rfl
    have hL : TLow adj st0 v b (pre ++ [w]) (s.setLow v m) := by
     refine ⟨by rw [e1, e2]; have := hl.le; omega, ?_, fun x hx y hy hy0 => ?_, fun y hy => ?_⟩
     · rw [e1, e2, e3]
       by_cases hc : s.low v ≤ s.tab w
       · obtain ⟨y, hy, h3, h4⟩ := hl.wit
         exact ⟨y, hy, by rw [h3, hm, Nat.min_eq_left hc], h4⟩
       · exact ⟨w, h1, by rw [hm, Nat.min_eq_right (by omega)], ReachA.step (ReachA.refl _ _) hwv⟩
     · rw [e1, e2]
       have h3 := hl.old x hx y hy hy0
       omega
     · rw [e1, e2]
       rcases List.mem_append.1 hy with hy | hy
       · obtain ⟨h3, h4⟩ := hl.own y hy
         exact ⟨h3, fun hy0 => by have := h4 hy0; omega⟩
       · rw [List.mem_singleton] at hy; subst hy
         exact ⟨h0, fun _ => hm2⟩
    obtain ⟨b', r1, r2, r3, r4⟩ := ih g st0 b (pre ++ [w]) (hi.setLow v m) hst hg hL (fun y hy => hp y (List.mem_cons_of_mem _ hy))
    rw [List.append_assoc, List.singleton_append] at r3
    exact ⟨b', r1, r2, r3, TKeep.trans (b := s.setLow v m) ⟨fun x _ => rfl, fun x _ hxv => if_neg hxv, [], by simp [TS.setLow]⟩ r4⟩
  | @skip v w s s' r h0 h1 h2 ih =>
    intro g st0 b pre hi hst hg hl hp
    have hL : TLow adj st0 v b (pre ++ [w]) s := by
      refine ⟨hl.le, hl.wit, hl.old, fun y hy => ?_⟩
      rcases List.mem_append.1 hy with hy | hy
      · exact hl.own y hy
      · rw [List.mem_singleton] at hy; subst hy
        exact ⟨h0, fun hy0 => absurd (by rw [hst]; exact List.mem_append_left _ hy0) h1⟩
    obtain ⟨b', r1, r2, r3, r4⟩ := ih g st0 b (pre ++ [w]) hi hst hg hL (fun y hy => hp y (List.mem_cons_of_mem _ hy))
    rw [List.append_assoc, List.singleton_append] at r3
    exact ⟨b', r1, r2, r3, r4⟩

/-- A visit. -/
theorem Suc.visited {w : Int} {s s1 : TS} (h : Suc adj w (s.enter w) (adj w) s1) {g : List Int} (hi : TInv adj g s) (h0 : s.tab w = 0) (hr : ∀ y ∈ g, ReachA adj y w) : TDone adj g w s (s1.leave w) := by
  obtain ⟨b1, q1, q2, q3, q4⟩ := h.inv g s.stack [] [] (hi.enter h0 hr) rfl hi.gs (TLow.start _ _ _ rfl) (fun y hy => hy)
  rw [List.nil_append] at q3
  exact hi.done h0 q1 q2 q3 q4

theorem TInv.empty_stack {s : TS} (h : TInv adj [] s) : s.stack = [] := by
  cases hs : s.stack with
  | nil => rfl
  | cons x r =>
    obtain ⟨y, hy, _⟩ := h.upw x (by rw [hs]; simp)
    cases hy

theorem TRun.inv {s s' : TS} {l : List Int} (h : TRun adj s l s') : TInv adj [] s → TInv adj [] s' ∧ (∀ x, s.tab x ≠ 0 → s'.tab x ≠ 0) ∧ (∀ x ∈ l, s'.tab x ≠ 0) := by
  induction h with
  | nil s => exact fun hi => ⟨hi, fun _ h => h, fun _ h => nomatch h⟩
  | @visit w s s1 s' r h0 h1 h2 ih =>
    intro hi
    have hd := h1.visited hi h0 (fun _ h => nomatch h)
    obtain ⟨i1, i2, i3⟩ := ih hd.inv
    refine ⟨i1, fun x hx => i2 x (by rw [hd.keep.tab x hx]; exact hx), fun x hx => ?_⟩
    rcases List.mem_cons.1 hx with rfl | hx
    · exact i2 x (by rw [hd.num]; omega)
    · exact i3 x hx
  | @skip w s s' r h0 h1 ih =>
    intro hi
    obtain ⟨i1, i2, i3⟩ := ih hi
    refine ⟨i1, i2, fun x hx => ?_⟩
    rcases List.mem_cons.1 hx with rfl | hx
    · exact i2 x h0
    · exact i3 x hx

def TS.start : TS := ⟨0, fun _ => 0, fun _ => 0, [], [], []⟩
theorem TInv.start : TInv adj [] TS.start := by
  unfold TS.start
  exact ⟨List.nodup_nil, (fun x => by simp), List.Pairwise.nil, (fun _ => Nat.le_refl _), (fun i c x y h => by simp at h), (fun c h => nomatch h), (fun _ h => nomatch h), (fun _ h => nomatch h), (fun x h => nomatch h), (fun x h => absurd rfl h)⟩
end

section
variable {adj : Int → List Int}
theorem Suc.append {v : Int} {s s1 s2 : TS} {l m : List Int} (h : Suc adj v s l s1) : Suc adj v s1 m s2 → Suc adj v s (l ++ m) s2 := by
  induction h with
  | nil v s => exact fun g => g
  | visit h0 h1 _ _ ih => exact fun g => Suc.visit h0 h1 (ih g)
  | back h0 h1 _ ih => exact fun g => Suc.back h0 h1 (ih g)
  | skip h0 h1 _ ih => exact fun g => Suc.skip h0 h1 (ih g)
theorem TRun.append {s s1 s2 : TS} {l m : List Int} (h : TRun adj s l s1) : TRun adj s1 m s2 → TRun adj s (l ++ m) s2 := by
  induction h with
  | nil s => exact fun g => g
  | visit h0 h1 _ ih => exact fun g => TRun.visit h0 h1 (ih g)
  | skip h0 _ ih => exact fun g => TRun.skip h0 (ih g)

/-- How many nodes are not met. -/
def unm (ids : List Int) (t : Int → Nat) : Nat := ids.countP fun x => decide (t x = 0)
theorem unm_enter {ids : List Int} {s : TS} {w : Int} (hw : w ∈ ids) (h0 : s.tab w = 0) : unm ids (s.enter w).tab + 1 ≤ unm ids s.tab := by
  have h1 : ∀ x, (s.enter w).tab x = if x = w then s.idx + 1 else s.tab x := fun x => rfl
  obtain ⟨a, b, rfl⟩ := List.append_of_mem hw
  have hle : ∀ l : List Int, l.countP (fun x => decide ((s.enter w).tab x = 0)) ≤ l.countP fun x => decide (s.tab x = 0) := fun l =>
    List.countP_mono_left fun x _ hx => by
      simp only [decide_eq_true_eq] at hx ⊢
      rw [h1] at hx
      by_cases e : x = w
      · rw [e]; exact h0
      · rw [if_neg e] at hx; exact hx
  unfold unm
  rw [List.countP_append, List.countP_append, List.countP_cons, List.countP_cons]
  have e1 : decide ((s.enter w).tab w = 0) = false := by rw [h1, if_pos rfl]; simp
  have e2 : decide (s.tab w = 0) = true := by simp [h0]
  rw [e1, e2]
  have := hle a; have := hle b
  simp; omega

/-- How the counts go. -/
structure TCnt (ids : List Int) (s s' : TS) : Prop where
  idx : s.idx ≤ s'.idx
  sum : s'.idx + unm ids s'.tab ≤ s.idx + unm ids s.tab
  met : ∀ x, s.tab x ≠ 0 → s'.tab x ≠ 0
  sub : ∀ x, s'.tab x ≠ 0 → s.tab x ≠ 0 ∨ x ∈ ids
theorem TCnt.refl (ids : List Int) (s : TS) : TCnt ids s s := ⟨Nat.le_refl _, Nat.le_refl _, fun _ h => h, fun _ h => .inl h⟩
theorem TCnt.trans {ids : List Int} {a b c : TS} (h : TCnt ids a b) (g : TCnt ids b c) : TCnt ids a c :=
  ⟨Nat.le_trans h.idx g.idx, Nat.le_trans g.sum h.sum, fun x hx => g.met x (h.met x hx), fun x hx => by
    rcases g.sub x hx with h1 | h1
    · exact h.sub x h1
    · exact .inr h1⟩
theorem TCnt.enter {ids : List Int} {s : TS} {w : Int} (hw : w ∈ ids) (h0 : s.tab w = 0) : TCnt ids s (s.enter w) := by
  have h1 : ∀ x, (s.enter w).tab x = if x = w then s.idx + 1 else s.tab x := fun x => rfl
  refine ⟨Nat.le_succ _, by have := unm_enter hw h0; show s.idx + 1 + _ ≤ _; omega, fun x hx => ?_, fun x hx => ?_⟩
  · rw [h1]; by_cases e : x = w
    · rw [if_pos e]; omega
    · rw [if_neg e]; exact hx
  · rw [h1] at hx; by_cases e : x = w
    · exact .inr (e ▸ hw)
    · rw [if_neg e] at hx; exact .inl hx
theorem leave_tab (s : TS) (v : Int) : (s.leave v).tab = s.tab ∧ (s.leave v).idx = s.idx ∧ (s.leave v).low = s.low := by
  unfold TS.leave
  by_cases e : s.low v = s.tab v
  · rw [if_pos e]; exact ⟨rfl, rfl, rfl⟩
  · rw [if_neg e]; exact ⟨rfl, rfl, rfl⟩
theorem TCnt.of_eq {ids : List Int} {a b c : TS} (h : TCnt ids a b) (ht : c.tab = b.tab) (hi : c.idx = b.idx) : TCnt ids a c :=
  ⟨by rw [hi]; exact h.idx, by rw [ht, hi]; exact h.sum, fun x hx => by rw [ht]; exact h.met x hx, fun x hx => h.sub x (by rw [← ht]; exact hx)⟩
theorem Suc.cnt {ids : List Int} (hadj : ∀ a, ∀ b ∈ adj a, b ∈ ids) {v : Int} {s s' : TS} {l : List Int} (h : Suc adj v s l s') : (∀ y ∈ l, y ∈ ids) → TCnt ids s s' := by
  induction h with
  | nil v s => exact fun _ => TCnt.refl _ _
  | @visit v w s s1 s' r h0 h1 h2 ih1 ih2 =>
    intro hl
    have hw := hl w (by simp)
    have g1 := ((TCnt.enter hw h0).trans (ih1 (hadj w))).of_eq (leave_tab s1 w).1 (leave_tab s1 w).2.1
    exact (g1.of_eq (c := (s1.leave w).setLow v _) rfl rfl).trans (ih2 (fun y hy => hl y (List.mem_cons_of_mem _ hy)))
  | @back v w s s' r h0 h1 _ ih => exact fun hl => ((TCnt.refl ids s).of_eq (c := s.setLow v (min (s.low v) (s.tab w))) rfl rfl).trans (ih (fun y hy => hl y (List.mem_cons_of_mem _ hy)))
  | skip h0 h1 _ ih => exact fun hl => ih (fun y hy => hl y (List.mem_cons_of_mem _ hy))
end
end Go.Proofs.YtnfkbjgijelfdaaGreat
namespace Go.Proofs.YtnfkbjgijelfdaaGreat

/-- Which of two lists stands ahead. -/
def cmpL : List Int → List Int → Int
  | [], [] => 0
  | [], _ :: _ => -1
  | _ :: _, [] => 1
  | x :: xs, y :: ys => if x < y then -1 else if y < x then 1 else cmpL xs ys

theorem cmpL_cons (x y : Int) (xs ys : List Int) : cmpL (x :: xs) (y :: ys) = if x < y then -1 else if y < x then 1 else cmpL xs ys := rfl
theorem cmpL_nil_left (ys : List Int) : cmpL [] ys = if ys = [] then 0 else -1 := by cases ys <;> simp [cmpL]

theorem cmpL_self : ∀ a : List Int, cmpL a a = 0
  | [] => rfl
  | x :: xs => by rw [cmpL_cons, if_neg (by omega), if_neg (by omega)]; exact cmpL_self xs
theorem cmpL_neg : ∀ a b : List Int, cmpL b a = - cmpL a b
  | [], [] => rfl
  | [], _ :: _ => rfl
  | _ :: _, [] => rfl
  | x :: xs, y :: ys => by
    rw [cmpL_cons, cmpL_cons]
    by_cases h1 : x < y
    · rw [if_neg (by omega), if_pos h1, if_pos h1]; rfl
    · by_cases h2 : y < x
      · rw [if_pos h2, if_neg h1, if_pos h2]
      · rw [if_neg h2, if_neg h1, if_neg h1, if_neg h2]; exact cmpL_neg xs ys
theorem cmpL_zero : ∀ a b : List Int, cmpL a b = 0 → a = b
  | [], [], _ => rfl
  | [], _ :: _, h => by simp [cmpL] at h
  | _ :: _, [], h => by simp [cmpL] at h
  | x :: xs, y :: ys, h => by
    rw [cmpL_cons] at h
    by_cases h1 : x < y
    · rw [if_pos h1] at h; omega
    · by_cases h2 : y < x
      · rw [if_neg h1, if_pos h2] at h; omega
      · rw [if_neg h1, if_neg h2] at h
        rw [cmpL_zero xs ys h, show x = y by omega]
theorem cmpL_trans : ∀ a b c : List Int, cmpL a b < 0 → cmpL b c < 0 → cmpL a c < 0
  | [], [], _, h, _ => by simp [cmpL] at h
  | [], _ :: _, [], _, h => by simp [cmpL] at h
  | [], _ :: _, _ :: _, _, _ => by simp [cmpL]
  | _ :: _, [], _, h, _ => by simp [cmpL] at h
  | _ :: _, _ :: _, [], _, h => by simp [cmpL] at h
  | x :: xs, y :: ys, z :: zs, h1, h2 => by
    rw [cmpL_cons] at h1 h2 ⊢
    by_cases a1 : x < y
    · by_cases b1 : y < z
      · rw [if_pos (by omega)]; omega
      · by_cases b2 : z < y
        · rw [if_neg b1, if_pos b2] at h2; omega
        · rw [if_pos (by omega)]; omega
    · by_cases a2 : y < x
      · rw [if_neg a1, if_pos a2] at h1; omega
      · rw [if_neg a1, if_neg a2] at h1
        by_cases b1 : y < z
        · rw [if_pos (by omega)]; omega
        · by_cases b2 : z < y
          · rw [if_neg b1, if_pos b2] at h2; omega
          · rw [if_neg b1, if_neg b2] at h2
            rw [if_neg (by omega), if_neg (by omega)]
            exact cmpL_trans xs ys zs h1 h2

end Go.Proofs.YtnfkbjgijelfdaaGreat
namespace Go.Proofs.YtnfkbjgijelfdaaGreat

section
variable {adj : Int → List Int}
theorem TRun.cnt {ids : List Int} (hadj : ∀ a, ∀ b ∈ adj a, b ∈ ids) {s s' : TS} {l : List Int} (h : TRun adj s l s') : (∀ y ∈ l, y ∈ ids) → TCnt ids s s' := by
  induction h with
  | nil s => exact fun _ => TCnt.refl _ _
  | @visit w s s1 s' r h0 h1 h2 ih =>
    intro hl
    have hw := hl w (by simp)
    have g1 := ((TCnt.enter hw h0).trans (h1.cnt hadj (hadj w))).of_eq (leave_tab s1 w).1 (leave_tab s1 w).2.1
    exact g1.trans (ih (fun y hy => hl y (List.mem_cons_of_mem _ hy)))
  | @skip w s s' r h0 h1 ih => exact fun hl => ih (fun y hy => hl y (List.mem_cons_of_mem _ hy))

/-- What a whole walk leaves. -/
structure TFin (ids : List Int) (adj : Int → List Int) (s : TS) : Prop where
  nd : s.sccs.flatten.Nodup
  mem : ∀ x, x ∈ s.sccs.flatten ↔ x ∈ ids
  ne : ∀ c ∈ s.sccs, c ≠ []
  scc : ∀ c ∈ s.sccs, ∀ x ∈ c, ∀ y, y ∈ c ↔ (ReachA adj x y ∧ ReachA adj y x)
  ord : ∀ (i : Nat) (c : List Int) (x y : Int), s.sccs[i]? = some c → x ∈ c → y ∈ adj x → ∃ j c', j ≤ i ∧ s.sccs[j]? = some c' ∧ y ∈ c'

theorem TRun.fin {ids : List Int} (hadj : ∀ a, ∀ b ∈ adj a, b ∈ ids) {s : TS} {l : List Int} (h : TRun adj TS.start l s) (hl : ∀ x, x ∈ l ↔ x ∈ ids) : TFin ids adj s := by
  obtain ⟨hi, -, hm⟩ := h.inv TInv.start
  have hc := h.cnt hadj (fun y hy => (hl y).1 hy)
  have hst := hi.empty_stack
  have hnd := hi.nd
  rw [hst, List.nil_append] at hnd
  refine ⟨hnd, fun x => ⟨fun hx => ?_, fun hx => ?_⟩, fun c hc => (hi.scc c hc).1, fun c hc => (hi.scc c hc).2, hi.ord⟩
  · rcases hc.sub x ((hi.met x).2 (.inr hx)) with h0 | h0
    · exact absurd rfl h0
    · exact h0
  · rcases (hi.met x).1 (hm x ((hl x).2 hx)) with h0 | h0
    · rw [hst] at h0; cases h0
    · exact h0
end

section
variable {ids : List Int} {adj adj' : Int → List Int} {s s' : TS}
theorem TFin.nodup_of (h : TFin ids adj s) {c : List Int} (hc : c ∈ s.sccs) : c.Nodup := h.nd.sublist (List.sublist_flatten_of_mem hc)
theorem TFin.sub (h : TFin ids adj s) {c : List Int} (hc : c ∈ s.sccs) {x : Int} (hx : x ∈ c) : x ∈ ids := (h.mem x).1 (List.mem_flatten.2 ⟨c, hc, hx⟩)
theorem TFin.at (h : TFin ids adj s) {x : Int} (hx : x ∈ ids) : ∃ c ∈ s.sccs, x ∈ c := by
  obtain ⟨c, h1, h2⟩ := List.mem_flatten.1 ((h.mem x).2 hx)
  exact ⟨c, h1, h2⟩
theorem TFin.map_nodup (h : TFin ids adj s) : (s.sccs.map sortI).Nodup := by
  have h1 := h.nd
  have h2 := h.ne
  generalize s.sccs = L at h1 h2
  induction L with
  | nil => simp
  | cons c L ih =>
    rw [List.flatten_cons, List.nodup_append] at h1
    rw [List.map_cons, List.nodup_cons]
    refine ⟨fun hm => ?_, ih h1.2.1 (fun d hd => h2 d (List.mem_cons_of_mem _ hd))⟩
    obtain ⟨d, hd, e⟩ := List.mem_map.1 hm
    obtain ⟨x, hx⟩ := List.exists_mem_of_ne_nil c (h2 c (by simp))
    have hxd : x ∈ d := by
      have := mem_sortI.2 hx
      rw [← e] at this
      exact mem_sortI.1 this
    exact h1.2.2 x hx x (List.mem_flatten.2 ⟨d, hd, hxd⟩) rfl

theorem sortI_congr {a b : List Int} (ha : a.Nodup) (hb : b.Nodup) (h : ∀ x, x ∈ a ↔ x ∈ b) : sortI a = sortI b :=
  sortI_unique ((sortI_perm a).trans ((List.perm_ext_iff_of_nodup ha hb).2 h)) (sortI_pw a)

theorem TFin.same_sub (h : TFin ids adj s) (h' : TFin ids adj' s') (hr : ∀ x ∈ ids, ∀ y ∈ ids, (ReachA adj x y ∧ ReachA adj y x) ↔ (ReachA adj' x y ∧ ReachA adj' y x)) (l : List Int) (hl : l ∈ s.sccs.map sortI) : l ∈ s'.sccs.map sortI := by
  obtain ⟨c, hc, rfl⟩ := List.mem_map.1 hl
  obtain ⟨x, hx⟩ := List.exists_mem_of_ne_nil c (h.ne c hc)
  have hxi := h.sub hc hx
  obtain ⟨d, hd, hxd⟩ := h'.at hxi
  refine List.mem_map.2 ⟨d, hd, sortI_congr (h'.nodup_of hd) (h.nodup_of hc) (fun y => ⟨fun hy => ?_, fun hy => ?_⟩)⟩
  · exact (h.scc c hc x hx y).2 ((hr x hxi y (h'.sub hd hy)).2 ((h'.scc d hd x hxd y).1 hy))
  · exact (h'.scc d hd x hxd y).2 ((hr x hxi y (h.sub hc hy)).1 ((h.scc c hc x hx y).1 hy))

/-- The same components. -/
theorem TFin.same (h : TFin ids adj s) (h' : TFin ids adj' s') (hr : ∀ x ∈ ids, ∀ y ∈ ids, (ReachA adj x y ∧ ReachA adj y x) ↔ (ReachA adj' x y ∧ ReachA adj' y x)) : (s.sccs.map sortI).Perm (s'.sccs.map sortI) :=
  (List.perm_ext_iff_of_nodup h.map_nodup h'.map_nodup).2 fun l => ⟨h.same_sub h' hr l, h'.same_sub h (fun x hx y hy => (hr x hx y hy).symm) l⟩

theorem reach_turn (ht : ∀ a b, b ∈ adj a → a ∈ adj' b) {x y : Int} (h : ReachA adj x y) : ReachA adj' y x :=
  h (fun z => ReachA adj' z x) (ReachA.refl _ _) (fun a b ha hb => (ReachA.step (ReachA.refl adj' b) (ht a b hb)).trans ha)
theorem TFin.turned (h : TFin ids adj s) (h' : TFin ids adj' s') (ht : ∀ a b, b ∈ adj a ↔ a ∈ adj' b) : (s.sccs.map sortI).Perm (s'.sccs.map sortI) :=
  h.same h' (fun _ _ _ _ => ⟨fun ⟨a, b⟩ => ⟨reach_turn (fun p q => (ht p q).1) b, reach_turn (fun p q => (ht p q).1) a⟩, fun ⟨a, b⟩ => ⟨reach_turn (fun p q => (ht q p).2) b, reach_turn (fun p q => (ht q p).2) a⟩⟩)
end
end Go.Proofs.YtnfkbjgijelfdaaGreat
