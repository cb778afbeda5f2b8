/- The reference's KCore and the laws' own peeled: plain facts. No walk. The laws' own peeled: plain facts. No walk. -/
import Derived.Test.YtbkhakjbmdmghaaDegP
import Derived.Test.YtbkhakjbmdmghaaSpecP
namespace Go.Proofs.Ytbkhakjbmdmghaa

theorem countP_sub {ids l : List Int} {p : Int → Bool} (hs : l.Sublist ids) (hn : ids.Nodup) : (ids.filter p).countP (fun v => decide (v ∈ l)) = l.countP p := by
  rw [List.countP_eq_length_filter, List.countP_eq_length_filter, List.filter_filter]
  refine List.Perm.length_eq ((List.perm_ext_iff_of_nodup (hn.sublist (List.filter_sublist ..)) ((hn.sublist hs).sublist (List.filter_sublist ..))).2 fun x => ?_)
  rw [List.mem_filter, List.mem_filter]
  constructor
  · rintro ⟨_, h2⟩
    simp only [Bool.and_eq_true, decide_eq_true_eq] at h2
    exact h2
  · rintro ⟨h1, h2⟩
    exact ⟨hs.subset h1, by simp [h1, h2]⟩

/-- The list from which nodes with fewer than k edges to others of it are taken. -/
structure KSt (d : Bool) (ns : List Int) (es : List (Int × Int × Int)) (k : Int) (l : List Int) (i : Nat) : Prop where
  sub : l.Sublist (sortI ns)
  core : ∀ (j : Nat) (v : Int), k ≤ j → InCore (sortI ns) (fromL d ns es) j v → v ∈ l
  done : ∀ j, j < i → k ≤ (l.countP (arcB d es (l.getD j 0)) : Nat)

theorem KSt.start (d : Bool) (ns : List Int) (es : List (Int × Int × Int)) (k : Int) : KSt d ns es k (sortI ns) 0 := ⟨List.Sublist.refl _, fun _ _ _ h => h.mem, fun j hj => by omega⟩
theorem KSt.next {d : Bool} {ns : List Int} {es : List (Int × Int × Int)} {k : Int} {l : List Int} {i : Nat} (h : KSt d ns es k l i) (hk : k ≤ (l.countP (arcB d es (l.getD i 0)) : Nat)) : KSt d ns es k l (i + 1) :=
  ⟨h.sub, h.core, fun j hj => by
    by_cases e : j = i
    · rw [e]; exact hk
    · exact h.done j (by omega)⟩
/-- 'without'. -/
def dropI (l : List Int) (x : Int) : List Int := l.filter fun y => !(y == x)
theorem KSt.drop {d : Bool} {ns : List Int} {es : List (Int × Int × Int)} {k : Int} {l : List Int} {i : Nat} {x : Int} (h : KSt d ns es k l i) (hu : (sortI ns).Nodup) (hk : ((l.countP (arcB d es x) : Nat) : Int) < k) : KSt d ns es k (dropI l x) 0 := by
  refine ⟨(List.filter_sublist ..).trans h.sub, fun j v hj hc => ?_, fun j hj => by omega⟩
  refine List.mem_filter.2 ⟨h.core j v hj hc, ?_⟩
  by_cases e : v = x
  · exfalso
    subst e
    obtain ⟨X, h1, h2⟩ := hc
    have h3 := (h2 v h1).2
    have h4 : degIn (fromL d ns es) X v ≤ degIn (fromL d ns es) (fun u => decide (u ∈ l)) v := degIn_mono fun u hu => by
      have := h.core j u hj ⟨X, hu, h2⟩
      simpa using this
    have h5 : degIn (fromL d ns es) (fun u => decide (u ∈ l)) v = l.countP (arcB d es v) := countP_sub h.sub hu
    omega
  · simpa using e
theorem dropI_len {l : List Int} {i : Nat} {x : Int} (hx : l.getD i 0 = x) (hi : i < l.length) : (dropI l x).length < l.length := by
  unfold dropI
  refine List.length_filter_lt_length_iff_exists.2 ⟨x, ?_, by simp⟩
  rw [← hx]; simp [List.getD, hi]
theorem KSt.fin {d : Bool} {ns : List Int} {es : List (Int × Int × Int)} {k : Nat} {l : List Int} {i : Nat} (h : KSt d ns es k l i) (hu : (sortI ns).Nodup) (hi : l.length ≤ i) (v : Int) : v ∈ l ↔ InCore (sortI ns) (fromL d ns es) k v := by
  refine ⟨fun hv => ⟨fun u => decide (u ∈ l), by simpa using hv, fun u hu' => ?_⟩, h.core k v (Int.le_refl _)⟩
  have hul : u ∈ l := by simpa using hu'
  refine ⟨h.sub.subset hul, ?_⟩
  obtain ⟨j, hj⟩ := List.getElem?_of_mem hul
  have hjl := (List.getElem?_eq_some_iff.1 hj).1
  have e : l.getD j 0 = u := by rw [List.getD_eq_getElem?_getD, hj]; rfl
  have h1 := h.done j (by omega)
  rw [e] at h1
  have h5 : degIn (fromL d ns es) (fun u => decide (u ∈ l)) u = l.countP (arcB d es u) := countP_sub h.sub hu
  omega
end Go.Proofs.Ytbkhakjbmdmghaa
namespace Go.Proofs.Ytbkhakjbmdmghaa

theorem countP_range (l : List Int) (p : Int → Bool) : l.countP p = (List.range l.length).countP fun v => p (l.getD v 0) := by
  have e : l = (List.range l.length).map fun v => l.getD v 0 := by
    apply List.ext_getElem (by simp)
    intro i h1 h2
    simp [List.getD, h1]
  conv => lhs; rw [e]
  rw [List.countP_map]
  rfl

/-- How many nodes that have not gone a node leads to, of the first v. -/
def cntG (A : Nat → Nat → Bool) (g : List Bool) (u v : Nat) : Nat := (List.range v).countP fun i => A u i && !g.getD i false
theorem cntG_succ (A : Nat → Nat → Bool) (g : List Bool) (u v : Nat) : cntG A g u (v + 1) = cntG A g u v + (if (A u v && !g.getD v false) = true then 1 else 0) := by
  unfold cntG
  rw [List.range_succ, List.countP_append]
  simp [List.countP_cons]

/-- Nodes are taken away, again and again. -/
structure PSt (ids : List Int) (adj : Int → List Int) (A : Nat → Nat → Bool) (k : Int) (g : List Bool) (u : Nat) (again : Bool) : Prop where
  len : g.length = ids.length
  gone : ∀ i, i < ids.length → g.getD i false = true → ∀ j : Nat, k ≤ j → ¬ InCore ids adj j (ids.getD i 0)
  ok : again = false → ∀ i, i < u → g.getD i false = true ∨ k ≤ (cntG A g i ids.length : Nat)

section
variable {ids : List Int} {adj : Int → List Int} {A : Nat → Nat → Bool} {k : Int} {g : List Bool} {u : Nat} {again : Bool}

theorem PSt.start (ids : List Int) (adj : Int → List Int) (A : Nat → Nat → Bool) (k : Int) (again : Bool) : PSt ids adj A k (List.replicate ids.length false) 0 again :=
  ⟨by simp, fun i hi h => by simp [List.getD, hi] at h, fun _ i hi => by omega⟩
theorem PSt.pass (h : PSt ids adj A k g u again) (b : Bool) : PSt ids adj A k g 0 b := ⟨h.len, h.gone, fun _ i hi => by omega⟩
theorem PSt.keep (h : PSt ids adj A k g u again) (hk : g.getD u false = true ∨ k ≤ (cntG A g u ids.length : Nat)) : PSt ids adj A k g (u + 1) again :=
  ⟨h.len, h.gone, fun ha i hi => by
    by_cases e : i = u
    · rw [e]; exact hk
    · exact h.ok ha i (by omega)⟩
theorem deg_cnt {p : Int → Int → Bool} (hadj : ∀ x, adj x = ids.filter (p x)) (X : Int → Bool) (u : Nat) : degIn adj X (ids.getD u 0) = (List.range ids.length).countP fun v => p (ids.getD u 0) (ids.getD v 0) && X (ids.getD v 0) := by
  unfold degIn
  rw [hadj, List.countP_filter, countP_range]
  congr 1
  funext v
  exact Bool.and_comm _ _
theorem PSt.take {p : Int → Int → Bool} (hadj : ∀ x, adj x = ids.filter (p x)) (hA : ∀ a b, a < ids.length → b < ids.length → A a b = p (ids.getD a 0) (ids.getD b 0)) (h : PSt ids adj A k g u again) (hu : u < ids.length) (hk : ((cntG A g u ids.length : Nat) : Int) < k) : PSt ids adj A k (g.set u true) (u + 1) true := by
  refine ⟨by rw [List.length_set]; exact h.len, fun i hi hg j hj hc => ?_, fun ha => by cases ha⟩
  by_cases e : i = u
  · subst e
    obtain ⟨X, h1, h2⟩ := hc
    have h3 := (h2 _ h1).2
    have h4 : degIn adj X (ids.getD i 0) ≤ cntG A g i ids.length := by
      rw [deg_cnt hadj]
      unfold cntG
      refine List.countP_mono_left fun v hv hx => ?_
      have hvl : v < ids.length := by simpa using hv
      rw [Bool.and_eq_true] at hx ⊢
      refine ⟨by rw [hA i v hu hvl]; exact hx.1, ?_⟩
      cases hgv : g.getD v false
      · rfl
      · exact absurd ⟨X, hx.2, h2⟩ (h.gone v hvl hgv j hj)
    omega
  · refine h.gone i hi ?_ j hj hc
    have e1 : (g.set u true).getD i false = g.getD i false := by
      simp only [List.getD, List.getElem?_set_ne (show u ≠ i from fun h => e h.symm)]
    rw [← e1]; exact hg

/-- What is left. -/
def leftL (ids : List Int) (g : List Bool) : List Int := ((List.range ids.length).filter fun i => !g.getD i false).map fun i => ids.getD i 0
theorem PSt.fin {p : Int → Int → Bool} {k : Nat} (hadj : ∀ x, adj x = ids.filter (p x)) (hA : ∀ a b, a < ids.length → b < ids.length → A a b = p (ids.getD a 0) (ids.getD b 0)) (hn : ids.Nodup) (h : PSt ids adj A k g ids.length false) (v : Int) : v ∈ leftL ids g ↔ InCore ids adj k v := by
  have hinj : ∀ a b, a < ids.length → b < ids.length → ids.getD a 0 = ids.getD b 0 → a = b := fun a b ha hb e => by
    simp only [List.getD, List.getElem?_eq_getElem ha, List.getElem?_eq_getElem hb, Option.getD_some] at e
    exact (List.getElem_inj hn).1 e
  unfold leftL
  rw [List.mem_map]
  constructor
  · rintro ⟨i, hi, rfl⟩
    rw [List.mem_filter] at hi
    have hil : i < ids.length := by simpa using hi.1
    refine ⟨fun y => decide (y ∈ ((List.range ids.length).filter fun i => !g.getD i false).map fun i => ids.getD i 0), ?_, fun y hy => ?_⟩
    · rw [decide_eq_true_iff]; exact List.mem_map.2 ⟨i, List.mem_filter.2 hi, rfl⟩
    · rw [decide_eq_true_iff] at hy
      obtain ⟨a, ha, rfl⟩ := List.mem_map.1 hy
      rw [List.mem_filter] at ha
      have hal : a < ids.length := by simpa using ha.1
      refine ⟨by simp [List.getD, hal], ?_⟩
      have h1 := (h.ok rfl a hal).resolve_left (by simpa using ha.2)
      have h2 : cntG A g a ids.length ≤ degIn adj (fun y => decide (y ∈ ((List.range ids.length).filter fun i => !g.getD i false).map fun i => ids.getD i 0)) (ids.getD a 0) := by
        rw [deg_cnt hadj]
        unfold cntG
        refine List.countP_mono_left fun b hb hx => ?_
        have hbl : b < ids.length := by simpa using hb
        rw [Bool.and_eq_true] at hx ⊢
        refine ⟨by rw [← hA a b hal hbl]; exact hx.1, ?_⟩
        rw [decide_eq_true_iff]
        exact List.mem_map.2 ⟨b, List.mem_filter.2 ⟨hb, hx.2⟩, rfl⟩
      omega
  · intro hc
    obtain ⟨i, hi⟩ := List.getElem?_of_mem hc.mem
    have hil := (List.getElem?_eq_some_iff.1 hi).1
    have e : ids.getD i 0 = v := by rw [List.getD_eq_getElem?_getD, hi]; rfl
    refine ⟨i, List.mem_filter.2 ⟨by simpa using hil, ?_⟩, e⟩
    cases hg : g.getD i false
    · rfl
    · exact absurd (e ▸ hc) (h.gone i hil hg k (Int.le_refl _))
end
end Go.Proofs.Ytbkhakjbmdmghaa
