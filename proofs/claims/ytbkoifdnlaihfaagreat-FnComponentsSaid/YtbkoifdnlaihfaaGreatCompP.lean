/- What the parts of a walk through all nodes of an undirected graph are. The rows of an undirected graph as neighbours; the components' plain law. The plain law of FnComponents. -/
import Derived.Test.YtbkoifdnlaihfaaGreatReach
import Derived.Test.YtbkoifdnlaihfaaGreatComp
import Derived.Test.YtbkoifdnlaihfaaGreatParts
namespace Go.Proofs.YtbkoifdnlaihfaaGreat
open Go.RowKit

theorem ReachA.sym {ids : List Int} {adj : Int → List Int} (hs : ∀ x ∈ ids, ∀ y ∈ adj x, y ∈ ids ∧ x ∈ adj y) {x y : Int} (hx : x ∈ ids) (h : ReachA adj x y) : ReachA adj y x :=
  (h (fun z => z ∈ ids ∧ ReachA adj z x) ⟨hx, ReachA.refl _ _⟩ (fun a b ha hb => ⟨(hs a ha.1 b hb).1, ReachA.trans (ReachA.step (ReachA.refl adj b) (hs a ha.1 b hb).2) ha.2⟩)).2

theorem comps_facts {ids : List Int} {adj : Int → List Int} (hs : ∀ x ∈ ids, ∀ y ∈ adj x, y ∈ ids ∧ x ∈ adj y) : ∀ (l vis : List Int) (ps : List (List Int)), CompsFrom ids adj l vis ps → (∀ y ∈ vis, ∀ z ∈ adj y, z ∈ vis) →
    (∀ p ∈ ps, p ≠ [] ∧ (∀ y ∈ p, y ∈ ids ∧ y ∉ vis) ∧ (∃ r ∈ p, ∀ y ∈ p, ReachA adj r y) ∧ (∀ y ∈ p, ∀ z ∈ adj y, z ∈ p)) ∧ ps.flatten.Nodup ∧ (∀ x ∈ l, x ∈ vis ∨ x ∈ ps.flatten)
  | [], vis, ps, h, _ => by
    have h' : ps = [] := h
    subst h'; simp
  | x :: r, vis, ps, h, hv => by
    rcases h with ⟨hx, h⟩ | ⟨hx, p, ps', rfl, hp, h⟩
    · obtain ⟨h1, h2, h3⟩ := comps_facts hs r vis ps h hv
      refine ⟨h1, h2, fun y hy => ?_⟩
      rcases List.mem_cons.1 hy with rfl | hy
      · exact .inl hx
      · exact h3 y hy
    · have hcl : ∀ y ∈ vis ++ p, ∀ z ∈ adj y, z ∈ vis ++ p := fun y hy z hz => by
        rcases List.mem_append.1 hy with hy | hy
        · exact List.mem_append_left _ (hv y hy z hz)
        · rcases hp.closed y hy z hz with h | h
          · exact List.mem_append_left _ h
          · exact List.mem_append_right _ h
      obtain ⟨h1, h2, h3⟩ := comps_facts hs r (vis ++ p) ps' h hcl
      refine ⟨fun q hq => ?_, ?_, fun y hy => ?_⟩
      · rcases List.mem_cons.1 hq with rfl | hq
        · refine ⟨List.ne_nil_of_mem hp.has, fun y hy => ⟨hp.sub y hy, hp.new y hy⟩, ⟨x, hp.has, hp.reach⟩, fun y hy z hz => ?_⟩
          rcases hp.closed y hy z hz with h | h
          · exact absurd (hv z h y (hs y (hp.sub y hy) z hz).2) (hp.new y hy)
          · exact h
        · obtain ⟨a, b, c, d⟩ := h1 q hq
          exact ⟨a, fun y hy => ⟨(b y hy).1, fun hm => (b y hy).2 (List.mem_append_left _ hm)⟩, c, d⟩
      · rw [List.flatten_cons, List.nodup_append]
        refine ⟨hp.nodup, h2, fun a ha b hb e => ?_⟩
        obtain ⟨q, hq, hbq⟩ := List.mem_flatten.1 hb
        exact ((h1 q hq).2.1 b hbq).2 (List.mem_append_right _ (e ▸ ha))
      · rw [List.flatten_cons]
        rcases List.mem_cons.1 hy with rfl | hy
        · exact .inr (List.mem_append_left _ hp.has)
        · rcases h3 y hy with h | h
          · rcases List.mem_append.1 h with h | h
            · exact .inl h
            · exact .inr (List.mem_append_left _ h)
          · exact .inr (List.mem_append_right _ h)
end Go.Proofs.YtbkoifdnlaihfaaGreat
namespace Go.Proofs.YtbkoifdnlaihfaaGreat
open Go.RowKit

theorem posOf_getU : ∀ {ids : List Int}, ids.Pairwise (· < ·) → ∀ {i : Nat}, i < ids.length → posOf ids (ids.getD i 0) = i := by
  intro ids
  induction ids with
  | nil => intro _ i hi; simp at hi
  | cons a r ih =>
    intro h i hi
    obtain ⟨h1, h2⟩ := List.pairwise_cons.1 h
    cases i with
    | zero =>
      show posOf (a :: r) a = 0
      unfold posOf
      rw [List.countP_cons_of_neg (by simp), List.countP_eq_zero]
      intro y hy
      have := h1 y hy
      simp; omega
    | succ i =>
      have hi' : i < r.length := by simpa using hi
      have e : (a :: r).getD (i + 1) 0 = r.getD i 0 := by simp [List.getD]
      have hx : r.getD i 0 ∈ r := by simp [List.getD, hi']
      have hlt := h1 _ hx
      have := ih h2 hi'
      rw [e]
      unfold posOf at this ⊢
      rw [List.countP_cons_of_pos (by simpa using hlt), this]

theorem row_tabU {ids : List Int} {es : List (Int × Int × Int)} (he : ∀ e ∈ es, e.1 ∈ ids ∧ e.2.1 ∈ ids) (a b : Nat) : (∃ p ∈ (rowsFrom false ids es).1.getD a [], p.1 = b) ↔ tabA false ids es a b = true := by
  have h0 : (look (rowsFrom false ids es).1 a b).isSome = true ↔ ∃ p ∈ (rowsFrom false ids es).1.getD a [], p.1 = b := by
    unfold look arcOf
    rw [Option.isSome_map, List.find?_isSome]
    simp
  rw [← h0, rowsFrom_look false ids a b es he, lastE_some]
  simp [tabA]
theorem tab_ltU {ids : List Int} {es : List (Int × Int × Int)} (he : ∀ e ∈ es, e.1 ∈ ids ∧ e.2.1 ∈ ids) {a b : Nat} (h : tabA false ids es a b = true) : a < ids.length ∧ b < ids.length := by
  unfold tabA at h
  obtain ⟨e, hm, hh⟩ := List.any_eq_true.1 h
  have h1 := posOf_len _ _ (he e hm).1
  have h2 := posOf_len _ _ (he e hm).2
  unfold hitsB at hh
  simp only [Bool.or_eq_true, Bool.and_eq_true, decide_eq_true_eq] at hh
  rcases hh with ⟨e1, e2⟩ | ⟨⟨_, e1⟩, e2⟩ <;> omega
theorem tab_symU (ids : List Int) (es : List (Int × Int × Int)) (a b : Nat) (h : tabA false ids es a b = true) : tabA false ids es b a = true := by
  unfold tabA at h ⊢
  obtain ⟨e, hm, hh⟩ := List.any_eq_true.1 h
  refine List.any_eq_true.2 ⟨e, hm, ?_⟩
  unfold hitsB at hh ⊢
  simp only [Bool.not_false, Bool.true_and, Bool.or_eq_true, Bool.and_eq_true, decide_eq_true_eq] at hh ⊢
  rcases hh with ⟨e1, e2⟩ | ⟨e1, e2⟩
  · exact .inr ⟨e2, e1⟩
  · exact .inl ⟨e2, e1⟩
theorem mem_nextU {ids : List Int} {es : List (Int × Int × Int)} (hu : ids.Pairwise (· < ·)) (he : ∀ e ∈ es, e.1 ∈ ids ∧ e.2.1 ∈ ids) {i : Nat} (hi : i < ids.length) (y : Int) :
    y ∈ nextL ids (rowsFrom false ids es).1 (ids.getD i 0) ↔ ∃ b, b < ids.length ∧ tabA false ids es i b = true ∧ ids.getD b 0 = y := by
  unfold nextL endsL
  rw [posOf_getU hu hi, List.mem_map]
  constructor
  · rintro ⟨p, hp, rfl⟩
    have h := (row_tabU he i p.1).1 ⟨p, hp, rfl⟩
    exact ⟨p.1, (tab_ltU he h).2, h, rfl⟩
  · rintro ⟨b, _, h, rfl⟩
    obtain ⟨p, hp, rfl⟩ := (row_tabU he i b).2 h
    exact ⟨p, hp, rfl⟩
theorem mem_getU {ids : List Int} {x : Int} (hx : x ∈ ids) : ∃ i, i < ids.length ∧ ids.getD i 0 = x := by
  obtain ⟨i, hi⟩ := List.getElem?_of_mem hx
  have h := (List.getElem?_eq_some_iff.1 hi)
  exact ⟨i, h.1, by rw [List.getD_eq_getElem?_getD, hi]; rfl⟩
theorem getU_mem {ids : List Int} {i : Nat} (hi : i < ids.length) : ids.getD i 0 ∈ ids := by simp [List.getD, hi]
theorem next_symU {ids : List Int} {es : List (Int × Int × Int)} (hu : ids.Pairwise (· < ·)) (he : ∀ e ∈ es, e.1 ∈ ids ∧ e.2.1 ∈ ids) : ∀ x ∈ ids, ∀ y ∈ nextL ids (rowsFrom false ids es).1 x, y ∈ ids ∧ x ∈ nextL ids (rowsFrom false ids es).1 y := by
  intro x hx y hy
  obtain ⟨i, hi, rfl⟩ := mem_getU hx
  obtain ⟨b, hb, ht, rfl⟩ := (mem_nextU hu he hi y).1 hy
  exact ⟨getU_mem hb, (mem_nextU hu he hb _).2 ⟨i, hi, tab_symU _ _ _ _ ht, rfl⟩⟩

/-- The closure of the table is reachability. -/
theorem wsh_reach {ids : List Int} {es : List (Int × Int × Int)} (hu : ids.Pairwise (· < ·)) (he : ∀ e ∈ es, e.1 ∈ ids ∧ e.2.1 ∈ ids) {i j : Nat} (hi : i < ids.length) (hj : j < ids.length) :
    wsh (tabA false ids es) ids.length i j = true ↔ ReachA (nextL ids (rowsFrom false ids es).1) (ids.getD i 0) (ids.getD j 0) := by
  constructor
  · intro h
    refine wsh_sound (tabA false ids es) ids.length (fun a b => ReachA (nextL ids (rowsFrom false ids es).1) (ids.getD a 0) (ids.getD b 0)) (fun _ => ReachA.refl _ _) (fun a b ha hb hab => ?_) (fun _ _ _ h1 h2 => ReachA.trans h1 h2) ids.length i j (Nat.le_refl _) hi hj h
    exact ReachA.step (ReachA.refl _ _) ((mem_nextU hu he ha _).2 ⟨b, hb, hab, rfl⟩)
  · intro h
    have key := h (fun z => ∃ b, b < ids.length ∧ ids.getD b 0 = z ∧ wsh (tabA false ids es) ids.length i b = true) ⟨i, hi, rfl, wsh_self _ _ _⟩ (fun a b ha hb => by
      obtain ⟨c, hc, rfl, hw⟩ := ha
      obtain ⟨d, hd, ht, rfl⟩ := (mem_nextU hu he hc b).1 hb
      exact ⟨d, hd, rfl, wsh_trans _ _ c _ _ hc hw (wsh_arc _ _ _ _ ht)⟩)
    obtain ⟨b, hb, e, hw⟩ := key
    have e2 : b = j := by rw [← posOf_getU hu hb, ← posOf_getU hu hj, e]
    rw [← e2]; exact hw
end Go.Proofs.YtbkoifdnlaihfaaGreat
namespace Go.Proofs.YtbkoifdnlaihfaaGreat
open Go.RowKit

theorem rising_sort {p : List Int} (h : p.Nodup) : risingB (sortI p) = true := by
  have hp := sortI_pw p
  have hn : (sortI p).Nodup := (sortI_perm p).nodup_iff.2 h
  rw [risingB_iff]
  intro k hk
  have h1 := List.pairwise_iff_getElem.1 hp k (k + 1) (by omega) hk (by omega)
  have h2 := List.pairwise_iff_getElem.1 hn k (k + 1) (by omega) hk (by omega)
  have e1 : (sortI p).getD k 0 = (sortI p)[k]'(by omega) := by simp [List.getD, show k < (sortI p).length by omega]
  have e2 : (sortI p).getD (k + 1) 0 = (sortI p)[k + 1] := by simp [List.getD, hk]
  rw [e1, e2]
  omega

structure CompLaw (ns : List Int) (es : List (Int × Int × Int)) (L : List (List Int)) : Prop where
  each : ∀ l ∈ L, l ≠ [] ∧ risingB l = true
  all : sortI L.flatten = sortI ns
  asc : ∀ (k : Nat) (a b : List Int), L[k]? = some a → L[k + 1]? = some b → cmpL a b < 0
  tog : ∀ i j, i < ns.length → j < ns.length → togB L ((sortI ns).getD i 0) ((sortI ns).getD j 0) = wsh (tabA false (sortI ns) es) ns.length i j

theorem flat_sort : ∀ ps : List (List Int), (ps.map sortI).flatten.Perm ps.flatten
  | [] => List.Perm.refl _
  | p :: r => by
    rw [List.map_cons, List.flatten_cons, List.flatten_cons]
    exact (sortI_perm p).append (flat_sort r)

theorem comp_law {ns : List Int} {es : List (Int × Int × Int)} (hw : wellB ns es = true) {ps L : List (List Int)} (hc : CompsFrom (sortI ns) (nextL (sortI ns) (rowsFrom false (sortI ns) es).1) (sortI ns) [] ps)
    (hp : L.Perm (ps.map sortI)) (hs : ∀ (i j : Nat) (a b : List Int), i < j → L[i]? = some a → L[j]? = some b → ¬ cmpL b a < 0) : CompLaw ns es L := by
  have hr : risingB (sortI ns) = true := by unfold wellB at hw; rw [Bool.and_eq_true] at hw; exact hw.1
  have hu := rising_pw hr
  have he : ∀ e ∈ es, e.1 ∈ sortI ns ∧ e.2.1 ∈ sortI ns := fun e h => ⟨mem_sortI.2 (well_ends hw e h).1, mem_sortI.2 (well_ends hw e h).2⟩
  have hsym := next_symU hu he
  obtain ⟨h1, h2, h3⟩ := comps_facts hsym _ _ _ hc (by simp)
  have hmem : ∀ l ∈ L, ∃ p ∈ ps, l = sortI p := fun l hl => by
    obtain ⟨p, hp1, rfl⟩ := List.mem_map.1 (hp.subset hl)
    exact ⟨p, hp1, rfl⟩
  have hpl : ∀ p ∈ ps, sortI p ∈ L := fun p h => hp.symm.subset (List.mem_map.2 ⟨p, h, rfl⟩)
  have hnd : ∀ p ∈ ps, p.Nodup := fun p h => (List.pairwise_flatten.1 h2).1 p h
  have hfl : L.flatten.Perm ps.flatten := (hp.flatten).trans (flat_sort ps)
  have hfn : L.flatten.Nodup := hfl.nodup_iff.2 h2
  have hids : (sortI ns).Nodup := hu.imp fun h => by omega
  refine ⟨fun l hl => ?_, ?_, fun k a b ha hb => ?_, fun i j hi hj => ?_⟩
  · obtain ⟨p, hp1, rfl⟩ := hmem l hl
    refine ⟨fun e => (h1 p hp1).1 ?_, rising_sort (hnd p hp1)⟩
    have := congrArg List.length e
    rw [sortI_len] at this
    exact List.eq_nil_of_length_eq_zero (by simpa using this)
  · have hpp : L.flatten.Perm (sortI ns) := by
      refine hfl.trans ((List.perm_ext_iff_of_nodup h2 hids).2 fun x => ⟨fun hx => ?_, fun hx => ?_⟩)
      · obtain ⟨p, hp1, hxp⟩ := List.mem_flatten.1 hx
        exact ((h1 p hp1).2.1 x hxp).1
      · rcases h3 x hx with h | h
        · cases h
        · exact h
    exact (sortI_unique ((sortI_perm L.flatten).trans (hpp.trans (sortI_perm ns))) (sortI_pw _))
  · have h4 := hs k (k + 1) a b (by omega) ha hb
    have e1 := cmpL_neg a b
    by_cases h5 : cmpL a b = 0
    · exfalso
      have hab := cmpL_zero _ _ h5
      subst hab
      obtain ⟨p, hp1, rfl⟩ := hmem a (List.mem_of_getElem? ha)
      have hne : sortI p ≠ [] := fun e => (h1 p hp1).1 (List.eq_nil_of_length_eq_zero (by rw [← sortI_len, e]; rfl))
      obtain ⟨x, hx⟩ := List.exists_mem_of_ne_nil _ hne
      have hpw := (List.pairwise_flatten.1 hfn).2
      have hk1 := (List.getElem?_eq_some_iff.1 hb).1
      have hd := List.pairwise_iff_getElem.1 hpw k (k + 1) (by omega) hk1 (by omega)
      have ea := (List.getElem?_eq_some_iff.1 ha).2
      have eb := (List.getElem?_eq_some_iff.1 hb).2
      rw [ea, eb] at hd
      exact hd x hx x hx rfl
    · omega
  · have hl : (sortI ns).length = ns.length := sortI_len ns
    rw [← hl] at hi hj
    have hiff := wsh_reach hu he hi hj
    rw [hl] at hiff
    apply Bool.eq_iff_iff.2
    rw [hiff]
    unfold togB
    rw [List.any_eq_true]
    constructor
    · rintro ⟨l, hl1, hh⟩
      rw [Bool.and_eq_true, hasB_iff, hasB_iff] at hh
      obtain ⟨p, hp1, rfl⟩ := hmem l hl1
      rw [mem_sortI, mem_sortI] at hh
      obtain ⟨-, h5, ⟨r, hr1, hrr⟩, -⟩ := h1 p hp1
      exact ReachA.trans (ReachA.sym hsym (h5 r hr1).1 (hrr _ hh.1)) (hrr _ hh.2)
    · intro h
      have hin : (sortI ns).getD i 0 ∈ ps.flatten := by
        rcases h3 _ (getU_mem hi) with h | h
        · cases h
        · exact h
      obtain ⟨p, hp1, hip⟩ := List.mem_flatten.1 hin
      have hjp := h (fun z => z ∈ p) hip (fun a b ha hb => (h1 p hp1).2.2.2 a ha b hb)
      exact ⟨sortI p, hpl p hp1, by rw [Bool.and_eq_true, hasB_iff, hasB_iff, mem_sortI, mem_sortI]; exact ⟨hip, hjp⟩⟩
end Go.Proofs.YtbkoifdnlaihfaaGreat
