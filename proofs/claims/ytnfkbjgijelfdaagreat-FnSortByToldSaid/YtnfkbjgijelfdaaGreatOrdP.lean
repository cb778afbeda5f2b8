/- The components of a directed graph, an order of them, and those that are cyclic. No walk. A graph given in another order. -/
import Derived.Test.YtnfkbjgijelfdaaGreatTarP
import Derived.Test.YtnfkbjgijelfdaaGreatNextF
namespace Go.Proofs.YtnfkbjgijelfdaaGreat
open Go.RowKit

/-- The place of a component: its node, if it has one alone. -/
def slotO : List Int → Option Int
  | [x] => some x
  | _ => none
def cyB (c : List Int) : Bool := !(c.length == 1)
def cycs (L : List (List Int)) : List (List Int) := L.filter cyB
theorem slotO_one {c : List Int} (h : cyB c = false) : ∃ x, c = [x] ∧ slotO c = some x := by
  unfold cyB at h
  match c, h with
  | [x], _ => exact ⟨x, rfl, rfl⟩
  | [], h => simp at h
  | _ :: _ :: _, h => simp at h
theorem slotO_cy {c : List Int} (h : cyB c = true) : slotO c = none := by
  unfold cyB at h
  match c, h with
  | [x], h => simp at h
  | [], _ => rfl
  | _ :: _ :: _, _ => rfl
theorem flat_disj {L : List (List Int)} (h : L.flatten.Nodup) {i j : Nat} {a b : List Int} (hi : L[i]? = some a) (hj : L[j]? = some b) (hij : i ≠ j) (x : Int) (hx : x ∈ a) : x ∉ b := by
  intro hxb
  have h1 := (List.pairwise_flatten.1 h).2
  rw [List.pairwise_iff_getElem] at h1
  obtain ⟨hil, rfl⟩ := List.getElem?_eq_some_iff.1 hi
  obtain ⟨hjl, rfl⟩ := List.getElem?_eq_some_iff.1 hj
  rcases Nat.lt_or_gt_of_ne hij with h2 | h2
  · exact h1 i j hil hjl h2 x hx x hxb rfl
  · exact h1 j i hjl hil h2 x hxb x hx rfl
theorem len_flat : ∀ {L : List (List Int)}, (∀ c ∈ L, c ≠ []) → L.length ≤ L.flatten.length
  | [], _ => Nat.zero_le _
  | c :: L, h => by
    have h1 := len_flat (L := L) (fun d hd => h d (List.mem_cons_of_mem _ hd))
    have h2 : 0 < c.length := List.length_pos_iff.2 (h c (by simp))
    simp only [List.flatten_cons, List.length_append, List.length_cons]
    omega
theorem filter_take_succ {α : Type} {f : α → Bool} {zs : List α} {k : Nat} {p : α} (h : zs[k]? = some p) : (zs.take (k + 1)).filter f = (zs.take k).filter f ++ (if f p then [p] else []) := by
  obtain ⟨h1, rfl⟩ := List.getElem?_eq_some_iff.1 h
  rw [List.take_succ_eq_append_getElem h1, List.filter_append]
  congr 1
  cases hb : f zs[k] <;> simp [hb]
/-- The strongly connected components, in some order. -/
structure SccL (ids : List Int) (adj : Int → List Int) (L : List (List Int)) : Prop where
  nd : L.flatten.Nodup
  mem : ∀ x, x ∈ L.flatten ↔ x ∈ ids
  ne : ∀ c ∈ L, c ≠ []
  scc : ∀ c ∈ L, ∀ x ∈ c, ∀ y, y ∈ c ↔ (ReachA adj x y ∧ ReachA adj y x)
theorem TFin.sccL {ids : List Int} {adj : Int → List Int} {s : TS} (h : TFin ids adj s) : SccL ids adj s.sccs := ⟨h.nd, h.mem, h.ne, h.scc⟩
section
variable {ids : List Int} {adj adj' : Int → List Int} {L L' : List (List Int)}
theorem SccL.nodup_of (h : SccL ids adj L) {c : List Int} (hc : c ∈ L) : c.Nodup := h.nd.sublist (List.sublist_flatten_of_mem hc)
theorem SccL.map_nodup (h : SccL ids adj L) : (L.map sortI).Nodup := by
  have h1 := h.nd
  have h2 := h.ne
  clear h
  induction L with
  | nil => simp
  | cons c L ih =>
    rw [List.flatten_cons, List.nodup_append] at h1
    rw [List.map_cons, List.nodup_cons]
    refine ⟨fun hm => ?_, ih h1.2.1 (fun d hd => h2 d (List.mem_cons_of_mem _ hd))⟩
    obtain ⟨d, hd, e⟩ := List.mem_map.1 hm
    obtain ⟨x, hx⟩ := List.exists_mem_of_ne_nil c (h2 c (by simp))
    have hxd : x ∈ d := by
      have := mem_sortI.2 hx
      rw [← e] at this
      exact mem_sortI.1 this
    exact h1.2.2 x hx x (List.mem_flatten.2 ⟨d, hd, hxd⟩) rfl
theorem SccL.same_sub (h : SccL ids adj L) (h' : SccL ids adj' L') (hr : ∀ x y, ReachA adj x y ↔ ReachA adj' x y) (l : List Int) (hl : l ∈ L.map sortI) : l ∈ L'.map sortI := by
  obtain ⟨c, hc, rfl⟩ := List.mem_map.1 hl
  obtain ⟨x, hx⟩ := List.exists_mem_of_ne_nil c (h.ne c hc)
  have hxi := (h.mem x).1 (List.mem_flatten.2 ⟨c, hc, hx⟩)
  obtain ⟨d, hd, hxd⟩ := List.mem_flatten.1 ((h'.mem x).2 hxi)
  refine List.mem_map.2 ⟨d, hd, sortI_congr (h'.nodup_of hd) (h.nodup_of hc) (fun y => ?_)⟩
  rw [h.scc c hc x hx y, h'.scc d hd x hxd y, hr, hr]
theorem SccL.same (h : SccL ids adj L) (h' : SccL ids adj' L') (hr : ∀ x y, ReachA adj x y ↔ ReachA adj' x y) : (L.map sortI).Perm (L'.map sortI) :=
  (List.perm_ext_iff_of_nodup h.map_nodup h'.map_nodup).2 fun l => ⟨h.same_sub h' hr l, h'.same_sub h (fun x y => (hr x y).symm) l⟩
theorem reach_mem (h : ∀ a b, b ∈ adj a ↔ b ∈ adj' a) (x y : Int) : ReachA adj x y ↔ ReachA adj' x y :=
  ⟨fun hr S h1 h2 => hr S h1 (fun a b ha hb => h2 a b ha ((h a b).1 hb)), fun hr S h1 h2 => hr S h1 (fun a b ha hb => h2 a b ha ((h a b).2 hb))⟩
end
/-- The components in an order by which no edge leads back. -/
structure OrdR (ns : List Int) (es : List (Int × Int × Int)) (R : List (List Int)) : Prop where
  scc : SccL (sortI ns) (fromL true ns es) R
  ord : ∀ (i j : Nat) (c c' : List Int) (x y : Int), R[i]? = some c → R[j]? = some c' → x ∈ c → y ∈ c' → y ∈ fromL true ns es x → i ≤ j
theorem SccL.cy {ids : List Int} {adj : Int → List Int} {L : List (List Int)} (h : SccL ids adj L) : L.filter (fun c => decide (1 < c.length)) = cycs L := by
  unfold cycs
  refine List.filter_congr (fun c hc => ?_)
  have := List.length_pos_iff.2 (h.ne c hc)
  unfold cyB
  by_cases h1 : c.length = 1
  · simp [h1]
  · rw [decide_eq_true (by omega)]; simp [h1]
theorem cyB_sortI (c : List Int) : cyB (sortI c) = cyB c := by unfold cyB; rw [sortI_len]
theorem cycs_map (L : List (List Int)) : cycs (L.map sortI) = (cycs L).map sortI := by
  unfold cycs
  rw [List.filter_map]
  congr 1
  refine List.filter_congr (fun c _ => ?_)
  exact cyB_sortI c
theorem sortI_idem (l : List Int) : sortI (sortI l) = sortI l := (sortI_unique (List.Perm.refl _) (sortI_pw l)).symm
theorem cycs_same {ids : List Int} {adj adj' : Int → List Int} {L L' : List (List Int)} (h : SccL ids adj L) (h' : SccL ids adj' L') (hr : ∀ x y, ReachA adj x y ↔ ReachA adj' x y) : (((cycs L).map sortI).map sortI).Perm ((cycs L').map sortI) := by
  have e : ((cycs L).map sortI).map sortI = (cycs L).map sortI := by
    rw [List.map_map]; congr 1; funext c; exact sortI_idem c
  rw [e, ← cycs_map, ← cycs_map]
  exact (h.same h' hr).filter _
/-- The nodes that lie alone. -/
def lone (L : List (List Int)) : List Int := (L.filter fun c => !cyB c).flatten
theorem lone_take {R : List (List Int)} {i : Nat} {c : List Int} (h : R[i]? = some c) : lone (R.take (i + 1)) = lone (R.take i) ++ (if cyB c then [] else c) := by
  unfold lone
  rw [filter_take_succ h, List.flatten_append]
  cases hb : cyB c <;> simp
theorem lone_perm (R : List (List Int)) : (lone R ++ ((cycs R).map sortI).flatten).Perm R.flatten := by
  induction R with
  | nil => simp [lone, cycs]
  | cons c R ih =>
    have e1 : lone (c :: R) = (if cyB c then [] else c) ++ lone R := by
      unfold lone; cases hb : cyB c <;> simp [hb]
    have e2 : cycs (c :: R) = (if cyB c then [c] else []) ++ cycs R := by
      unfold cycs; cases hb : cyB c <;> simp [hb]
    rw [e1, e2, List.flatten_cons]
    cases hb : cyB c
    · simp only [Bool.false_eq_true, if_false, List.nil_append]
      rw [List.append_assoc]
      exact List.Perm.append_left _ ih
    · simp only [if_true, List.nil_append, List.map_append, List.map_cons, List.map_nil, List.flatten_append, List.flatten_cons, List.flatten_nil, List.append_nil]
      refine List.Perm.trans ?_ (List.Perm.append_left c ih)
      rw [← List.append_assoc, ← List.append_assoc]
      refine List.Perm.append_right _ ?_
      exact (List.perm_append_comm).trans (List.Perm.append_right _ (sortI_perm c))
theorem OrdR.sorted {ns : List Int} {es : List (Int × Int × Int)} {R : List (List Int)} (h : OrdR ns es R) (hu : (sortI ns).Pairwise (· < ·)) : sortI (lone R ++ ((cycs R).map sortI).flatten) = sortI ns := by
  have h1 : R.flatten.Perm (sortI ns) := (List.perm_ext_iff_of_nodup h.scc.nd (hu.imp fun {a b} h => by omega)).2 h.scc.mem
  exact (sortI_unique ((lone_perm R).trans h1).symm (sortI_pw ns)).symm
theorem arc_ne {ns : List Int} {es : List (Int × Int × Int)} (hw : wellB ns es = true) {u v : Int} (h : arcB true es u v = true) : u ≠ v := by
  unfold arcB at h
  obtain ⟨e, he, h1⟩ := List.any_eq_true.1 h
  unfold wellB edgesB at hw
  rw [Bool.and_eq_true] at hw
  have h2 := List.all_eq_true.1 hw.2 e he
  unfold edgeB at h2
  unfold arcAt at h1
  simp only [Bool.and_eq_true, Bool.not_eq_true', beq_eq_false_iff_ne, ne_eq, Bool.not_true, Bool.false_and, Bool.or_false, beq_iff_eq] at h1 h2
  intro e1
  exact h2.1.1.1.1 (by rw [h1.1, h1.2, e1])
theorem cycs_take_succ {R : List (List Int)} {i : Nat} {c : List Int} (h : R[i]? = some c) : cycs (R.take (i + 1)) = cycs (R.take i) ++ (if cyB c then [c] else []) := filter_take_succ h
theorem cycs_at {R : List (List Int)} {i : Nat} {c : List Int} (h : R[i]? = some c) (hc : cyB c = true) : (cycs R)[(cycs (R.take i)).length]? = some c := by
  obtain ⟨h1, h2⟩ := List.getElem?_eq_some_iff.1 h
  have e : R = R.take i ++ c :: R.drop (i + 1) := by
    rw [← h2, ← List.drop_eq_getElem_cons h1, List.take_append_drop]
  have e2 : cycs R = cycs (R.take i) ++ c :: cycs (R.drop (i + 1)) := by
    unfold cycs
    conv => lhs; rw [e, List.filter_append, List.filter_cons, if_pos hc]
  rw [e2, List.getElem?_append_right (Nat.le_refl _), Nat.sub_self]
  rfl
theorem from_node {ns : List Int} {es : List (Int × Int × Int)} (hw : wellB ns es = true) (a b : Int) : b ∈ adjD ns es a ↔ b ∈ fromL true ns es a := by
  rw [mem_adjD]
  unfold fromL
  rw [List.mem_filter]
  refine ⟨fun h => h.2, fun h => ⟨?_, h⟩⟩
  obtain ⟨e, he, h1⟩ := List.any_eq_true.1 h.2
  unfold arcAt at h1
  simp only [Bool.not_true, Bool.false_and, Bool.or_false, Bool.and_eq_true, beq_iff_eq] at h1
  rw [← h1.1]
  exact mem_sortI.2 (well_ends hw e he).1
/-- A walk's components, the last one first, are an order. -/
theorem ordR_of {ns : List Int} {es : List (Int × Int × Int)} {adj : Int → List Int} {s : TS} (hf : TFin (sortI ns) adj s) (hm : ∀ a b, b ∈ adj a ↔ b ∈ fromL true ns es a) : OrdR ns es s.sccs.reverse := by
  have hr := reach_mem hm
  have hfp : s.sccs.reverse.flatten.Perm s.sccs.flatten := (List.reverse_perm s.sccs).flatten
  refine ⟨⟨hfp.nodup_iff.2 hf.nd, fun x => hfp.mem_iff.trans (hf.mem x), fun c hc => hf.ne c (List.mem_reverse.1 hc), fun c hc x hx y => by rw [← hr, ← hr]; exact hf.scc c (List.mem_reverse.1 hc) x hx y⟩, fun i j c c' x y hi hj hx hy hxy => ?_⟩
  have hil := (List.getElem?_eq_some_iff.1 hi).1
  have hjl := (List.getElem?_eq_some_iff.1 hj).1
  rw [List.length_reverse] at hil hjl
  rw [List.getElem?_reverse hil] at hi
  rw [List.getElem?_reverse hjl] at hj
  obtain ⟨q, c2, hq, hq2, hy2⟩ := hf.ord _ c x y hi hx ((hm x y).2 hxy)
  have e : q = s.sccs.length - 1 - j := by
    by_cases e : q = s.sccs.length - 1 - j
    · exact e
    · exact absurd hy (flat_disj hf.nd hq2 hj e y hy2)
  omega
theorem cycs_rev (L : List (List Int)) : ((cycs L).map sortI).reverse = (cycs L.reverse).map sortI := by
  unfold cycs
  rw [List.filter_reverse, List.map_reverse]
theorem cycs_empty {ids : List Int} {adj adj' : Int → List Int} {L L' : List (List Int)} (h : SccL ids adj L) (h' : SccL ids adj' L') (hr : ∀ x y, ReachA adj x y ↔ ReachA adj' x y) : (cycs L).isEmpty = (cycs L').isEmpty := by
  have h1 := (cycs_same h h' hr).length_eq
  rw [List.length_map, List.length_map, List.length_map] at h1
  cases h2 : cycs L <;> cases h3 : cycs L' <;> simp [h2, h3] at h1 ⊢
end Go.Proofs.YtnfkbjgijelfdaaGreat
namespace Go.Proofs.YtnfkbjgijelfdaaGreat
open Go.RowKit

theorem sortI_ofPerm {a b : List Int} (h : a.Perm b) : sortI a = sortI b := sortI_unique ((sortI_perm a).trans h) (sortI_pw a)
theorem any_perm {α : Type} {f : α → Bool} {a b : List α} (h : a.Perm b) : a.any f = b.any f := by
  rw [Bool.eq_iff_iff, List.any_eq_true, List.any_eq_true]
  exact ⟨fun ⟨x, h1, h2⟩ => ⟨x, h.mem_iff.1 h1, h2⟩, fun ⟨x, h1, h2⟩ => ⟨x, h.mem_iff.2 h1, h2⟩⟩
theorem arcB_perm {d : Bool} {es es' : List (Int × Int × Int)} (h : es'.Perm es) (u v : Int) : arcB d es' u v = arcB d es u v := any_perm h
theorem fromL_perm {d : Bool} {ns ns' : List Int} {es es' : List (Int × Int × Int)} (hn : ns'.Perm ns) (he : es'.Perm es) (x : Int) : fromL d ns' es' x = fromL d ns es x := by
  unfold fromL
  rw [sortI_ofPerm hn]
  congr 1
  funext v
  exact arcB_perm he x v
theorem adjD_perm {ns ns' : List Int} {es es' : List (Int × Int × Int)} (hn : ns'.Perm ns) (he : es'.Perm es) : adjD ns' es' = adjD ns es := by
  funext x
  unfold adjD
  rw [fromL_perm hn he, sortI_ofPerm hn]
theorem hasB_perm {a b : List Int} (h : a.Perm b) (x : Int) : hasB a x = hasB b x := by
  rw [Bool.eq_iff_iff, hasB_iff, hasB_iff]; exact h.mem_iff
theorem wellB_perm {ns ns' : List Int} {es es' : List (Int × Int × Int)} (hn : ns'.Perm ns) (he : es'.Perm es) : wellB ns' es' = wellB ns es := by
  unfold wellB edgesB
  rw [sortI_ofPerm hn]
  congr 1
  rw [show edgeB ns' = edgeB ns from funext fun e => by unfold edgeB; rw [hasB_perm hn, hasB_perm hn]]
  rw [Bool.eq_iff_iff, List.all_eq_true, List.all_eq_true]
  exact ⟨fun h x hx => h x (he.mem_iff.2 hx), fun h x hx => h x (he.mem_iff.1 hx)⟩
theorem adjD_nil (ns : List Int) (x : Int) : adjD ns [] x = [] := by
  unfold adjD fromL
  by_cases h : x ∈ sortI ns
  · rw [if_pos h]; exact List.filter_eq_nil_iff.2 (fun y _ => by simp [arcB])
  · rw [if_neg h]
theorem wellB_nil {ns : List Int} {es : List (Int × Int × Int)} (h : wellB ns es = true) : wellB ns [] = true := by
  unfold wellB at h ⊢
  rw [Bool.and_eq_true] at h ⊢
  exact ⟨h.1, by simp [edgesB]⟩

theorem suc_nil {adj : Int → List Int} {v : Int} {s s1 : TS} (h : Suc adj v s [] s1) : s1 = s := by cases h; rfl
/-- Without edges each node is a component of its own. -/
theorem TRun.bare {adj : Int → List Int} (ha : ∀ x, adj x = []) {s s' : TS} {l : List Int} (h : TRun adj s l s') : s.stack = [] → l.Nodup → (∀ x ∈ l, s.tab x = 0) → s'.sccs = s.sccs ++ l.map fun x => [x] := by
  induction h with
  | nil s => intro _ _ _; simp
  | @visit w s s1 s' r h0 h1 _ ih =>
    intro hs hn ht
    rw [ha w] at h1
    obtain rfl := suc_nil h1
    have hlow : (s.enter w).low w = (s.enter w).tab w := by simp [TS.enter, updN]
    have e : (s.enter w).leave w = { s.enter w with stack := belowOf (s.enter w).stack w, sccs := (s.enter w).sccs ++ [(fromOf (s.enter w).stack w).reverse], left := (s.enter w).left ++ [w] } := by
      unfold TS.leave
      rw [if_pos hlow]
    have hst : (s.enter w).stack = [w] := by simp [TS.enter, hs]
    have hb : belowOf [w] w = [] := by simp [belowOf]
    have hf : fromOf [w] w = [w] := by simp [fromOf]
    rw [hst, hb, hf] at e
    rw [List.nodup_cons] at hn
    have h2 := ih (by rw [e]) hn.2 (fun x hx => by
      rw [e]
      have hne : x ≠ w := fun h => hn.1 (h ▸ hx)
      simp [TS.enter, updN, hne]
      exact ht x (List.mem_cons_of_mem _ hx))
    rw [h2, e]
    simp [TS.enter]
  | @skip w s s' r h0 _ _ =>
    intro _ _ ht
    exact absurd (ht w (List.mem_cons_self ..)) h0
end Go.Proofs.YtnfkbjgijelfdaaGreat
