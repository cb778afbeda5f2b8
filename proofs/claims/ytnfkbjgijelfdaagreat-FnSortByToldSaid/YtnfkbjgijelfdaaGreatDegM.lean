/- The memory of topo.degeneracyOrdering. -/
import Derived.Test.YtnfkbjgijelfdaaGreatGraphO
import Derived.Test.YtnfkbjgijelfdaaGreatRdN
import Derived.Test.YtnfkbjgijelfdaaGreatBkt
import Derived.Test.YtnfkbjgijelfdaaGreatTable
import Derived.Test.YtnfkbjgijelfdaaGreatFoot
namespace Go.Proofs.YtnfkbjgijelfdaaGreat
open Go.RowKit

theorem nodup_lenD : ∀ {l m : List Int}, l.Nodup → (∀ x ∈ l, x ∈ m) → l.length ≤ m.length
  | [], _, _, _ => Nat.zero_le _
  | x :: l, m, hn, hs => by
    have hx : x ∈ m := hs x (List.mem_cons_self ..)
    have h1 := List.nodup_cons.1 hn
    have h2 := nodup_lenD (m := m.erase x) h1.2 (fun y hy => (List.mem_erase_of_ne (fun e => h1.1 (by rw [← e]; exact hy))).2 (hs y (List.mem_cons_of_mem _ hy)))
    rw [List.length_erase_of_mem hx] at h2
    have := List.length_pos_of_mem hx
    simp; omega

theorem run_makeMapN {P : Program} (t k e : TypeId) (ht : P.underlying t = some (.map k e)) (n : Nat) (w : World) : (Instr.makeMap t (some (.int .i64 n))).run P w = .ok (.map (some w.heap.size)) (w.alloc (.map #[] 0)) := by
  simp [Instr.makeMap, run_underlying ht, asInt, asIntOf]

theorem rowsN_info : (Tryz.prog.info? 77).map (fun i => (i.zero, i.size, i.bytes)) = some (some (.slice none 0 0), 1, 24) := by kernel_rfl
theorem make_nodeRows (W : World) (n : Nat) (hn : n ≤ 1000000) : (Instr.makeSlice 75 (.int .i64 n) (.int .i64 n)).run Tryz.prog W = .ok (.slice (some ⟨W.heap.size, 0, none⟩) n n) (W.alloc (.cells (zerosOf (.slice none 0 0) n) 77)) := by
  obtain ⟨i0, hi0, hz0, hz1, hz2⟩ := info_parts rowsN_info
  have := run_make (P := Tryz.prog) W 75 77 i0 _ Tryz.underlying75 hi0 hz0 .i64 .i64 n n (by omega) (by omega) (by rw [hz2]; omega) (by omega)
  rw [this, hz1, Int.toNat_natCast, Nat.mul_one, made_zeros _ _ rfl]

theorem Bkt.made (W : World) (n : Nat) (hn : n ≤ 1000000) : Bkt (W.alloc (.cells (zerosOf (.slice none 0 0) n) 77)) W.heap.size W.heap.size (List.replicate n (.slice none 0 0)) (List.replicate n []) := by
  refine ⟨⟨by simp, .inr ⟨W.heap.size, n, zerosOf (.slice none 0 0) n, by simp, Nat.le_refl _, heap_alloc_new W _, by simp, by unfold maxLen; omega, by simp [zerosOf], ?_⟩⟩, fun i u l hu hl => ?_, fun u hu => ?_, fun i j u u' g hij hu hu' hg => ?_⟩
  · simp only [zerosOf, Nat.mul_one, List.length_replicate]
    rw [List.take_of_length_le (by simp)]
    apply List.ext_getElem (by simp)
    intro i h1 h2
    simp
  · have e1 := (List.mem_replicate.1 (List.mem_of_getElem? hu)).2
    have e2 := (List.mem_replicate.1 (List.mem_of_getElem? hl)).2
    subst e1; subst e2
    exact World.ownsRow_nil _ _ _ _
  · rw [(List.mem_replicate.1 hu).2]; simp [Value.ownBlock]
  · rw [(List.mem_replicate.1 (List.mem_of_getElem? hu)).2] at hg
    simp [Value.ownBlock] at hg

/-- How many nodes were taken at each level. -/
def levelsL (k : Nat) (ps : List (Int × Nat)) : List Int := (List.range (k + 1)).map fun j => ((ps.countP fun p => decide (p.2 = j) : Nat) : Int)
theorem levels_len (k : Nat) (ps : List (Int × Nat)) : (levelsL k ps).length = k + 1 := by simp [levelsL]
theorem levels_more {k i : Nat} {ps : List (Int × Nat)} (h : ∀ p ∈ ps, p.2 ≤ k) (hi : k ≤ i) : levelsL i ps = levelsL k ps ++ List.replicate (i - k) 0 := by
  apply List.ext_getElem
  · simp [levelsL]; omega
  · intro j h1 h2
    simp only [levelsL, List.length_map, List.length_range] at h1
    by_cases hj : j < k + 1
    · rw [List.getElem_append_left (by simpa [levelsL] using hj)]
      simp [levelsL]
    · rw [List.getElem_append_right (by simp [levelsL]; omega)]
      simp only [levelsL, List.getElem_map, List.getElem_range, List.getElem_replicate]
      rw [List.countP_eq_zero.2]
      · rfl
      · intro p hp
        have := h p hp
        simp; omega
theorem levels_take (k : Nat) (ps : List (Int × Nat)) (v : Int) : levelsL k (ps ++ [(v, k)]) = (levelsL k ps).set k ((levelsL k ps).getD k 0 + 1) := by
  apply List.ext_getElem
  · simp [levelsL]
  · intro j h1 h2
    simp only [levelsL, List.length_map, List.length_range] at h1
    by_cases hj : j = k
    · subst hj
      rw [List.getElem_set_self]
      simp [levelsL, List.getD, List.countP_append]
    · rw [List.getElem_set_ne (fun e => hj e.symm)]
      simp [levelsL, List.countP_append]
      rw [if_neg (fun e => hj e.symm)]; simp

theorem levels_get (k : Nat) (ps : List (Int × Nat)) (v : Int) : ∃ c : Nat, c ≤ ps.length ∧ (levelsL k ps)[k]? = some (c : Int) ∧ levelsL k (ps ++ [(v, k)]) = (levelsL k ps).set k ((c : Int) + 1) := by
  refine ⟨ps.countP fun p => decide (p.2 = k), List.countP_le_length, ?_, ?_⟩
  · simp [levelsL]
  · rw [levels_take]
    congr 1
    simp [levelsL, List.getD]

/-- The degrees and the neighbours of the nodes in the two maps. -/
structure NbSt (w2 : World) (bm bn : Nat) (adj : Int → List Int) (done : List Int) (NS : Int → Value) (W : World) : Prop where
  foot : Foot (fun j => j = bm ∨ j = bn) w2 W
  dv : GM Tryz.prog 2 W bm done.length (fun v => if v ∈ done then some (.int .i64 ((adj v).length : Nat)) else none)
  nb : GM Tryz.prog 2 W bn done.length (fun v => if v ∈ done then some (NS v) else none)
  rows : ∀ v ∈ done, W.ownsRow w2.heap.size 103 1 (NS v) (adj v).length ((adj v).map nodeV)

theorem upd_snoc (done : List Int) (x : Int) (F : Int → Value) (u : Value) : ∀ v, (if v ∈ done ++ [x] then some (if v = x then u else F v) else none) = upd (fun v => if v ∈ done then some (F v) else none) x u v := fun v => by
  unfold upd
  by_cases h : v = x
  · subst h; simp
  · by_cases h2 : v ∈ done <;> simp [h, h2]

theorem NbSt.step {w2 W W2 W3 W4 : World} {bm bn : Nat} {adj : Int → List Int} {done : List Int} {NS : Int → Value} {x : Int} {u : Value} (h : NbSt w2 bm bn adj done NS W) (hx : x ∉ done) (hbm : bm < w2.heap.size) (hbn : bn < w2.heap.size)
    (hb : Below W.heap.size W W2) (ho : W2.ownsRow W.heap.size 103 1 u (adj x).length ((adj x).map nodeV)) (h3 : W2.grownBy W3 (some bn)) (m3 : GM Tryz.prog 2 W3 bn (done.length + 1) (upd (fun v => if v ∈ done then some (NS v) else none) x u)) (h4 : W3.grownBy W4 (some bm))
    (m4 : GM Tryz.prog 2 W4 bm (done.length + 1) (upd (fun v => if v ∈ done then some (.int .i64 ((adj v).length : Nat)) else none) x (.int .i64 ((adj x).length : Nat)))) (hne : bm ≠ bn) : NbSt w2 bm bn adj (done ++ [x]) (fun v => if v = x then u else NS v) W4 := by
  have hsz := h.foot.size
  have hF : Foot (fun j => j = bm ∨ j = bn) W W4 := ((Foot.of_below hb _).trans (Foot.of_grown h3) (fun j hj => .inl (.inr hj))).trans (Foot.of_grown h4) (fun j hj => .inl (.inl hj))
  refine ⟨h.foot.trans hF (fun j hj => .inl hj), ?_, ?_, fun v hv => ?_⟩
  · rw [List.length_append]
    refine m4.congr fun v => ?_
    rw [← upd_snoc]
    by_cases e : v = x
    · subst e; simp
    · simp [e]
  · rw [List.length_append]
    refine (m3.kept h4 (by simpa using fun e => hne e.symm)).congr fun v => ?_
    rw [← upd_snoc]
  · by_cases e : v = x
    · subst e
      rw [if_pos rfl]
      have h5 : ∀ g, u.ownBlock = some g → g ≠ bn ∧ g ≠ bm := fun g hg => by
        have := (ho.lt g hg).1
        exact ⟨by omega, by omega⟩
      exact own_lower (ownsRow_of_heap ho (fun g hg => (h4.block g (Nat.lt_of_lt_of_le (ho.lt g hg).2 h3.size) (fun e => (h5 g hg).2 (Option.some.inj e))).trans (h3.block g (ho.lt g hg).2 (fun e => (h5 g hg).1 (Option.some.inj e))))) hsz
    · rw [if_neg e]
      have hv2 : v ∈ done := by simpa [e] using hv
      have h5 := h.rows v hv2
      exact hF.row h5 (fun g hg hS => by have := (h5.lt g hg).1; rcases hS with rfl | rfl <;> omega)

/-- The buckets, the list of the nodes taken, and the levels: three parts that have no block in common. -/
structure M3 (W : World) (lo gd : Nat) (vs : List Value) (ls : List (List Int)) (vL : Value) (L : List Int) (vS : Value) (S : List Int) : Prop where
  bk : Bkt W lo gd vs ls
  rl : W.ownsRow lo 103 1 vL L.length (L.map nodeV)
  rs : W.ownsRow lo 3 1 vS S.length (S.map (Value.int .i64))
  apL : ∀ g, vL.ownBlock = some g → ¬ BktF gd vs g
  apS : ∀ g, vS.ownBlock = some g → ¬ BktF gd vs g
  apLS : ∀ g, vL.ownBlock = some g → vS.ownBlock ≠ some g

section
variable {W W' : World} {lo gd : Nat} {vs : List Value} {ls : List (List Int)} {vL vS : Value} {L S : List Int}
theorem M3.of_heap (h : M3 W lo gd vs ls vL L vS S) (hb : ∀ j, lo ≤ j → j < W.heap.size → W'.heap[j]? = W.heap[j]?) : M3 W' lo gd vs ls vL L vS S :=
  ⟨h.bk.of_heap (fun j hj => hb j (h.bk.lt hj).1 (h.bk.lt hj).2), ownsRow_of_heap h.rl (fun g hg => hb g (h.rl.lt g hg).1 (h.rl.lt g hg).2), ownsRow_of_heap h.rs (fun g hg => hb g (h.rs.lt g hg).1 (h.rs.lt g hg).2), h.apL, h.apS, h.apLS⟩
theorem M3.putB (h : M3 W lo gd vs ls vL L vS S) {i : Nat} {u u' : Value} {l' : List Int} (hu : vs[i]? = some u) (ho : W'.ownsRow lo 103 1 u' l'.length (l'.map nodeV)) (hk : ∀ j, j < W.heap.size → some j ≠ u.ownBlock → W'.heap[j]? = W.heap[j]?)
    (hf : u'.ownBlock = u.ownBlock ∨ u'.ownBlock = none ∨ ∀ g, u'.ownBlock = some g → W.heap.size ≤ g) : M3 (W'.setCell ⟨gd, i, none⟩ u') lo gd (vs.set i u') (ls.set i l') vL L vS S := by
  have hum := List.mem_of_getElem? hu
  have key : ∀ (x : Value) (n : Nat) (e : TypeId) (xs : List Value), W.ownsRow lo e 1 x n xs → (∀ g, x.ownBlock = some g → ¬ BktF gd vs g) → (W'.setCell ⟨gd, i, none⟩ u').ownsRow lo e 1 x n xs ∧ ∀ g, x.ownBlock = some g → ¬ BktF gd (vs.set i u') g := fun x n e xs hx hap => by
    refine ⟨ownsRow_of_heap hx (fun g hg => ?_), fun g hg hF => ?_⟩
    · rw [Below.heap_setCell _ _ _ _ (fun e => hap g hg (.inl e))]
      exact hk g (hx.lt g hg).2 (fun e => hap g hg (.inr ⟨u, hum, e.symm⟩))
    · rcases hF with hF | ⟨y, hy, hF⟩
      · exact hap g hg (.inl hF)
      · rcases List.mem_or_eq_of_mem_set hy with hy | rfl
        · exact hap g hg (.inr ⟨y, hy, hF⟩)
        · rcases hf with h1 | h1 | h1
          · exact hap g hg (.inr ⟨u, hum, h1 ▸ hF⟩)
          · rw [h1] at hF; cases hF
          · have := h1 g hF; have := (hx.lt g hg).2; omega
  have kL := key vL _ _ _ h.rl h.apL
  have kS := key vS _ _ _ h.rs h.apS
  exact ⟨h.bk.put hu ho hk hf, kL.1, kS.1, kL.2, kS.2, h.apLS⟩
theorem M3.putL (h : M3 W lo gd vs ls vL L vS S) {vL' : Value} {L' : List Int} (ho : W'.ownsRow lo 103 1 vL' L'.length (L'.map nodeV)) (hk : ∀ j, j < W.heap.size → some j ≠ vL.ownBlock → W'.heap[j]? = W.heap[j]?)
    (hf : vL'.ownBlock = vL.ownBlock ∨ ∀ g, vL'.ownBlock = some g → W.heap.size ≤ g) : M3 W' lo gd vs ls vL' L' vS S := by
  refine ⟨h.bk.of_heap (fun j hj => hk j (h.bk.lt hj).2 (fun e => h.apL j e.symm hj)), ho, ownsRow_of_heap h.rs (fun g hg => hk g (h.rs.lt g hg).2 (fun e => h.apLS g e.symm hg)), fun g hg hF => ?_, h.apS, fun g hg hS => ?_⟩
  · rcases hf with h1 | h1
    · exact h.apL g (h1 ▸ hg) hF
    · have := h1 g hg; have := (h.bk.lt hF).2; omega
  · rcases hf with h1 | h1
    · exact h.apLS g (h1 ▸ hg) hS
    · have := h1 g hg; have := (h.rs.lt g hS).2; omega
theorem M3.putS (h : M3 W lo gd vs ls vL L vS S) {vS' : Value} {S' : List Int} (ho : W'.ownsRow lo 3 1 vS' S'.length (S'.map (Value.int .i64))) (hk : ∀ j, j < W.heap.size → some j ≠ vS.ownBlock → W'.heap[j]? = W.heap[j]?)
    (hf : vS'.ownBlock = vS.ownBlock ∨ ∀ g, vS'.ownBlock = some g → W.heap.size ≤ g) : M3 W' lo gd vs ls vL L vS' S' := by
  refine ⟨h.bk.of_heap (fun j hj => hk j (h.bk.lt hj).2 (fun e => h.apS j e.symm hj)), ownsRow_of_heap h.rl (fun g hg => hk g (h.rl.lt g hg).2 (fun e => h.apLS g hg e.symm)), ho, h.apL, fun g hg hF => ?_, fun g hg hS => ?_⟩
  · rcases hf with h1 | h1
    · exact h.apS g (h1 ▸ hg) hF
    · have := h1 g hg; have := (h.bk.lt hF).2; omega
  · rcases hf with h1 | h1
    · exact h.apLS g hg (h1 ▸ hS)
    · have := h1 g hS; have := (h.rl.lt g hg).2; omega
end

theorem BkD.start (n : Nat) : BkD (List.replicate n []) (fun _ => none) := by
  refine ⟨fun j v => ⟨?_, fun h => nomatch h⟩, fun j l hl => ?_⟩
  · rintro ⟨l, hl, hv⟩
    rw [(List.mem_replicate.1 (List.mem_of_getElem? hl)).2] at hv
    cases hv
  · rw [(List.mem_replicate.1 (List.mem_of_getElem? hl)).2]
    exact List.nodup_nil
theorem BkD.small {ls : List (List Int)} {D : Int → Option Nat} (h : BkD ls D) {ids : List Int} (hD : ∀ v, D v ≠ none → v ∈ ids) (i : Nat) : (ls.getD i []).length ≤ ids.length := by
  cases hi : ls[i]? with
  | none => simp [List.getD, hi]
  | some l =>
    simp only [List.getD, hi, Option.getD_some]
    exact nodup_lenD (h.nodup i l hi) (fun v hv => hD v (by rw [(h.mem i v).1 ⟨l, hi, hv⟩]; simp))

theorem hk_append {w w' : World} {o : Obj} {u : Value} (hg : (w.alloc o).grownBy w' u.ownBlock) : ∀ j, j < w.heap.size → some j ≠ u.ownBlock → w'.heap[j]? = w.heap[j]? := fun j hj hne =>
  (hg.block j (by simp; omega) hne).trans (heap_alloc_old w _ hj)
theorem hf_append {w : World} {u v : Value} (h : v.ownBlock = u.ownBlock ∨ v.ownBlock = some (w.heap.size + 1)) : v.ownBlock = u.ownBlock ∨ v.ownBlock = none ∨ ∀ g, v.ownBlock = some g → w.heap.size ≤ g := by
  rcases h with h | h
  · exact .inl h
  · refine .inr (.inr fun g hg => ?_)
    rw [h] at hg
    have := Option.some.inj hg
    omega

theorem foot_append {w w' : World} {o : Obj} {u : Value} {gd : Nat} (hg : (w.alloc o).grownBy w' u.ownBlock) (hu : ∀ g, u.ownBlock = some g → gd ≤ g) : Foot (fun j => gd ≤ j) w w' :=
  (Foot.of_below ((Below.refl w.heap.size w).alloc (Nat.le_refl _) o) _).trans (Foot.of_row hg) (fun j hj => .inl (hu j hj.symm))
theorem hf_two {w : World} {u v : Value} (h : v.ownBlock = u.ownBlock ∨ v.ownBlock = some (w.heap.size + 1)) : v.ownBlock = u.ownBlock ∨ ∀ g, v.ownBlock = some g → w.heap.size ≤ g := by
  rcases hf_append h with h | h | h
  · exact .inl h
  · exact .inr (fun g hg => by rw [h] at hg; cases hg)
  · exact .inr h

/-- The memory of the main loop: the map of the degrees, and the three parts. -/
structure MW (wo : World) (bm gd : Nat) (vs : List Value) (ls : List (List Int)) (vL : Value) (L : List Int) (vS : Value) (S : List Int) (D : Int → Option Nat) (B : Nat) (W : World) : Prop where
  foot : Foot (fun j => j = bm) wo W
  dv : GM Tryz.prog 2 W bm B (fun v => (D v).map fun d => .int .i64 (d : Nat))
  m3 : M3 W gd gd vs ls vL L vS S
section
variable {wo W W' : World} {bm gd : Nat} {vs vs' : List Value} {ls ls' : List (List Int)} {vL vS vL' vS' : Value} {L S L' S' : List Int} {D D' : Int → Option Nat} {B B' : Nat}
theorem MW.m3step (h : MW wo bm gd vs ls vL L vS S D B W) (hm : M3 W' gd gd vs' ls' vL' L' vS' S') (hf : Foot (fun j => gd ≤ j) W W') (hbm : bm < gd) (hgd : gd = wo.heap.size) : MW wo bm gd vs' ls' vL' L' vS' S' D B W' :=
  ⟨h.foot.trans hf (fun j hj => .inr (by omega)), h.dv.of_heap (hf.block bm h.dv.lt (by omega)), hm⟩
theorem MW.mapstep (h : MW wo bm gd vs ls vL L vS S D B W) (g : GM Tryz.prog 2 W' bm B' (fun v => (D' v).map fun d => .int .i64 (d : Nat))) (hg : W.grownBy W' (some bm)) (hbm : bm < gd) : MW wo bm gd vs ls vL L vS S D' B' W' :=
  ⟨h.foot.trans (Foot.of_grown hg) (fun j hj => .inl hj), g, h.m3.of_heap (fun j h1 h2 => hg.block j h2 (fun e => by have := Option.some.inj e; omega))⟩
theorem MW.mono (h : MW wo bm gd vs ls vL L vS S D B W) (hb : B ≤ B') : MW wo bm gd vs ls vL L vS S D B' W := ⟨h.foot, h.dv.mono hb, h.m3⟩
theorem MW.below (h : MW wo bm gd vs ls vL L vS S D B W) (hb : Below W.heap.size W W') : MW wo bm gd vs ls vL L vS S D B W' :=
  ⟨h.foot.trans (Foot.of_below hb (fun _ => False)) (fun _ h => h.elim), h.dv.below hb, h.m3.of_heap (fun j _ h2 => hb.block j h2)⟩
end

/-- A list in which z stands: where it stands first. -/
theorem first_pos : ∀ {l : List Int} {z : Int}, z ∈ l → ∃ p, p < l.length ∧ l.getD p 0 = z ∧ ∀ q, q < p → l.getD q 0 ≠ z
  | [], _, h => by cases h
  | a :: r, z, h => by
    by_cases e : a = z
    · exact ⟨0, by simp, by simpa using e, fun q hq => by omega⟩
    · obtain ⟨p, h1, h2, h3⟩ := first_pos ((List.mem_cons.1 h).resolve_left (fun h => e h.symm))
      refine ⟨p + 1, by simpa using h1, by simpa using h2, fun q hq => ?_⟩
      cases q with
      | zero => simpa using e
      | succ q => simpa using h3 q (by omega)

theorem cell_put_same {W : World} {g p m : Nat} {x : Value} (h : W.cell? ⟨g, m, none⟩ = some x) : (W.setCell ⟨g, p, none⟩ x).cell? ⟨g, m, none⟩ = some x := by
  by_cases e : p = m
  · subst e; exact World.cell?_setCell_same _ _ _ h
  · rw [World.cell?_setCell_other _ _ _ _ (by simp)]; exact h

theorem swap_map {l : List Int} {p m : Nat} (hl : l.length = m + 1) : (((l.map nodeV).set p (nodeV (l.getD m 0))).take m) = (swapOut l p).map nodeV ∧ (swapOut l p).length = m := by
  have e : l.getLastD 0 = l.getD m 0 := by
    rw [List.getLastD_eq_getLast?, List.getLast?_eq_getElem?, hl]; simp [List.getD]
  unfold swapOut
  rw [e, ← List.map_set, ← List.map_take, List.dropLast_eq_take]
  simp [hl]

/-- The least bucket that holds something. -/
theorem least_full : ∀ ls : List (List Int), (∃ l ∈ ls, l ≠ []) → ∃ i, i < ls.length ∧ ls.getD i [] ≠ [] ∧ ∀ j, j < i → ls.getD j [] = []
  | [], h => by obtain ⟨l, hl, _⟩ := h; cases hl
  | l :: r, h => by
    by_cases e : l = []
    · obtain ⟨i, h1, h2, h3⟩ := least_full r (by
        obtain ⟨x, hx, hne⟩ := h
        rcases List.mem_cons.1 hx with rfl | hx
        · exact absurd e hne
        · exact ⟨x, hx, hne⟩)
      refine ⟨i + 1, by simpa using h1, by simpa using h2, fun j hj => ?_⟩
      cases j with
      | zero => simpa using e
      | succ j => simpa using h3 j (by omega)
    · exact ⟨0, by simp, by simpa using e, fun j hj => by omega⟩
end Go.Proofs.YtnfkbjgijelfdaaGreat
