/- The walk of topo.sortedFrom. The walk of impl.slots. The walks of topo.TarjanSCC and impl.SCC. The walks of topo.Sort, topo.SortStabilized (without an order of the caller's), impl.Sort and impl.SortStabilized. -/
import Derived.Test.YtnfkbjgijelfdaaGreatTarS
import Derived.Test.YtnfkbjgijelfdaaGreatOrdP
import Derived.Test.YtnfkbjgijelfdaaGreatEnds
import Derived.Test.YtnfkbjgijelfdaaGreatLex
import Derived.Test.YtnfkbjgijelfdaaGreatNextF
namespace Go.Proofs.YtnfkbjgijelfdaaGreat
open Go.RowKit Go.Sort

def encO : Option Int → Value
  | none => .nilIface
  | some x => nodeV x
def ordC (srt : List Int → List Int) (c : List Int) : List Int := if cyB c = true then srt c else c
/-- Slices of nodes that read as lists. -/
structure RdNL (w : World) (a : Option Addr) (n : Nat) (ls : List (List Int)) : Prop where
  len : ls.length = n
  at_ : 0 < n → ∃ b off, a = some ⟨b, off, none⟩ ∧ b < w.heap.size ∧ ∀ j, j < n → ∃ aj cj l, Hid (ls[j]? = some l) ∧ w.cell? ⟨b, off + j, none⟩ = some (.slice aj l.length cj) ∧ RdN w aj l.length l
theorem RdNL.below {w w' : World} {a : Option Addr} {n : Nat} {ls : List (List Int)} {B : Nat} (h : RdNL w a n ls) (hb : Below B w w') (hB : w.heap.size ≤ B) : RdNL w' a n ls :=
  ⟨h.len, fun h0 => by
    obtain ⟨b, off, e, hb', hc⟩ := h.at_ h0
    exact ⟨b, off, e, Nat.lt_of_lt_of_le hb' hb.size, fun j hj => by
      obtain ⟨aj, cj, l, h1, h2, h3⟩ := hc j hj
      exact ⟨aj, cj, l, h1, (hb.cell (p := ⟨b, off + j, none⟩) (by show b < B; omega)).trans h2, h3.below hb hB⟩⟩⟩

/-- Two rows of which none has a node of the other one lie in two blocks. -/
theorem own_apart {w : World} {lo : Nat} {u1 u2 : Value} {l1 l2 : List Int} (h1 : w.ownsRow lo 103 1 u1 l1.length (l1.map nodeV)) (h2 : w.ownsRow lo 103 1 u2 l2.length (l2.map nodeV)) (n1 : l1 ≠ []) (n2 : l2 ≠ []) (hd : ∀ x ∈ l1, x ∉ l2) (g : Nat) (hg1 : u1.ownBlock = some g) (hg2 : u2.ownBlock = some g) : False := by
  have p1 := List.length_pos_iff.2 n1
  have p2 := List.length_pos_iff.2 n2
  obtain ⟨g1, c1, rfl, -, -, -⟩ := own_form h1 p1
  obtain ⟨g2, c2, rfl, -, -, -⟩ := own_form h2 p2
  obtain rfl : g1 = g := Option.some.inj hg1
  obtain rfl : g2 = g1 := Option.some.inj hg2
  have e1 := (own_at h1 (i := 0) (u := nodeV l1[0]) (by rw [List.getElem?_map, List.getElem?_eq_getElem p1]; rfl)).1
  have e2 := (own_at h2 (i := 0) (u := nodeV l2[0]) (by rw [List.getElem?_map, List.getElem?_eq_getElem p2]; rfl)).1
  have e3 : nodeV l1[0] = nodeV l2[0] := Option.some.inj (e1.symm.trans e2)
  have e4 : l1[0] = l2[0] := by
    unfold nodeV at e3
    simpa using e3
  exact hd l1[0] (List.getElem_mem p1) (by rw [e4]; exact List.getElem_mem p2)

/-- One row has changed. -/
theorem LolG.setRow {α : Type} {tl te : TypeId} {enc : α → Value} {w w' : World} {lo : Nat} {v : Value} {vs : List Value} {ls : List (List α)} {k : Nat} {u : Value} {l l' : List α} (h : LolG tl te enc w lo v vs ls) (hu : vs[k]? = some u) (hl : ls[k]? = some l)
    (ho : w'.ownsRow lo te 1 u l'.length (l'.map enc)) (hg : w.grownBy w' u.ownBlock) (hap : ∀ i x y, i ≠ k → vs[i]? = some x → ls[i]? = some y → ∀ g, x.ownBlock = some g → u.ownBlock ≠ some g) : LolG tl te enc w' lo v vs (ls.set k l') := by
  have hkl := (List.getElem?_eq_some_iff.1 hl).1
  refine ⟨?_, fun i x y hx hy => ?_, h.apart⟩
  · rw [List.length_set]
    exact ownsRow_of_heap h.row (fun g hg' => hg.block g (h.row.lt g hg').2 (fun e => h.apart u (List.mem_of_getElem? hu) g e.symm hg'))
  · by_cases e : i = k
    · subst e
      rw [hu] at hx
      obtain rfl := Option.some.inj hx
      rw [List.getElem?_set_self hkl] at hy
      obtain rfl := Option.some.inj hy
      exact ho
    · rw [List.getElem?_set_ne (fun e' => e e'.symm)] at hy
      have h1 := h.rows i x y hx hy
      exact ownsRow_of_heap h1 (fun g hg' => hg.block g (h1.lt g hg').2 (fun e' => hap i x y e hx hy g hg' e'.symm))

def encS (t : Option Addr × Nat × Nat) : Value := .slice t.1 t.2.1 t.2.2
theorem encS_of : ∀ {us : List Value}, (∀ u ∈ us, ∃ a n c, u = .slice a n c) → ∃ ts : List (Option Addr × Nat × Nat), us = ts.map encS
  | [], _ => ⟨[], rfl⟩
  | u :: us, h => by
    obtain ⟨a, n, c, rfl⟩ := h u (by simp)
    obtain ⟨ts, rfl⟩ := encS_of (us := us) (fun x hx => h x (List.mem_cons_of_mem _ hx))
    exact ⟨(a, n, c) :: ts, rfl⟩

/-- The pairs of slices and components that are cyclic. -/
def cyP (vs : List Value) (ss : List (List Int)) : List (Value × List Int) := (vs.zip ss).filter fun p => cyB p.2
theorem cyP_snd {vs : List Value} {ss : List (List Int)} (h : vs.length = ss.length) : (cyP vs ss).map (·.2) = cycs ss := by
  unfold cyP cycs
  have e : ss = (vs.zip ss).map (·.2) := by rw [List.map_snd_zip]; omega
  conv => rhs; rw [e, List.filter_map]
  rfl
theorem cyP_succ {vs : List Value} {ss : List (List Int)} {k : Nat} {u : Value} {c : List Int} (hu : vs[k]? = some u) (hc : ss[k]? = some c) : cyP (vs.take (k + 1)) (ss.take (k + 1)) = cyP (vs.take k) (ss.take k) ++ (if cyB c then [(u, c)] else []) := by
  obtain ⟨h1, rfl⟩ := List.getElem?_eq_some_iff.1 hu
  obtain ⟨h2, rfl⟩ := List.getElem?_eq_some_iff.1 hc
  unfold cyP
  rw [List.take_succ_eq_append_getElem h1, List.take_succ_eq_append_getElem h2, List.zip_append (by rw [List.length_take, List.length_take]; omega), List.filter_append]
  congr 1
  cases hb : cyB ss[k] <;> simp [hb]

theorem map_ordC_set {srt : List Int → List Int} {ss : List (List Int)} {k : Nat} {c : List Int} (hc : ss[k]? = some c) : ((ss.take k).map (ordC srt) ++ ss.drop k).set k (ordC srt c) = (ss.take (k + 1)).map (ordC srt) ++ ss.drop (k + 1) := by
  obtain ⟨h1, rfl⟩ := List.getElem?_eq_some_iff.1 hc
  rw [List.take_succ_eq_append_getElem h1, List.map_append, List.drop_eq_getElem_cons h1, List.set_append_right _ _ (by simp; omega)]
  have e : k - ((ss.take k).map (ordC srt)).length = 0 := by simp; omega
  rw [e, List.set_cons_zero]
  simp
theorem ordC_at {srt : List Int → List Int} {ss : List (List Int)} {k i : Nat} {y : List Int} (hp : ∀ l, (srt l).Perm l) (hy : ((ss.take k).map (ordC srt) ++ ss.drop k)[i]? = some y) : ∃ c, ss[i]? = some c ∧ y.Perm c := by
  by_cases h : i < k
  · by_cases h2 : i < ss.length
    · rw [List.getElem?_append_left (by simp; omega), List.getElem?_map, List.getElem?_take_of_lt h, List.getElem?_eq_getElem h2] at hy
      obtain rfl := Option.some.inj hy
      refine ⟨ss[i], List.getElem?_eq_getElem h2, ?_⟩
      unfold ordC
      split
      · exact hp _
      · exact List.Perm.refl _
    · exfalso
      have h3 := (List.getElem?_eq_some_iff.1 hy).1
      simp at h3; omega
  · by_cases hk : k ≤ ss.length
    · rw [List.getElem?_append_right (by simp; omega), List.getElem?_drop] at hy
      have e : k + (i - ((ss.take k).map (ordC srt)).length) = i := by simp; omega
      rw [e] at hy
      exact ⟨y, hy, List.Perm.refl _⟩
    · exfalso
      have h3 := (List.getElem?_eq_some_iff.1 hy).1
      simp at h3; omega
theorem ordC_k {srt : List Int → List Int} {ss : List (List Int)} {k : Nat} {c : List Int} (hc : ss[k]? = some c) : ((ss.take k).map (ordC srt) ++ ss.drop k)[k]? = some c := by
  obtain ⟨h1, rfl⟩ := List.getElem?_eq_some_iff.1 hc
  rw [List.getElem?_append_right (by simp; omega), List.getElem?_drop]
  have e : k + (k - ((ss.take k).map (ordC srt)).length) = k := by simp; omega
  rw [e]; exact List.getElem?_eq_getElem h1

/-- The state of the loop. -/
structure SfSt (w : World) (lo : Nat) (v : Value) (vs : List Value) (ss : List (List Int)) (srt : List Int → List Int) (k : Nat) (vS vC : Value) (wr : World) : Prop where
  lol : LolG 77 103 nodeV wr lo v vs ((ss.take k).map (ordC srt) ++ ss.drop k)
  srtd : wr.ownsRow w.heap.size 103 1 vS k (((ss.take k).map slotO).map encO)
  sc : wr.ownsRow w.heap.size 77 1 vC (cyP (vs.take k) (ss.take k)).length ((cyP (vs.take k) (ss.take k)).map (·.1))
  ap : ∀ g, vS.ownBlock = some g → vC.ownBlock ≠ some g
  foot : Foot (LolGF v vs) w wr
  nilC : (cyP (vs.take k) (ss.take k)).length = 0 → vC = .slice none 0 0

theorem Foot.of_low {B : Nat} {w w' : World} (h : Below B w w') : Foot (fun j => B ≤ j) w w' := ⟨h.os, h.tape, h.output, h.size, fun j _ hn => h.block j (by omega)⟩
def SortedPost (v : Value) (vs : List Value) (ss : List (List Int)) (srt : List Int → List Int) (w : World) (e : Ending) (w' : World) : Prop :=
  ∃ vO vE, e = .returned (.tuple #[vO, vE]) ∧ w'.ownsRow w.heap.size 103 1 vO ss.length ((ss.map slotO).reverse.map encO) ∧
    ((cycs ss = [] ∧ vE = .nilIface) ∨ (cycs ss ≠ [] ∧ ∃ a c, vE = .iface 145 (.slice a (cycs ss).length c) ∧ RdNL w' a (cycs ss).length (((cycs ss).map srt).reverse))) ∧ Foot (LolGF v vs) w w'

theorem rdNL_of {w : World} {lo B n c : Nat} {v : Value} {a : Option Addr} {vs : List Value} {ss : List (List Int)} {srt : List Int → List Int} (hvl : vs.length = ss.length) (hl : LolG 77 103 nodeV w lo v vs (ss.map (ordC srt)))
    (ho : w.ownsRow B 77 1 (.slice a n c) n ((cyP vs ss).reverse.map (·.1))) (hn : n = (cycs ss).length) : RdNL w a n (((cycs ss).map srt).reverse) := by
  have hcl : (cyP vs ss).length = n := by rw [hn, ← cyP_snd hvl, List.length_map]
  refine ⟨by rw [List.length_reverse, List.length_map]; exact hn.symm, fun h0 => ?_⟩
  obtain ⟨g, c', e, h1, h2, -⟩ := own_form ho h0
  simp only [Value.slice.injEq, true_and] at e
  obtain ⟨rfl, rfl⟩ := e
  refine ⟨g, 0, rfl, h2, fun j hj => ?_⟩
  have hjl : j < (cyP vs ss).reverse.length := by rw [List.length_reverse]; omega
  obtain ⟨p, hp⟩ : ∃ p, (cyP vs ss).reverse[j]? = some p := ⟨_, List.getElem?_eq_getElem hjl⟩
  have hcell := (own_at ho (i := j) (u := p.1) (by rw [List.getElem?_map, hp]; rfl)).1
  have hm : p ∈ cyP vs ss := List.mem_reverse.1 (List.mem_of_getElem? hp)
  unfold cyP at hm
  obtain ⟨hm1, hm2⟩ := List.mem_filter.1 hm
  obtain ⟨q, hq⟩ := List.getElem?_of_mem hm1
  obtain ⟨q1, q2⟩ := List.getElem?_zip_eq_some.1 hq
  have hr := hl.rows q p.1 (srt p.2) q1 (by rw [List.getElem?_map, q2]; show some (ordC srt p.2) = _; unfold ordC; rw [if_pos hm2])
  obtain ⟨aj, cj, e⟩ := own_shape' hr
  rw [e] at hr hcell
  refine ⟨aj, cj, srt p.2, Lib.hid ?_, by rw [Nat.zero_add]; exact hcell, RdN.of_own hr⟩
  rw [← cyP_snd hvl, List.map_map, ← List.map_reverse, List.getElem?_map, hp]
  rfl

theorem slotO_rev (L : List (Option Int)) : (L.map encO).reverse = L.reverse.map encO := by rw [List.map_reverse]

set_option maxHeartbeats 8000000 in
set_option maxRecDepth 100000 in
theorem sortedFrom_calls {fO : FuncId} {cO : Array Value} {wB : World} {B0 : Nat} {ids : List Int} {srt : List Int → List Int} (hO : OrderF fO cO wB B0 ids srt) (lo : Nat) (v : Value) (vs : List Value) (ss : List (List Int)) (w : World) (h : LolG 77 103 nodeV w lo v vs ss)
    (hne : ∀ c ∈ ss, c ≠ []) (hnd : ss.flatten.Nodup) (hsub : ∀ x ∈ ss.flatten, x ∈ ids) (hids : ids.length ≤ 1000) (hB : B0 ≤ lo) (hw : Below B0 wB w) :
    Calls Tryz.prog 91 #[v, .func (.func fO) #[] cO] w (SortedPost v vs ss srt w) := by
  have hfl := nodup_lenT hnd hsub
  have hsl := len_flatten hne
  obtain ⟨n, hn⟩ : ∃ n, n = ss.length := ⟨_, rfl⟩
  have hn1 : n ≤ 1000 := by omega
  have hrow := h.row
  have hvl := h.len
  rw [← hn] at hrow
  obtain ⟨a0, c0, rfl⟩ := own_shape' hrow
  have HL := Lib.hid h; have HNE := Lib.hid hne; have HND := Lib.hid hnd; have HSUB := Lib.hid hsub; have HO := Lib.hid hO; have HN := Lib.hid hn; have HVL := Lib.hid hvl; have HW := Lib.hid hw
  have HCL : Hid (∀ c ∈ ss, c.length ≤ 1000) := Lib.hid (fun c hc => by
    have := List.Sublist.length_le (List.sublist_flatten_of_mem hc); omega)
  have hlow : lo ≤ w.heap.size ∨ n = 0 := by
    by_cases h0 : 0 < n
    · obtain ⟨g, c, -, h1, h2, -⟩ := own_form hrow h0
      exact .inl (by omega)
    · exact .inr (by omega)
  have m8 := hO.eO
  clear h hne hnd hsub hO hn hvl hfl hsl hrow hw
  have hmk := make_nodes w n (by omega)
  have HOWN := Lib.hid (World.ownsRow_made (base := w.heap.size) (e := 103) (size := 1) w (madeCells (Value.nilIface).cells n) n (Nat.le_refl _) (by unfold maxLen; omega) (by rw [size_madeCells]; omega))
  obtain ⟨j0, hj0, hy0, hy1, hy2⟩ := info_parts nodeT_info
  have HJ := Lib.hid (And.intro hj0 (And.intro hy0 (And.intro hy1 hy2)))
  obtain ⟨i0, hi0, hz0, hz1, hz2⟩ := info_parts nodesT_info
  have HI := Lib.hid (And.intro hi0 (And.intro hz0 (And.intro hz1 hz2)))
  clear hj0 hy0 hy1 hy2 hi0 hz0 hz1 hz2
  go_enter Tryz.func91, Tryz.ntmps91
  go_wp2_with fail
  have HS1 : Hid (SfSt w lo (.slice a0 n c0) vs ss srt 0 (.slice (some ⟨w.heap.size, 0, none⟩) 0 n) (.slice none 0 0) (w.alloc (.cells (madeCells (Value.nilIface).cells n) 103))) := Lib.hid (by
    refine ⟨?_, HOWN.out, World.ownsRow_nil _ _ _ _, (fun g hg e => by cases e), ?_, fun _ => rfl⟩
    · have e : (ss.take 0).map (ordC srt) ++ ss.drop 0 = ss := by simp
      rw [e]
      exact HL.out.of_heap (fun j hj => heap_alloc_old _ _ (HL.out.lt hj).2)
    · exact Foot.of_below ((Below.refl _ _).alloc (Nat.le_refl _) _) _)
  clear HOWN hmk
  go_loopw [6, 7, 16] (fun vS vC i wr => ∃ k : Nat, k ≤ n ∧ i = .int .i64 k ∧ Hid (SfSt w lo (.slice a0 n c0) vs ss srt k vS vC wr)) (fun _ _ i _ => n - (intOf i).toNat)
  case atStart => exact ⟨0, by omega, rfl, HS1⟩
  case round =>
    obtain ⟨k, hk, rfl, HS⟩ := hrel
    clear HS1
    have hso := HS.out.srtd
    have hco := HS.out.sc
    obtain ⟨aS, cS, rfl⟩ := own_shape' hso
    obtain ⟨mC, hmC⟩ : ∃ mC, mC = (cyP (vs.take k) (ss.take k)).length := ⟨_, rfl⟩
    rw [← hmC] at hco
    obtain ⟨aC, cC, rfl⟩ := own_shape' hco
    have HMC := Lib.hid hmC
    have hmk1 : mC ≤ k := by
      rw [hmC]; unfold cyP
      have h1 := List.length_filter_le (fun p : Value × List Int => cyB p.2) ((vs.take k).zip (ss.take k))
      rw [List.length_zip, List.length_take, List.length_take] at h1
      omega
    have hszr := HS.out.foot.size
    have HSO := Lib.hid hso; have HCO := Lib.hid hco
    clear hso hco hmC
    by_cases hlt : k < n
    · obtain ⟨c, hc⟩ : ∃ c, ss[k]? = some c := ⟨_, List.getElem?_eq_getElem (by have := HN.out; omega)⟩
      obtain ⟨u, hu⟩ : ∃ u, vs[k]? = some u := ⟨_, List.getElem?_eq_getElem (by have := HN.out; have := HVL.out; omega)⟩
      have hlr := HS.out.lol.row
      have hll : ((ss.take k).map (ordC srt) ++ ss.drop k).length = n := by simp; have := HN.out; omega
      rw [hll] at hlr
      obtain ⟨g, c0', e, hg0, hg1, -⟩ := own_form hlr (by omega)
      simp only [Value.slice.injEq, true_and] at e
      obtain ⟨rfl, rfl⟩ := e
      have hrk := HS.out.lol.rows k u c hu (ordC_k hc)
      obtain ⟨nc, hnc⟩ : ∃ nc, nc = c.length := ⟨_, rfl⟩
      rw [← hnc] at hrk
      obtain ⟨a2, c2, rfl⟩ := own_shape' hrk
      have hck := (own_at hlr hu).1
      have hcm := List.mem_of_getElem? hc
      have hn1c : nc ≤ 1000 := by rw [hnc]; exact HCL.out c hcm
      have HC := Lib.hid hc; have HU := Lib.hid hu; have HRK := Lib.hid hrk; have HNC := Lib.hid hnc
      clear hlr hll hc hu hrk hnc hcm
      by_cases hb : cyB c = true
      · have hz : ((nc : Int) != 1) = true := by
          have h := hb; unfold cyB at h; rw [← HNC.out] at h; simp at h; simp; omega
        have hz2 : ((nc : Int) == 1) = false := by
          have h := hb; unfold cyB at h; rw [← HNC.out] at h; simp at h; simp; omega
        have HCY := Lib.hid hb
        have HCALL := Lib.hid (HO.out.sorts wr (.slice a2 nc c2) c lo (fun x hx => HSUB.out x (List.mem_flatten.2 ⟨c, List.mem_of_getElem? HC.out, hx⟩)) (HCL.out c (List.mem_of_getElem? HC.out)) hB
          (HW.out.trans (HS.out.foot.below (fun j hj => Nat.le_trans hB (HL.out.lt hj).1) (by rcases hlow with h | h <;> omega))) (by rw [← HNC.out]; exact HRK.out))
        clear hb
        go_wp2_with fail
        refine HCALL.out.mono ?_
        rintro e w2 ⟨rfl, ho2, hg2⟩
        have HUV : Hid (∀ j, (Value.slice a2 nc c2).ownBlock = some j → LolGF (.slice (some ⟨g, 0, none⟩) n c0) vs j) := Lib.hid (fun j hj => .inr ⟨_, List.mem_of_getElem? HU.out, hj⟩)
        have HULT : Hid (∀ j, (Value.slice a2 nc c2).ownBlock = some j → j < w.heap.size) := Lib.hid (fun j hj => (HL.out.lt (HUV.out j hj)).2)
        have HL2 : Hid (LolG 77 103 nodeV w2 lo (.slice (some ⟨g, 0, none⟩) n c0) vs ((ss.take (k + 1)).map (ordC srt) ++ ss.drop (k + 1))) := Lib.hid (by
          rw [← map_ordC_set HC.out]
          have e : ordC srt c = srt c := if_pos HCY.out
          rw [e]
          refine HS.out.lol.setRow HU.out (ordC_k HC.out) ho2 hg2 (fun i x y hik hx hy g' hg' he => ?_)
          obtain ⟨c', hc', hpc⟩ := ordC_at HO.out.perm hy
          refine own_apart (HS.out.lol.rows i x y hx hy) (by rw [← HNC.out]; exact HRK.out) (fun e0 => HNE.out c' (List.mem_of_getElem? hc') (by rw [e0] at hpc; exact hpc.symm.eq_nil)) (HNE.out c (List.mem_of_getElem? HC.out)) (fun z hz1 hz3 => flat_disj HND.out hc' HC.out hik z (hpc.mem_iff.1 hz1) hz3) g' hg' he)
        have HF2 : Hid (Foot (LolGF (.slice (some ⟨g, 0, none⟩) n c0) vs) w w2) := Lib.hid (HS.out.foot.trans (Foot.of_row hg2) (fun j hj => .inl (HUV.out j hj.symm)))
        have HSO2 : Hid (w2.ownsRow w.heap.size 103 1 (.slice aS k cS) k (((ss.take k).map slotO).map encO)) := Lib.hid (ownsRow_of_heap HSO.out (fun j hj => hg2.block j (HSO.out.lt j hj).2 (fun e => by have h1 := HULT.out j e.symm; have h2 := (HSO.out.lt j hj).1; omega)))
        have HCO2 : Hid (w2.ownsRow w.heap.size 77 1 (.slice aC mC cC) mC ((cyP (vs.take k) (ss.take k)).map (·.1))) := Lib.hid (ownsRow_of_heap HCO.out (fun j hj => hg2.block j (HCO.out.lt j hj).2 (fun e => by have h1 := HULT.out j e.symm; have h2 := (HCO.out.lt j hj).1; omega)))
        have hs2 := hg2.size
        clear ho2 hg2 HCALL
        obtain ⟨hi0, hz0, hz1, hz3⟩ := HI.out
        go_wp2_with (at_builtin; refine wpList_append_own_at _ rfl _ _ 145 rfl w.heap.size 77 i0 (.slice none 0 0) 1 24 Tryz.underlying145 hi0 hz0 hz1 hz3 rfl (by decide) (.slice aC mC cC) mC ((cyP (vs.take k) (ss.take k)).map (·.1)) rfl (HCO2.out.alloc _) ⟨w2.heap.size, 0, none⟩ 1 1 [.slice a2 nc c2] rfl rfl ?c1 ?c2 ?c3 ?c4 ?c5 ?_)
        case c1 => intro j u hj; match j, hj with | 0, hj => simp at hj; subst hj; simp [Addr.add]
        case c2 => intro u hu; simp at hu; subst hu; rfl
        case c3 => unfold maxLen; omega
        case c4 => omega
        case c5 => simp; omega
        intro v3 w3 hown3 hgrow3 _ hloc3
        obtain ⟨a3, c3, rfl⟩ := own_shape' hown3
        have HB3 : Hid (Below w.heap.size w2 w3) := Lib.hid (((Below.refl w.heap.size w2).alloc (by omega) _).grown hgrow3 (by simp; omega) (fun j hj => (HCO2.out.lt j hj).1))
        have HCO3 := Lib.hid hown3
        have HSO3 : Hid (w3.ownsRow w.heap.size 103 1 (.slice aS k cS) k (((ss.take k).map slotO).map encO)) := Lib.hid (ownsRow_of_heap HSO2.out (fun j hj => by
          have h1 := (HSO2.out.lt j hj).2
          rw [hgrow3.block j (by simp; omega) (fun e => HS.out.ap j hj e.symm)]
          exact heap_alloc_old _ _ h1))
        have HAP3 : Hid (∀ j, (Value.slice aS k cS).ownBlock = some j → (Value.slice a3 (mC + 1) c3).ownBlock ≠ some j) := Lib.hid (fun j hj e => by
          rcases hloc3 with h1 | h1
          · exact HS.out.ap j hj (h1 ▸ e)
          · rw [h1] at e
            have h2 := Option.some.inj e
            have h3 := (HSO.out.lt j hj).2
            first | omega | (simp at h2; omega))
        have hs3 := HB3.out.size
        clear hown3 hgrow3 hloc3
        obtain ⟨hj0, hy0, hy1, hy2⟩ := HJ.out
        go_wp2_with (at_builtin; refine wpList_append_own_at _ rfl _ _ 77 rfl w.heap.size 103 j0 .nilIface 1 16 Tryz.underlying77 hj0 hy0 hy1 hy2 rfl (by decide) (.slice aS k cS) k (((ss.take k).map slotO).map encO) rfl (HSO3.out.alloc _) ⟨w3.heap.size, 0, none⟩ 1 1 [.nilIface] rfl rfl ?d1 ?d2 ?d3 ?d4 ?d5 ?_)
        case d1 => intro j u hj; match j, hj with | 0, hj => simp at hj; subst hj; simp [Addr.add]
        case d2 => intro u hu; simp at hu; subst hu; rfl
        case d3 => unfold maxLen; omega
        case d4 => omega
        case d5 => simp; omega
        intro v4 w4 hown4 hgrow4 _ hloc4
        obtain ⟨a4, c4, rfl⟩ := own_shape' hown4
        have HB4 : Hid (Below w.heap.size w2 w4) := Lib.hid ((HB3.out.alloc (by omega) _).grown hgrow4 (by simp; omega) (fun j hj => (HSO3.out.lt j hj).1))
        have hcs := cyP_succ HU.out HC.out
        rw [if_pos HCY.out] at hcs
        have HS4 : Hid (SfSt w lo (.slice (some ⟨g, 0, none⟩) n c0) vs ss srt (k + 1) (.slice a4 (k + 1) c4) (.slice a3 (mC + 1) c3) w4) := Lib.hid (by
          refine ⟨HL2.out.of_heap (fun j hj => HB4.out.block j (HL.out.lt hj).2), ?_, ?_, fun j hj e => ?_, HF2.out.trans (Foot.of_low HB4.out) (fun j hj => .inr hj), fun h0 => ?_⟩
          · have e1 : ((ss.take (k + 1)).map slotO).map encO = ((ss.take k).map slotO).map encO ++ [.nilIface] := by
              obtain ⟨h1, h2⟩ := List.getElem?_eq_some_iff.1 HC.out
              rw [List.take_succ_eq_append_getElem h1, List.map_append, List.map_append, h2]
              show _ ++ [encO (slotO c)] = _
              rw [slotO_cy HCY.out]; rfl
            rw [e1]; simpa using hown4
          · rw [hcs, List.map_append, List.length_append]
            show w4.ownsRow _ _ _ _ ((cyP (vs.take k) (ss.take k)).length + 1) (_ ++ [.slice a2 nc c2])
            rw [← HMC.out]
            refine ownsRow_of_heap HCO3.out (fun j hj => ?_)
            have h1 := (HCO3.out.lt j hj).2
            rw [hgrow4.block j (by simp; omega) (fun e => HAP3.out j e.symm hj)]
            exact heap_alloc_old _ _ h1
          · rcases hloc4 with h1 | h1
            · exact HAP3.out j (h1 ▸ hj) e
            · rw [h1] at hj
              have h2 := Option.some.inj hj
              have h3 := (HCO3.out.lt j e).2
              first | omega | (simp at h2; omega)
          · rw [hcs, List.length_append] at h0; simp at h0)
        clear hown4 hgrow4 hloc4 hcs
        go_wp2_with fail
        go_roundw
        case rel => exact ⟨k + 1, by omega, by go_num, HS4⟩
        case measure => simp [intOf]; omega
      · have hb' : cyB c = false := by simpa using hb
        obtain ⟨x, rfl, hsx⟩ := slotO_one hb'
        have hnc1 : nc = 1 := HNC.out
        subst hnc1
        have HSX := Lib.hid hsx; have HCY := Lib.hid hb'
        obtain ⟨g2, c2', e, -, -, -⟩ := own_form HRK.out (by omega)
        simp only [Value.slice.injEq, true_and] at e
        obtain ⟨rfl, rfl⟩ := e
        have q2 : wr.cell? ⟨g2, 0, none⟩ = some (.iface 133 (.int .i64 x)) := (own_at HRK.out (i := 0) (u := nodeV x) rfl).1
        clear hb hb' hsx
        obtain ⟨hj0, hy0, hy1, hy2⟩ := HJ.out
        go_wp2_with (at_builtin; refine wpList_append_own_at _ rfl _ _ 77 rfl w.heap.size 103 j0 .nilIface 1 16 Tryz.underlying77 hj0 hy0 hy1 hy2 rfl (by decide) (.slice aS k cS) k (((ss.take k).map slotO).map encO) rfl (HSO.out.alloc _) ⟨wr.heap.size, 0, none⟩ 1 1 [nodeV x] rfl rfl ?f1 ?f2 ?f3 ?f4 ?f5 ?_)
        case f1 => intro j u hj; match j, hj with | 0, hj => simp at hj; subst hj; simp [Addr.add, nodeV]
        case f2 => intro u hu; simp at hu; subst hu; rfl
        case f3 => unfold maxLen; omega
        case f4 => omega
        case f5 => simp; omega
        intro v4 w4 hown4 hgrow4 _ hloc4
        obtain ⟨a4, c4, rfl⟩ := own_shape' hown4
        have HB4 : Hid (Below w.heap.size wr w4) := Lib.hid (((Below.refl w.heap.size wr).alloc (by omega) _).grown hgrow4 (by simp; omega) (fun j hj => (HSO.out.lt j hj).1))
        have hcs := cyP_succ HU.out HC.out
        rw [HCY.out, if_neg (by simp), List.append_nil] at hcs
        have HS4 : Hid (SfSt w lo (.slice (some ⟨g, 0, none⟩) n c0) vs ss srt (k + 1) (.slice a4 (k + 1) c4) (.slice aC mC cC) w4) := Lib.hid (by
          refine ⟨?_, ?_, ?_, fun j hj e => ?_, HS.out.foot.trans (Foot.of_low HB4.out) (fun j hj => .inr hj), fun h0 => ?_⟩
          · have e1 : (ss.take (k + 1)).map (ordC srt) ++ ss.drop (k + 1) = (ss.take k).map (ordC srt) ++ ss.drop k := by
              obtain ⟨h1, h2⟩ := List.getElem?_eq_some_iff.1 HC.out
              rw [List.take_succ_eq_append_getElem h1, List.map_append, List.drop_eq_getElem_cons h1, List.append_assoc, h2]
              have e : ordC srt [x] = [x] := by unfold ordC; rw [HCY.out, if_neg (by simp)]
              show _ ++ ([ordC srt [x]] ++ _) = _
              rw [e]; rfl
            rw [e1]
            exact HS.out.lol.of_heap (fun j hj => HB4.out.block j (HL.out.lt hj).2)
          · have e1 : ((ss.take (k + 1)).map slotO).map encO = ((ss.take k).map slotO).map encO ++ [nodeV x] := by
              obtain ⟨h1, h2⟩ := List.getElem?_eq_some_iff.1 HC.out
              rw [List.take_succ_eq_append_getElem h1, List.map_append, List.map_append, h2]
              rfl
            rw [e1]; simpa using hown4
          · rw [hcs, ← HMC.out]
            refine ownsRow_of_heap HCO.out (fun j hj => ?_)
            have h1 := (HCO.out.lt j hj).2
            rw [hgrow4.block j (by simp; omega) (fun e => HS.out.ap j e.symm hj)]
            exact heap_alloc_old _ _ h1
          · rcases hloc4 with h1 | h1
            · exact HS.out.ap j (h1 ▸ hj) e
            · rw [h1] at hj
              have h2 := Option.some.inj hj
              have h3 := (HCO.out.lt j e).2
              first | omega | (simp at h2; omega)
          · rw [hcs] at h0; exact HS.out.nilC h0)
        clear hown4 hgrow4 hloc4 hcs q2
        go_wp2_with fail
        go_roundw
        case rel => exact ⟨k + 1, by omega, by go_num, HS4⟩
        case measure => simp [intOf]; omega
    · obtain rfl : k = n := by omega
      have e0 : ss.take k = ss := List.take_of_length_le (by have := HN.out; omega)
      have e1 : vs.take k = vs := List.take_of_length_le (by have := HN.out; have := HVL.out; omega)
      have HSO' : Hid (wr.ownsRow w.heap.size 103 1 (.slice aS k cS) k ((ss.map slotO).map encO)) := Lib.hid (by have h := HSO.out; rw [e0] at h; exact h)
      have HCO' : Hid (wr.ownsRow w.heap.size 77 1 (.slice aC mC cC) mC ((cyP vs ss).map (·.1))) := Lib.hid (by have h := HCO.out; rw [e0, e1] at h; exact h)
      have HLL : Hid (LolG 77 103 nodeV wr lo (.slice a0 k c0) vs (ss.map (ordC srt))) := Lib.hid (by
        have h := HS.out.lol
        rw [e0, List.drop_of_length_le (by have := HN.out; omega), List.append_nil] at h
        exact h)
      have HMC' : Hid (mC = (cycs ss).length) := Lib.hid (by rw [HMC.out, e0, e1, ← cyP_snd HVL.out, List.length_map])
      have hnil : mC = 0 → aC = none ∧ cC = 0 := fun h => by
        have h1 := HS.out.nilC (by rw [← HMC.out]; exact h)
        simp only [Value.slice.injEq] at h1
        exact ⟨h1.1, h1.2.2⟩
      have hrev : (((ss.map slotO).map encO).reverse) = (ss.map slotO).reverse.map encO := by rw [List.map_reverse]
      have hoe : OneCell encO := fun o => by cases o <;> rfl
      have HOE := Lib.hid hoe
      have HAP := Lib.hid HS.out.ap
      have HFT := Lib.hid HS.out.foot
      clear e0 e1 HSO HCO HMC HS hrev hoe
      by_cases hm : mC = 0
      · obtain ⟨rfl, rfl⟩ := hnil hm
        subst hm
        have HZ : Hid (cycs ss = []) := Lib.hid (List.eq_nil_of_length_eq_zero HMC'.out.symm)
        have hq : ∀ W, (binOp .neq 145 (.slice none 0 0) (.slice none 0 0)).run Tryz.prog W = .ok (.bool false) W := fun _ => by kernel_rfl
        clear hnil
        go_wp2_with fail
        refine (revG_calls encO HOE.out w.heap.size (.slice aS k cS) k (ss.map slotO) wr HSO'.out (by omega)).mono ?_
        rintro e w5 ⟨rfl, ho5, hf5⟩
        have HO5 := Lib.hid ho5
        have HF5 : Hid (Foot (LolGF (.slice a0 k c0) vs) w w5) := Lib.hid (HFT.out.trans hf5 (fun j hj => .inr (HSO'.out.lt j hj.symm).1))
        clear ho5 hf5 hq
        go_wp2_with fail
        refine bodyPost_ret (v := .tuple #[.slice aS k cS, .nilIface]) (by simp [results, Tryz.results91, go_sem]) rfl ?_
        exact ⟨_, _, rfl, by rw [← HN.out]; exact HO5.out, .inl ⟨HZ.out, rfl⟩, HF5.out⟩
      · obtain ⟨gC, cC', e, hgC, hgC2, -⟩ := own_form HCO'.out (by omega)
        simp only [Value.slice.injEq, true_and] at e
        obtain ⟨rfl, rfl⟩ := e
        have HZ : Hid (cycs ss ≠ []) := Lib.hid (fun e => by have h := HMC'.out; rw [e] at h; exact hm h)
        have hq : ∀ W, (binOp .neq 145 (.slice (some ⟨gC, 0, none⟩) mC cC) (.slice none 0 0)).run Tryz.prog W = .ok (.bool true) W := fun _ => by first | kernel_rfl | rfl
        obtain ⟨ts, hts⟩ := encS_of (us := (cyP vs ss).map (·.1)) (fun u hu => by
          obtain ⟨p, hp, rfl⟩ := List.mem_map.1 hu
          obtain ⟨i, hi⟩ := List.getElem?_of_mem (List.mem_filter.1 hp).1
          obtain ⟨q1, q2⟩ := List.getElem?_zip_eq_some.1 hi
          obtain ⟨a, c, e⟩ := own_shape' (HL.out.rows i p.1 p.2 q1 q2)
          exact ⟨a, _, c, e⟩)
        have HTS := Lib.hid hts
        have HRU := Lib.hid (revU_calls encS (fun _ => rfl) w.heap.size (.slice (some ⟨gC, 0, none⟩) mC cC) mC ts wr (by rw [← HTS.out]; exact HCO'.out) (by omega))
        clear hnil hts
        go_wp2_with fail
        refine HRU.out.mono ?_
        rintro e w5 ⟨rfl, ho5, hf5⟩
        rw [List.map_reverse, ← HTS.out, ← List.map_reverse] at ho5
        have HO5 := Lib.hid ho5
        have HF5 : Hid (Foot (LolGF (.slice a0 k c0) vs) w w5) := Lib.hid (HFT.out.trans hf5 (fun j hj => .inr (HCO'.out.lt j hj.symm).1))
        have HS5 : Hid (w5.ownsRow w.heap.size 103 1 (.slice aS k cS) k ((ss.map slotO).map encO)) := Lib.hid (hf5.row HSO'.out (fun j hj e => HAP.out j hj e.symm))
        have HL5 : Hid (LolG 77 103 nodeV w5 lo (.slice a0 k c0) vs (ss.map (ordC srt))) := Lib.hid (HLL.out.of_heap (fun j hj => hf5.block j (HLL.out.lt hj).2 (fun e => by have h1 := (HCO'.out.lt j e.symm).1; have h2 := (HL.out.lt hj).2; omega)))
        clear ho5 hf5 hq HRU
        go_wp2_with fail
        refine (revG_calls encO HOE.out w.heap.size (.slice aS k cS) k (ss.map slotO) w5 HS5.out (by omega)).mono ?_
        rintro e w6 ⟨rfl, ho6, hf6⟩
        have HO6 := Lib.hid ho6
        have HF6 : Hid (Foot (LolGF (.slice a0 k c0) vs) w w6) := Lib.hid (HF5.out.trans hf6 (fun j hj => .inr (HS5.out.lt j hj.symm).1))
        have HR6 : Hid (RdNL w6 (some ⟨gC, 0, none⟩) mC (((cycs ss).map srt).reverse)) := Lib.hid (rdNL_of HVL.out (HL5.out.of_heap (fun j hj => hf6.block j (HL5.out.lt hj).2 (fun e => by have h1 := (HS5.out.lt j e.symm).1; have h2 := (HL.out.lt hj).2; omega))) (hf6.row HO5.out (fun j hj e => HAP.out j e.symm hj)) HMC'.out)
        clear ho6 hf6
        go_wp2_with fail
        refine bodyPost_ret (v := .tuple #[.slice aS k cS, .iface 145 (.slice (some ⟨gC, 0, none⟩) mC cC)]) (by simp [results, Tryz.results91, go_sem]) rfl ?_
        exact ⟨_, _, rfl, by rw [← HN.out]; exact HO6.out, .inr ⟨HZ.out, _, _, by rw [← HMC'.out], by rw [← HMC'.out]; exact HR6.out⟩, HF6.out⟩
end Go.Proofs.YtnfkbjgijelfdaaGreat
namespace Go.Proofs.YtnfkbjgijelfdaaGreat
open Go.RowKit

/-- Places as cells: of each whether it is a component's, and its node. -/
def flatS (os : List (Option Int)) : List Value := os.flatMap fun o => [.bool o.isNone, .int .i64 (o.getD 0)]
theorem flatS_append (a b : List (Option Int)) : flatS (a ++ b) = flatS a ++ flatS b := List.flatMap_append
theorem flatS_len (os : List (Option Int)) : (flatS os).length = os.length * 2 := by
  induction os with
  | nil => rfl
  | cons o os ih =>
    have e : flatS (o :: os) = [.bool o.isNone, .int .i64 (o.getD 0)] ++ flatS os := rfl
    rw [e, List.length_append, ih]; simp; omega
theorem slot_info : (Tryz.prog.info? 45).map (fun i => (i.zero, i.size, i.bytes)) = some (some (.agg #[.bool false, .int .i64 0]), 2, 16) := by kernel_rfl
theorem intsSl_info : (Tryz.prog.info? 22).map (fun i => (i.zero, i.size, i.bytes)) = some (some (.slice none 0 0), 1, 24) := by kernel_rfl
theorem nil_eq (W : World) : (binOp .eql 103 .nilIface .nilIface).run Tryz.prog W = .ok (.bool true) W := by kernel_rfl
theorem node_eq (x : Int) (W : World) : (binOp .eql 103 (.iface 133 (.int .i64 x)) .nilIface).run Tryz.prog W = .ok (.bool false) W := by kernel_rfl
theorem err_eq (W : World) : (binOp .eql 83 .nilIface .nilIface).run Tryz.prog W = .ok (.bool true) W := by kernel_rfl
theorem err_ne (v : Value) (W : World) : (binOp .eql 83 (.iface 145 v) .nilIface).run Tryz.prog W = .ok (.bool false) W := by first | kernel_rfl | rfl
theorem assert_U (a : Option Addr) (n c : Nat) (w : World) : (Instr.typeAssert (.iface 145 (.slice a n c)) 83 145 true).run Tryz.prog w = .ok (.tuple #[.slice a n c, .bool true]) w := by first | kernel_rfl | rfl

/-- The error of an order: the components. -/
def ErrV (w : World) (v : Value) (ls : List (List Int)) : Prop :=
  (ls = [] ∧ v = .nilIface) ∨ (ls ≠ [] ∧ ∃ a c, v = .iface 145 (.slice a ls.length c) ∧ RdNL w a ls.length ls)

def SlotsPost (os : List (Option Int)) (ls : List (List Int)) (w : World) (e : Ending) (w' : World) : Prop :=
  ∃ vO vC vs, e = .returned (.tuple #[vO, vC, .bool ls.isEmpty]) ∧ w'.ownsRow w.heap.size 45 2 vO os.length (flatS os) ∧ LolI w' w.heap.size vC vs ls ∧ Below w.heap.size w w'

theorem flatS_take {os : List (Option Int)} {k : Nat} {o : Option Int} (h : os[k]? = some o) : flatS (os.take (k + 1)) = flatS (os.take k) ++ [.bool o.isNone, .int .i64 (o.getD 0)] := by
  obtain ⟨h1, rfl⟩ := List.getElem?_eq_some_iff.1 h
  rw [List.take_succ_eq_append_getElem h1, flatS_append]; rfl

set_option maxHeartbeats 4000000 in
set_option maxRecDepth 100000 in
theorem slots_calls (B : Nat) (a : Option Addr) (n c : Nat) (os : List (Option Int)) (vE : Value) (ls : List (List Int)) (w : World) (ho : w.ownsRow B 103 1 (.slice a n c) n (os.map encO)) (hE : ErrV w vE ls) (hn : n ≤ 1000) (hls : ls.length ≤ 1000) (hlm : ∀ l ∈ ls, l.length ≤ 1000) :
    Calls Tryz.prog 50 #[.slice a n c, vE] w (SlotsPost os ls w) := by
  have hol : os.length = n := by have := ho.1; simpa using this
  have HO := Lib.hid ho; have HE := Lib.hid hE; have HOL := Lib.hid hol; have HLM := Lib.hid hlm
  clear ho hE hol hlm
  obtain ⟨j0, hj0, hy0, hy1, hy2⟩ := info_parts slot_info
  have HJ := Lib.hid (And.intro hj0 (And.intro hy0 (And.intro hy1 hy2)))
  obtain ⟨i0, hi0, hz0, hz1, hz2⟩ := info_parts intsSl_info
  have HI := Lib.hid (And.intro hi0 (And.intro hz0 (And.intro hz1 hz2)))
  clear hj0 hy0 hy1 hy2 hi0 hz0 hz1 hz2
  have m1 := nil_eq; have m2 := node_eq; have m3 := err_eq; have m4 := err_ne
  go_enter Tryz.func50, Tryz.ntmps50
  go_wp2_with fail
  go_loopw [4, 15] (fun v i wr => ∃ k : Nat, k ≤ n ∧ i = .int .i64 k ∧ wr.ownsRow w.heap.size 45 2 v k (flatS (os.take k)) ∧ Below w.heap.size w wr) (fun _ i _ => n - (intOf i).toNat)
  case atStart => exact ⟨0, by omega, rfl, World.ownsRow_nil _ _ _ _, Below.refl _ _⟩
  case round =>
    obtain ⟨k, hk, rfl, hos, hb⟩ := hrel
    obtain ⟨aO, cO, rfl⟩ := own_shape' hos
    have HOS := Lib.hid hos; have HB := Lib.hid hb
    have hszr := hb.size
    by_cases hlt : k < n
    · obtain ⟨o, hoo⟩ : ∃ o, os[k]? = some o := ⟨_, List.getElem?_eq_getElem (by have := HOL.out; omega)⟩
      obtain ⟨g, c', e, hg0, hg1, -⟩ := own_form HO.out (by omega)
      simp only [Value.slice.injEq, true_and] at e
      obtain ⟨rfl, rfl⟩ := e
      have hq := (hb.cell (p := ⟨g, k, none⟩) hg1).trans (own_at HO.out (i := k) (u := encO o) (by rw [List.getElem?_map, hoo]; rfl)).1
      have HT := Lib.hid (flatS_take hoo)
      have hgr : g < wr.heap.size := by omega
      obtain ⟨hj0, hy0, hy1, hy2⟩ := HJ.out
      clear hos hb hoo
      cases o with
      | none =>
        replace hq : wr.cell? ⟨g, k, none⟩ = some .nilIface := hq
        go_wp2_with (at_builtin; refine wpList_append_own_at _ rfl _ _ 34 rfl w.heap.size 45 j0 (.agg #[.bool false, .int .i64 0]) 2 16 Tryz.underlying34 hj0 hy0 hy1 hy2 rfl (by decide) (.slice aO k cO) k (flatS (os.take k)) rfl (HOS.out.alloc _) ⟨wr.heap.size, 0, none⟩ 1 1 [.bool true, .int .i64 0] rfl rfl ?c1 ?c2 ?c3 ?c4 ?c5 ?_)
        case c1 => exact World.news_of_block (cs := #[.bool true, .int .i64 0]) (t := 45) (fr := (0, 0)) (heap_alloc_new wr _)
        case c2 => intro u hu; simp at hu; rcases hu with rfl | rfl <;> rfl
        case c3 => unfold maxLen; omega
        case c4 => omega
        case c5 => simp; omega
        intro v4 w4 hown4 hgrow4 _ _
        obtain ⟨a4, c4, rfl⟩ := own_shape' hown4
        have HB4 : Hid (Below w.heap.size w w4) := Lib.hid ((HB.out.alloc hszr _).grown hgrow4 (by simp; omega) (fun j hj => (HOS.out.lt j hj).1))
        have HO4 : Hid (w4.ownsRow w.heap.size 45 2 (.slice a4 (k + 1) c4) (k + 1) (flatS (os.take (k + 1)))) := Lib.hid (by rw [HT.out]; exact hown4)
        clear hown4 hgrow4 hq
        go_wp2_with fail
        go_roundw
        case rel => exact ⟨k + 1, by omega, by go_num, HO4.out, HB4.out⟩
        case measure => simp [intOf]; omega
      | some x =>
        replace hq : wr.cell? ⟨g, k, none⟩ = some (.iface 133 (.int .i64 x)) := hq
        go_wp2_with fail
        refine (number_calls x wr).mono ?_
        rintro e w' ⟨rfl, rfl⟩
        go_wp2_with (at_builtin; refine wpList_append_own_at _ rfl _ _ 34 rfl w.heap.size 45 j0 (.agg #[.bool false, .int .i64 0]) 2 16 Tryz.underlying34 hj0 hy0 hy1 hy2 rfl (by decide) (.slice aO k cO) k (flatS (os.take k)) rfl (HOS.out.alloc _) ⟨wr.heap.size, 0, none⟩ 1 1 [.bool false, .int .i64 x] rfl rfl ?d1 ?d2 ?d3 ?d4 ?d5 ?_)
        case d1 => exact World.news_of_block (cs := #[.bool false, .int .i64 x]) (t := 45) (fr := (0, 0)) (heap_alloc_new wr _)
        case d2 => intro u hu; simp at hu; rcases hu with rfl | rfl <;> rfl
        case d3 => unfold maxLen; omega
        case d4 => omega
        case d5 => simp; omega
        intro v4 w4 hown4 hgrow4 _ _
        obtain ⟨a4, c4, rfl⟩ := own_shape' hown4
        have HB4 : Hid (Below w.heap.size w w4) := Lib.hid ((HB.out.alloc hszr _).grown hgrow4 (by simp; omega) (fun j hj => (HOS.out.lt j hj).1))
        have HO4 : Hid (w4.ownsRow w.heap.size 45 2 (.slice a4 (k + 1) c4) (k + 1) (flatS (os.take (k + 1)))) := Lib.hid (by rw [HT.out]; exact hown4)
        clear hown4 hgrow4 hq
        go_wp2_with fail
        go_roundw
        case rel => exact ⟨k + 1, by omega, by go_num, HO4.out, HB4.out⟩
        case measure => simp [intOf]; omega
    · obtain rfl : k = n := by omega
      have HOS' : Hid (wr.ownsRow w.heap.size 45 2 (.slice aO k cO) k (flatS os)) := Lib.hid (by
        have h := hos
        rw [List.take_of_length_le (by have := HOL.out; omega)] at h
        exact h)
      clear hos hb HOS
      rcases HE.out with ⟨h1, rfl⟩ | ⟨h1, aC, cC, rfl, h2⟩
      · have HN := Lib.hid h1
        clear h1
        go_wp2_with fail
        refine bodyPost_ret (v := .tuple #[.slice aO k cO, .slice none 0 0, .bool true]) (by simp [results, Tryz.results50, go_sem]) rfl ?_
        exact ⟨_, _, [], by rw [HN.out]; rfl, by rw [HOL.out]; exact HOS'.out, by rw [HN.out]; exact LolG.nil _ _, HB.out⟩
      · have HNE := Lib.hid h1
        obtain ⟨m, hm⟩ : ∃ m, m = ls.length := ⟨_, rfl⟩
        rw [← hm] at h2 hls ⊢
        have HRD := Lib.hid (h2.below HB.out (Nat.le_refl _))
        have HM := Lib.hid hm
        have m5 := assert_U aC m cC
        clear h1 h2 hm
        obtain ⟨wo, rfl⟩ : ∃ wo : World, wo = wr := ⟨_, rfl⟩
        go_wp2_with fail
        go_loopw [5, 42] (fun v i wq => ∃ (q : Nat) (vs2 : List Value), q ≤ m ∧ i = .int .i64 q ∧ LolI wq wo.heap.size v vs2 (ls.take q) ∧ Below wo.heap.size wo wq) (fun _ i _ => m - (intOf i).toNat)
        case atStart => exact ⟨0, [], by omega, rfl, LolG.nil _ _, Below.refl _ _⟩
        case round =>
          obtain ⟨q, vs2, hq, rfl, ho, hb⟩ := hrel
          have hln : (ls.take q).length = q := by rw [List.length_take]; have := HM.out; omega
          have HLN := Lib.hid hln
          clear hln
          have hor := ho.row
          rw [HLN.out] at hor
          obtain ⟨a1, c1, rfl⟩ := own_shape' hor
          clear hor
          have HQ := Lib.hid ho; have HBQ := Lib.hid hb
          have hszq := hb.size
          clear ho
          by_cases hltq : q < m
          · obtain ⟨b, off, rfl, hbb, hc⟩ := HRD.out.at_ (by omega)
            obtain ⟨aj, cj, l, HLJ, hcell, hrn⟩ := hc q hltq
            have hck := (hb.cell (p := ⟨b, off + q, none⟩) hbb).trans hcell
            have hbr : b < wr.heap.size := by omega
            have HRN := Lib.hid (hrn.below hb (Nat.le_refl _))
            have hlm := HLM.out l (List.mem_of_getElem? HLJ.out)
            obtain ⟨lj, hlj⟩ : ∃ lj, lj = l.length := ⟨_, rfl⟩
            have HLL := Lib.hid hlj
            rw [← hlj] at hck HRN hlm
            clear hc hcell hrn hb hlj
            go_wp2_with fail
            refine (numbersR_calls aj lj cj l wr HRN.out (by omega)).mono ?_
            rintro e w5 ⟨v5, rfl, ho5, hb5⟩
            rw [← HLL.out] at ho5
            obtain ⟨a3, c3, rfl⟩ := own_shape' ho5
            have HO5 := Lib.hid ho5; have HB5 := Lib.hid hb5
            clear ho5 hb5
            have HL5 : Hid (LolI w5 wo.heap.size (.slice a1 q c1) vs2 (ls.take q)) := Lib.hid (HQ.out.of_heap (fun j hj => HB5.out.block j (HQ.out.lt hj).2))
            obtain ⟨hi0, hz0, hz1, hz2⟩ := HI.out
            have hsm : (q + 1) * 24 ≤ 140737488355328 := by omega
            have hs5 := HB5.out.size
            have HRW : Hid (w5.ownsRow wo.heap.size 22 1 (.slice a1 q c1) q vs2) := Lib.hid (by have h := HL5.out.row; rw [HLN.out] at h; exact h)
            go_wp2_with (at_builtin; refine wpList_append_own_at _ rfl _ _ 28 rfl wo.heap.size 22 i0 (.slice none 0 0) 1 24 Tryz.underlying28 hi0 hz0 hz1 hz2 rfl (by decide) (.slice a1 q c1) q vs2 rfl (HRW.out.alloc _) ⟨w5.heap.size, 0, none⟩ 1 1 [.slice a3 lj c3] rfl rfl ?g1 ?g2 ?g3 ?g4 ?g5 ?_)
            case g1 => intro j u hj; match j, hj with | 0, hj => simp at hj; subst hj; simp [Addr.add]
            case g2 => intro u hu; simp at hu; subst hu; rfl
            case g3 => unfold maxLen; omega
            case g4 => exact hsm
            case g5 => simp; omega
            intro v' w' hown' hgrow _ hloc
            obtain ⟨a', c', rfl⟩ := own_shape' hown'
            have hfr : Fresh w5 (.slice a1 q c1) (.slice a' (q + 1) c') := hloc.imp id fun h g hg => by rw [h] at hg; have := Option.some.inj hg; omega
            have HL' : Hid (LolI w' wo.heap.size (.slice a' (q + 1) c') (vs2 ++ [.slice a3 lj c3]) (ls.take q ++ [l])) := Lib.hid
              (HL5.out.more (by rw [← HLL.out]; exact own_lower HO5.out (by omega)) (fun g hg hj => by have h1 := (HO5.out.lt g hg).1; have h2 := (HQ.out.lt hj).2; omega) (by rw [HLN.out]; exact hown') (fun j h1 h2 => by rw [hgrow.block j (by simp; omega) h2]; exact heap_alloc_old _ _ h1) hfr)
            have HB' : Hid (Below wo.heap.size wo w') := Lib.hid (((HBQ.out.trans (HB5.out.mono hszq)).alloc (by omega) _).grown hgrow (by simp; omega) (fun j hj => (HRW.out.lt j hj).1))
            have HTK : Hid (ls.take (q + 1) = ls.take q ++ [l]) := Lib.hid (by
              obtain ⟨h1, h2⟩ := List.getElem?_eq_some_iff.1 HLJ.out
              rw [List.take_succ_eq_append_getElem h1, h2])
            clear hown' hgrow hfr hloc
            go_wp2
            go_roundw
            case rel => exact ⟨q + 1, _, by omega, by go_num, by rw [HTK.out]; exact HL'.out, HB'.out⟩
            case measure => simp [intOf]; omega
          · obtain rfl : q = m := by omega
            have HLF : Hid (LolI wr wo.heap.size (.slice a1 q c1) vs2 ls) := Lib.hid (by
              have h := HQ.out
              rw [List.take_of_length_le (by have := HM.out; omega)] at h
              exact h)
            have HOF : Hid (wr.ownsRow w.heap.size 45 2 (.slice aO k cO) k (flatS os)) := Lib.hid (ownsRow_of_heap HOS'.out (fun g hg => hb.block g (HOS'.out.lt g hg).2))
            clear hb
            go_wp2_with fail
            refine bodyPost_ret (v := .tuple #[.slice aO k cO, .slice a1 q c1, .bool false]) (by simp [results, Tryz.results50, go_sem]) rfl ?_
            have hne : ls.isEmpty = false := by cases hl : ls with | nil => exact absurd hl HNE.out | cons => rfl
            exact ⟨_, _, vs2, by rw [hne], by rw [HOL.out]; exact HOF.out, HLF.out.lower hszr, HB.out.trans (HBQ.out.mono hszr)⟩
end Go.Proofs.YtnfkbjgijelfdaaGreat
namespace Go.Proofs.YtnfkbjgijelfdaaGreat
open Go.RowKit

set_option maxHeartbeats 1000000 in
theorem tarjanSCC_calls {t : TypeId} {recv : Value} {fNs fFr : FuncId} {G : World → Prop} {ids : List Int} {adj : Int → List Int} (hA : GraphO t recv fNs fFr G ids adj) (w : World) (hg : G w) (hwf : ∀ y ∈ ids, (Lit.int .i64 y).wf = true) (hadj : ∀ a, ∀ b ∈ adj a, b ∈ ids) (hdeg : ∀ a, (adj a).length ≤ 1000) (hids : ids.length ≤ 1000) :
    Calls Tryz.prog 42 #[.iface t recv] w (TarPost adj ids w) := by
  have HC := Lib.hid (tarjan0_calls hA w hg hwf hadj hdeg hids)
  clear hA hg hwf hadj hdeg hids
  go_enter Tryz.func42, Tryz.ntmps42
  go_wp2_with fail
  refine HC.out.mono ?_
  rintro e w1 ⟨v, vs, s, rfl, hr, hl, hb⟩
  have HR := Lib.hid hr; have HL := Lib.hid hl; have HB := Lib.hid hb
  clear hr hl hb
  go_wp2_with fail
  go_ret
  exact ⟨v, vs, s, rfl, HR.out, HL.out, HB.out⟩

theorem intsS_info : (Tryz.prog.info? 22).map (fun i => (i.zero, i.size, i.bytes)) = some (some (.slice none 0 0), 1, 24) := by kernel_rfl

def SCCPost (ns : List Int) (es : List (Int × Int × Int)) (w : World) (e : Ending) (w' : World) : Prop :=
  ∃ v vs s, e = .returned (.tuple #[v, .bool false]) ∧ TRun (adjD ns es) TS.start (sortI ns) s ∧ LolI w' w.heap.size v vs (s.sccs.map sortI) ∧ Below w.heap.size w w'

set_option maxHeartbeats 4000000 in
theorem implSCC_calls (an ae : Option Addr) (n cn m ce : Nat) (ns : List Int) (es : List (Int × Int × Int)) (w : World) (hn : RdI w an n ns) (hr : RdE w ae m es) (hn8 : n ≤ 1000) (hwf : ∀ x ∈ ns, (Lit.int .i64 x).wf = true)
    (hw : wellB ns es = true) :
    Calls Tryz.prog 10 #[.agg #[.bool true, .slice an n cn, .slice ae m ce]] w (SCCPost ns es w) := by
  have HR := Lib.hid hr; clear hr
  have HN := Lib.hid hn; clear hn
  have HW := Lib.hid hw; clear hw
  have HWF2 : Hid (∀ x ∈ sortI ns, (Lit.int .i64 x).wf = true) := Lib.hid (fun x hx => hwf x (mem_sortI.1 hx))
  clear hwf
  have HNL : Hid (ns.length ≤ 1000) := Lib.hid (by have := HN.out.len; omega)
  obtain ⟨i0, hi0, hz0, hz1, hz2⟩ := info_parts intsS_info
  have HI := Lib.hid (And.intro hi0 (And.intro hz0 (And.intro hz1 hz2)))
  clear hi0 hz0 hz1 hz2
  go_enter Tryz.func10, Tryz.ntmps10
  go_wp2_with fail
  obtain ⟨w1, hw1⟩ : ∃ w1, w1 = w.alloc (.cells #[.bool true, .slice an n cn, .slice ae m ce] 25) := ⟨_, rfl⟩
  have HB1 : Hid (Below w.heap.size w w1) := by rw [hw1]; exact (Below.refl _ _).alloc (Nat.le_refl _) _
  rw [← hw1]
  clear hw1
  refine (oneWay_calls true an ae n cn m ce ns es w1 (HN.out.below HB1.out (Nat.le_refl _)) (HR.out.below HB1.out (Nat.le_refl _)) (by omega)).mono ?_
  rintro e w2 ⟨hb, bp, rfl, hst⟩
  have HB2 := Lib.hid (HB1.out.trans (hb.mono HB1.out.size))
  have HG2 := Lib.hid (hst HW.out)
  have HGO : Hid (GraphO 72 (.agg #[.pointer (some ⟨bp, 0, none⟩)]) 217 215 (Gr bp (sortI ns) (rowsFrom true (sortI ns) es).1 (rowsFrom true (sortI ns) es).2) (sortI ns) (adjD ns es)) := Lib.hid (dGraphO_of HW.out)
  rw [show (wellB ns es && (true == true)) = true by rw [HW.out]; rfl]
  clear hb hst
  go_wp2_with fail
  obtain ⟨w3, hw3⟩ : ∃ w3, w3 = w2.alloc (.cells #[.pointer (some ⟨bp, 0, none⟩)] 72) := ⟨_, rfl⟩
  have HB3 : Hid (Below w2.heap.size w2 w3) := Lib.hid (by rw [hw3]; exact (Below.refl _ _).alloc (Nat.le_refl _) _)
  have HG3 := Lib.hid (HG2.out.later HB3.out)
  have HB3w : Hid (Below w.heap.size w w3) := Lib.hid (HB2.out.trans (HB3.out.mono HB2.out.size))
  rw [← hw3]
  clear hw3 HB2 HB3 HG2
  refine (tarjanSCC_calls HGO.out w3 HG3.out HWF2.out adjD_sub (fun a => Nat.le_trans (adjD_len a) HNL.out) (by rw [sortI_len]; exact HNL.out)).mono ?_
  rintro e w4 ⟨v0, vs, s, rfl, hrun, hL, hb4⟩
  have hfin := hrun.fin adjD_sub (fun _ => Iff.rfl)
  have hfl : s.sccs.flatten.length ≤ (sortI ns).length := nodup_lenT hfin.nd (fun x hx => (hfin.mem x).1 hx)
  have hsl : s.sccs.length ≤ 1000 := by
    have h1 := len_flatten hfin.ne
    rw [sortI_len] at hfl; have := HNL.out; omega
  have HPL : Hid (∀ p ∈ s.sccs, p.length ≤ 1000000) := Lib.hid (fun p hp => by
    have h1 := List.Sublist.length_le (List.sublist_flatten_of_mem hp)
    rw [sortI_len] at hfl; have := HNL.out; omega)
  have HRUN := Lib.hid hrun
  obtain ⟨ps, hps⟩ : ∃ ps, ps = s.sccs := ⟨_, rfl⟩
  rw [← hps] at hL hsl HPL
  have HPS := Lib.hid hps
  obtain ⟨a0, c0, rfl⟩ := own_shape' hL.row
  have HL := Lib.hid hL
  have HB4 := Lib.hid (HB3w.out.trans (hb4.mono HB3w.out.size))
  have hs34 := hb4.size
  clear hrun hfin hfl hL hb4 hps HB3w HG3
  go_wp2_with fail
  go_loopw [2, 20] (fun v i wr => ∃ (k : Nat) (vs2 : List Value), k ≤ ps.length ∧ i = .int .i64 k ∧ LolI wr w4.heap.size v vs2 ((ps.take k).map sortI) ∧ Below w4.heap.size w4 wr) (fun _ i _ => ps.length - (intOf i).toNat)
  case atStart => exact ⟨0, [], by omega, rfl, LolG.nil _ _, Below.refl _ _⟩
  case round =>
    obtain ⟨k, vs2, hk, rfl, ho, hb⟩ := hrel
    have hln : ((ps.take k).map sortI).length = k := by simp; omega
    have HLN := Lib.hid hln
    clear hln
    have hor := ho.row
    rw [HLN.out] at hor
    obtain ⟨a1, c1, rfl⟩ := own_shape' hor
    clear hor
    have HO := Lib.hid ho; have HB := Lib.hid hb
    have hszr := hb.size
    clear ho
    by_cases hlt : k < ps.length
    · obtain ⟨g, cap, he, hg0, hg1, -⟩ := own_form HL.out.row (by omega)
      simp only [Value.slice.injEq, true_and] at he
      obtain ⟨rfl, rfl⟩ := he
      have hvl := HL.out.len
      obtain ⟨u, hu⟩ : ∃ u, vs[k]? = some u := ⟨vs[k]'(by omega), List.getElem?_eq_getElem (by omega)⟩
      obtain ⟨p, hp⟩ : ∃ p, ps[k]? = some p := ⟨ps[k], List.getElem?_eq_getElem hlt⟩
      have hpo := HL.out.rows k u p hu hp
      obtain ⟨a2, c2, rfl⟩ := own_shape' hpo
      have hcz := (own_at HL.out.row hu).1
      have hck := (hb.cell (p := ⟨g, k, none⟩) hg1).trans hcz
      have hbr : g < wr.heap.size := by omega
      have HP := Lib.hid hp
      have HPO := Lib.hid (RdN.of_own (ownsRow_of_heap (w' := wr) hpo (fun g' hg' => hb.block g' (hpo.lt g' hg').2)))
      have hpm : p.length ≤ 1000000 := HPL.out p (List.mem_of_getElem? hp)
      clear hcz hb hu hp hpo
      go_wp2_with fail
      refine (numbersR_calls a2 p.length c2 p wr HPO.out hpm).mono ?_
      rintro e w5 ⟨v2, rfl, hv2, hb2⟩
      have HV2 := Lib.hid hv2
      obtain ⟨a3, c3, rfl⟩ := own_shape' hv2
      have HB5 := Lib.hid hb2
      clear hv2 hb2
      go_wp2_with fail
      refine (sortInt_calls wr.heap.size _ _ p w5 HV2.out (by omega)).mono ?_
      rintro e w6 ⟨rfl, ho3, hg3⟩
      have HO3 := Lib.hid ho3
      have HB6 : Hid (Below wr.heap.size wr w6) := Lib.hid (HB5.out.grown hg3 (HB5.out.size) (fun j hj => (HV2.out.lt j hj).1))
      clear ho3 hg3
      have HL3 : Hid (LolI w6 w4.heap.size (.slice a1 k c1) vs2 ((ps.take k).map sortI)) := Lib.hid (HO.out.of_heap (fun j hj => HB6.out.block j (HO.out.lt hj).2))
      obtain ⟨hi0, hz0, hz1, hz2⟩ := HI.out
      have hsm : (k + 1) * 24 ≤ 140737488355328 := by omega
      have hs3 := HB6.out.size
      have HRW : Hid (w6.ownsRow w4.heap.size 22 1 (.slice a1 k c1) k vs2) := Lib.hid (by have h := HL3.out.row; rw [HLN.out] at h; exact h)
      go_wp2_with (at_builtin; refine wpList_append_own_at _ rfl _ _ 28 rfl w4.heap.size 22 i0 (.slice none 0 0) 1 24 Tryz.underlying28 hi0 hz0 hz1 hz2 rfl (by decide) (.slice a1 k c1) k vs2 rfl (HRW.out.alloc _) ⟨w6.heap.size, 0, none⟩ 1 1 [.slice a3 p.length c3] rfl rfl ?c1 ?c2 ?c3 ?c4 ?c5 ?_)
      case c1 => intro j u hj; match j, hj with | 0, hj => simp at hj; subst hj; simp [Addr.add]
      case c2 => intro u hu; simp at hu; subst hu; rfl
      case c3 => unfold maxLen; omega
      case c4 => exact hsm
      case c5 => simp; omega
      intro v' w' hown' hgrow _ hloc
      obtain ⟨a', c', rfl⟩ := own_shape' hown'
      have hfr : Fresh w6 (.slice a1 k c1) (.slice a' (k + 1) c') := hloc.imp id fun h g hg => by rw [h] at hg; have := Option.some.inj hg; omega
      have hsl : (sortI p).length = p.length := sortI_len p
      have HL' : Hid (LolI w' w4.heap.size (.slice a' (k + 1) c') (vs2 ++ [.slice a3 p.length c3]) ((ps.take k).map sortI ++ [sortI p])) := Lib.hid
        (HL3.out.more (by rw [hsl]; exact own_lower HO3.out (by omega)) (fun g hg hj => by have h1 := (HO3.out.lt g hg).1; have h2 := (HO.out.lt hj).2; omega) (by rw [HLN.out]; exact hown') (fun j h1 h2 => by rw [hgrow.block j (by simp; omega) h2]; exact heap_alloc_old _ _ h1) hfr)
      have HB' : Hid (Below w4.heap.size w4 w') := Lib.hid (((HB.out.trans (HB6.out.mono hszr)).alloc (by omega) _).grown hgrow (by simp; omega) (fun j hj => (HRW.out.lt j hj).1))
      clear hown' hgrow hfr hloc hsl
      go_wp2
      go_roundw
      case rel =>
        refine ⟨k + 1, vs2 ++ [.slice a3 p.length c3], by omega, by go_num, ?_, HB'.out⟩
        have e2 : (ps.take (k + 1)).map sortI = (ps.take k).map sortI ++ [sortI p] := by
          rw [List.take_succ_eq_append_getElem hlt, List.map_append]
          have := (List.getElem?_eq_some_iff.1 HP.out).2; simp [this]
        rw [e2]; exact HL'.out
      case measure => simp [intOf]; omega
    · obtain rfl : k = ps.length := by omega
      have e3 : (ps.take ps.length).map sortI = ps.map sortI := by rw [List.take_length]
      rw [e3] at HO HLN
      go_wp2_with fail
      refine bodyPost_ret (v := .tuple #[.slice a1 ps.length c1, .bool false]) (by simp [results, Tryz.results10, go_sem]) rfl ?_
      exact ⟨_, vs2, s, rfl, HRUN.out, by rw [← HPS.out]; exact HO.out.lower HB4.out.size, HB4.out.trans (HB.out.mono HB4.out.size)⟩
end Go.Proofs.YtnfkbjgijelfdaaGreat
namespace Go.Proofs.YtnfkbjgijelfdaaGreat
open Go.RowKit

/-- What a sorted order is: the components' places, the last component first, and the cyclic ones. -/
def TSPost (adj : Int → List Int) (nl : List Int) (srt : List Int → List Int) (w : World) (e : Ending) (w' : World) : Prop :=
  ∃ (aO : Option Addr) (cO : Nat) (vE : Value) (s : TS), e = .returned (.tuple #[.slice aO s.sccs.length cO, vE]) ∧ TRun adj TS.start nl s ∧ w'.ownsRow w.heap.size 103 1 (.slice aO s.sccs.length cO) s.sccs.length ((s.sccs.map slotO).reverse.map encO) ∧
    ErrV w' vE ((cycs s.sccs).map srt).reverse ∧ Below w.heap.size w w'

theorem ErrV.of {w : World} {ss : List (List Int)} {srt : List Int → List Int} {vE : Value} (h : (cycs ss = [] ∧ vE = .nilIface) ∨ (cycs ss ≠ [] ∧ ∃ a c, vE = .iface 145 (.slice a (cycs ss).length c) ∧ RdNL w a (cycs ss).length (((cycs ss).map srt).reverse))) :
    ErrV w vE ((cycs ss).map srt).reverse := by
  rcases h with ⟨h1, h2⟩ | ⟨h1, a, c, h2, h3⟩
  · exact .inl ⟨by rw [h1]; rfl, h2⟩
  · have e : (((cycs ss).map srt).reverse).length = (cycs ss).length := by simp
    exact .inr ⟨fun h => h1 (by simpa using h), a, c, by rw [e]; exact h2, by rw [e]; exact h3⟩

set_option maxHeartbeats 2000000 in
theorem topoSort_calls {t : TypeId} {recv : Value} {fNs fFr : FuncId} {G : World → Prop} {ids : List Int} {adj : Int → List Int} (hA : GraphO t recv fNs fFr G ids adj) (w : World) (hg : G w) (hwf : ∀ y ∈ ids, (Lit.int .i64 y).wf = true) (hadj : ∀ a, ∀ b ∈ adj a, b ∈ ids) (hdeg : ∀ a, (adj a).length ≤ 1000) (hids : ids.length ≤ 1000) :
    Calls Tryz.prog 49 #[.iface t recv] w (TSPost adj ids sortI w) := by
  have HC := Lib.hid (tarjanSCC_calls hA w hg hwf hadj hdeg hids)
  have HADJ := Lib.hid hadj; have HIDS := Lib.hid hids
  clear hA hg hwf hadj hdeg hids
  go_enter Tryz.func49, Tryz.ntmps49
  go_wp2_with fail
  refine HC.out.mono ?_
  rintro e w1 ⟨v, vs, s, rfl, hr, hl, hb⟩
  have hf := hr.fin HADJ.out (fun _ => Iff.rfl)
  have HR := Lib.hid hr; have HB := Lib.hid hb; have HL := Lib.hid hl
  have HSF := Lib.hid (sortedFrom_calls (lexOrder w1 w.heap.size ids) w.heap.size v vs s.sccs w1 hl hf.ne hf.nd (fun x hx => (hf.mem x).1 hx) HIDS.out (Nat.le_refl _) (Below.refl _ _))
  clear hr hl hb hf
  go_wp2_with fail
  refine HSF.out.mono ?_
  rintro e w2 ⟨vO, vE, rfl, ho, hE, hf⟩
  obtain ⟨aO, cO, rfl⟩ := own_shape' ho
  have HB2 : Hid (Below w.heap.size w w2) := Lib.hid (HB.out.trans (hf.below (fun j hj => (HL.out.lt hj).1) HB.out.size))
  have HO := Lib.hid ho; have HE := Lib.hid hE
  clear ho hE hf HSF
  go_wp2_with fail
  refine bodyPost_ret (v := .tuple #[.slice aO s.sccs.length cO, vE]) (by simp [results, Tryz.results49, go_sem]) rfl ?_
  exact ⟨_, _, _, s, rfl, HR.out, own_lower HO.out HB.out.size, ErrV.of HE.out, HB2.out⟩

theorem func_nil_eq (W : World) : (binOp .eql 106 .nilFunc .nilFunc).run Tryz.prog W = .ok (.bool true) W := by kernel_rfl

set_option maxHeartbeats 2000000 in
theorem topoSortStab_calls {t : TypeId} {recv : Value} {fNs fFr : FuncId} {G : World → Prop} {ids : List Int} {adj : Int → List Int} (hA : GraphO t recv fNs fFr G ids adj) (w : World) (hg : G w) (hwf : ∀ y ∈ ids, (Lit.int .i64 y).wf = true) (hadj : ∀ a, ∀ b ∈ adj a, b ∈ ids) (hdeg : ∀ a, (adj a).length ≤ 1000) (hids : ids.length ≤ 1000) :
    Calls Tryz.prog 51 #[.iface t recv, .nilFunc] w (TSPost (fun x => (sortI (adj x)).reverse) (sortI ids).reverse sortI w) := by
  have HC := Lib.hid (tarjan1_calls hA w (lexOrder w w.heap.size ids) hg hwf hadj hdeg hids)
  have HADJ : Hid (∀ a, ∀ b ∈ (sortI (adj a)).reverse, b ∈ ids) := Lib.hid (fun a b hb => hadj a b (mem_sortI.1 (List.mem_reverse.1 hb)))
  have HIDS := Lib.hid hids
  have heq := func_nil_eq
  clear hA hg hwf hadj hdeg hids
  go_enter Tryz.func51, Tryz.ntmps51
  go_wp2_with fail
  refine HC.out.mono ?_
  rintro e w1 ⟨v, vs, s, rfl, hr, hl, hb⟩
  have hf := hr.fin (ids := ids) HADJ.out (fun x => by rw [List.mem_reverse, mem_sortI])
  have HR := Lib.hid hr; have HB := Lib.hid hb; have HL := Lib.hid hl
  have HSF := Lib.hid (sortedFrom_calls (lexOrder w1 w.heap.size ids) w.heap.size v vs s.sccs w1 hl hf.ne hf.nd (fun x hx => (hf.mem x).1 hx) HIDS.out (Nat.le_refl _) (Below.refl _ _))
  clear hr hl hb hf
  go_wp2_with fail
  refine HSF.out.mono ?_
  rintro e w2 ⟨vO, vE, rfl, ho, hE, hf⟩
  obtain ⟨aO, cO, rfl⟩ := own_shape' ho
  have HB2 : Hid (Below w.heap.size w w2) := Lib.hid (HB.out.trans (hf.below (fun j hj => (HL.out.lt hj).1) HB.out.size))
  have HO := Lib.hid ho; have HE := Lib.hid hE
  clear ho hE hf HSF
  go_wp2_with fail
  refine bodyPost_ret (v := .tuple #[.slice aO s.sccs.length cO, vE]) (by simp [results, Tryz.results51, go_sem]) rfl ?_
  exact ⟨_, _, _, s, rfl, HR.out, own_lower HO.out HB.out.size, ErrV.of HE.out, HB2.out⟩

/-- What Sort answers. -/
def SIPost (adj : Int → List Int) (nl : List Int) (srt : List Int → List Int) (w : World) (e : Ending) (w' : World) : Prop :=
  ∃ (aO aC : Option Addr) (cO cC : Nat) (vs : List Value) (s : TS), e = .returned (.tuple #[.slice aO s.sccs.length cO, .slice aC (cycs s.sccs).length cC, .bool (cycs s.sccs).isEmpty, .bool false]) ∧ TRun adj TS.start nl s ∧
    w'.ownsRow w.heap.size 45 2 (.slice aO s.sccs.length cO) s.sccs.length (flatS (s.sccs.map slotO).reverse) ∧ LolI w' w.heap.size (.slice aC (cycs s.sccs).length cC) vs ((cycs s.sccs).map srt).reverse ∧ Below w.heap.size w w'

theorem cycs_len {ids : List Int} {adj : Int → List Int} {s : TS} (h : TFin ids adj s) {srt : List Int → List Int} (hp : ∀ l, (srt l).length = l.length) : s.sccs.length ≤ ids.length ∧ (((cycs s.sccs).map srt).reverse).length ≤ ids.length ∧ ∀ l ∈ ((cycs s.sccs).map srt).reverse, l.length ≤ ids.length := by
  have h1 := nodup_lenT h.nd (fun x hx => (h.mem x).1 hx)
  have h2 := len_flatten h.ne
  refine ⟨by omega, ?_, fun l hl => ?_⟩
  · rw [List.length_reverse, List.length_map]
    have := List.length_filter_le cyB s.sccs
    unfold cycs; omega
  · obtain ⟨c, hc, rfl⟩ := List.mem_map.1 (List.mem_reverse.1 hl)
    rw [hp]
    have := List.Sublist.length_le (List.sublist_flatten_of_mem (List.mem_filter.1 hc).1)
    omega

set_option maxHeartbeats 4000000 in
theorem implSort_calls (an ae : Option Addr) (n cn m ce : Nat) (ns : List Int) (es : List (Int × Int × Int)) (w : World) (hn : RdI w an n ns) (hr : RdE w ae m es) (hn8 : n ≤ 1000) (hwf : ∀ x ∈ ns, (Lit.int .i64 x).wf = true)
    (hw : wellB ns es = true) :
    Calls Tryz.prog 14 #[.agg #[.bool true, .slice an n cn, .slice ae m ce]] w (SIPost (adjD ns es) (sortI ns) sortI w) := by
  have HR := Lib.hid hr; clear hr
  have HN := Lib.hid hn; clear hn
  have HW := Lib.hid hw; clear hw
  have HWF2 : Hid (∀ x ∈ sortI ns, (Lit.int .i64 x).wf = true) := Lib.hid (fun x hx => hwf x (mem_sortI.1 hx))
  clear hwf
  have HNL : Hid (ns.length ≤ 1000) := Lib.hid (by have := HN.out.len; omega)
  go_enter Tryz.func14, Tryz.ntmps14
  go_wp2_with fail
  obtain ⟨w1, hw1⟩ : ∃ w1, w1 = w.alloc (.cells #[.bool true, .slice an n cn, .slice ae m ce] 25) := ⟨_, rfl⟩
  have HB1 : Hid (Below w.heap.size w w1) := by rw [hw1]; exact (Below.refl _ _).alloc (Nat.le_refl _) _
  rw [← hw1]
  clear hw1
  refine (oneWay_calls true an ae n cn m ce ns es w1 (HN.out.below HB1.out (Nat.le_refl _)) (HR.out.below HB1.out (Nat.le_refl _)) (by omega)).mono ?_
  rintro e w2 ⟨hb, bp, rfl, hst⟩
  have HB2 := Lib.hid (HB1.out.trans (hb.mono HB1.out.size))
  have HG2 := Lib.hid (hst HW.out)
  have HGO : Hid (GraphO 72 (.agg #[.pointer (some ⟨bp, 0, none⟩)]) 217 215 (Gr bp (sortI ns) (rowsFrom true (sortI ns) es).1 (rowsFrom true (sortI ns) es).2) (sortI ns) (adjD ns es)) := Lib.hid (dGraphO_of HW.out)
  rw [show (wellB ns es && (true == true)) = true by rw [HW.out]; rfl]
  clear hb hst
  go_wp2_with fail
  obtain ⟨w3, hw3⟩ : ∃ w3, w3 = w2.alloc (.cells #[.pointer (some ⟨bp, 0, none⟩)] 72) := ⟨_, rfl⟩
  have HB3 : Hid (Below w2.heap.size w2 w3) := Lib.hid (by rw [hw3]; exact (Below.refl _ _).alloc (Nat.le_refl _) _)
  have HG3 := Lib.hid (HG2.out.later HB3.out)
  have HB3w : Hid (Below w.heap.size w w3) := Lib.hid (HB2.out.trans (HB3.out.mono HB2.out.size))
  rw [← hw3]
  clear hw3 HB2 HB3 HG2
  refine (topoSort_calls HGO.out w3 HG3.out HWF2.out adjD_sub (fun a => Nat.le_trans (adjD_len a) HNL.out) (by rw [sortI_len]; exact HNL.out)).mono ?_
  rintro e w4 ⟨aO, cO, vE, s, rfl, hrun, ho, hE, hb4⟩
  have hfin := hrun.fin (ids := sortI ns) adjD_sub (fun _ => Iff.rfl)
  obtain ⟨hl1, hl2, hl3⟩ := cycs_len hfin sortI_len
  rw [sortI_len] at hl1 hl2
  have HL3 : Hid (∀ l ∈ ((cycs s.sccs).map sortI).reverse, l.length ≤ 1000) := Lib.hid (fun l hl => by have h := hl3 l hl; rw [sortI_len] at h; have := HNL.out; omega)
  have hc1 : s.sccs.length ≤ 1000 := by have := HNL.out; omega
  have hc2 : (((cycs s.sccs).map sortI).reverse).length ≤ 1000 := by have := HNL.out; omega
  have HRUN := Lib.hid hrun; have HO := Lib.hid ho; have HE := Lib.hid hE
  have HB4 := Lib.hid (HB3w.out.trans (hb4.mono HB3w.out.size))
  obtain ⟨k, hk⟩ : ∃ k, k = s.sccs.length := ⟨_, rfl⟩
  rw [← hk] at HO hc1 ⊢
  have HK := Lib.hid hk
  clear hrun hfin hl1 hl2 hl3 ho hE hb4 HB3w HG3 hk
  go_wp2_with fail
  refine (slots_calls w3.heap.size aO k cO _ vE _ w4 HO.out HE.out hc1 hc2 HL3.out).mono ?_
  rintro e w5 ⟨vO, vC, vs, rfl, ho5, hl5, hb5⟩
  have e1 : (s.sccs.map slotO).reverse.length = k := by rw [List.length_reverse, List.length_map]; exact HK.out.symm
  rw [e1] at ho5
  obtain ⟨aP, cP, rfl⟩ := own_shape' ho5
  have hr5 := hl5.row
  have e2 : (((cycs s.sccs).map sortI).reverse).length = (cycs s.sccs).length := by simp
  rw [e2] at hr5
  obtain ⟨aC, cC, rfl⟩ := own_shape' hr5
  have e3 : (((cycs s.sccs).map sortI).reverse).isEmpty = (cycs s.sccs).isEmpty := by cases cycs s.sccs <;> simp
  rw [e3]
  have HO5 := Lib.hid ho5; have HL5 := Lib.hid hl5
  have HB5 := Lib.hid (HB4.out.trans (hb5.mono HB4.out.size))
  obtain ⟨ib, hib⟩ : ∃ ib, ib = (cycs s.sccs).isEmpty := ⟨_, rfl⟩
  have HIB := Lib.hid hib
  rw [← hib]
  clear ho5 hl5 hb5 e1 hr5 e2 e3 hib hc1 hc2
  obtain ⟨lc, hlc⟩ : ∃ lc, lc = (cycs s.sccs).length := ⟨_, rfl⟩
  have HLC := Lib.hid hlc
  rw [← hlc]
  clear hlc
  go_wp2_with fail
  refine bodyPost_ret (v := .tuple #[.slice aP k cP, .slice aC lc cC, .bool ib, .bool false]) (by simp [results, Tryz.results14, go_sem]) rfl ?_
  refine ⟨aP, aC, cP, cC, vs, s, by rw [HIB.out, HLC.out, HK.out], HRUN.out, ?_, HL5.out.lower HB4.out.size, HB5.out⟩
  rw [← HK.out]
  exact own_lower HO5.out HB4.out.size

set_option maxHeartbeats 4000000 in
theorem implSortStab_calls (an ae : Option Addr) (n cn m ce : Nat) (ns : List Int) (es : List (Int × Int × Int)) (w : World) (hn : RdI w an n ns) (hr : RdE w ae m es) (hn8 : n ≤ 1000) (hwf : ∀ x ∈ ns, (Lit.int .i64 x).wf = true)
    (hw : wellB ns es = true) :
    Calls Tryz.prog 15 #[.agg #[.bool true, .slice an n cn, .slice ae m ce]] w (SIPost (fun x => (sortI (adjD ns es x)).reverse) (sortI (sortI ns)).reverse sortI w) := by
  have HR := Lib.hid hr; clear hr
  have HN := Lib.hid hn; clear hn
  have HW := Lib.hid hw; clear hw
  have HWF2 : Hid (∀ x ∈ sortI ns, (Lit.int .i64 x).wf = true) := Lib.hid (fun x hx => hwf x (mem_sortI.1 hx))
  clear hwf
  have HNL : Hid (ns.length ≤ 1000) := Lib.hid (by have := HN.out.len; omega)
  go_enter Tryz.func15, Tryz.ntmps15
  go_wp2_with fail
  obtain ⟨w1, hw1⟩ : ∃ w1, w1 = w.alloc (.cells #[.bool true, .slice an n cn, .slice ae m ce] 25) := ⟨_, rfl⟩
  have HB1 : Hid (Below w.heap.size w w1) := by rw [hw1]; exact (Below.refl _ _).alloc (Nat.le_refl _) _
  rw [← hw1]
  clear hw1
  refine (oneWay_calls true an ae n cn m ce ns es w1 (HN.out.below HB1.out (Nat.le_refl _)) (HR.out.below HB1.out (Nat.le_refl _)) (by omega)).mono ?_
  rintro e w2 ⟨hb, bp, rfl, hst⟩
  have HB2 := Lib.hid (HB1.out.trans (hb.mono HB1.out.size))
  have HG2 := Lib.hid (hst HW.out)
  have HGO : Hid (GraphO 72 (.agg #[.pointer (some ⟨bp, 0, none⟩)]) 217 215 (Gr bp (sortI ns) (rowsFrom true (sortI ns) es).1 (rowsFrom true (sortI ns) es).2) (sortI ns) (adjD ns es)) := Lib.hid (dGraphO_of HW.out)
  rw [show (wellB ns es && (true == true)) = true by rw [HW.out]; rfl]
  clear hb hst
  go_wp2_with fail
  obtain ⟨w3, hw3⟩ : ∃ w3, w3 = w2.alloc (.cells #[.pointer (some ⟨bp, 0, none⟩)] 72) := ⟨_, rfl⟩
  have HB3 : Hid (Below w2.heap.size w2 w3) := Lib.hid (by rw [hw3]; exact (Below.refl _ _).alloc (Nat.le_refl _) _)
  have HG3 := Lib.hid (HG2.out.later HB3.out)
  have HB3w : Hid (Below w.heap.size w w3) := Lib.hid (HB2.out.trans (HB3.out.mono HB2.out.size))
  rw [← hw3]
  clear hw3 HB2 HB3 HG2
  refine (topoSortStab_calls HGO.out w3 HG3.out HWF2.out adjD_sub (fun a => Nat.le_trans (adjD_len a) HNL.out) (by rw [sortI_len]; exact HNL.out)).mono ?_
  rintro e w4 ⟨aO, cO, vE, s, rfl, hrun, ho, hE, hb4⟩
  have hfin := hrun.fin (ids := sortI ns) (fun a b hb => adjD_sub a b (mem_sortI.1 (List.mem_reverse.1 hb))) (fun x => by rw [List.mem_reverse, mem_sortI])
  obtain ⟨hl1, hl2, hl3⟩ := cycs_len hfin sortI_len
  rw [sortI_len] at hl1 hl2
  have HL3 : Hid (∀ l ∈ ((cycs s.sccs).map sortI).reverse, l.length ≤ 1000) := Lib.hid (fun l hl => by have h := hl3 l hl; rw [sortI_len] at h; have := HNL.out; omega)
  have hc1 : s.sccs.length ≤ 1000 := by have := HNL.out; omega
  have hc2 : (((cycs s.sccs).map sortI).reverse).length ≤ 1000 := by have := HNL.out; omega
  have HRUN := Lib.hid hrun; have HO := Lib.hid ho; have HE := Lib.hid hE
  have HB4 := Lib.hid (HB3w.out.trans (hb4.mono HB3w.out.size))
  obtain ⟨k, hk⟩ : ∃ k, k = s.sccs.length := ⟨_, rfl⟩
  rw [← hk] at HO hc1 ⊢
  have HK := Lib.hid hk
  clear hrun hfin hl1 hl2 hl3 ho hE hb4 HB3w HG3 hk
  go_wp2_with fail
  refine (slots_calls w3.heap.size aO k cO _ vE _ w4 HO.out HE.out hc1 hc2 HL3.out).mono ?_
  rintro e w5 ⟨vO, vC, vs, rfl, ho5, hl5, hb5⟩
  have e1 : (s.sccs.map slotO).reverse.length = k := by rw [List.length_reverse, List.length_map]; exact HK.out.symm
  rw [e1] at ho5
  obtain ⟨aP, cP, rfl⟩ := own_shape' ho5
  have hr5 := hl5.row
  have e2 : (((cycs s.sccs).map sortI).reverse).length = (cycs s.sccs).length := by simp
  rw [e2] at hr5
  obtain ⟨aC, cC, rfl⟩ := own_shape' hr5
  have e3 : (((cycs s.sccs).map sortI).reverse).isEmpty = (cycs s.sccs).isEmpty := by cases cycs s.sccs <;> simp
  rw [e3]
  have HO5 := Lib.hid ho5; have HL5 := Lib.hid hl5
  have HB5 := Lib.hid (HB4.out.trans (hb5.mono HB4.out.size))
  obtain ⟨ib, hib⟩ : ∃ ib, ib = (cycs s.sccs).isEmpty := ⟨_, rfl⟩
  have HIB := Lib.hid hib
  rw [← hib]
  clear ho5 hl5 hb5 e1 hr5 e2 e3 hib hc1 hc2
  obtain ⟨lc, hlc⟩ : ∃ lc, lc = (cycs s.sccs).length := ⟨_, rfl⟩
  have HLC := Lib.hid hlc
  rw [← hlc]
  clear hlc
  go_wp2_with fail
  refine bodyPost_ret (v := .tuple #[.slice aP k cP, .slice aC lc cC, .bool ib, .bool false]) (by simp [results, Tryz.results15, go_sem]) rfl ?_
  refine ⟨aP, aC, cP, cC, vs, s, by rw [HIB.out, HLC.out, HK.out], HRUN.out, ?_, HL5.out.lower HB4.out.size, HB5.out⟩
  rw [← HK.out]
  exact own_lower HO5.out HB4.out.size
end Go.Proofs.YtnfkbjgijelfdaaGreat
