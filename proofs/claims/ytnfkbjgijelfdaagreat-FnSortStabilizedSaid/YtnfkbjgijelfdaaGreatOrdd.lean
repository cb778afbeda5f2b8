/- The walk of the laws' own ordered, where it says yes. -/
import Derived.Test.YtnfkbjgijelfdaaGreatCycO
import Derived.Test.YtnfkbjgijelfdaaGreatSortI
import Derived.Test.YtnfkbjgijelfdaaGreatHeldL
import Derived.Test.YtnfkbjgijelfdaaGreatSlot
import Derived.Test.YtnfkbjgijelfdaaGreatSameG
namespace Go.Proofs.YtnfkbjgijelfdaaGreat
open Go.RowKit

theorem idx_spec : ∀ (zs : List Int) (x : Int) (k : Nat), x ∈ zs → ∃ p, p < zs.length ∧ idxFrom zs x k = ((k + p : Nat) : Int) ∧ zs[p]? = some x
  | z :: r, x, k, h => by
    by_cases e : z = x
    · exact ⟨0, by simp, by unfold idxFrom; rw [if_pos e]; rfl, by rw [e]; rfl⟩
    · have hr : x ∈ r := by
        rcases List.mem_cons.1 h with h | h
        · exact absurd h.symm e
        · exact h
      obtain ⟨p, h1, h2, h3⟩ := idx_spec r x (k + 1) hr
      refine ⟨p + 1, by simp; omega, ?_, by simpa using h3⟩
      unfold idxFrom
      rw [if_neg e, h2]
      congr 1; omega

/-- All nodes, component by component; and of each its component's place. -/
def allR (R : List (List Int)) (k : Nat) : List Int := ((R.take k).map sortI).flatten
def plcR (R : List (List Int)) (k : Nat) : List Int := ((List.range k).map fun i => List.replicate (R.getD i []).length (i : Int)).flatten
theorem allR_succ {R : List (List Int)} {k : Nat} {c : List Int} (h : R[k]? = some c) : allR R (k + 1) = allR R k ++ sortI c := by
  obtain ⟨h1, rfl⟩ := List.getElem?_eq_some_iff.1 h
  unfold allR
  rw [List.take_succ_eq_append_getElem h1, List.map_append, List.flatten_append]; simp
theorem plcR_succ {R : List (List Int)} {k : Nat} {c : List Int} (h : R[k]? = some c) : plcR R (k + 1) = plcR R k ++ List.replicate c.length (k : Int) := by
  unfold plcR
  rw [List.range_succ, List.map_append, List.flatten_append]
  simp [h]
theorem plcR_len (R : List (List Int)) : ∀ k, k ≤ R.length → (plcR R k).length = (allR R k).length := by
  intro k
  induction k with
  | zero => intro _; simp [plcR, allR]
  | succ k ih =>
    intro hk
    have h := List.getElem?_eq_getElem (show k < R.length by omega)
    rw [allR_succ h, plcR_succ h, List.length_append, List.length_append, ih (by omega), sortI_len, List.length_replicate]
/-- The place of a node. -/
theorem plcR_at (R : List (List Int)) : ∀ k, k ≤ R.length → ∀ (p : Nat) (x : Int), (allR R k)[p]? = some x → ∃ i c, i < k ∧ R[i]? = some c ∧ x ∈ c ∧ (plcR R k)[p]? = some (i : Int) := by
  intro k
  induction k with
  | zero => intro _ p x h; simp [allR] at h
  | succ k ih =>
    intro hk p x hp
    have h := List.getElem?_eq_getElem (show k < R.length by omega)
    rw [allR_succ h] at hp
    rw [plcR_succ h]
    have hl := plcR_len R k (by omega)
    by_cases hpl : p < (allR R k).length
    · rw [List.getElem?_append_left hpl] at hp
      obtain ⟨i, c, h1, h2, h3, h4⟩ := ih (by omega) p x hp
      exact ⟨i, c, by omega, h2, h3, by rw [List.getElem?_append_left (by omega)]; exact h4⟩
    · rw [List.getElem?_append_right (by omega)] at hp
      refine ⟨k, R[k], by omega, h, mem_sortI.1 (List.mem_of_getElem? hp), ?_⟩
      have hq := (List.getElem?_eq_some_iff.1 hp).1
      rw [sortI_len] at hq
      rw [List.getElem?_append_right (by omega), hl, List.getElem?_replicate, if_pos hq]
theorem allR_perm (R : List (List Int)) : (allR R R.length).Perm R.flatten := by
  unfold allR
  rw [List.take_length]
  induction R with
  | nil => exact List.Perm.refl _
  | cons c R ih => rw [List.map_cons, List.flatten_cons, List.flatten_cons]; exact (sortI_perm c).append ih
theorem allR_le (R : List (List Int)) (k : Nat) : (allR R k).length ≤ R.flatten.length := by
  have e : R.flatten = (R.take k).flatten ++ (R.drop k).flatten := by rw [← List.flatten_append, List.take_append_drop]
  have h : ((R.take k).map sortI).flatten.length = (R.take k).flatten.length := by
    generalize R.take k = Q
    induction Q with
    | nil => rfl
    | cons c Q ih => rw [List.map_cons, List.flatten_cons, List.flatten_cons, List.length_append, List.length_append, ih, sortI_len]
  unfold allR
  rw [h, e, List.length_append]; omega

/-- Two rows that grow side by side. -/
structure TwoR (w0 wr : World) (vA vP : Value) (A P : List Int) : Prop where
  a : wr.ownsRow w0.heap.size 3 1 vA A.length (A.map (Value.int .i64))
  p : wr.ownsRow w0.heap.size 3 1 vP P.length (P.map (Value.int .i64))
  ap : ∀ g, vA.ownBlock = some g → vP.ownBlock ≠ some g
  bel : Below w0.heap.size w0 wr
theorem TwoR.sized {w0 wr : World} {vA vP : Value} {A P : List Int} (h : TwoR w0 wr vA vP A P) : w0.heap.size ≤ wr.heap.size := h.bel.size
theorem TwoR.nil (w : World) : TwoR w w (.slice none 0 0) (.slice none 0 0) [] [] := ⟨World.ownsRow_nil _ _ _ _, World.ownsRow_nil _ _ _ _, (fun g hg => by cases hg), Below.refl _ _⟩
theorem TwoR.step {w0 wr w6 w8 : World} {vA vP v6 v8 : Value} {A P : List Int} {x y : Int} {o1 o2 : Obj} (h : TwoR w0 wr vA vP A P) (hA : w6.ownsRow w0.heap.size 3 1 v6 (A.length + 1) (A.map (Value.int .i64) ++ [Value.int .i64 x])) (gA : (wr.alloc o1).grownBy w6 vA.ownBlock)
    (lA : v6.ownBlock = vA.ownBlock ∨ v6.ownBlock = some (wr.heap.size + 1)) (hP : w8.ownsRow w0.heap.size 3 1 v8 (P.length + 1) (P.map (Value.int .i64) ++ [Value.int .i64 y])) (gP : (w6.alloc o2).grownBy w8 vP.ownBlock) (lP : v8.ownBlock = vP.ownBlock ∨ v8.ownBlock = some (w6.heap.size + 1)) :
    TwoR w0 w8 v6 v8 (A ++ [x]) (P ++ [y]) ∧ ∀ b, b < wr.heap.size → vA.ownBlock ≠ some b → vP.ownBlock ≠ some b → w8.heap[b]? = wr.heap[b]? ∧ v6.ownBlock ≠ some b ∧ v8.ownBlock ≠ some b := by
  have s1 : (wr.alloc o1).heap.size = wr.heap.size + 1 := by simp
  have s2 : (w6.alloc o2).heap.size = w6.heap.size + 1 := by simp
  have s3 := gA.size
  have s4 := gP.size
  have hlt6 := hA.lt
  have s0 := h.sized
  have hsep : ∀ g, v6.ownBlock = some g → vP.ownBlock ≠ some g := fun g h1 h2 => by
    rcases lA with e | e
    · exact h.ap g (e ▸ h1) h2
    · rw [e] at h1
      have e1 := Option.some.inj h1
      have := (h.p.lt g h2).2
      omega
  have keep8 : ∀ b, b < w6.heap.size → vP.ownBlock ≠ some b → w8.heap[b]? = w6.heap[b]? := fun b hb hne => by
    rw [gP.block b (by omega) (fun e => hne e.symm)]; exact heap_alloc_old _ _ hb
  refine ⟨⟨?_, ?_, ?_, ?_⟩, ?_⟩
  · rw [List.length_append, List.length_singleton, List.map_append]
    exact ownsRow_of_heap hA (fun g hg => keep8 g (hlt6 g hg).2 (hsep g hg))
  · rw [List.length_append, List.length_singleton, List.map_append]; exact hP
  · intro g h1 h2
    rcases lP with e | e
    · exact hsep g h1 (e ▸ h2)
    · rw [e] at h2
      have e1 := Option.some.inj h2
      have := (hlt6 g h1).2
      omega
  · exact ((h.bel.alloc s0 _).grown gA (by omega) (fun j hj => (h.a.lt j hj).1)).alloc (by omega) _ |>.grown gP (by omega) (fun j hj => (h.p.lt j hj).1)
  · intro b hb nA nP
    refine ⟨?_, ?_, ?_⟩
    · rw [keep8 b (by omega) nP, gA.block b (by omega) (fun e => nA e.symm)]; exact heap_alloc_old _ _ hb
    · intro e
      rcases lA with e' | e'
      · exact nA (e' ▸ e)
      · rw [e'] at e
        have := Option.some.inj e
        omega
    · intro e
      rcases lP with e' | e'
      · exact nP (e' ▸ e)
      · rw [e'] at e
        have := Option.some.inj e
        omega
theorem RdI.keepB {w w' : World} {b o n : Nat} {zs : List Int} (h : RdI w (some ⟨b, o, none⟩) n zs) (hs : w.heap.size ≤ w'.heap.size) (hk : w'.heap[b]? = w.heap[b]?) : RdI w' (some ⟨b, o, none⟩) n zs :=
  ⟨h.len, h.small, fun h0 => by
    obtain ⟨b', o', e, hb, hc⟩ := h.at_ h0
    obtain ⟨rfl, rfl, -⟩ := by simpa using e
    exact ⟨b, o, rfl, by omega, fun j hj => by
      obtain ⟨z, hz, hcz⟩ := hc j hj
      exact ⟨z, hz, (World.cell?_of_block (a := ⟨b, o + j, none⟩) hk).trans hcz⟩⟩⟩

theorem rdi_ownO {w : World} {B : Nat} {a : Option Addr} {n c : Nat} {zs : List Int} (h : w.ownsRow B 3 1 (.slice a n c) n (zs.map (Value.int .i64))) : RdI w a n zs := by
  obtain ⟨a', c', e, hr⟩ := RdI.of_owns h
  simp only [Value.slice.injEq, true_and] at e
  rw [e.1]; exact hr
theorem rdI_one (w : World) (x : Int) : RdI (w.alloc (.cells #[.int .i64 x] 3)) (some ⟨w.heap.size, 0, none⟩) 1 [x] :=
  ⟨rfl, by omega, fun _ => ⟨w.heap.size, 0, rfl, by simp, fun j hj => by
    obtain rfl : j = 0 := by omega
    exact ⟨x, Lib.hid rfl, by rw [cell_of_row _ _ _ _ _ (0, 0) (heap_alloc_new w (.cells #[.int .i64 x] 3))]; rfl⟩⟩⟩

set_option maxHeartbeats 16000000 in
set_option maxRecDepth 200000 in
theorem ordered_calls (an ae aO aC : Option Addr) (n cn m ce N cO M cC lo : Nat) (vs : List Value) (ns : List Int) (es : List (Int × Int × Int)) (R : List (List Int)) (w : World) (hn : RdI w an n ns) (hr : RdE w ae m es) (hn8 : n ≤ 500) (hw : wellB ns es = true)
    (hS : RdS w aO N (R.map slotO)) (hC : LolI w lo (.slice aC M cC) vs ((cycs R).map sortI)) (hM : M = (cycs R).length) (hR : OrdR ns es R) :
    Calls Tryz.prog 20 #[.agg #[.bool true, .slice an n cn, .slice ae m ce], .slice aO N cO, .slice aC M cC, .bool (cycs R).isEmpty] w fun e w' => e = .returned (.bool true) ∧ Below w.heap.size w w' := by
  have hu := sort_ltF hw
  have hfl : R.flatten.length ≤ n := by
    have h1 := nodup_lenT hR.scc.nd (fun x hx => (hR.scc.mem x).1 hx)
    rw [sortI_len, hn.len] at h1; exact h1
  have hRN : R.length = N := by have := hS.len; rw [List.length_map] at this; exact this
  have hNn : N ≤ n := by have := len_flat hR.scc.ne; omega
  have hMN : M ≤ N := by
    have := List.length_filter_le cyB R
    unfold cycs at hM; omega
  obtain ⟨W, hW⟩ : ∃ W, W = cycW (sortI ns) (mutB ns es) (sortI ns).length (sortI ns).length := ⟨_, rfl⟩
  obtain ⟨hWp, hWm⟩ := cycW_law hw hR.scc
  rw [← hW] at hWp hWm
  have hWl : W.length = M := by rw [hWm.length_eq, List.length_map]; exact hM.symm
  have hcm : ∀ l ∈ (cycs R).map sortI, l.length ≤ 1000000 := fun l hl => by
    obtain ⟨c, hc, rfl⟩ := List.mem_map.1 hl
    rw [sortI_len]
    have := List.Sublist.length_le (List.sublist_flatten_of_mem (List.mem_filter.1 hc).1)
    omega
  have HN := Lib.hid hn; have HR := Lib.hid hr; have HS := Lib.hid hS; have HC := Lib.hid hC; have HRR := Lib.hid hR; have HU := Lib.hid hu; have HFL := Lib.hid hfl; have HRN := Lib.hid hRN; have HM := Lib.hid hM; have HW := Lib.hid hw
  have HWE := Lib.hid hW; have HWP := Lib.hid hWp; have HWM := Lib.hid hWm; have HWL := Lib.hid hWl; have HCM := Lib.hid hcm
  have HCL : Hid (RdL w aC M ((cycs R).map sortI)) := Lib.hid (LolG.rd hC)
  obtain ⟨bb, hbb⟩ : ∃ bb, bb = (cycs R).isEmpty := ⟨_, rfl⟩
  have HBE : Hid (bb = (M == 0)) := Lib.hid (by rw [hbb, hM]; cases cycs R <;> simp)
  rw [← hbb]
  clear hn hr hS hC hR hu hfl hRN hM hw hW hWp hWm hWl hcm hbb
  obtain ⟨i0, hi0, hz0, hz1, hz2⟩ := info_parts int_info
  have HI := Lib.hid (And.intro hi0 (And.intro hz0 (And.intro hz1 hz2)))
  clear hi0 hz0 hz1 hz2
  go_enter Tryz.func20, Tryz.ntmps20
  go_wp2_with fail
  obtain ⟨w0, hw0⟩ : ∃ w0, w0 = w.alloc (.cells #[.bool true, .slice an n cn, .slice ae m ce] 25) := ⟨_, rfl⟩
  have HB0 : Hid (Below w.heap.size w w0) := Lib.hid (by rw [hw0]; exact (Below.refl _ _).alloc (Nat.le_refl _) _)
  have x0 : w0.heap[w.heap.size]? = some (.cells #[.bool true, .slice an n cn, .slice ae m ce] 25 (0, 0)) := by rw [hw0]; exact heap_alloc_new w _
  have hs0 : w.heap.size < w0.heap.size := (Array.getElem?_eq_some_iff.1 x0).1
  have HBX : Hid (∀ W, Below w0.heap.size w0 W → W.cell? ⟨w.heap.size, 0, none⟩ = some (.bool true) ∧ W.cell? ⟨w.heap.size, 1, none⟩ = some (.slice an n cn) ∧ W.cell? ⟨w.heap.size, 2, none⟩ = some (.slice ae m ce)) := Lib.hid (fun W hW => by
    have hx := (hW.block w.heap.size hs0).trans x0
    refine ⟨?_, ?_, ?_⟩ <;> (rw [cell_of_row W _ _ _ _ (0, 0) hx]; rfl))
  rw [← hw0]
  clear hw0 x0
  refine (cyclicOf_calls an ae n cn m ce ns es w0 (HN.out.below HB0.out (Nat.le_refl _)) (HR.out.below HB0.out (Nat.le_refl _)) hn8 HW.out).mono ?_
  rintro e w1 ⟨v1, vs1, rfl, hl1, hb1⟩
  have hl1' : LolI w1 w0.heap.size v1 vs1 W := by rw [HWE.out]; exact hl1
  have hrow1 := hl1'.row
  rw [HWL.out] at hrow1
  obtain ⟨a1, c1, rfl⟩ := own_shape' hrow1
  have HL1 := Lib.hid hl1'
  have HB1 := Lib.hid hb1
  have HB1W : Hid (Below w.heap.size w w1) := Lib.hid (HB0.out.trans (hb1.mono HB0.out.size))
  have HC1 : Hid (LolI w1 lo (.slice aC M cC) vs ((cycs R).map sortI)) := Lib.hid (HC.out.of_heap (fun j hj => HB1W.out.block j (HC.out.lt hj).2))
  clear hl1 hl1' hrow1 hb1
  have hcl : ((cycs R).map sortI).length = M := by rw [List.length_map]; exact HM.out.symm
  have HCLL := Lib.hid hcl
  clear hcl
  have hM0 : ((M : Int) == 0) = (M == 0) := by
    cases h : (M == 0)
    · have : M ≠ 0 := by simpa using h
      rw [beq_eq_false_iff_ne]; omega
    · have : M = 0 := by simpa using h
      rw [this]; rfl
  obtain ⟨mz, hmz⟩ : ∃ mz, mz = (M == 0) := ⟨_, rfl⟩
  have hbz : bb = mz := by rw [HBE.out, hmz]
  subst hbz
  rw [← hmz] at hM0
  have HMZ := Lib.hid hmz
  clear hmz HBE
  cases bb
  all_goals
    go_wp2_with fail
    refine (sortedLists_calls lo (.slice aC M cC) vs ((cycs R).map sortI) w1 HC1.out (by rw [HCLL.out]; omega) HCM.out).mono ?_
    rintro e w2 ⟨v2, ps2, rfl, ho2, hrp2, hp2, hs2, hb2⟩
    rw [HCLL.out] at ho2
    obtain ⟨a2, c2, rfl⟩ := own_shape' ho2
    have hee : ps2.map (·.2) = W := pwL_unique (hp2.trans HWM.out.symm) hs2 HWP.out
    have HR2 : Hid (RdL w2 a2 M W) := Lib.hid (by rw [← hee]; exact RdL.of_rowsP ho2 hrp2 (by omega))
    have HW2 : Hid (RdL w2 a1 M W) := Lib.hid ((LolG.rd HL1.out).below hb2 (Nat.le_refl _))
    have HB2 : Hid (Below w0.heap.size w0 w2) := Lib.hid (HB1.out.trans (hb2.mono HB1.out.size))
    clear ho2 hrp2 hp2 hs2 hb2 hee
    go_wp2_with fail
    refine (sameLists_calls a2 a1 M c2 c1 W w2 HR2.out HW2.out).mono ?_
    rintro e w3 ⟨rfl, q3, hw3⟩
    have HB3 : Hid (Below w0.heap.size w0 w3) := Lib.hid (by rw [hw3]; exact below_drewN HB2.out q3)
    have HB3W : Hid (Below w.heap.size w w3) := Lib.hid (HB0.out.trans (HB3.out.mono HB0.out.size))
    have hs3 : w0.heap.size ≤ w3.heap.size := HB3.out.size
    clear hw3 hM0
    go_wp2_with fail
    go_loopw [10, 11, 12, 13] (fun vA vP x i wr => ∃ k q : Nat, k ≤ N ∧ i = .int .i64 k ∧ x = .int .i64 q ∧ Hid (q = (cycs (R.take k)).length) ∧ TwoR w3 wr vA vP (allR R k) (plcR R k)) (fun _ _ _ i _ => N - (intOf i).toNat)
    case atStart => exact ⟨0, 0, by omega, rfl, rfl, Lib.hid (by simp [cycs]), by simpa [allR, plcR] using TwoR.nil _⟩
    case round =>
      obtain ⟨k, q, hk, rfl, rfl, HQ, hT⟩ := hrel
      obtain ⟨wo, rfl⟩ : ∃ wo : World, wo = wr := ⟨_, rfl⟩
      obtain ⟨nA, hnA⟩ : ∃ nA, nA = (allR R k).length := ⟨_, rfl⟩
      have hnAn : nA ≤ n := by rw [hnA]; exact Nat.le_trans (allR_le R k) HFL.out
      have hqk : q ≤ k := by
        have h1 := List.length_filter_le cyB (R.take k)
        have h2 := HQ.out
        unfold cycs at h2
        rw [List.length_take] at h1; omega
      have hoA := hT.a
      have hoP := hT.p
      rw [plcR_len R k (by rw [HRN.out]; exact hk)] at hoP
      rw [← hnA] at hoA hoP
      obtain ⟨aA, cA, rfl⟩ := own_shape' hoA
      obtain ⟨aP, cP, rfl⟩ := own_shape' hoP
      have HT := Lib.hid hT; have HNA := Lib.hid hnA; have HOA := Lib.hid hoA; have HOP := Lib.hid hoP
      have hszr := hT.sized
      have HBW : Hid (Below w.heap.size w wo) := Lib.hid (HB3W.out.trans (hT.bel.mono HB3W.out.size))
      clear hT hnA hoA hoP
      by_cases hkN : k < N
      · obtain ⟨b, off, rfl, hbb, hc⟩ := HS.out.at_ (by omega)
        obtain ⟨o, HOO, h1, h2⟩ := hc k hkN
        obtain ⟨c, hcc⟩ : ∃ c, R[k]? = some c := ⟨_, List.getElem?_eq_getElem (by rw [HRN.out]; exact hkN)⟩
        have hoc : o = slotO c := by
          have h := HOO.out
          rw [List.getElem?_map, hcc] at h
          exact (Option.some.inj h).symm
        have e1 := (HBW.out.cell (p := ⟨b, off + k * 2, none⟩) hbb).trans h1
        have e2 := (HBW.out.cell (p := ⟨b, off + k * 2 + 1, none⟩) hbb).trans h2
        have hbr : b < wo.heap.size := by have := HBW.out.size; omega
        have hct := cycs_take_succ hcc
        have HCC := Lib.hid hcc
        have hcn : c.length ≤ n := Nat.le_trans (List.Sublist.length_le (List.sublist_flatten_of_mem (List.mem_of_getElem? hcc))) HFL.out
        have hcne : c ≠ [] := HRR.out.scc.ne c (List.mem_of_getElem? hcc)
        have hcl0 : 0 < (sortI c).length := by rw [sortI_len]; exact List.length_pos_iff.2 hcne
        clear hc h1 h2 HOO hcne
        by_cases hcy : cyB c = true
        · rw [hoc, slotO_cy hcy] at e1 e2
          replace e1 : wo.cell? ⟨b, off + k * 2, none⟩ = some (.bool true) := e1
          replace e2 : wo.cell? ⟨b, off + k * 2 + 1, none⟩ = some (.int .i64 0) := e2
          have hqc := cycs_at hcc hcy
          rw [← HQ.out] at hqc
          have hqM : q < M := by rw [HM.out]; exact (List.getElem?_eq_some_iff.1 hqc).1
          obtain ⟨bc, oc, rfl, hbc, hcs⟩ := HCL.out.at_ (by omega)
          obtain ⟨ap, np, cp, l, HLL, hcell, hrp⟩ := hcs q hqM
          have hll : l = sortI c := by
            have h := HLL.out
            rw [List.getElem?_map, hqc] at h
            exact (Option.some.inj h).symm
          subst hll
          have hnp0 : 0 < np := by rw [← hrp.len]; exact hcl0
          have hnpn : np ≤ n := by rw [← hrp.len, sortI_len]; exact hcn
          obtain ⟨bp, op, rfl, hbpw, -⟩ := hrp.at_ hnp0
          have e3 := (HBW.out.cell (p := ⟨bc, oc + q, none⟩) hbc).trans hcell
          have hbcr : bc < wo.heap.size := by have := HBW.out.size; omega
          have HQ2 : Hid (Hid (q + 1 = (cycs (R.take (k + 1))).length)) := Lib.hid (Lib.hid (by rw [hct, if_pos hcy, List.length_append, ← HQ.out]; rfl))
          obtain ⟨w5, hw5⟩ : ∃ w5, w5 = wo.alloc (.cells #[.int .i64 0] 3) := ⟨_, rfl⟩
          have HRP : Hid (RdI w5 (some ⟨bp, op, none⟩) np (sortI c)) := Lib.hid (by rw [hw5]; exact (hrp.below HBW.out (Nat.le_refl _)).alloc _)
          have HT1 : Hid (TwoR w3 w5 (.slice aA nA cA) (.slice aP nA cP) (allR R k) (plcR R k)) := Lib.hid (by rw [hw5]; exact ⟨HT.out.a.alloc _, HT.out.p.alloc _, HT.out.ap, HT.out.bel.alloc hszr _⟩)
          have hbw3 : bp < w3.heap.size := by have := HB3W.out.size; omega
          have hbp : bp < w5.heap.size := by rw [hw5]; simp; omega
          have HN1 : Hid ((Value.slice aA nA cA).ownBlock ≠ some bp ∧ (Value.slice aP nA cP).ownBlock ≠ some bp) := Lib.hid ⟨fun e => by have := (HOA.out.lt bp e).1; omega, fun e => by have := (HOP.out.lt bp e).1; omega⟩
          have hs5 : w5.heap.size = wo.heap.size + 1 := by rw [hw5]; simp
          have HS5 := Lib.hid hs5
          have hd1 : decide ((M : Int) ≤ (q : Int)) = false := by simp; omega
          have hd2 : decide (M ≤ q) = false := by simp; omega
          have e3' : w5.cell? ⟨bc, oc + q, none⟩ = some (.slice (some ⟨bp, op, none⟩) np cp) := by rw [hw5]; exact (World.cell?_of_block (heap_alloc_old _ _ hbcr)).trans e3
          have e1' : w5.cell? ⟨b, off + k * 2, none⟩ = some (.bool true) := by rw [hw5]; exact (World.cell?_of_block (heap_alloc_old _ _ hbr)).trans e1
          clear hct hoc hcy hqc hcs hcell hrp hs5 HLL
          go_wp2_with (rw [← hw5])
          go_loopw [10, 11, 15] (fun vA vP i wr => ∃ (j : Nat) (A P : List Int), j ≤ np ∧ i = .int .i64 j ∧ Hid (A = allR R k ++ (sortI c).take j) ∧ Hid (P = plcR R k ++ List.replicate j (k : Int)) ∧ TwoR w3 wr vA vP A P ∧ RdI wr (some ⟨bp, op, none⟩) np (sortI c) ∧ bp < wr.heap.size ∧ vA.ownBlock ≠ some bp ∧ vP.ownBlock ≠ some bp) (fun _ _ i _ => np - (intOf i).toNat)
          case atStart => exact ⟨0, allR R k, plcR R k, by omega, rfl, Lib.hid (by simp), Lib.hid (by simp), HT1.out, HRP.out, hbp, HN1.out.1, HN1.out.2⟩
          case round =>
            obtain ⟨j, A, P, hj, rfl, HA, HP, hT, hrp, hbpr, hna, hnp⟩ := hrel
            obtain ⟨wi, rfl⟩ : ∃ wi : World, wi = wr := ⟨_, rfl⟩
            have hlA : A.length ≤ nA + j := by rw [HA.out, List.length_append, List.length_take, ← HNA.out]; omega
            have hlP : P.length = A.length := by rw [HA.out, HP.out, List.length_append, List.length_append, List.length_take, List.length_replicate, plcR_len R k (by rw [HRN.out]; omega), hrp.len]; omega
            obtain ⟨mA, hmA⟩ : ∃ mA, mA = A.length := ⟨_, rfl⟩
            have hoA := hT.a
            have hoP := hT.p
            rw [hlP] at hoP
            rw [← hmA] at hoA hoP hlA
            obtain ⟨aA2, cA2, rfl⟩ := own_shape' hoA
            obtain ⟨aP2, cP2, rfl⟩ := own_shape' hoP
            have HOA2 := Lib.hid hoA; have HOP2 := Lib.hid hoP; have HT2 := Lib.hid hT; have HRP2 := Lib.hid hrp; have HN2 := Lib.hid (And.intro hna hnp); have HMA := Lib.hid hmA; have HLP := Lib.hid hlP
            have hszi := hT.sized
            clear hoA hoP hT hrp hna hnp hmA hlP
            by_cases hjn : j < np
            · obtain ⟨bq, oq, e, hbq, hcq⟩ := HRP2.out.at_ (by omega)
              obtain ⟨rfl, rfl, -⟩ := by simpa using e
              obtain ⟨z, HZ, cz⟩ := hcq j hjn
              clear hcq hbq e
              obtain ⟨hi0, hz0, hz1, hz2⟩ := HI.out
              go_wp2_with (at_builtin; refine wpList_append_own_at _ rfl _ _ 22 rfl w3.heap.size 3 i0 (.int .i64 0) 1 8 Tryz.underlying22 hi0 hz0 hz1 hz2 rfl (by decide) (.slice aA2 mA cA2) mA (A.map (Value.int .i64)) rfl (HOA2.out.alloc _) ⟨wi.heap.size, 0, none⟩ 1 1 [.int .i64 z] rfl rfl ?c1 ?c2 ?c3 ?c4 ?c5 ?_)
              case c1 => intro j u hj; match j, hj with | 0, hj => simp at hj; subst hj; simp [Addr.add]
              case c2 => intro u hu; simp at hu; subst hu; rfl
              case c3 => unfold maxLen; omega
              case c4 => omega
              case c5 => simp; omega
              intro v6 w6 hown6 hgrow6 _ hloc6
              have HO6 := Lib.hid hown6; have HG6 := Lib.hid hgrow6; have HL6 := Lib.hid hloc6
              have hs6 : wi.heap.size + 1 ≤ w6.heap.size := by have := hgrow6.size; simp at this; omega
              clear hown6 hgrow6 hloc6
              have HOP6 : Hid (w6.ownsRow w3.heap.size 3 1 (.slice aP2 mA cP2) mA (P.map (Value.int .i64))) := Lib.hid ((HOP2.out.alloc _).kept HG6.out (by
                cases h : (Value.slice aP2 mA cP2).ownBlock with
                | none => exact .inl rfl
                | some g => exact .inr (fun e => HT2.out.ap g e.symm h)))
              go_wp2_with (at_builtin; refine wpList_append_own_at _ rfl _ _ 22 rfl w3.heap.size 3 i0 (.int .i64 0) 1 8 Tryz.underlying22 hi0 hz0 hz1 hz2 rfl (by decide) (.slice aP2 mA cP2) mA (P.map (Value.int .i64)) rfl (HOP6.out.alloc _) ⟨w6.heap.size, 0, none⟩ 1 1 [.int .i64 k] rfl rfl ?c1 ?c2 ?c3 ?c4 ?c5 ?_)
              case c1 => intro j u hj; match j, hj with | 0, hj => simp at hj; subst hj; simp [Addr.add]
              case c2 => intro u hu; simp at hu; subst hu; rfl
              case c3 => unfold maxLen; omega
              case c4 => omega
              case c5 => (try simp); omega
              intro v8 w8 hown8 hgrow8 _ hloc8
              have HST := Lib.hid (HT2.out.step (x := z) (y := k) (by rw [← HMA.out]; exact HO6.out) HG6.out HL6.out (by rw [HLP.out, ← HMA.out]; exact hown8) hgrow8 hloc8)
              have hs8 : w6.heap.size + 1 ≤ w8.heap.size := by have := hgrow8.size; simp at this; omega
              clear hown8 hgrow8 hloc8
              go_wp2_with fail
              go_roundw
              case rel =>
                obtain ⟨q1, q2⟩ := HST.out
                obtain ⟨q3, q4, q5⟩ := q2 bp hbpr HN2.out.1 HN2.out.2
                have hjc : j < (sortI c).length := by rw [HRP2.out.len]; exact hjn
                have hzj : (sortI c)[j] = z := by have := HZ.out; simpa [List.getD, hjc] using this
                exact ⟨j + 1, A ++ [z], P ++ [(k : Int)], by omega, by go_num, Lib.hid (by rw [HA.out, List.append_assoc, List.take_succ_eq_append_getElem hjc, hzj]), Lib.hid (by rw [HP.out, List.append_assoc, List.replicate_succ']), q1, HRP2.out.keepB (by omega) q3, by omega, q4, q5⟩
              case measure => simp [intOf]; omega
            · obtain rfl : j = np := by omega
              have e1 : (sortI c).take j = sortI c := List.take_of_length_le (by rw [HRP2.out.len]; exact Nat.le_refl _)
              have HA2 : Hid (A = allR R (k + 1)) := Lib.hid (by rw [allR_succ HCC.out, HA.out, e1])
              have HP2 : Hid (P = plcR R (k + 1)) := Lib.hid (by rw [plcR_succ HCC.out, HP.out, ← sortI_len c, HRP2.out.len])
              clear e1
              go_wp2_with fail
              go_roundw
              case rel => exact ⟨k + 1, q + 1, by omega, by go_num, by go_num, HQ2.out, by rw [← HA2.out, ← HP2.out]; exact HT2.out⟩
              case measure => simp [intOf]; omega
        · have hcy' : cyB c = false := by simpa using hcy
          obtain ⟨x, hcx, hsx⟩ := slotO_one hcy'
          rw [hoc, hsx] at e1 e2
          replace e1 : wo.cell? ⟨b, off + k * 2, none⟩ = some (.bool false) := e1
          replace e2 : wo.cell? ⟨b, off + k * 2 + 1, none⟩ = some (.int .i64 x) := e2
          have hsc : sortI c = [x] := by rw [hcx]; exact (sortI_unique (List.Perm.refl _) (List.pairwise_singleton _ _)).symm
          have HQ2 : Hid (Hid (q = (cycs (R.take (k + 1))).length)) := Lib.hid (Lib.hid (by rw [hct, if_neg hcy, List.append_nil, ← HQ.out]))
          obtain ⟨w5, hw5⟩ : ∃ w5, w5 = wo.alloc (.cells #[.int .i64 x] 3) := ⟨_, rfl⟩
          obtain ⟨bp, hbp0⟩ : ∃ bp, bp = wo.heap.size := ⟨_, rfl⟩
          obtain ⟨op, hop⟩ : ∃ op : Nat, op = 0 := ⟨_, rfl⟩
          obtain ⟨np, hnpe⟩ : ∃ np : Nat, np = 1 := ⟨_, rfl⟩
          have HRP : Hid (RdI w5 (some ⟨bp, op, none⟩) np (sortI c)) := Lib.hid (by
            rw [hsc, hw5, hbp0, hop, hnpe]
            exact rdI_one wo x)
          have HT1 : Hid (TwoR w3 w5 (.slice aA nA cA) (.slice aP nA cP) (allR R k) (plcR R k)) := Lib.hid (by rw [hw5]; exact ⟨HT.out.a.alloc _, HT.out.p.alloc _, HT.out.ap, HT.out.bel.alloc hszr _⟩)
          have hbp : bp < w5.heap.size := by rw [hw5, hbp0]; simp
          have HN1 : Hid ((Value.slice aA nA cA).ownBlock ≠ some bp ∧ (Value.slice aP nA cP).ownBlock ≠ some bp) := Lib.hid ⟨fun e => by have := (HOA.out.lt bp e).2; omega, fun e => by have := (HOP.out.lt bp e).2; omega⟩
          have hnpn : np ≤ n := by
            have : 0 < c.length := by rw [← sortI_len c]; exact hcl0
            omega
          have e1' : w5.cell? ⟨b, off + k * 2, none⟩ = some (.bool false) := by rw [hw5]; exact (World.cell?_of_block (heap_alloc_old _ _ hbr)).trans e1
          clear hct hoc hcy hcy' hsx hsc hcx
          have HVAL : Hid (Value.slice (some ⟨wo.heap.size, 0, none⟩) 1 1 = Value.slice (some ⟨bp, op, none⟩) np 1) := Lib.hid (by rw [hbp0, hop, hnpe])
          clear hbp0 hop hnpe
          go_wp2_with (rw [← hw5])
          rw [HVAL.out]
          go_loopw [10, 11, 15] (fun vA vP i wr => ∃ (j : Nat) (A P : List Int), j ≤ np ∧ i = .int .i64 j ∧ Hid (A = allR R k ++ (sortI c).take j) ∧ Hid (P = plcR R k ++ List.replicate j (k : Int)) ∧ TwoR w3 wr vA vP A P ∧ RdI wr (some ⟨bp, op, none⟩) np (sortI c) ∧ bp < wr.heap.size ∧ vA.ownBlock ≠ some bp ∧ vP.ownBlock ≠ some bp) (fun _ _ i _ => np - (intOf i).toNat)
          case atStart => exact ⟨0, allR R k, plcR R k, by omega, rfl, Lib.hid (by simp), Lib.hid (by simp), HT1.out, HRP.out, hbp, HN1.out.1, HN1.out.2⟩
          case round =>
            obtain ⟨j, A, P, hj, rfl, HA, HP, hT, hrp, hbpr, hna, hnp⟩ := hrel
            obtain ⟨wi, rfl⟩ : ∃ wi : World, wi = wr := ⟨_, rfl⟩
            have hlA : A.length ≤ nA + j := by rw [HA.out, List.length_append, List.length_take, ← HNA.out]; omega
            have hlP : P.length = A.length := by rw [HA.out, HP.out, List.length_append, List.length_append, List.length_take, List.length_replicate, plcR_len R k (by rw [HRN.out]; omega), hrp.len]; omega
            obtain ⟨mA, hmA⟩ : ∃ mA, mA = A.length := ⟨_, rfl⟩
            have hoA := hT.a
            have hoP := hT.p
            rw [hlP] at hoP
            rw [← hmA] at hoA hoP hlA
            obtain ⟨aA2, cA2, rfl⟩ := own_shape' hoA
            obtain ⟨aP2, cP2, rfl⟩ := own_shape' hoP
            have HOA2 := Lib.hid hoA; have HOP2 := Lib.hid hoP; have HT2 := Lib.hid hT; have HRP2 := Lib.hid hrp; have HN2 := Lib.hid (And.intro hna hnp); have HMA := Lib.hid hmA; have HLP := Lib.hid hlP
            have hszi := hT.sized
            clear hoA hoP hT hrp hna hnp hmA hlP
            by_cases hjn : j < np
            · obtain ⟨bq, oq, e, hbq, hcq⟩ := HRP2.out.at_ (by omega)
              obtain ⟨rfl, rfl, -⟩ := by simpa using e
              obtain ⟨z, HZ, cz⟩ := hcq j hjn
              clear hcq hbq e
              obtain ⟨hi0, hz0, hz1, hz2⟩ := HI.out
              go_wp2_with (at_builtin; refine wpList_append_own_at _ rfl _ _ 22 rfl w3.heap.size 3 i0 (.int .i64 0) 1 8 Tryz.underlying22 hi0 hz0 hz1 hz2 rfl (by decide) (.slice aA2 mA cA2) mA (A.map (Value.int .i64)) rfl (HOA2.out.alloc _) ⟨wi.heap.size, 0, none⟩ 1 1 [.int .i64 z] rfl rfl ?c1 ?c2 ?c3 ?c4 ?c5 ?_)
              case c1 => intro j u hj; match j, hj with | 0, hj => simp at hj; subst hj; simp [Addr.add]
              case c2 => intro u hu; simp at hu; subst hu; rfl
              case c3 => unfold maxLen; omega
              case c4 => omega
              case c5 => simp; omega
              intro v6 w6 hown6 hgrow6 _ hloc6
              have HO6 := Lib.hid hown6; have HG6 := Lib.hid hgrow6; have HL6 := Lib.hid hloc6
              have hs6 : wi.heap.size + 1 ≤ w6.heap.size := by have := hgrow6.size; simp at this; omega
              clear hown6 hgrow6 hloc6
              have HOP6 : Hid (w6.ownsRow w3.heap.size 3 1 (.slice aP2 mA cP2) mA (P.map (Value.int .i64))) := Lib.hid ((HOP2.out.alloc _).kept HG6.out (by
                cases h : (Value.slice aP2 mA cP2).ownBlock with
                | none => exact .inl rfl
                | some g => exact .inr (fun e => HT2.out.ap g e.symm h)))
              go_wp2_with (at_builtin; refine wpList_append_own_at _ rfl _ _ 22 rfl w3.heap.size 3 i0 (.int .i64 0) 1 8 Tryz.underlying22 hi0 hz0 hz1 hz2 rfl (by decide) (.slice aP2 mA cP2) mA (P.map (Value.int .i64)) rfl (HOP6.out.alloc _) ⟨w6.heap.size, 0, none⟩ 1 1 [.int .i64 k] rfl rfl ?c1 ?c2 ?c3 ?c4 ?c5 ?_)
              case c1 => intro j u hj; match j, hj with | 0, hj => simp at hj; subst hj; simp [Addr.add]
              case c2 => intro u hu; simp at hu; subst hu; rfl
              case c3 => unfold maxLen; omega
              case c4 => omega
              case c5 => (try simp); omega
              intro v8 w8 hown8 hgrow8 _ hloc8
              have HST := Lib.hid (HT2.out.step (x := z) (y := k) (by rw [← HMA.out]; exact HO6.out) HG6.out HL6.out (by rw [HLP.out, ← HMA.out]; exact hown8) hgrow8 hloc8)
              have hs8 : w6.heap.size + 1 ≤ w8.heap.size := by have := hgrow8.size; simp at this; omega
              clear hown8 hgrow8 hloc8
              go_wp2_with fail
              go_roundw
              case rel =>
                obtain ⟨q1, q2⟩ := HST.out
                obtain ⟨q3, q4, q5⟩ := q2 bp hbpr HN2.out.1 HN2.out.2
                have hjc : j < (sortI c).length := by rw [HRP2.out.len]; exact hjn
                have hzj : (sortI c)[j] = z := by have := HZ.out; simpa [List.getD, hjc] using this
                exact ⟨j + 1, A ++ [z], P ++ [(k : Int)], by omega, by go_num, Lib.hid (by rw [HA.out, List.append_assoc, List.take_succ_eq_append_getElem hjc, hzj]), Lib.hid (by rw [HP.out, List.append_assoc, List.replicate_succ']), q1, HRP2.out.keepB (by omega) q3, by omega, q4, q5⟩
              case measure => simp [intOf]; omega
            · obtain rfl : j = np := by omega
              have e1 : (sortI c).take j = sortI c := List.take_of_length_le (by rw [HRP2.out.len]; exact Nat.le_refl _)
              have HA2 : Hid (A = allR R (k + 1)) := Lib.hid (by rw [allR_succ HCC.out, HA.out, e1])
              have HP2 : Hid (P = plcR R (k + 1)) := Lib.hid (by rw [plcR_succ HCC.out, HP.out, ← sortI_len c, HRP2.out.len])
              clear e1
              go_wp2_with fail
              go_roundw
              case rel => exact ⟨k + 1, q, by omega, by go_num, rfl, HQ2.out, by rw [← HA2.out, ← HP2.out]; exact HT2.out⟩
              case measure => simp [intOf]; omega
      · obtain rfl : k = N := by omega
        have e0 : R.take k = R := List.take_of_length_le (by rw [HRN.out]; exact Nat.le_refl _)
        have HQM : Hid (q = M) := Lib.hid (by rw [HQ.out, e0]; exact HM.out.symm)
        obtain rfl : q = M := HQM.out
        have hall : allR R k = allR R R.length := by rw [HRN.out]
        have hpf : (allR R k).Perm (sortI ns) := by
          rw [hall]
          exact (allR_perm R).trans ((List.perm_ext_iff_of_nodup HRR.out.scc.nd (HU.out.imp fun {a b} h => by omega)).2 HRR.out.scc.mem)
        have HSRT : Hid (sortI (allR R k) = sortI ns) := Lib.hid (sortI_unique hpf.symm (sortI_pw ns)).symm
        have hnAA : nA = n := by rw [HNA.out, hpf.length_eq, sortI_len, HN.out.len]
        subst hnAA
        have HMEM : Hid (∀ x, x ∈ ns → x ∈ allR R k) := Lib.hid (fun x hx => hpf.mem_iff.2 (mem_sortI.2 hx))
        have HBO : Hid (Below w0.heap.size w0 wo) := Lib.hid (HB3.out.trans (HT.out.bel.mono HB3.out.size))
        have HBD : Hid (Below w0.heap.size w0 wo.drew) := Lib.hid (below_drewN HBO.out 1)
        have HRA : Hid (RdI wo.drew aA nA (allR R k)) := Lib.hid ((rdi_ownO HOA.out).drewN 1)
        have HRPL : Hid (RdI wo aP nA (plcR R k)) := Lib.hid (rdi_ownO HOP.out)
        have hq0 : ((q : Int) != (q : Int)) = false := by simp
        clear e0 hall hpf
        go_upto_region 19 with fail
        refine wp_region_L (by kernel_rfl) (fun w' => w'.cell? ⟨w.heap.size, 1, none⟩ = some (.slice an nA cn)) [] (HBX.out _ HBD.out).2.1 (fun hHeld => ?_)
        refine wpAnyL_take (i := 0) (v := ?_) rfl (by kernel_rfl) (by kernel_rfl) (by kernel_rfl) (by kernel_rfl) (fun _ _ _ h => h) (by kernel_rfl) ?_ hHeld ?_
        rotate_left
        · intro w hSw; obtain hs1 := hSw; go_simp; all_goals with_reducible rfl
        simp only [Act.put]
        refine wpAnyL_take (i := 1) (v := ?_) rfl (by kernel_rfl) (by kernel_rfl) (by kernel_rfl) (by kernel_rfl) (fun _ _ _ h => h) (by kernel_rfl) ?_ hHeld ?_
        rotate_left
        · intro w hSw; obtain hs1 := hSw; go_simp; all_goals with_reducible rfl
        simp only [Act.put]
        refine wpAnyL_take (i := 2) (v := ?_) rfl (by kernel_rfl) (by kernel_rfl) (by kernel_rfl) (by kernel_rfl) (fun _ _ _ h => h) (by kernel_rfl) ?_ hHeld ?_
        rotate_left
        · intro w hSw; obtain hs1 := hSw; go_simp; all_goals with_reducible rfl
        simp only [Act.put]
        refine wpAnyL_take (i := 3) (v := ?_) rfl (by kernel_rfl) (by kernel_rfl) (by kernel_rfl) (by kernel_rfl) (fun _ _ _ h => h) (by kernel_rfl) ?_ hHeld ?_
        rotate_left
        · intro w hSw; obtain hs1 := hSw; go_simp; all_goals with_reducible rfl
        simp only [Act.put]
        refine wpAnyL_take (i := 4) (v := ?_) rfl (by kernel_rfl) (by kernel_rfl) (by kernel_rfl) (by kernel_rfl) (fun _ _ _ h => h) (by kernel_rfl) ?_ hHeld ?_
        rotate_left
        · intro w hSw; obtain hs1 := hSw; go_simp; all_goals with_reducible rfl
        simp only [Act.put]
        refine wpAnyL_take (i := 5) (v := ?_) rfl (by kernel_rfl) (by kernel_rfl) (by kernel_rfl) (by kernel_rfl) (fun _ _ _ h => h) (by kernel_rfl) ?_ hHeld ?_
        rotate_left
        · intro w hSw; obtain hs1 := hSw; go_simp; all_goals with_reducible rfl
        simp only [Act.put]
        refine wpAnyL_take (i := 7) (v := ?_) rfl (by kernel_rfl) (by kernel_rfl) (by kernel_rfl) (by kernel_rfl) (fun _ _ _ h => h) (by kernel_rfl) ?_ hHeld ?_
        rotate_left
        · intro w hSw; obtain hs1 := hSw; go_simp; all_goals with_reducible rfl
        simp only [Act.put]
        refine wpAnyL_take (i := 8) (v := ?_) rfl (by kernel_rfl) (by kernel_rfl) (by kernel_rfl) (by kernel_rfl) (fun _ _ _ h => h) (by kernel_rfl) ?_ hHeld ?_
        rotate_left
        · intro w hSw; obtain hs1 := hSw; go_simp; all_goals with_reducible rfl
        simp only [Act.put]
        refine wpAnyL_one (i := 6) rfl (by kernel_rfl) (by kernel_rfl) (fun K hK => ?_)
        go_simp
        refine (sorted_calls aA nA cA (allR R k) wo.drew HRA.out (by omega)).mono ?_
        rintro e w4 ⟨v4, rfl, ho4, hb4⟩
        rw [HSRT.out] at ho4
        obtain ⟨a4, c4, rfl⟩ := own_shape' ho4
        have HO4 := Lib.hid (rdi_ownO ho4)
        have HB4 : Hid (Below w0.heap.size w0 w4) := Lib.hid (HBD.out.trans (hb4.mono HBD.out.size))
        have HB4O : Hid (Below wo.heap.size wo w4) := Lib.hid ((below_drewN (Below.refl _ _) 1).trans hb4)
        have HB4W : Hid (Below w.heap.size w w4) := Lib.hid (HB0.out.trans (HB4.out.mono HB0.out.size))
        clear ho4 hb4
        clear hHeld
        have hHeld : (fun w' : World => w'.cell? ⟨w.heap.size, 1, none⟩ = some (.slice an nA cn)) w4 := (HBX.out _ HB4.out).2.1
        refine hK.out _ _ (.inr hHeld) ?_
        clear hK K
        refine wpAnyL_one (i := 9) rfl (by kernel_rfl) (by kernel_rfl) (fun K hK => ?_)
        go_simp
        refine (sorted_calls an nA cn ns w4 (HN.out.below HB4W.out (Nat.le_refl _)) (by omega)).mono ?_
        rintro e w6 ⟨v6, rfl, ho6, hb6⟩
        obtain ⟨a6, c6, rfl⟩ := own_shape' ho6
        have HR6 : Hid (RdI w6 a6 nA (sortI ns)) := Lib.hid (rdi_ownO ho6)
        have HR4 : Hid (RdI w6 a4 nA (sortI ns)) := Lib.hid (HO4.out.below hb6 (Nat.le_refl _))
        have HB6 : Hid (Below w0.heap.size w0 w6) := Lib.hid (HB4.out.trans (hb6.mono HB4.out.size))
        have HB6O : Hid (Below wo.heap.size wo w6) := Lib.hid (HB4O.out.trans (hb6.mono HB4O.out.size))
        clear ho6 hb6
        clear hHeld
        have hHeld : (fun w' : World => w'.cell? ⟨w.heap.size, 1, none⟩ = some (.slice an nA cn)) w6 := (HBX.out _ HB6.out).2.1
        refine hK.out _ _ (.inr hHeld) ?_
        clear hK K
        refine wpAnyL_one (i := 10) rfl (by kernel_rfl) (by kernel_rfl) (fun K hK => ?_)
        go_simp
        refine (equalI_calls a4 a6 nA c4 c6 (sortI ns) w6 HR4.out HR6.out).mono ?_
        rintro e w7 ⟨rfl, q7, hw7⟩
        have HB7 : Hid (Below w0.heap.size w0 w7) := Lib.hid (by rw [hw7]; exact below_drewN HB6.out q7)
        have HB7O : Hid (Below wo.heap.size wo w7) := Lib.hid (by rw [hw7]; exact below_drewN HB6O.out q7)
        have HB7W : Hid (Below w.heap.size w w7) := Lib.hid (HB0.out.trans (HB7.out.mono HB0.out.size))
        clear hw7
        clear hHeld
        have hHeld : (fun w' : World => w'.cell? ⟨w.heap.size, 1, none⟩ = some (.slice an nA cn)) w7 := (HBX.out _ HB7.out).2.1
        refine hK.out _ _ (.inr hHeld) ?_
        clear hK K
        refine wpAnyL_take (i := 11) (v := ?_) rfl (by kernel_rfl) (by kernel_rfl) (by kernel_rfl) (by kernel_rfl) (fun _ _ _ h => h) (by kernel_rfl) ?_ hHeld ?_
        rotate_left
        · intro w hSw; obtain hs1 := hSw; go_simp; all_goals with_reducible rfl
        simp only [Act.put]
        refine wpAnyL_one (i := 12) rfl (by kernel_rfl) (by kernel_rfl) (fun K hK => ?_)
        go_simp
        refine hK.out _ _ (.inr hHeld) ?_
        clear hK K
        refine wpAnyL_done (by kernel_rfl) ?_ _
        clear hHeld hq0
        obtain ⟨k0, k1, k2⟩ := HBX.out w7 HB7.out
        go_wp2_with fail
        have hms := HR.out.small
        go_loopw [16] (fun i wr => ∃ x : Nat, x ≤ m ∧ i = .int .i64 x ∧ Below w7.heap.size w7 wr) (fun i _ => m - (intOf i).toNat)
        case atStart => exact ⟨0, by omega, rfl, Below.refl _ _⟩
        case round =>
          obtain ⟨x, hx, rfl, hb⟩ := hrel
          obtain ⟨wp, rfl⟩ : ∃ wp : World, wp = wr := ⟨_, rfl⟩
          have HBP := Lib.hid hb
          have HBPW : Hid (Below w.heap.size w wp) := Lib.hid (HB7W.out.trans (hb.mono HB7W.out.size))
          have HBPO : Hid (Below wo.heap.size wo wp) := Lib.hid (HB7O.out.trans (hb.mono HB7O.out.size))
          obtain ⟨j0, j1, j2⟩ := HBX.out wp (HB7.out.trans (hb.mono HB7.out.size))
          clear hb k0 k1 k2
          by_cases hltx : x < m
          · obtain ⟨b, off, rfl, hbb, hc⟩ := HR.out.at_ (by omega)
            obtain ⟨u, v, z, HE, c0, c1', c2⟩ := hc x hltx
            have e0 := (HBPW.out.cell (p := ⟨b, _, none⟩) hbb).trans c0
            have e1 := (HBPW.out.cell (p := ⟨b, _, none⟩) hbb).trans c1'
            have hends := well_ends HW.out (u, v, z) (List.mem_of_getElem? HE.out)
            have harc : v ∈ fromL true ns es u := List.mem_filter.2 ⟨mem_sortI.2 hends.2, List.any_eq_true.2 ⟨(u, v, z), List.mem_of_getElem? HE.out, by simp [arcAt]⟩⟩
            obtain ⟨pu, hpu, hiu, hau⟩ := idx_spec (allR R k) u 0 (HMEM.out u hends.1)
            obtain ⟨pv, hpv, hiv, hav⟩ := idx_spec (allR R k) v 0 (HMEM.out v hends.2)
            obtain ⟨iu, cu, hiuk, hcu, hucu, hplu⟩ := plcR_at R k (by rw [HRN.out]; exact Nat.le_refl _) pu u hau
            obtain ⟨iv, cv, hivk, hcv, hvcv, hplv⟩ := plcR_at R k (by rw [HRN.out]; exact Nat.le_refl _) pv v hav
            have hle : iu ≤ iv := HRR.out.ord iu iv cu cv u v hcu hcv hucu hvcv harc
            rw [← HNA.out] at hpu hpv
            obtain ⟨bP, oP, rfl, hbP, hcP⟩ := HRPL.out.at_ (by omega)
            obtain ⟨zu, hzu, ku⟩ := hcP pu hpu
            obtain ⟨zv, hzv, kv⟩ := hcP pv hpv
            have hzu' : zu = (iu : Int) := by rw [← hzu.out, List.getD_eq_getElem?_getD, hplu]; rfl
            have hzv' : zv = (iv : Int) := by rw [← hzv.out, List.getD_eq_getElem?_getD, hplv]; rfl
            subst hzu' hzv'
            have f0 := (HBPO.out.cell (p := ⟨bP, _, none⟩) hbP).trans ku
            have f1 := (HBPO.out.cell (p := ⟨bP, _, none⟩) hbP).trans kv
            have HRAW : Hid (RdI wp aA nA (allR R k)) := Lib.hid ((rdi_ownO HOA.out).below HBPO.out (Nat.le_refl _))
            have HIU : Hid (∀ q, Calls Tryz.prog 62 #[.slice aA nA cA, .int .i64 u] (wp.drewN q) fun e w' => e = .returned (.int .i64 ((pu : Nat) : Int)) ∧ w' = wp.drewN q) := Lib.hid (fun q =>
              (index_calls aA nA cA (allR R k) u _ (HRAW.out.drewN q)).mono fun e w' ⟨h1, h2⟩ => ⟨by rw [h1, hiu, Nat.zero_add], h2.symm⟩)
            have HIV : Hid (∀ q, Calls Tryz.prog 62 #[.slice aA nA cA, .int .i64 v] (wp.drewN q) fun e w' => e = .returned (.int .i64 ((pv : Nat) : Int)) ∧ w' = wp.drewN q) := Lib.hid (fun q =>
              (index_calls aA nA cA (allR R k) v _ (HRAW.out.drewN q)).mono fun e w' ⟨h1, h2⟩ => ⟨by rw [h1, hiv, Nat.zero_add], h2.symm⟩)
            have hgt : ¬ (iv : Int) < (iu : Int) := by omega
            have hgt2 : decide (iv < iu) = false := by simp; omega
            clear hc c0 c1' c2 hends harc hiu hiv hau hav hcu hcv hucu hvcv hplu hplv hcP hzu hzv ku kv
            go_wp2_with fail
            go_quiet (first
              | (go_at_call 62; with_reducible exact Calls.quiet_of_same (HIU.out _))
              | (go_at_call 62; with_reducible exact Calls.quiet_of_same (HIV.out _)))
            go_wp2_with fail
            go_roundw
            case rel => exact ⟨x + 1, by omega, by go_num, below_drewN HBP.out _⟩
            case measure => simp [intOf]; omega
          · go_wp2_with fail
            go_ret
            exact ⟨rfl, HBPW.out⟩
end Go.Proofs.YtnfkbjgijelfdaaGreat
