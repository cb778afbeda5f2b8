/- The walk of tarjan.strongconnect. -/
import Derived.Test.YtnfkbjgijelfdaaGreatTarM
import Derived.Test.YtnfkbjgijelfdaaGreatHeldL
import Derived.Test.YtnfkbjgijelfdaaGreatRdN
import Derived.Test.YtnfkbjgijelfdaaGreatMeth
import Derived.Test.YtnfkbjgijelfdaaGreatOpen
import Derived.Deep.LoopGhost
import Derived.Deep.DeepCutAuto
import Derived.Deep.CutBlock
import Derived.Laws.EntriesVeiled
namespace Go.Proofs.YtnfkbjgijelfdaaGreat
open Go.RowKit

def SuccPost (l : List Int) (w : World) (e : Ending) (w' : World) : Prop := ∃ v, e = .returned v ∧ w'.ownsRow w.heap.size 103 1 v l.length (l.map nodeV) ∧ Below w.heap.size w w'
/-- The function that yields the successors of a node. -/
structure SuccF (fU : FuncId) (cU : Array Value) (wB : World) (B0 : Nat) (ids : List Int) (adj : Int → List Int) : Prop where
  eU : ∀ args w, (callFunc fU args).run Tryz.prog w = .ok (.enter fU args) w
  asks : ∀ w x, x ∈ ids → Below B0 wB w → Calls Tryz.prog fU (#[.int .i64 x] ++ cU) w (SuccPost (adj x) w)

def SPost (wB : World) (B0 : Nat) (cS : Value) (bt bT bL bS lo : Nat) (adj : Int → List Int) (v : Int) (s : TS) (B : Nat) (F : Nat → Prop) (w : World) (e : Ending) (w' : World) : Prop :=
  e = .returned (.tuple #[]) ∧ ∃ s1 F', Suc adj v (s.enter v) (adj v) s1 ∧ TSt wB B0 cS bt bT bL bS lo (s1.leave v) (B + 2000 * (s1.idx - s.idx)) F' w' ∧ Foot F w w' ∧ ∀ j, F' j → F j ∨ w.heap.size ≤ j

theorem nodup_lenT : ∀ {l m : List Int}, l.Nodup → (∀ x ∈ l, x ∈ m) → l.length ≤ m.length
  | [], _, _, _ => Nat.zero_le _
  | x :: l, m, hn, hs => by
    have hx : x ∈ m := hs x (List.mem_cons_self ..)
    rw [List.nodup_cons] at hn
    have h1 := nodup_lenT (m := m.erase x) hn.2 (fun y hy => (List.mem_erase_of_ne (fun e => hn.1 (by rw [e] at hy; exact hy))).2 (hs y (List.mem_cons_of_mem _ hy)))
    rw [List.length_erase_of_mem hx] at h1
    have := List.length_pos_of_mem hx
    simp only [List.length_cons]; omega
theorem len_flatten : ∀ {L : List (List Int)}, (∀ c ∈ L, c ≠ []) → L.length ≤ L.flatten.length
  | [], _ => Nat.zero_le _
  | c :: L, h => by
    have h1 := len_flatten (L := L) (fun d hd => h d (List.mem_cons_of_mem _ hd))
    have h2 : 0 < c.length := List.length_pos_iff.2 (h c (by simp))
    simp only [List.flatten_cons, List.length_append, List.length_cons]
    omega
theorem unm_pos {ids : List Int} {t : Int → Nat} {v : Int} (hv : v ∈ ids) (h0 : t v = 0) : 0 < unm ids t := List.countP_pos_iff.2 ⟨v, hv, by simpa using h0⟩
theorem nodeT_info : (Tryz.prog.info? 103).map (fun i => (i.zero, i.size, i.bytes)) = some (some .nilIface, 1, 16) := by kernel_rfl
theorem nodesT_info : (Tryz.prog.info? 77).map (fun i => (i.zero, i.size, i.bytes)) = some (some (.slice none 0 0), 1, 24) := by kernel_rfl

set_option maxHeartbeats 16000000 in
set_option maxRecDepth 200000 in
theorem strong_calls {fU : FuncId} {cU : Array Value} {wB : World} {B0 : Nat} {ids : List Int} {adj : Int → List Int} {bt bT bL bS lo : Nat} (hU : SuccF fU cU wB B0 ids adj) (hwf : ∀ y ∈ ids, (Lit.int .i64 y).wf = true) (hadj : ∀ a, ∀ b ∈ adj a, b ∈ ids) (hdeg : ∀ a, (adj a).length ≤ 1000) (hids : ids.length ≤ 1000) :
    ∀ (m : Nat) (g : List Int) (s : TS) (v : Int) (B : Nat) (F : Nat → Prop) (w : World), unm ids s.tab ≤ m → TInv adj g s → (∀ y ∈ g, ReachA adj y v) → s.tab v = 0 → v ∈ ids → (∀ x, s.tab x ≠ 0 → x ∈ ids) → s.idx + unm ids s.tab ≤ 1000 → TSt wB B0 (.func (.func fU) #[] cU) bt bT bL bS lo s B F w → B + 2000 * unm ids s.tab ≤ 10000000 →
      Calls Tryz.prog 128 #[.pointer (some ⟨bt, 0, none⟩), nodeV v] w (SPost wB B0 (.func (.func fU) #[] cU) bt bT bL bS lo adj v s B F w) := by
  intro m
  induction m with
  | zero =>
    intro g s v B F w hm _ _ h0 hv
    have := unm_pos hv h0
    omega
  | succ m ih =>
    intro g s v B F w hm hI hr h0 hv hsub hidx hst hB
    obtain ⟨fT, fL, fS, vK, vC, vs, hok, hmem, hF⟩ := hst
    obtain ⟨c0, c1, c2, c3, c4, c5, c6⟩ := hmem.cells
    have f1 := hmem.free 1
    have hwv := hwf v hv
    have hun := unm_pos hv h0
    have hib : s.idx ≤ 1000 := by omega
    have HIDS := Lib.hid hids; have HU := Lib.hid hU; have HWF := Lib.hid hwf; have HADJ := Lib.hid hadj; have HDEG := Lib.hid hdeg; have HI := Lib.hid hI; have HR := Lib.hid hr; have H0 := Lib.hid h0; have HV := Lib.hid hv; have HSUB := Lib.hid hsub; have HOK := Lib.hid hok; have HM := Lib.hid hmem; have HF := Lib.hid hF; have IH := Lib.hid ih
    obtain ⟨i, hi⟩ : ∃ i, i = s.idx := ⟨_, rfl⟩
    obtain ⟨un, hun1⟩ : ∃ un, un = unm ids s.tab := ⟨_, rfl⟩
    have HIX := Lib.hid hi; have HUN := Lib.hid hun1
    rw [← hi] at hib hidx HM c1
    rw [← hun1] at hm hidx hB hun
    have m7 := method_ID
    have m8 := hU.eU
    clear hids hU hwf hadj hdeg hI hr h0 hv hsub hok hmem hF ih hi hun1
    unfold nodeV
    obtain ⟨i1, hi1⟩ : ∃ i1, i1 = i + 1 := ⟨_, rfl⟩
    have hi2 : (i : Int) + 1 = (i1 : Int) := by omega
    have hi3 : IntKind.i64.wrap ((i : Int) + 1) = (i1 : Int) := by rw [IntKind.wrap_i64]; omega
    have hi1b : i1 ≤ 1001 := by omega
    have HI1 := Lib.hid hi1
    clear hi1
    go_enter Tryz.func128, Tryz.ntmps128
    go_wp2_with fail
    refine (nodeID_calls v w).mono ?_
    rintro e w' ⟨rfl, rfl⟩
    go_wp2_with fail
    obtain ⟨w1, hw1⟩ : ∃ w1, w1 = w.setCell ⟨bt, 1, none⟩ (.int .i64 (i1 : Int)) := ⟨_, rfl⟩
    have HM1 := Lib.hid (HM.out.setIdx i1)
    have HF1 : Hid (Foot F w w1) := Lib.hid (by rw [hw1]; exact (Foot.refl F w).setCell bt 1 _ (.inl ((HF.out bt).2 (.inl rfl))))
    rw [← hw1] at HM1 ⊢
    clear hw1 c0 c1 c2 c3 c4 c5 c6 f1 hi2 hi3
    -- the table of the indices
    obtain ⟨-, c1, c2, -, -, -, -⟩ := HM1.out.cells
    obtain ⟨w2, hrun2, hgm2, hgr2⟩ := (HM1.out.tT.of_heap (w' := w1.drew) rfl).set (t := 193) (e := 3) Tryz.underlying2 Tryz.underlying193 (by unfold maxLen; omega) hwv (.int .i64 (i1 : Int))
    have HM2 := Lib.hid ((HM1.out.below (below_drewN (Below.refl _ _) 1)).setT hgr2 hgm2)
    have HF2 : Hid (Foot F w w2) := Lib.hid ((HF1.out.trans (Foot.of_below (below_drewN (Below.refl w1.heap.size w1) 1) (fun _ => False)) (fun _ h => h.elim)).trans (Foot.of_grown hgr2) (fun j hj => .inl ((HF.out j).2 (.inr (.inl hj)))))
    clear hgm2 hgr2
    go_upto_region 2 with fail
    refine wp_region_L (by kernel_rfl) (fun w' => w'.cell? ⟨bt, 2, none⟩ = some (.map (some bT)) ∧ w'.cell? ⟨bt, 1, none⟩ = some (.int .i64 (i1 : Int))) [9] ⟨c2, c1⟩ (fun hHeld => ?_)
    refine wpAnyL_take (i := 0) (v := ?_) rfl (by kernel_rfl) (by kernel_rfl) (by kernel_rfl) (by kernel_rfl) (fun _ _ _ h => h) (by kernel_rfl) ?_ hHeld ?_
    rotate_left
    · intro w hSw; obtain ⟨hs0, hs1⟩ := hSw; go_simp; all_goals with_reducible rfl
    simp only [Act.put]
    refine wpAnyL_take (i := 1) (v := ?_) rfl (by kernel_rfl) (by kernel_rfl) (by kernel_rfl) (by kernel_rfl) (fun _ _ _ h => h) (by kernel_rfl) ?_ hHeld ?_
    rotate_left
    · intro w hSw; obtain ⟨hs0, hs1⟩ := hSw; go_simp; all_goals with_reducible rfl
    simp only [Act.put]
    refine wpAnyL_take (i := 2) (v := ?_) rfl (by kernel_rfl) (by kernel_rfl) (by kernel_rfl) (by kernel_rfl) (fun _ _ _ h => h) (by kernel_rfl) ?_ hHeld ?_
    rotate_left
    · intro w hSw; obtain ⟨hs0, hs1⟩ := hSw; go_simp; all_goals with_reducible rfl
    simp only [Act.put]
    refine wpAnyL_take (i := 3) (v := ?_) rfl (by kernel_rfl) (by kernel_rfl) (by kernel_rfl) (by kernel_rfl) (fun _ _ _ h => h) (by kernel_rfl) ?_ hHeld ?_
    rotate_left
    · intro w hSw; obtain ⟨hs0, hs1⟩ := hSw; go_simp; all_goals with_reducible rfl
    simp only [Act.put]
    refine wpAnyL_take (i := 4) (v := ?_) rfl (by kernel_rfl) (by kernel_rfl) (by kernel_rfl) (by kernel_rfl) (fun _ _ _ h => h) (by kernel_rfl) ?_ hHeld ?_
    rotate_left
    · intro w hSw; obtain ⟨hs0, hs1⟩ := hSw; go_simp; all_goals with_reducible rfl
    simp only [Act.put]
    refine wpAnyL_take (i := 5) (v := ?_) rfl (by kernel_rfl) (by kernel_rfl) (by kernel_rfl) (by kernel_rfl) (fun _ _ _ h => h) (by kernel_rfl) ?_ hHeld ?_
    rotate_left
    · intro w hSw; obtain ⟨hs0, hs1⟩ := hSw; go_simp; all_goals with_reducible rfl
    simp only [Act.put]
    refine wpAnyL_take (i := 6) (v := ?_) rfl (by kernel_rfl) (by kernel_rfl) (by kernel_rfl) (by kernel_rfl) (fun _ _ _ h => h) (by kernel_rfl) ?_ hHeld ?_
    rotate_left
    · intro w hSw; obtain ⟨hs0, hs1⟩ := hSw; go_simp; all_goals with_reducible rfl
    simp only [Act.put]
    refine wpAnyL_take (i := 7) (v := ?_) rfl (by kernel_rfl) (by kernel_rfl) (by kernel_rfl) (by kernel_rfl) (fun _ _ _ h => h) (by kernel_rfl) ?_ hHeld ?_
    rotate_left
    · intro w hSw; obtain ⟨hs0, hs1⟩ := hSw; go_simp; all_goals with_reducible rfl
    simp only [Act.put]
    refine wpAnyL_take (i := 8) (v := ?_) rfl (by kernel_rfl) (by kernel_rfl) (by kernel_rfl) (by kernel_rfl) (fun _ _ _ h => h) (by kernel_rfl) ?_ hHeld ?_
    rotate_left
    · intro w hSw; obtain ⟨hs0, hs1⟩ := hSw; go_simp; all_goals with_reducible rfl
    simp only [Act.put]
    refine wpAnyL_one (i := 9) rfl (by kernel_rfl) (by kernel_rfl) (fun K hK => ?_)
    go_simp
    refine hK.out _ _ (.inl (by decide)) ?_
    clear hK K hHeld
    refine wpAnyL_done (by kernel_rfl) ?_ _
    clear c1 c2 hrun2 HM1 HF1
    -- the low links
    obtain ⟨-, c1, -, c3, -, -, -⟩ := HM2.out.cells
    obtain ⟨w3, hrun3, hgm3, hgr3⟩ := (HM2.out.tL.of_heap (w' := w2.drew) rfl).set (t := 193) (e := 3) Tryz.underlying2 Tryz.underlying193 (by unfold maxLen; omega) hwv (.int .i64 (i1 : Int))
    have HM3 := Lib.hid ((HM2.out.below (below_drewN (Below.refl _ _) 1)).setL hgr3 hgm3)
    have HF3 : Hid (Foot F w w3) := Lib.hid ((HF2.out.trans (Foot.of_below (below_drewN (Below.refl w2.heap.size w2) 1) (fun _ => False)) (fun _ h => h.elim)).trans (Foot.of_grown hgr3) (fun j hj => .inl ((HF.out j).2 (.inr (.inr (.inl hj))))))
    clear hgm3 hgr3
    go_upto_region 3 with fail
    refine wp_region_L (by kernel_rfl) (fun w' => w'.cell? ⟨bt, 3, none⟩ = some (.map (some bL)) ∧ w'.cell? ⟨bt, 1, none⟩ = some (.int .i64 (i1 : Int))) [9] ⟨c3, c1⟩ (fun hHeld => ?_)
    refine wpAnyL_take (i := 0) (v := ?_) rfl (by kernel_rfl) (by kernel_rfl) (by kernel_rfl) (by kernel_rfl) (fun _ _ _ h => h) (by kernel_rfl) ?_ hHeld ?_
    rotate_left
    · intro w hSw; obtain ⟨hs0, hs1⟩ := hSw; go_simp; all_goals with_reducible rfl
    simp only [Act.put]
    refine wpAnyL_take (i := 1) (v := ?_) rfl (by kernel_rfl) (by kernel_rfl) (by kernel_rfl) (by kernel_rfl) (fun _ _ _ h => h) (by kernel_rfl) ?_ hHeld ?_
    rotate_left
    · intro w hSw; obtain ⟨hs0, hs1⟩ := hSw; go_simp; all_goals with_reducible rfl
    simp only [Act.put]
    refine wpAnyL_take (i := 2) (v := ?_) rfl (by kernel_rfl) (by kernel_rfl) (by kernel_rfl) (by kernel_rfl) (fun _ _ _ h => h) (by kernel_rfl) ?_ hHeld ?_
    rotate_left
    · intro w hSw; obtain ⟨hs0, hs1⟩ := hSw; go_simp; all_goals with_reducible rfl
    simp only [Act.put]
    refine wpAnyL_take (i := 3) (v := ?_) rfl (by kernel_rfl) (by kernel_rfl) (by kernel_rfl) (by kernel_rfl) (fun _ _ _ h => h) (by kernel_rfl) ?_ hHeld ?_
    rotate_left
    · intro w hSw; obtain ⟨hs0, hs1⟩ := hSw; go_simp; all_goals with_reducible rfl
    simp only [Act.put]
    refine wpAnyL_take (i := 4) (v := ?_) rfl (by kernel_rfl) (by kernel_rfl) (by kernel_rfl) (by kernel_rfl) (fun _ _ _ h => h) (by kernel_rfl) ?_ hHeld ?_
    rotate_left
    · intro w hSw; obtain ⟨hs0, hs1⟩ := hSw; go_simp; all_goals with_reducible rfl
    simp only [Act.put]
    refine wpAnyL_take (i := 5) (v := ?_) rfl (by kernel_rfl) (by kernel_rfl) (by kernel_rfl) (by kernel_rfl) (fun _ _ _ h => h) (by kernel_rfl) ?_ hHeld ?_
    rotate_left
    · intro w hSw; obtain ⟨hs0, hs1⟩ := hSw; go_simp; all_goals with_reducible rfl
    simp only [Act.put]
    refine wpAnyL_take (i := 6) (v := ?_) rfl (by kernel_rfl) (by kernel_rfl) (by kernel_rfl) (by kernel_rfl) (fun _ _ _ h => h) (by kernel_rfl) ?_ hHeld ?_
    rotate_left
    · intro w hSw; obtain ⟨hs0, hs1⟩ := hSw; go_simp; all_goals with_reducible rfl
    simp only [Act.put]
    refine wpAnyL_take (i := 7) (v := ?_) rfl (by kernel_rfl) (by kernel_rfl) (by kernel_rfl) (by kernel_rfl) (fun _ _ _ h => h) (by kernel_rfl) ?_ hHeld ?_
    rotate_left
    · intro w hSw; obtain ⟨hs0, hs1⟩ := hSw; go_simp; all_goals with_reducible rfl
    simp only [Act.put]
    refine wpAnyL_take (i := 8) (v := ?_) rfl (by kernel_rfl) (by kernel_rfl) (by kernel_rfl) (by kernel_rfl) (fun _ _ _ h => h) (by kernel_rfl) ?_ hHeld ?_
    rotate_left
    · intro w hSw; obtain ⟨hs0, hs1⟩ := hSw; go_simp; all_goals with_reducible rfl
    simp only [Act.put]
    refine wpAnyL_one (i := 9) rfl (by kernel_rfl) (by kernel_rfl) (fun K hK => ?_)
    go_simp
    refine hK.out _ _ (.inl (by decide)) ?_
    clear hK K hHeld
    refine wpAnyL_done (by kernel_rfl) ?_ _
    clear c1 c3 hrun3 HM2 HF2
    -- the stack
    obtain ⟨-, -, -, -, c4, c5, -⟩ := HM3.out.cells
    have f5 := HM3.out.free 5
    obtain ⟨aK, cK, rfl⟩ := own_shape' HM3.out.stk
    obtain ⟨nK, hnK⟩ : ∃ nK, nK = s.stack.length := ⟨_, rfl⟩
    have HSTK := Lib.hid HM3.out.stk
    rw [← hnK] at HSTK c5 HM3 HF
    have HNK := Lib.hid hnK
    have hnk1 : nK ≤ 1000 := by
      rw [hnK]
      exact Nat.le_trans (nodup_lenT (List.nodup_append.1 HI.out.nd).1 (fun x hx => HSUB.out x ((HI.out.met x).2 (.inl hx)))) HIDS.out
    obtain ⟨j0, hj0, hz0, hz1, hz2⟩ := info_parts nodeT_info
    have hg3 : bt < w3.heap.size := (HM3.out.flt (.inl rfl)).2
    clear hnK
    go_wp2_with (at_builtin; refine wpList_append_own_at _ rfl _ _ 77 rfl lo 103 j0 .nilIface 1 16 Tryz.underlying77 hj0 hz0 hz1 hz2 rfl (by decide) (.slice aK nK cK) nK (s.stack.map nodeV) rfl ?hown ⟨w3.heap.size, 0, none⟩ 1 1 [nodeV v] rfl rfl ?c1 ?c2 ?c3 ?c4 ?c5 ?_)
    case hown => exact HSTK.out.alloc _
    case c1 => intro j u hj; match j, hj with | 0, hj => simp at hj; subst hj; first | exact (World.cell?_alloc_new w3 _ _ _).trans rfl | rfl
    case c2 => first | rfl | (intro u hu; simp at hu; subst hu; rfl)
    case c3 => unfold maxLen; omega
    case c4 => omega
    case c5 => have := HM3.out.lt; first | omega | (simp; omega)
    intro v1 w4 hown hgrow _ hloc
    obtain ⟨aK', cK', rfl⟩ := own_shape' hown
    have hf4 : Foot (fun j => (Value.slice aK nK cK).ownBlock = some j) w3 w4 := (Foot.of_below ((Below.refl w3.heap.size w3).alloc (Nat.le_refl _) _) _).trans (Foot.of_row hgrow) (fun j hj => .inl hj.symm)
    have hnb : ¬ (Value.slice aK nK cK).ownBlock = some bt := fun e => by have h1 := HSTK.out.lt bt e; have h2 := HM3.out.lt; omega
    have k1 := hf4.cell c5 hnb
    have k3 := hf4.cell c4 hnb
    have k2 : w4.frozen? ⟨bt, 5, none⟩ = false := (World.frozen?_of_block (a := ⟨bt, 5, none⟩) (hf4.block bt hg3 hnb)).trans f5
    obtain ⟨hm5, hf5⟩ := HM3.out.newK (K' := s.stack ++ [v]) hf4 (by rw [List.length_append, List.map_append, ← HNK.out]; exact hown) (fun g hg => by
      rcases hloc with h1 | h1
      · exact .inl (h1 ▸ hg)
      · rw [h1] at hg; have := Option.some.inj hg; exact .inr (by omega))
    obtain ⟨w5, hw5⟩ : ∃ w5, w5 = w4.setCell ⟨bt, 5, none⟩ (.slice aK' (nK + 1) cK') := ⟨_, rfl⟩
    rw [← hw5] at hm5 hf5
    have HM5 := Lib.hid hm5
    have HF5 : Hid (Foot F w w5) := Lib.hid (HF3.out.trans hf5 (fun j hj => .inl ((HF.out j).2 (by
      rcases hj with hj | hj
      · exact .inl hj
      · exact .inr (.inr (.inr (.inr (.inl hj))))))))
    have HK5 : Hid (∀ j, (Value.slice aK' (nK + 1) cK').ownBlock = some j → F j ∨ w.heap.size ≤ j) := Lib.hid (fun j hj => by
      rcases hloc with h1 | h1
      · exact .inl ((HF.out j).2 (.inr (.inr (.inr (.inr (.inl (h1 ▸ hj)))))))
      · rw [h1] at hj; have := Option.some.inj hj; have := HF3.out.size; exact .inr (by omega))
    have HW5 := Lib.hid hw5
    clear hown hgrow hloc hf4 hnb hm5 hf5 hw5 c4 c5 f5 HSTK HM3 HF3 hg3
    go_wp2_with fail
    rw [← HW5.out]
    clear k1 k2 k3 HW5
    refine (addG_calls bS (B + 1 + 1) fS v w5 HM5.out.tS (by omega) hwv).mono ?_
    rintro e w6 ⟨rfl, hgm6, hgr6⟩
    have HM6 := Lib.hid (HM5.out.setS hgr6 (Nat.le_succ _) hgm6)
    have HF6 : Hid (Foot F w w6) := Lib.hid (HF5.out.trans (Foot.of_grown hgr6) (fun j hj => .inl ((HF.out j).2 (.inr (.inr (.inr (.inl hj)))))))
    clear hgm6 hgr6 HM5 HF5
    obtain ⟨c0, -, -, -, -, -, -⟩ := HM6.out.cells
    go_wp2_with fail
    refine (HU.out.asks w6 v HV.out HM6.out.base).mono ?_
    rintro e w7 ⟨vr, rfl, ho7, hb7⟩
    obtain ⟨la, hla⟩ : ∃ la, la = (adj v).length := ⟨_, rfl⟩
    have HLA := Lib.hid hla
    have hla1 : la ≤ 1000 := by rw [hla]; exact HDEG.out v
    rw [← hla] at ho7
    obtain ⟨aR, cR, rfl⟩ := own_shape' ho7
    have HM7 := Lib.hid (HM6.out.below hb7)
    have HF7 : Hid (Foot F w w7) := Lib.hid (HF6.out.trans (Foot.of_below hb7 (fun _ => False)) (fun _ h => h.elim))
    have HO7 := Lib.hid ho7
    have HST7 : Hid (TSt wB B0 (.func (.func fU) #[] cU) bt bT bL bS lo (s.enter v) (B + 3 + 0 + 2000 * ((s.enter v).idx - i1)) (TF bt bT bL bS (.slice aK' (nK + 1) cK') vC vs) w7) := Lib.hid ⟨_, _, _, _, _, _, HOK.out.enter v (n := i1) (by rw [HI1.out, HIX.out]), by
      have h := HM7.out.mono (B' := B + 3 + 0 + 2000 * ((s.enter v).idx - i1)) (by omega)
      have e : (s.enter v).idx = i1 := by rw [HI1.out, HIX.out]; rfl
      rw [e] at h ⊢
      exact h, fun j => Iff.rfl⟩
    have HFS : Hid (∀ j, TF bt bT bL bS (.slice aK' (nK + 1) cK') vC vs j → F j ∨ w.heap.size ≤ j) := Lib.hid (fun j hj => by
      rcases hj with hj | hj | hj | hj | hj | hj
      · exact .inl ((HF.out j).2 (.inl hj))
      · exact .inl ((HF.out j).2 (.inr (.inl hj)))
      · exact .inl ((HF.out j).2 (.inr (.inr (.inl hj))))
      · exact .inl ((HF.out j).2 (.inr (.inr (.inr (.inl hj)))))
      · exact HK5.out j hj
      · exact .inl ((HF.out j).2 (.inr (.inr (.inr (.inr (.inr hj)))))))
    have HRN : Hid (∀ g, (Value.slice aR la cR).ownBlock = some g → ¬ TF bt bT bL bS (.slice aK' (nK + 1) cK') vC vs g) := Lib.hid (fun g hg hj => by
      have h1 := (HO7.out.lt g hg).1
      have h2 := (HM6.out.flt hj).2
      omega)
    clear ho7 hb7 hla c0 HM6 HF6 HM7 HK5
    go_wp2_with fail
    go_loopw [60] (fun ix wr => ∃ (j : Nat) (si : TS) (Fj : Nat → Prop), j ≤ la ∧ ix = .int .i64 j ∧ Hid (Suc adj v (s.enter v) ((adj v).take j) si) ∧ Hid (TSt wB B0 (.func (.func fU) #[] cU) bt bT bL bS lo si (B + 3 + j + 2000 * (si.idx - i1)) Fj wr) ∧ Hid (Foot F w wr) ∧ Hid (∀ j, Fj j → F j ∨ w.heap.size ≤ j) ∧ Hid (wr.ownsRow w6.heap.size 103 1 (.slice aR la cR) la ((adj v).map nodeV)) ∧ Hid (∀ g, (Value.slice aR la cR).ownBlock = some g → ¬ Fj g)) (fun ix _ => la - (intOf ix).toNat)
    case atStart => exact ⟨0, s.enter v, _, by omega, rfl, Lib.hid (Suc.nil _ _), HST7, HF7, HFS, HO7, HRN⟩
    case round =>
      obtain ⟨j, si, Fj, hj, rfl, HSU, HST, HFw, HFj, HO, HRj⟩ := hrel
      clear HST7 HF7 HFS HO7 HRN
      obtain ⟨b', hI', hstk', -, -⟩ := HSU.out.inv g s.stack [] [] (HI.out.enter H0.out HR.out) rfl HI.out.gs (TLow.start _ _ _ rfl) (fun y hy => List.mem_of_mem_take hy)
      have hcnt := HSU.out.cnt HADJ.out (fun y hy => HADJ.out v y (List.mem_of_mem_take hy))
      have hue := unm_enter HV.out H0.out
      have hei : (s.enter v).idx = i1 := by rw [HI1.out, HIX.out]; rfl
      have hcs := hcnt.sum; have hci := hcnt.idx
      rw [hei] at hcs hci
      rw [← HUN.out] at hue
      have HII := Lib.hid hI'; have HCNT := Lib.hid hcnt; have HSTK' := Lib.hid hstk'
      obtain ⟨ui, hui⟩ : ∃ ui, ui = unm ids si.tab := ⟨_, rfl⟩
      obtain ⟨ii, hii⟩ : ∃ ii, ii = si.idx := ⟨_, rfl⟩
      rw [← hui, ← hii] at hcs
      rw [← hii] at hci
      have hbnd : ui ≤ m ∧ ii + ui ≤ 1000 ∧ B + 3 + j + 2000 * (ii - i1) + 2000 * ui ≤ 10000000 := by
        have := HI1.out
        omega
      have HUI := Lib.hid hui; have HIIX := Lib.hid hii; have HBND := Lib.hid hbnd; have HCI := Lib.hid hci
      have hvm : si.tab v ≠ 0 := hcnt.met v (by show updN s.tab v (s.idx + 1) v ≠ 0; unfold updN; rw [if_pos rfl]; omega)
      have HVM := Lib.hid hvm
      have hsb : ∀ y, si.tab y ≠ 0 → y ∈ ids := fun y hy => by
        rcases hcnt.sub y hy with h1 | h1
        · replace h1 : updN s.tab v (s.idx + 1) y ≠ 0 := h1
          unfold updN at h1
          by_cases e : y = v
          · rw [e]; exact HV.out
          · rw [if_neg e] at h1; exact HSUB.out y h1
        · exact h1
      have HSB := Lib.hid hsb
      clear hI' hstk' hcnt hue hei hcs hui hii hvm hsb hbnd hci hB hm hidx
      obtain ⟨gT, gL, gS, uK, uC, us, hok, hmem, hFx⟩ := HST.out
      have HOKi := Lib.hid hok; have HMi := Lib.hid hmem; have HFi := Lib.hid hFx
      clear hok hmem hFx HST
      rw [← HIIX.out] at HMi
      by_cases hlt : j < la
      · have hjl : j < (adj v).length := by rw [← HLA.out]; exact hlt
        obtain ⟨x, hx⟩ : ∃ x, x = (adj v)[j] := ⟨_, rfl⟩
        have HX : Hid ((adj v).take (j + 1) = (adj v).take j ++ [x]) := Lib.hid (by rw [List.take_succ_eq_append_getElem hjl, hx])
        have HXA : Hid (x ∈ adj v) := Lib.hid (by rw [hx]; exact List.getElem_mem hjl)
        have HXI : Hid (x ∈ ids) := Lib.hid (HADJ.out v x HXA.out)
        have hwx := HWF.out x HXI.out
        obtain ⟨gR, cR', e, hgR1, hgR2, -⟩ := own_form HO.out (by omega)
        simp only [Value.slice.injEq, true_and] at e
        obtain ⟨rfl, rfl⟩ := e
        have q1 : wr.cell? ⟨gR, j, none⟩ = some (.iface 133 (.int .i64 x)) := (own_at HO.out (u := nodeV x) (by rw [List.getElem?_map, List.getElem?_eq_getElem hjl, hx]; rfl)).1
        have hlkT : (Instr.lookup 193 (.map (some bT)) (.int .i64 x) false).run Tryz.prog wr = .ok (.int .i64 (si.tab x : Nat)) wr := by
          have h := HMi.out.tT.look (t := 193) (e := 3) Tryz.underlying2 Tryz.underlying193 (zero_int wr) hwx
          rw [HOKi.out.t x] at h; exact h
        obtain ⟨-, -, c2, -, c4, -, -⟩ := HMi.out.cells
        obtain ⟨tx, htx⟩ : ∃ tx, tx = si.tab x := ⟨_, rfl⟩
        rw [← htx] at hlkT
        have HTX := Lib.hid htx
        have hjla : (j : Int) < (la : Int) := by omega
        clear hx hjl htx hgR1
        by_cases h0 : tx = 0
        · have ht0 : ((tx : Int) == 0) = true := by simp [h0]
          go_wp2_with fail
          refine (nodeID_calls x wr).mono ?_
          rintro e w' ⟨rfl, rfl⟩
          go_wp2_with fail
          refine (IH.out (g ++ [v]) si x (B + 3 + j + 2000 * (si.idx - i1)) Fj wr (by rw [← HUI.out]; exact HBND.out.1) HII.out (fun y hy => ?hrch) (by rw [← HTX.out]; exact h0) HXI.out HSB.out (by rw [← HUI.out, ← HIIX.out]; exact HBND.out.2.1) ⟨gT, gL, gS, uK, uC, us, HOKi.out, by rw [← HIIX.out]; exact HMi.out, HFi.out⟩ (by rw [← HUI.out, ← HIIX.out]; exact HBND.out.2.2)).mono ?_
          case hrch =>
            rcases List.mem_append.1 hy with hy | hy
            · exact (HR.out y hy).step HXA.out
            · rw [List.mem_singleton.1 hy]; exact ReachA.step (ReachA.refl _ _) HXA.out
          rintro e w8 ⟨rfl, s8, F8, hs8, hst8, hf8, hF8⟩
          have hc8 := hs8.cnt HADJ.out (fun y hy => HADJ.out x y hy)
          have htx0 : si.tab x = 0 := by rw [← HTX.out]; exact h0
          obtain ⟨e1, e2, -⟩ := leave_tab s8 x
          have hmx : (s8.leave x).tab x ≠ 0 := by rw [e1]; exact hc8.met x (by show updN si.tab x (si.idx + 1) x ≠ 0; unfold updN; rw [if_pos rfl]; omega)
          have hmv : (s8.leave x).tab v ≠ 0 := by rw [e1]; exact hc8.met v ((TCnt.enter HXI.out htx0).met v HVM.out)
          have hci8 : ii + 1 ≤ s8.idx := by have := hc8.idx; replace this : si.idx + 1 ≤ s8.idx := this; rw [← HIIX.out] at this; exact this
          obtain ⟨hT8, hL8, hS8, uK8, uC8, us8, hok8, hm8, hFx8⟩ := hst8
          rw [e2] at hm8
          have hlv := hok8.l v hmv
          have hlx := hok8.l x hmx
          have HS8 := Lib.hid hs8; have HF8 := Lib.hid hf8; have HFF8 := Lib.hid hF8; have HOK8 := Lib.hid hok8; have HM8 := Lib.hid hm8; have HFX8 := Lib.hid hFx8; have HE2 := Lib.hid e2
          obtain ⟨lv, hlve⟩ : ∃ lv, lv = (s8.leave x).low v := ⟨_, rfl⟩
          obtain ⟨lx, hlxe⟩ : ∃ lx, lx = (s8.leave x).low x := ⟨_, rfl⟩
          rw [← hlve] at hlv
          rw [← hlxe] at hlx
          have HLV := Lib.hid hlve; have HLX := Lib.hid hlxe
          have hk1 : (Instr.lookup 193 (.map (some bL)) (.int .i64 v) false).run Tryz.prog w8.drew = .ok (.int .i64 (lv : Int)) w8.drew := by
            have h := (HM8.out.tL.of_heap (w' := w8.drew) rfl).look (t := 193) (e := 3) Tryz.underlying2 Tryz.underlying193 (zero_int w8.drew) hwv
            rw [hlv] at h; exact h
          have hk2 : (Instr.lookup 193 (.map (some bL)) (.int .i64 x) false).run Tryz.prog w8.drew = .ok (.int .i64 (lx : Int)) w8.drew := by
            have h := (HM8.out.tL.of_heap (w' := w8.drew) rfl).look (t := 193) (e := 3) Tryz.underlying2 Tryz.underlying193 (zero_int w8.drew) hwx
            rw [hlx] at h; exact h
          obtain ⟨-, -, -, c3, -, -, -⟩ := HM8.out.cells
          obtain ⟨w9, hrun9, hgm9, hgr9⟩ := (HM8.out.tL.of_heap (w' := w8.drew) rfl).set (t := 193) (e := 3) Tryz.underlying2 Tryz.underlying193 (by
            have := HBND.out.2.2
            have h1 := hc8.sum
            replace h1 : s8.idx + unm ids s8.tab ≤ si.idx + 1 + unm ids (si.enter x).tab := h1
            have h2 := unm_enter HXI.out htx0
            rw [← HIIX.out] at h1
            rw [← HUI.out] at h2
            rw [← HIIX.out]
            unfold maxLen; omega) hwv (.int .i64 (min (lv : Int) (lx : Int)))
          have HM9 := Lib.hid ((HM8.out.below (below_drewN (Below.refl _ _) 1)).setL hgr9 hgm9)
          have HF9 : Hid (Foot Fj wr w9) := Lib.hid ((hf8.trans (Foot.of_below (below_drewN (Below.refl w8.heap.size w8) 1) (fun _ => False)) (fun _ h => h.elim)).trans (Foot.of_grown hgr9) (fun j hj => by
            have h1 : F8 bL := (hFx8 bL).2 (.inr (.inr (.inl rfl)))
            rw [show j = bL from hj]
            exact hF8 bL h1))
          clear hgm9 hgr9
          clear hs8 hf8 hF8 hc8 hmx hmv hok8 hm8 hFx8 hlv hlx hlve hlxe e1 e2 q1 hlkT c2 c4 ht0
          go_upto_region 12 with fail
          refine wp_region_L (by kernel_rfl) (fun w' => w'.cell? ⟨bt, 3, none⟩ = some (.map (some bL)) ∧ (Instr.lookup 193 (.map (some bL)) (.int .i64 v) false).run Tryz.prog w' = .ok (.int .i64 (lv : Int)) w' ∧ (Instr.lookup 193 (.map (some bL)) (.int .i64 x) false).run Tryz.prog w' = .ok (.int .i64 (lx : Int)) w') [18] ⟨c3, hk1, hk2⟩ (fun hHeld => ?_)
          refine wpAnyL_take (i := 0) (v := ?_) rfl (by kernel_rfl) (by kernel_rfl) (by kernel_rfl) (by kernel_rfl) (fun _ _ _ h => h) (by kernel_rfl) ?_ hHeld ?_
          rotate_left
          · intro w hSw; obtain ⟨hs0, hs1, hs2⟩ := hSw; go_simp; all_goals with_reducible rfl
          simp only [Act.put]
          refine wpAnyL_take (i := 1) (v := ?_) rfl (by kernel_rfl) (by kernel_rfl) (by kernel_rfl) (by kernel_rfl) (fun _ _ _ h => h) (by kernel_rfl) ?_ hHeld ?_
          rotate_left
          · intro w hSw; obtain ⟨hs0, hs1, hs2⟩ := hSw; go_simp; all_goals with_reducible rfl
          simp only [Act.put]
          refine wpAnyL_take (i := 2) (v := ?_) rfl (by kernel_rfl) (by kernel_rfl) (by kernel_rfl) (by kernel_rfl) (fun _ _ _ h => h) (by kernel_rfl) ?_ hHeld ?_
          rotate_left
          · intro w hSw; obtain ⟨hs0, hs1, hs2⟩ := hSw; go_simp; all_goals with_reducible rfl
          simp only [Act.put]
          refine wpAnyL_take (i := 3) (v := ?_) rfl (by kernel_rfl) (by kernel_rfl) (by kernel_rfl) (by kernel_rfl) (fun _ _ _ h => h) (by kernel_rfl) ?_ hHeld ?_
          rotate_left
          · intro w hSw; obtain ⟨hs0, hs1, hs2⟩ := hSw; go_simp; all_goals with_reducible rfl
          simp only [Act.put]
          refine wpAnyL_take (i := 4) (v := ?_) rfl (by kernel_rfl) (by kernel_rfl) (by kernel_rfl) (by kernel_rfl) (fun _ _ _ h => h) (by kernel_rfl) ?_ hHeld ?_
          rotate_left
          · intro w hSw; obtain ⟨hs0, hs1, hs2⟩ := hSw; go_simp; all_goals with_reducible rfl
          simp only [Act.put]
          refine wpAnyL_take (i := 5) (v := ?_) rfl (by kernel_rfl) (by kernel_rfl) (by kernel_rfl) (by kernel_rfl) (fun _ _ _ h => h) (by kernel_rfl) ?_ hHeld ?_
          rotate_left
          · intro w hSw; obtain ⟨hs0, hs1, hs2⟩ := hSw; go_simp; all_goals with_reducible rfl
          simp only [Act.put]
          refine wpAnyL_take (i := 6) (v := ?_) rfl (by kernel_rfl) (by kernel_rfl) (by kernel_rfl) (by kernel_rfl) (fun _ _ _ h => h) (by kernel_rfl) ?_ hHeld ?_
          rotate_left
          · intro w hSw; obtain ⟨hs0, hs1, hs2⟩ := hSw; go_simp; all_goals with_reducible rfl
          simp only [Act.put]
          refine wpAnyL_take (i := 7) (v := ?_) rfl (by kernel_rfl) (by kernel_rfl) (by kernel_rfl) (by kernel_rfl) (fun _ _ _ h => h) (by kernel_rfl) ?_ hHeld ?_
          rotate_left
          · intro w hSw; obtain ⟨hs0, hs1, hs2⟩ := hSw; go_simp; all_goals with_reducible rfl
          simp only [Act.put]
          refine wpAnyL_take (i := 8) (v := ?_) rfl (by kernel_rfl) (by kernel_rfl) (by kernel_rfl) (by kernel_rfl) (fun _ _ _ h => h) (by kernel_rfl) ?_ hHeld ?_
          rotate_left
          · intro w hSw; obtain ⟨hs0, hs1, hs2⟩ := hSw; go_simp; all_goals with_reducible rfl
          simp only [Act.put]
          refine wpAnyL_take (i := 9) (v := ?_) rfl (by kernel_rfl) (by kernel_rfl) (by kernel_rfl) (by kernel_rfl) (fun _ _ _ h => h) (by kernel_rfl) ?_ hHeld ?_
          rotate_left
          · intro w hSw; obtain ⟨hs0, hs1, hs2⟩ := hSw; go_simp; all_goals with_reducible rfl
          simp only [Act.put]
          refine wpAnyL_take (i := 10) (v := ?_) rfl (by kernel_rfl) (by kernel_rfl) (by kernel_rfl) (by kernel_rfl) (fun _ _ _ h => h) (by kernel_rfl) ?_ hHeld ?_
          rotate_left
          · intro w hSw; obtain ⟨hs0, hs1, hs2⟩ := hSw; go_simp; all_goals with_reducible rfl
          simp only [Act.put]
          refine wpAnyL_take (i := 11) (v := ?_) rfl (by kernel_rfl) (by kernel_rfl) (by kernel_rfl) (by kernel_rfl) (fun _ _ _ h => h) (by kernel_rfl) ?_ hHeld ?_
          rotate_left
          · intro w hSw; obtain ⟨hs0, hs1, hs2⟩ := hSw; go_simp; all_goals with_reducible rfl
          simp only [Act.put]
          refine wpAnyL_take (i := 12) (v := ?_) rfl (by kernel_rfl) (by kernel_rfl) (by kernel_rfl) (by kernel_rfl) (fun _ _ _ h => h) (by kernel_rfl) ?_ hHeld ?_
          rotate_left
          · intro w hSw; obtain ⟨hs0, hs1, hs2⟩ := hSw; go_simp; all_goals with_reducible rfl
          simp only [Act.put]
          refine wpAnyL_take (i := 13) (v := ?_) rfl (by kernel_rfl) (by kernel_rfl) (by kernel_rfl) (by kernel_rfl) (fun _ _ _ h => h) (by kernel_rfl) ?_ hHeld ?_
          rotate_left
          · intro w hSw; obtain ⟨hs0, hs1, hs2⟩ := hSw; go_simp; all_goals with_reducible rfl
          simp only [Act.put]
          refine wpAnyL_take (i := 14) (v := ?_) rfl (by kernel_rfl) (by kernel_rfl) (by kernel_rfl) (by kernel_rfl) (fun _ _ _ h => h) (by kernel_rfl) ?_ hHeld ?_
          rotate_left
          · intro w hSw; obtain ⟨hs0, hs1, hs2⟩ := hSw; go_simp; all_goals with_reducible rfl
          simp only [Act.put]
          refine wpAnyL_take (i := 15) (v := ?_) rfl (by kernel_rfl) (by kernel_rfl) (by kernel_rfl) (by kernel_rfl) (fun _ _ _ h => h) (by kernel_rfl) ?_ hHeld ?_
          rotate_left
          · intro w hSw; obtain ⟨hs0, hs1, hs2⟩ := hSw; go_simp; all_goals with_reducible rfl
          simp only [Act.put]
          refine wpAnyL_take (i := 16) (v := ?_) rfl (by kernel_rfl) (by kernel_rfl) (by kernel_rfl) (by kernel_rfl) (fun _ _ _ h => h) (by kernel_rfl) ?_ hHeld ?_
          rotate_left
          · intro w hSw; obtain ⟨hs0, hs1, hs2⟩ := hSw; go_simp; all_goals with_reducible rfl
          simp only [Act.put]
          refine wpAnyL_take (i := 17) (v := ?_) rfl (by kernel_rfl) (by kernel_rfl) (by kernel_rfl) (by kernel_rfl) (fun _ _ _ h => h) (by kernel_rfl) ?_ hHeld ?_
          rotate_left
          · intro w hSw; obtain ⟨hs0, hs1, hs2⟩ := hSw; go_simp; all_goals with_reducible rfl
          simp only [Act.put]
          refine wpAnyL_one (i := 18) rfl (by kernel_rfl) (by kernel_rfl) (fun K hK => ?_)
          go_simp
          refine hK.out _ _ (.inl (by decide)) ?_
          clear hK K hHeld
          refine wpAnyL_done (by kernel_rfl) ?_ _
          clear hk1 hk2 c3 hrun9
          go_wp2_with fail
          go_roundw
          case rel =>
            have hn9 : B + 3 + j + 2000 * (si.idx - i1) + 2000 * (s8.idx - si.idx) + 1 ≤ B + 3 + (j + 1) + 2000 * (s8.idx - i1) := by
              have hci := HCI.out
              rw [← HIIX.out]; omega
            have hmin : (min (lv : Int) (lx : Int)) = ((min ((s8.leave x).low v) ((s8.leave x).low x) : Nat) : Int) := by rw [← HLV.out, ← HLX.out]; omega
            refine ⟨j + 1, (s8.leave x).setLow v (min ((s8.leave x).low v) ((s8.leave x).low x)), F8, by omega, by go_num, Lib.hid ?_, Lib.hid ⟨hT8, _, hS8, uK8, uC8, us8, HOK8.out.setLow v _, ?_, HFX8.out⟩, Lib.hid (HFw.out.trans HF9.out (fun q hq => HFj.out q hq)), Lib.hid (fun q hq => ?_), Lib.hid (HF9.out.row HO.out (fun g hg => HRj.out g hg)), Lib.hid (fun g hg hq => ?_)⟩
            · rw [HX.out]
              exact HSU.out.append (Suc.visit (by rw [← HTX.out]; exact h0) HS8.out (Suc.nil _ _))
            · have h := HM9.out
              rw [hmin] at h
              have e3 : ((s8.leave x).setLow v (min ((s8.leave x).low v) ((s8.leave x).low x))).idx = s8.idx := HE2.out
              rw [e3]
              exact h.mono hn9
            · rcases HFF8.out q hq with h1 | h1
              · exact HFj.out q h1
              · have := HFw.out.size; exact .inr (by omega)
            · rcases HFF8.out g hq with h1 | h1
              · exact HRj.out g hg h1
              · have := (HO.out.lt g hg).2; omega
          case measure => simp [intOf]; omega
        · have ht0 : ((tx : Int) == 0) = false := by simpa using h0
          go_wp2_with fail
          refine (nodeID_calls x wr).mono ?_
          rintro e w' ⟨rfl, rfl⟩
          go_wp2_with fail
          refine (hasG_calls bS _ gS x (decide (x ∈ si.stack)) wr HMi.out.tS (HOKi.out.o x) (HOKi.out.u x) hwx).mono ?_
          rintro e w8 ⟨rfl, hb8⟩
          have HM8 := Lib.hid (HMi.out.below hb8)
          have HF8 : Hid (Foot Fj wr w8) := Lib.hid (Foot.of_below hb8 _)
          obtain ⟨b, hb⟩ : ∃ b, decide (x ∈ si.stack) = b := ⟨_, rfl⟩
          have HBX := Lib.hid hb
          have htxn : si.tab x ≠ 0 := by rw [← HTX.out]; exact h0
          have HTXN := Lib.hid htxn
          rw [hb]
          clear hb8 hb htxn q1 hlkT c2 c4 ht0
          cases b
          · go_wp2_with fail
            go_roundw
            case rel =>
              refine ⟨j + 1, si, Fj, by omega, by go_num, Lib.hid ?_, Lib.hid ⟨gT, gL, gS, uK, uC, us, HOKi.out, ?_, HFi.out⟩, Lib.hid (HFw.out.trans HF8.out (fun q hq => HFj.out q hq)), HFj, Lib.hid (HF8.out.row HO.out (fun g hg => HRj.out g hg)), HRj⟩
              · rw [HX.out]
                exact HSU.out.append (Suc.skip HTXN.out (by simpa using HBX.out) (Suc.nil _ _))
              · rw [← HIIX.out]
                exact HM8.out.mono (by omega)
            case measure => simp [intOf]; omega
          · have hlv := HOKi.out.l v HVM.out
            obtain ⟨lv, hlve⟩ : ∃ lv, lv = si.low v := ⟨_, rfl⟩
            rw [← hlve] at hlv
            have HLV := Lib.hid hlve
            have hk1 : (Instr.lookup 193 (.map (some bL)) (.int .i64 v) false).run Tryz.prog w8.drew = .ok (.int .i64 (lv : Int)) w8.drew := by
              have h := (HM8.out.tL.of_heap (w' := w8.drew) rfl).look (t := 193) (e := 3) Tryz.underlying2 Tryz.underlying193 (zero_int w8.drew) hwv
              rw [hlv] at h; exact h
            have hk2 : (Instr.lookup 193 (.map (some bT)) (.int .i64 x) false).run Tryz.prog w8.drew = .ok (.int .i64 (tx : Int)) w8.drew := by
              have h := (HM8.out.tT.of_heap (w' := w8.drew) rfl).look (t := 193) (e := 3) Tryz.underlying2 Tryz.underlying193 (zero_int w8.drew) hwx
              rw [HOKi.out.t x, ← HTX.out] at h; exact h
            obtain ⟨-, -, c2, c3, -, -, -⟩ := HM8.out.cells
            obtain ⟨w9, hrun9, hgm9, hgr9⟩ := (HM8.out.tL.of_heap (w' := w8.drew) rfl).set (t := 193) (e := 3) Tryz.underlying2 Tryz.underlying193 (by
              have := HBND.out.2.2
              unfold maxLen; omega) hwv (.int .i64 (min (lv : Int) (tx : Int)))
            have HM9 := Lib.hid ((HM8.out.below (below_drewN (Below.refl _ _) 1)).setL hgr9 hgm9)
            have HF9 : Hid (Foot Fj wr w9) := Lib.hid ((HF8.out.trans (Foot.of_below (below_drewN (Below.refl w8.heap.size w8) 1) (fun _ => False)) (fun _ h => h.elim)).trans (Foot.of_grown hgr9) (fun j hj => by
              rw [show j = bL from hj]
              exact .inl ((HFi.out bL).2 (.inr (.inr (.inl rfl))))))
            clear hgm9 hgr9 hlv hlve
            go_upto_region 14 with fail
            refine wp_region_L (by kernel_rfl) (fun w' => (w'.cell? ⟨bt, 2, none⟩ = some (.map (some bT)) ∧ w'.cell? ⟨bt, 3, none⟩ = some (.map (some bL))) ∧ (Instr.lookup 193 (.map (some bL)) (.int .i64 v) false).run Tryz.prog w' = .ok (.int .i64 (lv : Int)) w' ∧ (Instr.lookup 193 (.map (some bT)) (.int .i64 x) false).run Tryz.prog w' = .ok (.int .i64 (tx : Int)) w') [18] ⟨⟨c2, c3⟩, hk1, hk2⟩ (fun hHeld => ?_)
            refine wpAnyL_take (i := 0) (v := ?_) rfl (by kernel_rfl) (by kernel_rfl) (by kernel_rfl) (by kernel_rfl) (fun _ _ _ h => h) (by kernel_rfl) ?_ hHeld ?_
            rotate_left
            · intro w hSw; obtain ⟨⟨hs0, hs1⟩, hs2, hs3⟩ := hSw; go_simp; all_goals with_reducible rfl
            simp only [Act.put]
            refine wpAnyL_take (i := 1) (v := ?_) rfl (by kernel_rfl) (by kernel_rfl) (by kernel_rfl) (by kernel_rfl) (fun _ _ _ h => h) (by kernel_rfl) ?_ hHeld ?_
            rotate_left
            · intro w hSw; obtain ⟨⟨hs0, hs1⟩, hs2, hs3⟩ := hSw; go_simp; all_goals with_reducible rfl
            simp only [Act.put]
            refine wpAnyL_take (i := 2) (v := ?_) rfl (by kernel_rfl) (by kernel_rfl) (by kernel_rfl) (by kernel_rfl) (fun _ _ _ h => h) (by kernel_rfl) ?_ hHeld ?_
            rotate_left
            · intro w hSw; obtain ⟨⟨hs0, hs1⟩, hs2, hs3⟩ := hSw; go_simp; all_goals with_reducible rfl
            simp only [Act.put]
            refine wpAnyL_take (i := 3) (v := ?_) rfl (by kernel_rfl) (by kernel_rfl) (by kernel_rfl) (by kernel_rfl) (fun _ _ _ h => h) (by kernel_rfl) ?_ hHeld ?_
            rotate_left
            · intro w hSw; obtain ⟨⟨hs0, hs1⟩, hs2, hs3⟩ := hSw; go_simp; all_goals with_reducible rfl
            simp only [Act.put]
            refine wpAnyL_take (i := 4) (v := ?_) rfl (by kernel_rfl) (by kernel_rfl) (by kernel_rfl) (by kernel_rfl) (fun _ _ _ h => h) (by kernel_rfl) ?_ hHeld ?_
            rotate_left
            · intro w hSw; obtain ⟨⟨hs0, hs1⟩, hs2, hs3⟩ := hSw; go_simp; all_goals with_reducible rfl
            simp only [Act.put]
            refine wpAnyL_take (i := 5) (v := ?_) rfl (by kernel_rfl) (by kernel_rfl) (by kernel_rfl) (by kernel_rfl) (fun _ _ _ h => h) (by kernel_rfl) ?_ hHeld ?_
            rotate_left
            · intro w hSw; obtain ⟨⟨hs0, hs1⟩, hs2, hs3⟩ := hSw; go_simp; all_goals with_reducible rfl
            simp only [Act.put]
            refine wpAnyL_take (i := 6) (v := ?_) rfl (by kernel_rfl) (by kernel_rfl) (by kernel_rfl) (by kernel_rfl) (fun _ _ _ h => h) (by kernel_rfl) ?_ hHeld ?_
            rotate_left
            · intro w hSw; obtain ⟨⟨hs0, hs1⟩, hs2, hs3⟩ := hSw; go_simp; all_goals with_reducible rfl
            simp only [Act.put]
            refine wpAnyL_take (i := 7) (v := ?_) rfl (by kernel_rfl) (by kernel_rfl) (by kernel_rfl) (by kernel_rfl) (fun _ _ _ h => h) (by kernel_rfl) ?_ hHeld ?_
            rotate_left
            · intro w hSw; obtain ⟨⟨hs0, hs1⟩, hs2, hs3⟩ := hSw; go_simp; all_goals with_reducible rfl
            simp only [Act.put]
            refine wpAnyL_take (i := 8) (v := ?_) rfl (by kernel_rfl) (by kernel_rfl) (by kernel_rfl) (by kernel_rfl) (fun _ _ _ h => h) (by kernel_rfl) ?_ hHeld ?_
            rotate_left
            · intro w hSw; obtain ⟨⟨hs0, hs1⟩, hs2, hs3⟩ := hSw; go_simp; all_goals with_reducible rfl
            simp only [Act.put]
            refine wpAnyL_take (i := 9) (v := ?_) rfl (by kernel_rfl) (by kernel_rfl) (by kernel_rfl) (by kernel_rfl) (fun _ _ _ h => h) (by kernel_rfl) ?_ hHeld ?_
            rotate_left
            · intro w hSw; obtain ⟨⟨hs0, hs1⟩, hs2, hs3⟩ := hSw; go_simp; all_goals with_reducible rfl
            simp only [Act.put]
            refine wpAnyL_take (i := 10) (v := ?_) rfl (by kernel_rfl) (by kernel_rfl) (by kernel_rfl) (by kernel_rfl) (fun _ _ _ h => h) (by kernel_rfl) ?_ hHeld ?_
            rotate_left
            · intro w hSw; obtain ⟨⟨hs0, hs1⟩, hs2, hs3⟩ := hSw; go_simp; all_goals with_reducible rfl
            simp only [Act.put]
            refine wpAnyL_take (i := 11) (v := ?_) rfl (by kernel_rfl) (by kernel_rfl) (by kernel_rfl) (by kernel_rfl) (fun _ _ _ h => h) (by kernel_rfl) ?_ hHeld ?_
            rotate_left
            · intro w hSw; obtain ⟨⟨hs0, hs1⟩, hs2, hs3⟩ := hSw; go_simp; all_goals with_reducible rfl
            simp only [Act.put]
            refine wpAnyL_take (i := 12) (v := ?_) rfl (by kernel_rfl) (by kernel_rfl) (by kernel_rfl) (by kernel_rfl) (fun _ _ _ h => h) (by kernel_rfl) ?_ hHeld ?_
            rotate_left
            · intro w hSw; obtain ⟨⟨hs0, hs1⟩, hs2, hs3⟩ := hSw; go_simp; all_goals with_reducible rfl
            simp only [Act.put]
            refine wpAnyL_take (i := 13) (v := ?_) rfl (by kernel_rfl) (by kernel_rfl) (by kernel_rfl) (by kernel_rfl) (fun _ _ _ h => h) (by kernel_rfl) ?_ hHeld ?_
            rotate_left
            · intro w hSw; obtain ⟨⟨hs0, hs1⟩, hs2, hs3⟩ := hSw; go_simp; all_goals with_reducible rfl
            simp only [Act.put]
            refine wpAnyL_take (i := 14) (v := ?_) rfl (by kernel_rfl) (by kernel_rfl) (by kernel_rfl) (by kernel_rfl) (fun _ _ _ h => h) (by kernel_rfl) ?_ hHeld ?_
            rotate_left
            · intro w hSw; obtain ⟨⟨hs0, hs1⟩, hs2, hs3⟩ := hSw; go_simp; all_goals with_reducible rfl
            simp only [Act.put]
            refine wpAnyL_take (i := 15) (v := ?_) rfl (by kernel_rfl) (by kernel_rfl) (by kernel_rfl) (by kernel_rfl) (fun _ _ _ h => h) (by kernel_rfl) ?_ hHeld ?_
            rotate_left
            · intro w hSw; obtain ⟨⟨hs0, hs1⟩, hs2, hs3⟩ := hSw; go_simp; all_goals with_reducible rfl
            simp only [Act.put]
            refine wpAnyL_take (i := 16) (v := ?_) rfl (by kernel_rfl) (by kernel_rfl) (by kernel_rfl) (by kernel_rfl) (fun _ _ _ h => h) (by kernel_rfl) ?_ hHeld ?_
            rotate_left
            · intro w hSw; obtain ⟨⟨hs0, hs1⟩, hs2, hs3⟩ := hSw; go_simp; all_goals with_reducible rfl
            simp only [Act.put]
            refine wpAnyL_take (i := 17) (v := ?_) rfl (by kernel_rfl) (by kernel_rfl) (by kernel_rfl) (by kernel_rfl) (fun _ _ _ h => h) (by kernel_rfl) ?_ hHeld ?_
            rotate_left
            · intro w hSw; obtain ⟨⟨hs0, hs1⟩, hs2, hs3⟩ := hSw; go_simp; all_goals with_reducible rfl
            simp only [Act.put]
            refine wpAnyL_one (i := 18) rfl (by kernel_rfl) (by kernel_rfl) (fun K hK => ?_)
            go_simp
            refine hK.out _ _ (.inl (by decide)) ?_
            clear hK K hHeld
            refine wpAnyL_done (by kernel_rfl) ?_ _
            clear hk1 hk2 c2 c3 hrun9
            go_wp2_with fail
            go_roundw
            case rel =>
              have hmin : (min (lv : Int) (tx : Int)) = ((min (si.low v) (si.tab x) : Nat) : Int) := by rw [← HLV.out, ← HTX.out]; omega
              refine ⟨j + 1, si.setLow v (min (si.low v) (si.tab x)), Fj, by omega, by go_num, Lib.hid ?_, Lib.hid ⟨gT, _, gS, uK, uC, us, HOKi.out.setLow v _, ?_, HFi.out⟩, Lib.hid (HFw.out.trans HF9.out (fun q hq => HFj.out q hq)), HFj, Lib.hid (HF9.out.row HO.out (fun g hg => HRj.out g hg)), HRj⟩
              · rw [HX.out]
                exact HSU.out.append (Suc.back HTXN.out (by simpa using HBX.out) (Suc.nil _ _))
              · have h := HM9.out
                rw [hmin] at h
                have e3 : (si.setLow v (min (si.low v) (si.tab x))).idx = ii := HIIX.out.symm
                rw [e3]
                exact h.mono (by omega)
            case measure => simp [intOf]; omega
      · obtain rfl : j = la := by omega
        have HSD : Hid (Suc adj v (s.enter v) (adj v) si) := Lib.hid (by have h := HSU.out; rw [List.take_of_length_le (by rw [← HLA.out]; exact Nat.le_refl _)] at h; exact h)
        have hlv := HOKi.out.l v HVM.out
        obtain ⟨lv, hlve⟩ : ∃ lv, lv = si.low v := ⟨_, rfl⟩
        obtain ⟨tv, htve⟩ : ∃ tv, tv = si.tab v := ⟨_, rfl⟩
        rw [← hlve] at hlv
        have HLV := Lib.hid hlve; have HTV := Lib.hid htve
        have hk1 : (Instr.lookup 193 (.map (some bL)) (.int .i64 v) false).run Tryz.prog wr.drew = .ok (.int .i64 (lv : Int)) wr.drew := by
          have h := (HMi.out.tL.of_heap (w' := wr.drew) rfl).look (t := 193) (e := 3) Tryz.underlying2 Tryz.underlying193 (zero_int wr.drew) hwv
          rw [hlv] at h; exact h
        have hk2 : (Instr.lookup 193 (.map (some bT)) (.int .i64 v) false).run Tryz.prog wr.drew = .ok (.int .i64 (tv : Int)) wr.drew := by
          have h := (HMi.out.tT.of_heap (w' := wr.drew) rfl).look (t := 193) (e := 3) Tryz.underlying2 Tryz.underlying193 (zero_int wr.drew) hwv
          rw [HOKi.out.t v, ← HTV.out] at h; exact h
        obtain ⟨-, -, c2, c3, -, -, -⟩ := HMi.out.cells
        clear hlv hlve htve hlt HO HRj HSU
        by_cases hlt : lv = tv
        · have ht1 : ((lv : Int) == (tv : Int)) = true := by simp [hlt]
          go_upto_region 16 with fail
          refine wp_region_L (by kernel_rfl) (fun w' => (w'.cell? ⟨bt, 2, none⟩ = some (.map (some bT)) ∧ w'.cell? ⟨bt, 3, none⟩ = some (.map (some bL))) ∧ (Instr.lookup 193 (.map (some bL)) (.int .i64 v) false).run Tryz.prog w' = .ok (.int .i64 (lv : Int)) w' ∧ (Instr.lookup 193 (.map (some bT)) (.int .i64 v) false).run Tryz.prog w' = .ok (.int .i64 (tv : Int)) w') [] ⟨⟨c2, c3⟩, hk1, hk2⟩ (fun hHeld => ?_)
          refine wpAnyL_take (i := 0) (v := ?_) rfl (by kernel_rfl) (by kernel_rfl) (by kernel_rfl) (by kernel_rfl) (fun _ _ _ h => h) (by kernel_rfl) ?_ hHeld ?_
          rotate_left
          · intro w hSw; obtain ⟨⟨hs0, hs1⟩, hs2, hs3⟩ := hSw; go_simp; all_goals with_reducible rfl
          simp only [Act.put]
          refine wpAnyL_take (i := 1) (v := ?_) rfl (by kernel_rfl) (by kernel_rfl) (by kernel_rfl) (by kernel_rfl) (fun _ _ _ h => h) (by kernel_rfl) ?_ hHeld ?_
          rotate_left
          · intro w hSw; obtain ⟨⟨hs0, hs1⟩, hs2, hs3⟩ := hSw; go_simp; all_goals with_reducible rfl
          simp only [Act.put]
          refine wpAnyL_take (i := 2) (v := ?_) rfl (by kernel_rfl) (by kernel_rfl) (by kernel_rfl) (by kernel_rfl) (fun _ _ _ h => h) (by kernel_rfl) ?_ hHeld ?_
          rotate_left
          · intro w hSw; obtain ⟨⟨hs0, hs1⟩, hs2, hs3⟩ := hSw; go_simp; all_goals with_reducible rfl
          simp only [Act.put]
          refine wpAnyL_take (i := 3) (v := ?_) rfl (by kernel_rfl) (by kernel_rfl) (by kernel_rfl) (by kernel_rfl) (fun _ _ _ h => h) (by kernel_rfl) ?_ hHeld ?_
          rotate_left
          · intro w hSw; obtain ⟨⟨hs0, hs1⟩, hs2, hs3⟩ := hSw; go_simp; all_goals with_reducible rfl
          simp only [Act.put]
          refine wpAnyL_take (i := 4) (v := ?_) rfl (by kernel_rfl) (by kernel_rfl) (by kernel_rfl) (by kernel_rfl) (fun _ _ _ h => h) (by kernel_rfl) ?_ hHeld ?_
          rotate_left
          · intro w hSw; obtain ⟨⟨hs0, hs1⟩, hs2, hs3⟩ := hSw; go_simp; all_goals with_reducible rfl
          simp only [Act.put]
          refine wpAnyL_take (i := 5) (v := ?_) rfl (by kernel_rfl) (by kernel_rfl) (by kernel_rfl) (by kernel_rfl) (fun _ _ _ h => h) (by kernel_rfl) ?_ hHeld ?_
          rotate_left
          · intro w hSw; obtain ⟨⟨hs0, hs1⟩, hs2, hs3⟩ := hSw; go_simp; all_goals with_reducible rfl
          simp only [Act.put]
          refine wpAnyL_take (i := 6) (v := ?_) rfl (by kernel_rfl) (by kernel_rfl) (by kernel_rfl) (by kernel_rfl) (fun _ _ _ h => h) (by kernel_rfl) ?_ hHeld ?_
          rotate_left
          · intro w hSw; obtain ⟨⟨hs0, hs1⟩, hs2, hs3⟩ := hSw; go_simp; all_goals with_reducible rfl
          simp only [Act.put]
          refine wpAnyL_take (i := 7) (v := ?_) rfl (by kernel_rfl) (by kernel_rfl) (by kernel_rfl) (by kernel_rfl) (fun _ _ _ h => h) (by kernel_rfl) ?_ hHeld ?_
          rotate_left
          · intro w hSw; obtain ⟨⟨hs0, hs1⟩, hs2, hs3⟩ := hSw; go_simp; all_goals with_reducible rfl
          simp only [Act.put]
          refine wpAnyL_take (i := 8) (v := ?_) rfl (by kernel_rfl) (by kernel_rfl) (by kernel_rfl) (by kernel_rfl) (fun _ _ _ h => h) (by kernel_rfl) ?_ hHeld ?_
          rotate_left
          · intro w hSw; obtain ⟨⟨hs0, hs1⟩, hs2, hs3⟩ := hSw; go_simp; all_goals with_reducible rfl
          simp only [Act.put]
          refine wpAnyL_take (i := 9) (v := ?_) rfl (by kernel_rfl) (by kernel_rfl) (by kernel_rfl) (by kernel_rfl) (fun _ _ _ h => h) (by kernel_rfl) ?_ hHeld ?_
          rotate_left
          · intro w hSw; obtain ⟨⟨hs0, hs1⟩, hs2, hs3⟩ := hSw; go_simp; all_goals with_reducible rfl
          simp only [Act.put]
          refine wpAnyL_take (i := 10) (v := ?_) rfl (by kernel_rfl) (by kernel_rfl) (by kernel_rfl) (by kernel_rfl) (fun _ _ _ h => h) (by kernel_rfl) ?_ hHeld ?_
          rotate_left
          · intro w hSw; obtain ⟨⟨hs0, hs1⟩, hs2, hs3⟩ := hSw; go_simp; all_goals with_reducible rfl
          simp only [Act.put]
          refine wpAnyL_take (i := 11) (v := ?_) rfl (by kernel_rfl) (by kernel_rfl) (by kernel_rfl) (by kernel_rfl) (fun _ _ _ h => h) (by kernel_rfl) ?_ hHeld ?_
          rotate_left
          · intro w hSw; obtain ⟨⟨hs0, hs1⟩, hs2, hs3⟩ := hSw; go_simp; all_goals with_reducible rfl
          simp only [Act.put]
          refine wpAnyL_one (i := 12) rfl (by kernel_rfl) (by kernel_rfl) (fun K hK => ?_)
          go_simp
          refine hK.out _ _ (.inr hHeld) ?_
          clear hK K
          refine wpAnyL_done (by kernel_rfl) ?_ _
          clear hk1 hk2 c2 c3 hHeld
          have HMq : Hid (TMem wB B0 (.func (.func fU) #[] cU) bt bT bL bS lo ii gT gL gS uK si.stack uC us si.sccs (B + 3 + j + 2000 * (ii - i1)) wr.drew) := Lib.hid (HMi.out.below (below_drewN (Below.refl _ _) 1))
          have HFq : Hid (Foot F w wr.drew) := Lib.hid (HFw.out.trans (Foot.of_below (below_drewN (Below.refl wr.heap.size wr) 1) (fun _ => False)) (fun _ h => h.elim))
          clear HMi HFw
          clear ht1
          have hvst : v ∉ s.stack := (HI.out.fresh H0.out).1
          have hnds := (List.nodup_append.1 HII.out.nd).1
          rw [HSTK'.out] at hnds
          have HNDS := Lib.hid hnds
          have HVST := Lib.hid hvst
          have HIDb : Hid (∀ y ∈ s.stack ++ v :: b', y ∈ ids) := Lib.hid (fun y hy => HSB.out y ((HII.out.met y).2 (.inl (by rw [HSTK'.out]; exact hy))))
          have HL1 : Hid (b'.length ≤ 1000) := Lib.hid (by
            have h := Nat.le_trans (nodup_lenT HNDS.out HIDb.out) HIDS.out
            simp at h; omega)
          obtain ⟨wq, hwq⟩ : ∃ wq, wq = wr.drew := ⟨_, rfl⟩
          have HWQ := Lib.hid hwq
          have HMq' : Hid (TMem wB B0 (.func (.func fU) #[] cU) bt bT bL bS lo ii gT gL gS uK (s.stack ++ v :: b') uC us si.sccs (B + 3 + j + 2000 * (ii - i1)) wq) := Lib.hid (by have h := HMq.out; rw [HSTK'.out, ← hwq] at h; exact h)
          have hqs : lo ≤ wq.heap.size := HMq'.out.lt.2.2.2.2.2.2.2.2
          clear hvst hnds hwq
          go_wp2_with fail
          go_loopg [8] (b'.length + 1) (fun gk s8 wx => ∃ (b1 c : List Int) (v8 uK1 : Value) (fS1 : Int → Option Value), Hid (b' = b1 ++ c.reverse) ∧ b1.length < gk ∧ s8 = v8 ∧ Hid (wx.ownsRow wq.heap.size 103 1 v8 c.length (c.map nodeV)) ∧ Hid (TMem wB B0 (.func (.func fU) #[] cU) bt bT bL bS lo ii gT gL fS1 uK1 (s.stack ++ v :: b1) uC us si.sccs (B + 3 + j + 2000 * (ii - i1)) wx) ∧ Hid (∀ y, (fS1 y).isSome = decide (y ∈ s.stack ++ v :: b1)) ∧ Hid (∀ y u, fS1 y = some u → u = .agg #[]) ∧ Hid (uK1.ownBlock = uK.ownBlock) ∧ Hid (Foot (TF bt bT bL bS uK uC us) wq wx))
          case atStart =>
            exact ⟨b', [], .slice none 0 0, uK, gS, Lib.hid (by simp), by omega, rfl, Lib.hid (World.ownsRow_nil _ _ _ _), by first | exact HMq' | (rw [← HWQ.out]; exact HMq'), Lib.hid (fun y => by rw [← HSTK'.out]; exact HOKi.out.o y), Lib.hid HOKi.out.u, Lib.hid rfl, by first | exact Lib.hid (Foot.refl _ _) | (rw [← HWQ.out]; exact Lib.hid (Foot.refl _ _))⟩
          case round =>
            obtain ⟨b1, c, v8, uK1, fS1, HB1, hgk, rfl, HO8, HMx, HSo, HSu, HKb, HFx⟩ := hrel
            obtain ⟨wz, rfl⟩ : ∃ wz : World, wz = wr := ⟨_, rfl⟩
            have HGK := Lib.hid hgk
            have hszq := HFx.out.size
            obtain ⟨ini, x, hK1⟩ : ∃ ini x, s.stack ++ v :: b1 = ini ++ [x] := ⟨(s.stack ++ v :: b1).dropLast, (s.stack ++ v :: b1).getLast (by simp), (List.dropLast_concat_getLast (by simp)).symm⟩
            obtain ⟨n1, hn1⟩ : ∃ n1, n1 = ini.length := ⟨_, rfl⟩
            have HK1 := Lib.hid hK1; have HN1 := Lib.hid hn1
            have hndk : (ini ++ [x]).Nodup := by
              rw [← hK1]
              have h := HNDS.out
              rw [HB1.out] at h
              rw [show s.stack ++ v :: (b1 ++ c.reverse) = (s.stack ++ v :: b1) ++ c.reverse by simp] at h
              exact (List.nodup_append.1 h).1
            have HXN : Hid (x ∉ ini) := Lib.hid (fun hm => (List.nodup_append.1 hndk).2.2 x hm x (by simp) rfl)
            have hxi : x ∈ ids := HIDb.out x (by
              have h : x ∈ s.stack ++ v :: b1 := by rw [hK1]; simp
              rw [HB1.out]
              rcases List.mem_append.1 h with h1 | h1
              · exact List.mem_append_left _ h1
              · refine List.mem_append_right _ ?_
                rcases List.mem_cons.1 h1 with h2 | h2
                · exact List.mem_cons.2 (.inl h2)
                · exact List.mem_cons.2 (.inr (List.mem_append_left _ h2)))
            have hwx := HWF.out x hxi
            have hnb : n1 ≤ 1000 := by
              rw [hn1]
              refine Nat.le_trans (nodup_lenT (List.nodup_append.1 hndk).1 (m := ids) (fun y hy => HIDb.out y ?_)) HIDS.out
              have h : y ∈ s.stack ++ v :: b1 := by rw [hK1]; exact List.mem_append_left _ hy
              rw [HB1.out]
              rcases List.mem_append.1 h with h1 | h1
              · exact List.mem_append_left _ h1
              · refine List.mem_append_right _ ?_
                rcases List.mem_cons.1 h1 with h2 | h2
                · exact List.mem_cons.2 (.inl h2)
                · exact List.mem_cons.2 (.inr (List.mem_append_left _ h2))
            have hstk := HMx.out.stk
            rw [hK1] at hstk
            have hMx := HMx.out
            rw [hK1] at hMx
            rw [show (ini ++ [x]).length = n1 + 1 by rw [hn1]; simp] at hstk
            obtain ⟨gK, cK1, rfl, hgK1, hgK2, -⟩ := own_form hstk (by omega)
            have hcap : n1 + 1 ≤ cK1 := by
              rcases hstk.2 with ⟨h3, _⟩ | ⟨g', cap, cur, h3, _, _, h6, _⟩
              · simp at h3
              · simp only [Value.slice.injEq] at h3; omega
            have q2 : wz.cell? ⟨gK, n1, none⟩ = some (.iface 133 (.int .i64 x)) := (own_at hstk (u := nodeV x) (by rw [hn1, List.map_append, List.getElem?_append_right (by simp)]; simp)).1
            obtain ⟨-, -, -, -, -, c5, -⟩ := HMx.out.cells
            have f5 := HMx.out.free 5
            have hlt1 := HMx.out.lt
            have hbk : bt ≠ gK := by omega
            have HMk := Lib.hid hMx; have HSTKx := Lib.hid hstk
            have hs1 : ∀ W, (Instr.slice 77 (.slice (some ⟨gK, 0, none⟩) (n1 + 1) cK1) none (some (.int .i64 n1)) none).run Tryz.prog W = .ok (.slice (some ⟨gK, 0, none⟩) n1 cK1) W := fun W => by
              rw [sliceE_h W 77 103 Tryz.underlying77 node_size _ _ _ _ n1 (by omega)]
              unfold sliced
              rw [if_neg (by omega)]
              simp [Addr.add]
            clear hgk hK1 hn1 hndk hxi hstk hMx HMx hlt1
            have hm0 : (0 : Int) ≤ (n1 : Int) := Int.natCast_nonneg _
            have hm1 : (n1 : Int) < (n1 : Int) + 1 := by omega
            have hm3 : IntKind.i64.wrap ((n1 : Int) + 1 - 1) = n1 := by rw [IntKind.wrap_i64]; omega
            have hm4 : IntKind.i64.wrap (n1 : Int) = n1 := by rw [IntKind.wrap_i64]; omega
            go_upto_region 19 with fail
            refine wp_region_L (by kernel_rfl) (fun w' => w'.cell? ⟨bt, 5, none⟩ = some (.slice (some ⟨gK, 0, none⟩) (n1 + 1) cK1) ∧ w'.cell? ⟨gK, n1, none⟩ = some (.iface 133 (.int .i64 x))) [27] ⟨c5, q2⟩ (fun hHeld => ?_)
            refine wpAnyL_take (i := 0) (v := ?_) rfl (by kernel_rfl) (by kernel_rfl) (by kernel_rfl) (by kernel_rfl) (fun _ _ _ h => h) (by kernel_rfl) ?_ hHeld ?_
            rotate_left
            · intro w hSw; obtain ⟨hs0, hs1x⟩ := hSw; go_simp; all_goals with_reducible rfl
            simp only [Act.put]
            refine wpAnyL_take (i := 1) (v := ?_) rfl (by kernel_rfl) (by kernel_rfl) (by kernel_rfl) (by kernel_rfl) (fun _ _ _ h => h) (by kernel_rfl) ?_ hHeld ?_
            rotate_left
            · intro w hSw; obtain ⟨hs0, hs1x⟩ := hSw; go_simp; all_goals with_reducible rfl
            simp only [Act.put]
            refine wpAnyL_take (i := 2) (v := ?_) rfl (by kernel_rfl) (by kernel_rfl) (by kernel_rfl) (by kernel_rfl) (fun _ _ _ h => h) (by kernel_rfl) ?_ hHeld ?_
            rotate_left
            · intro w hSw; obtain ⟨hs0, hs1x⟩ := hSw; go_simp; all_goals with_reducible rfl
            simp only [Act.put]
            refine wpAnyL_take (i := 3) (v := ?_) rfl (by kernel_rfl) (by kernel_rfl) (by kernel_rfl) (by kernel_rfl) (fun _ _ _ h => h) (by kernel_rfl) ?_ hHeld ?_
            rotate_left
            · intro w hSw; obtain ⟨hs0, hs1x⟩ := hSw; go_simp; all_goals with_reducible rfl
            simp only [Act.put]
            refine wpAnyL_take (i := 4) (v := ?_) rfl (by kernel_rfl) (by kernel_rfl) (by kernel_rfl) (by kernel_rfl) (fun _ _ _ h => h) (by kernel_rfl) ?_ hHeld ?_
            rotate_left
            · intro w hSw; obtain ⟨hs0, hs1x⟩ := hSw; go_simp; all_goals with_reducible rfl
            simp only [Act.put]
            refine wpAnyL_take (i := 5) (v := ?_) rfl (by kernel_rfl) (by kernel_rfl) (by kernel_rfl) (by kernel_rfl) (fun _ _ _ h => h) (by kernel_rfl) ?_ hHeld ?_
            rotate_left
            · intro w hSw; obtain ⟨hs0, hs1x⟩ := hSw; go_simp; all_goals with_reducible rfl
            simp only [Act.put]
            refine wpAnyL_take (i := 6) (v := ?_) rfl (by kernel_rfl) (by kernel_rfl) (by kernel_rfl) (by kernel_rfl) (fun _ _ _ h => h) (by kernel_rfl) ?_ hHeld ?_
            rotate_left
            · intro w hSw; obtain ⟨hs0, hs1x⟩ := hSw; go_simp; all_goals with_reducible rfl
            simp only [Act.put]
            refine wpAnyL_take (i := 7) (v := ?_) rfl (by kernel_rfl) (by kernel_rfl) (by kernel_rfl) (by kernel_rfl) (fun _ _ _ h => h) (by kernel_rfl) ?_ hHeld ?_
            rotate_left
            · intro w hSw; obtain ⟨hs0, hs1x⟩ := hSw; go_simp; all_goals with_reducible rfl
            simp only [Act.put]
            refine wpAnyL_take (i := 8) (v := ?_) rfl (by kernel_rfl) (by kernel_rfl) (by kernel_rfl) (by kernel_rfl) (fun _ _ _ h => h) (by kernel_rfl) ?_ hHeld ?_
            rotate_left
            · intro w hSw; obtain ⟨hs0, hs1x⟩ := hSw; go_simp; all_goals with_reducible rfl
            simp only [Act.put]
            refine wpAnyL_take (i := 9) (v := ?_) rfl (by kernel_rfl) (by kernel_rfl) (by kernel_rfl) (by kernel_rfl) (fun _ _ _ h => h) (by kernel_rfl) ?_ hHeld ?_
            rotate_left
            · intro w hSw; obtain ⟨hs0, hs1x⟩ := hSw; go_simp; all_goals with_reducible rfl
            simp only [Act.put]
            refine wpAnyL_take (i := 10) (v := ?_) rfl (by kernel_rfl) (by kernel_rfl) (by kernel_rfl) (by kernel_rfl) (fun _ _ _ h => h) (by kernel_rfl) ?_ hHeld ?_
            rotate_left
            · intro w hSw; obtain ⟨hs0, hs1x⟩ := hSw; go_simp; all_goals with_reducible rfl
            simp only [Act.put]
            refine wpAnyL_take (i := 11) (v := ?_) rfl (by kernel_rfl) (by kernel_rfl) (by kernel_rfl) (by kernel_rfl) (fun _ _ _ h => h) (by kernel_rfl) ?_ hHeld ?_
            rotate_left
            · intro w hSw; obtain ⟨hs0, hs1x⟩ := hSw; go_simp; all_goals with_reducible rfl
            simp only [Act.put]
            refine wpAnyL_take (i := 12) (v := ?_) rfl (by kernel_rfl) (by kernel_rfl) (by kernel_rfl) (by kernel_rfl) (fun _ _ _ h => h) (by kernel_rfl) ?_ hHeld ?_
            rotate_left
            · intro w hSw; obtain ⟨hs0, hs1x⟩ := hSw; go_simp; all_goals with_reducible rfl
            simp only [Act.put]
            refine wpAnyL_take (i := 13) (v := ?_) rfl (by kernel_rfl) (by kernel_rfl) (by kernel_rfl) (by kernel_rfl) (fun _ _ _ h => h) (by kernel_rfl) ?_ hHeld ?_
            rotate_left
            · intro w hSw; obtain ⟨hs0, hs1x⟩ := hSw; go_simp; all_goals with_reducible rfl
            simp only [Act.put]
            refine wpAnyL_take (i := 14) (v := ?_) rfl (by kernel_rfl) (by kernel_rfl) (by kernel_rfl) (by kernel_rfl) (fun _ _ _ h => h) (by kernel_rfl) ?_ hHeld ?_
            rotate_left
            · intro w hSw; obtain ⟨hs0, hs1x⟩ := hSw; go_simp; all_goals with_reducible rfl
            simp only [Act.put]
            refine wpAnyL_take (i := 15) (v := ?_) rfl (by kernel_rfl) (by kernel_rfl) (by kernel_rfl) (by kernel_rfl) (fun _ _ _ h => h) (by kernel_rfl) ?_ hHeld ?_
            rotate_left
            · intro w hSw; obtain ⟨hs0, hs1x⟩ := hSw; go_simp; all_goals with_reducible rfl
            simp only [Act.put]
            refine wpAnyL_take (i := 16) (v := ?_) rfl (by kernel_rfl) (by kernel_rfl) (by kernel_rfl) (by kernel_rfl) (fun _ _ _ h => h) (by kernel_rfl) ?_ hHeld ?_
            rotate_left
            · intro w hSw; obtain ⟨hs0, hs1x⟩ := hSw; go_simp; all_goals with_reducible rfl
            simp only [Act.put]
            refine wpAnyL_take (i := 17) (v := ?_) rfl (by kernel_rfl) (by kernel_rfl) (by kernel_rfl) (by kernel_rfl) (fun _ _ _ h => h) (by kernel_rfl) ?_ hHeld ?_
            rotate_left
            · intro w hSw; obtain ⟨hs0, hs1x⟩ := hSw; go_simp; all_goals with_reducible rfl
            simp only [Act.put]
            refine wpAnyL_take (i := 18) (v := ?_) rfl (by kernel_rfl) (by kernel_rfl) (by kernel_rfl) (by kernel_rfl) (fun _ _ _ h => h) (by kernel_rfl) ?_ hHeld ?_
            rotate_left
            · intro w hSw; obtain ⟨hs0, hs1x⟩ := hSw; go_simp; all_goals with_reducible rfl
            simp only [Act.put]
            refine wpAnyL_take (i := 19) (v := ?_) rfl (by kernel_rfl) (by kernel_rfl) (by kernel_rfl) (by kernel_rfl) (fun _ _ _ h => h) (by kernel_rfl) ?_ hHeld ?_
            rotate_left
            · intro w hSw; obtain ⟨hs0, hs1x⟩ := hSw; go_simp; all_goals with_reducible rfl
            simp only [Act.put]
            refine wpAnyL_take (i := 20) (v := ?_) rfl (by kernel_rfl) (by kernel_rfl) (by kernel_rfl) (by kernel_rfl) (fun _ _ _ h => h) (by kernel_rfl) ?_ hHeld ?_
            rotate_left
            · intro w hSw; obtain ⟨hs0, hs1x⟩ := hSw; go_simp; all_goals with_reducible rfl
            simp only [Act.put]
            refine wpAnyL_take (i := 21) (v := ?_) rfl (by kernel_rfl) (by kernel_rfl) (by kernel_rfl) (by kernel_rfl) (fun _ _ _ h => h) (by kernel_rfl) ?_ hHeld ?_
            rotate_left
            · intro w hSw; obtain ⟨hs0, hs1x⟩ := hSw; go_simp; all_goals with_reducible rfl
            simp only [Act.put]
            refine wpAnyL_take (i := 22) (v := ?_) rfl (by kernel_rfl) (by kernel_rfl) (by kernel_rfl) (by kernel_rfl) (fun _ _ _ h => h) (by kernel_rfl) ?_ hHeld ?_
            rotate_left
            · intro w hSw; obtain ⟨hs0, hs1x⟩ := hSw; go_simp; all_goals with_reducible rfl
            simp only [Act.put]
            refine wpAnyL_take (i := 23) (v := ?_) rfl (by kernel_rfl) (by kernel_rfl) (by kernel_rfl) (by kernel_rfl) (fun _ _ _ h => h) (by kernel_rfl) ?_ hHeld ?_
            rotate_left
            · intro w hSw; obtain ⟨hs0, hs1x⟩ := hSw; go_simp; all_goals with_reducible rfl
            simp only [Act.put]
            refine wpAnyL_take (i := 24) (v := ?_) rfl (by kernel_rfl) (by kernel_rfl) (by kernel_rfl) (by kernel_rfl) (fun _ _ _ h => h) (by kernel_rfl) ?_ hHeld ?_
            rotate_left
            · intro w hSw; obtain ⟨hs0, hs1x⟩ := hSw; go_simp; all_goals with_reducible rfl
            simp only [Act.put]
            refine wpAnyL_one (i := 25) rfl (by kernel_rfl) (by kernel_rfl) (fun K hK => ?_)
            go_simp
            refine hK.out _ _ (.inr hHeld) ?_
            clear hK K
            refine wpAnyL_one (i := 26) rfl (by kernel_rfl) (by kernel_rfl) (fun K hK => ?_)
            go_simp
            refine hK.out _ _ (.inr hHeld) ?_
            clear hK K
            refine wpAnyL_one (i := 27) rfl (by kernel_rfl) (by kernel_rfl) (fun K hK => ?_)
            go_simp
            refine hK.out _ _ (.inl (by decide)) ?_
            clear hK K hHeld
            refine wpAnyL_done (by kernel_rfl) ?_ _
            clear hm0 hm1 hm3 hm4 hs1 q2 c5 f5
            obtain ⟨hm5, hf5⟩ := HMk.out.newK (w' := wz) (K' := ini) (vK' := .slice (some ⟨gK, 0, none⟩) n1 cK1) (Foot.refl _ _) (by
              have h := own_cut HSTKx.out (k := n1) (by omega)
              rw [List.map_append, List.take_left' (by rw [List.length_map, HN1.out])] at h
              rw [← HN1.out]; exact h) (fun g hg => .inl hg)
            obtain ⟨w5, hw5⟩ : ∃ w5, w5 = (wz.setCell ⟨bt, 5, none⟩ (.slice (some ⟨gK, 0, none⟩) n1 cK1)).drew := ⟨_, rfl⟩
            have HM5 : Hid (TMem wB B0 (.func (.func fU) #[] cU) bt bT bL bS lo ii gT gL fS1 (.slice (some ⟨gK, 0, none⟩) n1 cK1) ini uC us si.sccs (B + 3 + j + 2000 * (ii - i1)) w5) := Lib.hid (by rw [hw5]; exact hm5.below (below_drewN (Below.refl _ _) 1))
            have HF5 : Hid (Foot (fun j => j = bt ∨ j = bS) wz w5) := Lib.hid (by
              have h : Foot (fun j => j = bt ∨ j = bS) wz (wz.setCell ⟨bt, 5, none⟩ (.slice (some ⟨gK, 0, none⟩) n1 cK1)) := (Foot.refl _ _).setCell bt 5 _ (.inl (.inl rfl))
              rw [hw5]
              exact h.trans (Foot.of_below (below_drewN (Below.refl _ _) 1) (fun _ => False)) (fun _ h => h.elim))
            rw [← hw5]
            clear hw5 hm5 hf5 HMk HSTKx
            obtain ⟨-, -, -, -, c4, -, -⟩ := HM5.out.cells
            go_upto_region 20 with fail
            refine wp_region_L (by kernel_rfl) (fun w' => w'.cell? ⟨bt, 4, none⟩ = some (.map (some bS))) [] c4 (fun hHeld => ?_)
            refine wpAnyL_take (i := 0) (v := ?_) rfl (by kernel_rfl) (by kernel_rfl) (by kernel_rfl) (by kernel_rfl) (fun _ _ _ h => h) (by kernel_rfl) ?_ hHeld ?_
            rotate_left
            · intro w hSw; have hs0 := hSw; go_simp; all_goals with_reducible rfl
            simp only [Act.put]
            refine wpAnyL_take (i := 1) (v := ?_) rfl (by kernel_rfl) (by kernel_rfl) (by kernel_rfl) (by kernel_rfl) (fun _ _ _ h => h) (by kernel_rfl) ?_ hHeld ?_
            rotate_left
            · intro w hSw; have hs0 := hSw; go_simp; all_goals with_reducible rfl
            simp only [Act.put]
            refine wpAnyL_take (i := 2) (v := ?_) rfl (by kernel_rfl) (by kernel_rfl) (by kernel_rfl) (by kernel_rfl) (fun _ _ _ h => h) (by kernel_rfl) ?_ hHeld ?_
            rotate_left
            · intro w hSw; have hs0 := hSw; go_simp; all_goals with_reducible rfl
            simp only [Act.put]
            refine wpAnyL_take (i := 3) (v := ?_) rfl (by kernel_rfl) (by kernel_rfl) (by kernel_rfl) (by kernel_rfl) (fun _ _ _ h => h) (by kernel_rfl) ?_ hHeld ?_
            rotate_left
            · intro w hSw; have hs0 := hSw; go_simp; all_goals with_reducible rfl
            simp only [Act.put]
            refine wpAnyL_take (i := 4) (v := ?_) rfl (by kernel_rfl) (by kernel_rfl) (by kernel_rfl) (by kernel_rfl) (fun _ _ _ h => h) (by kernel_rfl) ?_ hHeld ?_
            rotate_left
            · intro w hSw; have hs0 := hSw; go_simp; all_goals with_reducible rfl
            simp only [Act.put]
            refine wpAnyL_one (i := 5) rfl (by kernel_rfl) (by kernel_rfl) (fun K hK => ?_)
            go_simp
            refine (nodeID_calls x w5.drew).mono ?_
            rintro e w' ⟨rfl, rfl⟩
            refine hK.out _ _ (.inr hHeld) ?_
            clear hK K
            refine wpAnyL_one (i := 6) rfl (by kernel_rfl) (by kernel_rfl) (fun K hK => ?_)
            go_simp
            have HM5d : Hid (TMem wB B0 (.func (.func fU) #[] cU) bt bT bL bS lo ii gT gL fS1 (.slice (some ⟨gK, 0, none⟩) n1 cK1) ini uC us si.sccs (B + 3 + j + 2000 * (ii - i1)) w5.drew) := Lib.hid (HM5.out.below (below_drewN (Below.refl _ _) 1))
            refine (removeG_calls bS _ fS1 x w5.drew HM5d.out.tS hwx).mono ?_
            rintro e w6 ⟨rfl, hgm6, hgr6⟩
            have HM6 := Lib.hid (HM5d.out.setS hgr6 (Nat.le_refl _) hgm6)
            have HF6 : Hid (Foot (fun j => j = bt ∨ j = bS) wz w6) := Lib.hid ((HF5.out.trans (Foot.of_below (below_drewN (Below.refl w5.heap.size w5) 1) (fun _ => False)) (fun _ h => h.elim)).trans (Foot.of_grown hgr6) (fun j hj => .inl (.inr hj)))
            refine hK.out _ _ (.inr HM6.out.cells.2.2.2.2.1) ?_
            clear hK K hHeld hgm6 hgr6 HM5d HM5 HF5 c4
            refine wpAnyL_done (by kernel_rfl) ?_ _
            -- the component
            obtain ⟨a8, c8, rfl⟩ := own_shape' HO8.out
            have hq := HMq'.out.lt
            have HO6 : Hid (w6.ownsRow wq.heap.size 103 1 (.slice a8 c.length c8) c.length (c.map nodeV)) := Lib.hid (HF6.out.row HO8.out (fun g hg e => by
              have := (HO8.out.lt g hg).1
              rcases e with e | e <;> omega))
            obtain ⟨nc, hnc⟩ : ∃ nc, nc = c.length := ⟨_, rfl⟩
            have hnc1 : nc ≤ 1000 := by
              have h := HL1.out
              rw [HB1.out] at h
              simp at h; omega
            rw [← hnc] at HO6 ⊢
            have HNC := Lib.hid hnc
            have hs6 := HF6.out.size
            obtain ⟨j0, hj0, hz0, hz1, hz2⟩ := info_parts nodeT_info
            clear hnc hq
            go_wp2_with (at_builtin; refine wpList_append_own_at _ rfl _ _ 77 rfl wq.heap.size 103 j0 .nilIface 1 16 Tryz.underlying77 hj0 hz0 hz1 hz2 rfl (by decide) (.slice a8 nc c8) nc (c.map nodeV) rfl ?hownc ⟨w6.heap.size, 0, none⟩ 1 1 [nodeV x] rfl rfl ?d1 ?d2 ?d3 ?d4 ?d5 ?_)
            case hownc => exact HO6.out.alloc _
            case d1 => intro j u hj; match j, hj with | 0, hj => simp at hj; subst hj; first | exact (World.cell?_alloc_new w6 _ _ _).trans rfl | rfl
            case d2 => first | rfl | (intro u hu; simp at hu; subst hu; rfl)
            case d3 => unfold maxLen; omega
            case d4 => omega
            case d5 => first | omega | (simp; omega)
            intro v7 w7 hown hgrow _ hloc
            obtain ⟨a9, c9, rfl⟩ := own_shape' hown
            have hf7 : Foot (fun j => (Value.slice a8 nc c8).ownBlock = some j) w6 w7 := (Foot.of_below ((Below.refl w6.heap.size w6).alloc (Nat.le_refl _) _) _).trans (Foot.of_row hgrow) (fun j hj => .inl hj.symm)
            have hTlt : ∀ q, TF bt bT bL bS (.slice (some ⟨gK, 0, none⟩) n1 cK1) uC us q → q < wq.heap.size := fun q hq => by
              rcases hq with hq | hq | hq | hq | hq | hq
              · exact (HMq'.out.flt (.inl hq)).2
              · exact (HMq'.out.flt (.inr (.inl hq))).2
              · exact (HMq'.out.flt (.inr (.inr (.inl hq)))).2
              · exact (HMq'.out.flt (.inr (.inr (.inr (.inl hq))))).2
              · exact (HMq'.out.flt (.inr (.inr (.inr (.inr (.inl (by rw [← HKb.out]; exact hq))))))).2
              · exact (HMq'.out.flt (.inr (.inr (.inr (.inr (.inr hq)))))).2
            have hB0q : B0 ≤ wq.heap.size := by have := HMq'.out.lt; omega
            have HM7 := Lib.hid (HM6.out.foot hf7 (fun q hq e => by have := hTlt q hq; have := (HO6.out.lt q e).1; omega) (fun q hq => by have := (HO6.out.lt q hq).1; omega))
            have HTLT := Lib.hid hTlt
            have HO7 : Hid (w7.ownsRow wq.heap.size 103 1 (.slice a9 (nc + 1) c9) (nc + 1) ((c ++ [x]).map nodeV)) := Lib.hid (by rw [List.map_append]; exact hown)
            have HF7 : Hid (Foot (TF bt bT bL bS uK uC us) wq w7) := Lib.hid ((HFx.out.trans HF6.out (fun q hq => by
              rcases hq with hq | hq
              · exact .inl (.inl hq)
              · exact .inl (.inr (.inr (.inr (.inl hq)))))).trans hf7 (fun q hq => .inr (HO6.out.lt q hq).1))
            have HFS7 : Hid (∀ y, (cut fS1 x y).isSome = decide (y ∈ ini)) := Lib.hid (fun y => by
              unfold cut
              by_cases e : y = x
              · rw [if_pos e]
                have : y ∉ ini := by rw [e]; exact HXN.out
                simp [this]
              · rw [if_neg e, HSo.out y, HK1.out]; simp [e])
            have HFU7 : Hid (∀ y u, cut fS1 x y = some u → u = .agg #[]) := Lib.hid (fun y u hu => by
              unfold cut at hu
              by_cases e : y = x
              · rw [if_pos e] at hu; cases hu
              · rw [if_neg e] at hu; exact HSu.out y u hu)
            clear hown hgrow hloc hf7 hTlt HM6 HO6 HF6 HO8 HSo HSu HFx hB0q hs6
            have hcase : (b1 = [] ∧ ini = s.stack ∧ x = v) ∨ ∃ b2, b1 = b2 ++ [x] ∧ ini = s.stack ++ v :: b2 := by
              rcases List.eq_nil_or_concat b1 with h | ⟨b2, y, h⟩
              · rw [h] at HK1
                obtain ⟨h1, h2⟩ := List.append_inj' HK1.out rfl
                exact .inl ⟨h, h1.symm, (List.singleton_inj.1 h2).symm⟩
              · rw [List.concat_eq_append] at h
                have h3 := HK1.out
                rw [h, show s.stack ++ v :: (b2 ++ [y]) = (s.stack ++ v :: b2) ++ [y] by simp] at h3
                obtain ⟨h1, h2⟩ := List.append_inj' h3 rfl
                exact .inr ⟨b2, by rw [h, List.singleton_inj.1 h2], h1.symm⟩
            have HB1x := HB1.out
            rcases hcase with ⟨e1, e2, e3⟩ | ⟨b2, e1, e2⟩
            · have hxv : (x == v) = true := by rw [e3]; simp
              have HE1 := Lib.hid e1; have HE2 := Lib.hid e2; have HE3 := Lib.hid e3
              clear e1 e2 e3 HB1x
              obtain ⟨aC, cC, rfl⟩ := own_shape' HM7.out.scc.row
              obtain ⟨nC, hnC⟩ : ∃ nC, nC = si.sccs.length := ⟨_, rfl⟩
              have hnc2 : nC ≤ 1000 := by
                rw [hnC]
                refine Nat.le_trans (len_flatten (fun c hc => (HII.out.scc c hc).1)) (Nat.le_trans (nodup_lenT (m := ids) (List.nodup_append.1 HII.out.nd).2.1 (fun y hy => HSB.out y ((HII.out.met y).2 (.inr hy)))) HIDS.out)
              have HRC := Lib.hid HM7.out.scc.row
              rw [← hnC] at HRC HM7 HTLT HFi HMq' HF7
              have HNC2 := Lib.hid hnC
              obtain ⟨-, -, -, -, -, -, c6⟩ := HM7.out.cells
              have f6 := HM7.out.free 6
              have hg7 : bt < w7.heap.size := (HM7.out.flt (.inl rfl)).2
              obtain ⟨jj, hjj, hy0, hy1, hy2⟩ := info_parts nodesT_info
              have hlo7 : lo ≤ w7.heap.size := HM7.out.lt.2.2.2.2.2.2.2.2
              clear hnC
              go_wp2_with fail
              refine (nodeID_calls x w7).mono ?_
              rintro e w' ⟨rfl, rfl⟩
              go_wp2_with (at_builtin; refine wpList_append_own_at _ rfl _ _ 75 rfl lo 77 jj (.slice none 0 0) 1 24 Tryz.underlying75 hjj hy0 hy1 hy2 rfl (by decide) (.slice aC nC cC) nC us rfl ?hownd ⟨w7.heap.size, 0, none⟩ 1 1 [.slice a9 (nc + 1) c9] rfl rfl ?e1 ?e2 ?e3 ?e4 ?e5 ?_)
              case hownd => exact HRC.out.alloc _
              case e1 => intro j u hj; match j, hj with | 0, hj => simp at hj; subst hj; first | exact (World.cell?_alloc_new w7 _ _ _).trans rfl | rfl
              case e2 => first | rfl | (intro u hu; simp at hu; subst hu; rfl)
              case e3 => unfold maxLen; omega
              case e4 => omega
              case e5 => first | omega | (simp; omega)
              intro v8 w8 hown hgrow _ hloc
              obtain ⟨aD, cD, rfl⟩ := own_shape' hown
              have hf8 : Foot (fun j => (Value.slice aC nC cC).ownBlock = some j) w7 w8 := (Foot.of_below ((Below.refl w7.heap.size w7).alloc (Nat.le_refl _) _) _).trans (Foot.of_row hgrow) (fun j hj => .inl hj.symm)
              have hnb8 : ¬ (Value.slice aC nC cC).ownBlock = some bt := fun e => by have h1 := HRC.out.lt bt e; have h2 := HM7.out.lt; omega
              have k1 := hf8.cell c6 hnb8
              have k2 : w8.frozen? ⟨bt, 6, none⟩ = false := (World.frozen?_of_block (a := ⟨bt, 6, none⟩) (hf8.block bt hg7 hnb8)).trans f6
              have hfr : Fresh w7 (.slice aC nC cC) (.slice aD (nC + 1) cD) := hloc.imp id fun h g hg => by rw [h] at hg; have := Option.some.inj hg; omega
              have hrow9 : ∀ q, (Value.slice a9 (nc + 1) c9).ownBlock = some q → wq.heap.size ≤ q := fun q hq => (HO7.out.lt q hq).1
              have hln : (c ++ [x]).length = nc + 1 := by rw [HNC.out]; simp
              have hlol := HM7.out.scc.more (p := c ++ [x]) (u := .slice a9 (nc + 1) c9) (v' := .slice aD (nC + 1) cD) (w' := w8) (by rw [hln]; exact own_lower HO7.out hqs) (fun q hq hF => by
                have h1 := hrow9 q hq
                have h2 := HTLT.out q (.inr (.inr (.inr (.inr (.inr hF)))))
                omega) (by rw [← HNC2.out]; exact hown) (fun q h1 h2 => by rw [hgrow.block q (by simp; omega) h2]; exact heap_alloc_old _ _ h1) hfr
              have hgKq : gK < wq.heap.size := HTLT.out gK (.inr (.inr (.inr (.inr (.inl rfl)))))
              have hszqw : wq.heap.size ≤ w7.heap.size := HF7.out.size
              have hnew : ∀ q, LolGF (.slice aD (nC + 1) cD) (us ++ [.slice a9 (nc + 1) c9]) q → LolGF (.slice aC nC cC) us q ∨ wq.heap.size ≤ q := fun q hq => by
                rcases hq with hq | ⟨u, hu, hq⟩
                · rcases hfr with h1 | h1
                  · exact .inl (.inl (hq.trans h1))
                  · have := h1 q hq.symm; exact .inr (by omega)
                · rcases List.mem_append.1 hu with hu | hu
                  · exact .inl (.inr ⟨u, hu, hq⟩)
                  · rw [List.mem_singleton.1 hu] at hq; exact .inr (hrow9 q hq)
              obtain ⟨hm9, hf9⟩ := HM7.out.newC hf8 hlol (fun q hq e => by
                have e' : gK = q := Option.some.inj e
                rcases hnew q hq with h1 | h1
                · exact HM7.out.ap q e h1
                · omega)
              have HM9 := Lib.hid hm9; have HF9 := Lib.hid hf9; have HNEW := Lib.hid hnew
              clear hown hgrow hloc hf8 hnb8 hfr hrow9 hln hlol hnew hm9 hf9 c6 f6 HRC HM7 HO7
              go_wp2_with fail
              go_end0
              have hbq : b' = c.reverse := by rw [HB1.out, HE1.out]; rfl
              have hcv : c ++ [x] = (v :: b').reverse := by rw [hbq, HE3.out]; simp
              have hst2 : si.stack = s.stack ++ v :: b' := HSTK'.out
              obtain ⟨p1, p2⟩ := belowOf_at (b := b') HVST.out
              have el : si.leave v = { si with stack := s.stack, sccs := si.sccs ++ [(v :: b').reverse], left := si.left ++ [v] } := by
                unfold TS.leave
                rw [if_pos (by rw [← HLV.out, ← HTV.out]; exact hlt), hst2, p1, p2]
              have hTF : ∀ q, TF bt bT bL bS uK (.slice aC nC cC) us q → F q ∨ w.heap.size ≤ q := fun q hq => HFj.out q ((HFi.out q).2 hq)
              have hwq : w.heap.size ≤ wq.heap.size := by have h := HFq.out.size; rw [← HWQ.out] at h; exact h
              refine ⟨rfl, si, TF bt bT bL bS (.slice (some ⟨gK, 0, none⟩) n1 cK1) (.slice aD (nC + 1) cD) (us ++ [.slice a9 (nc + 1) c9]), HSD.out, ⟨gT, gL, cut fS1 x, _, _, _, ?_, ?_, fun _ => Iff.rfl⟩, ?_, fun q hq => ?_⟩
              · rw [el]
                refine ⟨HOKi.out.t, HOKi.out.l, fun y => ?_, HFU7.out⟩
                rw [HFS7.out y, HE2.out]
              · rw [el]
                have h := HM9.out
                rw [hcv, HE2.out, HIIX.out] at h
                refine h.mono ?_
                have := HI1.out; have := HIX.out; have := HIIX.out; have := HCI.out
                omega
              · have h := HFq.out
                rw [← HWQ.out] at h
                refine (h.trans HF7.out (fun q hq => hTF q hq)).trans HF9.out (fun q hq => ?_)
                rcases hq with hq | hq
                · exact hTF q (.inl hq)
                · exact hTF q (.inr (.inr (.inr (.inr (.inr (.inl hq.symm))))))
              · rcases hq with hq | hq | hq | hq | hq | hq
                · exact hTF q (.inl hq)
                · exact hTF q (.inr (.inl hq))
                · exact hTF q (.inr (.inr (.inl hq)))
                · exact hTF q (.inr (.inr (.inr (.inl hq))))
                · exact hTF q (.inr (.inr (.inr (.inr (.inl (by rw [← HKb.out]; exact hq))))))
                · rcases HNEW.out q hq with h1 | h1
                  · exact hTF q (.inr (.inr (.inr (.inr (.inr h1)))))
                  · exact .inr (by omega)
            · have hxv : (x == v) = false := by
                rw [beq_eq_false_iff_ne]
                intro e
                exact HXN.out (by rw [e2, e]; simp)
              have HE1 := Lib.hid e1; have HE2 := Lib.hid e2
              clear e1 e2 HB1x
              go_wp2_with fail
              refine (nodeID_calls x w7).mono ?_
              rintro e w' ⟨rfl, rfl⟩
              go_wp2_with fail
              go_roundg b2.length.succ
              case measure =>
                have h := HGK.out
                rw [HE1.out, List.length_append, List.length_singleton] at h
                omega
              case rel =>
                refine ⟨b2, c ++ [x], _, .slice (some ⟨gK, 0, none⟩) n1 cK1, cut fS1 x, Lib.hid ?_, Nat.lt_succ_self _, rfl, Lib.hid ?_, Lib.hid ?_, Lib.hid ?_, HFU7, HKb, HF7⟩
                · rw [HB1.out, HE1.out]; simp
                · rw [show (c ++ [x]).length = nc + 1 by rw [HNC.out]; simp]
                  exact HO7.out
                · rw [← HE2.out]; exact HM7.out
                · rw [← HE2.out]; exact HFS7.out
        · have ht1 : ((lv : Int) == (tv : Int)) = false := by
            rw [beq_eq_false_iff_ne]
            omega
          go_upto_region 16 with fail
          refine wp_region_L (by kernel_rfl) (fun w' => (w'.cell? ⟨bt, 2, none⟩ = some (.map (some bT)) ∧ w'.cell? ⟨bt, 3, none⟩ = some (.map (some bL))) ∧ (Instr.lookup 193 (.map (some bL)) (.int .i64 v) false).run Tryz.prog w' = .ok (.int .i64 (lv : Int)) w' ∧ (Instr.lookup 193 (.map (some bT)) (.int .i64 v) false).run Tryz.prog w' = .ok (.int .i64 (tv : Int)) w') [] ⟨⟨c2, c3⟩, hk1, hk2⟩ (fun hHeld => ?_)
          refine wpAnyL_take (i := 0) (v := ?_) rfl (by kernel_rfl) (by kernel_rfl) (by kernel_rfl) (by kernel_rfl) (fun _ _ _ h => h) (by kernel_rfl) ?_ hHeld ?_
          rotate_left
          · intro w hSw; obtain ⟨⟨hs0, hs1⟩, hs2, hs3⟩ := hSw; go_simp; all_goals with_reducible rfl
          simp only [Act.put]
          refine wpAnyL_take (i := 1) (v := ?_) rfl (by kernel_rfl) (by kernel_rfl) (by kernel_rfl) (by kernel_rfl) (fun _ _ _ h => h) (by kernel_rfl) ?_ hHeld ?_
          rotate_left
          · intro w hSw; obtain ⟨⟨hs0, hs1⟩, hs2, hs3⟩ := hSw; go_simp; all_goals with_reducible rfl
          simp only [Act.put]
          refine wpAnyL_take (i := 2) (v := ?_) rfl (by kernel_rfl) (by kernel_rfl) (by kernel_rfl) (by kernel_rfl) (fun _ _ _ h => h) (by kernel_rfl) ?_ hHeld ?_
          rotate_left
          · intro w hSw; obtain ⟨⟨hs0, hs1⟩, hs2, hs3⟩ := hSw; go_simp; all_goals with_reducible rfl
          simp only [Act.put]
          refine wpAnyL_take (i := 3) (v := ?_) rfl (by kernel_rfl) (by kernel_rfl) (by kernel_rfl) (by kernel_rfl) (fun _ _ _ h => h) (by kernel_rfl) ?_ hHeld ?_
          rotate_left
          · intro w hSw; obtain ⟨⟨hs0, hs1⟩, hs2, hs3⟩ := hSw; go_simp; all_goals with_reducible rfl
          simp only [Act.put]
          refine wpAnyL_take (i := 4) (v := ?_) rfl (by kernel_rfl) (by kernel_rfl) (by kernel_rfl) (by kernel_rfl) (fun _ _ _ h => h) (by kernel_rfl) ?_ hHeld ?_
          rotate_left
          · intro w hSw; obtain ⟨⟨hs0, hs1⟩, hs2, hs3⟩ := hSw; go_simp; all_goals with_reducible rfl
          simp only [Act.put]
          refine wpAnyL_take (i := 5) (v := ?_) rfl (by kernel_rfl) (by kernel_rfl) (by kernel_rfl) (by kernel_rfl) (fun _ _ _ h => h) (by kernel_rfl) ?_ hHeld ?_
          rotate_left
          · intro w hSw; obtain ⟨⟨hs0, hs1⟩, hs2, hs3⟩ := hSw; go_simp; all_goals with_reducible rfl
          simp only [Act.put]
          refine wpAnyL_take (i := 6) (v := ?_) rfl (by kernel_rfl) (by kernel_rfl) (by kernel_rfl) (by kernel_rfl) (fun _ _ _ h => h) (by kernel_rfl) ?_ hHeld ?_
          rotate_left
          · intro w hSw; obtain ⟨⟨hs0, hs1⟩, hs2, hs3⟩ := hSw; go_simp; all_goals with_reducible rfl
          simp only [Act.put]
          refine wpAnyL_take (i := 7) (v := ?_) rfl (by kernel_rfl) (by kernel_rfl) (by kernel_rfl) (by kernel_rfl) (fun _ _ _ h => h) (by kernel_rfl) ?_ hHeld ?_
          rotate_left
          · intro w hSw; obtain ⟨⟨hs0, hs1⟩, hs2, hs3⟩ := hSw; go_simp; all_goals with_reducible rfl
          simp only [Act.put]
          refine wpAnyL_take (i := 8) (v := ?_) rfl (by kernel_rfl) (by kernel_rfl) (by kernel_rfl) (by kernel_rfl) (fun _ _ _ h => h) (by kernel_rfl) ?_ hHeld ?_
          rotate_left
          · intro w hSw; obtain ⟨⟨hs0, hs1⟩, hs2, hs3⟩ := hSw; go_simp; all_goals with_reducible rfl
          simp only [Act.put]
          refine wpAnyL_take (i := 9) (v := ?_) rfl (by kernel_rfl) (by kernel_rfl) (by kernel_rfl) (by kernel_rfl) (fun _ _ _ h => h) (by kernel_rfl) ?_ hHeld ?_
          rotate_left
          · intro w hSw; obtain ⟨⟨hs0, hs1⟩, hs2, hs3⟩ := hSw; go_simp; all_goals with_reducible rfl
          simp only [Act.put]
          refine wpAnyL_take (i := 10) (v := ?_) rfl (by kernel_rfl) (by kernel_rfl) (by kernel_rfl) (by kernel_rfl) (fun _ _ _ h => h) (by kernel_rfl) ?_ hHeld ?_
          rotate_left
          · intro w hSw; obtain ⟨⟨hs0, hs1⟩, hs2, hs3⟩ := hSw; go_simp; all_goals with_reducible rfl
          simp only [Act.put]
          refine wpAnyL_take (i := 11) (v := ?_) rfl (by kernel_rfl) (by kernel_rfl) (by kernel_rfl) (by kernel_rfl) (fun _ _ _ h => h) (by kernel_rfl) ?_ hHeld ?_
          rotate_left
          · intro w hSw; obtain ⟨⟨hs0, hs1⟩, hs2, hs3⟩ := hSw; go_simp; all_goals with_reducible rfl
          simp only [Act.put]
          refine wpAnyL_one (i := 12) rfl (by kernel_rfl) (by kernel_rfl) (fun K hK => ?_)
          go_simp
          refine hK.out _ _ (.inr hHeld) ?_
          clear hK K
          refine wpAnyL_done (by kernel_rfl) ?_ _
          clear hk1 hk2 c2 c3 hHeld
          have HMq : Hid (TMem wB B0 (.func (.func fU) #[] cU) bt bT bL bS lo ii gT gL gS uK si.stack uC us si.sccs (B + 3 + j + 2000 * (ii - i1)) wr.drew) := Lib.hid (HMi.out.below (below_drewN (Below.refl _ _) 1))
          have HFq : Hid (Foot F w wr.drew) := Lib.hid (HFw.out.trans (Foot.of_below (below_drewN (Below.refl wr.heap.size wr) 1) (fun _ => False)) (fun _ h => h.elim))
          clear HMi HFw
          clear ht1
          go_wp2_with fail
          go_end0
          have el : si.leave v = { si with left := si.left ++ [v] } := by unfold TS.leave; rw [if_neg (by rw [← HLV.out, ← HTV.out]; exact hlt)]
          refine ⟨rfl, si, Fj, HSD.out, ⟨gT, gL, gS, uK, uC, us, ?_, ?_, HFi.out⟩, HFq.out, HFj.out⟩
          · rw [el]; exact ⟨HOKi.out.t, HOKi.out.l, HOKi.out.o, HOKi.out.u⟩
          · rw [el]
            have h := HMq.out
            rw [HIIX.out] at h
            refine h.mono ?_
            have := HI1.out; have := HIX.out; have := HIIX.out; have := HCI.out
            omega
end Go.Proofs.YtnfkbjgijelfdaaGreat
