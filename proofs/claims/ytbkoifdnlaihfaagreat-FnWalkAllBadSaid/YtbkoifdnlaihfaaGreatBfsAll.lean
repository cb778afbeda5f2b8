/- The walk of traverse.BreadthFirst.WalkAll. -/
import Derived.Test.YtbkoifdnlaihfaaGreatBfs
import Derived.Test.YtbkoifdnlaihfaaGreatDfsAll
namespace Go.Proofs.YtbkoifdnlaihfaaGreat
open Go.RowKit

section
variable {fD fA : FuncId} {cD cA : Array Value} {C : World → (Nat → Prop) → List (List Int) → List Int → Prop}

/-- What the walk's caller keeps, with the box of its closure. -/
def BoxC (C : World → (Nat → Prop) → List (List Int) → List Int → Prop) (ls : List (List Int)) (bx : Nat) (dv : Value) (w : World) (S : Nat → Prop) (p : List Int) : Prop :=
  ∃ S0 : Nat → Prop, (∀ j, S j ↔ S0 j ∨ j = bx) ∧ C w S0 ls p ∧ w.cell? ⟨bx, 0, none⟩ = some dv ∧ ¬ S0 bx

set_option maxHeartbeats 1000000 in
theorem bfsClosure_calls (hc : Client fD fA cD cA C) (bx : Nat) (S : Nat → Prop) (ls : List (List Int)) (p : List Int) (x d : Int) (w : World) (h : C w S ls p) (hb : w.cell? ⟨bx, 0, none⟩ = some (.func (.func fD) #[] cD)) (hp : p.length ≤ 1000000) :
    Calls Tryz.prog 103 #[nodeV x, .int .i64 d, .pointer (some ⟨bx, 0, none⟩)] w (DuringPost C (.bool false) S ls p x w) := by
  have H := Lib.hid h; have HC := Lib.hid hc
  have m1 := neq_fNode; have m2 := hc.eD
  clear h hc
  unfold nodeV
  go_enter Tryz.func103, Tryz.ntmps103
  go_wp2_with fail
  refine (HC.out.during w S ls p x H.out hp).mono ?_
  rintro e w1 ⟨rfl, S', h1, h2, h3⟩
  have H1 := Lib.hid h1; have H2 := Lib.hid h2; have H3 := Lib.hid h3
  clear h1 h2 h3
  go_wp2_with fail
  go_ret
  exact ⟨rfl, S', H1.out, H2.out, H3.out⟩

theorem boxClient (hc : Client fD fA cD cA C) (ls : List (List Int)) (bx : Nat) : ClientU 103 #[.pointer (some ⟨bx, 0, none⟩)] (fun _ => false) (BoxC C ls bx (.func (.func fD) #[] cD)) where
  eU := Tryz.call103
  lt := fun w S p ⟨S0, h1, h2, h3, h4⟩ j hj => by
    rcases (h1 j).1 hj with h | h
    · exact hc.lt w S0 ls p h2 j h
    · rw [h]; exact World.block_lt_of_cell? w _ h3
  keeps := fun w w' S p ⟨S0, h1, h2, h3, h4⟩ hs hb => ⟨S0, h1, hc.keeps w w' S0 ls p h2 hs (fun j hj => hb j ((h1 j).2 (.inl hj))), (World.cell?_of_block (hb bx ((h1 bx).2 (.inr rfl)))).trans h3, h4⟩
  asks := fun w S p x d ⟨S0, h1, h2, h3, h4⟩ hp => (bfsClosure_calls hc bx S0 ls p x d w h2 h3 hp).mono fun e w' ⟨he, S', h5, h6, h7⟩ => by
    have hbx : bx < w.heap.size := World.block_lt_of_cell? w _ h3
    refine ⟨he, fun j => S' j ∨ j = bx, ⟨S', fun j => Iff.rfl, h5, h6.cell h3 h4, fun h => ?_⟩, h6.mono (fun j hj => (h1 j).2 (.inl hj)), fun j hj => ?_⟩
    · rcases h7 bx h with h | h
      · exact h4 h
      · omega
    · rcases hj with hj | hj
      · rcases h7 j hj with h | h
        · exact .inl ((h1 j).2 (.inl h))
        · exact .inr h
      · exact .inl ((h1 j).2 (.inr hj))

set_option maxHeartbeats 1000000 in
theorem bVisited_calls (bd : Nat) (m : Option Nat) (vis : List Int) (x : Int) (w : World) (hb : w.cell? ⟨bd, 4, none⟩ = some (.map m)) (h : SetV w m vis) (hx : (Lit.int .i64 x).wf = true) :
    Calls Tryz.prog 102 #[.pointer (some ⟨bd, 0, none⟩), nodeV x] w fun e w' => e = .returned (.bool (decide (x ∈ vis))) ∧ Below w.heap.size w w' := by
  have H := Lib.hid h; clear h
  have m1 := method_ID x
  unfold nodeV
  obtain ⟨b, hbb⟩ : ∃ b, decide (x ∈ vis) = b := ⟨_, rfl⟩
  have HBB := Lib.hid hbb
  rw [hbb]
  clear hbb
  go_enter Tryz.func102, Tryz.ntmps102
  go_wp2_with fail
  go_region_held3 (fun w' => w'.cell? ⟨bd, 4, none⟩ = some (.map m))
    (first | with_reducible exact s2 | go_keep)
    (first
      | (go_at_call 267; refine (nodeID_calls x (w.drewN 1)).mono ?_; rintro e w' ⟨rfl, rfl⟩)
      | (go_at_call 113; refine (has64_calls m vis x (w.drewN 1) (H.out.foot (Foot.of_below (below_drewN (Below.refl _ _) 1) (fun _ => False)) (fun _ _ h => h)) hx).mono ?_; rintro e w2 ⟨he, hb2⟩; rw [HBB.out] at he; subst he; have s2 := (hb2.cell (p := ⟨bd, 4, none⟩) (World.block_lt_of_cell? w _ hb)).trans hb; have HB2 := Lib.hid ((below_drewN (Below.refl w.heap.size w) 1).trans hb2); clear hb2))
  go_wp2
  go_ret
  exact ⟨rfl, HB2.out⟩

set_option maxHeartbeats 8000000 in
set_option maxRecDepth 100000 in
theorem bWalkAll_calls {t : TypeId} {recv : Value} {fNs fFr : FuncId} {G : World → Prop} {ids : List Int} {adj : Int → List Int} (hG : GraphR t recv fNs fFr G ids adj) (hc : Client fD fA cD cA C) {w : World}
    (hwf : ∀ y ∈ ids, (Lit.int .i64 y).wf = true) (hn : ids.length ≤ 100000)
    {bd : Nat} {S : Nat → Prop} {ls : List (List Int)} (hls : ls.length ≤ 100000) (hd : BfSt w bd (bd + 1) 0 (.slice none 0 0) none []) (hcl : C w S ls []) (hS : ¬ S bd) (hg : ∀ w', Foot (fun j => S j ∨ j = bd) w w' → G w') :
    Calls Tryz.prog 62 #[.pointer (some ⟨bd, 0, none⟩), .iface t recv, .nilFunc, .func (.func fA) #[] cA, .func (.func fD) #[] cD] w (AllPost ids adj C bd S ls w) := by
  have HG := Lib.hid hG; have HC := Lib.hid hc; have HGG := Lib.hid hg; have HWF := Lib.hid hwf
  have m1 := hG.mNodes; have m2 := hG.aNodes; have m3 := hG.eNodes; have m4 := neq_f0; have m5 := nil_f0; have m6 := hc.eA
  have hbdw := hd.lt
  have HD := Lib.hid hd; have HCL := Lib.hid hcl; have HS := Lib.hid hS
  clear hG hc hg hwf hd hcl hS
  go_enter Tryz.func62, Tryz.ntmps62
  go_wp2_with fail
  obtain ⟨w1, hw1⟩ : ∃ w1, w1 = w.alloc (.cells #[.func (.func fD) #[] cD] 102) := ⟨_, rfl⟩
  have HB1 : Hid (Below w.heap.size w w1) := by rw [hw1]; exact (Below.refl _ _).alloc (Nat.le_refl _) _
  have HX1 : Hid (w1.cell? ⟨w.heap.size, 0, none⟩ = some (.func (.func fD) #[] cD)) := by rw [hw1]; exact Lib.hid (by go_simp)
  have hs1 : w1.heap.size = w.heap.size + 1 := by rw [hw1]; simp
  rw [← hw1]
  clear hw1
  refine (bReset_calls bd (bd + 1) w1 (HD.out.foot (Foot.of_below HB1.out (fun _ => False)) (fun h => h) (fun _ _ h => h))).mono ?_
  rintro e w2 ⟨rfl, hd2, hf2⟩
  have hs2 := hf2.size
  have HF2 : Hid (Foot (fun j => S j ∨ j = bd) w w2) := (Foot.of_below HB1.out _).trans hf2 (fun j hj => .inl (.inr hj))
  have HW2 : Hid (BWalkSt w2 (fun j => S j ∨ j = bd ∨ j = w.heap.size) (BoxC C ls w.heap.size (.func (.func fD) #[] cD)) bd 0 none (.slice none 0 0) (fun j => S j ∨ j = w.heap.size) [] [] [] w2) := by
    have hlt := HC.out.lt w S ls [] HCL.out
    refine ⟨hd2, fun _ => rfl, .inl ⟨rfl, rfl⟩, ⟨S, fun j => Iff.rfl, HC.out.keeps w w2 S ls [] HCL.out HF2.out.size (fun j hj => ?_), hf2.cell HX1.out (fun e => by omega), fun h => by have := hlt _ h; omega⟩, fun b e => (nomatch e), fun g hg => by simp [Value.ownBlock] at hg, (fun h => by rcases h with h | h; exact HS.out h; omega), Foot.refl _ _, fun j hj => ?_⟩
    · rw [hf2.block j (by have := hlt j hj; omega) (fun e => HS.out (e ▸ hj)), HB1.out.block j (hlt j hj)]
    · rcases hj with (hj | hj) | hj | hj | hj
      · exact .inl (.inl hj)
      · exact .inl (.inr (.inr hj))
      · simp [Value.ownBlock] at hj
      · cases hj
      · exact .inl (.inr (.inl hj))
  clear hd2 hf2 HB1 HX1 HD HCL
  have HGR : Hid (G w2) := HGG.out w2 HF2.out
  go_wp2_with fail
  refine (HG.out.nodes w2 HGR.out).mono ?_
  rintro e w3 ⟨t3, r3, fN3, fV3, P3, rfl, hI, hP, hb3⟩
  have HI := Lib.hid hI; have HP3 := Lib.hid hP
  have n1 := hI.it.mNext; have n2 := hI.it.aNext; have n3 := hI.it.mNode; have n4 := hI.it.aNode; have n5 := hI.it.eNext; have n6 := hI.it.eNode
  have HW3 := Lib.hid (HW2.out.stepB (boxClient HC.out ls w.heap.size) hb3)
  have hs3 := hb3.size
  clear hI hP hb3 HGR m1 m2 m3
  go_wp2_with fail
  go_loopg [] (ids.length + 1) (fun g wr => ∃ (m : Option Nat) (v : Value) (S' : Nat → Prop) (vis l : List Int) (ps : List (List Int)) (c : Option Int), BWalkSt w2 (fun j => S j ∨ j = bd ∨ j = w.heap.size) (BoxC C (ls ++ ps) w.heap.size (.func (.func fD) #[] cD)) bd 0 m v S' vis [] [] wr ∧
    P3 wr c l ∧ w3.heap.size ≤ wr.heap.size ∧ (∀ j, S' j ∨ some j = v.ownBlock ∨ m = some j ∨ j = bd → j < w2.heap.size ∨ w3.heap.size ≤ j) ∧ vis.Nodup ∧ (∀ y ∈ vis, y ∈ ids) ∧ (∀ y ∈ l, y ∈ ids) ∧ (∀ ps', CompsFrom ids adj l vis ps' → CompsFrom ids adj ids [] (ps ++ ps')) ∧ l.length < g ∧ ps.length + l.length ≤ ids.length)
  case atStart =>
    refine ⟨none, .slice none 0 0, _, [], ids, [], none, by rw [List.append_nil]; exact HW3.out, HP3.out, Nat.le_refl _, fun j hj => ?_, List.nodup_nil, (fun _ h => nomatch h), fun _ h => h, fun ps' h => h, by omega, by simp⟩
    rcases hj with hj | hj | hj | hj
    · exact .inl ((boxClient HC.out ls w.heap.size).lt w2 _ [] HW2.out.cl j hj)
    · simp [Value.ownBlock] at hj
    · cases hj
    · left; have := HW2.out.df.lt; omega
  case round =>
    obtain ⟨m, v, S', vis, l, ps, c, hw, hp, hsr, hav, hvn, hvs, hli, hk, hg, hpl⟩ := hrel
    have HW := Lib.hid hw; have HP := Lib.hid hp; have HAV := Lib.hid hav; have HVN := Lib.hid hvn; have HVS := Lib.hid hvs; have HLI := Lib.hid hli; have HK := Lib.hid hk
    clear hw hp hav hvn hvs hli hk HP3 HW3
    have HCB := Lib.hid (boxClient HC.out (ls ++ ps) w.heap.size)
    cases l with
    | nil =>
      go_wp2_with fail
      refine (HI.out.it.next wr c [] HP.out).mono ?_
      rintro e w4 ⟨rfl, -, hw4⟩
      rw [show (!([] : List Int).isEmpty) = false from rfl]
      have HW4 := Lib.hid (HW.out.keepI HCB.out hw4 (Nat.le_refl _) HAV.out)
      clear hw4
      go_wp2_with fail
      go_end0
      have hnew := HW4.out.new
      obtain ⟨S0, h1, h2, h3, h4⟩ := HW4.out.cl
      refine ⟨rfl, S0, ps, h2, by have := HK.out [] rfl; rwa [List.append_nil] at this, HF2.out.trans HW4.out.foot (fun j hj => ?_), fun j hj => ?_⟩
      · rcases hj with hj | hj | hj
        · exact .inl (.inl hj)
        · exact .inl (.inr hj)
        · exact .inr (by omega)
      · rcases hnew j (.inl ((h1 j).2 (.inl hj))) with h | h
        · rcases h with h | h | h
          · exact .inl h
          · subst h; exact absurd ((h1 j).2 (.inl hj)) HW4.out.sne
          · right; omega
        · right; have := HF2.out.size; omega
    | cons x l =>
      go_wp2_with fail
      refine (HI.out.it.next wr c (x :: l) HP.out).mono ?_
      rintro e w4 ⟨rfl, hp4, hw4⟩
      rw [show (!(x :: l).isEmpty) = true from rfl]
      have HW4 := Lib.hid (HW.out.keepI HCB.out hw4 (Nat.le_refl _) HAV.out)
      have HP4 := Lib.hid hp4
      have hs4 := hw4.2.2.2.1
      clear hw4 hp4 HW HP
      go_wp2_with fail
      refine (HI.out.it.node w4 x l HP4.out).mono ?_
      rintro e w5 ⟨rfl, hp5, hw5⟩
      have HW5 := Lib.hid (HW4.out.keepI HCB.out hw5 (Nat.le_refl _) HAV.out)
      have HP5 := Lib.hid hp5
      have hs5 := hw5.2.2.2.1
      clear hw5 hp5 HW4 HP4
      have hxi : x ∈ ids := HLI.out x (List.mem_cons_self ..)
      have hwx := HWF.out x hxi
      have HXI := Lib.hid hxi
      clear hxi
      go_wp2_with fail
      refine (bVisited_calls bd m vis x w5 HW5.out.df.cells.2.2.2.2.1 HW5.out.set hwx).mono ?_
      rintro e w6 ⟨rfl, hb6⟩
      have HW6 := Lib.hid (HW5.out.stepB HCB.out hb6)
      have HP6 : Hid (P3 w6 (some x) l) := HI.out.foot HP5.out (Foot.of_below hb6 (fun _ => False)) (by omega) (fun _ h => h.elim)
      have hs6 := hb6.size
      clear hb6 HW5 HP5
      by_cases hin : x ∈ vis
      · have hd : decide (x ∈ vis) = true := by simpa using hin
        rw [hd]
        have HIN := Lib.hid hin
        clear hin hd
        go_wp2_with fail
        go_roundg (gk - 1)
        case measure => simp only [List.length_cons] at hg; omega
        case rel => exact ⟨m, v, S', vis, l, ps, some x, HW6.out, HP6.out, by omega, HAV.out, HVN.out, HVS.out, fun y hy => HLI.out y (List.mem_cons_of_mem _ hy), fun ps' h => HK.out ps' (.inl ⟨HIN.out, h⟩), by simp only [List.length_cons] at hg; omega, by simp only [List.length_cons] at hpl; omega⟩
      · have hd : decide (x ∈ vis) = false := by simpa using hin
        rw [hd]
        have HIN := Lib.hid hin
        clear hin hd
        have HGW : Hid (∀ w', Foot (fun j => S' j ∨ some j = v.ownBlock ∨ m = some j ∨ j = bd) w6 w' → G w') := fun w' hf => HGG.out w' (HF2.out.trans (HW6.out.foot.trans hf (fun j hj => HW6.out.new j hj)) (fun j hj => by
          rcases hj with hj | hj | hj
          · exact .inl (.inl hj)
          · exact .inl (.inr hj)
          · exact .inr (by omega)))
        go_wp2_with fail
        refine (bWalk_calls HG.out HCB.out HGW.out HWF.out hn HW6.out.rebase HXI.out HIN.out HVN.out HVS.out (by simp)).mono ?_
        intro e w7 hpost
        obtain ⟨rfl, b, v7, S7, part, hw7, hpart, -⟩ : e = .returned .nilIface ∧ ∃ b v_ S_ part, BWalkSt w6 (fun j => S' j ∨ some j = v.ownBlock ∨ m = some j ∨ j = bd) (BoxC C (ls ++ ps) w.heap.size (.func (.func fD) #[] cD)) bd 0 (some b) v_ S_ (vis ++ part) [] ([] ++ part) w7 ∧ PartOf ids adj vis x part ∧ ∀ y ∈ part, (fun _ => false) y = false := by
          rcases hpost with h | ⟨u, _, h, _⟩
          · exact h
          · cases h
        clear hpost
        have HW7 := Lib.hid (HW6.out.unbase hw7)
        have HP7 : Hid (P3 w7 (some x) l) := HI.out.foot HP6.out hw7.foot (by omega) HAV.out
        have HAV7 : Hid (∀ j, S7 j ∨ some j = v7.ownBlock ∨ some b = some j ∨ j = bd → j < w2.heap.size ∨ w3.heap.size ≤ j) := fun j hj => by
          rcases hw7.new j hj with h | h
          · exact HAV.out j h
          · right; omega
        have hs7 := hw7.foot.size
        have HPART := Lib.hid hpart
        have hpl7 : part.length ≤ ids.length := nodup_len hpart.nodup hpart.sub
        clear hw7 hpart HW6 HP6
        go_wp2_with fail
        obtain ⟨S0, hS1, hS2, hS3, hS4⟩ := HW7.out.cl
        have hx7 : w.heap.size < w7.heap.size := World.block_lt_of_cell? w7 _ hS3
        have HS1 := Lib.hid hS1; have HS2 := Lib.hid hS2; have HS3 := Lib.hid hS3; have HS4 := Lib.hid hS4
        clear hS1 hS2 hS3 hS4
        refine (HC.out.after w7 S0 (ls ++ ps) part HS2.out (by rw [List.length_append]; omega) (by omega)).mono ?_
        rintro e w8 ⟨rfl, S8', hc8, hf8', hs8'⟩
        obtain ⟨S8, hS8⟩ : ∃ S8 : Nat → Prop, S8 = fun j => S8' j ∨ j = w.heap.size := ⟨_, rfl⟩
        have hf8 : Foot S7 w7 w8 := hf8'.mono (fun j hj => (HS1.out j).2 (.inl hj))
        have hs8 : ∀ j, S8 j → S7 j ∨ w7.heap.size ≤ j := fun j hj => by
          rw [hS8] at hj
          rcases hj with hj | hj
          · rcases hs8' j hj with h | h
            · exact .inl ((HS1.out j).2 (.inl h))
            · exact .inr h
          · exact .inl ((HS1.out j).2 (.inr hj))
        have hbc8 : BoxC C (ls ++ ps ++ [part]) w.heap.size (.func (.func fD) #[] cD) w8 S8 [] := ⟨S8', fun j => by rw [hS8], hc8, hf8'.cell HS3.out HS4.out, fun h => by rcases hs8' _ h with h | h; exact HS4.out h; omega⟩
        have HW8 := Lib.hid (HW7.out.stepC hbc8 hf8 hs8)
        have HP8 : Hid (P3 w8 (some x) l) := HI.out.foot HP7.out hf8 (by omega) (fun j hj => HAV7.out j (.inl hj))
        have HAV8 : Hid (∀ j, S8 j ∨ some j = v7.ownBlock ∨ some b = some j ∨ j = bd → j < w2.heap.size ∨ w3.heap.size ≤ j) := fun j hj => by
          rcases hj with hj | hj
          · rcases hs8 j hj with h | h
            · exact HAV7.out j (.inl h)
            · right; omega
          · exact HAV7.out j (.inr hj)
        have hz8 := hf8.size
        clear hc8 hf8 hs8 hbc8 hs8' hf8' hS8 HW7 HP7 HS1 HS2 HS3 HS4
        go_wp2
        go_roundg (gk - 1)
        case measure => simp only [List.length_cons] at hg; omega
        case rel =>
          refine ⟨some b, v7, S8, vis ++ part, l, ps ++ [part], some x, by rw [← List.append_assoc]; exact HW8.out, HP8.out, by omega, HAV8.out, List.nodup_append.2 ⟨HVN.out, HPART.out.nodup, fun a ha c hc e => HPART.out.new c hc (e ▸ ha)⟩, fun y hy => ?_, fun y hy => HLI.out y (List.mem_cons_of_mem _ hy), fun ps' h => ?_, by simp only [List.length_cons] at hg; omega, by simp only [List.length_cons, List.length_append, List.length_nil] at hpl ⊢; omega⟩
          · rcases List.mem_append.1 hy with hy | hy
            · exact HVS.out y hy
            · exact HPART.out.sub y hy
          · rw [List.append_assoc]
            exact HK.out (part :: ps') (.inr ⟨HIN.out, part, ps', rfl, HPART.out, h⟩)
end
end Go.Proofs.YtbkoifdnlaihfaaGreat
