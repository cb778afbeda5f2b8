/- The walk of traverse.DepthFirst.WalkAll. -/
import Derived.Test.YtbkoifdnlaihfaaGreatDfs
namespace Go.Proofs.YtbkoifdnlaihfaaGreat
open Go.RowKit

/-- The parts that walks from one node after the other have, those of them that are visited left out. -/
def CompsFrom (ids : List Int) (adj : Int → List Int) : List Int → List Int → List (List Int) → Prop
  | [], _, ps => ps = []
  | x :: r, vis, ps => (x ∈ vis ∧ CompsFrom ids adj r vis ps) ∨ (x ∉ vis ∧ ∃ p ps', ps = p :: ps' ∧ PartOf ids adj vis x p ∧ CompsFrom ids adj r (vis ++ p) ps')

section
variable {fD fA : FuncId} {cD cA : Array Value} {C : World → (Nat → Prop) → List (List Int) → List Int → Prop}

def AllPost (ids : List Int) (adj : Int → List Int) (C : World → (Nat → Prop) → List (List Int) → List Int → Prop) (bd : Nat) (S : Nat → Prop) (ls : List (List Int)) (w : World) (e : Ending) (w' : World) : Prop :=
  e = .returned (.tuple #[]) ∧ ∃ S' ps, C w' S' (ls ++ ps) [] ∧ CompsFrom ids adj ids [] ps ∧ Foot (fun j => S j ∨ j = bd) w w' ∧ ∀ j, S' j → S j ∨ w.heap.size ≤ j

set_option maxHeartbeats 8000000 in
set_option maxRecDepth 100000 in
theorem dWalkAll_calls {t : TypeId} {recv : Value} {fNs fFr : FuncId} {G : World → Prop} {ids : List Int} {adj : Int → List Int} (hG : GraphR t recv fNs fFr G ids adj) (hc : Client fD fA cD cA C) {w : World}
    (hwf : ∀ y ∈ ids, (Lit.int .i64 y).wf = true) (M : Nat) (hM : ∀ y ∈ ids, (adj y).length ≤ M) (hMM : M ≤ 100000) (hn : ids.length ≤ 100000)
    {bd : Nat} {S : Nat → Prop} {ls : List (List Int)} (hls : ls.length ≤ 100000) (hd : DfSt w bd (bd + 1) (.slice none 0 0) none []) (hcl : C w S ls []) (hS : ¬ S bd) (hg : ∀ w', Foot (fun j => S j ∨ j = bd) w w' → G w') :
    Calls Tryz.prog 61 #[.pointer (some ⟨bd, 0, none⟩), .iface t recv, .nilFunc, .func (.func fA) #[] cA, .func (.func fD) #[] cD] w (AllPost ids adj C bd S ls w) := by
  have HG := Lib.hid hG; have HC := Lib.hid hc; have HGG := Lib.hid hg; have HWF := Lib.hid hwf; have HM := Lib.hid hM
  have m1 := hG.mNodes; have m2 := hG.aNodes; have m3 := hG.eNodes; have m4 := neq_f0; have m5 := nil_f0; have m6 := hc.eA
  have hbdw := hd.lt
  have HD := Lib.hid hd; have HCL := Lib.hid hcl; have HS := Lib.hid hS
  clear hG hc hg hwf hM hd hcl hS
  go_enter Tryz.func61, Tryz.ntmps61
  go_wp2_with fail
  obtain ⟨w1, hw1⟩ : ∃ w1, w1 = w.alloc (.cells #[.func (.func fD) #[] cD] 102) := ⟨_, rfl⟩
  have HB1 : Hid (Below w.heap.size w w1) := by rw [hw1]; exact (Below.refl _ _).alloc (Nat.le_refl _) _
  have HX1 : Hid (w1.cell? ⟨w.heap.size, 0, none⟩ = some (.func (.func fD) #[] cD)) := by rw [hw1]; exact Lib.hid (by go_simp)
  have hs1 : w1.heap.size = w.heap.size + 1 := by rw [hw1]; simp
  rw [← hw1]
  clear hw1
  refine (dReset_calls bd (bd + 1) w1 (HD.out.foot (Foot.of_below HB1.out (fun _ => False)) (fun h => h) (fun _ _ h => h))).mono ?_
  rintro e w2 ⟨rfl, hd2, hf2⟩
  have hs2 := hf2.size
  have HF2 : Hid (Foot (fun j => S j ∨ j = bd) w w2) := (Foot.of_below HB1.out _).trans hf2 (fun j hj => .inl (.inr hj))
  have HW2 : Hid (WalkSt w2 (fun j => S j ∨ j = bd) C bd (bd + 1) w.heap.size (.func (.func fD) #[] cD) none (.slice none 0 0) S [] [] ls [] w2) := by
    have hlt := HC.out.lt w S ls [] HCL.out
    refine ⟨hd2, .inl ⟨rfl, rfl⟩, HC.out.keeps w w2 S ls [] HCL.out HF2.out.size (fun j hj => ?_), hf2.cell HX1.out (fun e => by omega), fun b e => (nomatch e), fun g hg => by simp [Value.ownBlock] at hg, ⟨HS.out, fun h => by have := hlt _ h; omega, by omega⟩, Foot.refl _ _, fun j hj => ?_⟩
    · rw [hf2.block j (by have := hlt j hj; omega) (fun e => HS.out (e ▸ hj)), HB1.out.block j (hlt j hj)]
    · rcases hj with hj | hj | hj | hj
      · exact .inl (.inl hj)
      · simp [Value.ownBlock] at hj
      · cases hj
      · exact .inl (.inr hj)
  clear hd2 hf2 HB1 HX1 HD HCL
  have HGR : Hid (G w2) := HGG.out w2 HF2.out
  go_wp2_with fail
  refine (HG.out.nodes w2 HGR.out).mono ?_
  rintro e w3 ⟨t3, r3, fN3, fV3, P3, rfl, hI, hP, hb3⟩
  have HI := Lib.hid hI; have HP3 := Lib.hid hP
  have n1 := hI.it.mNext; have n2 := hI.it.aNext; have n3 := hI.it.mNode; have n4 := hI.it.aNode; have n5 := hI.it.eNext; have n6 := hI.it.eNode
  have HW3 := Lib.hid (HW2.out.stepB HC.out hb3)
  have hs3 := hb3.size
  clear hI hP hb3 HGR m1 m2 m3
  go_wp2_with fail
  go_loopg [] (ids.length + 1) (fun g wr => ∃ (m : Option Nat) (v : Value) (S' : Nat → Prop) (vis l : List Int) (ps : List (List Int)) (c : Option Int), WalkSt w2 (fun j => S j ∨ j = bd) C bd (bd + 1) w.heap.size (.func (.func fD) #[] cD) m v S' vis [] (ls ++ ps) [] wr ∧
    P3 wr c l ∧ w3.heap.size ≤ wr.heap.size ∧ (∀ j, S' j ∨ some j = v.ownBlock ∨ m = some j ∨ j = bd → j < w2.heap.size ∨ w3.heap.size ≤ j) ∧ vis.Nodup ∧ (∀ y ∈ vis, y ∈ ids) ∧ (∀ y ∈ l, y ∈ ids) ∧ (∀ ps', CompsFrom ids adj l vis ps' → CompsFrom ids adj ids [] (ps ++ ps')) ∧ l.length < g ∧ ps.length + l.length ≤ ids.length)
  case atStart =>
    refine ⟨none, .slice none 0 0, S, [], ids, [], none, by rw [List.append_nil]; exact HW3.out, HP3.out, Nat.le_refl _, fun j hj => ?_, List.nodup_nil, (fun _ h => nomatch h), fun _ h => h, fun ps' h => h, by omega, by simp⟩
    rcases HW2.out.new j hj with h | h
    · left
      rcases h with h | h
      · exact HC.out.lt w2 S ls [] HW2.out.cl j h
      · have := HW2.out.df.lt; omega
    · rcases hj with hj | hj | hj | hj
      · exact .inl (HC.out.lt w2 S ls [] HW2.out.cl j hj)
      · simp [Value.ownBlock] at hj
      · cases hj
      · left; have := HW2.out.df.lt; omega
  case round =>
    obtain ⟨m, v, S', vis, l, ps, c, hw, hp, hsr, hav, hvn, hvs, hli, hk, hg, hpl⟩ := hrel
    have HW := Lib.hid hw; have HP := Lib.hid hp; have HAV := Lib.hid hav; have HVN := Lib.hid hvn; have HVS := Lib.hid hvs; have HLI := Lib.hid hli; have HK := Lib.hid hk
    clear hw hp hav hvn hvs hli hk HP3 HW3
    have hitU : ∀ j, (w2.heap.size ≤ j ∧ j < w3.heap.size) → ¬ (S' j ∨ some j = v.ownBlock ∨ m = some j ∨ j = bd) ∧ j ≠ w.heap.size := fun j hj => ⟨fun h => by have := HAV.out j h; omega, by omega⟩
    have HITU := Lib.hid hitU
    clear hitU
    cases l with
    | nil =>
      go_wp2_with fail
      refine (HI.out.it.next wr c [] HP.out).mono ?_
      rintro e w4 ⟨rfl, -, hw4⟩
      rw [show (!([] : List Int).isEmpty) = false from rfl]
      have HW4 := Lib.hid (HW.out.stepF HC.out (Foot.of_within hw4) HITU.out (fun j hj => hj.1))
      clear hw4
      go_wp2_with fail
      go_end0
      have hnew := HW4.out.new
      refine ⟨rfl, S', ps, HW4.out.cl, by have := HK.out [] rfl; rwa [List.append_nil] at this, HF2.out.trans HW4.out.foot (fun j hj => .inl hj), fun j hj => ?_⟩
      rcases hnew j (.inl hj) with h | h
      · rcases h with h | h
        · exact .inl h
        · subst h; exact absurd hj HW4.out.sne.1
      · right; have := HF2.out.size; omega
    | cons x l =>
      go_wp2_with fail
      refine (HI.out.it.next wr c (x :: l) HP.out).mono ?_
      rintro e w4 ⟨rfl, hp4, hw4⟩
      rw [show (!(x :: l).isEmpty) = true from rfl]
      have HW4 := Lib.hid (HW.out.stepF HC.out (Foot.of_within hw4) HITU.out (fun j hj => hj.1))
      have HP4 := Lib.hid hp4
      have hs4 := hw4.2.2.2.1
      clear hw4 hp4 HW HP
      go_wp2_with fail
      refine (HI.out.it.node w4 x l HP4.out).mono ?_
      rintro e w5 ⟨rfl, hp5, hw5⟩
      have HW5 := Lib.hid (HW4.out.stepF HC.out (Foot.of_within hw5) HITU.out (fun j hj => hj.1))
      have HP5 := Lib.hid hp5
      have hs5 := hw5.2.2.2.1
      clear hw5 hp5 HW4 HP4
      have hxi : x ∈ ids := HLI.out x (List.mem_cons_self ..)
      have hwx := HWF.out x hxi
      have HXI := Lib.hid hxi
      clear hxi
      go_wp2_with fail
      refine (dVisited_calls bd m vis x w5 HW5.out.df.cells.2.2.2.1 HW5.out.set hwx).mono ?_
      rintro e w6 ⟨rfl, hb6⟩
      have HW6 := Lib.hid (HW5.out.stepB HC.out hb6)
      have HP6 : Hid (P3 w6 (some x) l) := HI.out.foot HP5.out (Foot.of_below hb6 (fun _ => False)) (by omega) (fun _ h => h.elim)
      have hs6 := hb6.size
      clear hb6 HW5 HP5
      by_cases hin : x ∈ vis
      · have hd : decide (x ∈ vis) = true := by simpa using hin
        rw [hd]
        have HIN := Lib.hid hin
        clear hin hd
        go_wp2_with fail
        go_roundg (gk - 1)
        case measure => simp only [List.length_cons] at hg; omega
        case rel => exact ⟨m, v, S', vis, l, ps, some x, HW6.out, HP6.out, by omega, HAV.out, HVN.out, HVS.out, fun y hy => HLI.out y (List.mem_cons_of_mem _ hy), fun ps' h => HK.out ps' (.inl ⟨HIN.out, h⟩), by simp only [List.length_cons] at hg; omega, by simp only [List.length_cons] at hpl; omega⟩
      · have hd : decide (x ∈ vis) = false := by simpa using hin
        rw [hd]
        have HIN := Lib.hid hin
        clear hin hd
        have HGW : Hid (∀ w', Foot (fun j => S' j ∨ some j = v.ownBlock ∨ m = some j ∨ j = bd) w6 w' → G w') := fun w' hf => HGG.out w' (HF2.out.trans (HW6.out.foot.trans hf (fun j hj => HW6.out.new j hj)) (fun j hj => .inl hj))
        go_wp2_with fail
        refine (dWalk_calls HG.out HC.out HGW.out HWF.out M HM.out hMM hn HW6.out.rebase HXI.out HIN.out HVN.out HVS.out).mono ?_
        rintro e w7 ⟨rfl, b, v7, S7, part, hw7, hpart⟩
        have HW7 := Lib.hid (HW6.out.unbase hw7)
        have HP7 : Hid (P3 w7 (some x) l) := HI.out.foot HP6.out hw7.foot (by omega) HAV.out
        have HAV7 : Hid (∀ j, S7 j ∨ some j = v7.ownBlock ∨ some b = some j ∨ j = bd → j < w2.heap.size ∨ w3.heap.size ≤ j) := fun j hj => by
          rcases hw7.new j hj with h | h
          · exact HAV.out j h
          · right; omega
        have hs7 := hw7.foot.size
        have HPART := Lib.hid hpart
        have hpl7 : part.length ≤ ids.length := nodup_len hpart.nodup hpart.sub
        clear hw7 hpart HW6 HP6
        go_wp2_with fail
        refine (HC.out.after w7 S7 (ls ++ ps) part HW7.out.cl (List.ne_nil_of_mem HPART.out.has) (by rw [List.length_append]; omega) (by omega)).mono ?_
        rintro e w8 ⟨rfl, S8, hc8, hf8, hs8⟩
        have HW8 := Lib.hid (HW7.out.stepC hc8 hf8 hs8)
        have HP8 : Hid (P3 w8 (some x) l) := HI.out.foot HP7.out hf8 (by omega) (fun j hj => HAV7.out j (.inl hj))
        have HAV8 : Hid (∀ j, S8 j ∨ some j = v7.ownBlock ∨ some b = some j ∨ j = bd → j < w2.heap.size ∨ w3.heap.size ≤ j) := fun j hj => by
          rcases hj with hj | hj
          · rcases hs8 j hj with h | h
            · exact HAV7.out j (.inl h)
            · right; omega
          · exact HAV7.out j (.inr hj)
        have hz8 := hf8.size
        clear hc8 hf8 hs8 HW7 HP7
        go_wp2
        go_roundg (gk - 1)
        case measure => simp only [List.length_cons] at hg; omega
        case rel =>
          refine ⟨some b, v7, S8, vis ++ part, l, ps ++ [part], some x, by rw [← List.append_assoc]; exact HW8.out, HP8.out, by omega, HAV8.out, List.nodup_append.2 ⟨HVN.out, HPART.out.nodup, fun a ha c hc e => HPART.out.new c hc (e ▸ ha)⟩, fun y hy => ?_, fun y hy => HLI.out y (List.mem_cons_of_mem _ hy), fun ps' h => ?_, by simp only [List.length_cons] at hg; omega, by simp only [List.length_cons, List.length_append, List.length_nil] at hpl ⊢; omega⟩
          · rcases List.mem_append.1 hy with hy | hy
            · exact HVS.out y hy
            · exact HPART.out.sub y hy
          · rw [List.append_assoc]
            exact HK.out (part :: ps') (.inr ⟨HIN.out, part, ps', rfl, HPART.out, h⟩)
end
end Go.Proofs.YtbkoifdnlaihfaaGreat
