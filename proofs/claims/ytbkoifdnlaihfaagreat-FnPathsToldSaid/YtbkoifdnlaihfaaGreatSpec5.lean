/- The walk of the reference's Equal. -/
import Derived.Test.YtbkoifdnlaihfaaGreatSpec4
namespace Go.Proofs.YtbkoifdnlaihfaaGreat
open Go.RowKit

theorem rdi_ownE {w : World} {B : Nat} {a : Option Addr} {n c : Nat} {zs : List Int} (h : w.ownsRow B 3 1 (.slice a n c) n (zs.map (Value.int .i64))) : RdI w a n zs := by
  obtain ⟨a', c', e, hr⟩ := RdI.of_owns h
  simp only [Value.slice.injEq, true_and] at e
  rw [e.1]; exact hr

set_option maxHeartbeats 4000000 in
set_option maxRecDepth 100000 in
theorem specEqual_calls (d d' : Bool) (an ae an' ae' : Option Addr) (n cn m ce n' cn' m' ce' : Nat) (ns ns' : List Int) (es es' : List (Int × Int × Int)) (w : World) (hn : RdI w an n ns) (hr : RdE w ae m es) (hn' : RdI w an' n' ns') (hr' : RdE w ae' m' es') (hn8 : n ≤ 1000) (hn8' : n' ≤ 1000) :
    Calls Tryz.prog 43 #[.agg #[.bool d, .slice an n cn, .slice ae m ce], .agg #[.bool d', .slice an' n' cn', .slice ae' m' ce']] w fun e w' => e = .returned (.bool (sameS (sortI ns) (sortI ns') (fromL d ns es) (fromL d' ns' es'))) ∧ Below w.heap.size w w' := by
  have HN := Lib.hid hn; have HR := Lib.hid hr; have HN' := Lib.hid hn'; have HR' := Lib.hid hr'
  clear hn hr hn' hr'
  go_enter Tryz.func43, Tryz.ntmps43
  go_wp2_with fail
  obtain ⟨w0, hw0⟩ : ∃ w0, w0 = (w.alloc (.cells #[.bool d, .slice an n cn, .slice ae m ce] 25)).alloc (.cells #[.bool d', .slice an' n' cn', .slice ae' m' ce'] 25) := ⟨_, rfl⟩
  obtain ⟨bb, hbb⟩ : ∃ bb, bb = w.heap.size + 1 := ⟨_, rfl⟩
  have hb0 : Below w.heap.size w w0 := by rw [hw0]; exact ((Below.refl _ _).alloc (Nat.le_refl _) _).alloc (by simp) _
  have hs0 : bb < w0.heap.size := by rw [hw0, hbb]; simp
  have x0 : w0.heap[w.heap.size]? = some (.cells #[.bool d, .slice an n cn, .slice ae m ce] 25 (0, 0)) := by rw [hw0, heap_alloc_old _ _ (by simp)]; exact heap_alloc_new w _
  have y0 : w0.heap[bb]? = some (.cells #[.bool d', .slice an' n' cn', .slice ae' m' ce'] 25 (0, 0)) := by
    rw [hw0, hbb]
    have h := heap_alloc_new (w.alloc (.cells #[.bool d, .slice an n cn, .slice ae m ce] 25)) (.cells #[.bool d', .slice an' n' cn', .slice ae' m' ce'] 25)
    simpa using h
  have HSF : Hid (∀ W, Below w0.heap.size w0 W → W.cell? ⟨w.heap.size, 0, none⟩ = some (.bool d) ∧ W.cell? ⟨w.heap.size, 1, none⟩ = some (.slice an n cn) ∧ W.cell? ⟨w.heap.size, 2, none⟩ = some (.slice ae m ce) ∧ W.cell? ⟨bb, 0, none⟩ = some (.bool d') ∧ W.cell? ⟨bb, 1, none⟩ = some (.slice an' n' cn') ∧ W.cell? ⟨bb, 2, none⟩ = some (.slice ae' m' ce')) := Lib.hid fun W h => by
    have e1 := (h.block w.heap.size (by omega)).trans x0
    have e2 := (h.block bb hs0).trans y0
    refine ⟨?_, ?_, ?_, ?_, ?_, ?_⟩
    · rw [cell_of_row W _ _ _ _ (0, 0) e1]; rfl
    · rw [cell_of_row W _ _ _ _ (0, 0) e1]; rfl
    · rw [cell_of_row W _ _ _ _ (0, 0) e1]; rfl
    · rw [cell_of_row W _ _ _ _ (0, 0) e2]; rfl
    · rw [cell_of_row W _ _ _ _ (0, 0) e2]; rfl
    · rw [cell_of_row W _ _ _ _ (0, 0) e2]; rfl
  have hws : w.heap.size < bb := by omega
  rw [← hw0, ← hbb]
  have HB0 := Lib.hid hb0
  clear hw0 hbb hb0 x0 y0
  refine (specNodes_calls d an ae n cn m ce ns w0 (HN.out.below HB0.out (Nat.le_refl _)) hn8).mono ?_
  rintro e w1 ⟨v1, rfl, ho1, hb1⟩
  obtain ⟨a1, c1, rfl⟩ := own_shape' ho1
  have HO1 := Lib.hid ho1; have HB1 := Lib.hid hb1
  obtain ⟨j0, j1, j2, j3, j4, j5⟩ := HSF.out w1 hb1
  have hs1 := hb1.size
  have hsb1 : bb < w1.heap.size := by omega
  clear ho1 hb1
  go_wp2_with fail
  refine (specNodes_calls d' an' ae' n' cn' m' ce' ns' w1 ((HN'.out.below HB0.out (Nat.le_refl _)).below HB1.out (Nat.le_refl _)) hn8').mono ?_
  rintro e w2 ⟨v2, rfl, ho2, hb2⟩
  obtain ⟨a2, c2, rfl⟩ := own_shape' ho2
  have HB2 := Lib.hid (HB1.out.trans (hb2.mono hs1))
  have HO12 : Hid (w2.ownsRow (w0.heap.size + 1) 3 1 (.slice a1 n c1) n ((sortI ns).map (Value.int .i64))) := ownsRow_of_heap HO1.out (fun g hg => hb2.block g (HO1.out.lt g hg).2)
  have HO2 := Lib.hid ho2
  obtain ⟨S, hS⟩ : ∃ S, S = sortI ns := ⟨_, rfl⟩
  obtain ⟨S', hS'⟩ : ∃ S', S' = sortI ns' := ⟨_, rfl⟩
  rw [← hS] at HO12
  rw [← hS'] at HO2
  have HS := Lib.hid hS; have HS' := Lib.hid hS'
  have HSL : Hid (S.length = n) := Lib.hid (by rw [hS, sortI_len]; exact HN.out.len)
  clear ho2 hb2 hS hS' j0 j1 j2 j3 j4 j5 HO1
  go_wp2_with fail
  refine (sameInts_calls a1 a2 n n' c1 c2 S S' w2 (rdi_ownE HO12.out) (rdi_ownE HO2.out)).mono ?_
  rintro e w3' ⟨rfl, q3, hw3⟩
  obtain ⟨w3, hw3e⟩ : ∃ w3, w3 = w3' := ⟨_, rfl⟩
  rw [← hw3e]
  rw [← hw3e] at hw3
  have HB3 : Hid (Below w0.heap.size w0 w3) := by rw [hw3]; exact below_drewN HB2.out q3
  have HO3 : Hid (w3.ownsRow (w0.heap.size + 1) 3 1 (.slice a1 n c1) n (S.map (Value.int .i64))) := by rw [hw3]; exact HO12.out
  clear hw3 hw3e HO12 HO2 HB2 HB1
  obtain ⟨bs, hbs⟩ : ∃ b, (S == S') = b := ⟨_, rfl⟩
  rw [hbs]
  have HBS := Lib.hid hbs
  clear hbs
  cases bs
  · go_wp2_with fail
    go_ret
    exact ⟨ret_bool (by rw [← HS.out, ← HS'.out]; unfold sameS; rw [HBS.out]; rfl), HB0.out.trans (HB3.out.mono (by omega))⟩
  · have HSM : Hid (sameS S S' (fromL d ns es) (fromL d' ns' es') = S.all fun u => fromL d ns es u == fromL d' ns' es' u) := Lib.hid (by unfold sameS; rw [HBS.out]; rfl)
    obtain ⟨f, hf⟩ : ∃ f, f = fromL d ns es := ⟨_, rfl⟩
    obtain ⟨f', hf'⟩ : ∃ f', f' = fromL d' ns' es' := ⟨_, rfl⟩
    rw [← hf, ← hf'] at HSM
    have HF := Lib.hid hf; have HF' := Lib.hid hf'
    clear hf hf'
    go_wp2_with fail
    go_loopw [17] (fun i wr => ∃ k : Nat, k ≤ n ∧ i = .int .i64 k ∧ Hid (sameS S S' f f' = (S.drop k).all fun u => f u == f' u) ∧ Below w3.heap.size w3 wr) (fun i _ => n - (intOf i).toNat)
    case atStart => exact ⟨0, by omega, rfl, Lib.hid (by rw [List.drop_zero]; exact HSM.out), Below.refl _ _⟩
    case round =>
      obtain ⟨k, hk, rfl, HE, hb⟩ := hrel
      have HB := Lib.hid hb
      have hszr := hb.size
      have HBR : Hid (Below w0.heap.size w0 wr) := HB3.out.trans (hb.mono (by have := HB3.out.size; omega))
      clear hb
      by_cases hlt : k < n
      · obtain ⟨g, c, e, hg0, hg1, -⟩ := own_form HO3.out (by omega)
        simp only [Value.slice.injEq, true_and] at e
        obtain ⟨rfl, rfl⟩ := e
        have hkl : k < S.length := by have := HSL.out; omega
        obtain ⟨x, hx⟩ : ∃ x, S.getD k 0 = x := ⟨_, rfl⟩
        have hcx : wr.cell? ⟨g, k, none⟩ = some (.int .i64 x) := (HB.out.cell (p := ⟨g, k, none⟩) hg1).trans (own_at HO3.out (i := k) (u := .int .i64 x) (by rw [← hx]; simp [List.getD, hkl])).1
        have HST : Hid (((S.drop k).all fun u => f u == f' u) = ((f x == f' x) && (S.drop (k + 1)).all fun u => f u == f' u)) := Lib.hid (by rw [← hx]; exact all_step hkl)
        have hgw : g < wr.heap.size := by omega
        have hwz : w0.heap.size ≤ wr.heap.size := HBR.out.size
        have hwr1 : w.heap.size < wr.heap.size := by omega
        have hwr2 : bb < wr.heap.size := by omega
        obtain ⟨j0, j1, j2, j3, j4, j5⟩ := HSF.out wr HBR.out
        have HSF' : Hid (∀ W, Below wr.heap.size wr W → W.cell? ⟨w.heap.size, 0, none⟩ = some (.bool d) ∧ W.cell? ⟨w.heap.size, 1, none⟩ = some (.slice an n cn) ∧ W.cell? ⟨w.heap.size, 2, none⟩ = some (.slice ae m ce) ∧ W.cell? ⟨bb, 0, none⟩ = some (.bool d') ∧ W.cell? ⟨bb, 1, none⟩ = some (.slice an' n' cn') ∧ W.cell? ⟨bb, 2, none⟩ = some (.slice ae' m' ce')) := Lib.hid fun W h => HSF.out W (HBR.out.trans (h.mono hwz))
        have HCA : Hid (∀ W, Below wr.heap.size wr W → Calls Tryz.prog 89 #[.agg #[.bool d, .slice an n cn, .slice ae m ce], .int .i64 x] W fun e w' => ∃ (a : Option Addr) (c : Nat), e = .returned (.slice a (f x).length c) ∧ RdI w' a (f x).length (f x) ∧ Below wr.heap.size wr w') := Lib.hid fun W h => by
          have hbW : Below w.heap.size w W := HB0.out.trans ((HBR.out.trans (h.mono hwz)).mono (by omega))
          refine (specFrom_calls d an ae n cn m ce ns es x W (HN.out.below hbW (Nat.le_refl _)) (HR.out.below hbW (Nat.le_refl _)) hn8).mono ?_
          rintro e w' ⟨v, rfl, ho, hb'⟩
          obtain ⟨a, c, rfl⟩ := own_shape' ho
          rw [← HF.out] at ho ⊢
          exact ⟨a, c, rfl, rdi_ownE ho, h.trans (hb'.mono h.size)⟩
        have HCB : Hid (∀ W, Below wr.heap.size wr W → Calls Tryz.prog 89 #[.agg #[.bool d', .slice an' n' cn', .slice ae' m' ce'], .int .i64 x] W fun e w' => ∃ (a : Option Addr) (c : Nat), e = .returned (.slice a (f' x).length c) ∧ RdI w' a (f' x).length (f' x) ∧ Below W.heap.size W w') := Lib.hid fun W h => by
          have hbW : Below w.heap.size w W := HB0.out.trans ((HBR.out.trans (h.mono hwz)).mono (by omega))
          refine (specFrom_calls d' an' ae' n' cn' m' ce' ns' es' x W (HN'.out.below hbW (Nat.le_refl _)) (HR'.out.below hbW (Nat.le_refl _)) hn8').mono ?_
          rintro e w' ⟨v, rfl, ho, hb'⟩
          obtain ⟨a, c, rfl⟩ := own_shape' ho
          rw [← HF'.out] at ho ⊢
          exact ⟨a, c, rfl, rdi_ownE ho, hb'⟩
        obtain ⟨l1, hl1⟩ : ∃ l, l = f x := ⟨_, rfl⟩
        obtain ⟨l2, hl2⟩ : ∃ l, l = f' x := ⟨_, rfl⟩
        rw [← hl1, ← hl2] at HST
        rw [← hl1] at HCA
        rw [← hl2] at HCB
        have HD1 : Hid (Below wr.heap.size wr wr.drew) := below_drewN (Below.refl wr.heap.size wr) 1
        clear hx hl1 hl2
        go_wp2_with fail
        go_region_held3 (fun w' => w'.cell? ⟨w.heap.size, 0, none⟩ = some (.bool d) ∧ w'.cell? ⟨w.heap.size, 1, none⟩ = some (.slice an n cn) ∧ w'.cell? ⟨w.heap.size, 2, none⟩ = some (.slice ae m ce) ∧ w'.cell? ⟨bb, 0, none⟩ = some (.bool d') ∧ w'.cell? ⟨bb, 1, none⟩ = some (.slice an' n' cn') ∧ w'.cell? ⟨bb, 2, none⟩ = some (.slice ae' m' ce'))
          (first | with_reducible exact s4 | with_reducible exact s5 | with_reducible exact s6 | go_keep)
          (first
            | (go_at_call 89; with_reducible refine (HCA.out wr.drew HD1.out).mono ?_; rintro e w4 ⟨aA, cA, rfl, hrA, hb4⟩; have s4 := HSF'.out w4 hb4; have HRA := Lib.hid hrA; have HB4 := Lib.hid hb4; clear hrA hb4)
            | (go_at_call 88; with_reducible refine (sameInts_calls aA aB l1.length l2.length cA cB l1 l2 w5 HRA5.out HRB.out).mono ?_; rintro e w6 ⟨rfl, q6, rfl⟩; have HB6 := Lib.hid (below_drewN HB5.out q6); have s6 := HSF'.out (w5.drewN q6) (below_drewN HB5.out q6))
            | (go_at_call 89; with_reducible refine (HCB.out w4 HB4.out).mono ?_; rintro e w5 ⟨aB, cB, rfl, hrB, hb5⟩; have HB5 := Lib.hid (HB4.out.trans (hb5.mono HB4.out.size)); have s5 := HSF'.out w5 HB5.out; have HRA5 := Lib.hid (HRA.out.below hb5 (Nat.le_refl w4.heap.size)); have HRB := Lib.hid hrB; clear hrB hb5))
        obtain ⟨bq, hbq⟩ : ∃ b, (l1 == l2) = b := ⟨_, rfl⟩
        rw [hbq] at HST ⊢
        clear hbq
        cases bq
        all_goals
          go_wp2_with fail
          first
            | (go_ret; exact ⟨ret_bool (by rw [← HS.out, ← HS'.out, ← HF.out, ← HF'.out, HE.out, HST.out]; rfl), HB0.out.trans ((HBR.out.trans (HB6.out.mono hwz)).mono (by omega))⟩)
            | (go_roundw
               case rel => exact ⟨k + 1, by omega, by go_num, Lib.hid (by rw [HE.out, HST.out]; rfl), HB.out.trans (HB6.out.mono hszr)⟩
               case measure => simp [intOf]; omega)
      · have HFF : Hid (sameS S S' f f' = true) := Lib.hid (by
          rw [HE.out, List.drop_eq_nil_of_le (by have := HSL.out; omega)]; rfl)
        go_wp2
        go_ret
        exact ⟨ret_bool (by rw [← HS.out, ← HS'.out, ← HF.out, ← HF'.out, HFF.out]), HB0.out.trans (HBR.out.mono (by omega))⟩
end Go.Proofs.YtbkoifdnlaihfaaGreat
