/- The walks of the reference's without and KCore. -/
import Derived.Test.YtbkhakjbmdmghaaSpec3
import Derived.Test.YtbkhakjbmdmghaaKCoreP
import Derived.Test.YtbkhakjbmdmghaaNextF
namespace Go.Proofs.Ytbkhakjbmdmghaa
open Go.RowKit

theorem rdi_ownK {w : World} {B : Nat} {a : Option Addr} {n c : Nat} {zs : List Int} (h : w.ownsRow B 3 1 (.slice a n c) n (zs.map (Value.int .i64))) : RdI w a n zs := by
  obtain ⟨a', c', e, hr⟩ := RdI.of_owns h
  simp only [Value.slice.injEq, true_and] at e
  rw [e.1]; exact hr

set_option maxHeartbeats 2000000 in
set_option maxRecDepth 100000 in
theorem without_calls (a : Option Addr) (n cap : Nat) (zs : List Int) (x : Int) (w : World) (hr : RdI w a n zs) (hn : n ≤ 1000) :
    Calls Try.prog 26 #[.slice a n cap, .int .i64 x] w fun e w' => ∃ v, e = .returned v ∧ w'.ownsRow w.heap.size 3 1 v (dropI zs x).length ((dropI zs x).map (Value.int .i64)) ∧ Below w.heap.size w w' := by
  have HR := Lib.hid hr; clear hr
  obtain ⟨i0, hi0, hz0, hz1, hz2⟩ := info_parts int_info
  have HI := Lib.hid (And.intro hi0 (And.intro hz0 (And.intro hz1 hz2)))
  clear hi0 hz0 hz1 hz2
  go_enter Try.func26, Try.ntmps26
  go_wp2_with fail
  go_loopw [5, 10] (fun v i wr => ∃ k N : Nat, k ≤ n ∧ i = .int .i64 k ∧ Hid (N = (dropI (zs.take k) x).length) ∧ wr.ownsRow w.heap.size 3 1 v N ((dropI (zs.take k) x).map (Value.int .i64)) ∧ Below w.heap.size w wr) (fun _ i _ => n - (intOf i).toNat)
  case atStart => exact ⟨0, 0, by omega, rfl, Lib.hid rfl, World.ownsRow_nil _ _ _ _, Below.refl _ _⟩
  case round =>
    obtain ⟨k, N, hk, rfl, HNN, ho, hb⟩ := hrel
    obtain ⟨a2, c2, rfl⟩ := own_shape' ho
    have HO := Lib.hid ho; have HB := Lib.hid hb
    have hszr := hb.size
    clear ho hb
    by_cases hlt : k < n
    · obtain ⟨b, off, rfl, hbb, hc⟩ := HR.out.at_ (by omega)
      obtain ⟨y, HY, hcy0⟩ := hc k hlt
      have hcy := (HB.out.cell (p := ⟨b, off + k, none⟩) hbb).trans hcy0
      have hbr : b < wr.heap.size := by omega
      have hkl : k < zs.length := by have := HR.out.len; omega
      have hNk : N ≤ k := by
        rw [HNN.out]
        unfold dropI
        refine Nat.le_trans (List.length_filter_le ..) ?_
        rw [List.length_take]; omega
      have hfil : dropI (zs.take (k + 1)) x = dropI (zs.take k) x ++ (if (y == x) = true then [] else [y]) := by
        have e1 : zs[k] = y := by have := HY.out; simpa [List.getD, hkl] using this
        unfold dropI
        rw [List.take_succ_eq_append_getElem hkl, List.filter_append, e1]
        by_cases h : (y == x) = true
        · rw [if_pos h]; simp at h; simp [h]
        · rw [if_neg h]; simp at h; simp [h]
      have HFIL := Lib.hid hfil
      clear hfil hc hcy0
      by_cases hxy : y = x
      · subst hxy
        have HF2 : Hid (dropI (zs.take (k + 1)) y = dropI (zs.take k) y) := Lib.hid (by rw [HFIL.out]; simp)
        go_wp2_with fail
        go_roundw
        case rel => exact ⟨k + 1, N, by omega, by go_num, Lib.hid (by rw [HF2.out]; exact HNN.out), by rw [HF2.out]; exact HO.out, HB.out⟩
        case measure => simp [intOf]; omega
      · have HF2 : Hid (dropI (zs.take (k + 1)) x = dropI (zs.take k) x ++ [y]) := Lib.hid (by rw [HFIL.out, if_neg (by simpa using hxy)])
        have hxf : (y == x) = false := beq_eq_false_iff_ne.2 hxy
        clear hxy
        obtain ⟨hi0, hz0, hz1, hz2⟩ := HI.out
        go_wp2_with (at_builtin; refine wpList_append_own _ rfl _ _ 22 rfl w.heap.size 3 i0 (.int .i64 0) 1 8 Try.underlying22 hi0 hz0 hz1 hz2 rfl (by decide) (.slice a2 N c2) N ((dropI (zs.take k) x).map (Value.int .i64)) rfl ?hown ⟨wr.heap.size, 0, none⟩ 1 1 [.int .i64 y] rfl ?c0 ?c1 ?c2 ?c3 ?c4 ?c5 ?_)
        case hown => exact HO.out.alloc _
        case c0 => rfl
        case c1 => intro j u hj; match j, hj with | 0, hj => simp at hj; subst hj; simp [Addr.add]
        case c2 => intro u hu; simp at hu; subst hu; rfl
        case c3 => unfold maxLen; omega
        case c4 => omega
        case c5 => simp; omega
        intro v' w' hown' hgrow _
        obtain ⟨a', c', rfl⟩ := own_shape' hown'
        have HO' := Lib.hid hown'
        have HB' : Hid (Below w.heap.size w w') := (HB.out.alloc (by omega) _).grown hgrow (by simp; omega) (fun j hj => (HO.out.lt j hj).1)
        clear hown' hgrow
        go_wp2
        go_roundw
        case rel =>
          refine ⟨k + 1, N + 1, by omega, by go_num, Lib.hid (by rw [HF2.out, List.length_append, ← HNN.out]; rfl), ?_, HB'.out⟩
          rw [HF2.out, List.map_append]
          exact HO'.out
        case measure => simp [intOf]; omega
    · obtain rfl : k = n := by omega
      have HOF : Hid (wr.ownsRow w.heap.size 3 1 (.slice a2 N c2) (dropI zs x).length ((dropI zs x).map (Value.int .i64))) := Lib.hid (by
        have h := HO.out
        have h2 := HNN.out
        rw [List.take_of_length_le (by have := HR.out.len; omega)] at h h2
        rw [← h2]
        exact h)
      go_wp2
      go_ret
      exact ⟨_, rfl, HOF.out, HB.out⟩

def KCPost (ids : List Int) (adj : Int → List Int) (k : Int) (w : World) (e : Ending) (w' : World) : Prop :=
  ∃ (v : Value) (l : List Int), e = .returned v ∧ w'.ownsRow (w.heap.size + 1) 3 1 v l.length (l.map (Value.int .i64)) ∧ l.Sublist ids ∧ (∀ j : Nat, k = j → ∀ u, u ∈ l ↔ InCore ids adj j u) ∧ Below w.heap.size w w'

set_option maxHeartbeats 4000000 in
set_option maxRecDepth 100000 in
theorem specKCore_calls (k : Int) (d : Bool) (an ae : Option Addr) (n cn m ce : Nat) (ns : List Int) (es : List (Int × Int × Int)) (w : World) (hn : RdI w an n ns) (hr : RdE w ae m es) (hn8 : n ≤ 1000) (hu : (sortI ns).Nodup) :
    Calls Try.prog 15 #[.int .i64 k, .agg #[.bool d, .slice an n cn, .slice ae m ce]] w (KCPost (sortI ns) (fromL d ns es) k w) := by
  have HN := Lib.hid hn; have HR := Lib.hid hr; have HU := Lib.hid hu
  have hnl := hn.len
  clear hn hr hu
  go_enter Try.func15, Try.ntmps15
  go_wp2_with fail
  obtain ⟨w0, hw0⟩ : ∃ w0, w0 = w.alloc (.cells #[.bool d, .slice an n cn, .slice ae m ce] 25) := ⟨_, rfl⟩
  have hb0 : Below w.heap.size w w0 := by rw [hw0]; exact (Below.refl _ _).alloc (Nat.le_refl _) _
  have hs0 : w0.heap.size = w.heap.size + 1 := by rw [hw0]; simp
  have x0 : w0.heap[w.heap.size]? = some (.cells #[.bool d, .slice an n cn, .slice ae m ce] 25 (0, 0)) := by rw [hw0]; exact heap_alloc_new w _
  have HSF : Hid (∀ W, Below w0.heap.size w0 W → W.cell? ⟨w.heap.size, 0, none⟩ = some (.bool d) ∧ W.cell? ⟨w.heap.size, 1, none⟩ = some (.slice an n cn) ∧ W.cell? ⟨w.heap.size, 2, none⟩ = some (.slice ae m ce)) := Lib.hid fun W h => by
    have e1 := (h.block w.heap.size (by omega)).trans x0
    refine ⟨?_, ?_, ?_⟩
    · rw [cell_of_row W _ _ _ _ (0, 0) e1]; rfl
    · rw [cell_of_row W _ _ _ _ (0, 0) e1]; rfl
    · rw [cell_of_row W _ _ _ _ (0, 0) e1]; rfl
  rw [← hw0]
  have HB0 := Lib.hid hb0
  have HS0 := Lib.hid hs0
  clear hw0 hb0 x0 hs0
  refine (specNodes_calls d an ae n cn m ce ns w0 (HN.out.below HB0.out (Nat.le_refl _)) hn8).mono ?_
  rintro e w1 ⟨v1, rfl, ho1, hb1⟩
  obtain ⟨a1, c1, rfl⟩ := own_shape' ho1
  have HSL : Hid ((sortI ns).length = n) := Lib.hid (by rw [sortI_len]; exact hnl)
  have HO1 : Hid (w1.ownsRow w0.heap.size 3 1 (.slice a1 n c1) (sortI ns).length ((sortI ns).map (Value.int .i64))) := Lib.hid (by rw [HSL.out]; exact own_lower ho1 (by omega))
  have HB1 := Lib.hid hb1
  have HST0 : Hid (KSt d ns es k (sortI ns) 0) := Lib.hid (KSt.start d ns es k)
  have hwz : w.heap.size < w0.heap.size := by have := HS0.out; omega
  clear ho1 hb1
  go_wp2_with fail
  go_loopw [5, 6] (fun v i wr => ∃ (j N : Nat) (l : List Int), j ≤ N ∧ N ≤ n ∧ i = .int .i64 j ∧ Hid (N = l.length) ∧ slLen v = N ∧ wr.ownsRow w0.heap.size 3 1 v l.length (l.map (Value.int .i64)) ∧ Hid (KSt d ns es k l j) ∧ Below w0.heap.size w0 wr) (fun v i _ => slLen v * (n + 2) + (n + 1 - (intOf i).toNat))
  case atStart => exact ⟨0, n, sortI ns, by omega, by omega, rfl, Lib.hid HSL.out.symm, rfl, HO1.out, HST0, HB1.out⟩
  case round =>
    obtain ⟨j, N, l, hj, hNn, rfl, HNL, hsl, ho, HST, hb⟩ := hrel
    obtain ⟨a2, c2, e⟩ := own_shape' ho
    subst e
    rw [← HNL.out] at ho ⊢
    have HO := Lib.hid ho; have HB := Lib.hid hb
    have hszr := hb.size
    obtain ⟨j0, j1, j2⟩ := HSF.out wr hb
    clear ho hb hsl
    by_cases hlt : j < N
    · obtain ⟨g, c, e, hg0, hg1, -⟩ := own_form HO.out (by omega)
      simp only [Value.slice.injEq, true_and] at e
      obtain ⟨rfl, rfl⟩ := e
      have hjl : j < l.length := by have := HNL.out; omega
      obtain ⟨x, hx⟩ : ∃ x, l.getD j 0 = x := ⟨_, rfl⟩
      have hcx : wr.cell? ⟨g, j, none⟩ = some (.int .i64 x) := (own_at HO.out (i := j) (u := .int .i64 x) (by rw [← hx]; simp [List.getD, hjl])).1
      have HX := Lib.hid hx
      clear hx
      obtain ⟨wo, rfl⟩ : ∃ wo : World, wo = wr := ⟨_, rfl⟩
      have hwo1 : w.heap.size < wo.heap.size := by omega
      clear j0 j1 j2
      go_wp2_with fail
      go_loopw [7, 20] (fun c i wr => ∃ t : Nat, t ≤ N ∧ i = .int .i64 t ∧ c = .int .i64 (((l.take t).countP (arcB d es x) : Nat) : Int) ∧ Below wo.heap.size wo wr) (fun _ i _ => N - (intOf i).toNat)
      case atStart => exact ⟨0, by omega, rfl, rfl, Below.refl _ _⟩
      case round =>
        obtain ⟨t, ht, rfl, rfl, hb⟩ := hrel
        have HBI := Lib.hid hb
        have hszi := hb.size
        obtain ⟨ct, hct⟩ : ∃ ct, (l.take t).countP (arcB d es x) = ct := ⟨_, rfl⟩
        have hctn : ct ≤ t := by
          rw [← hct]
          refine Nat.le_trans (List.countP_le_length) ?_
          rw [List.length_take]; omega
        rw [hct]
        have HCT := Lib.hid hct
        clear hb hct
        by_cases htn : t < N
        · have htl : t < l.length := by have := HNL.out; omega
          obtain ⟨y, hy⟩ : ∃ y, l.getD t 0 = y := ⟨_, rfl⟩
          have hcy : wr.cell? ⟨g, t, none⟩ = some (.int .i64 y) := (HBI.out.cell (p := ⟨g, t, none⟩) hg1).trans (own_at HO.out (i := t) (u := .int .i64 y) (by rw [← hy]; simp [List.getD, htl])).1
          have hgi : g < wr.heap.size := by omega
          obtain ⟨ar, har⟩ : ∃ b, arcB d es x y = b := ⟨_, rfl⟩
          have HCN : Hid ((l.take (t + 1)).countP (arcB d es x) = ct + (if ar = true then 1 else 0)) := Lib.hid (by
            have e1 : l[t] = y := by simpa [List.getD, htl] using hy
            rw [List.take_succ_eq_append_getElem htl, List.countP_append, HCT.out, e1]
            simp [List.countP_cons, har])
          have HSF' : Hid (∀ W, Below wr.heap.size wr W → W.cell? ⟨w.heap.size, 0, none⟩ = some (.bool d) ∧ W.cell? ⟨w.heap.size, 1, none⟩ = some (.slice an n cn) ∧ W.cell? ⟨w.heap.size, 2, none⟩ = some (.slice ae m ce) ∧ W.cell? ⟨g, j, none⟩ = some (.int .i64 x)) := Lib.hid fun W h => by
            obtain ⟨e0, e1, e2⟩ := HSF.out W ((HB.out.trans (HBI.out.mono hszr)).trans (h.mono (by omega)))
            exact ⟨e0, e1, e2, (h.cell (p := ⟨g, j, none⟩) hgi).trans ((HBI.out.cell (p := ⟨g, j, none⟩) hg1).trans hcx)⟩
          obtain ⟨j0, j1, j2, hcxi⟩ := HSF'.out wr (Below.refl _ _)
          have HCALL : Hid (Calls Try.prog 25 #[.agg #[.bool d, .slice an n cn, .slice ae m ce], .int .i64 x, .int .i64 y] wr.drew fun e w' => e = .returned (.bool ar) ∧ Below wr.heap.size wr w') := Lib.hid (by
            have hbW : Below w.heap.size w wr.drew := (HB0.out.trans (HB.out.mono (by omega))).trans ((HBI.out.trans (below_drewN (Below.refl _ _) 1)).mono (by omega))
            rw [← har]
            exact (joined_calls d an ae n cn m ce es x y wr.drew (HR.out.below hbW (Nat.le_refl _))).mono fun e w' ⟨h1, h2⟩ => ⟨h1, (below_drewN (Below.refl wr.heap.size wr) 1).trans h2⟩)
          have hwr2 : w.heap.size < wr.heap.size := by omega
          clear hy har
          cases ar
          all_goals
            go_wp2_with fail
            go_region_held3 (fun w' => w'.cell? ⟨w.heap.size, 0, none⟩ = some (.bool d) ∧ w'.cell? ⟨w.heap.size, 1, none⟩ = some (.slice an n cn) ∧ w'.cell? ⟨w.heap.size, 2, none⟩ = some (.slice ae m ce) ∧ w'.cell? ⟨g, j, none⟩ = some (.int .i64 x))
              (first | with_reducible exact s2 | go_keep)
              ((go_at_call 25; with_reducible refine HCALL.out.mono ?_; rintro e w2 ⟨rfl, hb2⟩; have s2 := HSF'.out w2 hb2; have HB2 := Lib.hid hb2; clear hb2))
            go_wp2_with fail
            go_roundw
            case rel => exact ⟨t + 1, by omega, by go_num, congrArg (Value.int .i64) (by rw [HCN.out]; first | rfl | (simp; try rfl)), HBI.out.trans (HB2.out.mono (by omega))⟩
            case measure => simp [intOf]; omega
        · obtain rfl : t = N := by omega
          have HCF : Hid (l.countP (arcB d es x) = ct) := Lib.hid (by
            have h := HCT.out
            rw [List.take_of_length_le (by have := HNL.out; omega)] at h
            exact h)
          have HOI : Hid (wr.ownsRow w0.heap.size 3 1 (.slice (some ⟨g, 0, none⟩) t c2) t (l.map (Value.int .i64))) := Lib.hid (ownsRow_of_heap HO.out (fun g' hg' => HBI.out.block g' (HO.out.lt g' hg').2))
          have HBX : Hid (Below w0.heap.size w0 wr) := HB.out.trans (HBI.out.mono hszr)
          have hszx : w0.heap.size ≤ wr.heap.size := by omega
          have hcxi : wr.cell? ⟨g, j, none⟩ = some (.int .i64 x) := (HBI.out.cell (p := ⟨g, j, none⟩) hg1).trans hcx
          have hgi : g < wr.heap.size := by omega
          by_cases hck : (ct : Int) < k
          · have HDROP : Hid (KSt d ns es k (dropI l x) 0) := Lib.hid (HST.out.drop HU.out (i := j) (by rw [HCF.out]; exact hck))
            have hdl : (dropI l x).length < t := by have := dropI_len HX.out hjl; have := HNL.out; omega
            go_wp2_with fail
            refine (without_calls (some ⟨g, 0, none⟩) t c2 l x wr (rdi_ownK HOI.out) (by omega)).mono ?_
            rintro e w2 ⟨v2, rfl, ho2, hb2⟩
            obtain ⟨a3, c3, rfl⟩ := own_shape' ho2
            have HO2 := Lib.hid (own_lower ho2 hszx)
            have HB2 : Hid (Below w0.heap.size w0 w2) := HBX.out.trans (hb2.mono hszx)
            obtain ⟨nd, hnd⟩ : ∃ nd, nd = (dropI l x).length := ⟨_, rfl⟩
            rw [← hnd] at hdl HO2 ⊢
            have HND := Lib.hid hnd
            clear ho2 hb2 hnd
            go_wp2_with fail
            go_roundw
            case rel => exact ⟨0, nd, dropI l x, by omega, by omega, by go_num, HND, rfl, by rw [← HND.out]; exact HO2.out, HDROP, HB2.out⟩
            case measure =>
              have hm : (nd + 1) * (n + 2) ≤ t * (n + 2) := Nat.mul_le_mul_right _ (by omega)
              rw [Nat.add_mul] at hm
              simp [intOf, slLen]; omega
          · have HNEXT : Hid (KSt d ns es k l (j + 1)) := Lib.hid (HST.out.next (by rw [HX.out, HCF.out]; omega))
            go_wp2_with fail
            go_roundw
            case rel => exact ⟨j + 1, t, l, by omega, by omega, by go_num, HNL, rfl, by rw [← HNL.out]; exact HOI.out, HNEXT, HBX.out⟩
            case measure => simp [intOf, slLen]; omega
    · have HFIN : Hid (KCPost (sortI ns) (fromL d ns es) k w (.returned (.slice a2 N c2)) wr) := Lib.hid ⟨_, l, rfl, by rw [← HNL.out, ← HS0.out]; exact HO.out, HST.out.sub, fun jj hjj u => by
        have h := HST.out
        subst hjj
        exact h.fin HU.out (by have := HNL.out; omega) u, HB0.out.trans (HB.out.mono (by omega))⟩
      clear j0 j1 j2
      go_wp2_with fail
      go_ret
      exact HFIN.out
end Go.Proofs.Ytbkhakjbmdmghaa
