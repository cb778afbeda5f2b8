/- The walks of the reference's Edges (of a directed graph) and placeOf. The walk of the reference's Sorted, where it says yes. -/
import Derived.Test.YtnfkbjgijelfdaaGreatSpecC
import Derived.Test.YtnfkbjgijelfdaaGreatSortI
import Derived.Test.YtnfkbjgijelfdaaGreatSeen
import Derived.Test.YtnfkbjgijelfdaaGreatNextF
import Derived.Test.YtnfkbjgijelfdaaGreatHeldL
namespace Go.Proofs.YtnfkbjgijelfdaaGreat
open Go.RowKit

/-- Edges that are ones. -/
def IsE (ns : List Int) (es es' : List (Int × Int × Int)) : Prop := ∀ e ∈ es', e.1 ∈ sortI ns ∧ e.2.1 ∈ sortI ns ∧ arcB true es e.1 e.2.1 = true
def EdgesPost (n : Nat) (ns : List Int) (es : List (Int × Int × Int)) (w : World) (e : Ending) (w' : World) : Prop :=
  ∃ a c es', e = .returned (.slice a es'.length c) ∧ RdE w' a es'.length es' ∧ IsE ns es es' ∧ es'.length ≤ n * n ∧ Below w.heap.size w w'

set_option maxHeartbeats 8000000 in
set_option maxRecDepth 100000 in
theorem edges_calls (an ae : Option Addr) (n cn m ce : Nat) (ns : List Int) (es : List (Int × Int × Int)) (w : World) (hn : RdI w an n ns) (hr : RdE w ae m es) (hn8 : n ≤ 500) :
    Calls Tryz.prog 57 #[.agg #[.bool true, .slice an n cn, .slice ae m ce]] w (EdgesPost n ns es w) := by
  have HN := Lib.hid hn; have HR := Lib.hid hr
  have HSL : Hid ((sortI ns).length = n) := Lib.hid (by rw [sortI_len]; exact hn.len)
  clear hn hr
  obtain ⟨i0, hi0, hz0, hz1, hz2⟩ := info_parts edge_info
  have HI := Lib.hid (And.intro hi0 (And.intro hz0 (And.intro hz1 hz2)))
  clear hi0 hz0 hz1 hz2
  go_enter Tryz.func57, Tryz.ntmps57
  go_wp2_with fail
  obtain ⟨w0, hw0⟩ : ∃ w0, w0 = w.alloc (.cells #[.bool true, .slice an n cn, .slice ae m ce] 25) := ⟨_, rfl⟩
  have HB0 : Hid (Below w.heap.size w w0) := Lib.hid (by rw [hw0]; exact (Below.refl _ _).alloc (Nat.le_refl _) _)
  have x0 : w0.heap[w.heap.size]? = some (.cells #[.bool true, .slice an n cn, .slice ae m ce] 25 (0, 0)) := by rw [hw0]; exact heap_alloc_new w _
  have hs0 : w.heap.size < w0.heap.size := (Array.getElem?_eq_some_iff.1 x0).1
  have HX0 := Lib.hid x0
  rw [← hw0]
  clear hw0 x0
  refine (specNodes_calls true an ae n cn m ce ns w0 (HN.out.below HB0.out (Nat.le_refl _)) (by omega)).mono ?_
  rintro e w1 ⟨v1, rfl, ho1, hb1⟩
  obtain ⟨a1, c1, rfl⟩ := own_shape' ho1
  have HO1 := Lib.hid ho1
  have HB1 : Hid (Below w.heap.size w w1) := Lib.hid (HB0.out.trans (hb1.mono HB0.out.size))
  have HX1 : Hid (w1.heap[w.heap.size]? = some (.cells #[.bool true, .slice an n cn, .slice ae m ce] 25 (0, 0))) := Lib.hid ((hb1.block _ hs0).trans HX0.out)
  have hs1 : w.heap.size < w1.heap.size := by have := hb1.size; omega
  clear ho1 hb1 HX0
  go_wp2_with fail
  go_loopw [3, 13] (fun v i wr => ∃ (k : Nat) (el : List (Int × Int × Int)), k ≤ n ∧ i = .int .i64 k ∧ wr.ownsRow w1.heap.size 41 3 v el.length (flatE el) ∧ Hid (IsE ns es el) ∧ el.length ≤ k * n ∧ Below w1.heap.size w1 wr) (fun _ i _ => n - (intOf i).toNat)
  case atStart => exact ⟨0, [], by omega, rfl, World.ownsRow_nil _ _ _ _, Lib.hid (fun _ h => nomatch h), by simp, Below.refl _ _⟩
  case round =>
    obtain ⟨k, el, hk, rfl, ho, HIS, hel, hb⟩ := hrel
    obtain ⟨wo, rfl⟩ : ∃ wo : World, wo = wr := ⟨_, rfl⟩
    obtain ⟨ne, hne⟩ : ∃ ne, ne = el.length := ⟨_, rfl⟩
    rw [← hne] at ho hel
    obtain ⟨aE, cE, rfl⟩ := own_shape' ho
    have HO := Lib.hid ho; have HB := Lib.hid hb; have HNE := Lib.hid hne
    have hszr := hb.size
    clear ho hne
    by_cases hlt : k < n
    · obtain ⟨g, c', e, hg0, hg1, -⟩ := own_form HO1.out (by omega)
      simp only [Value.slice.injEq, true_and] at e
      obtain ⟨rfl, rfl⟩ := e
      obtain ⟨u, hu⟩ : ∃ u, (sortI ns)[k]? = some u := ⟨_, List.getElem?_eq_getElem (by rw [HSL.out]; exact hlt)⟩
      have hq := (hb.cell (p := ⟨g, k, none⟩) hg1).trans (own_at HO1.out (i := k) (u := .int .i64 u) (by rw [List.getElem?_map, hu]; rfl)).1
      have hx := (hb.block w.heap.size hs1).trans HX1.out
      have q0 : wo.cell? ⟨w.heap.size, 0, none⟩ = some (.bool true) := by rw [cell_of_row wo _ _ _ _ (0, 0) hx]; rfl
      have q1 : wo.cell? ⟨w.heap.size, 1, none⟩ = some (.slice an n cn) := by rw [cell_of_row wo _ _ _ _ (0, 0) hx]; rfl
      have q2 : wo.cell? ⟨w.heap.size, 2, none⟩ = some (.slice ae m ce) := by rw [cell_of_row wo _ _ _ _ (0, 0) hx]; rfl
      have HXR := Lib.hid hx
      have HUI : Hid (u ∈ sortI ns) := Lib.hid (List.mem_of_getElem? hu)
      have hgr : g < wo.heap.size := by omega
      have HBW : Hid (Below w.heap.size w wo) := Lib.hid (HB1.out.trans (hb.mono (Nat.le_of_lt hs1)))
      have hkn : k * n ≤ 250000 := Nat.le_trans (Nat.mul_le_mul (show k ≤ 500 by omega) hn8) (by omega)
      have hkn2 : (k + 1) * n = k * n + n := Nat.succ_mul k n
      have HKN := Lib.hid hkn2
      clear hx hu hb hkn2
      go_wp2_with fail
      refine (specNodes_calls true an ae n cn m ce ns wo (HN.out.below HBW.out (Nat.le_refl _)) (by omega)).mono ?_
      rintro e w3 ⟨v3, rfl, ho3, hb3⟩
      obtain ⟨a3, c3, rfl⟩ := own_shape' ho3
      have HO3 := Lib.hid ho3
      have hs3 := hb3.size
      have HX3 : Hid (w3.heap[w.heap.size]? = some (.cells #[.bool true, .slice an n cn, .slice ae m ce] 25 (0, 0))) := Lib.hid ((hb3.block _ (by omega)).trans HXR.out)
      have HB3 : Hid (Below w1.heap.size w1 w3) := Lib.hid (HB.out.trans (hb3.mono hszr))
      have HE3 : Hid (w3.ownsRow w1.heap.size 41 3 (.slice aE ne cE) ne (flatE el)) := Lib.hid (ownsRow_of_heap HO.out (fun j hj => hb3.block j (HO.out.lt j hj).2))
      have HAP : Hid (∀ j, (Value.slice a3 n c3).ownBlock = some j → (Value.slice aE ne cE).ownBlock ≠ some j) := Lib.hid (fun j hj e => by have h1 := (HO3.out.lt j hj).1; have h2 := (HO.out.lt j e).2; omega)
      clear ho3 hb3 q0 q1 q2 hq HO
      go_wp2_with fail
      go_loopw [3, 20] (fun v i wr => ∃ (j : Nat) (el2 : List (Int × Int × Int)), j ≤ n ∧ i = .int .i64 j ∧ wr.ownsRow w1.heap.size 41 3 v el2.length (flatE el2) ∧ Hid (IsE ns es el2) ∧ el2.length ≤ k * n + j ∧ Below w1.heap.size w1 wr ∧ Hid (wr.ownsRow (wo.heap.size + 1) 3 1 (.slice a3 n c3) n ((sortI ns).map (Value.int .i64))) ∧ Hid (∀ j, (Value.slice a3 n c3).ownBlock = some j → v.ownBlock ≠ some j)) (fun _ i _ => n - (intOf i).toNat)
      case atStart => exact ⟨0, el, by omega, rfl, by rw [← HNE.out]; exact HE3.out, HIS, by rw [← HNE.out]; omega, HB3.out, HO3, HAP⟩
      case round =>
        obtain ⟨j, el2, hj, rfl, ho, HIS2, hel2, hb, HRN, HAP2⟩ := hrel
        obtain ⟨wi, rfl⟩ : ∃ wi : World, wi = wr := ⟨_, rfl⟩
        obtain ⟨ne2, hne2⟩ : ∃ ne2, ne2 = el2.length := ⟨_, rfl⟩
        rw [← hne2] at ho hel2
        obtain ⟨aF, cF, rfl⟩ := own_shape' ho
        have HO := Lib.hid ho; have HBI := Lib.hid hb; have HNE2 := Lib.hid hne2
        have hszi := hb.size
        clear ho hne2
        by_cases hltj : j < n
        · obtain ⟨g3, c3', e, hg3, hg3', -⟩ := own_form HRN.out (by omega)
          simp only [Value.slice.injEq, true_and] at e
          obtain ⟨rfl, rfl⟩ := e
          obtain ⟨v, hv⟩ : ∃ v, (sortI ns)[j]? = some v := ⟨_, List.getElem?_eq_getElem (by rw [HSL.out]; exact hltj)⟩
          have hq := (own_at HRN.out (i := j) (u := .int .i64 v) (by rw [List.getElem?_map, hv]; rfl)).1
          have hx := (hb.block w.heap.size hs1).trans HX1.out
          have q0 : wi.cell? ⟨w.heap.size, 0, none⟩ = some (.bool true) := by rw [cell_of_row wi _ _ _ _ (0, 0) hx]; rfl
          have q1 : wi.cell? ⟨w.heap.size, 1, none⟩ = some (.slice an n cn) := by rw [cell_of_row wi _ _ _ _ (0, 0) hx]; rfl
          have q2 : wi.cell? ⟨w.heap.size, 2, none⟩ = some (.slice ae m ce) := by rw [cell_of_row wi _ _ _ _ (0, 0) hx]; rfl
          have HXI := Lib.hid hx
          have HVI : Hid (v ∈ sortI ns) := Lib.hid (List.mem_of_getElem? hv)
          have HBIW : Hid (Below w.heap.size w wi) := Lib.hid (HB1.out.trans (hb.mono (Nat.le_of_lt hs1)))
          clear hx hv hb
          go_wp2_with fail
          refine (specWeight_calls true an ae n cn m ce es u v wi (HR.out.below HBIW.out (Nat.le_refl _))).mono ?_
          rintro e w5 ⟨⟨z, rfl⟩, hb5⟩
          have HB5 : Hid (Below w1.heap.size w1 w5) := Lib.hid (HBI.out.trans (hb5.mono hszi))
          have hs5 := hb5.size
          have HO5 : Hid (w5.ownsRow w1.heap.size 41 3 (.slice aF ne2 cF) ne2 (flatE el2)) := Lib.hid (ownsRow_of_heap HO.out (fun j hj => hb5.block j (HO.out.lt j hj).2))
          have HN5 : Hid (w5.ownsRow (wo.heap.size + 1) 3 1 (.slice (some ⟨g3, 0, none⟩) n c3) n ((sortI ns).map (Value.int .i64))) := Lib.hid (ownsRow_of_heap HRN.out (fun j hj => hb5.block j (HRN.out.lt j hj).2))
          have p0 : w5.cell? ⟨w.heap.size, 0, none⟩ = some (.bool true) := (hb5.cell (p := ⟨w.heap.size, 0, none⟩) (show w.heap.size < wi.heap.size by omega)).trans q0
          obtain ⟨ab, hab⟩ : ∃ ab, ab = arcB true es u v := ⟨_, rfl⟩
          have HAB := Lib.hid hab
          rw [← hab]
          clear hab hb5 q0 q1 q2 hq
          cases ab
          · clear p0
            go_wp2_with fail
            go_roundw
            case rel => exact ⟨j + 1, el2, by omega, by go_num, by rw [← HNE2.out]; exact HO5.out, HIS2, by rw [← HNE2.out]; omega, HB5.out, HN5, HAP2⟩
            case measure => simp [intOf]; omega
          · have HISN : Hid (IsE ns es (el2 ++ [(u, v, z)])) := Lib.hid (fun x hx => by
              rcases List.mem_append.1 hx with hx | hx
              · exact HIS2.out x hx
              · rw [List.mem_singleton.1 hx]; exact ⟨HUI.out, HVI.out, HAB.out.symm⟩)
            obtain ⟨hi0, hz0, hz1, hz2⟩ := HI.out
            have hsmm : (ne2 + 1) * 24 ≤ 140737488355328 := by omega
            have hmx : ne2 + 1 ≤ maxLen := by unfold maxLen; omega
            go_wp2_with (at_builtin; refine wpList_append_own_at _ rfl _ _ 23 rfl w1.heap.size 41 i0 (.agg #[.int .i64 0, .int .i64 0, .int .i64 0]) 3 24 Tryz.underlying23 hi0 hz0 hz1 hz2 rfl (by decide) (.slice aF ne2 cF) ne2 (flatE el2) rfl (HO5.out.alloc _) ⟨w5.heap.size, 0, none⟩ 1 1 [.int .i64 u, .int .i64 v, .int .i64 z] rfl rfl ?c1 ?c2 hmx hsmm ?c5 ?_)
            case c1 => exact World.news_of_block (cs := #[.int .i64 u, .int .i64 v, .int .i64 z]) (t := 41) (fr := (0, 0)) (heap_alloc_new w5 _)
            case c2 => intro y hy; simp at hy; rcases hy with rfl | rfl | rfl <;> rfl
            case c5 => simp; omega
            intro v7 w7 hown7 hgrow7 _ hloc7
            obtain ⟨a7, c7, rfl⟩ := own_shape' hown7
            have HB7 : Hid (Below w1.heap.size w1 w7) := Lib.hid ((HB5.out.alloc (by omega) _).grown hgrow7 (by simp; omega) (fun j hj => (HO5.out.lt j hj).1))
            have HO7 : Hid (w7.ownsRow w1.heap.size 41 3 (.slice a7 (ne2 + 1) c7) (el2 ++ [(u, v, z)]).length (flatE (el2 ++ [(u, v, z)]))) := Lib.hid (by
              rw [List.length_append, List.length_singleton, flatE_append, ← HNE2.out]; exact hown7)
            have HN7 : Hid (w7.ownsRow (wo.heap.size + 1) 3 1 (.slice (some ⟨g3, 0, none⟩) n c3) n ((sortI ns).map (Value.int .i64))) := Lib.hid (ownsRow_of_heap HN5.out (fun j hj => by
              rw [hgrow7.block j (by have := (HN5.out.lt j hj).2; simp; omega) (fun e => HAP2.out j hj e.symm)]
              exact heap_alloc_old _ _ (HN5.out.lt j hj).2))
            have HAP7 : Hid (∀ q, (Value.slice (some ⟨g3, 0, none⟩) n c3).ownBlock = some q → (Value.slice a7 (ne2 + 1) c7).ownBlock ≠ some q) := Lib.hid (fun q hq e => by
              rcases hloc7 with h | h
              · exact HAP2.out q hq (h ▸ e)
              · rw [h] at e
                have h1 := Option.some.inj e
                have h2 := (HN5.out.lt q hq).2
                first | omega | (simp at h1; omega))
            clear hown7 hgrow7 hloc7 p0
            go_wp2_with fail
            go_roundw
            case rel => exact ⟨j + 1, el2 ++ [(u, v, z)], by omega, by go_num, HO7.out, HISN, by rw [List.length_append, List.length_singleton, ← HNE2.out]; omega, HB7.out, HN7, HAP7⟩
            case measure => simp [intOf]; omega
        · obtain rfl : j = n := by omega
          clear hb
          go_wp2_with fail
          go_roundw
          case rel => exact ⟨k + 1, el2, by omega, by go_num, by rw [← HNE2.out]; exact HO.out, HIS2, by rw [← HNE2.out, HKN.out]; exact hel2, HBI.out⟩
          case measure => simp [intOf]; omega
    · obtain rfl : k = n := by omega
      have HIN : Hid (RdE wo aE el.length el) := Lib.hid (rdE_of_own (by rw [← HNE.out]; exact HO.out))
      clear hb
      go_wp2_with fail
      go_ret
      exact ⟨aE, cE, el, by rw [HNE.out]; rfl, HIN.out, HIS.out, by rw [← HNE.out]; exact hel, HB1.out.trans (HB.out.mono (Nat.le_of_lt hs1))⟩

/-- Places that are read. -/
structure RdS (w : World) (a : Option Addr) (n : Nat) (os : List (Option Int)) : Prop where
  len : os.length = n
  at_ : 0 < n → ∃ b off, a = some ⟨b, off, none⟩ ∧ b < w.heap.size ∧ ∀ j, j < n → ∃ o, Hid (os[j]? = some o) ∧ w.cell? ⟨b, off + j * 2, none⟩ = some (.bool o.isNone) ∧ w.cell? ⟨b, off + j * 2 + 1, none⟩ = some (.int .i64 (o.getD 0))
theorem RdS.below {w w' : World} {a : Option Addr} {n : Nat} {os : List (Option Int)} {B : Nat} (h : RdS w a n os) (hb : Below B w w') (hB : w.heap.size ≤ B) : RdS w' a n os :=
  ⟨h.len, fun h0 => by
    obtain ⟨b, off, e, hb', hc⟩ := h.at_ h0
    exact ⟨b, off, e, Nat.lt_of_lt_of_le hb' hb.size, fun j hj => by
      obtain ⟨o, h1, h2, h3⟩ := hc j hj
      exact ⟨o, h1, (hb.cell (p := ⟨b, off + j * 2, none⟩) (by show b < B; omega)).trans h2, (hb.cell (p := ⟨b, off + j * 2 + 1, none⟩) (by show b < B; omega)).trans h3⟩⟩⟩
theorem flatS_get (os : List (Option Int)) : ∀ (j : Nat) (o : Option Int), os[j]? = some o → (flatS os)[j * 2]? = some (.bool o.isNone) ∧ (flatS os)[j * 2 + 1]? = some (.int .i64 (o.getD 0)) := by
  induction os with
  | nil => intro j e h; simp at h
  | cons a l ih =>
    intro j e h
    have e0 : flatS (a :: l) = .bool a.isNone :: .int .i64 (a.getD 0) :: flatS l := rfl
    rw [e0]
    cases j with
    | zero => simp at h; subst h; simp
    | succ j =>
      have := ih j e (by simpa using h)
      rw [show (j + 1) * 2 = j * 2 + 2 from by omega]
      simpa using this
theorem rdS_of_own {w : World} {B : Nat} {a : Option Addr} {n c : Nat} {os : List (Option Int)} (h : w.ownsRow B 45 2 (.slice a n c) n (flatS os)) : RdS w a n os := by
  have hlen : os.length = n := by
    have h1 := h.1
    rw [flatS_len] at h1
    omega
  rcases h.2 with ⟨e1, h1⟩ | ⟨g, cap, cur, e1, hb, hg, h3, h4, h5, h6⟩
  · exact ⟨hlen, by omega⟩
  · simp only [Value.slice.injEq] at e1
    obtain ⟨rfl, -, rfl⟩ := e1
    refine ⟨hlen, fun h0 => ⟨g, 0, rfl, (Array.getElem?_eq_some_iff.1 hg).1, fun j hj => ?_⟩⟩
    obtain ⟨e, he⟩ : ∃ e, os[j]? = some e := ⟨os[j]'(by omega), by simp⟩
    obtain ⟨g0, g1⟩ := flatS_get os j e he
    have key : ∀ i, i < n * 2 → w.cell? ⟨g, i, none⟩ = (flatS os)[i]? := fun i hi => by
      rw [cell_of_row w g i cur _ (0, 0) hg, ← h6, List.getElem?_take_of_lt hi, ← Array.getElem?_toList]
    exact ⟨e, he, by rw [Nat.zero_add, key _ (by omega), g0], by rw [Nat.zero_add, key _ (by omega), g1]⟩

theorem cycs_take_succ {R : List (List Int)} {i : Nat} {c : List Int} (h : R[i]? = some c) : cycs (R.take (i + 1)) = cycs (R.take i) ++ (if cyB c then [c] else []) := filter_take_succ h
theorem cycs_at {R : List (List Int)} {i : Nat} {c : List Int} (h : R[i]? = some c) (hc : cyB c = true) : (cycs R)[(cycs (R.take i)).length]? = some c := by
  obtain ⟨h1, h2⟩ := List.getElem?_eq_some_iff.1 h
  have e : R = R.take i ++ c :: R.drop (i + 1) := by
    rw [← h2, ← List.drop_eq_getElem_cons h1, List.take_append_drop]
  have e2 : cycs R = cycs (R.take i) ++ c :: cycs (R.drop (i + 1)) := by
    unfold cycs
    conv => lhs; rw [e, List.filter_append, List.filter_cons, if_pos hc]
  rw [e2, List.getElem?_append_right (Nat.le_refl _), Nat.sub_self]
  rfl

set_option maxHeartbeats 4000000 in
theorem placeOf_calls (aO aC : Option Addr) (n m cO cC : Nat) (R : List (List Int)) (u : Int) (i0 : Nat) (c0 : List Int) (w : World) (hS : RdS w aO n (R.map slotO)) (hC : RdL w aC m ((cycs R).map sortI)) (hi : R[i0]? = some c0) (hu : u ∈ c0) (hnd : R.flatten.Nodup) (hn : n ≤ 1000) :
    Calls Tryz.prog 58 #[.slice aO n cO, .slice aC m cC, .int .i64 u] w fun e w' => e = .returned (.int .i64 i0) ∧ Below w.heap.size w w' := by
  have hRn : R.length = n := by have := hS.len; rw [List.length_map] at this; exact this
  have hi0 : i0 < n := by rw [← hRn]; exact (List.getElem?_eq_some_iff.1 hi).1
  have hml : (cycs R).length = m := by have := hC.len; rw [List.length_map] at this; exact this
  have HS := Lib.hid hS; have HC := Lib.hid hC; have HI := Lib.hid hi; have HU := Lib.hid hu; have HND := Lib.hid hnd; have HRN := Lib.hid hRn; have HML := Lib.hid hml
  have hmn : m ≤ n := by
    have := List.length_filter_le cyB R
    unfold cycs at hml; omega
  clear hS hC hi hu hnd hRn hml
  go_enter Tryz.func58, Tryz.ntmps58
  go_wp2_with fail
  go_loopw [7, 12] (fun v i wr => ∃ k q : Nat, k ≤ i0 ∧ i = .int .i64 k ∧ v = .int .i64 q ∧ Hid (q = (cycs (R.take k)).length) ∧ Below w.heap.size w wr) (fun _ i _ => n - (intOf i).toNat)
  case atStart => exact ⟨0, 0, by omega, rfl, rfl, Lib.hid (by simp [cycs]), Below.refl _ _⟩
  case round =>
    obtain ⟨k, q, hk, rfl, rfl, HQ, hb⟩ := hrel
    have hkn : k < n := by omega
    obtain ⟨b, off, rfl, hbb, hc⟩ := HS.out.at_ (by omega)
    obtain ⟨o, HO, h1, h2⟩ := hc k hkn
    obtain ⟨c, hcc⟩ : ∃ c, R[k]? = some c := ⟨_, List.getElem?_eq_getElem (by rw [HRN.out]; exact hkn)⟩
    have hoc : o = slotO c := by
      have h := HO.out
      rw [List.getElem?_map, hcc] at h
      exact (Option.some.inj h).symm
    have e1 := (hb.cell (p := ⟨b, off + k * 2, none⟩) hbb).trans h1
    have e2 := (hb.cell (p := ⟨b, off + k * 2 + 1, none⟩) hbb).trans h2
    have hbr : b < wr.heap.size := by have := hb.size; omega
    have HCC := Lib.hid hcc
    have HB := Lib.hid hb
    have hszr := hb.size
    have hct := cycs_take_succ hcc
    have hin : u ∈ c ↔ k = i0 := ⟨fun h => by
      by_cases e : k = i0
      · exact e
      · exact absurd HU.out (flat_disj HND.out hcc HI.out e u h), fun e => by
      subst e
      obtain rfl := Option.some.inj (hcc.symm.trans HI.out)
      exact HU.out⟩
    clear hc h1 h2 hb hcc
    by_cases hcy : cyB c = true
    · rw [hoc, slotO_cy hcy] at e1 e2
      replace e1 : wr.cell? ⟨b, off + k * 2, none⟩ = some (.bool true) := e1
      replace e2 : wr.cell? ⟨b, off + k * 2 + 1, none⟩ = some (.int .i64 0) := e2
      have hca := cycs_at HCC.out hcy
      rw [← HQ.out] at hca
      have hqm : q < m := by rw [← HML.out]; exact (List.getElem?_eq_some_iff.1 hca).1
      obtain ⟨b2, off2, rfl, hbb2, hc2⟩ := HC.out.at_ (by omega)
      obtain ⟨aj, nj, cj, l, HLJ, hcell, hrn⟩ := hc2 q hqm
      obtain rfl : l = sortI c := by
        have h := HLJ.out
        rw [List.getElem?_map, hca] at h
        exact (Option.some.inj h).symm
      have hck := (HB.out.cell (p := ⟨b2, off2 + q, none⟩) hbb2).trans hcell
      have hbr2 : b2 < wr.heap.size := by omega
      have HRN2 := Lib.hid (hrn.below HB.out (Nat.le_refl _))
      have HQ2 : Hid (q + 1 = (cycs (R.take (k + 1))).length) := Lib.hid (by rw [hct, if_pos hcy, List.length_append, ← HQ.out]; rfl)
      have hqm2 : (q : Int) < (m : Int) := by omega
      have HHB : Hid (hasB (sortI c) u = decide (k = i0)) := Lib.hid (by
        by_cases e : k = i0
        · rw [decide_eq_true e, hasB_iff, mem_sortI]; exact hin.2 e
        · rw [decide_eq_false e]
          cases hh : hasB (sortI c) u
          · rfl
          · exact absurd (hin.1 (mem_sortI.1 ((hasB_iff _ _).1 hh))) e)
      clear hc2 hcell hrn hca hct hin hoc
      go_wp2_with fail
      refine (hasInt_calls aj nj cj (sortI c) u _ (HRN2.out.alloc _)).mono ?_
      rintro e w' ⟨rfl, hw'⟩
      rw [HHB.out]
      have HB' : Hid (Below w.heap.size w w') := Lib.hid (by rw [hw']; exact HB.out.alloc hszr _)
      clear hw'
      by_cases e : k = i0
      · rw [decide_eq_true e]
        have HE := Lib.hid e
        clear e
        go_wp2_with fail
        go_ret
        exact ⟨by rw [HE.out]; rfl, HB'.out⟩
      · rw [decide_eq_false e]
        go_wp2_with fail
        go_roundw
        case rel => exact ⟨k + 1, q + 1, by omega, by go_num, by go_num, HQ2, HB'.out⟩
        case measure => simp [intOf]; omega
    · have hcy' : cyB c = false := by simpa using hcy
      obtain ⟨x, rfl, hsx⟩ := slotO_one hcy'
      rw [hoc, hsx] at e1 e2
      replace e1 : wr.cell? ⟨b, off + k * 2, none⟩ = some (.bool false) := e1
      replace e2 : wr.cell? ⟨b, off + k * 2 + 1, none⟩ = some (.int .i64 x) := e2
      have HQ2 : Hid (q = (cycs (R.take (k + 1))).length) := Lib.hid (by rw [hct, if_neg hcy, List.append_nil]; exact HQ.out)
      have HB' : Hid (∀ o, Below w.heap.size w (wr.alloc o)) := Lib.hid (fun o => HB.out.alloc hszr _)
      clear hct hoc hcy hcy' hsx
      by_cases e : k = i0
      · have hxu : x = u := by have := hin.2 e; simp at this; exact this.symm
        subst hxu
        have HE := Lib.hid e
        have hxx : (x == x) = true := by simp
        clear e hin
        go_wp2_with fail
        go_ret
        exact ⟨by rw [HE.out]; rfl, HB'.out _⟩
      · have hxu : ¬ x = u := fun h => e (hin.1 (by simp [h]))
        have hxu2 : (x == u) = false := by rw [beq_eq_false_iff_ne]; exact hxu
        clear hin
        go_wp2_with fail
        go_roundw
        case rel => exact ⟨k + 1, q, by omega, by go_num, rfl, HQ2, HB'.out _⟩
        case measure => simp [intOf]; omega
end Go.Proofs.YtnfkbjgijelfdaaGreat
namespace Go.Proofs.YtnfkbjgijelfdaaGreat
open Go.RowKit

/-- The components in an order by which no edge leads back. -/
structure OrdR (ns : List Int) (es : List (Int × Int × Int)) (R : List (List Int)) : Prop where
  scc : SccL (sortI ns) (fromL true ns es) R
  ord : ∀ (i j : Nat) (c c' : List Int) (x y : Int), R[i]? = some c → R[j]? = some c' → x ∈ c → y ∈ c' → y ∈ fromL true ns es x → i ≤ j

theorem SccL.cy {ids : List Int} {adj : Int → List Int} {L : List (List Int)} (h : SccL ids adj L) : L.filter (fun c => decide (1 < c.length)) = cycs L := by
  unfold cycs
  refine List.filter_congr (fun c hc => ?_)
  have := List.length_pos_iff.2 (h.ne c hc)
  unfold cyB
  by_cases h1 : c.length = 1
  · simp [h1]
  · rw [decide_eq_true (by omega)]; simp [h1]
theorem cyB_sortI (c : List Int) : cyB (sortI c) = cyB c := by unfold cyB; rw [sortI_len]
theorem cycs_map (L : List (List Int)) : cycs (L.map sortI) = (cycs L).map sortI := by
  unfold cycs
  rw [List.filter_map]
  congr 1
  refine List.filter_congr (fun c _ => ?_)
  exact cyB_sortI c
theorem sortI_idem (l : List Int) : sortI (sortI l) = sortI l := (sortI_unique (List.Perm.refl _) (sortI_pw l)).symm
theorem cycs_same {ids : List Int} {adj adj' : Int → List Int} {L L' : List (List Int)} (h : SccL ids adj L) (h' : SccL ids adj' L') (hr : ∀ x y, ReachA adj x y ↔ ReachA adj' x y) : (((cycs L).map sortI).map sortI).Perm ((cycs L').map sortI) := by
  have e : ((cycs L).map sortI).map sortI = (cycs L).map sortI := by
    rw [List.map_map]; congr 1; funext c; exact sortI_idem c
  rw [e, ← cycs_map, ← cycs_map]
  exact (h.same h' hr).filter _

/-- The nodes that lie alone. -/
def lone (L : List (List Int)) : List Int := (L.filter fun c => !cyB c).flatten
theorem lone_take {R : List (List Int)} {i : Nat} {c : List Int} (h : R[i]? = some c) : lone (R.take (i + 1)) = lone (R.take i) ++ (if cyB c then [] else c) := by
  unfold lone
  rw [filter_take_succ h, List.flatten_append]
  cases hb : cyB c <;> simp
theorem lone_perm (R : List (List Int)) : (lone R ++ ((cycs R).map sortI).flatten).Perm R.flatten := by
  induction R with
  | nil => simp [lone, cycs]
  | cons c R ih =>
    have e1 : lone (c :: R) = (if cyB c then [] else c) ++ lone R := by
      unfold lone; cases hb : cyB c <;> simp [hb]
    have e2 : cycs (c :: R) = (if cyB c then [c] else []) ++ cycs R := by
      unfold cycs; cases hb : cyB c <;> simp [hb]
    rw [e1, e2, List.flatten_cons]
    cases hb : cyB c
    · simp only [Bool.false_eq_true, if_false, List.nil_append]
      rw [List.append_assoc]
      exact List.Perm.append_left _ ih
    · simp only [if_true, List.nil_append, List.map_append, List.map_cons, List.map_nil, List.flatten_append, List.flatten_cons, List.flatten_nil, List.append_nil]
      refine List.Perm.trans ?_ (List.Perm.append_left c ih)
      rw [← List.append_assoc, ← List.append_assoc]
      refine List.Perm.append_right _ ?_
      exact (List.perm_append_comm).trans (List.Perm.append_right _ (sortI_perm c))

theorem OrdR.sorted {ns : List Int} {es : List (Int × Int × Int)} {R : List (List Int)} (h : OrdR ns es R) (hu : (sortI ns).Pairwise (· < ·)) : sortI (lone R ++ ((cycs R).map sortI).flatten) = sortI ns := by
  have h1 : R.flatten.Perm (sortI ns) := (List.perm_ext_iff_of_nodup h.scc.nd (hu.imp fun {a b} h => by omega)).2 h.scc.mem
  exact (sortI_unique ((lone_perm R).trans h1).symm (sortI_pw ns)).symm

theorem addr_add1 (g o q : Nat) : (⟨g, o, none⟩ : Addr).add q = ⟨g, o + q, none⟩ := by unfold Addr.add; split <;> simp_all
theorem arc_ne {ns : List Int} {es : List (Int × Int × Int)} (hw : wellB ns es = true) {u v : Int} (h : arcB true es u v = true) : u ≠ v := by
  unfold arcB at h
  obtain ⟨e, he, h1⟩ := List.any_eq_true.1 h
  unfold wellB edgesB at hw
  rw [Bool.and_eq_true] at hw
  have h2 := List.all_eq_true.1 hw.2 e he
  unfold edgeB at h2
  unfold arcAt at h1
  simp only [Bool.and_eq_true, Bool.not_eq_true', beq_eq_false_iff_ne, ne_eq, Bool.not_true, Bool.false_and, Bool.or_false, beq_iff_eq] at h1 h2
  intro e1
  exact h2.1.1.1.1 (by rw [h1.1, h1.2, e1])

set_option maxHeartbeats 16000000 in
set_option maxRecDepth 200000 in
theorem sorted_calls_ (an ae aO aC : Option Addr) (n cn m ce N cO M cC : Nat) (ns : List Int) (es : List (Int × Int × Int)) (R : List (List Int)) (w : World) (hn : RdI w an n ns) (hr : RdE w ae m es) (hn8 : n ≤ 500) (hw : wellB ns es = true)
    (hS : RdS w aO N (R.map slotO)) (hC : RdL w aC M ((cycs R).map sortI)) (hR : OrdR ns es R) :
    Calls Tryz.prog 17 #[.agg #[.bool true, .slice an n cn, .slice ae m ce], .slice aO N cO, .slice aC M cC] w fun e w' => e = .returned (.bool true) ∧ Below w.heap.size w w' := by
  have hu := sort_ltF hw
  have hfl : R.flatten.length ≤ n := by
    have h1 := nodup_len6 hR.scc.nd (fun x hx => (hR.scc.mem x).1 hx)
    rw [sortI_len, hn.len] at h1; exact h1
  have hRN : R.length = N := by have := hS.len; rw [List.length_map] at this; exact this
  have hNn : N ≤ n := by have := len_flat hR.scc.ne; omega
  have hM : (cycs R).length = M := by have := hC.len; rw [List.length_map] at this; exact this
  have hMN : M ≤ N := by
    have := List.length_filter_le cyB R
    unfold cycs at hM; omega
  have HN := Lib.hid hn; have HR := Lib.hid hr; have HS := Lib.hid hS; have HC := Lib.hid hC; have HRR := Lib.hid hR; have HU := Lib.hid hu; have HFL := Lib.hid hfl; have HRN := Lib.hid hRN; have HM := Lib.hid hM; have HW := Lib.hid hw
  have HTOT : Hid ((lone R).length + (((cycs R).map sortI).flatten).length ≤ n) := Lib.hid (by
    have := (lone_perm R).length_eq; rw [List.length_append] at this; omega)
  clear hn hr hS hC hR hu hfl hRN hM hw
  obtain ⟨i0, hi0, hz0, hz1, hz2⟩ := info_parts int_info
  have HI := Lib.hid (And.intro hi0 (And.intro hz0 (And.intro hz1 hz2)))
  clear hi0 hz0 hz1 hz2
  go_enter Tryz.func17, Tryz.ntmps17
  go_wp2_with fail
  obtain ⟨w0, hw0⟩ : ∃ w0, w0 = w.alloc (.cells #[.bool true, .slice an n cn, .slice ae m ce] 25) := ⟨_, rfl⟩
  have HB0 : Hid (Below w.heap.size w w0) := Lib.hid (by rw [hw0]; exact (Below.refl _ _).alloc (Nat.le_refl _) _)
  have x0 : w0.heap[w.heap.size]? = some (.cells #[.bool true, .slice an n cn, .slice ae m ce] 25 (0, 0)) := by rw [hw0]; exact heap_alloc_new w _
  have hs0 : w.heap.size < w0.heap.size := (Array.getElem?_eq_some_iff.1 x0).1
  have HX0 := Lib.hid x0
  rw [← hw0]
  clear hw0 x0
  go_loopw [7, 8, 19] (fun v q i wr => ∃ k : Nat, k ≤ N ∧ i = .int .i64 k ∧ q = .int .i64 ((cycs (R.take k)).length : Nat) ∧ wr.ownsRow w0.heap.size 3 1 v (lone (R.take k)).length ((lone (R.take k)).map (Value.int .i64)) ∧ Below w0.heap.size w0 wr) (fun _ _ i _ => N - (intOf i).toNat)
  case atStart => exact ⟨0, by omega, rfl, rfl, World.ownsRow_nil _ _ _ _, Below.refl _ _⟩
  case round =>
    obtain ⟨k, hk, rfl, rfl, ho, hb⟩ := hrel
    obtain ⟨wo, rfl⟩ : ∃ wo : World, wo = wr := ⟨_, rfl⟩
    obtain ⟨f, hf⟩ : ∃ f, f = lone (R.take k) := ⟨_, rfl⟩
    rw [← hf] at ho
    have HF := Lib.hid hf
    obtain ⟨q, hq⟩ : ∃ q, q = (cycs (R.take k)).length := ⟨_, rfl⟩
    have HQ := Lib.hid hq
    rw [← hq]
    have hqN : q ≤ k := by
      rw [hq]; unfold cycs
      have := List.length_filter_le cyB (R.take k); rw [List.length_take] at this; omega
    have hfn : f.length ≤ n := by
      have h1 : (R.take k).flatten.length ≤ R.flatten.length := by
        have : R.flatten = (R.take k).flatten ++ (R.drop k).flatten := by rw [← List.flatten_append, List.take_append_drop]
        rw [this, List.length_append]; omega
      have h2 := (lone_perm (R.take k)).length_eq
      rw [List.length_append, ← hf] at h2
      have := HFL.out; omega
    obtain ⟨fn, hfn2⟩ : ∃ fn, fn = f.length := ⟨_, rfl⟩
    rw [← hfn2] at ho hfn
    have HFN := Lib.hid hfn2
    obtain ⟨aF, cF, rfl⟩ := own_shape' ho
    have HO := Lib.hid ho; have HB := Lib.hid hb
    have hszr := hb.size
    clear ho hf hq hfn2
    by_cases hlt : k < N
    · obtain ⟨b, off, rfl, hbb, hc⟩ := HS.out.at_ (by omega)
      obtain ⟨o, HOO, h1, h2⟩ := hc k hlt
      obtain ⟨c, hcc⟩ : ∃ c, R[k]? = some c := ⟨_, List.getElem?_eq_getElem (by rw [HRN.out]; exact hlt)⟩
      have hoc : o = slotO c := by
        have h := HOO.out
        rw [List.getElem?_map, hcc] at h
        exact (Option.some.inj h).symm
      have hbw := HB0.out.trans (hb.mono HB0.out.size)
      have e1 := (hbw.cell (p := ⟨b, off + k * 2, none⟩) hbb).trans h1
      have e2 := (hbw.cell (p := ⟨b, off + k * 2 + 1, none⟩) hbb).trans h2
      have hbr : b < wo.heap.size := by omega
      have hct := cycs_take_succ hcc
      have hlt2 := lone_take hcc
      clear hc h1 h2 hb hbw hcc HOO
      by_cases hcy : cyB c = true
      · rw [hoc, slotO_cy hcy] at e1 e2
        replace e1 : wo.cell? ⟨b, off + k * 2, none⟩ = some (.bool true) := e1
        replace e2 : wo.cell? ⟨b, off + k * 2 + 1, none⟩ = some (.int .i64 0) := e2
        have HQ2 : Hid ((cycs (R.take (k + 1))).length = q + 1) := Lib.hid (by rw [hct, if_pos hcy, List.length_append, ← HQ.out]; rfl)
        have HF2 : Hid (lone (R.take (k + 1)) = f) := Lib.hid (by rw [hlt2, if_pos hcy, List.append_nil, HF.out])
        have HB' : Hid (∀ o, Below w0.heap.size w0 (wo.alloc o)) := Lib.hid (fun o => HB.out.alloc hszr _)
        have HO' : Hid (∀ o, (wo.alloc o).ownsRow w0.heap.size 3 1 (.slice aF fn cF) fn (f.map (Value.int .i64))) := Lib.hid (fun o => HO.out.alloc _)
        clear hct hlt2 hoc hcy
        go_wp2_with fail
        go_roundw
        case rel => exact ⟨k + 1, by omega, by go_num, by rw [HQ2.out]; go_num, by rw [HF2.out, ← HFN.out]; exact HO'.out _, HB'.out _⟩
        case measure => simp [intOf]; omega
      · have hcy' : cyB c = false := by simpa using hcy
        obtain ⟨x, rfl, hsx⟩ := slotO_one hcy'
        rw [hoc, hsx] at e1 e2
        replace e1 : wo.cell? ⟨b, off + k * 2, none⟩ = some (.bool false) := e1
        replace e2 : wo.cell? ⟨b, off + k * 2 + 1, none⟩ = some (.int .i64 x) := e2
        have HQ2 : Hid ((cycs (R.take (k + 1))).length = q) := Lib.hid (by rw [hct, if_neg hcy, List.append_nil, HQ.out])
        have HF2 : Hid (lone (R.take (k + 1)) = f ++ [x]) := Lib.hid (by rw [hlt2, if_neg hcy, HF.out])
        clear hct hlt2 hoc hcy hcy' hsx
        obtain ⟨hi0, hz0, hz1, hz2⟩ := HI.out
        go_wp2_with (at_builtin; refine wpList_append_own_at _ rfl _ _ 22 rfl w0.heap.size 3 i0 (.int .i64 0) 1 8 Tryz.underlying22 hi0 hz0 hz1 hz2 rfl (by decide) (.slice aF fn cF) fn (f.map (Value.int .i64)) rfl ((HO.out.alloc _).alloc _) ⟨wo.heap.size + 1, 0, none⟩ 1 1 [.int .i64 x] rfl rfl ?c1 ?c2 ?c3 ?c4 ?c5 ?_)
        case c1 => intro j u hj; match j, hj with | 0, hj => simp at hj; subst hj; simp [Addr.add]
        case c2 => intro u hu; simp at hu; subst hu; rfl
        case c3 => unfold maxLen; omega
        case c4 => omega
        case c5 => simp; omega
        intro v6 w6 hown6 hgrow6 _ _
        obtain ⟨a6, c6, rfl⟩ := own_shape' hown6
        have HB6 : Hid (Below w0.heap.size w0 w6) := Lib.hid (((HB.out.alloc hszr _).alloc (by simp; omega) _).grown hgrow6 (by simp; omega) (fun j hj => (HO.out.lt j hj).1))
        have HO6 : Hid (w6.ownsRow w0.heap.size 3 1 (.slice a6 (fn + 1) c6) (lone (R.take (k + 1))).length ((lone (R.take (k + 1))).map (Value.int .i64))) := Lib.hid (by
          rw [HF2.out, List.length_append, List.length_singleton, List.map_append, ← HFN.out]; exact hown6)
        clear hown6 hgrow6
        go_wp2_with fail
        go_roundw
        case rel => exact ⟨k + 1, by omega, by go_num, by rw [HQ2.out], HO6.out, HB6.out⟩
        case measure => simp [intOf]; omega
    · obtain rfl : k = N := by omega
      have e0 : R.take k = R := List.take_of_length_le (by rw [HRN.out]; exact Nat.le_refl _)
      have HFR : Hid (f = lone R) := Lib.hid (by rw [HF.out, e0])
      have HQM : Hid (q = M) := Lib.hid (by rw [HQ.out, e0]; exact HM.out)
      clear e0 hb
      obtain rfl : q = M := HQM.out
      go_wp2_with fail
      go_loopw [7, 35] (fun v i wr => ∃ (j : Nat) (f2 : List Int), j ≤ q ∧ i = .int .i64 j ∧ Hid (f2 = lone R ++ (((cycs R).map sortI).take j).flatten) ∧ wr.ownsRow w0.heap.size 3 1 v f2.length (f2.map (Value.int .i64)) ∧ Below w0.heap.size w0 wr) (fun _ i _ => q - (intOf i).toNat)
      case atStart => exact ⟨0, f, by omega, rfl, Lib.hid (by rw [HFR.out]; simp), by rw [← HFN.out]; exact HO.out, HB.out⟩
      case round =>
        obtain ⟨j, f2, hj, rfl, HF2, ho, hb⟩ := hrel
        obtain ⟨wi, rfl⟩ : ∃ wi : World, wi = wr := ⟨_, rfl⟩
        obtain ⟨gn, hgn⟩ : ∃ gn, gn = f2.length := ⟨_, rfl⟩
        rw [← hgn] at ho
        have HGN := Lib.hid hgn
        obtain ⟨aG, cG, rfl⟩ := own_shape' ho
        have HG := Lib.hid ho; have HBG := Lib.hid hb
        have hszi := hb.size
        have HBW : Hid (Below w.heap.size w wi) := Lib.hid (HB0.out.trans (hb.mono HB0.out.size))
        clear ho hgn
        by_cases hltj : j < q
        · obtain ⟨b, off, rfl, hbb, hc⟩ := HC.out.at_ (by omega)
          obtain ⟨aj, nj, cj, l, HLJ, hcell, hrn⟩ := hc j hltj
          have hck := (HBW.out.cell (p := ⟨b, off + j, none⟩) hbb).trans hcell
          have hbr : b < wi.heap.size := by have := HB0.out.size; omega
          have htk : ((cycs R).map sortI).take (j + 1) = ((cycs R).map sortI).take j ++ [l] := by
            obtain ⟨q1, q2⟩ := List.getElem?_eq_some_iff.1 HLJ.out
            rw [List.take_succ_eq_append_getElem q1, q2]
          have HF3 : Hid (f2 ++ l = lone R ++ (((cycs R).map sortI).take (j + 1)).flatten) := Lib.hid (by
            rw [htk, List.flatten_append, HF2.out, List.append_assoc]; simp)
          have hlen : gn + nj ≤ n := by
            have h1 := congrArg List.length HF3.out
            rw [List.length_append, List.length_append, ← HGN.out, hrn.len] at h1
            have h2 : (((cycs R).map sortI).take (j + 1)).flatten.length ≤ ((cycs R).map sortI).flatten.length := by
              have : ((cycs R).map sortI).flatten = (((cycs R).map sortI).take (j + 1)).flatten ++ (((cycs R).map sortI).drop (j + 1)).flatten := by rw [← List.flatten_append, List.take_append_drop]
              rw [this, List.length_append]; omega
            have := HTOT.out; omega
          have hnj : 0 < nj := by
            have h1 := HLJ.out
            rw [List.getElem?_map] at h1
            obtain ⟨c, hc1, hc2⟩ := Option.map_eq_some_iff.1 h1
            have h3 := HRR.out.scc.ne c (List.mem_filter.1 (List.mem_of_getElem? hc1)).1
            rw [← hrn.len, ← hc2, sortI_len]; exact List.length_pos_iff.2 h3
          have HRL := Lib.hid (hrn.below HBW.out (Nat.le_refl _))
          obtain ⟨bl, ol, rfl, hbl, hcl⟩ := HRL.out.at_ hnj
          have HNJ : Hid (l.length = nj) := Lib.hid hrn.len
          have HCL : Hid (∀ x u, (l.map (Value.int .i64))[x]? = some u → wi.cell? ⟨bl, ol + x, none⟩ = some u) := Lib.hid (fun x u hx => by
            have hxl : x < l.length := by have := (List.getElem?_eq_some_iff.1 hx).1; simpa using this
            obtain ⟨z, hz, hcz⟩ := hcl x (by rw [← hrn.len]; exact hxl)
            rw [hcz]
            rw [List.getElem?_map, List.getElem?_eq_getElem hxl] at hx
            have h5 : l[x] = z := by have := hz.out; simpa [List.getD, hxl] using this
            rw [← h5]; simpa using hx)
          clear hc hcell hrn hb htk hcl
          obtain ⟨hi0, hz0, hz1, hz2⟩ := HI.out
          go_wp2_with (at_builtin; refine wpList_append_own_at _ rfl _ _ 22 rfl w0.heap.size 3 i0 (.int .i64 0) 1 8 Tryz.underlying22 hi0 hz0 hz1 hz2 rfl (by decide) (.slice aG gn cG) gn (f2.map (Value.int .i64)) rfl HG.out ⟨bl, ol, none⟩ nj cj (l.map (Value.int .i64)) rfl (by rw [List.length_map, Nat.mul_one, HNJ.out]) ?d1 ?d2 ?d3 ?d4 ?d5 ?_)
          case d1 =>
            intro x u hx
            rw [addr_add1]
            exact HCL.out x u hx
          case d2 => intro u hu; obtain ⟨z, -, rfl⟩ := List.mem_map.1 hu; rfl
          case d3 => unfold maxLen; omega
          case d4 => omega
          case d5 => omega
          intro v6 w6 hown6 hgrow6 _ _
          have HB6 : Hid (Below w0.heap.size w0 w6) := Lib.hid (HBG.out.grown hgrow6 (by omega) (fun j hj => (HG.out.lt j hj).1))
          have HO6 : Hid (w6.ownsRow w0.heap.size 3 1 v6 (f2 ++ l).length ((f2 ++ l).map (Value.int .i64))) := Lib.hid (by
            rw [List.length_append, List.map_append, ← HGN.out, HNJ.out]; exact hown6)
          obtain ⟨a6, c6, rfl⟩ := own_shape' hown6
          clear hown6 hgrow6 hck
          go_wp2_with fail
          go_roundw
          case rel => exact ⟨j + 1, f2 ++ l, by omega, by go_num, HF3, HO6.out, HB6.out⟩
          case measure => simp [intOf]; omega
        · obtain rfl : j = q := by omega
          have e0 : ((cycs R).map sortI).take j = (cycs R).map sortI := List.take_of_length_le (by rw [List.length_map, HM.out]; exact Nat.le_refl _)
          have hf3 := HF2.out
          rw [e0] at hf3
          have HSRT : Hid (sortI f2 = sortI ns) := Lib.hid (by rw [hf3]; exact HRR.out.sorted HU.out)
          have hgn2 : gn ≤ n := by rw [HGN.out, hf3, List.length_append]; exact HTOT.out
          have hgnn : gn = n := by
            have h1 := congrArg List.length HSRT.out
            rw [sortI_len, sortI_len, HN.out.len, ← HGN.out] at h1; exact h1
          subst hgnn
          have hx := (hb.block w.heap.size hs0).trans HX0.out
          have HXI := Lib.hid hx
          have hBX : ∀ W, Below w0.heap.size w0 W → W.cell? ⟨w.heap.size, 0, none⟩ = some (.bool true) ∧ W.cell? ⟨w.heap.size, 1, none⟩ = some (.slice an gn cn) ∧ W.cell? ⟨w.heap.size, 2, none⟩ = some (.slice ae m ce) := fun W hW => by
            have hx := (hW.block w.heap.size hs0).trans HX0.out
            refine ⟨?_, ?_, ?_⟩ <;> (rw [cell_of_row W _ _ _ _ (0, 0) hx]; rfl)
          have HBX := Lib.hid hBX
          have HBD : Hid (Below w0.heap.size w0 wi.drew) := Lib.hid (below_drewN hb 1)
          have HFR2 : Hid (RdI wi.drew aG gn f2) := Lib.hid ((rdi_ownE HG.out).drewN 1)
          have hq0 : ((j : Int) != (j : Int)) = false := by simp
          clear hb e0 hf3 hx hBX hlt hltj
          go_upto_region 15 with fail
          refine wp_region_L (by kernel_rfl) (fun w' => w'.cell? ⟨w.heap.size, 0, none⟩ = some (.bool true) ∧ w'.cell? ⟨w.heap.size, 1, none⟩ = some (.slice an gn cn) ∧ w'.cell? ⟨w.heap.size, 2, none⟩ = some (.slice ae m ce)) [] (HBX.out _ HBD.out) (fun hHeld => ?_)
          refine wpAnyL_take (i := 0) (v := ?_) rfl (by kernel_rfl) (by kernel_rfl) (by kernel_rfl) (by kernel_rfl) (fun _ _ _ h => h) (by kernel_rfl) ?_ hHeld ?_
          rotate_left
          · intro w hSw; obtain ⟨hs0, hs1, hs2⟩ := hSw; go_simp; all_goals with_reducible rfl
          simp only [Act.put]
          refine wpAnyL_take (i := 1) (v := ?_) rfl (by kernel_rfl) (by kernel_rfl) (by kernel_rfl) (by kernel_rfl) (fun _ _ _ h => h) (by kernel_rfl) ?_ hHeld ?_
          rotate_left
          · intro w hSw; obtain ⟨hs0, hs1, hs2⟩ := hSw; go_simp; all_goals with_reducible rfl
          simp only [Act.put]
          refine wpAnyL_take (i := 2) (v := ?_) rfl (by kernel_rfl) (by kernel_rfl) (by kernel_rfl) (by kernel_rfl) (fun _ _ _ h => h) (by kernel_rfl) ?_ hHeld ?_
          rotate_left
          · intro w hSw; obtain ⟨hs0, hs1, hs2⟩ := hSw; go_simp; all_goals with_reducible rfl
          simp only [Act.put]
          refine wpAnyL_take (i := 3) (v := ?_) rfl (by kernel_rfl) (by kernel_rfl) (by kernel_rfl) (by kernel_rfl) (fun _ _ _ h => h) (by kernel_rfl) ?_ hHeld ?_
          rotate_left
          · intro w hSw; obtain ⟨hs0, hs1, hs2⟩ := hSw; go_simp; all_goals with_reducible rfl
          simp only [Act.put]
          refine wpAnyL_take (i := 4) (v := ?_) rfl (by kernel_rfl) (by kernel_rfl) (by kernel_rfl) (by kernel_rfl) (fun _ _ _ h => h) (by kernel_rfl) ?_ hHeld ?_
          rotate_left
          · intro w hSw; obtain ⟨hs0, hs1, hs2⟩ := hSw; go_simp; all_goals with_reducible rfl
          simp only [Act.put]
          refine wpAnyL_take (i := 5) (v := ?_) rfl (by kernel_rfl) (by kernel_rfl) (by kernel_rfl) (by kernel_rfl) (fun _ _ _ h => h) (by kernel_rfl) ?_ hHeld ?_
          rotate_left
          · intro w hSw; obtain ⟨hs0, hs1, hs2⟩ := hSw; go_simp; all_goals with_reducible rfl
          simp only [Act.put]
          refine wpAnyL_take (i := 7) (v := ?_) rfl (by kernel_rfl) (by kernel_rfl) (by kernel_rfl) (by kernel_rfl) (fun _ _ _ h => h) (by kernel_rfl) ?_ hHeld ?_
          rotate_left
          · intro w hSw; obtain ⟨hs0, hs1, hs2⟩ := hSw; go_simp; all_goals with_reducible rfl
          simp only [Act.put]
          refine wpAnyL_one (i := 6) rfl (by kernel_rfl) (by kernel_rfl) (fun K hK => ?_)
          go_simp
          refine (sortInts_calls aG gn cG f2 wi.drew HFR2.out (by omega)).mono ?_
          rintro e w3 ⟨v3, rfl, ho3, hb3⟩
          rw [HSRT.out] at ho3
          obtain ⟨a3, c3, rfl⟩ := own_shape' ho3
          have HO3 := Lib.hid ho3
          have HB3 : Hid (Below w0.heap.size w0 w3) := Lib.hid (HBD.out.trans (hb3.mono HBD.out.size))
          have HB3W : Hid (Below w.heap.size w w3) := Lib.hid (HB0.out.trans (HB3.out.mono HB0.out.size))
          clear ho3 hb3 hHeld
          have hHeld : (fun w' : World => w'.cell? ⟨w.heap.size, 0, none⟩ = some (.bool true) ∧ w'.cell? ⟨w.heap.size, 1, none⟩ = some (.slice an gn cn) ∧ w'.cell? ⟨w.heap.size, 2, none⟩ = some (.slice ae m ce)) w3 := HBX.out _ HB3.out
          refine hK.out _ _ (.inr hHeld) ?_
          clear hK K
          refine wpAnyL_one (i := 8) rfl (by kernel_rfl) (by kernel_rfl) (fun K hK => ?_)
          go_simp
          refine (specNodes_calls true an ae gn cn m ce ns w3 (HN.out.below HB3W.out (Nat.le_refl _)) (by omega)).mono ?_
          rintro e w4 ⟨v4, rfl, ho4, hb4⟩
          obtain ⟨a4, c4, rfl⟩ := own_shape' ho4
          have HR4 : Hid (RdI w4 a4 gn (sortI ns)) := Lib.hid (rdi_ownE ho4)
          have HR3 : Hid (RdI w4 a3 gn (sortI ns)) := Lib.hid ((rdi_ownE HO3.out).below hb4 (Nat.le_refl _))
          have HB4 : Hid (Below w0.heap.size w0 w4) := Lib.hid (HB3.out.trans (hb4.mono HB3.out.size))
          clear ho4 hb4 hHeld
          have hHeld : (fun w' : World => w'.cell? ⟨w.heap.size, 0, none⟩ = some (.bool true) ∧ w'.cell? ⟨w.heap.size, 1, none⟩ = some (.slice an gn cn) ∧ w'.cell? ⟨w.heap.size, 2, none⟩ = some (.slice ae m ce)) w4 := HBX.out _ HB4.out
          refine hK.out _ _ (.inr hHeld) ?_
          clear hK K
          refine wpAnyL_one (i := 9) rfl (by kernel_rfl) (by kernel_rfl) (fun K hK => ?_)
          go_simp
          refine (sameInts_calls a3 a4 gn gn c3 c4 (sortI ns) (sortI ns) w4 HR3.out HR4.out).mono ?_
          rintro e w5 ⟨rfl, q5, hw5⟩
          rw [show (sortI ns == sortI ns) = true from beq_self_eq_true _]
          have HB5 : Hid (Below w0.heap.size w0 w5) := Lib.hid (by rw [hw5]; exact below_drewN HB4.out q5)
          have HB5W : Hid (Below w.heap.size w w5) := Lib.hid (HB0.out.trans (HB5.out.mono HB0.out.size))
          clear hw5 hHeld
          have hHeld : (fun w' : World => w'.cell? ⟨w.heap.size, 0, none⟩ = some (.bool true) ∧ w'.cell? ⟨w.heap.size, 1, none⟩ = some (.slice an gn cn) ∧ w'.cell? ⟨w.heap.size, 2, none⟩ = some (.slice ae m ce)) w5 := HBX.out _ HB5.out
          refine hK.out _ _ (.inr hHeld) ?_
          clear hK K
          refine wpAnyL_take (i := 10) (v := ?_) rfl (by kernel_rfl) (by kernel_rfl) (by kernel_rfl) (by kernel_rfl) (fun _ _ _ h => h) (by kernel_rfl) ?_ hHeld ?_
          rotate_left
          · intro w hSw; obtain ⟨hs0, hs1, hs2⟩ := hSw; go_simp; all_goals with_reducible rfl
          simp only [Act.put]
          refine wpAnyL_take (i := 11) (v := ?_) rfl (by kernel_rfl) (by kernel_rfl) (by kernel_rfl) (by kernel_rfl) (fun _ _ _ h => h) (by kernel_rfl) ?_ hHeld ?_
          rotate_left
          · intro w hSw; obtain ⟨hs0, hs1, hs2⟩ := hSw; go_simp; all_goals with_reducible rfl
          simp only [Act.put]
          refine wpAnyL_take (i := 12) (v := ?_) rfl (by kernel_rfl) (by kernel_rfl) (by kernel_rfl) (by kernel_rfl) (fun _ _ _ h => h) (by kernel_rfl) ?_ hHeld ?_
          rotate_left
          · intro w hSw; obtain ⟨hs0, hs1, hs2⟩ := hSw; go_simp; all_goals with_reducible rfl
          simp only [Act.put]
          refine wpAnyL_take (i := 13) (v := ?_) rfl (by kernel_rfl) (by kernel_rfl) (by kernel_rfl) (by kernel_rfl) (fun _ _ _ h => h) (by kernel_rfl) ?_ hHeld ?_
          rotate_left
          · intro w hSw; obtain ⟨hs0, hs1, hs2⟩ := hSw; go_simp; all_goals with_reducible rfl
          simp only [Act.put]
          refine wpAnyL_take (i := 14) (v := ?_) rfl (by kernel_rfl) (by kernel_rfl) (by kernel_rfl) (by kernel_rfl) (fun _ _ _ h => h) (by kernel_rfl) ?_ hHeld ?_
          rotate_left
          · intro w hSw; obtain ⟨hs0, hs1, hs2⟩ := hSw; go_simp; all_goals with_reducible rfl
          simp only [Act.put]
          refine wpAnyL_one (i := 15) rfl (by kernel_rfl) (by kernel_rfl) (fun K hK => ?_)
          go_simp
          refine (cyclic_calls true an ae gn cn m ce ns es w5 (HN.out.below HB5W.out (Nat.le_refl _)) (HR.out.below HB5W.out (Nat.le_refl _)) hn8).mono ?_
          rintro e w6 ⟨v6, ps6, L6, rfl, ho6, hrp6, hps6, hsc6, hb6⟩
          rw [hsc6.cy] at hps6
          obtain ⟨n6, hn6⟩ : ∃ n6, n6 = ps6.length := ⟨_, rfl⟩
          rw [← hn6] at ho6
          have hn6L : n6 ≤ gn := by
            have h1 := nodup_len6 hsc6.nd (fun x hx => (hsc6.mem x).1 hx)
            have h2 := len_flat hsc6.ne
            have h3 := congrArg List.length hps6
            rw [List.length_map] at h3
            have h4 := List.length_filter_le cyB L6
            unfold cycs at h3
            rw [sortI_len, HN.out.len] at h1; omega
          obtain ⟨a6, c6, rfl⟩ := own_shape' ho6
          have HR6 : Hid (RdL w6 a6 n6 (ps6.map (·.2))) := Lib.hid (RdL.of_rowsP ho6 hrp6 (by omega))
          have HP6 : Hid ((((cycs R).map sortI).map sortI).Perm ((ps6.map (·.2)).map sortI)) := Lib.hid (by rw [hps6]; exact cycs_same HRR.out.scc hsc6 (fun _ _ => Iff.rfl))
          have HL6 : Hid (∀ l ∈ ps6.map (·.2), l.length ≤ 1000) := Lib.hid (fun l hl => by
            rw [hps6] at hl
            have h1 := nodup_len6 (hsc6.nodup_of (List.mem_filter.1 hl).1) (fun x hx => (hsc6.mem x).1 (List.mem_flatten.2 ⟨l, (List.mem_filter.1 hl).1, hx⟩))
            rw [sortI_len, HN.out.len] at h1; omega)
          have HB6 : Hid (Below w0.heap.size w0 w6) := Lib.hid (HB5.out.trans (hb6.mono HB5.out.size))
          have HB6W : Hid (Below w.heap.size w w6) := Lib.hid (HB0.out.trans (HB6.out.mono HB0.out.size))
          clear ho6 hrp6 hps6 hsc6 hn6 hb6 hHeld
          have hHeld : (fun w' : World => w'.cell? ⟨w.heap.size, 0, none⟩ = some (.bool true) ∧ w'.cell? ⟨w.heap.size, 1, none⟩ = some (.slice an gn cn) ∧ w'.cell? ⟨w.heap.size, 2, none⟩ = some (.slice ae m ce)) w6 := HBX.out _ HB6.out
          refine hK.out _ _ (.inr hHeld) ?_
          clear hK K
          refine wpAnyL_one (i := 16) rfl (by kernel_rfl) (by kernel_rfl) (fun K hK => ?_)
          go_simp
          refine (sameSets_calls aC a6 j n6 cC c6 ((cycs R).map sortI) (ps6.map (·.2)) w6 (HC.out.below HB6W.out (Nat.le_refl _)) HR6.out (by omega) (by omega) (fun l hl => by
            obtain ⟨c, hc, rfl⟩ := List.mem_map.1 hl
            rw [sortI_len]
            have h1 := List.Sublist.length_le (List.sublist_flatten_of_mem (List.mem_filter.1 hc).1)
            have := HFL.out; omega) HL6.out HP6.out).mono ?_
          rintro e w7 ⟨rfl, hb7⟩
          have HB7 : Hid (Below w0.heap.size w0 w7) := Lib.hid (HB6.out.trans (hb7.mono HB6.out.size))
          have HB7W : Hid (Below w.heap.size w w7) := Lib.hid (HB0.out.trans (HB7.out.mono HB0.out.size))
          clear hb7 hHeld
          have hHeld : (fun w' : World => w'.cell? ⟨w.heap.size, 0, none⟩ = some (.bool true) ∧ w'.cell? ⟨w.heap.size, 1, none⟩ = some (.slice an gn cn) ∧ w'.cell? ⟨w.heap.size, 2, none⟩ = some (.slice ae m ce)) w7 := HBX.out _ HB7.out
          refine hK.out _ _ (.inr hHeld) ?_
          clear hK K
          refine wpAnyL_take (i := 17) (v := ?_) rfl (by kernel_rfl) (by kernel_rfl) (by kernel_rfl) (by kernel_rfl) (fun _ _ _ h => h) (by kernel_rfl) ?_ hHeld ?_
          rotate_left
          · intro w hSw; obtain ⟨hs0, hs1, hs2⟩ := hSw; go_simp; all_goals with_reducible rfl
          simp only [Act.put]
          refine wpAnyL_one (i := 18) rfl (by kernel_rfl) (by kernel_rfl) (fun K hK => ?_)
          go_simp
          refine hK.out _ _ (.inr hHeld) ?_
          clear hK K
          refine wpAnyL_done (by kernel_rfl) ?_ _
          clear hHeld hq0
          obtain ⟨k0, k1, k2⟩ := HBX.out w7 HB7.out
          go_wp2_with fail
          refine (edges_calls an ae gn cn m ce ns es w7 (HN.out.below HB7W.out (Nat.le_refl _)) (HR.out.below HB7W.out (Nat.le_refl _)) hn8).mono ?_
          rintro e w8 ⟨a8, c8, el, rfl, hr8, hise, hel, hb8⟩
          obtain ⟨ne, hne⟩ : ∃ ne, ne = el.length := ⟨_, rfl⟩
          rw [← hne] at hr8 hel ⊢
          have hel2 : ne ≤ 250000 := Nat.le_trans hel (Nat.le_trans (Nat.mul_le_mul hn8 hn8) (by omega))
          have HR8 := Lib.hid hr8; have HISE := Lib.hid hise
          have HB8 : Hid (Below w.heap.size w w8) := Lib.hid (HB7W.out.trans (hb8.mono HB7W.out.size))
          clear hr8 hise hel hne hb8 k0 k1 k2
          go_wp2_with fail
          go_loopw [65] (fun i wr => ∃ x : Nat, x ≤ ne ∧ i = .int .i64 x ∧ Below w8.heap.size w8 wr) (fun i _ => ne - (intOf i).toNat)
          case atStart => exact ⟨0, by omega, rfl, Below.refl _ _⟩
          case round =>
            obtain ⟨x, hx, rfl, hb⟩ := hrel
            obtain ⟨wp, rfl⟩ : ∃ wp : World, wp = wr := ⟨_, rfl⟩
            have HBP := Lib.hid hb
            have hszp := hb.size
            have HBPW : Hid (Below w.heap.size w wp) := Lib.hid (HB8.out.trans (hb.mono HB8.out.size))
            by_cases hltx : x < ne
            · obtain ⟨b, off, rfl, hbb, hc⟩ := HR8.out.at_ (by omega)
              obtain ⟨u, v, z, HE, c0, c1, c2⟩ := hc x hltx
              have e0 := (hb.cell (p := ⟨b, _, none⟩) hbb).trans c0
              have e1 := (hb.cell (p := ⟨b, _, none⟩) hbb).trans c1
              have e2 := (hb.cell (p := ⟨b, _, none⟩) hbb).trans c2
              have hbr : b < wp.heap.size := by omega
              obtain ⟨hu1, hv1, harc⟩ := HISE.out (u, v, z) (List.mem_of_getElem? HE.out)
              obtain ⟨cu, hcu, hucu⟩ := List.mem_flatten.1 ((HRR.out.scc.mem u).2 hu1)
              obtain ⟨cv, hcv, hvcv⟩ := List.mem_flatten.1 ((HRR.out.scc.mem v).2 hv1)
              obtain ⟨iu, hiu⟩ := List.getElem?_of_mem hcu
              obtain ⟨iv, hiv⟩ := List.getElem?_of_mem hcv
              have hle : iu ≤ iv := HRR.out.ord iu iv cu cv u v hiu hiv hucu hvcv (by unfold fromL; exact List.mem_filter.2 ⟨hv1, harc⟩)
              have hne : u ≠ v := arc_ne HW.out harc
              have hivN : iv < k := by rw [← HRN.out]; exact (List.getElem?_eq_some_iff.1 hiv).1
              have hcy : iu = iv → cyB cu = true := fun e => by
                subst e
                obtain rfl := Option.some.inj (hiu.symm.trans hiv)
                unfold cyB
                cases hl : (cu.length == 1)
                · rfl
                · exfalso
                  have hl2 : cu.length = 1 := by simpa using hl
                  match cu, hl2, hucu, hvcv with
                  | [y], _, h1, h2 => simp at h1 h2; exact hne (h1.trans h2.symm)
              have HIU := Lib.hid hiu; have HIV := Lib.hid hiv; have HUC := Lib.hid hucu; have HVC := Lib.hid hvcv
              obtain ⟨bo, oo, rfl, hbo, hco⟩ := HS.out.at_ (by omega)
              obtain ⟨oz, HOZ, g1, -⟩ := hco iu (by omega)
              have hoz : oz = slotO cu := by
                have h := HOZ.out
                rw [List.getElem?_map, hiu] at h
                exact (Option.some.inj h).symm
              have HG1 : Hid (wp.cell? ⟨bo, oo + iu * 2, none⟩ = some (.bool (slotO cu).isNone)) := Lib.hid (by rw [← hoz]; exact (HBPW.out.cell (p := ⟨bo, oo + iu * 2, none⟩) hbo).trans g1)
              have HCY : Hid (iu = iv → (slotO cu).isNone = true) := Lib.hid (fun e => by rw [slotO_cy (hcy e)]; rfl)
              have hbo2 : bo < wp.heap.size := by have := HBPW.out.size; omega
              clear hc c0 c1 c2 hb hu1 hv1 harc hcu hcv hucu hvcv hiu hiv hne hcy hco g1 hoz HOZ
              go_upto_region 20 with fail
              obtain ⟨w9, hw9⟩ : ∃ w9, w9 = wp.alloc (.cells #[.int .i64 u, .int .i64 v, .int .i64 z] 41) := ⟨_, rfl⟩
              have HB9 : Hid (Below wp.heap.size wp w9) := Lib.hid (by rw [hw9]; exact (Below.refl _ _).alloc (Nat.le_refl _) _)
              have x9 : w9.heap[wp.heap.size]? = some (.cells #[.int .i64 u, .int .i64 v, .int .i64 z] 41 (0, 0)) := by rw [hw9]; exact heap_alloc_new wp _
              have hs9 : wp.heap.size < w9.heap.size := (Array.getElem?_eq_some_iff.1 x9).1
              have HX9 : Hid (∀ W, Below w9.heap.size w9 W → W.cell? ⟨wp.heap.size, 0, none⟩ = some (.int .i64 u) ∧ W.cell? ⟨wp.heap.size, 1, none⟩ = some (.int .i64 v)) := Lib.hid (fun W hW => by
                have hx := (hW.block wp.heap.size hs9).trans x9
                refine ⟨?_, ?_⟩ <;> (rw [cell_of_row W _ _ _ _ (0, 0) hx]; rfl))
              have HB9W : Hid (Below w.heap.size w w9.drew) := Lib.hid (below_drewN (HBPW.out.trans (HB9.out.mono HBPW.out.size)) 1)
              have HBD9 : Hid (Below w9.heap.size w9 w9.drew) := Lib.hid (below_drewN (Below.refl _ _) 1)
              rw [← hw9]
              clear hw9 x9 e0 e1 e2
              refine wp_region_L (by kernel_rfl) (fun w' => w'.cell? ⟨wp.heap.size, 0, none⟩ = some (.int .i64 u) ∧ w'.cell? ⟨wp.heap.size, 1, none⟩ = some (.int .i64 v)) [] (HX9.out _ HBD9.out) (fun hHeld => ?_)
              refine wpAnyL_take (i := 0) (v := ?_) rfl (by kernel_rfl) (by kernel_rfl) (by kernel_rfl) (by kernel_rfl) (fun _ _ _ h => h) (by kernel_rfl) ?_ hHeld ?_
              rotate_left
              · intro w hSw; obtain ⟨hs0, hs1⟩ := hSw; go_simp; all_goals with_reducible rfl
              simp only [Act.put]
              refine wpAnyL_take (i := 1) (v := ?_) rfl (by kernel_rfl) (by kernel_rfl) (by kernel_rfl) (by kernel_rfl) (fun _ _ _ h => h) (by kernel_rfl) ?_ hHeld ?_
              rotate_left
              · intro w hSw; obtain ⟨hs0, hs1⟩ := hSw; go_simp; all_goals with_reducible rfl
              simp only [Act.put]
              refine wpAnyL_take (i := 2) (v := ?_) rfl (by kernel_rfl) (by kernel_rfl) (by kernel_rfl) (by kernel_rfl) (fun _ _ _ h => h) (by kernel_rfl) ?_ hHeld ?_
              rotate_left
              · intro w hSw; obtain ⟨hs0, hs1⟩ := hSw; go_simp; all_goals with_reducible rfl
              simp only [Act.put]
              refine wpAnyL_take (i := 3) (v := ?_) rfl (by kernel_rfl) (by kernel_rfl) (by kernel_rfl) (by kernel_rfl) (fun _ _ _ h => h) (by kernel_rfl) ?_ hHeld ?_
              rotate_left
              · intro w hSw; obtain ⟨hs0, hs1⟩ := hSw; go_simp; all_goals with_reducible rfl
              simp only [Act.put]
              refine wpAnyL_take (i := 5) (v := ?_) rfl (by kernel_rfl) (by kernel_rfl) (by kernel_rfl) (by kernel_rfl) (fun _ _ _ h => h) (by kernel_rfl) ?_ hHeld ?_
              rotate_left
              · intro w hSw; obtain ⟨hs0, hs1⟩ := hSw; go_simp; all_goals with_reducible rfl
              simp only [Act.put]
              refine wpAnyL_take (i := 6) (v := ?_) rfl (by kernel_rfl) (by kernel_rfl) (by kernel_rfl) (by kernel_rfl) (fun _ _ _ h => h) (by kernel_rfl) ?_ hHeld ?_
              rotate_left
              · intro w hSw; obtain ⟨hs0, hs1⟩ := hSw; go_simp; all_goals with_reducible rfl
              simp only [Act.put]
              refine wpAnyL_take (i := 7) (v := ?_) rfl (by kernel_rfl) (by kernel_rfl) (by kernel_rfl) (by kernel_rfl) (fun _ _ _ h => h) (by kernel_rfl) ?_ hHeld ?_
              rotate_left
              · intro w hSw; obtain ⟨hs0, hs1⟩ := hSw; go_simp; all_goals with_reducible rfl
              simp only [Act.put]
              refine wpAnyL_take (i := 8) (v := ?_) rfl (by kernel_rfl) (by kernel_rfl) (by kernel_rfl) (by kernel_rfl) (fun _ _ _ h => h) (by kernel_rfl) ?_ hHeld ?_
              rotate_left
              · intro w hSw; obtain ⟨hs0, hs1⟩ := hSw; go_simp; all_goals with_reducible rfl
              simp only [Act.put]
              refine wpAnyL_one (i := 4) rfl (by kernel_rfl) (by kernel_rfl) (fun K hK => ?_)
              go_simp
              refine (placeOf_calls (some ⟨bo, oo, none⟩) aC k j cO cC R u iu cu w9.drew (HS.out.below HB9W.out (Nat.le_refl _)) (HC.out.below HB9W.out (Nat.le_refl _)) HIU.out HUC.out HRR.out.scc.nd (by omega)).mono ?_
              rintro e w10 ⟨rfl, hb10⟩
              have HB10 : Hid (Below w9.heap.size w9 w10) := Lib.hid (HBD9.out.trans hb10)
              have HB10W : Hid (Below w.heap.size w w10) := Lib.hid (HB9W.out.trans (hb10.mono HB9W.out.size))
              clear hb10 hHeld
              have hHeld : (fun w' : World => w'.cell? ⟨wp.heap.size, 0, none⟩ = some (.int .i64 u) ∧ w'.cell? ⟨wp.heap.size, 1, none⟩ = some (.int .i64 v)) w10 := HX9.out _ HB10.out
              refine hK.out _ _ (.inr hHeld) ?_
              clear hK K
              refine wpAnyL_one (i := 9) rfl (by kernel_rfl) (by kernel_rfl) (fun K hK => ?_)
              go_simp
              refine (placeOf_calls (some ⟨bo, oo, none⟩) aC k j cO cC R v iv cv w10 (HS.out.below HB10W.out (Nat.le_refl _)) (HC.out.below HB10W.out (Nat.le_refl _)) HIV.out HVC.out HRR.out.scc.nd (by omega)).mono ?_
              rintro e w11 ⟨rfl, hb11⟩
              have HB11 : Hid (Below w9.heap.size w9 w11) := Lib.hid (HB10.out.trans (hb11.mono HB10.out.size))
              clear hb11 hHeld
              have hHeld : (fun w' : World => w'.cell? ⟨wp.heap.size, 0, none⟩ = some (.int .i64 u) ∧ w'.cell? ⟨wp.heap.size, 1, none⟩ = some (.int .i64 v)) w11 := HX9.out _ HB11.out
              refine hK.out _ _ (.inr hHeld) ?_
              clear hK K
              refine wpAnyL_take (i := 10) (v := ?_) rfl (by kernel_rfl) (by kernel_rfl) (by kernel_rfl) (by kernel_rfl) (fun _ _ _ h => h) (by kernel_rfl) ?_ hHeld ?_
              rotate_left
              · intro w hSw; obtain ⟨hs0, hs1⟩ := hSw; go_simp; all_goals with_reducible rfl
              simp only [Act.put]
              refine wpAnyL_one (i := 11) rfl (by kernel_rfl) (by kernel_rfl) (fun K hK => ?_)
              go_simp
              refine hK.out _ _ (.inr hHeld) ?_
              clear hK K
              refine wpAnyL_done (by kernel_rfl) ?_ _
              clear hHeld
              have HBF : Hid (Below w8.heap.size w8 w11) := Lib.hid (HBP.out.trans ((HB9.out.trans (HB11.out.mono (Nat.le_of_lt hs9))).mono hszp))
              have hgt : ¬ (iv : Int) < (iu : Int) := by omega
              have hgt2 : decide (iv < iu) = false := by simp; omega
              by_cases heq : iu = iv
              · have g1 : w11.cell? ⟨bo, oo + iu * 2, none⟩ = some (.bool true) := by
                  have h := HG1.out
                  rw [HCY.out heq] at h
                  exact ((HB9.out.trans (HB11.out.mono (Nat.le_of_lt hs9))).cell (p := ⟨bo, oo + iu * 2, none⟩) hbo2).trans h
                have hq1 : ((iu : Int) == (iv : Int)) = true := by simp [heq]
                have hbo3 : iu < k := by omega
                have HEQ := Lib.hid heq
                clear heq
                go_wp2_with fail
                go_roundw
                case rel => exact ⟨x + 1, by omega, by go_num, HBF.out⟩
                case measure => simp [intOf]; omega
              · have hq1 : ((iu : Int) == (iv : Int)) = false := by rw [beq_eq_false_iff_ne]; omega
                have hq2 : (iu == iv) = false := by rw [beq_eq_false_iff_ne]; exact heq
                go_wp2_with fail
                go_roundw
                case rel => exact ⟨x + 1, by omega, by go_num, HBF.out⟩
                case measure => simp [intOf]; omega
            · clear hb
              go_wp2_with fail
              go_ret
              exact ⟨rfl, HBPW.out⟩
end Go.Proofs.YtnfkbjgijelfdaaGreat
