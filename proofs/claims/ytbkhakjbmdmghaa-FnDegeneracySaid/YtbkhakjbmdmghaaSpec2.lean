/- The walk of the reference's sortInts. -/
import Derived.Test.YtbkhakjbmdmghaaSpec1
import Derived.Test.YtbkhakjbmdmghaaFull
import Derived.Test.YtbkhakjbmdmghaaIterd
import Derived.Test.YtbkhakjbmdmghaaLolG
import Derived.Deep.RegionLaw
import Derived.Deep.RegionHeld3
namespace Go.Proofs.Ytbkhakjbmdmghaa
open Go.RowKit

set_option maxHeartbeats 4000000 in
set_option maxRecDepth 100000 in
theorem sortInts_calls (a : Option Addr) (n cap : Nat) (zs : List Int) (w : World) (hr : RdI w a n zs) (hn : n ≤ 1000) :
    Calls Try.prog 32 #[.slice a n cap] w fun e w' => ∃ v, e = .returned v ∧ w'.ownsRow w.heap.size 3 1 v n ((sortI zs).map (Value.int .i64)) ∧ Below w.heap.size w w' := by
  have HR := Lib.hid hr; clear hr
  obtain ⟨i0, hi0, hz0, hz1, hz2⟩ := info_parts int_info
  have HI := Lib.hid (And.intro hi0 (And.intro hz0 (And.intro hz1 hz2)))
  clear hi0 hz0 hz1 hz2
  go_enter Try.func32, Try.ntmps32
  go_wp2
  go_loopw [3, 9] (fun v i wr => ∃ t : Nat, t ≤ n ∧ i = .int .i64 t ∧ Hid (t = 0 → v = .slice none 0 0) ∧ wr.ownsRow w.heap.size 3 1 v t ((sortI (zs.take t)).map (Value.int .i64)) ∧ Below w.heap.size w wr) (fun _ i _ => n - (intOf i).toNat)
  case atStart => exact ⟨0, by omega, rfl, Lib.hid (fun _ => rfl), by rw [List.take_zero, sortI_nil]; exact World.ownsRow_nil _ _ _ _, Below.refl _ _⟩
  case round =>
    obtain ⟨t, ht, rfl, h0, ho, hb⟩ := hrel
    obtain ⟨a1, c1, rfl⟩ := own_shape' ho
    have HO := Lib.hid ho; have HB := Lib.hid hb
    have hsz := hb.size
    clear hb
    by_cases hlt : t < n
    · obtain ⟨b, off, rfl, hb, hc⟩ := HR.out.at_ (by omega)
      obtain ⟨x, HX, hck0⟩ := hc t hlt
      have hck := (HB.out.cell (p := ⟨b, off + t, none⟩) hb).trans hck0
      have hbr : b < wr.heap.size := by omega
      obtain ⟨S, hS⟩ : ∃ S, S = sortI (zs.take t) := ⟨_, rfl⟩
      have hSl : S.length = t := by rw [hS, sortI_len, List.length_take]; have := HR.out.len; omega
      have htk : zs.take (t + 1) = zs.take t ++ [x] := by
        have hzl : t < zs.length := by have := HR.out.len; omega
        have e1 : zs[t] = x := by have := HX.out; simpa [List.getD, hzl] using this
        rw [List.take_succ_eq_append_getElem hzl, e1]
      have HINS : Hid (∀ k, k ≤ t → (∀ j, k ≤ j → j < t → x < S.getD j 0) → (k = 0 ∨ S.getD (k - 1) 0 ≤ x) → S.take k ++ x :: S.drop k = sortI (zs.take (t + 1))) := by
        intro k hk h1 h2
        rw [htk, hS]
        rw [hS] at h1 h2 hSl
        exact sortI_ins (by omega) (fun j h3 h4 => Int.le_of_lt (h1 j h3 (by omega))) h2
      have HSL := Lib.hid hSl
      rw [← hS] at HO
      clear hc hck0 htk hS ho hSl
      go_wp2_with fail
      go_loopw [6] (fun i wr2 => ∃ k : Nat, k ≤ t ∧ i = .int .i64 k ∧ Hid (∀ j, k ≤ j → j < t → x < S.getD j 0) ∧ wr2 = wr) (fun i _ => (intOf i).toNat)
      case atStart => exact ⟨t, by omega, rfl, Lib.hid (fun j h1 h2 => by omega), rfl⟩
      case round =>
        obtain ⟨k, hk, rfl, HK, rfl⟩ := hrel
        by_cases ht0 : t = 0
        · subst ht0
          have e0 := h0.out rfl
          simp only [Value.slice.injEq] at e0
          obtain ⟨rfl, -, rfl⟩ := e0
          obtain rfl : k = 0 := by omega
          have hSe : Hid ([x] = sortI (zs.take (0 + 1))) := by
            have h := HINS.out 0 (Nat.le_refl _) (fun j h1 h2 => by omega) (.inl rfl)
            have e1 : S = [] := List.eq_nil_of_length_eq_zero HSL.out
            rw [e1] at h
            exact h
          obtain ⟨hi0, hz0, hz1, hz2⟩ := HI.out
          go_wp2_with fail
          go_region_law (first
            | (refine step_append_none _ (by rfl) _ _ _ (by rfl) 3 i0 Try.underlying22 hi0 ⟨wr.heap.size, 0, none⟩ 1 1 (by rfl) (Nat.le_refl _) (by rfl) ?_)
            | (refine step_append_full _ (by rfl) _ _ _ (by rfl) 3 i0 (.int .i64 0) 8 Try.underlying22 hi0 hz0 hz1 hz2 rfl none 0 [] (by rfl) rfl (.inl rfl) ⟨wr.heap.size, 0, none⟩ 1 1 [.int .i64 x] (by rfl) rfl (World.news_of_block (cs := #[.int .i64 x]) (t := 3) (fr := (0, 0)) (heap_alloc_new wr _)) (by intro u hu; simp at hu; subst hu; rfl) (by omega) (by omega) (by omega) (wr.heap.size + 1) (by simp) ?_; intro cap3 w3 hown3 hb3))
          all_goals
            have HO3 := Lib.hid hown3
            have HB3 : Hid (Below w.heap.size w w3) := (HB.out.alloc (by omega) _).trans ((below_drewN (Below.refl _ _) 1).trans (hb3.mono (by omega)))
            clear hown3 hb3
            go_wp2
            go_roundw
            case rel => exact ⟨1, by omega, by go_num, Lib.hid (fun h => by omega), by rw [← hSe.out]; exact own_lower HO3.out (by omega), HB3.out⟩
            case measure => simp [intOf]; omega
        · obtain ⟨g, c, e, hg0, hg1, -⟩ := own_form HO.out (by omega)
          simp only [Value.slice.injEq, true_and] at e
          obtain ⟨rfl, rfl⟩ := e
          have htc : t ≤ c1 := by
            rcases HO.out.2 with ⟨e, _⟩ | ⟨g', cap', cur', e, _, _, h3, _⟩
            · cases e
            · simp only [Value.slice.injEq] at e; omega
          have hkc : k ≤ c1 := by omega
          obtain ⟨ad, had⟩ : ∃ ad : Addr, (if c1 = k then some (⟨g, 0, none⟩ : Addr) else some ⟨g, k, none⟩) = some ad := by
            by_cases e : c1 = k
            · exact ⟨_, by rw [if_pos e]⟩
            · exact ⟨_, by rw [if_neg e]⟩
          have HSRC : Hid (∀ (j : Nat) (u : Value), ((S.drop k).map (Value.int .i64))[j]? = some u → ((wr.alloc (.cells #[.int .i64 x] 3)).drew).cell? (ad.add j) = some u) := Lib.hid (by
            intro j u hj
            have hjl := (List.getElem?_eq_some_iff.1 hj).1
            rw [List.length_map, List.length_drop, HSL.out] at hjl
            have hne : ¬ c1 = k := by omega
            rw [if_neg hne] at had
            obtain rfl := Option.some.inj had
            have hadd : (⟨g, k, none⟩ : Addr).add j = ⟨g, k + j, none⟩ := by unfold Addr.add; split <;> simp_all
            rw [hadd]
            have h1 : (S.map (Value.int .i64))[k + j]? = some u := by
              rw [← hj, List.getElem?_map, List.getElem?_map, List.getElem?_drop]
            have h2 := (own_at HO.out h1).1
            rw [← h2]
            exact ((Below.refl wr.heap.size wr).alloc (Nat.le_refl _) _).cell (p := ⟨g, k + j, none⟩) hg1)
          have HOWN : Hid (((wr.alloc (.cells #[.int .i64 x] 3)).drew).ownsRow wr.heap.size 3 1 (.slice (some ⟨wr.heap.size, 0, none⟩) 1 1) 1 [.int .i64 x]) :=
            Lib.hid ⟨rfl, .inr ⟨wr.heap.size, 1, _, rfl, Nat.le_refl _, heap_alloc_new wr _, Nat.le_refl _, by unfold maxLen; omega, rfl, rfl⟩⟩
          have HOLD : Hid (∀ W, Below wr.heap.size wr W → ∀ (j : Nat) (u : Value), ((S.take k).map (Value.int .i64))[j]? = some u → W.cell? ((⟨g, 0, none⟩ : Addr).add j) = some u) := Lib.hid (by
            intro W hbW j u hj
            have hjl := (List.getElem?_eq_some_iff.1 hj).1
            rw [List.length_map, List.length_take, HSL.out] at hjl
            have hadd : (⟨g, 0, none⟩ : Addr).add j = ⟨g, j, none⟩ := by unfold Addr.add; split <;> simp_all
            rw [hadd]
            have h1 : (S.map (Value.int .i64))[j]? = some u := by
              rw [← hj, List.getElem?_map, List.getElem?_map, List.getElem?_take_of_lt (by omega)]
            have h2 := (own_at HO.out h1).1
            rw [← h2]
            exact hbW.cell (p := ⟨g, j, none⟩) hg1)
          have hkt : k + (1 + (t - k)) = t + 1 := by omega
          have HKT := Lib.hid hkt
          have hld : ((S.drop k).map (Value.int .i64)).length = t - k := by rw [List.length_map, List.length_drop, HSL.out]
          have HLD := Lib.hid hld
          have hlk : ((S.take k).map (Value.int .i64)).length = k := by rw [List.length_map, List.length_take, HSL.out]; omega
          have HLK := Lib.hid hlk
          have HAD := Lib.hid had
          have hsmall : k + (1 + (t - k)) ≤ 1000000 := by omega
          have hsmall2 : 1 + (t - k) ≤ 1000000 := by omega
          have hpos : 0 < 1 + (t - k) := by omega
          have hb1 : Below wr.heap.size wr ((wr.alloc (.cells #[.int .i64 x] 3)).drew) := (below_drewN ((Below.refl wr.heap.size wr).alloc (Nat.le_refl _) _) 1)
          have HB1 := Lib.hid hb1
          have HONE : Hid (∀ u ∈ [Value.int .i64 x] ++ (S.drop k).map (Value.int .i64), u.oneCell' = true) := Lib.hid (by
            intro u hu
            rcases List.mem_append.1 hu with h | h
            · rw [List.mem_singleton.1 h]; rfl
            · obtain ⟨z, -, rfl⟩ := List.mem_map.1 h; rfl)
          obtain ⟨hi0, hz0, hz1, hz2⟩ := HI.out
          clear hkt hld hlk had hb1
          have key : (k = 0 ∧ Hid (k = 0 ∨ S.getD (k - 1) 0 ≤ x)) ∨ (0 < k ∧ ∃ y, S.getD (k - 1) 0 = y ∧ x < y) ∨ (0 < k ∧ ∃ y, S.getD (k - 1) 0 = y ∧ ¬ x < y ∧ Hid (k = 0 ∨ S.getD (k - 1) 0 ≤ x)) := by
            by_cases h1 : k = 0
            · exact .inl ⟨h1, Lib.hid (.inl h1)⟩
            · by_cases h2 : x < S.getD (k - 1) 0
              · exact .inr (.inl ⟨by omega, _, rfl, h2⟩)
              · exact .inr (.inr ⟨by omega, _, rfl, h2, Lib.hid (.inr (by omega))⟩)
          rcases key with ⟨hk0, HC⟩ | ⟨hkp, y, hy, hxy⟩ | ⟨hkp, y, hy, hxy, HC⟩
          · have hkn : ¬ (0 : Int) < (k : Int) := by omega
            clear hk0
            go_wp2_with fail
            go_region_law (first
              | (refine step_append_any _ (by rfl) _ _ _ (by rfl) wr.heap.size 3 i0 (.int .i64 0) 8 Try.underlying22 hi0 hz0 hz1 hz2 rfl (.slice (some ⟨wr.heap.size, 0, none⟩) 1 1) 1 [.int .i64 x] (by rfl) HOWN.out (by omega) ad (t - k) (c1 - k) ((S.drop k).map (Value.int .i64)) (by exact congrArg (fun z => Value.slice z (t - k) (c1 - k)) HAD.out) HLD.out HSRC.out (by intro u hu; obtain ⟨z, -, rfl⟩ := List.mem_map.1 hu; rfl) hsmall2 (by omega) (by simp) ?_; intro g2 cap2 w2 hown2 hb2 hg2 hg2')
              | (refine step_append_full _ (by rfl) _ _ _ (by rfl) 3 i0 (.int .i64 0) 8 Try.underlying22 hi0 hz0 hz1 hz2 rfl (some ⟨g, 0, none⟩) k ((S.take k).map (Value.int .i64)) (by rfl) HLK.out (.inr ⟨_, rfl, HOLD.out _ (HB1.out.trans hb2)⟩) ⟨g2, 0, none⟩ (1 + (t - k)) cap2 ([.int .i64 x] ++ (S.drop k).map (Value.int .i64)) (by rfl) (by rw [List.length_append, HLD.out]; rfl) (hown2.cells rfl) HONE.out hpos hsmall (by omega) w2.heap.size (by simp) ?_; intro cap3 w3 hown3 hb3; rw [HKT.out] at hown3 ⊢))
            all_goals
              have HO3 : Hid (w3.ownsRow w.heap.size 3 1 (.slice (some ⟨w2.heap.size, 0, none⟩) (t + 1) cap3) (t + 1) ((sortI (zs.take (t + 1))).map (Value.int .i64))) := by
                rw [← HINS.out k hk HK.out HC.out]
                have h := own_lower hown3 (B' := w.heap.size) (by have := (HB1.out.trans hb2).size; omega)
                rw [List.map_append, List.map_cons]
                exact h
              have HB3 : Hid (Below w.heap.size w w3) := (HB.out.trans ((HB1.out.trans hb2).mono hsz)).trans (hb3.mono (by have := (HB1.out.trans hb2).size; omega))
              clear hown3 hb3 hown2 hb2
              go_wp2
              go_roundw
              case rel => exact ⟨t + 1, by omega, by go_num, Lib.hid (fun h => by omega), HO3.out, HB3.out⟩
              case measure => simp [intOf]; omega
          · have hcy : wr.cell? ⟨g, k - 1, none⟩ = some (.int .i64 y) := (own_at HO.out (i := k - 1) (u := .int .i64 y) (by
              have h1 : k - 1 < S.length := by have := HSL.out; omega
              rw [← hy]; simp [List.getD, h1])).1
            have HY := Lib.hid hy
            have w1 : IntKind.i64.wrap ((k : Int) - 1) = ((k - 1 : Nat) : Int) := by rw [IntWalk.i64_in _ (by omega)]; omega
            have hkp' : (0 : Int) < (k : Int) := by omega
            clear hy
            go_wp2_with fail
            go_roundw
            case rel => exact ⟨k - 1, by omega, rfl, Lib.hid (fun j h1 h2 => by
              by_cases e : j = k - 1
              · rw [e, HY.out]; exact hxy
              · exact HK.out j (by omega) h2), by first | rfl | trivial⟩
            case measure => simp [intOf]; omega
          · have hcy : wr.cell? ⟨g, k - 1, none⟩ = some (.int .i64 y) := (own_at HO.out (i := k - 1) (u := .int .i64 y) (by
              have h1 : k - 1 < S.length := by have := HSL.out; omega
              rw [← hy]; simp [List.getD, h1])).1
            have w1 : IntKind.i64.wrap ((k : Int) - 1) = ((k - 1 : Nat) : Int) := by rw [IntWalk.i64_in _ (by omega)]; omega
            have hkp' : (0 : Int) < (k : Int) := by omega
            clear hy
            go_wp2_with fail
            go_region_law (first
              | (refine step_append_any _ (by rfl) _ _ _ (by rfl) wr.heap.size 3 i0 (.int .i64 0) 8 Try.underlying22 hi0 hz0 hz1 hz2 rfl (.slice (some ⟨wr.heap.size, 0, none⟩) 1 1) 1 [.int .i64 x] (by rfl) HOWN.out (by omega) ad (t - k) (c1 - k) ((S.drop k).map (Value.int .i64)) (by exact congrArg (fun z => Value.slice z (t - k) (c1 - k)) HAD.out) HLD.out HSRC.out (by intro u hu; obtain ⟨z, -, rfl⟩ := List.mem_map.1 hu; rfl) hsmall2 (by omega) (by simp) ?_; intro g2 cap2 w2 hown2 hb2 hg2 hg2')
              | (refine step_append_full _ (by rfl) _ _ _ (by rfl) 3 i0 (.int .i64 0) 8 Try.underlying22 hi0 hz0 hz1 hz2 rfl (some ⟨g, 0, none⟩) k ((S.take k).map (Value.int .i64)) (by rfl) HLK.out (.inr ⟨_, rfl, HOLD.out _ (HB1.out.trans hb2)⟩) ⟨g2, 0, none⟩ (1 + (t - k)) cap2 ([.int .i64 x] ++ (S.drop k).map (Value.int .i64)) (by rfl) (by rw [List.length_append, HLD.out]; rfl) (hown2.cells rfl) HONE.out hpos hsmall (by omega) w2.heap.size (by simp) ?_; intro cap3 w3 hown3 hb3; rw [HKT.out] at hown3 ⊢))
            all_goals
              have HO3 : Hid (w3.ownsRow w.heap.size 3 1 (.slice (some ⟨w2.heap.size, 0, none⟩) (t + 1) cap3) (t + 1) ((sortI (zs.take (t + 1))).map (Value.int .i64))) := by
                rw [← HINS.out k hk HK.out HC.out]
                have h := own_lower hown3 (B' := w.heap.size) (by have := (HB1.out.trans hb2).size; omega)
                rw [List.map_append, List.map_cons]
                exact h
              have HB3 : Hid (Below w.heap.size w w3) := (HB.out.trans ((HB1.out.trans hb2).mono hsz)).trans (hb3.mono (by have := (HB1.out.trans hb2).size; omega))
              clear hown3 hb3 hown2 hb2
              go_wp2
              go_roundw
              case rel => exact ⟨t + 1, by omega, by go_num, Lib.hid (fun h => by omega), HO3.out, HB3.out⟩
              case measure => simp [intOf]; omega
    · obtain rfl : t = n := by omega
      have hv : Hid (wr.ownsRow w.heap.size 3 1 (.slice a1 t c1) t ((sortI zs).map (Value.int .i64))) := by
        have h := HO.out
        rw [List.take_of_length_le (by have := HR.out.len; omega)] at h
        exact h
      clear ho
      go_wp2
      go_ret
      exact ⟨_, rfl, hv.out, HB.out⟩
end Go.Proofs.Ytbkhakjbmdmghaa
