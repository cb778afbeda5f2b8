/- Places that are read. The walk of slices.Equal at places, where both say the same. The walks of the reference's lessInts and sortLists. The walks of the reference's SCC, Cyclic and Acyclic. The walk of the reference's sameSets, where both lists hold the same sets. -/
import Derived.Test.YtnfkbjgijelfdaaGreatSortI
import Derived.Test.YtnfkbjgijelfdaaGreatSameG
import Derived.Test.YtnfkbjgijelfdaaGreatSpec1
import Derived.Test.YtnfkbjgijelfdaaGreatSortLL
import Derived.Test.YtnfkbjgijelfdaaGreatOrdP
namespace Go.Proofs.YtnfkbjgijelfdaaGreat
open Go.RowKit

/-- Places that are read. -/
structure RdS (w : World) (a : Option Addr) (n : Nat) (os : List (Option Int)) : Prop where
  len : os.length = n
  at_ : 0 < n → ∃ b off, a = some ⟨b, off, none⟩ ∧ b < w.heap.size ∧ ∀ j, j < n → ∃ o, Hid (os[j]? = some o) ∧ w.cell? ⟨b, off + j * 2, none⟩ = some (.bool o.isNone) ∧ w.cell? ⟨b, off + j * 2 + 1, none⟩ = some (.int .i64 (o.getD 0))
theorem RdS.below {w w' : World} {a : Option Addr} {n : Nat} {os : List (Option Int)} {B : Nat} (h : RdS w a n os) (hb : Below B w w') (hB : w.heap.size ≤ B) : RdS w' a n os :=
  ⟨h.len, fun h0 => by
    obtain ⟨b, off, e, hb', hc⟩ := h.at_ h0
    exact ⟨b, off, e, Nat.lt_of_lt_of_le hb' hb.size, fun j hj => by
      obtain ⟨o, h1, h2, h3⟩ := hc j hj
      exact ⟨o, h1, (hb.cell (p := ⟨b, off + j * 2, none⟩) (by show b < B; omega)).trans h2, (hb.cell (p := ⟨b, off + j * 2 + 1, none⟩) (by show b < B; omega)).trans h3⟩⟩⟩
theorem flatS_get (os : List (Option Int)) : ∀ (j : Nat) (o : Option Int), os[j]? = some o → (flatS os)[j * 2]? = some (.bool o.isNone) ∧ (flatS os)[j * 2 + 1]? = some (.int .i64 (o.getD 0)) := by
  induction os with
  | nil => intro j e h; simp at h
  | cons a l ih =>
    intro j e h
    have e0 : flatS (a :: l) = .bool a.isNone :: .int .i64 (a.getD 0) :: flatS l := rfl
    rw [e0]
    cases j with
    | zero => simp at h; subst h; simp
    | succ j =>
      have := ih j e (by simpa using h)
      rw [show (j + 1) * 2 = j * 2 + 2 from by omega]
      simpa using this
theorem rdS_of_own {w : World} {B : Nat} {a : Option Addr} {n c : Nat} {os : List (Option Int)} (h : w.ownsRow B 45 2 (.slice a n c) n (flatS os)) : RdS w a n os := by
  have hlen : os.length = n := by
    have h1 := h.1
    rw [flatS_len] at h1
    omega
  rcases h.2 with ⟨e1, h1⟩ | ⟨g, cap, cur, e1, hb, hg, h3, h4, h5, h6⟩
  · exact ⟨hlen, by omega⟩
  · simp only [Value.slice.injEq] at e1
    obtain ⟨rfl, -, rfl⟩ := e1
    refine ⟨hlen, fun h0 => ⟨g, 0, rfl, (Array.getElem?_eq_some_iff.1 hg).1, fun j hj => ?_⟩⟩
    obtain ⟨e, he⟩ : ∃ e, os[j]? = some e := ⟨os[j]'(by omega), by simp⟩
    obtain ⟨g0, g1⟩ := flatS_get os j e he
    have key : ∀ i, i < n * 2 → w.cell? ⟨g, i, none⟩ = (flatS os)[i]? := fun i hi => by
      rw [cell_of_row w g i cur _ (0, 0) hg, ← h6, List.getElem?_take_of_lt hi, ← Array.getElem?_toList]
    exact ⟨e, he, by rw [Nat.zero_add, key _ (by omega), g0], by rw [Nat.zero_add, key _ (by omega), g1]⟩
end Go.Proofs.YtnfkbjgijelfdaaGreat
namespace Go.Proofs.YtnfkbjgijelfdaaGreat
open Go.RowKit

set_option maxHeartbeats 4000000 in
theorem equalS_calls (a a' : Option Addr) (n c c' : Nat) (os : List (Option Int)) (w : World) (h : RdS w a n os) (h' : RdS w a' n os) (hs : n ≤ 1000000) :
    Calls Tryz.prog 21 #[.slice a n c, .slice a' n c'] w fun e w' => e = .returned (.bool true) ∧ ∃ q, w' = w.drewN q := by
  have H := Lib.hid h; have H' := Lib.hid h'
  clear h h'
  go_enter Tryz.func21, Tryz.ntmps21
  go_wp2_with fail
  go_loopw [13] (fun i wr => ∃ (k q : Nat), k ≤ n ∧ i = .int .i64 k ∧ wr = w.drewN q) (fun i _ => n - (intOf i).toNat)
  case atStart => exact ⟨0, 0, by omega, rfl, rfl⟩
  case round =>
    obtain ⟨k, q, hk, rfl, rfl⟩ := hrel
    by_cases hlt : k < n
    · obtain ⟨b, off, rfl, hb, hc⟩ := H.out.at_ (by omega)
      obtain ⟨b', off', rfl, hb', hc'⟩ := H'.out.at_ (by omega)
      obtain ⟨o, HZ, e0, e1⟩ := hc k hlt
      obtain ⟨o', HZ', d0, d1⟩ := hc' k hlt
      obtain rfl := Option.some.inj (HZ.out.symm.trans HZ'.out)
      obtain ⟨bt, hbt⟩ : ∃ bt, bt = o.isNone := ⟨_, rfl⟩
      obtain ⟨z, hz⟩ : ∃ z, z = o.getD 0 := ⟨_, rfl⟩
      rw [← hbt] at e0 d0
      rw [← hz] at e1 d1
      clear hc hc' hbt hz
      cases bt
      all_goals
        go_wp2_with fail
        go_quiet (fail)
        go_wp2
        go_roundw
        case rel => exact ⟨k + 1, _, by omega, by go_num, rfl⟩
        case measure => simp [intOf]; omega
    · go_wp2
      go_ret
      exact ⟨rfl, q, rfl⟩
end Go.Proofs.YtnfkbjgijelfdaaGreat
namespace Go.Proofs.YtnfkbjgijelfdaaGreat
open Go.RowKit

set_option maxHeartbeats 2000000 in
theorem lessInts_calls (a b : Option Addr) (n m c d : Nat) (xs ys : List Int) (w : World) (hx : RdI w a n xs) (hy : RdI w b m ys) (hn : n ≤ 1000000) (hm : m ≤ 1000000) :
    Calls Tryz.prog 144 #[.slice a n c, .slice b m d] w fun e w' => e = .returned (.bool (decide (cmpL xs ys < 0))) ∧ w' = w := by
  have HX := Lib.hid hx; have HY := Lib.hid hy
  have HXL := Lib.hid hx.len; have HYL := Lib.hid hy.len
  clear hx hy
  go_enter Tryz.func144, Tryz.ntmps144
  go_wp2
  go_loop [9] (fun i => ∃ k : Nat, k ≤ n ∧ k ≤ m ∧ i = .int .i64 k ∧ Hid (cmpL (xs.drop k) (ys.drop k) = cmpL xs ys)) (fun i => n - (intOf i).toNat)
  case atStart => exact ⟨0, by omega, by omega, rfl, by simp [Hid]⟩
  case round =>
    obtain ⟨k, hkn, hkm, rfl, HC⟩ := hrel
    by_cases hlt : k < n
    · obtain ⟨bx, ox, x, rfl, hxk, hbx, hxc⟩ := rdi_get HX.out hlt
      by_cases hlt2 : k < m
      · obtain ⟨by_, oy, y, rfl, hyk, hby, hyc⟩ := rdi_get HY.out hlt2
        have hc := HC.out
        rw [cmpL_at xs ys k (by have := HXL.out; omega) (by have := HYL.out; omega), (List.getElem?_eq_some_iff.1 hxk).2, (List.getElem?_eq_some_iff.1 hyk).2] at hc
        have hkm1 : ((k : Int) == (m : Int)) = false := by rw [beq_eq_false_iff_ne]; omega
        have hkm2 : (k == m) = false := by rw [beq_eq_false_iff_ne]; omega
        have hkm3 : ¬ k = m := by omega
        by_cases hxy : x = y
        · subst hxy
          rw [if_neg (by omega), if_neg (by omega)] at hc
          have HC3 := Lib.hid hc
          clear hc HC hxk hyk
          go_wp2
          go_round
          case rel => exact ⟨k + 1, by omega, by omega, by go_num, HC3⟩
          case measure => simp [intOf]; omega
        · have hd : Hid (decide (cmpL xs ys < 0) = decide (x < y)) := by
            rw [← hc]
            by_cases h1 : x < y
            · rw [if_pos h1]; simp [Hid, h1]
            · rw [if_neg h1, if_pos (by omega)]; simp [Hid, h1]
          have hxy2 : (x != y) = true := by simp [hxy]
          have hxy3 : (x == y) = false := by simp [hxy]
          have hmk : decide (k < m) = true := by simp [hlt2]
          clear hc HC hxk hyk
          go_wp2
          all_goals
            go_ret
            exact ⟨ret_bool hd.out.symm, by first | rfl | trivial⟩
      · have hd : Hid (decide (cmpL xs ys < 0) = false) := by
          have h := cmpL_end xs ys k (.inr (by have := HYL.out; omega)) (by have := HXL.out; omega) (by have := HYL.out; omega)
          rw [HC.out, HXL.out, HYL.out] at h
          rw [h]; exact decide_eq_false (by omega)
        obtain rfl : k = m := by omega
        have hmk : decide (k < k) = false := by simp
        have hkm1 : ((k : Int) == (k : Int)) = true := by simp
        clear HC hxk
        go_wp2
        all_goals
          go_ret
          exact ⟨ret_bool hd.out.symm, by first | rfl | trivial⟩
    · have hd : Hid (decide (cmpL xs ys < 0) = decide (n < m)) := by
        have h := cmpL_end xs ys k (.inl (by have := HXL.out; omega)) (by have := HXL.out; omega) (by have := HYL.out; omega)
        rw [HC.out, HXL.out, HYL.out] at h
        exact h
      clear HC
      go_wp2
      go_ret
      exact ⟨ret_bool (by rw [hd.out]), by first | rfl | trivial⟩

/-- A list of lists that is read, with its slices. -/
theorem RdL.pairs {w : World} {a : Option Addr} {n : Nat} {ls : List (List Int)} (h : RdL w a n ls) : ∃ ps : List (Value × List Int), ps.map (·.2) = ls ∧ RowsP w ps ∧ (0 < n → ∃ b off, a = some ⟨b, off, none⟩ ∧ b < w.heap.size ∧ ∀ j p, ps[j]? = some p → w.cell? ⟨b, off + j, none⟩ = some p.1) := by
  have hlen := h.len
  by_cases h0 : 0 < n
  · obtain ⟨b, off, rfl, hb, hc⟩ := h.at_ h0
    have key : ∀ k, k ≤ n → ∃ ps : List (Value × List Int), ps.map (·.2) = ls.take k ∧ RowsP w ps ∧ ∀ j p, ps[j]? = some p → w.cell? ⟨b, off + j, none⟩ = some p.1 := by
      intro k
      induction k with
      | zero => exact fun _ => ⟨[], by simp, (fun p hp => by cases hp), (fun j p hp => by simp at hp)⟩
      | succ k ih =>
        intro hk
        obtain ⟨ps, h1, h2, h3⟩ := ih (by omega)
        obtain ⟨aj, nj, cj, l, hl, hcell, hr⟩ := hc k (by omega)
        have hpl : ps.length = k := by
          have := congrArg List.length h1
          rw [List.length_map, List.length_take] at this; omega
        refine ⟨ps ++ [(.slice aj nj cj, l)], ?_, fun p hp => ?_, fun j p hp => ?_⟩
        · obtain ⟨q1, q2⟩ := List.getElem?_eq_some_iff.1 hl.out
          rw [List.map_append, h1, List.take_succ_eq_append_getElem q1, q2]; rfl
        · rcases List.mem_append.1 hp with hp | hp
          · exact h2 p hp
          · rw [List.mem_singleton.1 hp]; exact ⟨aj, nj, cj, rfl, hr⟩
        · by_cases hjk : j < k
          · rw [List.getElem?_append_left (by omega)] at hp; exact h3 j p hp
          · have hjl := (List.getElem?_eq_some_iff.1 hp).1
            rw [List.length_append, List.length_singleton] at hjl
            obtain rfl : j = k := by omega
            rw [List.getElem?_append_right (by omega), hpl, Nat.sub_self] at hp
            obtain rfl := Option.some.inj hp
            exact hcell
    obtain ⟨ps, h1, h2, h3⟩ := key n (Nat.le_refl _)
    rw [List.take_of_length_le (by omega)] at h1
    exact ⟨ps, h1, h2, fun _ => ⟨b, off, rfl, hb, h3⟩⟩
  · have e : ls = [] := List.eq_nil_of_length_eq_zero (by omega)
    exact ⟨[], by rw [e]; rfl, (fun p hp => by cases hp), fun h => absurd h h0⟩

/-- An element put into its place. -/
theorem insG_pw {α : Type} {le : α → α → Prop} (ht : ∀ a b c, le a b → le b c → le a c) {S : List α} (hS : S.Pairwise le) {x : α} {k : Nat} (hk : k ≤ S.length) (h1 : ∀ j y, k ≤ j → S[j]? = some y → le x y) (h2 : k = 0 ∨ ∃ y, S[k - 1]? = some y ∧ le y x) : (S.take k ++ x :: S.drop k).Pairwise le := by
  have e : S.take k ++ S.drop k = S := List.take_append_drop k S
  have hS' := hS
  rw [← e, List.pairwise_append] at hS'
  rw [List.pairwise_append, List.pairwise_cons]
  have hd : ∀ y ∈ S.drop k, le x y := fun y hy => by
    obtain ⟨i, hi⟩ := List.getElem?_of_mem hy
    rw [List.getElem?_drop] at hi
    exact h1 (k + i) y (by omega) hi
  refine ⟨hS'.1, ⟨hd, hS'.2.1⟩, fun a ha b hb => ?_⟩
  rcases List.mem_cons.1 hb with rfl | hb
  · rcases h2 with h2 | ⟨y, hy, hyx⟩
    · subst h2; simp at ha
    · obtain ⟨i, hi⟩ := List.getElem?_of_mem ha
      have hil : i < k := by
        have := (List.getElem?_eq_some_iff.1 hi).1
        rw [List.length_take] at this; omega
      rw [List.getElem?_take_of_lt hil] at hi
      by_cases e2 : i = k - 1
      · subst e2
        obtain rfl := Option.some.inj (hi.symm.trans hy)
        exact hyx
      · rw [List.pairwise_iff_getElem] at hS
        obtain ⟨q1, rfl⟩ := List.getElem?_eq_some_iff.1 hi
        obtain ⟨q2, rfl⟩ := List.getElem?_eq_some_iff.1 hy
        exact ht _ _ _ (hS i (k - 1) q1 q2 (by omega)) hyx
  · exact hS'.2.2 a ha b hb
theorem insG_perm {α : Type} {S T : List α} {x : α} {k : Nat} (h : S.Perm T) : (S.take k ++ x :: S.drop k).Perm (T ++ [x]) := by
  have e : S.take k ++ S.drop k = S := List.take_append_drop k S
  refine (List.perm_middle).trans ?_
  rw [e]
  exact (List.Perm.cons x h).trans (List.perm_append_comm (l₁ := [x]) (l₂ := T))

set_option maxHeartbeats 8000000 in
set_option maxRecDepth 100000 in
theorem sortLists_calls (a : Option Addr) (n cap : Nat) (ls : List (List Int)) (w : World) (hr : RdL w a n ls) (hn : n ≤ 1000) (hm : ∀ l ∈ ls, l.length ≤ 1000000) :
    Calls Tryz.prog 94 #[.slice a n cap] w (SortLLPost ls w) := by
  obtain ⟨zs, hzs, hrp, hat⟩ := hr.pairs
  have hzl : zs.length = n := by have := congrArg List.length hzs; rw [List.length_map] at this; have := hr.len; omega
  have HZS := Lib.hid hzs; have HRP := Lib.hid hrp; have HAT := Lib.hid hat; have HZL := Lib.hid hzl
  have HM : Hid (∀ p ∈ zs, p.2.length ≤ 1000000) := Lib.hid (fun p hp => hm _ (by rw [← hzs]; exact List.mem_map_of_mem hp))
  have HOC : Hid (∀ p ∈ zs, p.1.oneCell' = true) := Lib.hid (fun p hp => by obtain ⟨a, m, c, e, -⟩ := hrp p hp; rw [e]; rfl)
  clear hr hzs hrp hat hzl hm
  obtain ⟨i0, hi0, hz0, hz1, hz2⟩ := info_parts intsL_info
  have HI := Lib.hid (And.intro hi0 (And.intro hz0 (And.intro hz1 hz2)))
  clear hi0 hz0 hz1 hz2
  go_enter Tryz.func94, Tryz.ntmps94
  go_wp2
  go_loopw [3, 9] (fun v i wr => ∃ (t : Nat) (S : List (Value × List Int)), t ≤ n ∧ i = .int .i64 t ∧ Hid (t = 0 → v = .slice none 0 0) ∧ wr.ownsRow w.heap.size 22 1 v t (S.map (·.1)) ∧ Hid (S.Perm (zs.take t)) ∧ Hid (S.Pairwise leP) ∧ Below w.heap.size w wr) (fun _ i _ => n - (intOf i).toNat)
  case atStart => exact ⟨0, [], by omega, rfl, Lib.hid (fun _ => rfl), World.ownsRow_nil _ _ _ _, Lib.hid (by simp), Lib.hid List.Pairwise.nil, Below.refl _ _⟩
  case round =>
    obtain ⟨t, S, ht, rfl, h0, ho, HSP, HSW, hb⟩ := hrel
    obtain ⟨a1, c1, rfl⟩ := own_shape' ho
    have HO := Lib.hid ho; have HB := Lib.hid hb
    have hsz := hb.size
    clear hb
    by_cases hlt : t < n
    · obtain ⟨b, off, rfl, hb, hc⟩ := HAT.out (by omega)
      obtain ⟨p, hp⟩ : ∃ p, zs[t]? = some p := ⟨_, List.getElem?_eq_getElem (by have := HZL.out; omega)⟩
      obtain ⟨ax, nx, cx, hpx, hrx⟩ := HRP.out p (List.mem_of_getElem? hp)
      have hck := (HB.out.cell (p := ⟨b, off + t, none⟩) hb).trans (hc t p hp)
      rw [hpx] at hck
      have hbr : b < wr.heap.size := by omega
      have hSl : S.length = t := by rw [HSP.out.length_eq, List.length_take]; have := HZL.out; omega
      have htk : zs.take (t + 1) = zs.take t ++ [p] := by
        obtain ⟨q1, q2⟩ := List.getElem?_eq_some_iff.1 hp
        rw [List.take_succ_eq_append_getElem q1, q2]
      have HINS : Hid (∀ k, k ≤ t → (∀ j y, k ≤ j → S[j]? = some y → leP p y) → (k = 0 ∨ ∃ y, S[k - 1]? = some y ∧ leP y p) → (S.take k ++ p :: S.drop k).Perm (zs.take (t + 1)) ∧ (S.take k ++ p :: S.drop k).Pairwise leP) := Lib.hid (by
        intro k hk h1 h2
        exact ⟨by rw [htk]; exact insG_perm HSP.out, insG_pw (fun a b c => leL_trans a.2 b.2 c.2) HSW.out (by omega) h1 h2⟩)
      have HSM : Hid (∀ y ∈ S, y ∈ zs) := Lib.hid (fun y hy => List.mem_of_mem_take (HSP.out.mem_iff.1 hy))
      have HSL := Lib.hid hSl
      have HPX := Lib.hid hpx; have HRX := Lib.hid hrx
      have hpm := HM.out p (List.mem_of_getElem? hp)
      clear hc htk ho hSl hp hpx hrx
      go_wp2_with fail
      go_loopw [6] (fun i wr2 => ∃ k : Nat, k ≤ t ∧ i = .int .i64 k ∧ Hid (∀ j y, k ≤ j → S[j]? = some y → leP p y) ∧ wr2 = wr) (fun i _ => (intOf i).toNat)
      case atStart => exact ⟨t, by omega, rfl, Lib.hid (fun j y h1 h2 => by have := (List.getElem?_eq_some_iff.1 h2).1; have := HSL.out; omega), rfl⟩
      case round =>
        obtain ⟨k, hk, rfl, HK, rfl⟩ := hrel
        by_cases ht0 : t = 0
        · subst ht0
          have e0 := h0.out rfl
          simp only [Value.slice.injEq] at e0
          obtain ⟨rfl, -, rfl⟩ := e0
          obtain rfl : k = 0 := by omega
          have hSe : Hid ([p].Perm (zs.take (0 + 1)) ∧ [p].Pairwise leP) := Lib.hid (by
            have h := HINS.out 0 (Nat.le_refl _) (fun j y h1 h2 => HK.out j y h1 h2) (.inl rfl)
            have e1 : S = [] := List.eq_nil_of_length_eq_zero HSL.out
            rw [e1] at h
            exact h)
          obtain ⟨hi0, hz0, hz1, hz2⟩ := HI.out
          go_wp2_with fail
          go_region_law (first
            | (refine step_append_none _ (by rfl) _ _ _ (by rfl) 22 i0 Tryz.underlying28 hi0 ⟨wr.heap.size, 0, none⟩ 1 1 (by rfl) (Nat.le_refl _) (by rfl) ?_)
            | (refine step_append_full _ (by rfl) _ _ _ (by rfl) 22 i0 (.slice none 0 0) 24 Tryz.underlying28 hi0 hz0 hz1 hz2 rfl none 0 [] (by rfl) rfl (.inl rfl) ⟨wr.heap.size, 0, none⟩ 1 1 [.slice ax nx cx] (by rfl) rfl (World.news_of_block (cs := #[.slice ax nx cx]) (t := 22) (fr := (0, 0)) (heap_alloc_new wr _)) (by intro u hu; simp at hu; subst hu; rfl) (by omega) (by omega) (by omega) (wr.heap.size + 1) (by simp) ?_; intro cap3 w3 hown3 hb3))
          all_goals
            have HO3 := Lib.hid hown3
            have HB3 : Hid (Below w.heap.size w w3) := (HB.out.alloc (by omega) _).trans ((below_drewN (Below.refl _ _) 1).trans (hb3.mono (by omega)))
            clear hown3 hb3
            go_wp2
            go_roundw
            case rel => exact ⟨1, [p], by omega, by go_num, Lib.hid (fun h => by omega), by show World.ownsRow _ _ _ _ _ _ [p.1]; rw [HPX.out]; exact own_lower HO3.out (by omega), Lib.hid hSe.out.1, Lib.hid hSe.out.2, HB3.out⟩
            case measure => simp [intOf]; omega
        · obtain ⟨g, c, e, hg0, hg1, -⟩ := own_form HO.out (by omega)
          simp only [Value.slice.injEq, true_and] at e
          obtain ⟨rfl, rfl⟩ := e
          have htc : t ≤ c1 := by
            rcases HO.out.2 with ⟨e, _⟩ | ⟨g', cap', cur', e, _, _, h3, _⟩
            · cases e
            · simp only [Value.slice.injEq] at e; omega
          have hkc : k ≤ c1 := by omega
          obtain ⟨ad, had⟩ : ∃ ad : Addr, (if c1 = k then some (⟨g, 0, none⟩ : Addr) else some ⟨g, k, none⟩) = some ad := by
            by_cases e : c1 = k
            · exact ⟨_, by rw [if_pos e]⟩
            · exact ⟨_, by rw [if_neg e]⟩
          have HSRC : Hid (∀ (j : Nat) (u : Value), ((S.drop k).map (·.1))[j]? = some u → ((wr.alloc (.cells #[.slice ax nx cx] 22)).drew).cell? (ad.add j) = some u) := Lib.hid (by
            intro j u hj
            have hjl := (List.getElem?_eq_some_iff.1 hj).1
            rw [List.length_map, List.length_drop, HSL.out] at hjl
            have hne : ¬ c1 = k := by omega
            rw [if_neg hne] at had
            obtain rfl := Option.some.inj had
            have hadd : (⟨g, k, none⟩ : Addr).add j = ⟨g, k + j, none⟩ := by unfold Addr.add; split <;> simp_all
            rw [hadd]
            have h1 : (S.map (·.1))[k + j]? = some u := by
              rw [← hj, List.getElem?_map, List.getElem?_map, List.getElem?_drop]
            have h2 := (own_at HO.out h1).1
            rw [← h2]
            exact ((Below.refl wr.heap.size wr).alloc (Nat.le_refl _) _).cell (p := ⟨g, k + j, none⟩) hg1)
          have HOWN : Hid (((wr.alloc (.cells #[.slice ax nx cx] 22)).drew).ownsRow wr.heap.size 22 1 (.slice (some ⟨wr.heap.size, 0, none⟩) 1 1) 1 [.slice ax nx cx]) :=
            Lib.hid ⟨rfl, .inr ⟨wr.heap.size, 1, _, rfl, Nat.le_refl _, heap_alloc_new wr _, Nat.le_refl _, by unfold maxLen; omega, rfl, rfl⟩⟩
          have HOLD : Hid (∀ W, Below wr.heap.size wr W → ∀ (j : Nat) (u : Value), ((S.take k).map (·.1))[j]? = some u → W.cell? ((⟨g, 0, none⟩ : Addr).add j) = some u) := Lib.hid (by
            intro W hbW j u hj
            have hjl := (List.getElem?_eq_some_iff.1 hj).1
            rw [List.length_map, List.length_take, HSL.out] at hjl
            have hadd : (⟨g, 0, none⟩ : Addr).add j = ⟨g, j, none⟩ := by unfold Addr.add; split <;> simp_all
            rw [hadd]
            have h1 : (S.map (·.1))[j]? = some u := by
              rw [← hj, List.getElem?_map, List.getElem?_map, List.getElem?_take_of_lt (by omega)]
            have h2 := (own_at HO.out h1).1
            rw [← h2]
            exact hbW.cell (p := ⟨g, j, none⟩) hg1)
          have hkt : k + (1 + (t - k)) = t + 1 := by omega
          have HKT := Lib.hid hkt
          have hld : ((S.drop k).map (·.1)).length = t - k := by rw [List.length_map, List.length_drop, HSL.out]
          have HLD := Lib.hid hld
          have hlk : ((S.take k).map (·.1)).length = k := by rw [List.length_map, List.length_take, HSL.out]; omega
          have HLK := Lib.hid hlk
          have HAD := Lib.hid had
          have hsmall : k + (1 + (t - k)) ≤ 1000000 := by omega
          have hsmall2 : 1 + (t - k) ≤ 1000000 := by omega
          have hpos : 0 < 1 + (t - k) := by omega
          have hb1 : Below wr.heap.size wr ((wr.alloc (.cells #[.slice ax nx cx] 22)).drew) := (below_drewN ((Below.refl wr.heap.size wr).alloc (Nat.le_refl _) _) 1)
          have HB1 := Lib.hid hb1
          have HONED : Hid (∀ u ∈ (S.drop k).map (·.1), u.oneCell' = true) := Lib.hid (by
            intro u hu
            obtain ⟨z, hz, rfl⟩ := List.mem_map.1 hu
            exact HOC.out z (HSM.out z (List.mem_of_mem_drop hz)))
          have HONE : Hid (∀ u ∈ [Value.slice ax nx cx] ++ (S.drop k).map (·.1), u.oneCell' = true) := Lib.hid (by
            intro u hu
            rcases List.mem_append.1 hu with h | h
            · rw [List.mem_singleton.1 h]; rfl
            · exact HONED.out u h)
          obtain ⟨hi0, hz0, hz1, hz2⟩ := HI.out
          clear hkt hld hlk had hb1
          have key : (k = 0 ∧ Hid (k = 0 ∨ ∃ y, S[k - 1]? = some y ∧ leP y p)) ∨ (0 < k ∧ ∃ y, S[k - 1]? = some y ∧ cmpL p.2 y.2 < 0) ∨ (0 < k ∧ ∃ y, S[k - 1]? = some y ∧ ¬ cmpL p.2 y.2 < 0 ∧ Hid (k = 0 ∨ ∃ y, S[k - 1]? = some y ∧ leP y p)) := by
            by_cases h1 : k = 0
            · exact .inl ⟨h1, Lib.hid (.inl h1)⟩
            · have h3 : k - 1 < S.length := by have := HSL.out; omega
              by_cases h2 : cmpL p.2 S[k - 1].2 < 0
              · exact .inr (.inl ⟨by omega, _, List.getElem?_eq_getElem h3, h2⟩)
              · exact .inr (.inr ⟨by omega, _, List.getElem?_eq_getElem h3, h2, Lib.hid (.inr ⟨_, List.getElem?_eq_getElem h3, h2⟩)⟩)
          rcases key with ⟨hk0, HC⟩ | ⟨hkp, y, hy, hxy⟩ | ⟨hkp, y, hy, hxy, HC⟩
          · have hkn : ¬ (0 : Int) < (k : Int) := by omega
            clear hk0
            go_wp2_with fail
            go_region_law (first
              | (refine step_append_any _ (by rfl) _ _ _ (by rfl) wr.heap.size 22 i0 (.slice none 0 0) 24 Tryz.underlying28 hi0 hz0 hz1 hz2 rfl (.slice (some ⟨wr.heap.size, 0, none⟩) 1 1) 1 [.slice ax nx cx] (by rfl) HOWN.out (by omega) ad (t - k) (c1 - k) ((S.drop k).map (·.1)) (by exact congrArg (fun z => Value.slice z (t - k) (c1 - k)) HAD.out) HLD.out HSRC.out HONED.out hsmall2 (by omega) (by simp) ?_; intro g2 cap2 w2 hown2 hb2 hg2 hg2')
              | (refine step_append_full _ (by rfl) _ _ _ (by rfl) 22 i0 (.slice none 0 0) 24 Tryz.underlying28 hi0 hz0 hz1 hz2 rfl (some ⟨g, 0, none⟩) k ((S.take k).map (·.1)) (by rfl) HLK.out (.inr ⟨_, rfl, HOLD.out _ (HB1.out.trans hb2)⟩) ⟨g2, 0, none⟩ (1 + (t - k)) cap2 ([.slice ax nx cx] ++ (S.drop k).map (·.1)) (by rfl) (by rw [List.length_append, HLD.out]; rfl) (hown2.cells rfl) HONE.out hpos hsmall (by omega) w2.heap.size (by simp) ?_; intro cap3 w3 hown3 hb3; rw [HKT.out] at hown3 ⊢))
            all_goals
              have HO3 : Hid (w3.ownsRow w.heap.size 22 1 (.slice (some ⟨w2.heap.size, 0, none⟩) (t + 1) cap3) (t + 1) ((S.take k ++ p :: S.drop k).map (·.1))) := Lib.hid (by
                have h := own_lower hown3 (B' := w.heap.size) (by have := (HB1.out.trans hb2).size; omega)
                rw [List.map_append, List.map_cons, HPX.out]
                exact h)
              have HB3 : Hid (Below w.heap.size w w3) := Lib.hid ((HB.out.trans ((HB1.out.trans hb2).mono hsz)).trans (hb3.mono (by have := (HB1.out.trans hb2).size; omega)))
              have HIN := Lib.hid (HINS.out k hk HK.out HC.out)
              clear hown3 hb3 hown2 hb2
              go_wp2
              go_roundw
              case rel => exact ⟨t + 1, _, by omega, by go_num, Lib.hid (fun h => by omega), HO3.out, Lib.hid HIN.out.1, Lib.hid HIN.out.2, HB3.out⟩
              case measure => simp [intOf]; omega
          · obtain ⟨ay, ny, cy, hyx, hry⟩ := HRP.out y (HSM.out y (List.mem_of_getElem? hy))
            have hcy := (own_at HO.out (i := k - 1) (u := y.1) (by rw [List.getElem?_map, hy]; rfl)).1
            rw [hyx] at hcy
            have HCALL : Hid (Calls Tryz.prog 144 #[.slice ax nx cx, .slice ay ny cy] wr fun e w' => e = .returned (.bool true) ∧ w' = wr) := Lib.hid (by
              have h := lessInts_calls ax ay nx ny cx cy p.2 y.2 wr (HRX.out.below HB.out (Nat.le_refl _)) (hry.below HB.out (Nat.le_refl _)) (by have := HRX.out.len; omega) (by have := hry.len; have := HM.out y (HSM.out y (List.mem_of_getElem? hy)); omega)
              rw [decide_eq_true hxy] at h; exact h)
            have HXY := Lib.hid hxy; have HY := Lib.hid hy
            have w1 : IntKind.i64.wrap ((k : Int) - 1) = ((k - 1 : Nat) : Int) := by rw [IntWalk.i64_in _ (by omega)]; omega
            have hkp' : (0 : Int) < (k : Int) := by omega
            have hk4 : k - 1 < t := by omega
            clear hy hxy hyx hry
            go_wp2_with fail
            refine HCALL.out.mono ?_
            rintro e w' ⟨rfl, hw'⟩
            obtain rfl : wr = w' := hw'.symm
            clear HCALL
            go_wp2_with fail
            go_roundw
            case rel => exact ⟨k - 1, by omega, by first | rfl | go_num, Lib.hid (fun j z h1 h2 => by
              by_cases e : j = k - 1
              · rw [e] at h2
                obtain rfl := Option.some.inj (HY.out.symm.trans h2)
                exact leL_of_lt HXY.out
              · exact HK.out j z (by omega) h2), by first | rfl | trivial⟩
            case measure => simp [intOf]; omega
          · obtain ⟨ay, ny, cy, hyx, hry⟩ := HRP.out y (HSM.out y (List.mem_of_getElem? hy))
            have hcy := (own_at HO.out (i := k - 1) (u := y.1) (by rw [List.getElem?_map, hy]; rfl)).1
            rw [hyx] at hcy
            have HCALL : Hid (Calls Tryz.prog 144 #[.slice ax nx cx, .slice ay ny cy] wr fun e w' => e = .returned (.bool false) ∧ w' = wr) := Lib.hid (by
              have h := lessInts_calls ax ay nx ny cx cy p.2 y.2 wr (HRX.out.below HB.out (Nat.le_refl _)) (hry.below HB.out (Nat.le_refl _)) (by have := HRX.out.len; omega) (by have := hry.len; have := HM.out y (HSM.out y (List.mem_of_getElem? hy)); omega)
              rw [decide_eq_false hxy] at h; exact h)
            have w1 : IntKind.i64.wrap ((k : Int) - 1) = ((k - 1 : Nat) : Int) := by rw [IntWalk.i64_in _ (by omega)]; omega
            have hkp' : (0 : Int) < (k : Int) := by omega
            have hk4 : k - 1 < t := by omega
            clear hy hxy hyx hry
            go_wp2_with fail
            refine HCALL.out.mono ?_
            rintro e w' ⟨rfl, hw'⟩
            obtain rfl : wr = w' := hw'.symm
            clear HCALL hcy
            go_wp2_with fail
            go_region_law (first
              | (refine step_append_any _ (by rfl) _ _ _ (by rfl) wr.heap.size 22 i0 (.slice none 0 0) 24 Tryz.underlying28 hi0 hz0 hz1 hz2 rfl (.slice (some ⟨wr.heap.size, 0, none⟩) 1 1) 1 [.slice ax nx cx] (by rfl) HOWN.out (by omega) ad (t - k) (c1 - k) ((S.drop k).map (·.1)) (by exact congrArg (fun z => Value.slice z (t - k) (c1 - k)) HAD.out) HLD.out HSRC.out HONED.out hsmall2 (by omega) (by simp) ?_; intro g2 cap2 w2 hown2 hb2 hg2 hg2')
              | (refine step_append_full _ (by rfl) _ _ _ (by rfl) 22 i0 (.slice none 0 0) 24 Tryz.underlying28 hi0 hz0 hz1 hz2 rfl (some ⟨g, 0, none⟩) k ((S.take k).map (·.1)) (by rfl) HLK.out (.inr ⟨_, rfl, HOLD.out _ (HB1.out.trans hb2)⟩) ⟨g2, 0, none⟩ (1 + (t - k)) cap2 ([.slice ax nx cx] ++ (S.drop k).map (·.1)) (by rfl) (by rw [List.length_append, HLD.out]; rfl) (hown2.cells rfl) HONE.out hpos hsmall (by omega) w2.heap.size (by simp) ?_; intro cap3 w3 hown3 hb3; rw [HKT.out] at hown3 ⊢))
            all_goals
              have HO3 : Hid (w3.ownsRow w.heap.size 22 1 (.slice (some ⟨w2.heap.size, 0, none⟩) (t + 1) cap3) (t + 1) ((S.take k ++ p :: S.drop k).map (·.1))) := Lib.hid (by
                have h := own_lower hown3 (B' := w.heap.size) (by have := (HB1.out.trans hb2).size; omega)
                rw [List.map_append, List.map_cons, HPX.out]
                exact h)
              have HB3 : Hid (Below w.heap.size w w3) := Lib.hid ((HB.out.trans ((HB1.out.trans hb2).mono hsz)).trans (hb3.mono (by have := (HB1.out.trans hb2).size; omega)))
              have HIN := Lib.hid (HINS.out k hk HK.out HC.out)
              clear hown3 hb3 hown2 hb2
              go_wp2
              go_roundw
              case rel => exact ⟨t + 1, _, by omega, by go_num, Lib.hid (fun h => by omega), HO3.out, Lib.hid HIN.out.1, Lib.hid HIN.out.2, HB3.out⟩
              case measure => simp [intOf]; omega
    · obtain rfl : t = n := by omega
      have e : zs.take t = zs := List.take_of_length_le (by have := HZL.out; omega)
      have HSP' : Hid (S.Perm zs) := Lib.hid (by have h := HSP.out; rw [e] at h; exact h)
      clear ho e
      go_wp2
      go_ret
      refine ⟨_, S, rfl, ?_, (HRP.out.below HB.out (Nat.le_refl _)).perm HSP'.out, ?_, ?_, HB.out⟩
      · have hl : ls.length = t := by rw [← HZS.out, List.length_map]; exact HZL.out
        rw [hl]; exact HO.out
      · have h := HSP'.out.map (·.2)
        rw [HZS.out] at h; exact h
      · rw [List.pairwise_map]; exact HSW.out
end Go.Proofs.YtnfkbjgijelfdaaGreat
namespace Go.Proofs.YtnfkbjgijelfdaaGreat
open Go.RowKit


/-- What SCC has done for the first nodes. -/
structure SccSt (ids : List Int) (adj : Int → List Int) (k : Nat) (L : List (List Int)) : Prop where
  nd : L.flatten.Nodup
  sub : ∀ x ∈ L.flatten, x ∈ ids
  ne : ∀ c ∈ L, c ≠ []
  scc : ∀ c ∈ L, ∀ x ∈ c, ∀ y, y ∈ c ↔ (ReachA adj x y ∧ ReachA adj y x)
  met : ∀ x ∈ ids.take k, x ∈ L.flatten
theorem SccSt.start (ids : List Int) (adj : Int → List Int) : SccSt ids adj 0 [] := ⟨List.nodup_nil, (fun x h => by simp at h), (fun c h => nomatch h), (fun c h => nomatch h), (fun x h => by simp at h)⟩
theorem SccSt.skip {ids : List Int} {adj : Int → List Int} {k : Nat} {L : List (List Int)} {u : Int} (h : SccSt ids adj k L) (hu : ids[k]? = some u) (hm : u ∈ L.flatten) : SccSt ids adj (k + 1) L :=
  ⟨h.nd, h.sub, h.ne, h.scc, fun x hx => by
    obtain ⟨h1, h2⟩ := List.getElem?_eq_some_iff.1 hu
    rw [List.take_succ_eq_append_getElem h1, h2] at hx
    rcases List.mem_append.1 hx with hx | hx
    · exact h.met x hx
    · rw [List.mem_singleton.1 hx]; exact hm⟩
theorem SccSt.more {ids : List Int} {adj : Int → List Int} {k : Nat} {L : List (List Int)} {u : Int} {l : List Int} (hsub : ∀ a, ∀ b ∈ adj a, b ∈ ids) (h : SccSt ids adj k L) (hu : ids[k]? = some u) (hm : u ∉ L.flatten) (hl : l.Nodup) (hll : ∀ y, y ∈ l ↔ (ReachA adj u y ∧ ReachA adj y u)) : SccSt ids adj (k + 1) (L ++ [l]) := by
  obtain ⟨h1, h2⟩ := List.getElem?_eq_some_iff.1 hu
  have hui : u ∈ ids := by rw [← h2]; exact List.getElem_mem h1
  have hri : ∀ y, ReachA adj u y → y ∈ ids := fun y hy => hy (fun z => z ∈ ids) hui (fun a b _ hb => hsub a b hb)
  have hul : u ∈ l := (hll u).2 ⟨ReachA.refl _ _, ReachA.refl _ _⟩
  have hfl : (L ++ [l]).flatten = L.flatten ++ l := by simp
  refine ⟨?_, fun x hx => ?_, fun c hc => ?_, fun c hc x hx y => ?_, fun x hx => ?_⟩
  · rw [hfl, List.nodup_append]
    refine ⟨h.nd, hl, fun a ha b hb e => ?_⟩
    subst e
    obtain ⟨c, hc, hac⟩ := List.mem_flatten.1 ha
    obtain ⟨r1, r2⟩ := (hll a).1 hb
    exact hm (List.mem_flatten.2 ⟨c, hc, (h.scc c hc a hac u).2 ⟨r2, r1⟩⟩)
  · rw [hfl] at hx
    rcases List.mem_append.1 hx with hx | hx
    · exact h.sub x hx
    · exact hri x ((hll x).1 hx).1
  · rcases List.mem_append.1 hc with hc | hc
    · exact h.ne c hc
    · rw [List.mem_singleton.1 hc]; exact fun e => by rw [e] at hul; cases hul
  · rcases List.mem_append.1 hc with hc | hc
    · exact h.scc c hc x hx y
    · rw [List.mem_singleton] at hc; subst hc
      obtain ⟨r1, r2⟩ := (hll x).1 hx
      rw [hll y]
      exact ⟨fun ⟨q1, q2⟩ => ⟨r2.trans q1, q2.trans r1⟩, fun ⟨q1, q2⟩ => ⟨r1.trans q1, q2.trans r2⟩⟩
  · rw [hfl]
    rw [List.take_succ_eq_append_getElem h1, h2] at hx
    rcases List.mem_append.1 hx with hx | hx
    · exact List.mem_append_left _ (h.met x hx)
    · rw [List.mem_singleton.1 hx]; exact List.mem_append_right _ hul
theorem SccSt.done {ids : List Int} {adj : Int → List Int} {L : List (List Int)} {k : Nat} (h : SccSt ids adj k L) (hk : ids.length ≤ k) : SccL ids adj L :=
  ⟨h.nd, fun x => ⟨h.sub x, fun hx => h.met x (by rw [List.take_of_length_le hk]; exact hx)⟩, h.ne, h.scc⟩

def SpecSCCPost (d : Bool) (ns : List Int) (es : List (Int × Int × Int)) (w : World) (e : Ending) (w' : World) : Prop :=
  ∃ v vs L, e = .returned v ∧ LolI w' w.heap.size v vs L ∧ SccL (sortI ns) (fromL d ns es) L ∧ Below w.heap.size w w'

theorem addr_add0 (g q : Nat) : (⟨g, 0, none⟩ : Addr).add q = ⟨g, q, none⟩ := by unfold Addr.add; split <;> simp_all

set_option maxHeartbeats 8000000 in
set_option maxRecDepth 100000 in
theorem specSCC_calls (d : Bool) (an ae : Option Addr) (n cn m ce : Nat) (ns : List Int) (es : List (Int × Int × Int)) (w : World) (hn : RdI w an n ns) (hr : RdE w ae m es) (hn8 : n ≤ 500) :
    Calls Tryz.prog 93 #[.agg #[.bool d, .slice an n cn, .slice ae m ce]] w (SpecSCCPost d ns es w) := by
  have HN := Lib.hid hn; have HR := Lib.hid hr
  have HSL : Hid ((sortI ns).length = n) := Lib.hid (by rw [sortI_len]; exact hn.len)
  clear hn hr
  obtain ⟨j0, hj0, hy0, hy1, hy2⟩ := info_parts int_info
  have HJ := Lib.hid (And.intro hj0 (And.intro hy0 (And.intro hy1 hy2)))
  obtain ⟨i0, hi0, hz0, hz1, hz2⟩ := info_parts intsL_info
  have HI := Lib.hid (And.intro hi0 (And.intro hz0 (And.intro hz1 hz2)))
  clear hj0 hy0 hy1 hy2 hi0 hz0 hz1 hz2
  go_enter Tryz.func93, Tryz.ntmps93
  go_wp2_with fail
  obtain ⟨w0, hw0⟩ : ∃ w0, w0 = w.alloc (.cells #[.bool d, .slice an n cn, .slice ae m ce] 25) := ⟨_, rfl⟩
  have HB0 : Hid (Below w.heap.size w w0) := Lib.hid (by rw [hw0]; exact (Below.refl _ _).alloc (Nat.le_refl _) _)
  have x0 : w0.heap[w.heap.size]? = some (.cells #[.bool d, .slice an n cn, .slice ae m ce] 25 (0, 0)) := by rw [hw0]; exact heap_alloc_new w _
  have hs0 : w.heap.size < w0.heap.size := (Array.getElem?_eq_some_iff.1 x0).1
  have HX0 := Lib.hid x0
  rw [← hw0]
  clear hw0 x0
  refine (specNodes_calls d an ae n cn m ce ns w0 (HN.out.below HB0.out (Nat.le_refl _)) (by omega)).mono ?_
  rintro e w1 ⟨v1, rfl, ho1, hb1⟩
  obtain ⟨a1, c1, rfl⟩ := own_shape' ho1
  have HO1 := Lib.hid ho1
  have HB1 : Hid (Below w.heap.size w w1) := Lib.hid (HB0.out.trans (hb1.mono HB0.out.size))
  have HX1 : Hid (w1.heap[w.heap.size]? = some (.cells #[.bool d, .slice an n cn, .slice ae m ce] 25 (0, 0))) := Lib.hid ((hb1.block _ hs0).trans HX0.out)
  have hs1 : w.heap.size < w1.heap.size := by have := hb1.size; omega
  clear ho1 hb1 HX0
  go_wp2_with fail
  go_loopw [3, 4, 13] (fun vO vD i wr => ∃ (k : Nat) (L : List (List Int)) (vs : List Value), k ≤ n ∧ i = .int .i64 k ∧ LolI wr w1.heap.size vO vs L ∧ wr.ownsRow w1.heap.size 3 1 vD L.flatten.length (L.flatten.map (Value.int .i64)) ∧ (∀ g, vD.ownBlock = some g → ¬ LolGF vO vs g) ∧ Hid (SccSt (sortI ns) (fromL d ns es) k L) ∧ Below w1.heap.size w1 wr) (fun _ _ i _ => n - (intOf i).toNat)
  case atStart => exact ⟨0, [], [], by omega, rfl, LolG.nil _ _, World.ownsRow_nil _ _ _ _, (fun g hg => by cases hg), Lib.hid (SccSt.start _ _), Below.refl _ _⟩
  case round =>
    obtain ⟨k, L, vs, hk, rfl, hl, hd, hap, HST, hb⟩ := hrel
    obtain ⟨wo, rfl⟩ : ∃ wo : World, wo = wr := ⟨_, rfl⟩
    have HL := Lib.hid hl; have HD := Lib.hid hd; have HAP := Lib.hid hap; have HB := Lib.hid hb
    have hszr := hb.size
    have hfl : L.flatten.length ≤ n := by
      have := nodup_len6 HST.out.nd (fun x hx => HST.out.sub x hx)
      rw [HSL.out] at this; exact this
    have hLl : L.length ≤ n := Nat.le_trans (len_flat HST.out.ne) hfl
    obtain ⟨nd, hnd⟩ : ∃ nd, nd = L.flatten.length := ⟨_, rfl⟩
    obtain ⟨nl, hnl⟩ : ∃ nl, nl = L.length := ⟨_, rfl⟩
    have hlr := hl.row
    rw [← hnd] at HD hd hfl
    rw [← hnl] at hlr hLl
    have HND := Lib.hid hnd; have HNL := Lib.hid hnl
    obtain ⟨aD, cD, rfl⟩ := own_shape' hd
    obtain ⟨aO, cO, rfl⟩ := own_shape' hlr
    clear hl hd hap hlr hnd hnl
    by_cases hlt : k < n
    · obtain ⟨g, c', e, hg0, hg1, -⟩ := own_form HO1.out (by omega)
      simp only [Value.slice.injEq, true_and] at e
      obtain ⟨rfl, rfl⟩ := e
      obtain ⟨u, hu⟩ : ∃ u, (sortI ns)[k]? = some u := ⟨_, List.getElem?_eq_getElem (by rw [HSL.out]; exact hlt)⟩
      have hq := (hb.cell (p := ⟨g, k, none⟩) hg1).trans (own_at HO1.out (i := k) (u := .int .i64 u) (by rw [List.getElem?_map, hu]; rfl)).1
      have hx := (hb.block w.heap.size hs1).trans HX1.out
      have q0 : wo.cell? ⟨w.heap.size, 0, none⟩ = some (.bool d) := by rw [cell_of_row wo _ _ _ _ (0, 0) hx]; rfl
      have q1 : wo.cell? ⟨w.heap.size, 1, none⟩ = some (.slice an n cn) := by rw [cell_of_row wo _ _ _ _ (0, 0) hx]; rfl
      have q2 : wo.cell? ⟨w.heap.size, 2, none⟩ = some (.slice ae m ce) := by rw [cell_of_row wo _ _ _ _ (0, 0) hx]; rfl
      have HXR := Lib.hid hx; have HU := Lib.hid hu
      have hgr : g < wo.heap.size := by omega
      have HBW : Hid (Below w.heap.size w wo) := Lib.hid (HB1.out.trans (hb.mono (Nat.le_of_lt hs1)))
      clear hx hu hb
      go_wp2_with fail
      refine (hasInt_calls aD nd cD L.flatten u wo (rdi_ownE HD.out)).mono ?_
      rintro e w' ⟨rfl, hw'⟩
      obtain rfl : wo = w' := hw'.symm
      cases hh : hasB L.flatten u
      · have hnm : u ∉ L.flatten := fun h => by rw [(hasB_iff _ _).2 h] at hh; cases hh
        have HNM := Lib.hid hnm
        clear hh hnm
        go_wp2_with fail
        refine (reached_calls d an ae n cn m ce ns es u wo (HN.out.below HBW.out (Nat.le_refl _)) (HR.out.below HBW.out (Nat.le_refl _)) hn8).mono ?_
        rintro e w3 ⟨v3, r, rfl, ho3, hmem, hrl, hrn, hb3⟩
        obtain ⟨nr, hnr⟩ : ∃ nr, nr = r.length := ⟨_, rfl⟩
        rw [← hnr] at ho3 hrl
        obtain ⟨a3, c3, rfl⟩ := own_shape' ho3
        have HO3 := Lib.hid ho3; have HMEM := Lib.hid hmem; have HRN := Lib.hid hrn; have HNR := Lib.hid hnr
        have HB3 := Lib.hid hb3
        have hnrp : 0 < nr := by rw [hnr]; exact List.length_pos_of_mem ((hmem u).2 (ReachA.refl _ _))
        have hs3 := hb3.size
        have hx3 := (hb3.block w.heap.size (by omega)).trans HXR.out
        have HX3 := Lib.hid hx3
        have HB3W : Hid (Below w.heap.size w w3) := Lib.hid (HBW.out.trans (hb3.mono (by omega)))
        clear ho3 hmem hrn hnr hb3 hx3 q0 q1 q2 hq
        go_wp2_with fail
        go_loopw [7, 24] (fun v i wq => ∃ (j : Nat) (l : List Int), j ≤ nr ∧ i = .int .i64 j ∧ wq.ownsRow w3.heap.size 3 1 v l.length (l.map (Value.int .i64)) ∧ Hid (l.Nodup ∧ ∀ y, y ∈ l ↔ (y ∈ r.take j ∧ ReachA (fromL d ns es) y u)) ∧ l.length ≤ j ∧ Below w3.heap.size w3 wq) (fun _ i _ => nr - (intOf i).toNat)
        case atStart => exact ⟨0, [], by omega, rfl, World.ownsRow_nil _ _ _ _, Lib.hid ⟨List.nodup_nil, fun y => by simp⟩, Nat.le_refl _, Below.refl _ _⟩
        case round =>
          obtain ⟨j, l, hj, rfl, hol, HLJ, hlj, hbq⟩ := hrel
          obtain ⟨wi, rfl⟩ : ∃ wi : World, wi = wr := ⟨_, rfl⟩
          obtain ⟨nj, hnj⟩ : ∃ nj, nj = l.length := ⟨_, rfl⟩
          rw [← hnj] at hol hlj
          obtain ⟨aL, cL, rfl⟩ := own_shape' hol
          have HOL := Lib.hid hol; have HNJ := Lib.hid hnj; have HBQ := Lib.hid hbq
          have hsq := hbq.size
          clear hol hnj
          by_cases hltj : j < nr
          · obtain ⟨g3, c3', e, hg3, hg3', -⟩ := own_form HO3.out (by omega)
            simp only [Value.slice.injEq, true_and] at e
            obtain ⟨rfl, rfl⟩ := e
            obtain ⟨y, hy⟩ : ∃ y, r[j]? = some y := ⟨_, List.getElem?_eq_getElem (by rw [← HNR.out]; exact hltj)⟩
            have hqy := (hbq.cell (p := ⟨g3, j, none⟩) hg3').trans (own_at HO3.out (i := j) (u := .int .i64 y) (by rw [List.getElem?_map, hy]; rfl)).1
            have hxi := (hbq.block w.heap.size (by omega)).trans HX3.out
            have q0 : wi.cell? ⟨w.heap.size, 0, none⟩ = some (.bool d) := by rw [cell_of_row wi _ _ _ _ (0, 0) hxi]; rfl
            have q1 : wi.cell? ⟨w.heap.size, 1, none⟩ = some (.slice an n cn) := by rw [cell_of_row wi _ _ _ _ (0, 0) hxi]; rfl
            have q2 : wi.cell? ⟨w.heap.size, 2, none⟩ = some (.slice ae m ce) := by rw [cell_of_row wi _ _ _ _ (0, 0) hxi]; rfl
            have hgi : g3 < wi.heap.size := by omega
            have HBIW : Hid (Below w.heap.size w wi) := Lib.hid (HB3W.out.trans (hbq.mono HB3W.out.size))
            have HY := Lib.hid hy
            have HTK : Hid (∀ z, z ∈ r.take (j + 1) ↔ z ∈ r.take j ∨ z = y) := Lib.hid (fun z => by
              obtain ⟨q1, q2⟩ := List.getElem?_eq_some_iff.1 hy
              rw [List.take_succ_eq_append_getElem q1, q2, List.mem_append, List.mem_singleton])
            have HYN : Hid (y ∉ r.take j) := Lib.hid (fun h => by
              obtain ⟨q1, q2⟩ := List.getElem?_eq_some_iff.1 hy
              have h3 := HRN.out.sublist (List.take_sublist (j + 1) r)
              rw [List.take_succ_eq_append_getElem q1, q2, List.nodup_append] at h3
              exact h3.2.2 y h y (by simp) rfl)
            clear hy hbq hxi
            go_wp2_with fail
            refine (reaches_calls d an ae n cn m ce ns es y u wi (HN.out.below HBIW.out (Nat.le_refl _)) (HR.out.below HBIW.out (Nat.le_refl _)) hn8).mono ?_
            rintro e w5 ⟨b, rfl, hbr, hb5⟩
            have HOL5 : Hid (w5.ownsRow w3.heap.size 3 1 (.slice aL nj cL) nj (l.map (Value.int .i64))) := Lib.hid (ownsRow_of_heap HOL.out (fun g hg => hb5.block g (HOL.out.lt g hg).2))
            have HB5 : Hid (Below w3.heap.size w3 w5) := Lib.hid (HBQ.out.trans (hb5.mono hsq))
            have hs5 := hb5.size
            clear hb5 q0 q1 q2 hqy
            cases b
            · have HNR2 : Hid (l.Nodup ∧ ∀ z, z ∈ l ↔ (z ∈ r.take (j + 1) ∧ ReachA (fromL d ns es) z u)) := Lib.hid ⟨HLJ.out.1, fun z => by
                rw [HLJ.out.2 z, HTK.out z]
                constructor
                · exact fun ⟨a, b⟩ => ⟨.inl a, b⟩
                · rintro ⟨a | a, b⟩
                  · exact ⟨a, b⟩
                  · rw [a] at b; have := hbr.2 b; cases this⟩
              clear hbr
              go_wp2_with fail
              go_roundw
              case rel => exact ⟨j + 1, l, by omega, by go_num, by rw [← HNJ.out]; exact HOL5.out, HNR2, by rw [← HNJ.out]; omega, HB5.out⟩
              case measure => simp [intOf]; omega
            · have hyu : ReachA (fromL d ns es) y u := hbr.1 rfl
              have HNR2 : Hid ((l ++ [y]).Nodup ∧ ∀ z, z ∈ l ++ [y] ↔ (z ∈ r.take (j + 1) ∧ ReachA (fromL d ns es) z u)) := Lib.hid ⟨by
                rw [List.nodup_append]
                exact ⟨HLJ.out.1, by simp, fun a ha b hb e => by
                  rw [List.mem_singleton] at hb; subst hb; subst e
                  exact HYN.out ((HLJ.out.2 a).1 ha).1⟩, fun z => by
                rw [List.mem_append, List.mem_singleton, HLJ.out.2 z, HTK.out z]
                constructor
                · rintro (⟨a, b⟩ | a)
                  · exact ⟨.inl a, b⟩
                  · exact ⟨.inr a, by rw [a]; exact hyu⟩
                · rintro ⟨a | a, b⟩
                  · exact .inl ⟨a, b⟩
                  · exact .inr a⟩
              clear hbr hyu
              obtain ⟨hj0, hy0, hy1, hy2⟩ := HJ.out
              go_wp2_with (at_builtin; refine wpList_append_own_at _ rfl _ _ 22 rfl w3.heap.size 3 j0 (.int .i64 0) 1 8 Tryz.underlying22 hj0 hy0 hy1 hy2 rfl (by decide) (.slice aL nj cL) nj (l.map (Value.int .i64)) rfl (HOL5.out.alloc _) ⟨w5.heap.size, 0, none⟩ 1 1 [.int .i64 y] rfl rfl ?c1 ?c2 ?c3 ?c4 ?c5 ?_)
              case c1 => intro j u hj; match j, hj with | 0, hj => simp at hj; subst hj; simp [Addr.add]
              case c2 => intro u hu; simp at hu; subst hu; rfl
              case c3 => unfold maxLen; omega
              case c4 => omega
              case c5 => simp; omega
              intro v6 w6 hown6 hgrow6 _ _
              have HB6 : Hid (Below w3.heap.size w3 w6) := Lib.hid ((HB5.out.alloc (by omega) _).grown hgrow6 (by simp; omega) (fun j hj => (HOL5.out.lt j hj).1))
              have HO6 : Hid (w6.ownsRow w3.heap.size 3 1 v6 (l ++ [y]).length ((l ++ [y]).map (Value.int .i64))) := Lib.hid (by
                rw [List.length_append, List.length_singleton, List.map_append, ← HNJ.out]; exact hown6)
              obtain ⟨a6, c6, rfl⟩ := own_shape' hown6
              clear hown6 hgrow6
              go_wp2_with fail
              go_roundw
              case rel => exact ⟨j + 1, l ++ [y], by omega, by go_num, HO6.out, HNR2, by rw [List.length_append, List.length_singleton, ← HNJ.out]; omega, HB6.out⟩
              case measure => simp [intOf]; omega
          · obtain rfl : j = nr := by omega
            have hll : ∀ y, y ∈ l ↔ (ReachA (fromL d ns es) u y ∧ ReachA (fromL d ns es) y u) := fun y => by
              rw [HLJ.out.2 y, List.take_of_length_le (by rw [← HNR.out]; exact Nat.le_refl _), HMEM.out y]
            have HSTN : Hid (SccSt (sortI ns) (fromL d ns es) (k + 1) (L ++ [l])) := Lib.hid (HST.out.more (fun a b hb => (List.mem_filter.1 hb).1) HU.out HNM.out HLJ.out.1 hll)
            have hlpos : 0 < nj := by rw [HNJ.out]; exact List.length_pos_of_mem ((hll u).2 ⟨ReachA.refl _ _, ReachA.refl _ _⟩)
            have hl3 : nd + nj ≤ n := by
              have h1 := nodup_len6 HSTN.out.nd (fun x hx => HSTN.out.sub x hx)
              rw [HSL.out] at h1
              simp only [List.flatten_append, List.flatten_cons, List.flatten_nil, List.append_nil, List.length_append] at h1
              rw [← HND.out, ← HNJ.out] at h1; exact h1
            obtain ⟨gL, cL', e, hgL, hgL', -⟩ := own_form HOL.out hlpos
            simp only [Value.slice.injEq, true_and] at e
            obtain ⟨rfl, rfl⟩ := e
            have HBI : Hid (Below wo.heap.size wo wi) := Lib.hid (HB3.out.trans (hbq.mono hs3))
            have HDI : Hid (wi.ownsRow w1.heap.size 3 1 (.slice aD nd cD) nd (L.flatten.map (Value.int .i64))) := Lib.hid (ownsRow_of_heap HD.out (fun g hg => HBI.out.block g (HD.out.lt g hg).2))
            have HLI : Hid (LolI wi w1.heap.size (.slice aO nl cO) vs L) := Lib.hid (HL.out.of_heap (fun j hj => HBI.out.block j (HL.out.lt hj).2))
            clear hll hbq
            obtain ⟨hj0, hy0, hy1, hy2⟩ := HJ.out
            go_wp2_with (at_builtin; refine wpList_append_own_at _ rfl _ _ 22 rfl w1.heap.size 3 j0 (.int .i64 0) 1 8 Tryz.underlying22 hj0 hy0 hy1 hy2 rfl (by decide) (.slice aD nd cD) nd (L.flatten.map (Value.int .i64)) rfl HDI.out ⟨gL, 0, none⟩ nj cL (l.map (Value.int .i64)) rfl (by rw [List.length_map, Nat.mul_one, ← HNJ.out]) ?d1 ?d2 ?d3 ?d4 ?d5 ?_)
            case d1 =>
              intro q u hq
              rw [addr_add0]
              exact (own_at HOL.out hq).1
            case d2 => intro u hu; obtain ⟨z, -, rfl⟩ := List.mem_map.1 hu; rfl
            case d3 => unfold maxLen; omega
            case d4 => omega
            case d5 => omega
            intro v6 w6 hown6 hgrow6 _ hloc6
            obtain ⟨a6, c6, rfl⟩ := own_shape' hown6
            have HO6 : Hid (w6.ownsRow w1.heap.size 3 1 (.slice a6 (nd + nj) c6) (nd + nj) (L.flatten.map (Value.int .i64) ++ l.map (Value.int .i64))) := Lib.hid (by simpa using hown6)
            have HB6 : Hid (Below w1.heap.size wi w6) := Lib.hid ((Below.refl _ _).grown hgrow6 (by omega) (fun j hj => (HDI.out.lt j hj).1))
            have hs6 := HB6.out.size
            have HL6 : Hid (LolI w6 w1.heap.size (.slice aO nl cO) vs L) := Lib.hid (HLI.out.of_heap (fun j hj => hgrow6.block j (HLI.out.lt hj).2 (fun e => HAP.out j e.symm hj)))
            have HOL6 : Hid (w6.ownsRow w3.heap.size 3 1 (.slice (some ⟨gL, 0, none⟩) nj cL) nj (l.map (Value.int .i64))) := Lib.hid (ownsRow_of_heap HOL.out (fun j hj => hgrow6.block j (HOL.out.lt j hj).2 (fun e => by have h1 := (HD.out.lt j e.symm).2; have h2 := (HOL.out.lt j hj).1; omega)))
            have HAP6 : Hid (∀ j, (Value.slice a6 (nd + nj) c6).ownBlock = some j → ¬ LolGF (.slice aO nl cO) vs j ∧ j ≠ gL) := Lib.hid (fun j hj => by
              rcases hloc6 with h1 | h1
              · have h2 : (Value.slice aD nd cD).ownBlock = some j := h1 ▸ hj
                exact ⟨HAP.out j h2, fun e => by have h3 := (HD.out.lt j h2).2; omega⟩
              · rw [h1] at hj
                have h2 := Option.some.inj hj
                exact ⟨fun h3 => by have h4 := (HLI.out.lt h3).2; omega, fun e => by omega⟩)
            clear hown6 hgrow6 hloc6
            obtain ⟨hi0, hz0, hz1, hz2⟩ := HI.out
            have HRW : Hid (w6.ownsRow w1.heap.size 22 1 (.slice aO nl cO) nl vs) := Lib.hid (by have h := HL6.out.row; rw [← HNL.out] at h; exact h)
            go_wp2_with (at_builtin; refine wpList_append_own_at _ rfl _ _ 28 rfl w1.heap.size 22 i0 (.slice none 0 0) 1 24 Tryz.underlying28 hi0 hz0 hz1 hz2 rfl (by decide) (.slice aO nl cO) nl vs rfl (HRW.out.alloc _) ⟨w6.heap.size, 0, none⟩ 1 1 [.slice (some ⟨gL, 0, none⟩) nj cL] rfl rfl ?g1 ?g2 ?g3 ?g4 ?g5 ?_)
            case g1 => intro j u hj; match j, hj with | 0, hj => simp at hj; subst hj; simp [Addr.add]
            case g2 => intro u hu; simp at hu; subst hu; rfl
            case g3 => unfold maxLen; omega
            case g4 => omega
            case g5 => simp; omega
            intro v7 w7 hown7 hgrow7 _ hloc7
            obtain ⟨a7, c7, rfl⟩ := own_shape' hown7
            have hfr : Fresh w6 (.slice aO nl cO) (.slice a7 (nl + 1) c7) := hloc7.imp id fun h g hg => by rw [h] at hg; have := Option.some.inj hg; omega
            have HL7 : Hid (LolI w7 w1.heap.size (.slice a7 (nl + 1) c7) (vs ++ [.slice (some ⟨gL, 0, none⟩) nj cL]) (L ++ [l])) := Lib.hid
              (HL6.out.more (by rw [← HNJ.out]; exact own_lower HOL6.out (by omega)) (fun g hg hj => by have h1 := (HOL6.out.lt g hg).1; have h2 := (HL.out.lt hj).2; omega) (by rw [← HNL.out]; exact hown7) (fun j h1 h2 => by rw [hgrow7.block j (by simp; omega) h2]; exact heap_alloc_old _ _ h1) hfr)
            have HB7 : Hid (Below w1.heap.size w1 w7) := Lib.hid ((((HB.out.trans (HBI.out.mono hszr)).trans HB6.out).alloc (by omega) _).grown hgrow7 (by simp; omega) (fun j hj => (HRW.out.lt j hj).1))
            have HO7 : Hid (w7.ownsRow w1.heap.size 3 1 (.slice a6 (nd + nj) c6) (L ++ [l]).flatten.length ((L ++ [l]).flatten.map (Value.int .i64))) := Lib.hid (by
              have e1 : (L ++ [l]).flatten = L.flatten ++ l := by simp
              rw [e1, List.length_append, List.map_append, ← HND.out, ← HNJ.out]
              refine ownsRow_of_heap HO6.out (fun j hj => ?_)
              rw [hgrow7.block j (by have := (HO6.out.lt j hj).2; simp; omega) (fun e => (HAP6.out j hj).1 (.inl e))]
              exact heap_alloc_old _ _ (HO6.out.lt j hj).2)
            have HAP7 : Hid (∀ j, (Value.slice a6 (nd + nj) c6).ownBlock = some j → ¬ LolGF (.slice a7 (nl + 1) c7) (vs ++ [.slice (some ⟨gL, 0, none⟩) nj cL]) j) := Lib.hid (fun j hj hF => by
              obtain ⟨h1, h2⟩ := HAP6.out j hj
              have h5 := (HO6.out.lt j hj).2
              rcases hF with hF | ⟨x, hx, hF⟩
              · rcases hloc7 with h3 | h3
                · exact h1 (.inl (by rw [hF, h3]))
                · rw [h3] at hF; have h4 := Option.some.inj hF; first | omega | (simp at h4; omega)
              · rcases List.mem_append.1 hx with hx | hx
                · exact h1 (.inr ⟨x, hx, hF⟩)
                · rw [List.mem_singleton.1 hx] at hF
                  exact h2 (Option.some.inj hF).symm)
            clear hown7 hgrow7 hloc7 hfr
            go_wp2_with fail
            go_roundw
            case rel => exact ⟨k + 1, L ++ [l], _, by omega, by go_num, HL7.out, HO7.out, HAP7.out, HSTN, HB7.out⟩
            case measure => simp [intOf]; omega
      · have hm : u ∈ L.flatten := (hasB_iff _ _).1 hh
        have HSTN := Lib.hid (HST.out.skip HU.out hm)
        clear hh hm
        go_wp2_with fail
        go_roundw
        case rel => exact ⟨k + 1, L, vs, by omega, by go_num, HL.out, by rw [← HND.out]; exact HD.out, HAP.out, HSTN, HB.out⟩
        case measure => simp [intOf]; omega
    · obtain rfl : k = n := by omega
      have HFIN := Lib.hid (HST.out.done (by rw [HSL.out]; exact Nat.le_refl _))
      clear hb
      go_wp2_with fail
      go_ret
      exact ⟨_, vs, L, rfl, HL.out.lower (Nat.le_of_lt hs1), HFIN.out, HB1.out.trans (HB.out.mono (Nat.le_of_lt hs1))⟩

def CyclicPost (d : Bool) (ns : List Int) (es : List (Int × Int × Int)) (w : World) (e : Ending) (w' : World) : Prop :=
  ∃ (v : Value) (ps : List (Value × List Int)) (L : List (List Int)), e = .returned v ∧ w'.ownsRow w.heap.size 22 1 v ps.length (ps.map (·.1)) ∧ RowsP w' ps ∧ ps.map (·.2) = L.filter (fun c => decide (1 < c.length)) ∧ SccL (sortI ns) (fromL d ns es) L ∧ Below w.heap.size w w'

set_option maxHeartbeats 4000000 in
theorem cyclic_calls (d : Bool) (an ae : Option Addr) (n cn m ce : Nat) (ns : List Int) (es : List (Int × Int × Int)) (w : World) (hn : RdI w an n ns) (hr : RdE w ae m es) (hn8 : n ≤ 500) :
    Calls Tryz.prog 52 #[.agg #[.bool d, .slice an n cn, .slice ae m ce]] w (CyclicPost d ns es w) := by
  have HN := Lib.hid hn; have HR := Lib.hid hr
  have HSL : Hid ((sortI ns).length = n) := Lib.hid (by rw [sortI_len]; exact hn.len)
  clear hn hr
  obtain ⟨i0, hi0, hz0, hz1, hz2⟩ := info_parts intsL_info
  have HI := Lib.hid (And.intro hi0 (And.intro hz0 (And.intro hz1 hz2)))
  clear hi0 hz0 hz1 hz2
  go_enter Tryz.func52, Tryz.ntmps52
  go_wp2_with fail
  obtain ⟨w0, hw0⟩ : ∃ w0, w0 = w.alloc (.cells #[.bool d, .slice an n cn, .slice ae m ce] 25) := ⟨_, rfl⟩
  have HB0 : Hid (Below w.heap.size w w0) := Lib.hid (by rw [hw0]; exact (Below.refl _ _).alloc (Nat.le_refl _) _)
  rw [← hw0]
  clear hw0
  refine (specSCC_calls d an ae n cn m ce ns es w0 (HN.out.below HB0.out (Nat.le_refl _)) (HR.out.below HB0.out (Nat.le_refl _)) hn8).mono ?_
  rintro e w1 ⟨v, vs, L, rfl, hl, hsc, hb1⟩
  have hrow := hl.row
  have hvl := hl.len
  have hLn : L.length ≤ n := by
    have h1 := nodup_len6 hsc.nd (fun x hx => (hsc.mem x).1 hx)
    have h2 := len_flat hsc.ne
    rw [HSL.out] at h1; omega
  obtain ⟨nl, hnl⟩ : ∃ nl, nl = L.length := ⟨_, rfl⟩
  rw [← hnl] at hrow hLn hvl
  obtain ⟨a1, c1, rfl⟩ := own_shape' hrow
  obtain ⟨zs, hzs⟩ : ∃ zs, zs = vs.zip L := ⟨_, rfl⟩
  have HZ1 : Hid (zs.map (·.1) = vs) := Lib.hid (by rw [hzs, List.map_fst_zip]; omega)
  have HZ2 : Hid (zs.map (·.2) = L) := Lib.hid (by rw [hzs, List.map_snd_zip]; omega)
  have HZL : Hid (zs.length = nl) := Lib.hid (by rw [hzs, List.length_zip]; omega)
  have HRP : Hid (RowsP w1 zs) := Lib.hid (by rw [hzs]; exact hl.rowsP)
  have HROW : Hid (w1.ownsRow w0.heap.size 22 1 (.slice a1 nl c1) nl (zs.map (·.1))) := Lib.hid (by rw [HZ1.out]; exact hrow)
  have HSC := Lib.hid hsc
  have HB1 := Lib.hid (HB0.out.trans (hb1.mono HB0.out.size))
  clear hl hsc hb1 hrow hvl hnl hzs
  go_wp2_with fail
  go_loopw [3, 9] (fun v i wr => ∃ (k : Nat) (ps : List (Value × List Int)), k ≤ nl ∧ i = .int .i64 k ∧ wr.ownsRow w1.heap.size 22 1 v ps.length (ps.map (·.1)) ∧ Hid (ps = (zs.take k).filter fun p => decide (1 < p.2.length)) ∧ ps.length ≤ k ∧ Below w1.heap.size w1 wr) (fun _ i _ => nl - (intOf i).toNat)
  case atStart => exact ⟨0, [], by omega, rfl, World.ownsRow_nil _ _ _ _, Lib.hid (by simp), Nat.le_refl _, Below.refl _ _⟩
  case round =>
    obtain ⟨k, ps, hk, rfl, ho, HPS, hpk, hb⟩ := hrel
    obtain ⟨np, hnp⟩ : ∃ np, np = ps.length := ⟨_, rfl⟩
    rw [← hnp] at ho hpk
    obtain ⟨a2, c2, rfl⟩ := own_shape' ho
    have HO := Lib.hid ho; have HB := Lib.hid hb; have HNP := Lib.hid hnp
    have hszr := hb.size
    clear ho hnp
    by_cases hlt : k < nl
    · obtain ⟨g, c', e, hg0, hg1, -⟩ := own_form HROW.out (by omega)
      simp only [Value.slice.injEq, true_and] at e
      obtain ⟨rfl, rfl⟩ := e
      obtain ⟨p, hp⟩ : ∃ p, zs[k]? = some p := ⟨_, List.getElem?_eq_getElem (by rw [HZL.out]; exact hlt)⟩
      obtain ⟨ax, nx, cx, hpx, hrx⟩ := HRP.out p (List.mem_of_getElem? hp)
      have hq := (hb.cell (p := ⟨g, k, none⟩) hg1).trans (own_at HROW.out (i := k) (u := p.1) (by rw [List.getElem?_map, hp]; rfl)).1
      rw [hpx] at hq
      have hgr : g < wr.heap.size := by omega
      have hfs := filter_take_succ (f := fun p : Value × List Int => decide (1 < p.2.length)) hp
      have HNX := Lib.hid hrx.len; have HPX := Lib.hid hpx
      clear hp hpx hrx hb
      by_cases hgt : 1 < nx
      · have HPS2 : Hid (ps ++ [p] = (zs.take (k + 1)).filter fun p => decide (1 < p.2.length)) := Lib.hid (by
          rw [hfs, HPS.out, if_pos (decide_eq_true (by rw [HNX.out]; exact hgt))])
        have hgt2 : (1 : Int) < (nx : Int) := by omega
        clear hfs
        obtain ⟨hi0, hz0, hz1, hz2⟩ := HI.out
        go_wp2_with (at_builtin; refine wpList_append_own_at _ rfl _ _ 28 rfl w1.heap.size 22 i0 (.slice none 0 0) 1 24 Tryz.underlying28 hi0 hz0 hz1 hz2 rfl (by decide) (.slice a2 np c2) np (ps.map (·.1)) rfl (HO.out.alloc _) ⟨wr.heap.size, 0, none⟩ 1 1 [.slice ax nx cx] rfl rfl ?g1 ?g2 ?g3 ?g4 ?g5 ?_)
        case g1 => intro j u hj; match j, hj with | 0, hj => simp at hj; subst hj; simp [Addr.add]
        case g2 => intro u hu; simp at hu; subst hu; rfl
        case g3 => unfold maxLen; omega
        case g4 => omega
        case g5 => simp; omega
        intro v7 w7 hown7 hgrow7 _ _
        obtain ⟨a7, c7, rfl⟩ := own_shape' hown7
        have HB7 : Hid (Below w1.heap.size w1 w7) := Lib.hid ((HB.out.alloc hszr _).grown hgrow7 (by simp; omega) (fun j hj => (HO.out.lt j hj).1))
        have HO7 : Hid (w7.ownsRow w1.heap.size 22 1 (.slice a7 (np + 1) c7) (ps ++ [p]).length ((ps ++ [p]).map (·.1))) := Lib.hid (by
          rw [List.length_append, List.length_singleton, List.map_append, ← HNP.out]
          show w7.ownsRow _ _ _ _ _ (_ ++ [p.1])
          rw [HPX.out]; exact hown7)
        clear hown7 hgrow7 hq
        go_wp2_with fail
        go_roundw
        case rel => exact ⟨k + 1, ps ++ [p], by omega, by go_num, HO7.out, HPS2, by rw [List.length_append, List.length_singleton, ← HNP.out]; omega, HB7.out⟩
        case measure => simp [intOf]; omega
      · have HPS2 : Hid (ps = (zs.take (k + 1)).filter fun p => decide (1 < p.2.length)) := Lib.hid (by
          rw [hfs, HPS.out, if_neg (by rw [decide_eq_true_iff, HNX.out]; exact hgt), List.append_nil])
        have hgt2 : ¬ (1 : Int) < (nx : Int) := by omega
        clear hfs
        go_wp2_with fail
        go_roundw
        case rel => exact ⟨k + 1, ps, by omega, by go_num, by rw [← HNP.out]; exact HO.out, HPS2, by rw [← HNP.out]; omega, HB.out⟩
        case measure => simp [intOf]; omega
    · obtain rfl : k = nl := by omega
      have HPF : Hid (ps.map (·.2) = L.filter fun c => decide (1 < c.length)) := Lib.hid (by
        rw [HPS.out, List.take_of_length_le (by rw [HZL.out]; exact Nat.le_refl _), ← HZ2.out, List.filter_map]; rfl)
      have HRPF : Hid (RowsP wr ps) := Lib.hid (fun q hq => by
        rw [HPS.out] at hq
        exact (HRP.out.below hb (Nat.le_refl _)) q (List.mem_of_mem_take (List.mem_filter.1 hq).1))
      clear hb
      go_wp2_with fail
      go_ret
      exact ⟨_, ps, L, rfl, by rw [← HNP.out]; exact own_lower HO.out HB1.out.size, HRPF.out, HPF.out, HSC.out, HB1.out.trans (HB.out.mono HB1.out.size)⟩

set_option maxHeartbeats 1000000 in
theorem acyclic_calls (d : Bool) (an ae : Option Addr) (n cn m ce : Nat) (ns : List Int) (es : List (Int × Int × Int)) (w : World) (hn : RdI w an n ns) (hr : RdE w ae m es) (hn8 : n ≤ 500) :
    Calls Tryz.prog 16 #[.agg #[.bool d, .slice an n cn, .slice ae m ce]] w fun e w' => ∃ L b, e = .returned (.bool b) ∧ b = (L.filter (fun c => decide (1 < c.length))).isEmpty ∧ SccL (sortI ns) (fromL d ns es) L ∧ Below w.heap.size w w' := by
  have HN := Lib.hid hn; have HR := Lib.hid hr
  clear hn hr
  go_enter Tryz.func16, Tryz.ntmps16
  go_wp2_with fail
  obtain ⟨w0, hw0⟩ : ∃ w0, w0 = w.alloc (.cells #[.bool d, .slice an n cn, .slice ae m ce] 25) := ⟨_, rfl⟩
  have HB0 : Hid (Below w.heap.size w w0) := Lib.hid (by rw [hw0]; exact (Below.refl _ _).alloc (Nat.le_refl _) _)
  rw [← hw0]
  clear hw0
  refine (cyclic_calls d an ae n cn m ce ns es w0 (HN.out.below HB0.out (Nat.le_refl _)) (HR.out.below HB0.out (Nat.le_refl _)) hn8).mono ?_
  rintro e w1 ⟨v, ps, L, rfl, ho, -, hps, hsc, hb⟩
  obtain ⟨np, hnp⟩ : ∃ np, np = ps.length := ⟨_, rfl⟩
  rw [← hnp] at ho
  obtain ⟨a1, c1, rfl⟩ := own_shape' ho
  have HF : Hid ((L.filter (fun c => decide (1 < c.length))).isEmpty = (np == 0)) := Lib.hid (by
    rw [← hps, hnp]; cases ps <;> simp)
  have HSC := Lib.hid hsc
  have HB := Lib.hid (HB0.out.trans (hb.mono HB0.out.size))
  clear ho hnp hps hsc hb
  by_cases h0 : np = 0
  · subst h0
    go_wp2_with fail
    go_ret
    exact ⟨L, true, by first | rfl | simp, by rw [HF.out]; rfl, HSC.out, HB.out⟩
  · have hz : ((np : Int) == 0) = false := by rw [beq_eq_false_iff_ne]; omega
    have hz2 : (np == 0) = false := by rw [beq_eq_false_iff_ne]; exact h0
    have HZ := Lib.hid hz2
    clear hz2
    go_wp2_with fail
    go_ret
    exact ⟨L, false, by first | rfl | simp [h0], by rw [HF.out, HZ.out], HSC.out, HB.out⟩
end Go.Proofs.YtnfkbjgijelfdaaGreat
namespace Go.Proofs.YtnfkbjgijelfdaaGreat
open Go.RowKit

set_option maxHeartbeats 8000000 in
set_option maxRecDepth 100000 in
theorem sameSets_calls (a b : Option Addr) (n m ca cb : Nat) (ls ks : List (List Int)) (w : World) (ha : RdL w a n ls) (hb : RdL w b m ks) (hn : n ≤ 1000) (hm : m ≤ 1000) (hla : ∀ l ∈ ls, l.length ≤ 1000) (hlb : ∀ l ∈ ks, l.length ≤ 1000) (hp : (ls.map sortI).Perm (ks.map sortI)) :
    Calls Tryz.prog 56 #[.slice a n ca, .slice b m cb] w fun e w' => e = .returned (.bool true) ∧ Below w.heap.size w w' := by
  have HA := Lib.hid ha; have HBB := Lib.hid hb; have HLA := Lib.hid hla; have HLB := Lib.hid hlb; have HP := Lib.hid hp
  clear ha hb hla hlb hp
  obtain ⟨i0, hi0, hz0, hz1, hz2⟩ := info_parts intsL_info
  have HI := Lib.hid (And.intro hi0 (And.intro hz0 (And.intro hz1 hz2)))
  clear hi0 hz0 hz1 hz2
  go_enter Tryz.func56, Tryz.ntmps56
  go_wp2_with fail
  go_loopw [5, 15] (fun v i wr => ∃ (k : Nat) (vs : List Value), k ≤ n ∧ i = .int .i64 k ∧ LolI wr w.heap.size v vs ((ls.take k).map sortI) ∧ Below w.heap.size w wr) (fun _ i _ => n - (intOf i).toNat)
  case atStart => exact ⟨0, [], by omega, rfl, LolG.nil _ _, Below.refl _ _⟩
  case round =>
    obtain ⟨k, vs, hk, rfl, ho, hbb⟩ := hrel
    obtain ⟨wo, rfl⟩ : ∃ wo : World, wo = wr := ⟨_, rfl⟩
    have hln : ((ls.take k).map sortI).length = k := by rw [List.length_map, List.length_take]; have := HA.out.len; omega
    have HLN := Lib.hid hln
    clear hln
    have hor := ho.row
    rw [HLN.out] at hor
    obtain ⟨a1, c1, rfl⟩ := own_shape' hor
    clear hor
    have AHO := Lib.hid ho; have AHB := Lib.hid hbb
    have hszr := hbb.size
    clear ho
    by_cases hlt : k < n
    · obtain ⟨bb, off, rfl, hb1, hc⟩ := HA.out.at_ (by omega)
      obtain ⟨aj, nj, cj, l, HLJ, hcell, hrn⟩ := hc k hlt
      have hck := (hbb.cell (p := ⟨bb, off + k, none⟩) hb1).trans hcell
      have hbr : bb < wo.heap.size := by omega
      have HRN := Lib.hid (hrn.below hbb (Nat.le_refl _))
      have hnj : nj ≤ 1000 := by have := hrn.len; have := HLA.out l (List.mem_of_getElem? HLJ.out); omega
      clear hc hcell hrn hbb
      go_wp2_with fail
      refine (sortInts_calls aj nj cj l wo HRN.out hnj).mono ?_
      rintro e w5 ⟨v5, rfl, ho5, hb5⟩
      obtain ⟨a3, c3, rfl⟩ := own_shape' ho5
      have HO5 := Lib.hid ho5; have HB5 := Lib.hid hb5
      clear ho5 hb5
      have HL5 : Hid (LolI w5 w.heap.size (.slice a1 k c1) vs ((ls.take k).map sortI)) := Lib.hid (AHO.out.of_heap (fun j hj => HB5.out.block j (AHO.out.lt hj).2))
      obtain ⟨hi0, hz0, hz1, hz2⟩ := HI.out
      have hs5 := HB5.out.size
      have HRW : Hid (w5.ownsRow w.heap.size 22 1 (.slice a1 k c1) k vs) := Lib.hid (by have h := HL5.out.row; rw [HLN.out] at h; exact h)
      have HSL : Hid ((sortI l).length = nj) := Lib.hid (by rw [sortI_len]; exact HRN.out.len)
      go_wp2_with (at_builtin; refine wpList_append_own_at _ rfl _ _ 28 rfl w.heap.size 22 i0 (.slice none 0 0) 1 24 Tryz.underlying28 hi0 hz0 hz1 hz2 rfl (by decide) (.slice a1 k c1) k vs rfl (HRW.out.alloc _) ⟨w5.heap.size, 0, none⟩ 1 1 [.slice a3 nj c3] rfl rfl ?Ag1 ?Ag2 ?Ag3 ?Ag4 ?Ag5 ?_)
      case Ag1 => intro j u hj; match j, hj with | 0, hj => simp at hj; subst hj; simp [Addr.add]
      case Ag2 => intro u hu; simp at hu; subst hu; rfl
      case Ag3 => unfold maxLen; omega
      case Ag4 => omega
      case Ag5 => simp; omega
      intro v' w' hown' hgrow _ hloc
      obtain ⟨a', c', rfl⟩ := own_shape' hown'
      have hfr : Fresh w5 (.slice a1 k c1) (.slice a' (k + 1) c') := hloc.imp id fun h g hg => by rw [h] at hg; have := Option.some.inj hg; omega
      have HL' : Hid (LolI w' w.heap.size (.slice a' (k + 1) c') (vs ++ [.slice a3 nj c3]) ((ls.take (k + 1)).map sortI)) := Lib.hid (by
        obtain ⟨q1, q2⟩ := List.getElem?_eq_some_iff.1 HLJ.out
        rw [List.take_succ_eq_append_getElem q1, q2, List.map_append]
        exact HL5.out.more (by rw [HSL.out]; exact own_lower HO5.out (by omega)) (fun g hg hj => by have h1 := (HO5.out.lt g hg).1; have h2 := (AHO.out.lt hj).2; omega) (by rw [HLN.out]; exact hown') (fun j h1 h2 => by rw [hgrow.block j (by simp; omega) h2]; exact heap_alloc_old _ _ h1) hfr)
      have HB' : Hid (Below w.heap.size w w') := Lib.hid (((AHB.out.trans (HB5.out.mono hszr)).alloc (by omega) _).grown hgrow (by simp; omega) (fun j hj => (HRW.out.lt j hj).1))
      clear hown' hgrow hfr hloc
      go_wp2
      go_roundw
      case rel => exact ⟨k + 1, _, by omega, by go_num, HL'.out, HB'.out⟩
      case measure => simp [intOf]; omega
    · obtain rfl : k = n := by omega
      have HX : Hid (LolI wo w.heap.size (.slice a1 k c1) vs (ls.map sortI)) := Lib.hid (by
        have h := AHO.out
        rw [List.take_of_length_le (by have := HA.out.len; omega)] at h
        exact h)
      have HB2 : Hid (RdL wo b m ks) := Lib.hid (HBB.out.below hbb (Nat.le_refl _))
      have HXL : Hid ((ls.map sortI).length = k) := Lib.hid (by rw [List.length_map]; exact HA.out.len)
      clear hbb
      go_wp2_with fail
      go_loopw [6, 27] (fun v i wr => ∃ (ky : Nat) (vsy : List Value), ky ≤ m ∧ i = .int .i64 ky ∧ LolI wr wo.heap.size v vsy ((ks.take ky).map sortI) ∧ Below wo.heap.size wo wr) (fun _ i _ => m - (intOf i).toNat)
      case atStart => exact ⟨0, [], by omega, rfl, LolG.nil _ _, Below.refl _ _⟩
      case round =>
        obtain ⟨ky, vsy, hk, rfl, ho, hbb⟩ := hrel
        obtain ⟨wp, rfl⟩ : ∃ wp : World, wp = wr := ⟨_, rfl⟩
        have hln : ((ks.take ky).map sortI).length = ky := by rw [List.length_map, List.length_take]; have := HB2.out.len; omega
        have HLN := Lib.hid hln
        clear hln
        have hor := ho.row
        rw [HLN.out] at hor
        obtain ⟨a1y, c1y, rfl⟩ := own_shape' hor
        clear hor
        have BHO := Lib.hid ho; have BHB := Lib.hid hbb
        have hszr := hbb.size
        clear ho
        by_cases hlt : ky < m
        · obtain ⟨bb, off, rfl, hb1, hc⟩ := HB2.out.at_ (by omega)
          obtain ⟨aj, nj, cj, l, HLJ, hcell, hrn⟩ := hc ky hlt
          have hck := (hbb.cell (p := ⟨bb, off + ky, none⟩) hb1).trans hcell
          have hbr : bb < wp.heap.size := by omega
          have HRN := Lib.hid (hrn.below hbb (Nat.le_refl _))
          have hnj : nj ≤ 1000 := by have := hrn.len; have := HLB.out l (List.mem_of_getElem? HLJ.out); omega
          clear hc hcell hrn hbb
          go_wp2_with fail
          refine (sortInts_calls aj nj cj l wp HRN.out hnj).mono ?_
          rintro e w5 ⟨v5, rfl, ho5, hb5⟩
          obtain ⟨a3, c3, rfl⟩ := own_shape' ho5
          have HO5 := Lib.hid ho5; have HB5 := Lib.hid hb5
          clear ho5 hb5
          have HL5 : Hid (LolI w5 wo.heap.size (.slice a1y ky c1y) vsy ((ks.take ky).map sortI)) := Lib.hid (BHO.out.of_heap (fun j hj => HB5.out.block j (BHO.out.lt hj).2))
          obtain ⟨hi0, hz0, hz1, hz2⟩ := HI.out
          have hs5 := HB5.out.size
          have HRW : Hid (w5.ownsRow wo.heap.size 22 1 (.slice a1y ky c1y) ky vsy) := Lib.hid (by have h := HL5.out.row; rw [HLN.out] at h; exact h)
          have HSL : Hid ((sortI l).length = nj) := Lib.hid (by rw [sortI_len]; exact HRN.out.len)
          go_wp2_with (at_builtin; refine wpList_append_own_at _ rfl _ _ 28 rfl wo.heap.size 22 i0 (.slice none 0 0) 1 24 Tryz.underlying28 hi0 hz0 hz1 hz2 rfl (by decide) (.slice a1y ky c1y) ky vsy rfl (HRW.out.alloc _) ⟨w5.heap.size, 0, none⟩ 1 1 [.slice a3 nj c3] rfl rfl ?Bg1 ?Bg2 ?Bg3 ?Bg4 ?Bg5 ?_)
          case Bg1 => intro j u hj; match j, hj with | 0, hj => simp at hj; subst hj; simp [Addr.add]
          case Bg2 => intro u hu; simp at hu; subst hu; rfl
          case Bg3 => unfold maxLen; omega
          case Bg4 => omega
          case Bg5 => simp; omega
          intro v' w' hown' hgrow _ hloc
          obtain ⟨a', c', rfl⟩ := own_shape' hown'
          have hfr : Fresh w5 (.slice a1y ky c1y) (.slice a' (ky + 1) c') := hloc.imp id fun h g hg => by rw [h] at hg; have := Option.some.inj hg; omega
          have HL' : Hid (LolI w' wo.heap.size (.slice a' (ky + 1) c') (vsy ++ [.slice a3 nj c3]) ((ks.take (ky + 1)).map sortI)) := Lib.hid (by
            obtain ⟨q1, q2⟩ := List.getElem?_eq_some_iff.1 HLJ.out
            rw [List.take_succ_eq_append_getElem q1, q2, List.map_append]
            exact HL5.out.more (by rw [HSL.out]; exact own_lower HO5.out (by omega)) (fun g hg hj => by have h1 := (HO5.out.lt g hg).1; have h2 := (BHO.out.lt hj).2; omega) (by rw [HLN.out]; exact hown') (fun j h1 h2 => by rw [hgrow.block j (by simp; omega) h2]; exact heap_alloc_old _ _ h1) hfr)
          have HB' : Hid (Below wo.heap.size wo w') := Lib.hid (((BHB.out.trans (HB5.out.mono hszr)).alloc (by omega) _).grown hgrow (by simp; omega) (fun j hj => (HRW.out.lt j hj).1))
          clear hown' hgrow hfr hloc
          go_wp2
          go_roundw
          case rel => exact ⟨ky + 1, _, by omega, by go_num, HL'.out, HB'.out⟩
          case measure => simp [intOf]; omega
        · obtain rfl : ky = m := by omega
          have HY : Hid (LolI wp wo.heap.size (.slice a1y ky c1y) vsy (ks.map sortI)) := Lib.hid (by
            have h := BHO.out
            rw [List.take_of_length_le (by have := HB2.out.len; omega)] at h
            exact h)
          have HXP : Hid (RdL wp a1 k (ls.map sortI)) := Lib.hid ((LolG.rd HX.out).below hbb (Nat.le_refl _))
          have HYL : Hid ((ks.map sortI).length = ky) := Lib.hid (by rw [List.length_map]; exact HB2.out.len)
          have hkk : ky = k := by rw [← HYL.out, ← HXL.out]; exact HP.out.length_eq.symm
          subst hkk
          have HBW : Hid (Below w.heap.size w wp) := Lib.hid (AHB.out.trans (BHB.out.mono AHB.out.size))
          have HMX : Hid (∀ l ∈ ls.map sortI, l.length ≤ 1000000) := Lib.hid (fun l hl => by obtain ⟨z, hz, rfl⟩ := List.mem_map.1 hl; rw [sortI_len]; have := HLA.out z hz; omega)
          have HMY : Hid (∀ l ∈ ks.map sortI, l.length ≤ 1000000) := Lib.hid (fun l hl => by obtain ⟨z, hz, rfl⟩ := List.mem_map.1 hl; rw [sortI_len]; have := HLB.out z hz; omega)
          clear hbb
          go_wp2_with fail
          refine (sortLists_calls a1 ky c1 (ls.map sortI) wp HXP.out (by omega) HMX.out).mono ?_
          rintro e w6 ⟨v6, ps6, rfl, ho6, hrp6, hp6, hs6, hb6⟩
          rw [HXL.out] at ho6
          obtain ⟨a6, c6, rfl⟩ := own_shape' ho6
          have HO6 := Lib.hid ho6; have HRP6 := Lib.hid hrp6; have HP6 := Lib.hid hp6; have HS6 := Lib.hid hs6
          have HY6 : Hid (RdL w6 a1y ky (ks.map sortI)) := Lib.hid ((LolG.rd HY.out).below hb6 (Nat.le_refl _))
          have HB6 : Hid (Below w.heap.size w w6) := Lib.hid (HBW.out.trans (hb6.mono HBW.out.size))
          clear ho6 hrp6 hp6 hs6 hb6
          go_wp2_with fail
          refine (sortLists_calls a1y ky c1y (ks.map sortI) w6 HY6.out (by omega) HMY.out).mono ?_
          rintro e w7 ⟨v7, ps7, rfl, ho7, hrp7, hp7, hs7, hb7⟩
          rw [HYL.out] at ho7
          obtain ⟨a7, c7, rfl⟩ := own_shape' ho7
          have hee : ps7.map (·.2) = ps6.map (·.2) := pwL_unique (hp7.trans (HP.out.symm.trans HP6.out.symm)) hs7 HS6.out
          have HR7 : Hid (RdL w7 a7 ky (ps6.map (·.2))) := Lib.hid (by rw [← hee]; exact RdL.of_rowsP ho7 hrp7 (by omega))
          have HR6 : Hid (RdL w7 a6 ky (ps6.map (·.2))) := Lib.hid ((RdL.of_rowsP HO6.out HRP6.out (by omega)).below hb7 (Nat.le_refl _))
          have HB7 : Hid (Below w.heap.size w w7) := Lib.hid (HB6.out.trans (hb7.mono HB6.out.size))
          clear ho7 hrp7 hp7 hs7 hb7 hee
          go_wp2_with fail
          go_loopw [48] (fun i wr => ∃ q z : Nat, q ≤ ky ∧ i = .int .i64 q ∧ wr = w7.drewN z) (fun i _ => ky - (intOf i).toNat)
          case atStart => exact ⟨0, 0, by omega, rfl, rfl⟩
          case round =>
            obtain ⟨q, z, hq, rfl, rfl⟩ := hrel
            by_cases hltq : q < ky
            · obtain ⟨b6, o6, rfl, hb6, hc6⟩ := HR6.out.at_ (by omega)
              obtain ⟨b7, o7, rfl, hb7, hc7⟩ := HR7.out.at_ (by omega)
              obtain ⟨x6, n6, d6, l6, HL6, hq6, hr6⟩ := hc6 q hltq
              obtain ⟨x7, n7, d7, l7, HL7, hq7, hr7⟩ := hc7 q hltq
              obtain rfl : l6 = l7 := Option.some.inj (HL6.out.symm.trans HL7.out)
              have HC6 := Lib.hid (hr6.drewN z); have HC7 := Lib.hid (hr7.drewN z)
              clear hc6 hc7 hr6 hr7
              go_wp2_with fail
              refine (sameInts_calls x6 x7 n6 n7 d6 d7 l6 l6 (w7.drewN z) HC6.out HC7.out).mono ?_
              rintro e w8 ⟨rfl, q8, rfl⟩
              rw [show (l6 == l6) = true from beq_self_eq_true l6]
              go_wp2_with fail
              go_roundw
              case rel => exact ⟨q + 1, z + q8, by omega, by go_num, rfl⟩
              case measure => simp [intOf]; omega
            · go_wp2_with fail
              go_ret
              exact ⟨rfl, below_drewN HB7.out z⟩
end Go.Proofs.YtnfkbjgijelfdaaGreat
