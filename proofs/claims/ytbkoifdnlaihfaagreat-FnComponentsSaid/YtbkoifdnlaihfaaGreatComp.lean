/- The walks of impl.numbers and slices.Compare at ints. The walk of slices.SortFunc at lists of ints, ordered by slices.Compare. The walk of impl.lists. The walk of impl.Components. -/
import Derived.Test.YtbkoifdnlaihfaaGreatLolG
import Derived.Test.YtbkoifdnlaihfaaGreatShelfS
import Derived.Test.YtbkoifdnlaihfaaGreatCc
import Derived.Test.YtbkoifdnlaihfaaGreatWays
import Derived.Lib.OwnBridge
namespace Go.Proofs.YtbkoifdnlaihfaaGreat
open Go.RowKit

def NumPost (p : List Int) (w : World) (e : Ending) (w' : World) : Prop :=
  ∃ v, e = .returned v ∧ w'.ownsRow w.heap.size 3 1 v p.length (p.map (Value.int .i64)) ∧ Below w.heap.size w w'

set_option maxHeartbeats 1000000 in
theorem numbers_calls (lo : Nat) (a : Option Addr) (n c : Nat) (p : List Int) (w : World) (hr : w.ownsRow lo 100 1 (.slice a n c) n (p.map nodeV)) (hn : n ≤ 1000000) :
    Calls Tryz.prog 117 #[.slice a n c] w (NumPost p w) := by
  have hpl : p.length = n := by have := hr.1; simpa using this
  have HR := Lib.hid hr; clear hr
  obtain ⟨i0, hi0, hz0, hz1, hz2⟩ := info_parts int_info
  have HI := Lib.hid (And.intro hi0 (And.intro hz0 (And.intro hz1 hz2)))
  clear hi0 hz0 hz1 hz2
  go_enter Tryz.func117, Tryz.ntmps117
  go_wp2_with fail
  go_loopw [3, 8] (fun v i wr => ∃ k : Nat, k ≤ n ∧ i = .int .i64 k ∧ wr.ownsRow w.heap.size 3 1 v k ((p.take k).map (Value.int .i64)) ∧ Below w.heap.size w wr) (fun _ i _ => n - (intOf i).toNat)
  case atStart => exact ⟨0, by omega, rfl, World.ownsRow_nil _ _ _ _, Below.refl _ _⟩
  case round =>
    rename_i v i
    obtain ⟨k, hk, rfl, ho, hb⟩ := hrel
    obtain ⟨a1, c1, rfl⟩ := own_shape' ho
    have HO := Lib.hid ho; have HB := Lib.hid hb
    have hszr := hb.size
    clear ho
    by_cases hlt : k < n
    · obtain ⟨g, cap, he, hg0, hg1, -⟩ := own_form HR.out (by omega)
      simp only [Value.slice.injEq, true_and] at he
      obtain ⟨rfl, rfl⟩ := he
      have hkp : k < p.length := by omega
      obtain ⟨z, hz⟩ : ∃ z, p[k]? = some z := ⟨p[k], List.getElem?_eq_getElem hkp⟩
      have HZ := Lib.hid hz
      have hcz := (own_at HR.out (u := nodeV z) (by rw [List.getElem?_map, hz]; rfl)).1
      have hck := (hb.cell (p := ⟨g, k, none⟩) hg1).trans hcz
      clear hcz hb hz
      obtain ⟨hi0, hz0, hz1, hz2⟩ := HI.out
      have hsm : (k + 1) * 8 ≤ 140737488355328 := by omega
      go_wp2_with fail
      refine (number_calls z wr).mono ?_
      rintro e w2 ⟨rfl, rfl⟩
      go_wp2_with (at_builtin; refine wpList_append_own _ rfl _ _ 22 rfl w.heap.size 3 i0 (.int .i64 0) 1 8 Tryz.underlying22 hi0 hz0 hz1 hz2 rfl (by decide) (.slice a1 k c1) k ((p.take k).map (Value.int .i64)) rfl (HO.out.alloc _) ⟨wr.heap.size, 0, none⟩ 1 1 [.int .i64 z] rfl rfl ?c1 ?c2 ?c3 ?c4 ?c5 ?_)
      case c1 => intro j u hj; match j, hj with | 0, hj => simp at hj; subst hj; simp [Addr.add]
      case c2 => intro u hu; simp at hu; subst hu; rfl
      case c3 => unfold maxLen; omega
      case c4 => exact hsm
      case c5 => simp; omega
      intro v' w' hown' hgrow _
      obtain ⟨a', c', rfl⟩ := own_shape' hown'
      have HO' := Lib.hid hown'
      have HB' : Hid (Below w.heap.size w w') := (HB.out.alloc (by omega) _).grown hgrow (by simp; omega) (fun j hj => (HO.out.lt j hj).1)
      clear hown' hgrow
      go_wp2
      go_roundw
      case rel =>
        refine ⟨k + 1, by omega, by go_num, ?_, HB'.out⟩
        have e2 : (p.take (k + 1)).map (Value.int .i64) = List.map (Value.int .i64) (p.take k) ++ [.int .i64 z] := by
          rw [List.take_succ_eq_append_getElem hkp, List.map_append]
          have := (List.getElem?_eq_some_iff.1 HZ.out).2; simp [this]
        rw [e2]; have := HO'.out; simpa using this
      case measure => simp [intOf]; omega
    · go_wp2
      go_ret
      obtain rfl : k = n := by omega
      refine ⟨_, rfl, ?_, HB.out⟩
      have h := HO.out
      rw [List.take_of_length_le (by omega)] at h
      rw [hpl]
      exact h

/-- Which of two lists stands ahead. -/
def cmpL : List Int → List Int → Int
  | [], [] => 0
  | [], _ :: _ => -1
  | _ :: _, [] => 1
  | x :: xs, y :: ys => if x < y then -1 else if y < x then 1 else cmpL xs ys

theorem compareI (x y : Int) : Lib.compareInt x y = if x < y then -1 else if y < x then 1 else 0 := rfl

theorem cmpL_cons (x y : Int) (xs ys : List Int) : cmpL (x :: xs) (y :: ys) = if x < y then -1 else if y < x then 1 else cmpL xs ys := rfl
theorem cmpL_nil_left (ys : List Int) : cmpL [] ys = if ys = [] then 0 else -1 := by cases ys <;> simp [cmpL]

set_option maxHeartbeats 1000000 in
theorem compareS_calls (a b : Option Addr) (n m c d : Nat) (xs ys : List Int) (w : World) (hx : RdI w a n xs) (hy : RdI w b m ys) (hn : n ≤ 1000000) (hm : m ≤ 1000000) :
    Calls Tryz.prog 120 #[.slice a n c, .slice b m d] w fun e w' => e = .returned (.int .i64 (cmpL xs ys)) ∧ w' = w := by
  have HX := Lib.hid hx; have HY := Lib.hid hy
  have HXL := Lib.hid hx.len; have HYL := Lib.hid hy.len
  clear hx hy
  go_enter Tryz.func120, Tryz.ntmps120
  go_wp2_with fail
  go_loopw [11] (fun i wr => ∃ k : Nat, k ≤ n ∧ k ≤ m ∧ i = .int .i64 k ∧ wr = w ∧ Hid (cmpL (xs.drop k) (ys.drop k) = cmpL xs ys)) (fun i _ => n - (intOf i).toNat)
  case atStart => exact ⟨0, by omega, by omega, rfl, rfl, by simp [Hid]⟩
  case round =>
    obtain ⟨k, hkn, hkm, rfl, rfl, HC⟩ := hrel
    by_cases hlt : k < n
    · obtain ⟨bx, ox, rfl, hbx, hcx⟩ := HX.out.at_ (by omega)
      obtain ⟨x, HXK, hxc⟩ := hcx k hlt
      clear hcx
      have hxd : Hid (xs.drop k = x :: xs.drop (k + 1)) := by
        have hl : k < xs.length := by have := HXL.out; omega
        have h := HXK.out
        rw [List.getD_eq_getElem?_getD, List.getElem?_eq_getElem hl] at h
        unfold Hid
        rw [List.drop_eq_getElem_cons hl]
        simp at h
        rw [h]
      by_cases hlt2 : k < m
      · obtain ⟨by_, oy, rfl, hby, hcy⟩ := HY.out.at_ (by omega)
        obtain ⟨y, HYK, hyc⟩ := hcy k hlt2
        clear hcy
        have hyd : Hid (ys.drop k = y :: ys.drop (k + 1)) := by
          have hl : k < ys.length := by have := HYL.out; omega
          have h := HYK.out
          rw [List.getD_eq_getElem?_getD, List.getElem?_eq_getElem hl] at h
          unfold Hid
          rw [List.drop_eq_getElem_cons hl]
          simp at h
          rw [h]
        have hge : decide ((m : Int) ≤ (k : Int)) = false := by simpa using hlt2
        have hge2 : ¬ ((m : Int) ≤ (k : Int)) := by omega
        go_wp2_with fail
        refine (Tryz.cmp_Compare_int x y _).mono ?_
        rintro e w1 ⟨rfl, rfl⟩
        rw [compareI]
        have HC2 := HC.out
        rw [hxd.out, hyd.out] at HC2
        rw [cmpL_cons] at HC2
        by_cases h1 : x < y
        · rw [if_pos h1] at HC2 ⊢
          have HC3 := Lib.hid HC2
          clear HC2 HC
          go_wp2_with fail
          go_ret
          exact ⟨ret_int HC3.out, rfl⟩
        · by_cases h2 : y < x
          · rw [if_neg h1, if_pos h2] at HC2 ⊢
            have HC3 := Lib.hid HC2
            clear HC2 HC
            go_wp2_with fail
            go_ret
            exact ⟨ret_int HC3.out, rfl⟩
          · rw [if_neg h1, if_neg h2] at HC2 ⊢
            have HC3 := Lib.hid HC2
            clear HC2 HC
            go_wp2_with fail
            go_roundw
            case rel => exact ⟨k + 1, by omega, by omega, by go_num, by trivial, HC3⟩
            case measure => simp [intOf]; omega
      · have hge : (m : Int) ≤ (k : Int) := by omega
        have hyd : Hid (ys.drop k = []) := by have := HYL.out; exact Lib.hid (List.drop_eq_nil_of_le (by omega))
        go_wp2_with fail
        go_ret
        refine ⟨ret_int ?_, rfl⟩
        have h := HC.out
        rw [hxd.out, hyd.out] at h
        rw [← h]; rfl
    · obtain rfl : k = n := by omega
      have hxd : Hid (xs.drop k = []) := by have := HXL.out; exact Lib.hid (List.drop_eq_nil_of_le (by omega))
      have h := HC.out
      rw [hxd.out, cmpL_nil_left] at h
      by_cases hlt2 : k < m
      · have hne : ys.drop k ≠ [] := fun e => by have h1 := congrArg List.length e; simp at h1; have := HYL.out; omega
        rw [if_neg hne] at h
        have HH := Lib.hid h
        clear h HC
        go_wp2_with fail
        go_ret
        exact ⟨ret_int HH.out, rfl⟩
      · have hne : ys.drop k = [] := List.drop_eq_nil_of_le (by have := HYL.out; omega)
        rw [if_pos hne] at h
        have HH := Lib.hid h
        clear h HC
        go_wp2_with fail
        go_ret
        exact ⟨ret_int HH.out, rfl⟩
end Go.Proofs.YtbkoifdnlaihfaaGreat
namespace Go.Proofs.YtbkoifdnlaihfaaGreat
open Go.RowKit Go.Sort

theorem cmpL_self : ∀ a : List Int, cmpL a a = 0
  | [] => rfl
  | x :: xs => by rw [cmpL_cons, if_neg (by omega), if_neg (by omega)]; exact cmpL_self xs
theorem cmpL_neg : ∀ a b : List Int, cmpL b a = - cmpL a b
  | [], [] => rfl
  | [], _ :: _ => rfl
  | _ :: _, [] => rfl
  | x :: xs, y :: ys => by
    rw [cmpL_cons, cmpL_cons]
    by_cases h1 : x < y
    · rw [if_neg (by omega), if_pos h1, if_pos h1]; rfl
    · by_cases h2 : y < x
      · rw [if_pos h2, if_neg h1, if_pos h2]
      · rw [if_neg h2, if_neg h1, if_neg h1, if_neg h2]; exact cmpL_neg xs ys
theorem cmpL_zero : ∀ a b : List Int, cmpL a b = 0 → a = b
  | [], [], _ => rfl
  | [], _ :: _, h => by simp [cmpL] at h
  | _ :: _, [], h => by simp [cmpL] at h
  | x :: xs, y :: ys, h => by
    rw [cmpL_cons] at h
    by_cases h1 : x < y
    · rw [if_pos h1] at h; omega
    · by_cases h2 : y < x
      · rw [if_neg h1, if_pos h2] at h; omega
      · rw [if_neg h1, if_neg h2] at h
        rw [cmpL_zero xs ys h, show x = y by omega]
theorem cmpL_trans : ∀ a b c : List Int, cmpL a b < 0 → cmpL b c < 0 → cmpL a c < 0
  | [], [], _, h, _ => by simp [cmpL] at h
  | [], _ :: _, [], _, h => by simp [cmpL] at h
  | [], _ :: _, _ :: _, _, _ => by simp [cmpL]
  | _ :: _, [], _, h, _ => by simp [cmpL] at h
  | _ :: _, _ :: _, [], _, h => by simp [cmpL] at h
  | x :: xs, y :: ys, z :: zs, h1, h2 => by
    rw [cmpL_cons] at h1 h2 ⊢
    by_cases a1 : x < y
    · by_cases b1 : y < z
      · rw [if_pos (by omega)]; omega
      · by_cases b2 : z < y
        · rw [if_neg b1, if_pos b2] at h2; omega
        · rw [if_pos (by omega)]; omega
    · by_cases a2 : y < x
      · rw [if_neg a1, if_pos a2] at h1; omega
      · rw [if_neg a1, if_neg a2] at h1
        by_cases b1 : y < z
        · rw [if_pos (by omega)]; omega
        · by_cases b2 : z < y
          · rw [if_neg b1, if_pos b2] at h2; omega
          · rw [if_neg b1, if_neg b2] at h2
            rw [if_neg (by omega), if_neg (by omega)]
            exact cmpL_trans xs ys zs h1 h2

theorem cmp_swo (L : List (List Int)) : SWO (ltOf fun i j : Nat => cmpL (L.getD i []) (L.getD j [])) where
  irrefl x := by simp [ltOf, cmpL_self]
  trans x y z h1 h2 := by
    simp only [ltOf, decide_eq_true_eq] at h1 h2 ⊢
    exact cmpL_trans _ _ _ h1 h2
  ntrans x y z h1 h2 := by
    simp only [ltOf, decide_eq_false_iff_not] at h1 h2 ⊢
    intro h3
    have e1 := cmpL_neg (L.getD x []) (L.getD y [])
    have e2 := cmpL_neg (L.getD y []) (L.getD z [])
    by_cases z1 : cmpL (L.getD x []) (L.getD y []) = 0
    · rw [cmpL_zero _ _ z1] at h3; exact h2 h3
    · exact h2 (cmpL_trans _ _ _ (by omega) h3)

theorem grownBy_sortWorld (enc : Nat → Value) {w : World} {g n off : Nat} {os : Array Obj} (d : Array Nat) : w.grownBy (sortWorld enc w g off n d os) (some g) := by
  unfold sortWorld
  refine ⟨rfl, rfl, rfl, by simp, fun k hk hne => ?_⟩
  rw [heap_grow_old _ _ (by simpa using hk)]
  have : g ≠ k := fun e => hne (by rw [e])
  simp [putRow, mapBlock, Sort.ahead, Array.getElem?_modify, this]

theorem ownsRow_grow_ {w : World} {B : Nat} {e : TypeId} {size : Nat} {v : Value} {n : Nat} {xs : List Value} {os : Array Obj} (h : w.ownsRow B e size v n xs) : (grow w os).ownsRow B e size v n xs :=
  ownsRow_of_heap h (fun g hg => heap_grow_old _ _ (h.lt g hg).2)

abbrev LolI (w : World) (lo : Nat) (v : Value) (vs : List Value) (ls : List (List Int)) : Prop := LolG 22 3 (Value.int .i64) w lo v vs ls

def SortLPost (lo : Nat) (v : Value) (L : List (List Int)) (w : World) (e : Ending) (w' : World) : Prop :=
  e = .returned (.tuple #[]) ∧ ∃ vs' L', LolI w' lo v vs' L' ∧ L'.Perm L ∧ (∀ (i j : Nat) (a b : List Int), i < j → L'[i]? = some a → L'[j]? = some b → ¬ cmpL b a < 0) ∧ w.grownBy w' v.ownBlock

theorem sortLol_calls (lo : Nat) (v : Value) (vs : List Value) (L : List (List Int)) (w : World) (h : LolI w lo v vs L) (hn : L.length ≤ 1000000) (hm : ∀ l ∈ L, l.length ≤ 1000000) :
    Calls Tryz.prog 119 #[v, .func (.func 120) #[] #[]] w (SortLPost lo v L w) := by
  by_cases h0 : 0 < L.length
  · obtain ⟨g, c, rfl, hg0, hg1, hfr⟩ := own_form h.row h0
    have hvl := h.len
    have hrd : ∀ i : Nat, ∃ a n cp, vs.getD i (.slice none 0 0) = .slice a n cp ∧ (L.getD i []).length = n ∧ (∀ b, a = some b → ∃ g', a = some ⟨g', 0, none⟩ ∧ g' ≠ g ∧ g' < w.heap.size) ∧ RdI w a n (L.getD i []) := fun i => by
      by_cases hi : i < L.length
      · have e1 : vs[i]? = some vs[i] := List.getElem?_eq_getElem (by omega)
        have e2 : L[i]? = some L[i] := List.getElem?_eq_getElem hi
        have ho := h.rows i _ _ e1 e2
        rw [List.getD_eq_getElem?_getD, List.getD_eq_getElem?_getD, e1, e2]
        obtain ⟨a, cp, e, hr⟩ := RdI.of_owns ho
        refine ⟨a, _, cp, e, rfl, fun b hb => ?_, hr⟩
        rcases ho.2 with ⟨e3, _⟩ | ⟨g', cap, cur, e3, hb', hc', _⟩
        · rw [e3] at e; simp at e; rw [← e.1] at hb; cases hb
        · rw [e3] at e
          simp only [Value.slice.injEq] at e
          refine ⟨g', e.1.symm, fun e4 => h.apart _ (List.mem_of_getElem? e1) g' (by rw [e3]; rfl) (by rw [e4]; rfl), (Array.getElem?_eq_some_iff.1 hc').1⟩
      · rw [List.getD_eq_getElem?_getD, List.getD_eq_getElem?_getD, List.getElem?_eq_none (by omega), List.getElem?_eq_none (by omega)]
        exact ⟨none, 0, 0, rfl, rfl, (fun _ e => by cases e), rfl, by omega, fun h => absurd h (by omega)⟩
    have hlen : ∀ i, (L.getD i []).length ≤ 1000000 := fun i => by
      by_cases hi : i < L.length
      · rw [List.getD_eq_getElem?_getD, List.getElem?_eq_getElem hi]; exact hm _ (List.getElem_mem hi)
      · rw [List.getD_eq_getElem?_getD, List.getElem?_eq_none (by omega)]; simp
    have hsz : (List.range L.length).toArray.size = L.length := by simp
    have hcell : ∀ j, j < L.length → w.cell? ⟨g, j, none⟩ = some (vs.getD j (.slice none 0 0)) := fun j hj => by
      have e1 : vs[j]? = some vs[j] := List.getElem?_eq_getElem (by omega)
      rw [List.getD_eq_getElem?_getD, e1]
      exact (own_at h.row e1).1
    have hc := Tryz.slices_SortFunc (α := Nat) (fun i => vs.getD i (.slice none 0 0)) (fun i => by obtain ⟨a, n, cp, e, _⟩ := hrd i; show (vs.getD i (.slice none 0 0)).oneCell' = true; rw [e]; rfl) (fun i j => cmpL (L.getD i []) (L.getD j [])) (cmp_swo L) 120 #[] g 0 c (List.range L.length).toArray w
      Tryz.call120
      (fun m os dk _ x y => by
        obtain ⟨a, n, cp, e1, e2, e3, e4⟩ := hrd x
        obtain ⟨a', n', cp', f1, f2, f3, f4⟩ := hrd y
        have hgr := grownBy_sortWorld (fun i => vs.getD i (.slice none 0 0)) (w := w) (g := g) (n := m) (off := 0) (os := os) dk
        have key : ∀ (a : Option Addr) (n : Nat) (z : List Int), (∀ b, a = some b → ∃ g', a = some ⟨g', 0, none⟩ ∧ g' ≠ g ∧ g' < w.heap.size) → RdI w a n z → RdI (sortWorld (fun i => vs.getD i (.slice none 0 0)) w g 0 m dk os) a n z := fun a n z ha hr => by
          refine ⟨hr.len, hr.small, fun h0 => ?_⟩
          obtain ⟨b, off, rfl, hb, hc⟩ := hr.at_ h0
          obtain ⟨g', e, h1, h2⟩ := ha _ rfl
          simp only [Option.some.injEq, Addr.mk.injEq] at e
          obtain ⟨rfl, rfl, -⟩ := e
          exact ⟨b, 0, rfl, Nat.lt_of_lt_of_le hb hgr.size, fun j hj => by
            obtain ⟨z', hz, hcz⟩ := hc j hj
            exact ⟨z', hz, (hgr.cell_far ⟨b, 0 + j, none⟩ hb (fun e => h1 (Option.some.inj e))).trans hcz⟩⟩
        show Calls _ _ #[vs.getD x (.slice none 0 0), vs.getD y (.slice none 0 0)] _ _
        rw [e1, f1]
        refine (compareS_calls a a' n n' cp cp' _ _ _ (key _ _ _ e3 e4) (key _ _ _ f3 f4) (by have := hlen x; omega) (by have := hlen y; omega)).mono ?_
        rintro e w' ⟨rfl, rfl⟩
        exact ⟨rfl, 0, #[], by rw [grow_empty]; rfl⟩)
      (fun j hj => by
        rw [hsz] at hj
        rw [Nat.zero_add]
        refine ⟨?_, ?_⟩
        · rw [hcell j hj]; simp [hj]
        · have e1 : vs[j]? = some vs[j] := List.getElem?_eq_getElem (by omega)
          exact (own_at h.row e1).2)
      hg1 (by rw [hsz]; omega)
    rw [hsz] at hc
    refine hc.mono ?_
    rintro e w' ⟨rfl, d', q, os, hp, hs, rfl⟩
    obtain ⟨hp1, hp2, hp3⟩ := hp
    rw [hsz] at hp1
    have hx1 : (d'.extract 0 L.length) = d' := by rw [← hp1]; exact Array.extract_size
    have hx2 : ((List.range L.length).toArray.extract 0 L.length) = (List.range L.length).toArray := by simp
    rw [hx1, hx2] at hp3
    have hgr := grownBy_sortWorld (fun i => vs.getD i (.slice none 0 0)) (w := w) (g := g) (n := q) (off := 0) (os := os) d'
    have hdl : d'.toList.length = L.length := by simpa using hp1
    have hmem : ∀ i, i ∈ d'.toList → i < L.length := fun i hi => by simpa using hp3.subset hi
    have hmv : vs = (List.range L.length).map (fun i => vs.getD i (.slice none 0 0)) := by
      apply List.ext_getElem (by simp [hvl])
      intro i h1 h2
      simp [h1]
    have hml : L = (List.range L.length).map (fun i => L.getD i []) := by
      apply List.ext_getElem (by simp)
      intro i h1 h2
      simp [h1]
    have hperm : (d'.toList.map (fun i => L.getD i [])).Perm L := by
      have h1 := hp3.map (fun i => L.getD i [])
      rw [show (List.range L.length).toArray.toList = List.range L.length from rfl, ← hml] at h1
      exact h1
    have hrow : (sortWorld (fun i => vs.getD i (.slice none 0 0)) w g 0 q d' os).ownsRow lo 22 1 (.slice (some ⟨g, 0, none⟩) L.length c) L.length (d'.toList.map (fun i => vs.getD i (.slice none 0 0))) := by
      have h1 := h.row
      rw [hmv] at h1
      have h2 := Lib.ownsRow_putRow (q := q) h1 (ys := d'.toList) hdl (Nat.le_refl _)
      rw [List.take_of_length_le (by omega)] at h2
      unfold sortWorld
      exact ownsRow_grow_ h2
    refine ⟨rfl, d'.toList.map (fun i => vs.getD i (.slice none 0 0)), d'.toList.map (fun i => L.getD i []), ⟨by rw [List.length_map, hdl]; exact hrow, fun i u l hu hl => ?_, fun u hu g' hg' => ?_⟩, hperm, fun i j a b hij ha hb => ?_, hgr⟩
    · rw [List.getElem?_map] at hu hl
      obtain ⟨k, hk, rfl⟩ := Option.map_eq_some_iff.1 hu
      rw [hk] at hl
      obtain rfl := Option.some.inj hl
      have hkl := hmem k (List.mem_of_getElem? hk)
      have e1 : vs[k]? = some (vs.getD k (.slice none 0 0)) := by rw [List.getD_eq_getElem?_getD, List.getElem?_eq_getElem (by omega)]; rfl
      have e2 : L[k]? = some (L.getD k []) := by rw [List.getD_eq_getElem?_getD, List.getElem?_eq_getElem hkl]; rfl
      have ho := h.rows k _ _ e1 e2
      exact ownsRow_of_heap ho (fun g' hg' => hgr.block g' (ho.lt g' hg').2 (fun e => h.apart _ (List.mem_of_getElem? e1) g' hg' e.symm))
    · obtain ⟨k, hk, rfl⟩ := List.mem_map.1 hu
      have hkl := hmem k hk
      have e1 : vs[k]? = some (vs.getD k (.slice none 0 0)) := by rw [List.getD_eq_getElem?_getD, List.getElem?_eq_getElem (by omega)]; rfl
      exact h.apart _ (List.mem_of_getElem? e1) g' hg'
    · rw [List.getElem?_map] at ha hb
      obtain ⟨k, hk, rfl⟩ := Option.map_eq_some_iff.1 ha
      obtain ⟨k', hk', rfl⟩ := Option.map_eq_some_iff.1 hb
      have hjl : j < L.length := by have := (List.getElem?_eq_some_iff.1 hk').1; omega
      have h1 := hs i j (Nat.zero_le _) hij hjl
      have e1 : d'[i]! = k := by
        rw [getElem!_pos d' i (by omega)]
        have := (List.getElem?_eq_some_iff.1 hk).2
        simpa using this
      have e2 : d'[j]! = k' := by
        rw [getElem!_pos d' j (by omega)]
        have := (List.getElem?_eq_some_iff.1 hk').2
        simpa using this
      rw [e1, e2] at h1
      simpa [ltOf] using h1
  · obtain ⟨a, c, rfl⟩ := own_shape' h.row
    obtain rfl : L = [] := List.eq_nil_of_length_eq_zero (by omega)
    refine (Tryz.slices_SortFunc_none (α := Nat) a c _ w).mono ?_
    rintro e w' ⟨rfl, rfl⟩
    exact ⟨rfl, vs, [], h, List.Perm.refl _, (fun i j a b _ ha => by simp at ha), rfl, rfl, rfl, Nat.le_refl _, fun _ _ _ => rfl⟩
end Go.Proofs.YtbkoifdnlaihfaaGreat
namespace Go.Proofs.YtbkoifdnlaihfaaGreat
open Go.RowKit Go.Sort

theorem intsR_info : (Tryz.prog.info? 22).map (fun i => (i.zero, i.size, i.bytes)) = some (some (.slice none 0 0), 1, 24) := by kernel_rfl

def ListsPost (ps : List (List Int)) (w : World) (e : Ending) (w' : World) : Prop :=
  ∃ v vs L, e = .returned v ∧ LolI w' w.heap.size v vs L ∧ L.Perm (ps.map sortI) ∧ (∀ (i j : Nat) (a b : List Int), i < j → L[i]? = some a → L[j]? = some b → ¬ cmpL b a < 0) ∧ Below w.heap.size w w'

set_option maxHeartbeats 2000000 in
theorem lists_calls (lo : Nat) (v : Value) (vs : List Value) (ps : List (List Int)) (w : World) (h : LolG 104 100 nodeV w lo v vs ps) (hn : ps.length ≤ 1000000) (hm : ∀ l ∈ ps, l.length ≤ 1000000) :
    Calls Tryz.prog 78 #[v] w (ListsPost ps w) := by
  obtain ⟨a0, c0, rfl⟩ := own_shape' h.row
  have HL := Lib.hid h
  have HM := Lib.hid hm
  clear h hm
  obtain ⟨i0, hi0, hz0, hz1, hz2⟩ := info_parts intsR_info
  have HI := Lib.hid (And.intro hi0 (And.intro hz0 (And.intro hz1 hz2)))
  clear hi0 hz0 hz1 hz2
  go_enter Tryz.func78, Tryz.ntmps78
  go_wp2_with fail
  go_loopw [3, 9] (fun v i wr => ∃ (k : Nat) (vs2 : List Value), k ≤ ps.length ∧ i = .int .i64 k ∧ LolI wr w.heap.size v vs2 ((ps.take k).map sortI) ∧ Below w.heap.size w wr) (fun _ i _ => ps.length - (intOf i).toNat)
  case atStart => exact ⟨0, [], by omega, rfl, LolG.nil _ _, Below.refl _ _⟩
  case round =>
    obtain ⟨k, vs2, hk, rfl, ho, hb⟩ := hrel
    have hln : ((ps.take k).map sortI).length = k := by simp; omega
    have HLN := Lib.hid hln
    clear hln
    have hor := ho.row
    rw [HLN.out] at hor
    obtain ⟨a1, c1, rfl⟩ := own_shape' hor
    clear hor
    have HO := Lib.hid ho; have HB := Lib.hid hb
    have hszr := hb.size
    clear ho
    by_cases hlt : k < ps.length
    · obtain ⟨g, cap, he, hg0, hg1, -⟩ := own_form HL.out.row (by omega)
      simp only [Value.slice.injEq, true_and] at he
      obtain ⟨rfl, rfl⟩ := he
      have hvl := HL.out.len
      obtain ⟨u, hu⟩ : ∃ u, vs[k]? = some u := ⟨vs[k]'(by omega), List.getElem?_eq_getElem (by omega)⟩
      obtain ⟨p, hp⟩ : ∃ p, ps[k]? = some p := ⟨ps[k], List.getElem?_eq_getElem hlt⟩
      have hpo := HL.out.rows k u p hu hp
      obtain ⟨a2, c2, rfl⟩ := own_shape' hpo
      have hcz := (own_at HL.out.row hu).1
      have hck := (hb.cell (p := ⟨g, k, none⟩) hg1).trans hcz
      have hbr : g < wr.heap.size := by omega
      have HP := Lib.hid hp
      have HPO := Lib.hid (ownsRow_of_heap (w' := wr) hpo (fun g' hg' => hb.block g' (hpo.lt g' hg').2))
      have hpm : p.length ≤ 1000000 := HM.out p (List.mem_of_getElem? hp)
      clear hcz hb hu hp hpo
      go_wp2_with fail
      refine (numbers_calls lo a2 p.length c2 p wr HPO.out hpm).mono ?_
      rintro e w2 ⟨v2, rfl, hv2, hb2⟩
      have HV2 := Lib.hid hv2
      obtain ⟨a3, c3, rfl⟩ := own_shape' hv2
      have HB2 := Lib.hid hb2
      clear hv2 hb2
      go_wp2_with fail
      refine (sortInt_calls wr.heap.size _ _ p w2 HV2.out (by omega)).mono ?_
      rintro e w3 ⟨rfl, ho3, hg3⟩
      have HO3 := Lib.hid ho3
      have HB3 : Hid (Below wr.heap.size wr w3) := HB2.out.grown hg3 (HB2.out.size) (fun j hj => (HV2.out.lt j hj).1)
      clear ho3 hg3
      have HL3 : Hid (LolI w3 w.heap.size (.slice a1 k c1) vs2 ((ps.take k).map sortI)) := HO.out.of_heap (fun j hj => HB3.out.block j (HO.out.lt hj).2)
      obtain ⟨hi0, hz0, hz1, hz2⟩ := HI.out
      have hsm : (k + 1) * 24 ≤ 140737488355328 := by omega
      have hs3 := HB3.out.size
      have HRW : Hid (w3.ownsRow w.heap.size 22 1 (.slice a1 k c1) k vs2) := by have h := HL3.out.row; rw [HLN.out] at h; exact h
      go_wp2_with (at_builtin; refine wpList_append_own_at _ rfl _ _ 35 rfl w.heap.size 22 i0 (.slice none 0 0) 1 24 Tryz.underlying35 hi0 hz0 hz1 hz2 rfl (by decide) (.slice a1 k c1) k vs2 rfl (HRW.out.alloc _) ⟨w3.heap.size, 0, none⟩ 1 1 [.slice a3 p.length c3] rfl rfl ?c1 ?c2 ?c3 ?c4 ?c5 ?_)
      case c1 => intro j u hj; match j, hj with | 0, hj => simp at hj; subst hj; simp [Addr.add]
      case c2 => intro u hu; simp at hu; subst hu; rfl
      case c3 => unfold maxLen; omega
      case c4 => exact hsm
      case c5 => simp; omega
      intro v' w' hown' hgrow _ hloc
      obtain ⟨a', c', rfl⟩ := own_shape' hown'
      have hfr : Fresh w3 (.slice a1 k c1) (.slice a' (k + 1) c') := hloc.imp id fun h g hg => by rw [h] at hg; have := Option.some.inj hg; omega
      have hsl : (sortI p).length = p.length := sortI_len p
      have HL' : Hid (LolI w' w.heap.size (.slice a' (k + 1) c') (vs2 ++ [.slice a3 p.length c3]) ((ps.take k).map sortI ++ [sortI p])) :=
        HL3.out.more (by rw [hsl]; exact own_lower HO3.out (by omega)) (fun g hg hj => by have h1 := (HO3.out.lt g hg).1; have h2 := (HO.out.lt hj).2; omega) (by rw [HLN.out]; exact hown') (fun j h1 h2 => by rw [hgrow.block j (by simp; omega) h2]; exact heap_alloc_old _ _ h1) hfr
      have HB' : Hid (Below w.heap.size w w') := ((HB.out.trans (HB3.out.mono hszr)).alloc (by omega) _).grown hgrow (by simp; omega) (fun j hj => (HRW.out.lt j hj).1)
      clear hown' hgrow hfr hloc
      go_wp2
      go_roundw
      case rel =>
        refine ⟨k + 1, vs2 ++ [.slice a3 p.length c3], by omega, by go_num, ?_, HB'.out⟩
        have e2 : (ps.take (k + 1)).map sortI = (ps.take k).map sortI ++ [sortI p] := by
          rw [List.take_succ_eq_append_getElem hlt, List.map_append]
          have := (List.getElem?_eq_some_iff.1 HP.out).2; simp [this]
        rw [e2]; exact HL'.out
      case measure => simp [intOf]; omega
    · obtain rfl : k = ps.length := by omega
      have e3 : (ps.take ps.length).map sortI = ps.map sortI := by rw [List.take_length]
      rw [e3] at HO HLN
      go_wp2_with fail
      refine (sortLol_calls w.heap.size _ _ _ wr HO.out (by rw [HLN.out]; exact hn) (fun l hl => by obtain ⟨p, hp, rfl⟩ := List.mem_map.1 hl; rw [sortI_len]; exact HM.out p hp)).mono ?_
      rintro e w4 ⟨rfl, vs', L', h1, h2, h3, h4⟩
      have HR := Lib.hid (And.intro h1 (And.intro h2 h3))
      have HB4 : Hid (Below w.heap.size w w4) := HB.out.grown h4 hszr (fun j hj => (HO.out.row.lt j hj).1)
      clear h1 h2 h3 h4
      go_wp2_with fail
      go_ret
      exact ⟨_, vs', L', rfl, HR.out.1, HR.out.2.1, (fun i j a b q1 q2 q3 => Int.not_lt.2 (HR.out.2.2 i j a b q1 q2 q3)), HB4.out⟩
end Go.Proofs.YtbkoifdnlaihfaaGreat
namespace Go.Proofs.YtbkoifdnlaihfaaGreat
open Go.RowKit

/-- What Components answers. -/
def CompPost (d : Bool) (ns : List Int) (es : List (Int × Int × Int)) (w : World) (e : Ending) (w' : World) : Prop :=
  ∃ v : Value, e = .returned (.tuple #[v, .bool (!(wellB ns es && !d))]) ∧
    (if wellB ns es && !d then ∃ vs L ps, LolI w' w.heap.size v vs L ∧ CompsFrom (sortI ns) (nextL (sortI ns) (rowsFrom false (sortI ns) es).1) (sortI ns) [] ps ∧ L.Perm (ps.map sortI) ∧ (∀ (i j : Nat) (a b : List Int), i < j → L[i]? = some a → L[j]? = some b → ¬ cmpL b a < 0) else v = .slice none 0 0) ∧ Below w.heap.size w w'

theorem compsFrom_len {ids : List Int} {adj : Int → List Int} : ∀ (l vis : List Int) (ps : List (List Int)), CompsFrom ids adj l vis ps → ps.length ≤ l.length ∧ ∀ p ∈ ps, p.length ≤ ids.length
  | [], vis, ps, h => by
    have h' : ps = [] := h
    subst h'; simp
  | x :: r, vis, ps, h => by
    rcases h with ⟨_, h⟩ | ⟨_, p, ps', rfl, hp, h⟩
    · obtain ⟨h1, h2⟩ := compsFrom_len r vis ps h
      exact ⟨by simp; omega, h2⟩
    · obtain ⟨h1, h2⟩ := compsFrom_len r (vis ++ p) ps' h
      refine ⟨by simp; omega, fun q hq => ?_⟩
      rcases List.mem_cons.1 hq with rfl | hq
      · exact nodup_len hp.nodup hp.sub
      · exact h2 q hq

set_option maxHeartbeats 4000000 in
set_option maxRecDepth 100000 in
theorem components_calls (d : Bool) (an ae : Option Addr) (n cn m ce : Nat) (ns : List Int) (es : List (Int × Int × Int)) (w : World) (hn : RdI w an n ns) (hr : RdE w ae m es) (hn8 : n ≤ 100000) (hwf : ∀ x ∈ ns, (Lit.int .i64 x).wf = true) :
    Calls Tryz.prog 33 #[.agg #[.bool d, .slice an n cn, .slice ae m ce]] w (CompPost d ns es w) := by
  have HR := Lib.hid hr; clear hr
  have HN := Lib.hid hn; clear hn
  have HWF := Lib.hid hwf; clear hwf
  go_enter Tryz.func33, Tryz.ntmps33
  go_wp2_with fail
  obtain ⟨w1, hw1⟩ : ∃ w1, w1 = w.alloc (.cells #[.bool d, .slice an n cn, .slice ae m ce] 25) := ⟨_, rfl⟩
  have HB1 : Hid (Below w.heap.size w w1) := by rw [hw1]; exact (Below.refl _ _).alloc (Nat.le_refl _) _
  rw [← hw1]
  clear hw1
  refine (bothWaysG_calls d an ae n cn m ce ns es w1 (HN.out.below HB1.out (Nat.le_refl _)) (HR.out.below HB1.out (Nat.le_refl _)) (by omega)).mono ?_
  rintro e w2 ⟨hb, bp, rfl, hst⟩
  have HB2 := Lib.hid (HB1.out.trans (hb.mono HB1.out.size))
  have HST := Lib.hid hst
  have HLEN := Lib.hid HN.out.len
  clear hb hst
  obtain ⟨b, hb⟩ : ∃ b, (wellB ns es && (d == false)) = b := ⟨_, rfl⟩
  have HBB := Lib.hid hb
  rw [hb]
  clear hb
  cases b
  · have HGOOD : Hid ((wellB ns es && !d) = false) := by
      have := HBB.out
      unfold Hid
      cases d <;> simp at this ⊢
      exact this
    go_wp2_with fail
    refine bodyPost_ret (v := .tuple #[.slice none 0 0, .bool true]) (by simp [results, Tryz.results33, go_sem]) rfl ?_
    exact ⟨.slice none 0 0, by rw [HGOOD.out]; rfl, by rw [HGOOD.out]; exact rfl, HB2.out.alloc HB2.out.size _⟩
  · obtain ⟨hwell, rfl⟩ : wellB ns es = true ∧ d = false := by
      have := HBB.out
      cases d <;> simp at this
      exact ⟨this, rfl⟩
    have HG2 := Lib.hid (HST.out hwell)
    have HWELL := Lib.hid hwell
    clear hwell HST
    have hlen := HLEN.out
    have HIL : Hid ((sortI ns).length ≤ 100000) := by unfold Hid; rw [sortI_len]; omega
    have HADJ : Hid (∀ y ∈ sortI ns, (nextL (sortI ns) (rowsFrom false (sortI ns) es).1 y).length ≤ 100000) := fun y hy => Nat.le_trans (HG2.out.2.len_out hy) HIL.out
    have HWF2 : Hid (∀ x ∈ sortI ns, (Lit.int .i64 x).wf = true) := fun x hx => HWF.out x (mem_sortI.1 hx)
    obtain ⟨hbp, hgr⟩ := HG2.out
    have HG2 := Lib.hid hgr
    clear hlen hgr
    go_wp2_with fail
    obtain ⟨w3, hw3⟩ : ∃ w3, w3 = w2.alloc (.cells #[.pointer (some ⟨bp, 0, none⟩)] 96) := ⟨_, rfl⟩
    have HB3 : Hid (Below w2.heap.size w2 w3) := by rw [hw3]; exact (Below.refl _ _).alloc (Nat.le_refl _) _
    rw [← hw3]
    clear hw3
    refine (cc_calls (uGraphR bp _ _ _) (HG2.out.later HB3.out) HWF2.out 100000 HADJ.out (Nat.le_refl _) HIL.out).mono ?_
    rintro e w4 ⟨v4, vs4, ps, rfl, hl4, hc4, hb4⟩
    have HL4 := Lib.hid hl4; have HC4 := Lib.hid hc4
    have HB4 : Hid (Below w.heap.size w w4) := HB2.out.trans ((HB3.out.trans (hb4.mono HB3.out.size)).mono HB2.out.size)
    obtain ⟨hq1, hq2⟩ := compsFrom_len _ _ _ hc4
    have HQ2 := Lib.hid hq2
    have hil := HIL.out
    clear hl4 hc4 hb4 hq2
    go_wp2_with fail
    refine (lists_calls _ v4 vs4 ps w4 HL4.out (by omega) (fun l hl => by have := HQ2.out l hl; omega)).mono ?_
    rintro e w5 ⟨v5, vs5, L, rfl, h1, h2, h3, h4⟩
    have H1 := Lib.hid h1; have H2 := Lib.hid h2; have H3 := Lib.hid h3; have H4 := Lib.hid h4
    clear h1 h2 h3 h4
    go_wp2_with fail
    refine bodyPost_ret (v := .tuple #[v5, .bool false]) (by simp [results, Tryz.results33, go_sem]) rfl ?_
    have hgood : (wellB ns es && !false) = true := by rw [HWELL.out]; rfl
    refine ⟨v5, by rw [hgood]; rfl, ?_, HB4.out.trans (H4.out.mono HB4.out.size)⟩
    rw [hgood, if_pos rfl]
    exact ⟨vs5, L, ps, H1.out.lower HB4.out.size, HC4.out, H2.out, (fun i j a b q1 q2 q3 => Int.not_lt.2 (by have := H3.out i j a b q1 q2 q3; omega))⟩
end Go.Proofs.YtbkoifdnlaihfaaGreat
