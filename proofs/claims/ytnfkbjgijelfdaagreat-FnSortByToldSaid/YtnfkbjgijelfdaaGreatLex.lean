/- Lists of ints in lexical order; the walk of the laws' own before; lists of lists that are read; the walks of slices.EqualFunc and laws.sameLists, where both say the same. -/
import Derived.Test.YtnfkbjgijelfdaaGreatLolG
import Derived.Test.YtnfkbjgijelfdaaGreatSameG
import Derived.Test.YtnfkbjgijelfdaaGreatTarP
namespace Go.Proofs.YtnfkbjgijelfdaaGreat
open Go.RowKit

/-- A list of lists of ints. -/
abbrev LolI (w : World) (lo : Nat) (v : Value) (vs : List Value) (ls : List (List Int)) : Prop := LolG 22 3 (Value.int .i64) w lo v vs ls

/-- One step of the order of two lists, at place k. -/
theorem cmpL_at (xs ys : List Int) (k : Nat) (hx : k < xs.length) (hy : k < ys.length) : cmpL (xs.drop k) (ys.drop k) = if xs[k] < ys[k] then -1 else if ys[k] < xs[k] then 1 else cmpL (xs.drop (k + 1)) (ys.drop (k + 1)) := by
  rw [List.drop_eq_getElem_cons hx, List.drop_eq_getElem_cons hy, cmpL_cons]
theorem cmpL_end (xs ys : List Int) (k : Nat) (h : xs.length ≤ k ∨ ys.length ≤ k) (hx : k ≤ xs.length) (hy : k ≤ ys.length) : decide (cmpL (xs.drop k) (ys.drop k) < 0) = decide (xs.length < ys.length) := by
  by_cases h1 : k < xs.length
  · have e : ys.drop k = [] := List.drop_eq_nil_of_le (by omega)
    rw [e, List.drop_eq_getElem_cons h1]
    have : ¬ xs.length < ys.length := by omega
    simp [cmpL, this]
  · have e : xs.drop k = [] := List.drop_eq_nil_of_le (by omega)
    rw [e, cmpL_nil_left]
    by_cases h2 : k < ys.length
    · have e2 : ys.drop k ≠ [] := fun h => by have := congrArg List.length h; simp at this; omega
      have : xs.length < ys.length := by omega
      simp [e2, this]
    · have e2 : ys.drop k = [] := List.drop_eq_nil_of_le (by omega)
      have : ¬ xs.length < ys.length := by omega
      simp [e2, this]

theorem rdi_get {w : World} {a : Option Addr} {n : Nat} {zs : List Int} (h : RdI w a n zs) {k : Nat} (hk : k < n) : ∃ b off z, a = some ⟨b, off, none⟩ ∧ zs[k]? = some z ∧ b < w.heap.size ∧ w.cell? ⟨b, off + k, none⟩ = some (.int .i64 z) := by
  obtain ⟨b, off, rfl, hb, hc⟩ := h.at_ (by omega)
  obtain ⟨z, hz, hcz⟩ := hc k hk
  have hl : k < zs.length := by have := h.len; omega
  refine ⟨b, off, z, rfl, ?_, hb, hcz⟩
  have := hz.out
  rw [List.getD_eq_getElem?_getD, List.getElem?_eq_getElem hl] at this
  rw [List.getElem?_eq_getElem hl]
  exact congrArg some (by simpa using this)

theorem drewN2_ (w : World) (a b : Nat) : (w.drewN a).drewN b = w.drewN (a + b) := by simp [World.drewN, Nat.add_assoc]

set_option maxHeartbeats 2000000 in
theorem before_calls (a b : Option Addr) (n m c d : Nat) (xs ys : List Int) (w : World) (hx : RdI w a n xs) (hy : RdI w b m ys) (hn : n ≤ 1000000) (hm : m ≤ 1000000) :
    Calls Tryz.prog 48 #[.slice a n c, .slice b m d] w fun e w' => e = .returned (.bool (decide (cmpL xs ys < 0))) ∧ ∃ q, w' = w.drewN q := by
  have HX := Lib.hid hx; have HY := Lib.hid hy
  have HXL := Lib.hid hx.len; have HYL := Lib.hid hy.len
  clear hx hy
  go_enter Tryz.func48, Tryz.ntmps48
  go_wp2
  go_loopw [5] (fun i wr => ∃ k : Nat, k ≤ n ∧ k ≤ m ∧ i = .int .i64 k ∧ Hid (cmpL (xs.drop k) (ys.drop k) = cmpL xs ys) ∧ ∃ q, wr = w.drewN q) (fun i _ => n - (intOf i).toNat)
  case atStart => exact ⟨0, by omega, by omega, rfl, by simp [Hid], 0, rfl⟩
  case round =>
    obtain ⟨k, hkn, hkm, rfl, HC, q, rfl⟩ := hrel
    by_cases hlt : k < n
    · by_cases hlt2 : k < m
      · obtain ⟨bx, ox, x, rfl, hxk, hbx, hxc⟩ := rdi_get HX.out hlt
        obtain ⟨by_, oy, y, rfl, hyk, hby, hyc⟩ := rdi_get HY.out hlt2
        have hc := HC.out
        rw [cmpL_at xs ys k (by have := HXL.out; omega) (by have := HYL.out; omega), (List.getElem?_eq_some_iff.1 hxk).2, (List.getElem?_eq_some_iff.1 hyk).2] at hc
        by_cases hxy : x = y
        · subst hxy
          rw [if_neg (by omega), if_neg (by omega)] at hc
          have HC3 := Lib.hid hc
          clear hc HC hxk hyk
          go_wp2
          go_quiet (fail)
          go_wp2
          go_roundw
          case rel => exact ⟨k + 1, by omega, by omega, by go_num, HC3, _, rfl⟩
          case measure => simp [intOf]; omega
        · have hd : Hid (decide (cmpL xs ys < 0) = decide (x < y)) := by
            rw [← hc]
            by_cases h1 : x < y
            · rw [if_pos h1]; simp [Hid, h1]
            · rw [if_neg h1, if_pos (by omega)]; simp [Hid, h1]
          clear hc HC hxk hyk
          go_wp2
          go_quiet (fail)
          go_wp2
          go_quiet (fail)
          go_wp2
          go_ret
          exact ⟨ret_bool hd.out.symm, by rw [drewN2_, drewN2_]; exact ⟨_, rfl⟩⟩
      · have hd : Hid (decide (cmpL xs ys < 0) = decide (n < m)) := by
          have h := cmpL_end xs ys k (.inr (by have := HYL.out; omega)) (by have := HXL.out; omega) (by have := HYL.out; omega)
          rw [HC.out, HXL.out, HYL.out] at h
          exact h
        clear HC
        go_wp2
        go_ret
        exact ⟨ret_bool (by rw [hd.out]), _, rfl⟩
    · have hd : Hid (decide (cmpL xs ys < 0) = decide (n < m)) := by
        have h := cmpL_end xs ys k (.inl (by have := HXL.out; omega)) (by have := HXL.out; omega) (by have := HYL.out; omega)
        rw [HC.out, HXL.out, HYL.out] at h
        exact h
      clear HC
      go_wp2
      go_ret
      exact ⟨ret_bool (by rw [hd.out]), _, rfl⟩

theorem lol_rd {w : World} {lo : Nat} {v : Value} {vs : List Value} {ls : List (List Int)} {k : Nat} (h : LolG 22 3 (Value.int .i64) w lo v vs ls) (hk : k < ls.length) :
    ∃ g c a n c' l, v = .slice (some ⟨g, 0, none⟩) ls.length c ∧ g < w.heap.size ∧ w.cell? ⟨g, k, none⟩ = some (.slice a n c') ∧ ls[k]? = some l ∧ RdI w a n l := by
  obtain ⟨g, c, rfl, _, hg, _⟩ := own_form h.row (by omega)
  have hl := h.len
  have e1 : vs[k]? = some vs[k] := List.getElem?_eq_getElem (by omega)
  have e2 : ls[k]? = some ls[k] := List.getElem?_eq_getElem hk
  obtain ⟨a, c', e, hr⟩ := RdI.of_owns (h.rows k _ _ e1 e2)
  refine ⟨g, c, a, _, c', ls[k], rfl, hg, ?_, e2, hr⟩
  rw [← e]; exact (own_at h.row e1).1

/-- A slice (address a, length n) of slices of ints reads as ls in w. -/
structure RdL (w : World) (a : Option Addr) (n : Nat) (ls : List (List Int)) : Prop where
  len : ls.length = n
  small : n ≤ 9223372036854775807
  at_ : 0 < n → ∃ b off, a = some ⟨b, off, none⟩ ∧ b < w.heap.size ∧ ∀ j, j < n → ∃ aj nj cj l, Hid (ls[j]? = some l) ∧ w.cell? ⟨b, off + j, none⟩ = some (.slice aj nj cj) ∧ RdI w aj nj l

theorem RdL.below {w w' : World} {a : Option Addr} {n : Nat} {ls : List (List Int)} {B : Nat} (h : RdL w a n ls) (hb : Below B w w') (hB : w.heap.size ≤ B) : RdL w' a n ls :=
  ⟨h.len, h.small, fun h0 => by
    obtain ⟨b, off, e, hb', hc⟩ := h.at_ h0
    exact ⟨b, off, e, Nat.lt_of_lt_of_le hb' hb.size, fun j hj => by
      obtain ⟨aj, nj, cj, l, h1, h2, h3⟩ := hc j hj
      exact ⟨aj, nj, cj, l, h1, (hb.cell (p := ⟨b, off + j, none⟩) (by show b < B; omega)).trans h2, h3.below hb hB⟩⟩⟩

theorem LolG.rd {w : World} {lo : Nat} {a : Option Addr} {n c : Nat} {vs : List Value} {ls : List (List Int)} (h : LolG 22 3 (Value.int .i64) w lo (.slice a n c) vs ls) : RdL w a n ls := by
  have hlen := h.len
  have hr := h.row
  rcases hr.2 with ⟨e, h0⟩ | ⟨g, cap, cur, e, hb, hg, h3, h4, h5, h6⟩
  · simp only [Value.slice.injEq] at e
    exact ⟨by omega, by omega, fun h1 => by omega⟩
  · simp only [Value.slice.injEq] at e
    obtain ⟨rfl, rfl, rfl⟩ := e
    refine ⟨rfl, by unfold maxLen at h4; omega, fun _ => ⟨g, 0, rfl, (Array.getElem?_eq_some_iff.1 hg).1, fun j hj => ?_⟩⟩
    have hj2 : j < vs.length := by omega
    have hcell : w.cell? ⟨g, 0 + j, none⟩ = some vs[j] := by
      rw [cell_of_row w g _ cur _ (0, 0) hg, Nat.zero_add]
      have h7 : (cur.toList.take (ls.length * 1))[j]? = vs[j]? := by rw [h6]
      rw [List.getElem?_take_of_lt (by omega)] at h7
      rw [← Array.getElem?_toList, h7]
      exact List.getElem?_eq_getElem hj2
    have hrow := h.rows j vs[j] ls[j] (List.getElem?_eq_getElem hj2) (List.getElem?_eq_getElem hj)
    obtain ⟨aj, cj, e, hrd⟩ := RdI.of_owns hrow
    exact ⟨aj, _, cj, ls[j], Lib.hid (List.getElem?_eq_getElem hj), by rw [hcell, e], hrd⟩

set_option maxHeartbeats 1000000 in
theorem equalL_calls (a a' : Option Addr) (n c c' : Nat) (ls : List (List Int)) (w : World) (h : RdL w a n ls) (h' : RdL w a' n ls) :
    Calls Tryz.prog 45 #[.slice a n c, .slice a' n c', .func (.func 46) #[] #[]] w fun e w' => e = .returned (.bool true) ∧ ∃ q, w' = w.drewN q := by
  have hs := h.small
  have H := Lib.hid h; have H' := Lib.hid h'
  clear h h'
  go_enter Tryz.func45, Tryz.ntmps45
  go_wp2_with fail
  go_loopw [17] (fun i wr => ∃ (k q : Nat), k ≤ n ∧ i = .int .i64 k ∧ wr = w.drewN q) (fun i _ => n - (intOf i).toNat)
  case atStart => exact ⟨0, 0, by omega, rfl, rfl⟩
  case round =>
    obtain ⟨k, q, hk, rfl, rfl⟩ := hrel
    by_cases hlt : k < n
    · obtain ⟨b, off, rfl, hb, hc⟩ := H.out.at_ (by omega)
      obtain ⟨b', off', rfl, hb', hc'⟩ := H'.out.at_ (by omega)
      obtain ⟨aj, nj, cj, l, HZ, hcz, hrz⟩ := hc k hlt
      obtain ⟨aj', nj', cj', l', HZ', hcz', hrz'⟩ := hc' k hlt
      obtain rfl : l = l' := by have := HZ.out.symm.trans HZ'.out; simpa using this
      obtain rfl : nj = nj' := hrz.len.symm.trans hrz'.len
      have HR := Lib.hid hrz; have HR' := Lib.hid hrz'
      clear hc hc' hrz hrz'
      go_wp2_with fail
      refine (equalI_calls aj aj' nj cj cj' l (w.drewN q) (HR.out.drewN q) (HR'.out.drewN q)).mono ?_
      rintro e w1 ⟨rfl, q1, rfl⟩
      go_wp2_with fail
      go_roundw
      case rel => exact ⟨k + 1, _, by omega, by go_num, rfl⟩
      case measure => simp [intOf]; omega
    · go_wp2
      go_ret
      exact ⟨rfl, q, rfl⟩

set_option maxHeartbeats 400000 in
theorem sameLists_calls (a a' : Option Addr) (n c c' : Nat) (ls : List (List Int)) (w : World) (h : RdL w a n ls) (h' : RdL w a' n ls) :
    Calls Tryz.prog 12 #[.slice a n c, .slice a' n c'] w fun e w' => e = .returned (.bool true) ∧ ∃ q, w' = w.drewN q := by
  have H := Lib.hid h; have H' := Lib.hid h'
  clear h h'
  go_enter Tryz.func12, Tryz.ntmps12
  go_wp2_with fail
  refine (equalL_calls a a' n c c' ls w H.out H'.out).mono ?_
  rintro e w1 ⟨rfl, q, rfl⟩
  go_wp2_with fail
  go_ret
  exact ⟨rfl, q, rfl⟩
end Go.Proofs.YtnfkbjgijelfdaaGreat
