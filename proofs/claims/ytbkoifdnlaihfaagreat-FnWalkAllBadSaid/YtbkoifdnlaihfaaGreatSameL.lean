/- Lists of lists that are read; the walks of slices.EqualFunc and laws.sameLists, where both say the same. -/
import Derived.Test.YtbkoifdnlaihfaaGreatWalkAllI
import Derived.Test.YtbkoifdnlaihfaaGreatSameG
namespace Go.Proofs.YtbkoifdnlaihfaaGreat
open Go.RowKit

/-- A slice (address a, length n) of slices of ints reads as ls in w. -/
structure RdL (w : World) (a : Option Addr) (n : Nat) (ls : List (List Int)) : Prop where
  len : ls.length = n
  small : n ≤ 9223372036854775807
  at_ : 0 < n → ∃ b off, a = some ⟨b, off, none⟩ ∧ b < w.heap.size ∧ ∀ j, j < n → ∃ aj nj cj l, Hid (ls[j]? = some l) ∧ w.cell? ⟨b, off + j, none⟩ = some (.slice aj nj cj) ∧ RdI w aj nj l

theorem RdL.below {w w' : World} {a : Option Addr} {n : Nat} {ls : List (List Int)} {B : Nat} (h : RdL w a n ls) (hb : Below B w w') (hB : w.heap.size ≤ B) : RdL w' a n ls :=
  ⟨h.len, h.small, fun h0 => by
    obtain ⟨b, off, e, hb', hc⟩ := h.at_ h0
    exact ⟨b, off, e, Nat.lt_of_lt_of_le hb' hb.size, fun j hj => by
      obtain ⟨aj, nj, cj, l, h1, h2, h3⟩ := hc j hj
      exact ⟨aj, nj, cj, l, h1, (hb.cell (p := ⟨b, off + j, none⟩) (by show b < B; omega)).trans h2, h3.below hb hB⟩⟩⟩

theorem LolAt.rd {w : World} {lo : Nat} {a : Option Addr} {n c : Nat} {vs : List Value} {ls : List (List Int)} (h : LolAt w lo (.slice a n c) vs ls) : RdL w a n ls := by
  have hlen := h.len
  have hr := h.row
  rcases hr.2 with ⟨e, h0⟩ | ⟨g, cap, cur, e, hb, hg, h3, h4, h5, h6⟩
  · simp only [Value.slice.injEq] at e
    exact ⟨by omega, by omega, fun h1 => by omega⟩
  · simp only [Value.slice.injEq] at e
    obtain ⟨rfl, rfl, rfl⟩ := e
    refine ⟨rfl, by unfold maxLen at h4; omega, fun _ => ⟨g, 0, rfl, (Array.getElem?_eq_some_iff.1 hg).1, fun j hj => ?_⟩⟩
    have hj2 : j < vs.length := by omega
    have hcell : w.cell? ⟨g, 0 + j, none⟩ = some vs[j] := by
      rw [cell_of_row w g _ cur _ (0, 0) hg, Nat.zero_add]
      have h7 : (cur.toList.take (ls.length * 1))[j]? = vs[j]? := by rw [h6]
      rw [List.getElem?_take_of_lt (by omega)] at h7
      rw [← Array.getElem?_toList, h7]
      exact List.getElem?_eq_getElem hj2
    have hrow := h.rows j vs[j] ls[j] (List.getElem?_eq_getElem hj2) (List.getElem?_eq_getElem hj)
    obtain ⟨aj, cj, e, hrd⟩ := RdI.of_owns hrow
    exact ⟨aj, _, cj, ls[j], Lib.hid (List.getElem?_eq_getElem hj), by rw [hcell, e], hrd⟩

set_option maxHeartbeats 1000000 in
theorem equalL_calls (a a' : Option Addr) (n c c' : Nat) (ls : List (List Int)) (w : World) (h : RdL w a n ls) (h' : RdL w a' n ls) :
    Calls Tryz.prog 104 #[.slice a n c, .slice a' n c', .func (.func 50) #[] #[]] w fun e w' => e = .returned (.bool true) ∧ ∃ q, w' = w.drewN q := by
  have hs := h.small
  have H := Lib.hid h; have H' := Lib.hid h'
  clear h h'
  go_enter Tryz.func104, Tryz.ntmps104
  go_wp2_with fail
  go_loopw [17] (fun i wr => ∃ (k q : Nat), k ≤ n ∧ i = .int .i64 k ∧ wr = w.drewN q) (fun i _ => n - (intOf i).toNat)
  case atStart => exact ⟨0, 0, by omega, rfl, rfl⟩
  case round =>
    obtain ⟨k, q, hk, rfl, rfl⟩ := hrel
    by_cases hlt : k < n
    · obtain ⟨b, off, rfl, hb, hc⟩ := H.out.at_ (by omega)
      obtain ⟨b', off', rfl, hb', hc'⟩ := H'.out.at_ (by omega)
      obtain ⟨aj, nj, cj, l, HZ, hcz, hrz⟩ := hc k hlt
      obtain ⟨aj', nj', cj', l', HZ', hcz', hrz'⟩ := hc' k hlt
      obtain rfl : l = l' := by have := HZ.out.symm.trans HZ'.out; simpa using this
      obtain rfl : nj = nj' := hrz.len.symm.trans hrz'.len
      have HR := Lib.hid hrz; have HR' := Lib.hid hrz'
      clear hc hc' hrz hrz'
      go_wp2_with fail
      refine (equalI_calls aj aj' nj cj cj' l (w.drewN q) (HR.out.drewN q) (HR'.out.drewN q)).mono ?_
      rintro e w1 ⟨rfl, q1, rfl⟩
      go_wp2_with fail
      go_roundw
      case rel => exact ⟨k + 1, _, by omega, by go_num, rfl⟩
      case measure => simp [intOf]; omega
    · go_wp2
      go_ret
      exact ⟨rfl, q, rfl⟩

set_option maxHeartbeats 400000 in
theorem sameLists_calls (a a' : Option Addr) (n c c' : Nat) (ls : List (List Int)) (w : World) (h : RdL w a n ls) (h' : RdL w a' n ls) :
    Calls Tryz.prog 63 #[.slice a n c, .slice a' n c'] w fun e w' => e = .returned (.bool true) ∧ ∃ q, w' = w.drewN q := by
  have H := Lib.hid h; have H' := Lib.hid h'
  clear h h'
  go_enter Tryz.func63, Tryz.ntmps63
  go_wp2_with fail
  refine (equalL_calls a a' n c c' ls w H.out H'.out).mono ?_
  rintro e w1 ⟨rfl, q, rfl⟩
  go_wp2_with fail
  go_ret
  exact ⟨rfl, q, rfl⟩
end Go.Proofs.YtbkoifdnlaihfaaGreat
