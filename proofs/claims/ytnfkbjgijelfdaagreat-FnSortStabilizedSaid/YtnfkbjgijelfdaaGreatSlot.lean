/- Places that are read. The walk of slices.Equal at places, where both say the same. -/
import Derived.Test.YtnfkbjgijelfdaaGreatSortI
import Derived.Test.YtnfkbjgijelfdaaGreatSameG
namespace Go.Proofs.YtnfkbjgijelfdaaGreat
open Go.RowKit

/-- Places that are read. -/
structure RdS (w : World) (a : Option Addr) (n : Nat) (os : List (Option Int)) : Prop where
  len : os.length = n
  at_ : 0 < n → ∃ b off, a = some ⟨b, off, none⟩ ∧ b < w.heap.size ∧ ∀ j, j < n → ∃ o, Hid (os[j]? = some o) ∧ w.cell? ⟨b, off + j * 2, none⟩ = some (.bool o.isNone) ∧ w.cell? ⟨b, off + j * 2 + 1, none⟩ = some (.int .i64 (o.getD 0))
theorem RdS.below {w w' : World} {a : Option Addr} {n : Nat} {os : List (Option Int)} {B : Nat} (h : RdS w a n os) (hb : Below B w w') (hB : w.heap.size ≤ B) : RdS w' a n os :=
  ⟨h.len, fun h0 => by
    obtain ⟨b, off, e, hb', hc⟩ := h.at_ h0
    exact ⟨b, off, e, Nat.lt_of_lt_of_le hb' hb.size, fun j hj => by
      obtain ⟨o, h1, h2, h3⟩ := hc j hj
      exact ⟨o, h1, (hb.cell (p := ⟨b, off + j * 2, none⟩) (by show b < B; omega)).trans h2, (hb.cell (p := ⟨b, off + j * 2 + 1, none⟩) (by show b < B; omega)).trans h3⟩⟩⟩
theorem flatS_get (os : List (Option Int)) : ∀ (j : Nat) (o : Option Int), os[j]? = some o → (flatS os)[j * 2]? = some (.bool o.isNone) ∧ (flatS os)[j * 2 + 1]? = some (.int .i64 (o.getD 0)) := by
  induction os with
  | nil => intro j e h; simp at h
  | cons a l ih =>
    intro j e h
    have e0 : flatS (a :: l) = .bool a.isNone :: .int .i64 (a.getD 0) :: flatS l := rfl
    rw [e0]
    cases j with
    | zero => simp at h; subst h; simp
    | succ j =>
      have := ih j e (by simpa using h)
      rw [show (j + 1) * 2 = j * 2 + 2 from by omega]
      simpa using this
theorem rdS_of_own {w : World} {B : Nat} {a : Option Addr} {n c : Nat} {os : List (Option Int)} (h : w.ownsRow B 45 2 (.slice a n c) n (flatS os)) : RdS w a n os := by
  have hlen : os.length = n := by
    have h1 := h.1
    rw [flatS_len] at h1
    omega
  rcases h.2 with ⟨e1, h1⟩ | ⟨g, cap, cur, e1, hb, hg, h3, h4, h5, h6⟩
  · exact ⟨hlen, by omega⟩
  · simp only [Value.slice.injEq] at e1
    obtain ⟨rfl, -, rfl⟩ := e1
    refine ⟨hlen, fun h0 => ⟨g, 0, rfl, (Array.getElem?_eq_some_iff.1 hg).1, fun j hj => ?_⟩⟩
    obtain ⟨e, he⟩ : ∃ e, os[j]? = some e := ⟨os[j]'(by omega), by simp⟩
    obtain ⟨g0, g1⟩ := flatS_get os j e he
    have key : ∀ i, i < n * 2 → w.cell? ⟨g, i, none⟩ = (flatS os)[i]? := fun i hi => by
      rw [cell_of_row w g i cur _ (0, 0) hg, ← h6, List.getElem?_take_of_lt hi, ← Array.getElem?_toList]
    exact ⟨e, he, by rw [Nat.zero_add, key _ (by omega), g0], by rw [Nat.zero_add, key _ (by omega), g1]⟩
end Go.Proofs.YtnfkbjgijelfdaaGreat
namespace Go.Proofs.YtnfkbjgijelfdaaGreat
open Go.RowKit

set_option maxHeartbeats 4000000 in
theorem equalS_calls (a a' : Option Addr) (n c c' : Nat) (os : List (Option Int)) (w : World) (h : RdS w a n os) (h' : RdS w a' n os) (hs : n ≤ 1000000) :
    Calls Tryz.prog 21 #[.slice a n c, .slice a' n c'] w fun e w' => e = .returned (.bool true) ∧ ∃ q, w' = w.drewN q := by
  have H := Lib.hid h; have H' := Lib.hid h'
  clear h h'
  go_enter Tryz.func21, Tryz.ntmps21
  go_wp2_with fail
  go_loopw [13] (fun i wr => ∃ (k q : Nat), k ≤ n ∧ i = .int .i64 k ∧ wr = w.drewN q) (fun i _ => n - (intOf i).toNat)
  case atStart => exact ⟨0, 0, by omega, rfl, rfl⟩
  case round =>
    obtain ⟨k, q, hk, rfl, rfl⟩ := hrel
    by_cases hlt : k < n
    · obtain ⟨b, off, rfl, hb, hc⟩ := H.out.at_ (by omega)
      obtain ⟨b', off', rfl, hb', hc'⟩ := H'.out.at_ (by omega)
      obtain ⟨o, HZ, e0, e1⟩ := hc k hlt
      obtain ⟨o', HZ', d0, d1⟩ := hc' k hlt
      obtain rfl := Option.some.inj (HZ.out.symm.trans HZ'.out)
      obtain ⟨bt, hbt⟩ : ∃ bt, bt = o.isNone := ⟨_, rfl⟩
      obtain ⟨z, hz⟩ : ∃ z, z = o.getD 0 := ⟨_, rfl⟩
      rw [← hbt] at e0 d0
      rw [← hz] at e1 d1
      clear hc hc' hbt hz
      cases bt
      all_goals
        go_wp2_with fail
        go_quiet (fail)
        go_wp2
        go_roundw
        case rel => exact ⟨k + 1, _, by omega, by go_num, rfl⟩
        case measure => simp [intOf]; omega
    · go_wp2
      go_ret
      exact ⟨rfl, q, rfl⟩
end Go.Proofs.YtnfkbjgijelfdaaGreat
