/- The walks of the laws' own before, lexical, together. The walk of the laws' own parts, where it says yes. -/
import Derived.Test.YtbkoifdnlaihfaaGreatComp
import Derived.Test.YtbkoifdnlaihfaaGreatPlain
import Derived.Test.YtbkoifdnlaihfaaGreatSameG
namespace Go.Proofs.YtbkoifdnlaihfaaGreat
open Go.RowKit

/-- One step of the order of two lists, at place k. -/
theorem cmpL_at (xs ys : List Int) (k : Nat) (hx : k < xs.length) (hy : k < ys.length) : cmpL (xs.drop k) (ys.drop k) = if xs[k] < ys[k] then -1 else if ys[k] < xs[k] then 1 else cmpL (xs.drop (k + 1)) (ys.drop (k + 1)) := by
  rw [List.drop_eq_getElem_cons hx, List.drop_eq_getElem_cons hy, cmpL_cons]
theorem cmpL_end (xs ys : List Int) (k : Nat) (h : xs.length ≤ k ∨ ys.length ≤ k) (hx : k ≤ xs.length) (hy : k ≤ ys.length) : decide (cmpL (xs.drop k) (ys.drop k) < 0) = decide (xs.length < ys.length) := by
  by_cases h1 : k < xs.length
  · have e : ys.drop k = [] := List.drop_eq_nil_of_le (by omega)
    rw [e, List.drop_eq_getElem_cons h1]
    have : ¬ xs.length < ys.length := by omega
    simp [cmpL, this]
  · have e : xs.drop k = [] := List.drop_eq_nil_of_le (by omega)
    rw [e, cmpL_nil_left]
    by_cases h2 : k < ys.length
    · have e2 : ys.drop k ≠ [] := fun h => by have := congrArg List.length h; simp at this; omega
      have : xs.length < ys.length := by omega
      simp [e2, this]
    · have e2 : ys.drop k = [] := List.drop_eq_nil_of_le (by omega)
      have : ¬ xs.length < ys.length := by omega
      simp [e2, this]

theorem rdi_get {w : World} {a : Option Addr} {n : Nat} {zs : List Int} (h : RdI w a n zs) {k : Nat} (hk : k < n) : ∃ b off z, a = some ⟨b, off, none⟩ ∧ zs[k]? = some z ∧ b < w.heap.size ∧ w.cell? ⟨b, off + k, none⟩ = some (.int .i64 z) := by
  obtain ⟨b, off, rfl, hb, hc⟩ := h.at_ (by omega)
  obtain ⟨z, hz, hcz⟩ := hc k hk
  have hl : k < zs.length := by have := h.len; omega
  refine ⟨b, off, z, rfl, ?_, hb, hcz⟩
  have := hz.out
  rw [List.getD_eq_getElem?_getD, List.getElem?_eq_getElem hl] at this
  rw [List.getElem?_eq_getElem hl]
  exact congrArg some (by simpa using this)

theorem drewN2_ (w : World) (a b : Nat) : (w.drewN a).drewN b = w.drewN (a + b) := by simp [World.drewN, Nat.add_assoc]

set_option maxHeartbeats 2000000 in
theorem before_calls (a b : Option Addr) (n m c d : Nat) (xs ys : List Int) (w : World) (hx : RdI w a n xs) (hy : RdI w b m ys) (hn : n ≤ 1000000) (hm : m ≤ 1000000) :
    Calls Tryz.prog 80 #[.slice a n c, .slice b m d] w fun e w' => e = .returned (.bool (decide (cmpL xs ys < 0))) ∧ ∃ q, w' = w.drewN q := by
  have HX := Lib.hid hx; have HY := Lib.hid hy
  have HXL := Lib.hid hx.len; have HYL := Lib.hid hy.len
  clear hx hy
  go_enter Tryz.func80, Tryz.ntmps80
  go_wp2
  go_loopw [5] (fun i wr => ∃ k : Nat, k ≤ n ∧ k ≤ m ∧ i = .int .i64 k ∧ Hid (cmpL (xs.drop k) (ys.drop k) = cmpL xs ys) ∧ ∃ q, wr = w.drewN q) (fun i _ => n - (intOf i).toNat)
  case atStart => exact ⟨0, by omega, by omega, rfl, by simp [Hid], 0, rfl⟩
  case round =>
    obtain ⟨k, hkn, hkm, rfl, HC, q, rfl⟩ := hrel
    by_cases hlt : k < n
    · by_cases hlt2 : k < m
      · obtain ⟨bx, ox, x, rfl, hxk, hbx, hxc⟩ := rdi_get HX.out hlt
        obtain ⟨by_, oy, y, rfl, hyk, hby, hyc⟩ := rdi_get HY.out hlt2
        have hc := HC.out
        rw [cmpL_at xs ys k (by have := HXL.out; omega) (by have := HYL.out; omega), (List.getElem?_eq_some_iff.1 hxk).2, (List.getElem?_eq_some_iff.1 hyk).2] at hc
        by_cases hxy : x = y
        · subst hxy
          rw [if_neg (by omega), if_neg (by omega)] at hc
          have HC3 := Lib.hid hc
          clear hc HC hxk hyk
          go_wp2
          go_quiet (fail)
          go_wp2
          go_roundw
          case rel => exact ⟨k + 1, by omega, by omega, by go_num, HC3, _, rfl⟩
          case measure => simp [intOf]; omega
        · have hd : Hid (decide (cmpL xs ys < 0) = decide (x < y)) := by
            rw [← hc]
            by_cases h1 : x < y
            · rw [if_pos h1]; simp [Hid, h1]
            · rw [if_neg h1, if_pos (by omega)]; simp [Hid, h1]
          clear hc HC hxk hyk
          go_wp2
          go_quiet (fail)
          go_wp2
          go_quiet (fail)
          go_wp2
          go_ret
          exact ⟨ret_bool hd.out.symm, by rw [drewN2_, drewN2_]; exact ⟨_, rfl⟩⟩
      · have hd : Hid (decide (cmpL xs ys < 0) = decide (n < m)) := by
          have h := cmpL_end xs ys k (.inr (by have := HYL.out; omega)) (by have := HXL.out; omega) (by have := HYL.out; omega)
          rw [HC.out, HXL.out, HYL.out] at h
          exact h
        clear HC
        go_wp2
        go_ret
        exact ⟨ret_bool (by rw [hd.out]), _, rfl⟩
    · have hd : Hid (decide (cmpL xs ys < 0) = decide (n < m)) := by
        have h := cmpL_end xs ys k (.inl (by have := HXL.out; omega)) (by have := HXL.out; omega) (by have := HYL.out; omega)
        rw [HC.out, HXL.out, HYL.out] at h
        exact h
      clear HC
      go_wp2
      go_ret
      exact ⟨ret_bool (by rw [hd.out]), _, rfl⟩

theorem lol_rd {w : World} {lo : Nat} {v : Value} {vs : List Value} {ls : List (List Int)} {k : Nat} (h : LolG 22 3 (Value.int .i64) w lo v vs ls) (hk : k < ls.length) :
    ∃ g c a n c' l, v = .slice (some ⟨g, 0, none⟩) ls.length c ∧ g < w.heap.size ∧ w.cell? ⟨g, k, none⟩ = some (.slice a n c') ∧ ls[k]? = some l ∧ RdI w a n l := by
  obtain ⟨g, c, rfl, _, hg, _⟩ := own_form h.row (by omega)
  have hl := h.len
  have e1 : vs[k]? = some vs[k] := List.getElem?_eq_getElem (by omega)
  have e2 : ls[k]? = some ls[k] := List.getElem?_eq_getElem hk
  obtain ⟨a, c', e, hr⟩ := RdI.of_owns (h.rows k _ _ e1 e2)
  refine ⟨g, c, a, _, c', ls[k], rfl, hg, ?_, e2, hr⟩
  rw [← e]; exact (own_at h.row e1).1

set_option maxHeartbeats 2000000 in
theorem lexical_calls (lo : Nat) (v : Value) (vs : List Value) (L : List (List Int)) (w : World) (h : LolG 22 3 (Value.int .i64) w lo v vs L) (hn : L.length ≤ 1000000) (hm : ∀ l ∈ L, l.length ≤ 1000000)
    (hs : ∀ (k : Nat) (a b : List Int), L[k]? = some a → L[k + 1]? = some b → cmpL a b < 0) :
    Calls Tryz.prog 35 #[v] w fun e w' => e = .returned (.bool true) ∧ ∃ q, w' = w.drewN q := by
  obtain ⟨a0, c0, rfl⟩ := own_shape' h.row
  have HL := Lib.hid h; have HM := Lib.hid hm; have HS := Lib.hid hs
  clear h hm hs
  go_enter Tryz.func35, Tryz.ntmps35
  go_wp2
  go_loopw [3] (fun i wr => ∃ k : Nat, 1 ≤ k ∧ i = .int .i64 k ∧ ∃ q, wr = w.drewN q) (fun i _ => L.length - (intOf i).toNat)
  case atStart => exact ⟨1, by omega, rfl, 0, rfl⟩
  case round =>
    obtain ⟨k, hk1, rfl, q, rfl⟩ := hrel
    by_cases hlt : k < L.length
    · obtain ⟨g, c, a, n, c1, l, e, hg, hcell, hl, hr⟩ := lol_rd HL.out hlt
      obtain ⟨g', c', a', n', c2, l', e', hg', hcell', hl', hr'⟩ := lol_rd HL.out (k := k - 1) (by omega)
      simp only [Value.slice.injEq, true_and] at e e'
      obtain ⟨rfl, rfl⟩ := e
      obtain ⟨e1, rfl⟩ := e'
      simp only [Option.some.injEq, Addr.mk.injEq, and_true] at e1
      subst e1
      have hlt' := HS.out (k - 1) l' l hl' (by rw [show k - 1 + 1 = k by omega]; exact hl)
      have hd : decide (cmpL l' l < 0) = true := by simpa using hlt'
      obtain ⟨wq, hwq⟩ : ∃ wq, wq = w.drewN q := ⟨_, rfl⟩
      have HCALL : Hid (∀ m, Calls Tryz.prog 80 #[.slice a' n' c2, .slice a n c1] (wq.drewN m) fun e w' => e = .returned (.bool true) ∧ ∃ q, w' = (wq.drewN m).drewN q) := fun m => by
        rw [hwq, ← hd]
        exact before_calls _ _ _ _ _ _ _ _ _ ((hr'.drewN q).drewN m) ((hr.drewN q).drewN m) (by have := hr'.len; have := HM.out l' (List.mem_of_getElem? hl'); omega) (by have := hr.len; have := HM.out l (List.mem_of_getElem? hl); omega)
      have hcq : wq.cell? ⟨g, k, none⟩ = some (.slice a n c1) := by rw [hwq]; exact hcell
      have hcq' : wq.cell? ⟨g, k - 1, none⟩ = some (.slice a' n' c2) := by rw [hwq]; exact hcell'
      have HQ := Lib.hid hwq
      rw [← hwq]
      clear hwq hcell hcell'
      have k1 : IntKind.i64.wrap ((k : Int) - 1) = ((k - 1 : Nat) : Int) := by simp [IntKind.wrap, IntKind.bits, IntKind.signed]; omega
      have k2 : (0 : Int) ≤ ((k - 1 : Nat) : Int) := by omega
      have k3 : ((k - 1 : Nat) : Int) < ↑L.length := by omega
      have k4 : k - 1 < L.length := by omega
      clear hl hl' hr hr' hlt' hd
      go_wp2
      go_quiet ((go_at_call 80; exact Calls.quiet_of (HCALL.out _)))
      go_wp2
      go_roundw
      case rel => exact ⟨k + 1, by omega, by go_num, by rw [HQ.out]; exact ⟨_, World.drewN_drewN ..⟩⟩
      case measure => simp [intOf]; omega
    · go_wp2
      go_ret
      exact ⟨rfl, _, rfl⟩

/-- Whether one list has both. -/
def togB (L : List (List Int)) (u v : Int) : Bool := L.any fun l => hasB l u && hasB l v

set_option maxHeartbeats 2000000 in
theorem together_calls (lo : Nat) (v : Value) (vs : List Value) (L : List (List Int)) (x y : Int) (w : World) (h : LolG 22 3 (Value.int .i64) w lo v vs L) (hn : L.length ≤ 1000000) :
    Calls Tryz.prog 38 #[v, .int .i64 x, .int .i64 y] w fun e w' => e = .returned (.bool (togB L x y)) ∧ w' = w := by
  obtain ⟨a0, c0, rfl⟩ := own_shape' h.row
  have HL := Lib.hid h
  clear h
  go_enter Tryz.func38, Tryz.ntmps38
  go_wp2
  go_loopw [7] (fun i wr => ∃ k : Nat, k ≤ L.length ∧ i = .int .i64 k ∧ Hid (togB (L.drop k) x y = togB L x y) ∧ wr = w) (fun i _ => L.length - (intOf i).toNat)
  case atStart => exact ⟨0, by omega, rfl, rfl, rfl⟩
  case round =>
    obtain ⟨k, hk, rfl, HT, rfl⟩ := hrel
    by_cases hlt : k < L.length
    · obtain ⟨g, c, a, n, c1, l, e, hg, hcell, hl, hr⟩ := lol_rd HL.out hlt
      simp only [Value.slice.injEq, true_and] at e
      obtain ⟨rfl, rfl⟩ := e
      have HR := Lib.hid hr
      have ht : togB (L.drop k) x y = ((hasB l x && hasB l y) || togB (L.drop (k + 1)) x y) := by
        rw [List.drop_eq_getElem_cons hlt, (List.getElem?_eq_some_iff.1 hl).2]; rfl
      clear hl hr
      obtain ⟨b1, hb1⟩ : ∃ b, hasB l x = b := ⟨_, rfl⟩
      obtain ⟨b2, hb2⟩ : ∃ b, hasB l y = b := ⟨_, rfl⟩
      rw [hb1, hb2] at ht
      have HB1 := Lib.hid hb1; have HB2 := Lib.hid hb2; have HTT := Lib.hid ht
      clear hb1 hb2 ht
      go_wp2_with fail
      refine (has_calls a n c1 l x _ HR.out).mono ?_
      rintro e w1 ⟨rfl, rfl⟩
      rw [HB1.out]
      cases b1
      · have H3 : Hid (togB (L.drop (k + 1)) x y = togB L x y) := by have := HT.out; rw [HTT.out] at this; exact Lib.hid (by simpa using this)
        clear HTT HT
        go_wp2_with fail
        go_roundw
        case rel => exact ⟨k + 1, by omega, by go_num, H3, by trivial⟩
        case measure => simp [intOf]; omega
      · go_wp2_with fail
        refine (has_calls a n c1 l y _ HR.out).mono ?_
        rintro e w1 ⟨rfl, rfl⟩
        rw [HB2.out]
        cases b2
        · have H3 : Hid (togB (L.drop (k + 1)) x y = togB L x y) := by have := HT.out; rw [HTT.out] at this; exact Lib.hid (by simpa using this)
          clear HTT HT
          go_wp2_with fail
          go_roundw
          case rel => exact ⟨k + 1, by omega, by go_num, H3, by trivial⟩
          case measure => simp [intOf]; omega
        · have H3 : Hid (true = togB L x y) := by have := HT.out; rw [HTT.out] at this; exact Lib.hid (by simpa using this)
          clear HTT HT
          go_wp2_with fail
          go_ret
          exact ⟨ret_bool H3.out, rfl⟩
    · obtain rfl : k = L.length := by omega
      have H3 : Hid (false = togB L x y) := by have := HT.out; rw [List.drop_length] at this; exact Lib.hid this
      clear HT
      go_wp2
      go_ret
      exact ⟨ret_bool H3.out, rfl⟩
end Go.Proofs.YtbkoifdnlaihfaaGreat
namespace Go.Proofs.YtbkoifdnlaihfaaGreat
open Go.RowKit

theorem rdi_own {w : World} {lo : Nat} {a : Option Addr} {n c : Nat} {zs : List Int} (h : w.ownsRow lo 3 1 (.slice a n c) n (zs.map (Value.int .i64))) : RdI w a n zs := by
  obtain ⟨a', c', e, hr⟩ := RdI.of_owns h
  simp only [Value.slice.injEq, true_and] at e
  obtain ⟨rfl, rfl⟩ := e
  exact hr

theorem lol_row {w : World} {lo : Nat} {v : Value} {vs : List Value} {ls : List (List Int)} {k : Nat} {l : List Int} (h : LolG 22 3 (Value.int .i64) w lo v vs ls) (hl : ls[k]? = some l) (h0 : l ≠ []) :
    ∃ g c g' c', v = .slice (some ⟨g, 0, none⟩) ls.length c ∧ w.cell? ⟨g, k, none⟩ = some (.slice (some ⟨g', 0, none⟩) l.length c') ∧ w.ownsRow lo 3 1 (.slice (some ⟨g', 0, none⟩) l.length c') l.length (l.map (Value.int .i64)) := by
  have hk := (List.getElem?_eq_some_iff.1 hl).1
  obtain ⟨g, c, rfl, _, hg, _⟩ := own_form h.row (by omega)
  have hlen := h.len
  have e1 : vs[k]? = some vs[k] := List.getElem?_eq_getElem (by omega)
  have ho := h.rows k _ _ e1 hl
  obtain ⟨g', c', e, _⟩ := own_form ho (List.length_pos_iff.2 h0)
  exact ⟨g, c, g', c', rfl, by rw [← e]; exact (own_at h.row e1).1, by rw [← e]; exact ho⟩

set_option maxHeartbeats 2000000 in
set_option maxRecDepth 100000 in
theorem parts_calls (lo : Nat) (v : Value) (vs : List Value) (L : List (List Int)) (an : Option Addr) (n cn : Nat) (ns : List Int) (w : World) (h : LolG 22 3 (Value.int .i64) w lo v vs L) (hr : RdI w an n ns) (hn : L.length ≤ 1000000) (hN : L.flatten.length ≤ 1000000)
    (h0 : ∀ l ∈ L, l ≠ [] ∧ risingB l = true) (hs : sortI L.flatten = sortI ns) :
    Calls Tryz.prog 34 #[v, .slice an n cn] w fun e w' => e = .returned (.bool true) ∧ Below w.heap.size w w' := by
  obtain ⟨a0, c0, rfl⟩ := own_shape' h.row
  have HL := Lib.hid h; have HR := Lib.hid hr; have H0 := Lib.hid h0; have HS := Lib.hid hs
  have hnn : n = L.flatten.length := by have h1 := congrArg List.length hs; rw [sortI_len, sortI_len, hr.len] at h1; exact h1.symm
  obtain ⟨i0, hi0, hz0, hz1, hz2⟩ := info_parts int_info
  have HI := Lib.hid (And.intro hi0 (And.intro hz0 (And.intro hz1 hz2)))
  obtain ⟨T, hT⟩ : ∃ T, T = L.flatten.length := ⟨_, rfl⟩
  rw [← hT] at hN hnn
  have HTT := Lib.hid hT
  have HNT := Lib.hid hnn
  have hn6 : n ≤ 1000000 := by omega
  clear hT hnn
  clear h hr h0 hs hi0 hz0 hz1 hz2
  go_enter Tryz.func34, Tryz.ntmps34
  go_wp2
  go_loopw [5, 6] (fun v i wr => ∃ k N : Nat, k ≤ L.length ∧ i = .int .i64 k ∧ Hid (N = (L.take k).flatten.length) ∧ wr.ownsRow w.heap.size 3 1 v N ((L.take k).flatten.map (Value.int .i64)) ∧ Below w.heap.size w wr) (fun _ i _ => L.length - (intOf i).toNat)
  case atStart => exact ⟨0, 0, by omega, rfl, Lib.hid rfl, World.ownsRow_nil _ _ _ _, Below.refl _ _⟩
  case round =>
    obtain ⟨k, N, hk, rfl, HNN, ho, hb⟩ := hrel
    obtain ⟨a1, c1, rfl⟩ := own_shape' ho
    have HO := Lib.hid ho; have HB := Lib.hid hb
    have hszr := hb.size
    clear ho
    by_cases hlt : k < L.length
    · have hl : L[k]? = some L[k] := List.getElem?_eq_getElem hlt
      obtain ⟨l, el⟩ : ∃ l, L[k] = l := ⟨_, rfl⟩
      rw [el] at hl
      have hlm := H0.out l (List.mem_of_getElem? hl)
      have HLr : Hid (LolG 22 3 (Value.int .i64) wr lo (.slice a0 L.length c0) vs L) := HL.out.of_heap (fun j hj => hb.block j (HL.out.lt hj).2)
      obtain ⟨g, c, g', c', e, hcell, hrow⟩ := lol_row HLr.out hl hlm.1
      simp only [Value.slice.injEq, true_and] at e
      obtain ⟨rfl, rfl⟩ := e
      obtain ⟨m, hm⟩ : ∃ m, m = l.length := ⟨_, rfl⟩
      rw [← hm] at hcell hrow
      have HROW := Lib.hid hrow
      have HRD := Lib.hid (rdi_own hrow)
      have hpos : 0 < m := by rw [hm]; exact List.length_pos_iff.2 hlm.1
      have HRIS := Lib.hid hlm.2
      have htk : (L.take (k + 1)).flatten = (L.take k).flatten ++ l := by rw [List.take_succ_eq_append_getElem hlt, List.flatten_append, el]; simp
      have hle : (L.take (k + 1)).flatten.length ≤ T := by
        rw [HTT.out]
        have h1 := congrArg (fun x => x.flatten.length) (List.take_append_drop (k + 1) L)
        simp only [List.flatten_append, List.length_append] at h1
        omega
      have hle2 : N + m ≤ 1000000 := by rw [htk, List.length_append] at hle; have := HNN.out; omega
      have HTK := Lib.hid htk
      have hz : ¬ ((m : Int) = 0) := by omega
      have hz' : ¬ (m = 0) := by omega
      have HM := Lib.hid hm
      clear hrow hlm htk hle hl el hb hm
      go_wp2_with fail
      refine (rising_calls (some ⟨g', 0, none⟩) m c' l wr HRD.out).mono ?_
      rintro e w2 ⟨rfl, q, rfl⟩
      rw [HRIS.out]
      obtain ⟨hi0, hz0, hz1, hz2⟩ := HI.out
      have hcell2 : (wr.drewN q).cell? ⟨g, k, none⟩ = some (.slice (some ⟨g', 0, none⟩) m c') := hcell
      go_wp2_with (at_builtin; refine wpList_append_own _ rfl _ _ 22 rfl w.heap.size 3 i0 (.int .i64 0) 1 8 Tryz.underlying22 hi0 hz0 hz1 hz2 rfl (by decide) (.slice a1 N c1) N ((L.take k).flatten.map (Value.int .i64)) rfl ?hown ⟨g', 0, none⟩ m c' (l.map (Value.int .i64)) rfl ?c0 ?c1 ?c2 ?c3 ?c4 ?c5 ?_)
      case hown => exact HO.out
      case c0 => rw [List.length_map, ← HM.out, Nat.mul_one]
      case c1 =>
        intro j u hu
        have hadd : (⟨g', 0, none⟩ : Addr).add j = ⟨g', j, none⟩ := by unfold Addr.add; split <;> simp_all
        rw [hadd]; exact (own_at HROW.out hu).1
      case c2 => intro u hu; simp at hu; obtain ⟨z, -, rfl⟩ := hu; rfl
      case c3 => unfold maxLen; omega
      case c4 => omega
      case c5 => exact hszr
      intro v' w' hown' hgrow _
      obtain ⟨a', c1', rfl⟩ := own_shape' hown'
      have HO' := Lib.hid hown'
      have HB' : Hid (Below w.heap.size w w') := (below_drewN HB.out q).grown hgrow hszr (fun j hj => (HO.out.lt j hj).1)
      clear hown' hgrow
      go_wp2
      go_roundw
      case rel =>
        refine ⟨k + 1, N + m, by omega, by go_num, Lib.hid (by rw [HTK.out, List.length_append, ← HNN.out, ← HM.out]), ?_, HB'.out⟩
        rw [HTK.out, List.map_append]; have := HO'.out; simpa using this
      case measure => simp [intOf]; omega
    · obtain rfl : k = L.length := by omega
      have hNT : N = n := by rw [HNN.out, List.take_length, ← HTT.out, HNT.out]
      subst hNT
      have HO2 : Hid (RdI wr a1 N L.flatten) := by
        have h := HO.out
        rw [List.take_length] at h
        exact Lib.hid (rdi_own h)
      clear HO HNN
      go_wp2_with fail
      refine (sorted_calls a1 N c1 L.flatten wr HO2.out (by omega)).mono ?_
      rintro e w1 ⟨v1, rfl, h1, hb1⟩
      obtain ⟨a2, c2, rfl⟩ := own_shape' h1
      have H1 := Lib.hid h1; have HB1 := Lib.hid hb1
      have HBW : Hid (Below w.heap.size w w1) := HB.out.trans (hb1.mono hszr)
      clear h1 hb1 hb
      go_wp2_with fail
      refine (sorted_calls an N cn ns w1 (HR.out.below HBW.out (Nat.le_refl _)) (by omega)).mono ?_
      rintro e w2 ⟨v2, rfl, h2, hb2⟩
      obtain ⟨a3, c3, rfl⟩ := own_shape' h2
      have H2 := Lib.hid h2; have HB2 := Lib.hid hb2
      have HBX : Hid (Below w.heap.size w w2) := HBW.out.trans (hb2.mono HBW.out.size)
      clear h2 hb2
      have HE1 : Hid (RdI w2 a2 N (sortI ns)) := by
        have h := rdi_own H1.out
        rw [HS.out] at h
        exact h.below HB2.out (Nat.le_refl _)
      have HE2 : Hid (RdI w2 a3 N (sortI ns)) := rdi_own H2.out
      go_wp2_with fail
      refine (equalI_calls a2 a3 N c2 c3 (sortI ns) w2 HE1.out HE2.out).mono ?_
      rintro e w3 ⟨rfl, q, rfl⟩
      go_wp2_with fail
      go_ret
      exact ⟨rfl, below_drewN HBX.out q⟩
end Go.Proofs.YtbkoifdnlaihfaaGreat
