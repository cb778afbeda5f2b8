/- The walk of the laws' own rolled at ints. The walks of slices.Reverse and of the laws' own rolled at edges. -/
import Derived.Test.YtnfkbjgijelfdaaGreatRev
import Derived.Test.YtnfkbjgijelfdaaGreatMem
import Derived.Test.YtnfkbjgijelfdaaGreatHeldL
import Derived.Test.YtnfkbjgijelfdaaGreatSeen
namespace Go.Proofs.YtnfkbjgijelfdaaGreat
open Go.RowKit Go.Sort Go.Lib

/-- A list begun elsewhere. -/
def rotN {α : Type} (l : List α) (b : Nat) : List α := l.drop (b % l.length) ++ l.take (b % l.length)
theorem rotN_len {α : Type} (l : List α) (b : Nat) : (rotN l b).length = l.length := by
  unfold rotN
  rw [List.length_append, List.length_drop, List.length_take]
  omega
theorem rotN_perm {α : Type} (l : List α) (b : Nat) : (rotN l b).Perm l := by
  unfold rotN
  exact List.perm_append_comm.trans (by rw [List.take_append_drop])
theorem rotN_at {α : Type} (l : List α) (b k : Nat) (hk : k < l.length) : (rotN l b)[k]? = l[(k + b) % l.length]? := by
  unfold rotN
  have hm : b % l.length < l.length := Nat.mod_lt _ (by omega)
  have e : (k + b) % l.length = (k + b % l.length) % l.length := by rw [Nat.add_mod, Nat.mod_eq_of_lt hk]
  rw [e]
  clear e
  generalize b % l.length = m at hm ⊢
  by_cases h : k < l.length - m
  · rw [List.getElem?_append_left (by rw [List.length_drop]; exact h), List.getElem?_drop, Nat.mod_eq_of_lt (by omega), Nat.add_comm]
  · rw [List.getElem?_append_right (by rw [List.length_drop]; omega), List.length_drop, List.getElem?_take_of_lt (by omega), Nat.mod_eq_sub_mod (by omega), Nat.mod_eq_of_lt (by omega)]
    congr 1; omega
theorem rot_tmod (k b n : Nat) : Int.tmod ((k : Int) + (b : Int)) (n : Int) = (((k + b) % n : Nat) : Int) := by
  rw [show ((k : Int) + (b : Int)) = ((k + b : Nat) : Int) by omega]
  exact (Int.ofNat_tmod _ _).symm

theorem revI_calls (lo : Nat) (v : Value) (n : Nat) (l : List Int) (w : World) (ho : w.ownsRow lo 3 1 v n (l.map (Value.int .i64))) (hn : n ≤ 1000000) :
    Calls Tryz.prog 59 #[v] w (RevGPost 3 lo v n (l.reverse.map (Value.int .i64)) w) := by
  obtain ⟨a0, c0, rfl⟩ := own_shape' ho
  have hl : l.length = n := by have := ho.1; simpa using this
  by_cases h0 : n = 0
  · subst h0
    have hnil : l = [] := List.eq_nil_of_length_eq_zero hl
    subst hnil
    refine (Tryz.slices_Reverse_empty_f59 (α := Int) a0 c0 w).mono ?_
    rintro e w' ⟨rfl, rfl⟩
    exact ⟨rfl, ho, Foot.refl _ _⟩
  · obtain ⟨g, c, e, hg0, hg1, hm1, hm2, -, hH⟩ := Lib.holds_of_ownsRow ho (by
      intro e
      simp only [Value.slice.injEq] at e
      exact h0 e.2.1)
    simp only [Value.slice.injEq, true_and] at e
    obtain ⟨rfl, rfl⟩ := e
    have hc := Tryz.slices_Reverse_f59 (α := Int) (Value.int .i64) (fun _ => rfl) g 0 c0 l w hH (by omega)
    rw [hl] at hc
    refine hc.mono ?_
    rintro e w' ⟨rfl, q, hw'⟩
    have h2 := Lib.ownsRow_putRow (q := q) ho (ys := l.reverse) (by rw [List.length_reverse, hl]) (Nat.le_refl _)
    rw [List.take_of_length_le (by rw [List.length_reverse, hl]; exact Nat.le_refl _), ← hw'] at h2
    refine ⟨rfl, h2, ?_⟩
    rw [hw']
    exact foot_putRow _ _ _ _ _

theorem below_of_foot {B : Nat} {w w1 w2 : World} {p : Nat → Prop} (h : Below B w w1) (hf : Foot p w1 w2) (hB : B ≤ w1.heap.size) (hp : ∀ j, p j → B ≤ j) : Below B w w2 :=
  h.trans ⟨hf.os, hf.tape, hf.output, hf.size, fun k hk => hf.block k (by omega) (fun e => by have := hp k e; omega)⟩

set_option maxHeartbeats 8000000 in
set_option maxRecDepth 200000 in
theorem rolledI_calls (a : Option Addr) (n c b : Nat) (l : List Int) (w : World) (hr : RdI w a n l) (hn : n ≤ 500) (hb8 : b < 256) :
    Calls Tryz.prog 18 #[.slice a n c, .int .u8 b] w fun e w' => ∃ (v' : Value) (l' : List Int), e = .returned v' ∧ l'.Perm l ∧ w'.ownsRow w.heap.size 3 1 v' n (l'.map (Value.int .i64)) ∧ Below w.heap.size w w' := by
  have HR := Lib.hid hr
  have hln : l.length = n := hr.len
  have HLN := Lib.hid hln
  have HRL : Hid ((rotN l b).length = n) := Lib.hid (by rw [rotN_len]; exact hln)
  clear hr hln
  obtain ⟨i0, hi0, hz0, hz1, hz2⟩ := info_parts int_info
  have HI := Lib.hid (And.intro hi0 (And.intro hz0 (And.intro hz1 hz2)))
  clear hi0 hz0 hz1 hz2
  go_enter Tryz.func18, Tryz.ntmps18
  go_wp2_with fail
  go_loopw [5, 6] (fun v i wr => ∃ k : Nat, k ≤ n ∧ i = .int .i64 k ∧ wr.ownsRow w.heap.size 3 1 v k (((rotN l b).take k).map (Value.int .i64)) ∧ Below w.heap.size w wr) (fun _ i _ => n - (intOf i).toNat)
  case atStart => exact ⟨0, by omega, rfl, by simpa using World.ownsRow_nil _ _ _ _, Below.refl _ _⟩
  case round =>
    obtain ⟨k, hk, rfl, ho, hb⟩ := hrel
    obtain ⟨wo, rfl⟩ : ∃ wo : World, wo = wr := ⟨_, rfl⟩
    obtain ⟨aO, cO, rfl⟩ := own_shape' ho
    have HO := Lib.hid ho; have HB := Lib.hid hb
    have hszr := hb.size
    clear ho hb
    by_cases hkn : k < n
    · obtain ⟨bl, off, rfl, hbl, hc⟩ := HR.out.at_ (by omega)
      obtain ⟨p, hp⟩ : ∃ p, p = (k + b) % n := ⟨_, rfl⟩
      have hpn : p < n := by rw [hp]; exact Nat.mod_lt _ (by omega)
      obtain ⟨z, hz, hcz⟩ := hc p hpn
      have e0 := (HB.out.cell (p := ⟨bl, _, none⟩) hbl).trans hcz
      have ht : Int.tmod ((k : Int) + (b : Int)) (n : Int) = (p : Int) := by rw [rot_tmod, hp]
      have HS : Hid ((rotN l b).take (k + 1) = (rotN l b).take k ++ [z]) := Lib.hid (by
        have h1 : k < (rotN l b).length := by rw [HRL.out]; exact hkn
        rw [List.take_succ_eq_append_getElem h1]
        have h2 := rotN_at l b k (by rw [HLN.out]; exact hkn)
        rw [HLN.out, ← hp, List.getElem?_eq_getElem h1, List.getElem?_eq_getElem (show p < l.length by rw [HLN.out]; exact hpn)] at h2
        have h3 : l[p]'(by rw [HLN.out]; exact hpn) = z := by
          have := hz.out
          rw [List.getD_eq_getElem?_getD, List.getElem?_eq_getElem (show p < l.length by rw [HLN.out]; exact hpn)] at this
          exact this
        rw [Option.some.inj h2, h3])
      clear hc hcz hz hp
      obtain ⟨hi0, hz0, hz1, hz2⟩ := HI.out
      go_wp2_with (first | rw [ht] | (at_builtin; refine wpList_append_own_at _ rfl _ _ 22 rfl w.heap.size 3 i0 (.int .i64 0) 1 8 Tryz.underlying22 hi0 hz0 hz1 hz2 rfl (by decide) (.slice aO k cO) k (((rotN l b).take k).map (Value.int .i64)) rfl (HO.out.alloc _) ⟨wo.heap.size, 0, none⟩ 1 1 [.int .i64 z] rfl rfl ?c1 ?c2 ?c3 ?c4 ?c5 ?_))
      case c1 => intro j u hj; match j, hj with | 0, hj => simp at hj; subst hj; simp [Addr.add]
      case c2 => intro u hu; simp at hu; subst hu; rfl
      case c3 => unfold maxLen; omega
      case c4 => omega
      case c5 => simp; omega
      intro v6 w6 hown6 hgrow6 _ _
      have HB6 : Hid (Below w.heap.size w w6) := Lib.hid ((HB.out.alloc hszr _).grown hgrow6 (by simp; omega) (fun j hj => (HO.out.lt j hj).1))
      have HO6 : Hid (w6.ownsRow w.heap.size 3 1 v6 (k + 1) (((rotN l b).take (k + 1)).map (Value.int .i64))) := Lib.hid (by
        rw [HS.out, List.map_append, List.map_take]; exact hown6)
      clear hown6 hgrow6 e0
      go_wp2_with fail
      go_roundw
      case rel => exact ⟨k + 1, by omega, by go_num, HO6.out, HB6.out⟩
      case measure => simp [intOf]; omega
    · obtain rfl : k = n := by omega
      have HO2 : Hid (wo.ownsRow w.heap.size 3 1 (.slice aO k cO) k ((rotN l b).map (Value.int .i64))) := Lib.hid (by
        have h := HO.out
        rw [List.take_of_length_le (by rw [HRL.out]; exact Nat.le_refl _)] at h
        exact h)
      obtain ⟨d, hd⟩ : ∃ d, d = (b % 2 == 1) := ⟨_, rfl⟩
      have hd2 : (Int.tmod (b : Int) 2 == 1) = d := by
        rw [show (2 : Int) = ((2 : Nat) : Int) from rfl, ← Int.ofNat_tmod, hd]
        cases h : (b % 2 == 1)
        · rw [beq_eq_false_iff_ne] at h ⊢; omega
        · rw [beq_iff_eq] at h ⊢; omega
      have hd3 : ((b : Int) % 2 == 1) = d := by
        rw [hd]
        cases h : (b % 2 == 1)
        · rw [beq_eq_false_iff_ne] at h ⊢; omega
        · rw [beq_iff_eq] at h ⊢; omega
      clear hd
      cases d
      · go_wp2_with (rw [hd2])
        go_ret
        exact ⟨_, rotN l b, rfl, rotN_perm l b, HO2.out, HB.out⟩
      · go_wp2_with (rw [hd2])
        refine (revI_calls w.heap.size (.slice aO k cO) k (rotN l b) wo HO2.out (by omega)).mono ?_
        rintro e w1 ⟨rfl, ho1, hf1⟩
        have HO1 := Lib.hid ho1
        have HB1 : Hid (Below w.heap.size w w1) := Lib.hid (below_of_foot HB.out hf1 hszr (fun j hj => (HO2.out.lt j hj.symm).1))
        clear ho1 hf1
        go_wp2_with fail
        go_ret
        exact ⟨_, (rotN l b).reverse, rfl, (List.reverse_perm _).trans (rotN_perm l b), HO1.out, HB1.out⟩
end Go.Proofs.YtnfkbjgijelfdaaGreat
namespace Go.Proofs.YtnfkbjgijelfdaaGreat
open Go.RowKit Go.Sort Go.Lib

theorem flatE_set : ∀ (es : List (Int × Int × Int)) (i : Nat) (e : Int × Int × Int), flatE (es.set i e) = (((flatE es).set (i * 3) (.int .i64 e.1)).set (i * 3 + 1) (.int .i64 e.2.1)).set (i * 3 + 2) (.int .i64 e.2.2)
  | [], _, _ => by simp [flatE]
  | x :: r, 0, e => by simp [flatE]
  | x :: r, i + 1, e => by
    have h := flatE_set r i e
    have e1 : ∀ (y : Int × Int × Int) (l : List (Int × Int × Int)), flatE (y :: l) = .int .i64 y.1 :: .int .i64 y.2.1 :: .int .i64 y.2.2 :: flatE l := fun _ _ => rfl
    rw [List.set_cons_succ, e1, e1, h, show (i + 1) * 3 = i * 3 + 1 + 1 + 1 by omega]
    rfl
theorem own_putS {w : World} {B g c n s i : Nat} {e : TypeId} {xs : List Value} (h : w.ownsRow B e s (.slice (some ⟨g, 0, none⟩) n c) n xs) (u : Value) : (w.setCell ⟨g, i, none⟩ u).ownsRow B e s (.slice (some ⟨g, 0, none⟩) n c) n (xs.set i u) := by
  obtain ⟨h1, h2⟩ := h
  refine ⟨by simpa using h1, ?_⟩
  rcases h2 with ⟨h3, _⟩ | ⟨g', cap, cur, h3, h4, h5, h6, h7, h8, h9⟩
  · simp at h3
  · simp only [Value.slice.injEq, Option.some.injEq, Addr.mk.injEq, true_and, and_true] at h3
    obtain ⟨rfl, rfl⟩ := h3
    refine .inr ⟨g, c, cur.setIfInBounds i u, rfl, h4, ?_, h6, h7, by simpa using h8, ?_⟩
    · rw [heap_setCell_same h5]
    · rw [← h9, Array.toList_setIfInBounds, List.take_set]

theorem frozen_own {w : World} {B g c n s : Nat} {e : TypeId} {xs : List Value} (h : w.ownsRow B e s (.slice (some ⟨g, 0, none⟩) n c) n xs) (x : Nat) : w.frozen? ⟨g, x, none⟩ = false := by
  obtain ⟨h1, h2⟩ := h
  rcases h2 with ⟨h3, _⟩ | ⟨g', cap, cur, h3, h4, h5, h6, h7, h8, h9⟩
  · simp at h3
  · simp only [Value.slice.injEq, Option.some.injEq, Addr.mk.injEq, true_and, and_true] at h3
    obtain ⟨rfl, rfl⟩ := h3
    simp [World.frozen?, h5]
def RevEPost (lo : Nat) (v : Value) (n : Nat) (l : List (Int × Int × Int)) (w : World) (e : Ending) (w' : World) : Prop :=
  e = .returned (.tuple #[]) ∧ ∃ l', l'.Perm l ∧ w'.ownsRow lo 41 3 v n (flatE l') ∧ Foot (fun j => some j = v.ownBlock) w w'

set_option maxHeartbeats 8000000 in
set_option maxRecDepth 200000 in
theorem revE_calls (lo : Nat) (v : Value) (n : Nat) (l : List (Int × Int × Int)) (w : World) (ho : w.ownsRow lo 41 3 v n (flatE l)) (hn : n ≤ 1000000) (hl : l.length = n) :
    Calls Tryz.prog 60 #[v] w (RevEPost lo v n l w) := by
  obtain ⟨a0, cA, rfl⟩ := own_shape' ho
  have HO := Lib.hid ho
  have HLN := Lib.hid hl
  clear ho hl
  go_enter Tryz.func60, Tryz.ntmps60
  go_wp2_with fail
  go_loopw [2, 3] (fun i j wr => ∃ (k : Nat) (l' : List (Int × Int × Int)), 2 * k ≤ n + 1 ∧ i = .int .i64 k ∧ j = .int .i64 ((n : Int) - 1 - k) ∧ l'.Perm l ∧ wr.ownsRow lo 41 3 (.slice a0 n cA) n (flatE l') ∧ Foot (fun j => some j = (Value.slice a0 n cA).ownBlock) w wr) (fun i _ _ => n - (intOf i).toNat)
  case atStart => exact ⟨0, l, by omega, rfl, by go_num, List.Perm.refl _, HO.out, Foot.refl _ _⟩
  case round =>
    obtain ⟨k, l', hk, rfl, rfl, hp, ho, hf⟩ := hrel
    obtain ⟨wo, rfl⟩ : ∃ wo : World, wo = wr := ⟨_, rfl⟩
    have HO1 := Lib.hid ho; have HP := Lib.hid hp; have HF := Lib.hid hf
    have hln : l'.length = n := by rw [hp.length_eq, HLN.out]
    have HL' := Lib.hid hln
    clear ho hp hf hln
    by_cases hlt : 2 * k + 1 < n
    · obtain ⟨g, c, e, hg0, hg1, hfr⟩ := own_form HO1.out (by omega)
      simp only [Value.slice.injEq, true_and] at e
      obtain ⟨rfl, rfl⟩ := e
      obtain ⟨j, hj⟩ : ∃ j : Nat, j = n - 1 - k := ⟨_, rfl⟩
      have hji : (n : Int) - 1 - k = (j : Int) := by omega
      obtain ⟨b, off, e, hb, hc⟩ := (rdE_of_own HO1.out).at_ (by omega)
      simp only [Option.some.injEq, Addr.mk.injEq, and_true] at e
      obtain ⟨rfl, rfl⟩ := e
      obtain ⟨u, v, z, HE, c0, c1, c2⟩ := hc k (by omega)
      obtain ⟨u', v', z', HE', d0, d1, d2⟩ := hc j (by omega)
      rw [hji]
      have HJ := Lib.hid hj
      have hkj : k < j := by omega
      have hjn : j < n := by omega
      have hkn : k < n := by omega
      simp only [Nat.zero_add] at c0 c1 c2 d0 d1 d2
      clear hc hji hj
      have f0 := frozen_own HO1.out (k * 3)
      have f1 := frozen_own HO1.out (k * 3 + 1)
      have f2 := frozen_own HO1.out (k * 3 + 2)
      have f3 := frozen_own HO1.out (j * 3)
      have f4 := frozen_own HO1.out (j * 3 + 1)
      have f5 := frozen_own HO1.out (j * 3 + 2)
      have mixed : Tryz.prog.follows Departure.mixedOrders = true := by kernel_rfl
      have key1 : ∀ (W : World) (es : List (Int × Int × Int)), W.ownsRow lo 41 3 (.slice (some ⟨g, 0, none⟩) n cA) n (flatE es) → W.drew.ownsRow lo 41 3 (.slice (some ⟨g, 0, none⟩) n cA) n (flatE es) := fun W es h => ownsRow_of_heap h (fun _ _ => rfl)
      have key2 : ∀ (W : World) (S : Nat → Prop), Foot S w W → Foot S w W.drew := fun W S h => ⟨h.os, h.tape, h.output, h.size, h.block⟩
      have HK := Lib.hid (And.intro key1 key2)
      clear key1 key2
      go_wp2_with fail
      go_region_o
      go_wp2_with fail
      go_roundw
      case rel =>
        obtain ⟨q1, q2⟩ := List.getElem?_eq_some_iff.1 HE.out
        obtain ⟨q3, q4⟩ := List.getElem?_eq_some_iff.1 HE'.out
        have hjj : (j : Int) - 1 = (n : Int) - 1 - ((k + 1 : Nat) : Int) := by have := HJ.out; omega
        refine ⟨k + 1, (l'.set k (u', v', z')).set j (u, v, z), by omega, by go_num, by rw [hjj], ?_, HK.out.1 _ _ ?_, HK.out.2 _ _ ?_⟩
        · have h := List.set_set_perm q1 q3
          rw [q2, q4] at h
          exact h.trans HP.out
        · rw [flatE_set, flatE_set]
          exact own_putS (own_putS (own_putS (own_putS (own_putS (own_putS HO1.out _) _) _) _) _) _
        · exact (((((HF.out.setCell g (k * 3) (.int .i64 u') (.inl rfl)).setCell g (k * 3 + 1) (.int .i64 v') (.inl rfl)).setCell g (k * 3 + 2) (.int .i64 z') (.inl rfl)).setCell g (j * 3) (.int .i64 u) (.inl rfl)).setCell g (j * 3 + 1) (.int .i64 v) (.inl rfl)).setCell g (j * 3 + 2) (.int .i64 z) (.inl rfl)
      case measure => simp [intOf]; omega
    · have hd1 : ¬ (k : Int) < (n : Int) - 1 - k := by omega
      go_wp2_with fail
      go_end0
      exact ⟨rfl, l', HP.out, HO1.out, HF.out⟩

set_option maxHeartbeats 8000000 in
set_option maxRecDepth 200000 in
theorem rolledE_calls (a : Option Addr) (n c b : Nat) (l : List (Int × Int × Int)) (w : World) (hr : RdE w a n l) (hn : n ≤ 250000) (hb8 : b < 256) :
    Calls Tryz.prog 19 #[.slice a n c, .int .u8 b] w fun e w' => ∃ (v' : Value) (l' : List (Int × Int × Int)), e = .returned v' ∧ l'.Perm l ∧ w'.ownsRow w.heap.size 41 3 v' n (flatE l') ∧ Below w.heap.size w w' := by
  have HR := Lib.hid hr
  have hln : l.length = n := hr.len
  have HLN := Lib.hid hln
  have HRL : Hid ((rotN l b).length = n) := Lib.hid (by rw [rotN_len]; exact hln)
  clear hr hln
  obtain ⟨i0, hi0, hz0, hz1, hz2⟩ := info_parts edge_info
  have HI := Lib.hid (And.intro hi0 (And.intro hz0 (And.intro hz1 hz2)))
  clear hi0 hz0 hz1 hz2
  go_enter Tryz.func19, Tryz.ntmps19
  go_wp2_with fail
  go_loopw [5, 6] (fun v i wr => ∃ k : Nat, k ≤ n ∧ i = .int .i64 k ∧ wr.ownsRow w.heap.size 41 3 v k (flatE ((rotN l b).take k)) ∧ Below w.heap.size w wr) (fun _ i _ => n - (intOf i).toNat)
  case atStart => exact ⟨0, by omega, rfl, by simpa [flatE] using World.ownsRow_nil _ _ _ _, Below.refl _ _⟩
  case round =>
    obtain ⟨k, hk, rfl, ho, hb⟩ := hrel
    obtain ⟨wo, rfl⟩ : ∃ wo : World, wo = wr := ⟨_, rfl⟩
    obtain ⟨aO, cO, rfl⟩ := own_shape' ho
    have HO := Lib.hid ho; have HB := Lib.hid hb
    have hszr := hb.size
    clear ho hb
    by_cases hkn : k < n
    · obtain ⟨bl, off, rfl, hbl, hc⟩ := HR.out.at_ (by omega)
      obtain ⟨p, hp⟩ : ∃ p, p = (k + b) % n := ⟨_, rfl⟩
      have hpn : p < n := by rw [hp]; exact Nat.mod_lt _ (by omega)
      obtain ⟨u, v, z, hz, hc0, hc1, hc2⟩ := hc p hpn
      have e0 := (HB.out.cell (p := ⟨bl, _, none⟩) hbl).trans hc0
      have e1 := (HB.out.cell (p := ⟨bl, _, none⟩) hbl).trans hc1
      have e2 := (HB.out.cell (p := ⟨bl, _, none⟩) hbl).trans hc2
      have ht : Int.tmod ((k : Int) + (b : Int)) (n : Int) = (p : Int) := by rw [rot_tmod, hp]
      have HS : Hid ((rotN l b).take (k + 1) = (rotN l b).take k ++ [(u, v, z)]) := Lib.hid (by
        have h1 : k < (rotN l b).length := by rw [HRL.out]; exact hkn
        rw [List.take_succ_eq_append_getElem h1]
        have h2 := rotN_at l b k (by rw [HLN.out]; exact hkn)
        rw [HLN.out, ← hp, List.getElem?_eq_getElem h1, hz.out] at h2
        rw [Option.some.inj h2])
      clear hc hc0 hc1 hc2 hz hp
      obtain ⟨hi0, hz0, hz1, hz2⟩ := HI.out
      have hsmm : (k + 1) * 24 ≤ 140737488355328 := by omega
      have hmx : k + 1 ≤ maxLen := by unfold maxLen; omega
      have HOA : Hid (∀ o, (wo.alloc o).ownsRow w.heap.size 41 3 (.slice aO k cO) k (flatE ((rotN l b).take k))) := Lib.hid (fun o => HO.out.alloc _)
      go_wp2_with (first | rw [ht] | (at_builtin; refine wpList_append_own_at _ rfl _ _ 23 rfl w.heap.size 41 i0 (.agg #[.int .i64 0, .int .i64 0, .int .i64 0]) 3 24 Tryz.underlying23 hi0 hz0 hz1 hz2 rfl (by decide) (.slice aO k cO) k (flatE ((rotN l b).take k)) rfl (HOA.out _) ⟨wo.heap.size, 0, none⟩ 1 1 [.int .i64 u, .int .i64 v, .int .i64 z] rfl rfl ?c1 ?c2 hmx hsmm ?c5 ?_))
      case c1 => exact World.news_of_block (cs := #[.int .i64 u, .int .i64 v, .int .i64 z]) (t := 41) (fr := (0, 0)) (heap_alloc_new wo _)
      case c2 => intro y hy; simp at hy; rcases hy with rfl | rfl | rfl <;> rfl
      case c5 => simp; omega
      intro v6 w6 hown6 hgrow6 _ _
      have HB6 : Hid (Below w.heap.size w w6) := Lib.hid ((HB.out.alloc hszr _).grown hgrow6 (by simp; omega) (fun j hj => (HO.out.lt j hj).1))
      have HO6 : Hid (w6.ownsRow w.heap.size 41 3 v6 (k + 1) (flatE ((rotN l b).take (k + 1)))) := Lib.hid (by
        rw [HS.out, flatE_append]; exact hown6)
      clear hown6 hgrow6 e0 e1 e2
      go_wp2_with fail
      go_roundw
      case rel => exact ⟨k + 1, by omega, by go_num, HO6.out, HB6.out⟩
      case measure => simp [intOf]; omega
    · obtain rfl : k = n := by omega
      have HO2 : Hid (wo.ownsRow w.heap.size 41 3 (.slice aO k cO) k (flatE (rotN l b))) := Lib.hid (by
        have h := HO.out
        rw [List.take_of_length_le (by rw [HRL.out]; exact Nat.le_refl _)] at h
        exact h)
      obtain ⟨d, hd⟩ : ∃ d, d = (b % 2 == 1) := ⟨_, rfl⟩
      have hd2 : (Int.tmod (b : Int) 2 == 1) = d := by
        rw [show (2 : Int) = ((2 : Nat) : Int) from rfl, ← Int.ofNat_tmod, hd]
        cases h : (b % 2 == 1)
        · rw [beq_eq_false_iff_ne] at h ⊢; omega
        · rw [beq_iff_eq] at h ⊢; omega
      have hd3 : ((b : Int) % 2 == 1) = d := by
        rw [hd]
        cases h : (b % 2 == 1)
        · rw [beq_eq_false_iff_ne] at h ⊢; omega
        · rw [beq_iff_eq] at h ⊢; omega
      clear hd
      cases d
      · go_wp2_with (rw [hd2])
        go_ret
        exact ⟨_, rotN l b, rfl, rotN_perm l b, HO2.out, HB.out⟩
      · go_wp2_with (rw [hd2])
        refine (revE_calls w.heap.size (.slice aO k cO) k (rotN l b) wo HO2.out (by omega) HRL.out).mono ?_
        rintro e w1 ⟨rfl, l1, hp1, ho1, hf1⟩
        have HO1 := Lib.hid ho1
        have HP1 := Lib.hid hp1
        have HB1 : Hid (Below w.heap.size w w1) := Lib.hid (below_of_foot HB.out hf1 hszr (fun j hj => (HO2.out.lt j hj.symm).1))
        clear ho1 hf1 hp1
        go_wp2_with fail
        go_ret
        exact ⟨_, l1, rfl, HP1.out.trans (rotN_perm l b), HO1.out, HB1.out⟩
end Go.Proofs.YtnfkbjgijelfdaaGreat
