/- The walks of an iterator's NodeSlice and of graph.NodesOf. A slice of nodes that reads as a list; slices of it; impl.numbers over it. -/
import Derived.Test.YtnfkbjgijelfdaaGreatOpen
import Derived.Test.YtnfkbjgijelfdaaGreatLolG
import Derived.Test.YtnfkbjgijelfdaaGreatMeth
import Derived.Test.YtnfkbjgijelfdaaGreatWays
namespace Go.Proofs.YtnfkbjgijelfdaaGreat
open Go.RowKit

set_option maxHeartbeats 1000000 in
theorem lenIt_calls (B bi : Nat) (ns : List Int) (w : World) (h : ItSt w B bi 0 ns) :
    Calls Tryz.prog 251 #[.pointer (some ⟨bi, 0, none⟩)] w fun e w' => e = .returned (.int .i64 ns.length) ∧ ∃ q, w' = w.drewN q := by
  obtain ⟨a, c, h1, h2, h3, h4, h5, h6⟩ := h
  have q0 : w.cell? ⟨bi, 0, none⟩ = some (.int .i64 (-1)) := by rw [cell_of_row w bi 0 _ _ (0, 0) h1]; rfl
  have q1 : w.cell? ⟨bi, 1, none⟩ = some (.slice a ns.length c) := by rw [cell_of_row w bi 1 _ _ (0, 0) h1]; rfl
  have hnc : (a = none ∧ ns.length = 0 ∧ c = 0) ∨ (∃ g, a = some ⟨g, 0, none⟩ ∧ ns.length ≤ c) := by
    rcases h2.2 with ⟨e, e0⟩ | ⟨g, cap, cur, e, hb, hg, hn, _⟩
    · simp only [Value.slice.injEq] at e
      exact .inl ⟨e.1, e.2.1, e.2.2⟩
    · simp only [Value.slice.injEq] at e
      exact .inr ⟨g, e.1, by omega⟩
  clear h1 h2 h3 h4
  obtain ⟨n, hn⟩ : ∃ n, n = ns.length := ⟨_, rfl⟩
  rw [← hn] at q1 hnc h6 ⊢
  clear hn h5
  have hlt : ¬ ((n : Int) ≤ -1) := by omega
  rcases hnc with ⟨rfl, rfl, rfl⟩ | ⟨g, rfl, hnc⟩
  all_goals
    go_enter Tryz.func251, Tryz.ntmps251
    go_wp2_with fail
    go_quiet (fail)
    go_wp2
    obtain ⟨w1, hw1⟩ : ∃ w1, w1 = w.drewN nq := ⟨_, rfl⟩
    have q0' : w1.cell? ⟨bi, 0, none⟩ = some (.int .i64 (-1)) := by rw [hw1]; exact q0
    have q1' := (show w1.cell? ⟨bi, 1, none⟩ = w.cell? ⟨bi, 1, none⟩ from by rw [hw1]; rfl).trans q1
    rw [← hw1]
    have HW1 := Lib.hid hw1
    clear hw1 q0 q1
    go_quiet (fail)
    go_wp2
    go_ret
    exact ⟨by first | rfl | simp, _, by rw [HW1.out]; exact World.drewN_drewN ..⟩
def SlicePost (B bi : Nat) (ns : List Int) (w : World) (e : Ending) (w' : World) : Prop :=
  ∃ v, e = .returned v ∧ w'.ownsRow B 103 1 v ns.length (ns.map nodeV) ∧ w.grownBy w' (some bi) ∧ (∀ g, v.ownBlock = some g → g < bi)

set_option maxHeartbeats 1000000 in
theorem nodeSlice_calls (B bi : Nat) (ns : List Int) (w : World) (h : ItSt w B bi 0 ns) (hpos : 0 < ns.length) :
    Calls Tryz.prog 254 #[.pointer (some ⟨bi, 0, none⟩)] w (SlicePost B bi ns w) := by
  have H := Lib.hid h
  obtain ⟨a, c, h1, h2, h3, h4, h5, h6⟩ := h
  have q0 : w.cell? ⟨bi, 0, none⟩ = some (.int .i64 (-1)) := by rw [cell_of_row w bi 0 _ _ (0, 0) h1]; rfl
  have q1 : w.cell? ⟨bi, 1, none⟩ = some (.slice a ns.length c) := by rw [cell_of_row w bi 1 _ _ (0, 0) h1]; rfl
  have f0 : w.frozen? ⟨bi, 0, none⟩ = false := by simp [World.frozen?, h1]
  obtain ⟨g, c', e, hg0, hg1, -⟩ := own_form h2 hpos
  simp only [Value.slice.injEq, true_and] at e
  obtain ⟨rfl, rfl⟩ := e
  have hnc : ns.length ≤ c := by
    rcases h2.2 with ⟨e, e0⟩ | ⟨g, cap, cur, e, hb, hg, hn, _⟩
    · cases e
    · simp only [Value.slice.injEq] at e; omega
  have hgb := h4 g rfl
  have HOW := Lib.hid h2
  clear h1 h2 h3 h4
  obtain ⟨n, hn⟩ : ∃ n, n = ns.length := ⟨_, rfl⟩
  rw [← hn] at q1 hnc h6 hpos
  have HNN := Lib.hid hn
  clear hn h5
  have hlt : ¬ ((n : Int) ≤ -1) := by omega
  go_enter Tryz.func254, Tryz.ntmps254
  go_wp2_with fail
  go_quiet (fail)
  go_wp2_with fail
  go_ret
  have hs := H.out.set (k' := ns.length + 1) (by omega) nq
  rw [show ((ns.length + 1 : Nat) : Int) - 1 = (n : Int) by rw [← HNN.out]; omega] at hs
  refine ⟨_, rfl, ?_, hs.2, fun g' hg' => ?_⟩
  · rw [← HNN.out]
    have h := HOW.out
    rw [← HNN.out] at h
    exact ownsRow_of_heap h (fun g' hg' => hs.2.block g' (HOW.out.lt g' hg').2 (fun e => by
      have e1 : g = g' := Option.some.inj hg'
      have e2 : g' = bi := Option.some.inj e
      omega))
  · have e1 : g = g' := Option.some.inj hg'
    omega

theorem method_Len (bi : Nat) (w : World) : (method 393 285 (.pointer (some ⟨bi, 0, none⟩)) "Len").run Tryz.prog w = .ok (251, .pointer (some ⟨bi, 0, none⟩)) w := by kernel_rfl
theorem ahead_Len (bi : Nat) (w : World) : (nilAhead 393 285 (.pointer (some ⟨bi, 0, none⟩)) "Len").run Tryz.prog w = .ok (some false) w := by kernel_rfl
theorem method_NS (bi : Nat) (w : World) : (method 393 285 (.pointer (some ⟨bi, 0, none⟩)) "NodeSlice").run Tryz.prog w = .ok (254, .pointer (some ⟨bi, 0, none⟩)) w := by kernel_rfl
theorem ahead_NS (bi : Nat) (w : World) : (nilAhead 393 285 (.pointer (some ⟨bi, 0, none⟩)) "NodeSlice").run Tryz.prog w = .ok (some false) w := by kernel_rfl

theorem assert_NS (bi : Nat) (w : World) : (Instr.typeAssert (.iface 285 (.pointer (some ⟨bi, 0, none⟩))) 182 227 true).run Tryz.prog w = .ok (.tuple #[.iface 285 (.pointer (some ⟨bi, 0, none⟩)), .bool true]) w := by kernel_rfl

set_option maxHeartbeats 2000000 in
set_option maxRecDepth 100000 in
theorem nodesOfG_calls (B bi : Nat) (ns : List Int) (w : World) (h : ItSt w B bi 0 ns) :
    Calls Tryz.prog 124 #[iterV bi] w (SlicePost B bi ns w) := by
  have H := Lib.hid h
  have hlt := h.lt
  have h6 : ns.length ≤ 1000000 := by obtain ⟨a, c, h1, h2, h3, h4, h5, h6⟩ := h; exact h6
  clear h
  unfold iterV
  have m1 := method_Len bi; have m2 := ahead_Len bi; have m3 := method_NS bi; have m4 := ahead_NS bi
  by_cases h0 : ns.length = 0
  · have HZ := Lib.hid h0
    go_enter Tryz.func124, Tryz.ntmps124
    go_wp2_with fail
    refine (lenIt_calls B bi ns w H.out).mono ?_
    rintro e w1 ⟨rfl, q, rfl⟩
    rw [HZ.out]
    go_wp2_with fail
    go_ret
    have e : ns = [] := List.eq_nil_of_length_eq_zero HZ.out
    subst e
    exact ⟨_, rfl, World.ownsRow_nil _ _ _ _, ⟨rfl, rfl, rfl, Nat.le_refl _, fun _ _ _ => rfl⟩, fun g hg => by cases hg⟩
  · have m5 := assert_NS bi
    have hz : ¬ ((ns.length : Int) = 0) := by omega
    have hz2 : ((ns.length : Int) == 0) = false := by rw [beq_eq_false_iff_ne]; omega
    have hz3 : ¬ ((ns.length : Int) < 0) := by omega
    go_enter Tryz.func124, Tryz.ntmps124
    go_wp2_with fail
    refine (lenIt_calls B bi ns w H.out).mono ?_
    rintro e w1 ⟨rfl, q, rfl⟩
    have H2 : Hid (ItSt (w.drewN q) B bi 0 ns) := Lib.hid (H.out.later (below_drewN (Below.refl _ _) q))
    go_wp2_with fail
    refine (nodeSlice_calls B bi ns (w.drewN q) H2.out (by omega)).mono ?_
    rintro e w2 ⟨v, rfl, ho, hg, hv⟩
    obtain ⟨a, c, rfl⟩ := own_shape' ho
    have HO := Lib.hid ho; have HG : Hid (w.grownBy w2 (some bi)) := Lib.hid ⟨hg.os, hg.tape, hg.output, hg.size, hg.block⟩
    have HV := Lib.hid hv
    clear ho hg hv
    go_wp2_with fail
    go_ret
    exact ⟨_, rfl, HO.out, HG.out, HV.out⟩
end Go.Proofs.YtnfkbjgijelfdaaGreat
namespace Go.Proofs.YtnfkbjgijelfdaaGreat
open Go.RowKit

structure RdN (w : World) (a : Option Addr) (n : Nat) (l : List Int) : Prop where
  len : l.length = n
  at_ : 0 < n → ∃ b off, a = some ⟨b, off, none⟩ ∧ b < w.heap.size ∧ ∀ j, j < n → ∃ z, Hid (l.getD j 0 = z) ∧ w.cell? ⟨b, off + j, none⟩ = some (nodeV z)

theorem RdN.below {w w' : World} {a : Option Addr} {n : Nat} {l : List Int} {B : Nat} (h : RdN w a n l) (hb : Below B w w') (hB : w.heap.size ≤ B) : RdN w' a n l :=
  ⟨h.len, fun h0 => by
    obtain ⟨b, off, e, hb', hc⟩ := h.at_ h0
    exact ⟨b, off, e, Nat.lt_of_lt_of_le hb' hb.size, fun j hj => by
      obtain ⟨z, hz, hc⟩ := hc j hj
      exact ⟨z, hz, (hb.cell (p := ⟨b, off + j, none⟩) (show b < B by omega)).trans hc⟩⟩⟩
theorem RdN.of_heap {w w' : World} {a : Option Addr} {n : Nat} {l : List Int} (h : RdN w a n l) (hs : w.heap.size ≤ w'.heap.size) (hb : ∀ g off, a = some ⟨g, off, none⟩ → w'.heap[g]? = w.heap[g]?) : RdN w' a n l :=
  ⟨h.len, fun h0 => by
    obtain ⟨b, off, e, hb', hc⟩ := h.at_ h0
    exact ⟨b, off, e, Nat.lt_of_lt_of_le hb' hs, fun j hj => by
      obtain ⟨z, hz, hc⟩ := hc j hj
      exact ⟨z, hz, (World.cell?_of_block (hb b off e)).trans hc⟩⟩⟩
theorem RdN.of_own {w : World} {B : Nat} {a : Option Addr} {n c : Nat} {l : List Int} (h : w.ownsRow B 103 1 (.slice a n c) n (l.map nodeV)) : RdN w a n l := by
  refine ⟨by have := h.1; simpa using this, fun h0 => ?_⟩
  obtain ⟨g, c', e, h1, h2, -⟩ := own_form h h0
  simp only [Value.slice.injEq, true_and] at e
  obtain ⟨rfl, rfl⟩ := e
  refine ⟨g, 0, rfl, h2, fun j hj => ⟨l.getD j 0, Lib.hid rfl, ?_⟩⟩
  have hj2 : j < l.length := by have := h.1; simp at this; omega
  have := (own_at h (i := j) (u := nodeV (l.getD j 0)) (by simp [List.getD, hj2])).1
  rw [Nat.zero_add]; exact this

/-- A slice of it. -/
theorem RdN.cut {w : World} {a : Option Addr} {n c : Nat} {l : List Int} (h : RdN w a n l) (hc : n ≤ c) {lo k : Nat} (hlo : lo + k ≤ n) :
    ∃ a' c', sliced a lo (lo + k) c 1 = .slice a' k c' ∧ k ≤ c' ∧ RdN w a' k ((l.drop lo).take k) := by
  have hl := h.len
  refine ⟨_, _, by unfold sliced; rw [Nat.add_sub_cancel_left], by omega, by rw [List.length_take, List.length_drop]; omega, fun h0 => ?_⟩
  obtain ⟨b, off, rfl, hb, hc'⟩ := h.at_ (by omega)
  rw [if_neg (by omega)]
  refine ⟨b, off + lo, by simp [Addr.add], hb, fun j hj => ?_⟩
  obtain ⟨z, hz, hz2⟩ := hc' (lo + j) (by omega)
  refine ⟨z, Lib.hid ?_, by rw [Nat.add_assoc]; exact hz2⟩
  rw [← hz.out]
  simp only [List.getD, List.getElem?_take, List.getElem?_drop, hj, if_true]

theorem sliceE_lh {P : Program} (w : World) (t e : TypeId) (ht : P.underlying t = some (.slice e)) (hz : ∀ w, (Go.sizeOf e).run P w = .ok 1 w) (a : Option Addr) (len cap : Nat) (kl kh : IntKind) (l h : Nat) (h1 : l ≤ h) (h2 : h ≤ cap) :
    (Instr.slice t (.slice a len cap) (some (.int kl l)) (some (.int kh h)) none).run P w = .ok (sliced a l h cap 1) w := by
  simp [Instr.slice, run_underlying ht, Instr.sliceBounds, run_sliceBound, sliced, hz, h1, h2]
theorem sliceE_l {P : Program} (w : World) (t e : TypeId) (ht : P.underlying t = some (.slice e)) (hz : ∀ w, (Go.sizeOf e).run P w = .ok 1 w) (a : Option Addr) (len cap : Nat) (kl : IntKind) (l : Nat) (h1 : l ≤ len) :
    (Instr.slice t (.slice a len cap) (some (.int kl l)) none none).run P w = .ok (sliced a l len cap 1) w := by
  simp [Instr.slice, run_underlying ht, Instr.sliceBounds, run_sliceBound, sliced, hz, h1]
theorem sliceE_h {P : Program} (w : World) (t e : TypeId) (ht : P.underlying t = some (.slice e)) (hz : ∀ w, (Go.sizeOf e).run P w = .ok 1 w) (a : Option Addr) (len cap : Nat) (kh : IntKind) (h : Nat) (h2 : h ≤ cap) :
    (Instr.slice t (.slice a len cap) none (some (.int kh h)) none).run P w = .ok (sliced a 0 h cap 1) w := by
  simp [Instr.slice, run_underlying ht, Instr.sliceBounds, run_sliceBound, sliced, hz, h2]
theorem int_size (w : World) : (Go.sizeOf 3).run Tryz.prog w = .ok 1 w := by kernel_rfl
theorem node_size (w : World) : (Go.sizeOf 103).run Tryz.prog w = .ok 1 w := by kernel_rfl

def NumRPost (p : List Int) (w : World) (e : Ending) (w' : World) : Prop :=
  ∃ v, e = .returned v ∧ w'.ownsRow w.heap.size 3 1 v p.length (p.map (Value.int .i64)) ∧ Below w.heap.size w w'

set_option maxHeartbeats 1000000 in
theorem numbersR_calls (a : Option Addr) (n c : Nat) (p : List Int) (w : World) (hr : RdN w a n p) (hn : n ≤ 1000000) :
    Calls Tryz.prog 43 #[.slice a n c] w (NumRPost p w) := by
  have hpl : p.length = n := hr.len
  have HR := Lib.hid hr; clear hr
  obtain ⟨i0, hi0, hz0, hz1, hz2⟩ := info_parts int_info
  have HI := Lib.hid (And.intro hi0 (And.intro hz0 (And.intro hz1 hz2)))
  clear hi0 hz0 hz1 hz2
  go_enter Tryz.func43, Tryz.ntmps43
  go_wp2_with fail
  go_loopw [3, 8] (fun v i wr => ∃ k : Nat, k ≤ n ∧ i = .int .i64 k ∧ wr.ownsRow w.heap.size 3 1 v k ((p.take k).map (Value.int .i64)) ∧ Below w.heap.size w wr) (fun _ i _ => n - (intOf i).toNat)
  case atStart => exact ⟨0, by omega, rfl, World.ownsRow_nil _ _ _ _, Below.refl _ _⟩
  case round =>
    rename_i v i
    obtain ⟨k, hk, rfl, ho, hb⟩ := hrel
    obtain ⟨a1, c1, rfl⟩ := own_shape' ho
    have HO := Lib.hid ho; have HB := Lib.hid hb
    have hszr := hb.size
    clear ho
    by_cases hlt : k < n
    · obtain ⟨g, off, rfl, hg1, hcz⟩ := HR.out.at_ (by omega)
      have hkp : k < p.length := by omega
      obtain ⟨z, HZ, hcz⟩ := hcz k hlt
      unfold nodeV at hcz
      have hck := (hb.cell (p := ⟨g, off + k, none⟩) hg1).trans hcz
      clear hcz hb
      obtain ⟨hi0, hz0, hz1, hz2⟩ := HI.out
      have hsm : (k + 1) * 8 ≤ 140737488355328 := by omega
      go_wp2_with fail
      refine (number_calls z wr).mono ?_
      rintro e w2 ⟨rfl, rfl⟩
      go_wp2_with (at_builtin; refine wpList_append_own _ rfl _ _ 22 rfl w.heap.size 3 i0 (.int .i64 0) 1 8 Tryz.underlying22 hi0 hz0 hz1 hz2 rfl (by decide) (.slice a1 k c1) k ((p.take k).map (Value.int .i64)) rfl (HO.out.alloc _) ⟨wr.heap.size, 0, none⟩ 1 1 [.int .i64 z] rfl rfl ?c1 ?c2 ?c3 ?c4 ?c5 ?_)
      case c1 => intro j u hj; match j, hj with | 0, hj => simp at hj; subst hj; simp [Addr.add]
      case c2 => intro u hu; simp at hu; subst hu; rfl
      case c3 => unfold maxLen; omega
      case c4 => exact hsm
      case c5 => simp; omega
      intro v' w' hown' hgrow _
      obtain ⟨a', c', rfl⟩ := own_shape' hown'
      have HO' := Lib.hid hown'
      have HB' : Hid (Below w.heap.size w w') := (HB.out.alloc (by omega) _).grown hgrow (by simp; omega) (fun j hj => (HO.out.lt j hj).1)
      clear hown' hgrow
      go_wp2
      go_roundw
      case rel =>
        refine ⟨k + 1, by omega, by go_num, ?_, HB'.out⟩
        have e2 : (p.take (k + 1)).map (Value.int .i64) = List.map (Value.int .i64) (p.take k) ++ [.int .i64 z] := by
          rw [List.take_succ_eq_append_getElem hkp, List.map_append]
          have h := HZ.out; rw [List.getD, List.getElem?_eq_getElem hkp] at h; simp at h; simp [h]
        rw [e2]; have := HO'.out; simpa using this
      case measure => simp [intOf]; omega
    · go_wp2
      go_ret
      obtain rfl : k = n := by omega
      refine ⟨_, rfl, ?_, HB.out⟩
      have h := HO.out
      rw [List.take_of_length_le (by omega)] at h
      rw [hpl]
      exact h
end Go.Proofs.YtnfkbjgijelfdaaGreat
