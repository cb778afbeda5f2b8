/- The walks of topo.KCore and topo.DegeneracyOrdering. -/
import Derived.Test.YtbkhakjbmdmghaaDeg
import Derived.Test.YtbkhakjbmdmghaaDegR
import Derived.Test.YtbkhakjbmdmghaaRdN
import Derived.Test.YtbkhakjbmdmghaaShelfR
import Derived.Laws.CopyOwn
import Derived.Lib.OwnBridge
namespace Go.Proofs.Ytbkhakjbmdmghaa
open Go.RowKit

theorem make_nodesK (W : World) (n : Nat) (hn : n ≤ 1000000) : (Instr.makeSlice 46 (.int .i64 n) (.int .i64 n)).run Try.prog W = .ok (.slice (some ⟨W.heap.size, 0, none⟩) n n) (W.alloc (.cells (List.replicate n .nilIface).toArray 70)) := by
  obtain ⟨i0, hi0, hz0, hz1, hz2⟩ := info_parts node_info
  have := run_make (P := Try.prog) W 46 70 i0 _ Try.underlying46 hi0 hz0 .i64 .i64 n n (by omega) (by omega) (by rw [hz2]; omega) (by omega)
  rw [this, hz1, Int.toNat_natCast, Nat.mul_one, made_zeros _ _ rfl]
  simp [zerosOf, List.map_const']

/-- Both lists are of the same greatest level. -/
theorem DegS.top_le {ids : List Int} {adj : Int → List Int} {ps qs : List (Int × Nat)} {k j : Nat} (h : DegS ids adj ps k) (g : DegS ids adj qs j) (hall : ∀ v ∈ ids, v ∈ qs.map (·.1)) : k ≤ j := by
  rcases h.top with ⟨_, rfl⟩ | ⟨p, hp, rfl⟩
  · omega
  · obtain ⟨q, hq, e⟩ := List.mem_map.1 (hall _ (h.sub p hp))
    have h1 := (h.lev p hp).1
    have h2 := (g.lev q hq).2
    have h3 := g.le q hq
    rw [e] at h2
    by_cases hlt : p.2 ≤ q.2
    · omega
    · exact absurd (h1.less (by omega)) h2

def KPost (ids : List Int) (adj : Int → List Int) (kk : Nat) (w : World) (e : Ending) (w' : World) : Prop :=
  ∃ (v : Value) (ps : List (Int × Nat)) (k : Nat), e = .returned v ∧ w'.ownsRow w.heap.size 70 1 v (kcoreL ps kk).length ((kcoreL ps kk).map nodeV) ∧ DegS ids adj ps k ∧ ps.length = ids.length ∧ (∀ v ∈ ids, v ∈ ps.map (·.1)) ∧ Below w.heap.size w w'

set_option maxHeartbeats 4000000 in
theorem topoKCore_calls {t : TypeId} {recv : Value} {fNs fFr : FuncId} {G : World → Prop} {ids : List Int} {adj : Int → List Int} (hA : GraphO t recv fNs fFr G ids adj) (w : World) (hg : G w) (hup : ids.Pairwise (· < ·))
    (hall : ∀ v, (adj v).Nodup) (hsub : ∀ a b, b ∈ adj a → b ∈ ids) (hsym : ∀ a b, b ∈ adj a → a ∈ adj b) (hn : ids.length ≤ 1000) (hwf : ∀ y ∈ ids, (Lit.int .i64 y).wf = true)
    (kk : Nat) (hkk : ∀ ps k, DegS ids adj ps k → (∀ v ∈ ids, v ∈ ps.map (·.1)) → kk ≤ k + 1) :
    Calls Try.prog 23 #[.int .i64 kk, .iface t recv] w (KPost ids adj kk w) := by
  have HC := Lib.hid (degeneracy_calls hA w hg hup hall hsub hsym hn hwf)
  have HKK := Lib.hid hkk
  clear hA hg hup hall hsub hsym hwf hkk
  go_enter Try.func23, Try.ntmps23
  go_wp2_with fail
  refine HC.out.mono ?_
  rintro e w1 ⟨vL, vS, ps, k, rfl, hoL, hoS, hap, hD, hlen, hk, hcov, hb⟩
  obtain ⟨aL, cL, rfl⟩ := own_shape' hoL
  obtain ⟨gS, cS, rfl, hgS1, hgS2, -⟩ := own_form hoS (by omega)
  have hkk := HKK.out ps k hD hcov
  have hcS : k + 1 ≤ cS ∧ ps.length ≤ cL := by
    constructor
    · rcases hoS.2 with ⟨h3, _⟩ | ⟨g', cap, cur, h3, _, _, h6, _⟩
      · simp at h3
      · simp only [Value.slice.injEq] at h3; omega
    · rcases hoL.2 with ⟨h3, h4⟩ | ⟨g', cap, cur, h3, _, _, h6, _⟩
      · have : ps.length = 0 := h4
        omega
      · simp only [Value.slice.injEq] at h3; omega
  obtain ⟨hcS, hcL⟩ := hcS
  obtain ⟨n, hn0⟩ : ∃ n, n = ps.length := ⟨_, rfl⟩
  rw [← hn0] at hoL hcL ⊢
  have hn1 : n ≤ 1000 := by omega
  obtain ⟨l, hl⟩ : ∃ l, l = lessN ps kk := ⟨_, rfl⟩
  have hln : l ≤ n := by rw [hl, hn0]; exact lessN_le ps kk
  obtain ⟨m, hm⟩ : ∃ m, n = l + m := ⟨n - l, by omega⟩
  have HOL := Lib.hid hoL; have HOS := Lib.hid hoS; have HD := Lib.hid hD; have HB := Lib.hid hb; have HCOV := Lib.hid hcov; have HN := Lib.hid hn0; have HL := Lib.hid hl; have HLEN := Lib.hid hlen; have HM := Lib.hid hm
  have hs1 : ∀ W, (Instr.slice 22 (.slice (some ⟨gS, 0, none⟩) (k + 1) cS) none (some (.int .i64 kk)) none).run Try.prog W = .ok (.slice (some ⟨gS, 0, none⟩) kk cS) W := fun W => by
    rw [sliceE_h W 22 3 Try.underlying22 int_size _ _ _ _ kk (by omega)]
    unfold sliced
    rw [if_neg (by omega)]
    simp [Addr.add]
  obtain ⟨aC, cC, hsl, hcC, hrC⟩ := (RdN.of_own hoL).cut hcL (lo := l) (k := m) (by omega)
  have hrm : ((ps.map (·.1)).drop l).take m = kcoreL ps kk := by
    unfold kcoreL
    rw [← hl]
    exact List.take_of_length_le (by rw [List.length_drop, List.length_map]; omega)
  rw [hrm] at hrC
  have hs2 : ∀ W, (Instr.slice 46 (.slice aL n cL) (some (.int .i64 l)) none none).run Try.prog W = .ok (.slice aC m cC) W := fun W => by
    rw [sliceE_l W 46 70 Try.underlying46 node_size _ _ _ _ l (by omega), show n = l + m from hm, hsl]
  have HRC := Lib.hid hrC
  obtain ⟨w2, hw2⟩ : ∃ w2, w2 = w1.alloc (.cells (List.replicate m .nilIface).toArray 70) := ⟨_, rfl⟩
  have hmk := make_nodesK w1 m (by omega)
  rw [← hw2] at hmk
  have HW2 := Lib.hid hw2
  have hsb1 : (n : Int) - (l : Int) = (m : Int) := by omega
  have hsb2 : IntKind.i64.wrap ((n : Int) - (l : Int)) = (m : Int) := by rw [IntKind.wrap_i64]; omega
  have hmn : m ≤ n := by omega
  have hkk2 : kk ≤ 1001 := by omega
  clear hoL hoS hap hD hlen hcov hb hn0 hl hrm hsl hrC hm HKK HC hk hw2
  go_wp2_with fail
  go_loop [7, 20] (fun o i => ∃ j : Nat, j ≤ kk ∧ i = .int .i64 j ∧ o = .int .i64 (lessN ps j : Nat)) (fun _ i => kk - (intOf i).toNat)
  case atStart => exact ⟨0, by omega, rfl, by rw [lessN_zero]; rfl⟩
  case round =>
    obtain ⟨j, hj, rfl, rfl⟩ := hrel
    by_cases hlt : j < kk
    · clear hs1 hs2 hmk hsb1 hsb2
      obtain ⟨q1, q2⟩ := own_at HOS.out (i := j) (u := .int .i64 (sameN ps j : Nat)) (by rw [List.getElem?_map, levels_at k ps (by omega)]; rfl)
      have HLS := Lib.hid (lessN_succ ps j)
      have hb1 := lessN_le ps j; have hb2 := sameN_le ps j
      have hps : ps.length ≤ 1000 := by rw [← HN.out]; exact hn1
      obtain ⟨lj, hlj⟩ : ∃ lj, lj = lessN ps j := ⟨_, rfl⟩
      obtain ⟨sj, hsj⟩ : ∃ sj, sj = sameN ps j := ⟨_, rfl⟩
      rw [← hlj] at hb1 HLS ⊢
      rw [← hsj] at hb2 HLS q1
      clear hlj hsj
      have hjc : (j : Int) < (kk : Int) := by omega
      go_wp2_with fail
      go_round
      case rel => exact ⟨j + 1, by omega, by go_num, by rw [HLS.out]; go_num⟩
      case measure => simp [intOf]; omega
    · obtain rfl : kk = j := by omega
      rw [← HL.out]
      clear hlt hj hs1
      have HG2 : Hid (w2.heap[w1.heap.size]? = some (.cells (List.replicate m .nilIface).toArray 70 (0, 0))) := Lib.hid (by rw [HW2.out]; exact heap_alloc_new w1 _)
      have HB2 : Hid (Below w1.heap.size w1 w2) := Lib.hid (by rw [HW2.out]; exact (Below.refl _ _).alloc (Nat.le_refl _) _)
      have HR2 : Hid (RdN w2 aC m (kcoreL ps kk)) := Lib.hid (HRC.out.below HB2.out (Nat.le_refl _))
      have HKL : Hid ((kcoreL ps kk).length = m) := Lib.hid HRC.out.len
      obtain ⟨cur, hcur⟩ : ∃ cur : List Value, cur = List.replicate m .nilIface := ⟨_, rfl⟩
      have HCUR := Lib.hid hcur
      clear hcur
      go_wp2_with (with_reducible refine wpList_copy_splice rfl _ _ 46 46 rfl 70 Try.underlying46 (by kernel_rfl) (some ⟨w1.heap.size, 0, none⟩) aC m m m cC rfl rfl w1.heap.size 0 cur 70 ?d3 ((kcoreL ps kk).map nodeV) ?d4 ?d5 ?d6 ?d7 w1.heap.size w1 ?d8 (Nat.le_refl _) ?_)
      case d3 => rw [HCUR.out]; exact HG2.out
      case d4 => first | exact HKL.out | (rw [List.length_map, HKL.out]; exact (Nat.min_self m).symm)
      case d5 =>
        intro h0
        rw [HKL.out] at h0
        obtain ⟨b, off, rfl, hb, hc⟩ := HR2.out.at_ h0
        refine ⟨_, rfl, fun j v hv => ?_⟩
        obtain ⟨hj, rfl⟩ := List.getElem?_eq_some_iff.1 hv
        obtain ⟨z, hz, hc⟩ := hc j (by rw [← HKL.out]; exact hj)
        have hz1 := hz.out
        rw [List.getD, List.getElem?_eq_getElem hj] at hz1
        rw [show (kcoreL ps kk)[j] = z from hz1, show (⟨b, off, none⟩ : Addr).add j = ⟨b, off + j, none⟩ by simp [Addr.add]]
        exact hc
      case d6 => rw [HCUR.out, HKL.out, List.length_replicate]; exact Nat.le_refl _
      case d7 => intro v hv; rfl
      case d8 => exact HB2.out
      intro w3 HG3 hb3
      have HG4 : Hid (w3.heap[w1.heap.size]? = some (.cells ((kcoreL ps kk).map nodeV).toArray 70 (0, 0))) := Lib.hid (by
        have h := HG3.out
        have e : splice cur 0 ((kcoreL ps kk).map nodeV) = (kcoreL ps kk).map nodeV := by
          unfold splice
          rw [List.take_zero, List.nil_append, HCUR.out, List.drop_of_length_le (by simp [HKL.out]), List.append_nil]
        rw [e] at h
        exact h)
      have HB3 := Lib.hid hb3
      clear hb3 hs2 hmk hsb1 hsb2
      go_wp2_with fail
      go_ret
      refine ⟨.slice (some ⟨w1.heap.size, 0, none⟩) m m, ps, k, rfl, ?_, HD.out, HLEN.out, HCOV.out, HB.out.trans (HB3.out.mono HB.out.size)⟩
      have hl := HKL.out
      refine ⟨by simp, .inr ⟨w1.heap.size, m, _, by rw [hl], HB.out.size, HG4.out, Nat.le_of_eq hl, by unfold maxLen; omega, by simp [hl], by simp; exact List.take_of_length_le (by simp)⟩⟩

def RevPost (lo : Nat) (v : Value) (n : Nat) (l : List Int) (w : World) (e : Ending) (w' : World) : Prop :=
  e = .returned (.tuple #[]) ∧ w'.ownsRow lo 70 1 v n (l.reverse.map nodeV) ∧ Foot (fun j => some j = v.ownBlock) w w'

theorem revN_calls (lo : Nat) (v : Value) (n : Nat) (l : List Int) (w : World) (ho : w.ownsRow lo 70 1 v n (l.map nodeV)) (hn : n ≤ 1000000) :
    Calls Try.prog 30 #[v] w (RevPost lo v n l w) := by
  obtain ⟨a0, c0, rfl⟩ := own_shape' ho
  have hl : l.length = n := by have := ho.1; simpa using this
  by_cases h0 : n = 0
  · subst h0
    have hnil : l = [] := List.eq_nil_of_length_eq_zero hl
    subst hnil
    refine (Try.slices_Reverse_empty_f30 (α := Int) a0 c0 w).mono ?_
    rintro e w' ⟨rfl, rfl⟩
    exact ⟨rfl, ho, Foot.refl _ _⟩
  · obtain ⟨g, c, e, hg0, hg1, hm1, hm2, -, hH⟩ := Lib.holds_of_ownsRow ho (by
      intro e
      simp only [Value.slice.injEq] at e
      exact h0 e.2.1)
    simp only [Value.slice.injEq, true_and] at e
    obtain ⟨rfl, rfl⟩ := e
    have hc := Try.slices_Reverse_f30 (α := Int) nodeV (fun _ => rfl) g 0 c0 l w hH (by omega)
    rw [hl] at hc
    refine hc.mono ?_
    rintro e w' ⟨rfl, q, hw'⟩
    have h2 := Lib.ownsRow_putRow (q := q) ho (ys := l.reverse) (by rw [List.length_reverse, hl]) (Nat.le_refl _)
    rw [List.take_of_length_le (by rw [List.length_reverse, hl]; exact Nat.le_refl _), ← hw'] at h2
    refine ⟨rfl, h2, ?_⟩
    rw [hw']
    refine ⟨rfl, rfl, rfl, by simp [Sort.putRow, Sort.mapBlock, Sort.ahead], fun k hk hne => ?_⟩
    have : g ≠ k := fun e => hne (by rw [e]; rfl)
    simp [Sort.putRow, Sort.mapBlock, Sort.ahead, Array.getElem?_modify, this]

def DOPost (ids : List Int) (adj : Int → List Int) (w : World) (e : Ending) (w' : World) : Prop :=
  ∃ (aL : Option Addr) (cL : Nat) (vC : Value) (us : List Value) (ps : List (Int × Nat)) (k : Nat), e = .returned (.tuple #[.slice aL ps.length cL, vC]) ∧ RdN w' aL ps.length (ps.map (·.1)).reverse ∧ w'.ownsRow w.heap.size 46 1 vC (k + 1) us ∧
    (∀ i, i < k + 1 → ∃ a c, us[i]? = some (.slice a (sameN ps i) c) ∧ RdN w' a (sameN ps i) (coreL ps i)) ∧ DegS ids adj ps k ∧ ps.length = ids.length ∧ (∀ v ∈ ids, v ∈ ps.map (·.1)) ∧ Below w.heap.size w w'

set_option maxHeartbeats 4000000 in
theorem topoDeg_calls {t : TypeId} {recv : Value} {fNs fFr : FuncId} {G : World → Prop} {ids : List Int} {adj : Int → List Int} (hA : GraphO t recv fNs fFr G ids adj) (w : World) (hg : G w) (hup : ids.Pairwise (· < ·))
    (hall : ∀ v, (adj v).Nodup) (hsub : ∀ a b, b ∈ adj a → b ∈ ids) (hsym : ∀ a b, b ∈ adj a → a ∈ adj b) (hn : ids.length ≤ 1000) (hwf : ∀ y ∈ ids, (Lit.int .i64 y).wf = true) :
    Calls Try.prog 18 #[.iface t recv] w (DOPost ids adj w) := by
  have HC := Lib.hid (degeneracy_calls hA w hg hup hall hsub hsym hn hwf)
  clear hA hg hup hall hsub hsym hwf
  go_enter Try.func18, Try.ntmps18
  go_wp2_with fail
  refine HC.out.mono ?_
  rintro e w1 ⟨vL, vS, ps, k, rfl, hoL, hoS, hap, hD, hlen, hk, hcov, hb⟩
  obtain ⟨aL, cL, rfl⟩ := own_shape' hoL
  obtain ⟨n, hn0⟩ : ∃ n, n = ps.length := ⟨_, rfl⟩
  have hn1 : n ≤ 1000 := by omega
  have hk1 : k ≤ 1000 := by omega
  have HOS1 := Lib.hid hoS; have HD := Lib.hid hD; have HB1 := Lib.hid hb; have HCOV := Lib.hid hcov; have HN := Lib.hid hn0; have HLEN := Lib.hid hlen
  rw [← hn0] at hoL hap ⊢
  have HAP := Lib.hid hap
  have HLO : Hid (∀ g, (Value.slice aL n cL).ownBlock = some g → w.heap.size ≤ g) := Lib.hid (fun g hg => (hoL.lt g hg).1)
  have HRV := Lib.hid (revN_calls w.heap.size (.slice aL n cL) n (ps.map (·.1)) w1 hoL (by omega))
  obtain ⟨aS, cS, rfl⟩ := own_shape' hoS
  have hcL : n ≤ cL := by
    rcases hoL.2 with ⟨h3, h4⟩ | ⟨g', cap, cur, h3, _, _, h6, _⟩
    · have : n = 0 := h4
      omega
    · simp only [Value.slice.injEq] at h3; omega
  clear hoL hoS hap hD hlen hcov hb hn0 HC hk hn
  go_wp2_with fail
  refine HRV.out.mono ?_
  rintro e w2 ⟨rfl, ho2, hf2⟩
  have hoS2 : w2.ownsRow w.heap.size 3 1 (.slice aS (k + 1) cS) (k + 1) ((levelsL k ps).map (Value.int .i64)) := by
    exact hf2.row HOS1.out (fun g hg e => HAP.out g e.symm hg)
  obtain ⟨gS, cS', e, hgS1, hgS2, -⟩ := own_form hoS2 (by omega)
  simp only [Value.slice.injEq, true_and] at e
  obtain ⟨rfl, rfl⟩ := e
  have HOS := Lib.hid hoS2
  have HB2 : Hid (Below w.heap.size w w2) := Lib.hid (HB1.out.trans (hf2.below (B := w.heap.size) (fun j hj => HLO.out j hj.symm) HB1.out.size))
  have HR2 := Lib.hid (RdN.of_own ho2)
  obtain ⟨gC, hgC⟩ : ∃ gC, gC = w2.heap.size := ⟨_, rfl⟩
  have hmk : (Instr.makeSlice 47 (.int .i64 ((k : Int) + 1)) (.int .i64 ((k : Int) + 1))).run Try.prog w2 = .ok (.slice (some ⟨gC, 0, none⟩) (k + 1) (k + 1)) (w2.alloc (.cells (zerosOf (.slice none 0 0) (k + 1)) 46)) := by
    have h := make_nodeRows w2 (k + 1) (by omega)
    rw [hgC]
    simpa using h
  have hc3 := (Bkt.made w2 (k + 1) (by omega)).row
  rw [List.length_replicate, ← hgC] at hc3
  rw [← hgC] at hgS2
  have HC3 := Lib.hid hc3
  have HGC := Lib.hid hgC
  have hwC : w.heap.size ≤ gC := by rw [hgC]; exact HB2.out.size
  clear hoS2 ho2 hf2 HOS1 HAP HRV HB1 hc3 hgC
  go_wp2_with fail
  obtain ⟨w3, hw3⟩ : ∃ w3, w3 = w2.alloc (.cells (zerosOf (.slice none 0 0) (k + 1)) 46) := ⟨_, rfl⟩
  have HB3 : Hid (Below gC w2 w3) := Lib.hid (by rw [hw3, HGC.out]; exact (Below.refl _ _).alloc (Nat.le_refl _) _)
  rw [← hw3] at HC3 ⊢
  clear hw3 hmk
  go_loopw [5, 22] (fun o i wr => ∃ (j : Nat) (us : List Value), j ≤ k + 1 ∧ i = .int .i64 j ∧ o = .int .i64 (n - lessN ps j : Nat) ∧ Hid (wr.ownsRow gC 46 1 (.slice (some ⟨gC, 0, none⟩) (k + 1) (k + 1)) (k + 1) us) ∧ Hid (∀ i, i < j → ∃ a c, us[i]? = some (.slice a (sameN ps i) c) ∧ RdN w2 a (sameN ps i) (coreL ps i)) ∧ Hid (Below gC w2 wr)) (fun _ i _ => k + 1 - (intOf i).toNat)
  case atStart => exact ⟨0, _, by omega, rfl, by rw [lessN_zero]; rfl, HC3, Lib.hid (fun i hi => by omega), HB3⟩
  case round =>
    obtain ⟨j, us, hj, rfl, rfl, HO, HU, HBr⟩ := hrel
    clear HC3 HB3
    by_cases hlt : j < k + 1
    · obtain ⟨q1, q2⟩ := own_at HOS.out (i := j) (u := .int .i64 (sameN ps j : Nat)) (by rw [List.getElem?_map, levels_at k ps (by omega)]; rfl)
      have q1 := (HBr.out.cell (p := ⟨gS, j, none⟩) (show gS < gC from hgS2)).trans q1
      have hls := lessN_succ ps j
      have hb1 := lessN_le ps (j + 1)
      have hnp : ps.length = n := HN.out.symm
      have hcs := core_slice HD.out.mono j
      obtain ⟨oj, hoj⟩ : ∃ oj, oj = n - lessN ps j := ⟨_, rfl⟩
      obtain ⟨sj, hsj⟩ : ∃ sj, sj = sameN ps j := ⟨_, rfl⟩
      obtain ⟨oj2, hoj2⟩ : ∃ oj2, oj2 = n - lessN ps (j + 1) := ⟨_, rfl⟩
      have hsum : oj2 + sj = oj := by omega
      rw [hnp, ← hoj2, ← hsj] at hcs
      have HOJ2 := Lib.hid hoj2
      rw [← hoj]
      rw [← hsj] at q1
      have hor : oj ≤ n := by omega
      have hR2 := HR2.out
      rw [hnp.symm] at hR2
      obtain ⟨a', c', hsl, -, hrC⟩ := (RdN.cut (c := cL) HR2.out hcL (lo := oj2) (k := sj) (by omega))
      rw [hcs] at hrC
      have HRC := Lib.hid hrC; have HSJ := Lib.hid hsj
      have hs2 : ∀ W, (Instr.slice 46 (.slice aL n cL) (some (.int .i64 oj2)) (some (.int .i64 oj)) none).run Try.prog W = .ok (.slice a' sj c') W := fun W => by
        rw [sliceE_lh W 46 70 Try.underlying46 node_size _ _ _ _ _ oj2 oj (by omega) (by omega), ← hsum, hsl]
      have hjus : j < us.length := by have := HO.out.1; omega
      obtain ⟨u0, hu0⟩ : ∃ u0, us[j]? = some u0 := ⟨_, List.getElem?_eq_getElem hjus⟩
      obtain ⟨r1, r2⟩ := own_at HO.out hu0
      have hsb1 : (oj : Int) - (sj : Int) = (oj2 : Int) := by omega
      have hsb2 : IntKind.i64.wrap ((oj : Int) - (sj : Int)) = (oj2 : Int) := by rw [IntKind.wrap_i64]; omega
      have hjc : (j : Int) < (k : Int) + 1 := by omega
      have HU0 := Lib.hid hu0
      have hb4 : oj2 ≤ 1000 := by omega
      have hb5 : oj ≤ 1000 := by omega
      have hb6 : sj ≤ 1000 := by omega
      clear hls hb1 hnp hcs hoj hsj hoj2 hsum hR2 hsl hrC hjus hu0 hor
      go_wp2_with fail
      go_roundw
      case rel =>
        refine ⟨j + 1, us.set j (.slice a' sj c'), by omega, by go_num, by rw [← HOJ2.out], Lib.hid (own_put HO.out _), Lib.hid (fun i hi => ?_), Lib.hid (HBr.out.setCell (Nat.le_refl _) _)⟩
        by_cases e : j = i
        · subst e
          exact ⟨a', c', by rw [List.getElem?_set_self (List.getElem?_eq_some_iff.1 HU0.out).1, ← HSJ.out], by rw [← HSJ.out]; exact HRC.out⟩
        · obtain ⟨a, c, h1, h2⟩ := HU.out i (by omega)
          exact ⟨a, c, by rw [List.getElem?_set_ne e]; exact h1, h2⟩
      case measure => simp [intOf]; omega
    · obtain rfl : j = k + 1 := by omega
      go_wp2_with fail
      refine bodyPost_ret (v := .tuple #[.slice aL n cL, .slice (some ⟨gC, 0, none⟩) (k + 1) (k + 1)]) (by simp [results, Try.results18, go_sem]) rfl ?_
      have hgc : gC = w2.heap.size := HGC.out
      have hbr : Below w2.heap.size w2 wr := by rw [← hgc]; exact HBr.out
      refine ⟨aL, cL, _, us, ps, k, by rw [← HN.out], by rw [← HN.out]; exact HR2.out.below hbr (Nat.le_refl _), own_lower HO.out hwC, fun i hi => ?_, HD.out, HLEN.out, HCOV.out, HB2.out.trans (hbr.mono HB2.out.size)⟩
      obtain ⟨a, c, h1, h2⟩ := HU.out i hi
      exact ⟨a, c, h1, h2.below hbr (Nat.le_refl _)⟩
end Go.Proofs.Ytbkhakjbmdmghaa
