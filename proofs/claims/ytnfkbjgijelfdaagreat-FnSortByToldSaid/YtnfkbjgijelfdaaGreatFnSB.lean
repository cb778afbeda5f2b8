/- FnSortByTold returns true for every input, and its arguments read afterwards as they read before. No condition. -/
import Derived.Test.YtnfkbjgijelfdaaGreatRead1
import Derived.Test.YtnfkbjgijelfdaaGreatRead2
import Derived.Test.YtnfkbjgijelfdaaGreatPlain
import Derived.Test.YtnfkbjgijelfdaaGreatShelfR
import Derived.Test.YtnfkbjgijelfdaaGreatIter
import Derived.Test.YtnfkbjgijelfdaaGreatSortI
import Derived.Test.YtnfkbjgijelfdaaGreatStab
import Derived.Test.YtnfkbjgijelfdaaGreatShelfS
import Derived.Test.YtnfkbjgijelfdaaGreatHeldL
import Derived.Test.YtnfkbjgijelfdaaGreatSpecC
import Derived.Test.YtnfkbjgijelfdaaGreatOrdP
import Derived.Test.YtnfkbjgijelfdaaGreatSpec1
import Derived.Test.YtnfkbjgijelfdaaGreatRolld
import Derived.Test.YtnfkbjgijelfdaaGreatVisit
import Derived.Test.YtnfkbjgijelfdaaGreatRows
import Derived.Test.YtnfkbjgijelfdaaGreatReads
import Derived.ShutString
import Derived.ChangeOld
namespace Go.Proofs.YtnfkbjgijelfdaaGreat
open Go.RowKit Go.Sort

theorem sort3_calls (B : Nat) (v : Value) (n : Nat) (zs : List Int) (w : World) (hown : w.ownsRow B 3 1 v n (zs.map (Value.int .i64))) (hn : n < 4611686018427387904) :
    Calls Tryz.prog 44 #[v] w (SortPost 3 B v n zs w) := by
  have hown' := hown
  obtain ⟨h1, ⟨rfl, rfl⟩ | ⟨g, cap, cur, rfl, hb, hg, h3, h4, h5, h6⟩⟩ := hown
  · obtain rfl : zs = [] := List.eq_nil_of_length_eq_zero (by simpa using h1)
    have hc : Calls Tryz.prog 44 #[.slice none 0 0] w fun e w' => e = .returned (.tuple #[]) ∧ w' = w := by
      first | exact Tryz.slices_Sort_int_none none 0 w | exact Tryz.slices_Sort_int_none_f44 none 0 w
    refine hc.mono ?_
    rintro e w' ⟨rfl, rfl⟩
    exact ⟨rfl, by simpa [sortI] using World.ownsRow_nil w' B 3 1, rfl, rfl, rfl, Nat.le_refl _, fun _ _ _ => rfl⟩
  · obtain ⟨hi, hl, hbg, hcap, hmax⟩ := IntBlk.of_owns hown'
    subst hl
    have hc : Calls Tryz.prog 44 #[.slice (some ⟨g, 0, none⟩) zs.length cap] w fun e w' =>
        e = .returned (.tuple #[]) ∧ ∃ n os, w' = grow (putRow (Value.int .i64) (Sort.ahead w n) g 0 (zs.mergeSort fun x y => decide (x ≤ y)).toArray) os := by
      first | exact Tryz.slices_Sort_int g 0 cap zs w (holds_of_blk hi) hi.lt hn | exact Tryz.slices_Sort_int_f44 g 0 cap zs w (holds_of_blk hi) hi.lt hn
    refine hc.mono ?_
    rintro e w' ⟨rfl, q, os, rfl⟩
    have hb2 := blk_putRow hi (sortI_len zs) q os
    refine ⟨rfl, ?_, grownBy_putRow _⟩
    have := hb2.owns hb hmax
    rw [sortI_len] at this
    exact this

theorem compact3_calls (B : Nat) (v : Value) (n : Nat) (zs : List Int) (w : World) (hown : w.ownsRow B 3 1 v n (zs.map (Value.int .i64))) :
    Calls Tryz.prog 99 #[v] w (CompactPost zs v w) := by
  have hown' := hown
  obtain ⟨h1, ⟨rfl, rfl⟩ | ⟨g, cap, cur, rfl, hb, hg, h3, h4, h5, h6⟩⟩ := hown
  · obtain rfl : zs = [] := List.eq_nil_of_length_eq_zero (by simpa using h1)
    have hc : Calls Tryz.prog 99 #[.slice none 0 0] w fun e w' => e = .returned (.slice none 0 0) ∧ w' = w := by
      first | exact Tryz.slices_Compact_int_empty none 0 w | exact Tryz.slices_Compact_int_empty_f99 none 0 w
    refine hc.mono ?_
    rintro e w' ⟨rfl, rfl⟩
    exact ⟨none, 0, rfl, rfl, rfl, rfl, Nat.le_refl _, fun _ _ _ => rfl⟩
  · obtain ⟨hi, hl, hbg, hcap, hmax⟩ := IntBlk.of_owns hown'
    subst hl
    have hc : Calls Tryz.prog 99 #[.slice (some ⟨g, 0, none⟩) zs.length cap] w fun e w' =>
        e = .returned (.slice (some ⟨g, 0, none⟩) (Lib.compact zs).length cap) ∧ ∃ q, w' = putRow (Value.int .i64) (Sort.ahead w q) g 0 (Lib.compact zs ++ List.replicate (zs.length - (Lib.compact zs).length) 0).toArray := by
      first | exact Tryz.slices_Compact_int g 0 cap zs w (holds_of_blk hi) (by unfold maxLen at hmax; omega) hcap | exact Tryz.slices_Compact_int_f99 g 0 cap zs w (holds_of_blk hi) (by unfold maxLen at hmax; omega) hcap
    refine hc.mono ?_
    rintro e w' ⟨rfl, q, rfl⟩
    refine ⟨_, cap, rfl, ?_⟩
    have := grownBy_putRow (w := w) (g := g) (n := q) (os := #[]) (Lib.compact zs ++ List.replicate (zs.length - (Lib.compact zs).length) 0).toArray
    rwa [grow_empty] at this


set_option maxHeartbeats 1000000 in
theorem twice_calls (a : Option Addr) (n c : Nat) (zs : List Int) (w : World) (hr : RdI w a n zs) (hn : n ≤ 1000000) :
    Calls Tryz.prog 64 #[.slice a n c] w fun e w' => e = .returned (.bool (!risingB (sortI zs))) ∧ Below w.heap.size w w' := by
  have HR := Lib.hid hr
  have hnl := hr.len
  clear hr
  go_enter Tryz.func64, Tryz.ntmps64
  go_wp2_with fail
  refine (clone_calls a n c zs w HR.out (by omega)).mono ?_
  rintro e w1 ⟨v1, rfl, ho1, hb1⟩
  obtain ⟨a1, c1, rfl⟩ := own_shape' ho1
  have HO1 := Lib.hid ho1; have HB1 := Lib.hid hb1
  clear ho1 hb1
  go_wp2_with fail
  refine (sort3_calls w.heap.size (.slice a1 n c1) n zs w1 HO1.out (by omega)).mono ?_
  rintro e w2 ⟨rfl, ho2, hg2⟩
  have HO2 := Lib.hid ho2
  have HB2 : Hid (Below w.heap.size w w2) := Lib.hid (HB1.out.grown hg2 HB1.out.size (fun j hj => (HO1.out.lt j hj).1))
  clear ho2 hg2
  go_wp2_with fail
  refine (compact3_calls w.heap.size (.slice a1 n c1) n (sortI zs) w2 HO2.out).mono ?_
  rintro e w3 ⟨a3, c3, rfl, hg3⟩
  have HB3 : Hid (Below w.heap.size w w3) := Lib.hid (HB2.out.grown hg3 HB2.out.size (fun j hj => (HO2.out.lt j hj).1))
  have hcn := compact_neq zs n hnl
  obtain ⟨k, hk⟩ : ∃ k, k = (Lib.compact (sortI zs)).length := ⟨_, rfl⟩
  rw [← hk] at hcn
  rw [show (Lib.compact (sortI zs)).length = k from hk.symm]
  obtain ⟨b, hb⟩ : ∃ b, (!risingB (sortI zs)) = b := ⟨_, rfl⟩
  rw [hb] at hcn
  have HBB := Lib.hid hb
  clear hg3 hk hb
  go_wp2
  go_ret
  exact ⟨by rw [HBB.out]; rfl, HB3.out⟩
end Go.Proofs.YtnfkbjgijelfdaaGreat
namespace Go.Proofs.YtnfkbjgijelfdaaGreat
open Go.RowKit Go.Sort

theorem idx_pos {P : List Int} {x : Int} (hx : x ∈ P) : ∀ i, Lib.idxByFrom (fun a b : Int => a == b) x P i = ((i + posP P x : Nat) : Int) := by
  induction P with
  | nil => cases hx
  | cons y l ih =>
    intro i
    unfold Lib.idxByFrom posP
    by_cases e : y = x
    · subst e; simp
    · have e2 : ¬ x = y := fun h => e h.symm
      rw [if_neg e, if_neg (by simpa using e2), ih (by rcases List.mem_cons.1 hx with h | h; exact absurd h e2; exact h)]
      omega

theorem indexP_calls (a : Option Addr) (n c : Nat) (P : List Int) (x : Int) (w : World) (hr : RdI w a n P) (hx : x ∈ P) :
    Calls Tryz.prog 35 #[.slice a n c, .int .i64 x] w fun e w' => e = .returned (.int .i64 (posP P x : Nat)) ∧ w' = w := by
  have hl := hr.len
  have h0 : 0 < n := by rw [← hl]; exact List.length_pos_of_mem hx
  obtain ⟨b, off, rfl, hb, hc⟩ := hr.at_ h0
  have h := Tryz.slices_Index_f35 (α := Int) (Value.int .i64) (fun a b => a == b) (EqlAt.int _ _ _) b off n c P x w (by omega) hr.small (fun j hj => by
    obtain ⟨z, hz, hcz⟩ := hc j (by omega)
    rw [hcz, ← hz.out, List.getD_eq_getElem?_getD, List.getElem!_eq_getElem?_getD]; rfl)
  rw [show P.take n = P by rw [← hl, List.take_length]] at h
  refine h.mono ?_
  rintro e w' ⟨rfl, rfl⟩
  refine ⟨?_, rfl⟩
  show Ending.returned (.int .i64 (Lib.idxByFrom (fun a b : Int => a == b) x P 0)) = _
  rw [idx_pos hx]
  simp

/-- What the places' box and list are in a world. -/
structure PlSt (bpl : Nat) (aP : Option Addr) (kP cP : Nat) (P : List Int) (w : World) : Prop where
  box : w.cell? ⟨bpl, 0, none⟩ = some (.slice aP kP cP)
  row : RdI w aP kP P
  small : kP ≤ 500
theorem PlSt.below {bpl : Nat} {aP : Option Addr} {kP cP : Nat} {P : List Int} {w w' : World} {B : Nat} (h : PlSt bpl aP kP cP P w) (hl : bpl < w.heap.size) (hb : Below B w w') (hB : w.heap.size ≤ B) : PlSt bpl aP kP cP P w' :=
  ⟨(hb.cell (p := ⟨bpl, 0, none⟩) (by show bpl < B; omega)).trans h.box, h.row.below hb hB, h.small⟩

def cfP (P : List Int) (x y : {z : Int // z ∈ P}) : Int := ((posP P x.1 : Nat) : Int) - ((posP P y.1 : Nat) : Int)
theorem cfP_lt {P : List Int} (x y : {z : Int // z ∈ P}) : ltOf (cfP P) x y = decide (posP P x.1 < posP P y.1) := by
  unfold ltOf cfP
  rw [Bool.eq_iff_iff, decide_eq_true_iff, decide_eq_true_iff]
  omega
theorem cfP_swo (P : List Int) : SWO (ltOf (cfP P)) where
  irrefl x := by rw [cfP_lt, decide_eq_false_iff_not]; omega
  trans x y z h1 h2 := by
    rw [cfP_lt, decide_eq_true_iff] at h1 h2 ⊢
    omega
  ntrans x y z h1 h2 := by
    rw [cfP_lt, decide_eq_false_iff_not] at h1 h2 ⊢
    omega

set_option maxHeartbeats 1000000 in
theorem cmpP_calls (bpl : Nat) (aP : Option Addr) (kP cP : Nat) (P : List Int) (x y : Int) (w : World) (h : PlSt bpl aP kP cP P w) (hbl : bpl < w.heap.size) (hx : x ∈ P) (hy : y ∈ P) :
    Calls Tryz.prog 68 #[nodeV x, nodeV y, .pointer (some ⟨bpl, 0, none⟩)] w fun e w' => e = .returned (.int .i64 (((posP P x : Nat) : Int) - ((posP P y : Nat) : Int))) ∧ ∃ q, w' = w.drewN q := by
  have c0 := h.box
  have HPL : Hid (∀ q, PlSt bpl aP kP cP P (w.drewN q)) := Lib.hid (fun q => h.below hbl (below_drewN (Below.refl _ _) q) (Nat.le_refl _))
  have HX := Lib.hid hx; have HY := Lib.hid hy
  obtain ⟨px, hpx⟩ : ∃ px, px = posP P x := ⟨_, rfl⟩
  obtain ⟨py, hpy⟩ : ∃ py, py = posP P y := ⟨_, rfl⟩
  have hbx : px < 500 := by have h1 := posP_lt hx; have h2 := h.row.len; have h3 := h.small; omega
  have hby : py < 500 := by have h1 := posP_lt hy; have h2 := h.row.len; have h3 := h.small; omega
  have HIX : Hid (∀ q, Calls Tryz.prog 35 #[.slice aP kP cP, .int .i64 x] (w.drewN q) fun e w' => e = .returned (.int .i64 (px : Int)) ∧ w' = w.drewN q) := Lib.hid (fun q => by rw [hpx]; exact indexP_calls aP kP cP P x _ (HPL.out q).row hx)
  have HIY : Hid (∀ q, Calls Tryz.prog 35 #[.slice aP kP cP, .int .i64 y] (w.drewN q) fun e w' => e = .returned (.int .i64 (py : Int)) ∧ w' = w.drewN q) := Lib.hid (fun q => by rw [hpy]; exact indexP_calls aP kP cP P y _ (HPL.out q).row hy)
  have hwr : IntKind.i64.wrap ((px : Int) - (py : Int)) = (px : Int) - (py : Int) := by rw [IntKind.wrap_i64]; omega
  have HNX : Hid (∀ W, Calls Tryz.prog 69 #[.iface 133 (.int .i64 x)] W fun e w' => e = .returned (.int .i64 x) ∧ w' = W) := Lib.hid (fun W => (number_calls x W).mono (fun _ _ h => ⟨h.1, h.2.symm⟩))
  have HNY : Hid (∀ W, Calls Tryz.prog 69 #[.iface 133 (.int .i64 y)] W fun e w' => e = .returned (.int .i64 y) ∧ w' = W) := Lib.hid (fun W => (number_calls y W).mono (fun _ _ h => ⟨h.1, h.2.symm⟩))
  rw [← hpx, ← hpy]
  clear h hx hy hpx hpy
  unfold nodeV
  go_enter Tryz.func68, Tryz.ntmps68
  go_wp2_with fail
  go_quiet (first
    | (go_at_call 69; with_reducible exact Calls.quiet_of_same (HNX.out _))
    | (go_at_call 69; with_reducible exact Calls.quiet_of_same (HNY.out _))
    | (go_at_call 35; with_reducible exact Calls.quiet_of_same (HIX.out _))
    | (go_at_call 35; with_reducible exact Calls.quiet_of_same (HIY.out _)))
  go_wp2
  go_ret
  exact ⟨rfl, _, rfl⟩

theorem srt_val (P : List Int) (L : List {z : Int // z ∈ P}) : (L.mergeSort fun x y => !(ltOf (cfP P)) y x).map (·.1) = srtP P (L.map (·.1)) := by
  unfold srtP
  refine List.map_mergeSort fun a _ b _ => ?_
  rw [cfP_lt, Bool.eq_iff_iff, Bool.not_eq_true', decide_eq_false_iff_not, decide_eq_true_iff]
  omega

set_option maxHeartbeats 1000000 in
theorem sortPl_calls (bpl : Nat) (aP : Option Addr) (kP cP : Nat) (P : List Int) (wB : World) (h : PlSt bpl aP kP cP P wB) (hbl : bpl < wB.heap.size) (w : World) (v : Value) (l : List Int) (B : Nat) (hl : ∀ x ∈ l, x ∈ P) (hn : l.length ≤ 1000) (hB : wB.heap.size ≤ B) (hb : Below wB.heap.size wB w) (ho : w.ownsRow B 103 1 v l.length (l.map nodeV)) :
    Calls Tryz.prog 66 #[v, .pointer (some ⟨bpl, 0, none⟩)] w (OrdPost B v (srtP P l) w) := by
  obtain ⟨a0, c0, rfl⟩ := own_shape' ho
  by_cases h0 : l.length = 0
  · have hns : l = [] := List.eq_nil_of_length_eq_zero h0
    subst hns
    have HO := Lib.hid ho; clear ho
    go_enter Tryz.func66, Tryz.ntmps66
    go_wp2_with fail
    refine (Tryz.slices_SortFunc_none_f67 (α := Int) a0 c0 _ w).mono ?_
    rintro e w' ⟨rfl, rfl⟩
    go_wp2_with fail
    go_end0
    exact ⟨rfl, by simpa [srtP] using HO.out, ⟨rfl, rfl, rfl, Nat.le_refl _, fun _ _ _ => rfl⟩⟩
  · obtain ⟨x0, hx0⟩ := List.exists_mem_of_ne_nil l (fun e => h0 (by rw [e]; rfl))
    letI : Inhabited {z : Int // z ∈ P} := ⟨⟨x0, hl x0 hx0⟩⟩
    obtain ⟨enc, henc⟩ : ∃ enc : {z : Int // z ∈ P} → Value, enc = fun z => nodeV z.1 := ⟨_, rfl⟩
    obtain ⟨L, hL⟩ : ∃ L : List {z : Int // z ∈ P}, L.map (·.1) = l := ⟨l.attachWith (· ∈ P) hl, List.attachWith_map_subtype_val hl⟩
    have hLl : L.length = l.length := by rw [← hL, List.length_map]
    have hencL : ∀ K : List {z : Int // z ∈ P}, K.map enc = (K.map (·.1)).map nodeV := fun K => by rw [henc, List.map_map]; rfl
    have ho2 : w.ownsRow B 103 1 (.slice a0 l.length c0) l.length (L.map enc) := by rw [hencL, hL]; exact ho
    obtain ⟨g, c, e, hg0, hg1, hm1, hm2, -, hH⟩ := Lib.holds_of_ownsRow ho2 (by
      intro e
      simp only [Value.slice.injEq] at e
      exact h0 e.2.1)
    simp only [Value.slice.injEq, true_and] at e
    obtain ⟨rfl, rfl⟩ := e
    have hsz : L.toArray.size = l.length := by simp [hLl]
    have hc := Tryz.slices_SortFunc_total_f67 enc (fun z => by rw [henc]; rfl) (cfP P) (cfP_swo P) 68 #[.pointer (some ⟨bpl, 0, none⟩)] g 0 c0 L.toArray w
      Tryz.call68
      (fun m os dk _ x y => by
        have hw : Below wB.heap.size wB (sortWorld enc w g 0 m dk os) := hb.grown (grownBy_sortN enc dk) hb.size (fun k hk => by
          have := Option.some.inj hk
          omega)
        have hcm := cmpP_calls bpl aP kP cP P x.1 y.1 (sortWorld enc w g 0 m dk os) (h.below hbl hw (Nat.le_refl _)) (Nat.lt_of_lt_of_le hbl hw.size) x.2 y.2
        rw [henc]
        rw [henc] at hcm
        refine hcm.mono ?_
        rintro e w' ⟨h1, q, h2⟩
        exact ⟨h1, q, #[], by rw [h2, grow_empty]⟩) hH hg1 (by rw [hsz]; omega) (fun x y h1 h2 => by
        rw [cfP_lt, decide_eq_false_iff_not] at h1 h2
        exact Subtype.ext (posP_inj x.2 y.2 (by omega)))
    rw [hsz] at hc
    obtain ⟨M, hM⟩ : ∃ M, M = L.toArray.toList.mergeSort fun x y => !(ltOf (cfP P)) y x := ⟨_, rfl⟩
    have hMv : M.map (·.1) = srtP P l := by rw [hM, ← hL]; exact srt_val P L
    rw [← hM] at hc
    have hMl : M.length = l.length := by rw [hM]; simp [hLl]
    have HC := Lib.hid hc
    have HO := Lib.hid ho2
    have HMV := Lib.hid hMv; have HML := Lib.hid hMl; have HENC := Lib.hid hencL
    clear hc ho ho2 hH hM hMv hMl hL hLl hencL henc
    go_enter Tryz.func66, Tryz.ntmps66
    go_wp2_with fail
    refine HC.out.mono ?_
    rintro e w' ⟨rfl, q, os, hw'⟩
    have hgr : w.grownBy w' (some g) := by rw [hw']; exact grownBy_sortN enc M.toArray
    have hrow : w'.ownsRow B 103 1 (.slice (some ⟨g, 0, none⟩) l.length c0) l.length ((srtP P l).map nodeV) := by
      have h2 := Lib.ownsRow_putRow (q := q) HO.out (ys := M) HML.out (Nat.le_refl _)
      rw [List.take_of_length_le (by rw [HML.out]; exact Nat.le_refl _)] at h2
      rw [hw', ← HMV.out, ← HENC.out]
      unfold sortWorld
      exact ownsRow_growN h2
    have HG := Lib.hid hgr; have HW := Lib.hid hrow
    have HSL : Hid ((srtP P l).length = l.length) := Lib.hid (srtP_perm P l).length_eq
    clear hw' hgr hrow
    go_wp2_with fail
    go_end0
    exact ⟨rfl, by rw [HSL.out]; exact HW.out, HG.out⟩

theorem plOrder {bpl : Nat} {aP : Option Addr} {kP cP : Nat} {P : List Int} {wB : World} (h : PlSt bpl aP kP cP P wB) (hbl : bpl < wB.heap.size) {ids : List Int} (hids : ∀ x ∈ ids, x ∈ P) : OrderF 66 #[.pointer (some ⟨bpl, 0, none⟩)] wB wB.heap.size ids (srtP P) where
  eO := Tryz.call66
  perm := srtP_perm P
  sorts := fun w v l B h1 h2 h3 h4 h5 => sortPl_calls bpl aP kP cP P wB h hbl w v l B (fun x hx => hids x (h1 x hx)) h2 h3 h4 h5

theorem func_ne_eq (f : FuncId) (cs : Array Value) (W : World) : (binOp .eql 106 (.func (.func f) #[] cs) .nilFunc).run Tryz.prog W = .ok (.bool false) W := by first | kernel_rfl | rfl

set_option maxHeartbeats 2000000 in
theorem topoSortF_calls {t : TypeId} {recv : Value} {fNs fFr : FuncId} {G : World → Prop} {ids : List Int} {adj : Int → List Int} (hA : GraphO t recv fNs fFr G ids adj) (w : World) {fO : FuncId} {cO : Array Value} {srt : List Int → List Int} (hO : OrderF fO cO w w.heap.size ids srt) (hg : G w) (hwf : ∀ y ∈ ids, (Lit.int .i64 y).wf = true) (hadj : ∀ a, ∀ b ∈ adj a, b ∈ ids) (hdeg : ∀ a, (adj a).length ≤ 1000) (hids : ids.length ≤ 1000) :
    Calls Tryz.prog 51 #[.iface t recv, .func (.func fO) #[] cO] w (TSPost (fun x => (srt (adj x)).reverse) (srt ids).reverse srt w) := by
  have HC := Lib.hid (tarjan1_calls hA w hO hg hwf hadj hdeg hids)
  have HADJ : Hid (∀ a, ∀ b ∈ (srt (adj a)).reverse, b ∈ ids) := Lib.hid (fun a b hb => hadj a b ((hO.mem).1 (List.mem_reverse.1 hb)))
  have HIDS := Lib.hid hids
  have HOF := Lib.hid hO
  have heq := func_ne_eq fO cO
  clear hA hg hwf hadj hdeg hids hO
  go_enter Tryz.func51, Tryz.ntmps51
  go_wp2_with fail
  refine HC.out.mono ?_
  rintro e w1 ⟨v, vs, s, rfl, hr, hl, hb⟩
  have hf := hr.fin (ids := ids) HADJ.out (fun x => by rw [List.mem_reverse, HOF.out.mem])
  have HR := Lib.hid hr; have HB := Lib.hid hb; have HL := Lib.hid hl
  have HSF := Lib.hid (sortedFrom_calls (HOF.out.later hb (Nat.le_refl _)) w.heap.size v vs s.sccs w1 hl hf.ne hf.nd (fun x hx => (hf.mem x).1 hx) HIDS.out (Nat.le_refl _) (Below.refl _ _))
  clear hr hl hb hf
  go_wp2_with fail
  refine HSF.out.mono ?_
  rintro e w2 ⟨vO, vE, rfl, ho, hE, hf⟩
  obtain ⟨aO, cO, rfl⟩ := own_shape' ho
  have HB2 : Hid (Below w.heap.size w w2) := Lib.hid (HB.out.trans (hf.below (fun j hj => (HL.out.lt hj).1) HB.out.size))
  have HO := Lib.hid ho; have HE := Lib.hid hE
  clear ho hE hf HSF
  go_wp2_with fail
  refine bodyPost_ret (v := .tuple #[.slice aO s.sccs.length cO, vE]) (by simp [results, Tryz.results51, go_sem]) rfl ?_
  exact ⟨_, _, _, s, rfl, HR.out, own_lower HO.out HB.out.size, ErrV.of HE.out, HB2.out⟩
end Go.Proofs.YtnfkbjgijelfdaaGreat
namespace Go.Proofs.YtnfkbjgijelfdaaGreat
open Go.RowKit

set_option maxHeartbeats 8000000 in
set_option maxRecDepth 100000 in
theorem implSortBy_calls (an ae aP : Option Addr) (n cn m ce cP : Nat) (ns : List Int) (es : List (Int × Int × Int)) (P : List Int) (w : World) (hn : RdI w an n ns) (hr : RdE w ae m es) (hp : RdI w aP n P) (hn8 : n ≤ 500) (hwf : ∀ x ∈ ns, (Lit.int .i64 x).wf = true)
    (hw : wellB ns es = true) (hP : P.Perm (sortI ns)) :
    Calls Tryz.prog 24 #[.agg #[.bool true, .slice an n cn, .slice ae m ce], .slice aP n cP] w (SIPost (fun x => (srtP P (adjD ns es x)).reverse) (srtP P (sortI ns)).reverse (srtP P) w) := by
  have HR := Lib.hid hr; clear hr
  have HN := Lib.hid hn; clear hn
  have HP := Lib.hid hp; clear hp
  have HPP := Lib.hid hP
  have HRIS : Hid (risingB (sortI P) = true) := Lib.hid (by
    have h : sortI P = sortI ns := by rw [show sortI P = sortI (sortI ns) from sortI_unique ((sortI_perm P).trans hP) (sortI_pw P), sortI_idem]
    rw [h]; unfold wellB at hw; rw [Bool.and_eq_true] at hw; exact hw.1)
  have HW := Lib.hid hw; clear hw hP
  have HWF2 : Hid (∀ x ∈ sortI ns, (Lit.int .i64 x).wf = true) := Lib.hid (fun x hx => hwf x (mem_sortI.1 hx))
  clear hwf
  have HNL : Hid (ns.length = n) := Lib.hid HN.out.len
  go_enter Tryz.func24, Tryz.ntmps24
  go_wp2_with fail
  obtain ⟨bpl, hbpl⟩ : ∃ bpl, bpl = w.heap.size + 1 := ⟨_, rfl⟩
  obtain ⟨w1, hw1⟩ : ∃ w1, w1 = (w.alloc (.cells #[.bool true, .slice an n cn, .slice ae m ce] 25)).alloc (.cells #[.slice aP n cP] 22) := ⟨_, rfl⟩
  have HB1 : Hid (Below w.heap.size w w1) := by rw [hw1]; exact ((Below.refl _ _).alloc (Nat.le_refl _) _).alloc (by simp) _
  have x1 : w1.heap[bpl]? = some (.cells #[.slice aP n cP] 22 (0, 0)) := by
    have h := heap_alloc_new (w.alloc (.cells #[.bool true, .slice an n cn, .slice ae m ce] 25)) (.cells #[.slice aP n cP] 22)
    rw [hw1, hbpl]
    simpa using h
  have hpl1 : PlSt bpl aP n cP P w1 := ⟨by rw [cell_of_row w1 _ _ _ _ (0, 0) x1]; rfl, HP.out.below HB1.out (Nat.le_refl _), hn8⟩
  have HPL1 := Lib.hid hpl1
  have hl1 : bpl < w1.heap.size := (Array.getElem?_eq_some_iff.1 x1).1
  rw [← hw1, ← hbpl]
  clear hw1 x1 hbpl hpl1
  refine (oneWay_calls true an ae n cn m ce ns es w1 (HN.out.below HB1.out (Nat.le_refl _)) (HR.out.below HB1.out (Nat.le_refl _)) (by omega)).mono ?_
  rintro e w2 ⟨hb, bp, rfl, hst⟩
  have HB2 := Lib.hid (HB1.out.trans (hb.mono HB1.out.size))
  have HG2 := Lib.hid (hst HW.out)
  have HPL2 := Lib.hid (HPL1.out.below hl1 hb (Nat.le_refl _))
  have hl2 : bpl < w2.heap.size := Nat.lt_of_lt_of_le hl1 hb.size
  have HGO : Hid (GraphO 72 (.agg #[.pointer (some ⟨bp, 0, none⟩)]) 217 215 (Gr bp (sortI ns) (rowsFrom true (sortI ns) es).1 (rowsFrom true (sortI ns) es).2) (sortI ns) (adjD ns es)) := Lib.hid (dGraphO_of HW.out)
  rw [show (wellB ns es && (true == true)) = true by rw [HW.out]; rfl]
  clear hb hst
  go_upto_region 2 with fail
  obtain ⟨bd, hbd⟩ : ∃ bd, bd = w2.heap.size := ⟨_, rfl⟩
  obtain ⟨w3, hw3⟩ : ∃ w3, w3 = w2.alloc (.cells #[.pointer (some ⟨bp, 0, none⟩)] 72) := ⟨_, rfl⟩
  have HB3 : Hid (Below w2.heap.size w2 w3) := Lib.hid (by rw [hw3]; exact (Below.refl _ _).alloc (Nat.le_refl _) _)
  have x3 : w3.heap[bd]? = some (.cells #[.pointer (some ⟨bp, 0, none⟩)] 72 (0, 0)) := by rw [hw3, hbd]; exact heap_alloc_new w2 _
  rw [← hw3, ← hbd]
  have HG3 := Lib.hid (HG2.out.later HB3.out)
  have HPL3 := Lib.hid (HPL2.out.below hl2 HB3.out (Nat.le_refl _))
  have hl3 : bpl < w3.heap.size := Nat.lt_of_lt_of_le hl2 HB3.out.size
  have HB3w : Hid (Below w.heap.size w w3) := Lib.hid (HB2.out.trans (HB3.out.mono HB2.out.size))
  have hd3 : bd < w3.heap.size := (Array.getElem?_eq_some_iff.1 x3).1
  have hc3 : w3.cell? ⟨bd, 0, none⟩ = some (.pointer (some ⟨bp, 0, none⟩)) := by rw [cell_of_row w3 _ _ _ _ (0, 0) x3]; rfl
  obtain ⟨w0, aI, cI, hrs, hup, -⟩ := HG3.out
  have hsl : (sortI ns).length = n := by rw [sortI_len]; exact HNL.out
  rw [hsl] at hrs
  have hci := hrs.cell
  have HRI := Lib.hid hrs.rd
  have HUP := Lib.hid hup
  have hbp3 : bp < w3.heap.size := HG3.out.lt
  have HC3 := Lib.hid (And.intro HPL3.out.box (And.intro hc3 hci))
  have HCW : Hid (∀ W, Below w3.heap.size w3 W → W.cell? ⟨bpl, 0, none⟩ = some (.slice aP n cP) ∧ W.cell? ⟨bd, 0, none⟩ = some (.pointer (some ⟨bp, 0, none⟩)) ∧ W.cell? ⟨bp, 0, none⟩ = some (.slice aI n cI)) := Lib.hid (fun W h => ⟨(h.cell (p := ⟨bpl, 0, none⟩) hl3).trans HC3.out.1, (h.cell (p := ⟨bd, 0, none⟩) hd3).trans HC3.out.2.1, (h.cell (p := ⟨bp, 0, none⟩) hbp3).trans HC3.out.2.2⟩)
  have HD3 : Hid (Below w3.heap.size w3 w3.drew) := Lib.hid (below_drewN (Below.refl _ _) 1)
  clear hw3 hbd x3 HB2 HB3 HG2 HPL2 HB1 HPL1 hrs hup hsl hci hc3
  refine wp_region_L (by kernel_rfl) (fun w' : World => w'.cell? ⟨bpl, 0, none⟩ = some (.slice aP n cP) ∧ w'.cell? ⟨bd, 0, none⟩ = some (.pointer (some ⟨bp, 0, none⟩)) ∧ w'.cell? ⟨bp, 0, none⟩ = some (.slice aI n cI)) [] (HCW.out _ HD3.out) (fun hHeld => ?_)
  refine wpAnyL_take (i := 0) (v := ?_) rfl (by kernel_rfl) (by kernel_rfl) (by kernel_rfl) (by kernel_rfl) (fun _ _ _ h => h) (by kernel_rfl) ?_ hHeld ?_
  rotate_left
  · intro w hSw; obtain ⟨hs0, hs1, hs2⟩ := hSw; go_simp; all_goals with_reducible rfl
  simp only [Act.put]
  refine wpAnyL_take (i := 1) (v := ?_) rfl (by kernel_rfl) (by kernel_rfl) (by kernel_rfl) (by kernel_rfl) (fun _ _ _ h => h) (by kernel_rfl) ?_ hHeld ?_
  rotate_left
  · intro w hSw; obtain ⟨hs0, hs1, hs2⟩ := hSw; go_simp; all_goals with_reducible rfl
  simp only [Act.put]
  refine wpAnyL_take (i := 2) (v := ?_) rfl (by kernel_rfl) (by kernel_rfl) (by kernel_rfl) (by kernel_rfl) (fun _ _ _ h => h) (by kernel_rfl) ?_ hHeld ?_
  rotate_left
  · intro w hSw; obtain ⟨hs0, hs1, hs2⟩ := hSw; go_simp; all_goals with_reducible rfl
  simp only [Act.put]
  refine wpAnyL_take (i := 3) (v := ?_) rfl (by kernel_rfl) (by kernel_rfl) (by kernel_rfl) (by kernel_rfl) (fun _ _ _ h => h) (by kernel_rfl) ?_ hHeld ?_
  rotate_left
  · intro w hSw; obtain ⟨hs0, hs1, hs2⟩ := hSw; go_simp; all_goals with_reducible rfl
  simp only [Act.put]
  refine wpAnyL_one (i := 4) rfl (by kernel_rfl) (by kernel_rfl) (fun K hK => ?_)
  go_simp
  refine (twice_calls aP n cP P w3.drew (HPL3.out.row.below HD3.out (Nat.le_refl _)) (by omega)).mono ?_
  rintro e w4 ⟨rfl, hb4⟩
  rw [show (!risingB (sortI P)) = false by rw [HRIS.out]; rfl]
  have HB4 : Hid (Below w3.heap.size w3 w4) := Lib.hid (HD3.out.trans (hb4.mono HD3.out.size))
  clear hHeld hb4
  have hHeld : (fun w' : World => w'.cell? ⟨bpl, 0, none⟩ = some (.slice aP n cP) ∧ w'.cell? ⟨bd, 0, none⟩ = some (.pointer (some ⟨bp, 0, none⟩)) ∧ w'.cell? ⟨bp, 0, none⟩ = some (.slice aI n cI)) w4 := HCW.out _ HB4.out
  refine hK.out _ _ (.inr hHeld) ?_
  clear hK K
  refine wpAnyL_take (i := 5) (v := ?_) rfl (by kernel_rfl) (by kernel_rfl) (by kernel_rfl) (by kernel_rfl) (fun _ _ _ h => h) (by kernel_rfl) ?_ hHeld ?_
  rotate_left
  · intro w hSw; obtain ⟨hs0, hs1, hs2⟩ := hSw; go_simp; all_goals with_reducible rfl
  simp only [Act.put]
  refine wpAnyL_take (i := 6) (v := ?_) rfl (by kernel_rfl) (by kernel_rfl) (by kernel_rfl) (by kernel_rfl) (fun _ _ _ h => h) (by kernel_rfl) ?_ hHeld ?_
  rotate_left
  · intro w hSw; obtain ⟨hs0, hs1, hs2⟩ := hSw; go_simp; all_goals with_reducible rfl
  simp only [Act.put]
  refine wpAnyL_take (i := 7) (v := ?_) rfl (by kernel_rfl) (by kernel_rfl) (by kernel_rfl) (by kernel_rfl) (fun _ _ _ h => h) (by kernel_rfl) ?_ hHeld ?_
  rotate_left
  · intro w hSw; obtain ⟨hs0, hs1, hs2⟩ := hSw; go_simp; all_goals with_reducible rfl
  simp only [Act.put]
  refine wpAnyL_take (i := 8) (v := ?_) rfl (by kernel_rfl) (by kernel_rfl) (by kernel_rfl) (by kernel_rfl) (fun _ _ _ h => h) (by kernel_rfl) ?_ hHeld ?_
  rotate_left
  · intro w hSw; obtain ⟨hs0, hs1, hs2⟩ := hSw; go_simp; all_goals with_reducible rfl
  simp only [Act.put]
  refine wpAnyL_take (i := 9) (v := ?_) rfl (by kernel_rfl) (by kernel_rfl) (by kernel_rfl) (by kernel_rfl) (fun _ _ _ h => h) (by kernel_rfl) ?_ hHeld ?_
  rotate_left
  · intro w hSw; obtain ⟨hs0, hs1, hs2⟩ := hSw; go_simp; all_goals with_reducible rfl
  simp only [Act.put]
  refine wpAnyL_take (i := 10) (v := ?_) rfl (by kernel_rfl) (by kernel_rfl) (by kernel_rfl) (by kernel_rfl) (fun _ _ _ h => h) (by kernel_rfl) ?_ hHeld ?_
  rotate_left
  · intro w hSw; obtain ⟨hs0, hs1, hs2⟩ := hSw; go_simp; all_goals with_reducible rfl
  simp only [Act.put]
  refine wpAnyL_take (i := 11) (v := ?_) rfl (by kernel_rfl) (by kernel_rfl) (by kernel_rfl) (by kernel_rfl) (fun _ _ _ h => h) (by kernel_rfl) ?_ hHeld ?_
  rotate_left
  · intro w hSw; obtain ⟨hs0, hs1, hs2⟩ := hSw; go_simp; all_goals with_reducible rfl
  simp only [Act.put]
  refine wpAnyL_take (i := 12) (v := ?_) rfl (by kernel_rfl) (by kernel_rfl) (by kernel_rfl) (by kernel_rfl) (fun _ _ _ h => h) (by kernel_rfl) ?_ hHeld ?_
  rotate_left
  · intro w hSw; obtain ⟨hs0, hs1, hs2⟩ := hSw; go_simp; all_goals with_reducible rfl
  simp only [Act.put]
  refine wpAnyL_take (i := 13) (v := ?_) rfl (by kernel_rfl) (by kernel_rfl) (by kernel_rfl) (by kernel_rfl) (fun _ _ _ h => h) (by kernel_rfl) ?_ hHeld ?_
  rotate_left
  · intro w hSw; obtain ⟨hs0, hs1, hs2⟩ := hSw; go_simp; all_goals with_reducible rfl
  simp only [Act.put]
  refine wpAnyL_take (i := 14) (v := ?_) rfl (by kernel_rfl) (by kernel_rfl) (by kernel_rfl) (by kernel_rfl) (fun _ _ _ h => h) (by kernel_rfl) ?_ hHeld ?_
  rotate_left
  · intro w hSw; obtain ⟨hs0, hs1, hs2⟩ := hSw; go_simp; all_goals with_reducible rfl
  simp only [Act.put]
  refine wpAnyL_take (i := 15) (v := ?_) rfl (by kernel_rfl) (by kernel_rfl) (by kernel_rfl) (by kernel_rfl) (fun _ _ _ h => h) (by kernel_rfl) ?_ hHeld ?_
  rotate_left
  · intro w hSw; obtain ⟨hs0, hs1, hs2⟩ := hSw; go_simp; all_goals with_reducible rfl
  simp only [Act.put]
  refine wpAnyL_one (i := 16) rfl (by kernel_rfl) (by kernel_rfl) (fun K hK => ?_)
  go_simp
  refine hK.out _ _ (.inr hHeld) ?_
  clear hK K hHeld
  refine wpAnyL_done (by kernel_rfl) ?_ _
  obtain ⟨q0, q1, q2⟩ := HCW.out _ HB4.out
  have HPL4 := Lib.hid (HPL3.out.below hl3 HB4.out (Nat.le_refl _))
  have hl4 : bpl < w4.heap.size := Nat.lt_of_lt_of_le hl3 HB4.out.size
  have HG4 := Lib.hid (HG3.out.later HB4.out)
  have HB4w : Hid (Below w.heap.size w w4) := Lib.hid (HB3w.out.trans (HB4.out.mono HB3w.out.size))
  have HR4 := Lib.hid (HRI.out.below HB4.out (Nat.le_refl _))
  have hns : n ≤ 9223372036854775807 := by omega
  clear HG3 HPL3 HB3w HD3 HC3 HRI hl3
  go_wp2_with fail
  go_loopw [40] (fun i wr => ∃ (k q : Nat), k ≤ n ∧ i = .int .i64 k ∧ wr = w4.drewN q) (fun i _ => n - (intOf i).toNat)
  case atStart => exact ⟨0, 0, Nat.zero_le _, rfl, rfl⟩
  case round =>
    obtain ⟨k, q, hk, rfl, rfl⟩ := hrel
    by_cases hlt : k < n
    · obtain ⟨bP, offP, rfl, hbP, hcP⟩ := HPL4.out.row.at_ (by omega)
      obtain ⟨x, HX, g1⟩ := hcP k hlt
      have hmx : memB (sortI ns) x = true := by
        rw [memB_iff]
        refine HPP.out.mem_iff.1 ?_
        have h := HX.out
        have hkl : k < P.length := by have := HPL4.out.row.len; omega
        rw [← h, List.getD_eq_getElem?_getD, List.getElem?_eq_getElem hkl]
        exact List.getElem_mem hkl
      have HRK := Lib.hid (HR4.out.below (below_drewN (Below.refl w4.heap.size w4) q) (Nat.le_refl _))
      have HQ2 : Hid ((w4.drewN q).cell? ⟨bp, 0, none⟩ = some (.slice aI n cI)) := Lib.hid ((HCW.out _ (below_drewN HB4.out q)).2.2)
      clear hcP
      go_wp2_with fail
      refine (pidx_calls bp aI n cI (sortI ns) x (w4.drewN q) HQ2.out HRK.out (by omega) HUP.out).mono ?_
      rintro e w6 ⟨rfl, q', rfl⟩
      rw [hmx]
      clear hmx g1
      go_wp2
      go_roundw
      case rel => exact ⟨k + 1, q + q', by omega, by go_num, by first | rfl | simp [World.drewN_drewN]⟩
      case measure => simp [intOf]; omega
    · obtain rfl : k = n := by omega
      have HDQ : Hid (Below w4.heap.size w4 (w4.drewN q)) := Lib.hid (below_drewN (Below.refl _ _) q)
      obtain ⟨wz, hwz⟩ : ∃ wz, wz = w4.drewN q := ⟨_, rfl⟩
      rw [← hwz] at HDQ ⊢
      have HGW := Lib.hid (HG4.out.later HDQ.out)
      have HPLW := Lib.hid (HPL4.out.below hl4 HDQ.out (Nat.le_refl _))
      have hlW : bpl < wz.heap.size := Nat.lt_of_lt_of_le hl4 HDQ.out.size
      have HORD := Lib.hid (plOrder HPLW.out hlW (ids := sortI ns) (fun x hx => HPP.out.mem_iff.2 hx))
      have HBZ : Hid (Below w.heap.size w wz) := Lib.hid (HB4w.out.trans (HDQ.out.mono HB4w.out.size))
      obtain ⟨q5, q6, q7⟩ := HCW.out _ (HB4.out.trans (HDQ.out.mono HB4.out.size))
      clear hwz
      go_wp2_with fail
      refine (topoSortF_calls HGO.out wz HORD.out HGW.out HWF2.out adjD_sub (fun a => Nat.le_trans (adjD_len a) (by rw [HNL.out]; omega)) (by rw [sortI_len, HNL.out]; omega)).mono ?_
      rintro e w5 ⟨aO, cO, vE, s, rfl, hrun, ho, hE, hb5⟩
      have hfin := hrun.fin (ids := sortI ns) (fun a b hb => adjD_sub a b ((srtP_perm P _).mem_iff.1 (List.mem_reverse.1 hb))) (fun x => by rw [List.mem_reverse, (srtP_perm P _).mem_iff])
      obtain ⟨hl1', hl2', hl3'⟩ := cycs_len hfin (srt := srtP P) (fun l => (srtP_perm P l).length_eq)
      rw [sortI_len, HNL.out] at hl1' hl2'
      have HL3 : Hid (∀ l ∈ ((cycs s.sccs).map (srtP P)).reverse, l.length ≤ 1000) := Lib.hid (fun l hl => by have h := hl3' l hl; rw [sortI_len, HNL.out] at h; omega)
      have hc1 : s.sccs.length ≤ 1000 := by omega
      have hc2 : (((cycs s.sccs).map (srtP P)).reverse).length ≤ 1000 := by omega
      have HRUN := Lib.hid hrun; have HO := Lib.hid ho; have HE := Lib.hid hE
      have HB5 := Lib.hid (HBZ.out.trans (hb5.mono HBZ.out.size))
      obtain ⟨N, hN1⟩ : ∃ N, N = s.sccs.length := ⟨_, rfl⟩
      rw [← hN1] at HO hc1 ⊢
      have HK := Lib.hid hN1
      clear hrun hfin hl1' hl2' hl3' ho hE hb5 hN1 q0 q1 q2 q5 q6 q7 HORD HG4 HR4
      go_wp2_with fail
      refine (slots_calls wz.heap.size aO N cO _ vE _ w5 HO.out HE.out hc1 hc2 HL3.out).mono ?_
      rintro e w6 ⟨vO, vC, vs, rfl, ho6, hl6, hb6⟩
      have e1 : (s.sccs.map slotO).reverse.length = N := by rw [List.length_reverse, List.length_map]; exact HK.out.symm
      rw [e1] at ho6
      obtain ⟨aP', cP', rfl⟩ := own_shape' ho6
      have hr6 := hl6.row
      have e2 : (((cycs s.sccs).map (srtP P)).reverse).length = (cycs s.sccs).length := by simp
      rw [e2] at hr6
      obtain ⟨aC, cC, rfl⟩ := own_shape' hr6
      have e3 : (((cycs s.sccs).map (srtP P)).reverse).isEmpty = (cycs s.sccs).isEmpty := by cases cycs s.sccs <;> simp
      rw [e3]
      have HO6 := Lib.hid ho6; have HL6 := Lib.hid hl6
      have HB6 := Lib.hid (HB5.out.trans (hb6.mono HB5.out.size))
      obtain ⟨ib, hib⟩ : ∃ ib, ib = (cycs s.sccs).isEmpty := ⟨_, rfl⟩
      have HIB := Lib.hid hib
      rw [← hib]
      clear ho6 hl6 hb6 e1 hr6 e2 e3 hib hc1 hc2
      obtain ⟨lc, hlc⟩ : ∃ lc, lc = (cycs s.sccs).length := ⟨_, rfl⟩
      have HLC := Lib.hid hlc
      rw [← hlc]
      clear hlc
      go_wp2_with fail
      refine bodyPost_ret (v := .tuple #[.slice aP' N cP', .slice aC lc cC, .bool ib, .bool false]) (by simp [results, Tryz.results24, go_sem]) rfl ?_
      refine ⟨aP', aC, cP', cC, vs, s, by rw [HIB.out, HLC.out, HK.out], HRUN.out, ?_, HL6.out.lower HB5.out.size, HB6.out⟩
      rw [← HK.out]
      exact own_lower HO6.out HB5.out.size
end Go.Proofs.YtnfkbjgijelfdaaGreat
namespace Go.Proofs.YtnfkbjgijelfdaaGreat
open Go.RowKit

theorem own_lit {w : World} {e : TypeId} {size n : Nat} (cs : Array Value) (hc : cs.size = n * size) (hn : n ≤ maxLen) : (w.alloc (.cells cs e)).ownsRow w.heap.size e size (.slice (some ⟨w.heap.size, 0, none⟩) n n) n cs.toList := by
  refine ⟨by rw [Array.length_toList]; exact hc, .inr ⟨w.heap.size, n, cs, rfl, Nat.le_refl _, heap_alloc_new w _, Nat.le_refl _, hn, hc, ?_⟩⟩
  rw [← hc, ← Array.length_toList, List.take_length]

set_option maxHeartbeats 4000000 in
theorem arranges_calls (w : World) : Calls Tryz.prog 27 #[] w fun e w' => e = .returned (.bool true) ∧ Below w.heap.size w w' := by
  go_enter Tryz.func27, Tryz.ntmps27
  go_wp2_with fail
  obtain ⟨w0, hw0⟩ : ∃ w0, w0 = w.alloc (.cells #[.int .i64 7, .int .i64 9] 3) := ⟨_, rfl⟩
  obtain ⟨w1, hw1⟩ : ∃ w1, w1 = w0.alloc (.cells #[.int .i64 9, .int .i64 7] 3) := ⟨_, rfl⟩
  have hs0 : w0.heap.size = w.heap.size + 1 := by rw [hw0]; simp
  have hb0 : Below w.heap.size w w0 := by rw [hw0]; exact (Below.refl _ _).alloc (Nat.le_refl _) _
  have hb1 : Below w0.heap.size w0 w1 := by rw [hw1]; exact (Below.refl _ _).alloc (Nat.le_refl _) _
  have HN0 : Hid (RdI w1 (some ⟨w.heap.size, 0, none⟩) 2 [7, 9]) := Lib.hid (RdI.below (rdi_ownE (B := w.heap.size) (c := 2) (by
    have h := own_lit (w := w) (e := 3) (size := 1) (n := 2) #[.int .i64 7, .int .i64 9] rfl (by unfold maxLen; omega)
    rw [← hw0] at h; exact h)) hb1 (Nat.le_refl _))
  have HP0 : Hid (RdI w1 (some ⟨w.heap.size + 1, 0, none⟩) 2 [9, 7]) := Lib.hid (rdi_ownE (B := w.heap.size + 1) (c := 2) (by
    have h := own_lit (w := w0) (e := 3) (size := 1) (n := 2) #[.int .i64 9, .int .i64 7] rfl (by unfold maxLen; omega)
    rw [← hw1, hs0] at h; exact h))
  have HB1 : Hid (Below w.heap.size w w1) := Lib.hid (hb0.trans (hb1.mono (by omega)))
  rw [← hw0, ← hw1]
  clear hw0 hw1 hs0 hb0 hb1
  have HWELL : Hid (wellB [7, 9] [] = true) := Lib.hid (by
    have e : sortI [7, 9] = [7, 9] := (sortI_unique (List.Perm.refl _) (by simp)).symm
    unfold wellB
    rw [e]; rfl)
  have HPP : Hid (([9, 7] : List Int).Perm (sortI [7, 9])) := Lib.hid ((List.Perm.swap 7 9 []).trans (sortI_perm [7, 9]).symm)
  refine (implSortBy_calls (some ⟨w.heap.size, 0, none⟩) none (some ⟨w.heap.size + 1, 0, none⟩) 2 2 0 0 2 [7, 9] [] [9, 7] w1 HN0.out ⟨rfl, by omega, fun h => by omega⟩ HP0.out (by omega) (by intro x hx; simp at hx; rcases hx with rfl | rfl <;> rfl) HWELL.out HPP.out).mono ?_
  rintro e w2 ⟨aO, aC, cO, cC, vs, s, rfl, hrun, ho, -, hb2⟩
  rw [srt_all HWELL.out HPP.out] at hrun
  have hsc := hrun.bare (fun x => by rw [adjD_nil, List.eq_nil_of_length_eq_zero ((srtP_perm [9, 7] []).length_eq)]; rfl) rfl (by decide) (fun _ _ => rfl)
  have hsc : s.sccs = [[7], [9]] := hsc
  rw [hsc] at ho ⊢
  have HO : Hid (w2.ownsRow w1.heap.size 45 2 (.slice aO 2 cO) 2 (flatS [some 9, some 7])) := Lib.hid ho
  have HB2 : Hid (Below w.heap.size w w2) := Lib.hid (HB1.out.trans (hb2.mono HB1.out.size))
  have e1 : ([[7], [9]] : List (List Int)).length = 2 := rfl
  have e2 : cycs [[7], [9]] = [] := rfl
  rw [e1, e2]
  have e3 : ([] : List (List Int)).length = 0 := rfl
  have e4 : ([] : List (List Int)).isEmpty = true := rfl
  rw [e3, e4]
  clear hrun hsc ho hb2 e1 e2 e3 e4
  go_wp2_with fail
  obtain ⟨w3, hw3⟩ : ∃ w3, w3 = w2.alloc (.cells #[.bool false, .int .i64 9, .bool false, .int .i64 7] 45) := ⟨_, rfl⟩
  have hb3 : Below w2.heap.size w2 w3 := by rw [hw3]; exact (Below.refl _ _).alloc (Nat.le_refl _) _
  have HS3 : Hid (RdS w3 (some ⟨w2.heap.size, 0, none⟩) 2 [some 9, some 7]) := Lib.hid (rdS_of_own (B := w2.heap.size) (c := 2) (by
    have h := own_lit (w := w2) (e := 45) (size := 2) (n := 2) #[.bool false, .int .i64 9, .bool false, .int .i64 7] rfl (by unfold maxLen; omega)
    rw [← hw3] at h; exact h))
  have HS2 : Hid (RdS w3 aO 2 [some 9, some 7]) := Lib.hid ((rdS_of_own HO.out).below hb3 (Nat.le_refl _))
  have HB3 : Hid (Below w.heap.size w w3) := Lib.hid (HB2.out.trans (hb3.mono HB2.out.size))
  rw [← hw3]
  clear hw3 hb3
  refine (equalS_calls aO (some ⟨w2.heap.size, 0, none⟩) 2 cO 2 [some 9, some 7] w3 HS2.out HS3.out (by omega)).mono ?_
  rintro e w4 ⟨rfl, q, hw4⟩
  have HB4 : Hid (Below w.heap.size w w4) := Lib.hid (by rw [hw4]; exact below_drewN HB3.out q)
  clear hw4
  go_wp2
  go_ret
  exact ⟨rfl, HB4.out⟩
end Go.Proofs.YtnfkbjgijelfdaaGreat
namespace Go.Proofs.YtnfkbjgijelfdaaGreat
open Go.RowKit

/-- A slice of bytes. -/
structure RdU (w : World) (a : Option Addr) (n : Nat) : Prop where
  small : n ≤ 9223372036854775807
  at_ : 0 < n → ∃ b off, a = some ⟨b, off, none⟩ ∧ b < w.heap.size ∧ ∀ j, j < n → ∃ x : Nat, x < 256 ∧ w.cell? ⟨b, off + j, none⟩ = some (.int .u8 (x : Int))
theorem RdU.below {w w' : World} {a : Option Addr} {n B : Nat} (h : RdU w a n) (hb : Below B w w') (hB : w.heap.size ≤ B) : RdU w' a n :=
  ⟨h.small, fun h0 => by
    obtain ⟨b, off, e, hb', hc⟩ := h.at_ h0
    exact ⟨b, off, e, Nat.lt_of_lt_of_le hb' hb.size, fun j hj => by
      obtain ⟨x, h1, h2⟩ := hc j hj
      exact ⟨x, h1, (hb.cell (p := ⟨b, off + j, none⟩) (by show b < B; omega)).trans h2⟩⟩⟩

def OrderOfPost (n : Nat) (ns : List Int) (w : World) (e : Ending) (w' : World) : Prop :=
  ∃ (v' : Value) (P : List Int), e = .returned v' ∧ P.Perm (sortI ns) ∧ w'.ownsRow w.heap.size 3 1 v' n (P.map (Value.int .i64)) ∧ Below w.heap.size w w'

set_option maxHeartbeats 8000000 in
set_option maxRecDepth 200000 in
theorem orderOf_calls (d : Bool) (an ae aS : Option Addr) (n cn m ce b nS cS : Nat) (ns : List Int) (w : World) (hn : RdI w an n ns) (hs : RdU w aS nS) (hn8 : n ≤ 500) (hb8 : b < 256) :
    Calls Tryz.prog 23 #[.agg #[.bool d, .slice an n cn, .slice ae m ce], .int .u8 b, .slice aS nS cS] w (OrderOfPost n ns w) := by
  have HN := Lib.hid hn; have HS := Lib.hid hs
  have hnl := hn.len
  have hss := hs.small
  have HSL : Hid ((sortI ns).length = n) := Lib.hid (by rw [sortI_len]; exact hnl)
  clear hn hs hnl
  go_enter Tryz.func23, Tryz.ntmps23
  go_wp2_with fail
  obtain ⟨w0, hw0⟩ : ∃ w0, w0 = w.alloc (.cells #[.bool d, .slice an n cn, .slice ae m ce] 25) := ⟨_, rfl⟩
  have HB0 : Hid (Below w.heap.size w w0) := Lib.hid (by rw [hw0]; exact (Below.refl _ _).alloc (Nat.le_refl _) _)
  rw [← hw0]
  clear hw0
  refine (sorted_calls an n cn ns w0 (HN.out.below HB0.out (Nat.le_refl _)) (by omega)).mono ?_
  rintro e w1 ⟨v1, rfl, ho1, hb1⟩
  obtain ⟨a1, c1, rfl⟩ := own_shape' ho1
  have HO1 := Lib.hid ho1
  have HB1 : Hid (Below w.heap.size w w1) := Lib.hid (HB0.out.trans (hb1.mono HB0.out.size))
  clear ho1 hb1
  go_wp2_with fail
  refine (rolledI_calls a1 n c1 b (sortI ns) w1 (rdi_ownE HO1.out) hn8 hb8).mono ?_
  rintro e w2 ⟨v2, l, rfl, hpm, ho2, hb2⟩
  obtain ⟨a2, c2, rfl⟩ := own_shape' ho2
  have HO2 : Hid (w2.ownsRow w.heap.size 3 1 (.slice a2 n c2) n (l.map (Value.int .i64))) := Lib.hid (own_lower ho2 HB1.out.size)
  have HB2 : Hid (Below w.heap.size w w2) := Lib.hid (HB1.out.trans (hb2.mono HB1.out.size))
  have HPM := Lib.hid hpm
  clear ho2 hb2 hpm
  go_wp2_with fail
  go_loopw [8] (fun i wr => ∃ (k : Nat) (l : List Int), k ≤ nS ∧ i = .int .i64 k ∧ Hid (l.Perm (sortI ns)) ∧ Hid (wr.ownsRow w.heap.size 3 1 (.slice a2 n c2) n (l.map (Value.int .i64))) ∧ Hid (Below w.heap.size w wr)) (fun i _ => nS - (intOf i).toNat)
  case atStart => exact ⟨0, l, Nat.zero_le _, rfl, HPM, HO2, HB2⟩
  case round =>
    obtain ⟨k, l', hk, rfl, HP, HO, HB⟩ := hrel
    have hll : l'.length = n := by rw [HP.out.length_eq]; exact HSL.out
    have HLL := Lib.hid hll
    clear hll
    by_cases hlt : k < nS
    · by_cases hn0 : 0 < n
      · obtain ⟨bS, offS, rfl, hbS, hcS⟩ := (HS.out.below HB.out (Nat.le_refl _)).at_ (by omega)
        obtain ⟨x, hx, e0⟩ := hcS k hlt
        obtain ⟨p1, hp1⟩ : ∃ p, p = x % n := ⟨_, rfl⟩
        obtain ⟨p2, hp2⟩ : ∃ p, p = k % n := ⟨_, rfl⟩
        have ht1 : Int.tmod (x : Int) (n : Int) = (p1 : Int) := by rw [hp1]; exact (Int.ofNat_tmod _ _).symm
        have ht2 : Int.tmod (k : Int) (n : Int) = (p2 : Int) := by rw [hp2]; exact (Int.ofNat_tmod _ _).symm
        have hp1n : p1 < n := by rw [hp1]; exact Nat.mod_lt _ hn0
        have hp2n : p2 < n := by rw [hp2]; exact Nat.mod_lt _ hn0
        obtain ⟨g, c, e, hg0, hg1, -⟩ := own_form HO.out hn0
        simp only [Value.slice.injEq, true_and] at e
        obtain ⟨rfl, rfl⟩ := e
        have hl1 : p1 < l'.length := by rw [HLL.out]; exact hp1n
        have hl2 : p2 < l'.length := by rw [HLL.out]; exact hp2n
        obtain ⟨y1, hy1⟩ : ∃ y, l'[p1] = y := ⟨_, rfl⟩
        obtain ⟨y2, hy2⟩ : ∃ y, l'[p2] = y := ⟨_, rfl⟩
        have HY1 := Lib.hid hy1; have HY2 := Lib.hid hy2
        have e1 : wr.cell? ⟨g, p1, none⟩ = some (.int .i64 y1) := (own_at HO.out (i := p1) (u := .int .i64 y1) (by rw [List.getElem?_map, List.getElem?_eq_getElem hl1, hy1]; rfl)).1
        have e2 : wr.cell? ⟨g, p2, none⟩ = some (.int .i64 y2) := (own_at HO.out (i := p2) (u := .int .i64 y2) (by rw [List.getElem?_map, List.getElem?_eq_getElem hl2, hy2]; rfl)).1
        have f1 := frozen_own HO.out p1
        have f2 := frozen_own HO.out p2
        have mixed : Tryz.prog.follows Departure.mixedOrders = true := by kernel_rfl
        have hxn : ¬ (n : Int) = 0 := by omega
        have HT2 := Lib.hid ht2
        clear hcS hp1 hp2 hy1 hy2
        have key1 : ∀ (W : World) (zs : List Int), W.ownsRow w.heap.size 3 1 (.slice (some ⟨g, 0, none⟩) n c2) n (zs.map (Value.int .i64)) → W.drew.ownsRow w.heap.size 3 1 (.slice (some ⟨g, 0, none⟩) n c2) n (zs.map (Value.int .i64)) := fun W zs h => ownsRow_of_heap h (fun _ _ => rfl)
        have key2 : ∀ (W : World), Below w.heap.size w W → Below w.heap.size w W.drew := fun W h => h.drew
        have HK := Lib.hid (And.intro key1 key2)
        clear key1 key2
        by_cases hpp : p1 = p2
        · subst hpp
          have hyy : y2 = y1 := HY2.out.symm.trans HY1.out
          subst hyy
          clear e2 f2 ht2
          have ht2 : Int.tmod (k : Int) (n : Int) = (p1 : Int) := HT2.out
          go_wp2_with (first | rw [ht1] | rw [ht2] | fail)
          go_region_o
          go_wp2_with fail
          go_roundw
          case rel =>
            refine ⟨k + 1, (l'.set p1 y2).set p1 y2, by omega, by go_num, Lib.hid ?_, Lib.hid (HK.out.1 _ _ ?_), Lib.hid (HK.out.2 _ ?_)⟩
            · have h : l'.set p1 y2 = l' := by rw [← HY2.out]; exact List.set_getElem_self hl1
              rw [h, h]; exact HP.out
            · rw [List.map_set, List.map_set]
              exact own_put (own_put HO.out _) _
            · exact (HB.out.setCell hg0 _).setCell hg0 _
          case measure => simp [intOf]; omega
        · go_wp2_with (first | rw [ht1] | rw [ht2] | fail)
          go_region_o
          go_wp2_with fail
          go_roundw
          case rel =>
            refine ⟨k + 1, (l'.set p1 y2).set p2 y1, by omega, by go_num, Lib.hid ?_, Lib.hid (HK.out.1 _ _ ?_), Lib.hid (HK.out.2 _ ?_)⟩
            · have h := List.set_set_perm hl1 hl2
              rw [HY1.out, HY2.out] at h
              exact h.trans HP.out
            · rw [List.map_set, List.map_set]
              exact own_put (own_put HO.out _) _
            · exact (HB.out.setCell hg0 _).setCell hg0 _
          case measure => simp [intOf]; omega
      · have hn1 : ¬ (0 : Int) < (n : Int) := by omega
        go_wp2_with fail
        go_ret
        exact ⟨_, l', rfl, HP.out, HO.out, HB.out⟩
    · go_wp2_with fail
      go_ret
      exact ⟨_, l', rfl, HP.out, HO.out, HB.out⟩
end Go.Proofs.YtnfkbjgijelfdaaGreat
namespace Go.Proofs.YtnfkbjgijelfdaaGreat
open Go.RowKit

def AscPost (ls : List (List Int)) (w : World) (e : Ending) (w' : World) : Prop :=
  ∃ (a : Option Addr) (c : Nat) (vs : List Value), e = .returned (.slice a ls.length c) ∧ LolI w' w.heap.size (.slice a ls.length c) vs (ls.map sortI) ∧ Below w.heap.size w w'

set_option maxHeartbeats 4000000 in
theorem ascending_calls (a : Option Addr) (n c : Nat) (ls : List (List Int)) (w : World) (hr : RdL w a n ls) (hn : n ≤ 1000) (hls : ∀ l ∈ ls, l.length ≤ 1000) :
    Calls Tryz.prog 26 #[.slice a n c] w (AscPost ls w) := by
  have HRD := Lib.hid hr; have HLM := Lib.hid hls
  have HLEN : Hid ((ls.map sortI).length = n) := Lib.hid (by rw [List.length_map]; exact hr.len)
  have HLE2 : Hid (ls.length = n) := Lib.hid hr.len
  obtain ⟨i0, hi0, hz0, hz1, hz2⟩ := info_parts intsSl_info
  have HI := Lib.hid (And.intro hi0 (And.intro hz0 (And.intro hz1 hz2)))
  clear hr hls hi0 hz0 hz1 hz2
  go_enter Tryz.func26, Tryz.ntmps26
  go_wp2_with fail
  go_loopw [3, 4] (fun v i wr => ∃ (q : Nat) (vs : List Value), q ≤ n ∧ i = .int .i64 q ∧ Hid (LolI wr w.heap.size v vs ((ls.map sortI).take q)) ∧ Hid (Below w.heap.size w wr)) (fun _ i _ => n - (intOf i).toNat)
  case atStart => exact ⟨0, [], by omega, rfl, Lib.hid (LolG.nil _ _), Lib.hid (Below.refl _ _)⟩
  case round =>
    obtain ⟨q, vs, hq, rfl, HQ, HBQ⟩ := hrel
    have HLN : Hid (((ls.map sortI).take q).length = q) := Lib.hid (by rw [List.length_take]; have := HLEN.out; omega)
    have hor := HQ.out.row
    rw [HLN.out] at hor
    obtain ⟨a1, c1, rfl⟩ := own_shape' hor
    clear hor
    have hszq := HBQ.out.size
    by_cases hlt : q < n
    · obtain ⟨b, off, rfl, hbb, hc⟩ := HRD.out.at_ (by omega)
      obtain ⟨aj, nj, cj, l, HLJ, hcell, hrn⟩ := hc q hlt
      have hck := (HBQ.out.cell (p := ⟨b, off + q, none⟩) hbb).trans hcell
      have hbr : b < wr.heap.size := by omega
      have HRN := Lib.hid (hrn.below HBQ.out (Nat.le_refl _))
      have hlm := HLM.out l (List.mem_of_getElem? HLJ.out)
      have hlen := hrn.len
      have hnj : nj ≤ 1000 := by omega
      have HLL : Hid ((sortI l).length = nj) := Lib.hid (by rw [sortI_len]; exact hlen)
      clear hc hcell hrn hlm hlen
      go_wp2_with fail
      refine (sorted_calls aj nj cj l wr HRN.out (by omega)).mono ?_
      rintro e w5 ⟨v5, rfl, ho5, hb5⟩
      obtain ⟨a3, c3, rfl⟩ := own_shape' ho5
      have HO5 := Lib.hid ho5; have HB5 := Lib.hid hb5
      clear ho5 hb5
      have HL5 : Hid (LolI w5 w.heap.size (.slice a1 q c1) vs ((ls.map sortI).take q)) := Lib.hid (HQ.out.of_heap (fun j hj => HB5.out.block j (HQ.out.lt hj).2))
      obtain ⟨hi0, hz0, hz1, hz2⟩ := HI.out
      have hsm : (q + 1) * 24 ≤ 140737488355328 := by omega
      have hs5 := HB5.out.size
      have HRW : Hid (w5.ownsRow w.heap.size 22 1 (.slice a1 q c1) q vs) := Lib.hid (by have h := HL5.out.row; rw [HLN.out] at h; exact h)
      go_wp2_with (at_builtin; refine wpList_append_own_at _ rfl _ _ 28 rfl w.heap.size 22 i0 (.slice none 0 0) 1 24 Tryz.underlying28 hi0 hz0 hz1 hz2 rfl (by decide) (.slice a1 q c1) q vs rfl (HRW.out.alloc _) ⟨w5.heap.size, 0, none⟩ 1 1 [.slice a3 nj c3] rfl rfl ?g1 ?g2 ?g3 ?g4 ?g5 ?_)
      case g1 => intro j u hj; match j, hj with | 0, hj => simp at hj; subst hj; simp [Addr.add]
      case g2 => intro u hu; simp at hu; subst hu; rfl
      case g3 => unfold maxLen; omega
      case g4 => exact hsm
      case g5 => simp; omega
      intro v' w' hown' hgrow _ hloc
      obtain ⟨a', c', rfl⟩ := own_shape' hown'
      have hfr : Fresh w5 (.slice a1 q c1) (.slice a' (q + 1) c') := hloc.imp id fun h g hg => by rw [h] at hg; have := Option.some.inj hg; omega
      have HL' : Hid (LolI w' w.heap.size (.slice a' (q + 1) c') (vs ++ [.slice a3 nj c3]) ((ls.map sortI).take q ++ [sortI l])) := Lib.hid
        (HL5.out.more (by rw [HLL.out]; exact own_lower HO5.out (by omega)) (fun g hg hj => by have h1 := (HO5.out.lt g hg).1; have h2 := (HQ.out.lt hj).2; omega) (by rw [HLN.out]; exact hown') (fun j h1 h2 => by rw [hgrow.block j (by simp; omega) h2]; exact heap_alloc_old _ _ h1) hfr)
      have HB' : Hid (Below w.heap.size w w') := Lib.hid (((HBQ.out.trans (HB5.out.mono hszq)).alloc (by omega) _).grown hgrow (by simp; omega) (fun j hj => (HRW.out.lt j hj).1))
      have HTK : Hid ((ls.map sortI).take (q + 1) = (ls.map sortI).take q ++ [sortI l]) := Lib.hid (by
        have h : (ls.map sortI)[q]? = some (sortI l) := by rw [List.getElem?_map, HLJ.out]; rfl
        obtain ⟨h1, h2⟩ := List.getElem?_eq_some_iff.1 h
        rw [List.take_succ_eq_append_getElem h1, h2])
      clear hown' hgrow hfr hloc hi0 hz0 hz1 hz2
      go_wp2
      go_roundw
      case rel => exact ⟨q + 1, _, by omega, by go_num, Lib.hid (by rw [HTK.out]; exact HL'.out), HB'⟩
      case measure => simp [intOf]; omega
    · obtain rfl : q = n := by omega
      have HFIN : Hid (AscPost ls w (.returned (.slice a1 q c1)) wr) := Lib.hid (by
        have h := HQ.out
        rw [List.take_of_length_le (by rw [HLEN.out]; exact Nat.le_refl _)] at h
        exact ⟨a1, c1, vs, by rw [HLE2.out], by rw [HLE2.out]; exact h, HBQ.out⟩)
      go_wp2_with fail
      go_ret
      exact HFIN.out
end Go.Proofs.YtnfkbjgijelfdaaGreat
namespace Go.Proofs.YtnfkbjgijelfdaaGreat
open Go.RowKit

theorem cyB_f {c d : List Int} {g : Int → Int} (h : (d.map g).Perm c) : cyB d = cyB c := by
  have := h.length_eq
  rw [List.length_map] at this
  unfold cyB; rw [this]
theorem slotO_f {c d : List Int} {g : Int → Int} (h : (d.map g).Perm c) : (slotO d).map g = slotO c := by
  cases hb : cyB c with
  | true => rw [slotO_cy hb, slotO_cy ((cyB_f h).trans hb)]; rfl
  | false =>
    obtain ⟨x, rfl, hx2⟩ := slotO_one ((cyB_f h).trans hb)
    have h2 : c = [g x] := List.perm_singleton.1 h.symm
    rw [h2]; rfl
theorem cycs_f {L : List (List Int)} {f : List Int → List Int} {g : Int → Int} (h : ∀ c ∈ L, ((f c).map g).Perm c) : cycs (L.map f) = (cycs L).map f := by
  unfold cycs
  rw [List.filter_map]
  congr 1
  exact List.filter_congr fun c hc => cyB_f (h c hc)
theorem sortI_ofP {a b : List Int} (h : a.Perm b) : sortI a = sortI b := sortI_unique ((sortI_perm a).trans h) (sortI_pw a)

set_option maxHeartbeats 8000000 in
set_option maxRecDepth 100000 in
theorem lawSB_calls (d : Bool) (an ae aS : Option Addr) (n cn m ce b nS cS : Nat) (ns : List Int) (es : List (Int × Int × Int)) (w : World) (hn : RdI w an n ns) (hr : RdE w ae m es) (hs : RdU w aS nS) (hwf : ∀ x ∈ ns, (Lit.int .i64 x).wf = true) (hb8 : b < 256) :
    Calls Tryz.prog 6 #[.agg #[.bool d, .slice an n cn, .slice ae m ce], .int .u8 b, .slice aS nS cS] w fun e w' => e = .returned (.bool true) ∧ Below w.heap.size w w' := by
  have hsn := hn.small; have hsm := hr.small; have hss := hs.small
  have HR := Lib.hid hr; clear hr
  have HN := Lib.hid hn; clear hn
  have HS := Lib.hid hs; clear hs
  have HWF := Lib.hid hwf; clear hwf
  have HB8 := Lib.hid hb8; clear hb8
  go_enter Tryz.func6, Tryz.ntmps6
  go_wp2_with fail
  refine (fits_calls d an ae n cn m ce _ hsn hsm).mono ?_
  rintro e w1 ⟨rfl, hb1⟩
  have HS1 := Lib.hid ((LawSt.start w d an ae n cn m ce).later hb1); clear hb1
  cases hf : decide (n ≤ 2147483647 ∧ m ≤ 2147483647)
  · go_wp2_with fail
    go_ret
    exact ⟨rfl, HS1.out.below⟩
  · clear hf
    by_cases hbig : 2147483647 < nS
    · go_wp2_with fail
      go_ret
      exact ⟨rfl, HS1.out.below⟩
    have j0 := HS1.out.c0; have j1 := HS1.out.c1; have j2 := HS1.out.c2
    go_wp2_with fail
    refine (fewOf_calls d true an ae n cn m ce 14 ns es _ (by omega) (HN.out.below HS1.out.below (Nat.le_refl _)) (HR.out.below HS1.out.below (Nat.le_refl _))).mono ?_
    rintro e w2 ⟨rfl, hb2⟩
    have HS2 := Lib.hid (HS1.out.later hb2); clear hb2 j0 j1 j2
    obtain ⟨fb, hfb⟩ : ∃ b, ((d == true) && fewB ns es 14) = b := ⟨_, rfl⟩
    have HFB := Lib.hid hfb
    rw [hfb]
    clear hfb
    cases fb
    · go_wp2_with fail
      go_ret
      exact ⟨rfl, HS2.out.below⟩
    obtain ⟨rfl, hfew⟩ : d = true ∧ fewB ns es 14 = true := by
      have h := HFB.out
      rw [Bool.and_eq_true] at h
      exact ⟨by simpa using h.1, h.2⟩
    obtain ⟨hl25, hel, hwell⟩ := fewB_parts hfew
    have hnl : n ≤ 14 := by have := HN.out.len; omega
    have HWELL := Lib.hid hwell
    have hml : m ≤ 200 := by have := HR.out.len; omega
    clear hfew hwell HFB hl25 hel
    by_cases h60 : 60 < nS
    · go_wp2_with fail
      go_ret
      exact ⟨rfl, HS2.out.below⟩
    have j0 := HS2.out.c0; have j1 := HS2.out.c1; have j2 := HS2.out.c2
    go_wp2_with fail
    refine (orderOf_calls true an ae aS n cn m ce b nS cS ns w2 (HN.out.below HS2.out.below (Nat.le_refl _)) (HS.out.below HS2.out.below (Nat.le_refl _)) (by omega) HB8.out).mono ?_
    rintro e w3 ⟨vP, P, rfl, hPP, hoP, hb3⟩
    obtain ⟨aP, cP, rfl⟩ := own_shape' hoP
    have HPP := Lib.hid hPP
    have HRP := Lib.hid (rdi_ownE hoP)
    have HS3 := Lib.hid (HS2.out.later hb3)
    clear hPP hoP hb3 j0 j1 j2
    have j0 := HS3.out.c0; have j1 := HS3.out.c1; have j2 := HS3.out.c2
    go_wp2_with fail
    refine (implSortBy_calls an ae aP n cn m ce cP ns es P w3 (HN.out.below HS3.out.below (Nat.le_refl _)) (HR.out.below HS3.out.below (Nat.le_refl _)) HRP.out (by omega) HWF.out HWELL.out HPP.out).mono ?_
    rintro e w4 ⟨aO, aC, cO, cC, vs, s, rfl, hrun, ho, hl, hb4⟩
    have HRUN := Lib.hid hrun
    have HFIN := Lib.hid (hrun.fin (ids := sortI ns) (fun a b hb => adjD_sub a b ((srtP_perm P _).mem_iff.1 (List.mem_reverse.1 hb))) (fun x => by rw [List.mem_reverse, (srtP_perm P _).mem_iff]))
    have HO := Lib.hid (rdS_of_own ho)
    have HL := Lib.hid hl
    have HS4 := Lib.hid (HS3.out.later hb4)
    have HRP4 := Lib.hid (HRP.out.below hb4 (Nat.le_refl _))
    clear hrun ho hl hb4 j0 j1 j2
    have j0 := HS4.out.c0; have j1 := HS4.out.c1; have j2 := HS4.out.c2
    obtain ⟨ib, hib⟩ : ∃ ib, ib = (cycs s.sccs).isEmpty := ⟨_, rfl⟩
    obtain ⟨N, hN⟩ : ∃ N, N = s.sccs.length := ⟨_, rfl⟩
    obtain ⟨M, hM⟩ : ∃ M, M = (cycs s.sccs).length := ⟨_, rfl⟩
    have HIB := Lib.hid hib; have HNE := Lib.hid hN; have HME := Lib.hid hM
    rw [← hib, ← hN, ← hM]
    clear hib hN hM
    go_wp2_with fail
    refine (specSortBy_calls true an ae aP n cn m ce n cP es P w4 (HR.out.below HS4.out.below (Nat.le_refl _)) HRP4.out (by omega) (by omega) (ends_P HWELL.out HPP.out)).mono ?_
    rintro e w5 ⟨parts, S, dd, aO2, aC2, cO2, cC2, hscc, hvr, hS, rfl, hrs, hrl, hlen, hb5⟩
    obtain ⟨f, hf1, hf2⟩ := sortBy_law HWELL.out HPP.out HRUN.out hvr hscc
    have hSf : S = s.sccs.reverse.map f := hS.trans hf1
    have hf3 : ∀ c ∈ s.sccs.reverse, ((f c).map (atP P)).Perm c := fun c hc => hf2 c (List.mem_reverse.1 hc)
    have hl1 : S.length = N := by rw [hSf, List.length_map, List.length_reverse, HNE.out]
    have hcy : cycs S = ((cycs s.sccs).reverse).map f := by
      rw [hSf, cycs_f hf3]
      congr 1
      unfold cycs; rw [List.filter_reverse]
    have hl2 : (cycs S).length = M := by rw [hcy, List.length_map, List.length_reverse, HME.out]
    have hl3 : S.map (fun c => (slotO c).map (atP P)) = (s.sccs.map slotO).reverse := by
      rw [hSf, List.map_map, ← List.map_reverse]
      exact List.map_congr_left fun c hc => slotO_f (hf3 c hc)
    have hl4 : ((cycs S).map fun c => c.map (atP P)).map sortI = (((cycs s.sccs).map (srtP P)).reverse).map sortI := by
      rw [hcy, List.map_map, List.map_map, ← List.map_reverse, List.map_map]
      refine List.map_congr_left fun c hc => ?_
      have hc2 : c ∈ s.sccs := (List.mem_filter.1 (List.mem_reverse.1 hc)).1
      exact (sortI_ofP (hf2 c hc2)).trans (sortI_ofP (srtP_perm P c)).symm
    rw [hl1, hl3] at hrs
    rw [hl2] at hrl
    rw [hl1, hl2]
    obtain ⟨k1, k2, k3⟩ := cycs_len HFIN.out (srt := srtP P) (fun l => (srtP_perm P l).length_eq)
    rw [sortI_len, HN.out.len, ← HNE.out] at k1
    have hMN : M ≤ N := by rw [HME.out, HNE.out]; exact List.length_filter_le _ _
    have HRS2 := Lib.hid hrs; have HRL2 := Lib.hid hrl
    have HS5 := Lib.hid (HS4.out.later hb5)
    have HO5 : Hid (RdS w5 aO N (s.sccs.map slotO).reverse) := Lib.hid (by rw [HNE.out]; exact HO.out.below hb5 (Nat.le_refl _))
    have HL5 : Hid (RdL w5 aC M ((cycs s.sccs).map (srtP P)).reverse) := Lib.hid (by
      have h := (LolG.rd HL.out).below hb5 (Nat.le_refl _)
      rw [HME.out]; exact h)
    have HK3 : Hid (∀ l ∈ ((cycs s.sccs).map (srtP P)).reverse, l.length ≤ 1000) := Lib.hid (fun l hl => by have h := k3 l hl; rw [sortI_len, HN.out.len] at h; omega)
    have HK4 : Hid (∀ l ∈ (cycs S).map fun c => c.map (atP P), l.length ≤ 1000) := Lib.hid (fun l hl => by
      have h1 : sortI l ∈ ((cycs S).map fun c => c.map (atP P)).map sortI := List.mem_map_of_mem hl
      rw [hl4] at h1
      obtain ⟨l2, h2, h3⟩ := List.mem_map.1 h1
      have h4 := HK3.out l2 h2
      have h5 := congrArg List.length h3
      rw [sortI_len, sortI_len] at h5
      omega)
    have HL4 := Lib.hid hl4
    have hcmp : ((M : Int) == 0) = ib := by
      rw [HIB.out, HME.out]
      cases cycs s.sccs <;> simp
      omega
    have hbb : (ib == ib) = true := by simp
    clear hscc hvr hS hrs hrl hlen hb5 hf1 hf2 hSf hf3 hl1 hcy hl2 hl3 hl4 k2 k3 j0 j1 j2
    go_wp2_with fail
    refine (equalS_calls aO aO2 N cO cO2 (s.sccs.map slotO).reverse w5 HO5.out HRS2.out (by omega)).mono ?_
    rintro e w6 ⟨rfl, q6, hw6⟩
    have HB6 : Hid (Below w5.heap.size w5 w6) := Lib.hid (by rw [hw6]; exact below_drewN (Below.refl _ _) q6)
    clear hw6
    go_wp2_with fail
    refine (ascending_calls aC M cC _ w6 (HL5.out.below HB6.out (Nat.le_refl _)) (by omega) HK3.out).mono ?_
    rintro e w7 ⟨a7, c7, vs7, rfl, hl7, hb7⟩
    have e7 : (((cycs s.sccs).map (srtP P)).reverse).length = M := by rw [List.length_reverse, List.length_map]; exact HME.out.symm
    rw [e7] at hl7 ⊢
    have HL7 := Lib.hid (LolG.rd hl7)
    have HB7 : Hid (Below w5.heap.size w5 w7) := Lib.hid (HB6.out.trans (hb7.mono HB6.out.size))
    clear hl7 hb7 e7
    go_wp2_with fail
    refine (ascending_calls aC2 M cC2 _ w7 (HRL2.out.below HB7.out (Nat.le_refl _)) (by omega) HK4.out).mono ?_
    rintro e w8 ⟨a8, c8, vs8, rfl, hl8, hb8⟩
    have e8 : ((cycs S).map fun c => c.map (atP P)).length = M := HRL2.out.len
    rw [e8] at hl8 ⊢
    have HL8 := Lib.hid (LolG.rd hl8)
    rw [HL4.out] at HL8
    have HL78 := Lib.hid (HL7.out.below hb8 (Nat.le_refl _))
    have HB8' : Hid (Below w5.heap.size w5 w8) := Lib.hid (HB7.out.trans (hb8.mono HB7.out.size))
    clear hl8 hb8 e8
    go_wp2_with fail
    refine (sameLists_calls a7 a8 M c7 c8 _ w8 HL78.out HL8.out).mono ?_
    rintro e w9 ⟨rfl, q9, hw9⟩
    have HB9 : Hid (Below w5.heap.size w5 w9) := Lib.hid (by rw [hw9]; exact below_drewN HB8'.out q9)
    clear hw9
    go_wp2_with fail
    refine (arranges_calls w9).mono ?_
    rintro e w10 ⟨rfl, hb10⟩
    have HB10 : Hid (Below w.heap.size w w10) := Lib.hid (HS5.out.below.trans ((HB9.out.trans (hb10.mono HB9.out.size)).mono HS5.out.below.size))
    clear hb10
    go_wp2
    go_ret
    exact ⟨rfl, HB10.out⟩
end Go.Proofs.YtnfkbjgijelfdaaGreat
namespace Go.Proofs.YtnfkbjgijelfdaaGreat
open Go.ChangeShapes Go.WideShapes Go.ChangeAt Go.RowKit Go.Joins

theorem own : ownKnob Tryz.prog.godebug = none := by kernel_rfl
theorem laidOut : laidOutB Tryz.prog = true := by kernel_rfl

theorem cells_u8 : Tryz.prog.cellsOf 5 = 1 := by kernel_rfl
theorem rdU_of_trod {H : Type} {enc : TypeId × Value → H} {W : World} {fuel : Nat} {x : DataW H × List MemPlace} {v : Value} (hf : DataW.trod enc Tryz.prog W 0 (fun _ => true) true fuel 48 [v] = some x) : ∃ a n c, v = .slice a n c ∧ RdU W a n := by
  rcases open_ints Tryz.underlying48 Tryz.underlying5 cells_u8 hf with ⟨hcs, _⟩ | ⟨a, n, c, zs, hcs, _, hl, hm, hz, _, hcell, hwf⟩
  · obtain rfl : v = .slice none 0 0 := by simpa using hcs
    exact ⟨none, 0, 0, rfl, by omega, by omega⟩
  · obtain rfl : v = .slice (some a) n c := by simpa using hcs
    have hz' : zs.length = c := by simpa using hz
    refine ⟨some a, n, c, rfl, by unfold maxLen at hm; omega, fun h0 => ?_⟩
    have h1 := hcell 0 (by omega)
    obtain ⟨b, off, spot⟩ := a
    have hspot : spot = none := by simpa [Addr.add] using World.cell?_spot h1
    subst hspot
    refine ⟨b, off, rfl, World.block_lt_of_cell? W _ h1, fun j hj => ?_⟩
    have h2 := hcell j (by omega)
    rw [Addr.add_lit] at h2
    have hj2 : j < zs.length := by omega
    have h3 := hwf zs[j] (List.getElem_mem hj2)
    have m1 : IntKind.u8.min = 0 := by kernel_rfl
    have m2 : IntKind.u8.max = 255 := by kernel_rfl
    rw [Lit.wf, Bool.and_eq_true, decide_eq_true_iff, decide_eq_true_iff, m1, m2] at h3
    refine ⟨zs[j].toNat, by omega, ?_⟩
    rw [h2, List.getD_eq_getElem?_getD, List.getElem?_eq_getElem hj2]
    congr 2
    show zs[j] = _
    omega

set_option maxRecDepth 100000 in
theorem fnSortByTold_lifted (os : Os) (started : os.Started) (H : Type) (enc : TypeId × Value → H) :
    ReturnsInHanded {} Tryz.checked os 6 .any (Rows.fnSortByToldSpec.pre6 enc Tryz.prog Tryz.f6 Rows.fnSortByToldRow.domain false) (Rows.fnSortByToldSpec.post enc Tryz.prog Tryz.f6 false true false false) := by
  refine returnsInHanded_of_change (C := Tryz.checked) own started (by kernel_rfl) Tryz.func6
    (ChangeSpec.witness6 (enc := enc) (C := Tryz.checked) false ⟨#[], #[.agg #[.bool false, .slice none 0 0, .slice none 0 0], .int .u8 0, .slice none 0 0], []⟩ 8 (by kernel_rfl) (by kernel_rfl) (by kernel_rfl) (by kernel_rfl)) ?_
  intro W base args ds gs before hval0 hW hcnd _
  have hval : ∀ (j : Nat) t v, Tryz.f6.params[j]? = some t → args[j]? = some v → Value.okWide Tryz.prog W .any base t v := hval0
  have hW' := hW
  obtain ⟨p, q, hA0, hV, rfl, hfz, hnd⟩ := hW
  have hA : DataW.TrodAll enc Tryz.prog W 0 (fun _ => true) true Tryz.f6.params.toList args.toList ds p := hA0
  rw [Tryz.params6] at hA hval
  obtain ⟨v0, vs0, d0, ds0, p0, q0, hargs, rfl, rfl, h0, r0⟩ := trodAll_cons hA
  obtain ⟨v1, vs1, d1, ds1, p1, q1, rfl, rfl, rfl, h1, r1⟩ := trodAll_cons r0
  obtain ⟨v2, vs2, d2, ds2, p2, q2, rfl, rfl, rfl, h2, r2⟩ := trodAll_cons r1
  obtain ⟨rfl, rfl, rfl⟩ := trodAll_nil r2
  obtain rfl : args = #[v0, v1, v2] := by cases args; simp_all
  obtain ⟨rfl, rfl⟩ := trodVars_none hV
  have k0 := h0
  have k1 := h1
  have k2 := h2
  have lt0 : ∀ x ∈ p0, x.block < W.heap.size := by obtain ⟨m, hm⟩ := k0; exact DataW.trod_lt m _ _ _ hm
  have lt1 : ∀ x ∈ p1, x.block < W.heap.size := by obtain ⟨m, hm⟩ := k1; exact DataW.trod_lt m _ _ _ hm
  have lt2 : ∀ x ∈ p2, x.block < W.heap.size := by obtain ⟨m, hm⟩ := k2; exact DataW.trod_lt m _ _ _ hm
  obtain ⟨bb0, _, _, y00, y01, y02, m0, hagg0, _, _, hy00, hy01, hy02⟩ := open_agg3 Tryz.underlying25 (by kernel_rfl) cells_Graph (hval 0 25 v0 rfl rfl) h0
  obtain ⟨b0, hb0, _⟩ := DataW.trod_bool Tryz.underlying4 hy00
  obtain rfl : bb0 = .bool b0 := by simpa using hb0
  obtain ⟨an0, n0, cn0, ns0, rfl, hn0, hwf0⟩ := rdIw_of_trod hy01
  obtain ⟨ae0, me0, ce0, es0, rfl, he0⟩ := rdE_of_trod hy02
  obtain ⟨y1, rfl, rfl, rfl, hy1⟩ := open_int Tryz.underlying5 (hval 1 5 v1 rfl rfl) h1
  obtain ⟨x1, rfl, hx1⟩ : ∃ x : Nat, y1 = (x : Int) ∧ x < 256 := by
    have h1 : IntKind.u8.min = 0 := by kernel_rfl
    have h2 : IntKind.u8.max = 255 := by kernel_rfl
    rw [Lit.wf, Bool.and_eq_true, decide_eq_true_iff, decide_eq_true_iff, h1, h2] at hy1
    exact ⟨y1.toNat, by omega, by omega⟩
  obtain ⟨a2, len2, cap2, hv2⟩ := okWide_slice Tryz.underlying48 (hval 2 48 v2 rfl rfl)
  obtain ⟨ap2, np2, cp2, hvp2, hp2⟩ : ∃ a n c, v2 = .slice a n c ∧ RdU W a n := by
    obtain ⟨fuel, hf⟩ := h2
    rw [hv2] at hf ⊢
    exact rdU_of_trod (by simpa [Value.cells] using hf)
  subst hagg0 hvp2
  clear hA0 hval0
  refine (lawSB_calls b0 an0 ae0 ap2 n0 cn0 me0 ce0 x1 np2 cp2 ns0 es0 W hn0 he0 hp2 hwf0 hx1).mono fun e W' ⟨he, bel⟩ => ?_
  subst he
  exact ⟨_, rfl, _, _, _, [], _, [], hW', trodAll_mk1 (shut_bool Tryz.underlying4 _), (trodAll_cons_mk (Below.trod laidOut (by kernel_rfl) (of_decide_eq_true (by kernel_rfl)) k0 bel lt0) (trodAll_cons_mk (Below.trod laidOut (by kernel_rfl) (of_decide_eq_true (by kernel_rfl)) k1 bel lt1) (trodAll_cons_mk (Below.trod laidOut (by kernel_rfl) (of_decide_eq_true (by kernel_rfl)) k2 bel lt2) trodAll_mk0))), rfl, bel.frame _, fun h => by cases h⟩

theorem FnSortByTold_holds : Rows.FnSortByToldSaid :=
  OpenClaim.holds_of_wide 6 Tryz.f6 rfl rfl rfl rfl rfl rfl rfl ⟨rfl, rfl, rfl, rfl, rfl⟩ rfl rfl rfl rfl rfl (by kernel_rfl) Tryz.func6 (by kernel_rfl)
    (of_decide_eq_true (by kernel_rfl)) (by unfold Func.isWrapper; first | (rw [if_pos (by decide +kernel)]; kernel_rfl) | (rw [if_neg (by decide +kernel)]; exact ⟨rfl, rfl⟩))
    (fun os started H enc _ => fnSortByTold_lifted os started H enc)
#print axioms FnSortByTold_holds
end Go.Proofs.YtnfkbjgijelfdaaGreat
