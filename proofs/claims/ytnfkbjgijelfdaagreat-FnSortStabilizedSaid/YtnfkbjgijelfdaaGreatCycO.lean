/- The walk of the laws' own cyclicOf (of a directed graph), and what it says. What the laws' own cyclicOf says: the cyclic components, in lexical order. No walk. -/
import Derived.Test.YtnfkbjgijelfdaaGreatReach
import Derived.Test.YtnfkbjgijelfdaaGreatLex
import Derived.Test.YtnfkbjgijelfdaaGreatNextF
import Derived.Test.YtnfkbjgijelfdaaGreatSortLL
import Derived.Test.YtnfkbjgijelfdaaGreatOrdP
namespace Go.Proofs.YtnfkbjgijelfdaaGreat
open Go.RowKit

theorem getD_memC {ids : List Int} {x : Int} (hx : x ∈ ids) : ∃ i, i < ids.length ∧ ids.getD i 0 = x := by
  obtain ⟨i, hi⟩ := List.getElem?_of_mem hx
  exact ⟨i, (List.getElem?_eq_some_iff.1 hi).1, by rw [List.getD_eq_getElem?_getD, hi]; rfl⟩
theorem tab_arc {ns : List Int} {es : List (Int × Int × Int)} (hw : wellB ns es = true) {i b : Nat} (hi : i < (sortI ns).length) (hb : b < (sortI ns).length) : tabA true (sortI ns) es i b = arcB true es ((sortI ns).getD i 0) ((sortI ns).getD b 0) := by
  have hu := sort_ltF hw
  unfold tabA arcB
  rw [Bool.eq_iff_iff, List.any_eq_true, List.any_eq_true]
  have key : ∀ e ∈ es, (hitsB true (sortI ns) i b e = true ↔ arcAt true e ((sortI ns).getD i 0) ((sortI ns).getD b 0) = true) := fun e he => by
    obtain ⟨h1, h2⟩ := well_ends hw e he
    obtain ⟨p, hp, hp2⟩ := getD_memC (mem_sortI.2 h1)
    obtain ⟨q, hq, hq2⟩ := getD_memC (mem_sortI.2 h2)
    unfold hitsB arcAt
    rw [← hp2, ← hq2, posOf_getF hu hp, posOf_getF hu hq]
    simp only [Bool.not_true, Bool.false_and, Bool.or_false, Bool.and_eq_true, decide_eq_true_eq, beq_iff_eq]
    constructor
    · rintro ⟨rfl, rfl⟩; exact ⟨rfl, rfl⟩
    · rintro ⟨h3, h4⟩
      refine ⟨?_, ?_⟩
      · rw [← posOf_getF hu hp, ← posOf_getF hu hi, h3]
      · rw [← posOf_getF hu hq, ← posOf_getF hu hb, h4]
  constructor
  · rintro ⟨e, he, h⟩; exact ⟨e, he, (key e he).1 h⟩
  · rintro ⟨e, he, h⟩; exact ⟨e, he, (key e he).2 h⟩
theorem mem_fromD {ns : List Int} {es : List (Int × Int × Int)} (hw : wellB ns es = true) {i : Nat} (hi : i < (sortI ns).length) (y : Int) : y ∈ fromL true ns es ((sortI ns).getD i 0) ↔ ∃ b, b < (sortI ns).length ∧ tabA true (sortI ns) es i b = true ∧ (sortI ns).getD b 0 = y := by
  unfold fromL
  rw [List.mem_filter]
  constructor
  · rintro ⟨h1, h2⟩
    obtain ⟨b, hb, rfl⟩ := getD_memC h1
    exact ⟨b, hb, by rw [tab_arc hw hi hb]; exact h2, rfl⟩
  · rintro ⟨b, hb, h, rfl⟩
    exact ⟨getF_mem hb, by rw [← tab_arc hw hi hb]; exact h⟩
theorem wsh_reachD {ns : List Int} {es : List (Int × Int × Int)} (hw : wellB ns es = true) {i j : Nat} (hi : i < (sortI ns).length) (hj : j < (sortI ns).length) :
    wsh (tabA true (sortI ns) es) (sortI ns).length i j = true ↔ ReachA (fromL true ns es) ((sortI ns).getD i 0) ((sortI ns).getD j 0) := by
  have hu := sort_ltF hw
  constructor
  · intro h
    refine wsh_sound (tabA true (sortI ns) es) (sortI ns).length (fun a b => ReachA (fromL true ns es) ((sortI ns).getD a 0) ((sortI ns).getD b 0)) (fun _ => ReachA.refl _ _) (fun a b ha hb hab => ?_) (fun _ _ _ h1 h2 => ReachA.trans h1 h2) (sortI ns).length i j (Nat.le_refl _) hi hj h
    exact ReachA.step (ReachA.refl _ _) ((mem_fromD hw ha _).2 ⟨b, hb, hab, rfl⟩)
  · intro h
    have key := h (fun z => ∃ b, b < (sortI ns).length ∧ (sortI ns).getD b 0 = z ∧ wsh (tabA true (sortI ns) es) (sortI ns).length i b = true) ⟨i, hi, rfl, wsh_self _ _ _⟩ (fun a b ha hb => by
      obtain ⟨c, hc, rfl, hw2⟩ := ha
      obtain ⟨d, hd, ht, rfl⟩ := (mem_fromD hw hc b).1 hb
      exact ⟨d, hd, rfl, wsh_trans _ _ c _ _ hc hw2 (wsh_arc _ _ _ _ ht)⟩)
    obtain ⟨b, hb, e, hw2⟩ := key
    have e2 : b = j := by rw [← posOf_getF hu hb, ← posOf_getF hu hj, e]
    rw [← e2]; exact hw2

/-- The class of a place up to place j, and the classes of two nodes at least, each at its least place. -/
def clsL (ids : List Int) (b : Nat → Nat → Bool) (u j : Nat) : List Int := ((List.range j).filter (b u)).map fun v => ids.getD v 0
def clsB (ids : List Int) (b : Nat → Nat → Bool) (n u : Nat) : Bool := decide (1 < (clsL ids b u n).length) && ((clsL ids b u n).getD 0 0 == ids.getD u 0)
def cycW (ids : List Int) (b : Nat → Nat → Bool) (n k : Nat) : List (List Int) := ((List.range k).filter (clsB ids b n)).map fun u => clsL ids b u n
theorem clsL_succ (ids : List Int) (b : Nat → Nat → Bool) (u j : Nat) : clsL ids b u (j + 1) = clsL ids b u j ++ (if b u j then [ids.getD j 0] else []) := by
  unfold clsL
  rw [List.range_succ, List.filter_append, List.map_append]
  cases hb : b u j <;> simp [hb]
theorem clsL_len (ids : List Int) (b : Nat → Nat → Bool) (u j : Nat) : (clsL ids b u j).length ≤ j := by
  unfold clsL
  rw [List.length_map]
  have := List.length_filter_le (b u) (List.range j)
  rw [List.length_range] at this; exact this
theorem cycW_succ (ids : List Int) (b : Nat → Nat → Bool) (n k : Nat) : cycW ids b n (k + 1) = cycW ids b n k ++ (if clsB ids b n k then [clsL ids b k n] else []) := by
  unfold cycW
  rw [List.range_succ, List.filter_append, List.map_append]
  cases hb : clsB ids b n k <;> simp [hb]
theorem cycW_len (ids : List Int) (b : Nat → Nat → Bool) (n k : Nat) : (cycW ids b n k).length ≤ k ∧ ∀ l ∈ cycW ids b n k, l.length ≤ n := by
  unfold cycW
  refine ⟨?_, fun l hl => ?_⟩
  · rw [List.length_map]
    have := List.length_filter_le (clsB ids b n) (List.range k)
    rw [List.length_range] at this; exact this
  · obtain ⟨u, -, rfl⟩ := List.mem_map.1 hl
    exact clsL_len _ _ _ _

theorem tableT_info : True := trivial
theorem intsC_info : (Tryz.prog.info? 22).map (fun i => (i.zero, i.size, i.bytes)) = some (some (.slice none 0 0), 1, 24) := by kernel_rfl

def CycOPost (ns : List Int) (es : List (Int × Int × Int)) (w : World) (e : Ending) (w' : World) : Prop :=
  ∃ v vs, e = .returned v ∧ LolI w' w.heap.size v vs (cycW (sortI ns) (fun u v => wsh (tabA true (sortI ns) es) (sortI ns).length u v && wsh (tabA true (sortI ns) es) (sortI ns).length v u) (sortI ns).length (sortI ns).length) ∧ Below w.heap.size w w'

set_option maxHeartbeats 8000000 in
set_option maxRecDepth 100000 in
theorem cyclicOf_calls (an ae : Option Addr) (n cn m ce : Nat) (ns : List Int) (es : List (Int × Int × Int)) (w : World) (hn : RdI w an n ns) (hr : RdE w ae m es) (hn8 : n ≤ 500) (hw : wellB ns es = true) :
    Calls Tryz.prog 61 #[.agg #[.bool true, .slice an n cn, .slice ae m ce]] w (CycOPost ns es w) := by
  have HN := Lib.hid hn; have HR := Lib.hid hr
  have HLEN := Lib.hid hn.len
  have hsl : (sortI ns).length = n := by rw [sortI_len]; exact hn.len
  have HWELL := Lib.hid hw
  have HSL := Lib.hid hsl
  clear hn hr hw hsl
  obtain ⟨j0, hj0, hy0, hy1, hy2⟩ := info_parts int_info
  have HJ := Lib.hid (And.intro hj0 (And.intro hy0 (And.intro hy1 hy2)))
  obtain ⟨i0, hi0, hz0, hz1, hz2⟩ := info_parts intsC_info
  have HI := Lib.hid (And.intro hi0 (And.intro hz0 (And.intro hz1 hz2)))
  clear hj0 hy0 hy1 hy2 hi0 hz0 hz1 hz2
  go_enter Tryz.func61, Tryz.ntmps61
  go_wp2_with fail
  obtain ⟨w0, hw0⟩ : ∃ w0, w0 = w.alloc (.cells #[.bool true, .slice an n cn, .slice ae m ce] 25) := ⟨_, rfl⟩
  have HB0 : Hid (Below w.heap.size w w0) := Lib.hid (by rw [hw0]; exact (Below.refl _ _).alloc (Nat.le_refl _) _)
  rw [← hw0]
  clear hw0
  refine (tableOf_calls true an ae n cn m ce ns es w0 (HN.out.below HB0.out (Nat.le_refl _)) (HR.out.below HB0.out (Nat.le_refl _)) (by omega) HWELL.out).mono ?_
  rintro e w6 ⟨vN, vA, vW, lo, GA, GW, rfl, hlo, hvN, hvNlo, hvA, hvW, hMA, hMW, hb6⟩
  rw [HLEN.out] at hvN hvA hvW hMA
  obtain ⟨aN, cN, rfl⟩ := own_shape' hvN
  obtain ⟨aA, cA, rfl⟩ := own_shape' hvA
  obtain ⟨aW, cW, rfl⟩ := own_shape' hvW
  have HVN := Lib.hid hvN; have HVA := Lib.hid hvA; have HMA := Lib.hid hMA
  have HB6 := Lib.hid (HB0.out.trans (hb6.mono HB0.out.size))
  clear hvN hvNlo hvA hvW hMA hMW hb6 hlo
  have hs6 := HB6.out.size
  go_wp2_with fail
  obtain ⟨w7, hw7⟩ : ∃ w7, w7 = w6.alloc (.cells #[.slice aN n cN, .slice aA n cA, .slice aW n cW] 150) := ⟨_, rfl⟩
  have HB7 : Hid (Below w6.heap.size w6 w7) := by rw [hw7]; exact (Below.refl _ _).alloc (Nat.le_refl _) _
  have x7 : w7.heap[w6.heap.size]? = some (.cells #[.slice aN n cN, .slice aA n cA, .slice aW n cW] 150 (0, 0)) := by rw [hw7]; exact heap_alloc_new w6 _
  have hs7 : w6.heap.size < w7.heap.size := (Array.getElem?_eq_some_iff.1 x7).1
  rw [← hw7]
  obtain ⟨bt, hbt⟩ : ∃ bt, bt = w6.heap.size := ⟨_, rfl⟩
  rw [← hbt] at x7 hs7 HB7 ⊢
  have HX7 := Lib.hid x7
  have HV7 : Hid (w7.ownsRow w0.heap.size 3 1 (.slice aN n cN) n ((sortI ns).map (Value.int .i64))) := ownsRow_of_heap HVN.out (fun g hg => HB7.out.block g (by have := (HVN.out.lt g hg).2; omega))
  have HA7 : Hid (w7.ownsRow lo 153 1 (.slice aA n cA) n ((List.range n).map (rowV n GA))) := ownsRow_of_heap HVA.out (fun g hg => HB7.out.block g (by have := (HVA.out.lt g hg).2; omega))
  have HM7 : Hid (Mat Value.bool w7 lo n n 4 GA (tabA true (sortI ns) es)) := HMA.out.of_heap (fun i hi => HB7.out.block _ (by have := HMA.out.lt hi; omega))
  have HB7w : Hid (Below w.heap.size w w7) := HB6.out.trans (HB7.out.mono (by omega))
  have hwt : w.heap.size ≤ bt := by omega
  clear hw7 hbt x7
  refine (reach_calls _ _ _ _ lo n GA _ (sortI ns) w7 HV7.out HA7.out HM7.out (by omega)).mono ?_
  rintro e w8 ⟨vR, vsR, rfl, hR, hb8⟩
  have hRr := hR.row
  rw [matL_len] at hRr
  obtain ⟨aR, cR, rfl⟩ := own_shape' hRr
  have HR8 := Lib.hid hR
  have x8 : w8.heap[bt]? = some (.cells #[.slice aN n cN, .slice aA n cA, .slice aW n cW] 150 (0, 0)) := (hb8.block bt hs7).trans HX7.out
  have HX8 := Lib.hid x8
  have hs8 : bt < w8.heap.size := (Array.getElem?_eq_some_iff.1 x8).1
  have HV8 : Hid (w8.ownsRow w0.heap.size 3 1 (.slice aN n cN) n ((sortI ns).map (Value.int .i64))) := ownsRow_of_heap HV7.out (fun g hg => hb8.block g (HV7.out.lt g hg).2)
  have HB8w : Hid (Below w.heap.size w w8) := HB7w.out.trans (hb8.mono (by omega))
  clear hR hRr hb8 HX7 HV7 HA7 HM7 HB7w HB7 HVN HVA HMA x8
  obtain ⟨B, hB⟩ : ∃ B : Nat → Nat → Bool, B = fun u v => wsh (tabA true (sortI ns) es) n u v && wsh (tabA true (sortI ns) es) n v u := ⟨_, rfl⟩
  have HBB := Lib.hid hB
  clear hB
  go_wp2_with fail
  go_loopw [5, 6] (fun vO i wr => ∃ (u : Nat) (vs : List Value), u ≤ n ∧ i = .int .i64 u ∧ LolI wr w8.heap.size vO vs (cycW (sortI ns) B n u) ∧ Below w8.heap.size w8 wr) (fun _ i _ => n - (intOf i).toNat)
  case atStart => exact ⟨0, [], by omega, rfl, LolG.nil _ _, Below.refl _ _⟩
  case round =>
    obtain ⟨u, vs, hu, rfl, hl, hb⟩ := hrel
    obtain ⟨wo, rfl⟩ : ∃ wo : World, wo = wr := ⟨_, rfl⟩
    obtain ⟨nl, hnl⟩ : ∃ nl, nl = (cycW (sortI ns) B n u).length := ⟨_, rfl⟩
    have hnlu : nl ≤ u := by rw [hnl]; exact (cycW_len _ _ _ _).1
    have hlr := hl.row
    rw [← hnl] at hlr
    obtain ⟨aO, cO, rfl⟩ := own_shape' hlr
    have HL := Lib.hid hl; have HB := Lib.hid hb; have HNL := Lib.hid hnl
    have hszr := hb.size
    clear hl hlr hnl
    by_cases hun : u < n
    · clear hb
      go_wp2_with fail
      go_loopw [7, 8] (fun v i wr => ∃ j : Nat, j ≤ n ∧ i = .int .i64 j ∧ wr.ownsRow wo.heap.size 3 1 v (clsL (sortI ns) B u j).length ((clsL (sortI ns) B u j).map (Value.int .i64)) ∧ Below wo.heap.size wo wr) (fun _ i _ => n - (intOf i).toNat)
      case atStart => exact ⟨0, by omega, rfl, World.ownsRow_nil _ _ _ _, Below.refl _ _⟩
      case round =>
        obtain ⟨j, hj, rfl, hol, hb⟩ := hrel
        obtain ⟨wi, rfl⟩ : ∃ wi : World, wi = wr := ⟨_, rfl⟩
        obtain ⟨l, hl⟩ : ∃ l, l = clsL (sortI ns) B u j := ⟨_, rfl⟩
        rw [← hl] at hol
        obtain ⟨nj, hnj⟩ : ∃ nj, nj = l.length := ⟨_, rfl⟩
        have hnjj : nj ≤ j := by rw [hnj, hl]; exact clsL_len _ _ _ _
        rw [← hnj] at hol
        obtain ⟨aL, cL, rfl⟩ := own_shape' hol
        have HOL := Lib.hid hol; have HLE := Lib.hid hl; have HNJ := Lib.hid hnj
        have HBI : Hid (Below w8.heap.size w8 wi) := Lib.hid (HB.out.trans (hb.mono hszr))
        have HBO := Lib.hid hb
        have hszi := hb.size
        have x8 := (HBI.out.block bt hs8).trans HX8.out
        have t0 : wi.cell? ⟨bt, 0, none⟩ = some (.slice aN n cN) := by rw [cell_of_row wi _ _ _ _ (0, 0) x8]; rfl
        obtain ⟨gN, cN', e, hgN0, hgN1, -⟩ := own_form HV8.out (by omega)
        simp only [Value.slice.injEq, true_and] at e
        obtain ⟨rfl, rfl⟩ := e
        clear hol hb hl hnj x8
        by_cases hjn : j < n
        · obtain ⟨y, hy⟩ : ∃ y, (sortI ns).getD j 0 = y := ⟨_, rfl⟩
          have c1 : wi.cell? ⟨gN, j, none⟩ = some (.int .i64 y) := (HBI.out.cell (p := ⟨gN, j, none⟩) hgN1).trans (own_at HV8.out (i := j) (u := .int .i64 y) (by
            have h1 : j < (sortI ns).length := by rw [HSL.out]; exact hjn
            rw [← hy]; simp [List.getD, h1])).1
          obtain ⟨gR, gi, ci, e, hgR, hrow, hgi0, hgi, hcs⟩ := lolb_at HR8.out hun
          simp only [Value.slice.injEq, and_true] at e
          subst e
          obtain ⟨gR', gk, ck, e, hgR', hrow2, hgk0, hgk, hcs2⟩ := lolb_at HR8.out hjn
          simp only [Value.slice.injEq, and_true, Option.some.injEq, Addr.mk.injEq] at e
          obtain ⟨rfl, -⟩ := e
          obtain ⟨p, hp⟩ : ∃ p, wsh (tabA true (sortI ns) es) n u j = p := ⟨_, rfl⟩
          obtain ⟨q, hq⟩ : ∃ q, wsh (tabA true (sortI ns) es) n j u = q := ⟨_, rfl⟩
          have c2 := (hcs j hjn).1
          have c3 := (hcs2 u hun).1
          rw [hp] at c2; rw [hq] at c3
          have r1 := (HBI.out.cell (p := ⟨gR, u, none⟩) hgR).trans hrow
          have r2 := (HBI.out.cell (p := ⟨gR, j, none⟩) hgR).trans hrow2
          have r3 := (HBI.out.cell (p := ⟨gi, j, none⟩) hgi).trans c2
          have r4 := (HBI.out.cell (p := ⟨gk, u, none⟩) hgk).trans c3
          have HBJ : Hid (B u j = (p && q)) := Lib.hid (by rw [HBB.out]; show (_ && _) = _; rw [hp, hq])
          have HCS := Lib.hid (clsL_succ (sortI ns) B u j)
          have HY := Lib.hid hy
          have hgRr : gR < wi.heap.size := by have := HBI.out.size; omega
          have hgir : gi < wi.heap.size := by have := HBI.out.size; omega
          have hgkr : gk < wi.heap.size := by have := HBI.out.size; omega
          clear hcs hcs2 hrow hrow2 c2 c3 hp hq hy
          cases p
          · have HN2 : Hid (clsL (sortI ns) B u (j + 1) = l) := Lib.hid (by rw [HCS.out, HBJ.out, HLE.out]; simp)
            go_wp2_with fail
            go_roundw
            case rel => exact ⟨j + 1, by omega, by go_num, by rw [HN2.out, ← HNJ.out]; exact HOL.out, HBO.out⟩
            case measure => simp [intOf]; omega
          · cases q
            · have HN2 : Hid (clsL (sortI ns) B u (j + 1) = l) := Lib.hid (by rw [HCS.out, HBJ.out, HLE.out]; simp)
              go_wp2_with fail
              go_roundw
              case rel => exact ⟨j + 1, by omega, by go_num, by rw [HN2.out, ← HNJ.out]; exact HOL.out, HBO.out⟩
              case measure => simp [intOf]; omega
            · have HN2 : Hid (clsL (sortI ns) B u (j + 1) = l ++ [y]) := Lib.hid (by rw [HCS.out, HBJ.out, HLE.out, HY.out]; simp)
              obtain ⟨hj0, hy0, hy1, hy2⟩ := HJ.out
              go_wp2_with (at_builtin; refine wpList_append_own_at _ rfl _ _ 22 rfl wo.heap.size 3 j0 (.int .i64 0) 1 8 Tryz.underlying22 hj0 hy0 hy1 hy2 rfl (by decide) (.slice aL nj cL) nj (l.map (Value.int .i64)) rfl (HOL.out.alloc _) ⟨wi.heap.size, 0, none⟩ 1 1 [.int .i64 y] rfl rfl ?c1 ?c2 ?c3 ?c4 ?c5 ?_)
              case c1 => intro j u hj; match j, hj with | 0, hj => simp at hj; subst hj; simp [Addr.add]
              case c2 => intro u hu; simp at hu; subst hu; rfl
              case c3 => unfold maxLen; omega
              case c4 => omega
              case c5 => simp; omega
              intro v6 w6 hown6 hgrow6 _ _
              obtain ⟨a6, c6, rfl⟩ := own_shape' hown6
              have HB6' : Hid (Below wo.heap.size wo w6) := Lib.hid ((HBO.out.alloc (by omega) _).grown hgrow6 (by simp; omega) (fun j hj => (HOL.out.lt j hj).1))
              have HO6 : Hid (w6.ownsRow wo.heap.size 3 1 (.slice a6 (nj + 1) c6) (clsL (sortI ns) B u (j + 1)).length ((clsL (sortI ns) B u (j + 1)).map (Value.int .i64))) := Lib.hid (by
                rw [HN2.out, List.length_append, List.length_singleton, List.map_append, ← HNJ.out]; exact hown6)
              clear hown6 hgrow6 r1 r2 r3 r4 c1 t0
              go_wp2_with fail
              go_roundw
              case rel => exact ⟨j + 1, by omega, by go_num, HO6.out, HB6'.out⟩
              case measure => simp [intOf]; omega
        · obtain rfl : j = n := by omega
          obtain ⟨y, hy⟩ : ∃ y, (sortI ns).getD u 0 = y := ⟨_, rfl⟩
          have c1 : wi.cell? ⟨gN, u, none⟩ = some (.int .i64 y) := (HBI.out.cell (p := ⟨gN, u, none⟩) hgN1).trans (own_at HV8.out (i := u) (u := .int .i64 y) (by
            have h1 : u < (sortI ns).length := by rw [HSL.out]; exact hun
            rw [← hy]; simp [List.getD, h1])).1
          have HLI : Hid (∀ q, LolI (wi.drewN q) w8.heap.size (.slice aO nl cO) vs (cycW (sortI ns) B j u)) := Lib.hid (fun q => HL.out.of_heap (fun g hg => HBO.out.block g (HL.out.lt hg).2))
          have HBI2 : Hid (∀ q, Below w8.heap.size w8 (wi.drewN q)) := Lib.hid (fun q => below_drewN HBI.out q)
          have HWS := Lib.hid (cycW_succ (sortI ns) B j u)
          have hgNr : gN < wi.heap.size := by have := HBI.out.size; omega
          by_cases hgt : 1 < nj
          · obtain ⟨gL, cL', e, hgL, hgL', -⟩ := own_form HOL.out (by omega)
            simp only [Value.slice.injEq, true_and] at e
            obtain ⟨rfl, rfl⟩ := e
            obtain ⟨z, hz⟩ : ∃ z, l.getD 0 0 = z := ⟨_, rfl⟩
            have c2 := (own_at HOL.out (i := 0) (u := .int .i64 z) (by
              have h1 : 0 < l.length := by rw [← HNJ.out]; omega
              rw [← hz]; simp [List.getD, h1])).1
            have hgt1 : (1 : Int) < (nj : Int) := by omega
            have HCB : Hid (clsB (sortI ns) B j u = (z == y)) := Lib.hid (by
              unfold clsB
              rw [← HLE.out, ← HNJ.out, decide_eq_true hgt, hz, hy]; rfl)
            have HROW : Hid (∀ q, (wi.drewN q).ownsRow wo.heap.size 3 1 (.slice (some ⟨gL, 0, none⟩) nj cL) nj (l.map (Value.int .i64))) := Lib.hid (fun q => ownsRow_of_heap HOL.out (fun _ _ => rfl))
            clear hy hz hgt
            by_cases hzy : z = y
            · have hzy1 : (z == y) = true := by simp [hzy]
              have HWN : Hid (cycW (sortI ns) B j (u + 1) = cycW (sortI ns) B j u ++ [l]) := Lib.hid (by rw [HWS.out, HCB.out, hzy1, HLE.out]; rfl)
              subst hzy
              go_wp2_with fail
              go_quiet (fail)
              obtain ⟨wq, hwq⟩ : ∃ wq, wq = wi.drewN nq := ⟨_, rfl⟩
              have HLQ : Hid (LolI wq w8.heap.size (.slice aO nl cO) vs (cycW (sortI ns) B j u)) := Lib.hid (by rw [hwq]; exact HLI.out nq)
              have HBQ : Hid (Below w8.heap.size w8 wq) := Lib.hid (by rw [hwq]; exact HBI2.out nq)
              have HOQ : Hid (wq.ownsRow wo.heap.size 3 1 (.slice (some ⟨gL, 0, none⟩) nj cL) nj (l.map (Value.int .i64))) := Lib.hid (by rw [hwq]; exact HROW.out nq)
              have hsq1 : wi.heap.size ≤ wq.heap.size := by rw [hwq]; exact Nat.le_refl _
              rw [← hwq]
              clear hwq c1 c2 t0 hzy1
              obtain ⟨hi0, hz0, hz1, hz2⟩ := HI.out
              have HRW : Hid (wq.ownsRow w8.heap.size 22 1 (.slice aO nl cO) nl vs) := Lib.hid (by have h := HLQ.out.row; rw [← HNL.out] at h; exact h)
              have hq8 : w8.heap.size ≤ wq.heap.size := HBQ.out.size
              go_wp2_with (at_builtin; refine wpList_append_own_at _ rfl _ _ 28 rfl w8.heap.size 22 i0 (.slice none 0 0) 1 24 Tryz.underlying28 hi0 hz0 hz1 hz2 rfl (by decide) (.slice aO nl cO) nl vs rfl (HRW.out.alloc _) ⟨wq.heap.size, 0, none⟩ 1 1 [.slice (some ⟨gL, 0, none⟩) nj cL] rfl rfl ?g1 ?g2 ?g3 ?g4 ?g5 ?_)
              case g1 => intro j u hj; match j, hj with | 0, hj => simp at hj; subst hj; simp [Addr.add]
              case g2 => intro u hu; simp at hu; subst hu; rfl
              case g3 => unfold maxLen; omega
              case g4 => omega
              case g5 => simp; omega
              intro v7 w7' hown7 hgrow7 _ hloc7
              obtain ⟨a7, c7, rfl⟩ := own_shape' hown7
              have hfr : Fresh wq (.slice aO nl cO) (.slice a7 (nl + 1) c7) := hloc7.imp id fun h g hg => by rw [h] at hg; have := Option.some.inj hg; omega
              have HL7 : Hid (LolI w7' w8.heap.size (.slice a7 (nl + 1) c7) (vs ++ [.slice (some ⟨gL, 0, none⟩) nj cL]) (cycW (sortI ns) B j (u + 1))) := Lib.hid (by
                rw [HWN.out]
                exact HLQ.out.more (by rw [← HNJ.out]; exact own_lower HOQ.out (by omega)) (fun g hg hj => by have h1 := (HOQ.out.lt g hg).1; have h2 := (HL.out.lt hj).2; omega) (by rw [← HNL.out]; exact hown7) (fun j h1 h2 => by rw [hgrow7.block j (by simp; omega) h2]; exact heap_alloc_old _ _ h1) hfr)
              have HB7' : Hid (Below w8.heap.size w8 w7') := Lib.hid ((HBQ.out.alloc hq8 _).grown hgrow7 (by simp; omega) (fun j hj => (HRW.out.lt j hj).1))
              clear hown7 hgrow7 hloc7 hfr
              go_wp2_with fail
              go_roundw
              case rel => exact ⟨u + 1, _, by omega, by go_num, HL7.out, HB7'.out⟩
              case measure => simp [intOf]; omega
            · have hzy1 : (z == y) = false := by rw [beq_eq_false_iff_ne]; exact hzy
              have HWN : Hid (cycW (sortI ns) B j (u + 1) = cycW (sortI ns) B j u) := Lib.hid (by rw [HWS.out, HCB.out, hzy1]; simp)
              go_wp2_with fail
              go_quiet (fail)
              go_wp2_with fail
              go_roundw
              case rel => exact ⟨u + 1, vs, by omega, by go_num, by rw [HWN.out]; exact HLI.out _, HBI2.out _⟩
              case measure => simp [intOf]; omega
          · have hgt1 : ¬ (1 : Int) < (nj : Int) := by omega
            have hgt2 : decide ((1 : Int) < (nj : Int)) = false := by simpa using hgt1
            have HWN : Hid (cycW (sortI ns) B j (u + 1) = cycW (sortI ns) B j u) := Lib.hid (by
              rw [HWS.out]
              have : clsB (sortI ns) B j u = false := by
                unfold clsB
                rw [← HLE.out, ← HNJ.out, decide_eq_false hgt]; rfl
              rw [this]; simp)
            clear hgt
            go_wp2_with fail
            go_quiet (fail)
            go_wp2_with fail
            go_roundw
            case rel => exact ⟨u + 1, vs, by omega, by go_num, by rw [HWN.out]; exact HLI.out _, HBI2.out _⟩
            case measure => simp [intOf]; omega
    · obtain rfl : u = n := by omega
      clear hb
      go_wp2_with fail
      go_ret
      refine ⟨_, vs, rfl, ?_, HB8w.out.trans (HB.out.mono HB8w.out.size)⟩
      rw [HSL.out, ← HBB.out]
      exact HL.out.lower HB8w.out.size
end Go.Proofs.YtnfkbjgijelfdaaGreat
namespace Go.Proofs.YtnfkbjgijelfdaaGreat
open Go.RowKit

theorem sortI_lt {c : List Int} (h : c.Nodup) : (sortI c).Pairwise (· < ·) := by
  have h1 := sortI_pw c
  have h2 : (sortI c).Nodup := (sortI_perm c).nodup_iff.2 h
  exact (h1.and h2).imp fun {a b} ⟨h3, h4⟩ => by omega
theorem head_getD {l : List Int} (h : 0 < l.length) : l = l.getD 0 0 :: l.tail := by
  cases l with
  | nil => simp at h
  | cons x r => rfl

section
variable {ns : List Int} {es : List (Int × Int × Int)} {L : List (List Int)}
def mutB (ns : List Int) (es : List (Int × Int × Int)) (u v : Nat) : Bool := wsh (tabA true (sortI ns) es) (sortI ns).length u v && wsh (tabA true (sortI ns) es) (sortI ns).length v u
theorem clsL_up (hw : wellB ns es = true) (b : Nat → Nat → Bool) (u : Nat) : (clsL (sortI ns) b u (sortI ns).length).Pairwise (· < ·) := by
  unfold clsL
  rw [List.pairwise_map]
  have h : (List.range (sortI ns).length).Pairwise (fun i j => i < j ∧ j < (sortI ns).length) := by
    rw [List.pairwise_iff_getElem]
    intro i j hi hj hij
    rw [List.length_range] at hi hj
    rw [List.getElem_range, List.getElem_range]
    exact ⟨hij, hj⟩
  exact (h.sublist (List.filter_sublist ..)).imp fun {i j} ⟨h1, h2⟩ => getF_lt (sort_ltF hw) h1 h2
theorem mem_clsL (hw : wellB ns es = true) {u : Nat} (hu : u < (sortI ns).length) (y : Int) : y ∈ clsL (sortI ns) (mutB ns es) u (sortI ns).length ↔ y ∈ sortI ns ∧ ReachA (fromL true ns es) ((sortI ns).getD u 0) y ∧ ReachA (fromL true ns es) y ((sortI ns).getD u 0) := by
  unfold clsL
  rw [List.mem_map]
  constructor
  · rintro ⟨v, hv, rfl⟩
    obtain ⟨h1, h2⟩ := List.mem_filter.1 hv
    have hv' := List.mem_range.1 h1
    unfold mutB at h2
    rw [Bool.and_eq_true] at h2
    exact ⟨getF_mem hv', (wsh_reachD hw hu hv').1 h2.1, (wsh_reachD hw hv' hu).1 h2.2⟩
  · rintro ⟨h1, h2, h3⟩
    obtain ⟨v, hv, rfl⟩ := getD_memC h1
    refine ⟨v, List.mem_filter.2 ⟨List.mem_range.2 hv, ?_⟩, rfl⟩
    unfold mutB
    rw [Bool.and_eq_true]
    exact ⟨(wsh_reachD hw hu hv).2 h2, (wsh_reachD hw hv hu).2 h3⟩
theorem clsL_eq (hw : wellB ns es = true) (h : SccL (sortI ns) (fromL true ns es) L) {u : Nat} (hu : u < (sortI ns).length) {c : List Int} (hc : c ∈ L) (huc : (sortI ns).getD u 0 ∈ c) : clsL (sortI ns) (mutB ns es) u (sortI ns).length = sortI c := by
  refine eq_of_upF (clsL_up hw _ _) (sortI_lt (h.nodup_of hc)) (fun y => ?_)
  rw [mem_clsL hw hu, mem_sortI (zs := c), h.scc c hc _ huc]
  exact ⟨fun g => g.2, fun g => ⟨(h.mem y).1 (List.mem_flatten.2 ⟨c, hc, (h.scc c hc _ huc y).2 g⟩), g⟩⟩

theorem cycW_pw (hw : wellB ns es = true) : ∀ k, k ≤ (sortI ns).length → (cycW (sortI ns) (mutB ns es) (sortI ns).length k).Pairwise (fun a b => cmpL a b < 0) := by
  intro k hk
  unfold cycW
  rw [List.pairwise_map]
  have h : (List.range k).Pairwise (fun i j => i < j ∧ j < k) := by
    rw [List.pairwise_iff_getElem]
    intro i j hi hj hij
    rw [List.length_range] at hi hj
    rw [List.getElem_range, List.getElem_range]
    exact ⟨hij, hj⟩
  refine (h.sublist (List.filter_sublist ..)).imp_of_mem fun {i j} hi hj ⟨h1, h2⟩ => ?_
  have p1 := (List.mem_filter.1 hi).2
  have p2 := (List.mem_filter.1 hj).2
  unfold clsB at p1 p2
  rw [Bool.and_eq_true, decide_eq_true_eq, beq_iff_eq] at p1 p2
  rw [head_getD (by omega : 0 < (clsL (sortI ns) (mutB ns es) i (sortI ns).length).length), head_getD (by omega : 0 < (clsL (sortI ns) (mutB ns es) j (sortI ns).length).length), p1.2, p2.2, cmpL_cons, if_pos (getF_lt (sort_ltF hw) h1 (by omega))]
  omega

/-- The cyclic components, in lexical order. -/
theorem cycW_law (hw : wellB ns es = true) (h : SccL (sortI ns) (fromL true ns es) L) :
    (cycW (sortI ns) (mutB ns es) (sortI ns).length (sortI ns).length).Pairwise leL ∧ (cycW (sortI ns) (mutB ns es) (sortI ns).length (sortI ns).length).Perm ((cycs L).map sortI) := by
  have hp := cycW_pw (es := es) hw _ (Nat.le_refl _)
  refine ⟨hp.imp fun {a b} h => leL_of_lt h, ?_⟩
  have hn1 : (cycW (sortI ns) (mutB ns es) (sortI ns).length (sortI ns).length).Nodup := hp.imp fun {a b} h e => by rw [e, cmpL_self] at h; omega
  have hn2 : ((cycs L).map sortI).Nodup := by
    rw [← cycs_map]
    exact h.map_nodup.sublist (List.filter_sublist ..)
  refine (List.perm_ext_iff_of_nodup hn1 hn2).2 fun l => ?_
  unfold cycW
  rw [List.mem_map, List.mem_map]
  constructor
  · rintro ⟨u, hu, rfl⟩
    obtain ⟨h1, h2⟩ := List.mem_filter.1 hu
    have hu' := List.mem_range.1 h1
    obtain ⟨c, hc, huc⟩ := List.mem_flatten.1 ((h.mem ((sortI ns).getD u 0)).2 (getF_mem hu'))
    have e := clsL_eq hw h hu' hc huc
    refine ⟨c, List.mem_filter.2 ⟨hc, ?_⟩, e.symm⟩
    unfold clsB at h2
    rw [Bool.and_eq_true, decide_eq_true_eq, e, sortI_len] at h2
    unfold cyB
    simp; omega
  · rintro ⟨c, hc, rfl⟩
    obtain ⟨h1, h2⟩ := List.mem_filter.1 hc
    have hpos : 0 < (sortI c).length := by rw [sortI_len]; exact List.length_pos_iff.2 (h.ne c h1)
    have hz : (sortI c).getD 0 0 ∈ c := by
      rw [← mem_sortI]
      exact getF_mem hpos
    obtain ⟨u, hu, hue⟩ := getD_memC ((h.mem _).1 (List.mem_flatten.2 ⟨c, h1, hz⟩))
    have e := clsL_eq hw h hu h1 (by rw [hue]; exact hz)
    refine ⟨u, List.mem_filter.2 ⟨List.mem_range.2 hu, ?_⟩, e⟩
    unfold clsB
    rw [e, hue, Bool.and_eq_true, decide_eq_true_eq, sortI_len]
    unfold cyB at h2
    have := List.length_pos_iff.2 (h.ne c h1)
    exact ⟨by simp at h2; omega, by simp⟩
end
end Go.Proofs.YtnfkbjgijelfdaaGreat
