/- Insertion sort over any order; the walks of slices.Clone and the laws' own sortedLists at lists of lists of ints. -/
import Derived.Test.YtnfkbjgijelfdaaGreatLex
import Derived.Test.YtnfkbjgijelfdaaGreatShelfS
import Derived.IntWalk
namespace Go.Proofs.YtnfkbjgijelfdaaGreat
open Go.RowKit

section
variable {α : Type} {le : α → α → Prop}
def InsG (le : α → α → Prop) (l : List α) (k i : Nat) : Prop := ∀ a b x y, a < b → b ≤ k → b ≠ i → l[a]? = some x → l[b]? = some y → le x y
def SrtG (le : α → α → Prop) (l : List α) (k : Nat) : Prop := ∀ a b x y, a < b → b ≤ k → l[a]? = some x → l[b]? = some y → le x y
def swapG (l : List α) (i j : Nat) (x y : α) : List α := (l.set i y).set j x
theorem swapG_len (l : List α) (i j : Nat) (x y : α) : (swapG l i j x y).length = l.length := by simp [swapG]
theorem swapG_get {l : List α} {i j : Nat} {x y : α} (hx : l[i]? = some x) (hy : l[j]? = some y) (hij : i ≠ j) (a : Nat) : (swapG l i j x y)[a]? = if a = j then some x else if a = i then some y else l[a]? := by
  have h1 := (List.getElem?_eq_some_iff.1 hx).1
  have h2 := (List.getElem?_eq_some_iff.1 hy).1
  unfold swapG
  rw [List.getElem?_set, List.getElem?_set, List.length_set]
  by_cases e1 : a = j
  · subst e1; simp [h2]
  · rw [if_neg (fun e => e1 e.symm), if_neg e1]
    by_cases e2 : a = i
    · subst e2; simp [h1]
    · rw [if_neg (fun e => e2 e.symm), if_neg e2]
theorem swapG_perm {l : List α} {i j : Nat} {x y : α} (hx : l[i]? = some x) (hy : l[j]? = some y) : (swapG l i j x y).Perm l := by
  obtain ⟨h1, rfl⟩ := List.getElem?_eq_some_iff.1 hx
  obtain ⟨h2, rfl⟩ := List.getElem?_eq_some_iff.1 hy
  unfold swapG
  exact List.set_set_perm h1 h2
theorem InsG.swap {l : List α} {k i : Nat} {x y : α} (h : InsG le l k i) (hi : 0 < i) (hik : i ≤ k) (hx : l[i]? = some x) (hy : l[i - 1]? = some y) (hxy : le x y) : InsG le (swapG l i (i - 1) x y) k (i - 1) := by
  intro a b u v hab hbk hb hu hv
  rw [swapG_get hx hy (by omega)] at hu hv
  rw [if_neg hb] at hv
  by_cases e1 : b = i
  · rw [if_pos e1] at hv
    obtain rfl := Option.some.inj hv
    by_cases e2 : a = i - 1
    · rw [if_pos e2] at hu
      obtain rfl := Option.some.inj hu
      exact hxy
    · rw [if_neg e2, if_neg (by omega)] at hu
      exact h a (i - 1) u _ (by omega) (by omega) (by omega) hu hy
  · rw [if_neg e1] at hv
    by_cases e2 : a = i - 1
    · rw [if_pos e2] at hu
      obtain rfl := Option.some.inj hu
      exact h i b _ v (by omega) hbk e1 hx hv
    · rw [if_neg e2] at hu
      by_cases e3 : a = i
      · rw [if_pos e3] at hu
        obtain rfl := Option.some.inj hu
        exact h (i - 1) b _ v (by omega) hbk e1 hy hv
      · rw [if_neg e3] at hu
        exact h a b u v hab hbk e1 hu hv
theorem InsG.done0 {l : List α} {k : Nat} (h : InsG le l k 0) : SrtG le l k := fun a b x y hab hbk => h a b x y hab hbk (by omega)
theorem InsG.done {l : List α} {k i : Nat} {x y : α} (ht : ∀ a b c, le a b → le b c → le a c) (h : InsG le l k i) (hi : 0 < i) (hx : l[i]? = some x) (hy : l[i - 1]? = some y) (hyx : le y x) (hik : i ≤ k) : SrtG le l k := by
  intro a b u v hab hbk hu hv
  by_cases e : b = i
  · subst e
    obtain rfl : x = v := Option.some.inj (hx.symm.trans hv)
    by_cases e2 : a = b - 1
    · subst e2
      obtain rfl : y = u := Option.some.inj (hy.symm.trans hu)
      exact hyx
    · exact ht _ _ _ (h a (b - 1) u y (by omega) (by omega) (by omega) hu hy) hyx
  · exact h a b u v hab hbk e hu hv
theorem SrtG.ins {l : List α} {k : Nat} (h : SrtG le l k) : InsG le l (k + 1) (k + 1) := fun a b x y hab hbk hb => h a b x y hab (by omega)
theorem SrtG.pw {l : List α} (h : SrtG le l (l.length - 1)) : l.Pairwise le := by
  rw [List.pairwise_iff_getElem]
  intro i j hi hj hij
  exact h i j _ _ hij (by omega) (List.getElem?_eq_getElem hi) (List.getElem?_eq_getElem hj)
end

/-- Not behind, in lexical order. -/
def leL (a b : List Int) : Prop := ¬ cmpL b a < 0
theorem leL_trans (a b c : List Int) (h1 : leL a b) (h2 : leL b c) : leL a c := by
  unfold leL at *
  intro h3
  have e1 := cmpL_neg a b
  by_cases z : cmpL b a = 0
  · rw [cmpL_zero _ _ z] at h2; exact h2 h3
  · exact h2 (cmpL_trans _ _ _ h3 (by omega))
theorem leL_anti (a b : List Int) (h1 : leL a b) (h2 : leL b a) : a = b := by
  unfold leL at *
  have e1 := cmpL_neg a b
  exact cmpL_zero a b (by omega)
theorem leL_of_lt {a b : List Int} (h : cmpL a b < 0) : leL a b := by
  unfold leL; have := cmpL_neg a b; omega
/-- Lists in lexical order are the same if they hold the same. -/
theorem pwL_unique {a b : List (List Int)} (hp : a.Perm b) (ha : a.Pairwise leL) (hb : b.Pairwise leL) : a = b :=
  hp.eq_of_pairwise (le := leL) (fun x y _ _ h1 h2 => leL_anti x y h1 h2) ha hb

/-- The slices of a list of lists, with what they read as. -/
def RowsP (w : World) (ps : List (Value × List Int)) : Prop := ∀ p ∈ ps, ∃ a n c, p.1 = .slice a n c ∧ RdI w a n p.2
theorem RowsP.perm {w : World} {ps qs : List (Value × List Int)} (h : RowsP w ps) (hp : qs.Perm ps) : RowsP w qs := fun p hm => h p (hp.mem_iff.1 hm)
theorem RowsP.below {w w' : World} {ps : List (Value × List Int)} {B : Nat} (h : RowsP w ps) (hb : Below B w w') (hB : w.heap.size ≤ B) : RowsP w' ps := fun p hm => by
  obtain ⟨a, n, c, h1, h2⟩ := h p hm
  exact ⟨a, n, c, h1, h2.below hb hB⟩
theorem LolG.rowsP {w : World} {lo : Nat} {v : Value} {vs : List Value} {ls : List (List Int)} (h : LolI w lo v vs ls) : RowsP w (vs.zip ls) := fun p hm => by
  obtain ⟨i, hi⟩ := List.getElem?_of_mem hm
  obtain ⟨h1, h2⟩ := List.getElem?_zip_eq_some.1 hi
  obtain ⟨a, c, e, hr⟩ := RdI.of_owns (h.rows i _ _ h1 h2)
  exact ⟨a, _, c, e, hr⟩
theorem RdL.of_rowsP {w : World} {B : Nat} {a : Option Addr} {n c : Nat} {ps : List (Value × List Int)} (ho : w.ownsRow B 22 1 (.slice a n c) n (ps.map (·.1))) (h : RowsP w ps) (hn : n ≤ 9223372036854775807) : RdL w a n (ps.map (·.2)) := by
  have hl : ps.length = n := by have := ho.1; simpa using this
  refine ⟨by rw [List.length_map]; exact hl, hn, fun h0 => ?_⟩
  obtain ⟨g, c', e, h1, h2, -⟩ := own_form ho h0
  simp only [Value.slice.injEq, true_and] at e
  obtain ⟨rfl, rfl⟩ := e
  refine ⟨g, 0, rfl, h2, fun j hj => ?_⟩
  have hj2 : j < ps.length := by omega
  obtain ⟨aj, nj, cj, e1, hr⟩ := h ps[j] (List.getElem_mem hj2)
  refine ⟨aj, nj, cj, ps[j].2, Lib.hid (by rw [List.getElem?_map, List.getElem?_eq_getElem hj2]; rfl), ?_, hr⟩
  rw [Nat.zero_add, ← e1]
  exact (own_at ho (i := j) (u := ps[j].1) (by rw [List.getElem?_map, List.getElem?_eq_getElem hj2]; rfl)).1

theorem intsL_info : (Tryz.prog.info? 22).map (fun i => (i.zero, i.size, i.bytes)) = some (some (.slice none 0 0), 1, 24) := by kernel_rfl
theorem intsL_size (w : World) : (Go.sizeOf 22).run Tryz.prog w = .ok 1 w := by kernel_rfl
theorem cloneLL_calls (B : Nat) (v : Value) (n : Nat) (us : List Value) (w : World) (h : w.ownsRow B 22 1 v n us) (h1 : ∀ u ∈ us, u.oneCell' = true) (hn : n ≤ 1000000) :
    Calls Tryz.prog 47 #[v] w fun e w' => ∃ v', e = .returned v' ∧ w'.ownsRow w.heap.size 22 1 v' n us ∧ Below w.heap.size w w' := by
  obtain ⟨i0, hi0, hz0, hz1, hz2⟩ := info_parts intsL_info
  rcases h.2 with ⟨rfl, rfl⟩ | ⟨g, cap, cur, rfl, hb, hg, h3, h4, h5, h6⟩
  · have hl := h.1
    obtain rfl : us = [] := List.eq_nil_of_length_eq_zero (by simpa using hl)
    refine (Tryz.slices_Clone_nil_f47 0 0 w).mono ?_
    rintro e w' ⟨rfl, rfl⟩
    exact ⟨_, rfl, World.ownsRow_nil _ _ _ _, Below.refl _ _⟩
  · refine (Tryz.slices_Clone_f47 i0 (.slice none 0 0) 1 24 hi0 hz0 hz1 hz2 rfl (by decide) intsL_size g 0 n cap us w (by have := h.1; omega) (by unfold maxLen; omega) (by omega) (fun j u hj => ?_) h1).mono ?_
    · rw [Nat.zero_add]; exact (own_at h hj).1
    · rintro e w' ⟨v', rfl, ho, -, hb⟩
      exact ⟨v', rfl, ho, hb⟩

/-- The order of pairs. -/
def leP (p q : Value × List Int) : Prop := leL p.2 q.2
def SortLLPost (L : List (List Int)) (w : World) (e : Ending) (w' : World) : Prop :=
  ∃ (v : Value) (ps : List (Value × List Int)), e = .returned v ∧ w'.ownsRow w.heap.size 22 1 v L.length (ps.map (·.1)) ∧ RowsP w' ps ∧ (ps.map (·.2)).Perm L ∧ (ps.map (·.2)).Pairwise leL ∧ Below w.heap.size w w'

def SLSt (w0 w1 wr : World) (g n cap : Nat) (qs : List (Value × List Int)) (k : Nat) : Prop :=
  ∃ ps : List (Value × List Int), wr.ownsRow w0.heap.size 22 1 (.slice (some ⟨g, 0, none⟩) n cap) n (ps.map (·.1)) ∧ ps.Perm qs ∧ SrtG leP ps (k - 1) ∧ Below w0.heap.size w1 wr
def SLIn (w0 w1 wr : World) (g n cap : Nat) (qs : List (Value × List Int)) (k i : Nat) : Prop :=
  ∃ ps : List (Value × List Int), wr.ownsRow w0.heap.size 22 1 (.slice (some ⟨g, 0, none⟩) n cap) n (ps.map (·.1)) ∧ ps.Perm qs ∧ InsG leP ps k i ∧ Below w0.heap.size w1 wr

theorem map_set1 (ps : List (Value × List Int)) (i j : Nat) (x y : Value × List Int) : (swapG ps i j x y).map (·.1) = ((ps.map (·.1)).set i y.1).set j x.1 := by
  unfold swapG; rw [List.map_set, List.map_set]

set_option maxHeartbeats 4000000 in
theorem sortedLists_calls (lo : Nat) (v : Value) (vs : List Value) (L : List (List Int)) (w : World) (h : LolI w lo v vs L) (hn : L.length ≤ 1000000) (hm : ∀ l ∈ L, l.length ≤ 1000000) :
    Calls Tryz.prog 13 #[v] w (SortLLPost L w) := by
  have hrow := h.row
  have hvl := h.len
  obtain ⟨n, hnn⟩ : ∃ n, n = L.length := ⟨_, rfl⟩
  rw [← hnn] at hrow hvl hn
  have hzl : (vs.zip L).length = n := by rw [List.length_zip, hvl]; omega
  have hz1 : (vs.zip L).map (·.1) = vs := by rw [List.map_fst_zip]; omega
  have hz2 : (vs.zip L).map (·.2) = L := by rw [List.map_snd_zip]; omega
  have hone : ∀ u ∈ vs, u.oneCell' = true := fun u hu => by
    rw [← hz1] at hu
    obtain ⟨p, hp, rfl⟩ := List.mem_map.1 hu
    obtain ⟨a, m, c, e, -⟩ := h.rowsP p hp
    rw [e]; rfl
  have hcl := cloneLL_calls lo v n vs w hrow hone hn
  have HRP := Lib.hid h.rowsP
  have HPM : Hid (∀ p ∈ vs.zip L, p.2.length ≤ 1000000) := Lib.hid (fun p hp => hm _ (by rw [← hz2]; exact List.mem_map_of_mem hp))
  obtain ⟨qs, hqs⟩ : ∃ qs, qs = vs.zip L := ⟨_, rfl⟩
  rw [← hqs] at HRP HPM hzl hz1 hz2
  have HZL := Lib.hid hzl; have HZ1 := Lib.hid hz1; have HZ2 := Lib.hid hz2; have HNN := Lib.hid hnn
  obtain ⟨av, cv, rfl⟩ := own_shape' hrow
  have HCL := Lib.hid hcl
  clear h hm hrow hvl hzl hz1 hz2 hone hqs hnn hcl
  go_enter Tryz.func13, Tryz.ntmps13
  go_wp2_with fail
  refine HCL.out.mono ?_
  rintro e w1 ⟨v', rfl, hown, hb1⟩
  have HO := Lib.hid hown
  have HB1 := Lib.hid hb1
  have HRP1 : Hid (RowsP w1 qs) := Lib.hid (HRP.out.below hb1 (Nat.le_refl _))
  clear hb1
  by_cases hn2 : n < 2
  · obtain ⟨a', cap', rfl⟩ := own_shape' hown
    clear hown
    go_wp2_with fail
    refine wp_loop_rounds 1 ?_
    rw [rounds_succ]
    go_wp2
    go_ret
    refine ⟨_, qs, rfl, by rw [HZ1.out, ← HNN.out]; exact HO.out, HRP1.out, by rw [HZ2.out], ?_, HB1.out⟩
    rw [HZ2.out]
    have := HNN.out
    match L, this with
    | [], _ => simp
    | [z], _ => simp
    | _ :: _ :: _, h => simp at h; omega
  · obtain ⟨g, cap', rfl, hg, hg2, -⟩ := own_form hown (by omega)
    clear hown
    go_wp2_with fail
    go_loopw [4, 5] (fun k _ wr => ∃ j : Nat, 1 ≤ j ∧ j ≤ n ∧ k = .int .i64 j ∧ SLSt w w1 wr g n cap' qs j) (fun k _ _ => n - (intOf k).toNat)
    case atStart => exact ⟨1, by omega, by omega, rfl, qs, by rw [HZ1.out]; exact HO.out, List.Perm.refl _, fun a b _ _ _ _ => by omega, Below.refl _ _⟩
    case round =>
      obtain ⟨k, hk1, hkn, rfl, hst⟩ := hrel
      have HS := Lib.hid hst; clear hst
      obtain ⟨wo, rfl⟩ : ∃ wo : World, wo = wr := ⟨_, rfl⟩
      by_cases hlt : k < n
      · go_wp2_with fail
        go_loopw [5] (fun i wr => ∃ i' : Nat, i' ≤ k ∧ i = .int .i64 i' ∧ SLIn w w1 wr g n cap' qs k i') (fun i _ => (intOf i).toNat)
        case atStart =>
          obtain ⟨l, h1, h2, h3, h4⟩ := HS.out
          refine ⟨k, by omega, rfl, l, h1, h2, ?_, h4⟩
          have := h3.ins; rw [show k - 1 + 1 = k from by omega] at this; exact this
        case round =>
          obtain ⟨i, hik, rfl, hin⟩ := hrel
          obtain ⟨ps, h1, h2, h3, h4⟩ := hin
          have hlen : ps.length = n := by rw [h2.length_eq]; exact HZL.out
          have H1 := Lib.hid h1; have H2 := Lib.hid h2; have H3 := Lib.hid h3; have H4 := Lib.hid h4; have HLen := Lib.hid hlen
          clear h1 h2 h3 h4 hlen
          by_cases hi0 : 0 < i
          · obtain ⟨x, hx⟩ : ∃ x, ps[i]? = some x := ⟨_, List.getElem?_eq_getElem (by have := HLen.out; omega)⟩
            obtain ⟨y, hy⟩ : ∃ y, ps[i - 1]? = some y := ⟨_, List.getElem?_eq_getElem (by have := HLen.out; omega)⟩
            obtain ⟨hcx, hfx⟩ := own_at H1.out (i := i) (u := x.1) (by rw [List.getElem?_map, hx]; rfl)
            obtain ⟨hcy, hfy⟩ := own_at H1.out (i := i - 1) (u := y.1) (by rw [List.getElem?_map, hy]; rfl)
            have hrp := (HRP.out.below (HB1.out.trans H4.out) (Nat.le_refl _)).perm H2.out
            obtain ⟨ax, nx, cx, ex, hrx⟩ := hrp x (List.mem_of_getElem? hx)
            obtain ⟨ay, ny, cy, ey, hry⟩ := hrp y (List.mem_of_getElem? hy)
            have hlx := HPM.out x (H2.out.mem_iff.1 (List.mem_of_getElem? hx))
            have hly := HPM.out y (H2.out.mem_iff.1 (List.mem_of_getElem? hy))
            have HCALL0 : Hid (∀ m, Calls Tryz.prog 48 #[.slice ax nx cx, .slice ay ny cy] (wr.drewN m) fun e w' => e = .returned (.bool (decide (cmpL x.2 y.2 < 0))) ∧ ∃ q, w' = (wr.drewN m).drewN q) := Lib.hid (fun m =>
              before_calls _ _ _ _ _ _ _ _ _ (hrx.drewN m) (hry.drewN m) (by have := hrx.len; omega) (by have := hry.len; omega))
            rw [ex] at hcx; rw [ey] at hcy
            have HX := Lib.hid hx; have HY := Lib.hid hy; have HEX := Lib.hid ex; have HEY := Lib.hid ey
            have k1 : IntKind.i64.wrap ((i : Int) - 1) = ((i - 1 : Nat) : Int) := by rw [IntWalk.i64_in _ (by omega)]; omega
            have k2 : (0 : Int) ≤ ((i - 1 : Nat) : Int) := by omega
            have k3 : ((i - 1 : Nat) : Int) < (n : Int) := by omega
            have k4 : i - 1 < n := by omega
            have k5 : i < n := by omega
            clear hx hy ex ey hrp hrx hry hlx hly
            by_cases hxy : cmpL x.2 y.2 < 0
            · have HXY : Hid (leP x y) := Lib.hid (leL_of_lt hxy)
              have HCALL : Hid (∀ m, Calls Tryz.prog 48 #[.slice ax nx cx, .slice ay ny cy] (wr.drewN m) fun e w' => e = .returned (.bool true) ∧ ∃ q, w' = (wr.drewN m).drewN q) := Lib.hid (fun m => by
                have h := HCALL0.out m
                rw [decide_eq_true hxy] at h; exact h)
              clear HCALL0 hxy
              go_wp2_with fail
              go_quiet ((go_at_call 48; exact Calls.quiet_of (HCALL.out _)))
              go_wp2
              clear HCALL
              go_region
              go_wp2
              refine ⟨⟨i - 1, by omega, rfl, swapG ps i (i - 1) x y, ?_, (swapG_perm HX.out HY.out).trans H2.out, H3.out.swap hi0 hik HX.out HY.out HXY.out, ?_⟩, by simp [intOf]; omega⟩
              · rw [map_set1, HEX.out, HEY.out]
                exact own_put (own_put (ownsRow_of_heap H1.out (fun _ _ => rfl)) _) _
              · exact ((below_drewN H4.out _).setCell hg _).setCell hg _
            · have HXY : Hid (leP y x) := Lib.hid hxy
              have HCALL : Hid (∀ m, Calls Tryz.prog 48 #[.slice ax nx cx, .slice ay ny cy] (wr.drewN m) fun e w' => e = .returned (.bool false) ∧ ∃ q, w' = (wr.drewN m).drewN q) := Lib.hid (fun m => by
                have h := HCALL0.out m
                rw [decide_eq_false hxy] at h; exact h)
              clear HCALL0 hxy
              go_wp2_with fail
              go_quiet ((go_at_call 48; exact Calls.quiet_of (HCALL.out _)))
              clear HCALL
              go_wp2
              refine ⟨⟨k + 1, by omega, by omega, by go_num, ps, ownsRow_of_heap H1.out (fun _ _ => rfl), H2.out, ?_, below_drewN H4.out _⟩, by simp [intOf]; omega⟩
              exact H3.out.done (fun a b c => leL_trans a.2 b.2 c.2) hi0 HX.out HY.out HXY.out hik
          · have hi0' : decide (0 < i) = false := by simpa using hi0
            go_wp2_with fail
            go_quiet (fail)
            go_wp2
            refine ⟨⟨k + 1, by omega, by omega, by go_num, ps, ownsRow_of_heap H1.out (fun _ _ => rfl), H2.out, ?_, below_drewN H4.out _⟩, by simp [intOf]; omega⟩
            have h3 := H3.out
            obtain rfl : i = 0 := by omega
            exact h3.done0
      · go_wp2
        go_ret
        obtain ⟨ps, h1, h2, h3, h4⟩ := HS.out
        have hlen : ps.length = n := by rw [h2.length_eq]; exact HZL.out
        refine ⟨_, ps, rfl, by rw [← HNN.out]; exact h1, (HRP.out.below (HB1.out.trans h4) (Nat.le_refl _)).perm h2, ?_, ?_, HB1.out.trans h4⟩
        · have h5 := h2.map (·.2)
          rw [HZ2.out] at h5; exact h5
        · have h5 : ps.Pairwise leP := SrtG.pw (by rw [hlen, show n = k from by omega]; exact h3)
          rw [List.pairwise_map]; exact h5
end Go.Proofs.YtnfkbjgijelfdaaGreat
