/- The walks of impl.near and impl.UndirectWeighted. -/
import Derived.Test.YtbkoifdnlaihfaaGreatUndirW
import Derived.Test.YtbkoifdnlaihfaaGreatSeenW
import Derived.Test.YtbkoifdnlaihfaaGreatWays
import Derived.Laws.EntriesVeiled
namespace Go.Proofs.YtbkoifdnlaihfaaGreat
open Go.RowKit

/-- A number from -2^40 to 2^40. -/
def nearB (x : Int) : Bool := decide (x ≤ 1099511627776 ∧ -1099511627776 ≤ x)

set_option maxHeartbeats 1000000 in
theorem near1_calls (x : Int) (g c : Nat) (w : World) (h : w.cell? ⟨g, 0, none⟩ = some (.int .i64 x)) :
    Calls Tryz.prog 52 #[.slice (some ⟨g, 0, none⟩) 1 c] w fun e w' => e = .returned (.bool (nearB x)) ∧ w = w' := by
  have key : (1099511627776 < x ∧ Hid (nearB x = false)) ∨ (x ≤ 1099511627776 ∧ ((x < -1099511627776 ∧ Hid (nearB x = false)) ∨ (-1099511627776 ≤ x ∧ Hid (nearB x = true)))) := by
    unfold Hid nearB
    simp only [decide_eq_true_eq, decide_eq_false_iff_not]
    omega
  rcases key with ⟨h1, H⟩ | ⟨h1, ⟨h2, H⟩ | ⟨h2, H⟩⟩
  all_goals
    go_enter Tryz.func52, Tryz.ntmps52
    go_wp2
    refine wp_loop_rounds 2 ?_
    rw [rounds_succ]
    go_wp2
    first
      | (go_ret; exact ⟨ret_bool H.out.symm, rfl⟩)
      | (rw [rounds_succ]; go_wp2; go_ret; exact ⟨ret_bool H.out.symm, rfl⟩)

/-- What UndirectWeighted takes. -/
def uwB (d : Bool) (absent how : Int) (ns : List Int) (es : List (Int × Int × Int)) : Bool := wellB ns es && d && decide (0 ≤ how) && decide (how ≤ 2) && nearB absent

/-- The weight's float of an edge, where weights are added. -/
def uwR (absent how : Int) (ns : List Int) (es : List (Int × Int × Int)) (u v : Int) (f : Nat) : Prop :=
  how = 0 → ∀ r, uwAdd (sortI ns) (rowsFrom true (sortI ns) es).1 (bitsOf absent) u v = some r → f = r

def UwPost (d : Bool) (absent how : Int) (ns : List Int) (es : List (Int × Int × Int)) (w : World) (e : Ending) (w' : World) : Prop :=
  ∃ v1 v2 : Value, e = .returned (.tuple #[.agg #[.bool false, v1, v2], .bool (!(uwB d absent how ns es))]) ∧
    (if uwB d absent how ns es then ∃ es', w'.ownsRow w.heap.size 3 1 v1 ns.length ((sortI (sortI ns)).map (Value.int .i64)) ∧ w'.ownsRow w.heap.size 82 3 v2 es'.length (flatE es') ∧ noW es' = undirE ns es ∧ AllCut (uwR absent how ns es) es'
     else v1 = .slice none 0 0 ∧ v2 = .slice none 0 0) ∧ Below w.heap.size w w'

set_option maxHeartbeats 4000000 in
set_option maxRecDepth 100000 in
theorem implUndirectW_calls (d : Bool) (absent how : Int) (an ae : Option Addr) (n cn m ce : Nat) (ns : List Int) (es : List (Int × Int × Int)) (w : World) (hn : RdI w an n ns) (hr : RdE w ae m es) (hn8 : n ≤ 500000) (hwf : ∀ x ∈ ns, (Lit.int .i64 x).wf = true) :
    Calls Tryz.prog 16 #[.agg #[.bool d, .slice an n cn, .slice ae m ce], .int .i64 absent, .int .i64 how] w (UwPost d absent how ns es w) := by
  have HR := Lib.hid hr; clear hr
  have HN := Lib.hid hn; clear hn
  have HWF := Lib.hid hwf; clear hwf
  go_enter Tryz.func16, Tryz.ntmps16
  go_wp2_with fail
  obtain ⟨w1, hw1⟩ : ∃ w1, w1 = ((w.alloc (.cells #[.bool d, .slice an n cn, .slice ae m ce] 25)).alloc (.cells #[.int .i64 how] 3)).alloc (.cells #[.bool false, .slice none 0 0, .slice none 0 0] 25) := ⟨_, rfl⟩
  have HB1 : Hid (Below w.heap.size w w1) := by rw [hw1]; exact (((Below.refl _ _).alloc (Nat.le_refl _) _).alloc (by simp) _).alloc (by simp; omega) _
  have z1 : w1.heap[w.heap.size + 1 + 1]? = some (.cells #[.bool false, .slice none 0 0, .slice none 0 0] 25 (0, 0)) := by
    have h := heap_alloc_new ((w.alloc (.cells #[.bool d, .slice an n cn, .slice ae m ce] 25)).alloc (.cells #[.int .i64 how] 3)) (.cells #[.bool false, .slice none 0 0, .slice none 0 0] 25)
    rw [hw1]; simpa using h
  have x1 : w1.cell? ⟨w.heap.size + 1, 0, none⟩ = some (.int .i64 how) := by rw [hw1]; go_simp
  have hs1 : w.heap.size + 3 ≤ w1.heap.size := by rw [hw1]; simp
  rw [← hw1]
  clear hw1
  refine (oneWay_calls d an ae n cn m ce ns es w1 (HN.out.below HB1.out (Nat.le_refl _)) (HR.out.below HB1.out (Nat.le_refl _)) (by omega)).mono ?_
  rintro e w2 ⟨hb, bp, rfl, hst⟩
  have HB2 := Lib.hid (HB1.out.trans (hb.mono (by omega)))
  have HST := Lib.hid hst
  have z2 := (hb.block _ (by omega)).trans z1
  have x2 := (hb.cell (p := ⟨w.heap.size + 1, 0, none⟩) (by show w.heap.size + 1 < _; omega)).trans x1
  have hs2 : w.heap.size + 1 + 1 < w2.heap.size := Nat.lt_of_lt_of_le hs1 hb.size
  have hs3 : w.heap.size + 1 < w2.heap.size := by omega
  have HLEN := Lib.hid HN.out.len
  clear hb hst z1 x1
  have y0 : w2.cell? ⟨w.heap.size + 1 + 1, 0, none⟩ = some (.bool false) := by rw [cell_of_row w2 _ 0 _ _ (0, 0) z2]; rfl
  have y1 : w2.cell? ⟨w.heap.size + 1 + 1, 1, none⟩ = some (.slice none 0 0) := by rw [cell_of_row w2 _ 1 _ _ (0, 0) z2]; rfl
  have y2 : w2.cell? ⟨w.heap.size + 1 + 1, 2, none⟩ = some (.slice none 0 0) := by rw [cell_of_row w2 _ 2 _ _ (0, 0) z2]; rfl
  have hf : ∀ j, w2.frozen? ⟨w.heap.size + 1 + 1, j, none⟩ = false := fun j => by simp [World.frozen?, z2]
  have hf0 := hf 0; have hf1 := hf 1; have hf2 := hf 2
  have Z2 := Lib.hid z2
  clear hf z2
  obtain ⟨b, hb⟩ : ∃ b, (wellB ns es && (d == true)) = b := ⟨_, rfl⟩
  have HBB := Lib.hid hb
  rw [hb]
  clear hb
  have keep : (b = false ∨ how < 0 ∨ 2 < how ∨ nearB absent = false) ∨ (b = true ∧ 0 ≤ how ∧ how ≤ 2 ∧ nearB absent = true) := by
    cases b <;> cases nearB absent <;> simp <;> omega
  rcases keep with hbad | ⟨rfl, hh0, hh2, hna⟩
  · have HGOOD : Hid (uwB d absent how ns es = false) := by
      have h1 := HBB.out
      unfold Hid uwB
      rcases hbad with h | h | h | h
      · subst h; have : (wellB ns es && d) = false := by cases d <;> simp at h1 ⊢; exact h1
        simp [this]
      · simp; intros; omega
      · simp; intros; omega
      · simp [h]
    have hcase : b = false ∨ (b = true ∧ (how < 0 ∨ (0 ≤ how ∧ (2 < how ∨ (how ≤ 2 ∧ nearB absent = false))))) := by
      cases b
      · exact .inl rfl
      · refine .inr ⟨rfl, ?_⟩
        rcases hbad with h | h | h | h
        · cases h
        · exact .inl h
        · exact .inr ⟨by omega, .inl h⟩
        · by_cases h1 : how < 0
          · exact .inl h1
          · by_cases h2 : 2 < how
            · exact .inr ⟨by omega, .inl h2⟩
            · exact .inr ⟨by omega, .inr ⟨by omega, h⟩⟩
    clear hbad
    rcases hcase with rfl | ⟨rfl, h1 | ⟨h1, h2 | ⟨h2, hna⟩⟩⟩
    rotate_left 3
    · have HNA := Lib.hid hna
      clear hna
      go_wp2_with fail
      refine (near1_calls absent _ _ _ (by go_simp)).mono ?_
      rintro e w3 ⟨rfl, rfl⟩
      rw [HNA.out]
      go_wp2_with fail
      have hs4 : w.heap.size + 1 + 1 < w2.heap.size + 1 := by omega
      refine bodyPost_ret (v := .tuple #[.agg #[.bool false, .slice none 0 0, .slice none 0 0], .bool true]) (by simp [results, Tryz.results16, go_sem, y0, y1, y2, hs2, hs4]) rfl ?_
      refine ⟨.slice none 0 0, .slice none 0 0, by rw [HGOOD.out]; rfl, by rw [HGOOD.out]; exact ⟨rfl, rfl⟩, ?_⟩
      refine Below.alloc (Below.alloc (Below.setCell (Below.setCell (Below.setCell HB2.out ?_ _) ?_ _) ?_ _) ?_ _) ?_ _
      · show w.heap.size ≤ w.heap.size + 1 + 1; omega
      · show w.heap.size ≤ w.heap.size + 1 + 1; omega
      · show w.heap.size ≤ w.heap.size + 1 + 1; omega
      · simp [World.setCell]; omega
      · simp [World.setCell]; omega
    all_goals
      go_wp2_with fail
      refine bodyPost_ret (v := .tuple #[.agg #[.bool false, .slice none 0 0, .slice none 0 0], .bool true]) (by simp [results, Tryz.results16, go_sem, y0, y1, y2, hs2]) rfl ?_
      refine ⟨.slice none 0 0, .slice none 0 0, by rw [HGOOD.out]; rfl, by rw [HGOOD.out]; exact ⟨rfl, rfl⟩, ?_⟩
      refine Below.alloc (Below.setCell (Below.setCell (Below.setCell HB2.out ?_ _) ?_ _) ?_ _) ?_ _
      · show w.heap.size ≤ w.heap.size + 1 + 1; omega
      · show w.heap.size ≤ w.heap.size + 1 + 1; omega
      · show w.heap.size ≤ w.heap.size + 1 + 1; omega
      · simp [World.setCell]; omega
  · have HNA := Lib.hid hna
    have HGOOD : Hid (uwB d absent how ns es = true) := by
      have h1 := HBB.out
      unfold Hid uwB
      rw [hna]
      have : (wellB ns es && d) = true := by cases d <;> simp at h1 ⊢; exact h1
      simp [this, hh0, hh2]
    obtain ⟨hwell, rfl⟩ : wellB ns es = true ∧ d = true := by
      have := HBB.out
      cases d <;> simp at this
      exact ⟨this, rfl⟩
    have HG2 := Lib.hid (HST.out hwell)
    have HWELL := Lib.hid hwell
    have hwf' : ∀ x ∈ sortI ns, (Lit.int .i64 x).wf = true := fun x hx => HWF.out x (mem_sortI.1 hx)
    have had : ∀ x ∈ sortI ns, (bothL (sortI ns) (rowsFrom true (sortI ns) es).1 (rowsFrom true (sortI ns) es).2 x).length ≤ 1000000 := fun x hx => by
      have h1 := HG2.out.len_out hx
      have h2 := HG2.out.len_in hx
      have h3 := List.length_filter_le (fun y => decide (y ∉ nextL (sortI ns) (rowsFrom true (sortI ns) es).1 x)) (nextL (sortI ns) (rowsFrom true (sortI ns) es).2 x)
      rw [sortI_len, HLEN.out] at h1 h2
      unfold bothL
      rw [List.length_append]
      omega
    have HAD := Lib.hid had
    have HV := Lib.hid ((uw_graphV bp (bitsOf absent) (w.heap.size + 1) (sortI ns) (rowsFrom true (sortI ns) es).1 (rowsFrom true (sortI ns) es).2 hwf').and
      (fun W => W.cell? ⟨w.heap.size + 1, 0, none⟩ = some (.int .i64 how) ∧ w.heap.size + 1 < W.heap.size) (fun W W' h hb => ⟨(hb.cell (p := ⟨w.heap.size + 1, 0, none⟩) h.2).trans h.1, Nat.lt_of_lt_of_le h.2 hb.size⟩))
    clear hwf' had hwell HST hna
    unfold uwV clV dirV bitsOf at HV
    go_wp2_with fail
    refine (near1_calls absent _ _ _ (by go_simp)).mono ?_
    rintro e w3 ⟨rfl, rfl⟩
    rw [HNA.out]
    go_wp2_with fail
    obtain ⟨w3, hw3⟩ : ∃ w3, w3 = ((w2.alloc (.cells #[.pointer (some ⟨bp, 0, none⟩)] 73)).alloc (.cells #[.int .i64 absent] 3)).alloc (.cells #[.iface 73 (.agg #[.pointer (some ⟨bp, 0, none⟩)]), .float .f64 (floatOfInt FloatKind.f64 absent), .func (.func 53) #[] #[.pointer (some ⟨w.heap.size + 1, 0, none⟩)]] 93) := ⟨_, rfl⟩
    have HB3 : Hid (Below w2.heap.size w2 w3) := by rw [hw3]; exact ((Below.refl _ _).alloc (Nat.le_refl _) _ |>.alloc (by simp) _).alloc (by simp; omega) _
    have hsa : w2.heap.size + 3 = w3.heap.size := by rw [hw3]; simp
    rw [← hw3]
    clear hw3
    have z3 := (HB3.out.block (w.heap.size + 1 + 1) hs2).trans Z2.out
    have HX3 : Hid (w3.cell? ⟨w.heap.size + 1, 0, none⟩ = some (.int .i64 how) ∧ w.heap.size + 1 < w3.heap.size) := ⟨(HB3.out.cell (p := ⟨w.heap.size + 1, 0, none⟩) hs3).trans x2, by omega⟩
    refine (seenW_calls HV.out false w3 ⟨HG2.out.later HB3.out, HX3.out⟩ (by rw [sortI_len, HLEN.out]; omega) HAD.out 54 _ (uwR absent how ns es) Tryz.call54 (fun w => by kernel_rfl)
      (fun W u v _ _ hW => (uwWeight_calls bp (bitsOf absent) (w.heap.size + 1) how (sortI ns) (rowsFrom true (sortI ns) es).1 (rowsFrom true (sortI ns) es).2 u v W hW.1 hW.2.1 hW.2.2).mono fun e W' ⟨z, b, h1, h2, h3⟩ => ⟨z, b, h1, h2, h3⟩)).mono ?_
    rintro e w4 ⟨v1, v2, es', rfl, ho1, ho2, hno, hcut, hap, hb4⟩
    have HNO := Lib.hid hno; have HCUT := Lib.hid hcut
    have HO1 := Lib.hid ho1; have HO2 := Lib.hid ho2
    have z4 := (hb4.block (w.heap.size + 1 + 1) (by omega)).trans z3
    have HB4 := Lib.hid (HB2.out.trans ((HB3.out.trans (hb4.mono (by omega))).mono (by omega)))
    have y0 : w4.cell? ⟨w.heap.size + 1 + 1, 0, none⟩ = some (.bool false) := by rw [cell_of_row w4 _ 0 _ _ (0, 0) z4]; rfl
    have y1 : w4.cell? ⟨w.heap.size + 1 + 1, 1, none⟩ = some (.slice none 0 0) := by rw [cell_of_row w4 _ 1 _ _ (0, 0) z4]; rfl
    have y2 : w4.cell? ⟨w.heap.size + 1 + 1, 2, none⟩ = some (.slice none 0 0) := by rw [cell_of_row w4 _ 2 _ _ (0, 0) z4]; rfl
    have hf : ∀ j, w4.frozen? ⟨w.heap.size + 1 + 1, j, none⟩ = false := fun j => by simp [World.frozen?, z4]
    have hf0 := hf 0; have hf1 := hf 1; have hf2 := hf 2
    obtain ⟨a1, c1, rfl⟩ := own_shape' ho1
    obtain ⟨a2, c2, rfl⟩ := own_shape' ho2
    have hs4 : w.heap.size + 1 + 1 < w4.heap.size := by have := hb4.size; omega
    clear hf z3 z4 ho1 ho2 hap hb4 hno hcut
    go_wp2_with fail
    refine bodyPost_ret (v := .tuple #[.agg #[.bool false, .slice a1 (sortI ns).length c1, .slice a2 es'.length c2], .bool false]) (by simp [results, Tryz.results16, go_sem, y0, y1, y2]) rfl ?_
    have keep : ∀ g, g ≠ w.heap.size + 1 + 1 → (((w4.setCell ⟨w.heap.size + 1 + 1, 0, none⟩ (.bool false)).setCell ⟨w.heap.size + 1 + 1, 1, none⟩ (.slice a1 (sortI ns).length c1)).setCell ⟨w.heap.size + 1 + 1, 2, none⟩ (.slice a2 es'.length c2)).heap[g]? = w4.heap[g]? := fun g hg => by
      rw [Below.heap_setCell _ _ _ _ (fun e => hg e), Below.heap_setCell _ _ _ _ (fun e => hg e), Below.heap_setCell _ _ _ _ (fun e => hg e)]
    refine ⟨_, _, by rw [HGOOD.out]; rfl, ?_, ((HB4.out.setCell (show w.heap.size ≤ w.heap.size + 1 + 1 by omega) _).setCell (show w.heap.size ≤ w.heap.size + 1 + 1 by omega) _).setCell (show w.heap.size ≤ w.heap.size + 1 + 1 by omega) _⟩
    rw [HGOOD.out, if_pos rfl]
    refine ⟨es', ?_, own_lower (ownsRow_of_heap HO2.out (fun g hg => keep g (by have := (HO2.out.lt g hg).1; omega))) (by omega), HNO.out, HCUT.out⟩
    have := own_lower (ownsRow_of_heap HO1.out (fun g hg => keep g (by have := (HO1.out.lt g hg).1; omega))) (show w.heap.size ≤ w3.heap.size by omega)
    rw [sortI_len] at this ⊢
    exact this
end Go.Proofs.YtbkoifdnlaihfaaGreat
