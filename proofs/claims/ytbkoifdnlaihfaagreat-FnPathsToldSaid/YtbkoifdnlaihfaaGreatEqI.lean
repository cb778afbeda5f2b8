/- The walk of impl.Equal. -/
import Derived.Test.YtbkoifdnlaihfaaGreatEqT
import Derived.Test.YtbkoifdnlaihfaaGreatNextF
namespace Go.Proofs.YtbkoifdnlaihfaaGreat
open Go.RowKit

theorem graphV_O (d : Bool) (bp : Nat) (ids : List Int) (out inn : List Arcs) : ∃ (t : TypeId) (recv : Value) (fNs fFr : FuncId), graphV d bp = .iface t recv ∧ GraphO t recv fNs fFr (Gr bp ids out inn) ids (nextL ids out) := by
  cases d
  · exact ⟨_, _, _, _, rfl, uGraphO bp ids out inn⟩
  · exact ⟨_, _, _, _, rfl, dGraphO bp ids out inn⟩

theorem sameS_congr {l l' : List Int} {f f' g g' : Int → List Int} (h : ∀ x ∈ l, f x = g x) (h' : ∀ x ∈ l', f' x = g' x) : sameS l l' f f' = sameS l l' g g' := by
  unfold sameS
  cases e : (l == l')
  · rfl
  · have e1 : l = l' := by simpa using e
    subst e1
    rw [Bool.true_and, Bool.true_and, Bool.eq_iff_iff, List.all_eq_true, List.all_eq_true]
    constructor
    · intro k x hx; rw [← h x hx, ← h' x hx]; exact k x hx
    · intro k x hx; rw [h x hx, h' x hx]; exact k x hx

set_option maxHeartbeats 2000000 in
set_option maxRecDepth 100000 in
theorem implEqual_calls (d d' : Bool) (an ae an' ae' : Option Addr) (n cn m ce n' cn' m' ce' : Nat) (ns ns' : List Int) (es es' : List (Int × Int × Int)) (w : World) (hn : RdI w an n ns) (hr : RdE w ae m es) (hn' : RdI w an' n' ns') (hr' : RdE w ae' m' es') (hn8 : n ≤ 1000) (hn8' : n' ≤ 1000)
    (hw : wellB ns es = true) (hw' : wellB ns' es' = true) :
    Calls Tryz.prog 41 #[.agg #[.bool d, .slice an n cn, .slice ae m ce], .agg #[.bool d', .slice an' n' cn', .slice ae' m' ce']] w fun e w' => e = .returned (.tuple #[.bool (sameS (sortI ns) (sortI ns') (fromL d ns es) (fromL d' ns' es')), .bool false]) ∧ Below w.heap.size w w' := by
  have hnl := hn.len; have hnl' := hn'.len
  have HN := Lib.hid hn; have HR := Lib.hid hr; have HN' := Lib.hid hn'; have HR' := Lib.hid hr'
  have HW := Lib.hid hw; have HW' := Lib.hid hw'
  clear hn hr hn' hr' hw hw'
  go_enter Tryz.func41, Tryz.ntmps41
  go_wp2_with fail
  obtain ⟨w0, hw0⟩ : ∃ w0, w0 = (w.alloc (.cells #[.bool d, .slice an n cn, .slice ae m ce] 25)).alloc (.cells #[.bool d', .slice an' n' cn', .slice ae' m' ce'] 25) := ⟨_, rfl⟩
  obtain ⟨bb, hbb⟩ : ∃ bb, bb = w.heap.size + 1 := ⟨_, rfl⟩
  have hb0 : Below w.heap.size w w0 := by rw [hw0]; exact ((Below.refl _ _).alloc (Nat.le_refl _) _).alloc (by simp) _
  have hs0 : bb < w0.heap.size := by rw [hw0, hbb]; simp
  have y0 : w0.heap[bb]? = some (.cells #[.bool d', .slice an' n' cn', .slice ae' m' ce'] 25 (0, 0)) := by
    rw [hw0, hbb]
    have h := heap_alloc_new (w.alloc (.cells #[.bool d, .slice an n cn, .slice ae m ce] 25)) (.cells #[.bool d', .slice an' n' cn', .slice ae' m' ce'] 25)
    simpa using h
  rw [← hw0, ← hbb]
  have HB0 := Lib.hid hb0
  clear hw0 hbb hb0
  refine (open_calls d an ae n cn m ce ns es w0 (HN.out.below HB0.out (Nat.le_refl _)) (HR.out.below HB0.out (Nat.le_refl _)) (by omega)).mono ?_
  rintro e w1 ⟨hb1, bp, rfl, hst⟩
  obtain ⟨hbp, w0', a, c, hrs⟩ := hst HW.out
  rw [HW.out]
  have e2 := (hb1.block bb hs0).trans y0
  have j0 : w1.cell? ⟨bb, 0, none⟩ = some (.bool d') := by rw [cell_of_row w1 _ _ _ _ (0, 0) e2]; rfl
  have j1 : w1.cell? ⟨bb, 1, none⟩ = some (.slice an' n' cn') := by rw [cell_of_row w1 _ _ _ _ (0, 0) e2]; rfl
  have j2 : w1.cell? ⟨bb, 2, none⟩ = some (.slice ae' m' ce') := by rw [cell_of_row w1 _ _ _ _ (0, 0) e2]; rfl
  have HG : Hid (Gr bp (sortI ns) (rowsFrom d (sortI ns) es).1 (rowsFrom d (sortI ns) es).2 w1) := Lib.hid ⟨w0', a, c, by rw [sortI_len, hnl]; exact hrs, sortI_pw ns, by rw [sortI_len]; omega⟩
  have HB1 : Hid (Below w.heap.size w w1) := HB0.out.trans (hb1.mono HB0.out.size)
  have hs1 : bb < w1.heap.size := Nat.lt_of_lt_of_le hs0 hb1.size
  obtain ⟨t, recv, fNs, fFr, egv, hGO⟩ := graphV_O d bp (sortI ns) (rowsFrom d (sortI ns) es).1 (rowsFrom d (sortI ns) es).2
  rw [egv]
  have HGO := Lib.hid hGO
  clear hb1 hst hrs y0 e2 egv hGO
  go_wp2_with fail
  refine (open_calls d' an' ae' n' cn' m' ce' ns' es' w1 (HN'.out.below HB1.out (Nat.le_refl _)) (HR'.out.below HB1.out (Nat.le_refl _)) (by omega)).mono ?_
  rintro e w2 ⟨hb2, bp', rfl, hst⟩
  obtain ⟨hbp', w0'', a', c', hrs⟩ := hst HW'.out
  rw [HW'.out]
  have HG2 : Hid (Gr bp (sortI ns) (rowsFrom d (sortI ns) es).1 (rowsFrom d (sortI ns) es).2 w2) := HG.out.later hb2
  have HG2' : Hid (Gr bp' (sortI ns') (rowsFrom d' (sortI ns') es').1 (rowsFrom d' (sortI ns') es').2 w2) := Lib.hid ⟨w0'', a', c', by rw [sortI_len, hnl']; exact hrs, sortI_pw ns', by rw [sortI_len]; omega⟩
  have HB2 : Hid (Below w.heap.size w w2) := HB1.out.trans (hb2.mono HB1.out.size)
  obtain ⟨t', recv', fNs', fFr', egv, hGO'⟩ := graphV_O d' bp' (sortI ns') (rowsFrom d' (sortI ns') es').1 (rowsFrom d' (sortI ns') es').2
  rw [egv]
  have HGO' := Lib.hid hGO'
  have key : ∀ (d : Bool) (ns : List Int) (es : List (Int × Int × Int)), wellB ns es = true → ns.length ≤ 1000 → ∀ x ∈ sortI ns, (nextL (sortI ns) (rowsFrom d (sortI ns) es).1 x).Pairwise (· ≤ ·) ∧ (nextL (sortI ns) (rowsFrom d (sortI ns) es).1 x).length ≤ 1000000 := by
    intro d ns es hw hl x hx
    rw [next_from hw hx]
    refine ⟨List.Pairwise.sublist (List.filter_sublist ..) (sortI_pw ns), ?_⟩
    have h := List.length_filter_le (fun v => arcB d es x v) (sortI ns)
    rw [sortI_len] at h
    unfold fromL
    omega
  clear hb2 hst hrs egv hGO' j0 j1 j2 HG
  go_wp2_with fail
  refine (topoEqual_calls HGO.out HGO'.out w2 HG2.out HG2'.out (sortI_pw ns) (sortI_pw ns') (key d ns es HW.out (by omega)) (key d' ns' es' HW'.out (by omega)) (by rw [sortI_len]; omega) (by rw [sortI_len]; omega)).mono ?_
  rintro e w3 ⟨rfl, hb3⟩
  rw [sameS_congr (fun x hx => next_from HW.out hx) (fun x hx => next_from HW'.out hx)]
  have HB3 := Lib.hid (HB2.out.trans (hb3.mono HB2.out.size))
  obtain ⟨r, hrr⟩ : ∃ r, sameS (sortI ns) (sortI ns') (fromL d ns es) (fromL d' ns' es') = r := ⟨_, rfl⟩
  rw [hrr]
  have HRR := Lib.hid hrr
  clear hb3 hrr key
  go_wp2_with fail
  go_ret2
  rw [HRR.out]
  exact ⟨rfl, HB3.out⟩
end Go.Proofs.YtbkoifdnlaihfaaGreat
