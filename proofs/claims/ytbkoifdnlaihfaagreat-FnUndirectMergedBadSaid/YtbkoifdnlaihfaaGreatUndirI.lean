/- The walk of impl.Undirect. -/
import Derived.Test.YtbkoifdnlaihfaaGreatUndir
import Derived.Test.YtbkoifdnlaihfaaGreatSeen
import Derived.Test.YtbkoifdnlaihfaaGreatWays
namespace Go.Proofs.YtbkoifdnlaihfaaGreat
open Go.RowKit

/-- The nodes that edges lead to from x, whatever their direction. -/
def bothL (ids : List Int) (out inn : List Arcs) (x : Int) : List Int := nextL ids out x ++ (nextL ids inn x).filter (fun y => decide (y ∉ nextL ids out x))

theorem undir_graphV (bp : Nat) (ids : List Int) (out inn : List Arcs) (hwf : ∀ x ∈ ids, (Lit.int .i64 x).wf = true) :
    GraphV 80 (.agg #[dirV bp]) 250 247 (Gr bp ids out inn) ids (bothL ids out inn) where
  mNodes := fun w => by kernel_rfl
  aNodes := fun w => by kernel_rfl
  mFrom := fun w => by kernel_rfl
  aFrom := fun w => by kernel_rfl
  eNodes := Tryz.call250
  eFrom := Tryz.call247
  nodes := fun w hw => (undirNodes_calls bp ids out inn w hw).mono fun _ _ h => IterRes.of_new h
  frm := fun w x hx hw => (undirFrom_calls bp ids out inn x hx hwf w hw).mono fun e w' ⟨B, Bb, bn, ba, bb, bm, h1, h2, h3, h4, h5, h6⟩ =>
    ⟨_, _, _, _, _, h1, (pair_isIter B Bb bn ba bb bm w'.heap.size _ _ h4 h5 (fun y hy => hwf y (hw.mem_in hx hy))).lower h3, h2, h6⟩
  keeps := fun w w' h hb => h.later hb

/-- How many arcs a row has. -/
theorem Gr.len_out {bp : Nat} {ids : List Int} {out inn : List Arcs} {w : World} (h : Gr bp ids out inn w) {x : Int} (hx : x ∈ ids) : (nextL ids out x).length ≤ ids.length := by
  obtain ⟨w0, a, c, h1, h2, h3⟩ := h
  obtain ⟨bo, a', c', l, _, _, _, hl, hrd, hup, hto⟩ := h1.row (posOf_len _ _ hx) h3
  unfold nextL endsL
  rw [List.getD, hl.out]
  simp only [Option.getD_some, List.length_map]
  exact arcs_len hup hto
theorem Gr.len_in {bp : Nat} {ids : List Int} {out inn : List Arcs} {w : World} (h : Gr bp ids out inn w) {x : Int} (hx : x ∈ ids) : (nextL ids inn x).length ≤ ids.length := by
  obtain ⟨w0, a, c, h1, h2, h3⟩ := h
  obtain ⟨bo, a', c', l, _, _, _, hl, hrd, hup, hto⟩ := h1.rowIn (posOf_len _ _ hx) h3
  unfold nextL endsL
  rw [List.getD, hl.out]
  simp only [Option.getD_some, List.length_map]
  exact arcs_len hup hto

/-- The edges that Undirect shows. -/
def undirE (ns : List Int) (es : List (Int × Int × Int)) : List (Int × Int × Int) :=
  seenE false (bothL (sortI ns) (rowsFrom true (sortI ns) es).1 (rowsFrom true (sortI ns) es).2) (sortI (sortI ns))

def UndirPost (d : Bool) (ns : List Int) (es : List (Int × Int × Int)) (w : World) (e : Ending) (w' : World) : Prop :=
  ∃ v1 v2 : Value, e = .returned (.tuple #[.agg #[.bool false, v1, v2], .bool (!(wellB ns es && d))]) ∧
    (if wellB ns es && d then w'.ownsRow w.heap.size 3 1 v1 ns.length ((sortI (sortI ns)).map (Value.int .i64)) ∧ w'.ownsRow w.heap.size 82 3 v2 (undirE ns es).length (flatE (undirE ns es)) ∧ (∀ g, v1.ownBlock = some g → v2.ownBlock ≠ some g)
     else v1 = .slice none 0 0 ∧ v2 = .slice none 0 0) ∧ Below w.heap.size w w'

set_option maxHeartbeats 2000000 in
set_option maxRecDepth 100000 in
theorem implUndirect_calls (d : Bool) (an ae : Option Addr) (n cn m ce : Nat) (ns : List Int) (es : List (Int × Int × Int)) (w : World) (hn : RdI w an n ns) (hr : RdE w ae m es) (hn8 : n ≤ 500000) (hwf : ∀ x ∈ ns, (Lit.int .i64 x).wf = true) :
    Calls Tryz.prog 11 #[.agg #[.bool d, .slice an n cn, .slice ae m ce]] w (UndirPost d ns es w) := by
  have HR := Lib.hid hr; clear hr
  have HN := Lib.hid hn; clear hn
  have HWF := Lib.hid hwf; clear hwf
  go_enter Tryz.func11, Tryz.ntmps11
  go_wp2_with fail
  obtain ⟨w1, hw1⟩ : ∃ w1, w1 = (w.alloc (.cells #[.bool d, .slice an n cn, .slice ae m ce] 25)).alloc (.cells #[.bool false, .slice none 0 0, .slice none 0 0] 25) := ⟨_, rfl⟩
  have HB1 : Hid (Below w.heap.size w w1) := by rw [hw1]; exact ((Below.refl _ _).alloc (Nat.le_refl _) _).alloc (by simp) _
  have z1 : w1.heap[w.heap.size + 1]? = some (.cells #[.bool false, .slice none 0 0, .slice none 0 0] 25 (0, 0)) := by
    have h := heap_alloc_new (w.alloc (.cells #[.bool d, .slice an n cn, .slice ae m ce] 25)) (.cells #[.bool false, .slice none 0 0, .slice none 0 0] 25)
    rw [hw1]; simpa using h
  have hs1 : w.heap.size + 2 ≤ w1.heap.size := by rw [hw1]; simp
  rw [← hw1]
  clear hw1
  refine (oneWay_calls d an ae n cn m ce ns es w1 (HN.out.below HB1.out (Nat.le_refl _)) (HR.out.below HB1.out (Nat.le_refl _)) (by omega)).mono ?_
  rintro e w2 ⟨hb, bp, rfl, hst⟩
  have HB2 := Lib.hid (HB1.out.trans (hb.mono (by omega)))
  have HST := Lib.hid hst
  have z2 := (hb.block _ (by omega)).trans z1
  have hs2 : w.heap.size + 1 < w2.heap.size := Nat.lt_of_lt_of_le hs1 hb.size
  have HLEN := Lib.hid HN.out.len
  clear hb hst z1
  obtain ⟨b, hb⟩ : ∃ b, (wellB ns es && (d == true)) = b := ⟨_, rfl⟩
  have HBB := Lib.hid hb
  rw [hb]
  clear hb
  cases b
  · have y0 : w2.cell? ⟨w.heap.size + 1, 0, none⟩ = some (.bool false) := by rw [cell_of_row w2 _ 0 _ _ (0, 0) z2]; rfl
    have y1 : w2.cell? ⟨w.heap.size + 1, 1, none⟩ = some (.slice none 0 0) := by rw [cell_of_row w2 _ 1 _ _ (0, 0) z2]; rfl
    have y2 : w2.cell? ⟨w.heap.size + 1, 2, none⟩ = some (.slice none 0 0) := by rw [cell_of_row w2 _ 2 _ _ (0, 0) z2]; rfl
    have hf : ∀ j, w2.frozen? ⟨w.heap.size + 1, j, none⟩ = false := fun j => by simp [World.frozen?, z2]
    have hf0 := hf 0; have hf1 := hf 1; have hf2 := hf 2
    clear hf z2
    go_wp2_with fail
    refine bodyPost_ret (v := .tuple #[.agg #[.bool false, .slice none 0 0, .slice none 0 0], .bool true]) (by simp [results, Tryz.results11, go_sem, y0, y1, y2, hs2]) rfl ?_
    have hgood : (wellB ns es && d) = false := by
      have := HBB.out
      cases d <;> simp at this ⊢
      exact this
    refine ⟨.slice none 0 0, .slice none 0 0, by rw [hgood]; rfl, by rw [hgood]; exact ⟨rfl, rfl⟩, ?_⟩
    refine Below.alloc (Below.setCell (Below.setCell (Below.setCell HB2.out ?_ _) ?_ _) ?_ _) ?_ _
    · show w.heap.size ≤ w.heap.size + 1; omega
    · show w.heap.size ≤ w.heap.size + 1; omega
    · show w.heap.size ≤ w.heap.size + 1; omega
    · simp [World.setCell]; omega
  · obtain ⟨hwell, rfl⟩ : wellB ns es = true ∧ d = true := by
      have := HBB.out
      cases d <;> simp at this
      exact ⟨this, rfl⟩
    have HG2 := Lib.hid (HST.out hwell)
    have HWELL := Lib.hid hwell
    have hwf' : ∀ x ∈ sortI ns, (Lit.int .i64 x).wf = true := fun x hx => HWF.out x (mem_sortI.1 hx)
    have HV := Lib.hid (undir_graphV bp (sortI ns) (rowsFrom true (sortI ns) es).1 (rowsFrom true (sortI ns) es).2 hwf')
    have had : ∀ x ∈ sortI ns, (bothL (sortI ns) (rowsFrom true (sortI ns) es).1 (rowsFrom true (sortI ns) es).2 x).length ≤ 1000000 := fun x hx => by
      have h1 := HG2.out.len_out hx
      have h2 := HG2.out.len_in hx
      have h3 := List.length_filter_le (fun y => decide (y ∉ nextL (sortI ns) (rowsFrom true (sortI ns) es).1 x)) (nextL (sortI ns) (rowsFrom true (sortI ns) es).2 x)
      rw [sortI_len, HLEN.out] at h1 h2
      unfold bothL
      rw [List.length_append]
      omega
    have HAD := Lib.hid had
    clear hwf' had hwell HST
    unfold dirV at HV
    go_wp2_with fail
    refine (seen0_calls HV.out false _ (HG2.out.later ((Below.refl _ _).alloc (Nat.le_refl _) _)) (by rw [sortI_len, HLEN.out]; omega) HAD.out).mono ?_
    rintro e w3 ⟨v1, v2, rfl, ho1, ho2, hap, hb3⟩
    have hsa : (w2.alloc (.cells #[.pointer (some ⟨bp, 0, none⟩)] 73)).heap.size = w2.heap.size + 1 := by simp
    rw [hsa] at ho1 ho2 hb3
    have hs3 : w2.heap.size + 1 ≤ w3.heap.size := by have := hb3.size; rw [hsa] at this; exact this
    have hba : Below w2.heap.size w2 (w2.alloc (.cells #[.pointer (some ⟨bp, 0, none⟩)] 73)) := (Below.refl _ _).alloc (Nat.le_refl _) _
    have z3 := (hb3.block (w.heap.size + 1) (by omega)).trans ((hba.block _ hs2).trans z2)
    have HO1 := Lib.hid ho1; have HO2 := Lib.hid ho2; have HAP := Lib.hid hap
    have HB3 := Lib.hid (HB2.out.trans ((hba.trans (hb3.mono (by omega))).mono (by omega)))
    have y0 : w3.cell? ⟨w.heap.size + 1, 0, none⟩ = some (.bool false) := by rw [cell_of_row w3 _ 0 _ _ (0, 0) z3]; rfl
    have y1 : w3.cell? ⟨w.heap.size + 1, 1, none⟩ = some (.slice none 0 0) := by rw [cell_of_row w3 _ 1 _ _ (0, 0) z3]; rfl
    have y2 : w3.cell? ⟨w.heap.size + 1, 2, none⟩ = some (.slice none 0 0) := by rw [cell_of_row w3 _ 2 _ _ (0, 0) z3]; rfl
    have hf : ∀ j, w3.frozen? ⟨w.heap.size + 1, j, none⟩ = false := fun j => by simp [World.frozen?, z3]
    have hf0 := hf 0; have hf1 := hf 1; have hf2 := hf 2
    obtain ⟨a1, c1, rfl⟩ := own_shape' ho1
    obtain ⟨a2, c2, rfl⟩ := own_shape' ho2
    have hs4 : w.heap.size + 1 < w3.heap.size := by omega
    clear hf z2 z3 ho1 ho2 hap hb3 hba hsa hs3
    go_wp2_with fail
    refine bodyPost_ret (v := .tuple #[.agg #[.bool false, .slice a1 (sortI ns).length c1, .slice a2 (undirE ns es).length c2], .bool false]) (by simp [results, Tryz.results11, go_sem, y0, y1, y2]; rfl) rfl ?_
    have hgood : (wellB ns es && true) = true := by rw [HWELL.out]; rfl
    have keep : ∀ g, g ≠ w.heap.size + 1 → (((w3.setCell ⟨w.heap.size + 1, 0, none⟩ (.bool false)).setCell ⟨w.heap.size + 1, 1, none⟩ (.slice a1 (sortI ns).length c1)).setCell ⟨w.heap.size + 1, 2, none⟩ (.slice a2 (undirE ns es).length c2)).heap[g]? = w3.heap[g]? := fun g hg => by
      rw [Below.heap_setCell _ _ _ _ (fun e => hg e), Below.heap_setCell _ _ _ _ (fun e => hg e), Below.heap_setCell _ _ _ _ (fun e => hg e)]
    refine ⟨_, _, by rw [hgood]; rfl, ?_, ((HB3.out.setCell (show w.heap.size ≤ w.heap.size + 1 by omega) _).setCell (show w.heap.size ≤ w.heap.size + 1 by omega) _).setCell (show w.heap.size ≤ w.heap.size + 1 by omega) _⟩
    rw [hgood, if_pos rfl]
    refine ⟨?_, own_lower (ownsRow_of_heap HO2.out (fun g hg => keep g (by have := (HO2.out.lt g hg).1; omega))) (by omega), HAP.out⟩
    have := own_lower (ownsRow_of_heap HO1.out (fun g hg => keep g (by have := (HO1.out.lt g hg).1; omega))) (show w.heap.size ≤ w2.heap.size + 1 by omega)
    rw [sortI_len] at this ⊢
    exact this
end Go.Proofs.YtbkoifdnlaihfaaGreat
