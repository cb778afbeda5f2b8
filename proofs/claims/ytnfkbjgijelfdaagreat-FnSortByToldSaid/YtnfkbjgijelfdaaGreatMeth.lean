/- The walks of the graphs' methods Nodes, From, To over a graph that read has made. -/
import Derived.Test.YtnfkbjgijelfdaaGreatEnds
import Derived.Test.YtnfkbjgijelfdaaGreatFind
namespace Go.Proofs.YtnfkbjgijelfdaaGreat
open Go.RowKit

/-- A graph that read has made, as far as its methods care. -/
def Gr (bp : Nat) (ids : List Int) (out inn : List Arcs) (w : World) : Prop :=
  ∃ (w0 : World) (a : Option Addr) (c : Nat), ReadSt w0 bp ids.length ids a c out inn w ∧ ids.Pairwise (· ≤ ·) ∧ ids.length ≤ 1000000

theorem Gr.later {bp : Nat} {ids : List Int} {out inn : List Arcs} {w w' : World} (h : Gr bp ids out inn w) (hb : Below w.heap.size w w') : Gr bp ids out inn w' := by
  obtain ⟨w0, a, c, h1, h2, h3⟩ := h
  exact ⟨w0, a, c, h1.later hb, h2, h3⟩
theorem Gr.lt {bp : Nat} {ids : List Int} {out inn : List Arcs} {w : World} (h : Gr bp ids out inn w) : bp < w.heap.size := by
  obtain ⟨w0, a, c, h1, h2, h3⟩ := h
  exact h1.size

/-- The row of arcs to a node, read. -/
theorem ReadSt.rowIn {w0 w : World} {bp k i : Nat} {ids : List Int} {a : Option Addr} {c : Nat} {out inn : List Arcs} (h : ReadSt w0 bp k ids a c out inn w) (hi : i < k) (hk : k ≤ 1000000) :
    ∃ (bo : Nat) (a' : Option Addr) (c' : Nat) (l : Arcs), w.cell? ⟨bp, 2, none⟩ = some (.slice (some ⟨bo, 0, none⟩) k k) ∧ w.cell? ⟨bo, i, none⟩ = some (.slice a' l.length c') ∧ bo < w.heap.size ∧
      Hid (inn[i]? = some l) ∧ RdA w a' l.length l ∧ ArcsUp l ∧ (∀ x ∈ l, x.1 < k) := by
  obtain ⟨B, bo, bi, vo, vi, hp, _⟩ := h
  obtain ⟨v, l, hv, hl, hr⟩ := hp.atI hi
  have hb := hp.below
  have hlen := arcs_len hr.up hr.to
  obtain ⟨a', c', rfl, hrd⟩ := OwnA.rd hr.own (by omega)
  exact ⟨bi, a', c', l, hp.p2, hr.cell, by omega, hl, hrd, hr.up, hr.to⟩

/-- The nodes that arcs lead to from a node (to it). -/
def nextL (ids : List Int) (rows : List Arcs) (x : Int) : List Int := endsL ids (rows.getD (posOf ids x) [])

theorem Gr.mem_out {bp : Nat} {ids : List Int} {out inn : List Arcs} {w : World} (h : Gr bp ids out inn w) {x : Int} (hx : x ∈ ids) {y : Int} (hy : y ∈ nextL ids out x) : y ∈ ids := by
  obtain ⟨w0, a, c, h1, h2, h3⟩ := h
  obtain ⟨bo, a', c', l, _, _, _, hl, _, _, hto⟩ := h1.row (posOf_len _ _ hx) h3
  unfold nextL endsL at hy
  rw [List.getD, hl.out] at hy
  obtain ⟨z, hz, rfl⟩ := List.mem_map.1 hy
  have := hto z hz
  simp [List.getD, this]

theorem Gr.mem_in {bp : Nat} {ids : List Int} {out inn : List Arcs} {w : World} (h : Gr bp ids out inn w) {x : Int} (hx : x ∈ ids) {y : Int} (hy : y ∈ nextL ids inn x) : y ∈ ids := by
  obtain ⟨w0, a, c, h1, h2, h3⟩ := h
  obtain ⟨bo, a', c', l, _, _, _, hl, _, _, hto⟩ := h1.rowIn (posOf_len _ _ hx) h3
  unfold nextL endsL at hy
  rw [List.getD, hl.out] at hy
  obtain ⟨z, hz, rfl⟩ := List.mem_map.1 hy
  have := hto z hz
  simp [List.getD, this]

theorem ItSt.lower {w : World} {B B' bi k : Nat} {ns : List Int} (h : ItSt w B bi k ns) (hB : B' ≤ B) : ItSt w B' bi k ns := by
  obtain ⟨a, c, h1, h2, h3, h4⟩ := h
  refine ⟨a, c, h1, ⟨h2.1, ?_⟩, Nat.le_trans hB h3, h4⟩
  rcases h2.2 with hn | ⟨g, cap, cur, e, hb, rest⟩
  · exact .inl hn
  · exact .inr ⟨g, cap, cur, e, Nat.le_trans hB hb, rest⟩

set_option maxHeartbeats 1000000 in
theorem dNodes_calls (bp : Nat) (ids : List Int) (out inn : List Arcs) (w : World) (h : Gr bp ids out inn w) :
    Calls Tryz.prog 217 #[.agg #[.pointer (some ⟨bp, 0, none⟩)]] w (NewIter ids w) := by
  obtain ⟨w0, a, c, h1, h2, h3⟩ := h
  have H := Lib.hid h1; clear h1
  go_enter Tryz.func217, Tryz.ntmps217
  go_wp2_with fail
  refine (all_calls w0 bp ids.length ids a c out inn _ (H.out.later ((Below.refl _ _).alloc (Nat.le_refl _) _)) h3).mono ?_
  rintro e w' ⟨bi, rfl, hit, hb⟩
  have HIT := Lib.hid (hit.lower (show w.heap.size ≤ _ by simp))
  have HB := Lib.hid (((Below.refl w.heap.size w).alloc (Nat.le_refl _) (.cells #[.pointer (some ⟨bp, 0, none⟩)] 72)).trans (hb.mono (by simp)))
  clear hit hb
  go_wp2_with fail
  go_ret
  exact ⟨bi, rfl, HIT.out, HB.out⟩

set_option maxHeartbeats 1000000 in
theorem uNodes_calls (bp : Nat) (ids : List Int) (out inn : List Arcs) (w : World) (h : Gr bp ids out inn w) :
    Calls Tryz.prog 235 #[.agg #[.pointer (some ⟨bp, 0, none⟩)]] w (NewIter ids w) := by
  obtain ⟨w0, a, c, h1, h2, h3⟩ := h
  have H := Lib.hid h1; clear h1
  go_enter Tryz.func235, Tryz.ntmps235
  go_wp2_with fail
  refine (all_calls w0 bp ids.length ids a c out inn _ (H.out.later ((Below.refl _ _).alloc (Nat.le_refl _) _)) h3).mono ?_
  rintro e w' ⟨bi, rfl, hit, hb⟩
  have HIT := Lib.hid (hit.lower (show w.heap.size ≤ _ by simp))
  have HB := Lib.hid (((Below.refl w.heap.size w).alloc (Nat.le_refl _) (.cells #[.pointer (some ⟨bp, 0, none⟩)] 219)).trans (hb.mono (by simp)))
  clear hit hb
  go_wp2_with fail
  go_ret
  exact ⟨bi, rfl, HIT.out, HB.out⟩

set_option maxHeartbeats 1000000 in
set_option maxRecDepth 100000 in
theorem dFrom_calls (bp : Nat) (ids : List Int) (out inn : List Arcs) (x : Int) (hx : x ∈ ids) (w : World) (h : Gr bp ids out inn w) :
    Calls Tryz.prog 215 #[.agg #[.pointer (some ⟨bp, 0, none⟩)], .int .i64 x] w (NewIter (nextL ids out x) w) := by
  obtain ⟨w0, a, c, h1, h2, h3⟩ := h
  have H := Lib.hid h1; clear h1
  have HS := Lib.hid h2; clear h2
  have hm : memB ids x = true := (memB_iff _ _).2 hx
  have HX := Lib.hid hx; clear hx
  have hbp := H.out.size
  go_enter Tryz.func215, Tryz.ntmps215
  go_wp2_with fail
  obtain ⟨w1, hw1⟩ : ∃ w1, w1 = w.alloc (.cells #[.pointer (some ⟨bp, 0, none⟩)] 72) := ⟨_, rfl⟩
  have HB1 : Hid (Below w.heap.size w w1) := by rw [hw1]; exact (Below.refl _ _).alloc (Nat.le_refl _) _
  have z1 : w1.heap[w.heap.size]? = some (.cells #[.pointer (some ⟨bp, 0, none⟩)] 72 (0, 0)) := by rw [hw1]; exact heap_alloc_new w _
  have HH : Hid (ReadSt w0 bp ids.length ids a c out inn w1) := H.out.later HB1.out
  rw [← hw1]
  clear hw1
  refine (pidx_calls bp a ids.length c ids x w1 HH.out.cell HH.out.rd (by omega) HS.out).mono ?_
  rintro e w' ⟨rfl, q, rfl⟩
  obtain ⟨w2, hw2⟩ : ∃ w2, w2 = w1.drewN q := ⟨_, rfl⟩
  have HB2 : Hid (Below w.heap.size w w2) := by rw [hw2]; exact below_drewN HB1.out _
  have hs2 : w.heap.size < w2.heap.size := by rw [hw2]; exact (Array.getElem?_eq_some_iff.1 z1).1
  have HG2 : Hid (ReadSt w0 bp ids.length ids a c out inn w2) := H.out.later HB2.out
  have z2 : w2.heap[w.heap.size]? = some (.cells #[.pointer (some ⟨bp, 0, none⟩)] 72 (0, 0)) := by rw [hw2]; exact z1
  have y0 : w2.cell? ⟨w.heap.size, 0, none⟩ = some (.pointer (some ⟨bp, 0, none⟩)) := by rw [cell_of_row w2 _ 0 _ _ (0, 0) z2]; rfl
  rw [← hw2]
  have hi : posOf ids x < ids.length := posOf_len _ _ HX.out
  obtain ⟨bo, a', c', l, p1, hrow, hbo, hol, hrd, hup, hto⟩ := HG2.out.row hi h3
  have HOL := hol; have HRD := Lib.hid hrd
  have hll := arcs_len hup hto
  have HTO := Lib.hid hto
  have hi0 : (0 : Int) ≤ ((posOf ids x : Nat) : Int) := Int.natCast_nonneg _
  have hi1 : ((posOf ids x : Nat) : Int) < ((ids.length : Nat) : Int) := by omega
  have HN : Hid (nextL ids out x = endsL ids l) := by unfold nextL; rw [List.getD, hol.out]; exact Lib.hid rfl |>.out
  clear hw2 z1 z2 hrd hup hol hto
  go_wp2_with fail
  go_region_held3 (fun w' => w'.cell? ⟨w.heap.size, 0, none⟩ = some (.pointer (some ⟨bp, 0, none⟩)) ∧ w'.cell? ⟨bp, 1, none⟩ = some (.slice (some ⟨bo, 0, none⟩) ids.length ids.length) ∧ w'.cell? ⟨bo, posOf ids x, none⟩ = some (.slice a' l.length c'))
    (go_keep)
    (first | (go_at_call 221; refine (ends_calls w0 bp ids.length ids a c out inn _ (HG2.out.later (below_drewN (Below.refl _ _) 1)) h3 a' c' l (HRD.out.below (below_drewN (Below.refl _ _) 1) (Nat.le_refl _)) HTO.out (by omega)).mono ?_; rintro e w3 ⟨bi, rfl, hit, hb3⟩; have s0 := (hb3.cell (p := ⟨w.heap.size, 0, none⟩) hs2).trans y0; have s1 := (hb3.cell (p := ⟨bp, 1, none⟩) HG2.out.size).trans p1; have s2 := (hb3.cell (p := ⟨bo, posOf ids x, none⟩) hbo).trans hrow; have HIT := Lib.hid hit; have HB3 := Lib.hid hb3; clear hit hb3))
  go_wp2
  go_ret
  exact ⟨bi, rfl, by rw [HN.out]; exact HIT.out.lower (Nat.le_of_lt hs2), (below_drewN HB2.out 1).trans (HB3.out.mono (Nat.le_of_lt hs2))⟩

set_option maxHeartbeats 1000000 in
set_option maxRecDepth 100000 in
theorem dTo_calls (bp : Nat) (ids : List Int) (out inn : List Arcs) (x : Int) (hx : x ∈ ids) (w : World) (h : Gr bp ids out inn w) :
    Calls Tryz.prog 218 #[.agg #[.pointer (some ⟨bp, 0, none⟩)], .int .i64 x] w (NewIter (nextL ids inn x) w) := by
  obtain ⟨w0, a, c, h1, h2, h3⟩ := h
  have H := Lib.hid h1; clear h1
  have HS := Lib.hid h2; clear h2
  have hm : memB ids x = true := (memB_iff _ _).2 hx
  have HX := Lib.hid hx; clear hx
  have hbp := H.out.size
  go_enter Tryz.func218, Tryz.ntmps218
  go_wp2_with fail
  obtain ⟨w1, hw1⟩ : ∃ w1, w1 = w.alloc (.cells #[.pointer (some ⟨bp, 0, none⟩)] 72) := ⟨_, rfl⟩
  have HB1 : Hid (Below w.heap.size w w1) := by rw [hw1]; exact (Below.refl _ _).alloc (Nat.le_refl _) _
  have z1 : w1.heap[w.heap.size]? = some (.cells #[.pointer (some ⟨bp, 0, none⟩)] 72 (0, 0)) := by rw [hw1]; exact heap_alloc_new w _
  have HH : Hid (ReadSt w0 bp ids.length ids a c out inn w1) := H.out.later HB1.out
  rw [← hw1]
  clear hw1
  refine (pidx_calls bp a ids.length c ids x w1 HH.out.cell HH.out.rd (by omega) HS.out).mono ?_
  rintro e w' ⟨rfl, q, rfl⟩
  obtain ⟨w2, hw2⟩ : ∃ w2, w2 = w1.drewN q := ⟨_, rfl⟩
  have HB2 : Hid (Below w.heap.size w w2) := by rw [hw2]; exact below_drewN HB1.out _
  have hs2 : w.heap.size < w2.heap.size := by rw [hw2]; exact (Array.getElem?_eq_some_iff.1 z1).1
  have HG2 : Hid (ReadSt w0 bp ids.length ids a c out inn w2) := H.out.later HB2.out
  have z2 : w2.heap[w.heap.size]? = some (.cells #[.pointer (some ⟨bp, 0, none⟩)] 72 (0, 0)) := by rw [hw2]; exact z1
  have y0 : w2.cell? ⟨w.heap.size, 0, none⟩ = some (.pointer (some ⟨bp, 0, none⟩)) := by rw [cell_of_row w2 _ 0 _ _ (0, 0) z2]; rfl
  rw [← hw2]
  have hi : posOf ids x < ids.length := posOf_len _ _ HX.out
  obtain ⟨bo, a', c', l, p1, hrow, hbo, hol, hrd, hup, hto⟩ := HG2.out.rowIn hi h3
  have HOL := hol; have HRD := Lib.hid hrd
  have hll := arcs_len hup hto
  have HTO := Lib.hid hto
  have hi0 : (0 : Int) ≤ ((posOf ids x : Nat) : Int) := Int.natCast_nonneg _
  have hi1 : ((posOf ids x : Nat) : Int) < ((ids.length : Nat) : Int) := by omega
  have HN : Hid (nextL ids inn x = endsL ids l) := by unfold nextL; rw [List.getD, hol.out]; exact Lib.hid rfl |>.out
  clear hw2 z1 z2 hrd hup hol hto
  go_wp2_with fail
  go_region_held3 (fun w' => w'.cell? ⟨w.heap.size, 0, none⟩ = some (.pointer (some ⟨bp, 0, none⟩)) ∧ w'.cell? ⟨bp, 2, none⟩ = some (.slice (some ⟨bo, 0, none⟩) ids.length ids.length) ∧ w'.cell? ⟨bo, posOf ids x, none⟩ = some (.slice a' l.length c'))
    (go_keep)
    (first | (go_at_call 221; refine (ends_calls w0 bp ids.length ids a c out inn _ (HG2.out.later (below_drewN (Below.refl _ _) 1)) h3 a' c' l (HRD.out.below (below_drewN (Below.refl _ _) 1) (Nat.le_refl _)) HTO.out (by omega)).mono ?_; rintro e w3 ⟨bi, rfl, hit, hb3⟩; have s0 := (hb3.cell (p := ⟨w.heap.size, 0, none⟩) hs2).trans y0; have s1 := (hb3.cell (p := ⟨bp, 2, none⟩) HG2.out.size).trans p1; have s2 := (hb3.cell (p := ⟨bo, posOf ids x, none⟩) hbo).trans hrow; have HIT := Lib.hid hit; have HB3 := Lib.hid hb3; clear hit hb3))
  go_wp2
  go_ret
  exact ⟨bi, rfl, by rw [HN.out]; exact HIT.out.lower (Nat.le_of_lt hs2), (below_drewN HB2.out 1).trans (HB3.out.mono (Nat.le_of_lt hs2))⟩

set_option maxHeartbeats 1000000 in
set_option maxRecDepth 100000 in
theorem uFrom_calls (bp : Nat) (ids : List Int) (out inn : List Arcs) (x : Int) (hx : x ∈ ids) (w : World) (h : Gr bp ids out inn w) :
    Calls Tryz.prog 232 #[.agg #[.pointer (some ⟨bp, 0, none⟩)], .int .i64 x] w (NewIter (nextL ids out x) w) := by
  obtain ⟨w0, a, c, h1, h2, h3⟩ := h
  have H := Lib.hid h1; clear h1
  have HS := Lib.hid h2; clear h2
  have hm : memB ids x = true := (memB_iff _ _).2 hx
  have HX := Lib.hid hx; clear hx
  have hbp := H.out.size
  go_enter Tryz.func232, Tryz.ntmps232
  go_wp2_with fail
  obtain ⟨w1, hw1⟩ : ∃ w1, w1 = w.alloc (.cells #[.pointer (some ⟨bp, 0, none⟩)] 219) := ⟨_, rfl⟩
  have HB1 : Hid (Below w.heap.size w w1) := by rw [hw1]; exact (Below.refl _ _).alloc (Nat.le_refl _) _
  have z1 : w1.heap[w.heap.size]? = some (.cells #[.pointer (some ⟨bp, 0, none⟩)] 219 (0, 0)) := by rw [hw1]; exact heap_alloc_new w _
  have HH : Hid (ReadSt w0 bp ids.length ids a c out inn w1) := H.out.later HB1.out
  rw [← hw1]
  clear hw1
  refine (pidx_calls bp a ids.length c ids x w1 HH.out.cell HH.out.rd (by omega) HS.out).mono ?_
  rintro e w' ⟨rfl, q, rfl⟩
  obtain ⟨w2, hw2⟩ : ∃ w2, w2 = w1.drewN q := ⟨_, rfl⟩
  have HB2 : Hid (Below w.heap.size w w2) := by rw [hw2]; exact below_drewN HB1.out _
  have hs2 : w.heap.size < w2.heap.size := by rw [hw2]; exact (Array.getElem?_eq_some_iff.1 z1).1
  have HG2 : Hid (ReadSt w0 bp ids.length ids a c out inn w2) := H.out.later HB2.out
  have z2 : w2.heap[w.heap.size]? = some (.cells #[.pointer (some ⟨bp, 0, none⟩)] 219 (0, 0)) := by rw [hw2]; exact z1
  have y0 : w2.cell? ⟨w.heap.size, 0, none⟩ = some (.pointer (some ⟨bp, 0, none⟩)) := by rw [cell_of_row w2 _ 0 _ _ (0, 0) z2]; rfl
  rw [← hw2]
  have hi : posOf ids x < ids.length := posOf_len _ _ HX.out
  obtain ⟨bo, a', c', l, p1, hrow, hbo, hol, hrd, hup, hto⟩ := HG2.out.row hi h3
  have HOL := hol; have HRD := Lib.hid hrd
  have hll := arcs_len hup hto
  have HTO := Lib.hid hto
  have hi0 : (0 : Int) ≤ ((posOf ids x : Nat) : Int) := Int.natCast_nonneg _
  have hi1 : ((posOf ids x : Nat) : Int) < ((ids.length : Nat) : Int) := by omega
  have HN : Hid (nextL ids out x = endsL ids l) := by unfold nextL; rw [List.getD, hol.out]; exact Lib.hid rfl |>.out
  clear hw2 z1 z2 hrd hup hol hto
  go_wp2_with fail
  go_region_held3 (fun w' => w'.cell? ⟨w.heap.size, 0, none⟩ = some (.pointer (some ⟨bp, 0, none⟩)) ∧ w'.cell? ⟨bp, 1, none⟩ = some (.slice (some ⟨bo, 0, none⟩) ids.length ids.length) ∧ w'.cell? ⟨bo, posOf ids x, none⟩ = some (.slice a' l.length c'))
    (go_keep)
    (first | (go_at_call 221; refine (ends_calls w0 bp ids.length ids a c out inn _ (HG2.out.later (below_drewN (Below.refl _ _) 1)) h3 a' c' l (HRD.out.below (below_drewN (Below.refl _ _) 1) (Nat.le_refl _)) HTO.out (by omega)).mono ?_; rintro e w3 ⟨bi, rfl, hit, hb3⟩; have s0 := (hb3.cell (p := ⟨w.heap.size, 0, none⟩) hs2).trans y0; have s1 := (hb3.cell (p := ⟨bp, 1, none⟩) HG2.out.size).trans p1; have s2 := (hb3.cell (p := ⟨bo, posOf ids x, none⟩) hbo).trans hrow; have HIT := Lib.hid hit; have HB3 := Lib.hid hb3; clear hit hb3))
  go_wp2
  go_ret
  exact ⟨bi, rfl, by rw [HN.out]; exact HIT.out.lower (Nat.le_of_lt hs2), (below_drewN HB2.out 1).trans (HB3.out.mono (Nat.le_of_lt hs2))⟩

end Go.Proofs.YtnfkbjgijelfdaaGreat
