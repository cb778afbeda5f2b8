/- The walks of oneWay and bothWays. -/
import Derived.Test.YtnfkbjgijelfdaaGreatOpen
import Derived.Test.YtnfkbjgijelfdaaGreatMeth
import Derived.RegionTactic
import Derived.BigRegion
namespace Go.Proofs.YtnfkbjgijelfdaaGreat
open Go.RowKit

theorem Gr.of_read {d : Bool} {bp n : Nat} {ns : List Int} {es : List (Int × Int × Int)} {w : World} (hl : ns.length = n) (hn : n ≤ 1000000) (h : ∃ (w0 : World) (a : Option Addr) (c : Nat), ReadSt w0 bp n (sortI ns) a c (rowsFrom d (sortI ns) es).1 (rowsFrom d (sortI ns) es).2 w) :
    Gr bp (sortI ns) (rowsFrom d (sortI ns) es).1 (rowsFrom d (sortI ns) es).2 w := by
  obtain ⟨w0, a, c, h⟩ := h
  subst hl
  exact ⟨w0, a, c, by rw [sortI_len]; exact h, sortI_pw ns, by rw [sortI_len]; exact hn⟩

/-- All of a graph's blocks lie from its own on. -/
theorem ReadSt.of_ge {w0 w w' : World} {bp k : Nat} {ids : List Int} {a : Option Addr} {c : Nat} {out inn : List Arcs} (h : ReadSt w0 bp k ids a c out inn w) (hs : w.heap.size ≤ w'.heap.size) (e : ∀ j, bp ≤ j → j < w.heap.size → w'.heap[j]? = w.heap[j]?) :
    ReadSt w' bp k ids a c out inn w' := by
  obtain ⟨B, bo, bi, vo, vi, hp, ho, hsl, h1, h2, h3⟩ := h
  obtain ⟨b1, b2, b3, b4, b5, b6, b7⟩ := hp.below
  have hc : ∀ j, w'.cell? ⟨bp, j, none⟩ = w.cell? ⟨bp, j, none⟩ := fun j => World.cell?_of_block (e bp (Nat.le_refl _) (by omega))
  refine ⟨B, bo, bi, vo, vi, ⟨(hc 0).trans hp.p0, (hc 1).trans hp.p1, (hc 2).trans hp.p2, (e bo (by omega) (by omega)).trans hp.ho, (e bi (by omega) (by omega)).trans hp.hi, hp.lo, hp.li, hp.mo, hp.mi, ⟨b1, b2, b3, b4, b5, b6, Nat.le_trans b7 hs⟩, ⟨hp.rows.len, fun r v l hv hl => ?_, hp.rows.apart⟩⟩, ownsRow_of_heap ho (fun g hg => e g (by have := (ho.lt g hg).1; omega) (ho.lt g hg).2), hsl, h1, h2, Below.refl _ _⟩
  obtain ⟨a1, a2, a3⟩ := hp.rows.own r v l hv hl
  exact ⟨ownsRow_of_heap a1 (fun g hg => e g (by have := (a1.lt g hg).1; omega) (a1.lt g hg).2), a2, a3⟩
theorem Gr.of_ge {bp : Nat} {ids : List Int} {out inn : List Arcs} {w w' : World} (h : Gr bp ids out inn w) (hs : w.heap.size ≤ w'.heap.size) (e : ∀ j, bp ≤ j → j < w.heap.size → w'.heap[j]? = w.heap[j]?) : Gr bp ids out inn w' := by
  obtain ⟨w0, a, c, h1, h2, h3⟩ := h
  exact ⟨w', a, c, h1.of_ge hs e, h2, h3⟩

/-- A graph is opened as one of a kind: it is right just if it is well and of this kind. -/
def WayPost (k d : Bool) (ns : List Int) (es : List (Int × Int × Int)) (w : World) (e : Ending) (w' : World) : Prop :=
  Below w.heap.size w w' ∧ ∃ bp : Nat, e = .returned (.tuple #[.agg #[.pointer (some ⟨bp, 0, none⟩)], .bool (wellB ns es && (d == k))]) ∧ (wellB ns es = true → Gr bp (sortI ns) (rowsFrom d (sortI ns) es).1 (rowsFrom d (sortI ns) es).2 w')

set_option maxHeartbeats 1000000 in
set_option maxRecDepth 100000 in
theorem oneWay_calls (d : Bool) (an ae : Option Addr) (n cn m ce : Nat) (ns : List Int) (es : List (Int × Int × Int)) (w : World) (hn : RdI w an n ns) (hr : RdE w ae m es) (hn8 : n ≤ 1000000) :
    Calls Tryz.prog 41 #[.agg #[.bool d, .slice an n cn, .slice ae m ce]] w (WayPost true d ns es w) := by
  have HR := Lib.hid hr; clear hr
  have HN := Lib.hid hn; clear hn
  go_enter Tryz.func41, Tryz.ntmps41
  go_wp2_with fail
  obtain ⟨w1, hw1⟩ : ∃ w1, w1 = (w.alloc (.cells #[.bool d, .slice an n cn, .slice ae m ce] 25)).alloc (.cells #[.pointer none] 72) := ⟨_, rfl⟩
  have HB1 : Hid (Below w.heap.size w w1) := by rw [hw1]; exact ((Below.refl _ _).alloc (Nat.le_refl _) _).alloc (by simp) _
  have z0 : w1.heap[w.heap.size]? = some (.cells #[.bool d, .slice an n cn, .slice ae m ce] 25 (0, 0)) := by
    rw [hw1, heap_alloc_old _ _ (by simp)]; exact heap_alloc_new w _
  have z1 : w1.heap[w.heap.size + 1]? = some (.cells #[.pointer none] 72 (0, 0)) := by
    have h := heap_alloc_new (w.alloc (.cells #[.bool d, .slice an n cn, .slice ae m ce] 25)) (.cells #[.pointer none] 72)
    rw [hw1]; simpa using h
  have hs1 : w.heap.size + 2 ≤ w1.heap.size := by rw [hw1]; simp
  rw [← hw1]
  clear hw1
  refine (read_calls d an ae n cn m ce ns es w1 (HN.out.below HB1.out (Nat.le_refl _)) (HR.out.below HB1.out (Nat.le_refl _)) hn8).mono ?_
  rintro e w2 ⟨hb, bp, rfl, hst⟩
  have HB2 := Lib.hid (HB1.out.trans (hb.mono (by omega)))
  have HST := Lib.hid hst
  have z02 := (hb.block _ (by omega)).trans z0
  have z12 := (hb.block _ (by omega)).trans z1
  have hs2 : w.heap.size + 2 ≤ w2.heap.size := Nat.le_trans hs1 hb.size
  clear hb hst z0 z1
  have y0 : w2.cell? ⟨w.heap.size, 0, none⟩ = some (.bool d) := by rw [cell_of_row w2 _ 0 _ _ (0, 0) z02]; rfl
  have y1 : w2.cell? ⟨w.heap.size + 1, 0, none⟩ = some (.pointer none) := by rw [cell_of_row w2 _ 0 _ _ (0, 0) z12]; rfl
  have f1 : w2.frozen? ⟨w.heap.size + 1, 0, none⟩ = false := by simp [World.frozen?, z12]
  have hlen : ns.length = n := HN.out.len
  have HLEN := Lib.hid hlen
  clear z02 z12 hlen
  obtain ⟨b, hb⟩ : ∃ b, wellB ns es = b := ⟨_, rfl⟩
  have HBB := Lib.hid hb
  rw [hb]
  clear hb
  cases b
  · go_wp2_with fail
    go_region
    go_wp2
    refine bodyPost_ret (v := .tuple #[.agg #[.pointer (some ⟨bp, 0, none⟩)], .bool false]) (by simp [results, Tryz.results41, go_sem, y1]) rfl ⟨below_drewN (HB2.out.setCell (show w.heap.size ≤ w.heap.size + 1 by omega) _) 1, bp, by rw [HBB.out]; cases d <;> rfl, fun hw => ?_⟩
    first
      | exact absurd (hw.symm.trans HBB.out) (by decide)
      | (obtain ⟨h1, h2⟩ := HST.out HBB.out
         refine (Gr.of_read HLEN.out hn8 h2).of_ge (by simp [World.setCell]) (fun j hj1 hj2 => ?_)
         show (w2.setCell _ _).heap[j]? = _
         exact Below.heap_setCell _ _ _ _ (fun e => by have e' : j = w.heap.size + 1 := e; omega))
  · go_wp2_with fail
    go_region
    go_wp2
    refine bodyPost_ret (v := .tuple #[.agg #[.pointer (some ⟨bp, 0, none⟩)], .bool d]) (by simp [results, Tryz.results41, go_sem, y1]) rfl ⟨below_drewN (HB2.out.setCell (show w.heap.size ≤ w.heap.size + 1 by omega) _) 1, bp, by rw [HBB.out]; cases d <;> rfl, fun hw => ?_⟩
    first
      | exact absurd (hw.symm.trans HBB.out) (by decide)
      | (obtain ⟨h1, h2⟩ := HST.out HBB.out
         refine (Gr.of_read HLEN.out hn8 h2).of_ge (by simp [World.setCell]) (fun j hj1 hj2 => ?_)
         show (w2.setCell _ _).heap[j]? = _
         exact Below.heap_setCell _ _ _ _ (fun e => by have e' : j = w.heap.size + 1 := e; omega))

/-- .. and its blocks are new. -/
def WayPostG (k d : Bool) (ns : List Int) (es : List (Int × Int × Int)) (w : World) (e : Ending) (w' : World) : Prop :=
  Below w.heap.size w w' ∧ ∃ bp : Nat, e = .returned (.tuple #[.agg #[.pointer (some ⟨bp, 0, none⟩)], .bool (wellB ns es && (d == k))]) ∧ (wellB ns es = true → w.heap.size ≤ bp ∧ Gr bp (sortI ns) (rowsFrom d (sortI ns) es).1 (rowsFrom d (sortI ns) es).2 w')

/-- How many arcs a row has. -/
theorem Gr.len_out {bp : Nat} {ids : List Int} {out inn : List Arcs} {w : World} (h : Gr bp ids out inn w) {x : Int} (hx : x ∈ ids) : (nextL ids out x).length ≤ ids.length := by
  obtain ⟨w0, a, c, h1, h2, h3⟩ := h
  obtain ⟨bo, a', c', l, _, _, _, hl, hrd, hup, hto⟩ := h1.row (posOf_len _ _ hx) h3
  unfold nextL endsL
  rw [List.getD, hl.out]
  simp only [Option.getD_some, List.length_map]
  exact arcs_len hup hto
theorem Gr.len_in {bp : Nat} {ids : List Int} {out inn : List Arcs} {w : World} (h : Gr bp ids out inn w) {x : Int} (hx : x ∈ ids) : (nextL ids inn x).length ≤ ids.length := by
  obtain ⟨w0, a, c, h1, h2, h3⟩ := h
  obtain ⟨bo, a', c', l, _, _, _, hl, hrd, hup, hto⟩ := h1.rowIn (posOf_len _ _ hx) h3
  unfold nextL endsL
  rw [List.getD, hl.out]
  simp only [Option.getD_some, List.length_map]
  exact arcs_len hup hto

end Go.Proofs.YtnfkbjgijelfdaaGreat
