/- The walks of find and node over a graph that read has made. -/
import Derived.Test.YtnfkbjgijelfdaaGreatReadMem
import Derived.Test.YtnfkbjgijelfdaaGreatIndex
import Derived.Test.YtnfkbjgijelfdaaGreatArcs
namespace Go.Proofs.YtnfkbjgijelfdaaGreat
open Go.RowKit

/-- The weight's bits of the arc from u to v, if there is one. -/
def findO (ids : List Int) (out : List Arcs) (u v : Int) : Option Nat :=
  if memB ids u && memB ids v then arcOf (out.getD (posOf ids u) []) (posOf ids v) else none

/-- What find wants to know of a row. -/
theorem ReadSt.row {w0 w : World} {bp k i : Nat} {ids : List Int} {a : Option Addr} {c : Nat} {out inn : List Arcs} (h : ReadSt w0 bp k ids a c out inn w) (hi : i < k) (hk : k ≤ 1000000) :
    ∃ (bo : Nat) (a' : Option Addr) (c' : Nat) (l : Arcs), w.cell? ⟨bp, 1, none⟩ = some (.slice (some ⟨bo, 0, none⟩) k k) ∧ w.cell? ⟨bo, i, none⟩ = some (.slice a' l.length c') ∧ bo < w.heap.size ∧
      Hid (out[i]? = some l) ∧ RdA w a' l.length l ∧ ArcsUp l ∧ (∀ x ∈ l, x.1 < k) := by
  obtain ⟨B, bo, bi, vo, vi, hp, _⟩ := h
  obtain ⟨v, l, hv, hl, hr⟩ := hp.atO hi
  have hb := hp.below
  have hlen := arcs_len hr.up hr.to
  obtain ⟨a', c', rfl, hrd⟩ := OwnA.rd hr.own (by omega)
  exact ⟨bo, a', c', l, hp.p1, hr.cell, by omega, hl, hrd, hr.up, hr.to⟩

def FindPost (ids : List Int) (out : List Arcs) (u v : Int) (w : World) (e : Ending) (w' : World) : Prop :=
  Below w.heap.size w w' ∧ ∃ t x : Nat, e = .returned (.tuple #[.agg #[.int .i64 t, .float .f64 x], .bool (findO ids out u v).isSome]) ∧ (findO ids out u v = none ∨ (findO ids out u v = some x ∧ t = posOf ids v))

set_option maxHeartbeats 400000 in
theorem find_cmp : Compares 226 := by
  refine ⟨fun args w => by go_simp, ?_⟩
  intro t k x w ht hk
  go_enter Tryz.func226, Tryz.ntmps226
  go_wp2
  go_ret
  exact ⟨rfl, (Below.refl _ _).alloc (Nat.le_refl _) _⟩

set_option maxHeartbeats 4000000 in
theorem find_calls (w0 : World) (bp k : Nat) (ids : List Int) (a : Option Addr) (c : Nat) (out inn : List Arcs) (u v : Int) (w : World) (h : ReadSt w0 bp k ids a c out inn w) (hs : ids.Pairwise (· ≤ ·)) (hk : k ≤ 1000000) :
    Calls Tryz.prog 224 #[.pointer (some ⟨bp, 0, none⟩), .int .i64 u, .int .i64 v] w (FindPost ids out u v w) := by
  have H := Lib.hid h; clear h
  have HS := Lib.hid hs; clear hs
  have hbp := H.out.size
  go_enter Tryz.func224, Tryz.ntmps224
  go_wp2_with fail
  obtain ⟨w1, hw1⟩ : ∃ w1, w1 = w.alloc (.cells #[.int .i64 0, .float .f64 0] 248) := ⟨_, rfl⟩
  have HB1 : Hid (Below w.heap.size w w1) := by rw [hw1]; exact (Below.refl _ _).alloc (Nat.le_refl _) _
  have z1 : w1.heap[w.heap.size]? = some (.cells #[.int .i64 0, .float .f64 0] 248 (0, 0)) := by rw [hw1]; exact heap_alloc_new w _
  have hz1 : w.heap.size < w1.heap.size := (Array.getElem?_eq_some_iff.1 z1).1
  have HH : Hid (ReadSt w0 bp k ids a c out inn w1) := H.out.later HB1.out
  rw [← hw1]
  clear hw1
  refine (pidx_calls bp a k c ids u w1 HH.out.cell HH.out.rd (by omega) HS.out).mono ?_
  rintro e w' ⟨rfl, q, rfl⟩
  go_wp2_with fail
  refine (pidx_calls bp a k c ids v (w1.drewN q) HH.out.cell (HH.out.rd.drewN q) (by omega) HS.out).mono ?_
  rintro e w' ⟨rfl, q2, rfl⟩
  rw [World.drewN_drewN]
  obtain ⟨w2, hw2⟩ : ∃ w2, w2 = w1.drewN (q + q2) := ⟨_, rfl⟩
  have HB2 : Hid (Below w.heap.size w w2) := by rw [hw2]; exact below_drewN HB1.out _
  have z2 : w2.heap[w.heap.size]? = some (.cells #[.int .i64 0, .float .f64 0] 248 (0, 0)) := by rw [hw2]; exact z1
  have hz2 : w.heap.size < w2.heap.size := (Array.getElem?_eq_some_iff.1 z2).1
  have H2 : Hid (ReadSt w0 bp k ids a c out inn w2) := H.out.later HB2.out
  rw [← hw2]
  have y0 : w2.cell? ⟨w.heap.size, 0, none⟩ = some (.int .i64 0) := by rw [cell_of_row w2 _ 0 _ _ (0, 0) z2]; rfl
  have y1 : w2.cell? ⟨w.heap.size, 1, none⟩ = some (.float .f64 0) := by rw [cell_of_row w2 _ 1 _ _ (0, 0) z2]; rfl
  have f0 : w2.frozen? ⟨w.heap.size, 0, none⟩ = false := by simp [World.frozen?, z2]
  have f1 : w2.frozen? ⟨w.heap.size, 1, none⟩ = false := by simp [World.frozen?, z2]
  have Z2 := Lib.hid z2
  clear hw2 z1 hz1 HH HB1 z2
  cases hu : memB ids u
  · have HF := Lib.hid (show findO ids out u v = none from by simp [findO, hu])
    go_wp2_with fail
    refine bodyPost_ret (v := .tuple #[.agg #[.int .i64 0, .float .f64 0], .bool false]) ?_ rfl ?_
    · simp [results, Tryz.results224, go_sem, y0, y1]
    · exact ⟨(HB2.out.setCell (Nat.le_refl _) _).setCell (Nat.le_refl _) _, 0, 0, by rw [HF.out]; rfl, .inl HF.out⟩
  · cases hv : memB ids v
    · have HF := Lib.hid (show findO ids out u v = none from by simp [findO, hv])
      go_wp2_with fail
      refine bodyPost_ret (v := .tuple #[.agg #[.int .i64 0, .float .f64 0], .bool false]) ?_ rfl ?_
      · simp [results, Tryz.results224, go_sem, y0, y1]
      · exact ⟨(HB2.out.setCell (Nat.le_refl _) _).setCell (Nat.le_refl _) _, 0, 0, by rw [HF.out]; rfl, .inl HF.out⟩
    · have hx : u ∈ ids := (memB_iff _ _).1 hu
      have hlen : ids.length = k := H.out.rd.len
      have hi : posOf ids u < k := by rw [← hlen]; exact posOf_len _ _ hx
      obtain ⟨bo, a', c', l, p1, hrow, hbo, hol, hrd, hup, hto⟩ := H2.out.row hi hk
      have hj : posOf ids v < k := by rw [← hlen]; exact posOf_len _ _ ((memB_iff _ _).1 hv)
      have hll := arcs_len hup hto
      have HOL := hol; have HRD := Lib.hid hrd; have HUP := Lib.hid hup
      have HF := Lib.hid (show findO ids out u v = arcOf l (posOf ids v) from by simp [findO, hu, hv, List.getD, hol.out])
      have hto' : ∀ j, j < l.length → toAt l j < 4611686018427387904 := fun j hj => by have := toAt_lt hto j hj; omega
      clear hrd hup hol hx hlen hto
      go_wp2_with fail
      refine (search_calls 226 find_cmp a' l.length c' (posOf ids v) l w2 HRD.out HUP.out (by omega) hto').mono ?_
      rintro e w3 ⟨i, found, rfl, hf, hb3⟩
      obtain ⟨cc, cf⟩ := bcell hb3
      have p13 := (cc bp 1 (by have := H2.out.size; omega)).trans p1
      have row3 := (cc bo _ hbo).trans hrow
      have y03 := (cc w.heap.size 0 hz2).trans y0
      have y13 := (cc w.heap.size 1 hz2).trans y1
      have f03 := (cf w.heap.size 0 hz2).trans f0
      have f13 := (cf w.heap.size 1 hz2).trans f1
      have HB3 := Lib.hid (HB2.out.trans (hb3.mono (by omega)))
      have hll3 := hf.1
      clear p1 hrow y0 y1 f0 f1 cf
      cases found
      · have HN := Lib.hid (HF.out.trans (arcOf_none l _ i HUP.out hf))
        clear hf cc hb3
        go_wp2_with fail
        refine bodyPost_ret (v := .tuple #[.agg #[.int .i64 0, .float .f64 0], .bool false]) ?_ rfl ?_
        · simp [results, Tryz.results224, go_sem, y03, y13]
        · exact ⟨(HB3.out.setCell (Nat.le_refl _) _).setCell (Nat.le_refl _) _, 0, 0, by rw [HN.out]; rfl, .inl HN.out⟩
      · obtain ⟨x, hx, harc⟩ := arcOf_found l _ i hf
        have HN := Lib.hid (HF.out.trans harc)
        have hil : i < l.length := (List.getElem?_eq_some_iff.1 hx).1
        obtain ⟨b, off, rfl, hbb, hc⟩ := HRD.out.at_ (by omega)
        obtain ⟨t, f, hq, c1, c2⟩ := hc i hil
        obtain ⟨rfl, rfl⟩ : t = posOf ids v ∧ f = x := by have := hq.out; rw [hx] at this; simpa using this.symm
        have d1 := (cc b _ hbb).trans c1
        have d2 := (cc b _ hbb).trans c2
        clear hf cc hb3 hc c1 c2 hx harc hq
        go_wp2_with fail
        refine bodyPost_ret (v := .tuple #[.agg #[.int .i64 (posOf ids v : Nat), .float .f64 f], .bool true]) ?_ rfl ?_
        · simp [results, Tryz.results224, go_sem, y03, y13]
        · exact ⟨(HB3.out.setCell (Nat.le_refl _) _).setCell (Nat.le_refl _) _, posOf ids v, f, by rw [HN.out]; rfl, .inr ⟨HN.out, rfl⟩⟩

def NodePost (ids : List Int) (x : Int) (w : World) (e : Ending) (w' : World) : Prop :=
  (e = .returned (if memB ids x then .iface 133 (.int .i64 x) else .nilIface)) ∧ ∃ q, w' = w.drewN q

set_option maxHeartbeats 1000000 in
theorem node_calls (w0 : World) (bp k : Nat) (ids : List Int) (a : Option Addr) (c : Nat) (out inn : List Arcs) (x : Int) (w : World) (h : ReadSt w0 bp k ids a c out inn w) (hs : ids.Pairwise (· ≤ ·)) (hk : k ≤ 1000000) :
    Calls Tryz.prog 222 #[.pointer (some ⟨bp, 0, none⟩), .int .i64 x] w (NodePost ids x w) := by
  have H := Lib.hid h; clear h
  have HS := Lib.hid hs; clear hs
  go_enter Tryz.func222, Tryz.ntmps222
  go_wp2_with fail
  refine (pidx_calls bp a k c ids x w H.out.cell H.out.rd (by omega) HS.out).mono ?_
  rintro e w' ⟨rfl, q, rfl⟩
  cases hu : memB ids x
  all_goals
    have HU := Lib.hid hu
    go_wp2_with fail
    go_ret
    exact ⟨by rw [HU.out]; rfl, q, rfl⟩

end Go.Proofs.YtnfkbjgijelfdaaGreat
