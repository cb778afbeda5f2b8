/- The walk of impl.IsPathIn. -/
import Derived.Test.YtbkoifdnlaihfaaGreatPath2
namespace Go.Proofs.YtbkoifdnlaihfaaGreat
open Go.RowKit

theorem topoPath_calls (d : Bool) (w0 : World) (bp k : Nat) (ids : List Int) (ai : Option Addr) (ci : Nat) (out inn : List Arcs) (B n : Nat) (v : Value) (ps : List Int) (w : World)
    (h : ReadSt w0 bp k ids ai ci out inn w) (hs : ids.Pairwise (· ≤ ·)) (hk : k ≤ 1000000) (ho : w.ownsRow B 100 1 v n (ps.map nodeV)) (hn6 : n ≤ 1000000) :
    Calls Tryz.prog 85 #[graphV d bp, v] w (PathPost (pathB ids out ps) w) := by
  obtain ⟨a, c, rfl⟩ := own_shape' ho
  have hN := NodesAt.of_owns ho
  have hl : ps.length = n := hN.1
  have hnc : n ≤ c := by
    rcases ho.2 with ⟨e, h1⟩ | ⟨g, cap, cur, e, hb, hg, h3, _⟩
    · omega
    · simp only [Value.slice.injEq] at e; omega
  match ps, hl with
  | [], hl =>
    obtain rfl : n = 0 := hl.symm
    exact isPath0_calls _ _ _ _
  | [x], hl =>
    obtain rfl : n = 1 := hl.symm
    exact isPath1_calls d w0 bp k ids ai ci out inn a c x w h hs hk hN
  | x :: y :: r, hl =>
    exact isPath2_calls d w0 bp k ids ai ci out inn a n c (x :: y :: r) w h hs hk hN (by simp at hl; omega) hnc hn6

/-- What IsPathIn says. -/
def isPathB (d : Bool) (ns : List Int) (es : List (Int × Int × Int)) (ps : List Int) : Bool := wellB ns es && pathB (sortI ns) (rowsFrom d (sortI ns) es).1 ps

set_option maxHeartbeats 1000000 in
theorem implPath_calls (d : Bool) (an ae ap : Option Addr) (n cn m ce np cp : Nat) (ns : List Int) (es : List (Int × Int × Int)) (ps : List Int) (w : World) (hn : RdI w an n ns) (hr : RdE w ae m es) (hp : RdI w ap np ps) (hn8 : n ≤ 1000000) (hp8 : np ≤ 1000000) :
    Calls Tryz.prog 42 #[.agg #[.bool d, .slice an n cn, .slice ae m ce], .slice ap np cp] w fun e w' =>
      e = .returned (.tuple #[.bool (isPathB d ns es ps), .bool (!wellB ns es)]) ∧ Below w.heap.size w w' := by
  have HR := Lib.hid hr; clear hr
  have HN := Lib.hid hn; clear hn
  have HP := Lib.hid hp; clear hp
  go_enter Tryz.func42, Tryz.ntmps42
  go_wp2_with fail
  refine (open_calls d an ae n cn m ce ns es _ (HN.out.alloc _) (HR.out.alloc _) hn8).mono ?_
  rintro e w1 ⟨hb, bp, rfl, hst⟩
  have HB := Lib.hid (((Below.refl w.heap.size w).alloc (Nat.le_refl _) (.cells #[.bool d, .slice an n cn, .slice ae m ce] 25)).trans (hb.mono (by simp)))
  have HS := Lib.hid hst
  clear hb hst
  obtain ⟨gv, hgv⟩ : ∃ gv, gv = graphV d bp := ⟨_, rfl⟩
  rw [← hgv]
  have HGV := Lib.hid hgv; clear hgv
  cases hw : wellB ns es
  · have HW := Lib.hid hw
    go_wp2_with fail
    go_ret2
    exact ⟨by rw [isPathB, HW.out]; rfl, HB.out⟩
  · have HW := Lib.hid hw
    obtain ⟨hbp, w0, a, c, hrs⟩ := HS.out hw
    have HRS := Lib.hid hrs; clear hrs hw
    go_wp2_with fail
    refine (nodesOf_calls ap np cp ps w1 (HP.out.below HB.out (Nat.le_refl _)) hp8).mono ?_
    rintro e w2 ⟨v, rfl, ho, hb2⟩
    have HO := Lib.hid ho
    have HB2 := Lib.hid (HB.out.trans (hb2.mono HB.out.size))
    have HRS2 := Lib.hid (HRS.out.later hb2)
    obtain ⟨a2, c2, rfl⟩ := own_shape' ho
    clear ho hb2
    go_wp2_with fail
    rw [HGV.out]
    refine (topoPath_calls d w0 bp n (sortI ns) a c _ _ _ np _ ps w2 HRS2.out (sortI_pw _) hn8 HO.out hp8).mono ?_
    rintro e w3 ⟨rfl, hb3⟩
    have HB3 := Lib.hid (HB2.out.trans (hb3.mono HB2.out.size)); clear hb3
    obtain ⟨r, hrr⟩ : ∃ r, r = pathB (sortI ns) (rowsFrom d (sortI ns) es).1 ps := ⟨_, rfl⟩
    rw [← hrr]
    have HRR := Lib.hid hrr; clear hrr
    go_wp2_with fail
    go_ret2
    exact ⟨by rw [isPathB, HW.out, ← HRR.out]; rfl, HB3.out⟩

end Go.Proofs.YtbkoifdnlaihfaaGreat
