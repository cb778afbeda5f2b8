/- The walks of impl.from (one node), topo.PathExistsIn and impl.PathExistsIn. -/
import Derived.Test.YtbkoifdnlaihfaaGreatBfs
import Derived.Test.YtbkoifdnlaihfaaGreatNextF
namespace Go.Proofs.YtbkoifdnlaihfaaGreat
open Go.RowKit

theorem fromL_sub' (d : Bool) (ns : List Int) (es : List (Int × Int × Int)) (x y : Int) (hy : y ∈ fromL d ns es x) : y ∈ sortI ns := (List.mem_filter.1 hy).1
theorem reach_congr {ids : List Int} {f g : Int → List Int} (h : ∀ x ∈ ids, f x = g x) (hc : ∀ x y, x ∈ ids → y ∈ g x → y ∈ ids) {u v : Int} (hu : u ∈ ids) : ReachA f u v ↔ ReachA g u v := by
  constructor
  · intro hr
    exact (hr (fun z => z ∈ ids ∧ ReachA g u z) ⟨hu, ReachA.refl _ _⟩ fun a b ha hb => by
      rw [h a ha.1] at hb
      exact ⟨hc a b ha.1 hb, ha.2.step hb⟩).2
  · intro hr
    exact (hr (fun z => z ∈ ids ∧ ReachA f u z) ⟨hu, ReachA.refl _ _⟩ fun a b ha hb => by
      refine ⟨hc a b ha.1 hb, ha.2.step ?_⟩
      rw [h a ha.1]; exact hb).2

theorem graphV_R (d : Bool) (bp : Nat) (ids : List Int) (out inn : List Arcs) : ∃ (t : TypeId) (recv : Value) (fNs fFr : FuncId), graphV d bp = .iface t recv ∧ GraphR t recv fNs fFr (Gr bp ids out inn) ids (nextL ids out) := by
  cases d
  · exact ⟨_, _, _, _, rfl, uGraphR bp ids out inn⟩
  · exact ⟨_, _, _, _, rfl, dGraphR bp ids out inn⟩

set_option maxHeartbeats 2000000 in
set_option maxRecDepth 100000 in
theorem from_calls (d : Bool) (an ae al : Option Addr) (n cn m ce cl : Nat) (ns : List Int) (es : List (Int × Int × Int)) (x : Int) (w : World) (hn : RdI w an n ns) (hr : RdE w ae m es) (hl : RdI w al 1 [x]) (hw : wellB ns es = true) (hx : x ∈ ns) (hn8 : n ≤ 1000) :
    Calls Tryz.prog 72 #[.agg #[.bool d, .slice an n cn, .slice ae m ce], .slice al 1 cl] w fun e w' => ∃ bp : Nat, e = .returned (.tuple #[graphV d bp, .pointer (some ⟨bp, 0, none⟩), .bool true]) ∧ Gr bp (sortI ns) (rowsFrom d (sortI ns) es).1 (rowsFrom d (sortI ns) es).2 w' ∧ Below w.heap.size w w' := by
  have hnl := hn.len
  have HN := Lib.hid hn; have HR := Lib.hid hr; have HW := Lib.hid hw; have HX := Lib.hid hx; have HL := Lib.hid hl
  clear hn hr hw hx hl
  go_enter Tryz.func72, Tryz.ntmps72
  go_wp2_with fail
  refine (open_calls d an ae n cn m ce ns es _ (HN.out.alloc _) (HR.out.alloc _) (by omega)).mono ?_
  rintro e w1 ⟨hb1, bp, rfl, hst⟩
  obtain ⟨hbp, w0', a, c, hrs⟩ := hst HW.out
  rw [HW.out]
  have HB1 : Hid (Below w.heap.size w w1) := ((Below.refl w.heap.size w).alloc (Nat.le_refl _) (.cells #[.bool d, .slice an n cn, .slice ae m ce] 25)).trans (hb1.mono (by simp))
  have HRS := Lib.hid hrs
  obtain ⟨gv, hgv⟩ : ∃ gv, gv = graphV d bp := ⟨_, rfl⟩
  rw [← hgv]
  have HGV := Lib.hid hgv
  obtain ⟨b, off, rfl, hbb, hc⟩ := HL.out.at_ (by omega)
  obtain ⟨x', HX', hcx0⟩ := hc 0 (by omega)
  obtain rfl : x = x' := by have := HX'.out; simpa using this
  have hcx := (HB1.out.cell (p := ⟨b, off + 0, none⟩) hbb).trans hcx0
  have hmem : memB (sortI ns) x = true := by rw [memB_iff, mem_sortI]; exact HX.out
  have HMEM := Lib.hid hmem
  have HBB : Hid (b < w.heap.size) := hbb
  clear hb1 hst hrs hgv hc hcx0 hmem hbb HX'
  go_wp2_with fail
  go_loopw [9, 22] (fun ok i wr => ∃ k : Nat, k ≤ 1 ∧ i = .int .i64 k ∧ ok = .bool true ∧ ∃ q, wr = w1.drewN q) (fun _ i _ => 1 - (intOf i).toNat)
  case atStart => exact ⟨0, by omega, rfl, rfl, 0, rfl⟩
  case round =>
    obtain ⟨k, hk, rfl, rfl, q, rfl⟩ := hrel
    by_cases hk0 : k = 0
    · subst hk0
      obtain ⟨wq, hwq⟩ : ∃ wq, wq = w1.drewN q := ⟨_, rfl⟩
      have hcq : wq.cell? ⟨b, off, none⟩ = some (.int .i64 x) := by rw [hwq]; exact hcx
      have HRQ : Hid (ReadSt w0' bp n (sortI ns) a c (rowsFrom d (sortI ns) es).1 (rowsFrom d (sortI ns) es).2 wq) := by rw [hwq]; exact Lib.hid (HRS.out.later (below_drewN (Below.refl _ _) q))
      rw [← hwq]
      have HWQ := Lib.hid hwq
      clear hwq hcx
      go_wp2_with fail
      refine (pidx_calls bp a n c (sortI ns) x wq HRQ.out.cell HRQ.out.rd (by omega) (sortI_pw _)).mono ?_
      rintro e w2 ⟨rfl, q2, hw2⟩
      rw [HMEM.out]
      have HW2 : Hid (w2 = w1.drewN (q + q2)) := Lib.hid (by rw [hw2, HWQ.out, World.drewN_drewN])
      clear hw2
      go_wp2_with fail
      go_roundw
      case rel => exact ⟨1, by omega, by go_num, rfl, _, HW2.out⟩
      case measure => simp [intOf]
    · obtain rfl : k = 1 := by omega
      clear hcx
      go_wp2_with fail
      go_ret3
      exact ⟨bp, by rw [← HGV.out]; rfl, ⟨w0', a, c, by rw [sortI_len, hnl]; exact HRS.out.later (below_drewN (Below.refl _ _) q), sortI_pw ns, by rw [sortI_len]; omega⟩, below_drewN HB1.out q⟩

set_option maxHeartbeats 1000000 in
theorem until_calls (x v dd : Int) (bx : Nat) (w : World) (hbx : w.cell? ⟨bx, 0, none⟩ = some (nodeV v)) :
    Calls Tryz.prog 127 (#[nodeV x, .int .i64 dd] ++ #[.pointer (some ⟨bx, 0, none⟩)]) w fun e w' => e = .returned (.bool (decide (x = v))) ∧ ∃ q, w' = w.drewN q := by
  show Calls _ _ #[nodeV x, .int .i64 dd, .pointer (some ⟨bx, 0, none⟩)] w _
  unfold nodeV at hbx ⊢
  have m1 := method_ID x; have m2 := method_ID v
  go_enter Tryz.func127, Tryz.ntmps127
  go_wp2_with fail
  go_quiet (first
    | (go_at_call 267; with_reducible exact Calls.quiet_of_same ((nodeID_calls x _).mono (fun _ _ h => ⟨h.1, h.2.symm⟩)))
    | (go_at_call 267; with_reducible exact Calls.quiet_of_same ((nodeID_calls v _).mono (fun _ _ h => ⟨h.1, h.2.symm⟩))))
  go_wp2
  go_ret
  exact ⟨ret_bool (by rw [Bool.eq_iff_iff]; simp), _, rfl⟩

def UC (bx : Nat) (v : Int) : World → (Nat → Prop) → List Int → Prop := fun w S _ => (∀ j, S j ↔ j = bx) ∧ w.heap[bx]? = some (.cells #[nodeV v] 100 (0, 0))

theorem untilClient (bx : Nat) (v : Int) : ClientU 127 #[.pointer (some ⟨bx, 0, none⟩)] (fun x => decide (x = v)) (UC bx v) where
  eU := Tryz.call127
  lt := fun w S p ⟨h1, h2⟩ j hj => by rw [(h1 j).1 hj]; exact (Array.getElem?_eq_some_iff.1 h2).1
  keeps := fun w w' S p ⟨h1, h2⟩ _ hb => ⟨h1, (hb bx ((h1 bx).2 rfl)).trans h2⟩
  asks := fun w S p x d ⟨h1, h2⟩ _ => (until_calls x v d bx w (by rw [cell_of_row w bx 0 _ _ (0, 0) h2]; rfl)).mono fun e w' ⟨he, q, hq⟩ =>
    ⟨he, S, ⟨h1, by rw [hq]; exact h2⟩, by rw [hq]; exact Foot.of_below (below_drewN (Below.refl _ _) q) S, fun j hj => .inl hj⟩

def ExistPost (adj : Int → List Int) (u v : Int) (w : World) (e : Ending) (w' : World) : Prop :=
  ∃ b, e = .returned (.bool b) ∧ (b = true ↔ ReachA adj u v) ∧ Below w.heap.size w w'

set_option maxHeartbeats 2000000 in
set_option maxRecDepth 100000 in
theorem topoExists_calls {t : TypeId} {recv : Value} {fNs fFr : FuncId} {G : World → Prop} {ids : List Int} {adj : Int → List Int} (hG : GraphR t recv fNs fFr G ids adj) (u v : Int) (w : World) (hg : G w) (hu : u ∈ ids) (hwf : ∀ y ∈ ids, (Lit.int .i64 y).wf = true) (hn : ids.length ≤ 100000) :
    Calls Tryz.prog 92 #[.iface t recv, nodeV u, nodeV v] w (ExistPost adj u v w) := by
  have HG := Lib.hid hG; have HGW := Lib.hid hg; have HU := Lib.hid hu; have HWF := Lib.hid hwf
  clear hG hg hu hwf
  show Calls _ _ #[.iface t recv, nodeV u, .iface 133 (.int .i64 v)] w _
  go_enter Tryz.func92, Tryz.ntmps92
  go_wp2_with fail
  obtain ⟨w1, hw1⟩ : ∃ w1, w1 = (w.alloc (.cells #[.iface 133 (.int .i64 v)] 100)).alloc (.cells #[.nilFunc, .nilFunc, .int .i64 0, .slice none 0 0, .map none] 114) := ⟨_, rfl⟩
  have HB1 : Hid (Below w.heap.size w w1) := by rw [hw1]; exact ((Below.refl _ _).alloc (Nat.le_refl _) _).alloc (by simp) _
  have Z1 : w1.heap[w.heap.size + 1]? = some (.cells #[.nilFunc, .nilFunc, .int .i64 0, .slice none 0 0, .map none] 114 (0, 0)) := by
    have h := heap_alloc_new (w.alloc (.cells #[.iface 133 (.int .i64 v)] 100)) (.cells #[.nilFunc, .nilFunc, .int .i64 0, .slice none 0 0, .map none] 114)
    rw [hw1]; simpa using h
  have X1 : w1.heap[w.heap.size]? = some (.cells #[nodeV v] 100 (0, 0)) := by
    rw [hw1, heap_alloc_old _ _ (by simp)]; exact heap_alloc_new w _
  rw [← hw1]
  obtain ⟨bd, hbd⟩ : ∃ bd, bd = w.heap.size + 1 := ⟨_, rfl⟩
  rw [← hbd] at Z1 ⊢
  have hbx : w.heap.size < bd := by omega
  clear hw1
  have HST : Hid (BWalkSt w1 (fun j => j = w.heap.size ∨ j = bd) (UC w.heap.size v) bd 0 none (.slice none 0 0) (fun j => j = w.heap.size) [] [] [] w1) := Lib.hid
    ⟨BfSt.start Z1 (by omega), fun _ => rfl, .inl ⟨rfl, rfl⟩, ⟨fun j => Iff.rfl, X1⟩, (fun b e => by cases e), (fun g hg => by cases hg), by omega, Foot.refl _ _, fun j hj => by
      rcases hj with h | h | h | h
      · exact .inl (.inl h)
      · cases h
      · cases h
      · exact .inl (.inr h)⟩
  have HFB : Hid (∀ w', Foot (fun j => j = w.heap.size ∨ j = bd) w1 w' → Below w.heap.size w w') := Lib.hid fun w' hf => HB1.out.trans (hf.below (fun j hj => by omega) HB1.out.size)
  clear Z1 X1
  refine (bWalk_calls HG.out (untilClient w.heap.size v) (fun w' hf => HG.out.keeps w w' HGW.out (HFB.out w' hf)) HWF.out hn HST.out HU.out (by simp) List.nodup_nil (by simp) (by simp)).mono ?_
  rintro e w2 hpost
  have key : (e = .returned .nilIface ∧ ¬ ReachA adj u v ∧ Below w.heap.size w w2) ∨ (∃ z, e = .returned (.iface 133 (.int .i64 z)) ∧ ReachA adj u v ∧ Below w.heap.size w w2) := by
    rcases hpost with ⟨he, b, v', S, part, hst, hpart, hstop⟩ | ⟨z, he, hz, _, hr, hf⟩
    · refine .inl ⟨he, fun hr => ?_, HFB.out w2 hst.foot⟩
      have hmem : v ∈ part := hr (fun z => z ∈ part) hpart.has (fun a b ha hb => (hpart.closed a ha b hb).resolve_left (by simp))
      have := hstop v hmem
      simp at this
    · have e1 : z = v := by simpa using hz
      subst e1
      exact .inr ⟨z, he, hr, HFB.out w2 hf⟩
  clear hpost
  rcases key with ⟨rfl, hr, hb2⟩ | ⟨z, rfl, hr, hb2⟩
  all_goals
    have HR := Lib.hid hr; have HB2 := Lib.hid hb2
    clear hr hb2
    go_wp2_with fail
    go_ret
  · exact ⟨false, rfl, ⟨fun h => (by cases h), fun h => absurd h HR.out⟩, HB2.out⟩
  · exact ⟨true, rfl, ⟨fun _ => HR.out, fun _ => rfl⟩, HB2.out⟩

set_option maxHeartbeats 2000000 in
set_option maxRecDepth 100000 in
theorem implExists_calls (d : Bool) (an ae : Option Addr) (n cn m ce : Nat) (ns : List Int) (es : List (Int × Int × Int)) (u v : Int) (w : World) (hn : RdI w an n ns) (hr : RdE w ae m es) (hw : wellB ns es = true) (hu : u ∈ ns) (hn8 : n ≤ 1000) (hwf : ∀ x ∈ ns, (Lit.int .i64 x).wf = true) :
    Calls Tryz.prog 46 #[.agg #[.bool d, .slice an n cn, .slice ae m ce], .int .i64 u, .int .i64 v] w fun e w' => ∃ b, e = .returned (.tuple #[.bool b, .bool false]) ∧ (b = true ↔ ReachA (fromL d ns es) u v) ∧ Below w.heap.size w w' := by
  have hnl := hn.len
  have HN := Lib.hid hn; have HR := Lib.hid hr; have HW := Lib.hid hw; have HU := Lib.hid hu; have HWF := Lib.hid hwf
  clear hn hr hw hu hwf
  go_enter Tryz.func46, Tryz.ntmps46
  go_wp2_with fail
  obtain ⟨w1, hw1⟩ : ∃ w1, w1 = (w.alloc (.cells #[.bool d, .slice an n cn, .slice ae m ce] 25)).alloc (.cells #[.int .i64 u] 3) := ⟨_, rfl⟩
  have HB1 : Hid (Below w.heap.size w w1) := by rw [hw1]; exact ((Below.refl _ _).alloc (Nat.le_refl _) _).alloc (by simp) _
  have X1 : w1.heap[w.heap.size + 1]? = some (.cells #[.int .i64 u] 3 (0, 0)) := by
    have h := heap_alloc_new (w.alloc (.cells #[.bool d, .slice an n cn, .slice ae m ce] 25)) (.cells #[.int .i64 u] 3)
    rw [hw1]; simpa using h
  have HL : Hid (RdI w1 (some ⟨w.heap.size + 1, 0, none⟩) 1 [u]) := ⟨rfl, by omega, fun _ => ⟨_, 0, rfl, (Array.getElem?_eq_some_iff.1 X1).1, fun j hj => by
    have h0 : j = 0 := by omega
    subst h0
    exact ⟨u, rfl, by rw [cell_of_row w1 _ _ _ _ (0, 0) X1]; rfl⟩⟩⟩
  rw [← hw1]
  clear hw1 X1
  refine (from_calls d an ae _ n cn m ce _ ns es u w1 (HN.out.below HB1.out (Nat.le_refl _)) (HR.out.below HB1.out (Nat.le_refl _)) HL.out HW.out HU.out hn8).mono ?_
  rintro e w2 ⟨bp, rfl, hgr, hb2⟩
  obtain ⟨t, recv, fNs, fFr, egv, hGO⟩ := graphV_R d bp (sortI ns) (rowsFrom d (sortI ns) es).1 (rowsFrom d (sortI ns) es).2
  rw [egv]
  have HGO := Lib.hid hGO; have HGR := Lib.hid hgr
  have HB2 := Lib.hid (HB1.out.trans (hb2.mono HB1.out.size))
  have HEX : Hid (Calls Tryz.prog 92 #[.iface t recv, .iface 133 (.int .i64 u), .iface 133 (.int .i64 v)] w2 (ExistPost (nextL (sortI ns) (rowsFrom d (sortI ns) es).1) u v w2)) :=
    Lib.hid (topoExists_calls HGO.out u v w2 HGR.out (mem_sortI.2 HU.out) (fun y hy => HWF.out y (mem_sortI.1 hy)) (by rw [sortI_len]; omega))
  clear egv hGO hgr hb2 HL
  go_wp2_with fail
  refine HEX.out.mono ?_
  rintro e w3 ⟨b, rfl, hbi, hb3⟩
  have HB3 := Lib.hid (HB2.out.trans (hb3.mono HB2.out.size))
  have HBI : Hid (b = true ↔ ReachA (fromL d ns es) u v) := Lib.hid (hbi.trans (reach_congr (fun x hx => next_from HW.out hx) (fun x y _ hy => fromL_sub' d ns es x y hy) (mem_sortI.2 HU.out)))
  clear hbi hb3 HEX
  go_wp2_with fail
  go_ret2
  exact ⟨b, rfl, HBI.out, HB3.out⟩
end Go.Proofs.YtbkoifdnlaihfaaGreat
