/- The walks of plain.all and plain.ends over a graph that read has made. The walk of plain.ends over a graph that read has made. -/
import Derived.Test.YtnfkbjgijelfdaaGreatIter
import Derived.Test.YtnfkbjgijelfdaaGreatReadMem
import Derived.BigRegion
import Derived.Deep.AppendLies
import Derived.Deep.RegionHeld3
import Derived.StillTailTactics
namespace Go.Proofs.YtnfkbjgijelfdaaGreat
open Go.RowKit

/-- An empty list of nodes with room for k. -/
theorem make_nodes (W : World) (k : Nat) (hk : k ≤ 1000000) : (Instr.makeSlice 77 (.int .i64 0) (.int .i64 k)).run Tryz.prog W = .ok (.slice (some ⟨W.heap.size, 0, none⟩) 0 k) (W.alloc (.cells (madeCells (Value.nilIface).cells k) 103)) := by
  obtain ⟨i0, hi0, hz0, hz1, hz2⟩ := info_parts node_info
  have := run_make (P := Tryz.prog) W 77 103 i0 _ Tryz.underlying77 hi0 hz0 .i64 .i64 0 k (by omega) (by omega) (by rw [hz2]; omega) (by omega)
  rw [this, hz1, Int.toNat_natCast, Nat.mul_one]
  rfl

set_option maxHeartbeats 1000000 in
theorem all_calls (w0 : World) (bp k : Nat) (ids : List Int) (a : Option Addr) (c : Nat) (out inn : List Arcs) (w : World) (h : ReadSt w0 bp k ids a c out inn w) (hk : k ≤ 1000000) :
    Calls Tryz.prog 223 #[.pointer (some ⟨bp, 0, none⟩)] w (NewIter ids w) := by
  have H := Lib.hid h; clear h
  have HR := Lib.hid H.out.rd
  have q0 := H.out.cell
  have hbp := H.out.size
  obtain ⟨i0, hi0, hz0, hz1, hz2⟩ := info_parts node_info
  have HI := Lib.hid (And.intro hi0 (And.intro hz0 (And.intro hz1 hz2)))
  clear hi0 hz0 hz1 hz2
  have hmk := make_nodes w k hk
  have HOWN := Lib.hid (World.ownsRow_made (base := w.heap.size) (e := 103) (size := 1) w (madeCells (Value.nilIface).cells k) k (Nat.le_refl _) (by unfold maxLen; omega) (by rw [size_madeCells]; omega))
  have HB0 := Lib.hid ((Below.refl w.heap.size w).alloc (Nat.le_refl _) (.cells (madeCells (Value.nilIface).cells k) 103))
  go_enter Tryz.func223, Tryz.ntmps223
  go_wp2_with fail
  go_loopw [3, 17] (fun v i wr => ∃ t : Nat, t ≤ k ∧ i = .int .i64 t ∧ wr.ownsRow w.heap.size 103 1 v t ((ids.take t).map nodeV) ∧ Below w.heap.size w wr) (fun _ i _ => k - (intOf i).toNat)
  case atStart => exact ⟨0, by omega, rfl, HOWN.out, HB0.out⟩
  case round =>
    obtain ⟨t, ht, rfl, ho, hb⟩ := hrel
    obtain ⟨a1, c1, rfl⟩ := own_shape' ho
    have HO := Lib.hid ho; have HB := Lib.hid hb
    have hszr := hb.size
    clear ho
    by_cases hlt : t < k
    · obtain ⟨b, off, rfl, hbb, hc⟩ := HR.out.at_ (by omega)
      obtain ⟨z, HZ, hcz⟩ := hc t hlt
      have hck := (hb.cell (p := ⟨b, off + t, none⟩) hbb).trans hcz
      have hbr : b < wr.heap.size := by omega
      clear hc hcz hb
      obtain ⟨hi0, hz0, hz1, hz2⟩ := HI.out
      have hsm : (t + 1) * 16 ≤ 140737488355328 := by omega
      go_wp2_with (at_builtin; refine wpList_append_own _ rfl _ _ 77 rfl w.heap.size 103 i0 .nilIface 1 16 Tryz.underlying77 hi0 hz0 hz1 hz2 rfl (by decide) _ _ _ rfl (HO.out.alloc _) ⟨wr.heap.size, 0, none⟩ 1 1 [nodeV z] rfl rfl ?c1 ?c2 ?c3 ?c4 ?c5 ?_)
      case c1 => intro j u hj; match j, hj with | 0, hj => simp at hj; subst hj; simp [Addr.add, nodeV]
      case c2 => intro u hu; simp at hu; subst hu; rfl
      case c3 => unfold maxLen; omega
      case c4 => exact hsm
      case c5 => simp; omega
      intro v' w' hown' hgrow _
      obtain ⟨a', c', rfl⟩ := own_shape' hown'
      have HO' := Lib.hid hown'
      have HB' : Hid (Below w.heap.size w w') := (HB.out.alloc (by omega) _).grown hgrow (by simp; omega) (fun j hj => (HO.out.lt j hj).1)
      clear hown' hgrow
      go_wp2
      go_roundw
      case rel =>
        refine ⟨t + 1, by omega, by go_num, ?_, HB'.out⟩
        have e2 : (ids.take (t + 1)).map nodeV = List.map nodeV (ids.take t) ++ [nodeV z] := by
          have hkl : t < ids.length := by rw [HR.out.len]; exact hlt
          rw [List.take_succ_eq_append_getElem hkl, List.map_append]
          have := HZ.out; simp [List.getD, hkl] at this; simp [this]
        rw [e2]; have := HO'.out; simpa using this
      case measure => simp [intOf]; omega
    · obtain rfl : t = k := by omega
      have hlen := HR.out.len
      subst hlen
      have HO2 : Hid (wr.ownsRow w.heap.size 103 1 (.slice a1 ids.length c1) ids.length (ids.map nodeV)) := by
        have := HO.out
        rwa [List.take_length] at this
      go_wp2_with fail
      refine (newOrdered_calls w.heap.size _ ids wr HO2.out hk (by omega)).mono ?_
      rintro e w2 ⟨bi, rfl, hit, hb2⟩
      have HIT := Lib.hid hit
      have HB2 := Lib.hid (HB.out.trans (hb2.mono hszr))
      clear hit hb2
      go_wp2_with fail
      go_ret
      exact ⟨bi, rfl, HIT.out, HB2.out⟩
end Go.Proofs.YtnfkbjgijelfdaaGreat
namespace Go.Proofs.YtnfkbjgijelfdaaGreat
open Go.RowKit

/-- The nodes that arcs lead to. -/
def endsL (ids : List Int) (l : Arcs) : List Int := l.map fun x => ids.getD x.1 0

set_option maxHeartbeats 1000000 in
set_option maxRecDepth 100000 in
theorem ends_calls (w0 : World) (bp k : Nat) (ids : List Int) (a : Option Addr) (c : Nat) (out inn : List Arcs) (w : World) (h : ReadSt w0 bp k ids a c out inn w) (hk : k ≤ 1000000)
    (al : Option Addr) (cl : Nat) (l : Arcs) (hl : RdA w al l.length l) (hto : ∀ x ∈ l, x.1 < k) (hl6 : l.length ≤ 1000000) :
    Calls Tryz.prog 221 #[.pointer (some ⟨bp, 0, none⟩), .slice al l.length cl] w (NewIter (endsL ids l) w) := by
  have H := Lib.hid h; clear h
  have HR := Lib.hid H.out.rd
  have HL := Lib.hid hl; clear hl
  have HTO := Lib.hid hto; clear hto
  have hbp := H.out.size
  obtain ⟨i0, hi0, hz0, hz1, hz2⟩ := info_parts node_info
  have HI := Lib.hid (And.intro hi0 (And.intro hz0 (And.intro hz1 hz2)))
  clear hi0 hz0 hz1 hz2
  have hmk := make_nodes w l.length hl6
  have HOWN := Lib.hid (World.ownsRow_made (base := w.heap.size) (e := 103) (size := 1) w (madeCells (Value.nilIface).cells l.length) l.length (Nat.le_refl _) (by unfold maxLen; omega) (by rw [size_madeCells]; omega))
  have HB0 := Lib.hid ((Below.refl w.heap.size w).alloc (Nat.le_refl _) (.cells (madeCells (Value.nilIface).cells l.length) 103))
  go_enter Tryz.func221, Tryz.ntmps221
  go_wp2_with fail
  go_loopw [5, 13] (fun v i wr => ∃ t : Nat, t ≤ l.length ∧ i = .int .i64 t ∧ wr.ownsRow w.heap.size 103 1 v t ((endsL ids (l.take t)).map nodeV) ∧ Below w.heap.size w wr) (fun _ i _ => l.length - (intOf i).toNat)
  case atStart => exact ⟨0, by omega, rfl, HOWN.out, HB0.out⟩
  case round =>
    obtain ⟨t, ht, rfl, ho, hb⟩ := hrel
    obtain ⟨a1, c1, rfl⟩ := own_shape' ho
    have HO := Lib.hid ho; have HB := Lib.hid hb
    have hszr := hb.size
    clear ho
    by_cases hlt : t < l.length
    · obtain ⟨b, off, rfl, hbb, hc⟩ := HL.out.at_ (by omega)
      obtain ⟨y, f, HY, c2, c3⟩ := hc t hlt
      have hck := (hb.cell (p := ⟨b, _, none⟩) hbb).trans c2
      have hck2 := (hb.cell (p := ⟨b, _, none⟩) hbb).trans c3
      have hbr : b < wr.heap.size := by omega
      clear hc c2 c3 hb
      obtain ⟨wa, hwa⟩ : ∃ wa, wa = wr.alloc (.cells #[.int .i64 (y : Int), .float .f64 f] 248) := ⟨_, rfl⟩
      have HBA : Hid (Below wr.heap.size wr wa) := by rw [hwa]; exact (Below.refl _ _).alloc (Nat.le_refl _) _
      have z1 : wa.heap[wr.heap.size]? = some (.cells #[.int .i64 (y : Int), .float .f64 f] 248 (0, 0)) := by rw [hwa]; exact heap_alloc_new wr _
      have HOA : Hid (wa.ownsRow w.heap.size 103 1 (.slice a1 t c1) t ((endsL ids (l.take t)).map nodeV)) := by rw [hwa]; exact HO.out.alloc _
      have HHA : Hid (ReadSt w0 bp k ids a c out inn wa) := (H.out.later HB.out).later HBA.out
      have y0 : wa.cell? ⟨wr.heap.size, 0, none⟩ = some (.int .i64 (y : Int)) := by rw [cell_of_row wa _ 0 _ _ (0, 0) z1]; rfl
      have q0 := HHA.out.cell
      have hyk : y < k := HTO.out (y, f) (List.mem_of_getElem? HY.out)
      obtain ⟨b3, off3, rfl, hb3, hc3⟩ := HR.out.at_ (by omega)
      obtain ⟨z, HZ, hz0'⟩ := hc3 y hyk
      have hz : wa.cell? ⟨b3, off3 + y, none⟩ = some (.int .i64 z) := (HBA.out.cell (p := ⟨b3, _, none⟩) (by show b3 < _; omega)).trans ((HB.out.cell (p := ⟨b3, _, none⟩) hb3).trans hz0')
      have ag : (Value.slice a1 t c1).ownBlock ≠ some bp := fun e => by have := HO.out.lt _ e; omega
      have ak : (Value.slice a1 t c1).ownBlock ≠ some wr.heap.size := fun e => by have := HO.out.lt _ e; omega
      have av : (Value.slice a1 t c1).ownBlock ≠ some b3 := fun e => by have := HO.out.lt _ e; omega
      have hsz : wa.heap.size = wr.heap.size + 1 := by rw [hwa]; simp
      have hy0' : (0 : Int) ≤ (y : Int) := Int.natCast_nonneg _
      have hy1 : (y : Int) < (k : Int) := by omega
      obtain ⟨hi0, hz0, hz1, hz2⟩ := HI.out
      have hsm : (t + 1) * 16 ≤ 140737488355328 := by omega
      have hmx : t + 1 ≤ maxLen := by unfold maxLen; omega
      have AG := Lib.hid (And.intro ag (And.intro ak av))
      clear hc3 hz0' ag ak av
      go_wp2_with fail
      rw [← hwa]
      clear hwa
      go_region_held3 (fun w' => w'.cell? ⟨bp, 0, none⟩ = some (.slice (some ⟨b3, off3, none⟩) k c) ∧ w'.cell? ⟨wr.heap.size, 0, none⟩ = some (.int .i64 (y : Int)) ∧ w'.cell? ⟨b3, off3 + y, none⟩ = some (.int .i64 z))
        (first
          | go_keep
          | (go_split_ands
             refine ⟨?_, ?_, ?_⟩
             · (rw [hgrow.cell_far _ (by simp; omega) (Ne.symm AG.out.1)]; assumption)
             · (rw [hgrow.cell_far _ (by simp; omega) (Ne.symm AG.out.2.1)]; assumption)
             · (rw [hgrow.cell_far _ (by simp; omega) (Ne.symm AG.out.2.2)]; assumption)))
        ((refine step_append_lies _ (by rfl) _ _ _ (by rfl) w.heap.size 103 i0 .nilIface 1 16 Tryz.underlying77 hi0 hz0 hz1 hz2 rfl (by decide) (.slice a1 t c1) t _ (by rfl) ((HOA.out.alloc _).drew) ⟨wr.heap.size + 1, 0, none⟩ 1 1 [nodeV z] (by rfl) (by rfl) (World.news_of_block (cs := #[nodeV z]) (t := 103) (fr := (0, 0)) (hsz ▸ heap_alloc_new wa _)) (by simp [Value.oneCell', nodeV]) (by omega) hmx hsm (by simp; omega) (wr.heap.size + 2) (by simp [hsz]) ?_; intro gg cap w1 hown1 hgrow hat hlt1))
      have HO' := Lib.hid hown1
      have HB' : Hid (Below w.heap.size w w1) := (below_drewN ((HB.out.trans (HBA.out.mono hszr)).alloc (by omega) _) 1).grown hgrow (by simp; omega) (fun j hj => (HO.out.lt j hj).1)
      clear hown1 hgrow hat q0 y0 hz z1
      go_wp2
      go_roundw
      case rel =>
        refine ⟨t + 1, by omega, by go_num, ?_, HB'.out⟩
        have e2 : (endsL ids (l.take (t + 1))).map nodeV = List.map nodeV (endsL ids (l.take t)) ++ [nodeV z] := by
          rw [List.take_succ_eq_append_getElem hlt]
          unfold endsL
          rw [List.map_append, List.map_append]
          have h1 := HY.out; simp [hlt] at h1
          have h2 := HZ.out
          simp only [List.map_cons, List.map_nil, h1, h2]
        rw [e2]; exact HO'.out
      case measure => simp [intOf]; omega
    · obtain rfl : t = l.length := by omega
      have HO2 : Hid (wr.ownsRow w.heap.size 103 1 (.slice a1 l.length c1) (endsL ids l).length ((endsL ids l).map nodeV)) := by
        have := HO.out
        rw [List.take_length] at this
        rwa [show (endsL ids l).length = l.length by simp [endsL]]
      have hlen : (endsL ids l).length ≤ 1000000 := by simp [endsL]; omega
      go_wp2_with fail
      refine (newOrdered_calls w.heap.size _ (endsL ids l) wr HO2.out hlen (by omega)).mono ?_
      rintro e w2 ⟨bi, rfl, hit, hb2⟩
      have HIT := Lib.hid hit
      have HB2 := Lib.hid (HB.out.trans (hb2.mono hszr))
      clear hit hb2
      go_wp2_with fail
      go_ret
      exact ⟨bi, rfl, HIT.out, HB2.out⟩
end Go.Proofs.YtnfkbjgijelfdaaGreat
