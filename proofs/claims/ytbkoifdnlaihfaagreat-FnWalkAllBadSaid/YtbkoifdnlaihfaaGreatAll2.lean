/- The walks of plain.all and plain.ends over a graph that read has made. -/
import Derived.Test.YtbkoifdnlaihfaaGreatAll
import Derived.Test.YtbkoifdnlaihfaaGreatReadMem
namespace Go.Proofs.YtbkoifdnlaihfaaGreat
open Go.RowKit

/-- An empty list of nodes with room for k. -/
theorem make_nodes (W : World) (k : Nat) (hk : k ≤ 1000000) : (Instr.makeSlice 104 (.int .i64 0) (.int .i64 k)).run Tryz.prog W = .ok (.slice (some ⟨W.heap.size, 0, none⟩) 0 k) (W.alloc (.cells (madeCells (Value.nilIface).cells k) 100)) := by
  obtain ⟨i0, hi0, hz0, hz1, hz2⟩ := info_parts node_info
  have := run_make (P := Tryz.prog) W 104 100 i0 _ Tryz.underlying104 hi0 hz0 .i64 .i64 0 k (by omega) (by omega) (by rw [hz2]; omega) (by omega)
  rw [this, hz1, Int.toNat_natCast, Nat.mul_one]
  rfl

set_option maxHeartbeats 1000000 in
theorem all_calls (w0 : World) (bp k : Nat) (ids : List Int) (a : Option Addr) (c : Nat) (out inn : List Arcs) (w : World) (h : ReadSt w0 bp k ids a c out inn w) (hk : k ≤ 1000000) :
    Calls Tryz.prog 240 #[.pointer (some ⟨bp, 0, none⟩)] w (NewIter ids w) := by
  have H := Lib.hid h; clear h
  have HR := Lib.hid H.out.rd
  have q0 := H.out.cell
  have hbp := H.out.size
  obtain ⟨i0, hi0, hz0, hz1, hz2⟩ := info_parts node_info
  have HI := Lib.hid (And.intro hi0 (And.intro hz0 (And.intro hz1 hz2)))
  clear hi0 hz0 hz1 hz2
  have hmk := make_nodes w k hk
  have HOWN := Lib.hid (World.ownsRow_made (base := w.heap.size) (e := 100) (size := 1) w (madeCells (Value.nilIface).cells k) k (Nat.le_refl _) (by unfold maxLen; omega) (by rw [size_madeCells]; omega))
  have HB0 := Lib.hid ((Below.refl w.heap.size w).alloc (Nat.le_refl _) (.cells (madeCells (Value.nilIface).cells k) 100))
  go_enter Tryz.func240, Tryz.ntmps240
  go_wp2_with fail
  go_loopw [3, 17] (fun v i wr => ∃ t : Nat, t ≤ k ∧ i = .int .i64 t ∧ wr.ownsRow w.heap.size 100 1 v t ((ids.take t).map nodeV) ∧ Below w.heap.size w wr) (fun _ i _ => k - (intOf i).toNat)
  case atStart => exact ⟨0, by omega, rfl, HOWN.out, HB0.out⟩
  case round =>
    obtain ⟨t, ht, rfl, ho, hb⟩ := hrel
    obtain ⟨a1, c1, rfl⟩ := own_shape' ho
    have HO := Lib.hid ho; have HB := Lib.hid hb
    have hszr := hb.size
    clear ho
    by_cases hlt : t < k
    · obtain ⟨b, off, rfl, hbb, hc⟩ := HR.out.at_ (by omega)
      obtain ⟨z, HZ, hcz⟩ := hc t hlt
      have hck := (hb.cell (p := ⟨b, off + t, none⟩) hbb).trans hcz
      have hbr : b < wr.heap.size := by omega
      clear hc hcz hb
      obtain ⟨hi0, hz0, hz1, hz2⟩ := HI.out
      have hsm : (t + 1) * 16 ≤ 140737488355328 := by omega
      go_wp2_with (at_builtin; refine wpList_append_own _ rfl _ _ 104 rfl w.heap.size 100 i0 .nilIface 1 16 Tryz.underlying104 hi0 hz0 hz1 hz2 rfl (by decide) _ _ _ rfl (HO.out.alloc _) ⟨wr.heap.size, 0, none⟩ 1 1 [nodeV z] rfl rfl ?c1 ?c2 ?c3 ?c4 ?c5 ?_)
      case c1 => intro j u hj; match j, hj with | 0, hj => simp at hj; subst hj; simp [Addr.add, nodeV]
      case c2 => intro u hu; simp at hu; subst hu; rfl
      case c3 => unfold maxLen; omega
      case c4 => exact hsm
      case c5 => simp; omega
      intro v' w' hown' hgrow _
      obtain ⟨a', c', rfl⟩ := own_shape' hown'
      have HO' := Lib.hid hown'
      have HB' : Hid (Below w.heap.size w w') := (HB.out.alloc (by omega) _).grown hgrow (by simp; omega) (fun j hj => (HO.out.lt j hj).1)
      clear hown' hgrow
      go_wp2
      go_roundw
      case rel =>
        refine ⟨t + 1, by omega, by go_num, ?_, HB'.out⟩
        have e2 : (ids.take (t + 1)).map nodeV = List.map nodeV (ids.take t) ++ [nodeV z] := by
          have hkl : t < ids.length := by rw [HR.out.len]; exact hlt
          rw [List.take_succ_eq_append_getElem hkl, List.map_append]
          have := HZ.out; simp [List.getD, hkl] at this; simp [this]
        rw [e2]; have := HO'.out; simpa using this
      case measure => simp [intOf]; omega
    · obtain rfl : t = k := by omega
      have hlen := HR.out.len
      subst hlen
      have HO2 : Hid (wr.ownsRow w.heap.size 100 1 (.slice a1 ids.length c1) ids.length (ids.map nodeV)) := by
        have := HO.out
        rwa [List.take_length] at this
      go_wp2_with fail
      refine (newOrdered_calls w.heap.size _ ids wr HO2.out hk (by omega)).mono ?_
      rintro e w2 ⟨bi, rfl, hit, hb2⟩
      have HIT := Lib.hid hit
      have HB2 := Lib.hid (HB.out.trans (hb2.mono hszr))
      clear hit hb2
      go_wp2_with fail
      go_ret
      exact ⟨bi, rfl, HIT.out, HB2.out⟩
end Go.Proofs.YtbkoifdnlaihfaaGreat
