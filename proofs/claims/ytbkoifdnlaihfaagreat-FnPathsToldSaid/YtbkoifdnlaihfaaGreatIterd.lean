/- The walks of number and iterated (over any iterator); slices.Sort at int. -/
import Derived.Test.YtbkoifdnlaihfaaGreatIter
import Derived.Test.YtbkoifdnlaihfaaGreatRead1
import Derived.Test.YtbkoifdnlaihfaaGreatOpen
namespace Go.Proofs.YtbkoifdnlaihfaaGreat
open Go.RowKit Go.Sort

theorem sortInt_calls (B : Nat) (v : Value) (n : Nat) (zs : List Int) (w : World) (hown : w.ownsRow B 3 1 v n (zs.map (Value.int .i64))) (hn : n < 4611686018427387904) :
    Calls Tryz.prog 118 #[v] w (SortPost 3 B v n zs w) := by
  have hown' := hown
  obtain ⟨h1, ⟨rfl, rfl⟩ | ⟨g, cap, cur, rfl, hb, hg, h3, h4, h5, h6⟩⟩ := hown
  · obtain rfl : zs = [] := List.eq_nil_of_length_eq_zero (by simpa using h1)
    have hc : Calls Tryz.prog 118 #[.slice none 0 0] w fun e w' => e = .returned (.tuple #[]) ∧ w' = w := by
      first | exact Tryz.slices_Sort_int_none none 0 w | exact Tryz.slices_Sort_int_none_f118 none 0 w
    refine hc.mono ?_
    rintro e w' ⟨rfl, rfl⟩
    exact ⟨rfl, by simpa [sortI] using World.ownsRow_nil w' B 3 1, rfl, rfl, rfl, Nat.le_refl _, fun _ _ _ => rfl⟩
  · obtain ⟨hi, hl, hbg, hcap, hmax⟩ := IntBlk.of_owns hown'
    subst hl
    have hc : Calls Tryz.prog 118 #[.slice (some ⟨g, 0, none⟩) zs.length cap] w fun e w' =>
        e = .returned (.tuple #[]) ∧ ∃ n os, w' = grow (putRow (Value.int .i64) (Sort.ahead w n) g 0 (zs.mergeSort fun x y => decide (x ≤ y)).toArray) os := by
      first | exact Tryz.slices_Sort_int g 0 cap zs w (holds_of_blk hi) hi.lt hn | exact Tryz.slices_Sort_int_f118 g 0 cap zs w (holds_of_blk hi) hi.lt hn
    refine hc.mono ?_
    rintro e w' ⟨rfl, q, os, rfl⟩
    have hb2 := blk_putRow hi (sortI_len zs) q os
    refine ⟨rfl, ?_, grownBy_putRow _⟩
    have := hb2.owns hb hmax
    rw [sortI_len] at this
    exact this

set_option maxHeartbeats 400000 in
theorem number_calls (x : Int) (w : World) : Calls Tryz.prog 59 #[nodeV x] w fun e w' => e = .returned (.int .i64 x) ∧ w = w' := by
  unfold nodeV
  have m1 := method_ID
  go_enter Tryz.func59, Tryz.ntmps59
  go_wp2_with fail
  refine (nodeID_calls x w).mono ?_
  rintro e w' ⟨rfl, rfl⟩
  go_wp2_with fail
  go_ret
  exact ⟨rfl, rfl⟩

def slLen : Value → Nat
  | .slice _ n _ => n
  | _ => 0

theorem own_within {w w' : World} {B E B' : Nat} {e : TypeId} {size : Nat} {v : Value} {n : Nat} {xs : List Value} (h : w.ownsRow B' e size v n xs) (hw : Within B E w w') (hB : E ≤ B') : w'.ownsRow B' e size v n xs :=
  ownsRow_of_heap h (fun g hg => hw.2.2.2.2 g (.inr (by have := h.lt g hg; omega)))

theorem Within.below {B E : Nat} {w0 w w' : World} (hb : Below B w0 w) (hw : Within B E w w') : Below B w0 w' :=
  hb.trans ⟨hw.1, hw.2.1, hw.2.2.1, hw.2.2.2.1, fun j hj => hw.2.2.2.2 j (.inl hj)⟩

def ItdPost (B : Nat) (ns : List Int) (w : World) (e : Ending) (w' : World) : Prop :=
  ∃ v, e = .returned v ∧ w'.ownsRow w.heap.size 3 1 v ns.length ((sortI ns).map (Value.int .i64)) ∧ Below B w w'

theorem int_info : (Tryz.prog.info? 3).map (fun i => (i.zero, i.size, i.bytes)) = some (some (.int .i64 0), 1, 8) := by kernel_rfl

set_option maxHeartbeats 1000000 in
set_option maxRecDepth 100000 in
theorem iterated_calls (B E : Nat) (t : TypeId) (recv : Value) (fN fV : FuncId) (P : World → Option Int → List Int → Prop) (hI : IsIter B E t recv fN fV P) (c : Option Int) (ns : List Int) (w : World)
    (hP : P w c ns) (hE : w.heap.size = E) (hB : B ≤ E) (hn : ns.length ≤ 1000000) :
    Calls Tryz.prog 95 #[.iface t recv] w (ItdPost B ns w) := by
  have HI := Lib.hid hI
  have HP := Lib.hid hP
  have HE := Lib.hid hE
  have m1 := hI.mNext; have m2 := hI.aNext; have m3 := hI.mNode; have m4 := hI.aNode; have m5 := hI.eNext; have m6 := hI.eNode
  clear hI hP hE
  obtain ⟨i0, hi0, hz0, hz1, hz2⟩ := info_parts int_info
  have HF := Lib.hid (And.intro hi0 (And.intro hz0 (And.intro hz1 hz2)))
  clear hi0 hz0 hz1 hz2
  go_enter Tryz.func95, Tryz.ntmps95
  go_wp2_with fail
  go_loopw [3] (fun v wr => ∃ (k : Nat) (c : Option Int) (l : List Int), k + l.length = ns.length ∧ ns.drop k = l ∧ wr.ownsRow w.heap.size 3 1 v k ((ns.take k).map (Value.int .i64)) ∧ P wr c l ∧ Below B w wr ∧ w.heap.size ≤ wr.heap.size) (fun v _ => ns.length - slLen v)
  case atStart => exact ⟨0, c, ns, by omega, rfl, World.ownsRow_nil _ _ _ _, HP.out, Below.refl _ _, Nat.le_refl _⟩
  case round =>
    obtain ⟨k, c1, l, hk, hl, ho, hp, hb, hsr⟩ := hrel
    obtain ⟨a1, cp1, rfl⟩ := own_shape' ho
    have HO := Lib.hid ho; have HB := Lib.hid hb; have HL := Lib.hid hl; have HPP := Lib.hid hp
    clear ho hb hl hp
    cases l with
    | nil =>
      go_wp2_with fail
      refine (HI.out.next wr c1 [] HPP.out).mono ?_
      rintro e w1 ⟨rfl, hp1, hw1⟩
      have HO1 := Lib.hid (own_within HO.out hw1 (Nat.le_of_eq HE.out.symm))
      have HB1 := Lib.hid (Within.below HB.out hw1)
      have hb0 : (!([] : List Int).isEmpty) = false := rfl
      rw [hb0]
      have hsz := hw1.2.2.2.1
      clear hw1 hp1 m1 m2 m3 m4 m5 m6
      obtain rfl : k = ns.length := by simpa using hk
      rw [List.take_length] at HO1
      go_wp2_with fail
      refine (sortInt_calls w.heap.size _ _ ns w1 HO1.out (by omega)).mono ?_
      rintro e w2 ⟨rfl, ho2, hg2⟩
      have HO2 := Lib.hid ho2
      have HB2 := Lib.hid (HB1.out.grown hg2 (by have := HE.out; omega) (fun j hj => Nat.le_trans (by rw [HE.out]; exact hB) (HO1.out.lt j hj).1))
      clear ho2 hg2
      go_wp2_with fail
      go_ret
      exact ⟨_, rfl, HO2.out, HB2.out⟩
    | cons z l =>
      go_wp2_with fail
      refine (HI.out.next wr c1 (z :: l) HPP.out).mono ?_
      rintro e w1 ⟨rfl, hp1, hw1⟩
      have HO1 := Lib.hid (own_within HO.out hw1 (Nat.le_of_eq HE.out.symm))
      have HB1 := Lib.hid (Within.below HB.out hw1)
      have HP1 := Lib.hid hp1
      have hb0 : (!(z :: l).isEmpty) = true := rfl
      rw [hb0]
      have hs1 := hw1.2.2.2.1
      clear hw1 hp1
      go_wp2_with fail
      refine (HI.out.node w1 z l HP1.out).mono ?_
      rintro e w2 ⟨rfl, hp2, hw2⟩
      have HO2 := Lib.hid (own_within HO1.out hw2 (Nat.le_of_eq HE.out.symm))
      have HB2 := Lib.hid (Within.below HB1.out hw2)
      have HP2 := Lib.hid hp2
      have HS2 : Hid (w.heap.size ≤ w2.heap.size) := Lib.hid (by have := hw2.2.2.2.1; omega)
      clear hw2 hp2 hs1 m1 m2 m3 m4 m5 m6
      go_wp2_with fail
      refine (number_calls z w2).mono ?_
      rintro e w3 ⟨rfl, rfl⟩
      obtain ⟨hi0, hz0, hz1, hz2⟩ := HF.out
      have hkn : k < ns.length := by simp at hk; omega
      have hsm : (k + 1) * 8 ≤ 140737488355328 := by omega
      go_wp2_with (at_builtin; refine wpList_append_own _ rfl _ _ 22 rfl w.heap.size 3 i0 (.int .i64 0) 1 8 Tryz.underlying22 hi0 hz0 hz1 hz2 rfl (by decide) _ _ _ rfl (HO2.out.alloc _) ⟨w2.heap.size, 0, none⟩ 1 1 [.int .i64 z] rfl rfl ?c1 ?c2 ?c3 ?c4 ?c5 ?_)
      case c1 => intro j u hj; match j, hj with | 0, hj => simp at hj; subst hj; simp [Addr.add]
      case c2 => intro u hu; simp at hu; subst hu; rfl
      case c3 => unfold maxLen; omega
      case c4 => exact hsm
      case c5 => have := HS2.out; simp; omega
      intro v' w' hown' hgrow _
      obtain ⟨a', c', rfl⟩ := own_shape' hown'
      have HO' := Lib.hid hown'
      have HBE : Hid (Below E w2 w') := ((Below.refl E w2).alloc (by have := HS2.out; have := HE.out; omega) _).grown hgrow (by have := HS2.out; have := HE.out; simp; omega) (fun j hj => by have := (HO2.out.lt j hj).1; have := HE.out; omega)
      have HB' : Hid (Below B w w') := HB2.out.trans (HBE.out.mono hB)
      have HP' := Lib.hid (HI.out.keeps w2 w' _ _ HP2.out HBE.out)
      have HS' : Hid (w.heap.size ≤ w'.heap.size) := Nat.le_trans HS2.out HBE.out.size
      clear hown' hgrow hb0
      go_wp2
      go_roundw
      case rel =>
        refine ⟨k + 1, some z, l, by simp at hk; omega, ?_, ?_, HP'.out, HB'.out, HS'.out⟩
        · have := HL.out
          rw [← List.drop_drop, this]; rfl
        · have e2 : (ns.take (k + 1)).map (Value.int .i64) = List.take k (List.map (Value.int .i64) ns) ++ [Value.int .i64 z] := by
            rw [List.take_succ_eq_append_getElem hkn, List.map_append, List.map_take]
            have h1 := HL.out
            rw [List.drop_eq_getElem_cons hkn] at h1
            simp only [List.cons.injEq] at h1
            simp [h1.1]
          rw [e2]; exact HO'.out
      case measure => simp [slLen]; omega
end Go.Proofs.YtbkoifdnlaihfaaGreat
