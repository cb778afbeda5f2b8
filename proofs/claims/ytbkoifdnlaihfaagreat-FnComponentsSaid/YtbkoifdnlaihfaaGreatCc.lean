/- The closures of topo.ConnectedComponents. The walk of topo.ConnectedComponents. -/
import Derived.Test.YtbkoifdnlaihfaaGreatLolG
import Derived.Test.YtbkoifdnlaihfaaGreatOut
import Derived.Test.YtbkoifdnlaihfaaGreatDfsAll
import Derived.Deep.AppendLies
import Derived.Deep.RegionLaw
namespace Go.Proofs.YtbkoifdnlaihfaaGreat
open Go.RowKit
attribute [local go_sem] slowLoad

theorem nodesL_info : (Tryz.prog.info? 104).map (fun i => (i.zero, i.size, i.bytes)) = some (some (.slice none 0 0), 1, 24) := by kernel_rfl

/-- What ConnectedComponents' closures keep. -/
abbrev CCC (lo bl bp : Nat) (w : World) (S : Nat → Prop) (ls : List (List Int)) (p : List Int) : Prop := WACG 137 104 100 nodeV lo bl bp w S ls p

set_option maxHeartbeats 2000000 in
set_option maxRecDepth 100000 in
theorem ccDuring_calls (bl bp : Nat) (S : Nat → Prop) (ls : List (List Int)) (p : List Int) (x : Int) (w : World) (h : CCC (bl + 1) bl bp w S ls p) (hp : p.length ≤ 1000000) :
    Calls Tryz.prog 121 #[nodeV x, .pointer (some ⟨bp, 0, none⟩)] w fun e w' => e = .returned (.tuple #[]) ∧ ∃ S', CCC (bl + 1) bl bp w' S' ls (p ++ [x]) ∧ Foot S w w' ∧ ∀ j, S' j → S j ∨ w.heap.size ≤ j := by
  have H := Lib.hid h
  obtain ⟨v, vs, u, h1, h2, h3, h4, h5, h6, h7, h8, h9⟩ := h
  have hbp := (Array.getElem?_eq_some_iff.1 h2).1
  have hbl := (Array.getElem?_eq_some_iff.1 h1).1
  obtain ⟨a, c, rfl⟩ := own_shape' h4
  have q0 : w.cell? ⟨bp, 0, none⟩ = some (.slice a p.length c) := by rw [cell_of_row w bp _ _ _ (0, 0) h2]; rfl
  have f0 : w.frozen? ⟨bp, 0, none⟩ = false := by simp [World.frozen?, h2]
  have HO := Lib.hid h4
  obtain ⟨i0, hi0, hz0, hz1, hz2⟩ := info_parts node_info
  have NV : Hid (some bp ≠ (Value.slice a p.length c).ownBlock) := fun e => by have := (h4.lt bp e.symm).1; omega
  have hmx : p.length + 1 ≤ maxLen := by unfold maxLen; omega
  have HWA : Hid (Below w.heap.size w (w.alloc (.cells #[nodeV x] 100))) := (Below.refl _ _).alloc (Nat.le_refl _) _
  clear h1 h2 h3 h4 h5 h9
  unfold nodeV
  go_enter Tryz.func121, Tryz.ntmps121
  go_wp2_with (at_builtin; refine wpList_append_own_at _ rfl _ _ 104 rfl (bl + 1) 100 i0 .nilIface 1 16 Tryz.underlying104 hi0 hz0 hz1 hz2 rfl (by decide) (.slice a p.length c) p.length (p.map nodeV) rfl ?hown ⟨w.heap.size, 0, none⟩ 1 1 [nodeV x] rfl rfl ?c1 ?c2 ?c3 ?c4 ?c5 ?_)
  case hown => exact HO.out.alloc _
  case c1 => intro j u hj; match j, hj with | 0, hj => simp at hj; subst hj; exact (World.cell?_alloc_new w _ _ _).trans rfl
  case c2 => intro u hu; simp at hu; subst hu; rfl
  case c3 => exact hmx
  case c4 => omega
  case c5 => simp; omega
  intro v1 w1 hown hgrow _ hloc
  have k1 : w1.cell? ⟨bp, 0, none⟩ = some (.slice a p.length c) := (hgrow.cell_far ⟨bp, 0, none⟩ (Nat.lt_of_lt_of_le hbp HWA.out.size) NV.out).trans ((HWA.out.cell (p := ⟨bp, 0, none⟩) hbp).trans q0)
  have l1 : w1.frozen? ⟨bp, 0, none⟩ = false := (hgrow.frozen_far ⟨bp, 0, none⟩ (Nat.lt_of_lt_of_le hbp HWA.out.size) NV.out).trans ((HWA.out.frozen (p := ⟨bp, 0, none⟩) hbp).trans f0)
  obtain ⟨a1, c1, rfl⟩ := own_shape' hown
  go_wp2
  go_end0
  refine ⟨rfl, H.out.during q0 HWA.out hown hgrow ?_⟩
  exact hloc.imp id fun h g hg => by rw [h] at hg; have := Option.some.inj hg; omega

set_option maxHeartbeats 2000000 in
set_option maxRecDepth 100000 in
theorem ccAfter_calls (bl bp : Nat) (S : Nat → Prop) (ls : List (List Int)) (p : List Int) (w : World) (h : CCC (bl + 1) bl bp w S ls p) (hp0 : p ≠ []) (hl : ls.length ≤ 1000000) (hp : p.length ≤ 1000000) :
    Calls Tryz.prog 122 #[.pointer (some ⟨bl, 0, none⟩), .pointer (some ⟨bp, 0, none⟩)] w fun e w' => e = .returned (.tuple #[]) ∧ ∃ S', CCC (bl + 1) bl bp w' S' (ls ++ [p]) [] ∧ Foot S w w' ∧ ∀ j, S' j → S j ∨ w.heap.size ≤ j := by
  obtain ⟨v, vs, u, h1, h2, h3, h4, h5, h6, h7, h8, h9⟩ := h
  have hpl : 0 < p.length := List.length_pos_iff.2 hp0
  have hbp := (Array.getElem?_eq_some_iff.1 h2).1
  have hbl := (Array.getElem?_eq_some_iff.1 h1).1
  obtain ⟨gu, c, rfl, hgu, hgu2, -⟩ := own_form h4 hpl
  obtain ⟨a2, c2, rfl⟩ := own_shape' h3.row
  have q0 : w.cell? ⟨bp, 0, none⟩ = some (.slice (some ⟨gu, 0, none⟩) p.length c) := by rw [cell_of_row w bp _ _ _ (0, 0) h2]; rfl
  have q1 : w.cell? ⟨bl, 0, none⟩ = some (.slice a2 ls.length c2) := by rw [cell_of_row w bl _ _ _ (0, 0) h1]; rfl
  obtain ⟨i0, hi0, hz0, hz1, hz2⟩ := info_parts nodesL_info
  obtain ⟨i1, hi1, hy0, hy1, hy2⟩ := info_parts node_info
  have H1 := Lib.hid h1; have H2 := Lib.hid h2; have H3 := Lib.hid h3; have H4 := Lib.hid h4; have H5 := Lib.hid h5; have H9 := Lib.hid h9
  have NV : Hid (∀ j, j < bl + 1 → some j ≠ (Value.slice a2 ls.length c2).ownBlock) := fun j hj e => by have := (h3.row.lt j e.symm).1; omega
  clear h1 h2 h3 h4 h5 h9
  go_enter Tryz.func122, Tryz.ntmps122
  go_wp2_with (at_builtin; refine wpList_append_own_at _ rfl _ _ 137 rfl (bl + 1) 104 i0 (.slice none 0 0) 1 24 Tryz.underlying137 hi0 hz0 hz1 hz2 rfl (by decide) (.slice a2 ls.length c2) ls.length vs rfl ?hown ⟨w.heap.size, 0, none⟩ 1 1 [.slice none 0 0] rfl rfl ?c1 ?c2 ?c3 ?c4 ?c5 ?_)
  case hown => exact H3.out.row.alloc _
  case c1 => intro j u hj; match j, hj with | 0, hj => simp at hj; subst hj; exact (World.cell?_alloc_new w _ _ _).trans rfl
  case c2 => intro u hu; simp at hu; subst hu; rfl
  case c3 => unfold maxLen; omega
  case c4 => omega
  case c5 => simp; omega
  intro v1 w1 hown hgrow _ hloc
  obtain ⟨g1, c1, rfl, hg1, hg1', -⟩ := own_form hown (by omega)
  have hb1 : w1.heap[bl]? = some (.cells #[.slice a2 ls.length c2] 137 (0, 0)) := by
    rw [hgrow.block bl (by simp; omega) (NV.out bl h6)]; exact (heap_alloc_old w _ hbl).trans H1.out
  have k1 : w1.cell? ⟨bl, 0, none⟩ = some (.slice a2 ls.length c2) := by rw [cell_of_row w1 bl _ _ _ (0, 0) hb1]; rfl
  have l1 : w1.frozen? ⟨bl, 0, none⟩ = false := by simp [World.frozen?, hb1]
  go_wp2
  obtain ⟨w2, hw2⟩ : ∃ w2, w2 = w1.setCell ⟨bl, 0, none⟩ (.slice (some ⟨g1, 0, none⟩) (ls.length + 1) c1) := ⟨_, rfl⟩
  rw [← hw2]
  have hvn : ∀ j, some j = (Value.slice (some ⟨gu, 0, none⟩) p.length c).ownBlock → j < w.heap.size ∧ some j ≠ (Value.slice a2 ls.length c2).ownBlock ∧ j ≠ bl ∧ j ≠ bp := fun j hj => by
    have h1 := H4.out.lt j hj.symm
    refine ⟨h1.2, fun e => H5.out j hj.symm (.inl e), by omega, by omega⟩
  have hgun := hvn gu rfl
  have O1 : Hid (w2.ownsRow (bl + 1) 104 1 (.slice (some ⟨g1, 0, none⟩) (ls.length + 1) c1) (ls.length + 1) (vs ++ [.slice none 0 0])) := by
    rw [hw2]; exact ownsRow_of_heap hown (fun g hg => Below.heap_setCell _ _ _ _ (fun e => by have := (hown.lt g hg).1; have e' : g = bl := e; omega))
  have B2 : Hid (∀ j, j < w.heap.size → j ≠ bl → some j ≠ (Value.slice a2 ls.length c2).ownBlock → w2.heap[j]? = w.heap[j]?) := fun j h1 h2 h3 => by
    rw [hw2, Below.heap_setCell _ _ _ _ (fun e => h2 e), hgrow.block j (by simp; omega) h3]; exact heap_alloc_old w _ h1
  have O2 : Hid (w2.ownsRow (bl + 1) 100 1 (.slice (some ⟨gu, 0, none⟩) p.length c) p.length (p.map nodeV)) :=
    ownsRow_of_heap H4.out (fun g hg => B2.out g (hvn g hg.symm).1 (hvn g hg.symm).2.2.1 (hvn g hg.symm).2.1)
  have hb2 : w2.heap[bp]? = some (.cells #[.slice (some ⟨gu, 0, none⟩) p.length c] 104 (0, 0)) := (B2.out bp hbp (fun e => h8 e.symm) (NV.out bp h7)).trans H2.out
  have hb3 : w2.heap[bl]? = some (.cells #[.slice (some ⟨g1, 0, none⟩) (ls.length + 1) c1] 137 (0, 0)) := by
    rw [hw2, heap_setCell_same hb1]; rfl
  have q2 : w2.cell? ⟨bl, 0, none⟩ = some (.slice (some ⟨g1, 0, none⟩) (ls.length + 1) c1) := by rw [cell_of_row w2 bl _ _ _ (0, 0) hb3]; rfl
  have q3 : w2.cell? ⟨bp, 0, none⟩ = some (.slice (some ⟨gu, 0, none⟩) p.length c) := by rw [cell_of_row w2 bp _ _ _ (0, 0) hb2]; rfl
  obtain ⟨q4, q5⟩ := own_at (i := ls.length) O1.out (u := .slice none 0 0) (by rw [List.getElem?_append_right (Nat.le_of_eq H3.out.len), H3.out.len]; simp)
  have s2 : w.heap.size + 1 ≤ w2.heap.size := by have := hgrow.size; rw [hw2]; simpa using this
  have hgl : g1 < w2.heap.size := by rw [hw2]; simpa [World.setCell] using hg1'
  have HG1 : Hid (g1 ≠ gu) := fun e => by
    rcases hloc with h | h
    · exact H5.out gu rfl (.inl (by rw [← e]; exact h))
    · have h' : g1 = w.heap.size + 1 := Option.some.inj h
      omega
  have KN : Hid (∀ (j : Nat) (u : Value), (p.map nodeV)[j]? = some u → w2.cell? ((⟨gu, 0, none⟩ : Addr).add j) = some u) := fun j u hu => by
    have hadd : (⟨gu, 0, none⟩ : Addr).add j = ⟨gu, j, none⟩ := by unfold Addr.add; split <;> simp_all
    rw [hadd]; exact (own_at O2.out hu).1
  have HW2 := Lib.hid hw2; have HOWN := Lib.hid hown; have HGR := Lib.hid hgrow; have HLOC := Lib.hid hloc; have HVN := Lib.hid hvn; have HB2 := Lib.hid hb2; have HB3 := Lib.hid hb3
  clear hw2 hown hgrow hloc hvn hb2 hb3 hb1 k1 l1 q0 q1 hgun
  have hmx : 0 + p.length ≤ maxLen := by unfold maxLen; omega
  have n1 : (0 : Int) ≤ ↑ls.length := by omega
  have n2 : (↑ls.length : Int) < ↑(ls.length + 1) := by omega
  have n3 : IntKind.i64.wrap (↑ls.length : Int) = ↑ls.length := by simp [IntKind.wrap, IntKind.bits, IntKind.signed]; omega
  have n4 : IntKind.i64.wrap ((↑(ls.length + 1) : Int) - 1) = ↑ls.length := by simp [IntKind.wrap, IntKind.bits, IntKind.signed]; omega
  have n5 : (↑ls.length : Int) < ↑ls.length + 1 := by omega
  have m1 : ¬ g1 = bl := by omega
  have m2 : ¬ g1 = bp := by omega
  have m3 : ¬ bl = g1 := by omega
  have m4 : ¬ bp = g1 := by omega
  rw [slow_load 104 (.tmp 13)]
  go_region_held3 (fun w' => w'.cell? ⟨bl, 0, none⟩ = some (.slice (some ⟨g1, 0, none⟩) (ls.length + 1) c1) ∧ w'.cell? ⟨bp, 0, none⟩ = some (.slice (some ⟨gu, 0, none⟩) p.length c))
    (first | with_reducible exact s4 | go_keep)
    ((refine step_append_lies _ (by rfl) _ _ _ (by rfl) (bl + 1) 100 i1 .nilIface 1 16 Tryz.underlying104 hi1 hy0 hy1 hy2 rfl (by decide) (.slice none 0 0) 0 [] (by rfl) (World.ownsRow_nil _ _ _ _) ⟨gu, 0, none⟩ p.length c (p.map nodeV) (by rfl) (by simp) KN.out (by intro u hu; simp at hu; obtain ⟨z, -, rfl⟩ := hu; rfl) hpl hmx (by omega) (by simp; omega) w2.heap.size (by simp) ?_; intro g4 p4 x4 hown4 hgrow4 hat4 hlt4; have s4 := And.intro ((hgrow4.cell_far ⟨bl, 0, none⟩ (by simp; omega) (by simp [Value.ownBlock])).trans q2) ((hgrow4.cell_far ⟨bp, 0, none⟩ (by simp; omega) (by simp [Value.ownBlock])).trans q3); have k4 := (hgrow4.cell_far ⟨g1, ls.length, none⟩ (by simp; omega) (by simp [Value.ownBlock])).trans q4; have l4 := (hgrow4.frozen_far ⟨g1, ls.length, none⟩ (by simp; omega) (by simp [Value.ownBlock])).trans q5))
  all_goals
    simp only [Nat.zero_add, List.nil_append] at hown4
    obtain ⟨w3, hw3⟩ : ∃ w3, w3 = x4.setCell ⟨g1, ls.length, none⟩ (.slice (some ⟨g4, 0, none⟩) p.length p4) := ⟨_, rfl⟩
    rw [← hw3]
    have hg4 : g4 = w2.heap.size := by
      rcases hat4 with h | h
      · simp [Value.ownBlock] at h
      · exact h
    have hx : ∀ j, j < w2.heap.size → x4.heap[j]? = w2.heap[j]? := fun j hj => hgrow4.block j hj (by simp [Value.ownBlock])
    have h3 : ∀ j, j ≠ g1 → w3.heap[j]? = x4.heap[j]? := fun j hj => by rw [hw3]; exact Below.heap_setCell _ _ _ _ (fun e => hj e)
    have hz3 : w3.heap.size = x4.heap.size := by rw [hw3]; simp [World.setCell]
    have hz4 : w2.heap.size ≤ x4.heap.size := hgrow4.size
    have hb6 : w3.heap[bp]? = some (.cells #[.slice (some ⟨gu, 0, none⟩) p.length c] 104 (0, 0)) := by rw [h3 bp (by omega), hx bp (by omega)]; exact HB2.out
    have hb7 : w3.heap[bl]? = some (.cells #[.slice (some ⟨g1, 0, none⟩) (ls.length + 1) c1] 137 (0, 0)) := by rw [h3 bl (by omega), hx bl (by omega)]; exact HB3.out
    have q6 : w3.cell? ⟨bp, 0, none⟩ = some (.slice (some ⟨gu, 0, none⟩) p.length c) := by rw [cell_of_row w3 bp _ _ _ (0, 0) hb6]; rfl
    have q7 : w3.frozen? ⟨bp, 0, none⟩ = false := by simp [World.frozen?, hb6]
    have HX := Lib.hid hx; have HH3 := Lib.hid h3; have HB6 := Lib.hid hb6; have HB7 := Lib.hid hb7; have HO4 := Lib.hid hown4; have HG4 := Lib.hid hgrow4; have HW3 := Lib.hid hw3
    clear hx h3 hb6 hb7 hown4 hgrow4 hw3 s4 k4 l4 hat4 q2 q3 q4 q5
    go_wp2
    go_end0
    refine ⟨rfl, ?_⟩
    obtain ⟨w4, hw4⟩ : ∃ w4, w4 = w3.setCell ⟨bp, 0, none⟩ (.slice (some ⟨gu, 0, none⟩) 0 c) := ⟨_, rfl⟩
    rw [← hw4]
    have h4 : ∀ j, j ≠ bp → w4.heap[j]? = w3.heap[j]? := fun j hj => by rw [hw4]; exact Below.heap_setCell _ _ _ _ (fun e => hj e)
    have hgv : ∀ j, j < w.heap.size → some j ≠ (Value.slice a2 ls.length c2).ownBlock → j ≠ g1 := fun j h1 h2 e => by
      rcases HLOC.out with h | h
      · exact h2 (by rw [e]; exact h)
      · have h' : g1 = w.heap.size + 1 := Option.some.inj h
        omega
    have hB : ∀ j, j < w.heap.size → j ≠ bl → j ≠ bp → some j ≠ (Value.slice a2 ls.length c2).ownBlock → w4.heap[j]? = w.heap[j]? := fun j h1 h2 h5 h6 => by
      rw [h4 j h5, HH3.out j (hgv j h1 h6), HX.out j (by omega), B2.out j h1 h2 h6]
    have hF : Foot S w w4 := by
      have e1 : Foot (fun j => some j = (Value.slice a2 ls.length c2).ownBlock) w w1 := (Foot.of_below ((Below.refl w.heap.size w).alloc (Nat.le_refl _) _) _).trans (Foot.of_row HGR.out) (fun j hj => .inl hj)
      have e2 : Foot S w w2 := by
        rw [HW2.out]
        exact (e1.mono (fun j hj => (H9.out j).2 (.inr (.inr (.inl (.inl hj)))))).setCell bl 0 _ (.inl ((H9.out bl).2 (.inl rfl)))
      have e3 : Foot S w x4 := e2.trans ((Foot.of_below (below_drewN (Below.refl _ _) 1) (fun _ => False)).trans (Foot.of_row HG4.out) (fun j hj => by simp [Value.ownBlock] at hj)) (fun j hj => hj.elim)
      rw [hw4, HW3.out]
      refine (e3.setCell g1 _ _ ?_).setCell bp 0 _ (.inl ((H9.out bp).2 (.inr (.inl rfl))))
      rcases HLOC.out with h | h
      · exact .inl ((H9.out g1).2 (.inr (.inr (.inl (.inl h)))))
      · have h' : g1 = w.heap.size + 1 := Option.some.inj h
        exact .inr (by omega)
    have hrow : w4.ownsRow (bl + 1) 104 1 (.slice (some ⟨g1, 0, none⟩) (ls.length + 1) c1) (ls.length + 1) (vs ++ [.slice (some ⟨g4, 0, none⟩) p.length p4]) := by
      have e1 := ownsRow_of_heap (w' := x4) O1.out (fun g hg => HX.out g (O1.out.lt g hg).2)
      have e2 := own_put (i := ls.length) e1 (.slice (some ⟨g4, 0, none⟩) p.length p4)
      rw [← HW3.out, show (vs ++ [Value.slice none 0 0]).set ls.length (.slice (some ⟨g4, 0, none⟩) p.length p4) = vs ++ [.slice (some ⟨g4, 0, none⟩) p.length p4] by rw [List.set_append_right _ _ (Nat.le_of_eq H3.out.len), H3.out.len]; simp] at e2
      exact ownsRow_of_heap e2 (fun g hg => h4 g (fun e => by have := (e2.lt g hg).1; omega))
    have hvs : ∀ x ∈ vs, ∀ g, x.ownBlock = some g → g < w.heap.size ∧ g ≠ bl ∧ g ≠ bp ∧ some g ≠ (Value.slice a2 ls.length c2).ownBlock := fun x hx g hg => by
      have h1 := H3.out.lt (.inr ⟨x, hx, hg⟩)
      exact ⟨h1.2, by omega, by omega, fun e => H3.out.apart x hx g hg e.symm⟩
    have hL : LolG 104 100 nodeV w4 (bl + 1) (.slice (some ⟨g1, 0, none⟩) (ls.length + 1) c1) (vs ++ [.slice (some ⟨g4, 0, none⟩) p.length p4]) (ls ++ [p]) := by
      refine ⟨by rw [List.length_append]; exact hrow, fun i x l hx hl => ?_, fun x hx g hg e => ?_⟩
      · by_cases hi : i < vs.length
        · rw [List.getElem?_append_left hi] at hx
          rw [List.getElem?_append_left (by rw [← H3.out.len]; exact hi)] at hl
          exact ownsRow_of_heap (H3.out.rows i x l hx hl) (fun g hg => (fun h => hB g h.1 h.2.1 h.2.2.1 h.2.2.2) (hvs x (List.mem_of_getElem? hx) g hg))
        · have hi2 := H3.out.len
          rw [List.getElem?_append_right (by omega)] at hx
          rw [List.getElem?_append_right (by omega)] at hl
          obtain ⟨e1, rfl⟩ : i - vs.length = 0 ∧ Value.slice (some ⟨g4, 0, none⟩) p.length p4 = x := by
            have h1 := (List.getElem?_eq_some_iff.1 hx).1
            simp only [List.length_singleton] at h1
            have h0 : i - vs.length = 0 := by omega
            rw [h0] at hx
            exact ⟨h0, by simpa using hx⟩
          rw [← hi2, e1] at hl
          obtain rfl : p = l := by simpa using hl
          exact ownsRow_of_heap HO4.out (fun g hg => by
            have hk : g4 = g := Option.some.inj hg
            rw [h4 g (by omega), HH3.out g (by omega)])
      · have hk : g1 = g := Option.some.inj e
        rcases List.mem_append.1 hx with hx | hx
        · have h1 := hvs x hx g hg
          exact hgv g h1.1 h1.2.2.2 hk.symm
        · rw [List.mem_singleton.1 hx] at hg
          have hk2 : g4 = g := Option.some.inj hg
          omega
    have hgu4 : w4.heap[gu]? = w2.heap[gu]? := by rw [h4 gu (by omega), HH3.out gu (fun e => HG1.out e.symm), HX.out gu (by omega)]
    refine ⟨fun j => j = bl ∨ j = bp ∨ LolGF (.slice (some ⟨g1, 0, none⟩) (ls.length + 1) c1) (vs ++ [.slice (some ⟨g4, 0, none⟩) p.length p4]) j ∨ some j = (Value.slice (some ⟨gu, 0, none⟩) 0 c).ownBlock, ⟨_, _, .slice (some ⟨gu, 0, none⟩) 0 c, ?_, ?_, hL, ?_, fun g hg hj => ?_, h6, h7, h8, fun j => Iff.rfl⟩, hF, fun j hj => ?_⟩
    · rw [h4 bl (by omega)]; exact HB7.out
    · rw [hw4, heap_setCell_same HB6.out]; rfl
    · exact own_take (k := 0) (ownsRow_of_heap O2.out (fun g hg => by have hk : gu = g := Option.some.inj hg; rw [← hk]; exact hgu4)) (Nat.zero_le _)
    · have hk : gu = g := Option.some.inj hg
      rcases hj with hj | ⟨x, hx, hj⟩
      · exact HG1.out ((Option.some.inj hj).symm.trans hk.symm)
      · rcases List.mem_append.1 hx with hx | hx
        · exact H5.out gu rfl (.inr ⟨x, hx, by rw [hk]; exact hj⟩)
        · rw [List.mem_singleton.1 hx] at hj
          have hk2 : g4 = g := Option.some.inj hj
          omega
    · rcases hj with hj | hj | hj | hj
      · exact .inl ((H9.out j).2 (.inl hj))
      · exact .inl ((H9.out j).2 (.inr (.inl hj)))
      · rcases hj with hj | ⟨x, hx, hj⟩
        · have hk : j = g1 := Option.some.inj hj
          rcases HLOC.out with h | h
          · exact .inl ((H9.out j).2 (.inr (.inr (.inl (.inl (by rw [hk]; exact h))))))
          · have h' : g1 = w.heap.size + 1 := Option.some.inj h
            exact .inr (by omega)
        · rcases List.mem_append.1 hx with hx | hx
          · exact .inl ((H9.out j).2 (.inr (.inr (.inl (.inr ⟨x, hx, hj⟩)))))
          · rw [List.mem_singleton.1 hx] at hj
            have hk : g4 = j := Option.some.inj hj
            exact .inr (by omega)
      · exact .inl ((H9.out j).2 (.inr (.inr (.inr hj))))

theorem ccClient (bl bp : Nat) : Client 121 122 #[.pointer (some ⟨bp, 0, none⟩)] #[.pointer (some ⟨bl, 0, none⟩), .pointer (some ⟨bp, 0, none⟩)] (CCC (bl + 1) bl bp) where
  eD := Tryz.call121
  eA := Tryz.call122
  lt := fun _ _ _ _ h => h.lt
  keeps := fun _ _ _ _ _ h _ hb => h.keeps hb
  during := fun w S ls p x h hp => ccDuring_calls bl bp S ls p x w h hp
  after := fun w S ls p h h0 hl hp => ccAfter_calls bl bp S ls p w h h0 hl hp
end Go.Proofs.YtbkoifdnlaihfaaGreat
namespace Go.Proofs.YtbkoifdnlaihfaaGreat
open Go.RowKit

/-- What ConnectedComponents answers. -/
def CcPost (ids : List Int) (adj : Int → List Int) (w : World) (e : Ending) (w' : World) : Prop :=
  ∃ v vs ps, e = .returned v ∧ LolG 104 100 nodeV w' w.heap.size v vs ps ∧ CompsFrom ids adj ids [] ps ∧ Below w.heap.size w w'

set_option maxHeartbeats 4000000 in
set_option maxRecDepth 100000 in
theorem cc_calls {t : TypeId} {recv : Value} {fNs fFr : FuncId} {G : World → Prop} {ids : List Int} {adj : Int → List Int} (hG : GraphR t recv fNs fFr G ids adj) {w : World} (hg : G w)
    (hwf : ∀ y ∈ ids, (Lit.int .i64 y).wf = true) (M : Nat) (hM : ∀ y ∈ ids, (adj y).length ≤ M) (hMM : M ≤ 100000) (hn : ids.length ≤ 100000) :
    Calls Tryz.prog 79 #[.iface t recv] w (CcPost ids adj w) := by
  have HG := Lib.hid hG; have HGW := Lib.hid hg; have HWF := Lib.hid hwf; have HM := Lib.hid hM
  clear hG hg hwf hM
  go_enter Tryz.func79, Tryz.ntmps79
  go_wp2_with fail
  obtain ⟨w3, hw3⟩ : ∃ w3, w3 = ((w.alloc (.cells #[.nilFunc, .nilFunc, .slice none 0 0, .map none] 109)).alloc (.cells #[.slice none 0 0] 104)).alloc (.cells #[.slice none 0 0] 137) := ⟨_, rfl⟩
  have HB3 : Hid (Below w.heap.size w w3) := by rw [hw3]; exact (((Below.refl _ _).alloc (Nat.le_refl _) _).alloc (by simp) _).alloc (by simp; omega) _
  have Z3 : w3.heap[w.heap.size]? = some (.cells #[.nilFunc, .nilFunc, .slice none 0 0, .map none] 109 (0, 0)) := by
    rw [hw3, heap_alloc_old _ _ (by simp; omega), heap_alloc_old _ _ (by simp)]; exact heap_alloc_new _ _
  have X3 : w3.heap[w.heap.size + 1]? = some (.cells #[.slice none 0 0] 104 (0, 0)) := by
    have h := heap_alloc_new (w.alloc (.cells #[.nilFunc, .nilFunc, .slice none 0 0, .map none] 109)) (.cells #[.slice none 0 0] 104)
    rw [hw3, heap_alloc_old _ _ (by simp)]; simpa using h
  have Y3 : w3.heap[w.heap.size + 1 + 1]? = some (.cells #[.slice none 0 0] 137 (0, 0)) := by
    have h := heap_alloc_new ((w.alloc (.cells #[.nilFunc, .nilFunc, .slice none 0 0, .map none] 109)).alloc (.cells #[.slice none 0 0] 104)) (.cells #[.slice none 0 0] 137)
    rw [hw3]; simpa using h
  rw [← hw3]
  clear hw3
  have HDF : Hid (DfSt w3 w.heap.size (w.heap.size + 1) (.slice none 0 0) none []) := ⟨Z3, World.ownsRow_nil _ _ _ _, by omega⟩
  have HC3 : Hid (CCC (w.heap.size + 1 + 1 + 1) (w.heap.size + 1 + 1) (w.heap.size + 1) w3 (fun j => j = w.heap.size + 1 + 1 ∨ j = w.heap.size + 1 ∨ LolGF (.slice none 0 0) [] j ∨ some j = (Value.slice none 0 0).ownBlock) [] []) :=
    ⟨.slice none 0 0, [], .slice none 0 0, Y3, X3, LolG.nil _ _, World.ownsRow_nil _ _ _ _, (fun g hg => by simp [Value.ownBlock] at hg), by omega, by omega, by omega, fun j => Iff.rfl⟩
  have hsin : ∀ j, (j = w.heap.size + 1 + 1 ∨ j = w.heap.size + 1 ∨ LolGF (.slice none 0 0) [] j ∨ some j = (Value.slice none 0 0).ownBlock) → j = w.heap.size + 1 + 1 ∨ j = w.heap.size + 1 := fun j hj => by
    rcases hj with hj | hj | hj | hj
    · exact .inl hj
    · exact .inr hj
    · rcases hj with hj | ⟨x, hx, _⟩
      · simp [Value.ownBlock] at hj
      · cases hx
    · simp [Value.ownBlock] at hj
  have HSN : Hid (¬ (w.heap.size = w.heap.size + 1 + 1 ∨ w.heap.size = w.heap.size + 1 ∨ LolGF (.slice none 0 0) [] w.heap.size ∨ some w.heap.size = (Value.slice none 0 0).ownBlock)) := fun h => by have := hsin _ h; omega
  have HFB : Hid (∀ w', Foot (fun j => (j = w.heap.size + 1 + 1 ∨ j = w.heap.size + 1 ∨ LolGF (.slice none 0 0) [] j ∨ some j = (Value.slice none 0 0).ownBlock) ∨ j = w.heap.size) w3 w' → Below w.heap.size w w') := fun w' hf =>
    HB3.out.trans (hf.below (fun j hj => by
      rcases hj with hj | hj
      · have := hsin j hj; omega
      · omega) HB3.out.size)
  clear hsin Z3 X3 Y3
  refine (dWalkAll_calls HG.out (ccClient (w.heap.size + 1 + 1) (w.heap.size + 1)) HWF.out M HM.out hMM hn (ls := []) (by simp) HDF.out HC3.out HSN.out (fun w' hf => HG.out.keeps _ _ HGW.out (HFB.out w' hf))).mono ?_
  rintro e w4 ⟨rfl, S4, ps, hc4, hcomps, hf4, hs4⟩
  have HB4 := Lib.hid (HFB.out w4 hf4)
  obtain ⟨v, vs, u, k1, k2, k3, k4, k5, k6, k7, k8, k9⟩ := hc4
  obtain ⟨a4, c4, rfl⟩ := own_shape' k3.row
  have HK3 := Lib.hid k3; have HCO := Lib.hid hcomps
  have y4 : w4.cell? ⟨w.heap.size + 1 + 1, 0, none⟩ = some (.slice a4 ([] ++ ps).length c4) := by rw [cell_of_row w4 _ _ _ _ (0, 0) k1]; rfl
  clear k1 k2 k3 k4 k5 k6 k7 k8 k9 hcomps hf4
  go_wp2_with fail
  go_ret
  exact ⟨_, vs, ps, rfl, HK3.out.lower (by omega), HCO.out, HB4.out⟩
end Go.Proofs.YtbkoifdnlaihfaaGreat
