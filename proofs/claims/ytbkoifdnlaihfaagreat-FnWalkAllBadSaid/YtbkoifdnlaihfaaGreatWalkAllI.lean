/- Lists of lists of ints of the call's own, and what the closures of impl.WalkAll keep. The walks of impl.WalkAll and its closures. -/
import Derived.Test.YtbkoifdnlaihfaaGreatBfsAll
import Derived.Test.YtbkoifdnlaihfaaGreatIterd
import Derived.Test.YtbkoifdnlaihfaaGreatWays
import Derived.Deep.AppendLies
import Derived.Deep.RegionLaw
namespace Go.Proofs.YtbkoifdnlaihfaaGreat
open Go.RowKit

/-- A list of lists: v its rows' slices vs, ls what they hold. -/
structure LolAt (w : World) (lo : Nat) (v : Value) (vs : List Value) (ls : List (List Int)) : Prop where
  row : w.ownsRow lo 22 1 v ls.length vs
  rows : ∀ (i : Nat) (u : Value) (l : List Int), vs[i]? = some u → ls[i]? = some l → w.ownsRow lo 3 1 u l.length (l.map (Value.int .i64))
  apart : ∀ u ∈ vs, ∀ g, u.ownBlock = some g → v.ownBlock ≠ some g

theorem LolAt.len {w : World} {lo : Nat} {v : Value} {vs : List Value} {ls : List (List Int)} (h : LolAt w lo v vs ls) : vs.length = ls.length := by
  have := h.row.1; omega
/-- Its blocks. -/
def LolF (v : Value) (vs : List Value) (j : Nat) : Prop := some j = v.ownBlock ∨ ∃ u ∈ vs, u.ownBlock = some j
theorem LolAt.lt {w : World} {lo : Nat} {v : Value} {vs : List Value} {ls : List (List Int)} (h : LolAt w lo v vs ls) {j : Nat} (hj : LolF v vs j) : lo ≤ j ∧ j < w.heap.size := by
  rcases hj with hj | ⟨u, hu, hj⟩
  · exact h.row.lt j hj.symm
  · obtain ⟨i, hi⟩ := List.getElem?_of_mem hu
    have hil : i < vs.length := (List.getElem?_eq_some_iff.1 hi).1
    rw [h.len] at hil
    exact (h.rows i u ls[i] hi (List.getElem?_eq_getElem hil)).lt j hj
theorem LolAt.of_heap {w w' : World} {lo : Nat} {v : Value} {vs : List Value} {ls : List (List Int)} (h : LolAt w lo v vs ls) (hb : ∀ j, LolF v vs j → w'.heap[j]? = w.heap[j]?) : LolAt w' lo v vs ls :=
  ⟨ownsRow_of_heap h.row (fun g hg => hb g (.inl hg.symm)), fun i u l hu hl => ownsRow_of_heap (h.rows i u l hu hl) (fun g hg => hb g (.inr ⟨u, List.mem_of_getElem? hu, hg⟩)), h.apart⟩
theorem LolAt.nil (w : World) (lo : Nat) : LolAt w lo (.slice none 0 0) [] [] := ⟨World.ownsRow_nil _ _ _ _, (fun i u l hu _ => by simp at hu), (fun _ hu => nomatch hu)⟩
theorem LolAt.more {w w' : World} {lo : Nat} {v v' u : Value} {vs : List Value} {ls : List (List Int)} {p : List Int} (h : LolAt w lo v vs ls) (hu : w.ownsRow lo 3 1 u p.length (p.map (Value.int .i64))) (hap : ∀ g, u.ownBlock = some g → ¬ LolF v vs g)
    (ho : w'.ownsRow lo 22 1 v' (ls.length + 1) (vs ++ [u])) (hk : ∀ j, j < w.heap.size → some j ≠ v.ownBlock → w'.heap[j]? = w.heap[j]?) (hf : Fresh w v v') : LolAt w' lo v' (vs ++ [u]) (ls ++ [p]) := by
  have hap' : ∀ x ∈ vs ++ [u], ∀ g, x.ownBlock = some g → g < w.heap.size ∧ some g ≠ v.ownBlock := fun x hx g hg => by
    rcases List.mem_append.1 hx with hx | hx
    · exact ⟨(h.lt (.inr ⟨x, hx, hg⟩)).2, fun e => h.apart x hx g hg e.symm⟩
    · rw [List.mem_singleton.1 hx] at hg
      exact ⟨(hu.lt g hg).2, fun e => hap g hg (.inl e)⟩
  refine ⟨by rw [List.length_append]; exact ho, fun i x l hx hl => ?_, fun x hx g hg e => ?_⟩
  · have hb := fun g hg => (fun h : g < w.heap.size ∧ some g ≠ v.ownBlock => hk g h.1 h.2) (hap' x (List.mem_of_getElem? hx) g hg)
    by_cases hi : i < vs.length
    · rw [List.getElem?_append_left hi] at hx
      rw [List.getElem?_append_left (by rw [← h.len]; exact hi)] at hl
      exact ownsRow_of_heap (h.rows i x l hx hl) hb
    · rw [List.getElem?_append_right (by omega)] at hx
      rw [List.getElem?_append_right (by rw [← h.len]; omega)] at hl
      rw [h.len] at hx
      obtain ⟨e1, rfl⟩ : i - ls.length = 0 ∧ u = x := by
        have h1 := (List.getElem?_eq_some_iff.1 hx).1
        simp only [List.length_singleton] at h1
        have h0 : i - ls.length = 0 := by omega
        rw [h0] at hx
        exact ⟨h0, by simpa using hx⟩
      rw [e1] at hl
      obtain rfl : p = l := by simpa using hl
      exact ownsRow_of_heap hu hb
  · have h1 := hap' x hx g hg
    rcases hf with h2 | h2
    · exact h1.2 (e.symm.trans h2)
    · have := h2 g e; omega

/-- What the closures of impl.WalkAll keep: the box of the list (bl), that of the part under way (bp). -/
def WAC (lo bl bp : Nat) (w : World) (S : Nat → Prop) (ls : List (List Int)) (p : List Int) : Prop :=
  ∃ (v : Value) (vs : List Value) (u : Value), w.heap[bl]? = some (.cells #[v] 35 (0, 0)) ∧ w.heap[bp]? = some (.cells #[u] 22 (0, 0)) ∧ LolAt w lo v vs ls ∧ w.ownsRow lo 3 1 u p.length (p.map (Value.int .i64)) ∧
    (∀ g, u.ownBlock = some g → ¬ LolF v vs g) ∧ bl < lo ∧ bp < lo ∧ bl ≠ bp ∧ (∀ j, S j ↔ j = bl ∨ j = bp ∨ LolF v vs j ∨ some j = u.ownBlock)

theorem WAC.lt {lo bl bp : Nat} {w : World} {S : Nat → Prop} {ls : List (List Int)} {p : List Int} (h : WAC lo bl bp w S ls p) : ∀ j, S j → j < w.heap.size := by
  obtain ⟨v, vs, u, h1, h2, h3, h4, h5, h6, h7, h8, h9⟩ := h
  intro j hj
  rcases (h9 j).1 hj with h | h | h | h
  · rw [h]; exact (Array.getElem?_eq_some_iff.1 h1).1
  · rw [h]; exact (Array.getElem?_eq_some_iff.1 h2).1
  · exact (h3.lt h).2
  · exact (h4.lt j h.symm).2
theorem WAC.keeps {lo bl bp : Nat} {w w' : World} {S : Nat → Prop} {ls : List (List Int)} {p : List Int} (h : WAC lo bl bp w S ls p) (hb : ∀ j, S j → w'.heap[j]? = w.heap[j]?) : WAC lo bl bp w' S ls p := by
  obtain ⟨v, vs, u, h1, h2, h3, h4, h5, h6, h7, h8, h9⟩ := h
  exact ⟨v, vs, u, (hb bl ((h9 bl).2 (.inl rfl))).trans h1, (hb bp ((h9 bp).2 (.inr (.inl rfl)))).trans h2, h3.of_heap (fun j hj => hb j ((h9 j).2 (.inr (.inr (.inl hj))))), ownsRow_of_heap h4 (fun g hg => hb g ((h9 g).2 (.inr (.inr (.inr hg.symm))))), h5, h6, h7, h8, h9⟩
end Go.Proofs.YtbkoifdnlaihfaaGreat
namespace Go.Proofs.YtbkoifdnlaihfaaGreat
open Go.RowKit

theorem intsL_info : (Tryz.prog.info? 22).map (fun i => (i.zero, i.size, i.bytes)) = some (some (.slice none 0 0), 1, 24) := by kernel_rfl

theorem WAC.during {lo bl bp : Nat} {w wa w' : World} {S : Nat → Prop} {ls : List (List Int)} {p : List Int} {x : Int} {u u' : Value} (h : WAC lo bl bp w S ls p) (hu : w.cell? ⟨bp, 0, none⟩ = some u) (ha : Below w.heap.size w wa)
    (ho : w'.ownsRow lo 3 1 u' (p.length + 1) (p.map (Value.int .i64) ++ [.int .i64 x])) (hg : wa.grownBy w' u.ownBlock) (hf : u'.ownBlock = u.ownBlock ∨ ∀ g, u'.ownBlock = some g → w.heap.size ≤ g) :
    ∃ S', WAC lo bl bp (w'.setCell ⟨bp, 0, none⟩ u') S' ls (p ++ [x]) ∧ Foot S w (w'.setCell ⟨bp, 0, none⟩ u') ∧ ∀ j, S' j → S j ∨ w.heap.size ≤ j := by
  obtain ⟨v, vs, u0, h1, h2, h3, h4, h5, h6, h7, h8, h9⟩ := h
  obtain rfl : u0 = u := by rw [cell_of_row w bp _ _ _ (0, 0) h2] at hu; simpa using hu
  have hbl := (Array.getElem?_eq_some_iff.1 h1).1
  have hbp := (Array.getElem?_eq_some_iff.1 h2).1
  have hF : Foot (fun j => some j = u0.ownBlock) w w' := (Foot.of_below ha _).trans (Foot.of_row hg) (fun j hj => .inl hj)
  have hF2 : Foot S w (w'.setCell ⟨bp, 0, none⟩ u') := (hF.mono (fun j hj => (h9 j).2 (.inr (.inr (.inr hj))))).setCell bp 0 _ (.inl ((h9 bp).2 (.inr (.inl rfl))))
  have hune : ∀ j, j < lo → some j ≠ u0.ownBlock := fun j hj e => by have := (h4.lt j e.symm).1; omega
  have hset : ∀ j, j ≠ bp → (w'.setCell ⟨bp, 0, none⟩ u').heap[j]? = w'.heap[j]? := fun j hj => Below.heap_setCell _ _ _ _ (fun e => hj e)
  have hL : ∀ j, LolF v vs j → (w'.setCell ⟨bp, 0, none⟩ u').heap[j]? = w.heap[j]? := fun j hj => by
    rw [hset j (fun e => by have := (h3.lt hj).1; omega)]
    exact hF.block j (h3.lt hj).2 (fun e => h5 j e.symm hj)
  refine ⟨fun j => j = bl ∨ j = bp ∨ LolF v vs j ∨ some j = u'.ownBlock, ⟨v, vs, u', ?_, ?_, h3.of_heap hL, ?_, fun g hg' hj => ?_, h6, h7, h8, fun j => Iff.rfl⟩, hF2, fun j hj => ?_⟩
  · rw [hset bl h8]; exact (hF.block bl hbl (hune bl h6)).trans h1
  · rw [heap_setCell_same ((hF.block bp hbp (hune bp h7)).trans h2)]; rfl
  · rw [List.length_append, List.map_append]
    exact ownsRow_of_heap ho (fun g hg' => hset g (fun e => by have := (ho.lt g hg').1; omega))
  · rcases hf with hf | hf
    · exact h5 g (hf ▸ hg') hj
    · have := hf g hg'; have := (h3.lt hj).2; omega
  · rcases hj with hj | hj | hj | hj
    · exact .inl ((h9 j).2 (.inl hj))
    · exact .inl ((h9 j).2 (.inr (.inl hj)))
    · exact .inl ((h9 j).2 (.inr (.inr (.inl hj))))
    · rcases hf with hf | hf
      · exact .inl ((h9 j).2 (.inr (.inr (.inr (by rw [hj, hf])))))
      · exact .inr (hf j hj.symm)

set_option maxHeartbeats 2000000 in
set_option maxRecDepth 100000 in
theorem waDuring_calls (bl bp : Nat) (S : Nat → Prop) (ls : List (List Int)) (p : List Int) (x : Int) (w : World) (h : WAC (bp + 1) bl bp w S ls p) (hp : p.length ≤ 1000000) :
    Calls Tryz.prog 58 #[nodeV x, .pointer (some ⟨bp, 0, none⟩)] w fun e w' => e = .returned (.tuple #[]) ∧ ∃ S', WAC (bp + 1) bl bp w' S' ls (p ++ [x]) ∧ Foot S w w' ∧ ∀ j, S' j → S j ∨ w.heap.size ≤ j := by
  have H := Lib.hid h
  obtain ⟨v, vs, u, h1, h2, h3, h4, h5, h6, h7, h8, h9⟩ := h
  have hbp := (Array.getElem?_eq_some_iff.1 h2).1
  obtain ⟨a, c, rfl⟩ := own_shape' h4
  have q0 : w.cell? ⟨bp, 0, none⟩ = some (.slice a p.length c) := by rw [cell_of_row w bp _ _ _ (0, 0) h2]; rfl
  have f0 : w.frozen? ⟨bp, 0, none⟩ = false := by simp [World.frozen?, h2]
  have HO := Lib.hid h4
  obtain ⟨i0, hi0, hz0, hz1, hz2⟩ := info_parts int_info
  have NV : Hid (some bp ≠ (Value.slice a p.length c).ownBlock) := fun e => by have := (h4.lt bp e.symm).1; omega
  have hmx : p.length + 1 ≤ maxLen := by unfold maxLen; omega
  have HWA : Hid (Below w.heap.size w ((w.alloc (.cells #[.int .i64 x] 3)).drew)) := below_drewN ((Below.refl _ _).alloc (Nat.le_refl _) _) 1
  clear h1 h2 h3 h4 h5 h6 h7 h8 h9
  unfold nodeV
  go_enter Tryz.func58, Tryz.ntmps58
  have NC : Hid (∀ W : World, Calls Tryz.prog 59 #[.iface 133 (.int .i64 x)] W fun e w' => e = .returned (.int .i64 x) ∧ W = w') := fun W => number_calls x W
  go_region_law (first
      | (go_simp; with_reducible refine (NC.out w.drew).mono ?_; rintro e w' ⟨rfl, rfl⟩; try dsimp only)
      | ((refine step_append_lies _ (by rfl) _ _ _ (by rfl) (bp + 1) 3 i0 (.int .i64 0) 1 8 Tryz.underlying22 hi0 hz0 hz1 hz2 rfl (by decide) (.slice a p.length c) p.length _ (by rfl) ((HO.out.alloc _).drew) ⟨w.heap.size, 0, none⟩ 1 1 [.int .i64 x] (by rfl) (by rfl) (World.news_of_block (cs := #[.int .i64 x]) (t := 3) (fr := (0, 0)) (by exact heap_alloc_new w (.cells #[.int .i64 x] 3))) (by simp [Value.oneCell']) (by omega) hmx (by omega) (by simp; omega) (w.heap.size + 1) (by simp) ?_; intro g4 p4 x4 hown4 hgrow4 hat4 hlt4; have k4 := (hgrow4.cell_far ⟨bp, 0, none⟩ (Nat.lt_of_lt_of_le hbp HWA.out.size) NV.out).trans ((HWA.out.cell (p := ⟨bp, 0, none⟩) hbp).trans q0); have l4 := (hgrow4.frozen_far ⟨bp, 0, none⟩ (Nat.lt_of_lt_of_le hbp HWA.out.size) NV.out).trans ((HWA.out.frozen (p := ⟨bp, 0, none⟩) hbp).trans f0))))
  all_goals
    go_end0
    refine ⟨rfl, H.out.during q0 HWA.out hown4 hgrow4 ?_⟩
    rcases hat4 with h | h
    · exact .inl h.symm
    · exact .inr fun g hg => by have hk : g4 = g := Option.some.inj hg; omega

theorem WAC.after {lo bl bp : Nat} {w wa w' : World} {S : Nat → Prop} {ls : List (List Int)} {p : List Int} {v v' u : Value} {vs : List Value} (hb1 : w.heap[bl]? = some (.cells #[v] 35 (0, 0))) (hb2 : w.heap[bp]? = some (.cells #[u] 22 (0, 0))) (h3 : LolAt w lo v vs ls) (h4 : w.ownsRow lo 3 1 u p.length (p.map (Value.int .i64)))
    (h5 : ∀ g, u.ownBlock = some g → ¬ LolF v vs g) (h6 : bl < lo) (h7 : bp < lo) (h8 : bl ≠ bp) (h9 : ∀ j, S j ↔ j = bl ∨ j = bp ∨ LolF v vs j ∨ some j = u.ownBlock) (ha : Below w.heap.size w wa)
    (ho : w'.ownsRow lo 22 1 v' (ls.length + 1) (vs ++ [u])) (hg : wa.grownBy w' v.ownBlock) (hf : v'.ownBlock = v.ownBlock ∨ ∀ g, v'.ownBlock = some g → w.heap.size ≤ g) :
    ∃ S', WAC lo bl bp ((w'.setCell ⟨bl, 0, none⟩ v').setCell ⟨bp, 0, none⟩ (.slice none 0 0)) S' (ls ++ [p]) [] ∧ Foot S w ((w'.setCell ⟨bl, 0, none⟩ v').setCell ⟨bp, 0, none⟩ (.slice none 0 0)) ∧ ∀ j, S' j → S j ∨ w.heap.size ≤ j := by
  have hbl := (Array.getElem?_eq_some_iff.1 hb1).1
  have hbp := (Array.getElem?_eq_some_iff.1 hb2).1
  have hF : Foot (fun j => some j = v.ownBlock) w w' := (Foot.of_below ha _).trans (Foot.of_row hg) (fun j hj => .inl hj)
  have hF2 : Foot S w ((w'.setCell ⟨bl, 0, none⟩ v').setCell ⟨bp, 0, none⟩ (.slice none 0 0)) :=
    ((hF.mono (fun j hj => (h9 j).2 (.inr (.inr (.inl (.inl hj)))))).setCell bl 0 _ (.inl ((h9 bl).2 (.inl rfl)))).setCell bp 0 _ (.inl ((h9 bp).2 (.inr (.inl rfl))))
  have hvne : ∀ j, j < lo → some j ≠ v.ownBlock := fun j hj e => by have := (h3.row.lt j e.symm).1; omega
  have hset : ∀ j, j ≠ bl → j ≠ bp → ((w'.setCell ⟨bl, 0, none⟩ v').setCell ⟨bp, 0, none⟩ (.slice none 0 0)).heap[j]? = w'.heap[j]? := fun j hj hj2 => by
    rw [Below.heap_setCell _ _ _ _ (fun e => hj2 e), Below.heap_setCell _ _ _ _ (fun e => hj e)]
  have hL : LolAt w' lo v' (vs ++ [u]) (ls ++ [p]) := h3.more h4 h5 ho hF.block hf
  have hL2 := hL.of_heap (w' := (w'.setCell ⟨bl, 0, none⟩ v').setCell ⟨bp, 0, none⟩ (.slice none 0 0)) (fun j hj => by have := (hL.lt hj).1; exact hset j (by omega) (by omega))
  refine ⟨fun j => j = bl ∨ j = bp ∨ LolF v' (vs ++ [u]) j ∨ some j = (Value.slice none 0 0).ownBlock, ⟨v', vs ++ [u], .slice none 0 0, ?_, ?_, hL2, World.ownsRow_nil _ _ _ _, (fun g hg' => by simp [Value.ownBlock] at hg'), h6, h7, h8, fun j => Iff.rfl⟩, hF2, fun j hj => ?_⟩
  · rw [Below.heap_setCell _ _ _ _ (fun e => h8 e), heap_setCell_same ((hF.block bl hbl (hvne bl h6)).trans hb1)]; rfl
  · rw [heap_setCell_same ((Below.heap_setCell _ _ _ _ (fun e => h8 e.symm)).trans ((hF.block bp hbp (hvne bp h7)).trans hb2))]; rfl
  · rcases hj with hj | hj | hj | hj
    · exact .inl ((h9 j).2 (.inl hj))
    · exact .inl ((h9 j).2 (.inr (.inl hj)))
    · rcases hj with hj | ⟨x, hx, hj⟩
      · rcases hf with hf | hf
        · exact .inl ((h9 j).2 (.inr (.inr (.inl (.inl (by rw [hj, hf]))))))
        · exact .inr (hf j hj.symm)
      · rcases List.mem_append.1 hx with hx | hx
        · exact .inl ((h9 j).2 (.inr (.inr (.inl (.inr ⟨x, hx, hj⟩)))))
        · rw [List.mem_singleton.1 hx] at hj
          exact .inl ((h9 j).2 (.inr (.inr (.inr hj.symm))))
    · simp [Value.ownBlock] at hj

set_option maxHeartbeats 2000000 in
set_option maxRecDepth 100000 in
theorem waAfter_calls (bl bp : Nat) (S : Nat → Prop) (ls : List (List Int)) (p : List Int) (w : World) (h : WAC (bp + 1) bl bp w S ls p) (hl : ls.length ≤ 1000000) :
    Calls Tryz.prog 60 #[.pointer (some ⟨bl, 0, none⟩), .pointer (some ⟨bp, 0, none⟩)] w fun e w' => e = .returned (.tuple #[]) ∧ ∃ S', WAC (bp + 1) bl bp w' S' (ls ++ [p]) [] ∧ Foot S w w' ∧ ∀ j, S' j → S j ∨ w.heap.size ≤ j := by
  obtain ⟨v, vs, u, h1, h2, h3, h4, h5, h6, h7, h8, h9⟩ := h
  have hbp := (Array.getElem?_eq_some_iff.1 h2).1
  have hbl := (Array.getElem?_eq_some_iff.1 h1).1
  obtain ⟨a, c, rfl⟩ := own_shape' h4
  obtain ⟨a2, c2, rfl⟩ := own_shape' h3.row
  have q0 : w.cell? ⟨bp, 0, none⟩ = some (.slice a p.length c) := by rw [cell_of_row w bp _ _ _ (0, 0) h2]; rfl
  have q1 : w.cell? ⟨bl, 0, none⟩ = some (.slice a2 ls.length c2) := by rw [cell_of_row w bl _ _ _ (0, 0) h1]; rfl
  obtain ⟨i0, hi0, hz0, hz1, hz2⟩ := info_parts intsL_info
  have H1 := Lib.hid h1; have H2 := Lib.hid h2; have H3 := Lib.hid h3; have H4 := Lib.hid h4; have H5 := Lib.hid h5; have H9 := Lib.hid h9
  have NV : Hid (∀ j, j < bp + 1 → some j ≠ (Value.slice a2 ls.length c2).ownBlock) := fun j hj e => by have := (h3.row.lt j e.symm).1; omega
  clear h1 h2 h3 h4 h5 h9
  go_enter Tryz.func60, Tryz.ntmps60
  go_wp2_with (at_builtin; refine wpList_append_own_at _ rfl _ _ 35 rfl (bp + 1) 22 i0 (.slice none 0 0) 1 24 Tryz.underlying35 hi0 hz0 hz1 hz2 rfl (by decide) (.slice a2 ls.length c2) ls.length vs rfl ?hown ⟨w.heap.size, 0, none⟩ 1 1 [.slice a p.length c] rfl rfl ?c1 ?c2 ?c3 ?c4 ?c5 ?_)
  case hown => exact H3.out.row.alloc _
  case c1 => intro j u hj; match j, hj with | 0, hj => simp at hj; subst hj; exact (World.cell?_alloc_new w _ _ _).trans rfl
  case c2 => intro u hu; simp at hu; subst hu; rfl
  case c3 => unfold maxLen; omega
  case c4 => omega
  case c5 => simp; omega
  intro v1 w1 hown hgrow _ hloc
  obtain ⟨a1, c1, rfl⟩ := own_shape' hown
  have hb1 : w1.heap[bl]? = some (.cells #[.slice a2 ls.length c2] 35 (0, 0)) := by
    rw [hgrow.block bl (by simp; omega) (NV.out bl h6)]; exact (heap_alloc_old w _ hbl).trans H1.out
  have hb2 : w1.heap[bp]? = some (.cells #[.slice a p.length c] 22 (0, 0)) := by
    rw [hgrow.block bp (by simp; omega) (NV.out bp h7)]; exact (heap_alloc_old w _ hbp).trans H2.out
  have k1 : w1.cell? ⟨bl, 0, none⟩ = some (.slice a2 ls.length c2) := by rw [cell_of_row w1 bl _ _ _ (0, 0) hb1]; rfl
  have g1 : w1.frozen? ⟨bl, 0, none⟩ = false := by simp [World.frozen?, hb1]
  have k2 : w1.cell? ⟨bp, 0, none⟩ = some (.slice a p.length c) := by rw [cell_of_row w1 bp _ _ _ (0, 0) hb2]; rfl
  have g2 : w1.frozen? ⟨bp, 0, none⟩ = false := by simp [World.frozen?, hb2]
  have HR := Lib.hid (WAC.after H1.out H2.out H3.out H4.out H5.out h6 h7 h8 H9.out ((Below.refl w.heap.size w).alloc (Nat.le_refl _) _) hown hgrow (hloc.imp id fun h g hg => by rw [h] at hg; have := Option.some.inj hg; omega))
  have hne : bp ≠ bl := fun e => h8 e.symm
  clear hown hgrow hloc hb1 hb2
  go_wp2
  go_end0
  exact ⟨rfl, HR.out⟩

theorem waClient (bl bp : Nat) : Client 58 60 #[.pointer (some ⟨bp, 0, none⟩)] #[.pointer (some ⟨bl, 0, none⟩), .pointer (some ⟨bp, 0, none⟩)] (WAC (bp + 1) bl bp) where
  eD := Tryz.call58
  eA := Tryz.call60
  lt := fun _ _ _ _ h => h.lt
  keeps := fun _ _ _ _ _ h _ hb => h.keeps hb
  during := fun w S ls p x h hp => waDuring_calls bl bp S ls p x w h hp
  after := fun w S ls p h hl _ => waAfter_calls bl bp S ls p w h hl

/-- What WalkAll answers. -/
def WAPost (d : Bool) (ns : List Int) (es : List (Int × Int × Int)) (w : World) (e : Ending) (w' : World) : Prop :=
  ∃ v : Value, e = .returned (.tuple #[v, .bool (!(wellB ns es && !d))]) ∧
    (if wellB ns es && !d then ∃ vs ps, LolAt w' w.heap.size v vs ps ∧ CompsFrom (sortI ns) (nextL (sortI ns) (rowsFrom false (sortI ns) es).1) (sortI ns) [] ps else v = .slice none 0 0) ∧ Below w.heap.size w w'

set_option maxHeartbeats 8000000 in
set_option maxRecDepth 100000 in
theorem implWalkAll_calls (d deep : Bool) (an ae : Option Addr) (n cn m ce : Nat) (ns : List Int) (es : List (Int × Int × Int)) (w : World) (hn : RdI w an n ns) (hr : RdE w ae m es) (hn8 : n ≤ 100000) (hwf : ∀ x ∈ ns, (Lit.int .i64 x).wf = true) :
    Calls Tryz.prog 19 #[.agg #[.bool d, .slice an n cn, .slice ae m ce], .bool deep] w (WAPost d ns es w) := by
  have HR := Lib.hid hr; clear hr
  have HN := Lib.hid hn; clear hn
  have HWF := Lib.hid hwf; clear hwf
  go_enter Tryz.func19, Tryz.ntmps19
  go_wp2_with fail
  obtain ⟨w1, hw1⟩ : ∃ w1, w1 = (w.alloc (.cells #[.bool d, .slice an n cn, .slice ae m ce] 25)).alloc (.cells #[.slice none 0 0] 35) := ⟨_, rfl⟩
  have HB1 : Hid (Below w.heap.size w w1) := by rw [hw1]; exact ((Below.refl _ _).alloc (Nat.le_refl _) _).alloc (by simp) _
  have z1 : w1.heap[w.heap.size + 1]? = some (.cells #[.slice none 0 0] 35 (0, 0)) := by
    have h := heap_alloc_new (w.alloc (.cells #[.bool d, .slice an n cn, .slice ae m ce] 25)) (.cells #[.slice none 0 0] 35)
    rw [hw1]; simpa using h
  have hs1 : w.heap.size + 2 ≤ w1.heap.size := by rw [hw1]; simp
  rw [← hw1]
  clear hw1
  refine (bothWaysG_calls d an ae n cn m ce ns es w1 (HN.out.below HB1.out (Nat.le_refl _)) (HR.out.below HB1.out (Nat.le_refl _)) (by omega)).mono ?_
  rintro e w2 ⟨hb, bp, rfl, hst⟩
  have HB2 := Lib.hid (HB1.out.trans (hb.mono (by omega)))
  have HST := Lib.hid hst
  have z2 := (hb.block _ (by omega)).trans z1
  have hs2 : w.heap.size + 1 < w2.heap.size := Nat.lt_of_lt_of_le hs1 hb.size
  have HLEN := Lib.hid HN.out.len
  have y0 : w2.cell? ⟨w.heap.size + 1, 0, none⟩ = some (.slice none 0 0) := by rw [cell_of_row w2 _ 0 _ _ (0, 0) z2]; rfl
  have f0 : w2.frozen? ⟨w.heap.size + 1, 0, none⟩ = false := by simp [World.frozen?, z2]
  have Z2 := Lib.hid z2
  clear hb hst z1 z2
  obtain ⟨b, hb⟩ : ∃ b, (wellB ns es && (d == false)) = b := ⟨_, rfl⟩
  have HBB := Lib.hid hb
  rw [hb]
  clear hb
  cases b
  · have HGOOD : Hid ((wellB ns es && !d) = false) := by
      have := HBB.out
      unfold Hid
      cases d <;> simp at this ⊢
      exact this
    go_wp2_with fail
    refine bodyPost_ret (v := .tuple #[.slice none 0 0, .bool true]) (by simp [results, Tryz.results19, go_sem, y0, hs2]) rfl ?_
    refine ⟨.slice none 0 0, by rw [HGOOD.out]; rfl, by rw [HGOOD.out]; exact rfl, ?_⟩
    refine Below.alloc (Below.setCell HB2.out ?_ _) ?_ _
    · show w.heap.size ≤ w.heap.size + 1; omega
    · simp [World.setCell]; omega
  · obtain ⟨hwell, rfl⟩ : wellB ns es = true ∧ d = false := by
      have := HBB.out
      cases d <;> simp at this
      exact ⟨this, rfl⟩
    have HG2 := Lib.hid (HST.out hwell)
    have HWELL := Lib.hid hwell
    clear hwell HST
    have hlen := HLEN.out
    have HIL : Hid ((sortI ns).length ≤ 100000) := by unfold Hid; rw [sortI_len]; omega
    have HADJ : Hid (∀ y ∈ sortI ns, (nextL (sortI ns) (rowsFrom false (sortI ns) es).1 y).length ≤ 100000) := fun y hy => Nat.le_trans (HG2.out.2.len_out hy) HIL.out
    have HWF2 : Hid (∀ x ∈ sortI ns, (Lit.int .i64 x).wf = true) := fun x hx => HWF.out x (mem_sortI.1 hx)
    obtain ⟨hbp, hgr⟩ := HG2.out
    have HG2 := Lib.hid hgr
    clear hlen hgr
    cases deep
    · go_wp2_with fail
      obtain ⟨w3, hw3⟩ : ∃ w3, w3 = ((w2.alloc (.cells #[.pointer (some ⟨bp, 0, none⟩)] 96)).alloc (.cells #[.slice none 0 0] 22)).alloc (.cells #[.nilFunc, .nilFunc, .int .i64 0, .slice none 0 0, .map none] 114) := ⟨_, rfl⟩
      have HB3 : Hid (Below w2.heap.size w2 w3) := by rw [hw3]; exact (((Below.refl _ _).alloc (Nat.le_refl _) _).alloc (by simp) _).alloc (by simp; omega) _
      have Z3 : w3.heap[w2.heap.size + 1 + 1]? = some (.cells #[.nilFunc, .nilFunc, .int .i64 0, .slice none 0 0, .map none] 114 (0, 0)) := by
        have h := heap_alloc_new ((w2.alloc (.cells #[.pointer (some ⟨bp, 0, none⟩)] 96)).alloc (.cells #[.slice none 0 0] 22)) (.cells #[.nilFunc, .nilFunc, .int .i64 0, .slice none 0 0, .map none] 114)
        rw [hw3]; simpa using h
      have X3 : w3.heap[w2.heap.size + 1]? = some (.cells #[.slice none 0 0] 22 (0, 0)) := by
        have h := heap_alloc_new (w2.alloc (.cells #[.pointer (some ⟨bp, 0, none⟩)] 96)) (.cells #[.slice none 0 0] 22)
        rw [hw3, heap_alloc_old _ _ (by simp)]; simpa using h
      rw [← hw3]
      clear hw3
      have HDF : Hid (BfSt w3 (w2.heap.size + 1 + 1) (w2.heap.size + 1 + 1 + 1) 0 (.slice none 0 0) none []) := BfSt.start Z3 (by omega)
      have HC3 : Hid (WAC (w2.heap.size + 1 + 1) (w.heap.size + 1) (w2.heap.size + 1) w3 (fun j => j = w.heap.size + 1 ∨ j = w2.heap.size + 1 ∨ LolF (.slice none 0 0) [] j ∨ some j = (Value.slice none 0 0).ownBlock) [] []) :=
        ⟨.slice none 0 0, [], .slice none 0 0, (HB3.out.block _ hs2).trans Z2.out, X3, LolAt.nil _ _, World.ownsRow_nil _ _ _ _, (fun g hg => by simp [Value.ownBlock] at hg), by omega, by omega, by omega, fun j => Iff.rfl⟩
      have hsin : ∀ j, (j = w.heap.size + 1 ∨ j = w2.heap.size + 1 ∨ LolF (.slice none 0 0) [] j ∨ some j = (Value.slice none 0 0).ownBlock) → j = w.heap.size + 1 ∨ j = w2.heap.size + 1 := fun j hj => by
        rcases hj with hj | hj | hj | hj
        · exact .inl hj
        · exact .inr hj
        · rcases hj with hj | ⟨x, hx, _⟩
          · simp [Value.ownBlock] at hj
          · cases hx
        · simp [Value.ownBlock] at hj
      have HSN : Hid (¬ (w2.heap.size + 1 + 1 = w.heap.size + 1 ∨ w2.heap.size + 1 + 1 = w2.heap.size + 1 ∨ LolF (.slice none 0 0) [] (w2.heap.size + 1 + 1) ∨ some (w2.heap.size + 1 + 1) = (Value.slice none 0 0).ownBlock)) := fun h => by have := hsin _ h; omega
      have HGG : Hid (∀ w', Foot (fun j => (j = w.heap.size + 1 ∨ j = w2.heap.size + 1 ∨ LolF (.slice none 0 0) [] j ∨ some j = (Value.slice none 0 0).ownBlock) ∨ j = w2.heap.size + 1 + 1) w3 w' → Gr bp (sortI ns) (rowsFrom false (sortI ns) es).1 (rowsFrom false (sortI ns) es).2 w') := fun w' hf =>
        HG2.out.of_ge (Nat.le_trans HB3.out.size hf.size) (fun j h1 h2 => (hf.block j (Nat.lt_of_lt_of_le h2 HB3.out.size) (fun h => by
          rcases h with h | h
          · have := hsin j h; omega
          · omega)).trans (HB3.out.block j h2))
      have HSI := Lib.hid hsin
      clear hsin Z3 X3
      refine (bWalkAll_calls (uGraphR bp _ _ _) (waClient (w.heap.size + 1) (w2.heap.size + 1)) HWF2.out HIL.out (ls := []) (by simp) HDF.out HC3.out HSN.out HGG.out).mono ?_
      rintro e w4 ⟨rfl, S4, ps, hc4, hcomps, hf4, hs4⟩
      have HF4 : Hid (Foot (fun j => j = w.heap.size + 1) w w4) := (Foot.of_below HB2.out _).trans ((Foot.of_below HB3.out (fun j => j = w.heap.size + 1)).trans (hf4.mono (fun j hj => (show j = w.heap.size + 1 ∨ j = w2.heap.size + 1 ∨ j = w2.heap.size + 1 + 1 from by
        rcases hj with hj | hj
        · rcases HSI.out j hj with h | h
          · exact .inl h
          · exact .inr (.inl h)
        · exact .inr (.inr hj)))) (fun j hj => by
          rcases hj with hj | hj | hj
          · exact .inl hj
          · exact .inr (by omega)
          · exact .inr (by omega)) : Foot (fun j => j = w.heap.size + 1) w2 w4) (fun j hj => .inl hj)
      obtain ⟨v, vs, u, k1, k2, k3, k4, k5, k6, k7, k8, k9⟩ := hc4
      obtain ⟨a4, c4, rfl⟩ := own_shape' k3.row
      have HK3 := Lib.hid k3; have HCO := Lib.hid hcomps
      have y4 : w4.cell? ⟨w.heap.size + 1, 0, none⟩ = some (.slice a4 ([] ++ ps).length c4) := by rw [cell_of_row w4 _ _ _ _ (0, 0) k1]; rfl
      have f4 : w4.frozen? ⟨w.heap.size + 1, 0, none⟩ = false := by simp [World.frozen?, k1]
      have hs4 : w.heap.size + 1 < w4.heap.size := (Array.getElem?_eq_some_iff.1 k1).1
      clear k1 k2 k3 k4 k5 k6 k7 k8 k9 hcomps hf4 y0 f0
      go_wp2_with fail
      refine bodyPost_ret (v := .tuple #[.slice a4 ([] ++ ps).length c4, .bool false]) (by simp [results, Tryz.results19, go_sem, y4]) rfl ?_
      have hgood : (wellB ns es && !false) = true := by rw [HWELL.out]; rfl
      refine ⟨_, by rw [hgood]; rfl, ?_, (HF4.out.setCell (w.heap.size + 1) 0 _ (.inl rfl)).below (fun j hj => by omega) (Nat.le_refl _)⟩
      rw [hgood, if_pos rfl]
      refine ⟨vs, ps, ?_, HCO.out⟩
      have hK := HK3.out.of_heap (w' := w4.setCell ⟨w.heap.size + 1, 0, none⟩ (.slice a4 ([] ++ ps).length c4)) (fun j hj => Below.heap_setCell _ _ _ _ (fun e => by have := (HK3.out.lt hj).1; have e' : j = w.heap.size + 1 := e; omega))
      exact ⟨own_lower hK.row (by omega), fun i x l hx hl => own_lower (hK.rows i x l hx hl) (by omega), hK.apart⟩
    · go_wp2_with fail
      obtain ⟨w3, hw3⟩ : ∃ w3, w3 = ((w2.alloc (.cells #[.pointer (some ⟨bp, 0, none⟩)] 96)).alloc (.cells #[.slice none 0 0] 22)).alloc (.cells #[.nilFunc, .nilFunc, .slice none 0 0, .map none] 109) := ⟨_, rfl⟩
      have HB3 : Hid (Below w2.heap.size w2 w3) := by rw [hw3]; exact (((Below.refl _ _).alloc (Nat.le_refl _) _).alloc (by simp) _).alloc (by simp; omega) _
      have Z3 : w3.heap[w2.heap.size + 1 + 1]? = some (.cells #[.nilFunc, .nilFunc, .slice none 0 0, .map none] 109 (0, 0)) := by
        have h := heap_alloc_new ((w2.alloc (.cells #[.pointer (some ⟨bp, 0, none⟩)] 96)).alloc (.cells #[.slice none 0 0] 22)) (.cells #[.nilFunc, .nilFunc, .slice none 0 0, .map none] 109)
        rw [hw3]; simpa using h
      have X3 : w3.heap[w2.heap.size + 1]? = some (.cells #[.slice none 0 0] 22 (0, 0)) := by
        have h := heap_alloc_new (w2.alloc (.cells #[.pointer (some ⟨bp, 0, none⟩)] 96)) (.cells #[.slice none 0 0] 22)
        rw [hw3, heap_alloc_old _ _ (by simp)]; simpa using h
      rw [← hw3]
      clear hw3
      have HDF : Hid (DfSt w3 (w2.heap.size + 1 + 1) (w2.heap.size + 1 + 1 + 1) (.slice none 0 0) none []) := ⟨Z3, World.ownsRow_nil _ _ _ _, by omega⟩
      have HC3 : Hid (WAC (w2.heap.size + 1 + 1) (w.heap.size + 1) (w2.heap.size + 1) w3 (fun j => j = w.heap.size + 1 ∨ j = w2.heap.size + 1 ∨ LolF (.slice none 0 0) [] j ∨ some j = (Value.slice none 0 0).ownBlock) [] []) :=
        ⟨.slice none 0 0, [], .slice none 0 0, (HB3.out.block _ hs2).trans Z2.out, X3, LolAt.nil _ _, World.ownsRow_nil _ _ _ _, (fun g hg => by simp [Value.ownBlock] at hg), by omega, by omega, by omega, fun j => Iff.rfl⟩
      have hsin : ∀ j, (j = w.heap.size + 1 ∨ j = w2.heap.size + 1 ∨ LolF (.slice none 0 0) [] j ∨ some j = (Value.slice none 0 0).ownBlock) → j = w.heap.size + 1 ∨ j = w2.heap.size + 1 := fun j hj => by
        rcases hj with hj | hj | hj | hj
        · exact .inl hj
        · exact .inr hj
        · rcases hj with hj | ⟨x, hx, _⟩
          · simp [Value.ownBlock] at hj
          · cases hx
        · simp [Value.ownBlock] at hj
      have HSN : Hid (¬ (w2.heap.size + 1 + 1 = w.heap.size + 1 ∨ w2.heap.size + 1 + 1 = w2.heap.size + 1 ∨ LolF (.slice none 0 0) [] (w2.heap.size + 1 + 1) ∨ some (w2.heap.size + 1 + 1) = (Value.slice none 0 0).ownBlock)) := fun h => by have := hsin _ h; omega
      have HGG : Hid (∀ w', Foot (fun j => (j = w.heap.size + 1 ∨ j = w2.heap.size + 1 ∨ LolF (.slice none 0 0) [] j ∨ some j = (Value.slice none 0 0).ownBlock) ∨ j = w2.heap.size + 1 + 1) w3 w' → Gr bp (sortI ns) (rowsFrom false (sortI ns) es).1 (rowsFrom false (sortI ns) es).2 w') := fun w' hf =>
        HG2.out.of_ge (Nat.le_trans HB3.out.size hf.size) (fun j h1 h2 => (hf.block j (Nat.lt_of_lt_of_le h2 HB3.out.size) (fun h => by
          rcases h with h | h
          · have := hsin j h; omega
          · omega)).trans (HB3.out.block j h2))
      have HSI := Lib.hid hsin
      clear hsin Z3 X3
      refine (dWalkAll_calls (uGraphR bp _ _ _) (waClient (w.heap.size + 1) (w2.heap.size + 1)) HWF2.out 100000 HADJ.out (Nat.le_refl _) HIL.out (ls := []) (by simp) HDF.out HC3.out HSN.out HGG.out).mono ?_
      rintro e w4 ⟨rfl, S4, ps, hc4, hcomps, hf4, hs4⟩
      have HF4 : Hid (Foot (fun j => j = w.heap.size + 1) w w4) := (Foot.of_below HB2.out _).trans ((Foot.of_below HB3.out (fun j => j = w.heap.size + 1)).trans (hf4.mono (fun j hj => (show j = w.heap.size + 1 ∨ j = w2.heap.size + 1 ∨ j = w2.heap.size + 1 + 1 from by
        rcases hj with hj | hj
        · rcases HSI.out j hj with h | h
          · exact .inl h
          · exact .inr (.inl h)
        · exact .inr (.inr hj)))) (fun j hj => by
          rcases hj with hj | hj | hj
          · exact .inl hj
          · exact .inr (by omega)
          · exact .inr (by omega)) : Foot (fun j => j = w.heap.size + 1) w2 w4) (fun j hj => .inl hj)
      obtain ⟨v, vs, u, k1, k2, k3, k4, k5, k6, k7, k8, k9⟩ := hc4
      obtain ⟨a4, c4, rfl⟩ := own_shape' k3.row
      have HK3 := Lib.hid k3; have HCO := Lib.hid hcomps
      have y4 : w4.cell? ⟨w.heap.size + 1, 0, none⟩ = some (.slice a4 ([] ++ ps).length c4) := by rw [cell_of_row w4 _ _ _ _ (0, 0) k1]; rfl
      have f4 : w4.frozen? ⟨w.heap.size + 1, 0, none⟩ = false := by simp [World.frozen?, k1]
      have hs4 : w.heap.size + 1 < w4.heap.size := (Array.getElem?_eq_some_iff.1 k1).1
      clear k1 k2 k3 k4 k5 k6 k7 k8 k9 hcomps hf4 y0 f0
      go_wp2_with fail
      refine bodyPost_ret (v := .tuple #[.slice a4 ([] ++ ps).length c4, .bool false]) (by simp [results, Tryz.results19, go_sem, y4]) rfl ?_
      have hgood : (wellB ns es && !false) = true := by rw [HWELL.out]; rfl
      refine ⟨_, by rw [hgood]; rfl, ?_, (HF4.out.setCell (w.heap.size + 1) 0 _ (.inl rfl)).below (fun j hj => by omega) (Nat.le_refl _)⟩
      rw [hgood, if_pos rfl]
      refine ⟨vs, ps, ?_, HCO.out⟩
      have hK := HK3.out.of_heap (w' := w4.setCell ⟨w.heap.size + 1, 0, none⟩ (.slice a4 ([] ++ ps).length c4)) (fun j hj => Below.heap_setCell _ _ _ _ (fun e => by have := (HK3.out.lt hj).1; have e' : j = w.heap.size + 1 := e; omega))
      exact ⟨own_lower hK.row (by omega), fun i x l hx hl => own_lower (hK.rows i x l hx hl) (by omega), hK.apart⟩
end Go.Proofs.YtbkoifdnlaihfaaGreat
