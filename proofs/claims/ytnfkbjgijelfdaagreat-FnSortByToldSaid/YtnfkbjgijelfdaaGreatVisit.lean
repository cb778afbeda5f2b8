/- The walks of spec.placeIn, componentOf and firstOf. The walk depth first of spec.Stabilized: walk.visit. The walk of spec.Stabilized. The walk of spec.SortBy. -/
import Derived.Test.YtnfkbjgijelfdaaGreatSpec1
import Derived.Test.YtnfkbjgijelfdaaGreatStab
import Derived.Test.YtnfkbjgijelfdaaGreatLex
import Derived.Test.YtnfkbjgijelfdaaGreatTar
import Derived.Test.YtnfkbjgijelfdaaGreatSortI
import Derived.Test.YtnfkbjgijelfdaaGreatSpecC
import Derived.Test.YtnfkbjgijelfdaaGreatRolld
import Derived.Test.YtnfkbjgijelfdaaGreatHeldL
namespace Go.Proofs.YtnfkbjgijelfdaaGreat
open Go.RowKit

theorem posP_drop {zs : List Int} {k : Nat} {z x : Int} (hk : k < zs.length) (hz : zs.getD k 0 = z) : posP (zs.drop k) x = if z = x then 0 else posP (zs.drop (k + 1)) x + 1 := by
  have e1 : zs[k] = z := by simpa [List.getD, hk] using hz
  rw [List.drop_eq_getElem_cons hk, e1]; rfl

set_option maxHeartbeats 400000 in
theorem placeIn_calls (a : Option Addr) (n cap : Nat) (zs : List Int) (x : Int) (w : World) (hr : RdI w a n zs) (hx : x ∈ zs) :
    Calls Tryz.prog 70 #[.slice a n cap, .int .i64 x] w fun e w' => e = .returned (.int .i64 (posP zs x : Nat)) ∧ w = w' := by
  have hs := hr.small
  have HR := Lib.hid hr
  have HP : Hid (posP zs x < n) := Lib.hid (by rw [← hr.len]; exact posP_lt hx)
  clear hr hx
  go_enter Tryz.func70, Tryz.ntmps70
  go_wp2
  go_loopw [9] (fun i wr => ∃ k : Nat, k ≤ n ∧ i = .int .i64 k ∧ posP zs x = k + posP (zs.drop k) x ∧ wr = w) (fun i _ => n - (intOf i).toNat)
  case atStart => exact ⟨0, by omega, rfl, by simp, rfl⟩
  case round =>
    obtain ⟨k, hk, rfl, he, rfl⟩ := hrel
    have hlt : k < n := by have := HP.out; omega
    have HE := Lib.hid he; clear he
    obtain ⟨b, off, rfl, hb, hc⟩ := HR.out.at_ (by omega)
    obtain ⟨z, HZ, hck⟩ := hc k hlt
    clear hc
    have hst := posP_drop (x := x) (by have := HR.out.len; omega) HZ.out
    by_cases hxz : z = x
    · subst hxz
      rw [if_pos rfl] at hst
      have HST := Lib.hid hst
      clear hst
      go_wp2
      go_ret
      exact ⟨by rw [HE.out, HST.out]; rfl, by first | rfl | trivial⟩
    · have hx' := beq_eq_false_iff_ne.2 hxz
      rw [if_neg hxz] at hst
      have HST := Lib.hid hst
      clear hst hxz
      go_wp2
      go_roundw
      case rel => exact ⟨k + 1, by omega, by go_num, by rw [HE.out, HST.out]; omega, by first | rfl | trivial⟩
      case measure => simp [intOf]; omega

theorem firstOf_drop {zs cs : List Int} {k : Nat} {z : Int} (hk : k < zs.length) (hz : zs.getD k 0 = z) : firstOfI (zs.drop k) cs = if hasB cs z = true then z else firstOfI (zs.drop (k + 1)) cs := by
  have e1 : zs[k] = z := by simpa [List.getD, hk] using hz
  unfold firstOfI
  rw [List.drop_eq_getElem_cons hk, e1]
  by_cases h : hasB cs z = true
  · rw [if_pos h, List.find?_cons_of_pos (by rw [List.contains_iff_mem]; exact (hasB_iff _ _).1 h)]; rfl
  · rw [if_neg h, List.find?_cons_of_neg (by rw [List.contains_iff_mem]; exact fun h2 => h ((hasB_iff _ _).2 h2))]

set_option maxHeartbeats 400000 in
theorem firstOf_calls (a b : Option Addr) (n m cn cm : Nat) (zs cs : List Int) (w : World) (hr : RdI w a n zs) (hq : RdI w b m cs) :
    Calls Tryz.prog 104 #[.slice a n cn, .slice b m cm] w fun e w' => e = .returned (.int .i64 (firstOfI zs cs)) ∧ w = w' := by
  have hs := hr.small
  have HR := Lib.hid hr; have HQ := Lib.hid hq
  clear hr hq
  go_enter Tryz.func104, Tryz.ntmps104
  go_wp2
  go_loopw [9] (fun i wr => ∃ k : Nat, k ≤ n ∧ i = .int .i64 k ∧ firstOfI zs cs = firstOfI (zs.drop k) cs ∧ wr = w) (fun i _ => n - (intOf i).toNat)
  case atStart => exact ⟨0, by omega, rfl, by simp, rfl⟩
  case round =>
    obtain ⟨k, hk, rfl, he, rfl⟩ := hrel
    have HE := Lib.hid he; clear he
    by_cases hlt : k < n
    · obtain ⟨bb, off, rfl, hb, hc⟩ := HR.out.at_ (by omega)
      obtain ⟨z, HZ, hck⟩ := hc k hlt
      clear hc
      have hst := firstOf_drop (cs := cs) (by have := HR.out.len; omega) HZ.out
      go_wp2_with fail
      refine (hasInt_calls b m cm cs z wr HQ.out).mono ?_
      rintro e w5 ⟨rfl, rfl⟩
      obtain ⟨hbit, hhb⟩ : ∃ b, hasB cs z = b := ⟨_, rfl⟩
      rw [hhb] at hst ⊢
      clear hhb
      cases hbit
      · have HST : Hid (firstOfI (zs.drop k) cs = firstOfI (zs.drop (k + 1)) cs) := Lib.hid (by rw [hst]; rfl)
        clear hst
        go_wp2
        go_roundw
        case rel => exact ⟨k + 1, by omega, by go_num, by rw [HE.out, HST.out], by first | rfl | trivial⟩
        case measure => simp [intOf]; omega
      · have HST : Hid (firstOfI (zs.drop k) cs = z) := Lib.hid (by rw [hst]; rfl)
        clear hst
        go_wp2
        go_ret
        exact ⟨by rw [HE.out, HST.out]; rfl, by first | rfl | trivial⟩
    · go_wp2
      go_ret
      have hd : zs.drop k = [] := List.drop_eq_nil_of_le (by have := HR.out.len; omega)
      exact ⟨by rw [HE.out, hd]; rfl, by first | rfl | trivial⟩

theorem compOf_drop {ls : List (List Int)} {k : Nat} {l : List Int} {u : Int} (hl : ls[k]? = some l) : compOf (ls.drop k) u = if hasB l u = true then l else compOf (ls.drop (k + 1)) u := by
  obtain ⟨hk, e1⟩ := List.getElem?_eq_some_iff.1 hl
  unfold compOf
  rw [List.drop_eq_getElem_cons hk, e1]
  by_cases h : hasB l u = true
  · rw [if_pos h, List.find?_cons_of_pos (by rw [List.contains_iff_mem]; exact (hasB_iff _ _).1 h)]; rfl
  · rw [if_neg h, List.find?_cons_of_neg (by rw [List.contains_iff_mem]; exact fun h2 => h ((hasB_iff _ _).2 h2))]

def CompPostS (wB : World) (ls : List (List Int)) (u : Int) (w : World) (e : Ending) (w' : World) : Prop :=
  ∃ (a : Option Addr) (n c : Nat), e = .returned (.slice a n c) ∧ RdI wB a n (compOf ls u) ∧ w = w'

set_option maxHeartbeats 400000 in
theorem componentOf_calls (a : Option Addr) (n cap : Nat) (ls : List (List Int)) (u : Int) (wB w : World) (hr : RdL wB a n ls) (hbw : Below wB.heap.size wB w) :
    Calls Tryz.prog 103 #[.slice a n cap, .int .i64 u] w (CompPostS wB ls u w) := by
  have hs := hr.small
  have HR := Lib.hid hr; have HBW := Lib.hid hbw
  clear hr hbw
  go_enter Tryz.func103, Tryz.ntmps103
  go_wp2
  go_loopw [9] (fun i wr => ∃ k : Nat, k ≤ n ∧ i = .int .i64 k ∧ compOf ls u = compOf (ls.drop k) u ∧ wr = w) (fun i _ => n - (intOf i).toNat)
  case atStart => exact ⟨0, by omega, rfl, by simp, rfl⟩
  case round =>
    obtain ⟨k, hk, rfl, he, rfl⟩ := hrel
    have HE := Lib.hid he; clear he
    by_cases hlt : k < n
    · obtain ⟨bb, off, rfl, hb, hc⟩ := HR.out.at_ (by omega)
      obtain ⟨al, nl, cl, l, HL, hck0, hrl⟩ := hc k hlt
      have hck := (HBW.out.cell (p := ⟨bb, off + k, none⟩) hb).trans hck0
      have hst := compOf_drop (u := u) HL.out
      have HRL := Lib.hid hrl
      have hbr : bb < wr.heap.size := by have := HBW.out.size; omega
      clear hrl hc hck0
      go_wp2_with fail
      refine (hasInt_calls al nl cl l u wr (HRL.out.below HBW.out (Nat.le_refl _))).mono ?_
      rintro e w5 ⟨rfl, rfl⟩
      obtain ⟨hbit, hhb⟩ : ∃ b, hasB l u = b := ⟨_, rfl⟩
      rw [hhb] at hst ⊢
      clear hhb
      cases hbit
      · have HST : Hid (compOf (ls.drop k) u = compOf (ls.drop (k + 1)) u) := Lib.hid (by rw [hst]; rfl)
        clear hst
        go_wp2
        go_roundw
        case rel => exact ⟨k + 1, by omega, by go_num, by rw [HE.out, HST.out], by first | rfl | trivial⟩
        case measure => simp [intOf]; omega
      · have HST : Hid (compOf (ls.drop k) u = l) := Lib.hid (by rw [hst]; rfl)
        clear hst
        go_wp2
        go_ret
        exact ⟨_, _, _, rfl, by rw [HE.out, HST.out]; exact HRL.out, by first | rfl | trivial⟩
    · go_wp2
      go_ret
      have hd : ls.drop k = [] := List.drop_eq_nil_of_le (by have := HR.out.len; omega)
      exact ⟨_, _, _, rfl, by rw [HE.out, hd]; exact ⟨rfl, by omega, fun h => by omega⟩, by first | rfl | trivial⟩
end Go.Proofs.YtnfkbjgijelfdaaGreat
namespace Go.Proofs.YtnfkbjgijelfdaaGreat
open Go.RowKit

/-- The lengths of a walk's lists. -/
structure WOk (ids : List Int) (k : Nat) (d : WS) : Prop where
  nd : d.met.Nodup
  sub : ∀ x ∈ d.met, x ∈ ids
  len : d.left.length + k ≤ d.met.length
theorem WOk.bound {ids : List Int} {k : Nat} {d : WS} (h : WOk ids k d) : d.met.length ≤ ids.length := nodup_lenT h.nd h.sub
theorem WOk.enter {ids : List Int} {k : Nat} {d : WS} (h : WOk ids k d) {w : Int} (hw : w ∈ ids) (h0 : w ∉ d.met) : WOk ids (k + 1) ⟨d.met ++ [w], d.left⟩ := by
  refine ⟨?_, fun x hx => ?_, ?_⟩
  · show (d.met ++ [w]).Nodup
    rw [List.nodup_append]
    exact ⟨h.nd, by simp, fun a ha b hb e => h0 (by rw [← List.mem_singleton.1 hb, ← e]; exact ha)⟩
  · rcases List.mem_append.1 hx with hx | hx
    · exact h.sub x hx
    · rw [List.mem_singleton.1 hx]; exact hw
  · have h1 := h.len
    show d.left.length + (k + 1) ≤ (d.met ++ [w]).length
    rw [List.length_append, List.length_singleton]
    omega
theorem WOk.leave {ids : List Int} {k : Nat} {d : WS} (h : WOk ids (k + 1) d) (w : Int) : WOk ids k ⟨d.met, d.left ++ [w]⟩ := by
  refine ⟨h.nd, h.sub, ?_⟩
  have h1 := h.len
  show (d.left ++ [w]).length + k ≤ d.met.length
  rw [List.length_append, List.length_singleton]
  omega
theorem VRun.ok {ids : List Int} {adj : Int → List Int} (hadj : ∀ a, ∀ b ∈ adj a, b ∈ ids) {s s' : WS} {l : List Int} (h : VRun adj s l s') : ∀ k, WOk ids k s → (∀ x ∈ l, x ∈ ids) → WOk ids k s' ∧ s.met.length ≤ s'.met.length ∧ ∀ x ∈ s.met, x ∈ s'.met := by
  induction h with
  | nil s => intro k h _; exact ⟨h, Nat.le_refl _, fun _ h => h⟩
  | @visit w s s1 s' r h0 _ _ ih1 ih2 =>
    intro k h hl
    obtain ⟨a1, a2, a3⟩ := ih1 (k + 1) (h.enter (hl w (by simp)) h0) (hadj w)
    obtain ⟨b1, b2, b3⟩ := ih2 k (a1.leave w) (fun x hx => hl x (List.mem_cons_of_mem _ hx))
    refine ⟨b1, ?_, fun x hx => b3 x (a3 x (List.mem_append_left _ hx))⟩
    have a2 : (s.met ++ [w]).length ≤ s1.met.length := a2
    have b2 : s1.met.length ≤ s'.met.length := b2
    rw [List.length_append] at a2
    omega
  | skip _ _ ih => intro k h hl; exact ih k h (fun x hx => hl x (List.mem_cons_of_mem _ hx))

/-- The walk's block and its two lists. -/
structure WMem (bw lo : Nat) (an ae : Option Addr) (n cn m ce : Nat) (vM vL : Value) (d : WS) (w : World) : Prop where
  blk : w.heap[bw]? = some (.cells #[.bool true, .slice an n cn, .slice ae m ce, vM, vL] 159 (0, 0))
  met : w.ownsRow lo 3 1 vM d.met.length (d.met.map (Value.int .i64))
  left : w.ownsRow lo 3 1 vL d.left.length (d.left.map (Value.int .i64))
  apart : ∀ g, vM.ownBlock = some g → vL.ownBlock ≠ some g
  low : bw < lo
def WF (bw : Nat) (vM vL : Value) (j : Nat) : Prop := j = bw ∨ vM.ownBlock = some j ∨ vL.ownBlock = some j
section
variable {bw lo : Nat} {an ae : Option Addr} {n cn m ce : Nat} {vM vL : Value} {d : WS} {w w' : World}
theorem WMem.lt (h : WMem bw lo an ae n cn m ce vM vL d w) : bw < w.heap.size := (Array.getElem?_eq_some_iff.1 h.blk).1
theorem WMem.flt (h : WMem bw lo an ae n cn m ce vM vL d w) {j : Nat} (hj : WF bw vM vL j) : bw ≤ j ∧ j < w.heap.size := by
  have h1 := h.lt; have h2 := h.low
  rcases hj with rfl | hj | hj
  · exact ⟨Nat.le_refl _, h1⟩
  · have := h.met.lt j hj; omega
  · have := h.left.lt j hj; omega
theorem WMem.neM (h : WMem bw lo an ae n cn m ce vM vL d w) : vM.ownBlock ≠ some bw := fun e => by have := (h.met.lt bw e).1; have := h.low; omega
theorem WMem.neL (h : WMem bw lo an ae n cn m ce vM vL d w) : vL.ownBlock ≠ some bw := fun e => by have := (h.left.lt bw e).1; have := h.low; omega
theorem WMem.cells (h : WMem bw lo an ae n cn m ce vM vL d w) : w.cell? ⟨bw, 0, none⟩ = some (.bool true) ∧ w.cell? ⟨bw, 1, none⟩ = some (.slice an n cn) ∧ w.cell? ⟨bw, 2, none⟩ = some (.slice ae m ce) ∧ w.cell? ⟨bw, 3, none⟩ = some vM ∧ w.cell? ⟨bw, 4, none⟩ = some vL ∧ w.frozen? ⟨bw, 3, none⟩ = false ∧ w.frozen? ⟨bw, 4, none⟩ = false := by
  refine ⟨?_, ?_, ?_, ?_, ?_, by simp [World.frozen?, h.blk], by simp [World.frozen?, h.blk]⟩ <;> (rw [cell_of_row w bw _ _ _ (0, 0) h.blk]; rfl)
theorem WMem.foot {S : Nat → Prop} (h : WMem bw lo an ae n cn m ce vM vL d w) (hf : Foot S w w') (hS : ∀ j, WF bw vM vL j → ¬ S j) : WMem bw lo an ae n cn m ce vM vL d w' :=
  ⟨(hf.block bw h.lt (hS bw (.inl rfl))).trans h.blk, hf.row h.met (fun g hg => hS g (.inr (.inl hg))), hf.row h.left (fun g hg => hS g (.inr (.inr hg))), h.apart, h.low⟩
theorem WMem.below (h : WMem bw lo an ae n cn m ce vM vL d w) (hb : Below w.heap.size w w') : WMem bw lo an ae n cn m ce vM vL d w' :=
  h.foot (Foot.of_below hb (fun _ => False)) (fun _ _ h => h)
/-- The list of the nodes met has grown. -/
theorem WMem.setM {vM' : Value} {x : Int} (h : WMem bw lo an ae n cn m ce vM vL d w) (hg : (w.alloc (.cells #[.int .i64 x] 3)).grownBy w' vM.ownBlock) (ho : w'.ownsRow lo 3 1 vM' (d.met ++ [x]).length ((d.met ++ [x]).map (Value.int .i64))) (hl : vM'.ownBlock = vM.ownBlock ∨ vM'.ownBlock = some (w.heap.size + 1)) :
    w'.cell? ⟨bw, 3, none⟩ = some vM ∧ w'.frozen? ⟨bw, 3, none⟩ = false ∧ WMem bw lo an ae n cn m ce vM' vL ⟨d.met ++ [x], d.left⟩ (w'.setCell ⟨bw, 3, none⟩ vM') ∧ Foot (WF bw vM vL) w (w'.setCell ⟨bw, 3, none⟩ vM') ∧ ∀ j, WF bw vM' vL j → WF bw vM vL j ∨ w.heap.size ≤ j := by
  have hsz := h.lt
  have hblk : w'.heap[bw]? = some (.cells #[.bool true, .slice an n cn, .slice ae m ce, vM, vL] 159 (0, 0)) := by
    rw [hg.block bw (by simp; omega) (fun e => h.neM e.symm), heap_alloc_old _ _ hsz]; exact h.blk
  have hF : Foot (WF bw vM vL) w (w'.setCell ⟨bw, 3, none⟩ vM') :=
    ((Foot.of_below ((Below.refl _ _).alloc (Nat.le_refl _) (.cells #[.int .i64 x] 3)) _).trans (Foot.of_row hg) (fun j hj => .inl (.inr (.inl hj.symm)))).setCell bw 3 _ (.inl (.inl rfl))
  have hnb : vM'.ownBlock ≠ some bw := fun e => by
    have := (ho.lt bw e).1; have := h.low; omega
  refine ⟨by rw [cell_of_row w' bw _ _ _ (0, 0) hblk]; rfl, by simp [World.frozen?, hblk], ⟨?_, ?_, ?_, ?_, h.low⟩, hF, ?_⟩
  · rw [heap_setCell_same hblk]; rfl
  · exact ownsRow_of_heap ho (fun g hg' => Below.heap_setCell _ _ _ _ (fun e => hnb (by rw [← show g = bw from e]; exact hg')))
  · refine ownsRow_of_heap h.left (fun g hg' => ?_)
    have hlt := (h.left.lt g hg').2
    rw [Below.heap_setCell _ _ _ _ (fun e => h.neL (by rw [← show g = bw from e]; exact hg')), hg.block g (by simp; omega) (fun e => h.apart g e.symm hg'), heap_alloc_old _ _ hlt]
  · intro g h1 h2
    rcases hl with e | e
    · exact h.apart g (e ▸ h1) h2
    · rw [e] at h1
      have := Option.some.inj h1
      have := (h.left.lt g h2).2
      omega
  · intro j hj
    rcases hj with e | hj | hj
    · exact .inl (.inl e)
    · rcases hl with e | e
      · exact .inl (.inr (.inl (e ▸ hj)))
      · rw [e] at hj
        have := Option.some.inj hj
        exact .inr (by omega)
    · exact .inl (.inr (.inr hj))
/-- The list of the nodes left has grown. -/
theorem WMem.setL {vL' : Value} {x : Int} (h : WMem bw lo an ae n cn m ce vM vL d w) (hg : (w.alloc (.cells #[.int .i64 x] 3)).grownBy w' vL.ownBlock) (ho : w'.ownsRow lo 3 1 vL' (d.left ++ [x]).length ((d.left ++ [x]).map (Value.int .i64))) (hl : vL'.ownBlock = vL.ownBlock ∨ vL'.ownBlock = some (w.heap.size + 1)) :
    w'.cell? ⟨bw, 4, none⟩ = some vL ∧ w'.frozen? ⟨bw, 4, none⟩ = false ∧ WMem bw lo an ae n cn m ce vM vL' ⟨d.met, d.left ++ [x]⟩ (w'.setCell ⟨bw, 4, none⟩ vL') ∧ Foot (WF bw vM vL) w (w'.setCell ⟨bw, 4, none⟩ vL') ∧ ∀ j, WF bw vM vL' j → WF bw vM vL j ∨ w.heap.size ≤ j := by
  have hsz := h.lt
  have hblk : w'.heap[bw]? = some (.cells #[.bool true, .slice an n cn, .slice ae m ce, vM, vL] 159 (0, 0)) := by
    rw [hg.block bw (by simp; omega) (fun e => h.neL e.symm), heap_alloc_old _ _ hsz]; exact h.blk
  have hF : Foot (WF bw vM vL) w (w'.setCell ⟨bw, 4, none⟩ vL') :=
    ((Foot.of_below ((Below.refl _ _).alloc (Nat.le_refl _) (.cells #[.int .i64 x] 3)) _).trans (Foot.of_row hg) (fun j hj => .inl (.inr (.inr hj.symm)))).setCell bw 4 _ (.inl (.inl rfl))
  have hnb : vL'.ownBlock ≠ some bw := fun e => by
    have := (ho.lt bw e).1; have := h.low; omega
  refine ⟨by rw [cell_of_row w' bw _ _ _ (0, 0) hblk]; rfl, by simp [World.frozen?, hblk], ⟨?_, ?_, ?_, ?_, h.low⟩, hF, ?_⟩
  · rw [heap_setCell_same hblk]; rfl
  · refine ownsRow_of_heap h.met (fun g hg' => ?_)
    have hlt := (h.met.lt g hg').2
    rw [Below.heap_setCell _ _ _ _ (fun e => h.neM (by rw [← show g = bw from e]; exact hg')), hg.block g (by simp; omega) (fun e => h.apart g hg' e.symm), heap_alloc_old _ _ hlt]
  · exact ownsRow_of_heap ho (fun g hg' => Below.heap_setCell _ _ _ _ (fun e => hnb (by rw [← show g = bw from e]; exact hg')))
  · intro g h1 h2
    rcases hl with e | e
    · exact h.apart g h1 (e ▸ h2)
    · rw [e] at h2
      have := Option.some.inj h2
      have := (h.met.lt g h1).2
      omega
  · intro j hj
    rcases hj with e | hj | hj
    · exact .inl (.inl e)
    · exact .inl (.inr (.inl hj))
    · rcases hl with e | e
      · exact .inl (.inr (.inr (e ▸ hj)))
      · rw [e] at hj
        have := Option.some.inj hj
        exact .inr (by omega)
end

def VisPost (bw lo : Nat) (an ae : Option Addr) (n cn m ce : Nat) (adj : Int → List Int) (u : Int) (d : WS) (vM vL : Value) (w : World) (e : Ending) (w' : World) : Prop :=
  e = .returned (.tuple #[]) ∧ ∃ d1 vM' vL', VRun adj ⟨d.met ++ [u], d.left⟩ (adj u) d1 ∧ WMem bw lo an ae n cn m ce vM' vL' ⟨d1.met, d1.left ++ [u]⟩ w' ∧ Foot (WF bw vM vL) w w' ∧ ∀ j, WF bw vM' vL' j → WF bw vM vL j ∨ w.heap.size ≤ j

theorem take_rev {A : List Int} {j : Nat} {z : Int} (h : A[j]? = some z) : (A.drop j).reverse = (A.drop (j + 1)).reverse ++ [z] := by
  obtain ⟨h1, h2⟩ := List.getElem?_eq_some_iff.1 h
  rw [List.drop_eq_getElem_cons h1, h2, List.reverse_cons]

set_option maxHeartbeats 8000000 in
set_option maxRecDepth 100000 in
theorem visit_calls (an ae : Option Addr) (n cn m ce : Nat) (ns : List Int) (es : List (Int × Int × Int)) (wB : World) (B0 bw lo : Nat) (hn : RdI wB an n ns) (hr : RdE wB ae m es) (hn8 : n ≤ 500) (hB0 : wB.heap.size ≤ B0) (hbw : B0 ≤ bw) :
    ∀ (k : Nat) (d : WS) (u : Int) (vM vL : Value) (w : World), n ≤ d.met.length + k → WOk (sortI ns) 0 d → u ∈ sortI ns → u ∉ d.met → Below B0 wB w → WMem bw lo an ae n cn m ce vM vL d w → lo ≤ w.heap.size →
      Calls Tryz.prog 102 #[.pointer (some ⟨bw, 0, none⟩), .int .i64 u] w (VisPost bw lo an ae n cn m ce (fun x => (fromL true ns es x).reverse) u d vM vL w) := by
  intro k
  induction k with
  | zero =>
    intro d u vM vL w hk hok hu h0
    have h1 := (hok.enter hu h0).bound
    rw [sortI_len, hn.len] at h1
    have h1 : (d.met ++ [u]).length ≤ n := h1
    rw [List.length_append, List.length_singleton] at h1
    omega
  | succ k ih =>
    intro d u vM vL w hk hok hu h0 hb hmem hlo
    obtain ⟨c0, c1, c2, c3, c4, c5, c6⟩ := hmem.cells
    obtain ⟨adj, hadj⟩ : ∃ adj, adj = fun x => (fromL true ns es x).reverse := ⟨_, rfl⟩
    have hml : d.met.length ≤ n := by have h1 := hok.bound; rw [sortI_len, hn.len] at h1; exact h1
    have hll : d.left.length ≤ n := by have := hok.len; omega
    have HADJ := Lib.hid hadj
    have HN := Lib.hid hn; have HR := Lib.hid hr; have HOK := Lib.hid hok; have HU := Lib.hid hu; have H0 := Lib.hid h0; have HB := Lib.hid hb; have HM := Lib.hid hmem; have IH := Lib.hid ih; have HK := Lib.hid hk; have HB0 := Lib.hid hB0; have HBW := Lib.hid hbw
    have HSUB : Hid (∀ a, ∀ b ∈ adj a, b ∈ sortI ns) := Lib.hid (by rw [hadj]; exact fun a b hb => fromL_sub true ns es a b (List.mem_reverse.1 hb))
    rw [← hadj] at IH ⊢
    obtain ⟨i0, hi0, hz0, hz1, hz2⟩ := info_parts int_info
    have HI := Lib.hid (And.intro hi0 (And.intro hz0 (And.intro hz1 hz2)))
    obtain ⟨aM, cM, rfl⟩ := own_shape' hmem.met
    obtain ⟨aL, cL, rfl⟩ := own_shape' hmem.left
    obtain ⟨M, hMe⟩ : ∃ M, M = d.met.length := ⟨_, rfl⟩
    obtain ⟨L, hLe⟩ : ∃ L, L = d.left.length := ⟨_, rfl⟩
    have HME := Lib.hid hMe; have HLE := Lib.hid hLe
    rw [← hMe] at HM c3 hml
    rw [← hLe] at HM c4 hll
    have HRM : Hid (w.ownsRow lo 3 1 (.slice aM M cM) M (d.met.map (Value.int .i64))) := Lib.hid (by have h := hmem.met; rw [← hMe] at h; exact h)
    rw [← hMe, ← hLe]
    clear hn hr hok hu h0 hb hmem ih hk hadj hMe hLe hB0 hbw c4 c6
    go_enter Tryz.func102, Tryz.ntmps102
    go_wp2_with (at_builtin; refine wpList_append_own_at _ rfl _ _ 22 rfl lo 3 i0 (.int .i64 0) 1 8 Tryz.underlying22 hi0 hz0 hz1 hz2 rfl (by decide) (.slice aM M cM) M (d.met.map (Value.int .i64)) rfl (HRM.out.alloc _) ⟨w.heap.size, 0, none⟩ 1 1 [.int .i64 u] rfl rfl ?c1 ?c2 ?c3 ?c4 ?c5 ?_)
    case c1 => intro j x hj; match j, hj with | 0, hj => simp at hj; subst hj; simp [Addr.add]
    case c2 => intro x hx; simp at hx; subst hx; rfl
    case c3 => unfold maxLen; omega
    case c4 => omega
    case c5 => simp; omega
    intro v1 w1 hown hgrow _ hloc
    obtain ⟨a1, cc1, rfl⟩ := own_shape' hown
    obtain ⟨k3, f3, hm1, hf1, hF1⟩ := HM.out.setM (x := u) hgrow (by rw [List.length_append, ← HME.out, List.map_append]; exact hown) hloc
    have HM1 := Lib.hid hm1; have HF1 := Lib.hid hf1; have HFF1 := Lib.hid hF1
    clear hown hgrow hloc hm1 hf1 hF1 hi0 hz0 hz1 hz2 c0 c1 c2 c3 c5
    go_upto_region 1 with fail
    obtain ⟨w2, hw2⟩ : ∃ w2, w2 = w1.setCell ⟨bw, 3, none⟩ (.slice a1 (M + 1) cc1) := ⟨_, rfl⟩
    rw [← hw2] at HM1 HF1 ⊢
    obtain ⟨q0, q1, q2, q3, q4, -, -⟩ := HM1.out.cells
    have HB2 : Hid (Below B0 wB w2) := Lib.hid (HB.out.trans (HF1.out.below (fun j hj => by have := (HM.out.flt hj).1; have := HBW.out; omega) (by have := HM.out.lt; have := HBW.out; omega)))
    have hsz2 : lo ≤ w2.heap.size := Nat.le_trans hlo HF1.out.size
    clear hw2 k3 f3
    go_wp2_with fail
    refine (specFrom_calls true an ae n cn m ce ns es u w2 (HN.out.below HB2.out HB0.out) (HR.out.below HB2.out HB0.out) (by omega)).mono ?_
    rintro e w3 ⟨vA, rfl, hoA, hb3⟩
    obtain ⟨A, hA⟩ : ∃ A, A = fromL true ns es u := ⟨_, rfl⟩
    obtain ⟨la, hla⟩ : ∃ la, la = A.length := ⟨_, rfl⟩
    obtain ⟨aA, cA, rfl⟩ := own_shape' hoA
    have HAD : Hid (adj u = A.reverse) := Lib.hid (by rw [HADJ.out, hA])
    have HASUB : Hid (∀ x ∈ A, x ∈ sortI ns) := Lib.hid (fun x hx => HSUB.out u x (by rw [HAD.out]; exact List.mem_reverse.2 hx))
    rw [← hA, ← hla] at hoA ⊢
    have HLA := Lib.hid hla
    have hlan : la ≤ n := by rw [hla, hA, ← HN.out.len]; exact fromL_len true ns es u
    obtain ⟨ba, hba⟩ : ∃ ba, ba = w2.heap.size := ⟨_, rfl⟩
    have hoA2 : w3.ownsRow ba 3 1 (.slice aA la cA) la (A.map (Value.int .i64)) := own_lower hoA (by omega)
    have HOA := Lib.hid hoA2
    have HM3 := Lib.hid (HM1.out.below hb3)
    have HF3 : Hid (Foot (WF bw (.slice aM M cM) (.slice aL L cL)) w w3) := Lib.hid (HF1.out.trans (Foot.of_below hb3 (fun _ => False)) (fun _ h => h.elim))
    have HDIS : Hid (∀ g, (Value.slice aA la cA).ownBlock = some g → ¬ WF bw (.slice a1 (M + 1) cc1) (.slice aL L cL) g) := Lib.hid (fun g hg hw => by
      have h1 := (hoA2.lt g hg).1
      have h2 := (HM1.out.flt hw).2
      omega)
    have hba3 : ba ≤ w3.heap.size := by rw [hba]; exact hb3.size
    have hwba : w.heap.size ≤ ba := by rw [hba]; exact HF1.out.size
    clear hA hla hoA hoA2 hb3 hba q0 q1 q2 q3 q4 HM1 HF1 HB2 hsz2
    go_wp2_with fail
    go_loopw [5] (fun i wr => ∃ (j : Nat) (d2 : WS) (vM2 vL2 : Value), j ≤ la ∧ i = .int .i64 ((j : Int) - 1) ∧ Hid (VRun adj ⟨d.met ++ [u], d.left⟩ ((A.drop j).reverse) d2) ∧ Hid (WMem bw lo an ae n cn m ce vM2 vL2 d2 wr) ∧ Hid (Foot (WF bw (.slice aM M cM) (.slice aL L cL)) w wr) ∧ Hid (∀ j, WF bw vM2 vL2 j → WF bw (.slice aM M cM) (.slice aL L cL) j ∨ w.heap.size ≤ j) ∧ Hid (wr.ownsRow ba 3 1 (.slice aA la cA) la (A.map (Value.int .i64))) ∧ Hid (∀ g, (Value.slice aA la cA).ownBlock = some g → ¬ WF bw vM2 vL2 g) ∧ ba ≤ wr.heap.size) (fun i _ => (intOf i + 1).toNat)
    case atStart => exact ⟨la, ⟨d.met ++ [u], d.left⟩, _, _, Nat.le_refl _, by go_num, Lib.hid (by rw [HLA.out, List.drop_length]; exact .nil _), HM3, HF3, HFF1, HOA, HDIS, hba3⟩
    case round =>
      obtain ⟨j, d2, vM2, vL2, hj, rfl, HV, HM2, HF2, HFF2, HOA2, HDIS2, hba2⟩ := hrel
      have hok2 := (VRun.ok HSUB.out HV.out 1 (HOK.out.enter HU.out H0.out) (fun x hx => HASUB.out x (List.mem_of_mem_drop (List.mem_reverse.1 hx))))
      have HOK2 := Lib.hid hok2
      have hml2 : d2.met.length ≤ n := by have h1 := hok2.1.bound; rw [sortI_len, HN.out.len] at h1; exact h1
      have hll2 : d2.left.length ≤ n := by have := hok2.1.len; omega
      have hlen2 : d.met.length + 1 ≤ d2.met.length := by have h1 := hok2.2.1; have h1 : (d.met ++ [u]).length ≤ d2.met.length := h1; rw [List.length_append, List.length_singleton] at h1; exact h1
      have HLEN2 := Lib.hid hlen2
      clear hok2 hlen2
      obtain ⟨q0, q1, q2, q3, q4, q5, q6⟩ := HM2.out.cells
      obtain ⟨M2, hM2⟩ : ∃ M2, M2 = d2.met.length := ⟨_, rfl⟩
      obtain ⟨L2, hL2⟩ : ∃ L2, L2 = d2.left.length := ⟨_, rfl⟩
      obtain ⟨aM2, cM2, rfl⟩ := own_shape' HM2.out.met
      obtain ⟨aL2, cL2, rfl⟩ := own_shape' HM2.out.left
      have HRM2 := Lib.hid HM2.out.met; have HRL2 := Lib.hid HM2.out.left
      rw [← hM2] at HM2 HFF2 HDIS2 q3 hml2 HRM2
      rw [← hL2] at HM2 HFF2 HDIS2 q4 hll2 HRL2
      have HM2E := Lib.hid hM2; have HL2E := Lib.hid hL2
      clear hM2 hL2
      by_cases h0j : 0 < j
      · obtain ⟨t, rfl⟩ : ∃ t, j = t + 1 := ⟨j - 1, by omega⟩
        obtain ⟨gA, cA', e, hgA0, hgA1, -⟩ := own_form HOA2.out (by omega)
        simp only [Value.slice.injEq, true_and] at e
        obtain ⟨rfl, rfl⟩ := e
        have htA : t < A.length := by have := HLA.out; omega
        obtain ⟨z, hz⟩ : ∃ z, A[t] = z := ⟨_, rfl⟩
        have hz2 : A[t]? = some z := by rw [List.getElem?_eq_getElem htA, hz]
        have hcz : wr.cell? ⟨gA, t, none⟩ = some (.int .i64 z) := (own_at HOA2.out (i := t) (u := .int .i64 z) (by rw [List.getElem?_map, hz2]; rfl)).1
        have HZ := Lib.hid hz2
        have HZI : Hid (z ∈ sortI ns) := Lib.hid (HASUB.out z (List.mem_of_getElem? hz2))
        clear hz hz2
        have ht1 : ((t + 1 : Nat) : Int) - 1 = (t : Int) := by omega
        rw [ht1]
        clear ht1
        have hd1 : decide ((0 : Int) ≤ (t : Int)) = true := by simp
        obtain ⟨hbit, hhb⟩ : ∃ b, hasB d2.met z = b := ⟨_, rfl⟩
        have HHB := Lib.hid hhb
        have HHAS : Hid (∀ q, Calls Tryz.prog 96 #[.slice aM2 M2 cM2, .int .i64 z] (wr.drewN q) fun e w' => e = .returned (.bool hbit) ∧ w' = wr.drewN q) := Lib.hid (fun q => by
          rw [← hhb]; exact hasInt_calls aM2 M2 cM2 d2.met z _ (RdI.drewN (rdi_ownE HRM2.out) q))
        clear hhb
        go_wp2_with fail
        go_quiet ((go_at_call 96; with_reducible exact Calls.quiet_of_same (HHAS.out _)))
        have hdr : Below wr.heap.size wr (wr.drewN nq) := below_drewN (Below.refl _ _) nq
        have HDR := Lib.hid hdr
        have hlo2 : lo ≤ (wr.drewN nq).heap.size := Nat.le_trans (Nat.le_trans hlo HF2.out.size) hdr.size
        have HMq := Lib.hid (HM2.out.below hdr)
        have HFq : Hid (Foot (WF bw (.slice aM M cM) (.slice aL L cL)) w (wr.drewN nq)) := Lib.hid (HF2.out.trans (Foot.of_below hdr (fun _ => False)) (fun _ h => h.elim))
        have HOq : Hid ((wr.drewN nq).ownsRow ba 3 1 (.slice (some ⟨gA, 0, none⟩) la cA) la (A.map (Value.int .i64))) := Lib.hid (ownsRow_of_heap HOA2.out (fun g hg => hdr.block g (HOA2.out.lt g hg).2))
        have hbaq : ba ≤ (wr.drewN nq).heap.size := Nat.le_trans hba2 hdr.size
        have hszq : wr.heap.size ≤ (wr.drewN nq).heap.size := hdr.size
        clear hdr
        cases hbit
        · have HNM : Hid (z ∉ d2.met) := Lib.hid (fun h => by have h1 := (hasB_iff d2.met z).2 h; rw [HHB.out] at h1; cases h1)
          have HBq : Hid (Below B0 wB (wr.drewN nq)) := Lib.hid (HB.out.trans (HFq.out.below (fun j hj => by have := (HM.out.flt hj).1; have := HBW.out; omega) (by have := HM.out.lt; have := HBW.out; omega)))
          have HOKq : Hid (WOk (sortI ns) 0 d2) := Lib.hid ⟨HOK2.out.1.nd, HOK2.out.1.sub, by have := HOK2.out.1.len; omega⟩
          go_wp2_with fail
          refine (IH.out d2 z _ _ (wr.drewN nq) (by have := HK.out; have := HLEN2.out; omega) HOKq.out HZI.out HNM.out HBq.out HMq.out hlo2).mono ?_
          rintro e w6 ⟨rfl, d3, vM3, vL3, hv3, hm3, hf3, hF3⟩
          have HV3 := Lib.hid hv3; have HM3' := Lib.hid hm3; have HF3' := Lib.hid hf3; have HFF3 := Lib.hid hF3
          clear hv3 hm3 hf3 hF3
          go_wp2_with fail
          go_roundw
          case rel =>
            refine ⟨t, ⟨d3.met, d3.left ++ [z]⟩, vM3, vL3, by omega, by go_num, Lib.hid ?_, HM3', Lib.hid (HFq.out.trans HF3'.out HFF2.out), Lib.hid (fun j hj => ?_), Lib.hid (HF3'.out.row HOq.out HDIS2.out), Lib.hid (fun g hg hw => ?_), Nat.le_trans hbaq HF3'.out.size⟩
            · rw [take_rev HZ.out]
              exact HV.out.append (.visit HNM.out HV3.out (.nil _))
            · rcases HFF3.out j hj with h | h
              · exact HFF2.out j h
              · exact .inr (Nat.le_trans (Nat.le_trans HF2.out.size hszq) h)
            · rcases HFF3.out g hw with h | h
              · exact HDIS2.out g hg h
              · have := (HOq.out.lt g hg).2
                omega
          case measure => simp [intOf]
        · have HNM : Hid (z ∈ d2.met) := Lib.hid ((hasB_iff d2.met z).1 HHB.out)
          go_wp2_with fail
          go_roundw
          case rel => exact ⟨t, d2, _, _, by omega, by go_num, Lib.hid (by rw [take_rev HZ.out]; exact HV.out.append (.skip HNM.out (.nil _))), HMq, HFq, HFF2, HOq, HDIS2, hbaq⟩
          case measure => simp [intOf]
      · obtain rfl : j = 0 := by omega
        have e0 : (((0 : Nat) : Int) - 1) = -1 := rfl
        rw [e0]
        clear e0
        obtain ⟨hi0, hz0, hz1, hz2⟩ := HI.out
        go_wp2_with (at_builtin; refine wpList_append_own_at _ rfl _ _ 22 rfl lo 3 i0 (.int .i64 0) 1 8 Tryz.underlying22 hi0 hz0 hz1 hz2 rfl (by decide) (.slice aL2 L2 cL2) L2 (d2.left.map (Value.int .i64)) rfl (HRL2.out.alloc _) ⟨wr.heap.size, 0, none⟩ 1 1 [.int .i64 u] rfl rfl ?c1 ?c2 ?c3 ?c4 ?c5 ?_)
        case c2 => rfl
        case c3 => unfold maxLen; omega
        case c4 => omega
        case c5 => omega
        intro v5 w5 hown hgrow _ hloc
        obtain ⟨a5, cc5, rfl⟩ := own_shape' hown
        obtain ⟨k4, f4, hm5, hf5, hF5⟩ := HM2.out.setL (x := u) hgrow (by rw [List.length_append, ← HL2E.out, List.map_append]; exact hown) hloc
        have HM5 := Lib.hid hm5; have HF5 := Lib.hid hf5; have HFF5 := Lib.hid hF5
        clear hown hgrow hloc hm5 hf5 hF5 hi0 hz0 hz1 hz2 q0 q1 q2 q3 q4 q5 q6
        go_wp2
        go_end0
        refine ⟨rfl, d2, _, _, ?_, HM5.out, HF2.out.trans HF5.out HFF2.out, fun j hj => ?_⟩
        · rw [HAD.out]; have h := HV.out; rw [List.drop_zero] at h; exact h
        · rcases HFF5.out j hj with h | h
          · exact HFF2.out j h
          · exact .inr (Nat.le_trans HF2.out.size h)
end Go.Proofs.YtnfkbjgijelfdaaGreat
namespace Go.Proofs.YtnfkbjgijelfdaaGreat
open Go.RowKit

theorem VRun.left_sub {ids : List Int} {adj : Int → List Int} (hadj : ∀ a, ∀ b ∈ adj a, b ∈ ids) {s s' : WS} {l : List Int} (h : VRun adj s l s') : (∀ x ∈ s.left, x ∈ ids) → (∀ x ∈ l, x ∈ ids) → ∀ x ∈ s'.left, x ∈ ids := by
  induction h with
  | nil s => intro h _; exact h
  | @visit w s s1 s' r _ _ _ ih1 ih2 =>
    intro h hl
    refine ih2 (fun x hx => ?_) (fun x hx => hl x (List.mem_cons_of_mem _ hx))
    rcases List.mem_append.1 hx with hx | hx
    · exact ih1 h (hadj w) x hx
    · rw [List.mem_singleton.1 hx]; exact hl w (by simp)
  | skip _ _ ih => intro h hl; exact ih h (fun x hx => hl x (List.mem_cons_of_mem _ hx))

/-- What a stable order makes of some nodes left. -/
def stabF (parts : List (List Int)) (met l : List Int) : List (List Int) := (l.filter fun u => firstOfI met (compOf parts u) == u).map (compOf parts)
theorem stabF_step {parts : List (List Int)} {met A : List Int} {j : Nat} {u : Int} (h : A[j]? = some u) :
    stabF parts met (A.drop j).reverse = stabF parts met (A.drop (j + 1)).reverse ++ if firstOfI met (compOf parts u) == u then [compOf parts u] else [] := by
  unfold stabF
  rw [take_rev h, List.filter_append, List.map_append]
  congr 1
  cases hb : firstOfI met (compOf parts u) == u <;> simp [hb]
theorem stabF_len (parts : List (List Int)) (met l : List Int) : (stabF parts met l).length ≤ l.length := by
  unfold stabF
  rw [List.length_map]
  exact List.length_filter_le _ _

/-- The order and the cyclic components so far. -/
structure StSt (w5 : World) (vO vC : Value) (vs : List Value) (os : List (Option Int)) (ks : List (List Int)) (w : World) : Prop where
  ord : w.ownsRow w5.heap.size 45 2 vO os.length (flatS os)
  cyc : w.ownsRow w5.heap.size 22 1 vC ks.length vs
  apart : ∀ g, vO.ownBlock = some g → vC.ownBlock ≠ some g
  rd : ∀ (i : Nat) (u : Value) (l : List Int), vs[i]? = some u → ks[i]? = some l → ∃ a c, u = .slice a l.length c ∧ RdI w5 a l.length l
  below : Below w5.heap.size w5 w
theorem StSt.start (w5 : World) : StSt w5 (.slice none 0 0) (.slice none 0 0) [] [] [] w5 :=
  ⟨World.ownsRow_nil _ _ _ _, World.ownsRow_nil _ _ _ _, (fun _ h => nomatch h), (fun i u l hu _ => by simp at hu), Below.refl _ _⟩
section
variable {w5 w w' : World} {vO vC : Value} {vs : List Value} {os : List (Option Int)} {ks : List (List Int)}
theorem StSt.addO {vO' : Value} {o : Option Int} {ob : Obj} (h : StSt w5 vO vC vs os ks w) (hg : (w.alloc ob).grownBy w' vO.ownBlock) (ho : w'.ownsRow w5.heap.size 45 2 vO' (os.length + 1) (flatS os ++ [.bool o.isNone, .int .i64 (o.getD 0)])) (hl : vO'.ownBlock = vO.ownBlock ∨ vO'.ownBlock = some (w.heap.size + 1)) : StSt w5 vO' vC vs (os ++ [o]) ks w' := by
  refine ⟨?_, ?_, fun g h1 h2 => ?_, h.rd, ?_⟩
  · rw [List.length_append, flatS_append]; simpa [flatS] using ho
  · refine ownsRow_of_heap h.cyc (fun g hg' => ?_)
    have hlt := (h.cyc.lt g hg').2
    rw [hg.block g (by simp; omega) (fun e => h.apart g e.symm hg'), heap_alloc_old _ _ hlt]
  · rcases hl with e | e
    · exact h.apart g (e ▸ h1) h2
    · rw [e] at h1
      have := Option.some.inj h1
      have := (h.cyc.lt g h2).2
      omega
  · have := h.below.size
    exact (h.below.alloc (by omega) _).grown hg (by simp; omega) (fun j hj => (h.ord.lt j hj).1)
theorem StSt.addC {vC' : Value} {a : Option Addr} {c : Nat} {l : List Int} {ob : Obj} (h : StSt w5 vO vC vs os ks w) (hg : (w.alloc ob).grownBy w' vC.ownBlock) (ho : w'.ownsRow w5.heap.size 22 1 vC' (ks.length + 1) (vs ++ [.slice a l.length c])) (hl : vC'.ownBlock = vC.ownBlock ∨ vC'.ownBlock = some (w.heap.size + 1)) (hr : RdI w5 a l.length l) : StSt w5 vO vC' (vs ++ [.slice a l.length c]) os (ks ++ [l]) w' := by
  refine ⟨?_, ?_, fun g h1 h2 => ?_, fun i u k hu hk => ?_, ?_⟩
  · refine ownsRow_of_heap h.ord (fun g hg' => ?_)
    have hlt := (h.ord.lt g hg').2
    rw [hg.block g (by simp; omega) (fun e => h.apart g hg' e.symm), heap_alloc_old _ _ hlt]
  · rw [List.length_append]; exact ho
  · rcases hl with e | e
    · exact h.apart g h1 (e ▸ h2)
    · rw [e] at h2
      have := Option.some.inj h2
      have := (h.ord.lt g h1).2
      omega
  · have hvl : vs.length = ks.length := by have := h.cyc.1; omega
    rcases Nat.lt_or_ge i vs.length with hi | hi
    · rw [List.getElem?_append_left hi] at hu
      rw [List.getElem?_append_left (by omega)] at hk
      exact h.rd i u k hu hk
    · rw [List.getElem?_append_right hi] at hu
      rw [List.getElem?_append_right (by omega), ← hvl] at hk
      have hi0 : i - vs.length = 0 := by
        rcases Nat.eq_zero_or_pos (i - vs.length) with e | e
        · exact e
        · rw [List.getElem?_eq_none (by simp; omega)] at hu; cases hu
      rw [hi0] at hu hk
      have e1 : Value.slice a l.length c = u := by simpa using hu
      have e2 : l = k := by simpa using hk
      subst e1 e2
      exact ⟨a, c, rfl, hr⟩
  · have := h.below.size
    exact (h.below.alloc (by omega) _).grown hg (by simp; omega) (fun j hj => (h.cyc.lt j hj).1)
theorem StSt.rdL {W : World} {a : Option Addr} {n c : Nat} (h : StSt w5 vO (.slice a n c) vs os ks w) (hf : Foot (fun j => vO.ownBlock = some j) w W) (hn : ks.length = n) (hs : n ≤ 9223372036854775807) : RdL W a n ks := by
  refine ⟨hn, hs, fun h0 => ?_⟩
  have hc := h.cyc
  rw [hn] at hc
  obtain ⟨g, c', e, hg0, hg1, -⟩ := own_form hc h0
  simp only [Value.slice.injEq, true_and] at e
  obtain ⟨rfl, rfl⟩ := e
  refine ⟨g, 0, rfl, Nat.lt_of_lt_of_le hg1 hf.size, fun j hj => ?_⟩
  have hvl : vs.length = ks.length := by have := h.cyc.1; omega
  have hj1 : j < vs.length := by omega
  have hj2 : j < ks.length := by omega
  obtain ⟨aj, cj, e1, hr⟩ := h.rd j vs[j] ks[j] (List.getElem?_eq_getElem hj1) (List.getElem?_eq_getElem hj2)
  refine ⟨aj, _, cj, ks[j], List.getElem?_eq_getElem hj2, ?_, hr.below (h.below.trans (hf.below (fun i hi => (h.ord.lt i hi).1) h.below.size)) (Nat.le_refl _)⟩
  rw [Nat.zero_add]
  exact hf.cell (own_at hc (i := j) (u := .slice aj ks[j].length cj) (by rw [← e1]; exact List.getElem?_eq_getElem hj1)).1 (fun e2 => h.apart g e2 rfl)
end

def StabPost (ns : List Int) (es : List (Int × Int × Int)) (w : World) (e : Ending) (w' : World) : Prop :=
  ∃ (parts S : List (List Int)) (d : WS) (aO aC : Option Addr) (cO cC : Nat), SccL (sortI ns) (fromL true ns es) parts ∧ VRun (fun x => (fromL true ns es x).reverse) ⟨[], []⟩ (sortI ns).reverse d ∧ S = stabL parts d ∧
    e = .returned (.tuple #[.slice aO S.length cO, .slice aC (cycs S).length cC]) ∧ w'.ownsRow w.heap.size 45 2 (.slice aO S.length cO) S.length (flatS (S.map slotO)) ∧ (∀ W, Foot (fun j => (Value.slice aO S.length cO).ownBlock = some j) w' W → RdL W aC (cycs S).length (cycs S)) ∧ S.length ≤ ns.length ∧ Below w.heap.size w w'

set_option maxHeartbeats 8000000 in
set_option maxRecDepth 100000 in
theorem stabilized_calls (an ae : Option Addr) (n cn m ce : Nat) (ns : List Int) (es : List (Int × Int × Int)) (w : World) (hn : RdI w an n ns) (hr : RdE w ae m es) (hn8 : n ≤ 500) :
    Calls Tryz.prog 71 #[.agg #[.bool true, .slice an n cn, .slice ae m ce]] w (StabPost ns es w) := by
  have hnl := hn.len
  have HN := Lib.hid hn; have HR := Lib.hid hr; have HNL := Lib.hid hnl
  have HVIS := Lib.hid (visit_calls an ae n cn m ce ns es w w.heap.size (w.heap.size + 1) (w.heap.size + 2) hn hr hn8 (Nat.le_refl _) (by omega) n)
  obtain ⟨adj, hadj⟩ : ∃ adj, adj = fun x => (fromL true ns es x).reverse := ⟨_, rfl⟩
  have HADJ := Lib.hid hadj
  have HSUB : Hid (∀ a, ∀ b ∈ adj a, b ∈ sortI ns) := Lib.hid (by rw [hadj]; exact fun a b hb => fromL_sub true ns es a b (List.mem_reverse.1 hb))
  rw [← hadj] at HVIS
  obtain ⟨ids, hids⟩ : ∃ ids, ids = sortI ns := ⟨_, rfl⟩
  have HIDS := Lib.hid hids
  have HIL : Hid (ids.length = n) := Lib.hid (by rw [hids, sortI_len]; exact hnl)
  rw [← hids] at HSUB HVIS
  clear hn hr hnl hadj hids
  go_enter Tryz.func71, Tryz.ntmps71
  go_wp2_with fail
  obtain ⟨w0, hw0⟩ : ∃ w0, w0 = w.alloc (.cells #[.bool true, .slice an n cn, .slice ae m ce] 25) := ⟨_, rfl⟩
  obtain ⟨bw, hbw⟩ : ∃ bw, bw = w.heap.size + 1 := ⟨_, rfl⟩
  have hb0 : Below w.heap.size w w0 := by rw [hw0]; exact (Below.refl _ _).alloc (Nat.le_refl _) _
  have hs0 : w0.heap.size = bw := by rw [hw0, hbw]; simp
  have x0 : w0.heap[w.heap.size]? = some (.cells #[.bool true, .slice an n cn, .slice ae m ce] 25 (0, 0)) := by rw [hw0]; exact heap_alloc_new w _
  have hws : w.heap.size < bw := by omega
  rw [← hw0, ← hbw]
  obtain ⟨w1, hw1⟩ : ∃ w1, w1 = w0.alloc (.cells #[.bool true, .slice an n cn, .slice ae m ce, .slice none 0 0, .slice none 0 0] 159) := ⟨_, rfl⟩
  rw [← hw1]
  have x1 : w1.heap[bw]? = some (.cells #[.bool true, .slice an n cn, .slice ae m ce, .slice none 0 0, .slice none 0 0] 159 (0, 0)) := by rw [hw1, ← hs0]; exact heap_alloc_new w0 _
  have hb1 : Below bw w0 w1 := by rw [hw1]; exact (Below.refl _ _).alloc (by omega) _
  have hs1 : w1.heap.size = bw + 1 := by rw [hw1]; simp; exact hs0
  have HSG : Hid (∀ W, Below bw w0 W → W.cell? ⟨w.heap.size, 0, none⟩ = some (.bool true) ∧ W.cell? ⟨w.heap.size, 1, none⟩ = some (.slice an n cn) ∧ W.cell? ⟨w.heap.size, 2, none⟩ = some (.slice ae m ce)) := Lib.hid fun W h => by
    have e1 := (h.block w.heap.size hws).trans x0
    refine ⟨?_, ?_, ?_⟩ <;> (rw [cell_of_row W _ _ _ _ (0, 0) e1]; rfl)
  have HM1 : Hid (WMem bw (bw + 1) an ae n cn m ce (.slice none 0 0) (.slice none 0 0) ⟨[], []⟩ w1) := Lib.hid ⟨x1, World.ownsRow_nil _ _ _ _, World.ownsRow_nil _ _ _ _, (fun g h => nomatch h), Nat.lt_succ_self _⟩
  have HB0 := Lib.hid hb0; have HB1 := Lib.hid hb1; have HS1 := Lib.hid hs1; have HBW := Lib.hid hbw
  rw [← hbw, show w.heap.size + 2 = bw + 1 from by omega] at HVIS
  have HBWW : Hid (∀ W, Below bw w0 W → Below w.heap.size w W) := Lib.hid fun W h => hb0.trans (h.mono (by omega))
  clear hw0 hbw hb0 hs0 x0 hw1 x1 hb1 hs1
  have hW1 := HBWW.out w1 HB1.out
  refine (specNodes_calls true an ae n cn m ce ns w1 (HN.out.below hW1 (Nat.le_refl _)) (by omega)).mono ?_
  rintro e w2 ⟨vN, rfl, hoN, hb2⟩
  obtain ⟨aN, cN, rfl⟩ := own_shape' hoN
  have HON : Hid (w2.ownsRow (bw + 1) 3 1 (.slice aN n cN) n (ids.map (Value.int .i64))) := Lib.hid (by rw [HIDS.out]; exact own_lower hoN (by have := HS1.out; omega))
  have HM2 := Lib.hid (HM1.out.below hb2)
  have HB2 : Hid (Below bw w0 w2) := Lib.hid (HB1.out.trans (hb2.mono (by have := HS1.out; omega)))
  have HDIS : Hid (∀ g, (Value.slice aN n cN).ownBlock = some g → ¬ WF bw (.slice none 0 0) (.slice none 0 0) g) := Lib.hid (fun g hg hw => by
    have h1 := (hoN.lt g hg).1
    have h2 := (HM1.out.flt hw).2
    omega)
  have hs2 : bw + 1 ≤ w2.heap.size := by have := hb2.size; have := HS1.out; omega
  clear hoN hb2 hW1 HM1 HB1
  go_wp2_with fail
  go_loopw [6] (fun i wr => ∃ (j : Nat) (d2 : WS) (vM2 vL2 : Value), j ≤ n ∧ i = .int .i64 ((j : Int) - 1) ∧ Hid (VRun adj ⟨[], []⟩ ((ids.drop j).reverse) d2) ∧ Hid (WMem bw (bw + 1) an ae n cn m ce vM2 vL2 d2 wr) ∧ Hid (Below bw w0 wr) ∧ Hid (wr.ownsRow (bw + 1) 3 1 (.slice aN n cN) n (ids.map (Value.int .i64))) ∧ Hid (∀ g, (Value.slice aN n cN).ownBlock = some g → ¬ WF bw vM2 vL2 g) ∧ bw + 1 ≤ wr.heap.size) (fun i _ => (intOf i + 1).toNat)
  case atStart => exact ⟨n, ⟨[], []⟩, _, _, Nat.le_refl _, by go_num, Lib.hid (by rw [← HIL.out, List.drop_length]; exact .nil _), HM2, HB2, HON, HDIS, hs2⟩
  case round =>
    obtain ⟨j, d2, vM2, vL2, hj, rfl, HV, HM3, HB3, HON3, HDIS3, hs3⟩ := hrel
    have hok2 := (VRun.ok HSUB.out HV.out 0 ⟨List.nodup_nil, (fun _ h => nomatch h), Nat.le_refl _⟩ (fun x hx => List.mem_of_mem_drop (List.mem_reverse.1 hx))).1
    have hml2 : d2.met.length ≤ n := by have h1 := hok2.bound; rw [HIL.out] at h1; exact h1
    have hll2 : d2.left.length ≤ n := by have := hok2.len; omega
    have HOK2 := Lib.hid hok2
    clear hok2
    obtain ⟨q0, q1, q2, q3, q4, q5, q6⟩ := HM3.out.cells
    obtain ⟨M2, hM2⟩ : ∃ M2, M2 = d2.met.length := ⟨_, rfl⟩
    obtain ⟨L2, hL2⟩ : ∃ L2, L2 = d2.left.length := ⟨_, rfl⟩
    obtain ⟨aM2, cM2, rfl⟩ := own_shape' HM3.out.met
    obtain ⟨aL2, cL2, rfl⟩ := own_shape' HM3.out.left
    have HRM2 := Lib.hid HM3.out.met; have HRL2 := Lib.hid HM3.out.left
    rw [← hM2] at HM3 HDIS3 q3 hml2 HRM2
    rw [← hL2] at HM3 HDIS3 q4 hll2 HRL2
    have HM2E := Lib.hid hM2; have HL2E := Lib.hid hL2
    clear hM2 hL2
    by_cases h0j : 0 < j
    · obtain ⟨t, rfl⟩ : ∃ t, j = t + 1 := ⟨j - 1, by omega⟩
      obtain ⟨gA, cA', e, hgA0, hgA1, -⟩ := own_form HON3.out (by omega)
      simp only [Value.slice.injEq, true_and] at e
      obtain ⟨rfl, rfl⟩ := e
      have htA : t < ids.length := by have := HIL.out; omega
      obtain ⟨z, hz⟩ : ∃ z, ids[t] = z := ⟨_, rfl⟩
      have hz2 : ids[t]? = some z := by rw [List.getElem?_eq_getElem htA, hz]
      have hcz : wr.cell? ⟨gA, t, none⟩ = some (.int .i64 z) := (own_at HON3.out (i := t) (u := .int .i64 z) (by rw [List.getElem?_map, hz2]; rfl)).1
      have HZ := Lib.hid hz2
      have HZI : Hid (z ∈ ids) := Lib.hid (List.mem_of_getElem? hz2)
      clear hz hz2
      have ht1 : ((t + 1 : Nat) : Int) - 1 = (t : Int) := by omega
      rw [ht1]
      clear ht1
      have hd1 : decide ((0 : Int) ≤ (t : Int)) = true := by simp
      obtain ⟨hbit, hhb⟩ : ∃ b, hasB d2.met z = b := ⟨_, rfl⟩
      have HHB := Lib.hid hhb
      have HHAS : Hid (∀ q, Calls Tryz.prog 96 #[.slice aM2 M2 cM2, .int .i64 z] (wr.drewN q) fun e w' => e = .returned (.bool hbit) ∧ w' = wr.drewN q) := Lib.hid (fun q => by
        rw [← hhb]; exact hasInt_calls aM2 M2 cM2 d2.met z _ (RdI.drewN (rdi_ownE HRM2.out) q))
      clear hhb
      go_wp2_with fail
      go_quiet ((go_at_call 96; with_reducible exact Calls.quiet_of_same (HHAS.out _)))
      have hdr : Below wr.heap.size wr (wr.drewN nq) := below_drewN (Below.refl _ _) nq
      have hloq : bw + 1 ≤ (wr.drewN nq).heap.size := Nat.le_trans hs3 hdr.size
      have HMq := Lib.hid (HM3.out.below hdr)
      have HBq : Hid (Below bw w0 (wr.drewN nq)) := Lib.hid (HB3.out.trans (hdr.mono (by omega)))
      have HOq : Hid ((wr.drewN nq).ownsRow (bw + 1) 3 1 (.slice (some ⟨gA, 0, none⟩) n cN) n (ids.map (Value.int .i64))) := Lib.hid (ownsRow_of_heap HON3.out (fun g hg => hdr.block g (HON3.out.lt g hg).2))
      clear hdr
      cases hbit
      · have HNM : Hid (z ∉ d2.met) := Lib.hid (fun h => by have h1 := (hasB_iff d2.met z).2 h; rw [HHB.out] at h1; cases h1)
        have HBWq := Lib.hid (HBWW.out _ HBq.out)
        go_wp2_with fail
        refine (HVIS.out d2 z _ _ (wr.drewN nq) (by omega) HOK2.out HZI.out HNM.out HBWq.out HMq.out hloq).mono ?_
        rintro e w6 ⟨rfl, d3, vM3, vL3, hv3, hm3, hf3, hF3⟩
        have HV3 := Lib.hid hv3; have HM3' := Lib.hid hm3; have HF3' := Lib.hid hf3; have HFF3 := Lib.hid hF3
        clear hv3 hm3 hf3 hF3
        go_wp2_with fail
        go_roundw
        case rel =>
          refine ⟨t, ⟨d3.met, d3.left ++ [z]⟩, vM3, vL3, by omega, by go_num, Lib.hid ?_, HM3', Lib.hid (HBq.out.trans (HF3'.out.below (fun j hj => (HMq.out.flt hj).1) (by omega))), Lib.hid (HF3'.out.row HOq.out HDIS3.out), Lib.hid (fun g hg hw => ?_), Nat.le_trans hloq HF3'.out.size⟩
          · rw [take_rev HZ.out]
            exact HV.out.append (.visit HNM.out HV3.out (.nil _))
          · rcases HFF3.out g hw with h | h
            · exact HDIS3.out g hg h
            · have := (HOq.out.lt g hg).2
              omega
        case measure => simp [intOf]
      · have HNM : Hid (z ∈ d2.met) := Lib.hid ((hasB_iff d2.met z).1 HHB.out)
        go_wp2_with fail
        go_roundw
        case rel => exact ⟨t, d2, _, _, by omega, by go_num, Lib.hid (by rw [take_rev HZ.out]; exact HV.out.append (.skip HNM.out (.nil _))), HMq, HBq, HOq, HDIS3, hloq⟩
        case measure => simp [intOf]
    · obtain rfl : j = 0 := by omega
      have e0 : (((0 : Nat) : Int) - 1) = -1 := rfl
      rw [e0]
      clear e0
      obtain ⟨g0, g1, g2⟩ := HSG.out wr HB3.out
      have HBWr := Lib.hid (HBWW.out _ HB3.out)
      obtain ⟨wo, rfl⟩ : ∃ wo : World, wo = wr := ⟨_, rfl⟩
      go_wp2_with fail
      refine (specSCC_calls true an ae n cn m ce ns es wo (HN.out.below HBWr.out (Nat.le_refl _)) (HR.out.below HBWr.out (Nat.le_refl _)) (by omega)).mono ?_
      rintro e w5 ⟨vP, vsP, parts, rfl, hlP, hscc, hb5⟩
      obtain ⟨aP, cP, rfl⟩ := own_shape' hlP.row
      obtain ⟨np, hnp⟩ : ∃ np, np = parts.length := ⟨_, rfl⟩
      have HRP : Hid (RdL w5 aP np parts) := Lib.hid (by rw [hnp]; exact LolG.rd hlP)
      have HSCC := Lib.hid hscc
      have HM5 := Lib.hid (HM3.out.below hb5)
      have HB5 : Hid (Below bw w0 w5) := Lib.hid (HB3.out.trans (hb5.mono (by omega)))
      have HRM5 : Hid (w5.ownsRow (bw + 1) 3 1 (.slice aM2 M2 cM2) M2 (d2.met.map (Value.int .i64))) := Lib.hid (ownsRow_of_heap HRM2.out (fun g hg => hb5.block g (HRM2.out.lt g hg).2))
      have HRL5 : Hid (w5.ownsRow (bw + 1) 3 1 (.slice aL2 L2 cL2) L2 (d2.left.map (Value.int .i64))) := Lib.hid (ownsRow_of_heap HRL2.out (fun g hg => hb5.block g (HRL2.out.lt g hg).2))
      have HLI : Hid (∀ x ∈ d2.left, x ∈ ids) := Lib.hid (VRun.left_sub HSUB.out HV.out (fun _ h => nomatch h) (fun x hx => List.mem_of_mem_drop (List.mem_reverse.1 hx)))
      rw [← hnp]
      have hbw5 : bw < w5.heap.size := HM5.out.lt
      clear hlP hscc hb5 hnp q0 q1 q2 q3 q4 q5 q6 g0 g1 g2
      obtain ⟨-, -, -, q3, q4, -, -⟩ := HM5.out.cells
      have hq3 : ∀ W, Below w5.heap.size w5 W → W.cell? ⟨bw, 3, none⟩ = some (.slice aM2 M2 cM2) := fun W h => (h.cell (p := ⟨bw, 3, none⟩) hbw5).trans q3
      have hq4 : ∀ W, Below w5.heap.size w5 W → W.cell? ⟨bw, 4, none⟩ = some (.slice aL2 L2 cL2) := fun W h => (h.cell (p := ⟨bw, 4, none⟩) hbw5).trans q4
      have HQ3 := Lib.hid hq3; have HQ4 := Lib.hid hq4
      clear hq3 hq4 q3
      obtain ⟨j0, hj0, hy0, hy1, hy2⟩ := info_parts slot_info
      obtain ⟨i0, hi0, hz0, hz1, hz2⟩ := info_parts intsSl_info
      have HJ := Lib.hid (And.intro hj0 (And.intro hy0 (And.intro hy1 hy2)))
      have HI := Lib.hid (And.intro hi0 (And.intro hz0 (And.intro hz1 hz2)))
      clear hj0 hy0 hy1 hy2 hi0 hz0 hz1 hz2
      go_wp2_with fail
      clear q4
      go_loopw [2, 3, 8] (fun vO vC i wr => ∃ (j : Nat) (S : List (List Int)) (vs : List Value), j ≤ L2 ∧ i = .int .i64 ((j : Int) - 1) ∧ Hid (S = stabF parts d2.met (d2.left.drop j).reverse) ∧ Hid (StSt w5 vO vC vs (S.map slotO) (cycs S) wr)) (fun _ _ i _ => (intOf i + 1).toNat)
      case atStart => exact ⟨L2, [], [], Nat.le_refl _, by go_num, Lib.hid (by rw [HL2E.out, List.drop_length]; rfl), Lib.hid (StSt.start w5)⟩
      case round =>
        obtain ⟨j, S, vs, hj, rfl, HSE, HST⟩ := hrel
        have q3 := HQ3.out _ HST.out.below
        have q4 := HQ4.out _ HST.out.below
        have hS : S.length ≤ L2 := by
          have h1 := stabF_len parts d2.met (d2.left.drop j).reverse
          rw [← HSE.out, List.length_reverse, List.length_drop, ← HL2E.out] at h1
          omega
        have hK : (cycs S).length ≤ L2 := Nat.le_trans (List.length_filter_le _ _) hS
        obtain ⟨aO, cO, rfl⟩ := own_shape' HST.out.ord
        obtain ⟨aC, cC, rfl⟩ := own_shape' HST.out.cyc
        have HOE := Lib.hid HST.out.ord; have HCE := Lib.hid HST.out.cyc
        rw [List.length_map] at HOE HST
        obtain ⟨N1, hN1⟩ : ∃ N1, N1 = S.length := ⟨_, rfl⟩
        obtain ⟨K1, hK1⟩ : ∃ K1, K1 = (cycs S).length := ⟨_, rfl⟩
        rw [← hN1] at HOE HST hS
        rw [← hK1] at HCE HST hK
        rw [List.length_map, ← hN1, ← hK1]
        have HN1 := Lib.hid hN1; have HK1 := Lib.hid hK1
        clear hN1 hK1
        by_cases h0j : 0 < j
        · obtain ⟨t, rfl⟩ : ∃ t, j = t + 1 := ⟨j - 1, by omega⟩
          obtain ⟨gA, cA', e, hgA0, hgA1, -⟩ := own_form HRL5.out (by omega)
          simp only [Value.slice.injEq, true_and] at e
          obtain ⟨rfl, rfl⟩ := e
          have htA : t < d2.left.length := by have := HL2E.out; omega
          obtain ⟨u, hu⟩ : ∃ u, d2.left[t] = u := ⟨_, rfl⟩
          have hu2 : d2.left[t]? = some u := by rw [List.getElem?_eq_getElem htA, hu]
          have hcu : wr.cell? ⟨gA, t, none⟩ = some (.int .i64 u) := (HST.out.below.cell (p := ⟨gA, t, none⟩) hgA1).trans (own_at HRL5.out (i := t) (u := .int .i64 u) (by rw [List.getElem?_map, hu2]; rfl)).1
          have HU2 := Lib.hid hu2
          have HUI : Hid (u ∈ sortI ns) := Lib.hid (by rw [← HIDS.out]; exact HLI.out u (List.mem_of_getElem? hu2))
          clear hu hu2
          have ht1 : ((t + 1 : Nat) : Int) - 1 = (t : Int) := by omega
          rw [ht1]
          clear ht1
          have hd1 : decide ((0 : Int) ≤ (t : Int)) = true := by simp
          have hgwr : gA < wr.heap.size := by have := HST.out.below.size; omega
          go_wp2_with fail
          refine (componentOf_calls aP np cP parts u w5 wr HRP.out HST.out.below).mono ?_
          rintro e w6 ⟨aX, nX, cX, rfl, hrX, rfl⟩
          obtain ⟨X, hX⟩ : ∃ X, X = compOf parts u := ⟨_, rfl⟩
          have HX := Lib.hid hX
          have HUX : Hid (u ∈ X) := Lib.hid (by rw [hX]; exact (comp_of HSCC.out HUI.out).2)
          rw [← hX] at hrX
          have HRX := Lib.hid hrX
          have hXl : X.length = nX := hrX.len
          have hXs : nX ≤ 9223372036854775807 := hrX.small
          have HXL := Lib.hid hXl
          have hnX1 : 1 ≤ nX := by
            have := List.length_pos_iff.2 (List.ne_nil_of_mem HUX.out)
            omega
          clear hX hrX hXl
          go_wp2_with fail
          refine (firstOf_calls aM2 aX M2 nX cM2 cX d2.met X wr (RdI.below (rdi_ownE HRM5.out) HST.out.below (Nat.le_refl _)) (HRX.out.below HST.out.below (Nat.le_refl _))).mono ?_
          rintro e w6 ⟨rfl, rfl⟩
          obtain ⟨fv, hfv⟩ : ∃ f, firstOfI d2.met X = f := ⟨_, rfl⟩
          rw [hfv]
          have HFV : Hid (firstOfI d2.met (compOf parts u) = fv) := Lib.hid (by rw [← HX.out]; exact hfv)
          clear hfv
          have HSTEP := Lib.hid (stabF_step (parts := parts) (met := d2.met) HU2.out)
          by_cases hfu : fv = u
          · have hne : (fv != u) = false := by simp [hfu]
            have HS1 : Hid (stabF parts d2.met (d2.left.drop t).reverse = S ++ [X]) := Lib.hid (by
              rw [HSTEP.out, HFV.out, hfu, ← HSE.out, ← HX.out]; simp)
            clear hfu
            by_cases h1 : 1 < nX
            · have h1a : decide ((1 : Int) < (nX : Int)) = true := by simp; omega
              have h1b : decide (1 < nX) = true := by simp; omega
              have HCY : Hid (cyB X = true) := Lib.hid (by unfold cyB; rw [HXL.out]; simp; omega)
              obtain ⟨hj0, hy0, hy1, hy2⟩ := HJ.out
              clear h1
              go_wp2_with (at_builtin; refine wpList_append_own_at _ rfl _ _ 34 rfl w5.heap.size 45 j0 (.agg #[.bool false, .int .i64 0]) 2 16 Tryz.underlying34 hj0 hy0 hy1 hy2 rfl (by decide) (.slice aO N1 cO) N1 (flatS (S.map slotO)) rfl (HOE.out.alloc _) ⟨wr.heap.size, 0, none⟩ 1 1 [.bool true, .int .i64 0] rfl rfl ?c1 ?c2 ?c3 ?c4 ?c5 ?_)
              case c1 => exact World.news_of_block (cs := #[.bool true, .int .i64 0]) (t := 45) (fr := (0, 0)) (heap_alloc_new wr _)
              case c2 => intro u hu; simp at hu; rcases hu with rfl | rfl <;> rfl
              case c3 => unfold maxLen; omega
              case c4 => omega
              case c5 => have := HST.out.below.size; simp; omega
              intro v6 w6 hown6 hgrow6 _ hloc6
              obtain ⟨a6, c6, rfl⟩ := own_shape' hown6
              have HST6 : Hid (StSt w5 (.slice a6 (N1 + 1) c6) (.slice aC K1 cC) vs (S.map slotO ++ [none]) (cycs S) w6) := Lib.hid (HST.out.addO (o := none) hgrow6 (by rw [List.length_map, ← HN1.out]; exact hown6) hloc6)
              clear hown6 hgrow6 hloc6 hj0 hy0 hy1 hy2
              have HCE6 := Lib.hid HST6.out.cyc
              rw [← HK1.out] at HCE6
              obtain ⟨hi0, hz0, hz1, hz2⟩ := HI.out
              go_wp2_with (at_builtin; refine wpList_append_own_at _ rfl _ _ 28 rfl w5.heap.size 22 i0 (.slice none 0 0) 1 24 Tryz.underlying28 hi0 hz0 hz1 hz2 rfl (by decide) (.slice aC K1 cC) K1 vs rfl (HCE6.out.alloc _) ⟨w6.heap.size, 0, none⟩ 1 1 [.slice aX nX cX] rfl rfl ?e1 ?e2 ?e3 ?e4 ?e5 ?_)
              all_goals (try first | (intro j x hj; match j, hj with | 0, hj => (simp at hj; subst hj; simp [Addr.add])) | (intro x hx; simp at hx; subst hx; rfl) | (unfold maxLen; omega) | omega | rfl | (have := HST6.out.below.size; simp; omega))
              intro v7 w7 hown7 hgrow7 _ hloc7
              obtain ⟨a7, c7, rfl⟩ := own_shape' hown7
              have HST7 : Hid (StSt w5 (.slice a6 (N1 + 1) c6) (.slice a7 (K1 + 1) c7) (vs ++ [.slice aX nX cX]) (S.map slotO ++ [none]) (cycs S ++ [X]) w7) := Lib.hid (by
                have h := HST6.out.addC (vC' := .slice a7 (K1 + 1) c7) (a := aX) (c := cX) (l := X) hgrow7 (by rw [HXL.out, ← HK1.out]; exact hown7) hloc7 (by rw [HXL.out]; exact HRX.out)
                rw [HXL.out] at h
                exact h)
              clear hown7 hgrow7 hloc7 hi0 hz0 hz1 hz2
              go_wp2
              go_roundw
              case rel =>
                refine ⟨t, S ++ [X], vs ++ [.slice aX nX cX], by omega, by go_num, Lib.hid HS1.out.symm, Lib.hid ?_⟩
                have h := HST7.out
                rw [List.map_append, List.map_singleton, slotO_cy HCY.out, show cycs (S ++ [X]) = cycs S ++ [X] by unfold cycs; rw [List.filter_append]; simp [HCY.out]]
                exact h
              case measure => simp [intOf]
            · obtain rfl : nX = 1 := by omega
              have h1a : decide ((1 : Int) < ((1 : Nat) : Int)) = false := by simp
              have HX1 : Hid (X = [u]) := Lib.hid (by
                have h2 := HXL.out
                have h3 := HUX.out
                match X, h2 with
                | [x], _ => rw [List.mem_singleton.1 h3])
              obtain ⟨hj0, hy0, hy1, hy2⟩ := HJ.out
              clear h1
              go_wp2_with (at_builtin; refine wpList_append_own_at _ rfl _ _ 34 rfl w5.heap.size 45 j0 (.agg #[.bool false, .int .i64 0]) 2 16 Tryz.underlying34 hj0 hy0 hy1 hy2 rfl (by decide) (.slice aO N1 cO) N1 (flatS (S.map slotO)) rfl (HOE.out.alloc _) ⟨wr.heap.size, 0, none⟩ 1 1 [.bool false, .int .i64 u] rfl rfl ?d1 ?d2 ?d3 ?d4 ?d5 ?_)
              case d1 => exact World.news_of_block (cs := #[.bool false, .int .i64 u]) (t := 45) (fr := (0, 0)) (heap_alloc_new wr _)
              case d2 => intro u hu; simp at hu; rcases hu with rfl | rfl <;> rfl
              case d3 => unfold maxLen; omega
              case d4 => omega
              case d5 => have := HST.out.below.size; simp; omega
              intro v6 w6 hown6 hgrow6 _ hloc6
              obtain ⟨a6, c6, rfl⟩ := own_shape' hown6
              have HST6 : Hid (StSt w5 (.slice a6 (N1 + 1) c6) (.slice aC K1 cC) vs (S.map slotO ++ [some u]) (cycs S) w6) := Lib.hid (HST.out.addO (o := some u) hgrow6 (by rw [List.length_map, ← HN1.out]; exact hown6) hloc6)
              clear hown6 hgrow6 hloc6 hj0 hy0 hy1 hy2
              go_wp2
              go_roundw
              case rel =>
                refine ⟨t, S ++ [X], vs, by omega, by go_num, Lib.hid HS1.out.symm, Lib.hid ?_⟩
                have h := HST6.out
                rw [List.map_append, List.map_singleton, HX1.out, show slotO [u] = some u from rfl, show cycs (S ++ [[u]]) = cycs S by unfold cycs; rw [List.filter_append]; simp [cyB]]
                exact h
              case measure => simp [intOf]
          · have hne : (fv != u) = true := by simp [hfu]
            have HS1 : Hid (stabF parts d2.met (d2.left.drop t).reverse = S) := Lib.hid (by
              rw [HSTEP.out, HFV.out, ← HSE.out]; simp [hfu])
            clear hfu
            go_wp2
            go_roundw
            case rel => exact ⟨t, S, vs, by omega, by go_num, Lib.hid HS1.out.symm, HST⟩
            case measure => simp [intOf]
        · obtain rfl : j = 0 := by omega
          have e0 : (((0 : Nat) : Int) - 1) = -1 := rfl
          rw [e0]
          clear e0
          have HFIN : Hid (StabPost ns es w (.returned (.tuple #[.slice aO N1 cO, .slice aC K1 cC])) wr) := Lib.hid (by
            refine ⟨parts, S, d2, aO, aC, cO, cC, HSCC.out, ?_, ?_, by rw [HN1.out, HK1.out], ?_, ?_, ?_, ?_⟩
            · rw [← HIDS.out, ← HADJ.out]; have h := HV.out; rw [List.drop_zero] at h; exact h
            · rw [HSE.out, List.drop_zero]; rfl
            · rw [← HN1.out]
              exact own_lower HOE.out (by have := HS1.out; omega)
            · intro W hf
              rw [← HK1.out]; rw [← HN1.out] at hf; exact HST.out.rdL hf HK1.out.symm (by omega)
            · rw [HNL.out, ← HN1.out]; omega
            · exact (HBWW.out w5 HB5.out).trans (HST.out.below.mono (by omega)))
          go_wp2
          refine bodyPost_ret (v := .tuple #[.slice aO N1 cO, .slice aC K1 cC]) (by simp [results, Tryz.results71, go_sem]) rfl ?_
          exact HFIN.out
end Go.Proofs.YtnfkbjgijelfdaaGreat
namespace Go.Proofs.YtnfkbjgijelfdaaGreat
open Go.RowKit

/-- The graph of the places while it is built: its block and its two lists. -/
structure HSt (wB : World) (bh lo : Nat) (vN vE : Value) (ns : List Int) (es : List (Int × Int × Int)) (w : World) : Prop where
  blk : w.heap[bh]? = some (.cells #[.bool true, vN, vE] 25 (0, 0))
  nod : w.ownsRow lo 3 1 vN ns.length (ns.map (Value.int .i64))
  edg : w.ownsRow lo 41 3 vE es.length (flatE es)
  apart : ∀ g, vN.ownBlock = some g → vE.ownBlock ≠ some g
  low : bh < lo
  below : Below bh wB w
section
variable {wB : World} {bh lo : Nat} {vN vE : Value} {ns : List Int} {es : List (Int × Int × Int)} {w w' : World}
theorem HSt.lt (h : HSt wB bh lo vN vE ns es w) : bh < w.heap.size := (Array.getElem?_eq_some_iff.1 h.blk).1
theorem HSt.neN (h : HSt wB bh lo vN vE ns es w) : vN.ownBlock ≠ some bh := fun e => by have := (h.nod.lt bh e).1; have := h.low; omega
theorem HSt.neE (h : HSt wB bh lo vN vE ns es w) : vE.ownBlock ≠ some bh := fun e => by have := (h.edg.lt bh e).1; have := h.low; omega
theorem HSt.cells (h : HSt wB bh lo vN vE ns es w) : w.cell? ⟨bh, 0, none⟩ = some (.bool true) ∧ w.cell? ⟨bh, 1, none⟩ = some vN ∧ w.cell? ⟨bh, 2, none⟩ = some vE ∧ w.frozen? ⟨bh, 1, none⟩ = false ∧ w.frozen? ⟨bh, 2, none⟩ = false := by
  refine ⟨?_, ?_, ?_, by simp [World.frozen?, h.blk], by simp [World.frozen?, h.blk]⟩ <;> (rw [cell_of_row w bh _ _ _ (0, 0) h.blk]; rfl)
theorem HSt.later (h : HSt wB bh lo vN vE ns es w) (hb : Below w.heap.size w w') : HSt wB bh lo vN vE ns es w' := by
  have h1 := h.lt
  exact ⟨(hb.block bh h1).trans h.blk, ownsRow_of_heap h.nod (fun g hg => hb.block g (h.nod.lt g hg).2), ownsRow_of_heap h.edg (fun g hg => hb.block g (h.edg.lt g hg).2), h.apart, h.low, h.below.trans (hb.mono (by omega))⟩
theorem HSt.setN {vN' : Value} {x : Int} {ob : Obj} (h : HSt wB bh lo vN vE ns es w) (hg : (w.alloc ob).grownBy w' vN.ownBlock) (ho : w'.ownsRow lo 3 1 vN' (ns ++ [x]).length ((ns ++ [x]).map (Value.int .i64))) (hl : vN'.ownBlock = vN.ownBlock ∨ vN'.ownBlock = some (w.heap.size + 1)) :
    w'.cell? ⟨bh, 1, none⟩ = some vN ∧ w'.frozen? ⟨bh, 1, none⟩ = false ∧ HSt wB bh lo vN' vE (ns ++ [x]) es (w'.setCell ⟨bh, 1, none⟩ vN') := by
  have hsz := h.lt
  have hblk : w'.heap[bh]? = some (.cells #[.bool true, vN, vE] 25 (0, 0)) := by
    rw [hg.block bh (by simp; omega) (fun e => h.neN e.symm), heap_alloc_old _ _ hsz]; exact h.blk
  have hnb : vN'.ownBlock ≠ some bh := fun e => by have := (ho.lt bh e).1; have := h.low; omega
  refine ⟨by rw [cell_of_row w' bh _ _ _ (0, 0) hblk]; rfl, by simp [World.frozen?, hblk], ⟨?_, ?_, ?_, ?_, h.low, ?_⟩⟩
  · rw [heap_setCell_same hblk]; rfl
  · exact ownsRow_of_heap ho (fun g hg' => Below.heap_setCell _ _ _ _ (fun e => hnb (by rw [← show g = bh from e]; exact hg')))
  · refine ownsRow_of_heap h.edg (fun g hg' => ?_)
    have hlt := (h.edg.lt g hg').2
    rw [Below.heap_setCell _ _ _ _ (fun e => h.neE (by rw [← show g = bh from e]; exact hg')), hg.block g (by simp; omega) (fun e => h.apart g e.symm hg'), heap_alloc_old _ _ hlt]
  · intro g h1 h2
    rcases hl with e | e
    · exact h.apart g (e ▸ h1) h2
    · rw [e] at h1
      have := Option.some.inj h1
      have := (h.edg.lt g h2).2
      omega
  · exact (((h.below.alloc (by omega) _).grown hg (by simp; omega) (fun j hj => by have := (h.nod.lt j hj).1; have := h.low; omega)).setCell (Nat.le_refl _) _)
theorem HSt.setE {vE' : Value} {x : Int × Int × Int} (h : HSt wB bh lo vN vE ns es w) (hg : w.grownBy w' vE.ownBlock) (ho : w'.ownsRow lo 41 3 vE' (es ++ [x]).length (flatE (es ++ [x]))) (hl : vE'.ownBlock = vE.ownBlock ∨ vE'.ownBlock = some w.heap.size) :
    w'.cell? ⟨bh, 2, none⟩ = some vE ∧ w'.frozen? ⟨bh, 2, none⟩ = false ∧ HSt wB bh lo vN vE' ns (es ++ [x]) (w'.setCell ⟨bh, 2, none⟩ vE') := by
  have hsz := h.lt
  have hblk : w'.heap[bh]? = some (.cells #[.bool true, vN, vE] 25 (0, 0)) := by
    rw [hg.block bh hsz (fun e => h.neE e.symm)]; exact h.blk
  have hnb : vE'.ownBlock ≠ some bh := fun e => by have := (ho.lt bh e).1; have := h.low; omega
  refine ⟨by rw [cell_of_row w' bh _ _ _ (0, 0) hblk]; rfl, by simp [World.frozen?, hblk], ⟨?_, ?_, ?_, ?_, h.low, ?_⟩⟩
  · rw [heap_setCell_same hblk]; rfl
  · refine ownsRow_of_heap h.nod (fun g hg' => ?_)
    have hlt := (h.nod.lt g hg').2
    rw [Below.heap_setCell _ _ _ _ (fun e => h.neN (by rw [← show g = bh from e]; exact hg')), hg.block g hlt (fun e => h.apart g hg' e.symm)]
  · exact ownsRow_of_heap ho (fun g hg' => Below.heap_setCell _ _ _ _ (fun e => hnb (by rw [← show g = bh from e]; exact hg')))
  · intro g h1 h2
    rcases hl with e | e
    · exact h.apart g h1 (e ▸ h2)
    · rw [e] at h2
      have := Option.some.inj h2
      have := (h.nod.lt g h1).2
      omega
  · exact (h.below.grown hg (by omega) (fun j hj => by have := (h.edg.lt j hj).1; have := h.low; omega)).setCell (Nat.le_refl _) _
end

theorem flatS_set : ∀ (L : List (Option Int)) (k : Nat) (i y : Int), L[k]? = some (some i) → flatS (L.set k (some y)) = (flatS L).set (k * 2 + 1) (.int .i64 y)
  | [], k, i, y, h => by simp at h
  | o :: L, 0, i, y, h => by
    have e : o = some i := by simpa using h
    subst e
    rfl
  | o :: L, k + 1, i, y, h => by
    have h2 := flatS_set L k i y (by simpa using h)
    have e1 : ∀ (a : Option Int) (l : List (Option Int)), flatS (a :: l) = .bool a.isNone :: .int .i64 (a.getD 0) :: flatS l := fun _ _ => rfl
    rw [List.set_cons_succ, e1, e1, h2, show (k + 1) * 2 + 1 = k * 2 + 1 + 1 + 1 by omega]
    rfl
/-- The first places of a list replaced. -/
def mixL {α : Type} (ms os : List α) (k : Nat) : List α := ms.take k ++ os.drop k
theorem mixL_set {α : Type} {ms os : List α} {k : Nat} (h : ms.length = os.length) {y : α} (hy : ms[k]? = some y) : mixL ms os (k + 1) = (mixL ms os k).set k y := by
  obtain ⟨h1, h2⟩ := List.getElem?_eq_some_iff.1 hy
  unfold mixL
  rw [List.take_succ_eq_append_getElem h1, h2, List.set_append_right _ _ (by simp; omega)]
  have e : k - (ms.take k).length = 0 := by simp; omega
  rw [e, List.drop_eq_getElem_cons (by omega : k < os.length), List.set_cons_zero, List.append_assoc]
  rfl
theorem mixL_at {α : Type} {ms os : List α} {k : Nat} (h : ms.length = os.length) (hk : k < os.length) : (mixL ms os k)[k]? = os[k]? := by
  unfold mixL
  rw [List.getElem?_append_right (by simp; omega)]
  have e : k - (ms.take k).length = 0 := by simp; omega
  rw [e, List.getElem?_drop]; simp
theorem mixL_len {α : Type} {ms os : List α} {k : Nat} (h : ms.length = os.length) (hk : k ≤ os.length) : (mixL ms os k).length = os.length := by
  unfold mixL
  rw [List.length_append, List.length_take, List.length_drop]
  omega

theorem stabL_in {ids : List Int} {adj : Int → List Int} {parts : List (List Int)} (h : SccL ids adj parts) {d : WS} {c : List Int} (hc : c ∈ stabL parts d) {i : Int} (hi : i ∈ c) : i ∈ ids := by
  unfold stabL at hc
  obtain ⟨u, -, rfl⟩ := List.mem_map.1 hc
  unfold compOf at hi
  cases hf : parts.find? fun c => c.contains u with
  | none => rw [hf] at hi; cases hi
  | some e => rw [hf] at hi; exact (h.mem i).1 (List.mem_flatten.2 ⟨e, List.mem_of_find?_eq_some hf, hi⟩)

theorem stabL_len {ids : List Int} {adj : Int → List Int} {parts : List (List Int)} (h : SccL ids adj parts) {d : WS} {c : List Int} (hc : c ∈ stabL parts d) : c.length ≤ ids.length := by
  have hsub := fun (i : Int) (hi : i ∈ c) => stabL_in h hc hi
  unfold stabL at hc
  obtain ⟨u, -, rfl⟩ := List.mem_map.1 hc
  unfold compOf at hsub ⊢
  cases hf : parts.find? fun c => c.contains u with
  | none => exact Nat.zero_le _
  | some e =>
    rw [hf] at hsub
    exact nodup_lenT (h.nodup_of (List.mem_of_find?_eq_some hf)) hsub

def SBPost (es : List (Int × Int × Int)) (P : List Int) (w : World) (e : Ending) (w' : World) : Prop :=
  ∃ (parts S : List (List Int)) (d : WS) (aO aC : Option Addr) (cO cC : Nat), SccL (sortI (hN P.length)) (fromL true (hN P.length) (hE P es)) parts ∧ VRun (fun x => (fromL true (hN P.length) (hE P es) x).reverse) ⟨[], []⟩ (sortI (hN P.length)).reverse d ∧ S = stabL parts d ∧
    e = .returned (.tuple #[.slice aO S.length cO, .slice aC (cycs S).length cC]) ∧ RdS w' aO S.length (S.map fun c => (slotO c).map (atP P)) ∧ RdL w' aC (cycs S).length ((cycs S).map fun c => c.map (atP P)) ∧ S.length ≤ P.length ∧ Below w.heap.size w w'

set_option maxHeartbeats 8000000 in
set_option maxRecDepth 100000 in
theorem specSortBy_calls (d : Bool) (an ae aP : Option Addr) (n cn m ce kP cP : Nat) (es : List (Int × Int × Int)) (P : List Int) (w : World) (hr : RdE w ae m es) (hp : RdI w aP kP P) (hk8 : kP ≤ 500) (hm : m ≤ 250000) (hes : ∀ e ∈ es, e.1 ∈ P ∧ e.2.1 ∈ P) :
    Calls Tryz.prog 25 #[.agg #[.bool d, .slice an n cn, .slice ae m ce], .slice aP kP cP] w (SBPost es P w) := by
  have HR := Lib.hid hr; have HP := Lib.hid hp; have HES := Lib.hid hes
  have hkl := hp.len
  have HKL := Lib.hid hkl
  obtain ⟨i0, hi0, hz0, hz1, hz2⟩ := info_parts int_info
  have HI := Lib.hid (And.intro hi0 (And.intro hz0 (And.intro hz1 hz2)))
  clear hr hp hes hkl hi0 hz0 hz1 hz2
  go_enter Tryz.func25, Tryz.ntmps25
  go_upto_region 2 with fail
  obtain ⟨w0, hw0⟩ : ∃ w0, w0 = w.alloc (.cells #[.bool d, .slice an n cn, .slice ae m ce] 25) := ⟨_, rfl⟩
  obtain ⟨bh, hbh⟩ : ∃ bh, bh = w.heap.size + 1 := ⟨_, rfl⟩
  have hb0 : Below w.heap.size w w0 := by rw [hw0]; exact (Below.refl _ _).alloc (Nat.le_refl _) _
  have hs0 : w0.heap.size = bh := by rw [hw0, hbh]; simp
  have x0 : w0.heap[w.heap.size]? = some (.cells #[.bool d, .slice an n cn, .slice ae m ce] 25 (0, 0)) := by rw [hw0]; exact heap_alloc_new w _
  have hws : w.heap.size < bh := by omega
  rw [← hw0, ← hbh]
  obtain ⟨w1, hw1⟩ : ∃ w1, w1 = w0.alloc (.cells #[.bool true, .slice none 0 0, .slice none 0 0] 25) := ⟨_, rfl⟩
  rw [← hw1]
  have x1 : w1.heap[bh]? = some (.cells #[.bool true, .slice none 0 0, .slice none 0 0] 25 (0, 0)) := by rw [hw1, ← hs0]; exact heap_alloc_new w0 _
  have hb1 : Below bh w0 w1 := by rw [hw1]; exact (Below.refl _ _).alloc (by omega) _
  have HB0 := Lib.hid hb0; have HS0 := Lib.hid hs0; have HBH := Lib.hid hbh
  have HSG : Hid (∀ W, Below bh w0 W → W.cell? ⟨w.heap.size, 2, none⟩ = some (.slice ae m ce)) := Lib.hid fun W h => by
    have e1 := (h.block w.heap.size hws).trans x0
    rw [cell_of_row W _ _ _ _ (0, 0) e1]; rfl
  have HBWW : Hid (∀ W, Below bh w0 W → Below w.heap.size w W) := Lib.hid fun W h => hb0.trans (h.mono (by omega))
  have HH1 : Hid (HSt w0 bh (bh + 1) (.slice none 0 0) (.slice none 0 0) [] [] w1) := Lib.hid ⟨x1, World.ownsRow_nil _ _ _ _, World.ownsRow_nil _ _ _ _, (fun _ h => nomatch h), Nat.lt_succ_self _, hb1⟩
  clear hw0 hbh hb0 hs0 x0 hw1 x1 hb1
  go_wp2_with fail
  go_loopw [21] (fun i wr => ∃ (k : Nat) (vN : Value), k ≤ kP ∧ i = .int .i64 k ∧ Hid (HSt w0 bh (bh + 1) vN (.slice none 0 0) (hN k) [] wr)) (fun i _ => kP - (intOf i).toNat)
  case atStart => exact ⟨0, _, Nat.zero_le _, rfl, HH1⟩
  case round =>
    obtain ⟨k, vN, hk, rfl, HH⟩ := hrel
    obtain ⟨aN, cN, rfl⟩ := own_shape' HH.out.nod
    obtain ⟨q0, q1, q2, q3, q4⟩ := HH.out.cells
    have HNR := Lib.hid HH.out.nod
    rw [hN_len] at HNR HH q1
    have hszr : bh < wr.heap.size := HH.out.lt
    by_cases hlt : k < kP
    · obtain ⟨hi0, hz0, hz1, hz2⟩ := HI.out
      go_wp2_with (at_builtin; refine wpList_append_own_at _ rfl _ _ 22 rfl (bh + 1) 3 i0 (.int .i64 0) 1 8 Tryz.underlying22 hi0 hz0 hz1 hz2 rfl (by decide) (.slice aN k cN) k ((hN k).map (Value.int .i64)) rfl (HNR.out.alloc _) ⟨wr.heap.size, 0, none⟩ 1 1 [.int .i64 k] rfl rfl ?c1 ?c2 ?c3 ?c4 ?c5 ?_)
      case c1 => intro j x hj; match j, hj with | 0, hj => simp at hj; subst hj; simp [Addr.add]
      case c2 => intro x hx; simp at hx; subst hx; rfl
      case c3 => unfold maxLen; omega
      case c4 => omega
      case c5 => simp; omega
      intro v1 w2 hown hgrow _ hloc
      obtain ⟨a1, c1, rfl⟩ := own_shape' hown
      have hsucc : hN (k + 1) = hN k ++ [(k : Int)] := by unfold hN; rw [List.range_succ, List.map_append]; rfl
      obtain ⟨k1, f1, hh1⟩ := HH.out.setN (x := (k : Int)) hgrow (by rw [← hsucc, hN_len, hsucc, List.map_append]; exact hown) hloc
      rw [← hsucc] at hh1
      have HH2 := Lib.hid hh1
      clear hown hgrow hloc hh1 hsucc hi0 hz0 hz1 hz2 q0 q1 q2 q3 q4
      go_wp2
      go_roundw
      case rel => exact ⟨k + 1, _, by omega, by go_num, HH2⟩
      case measure => simp [intOf]; omega
    · obtain rfl : k = kP := by omega
      have q5 := HSG.out wr HH.out.below
      obtain ⟨j0, hj0, hy0, hy1, hy2⟩ := info_parts edge_info
      have HJ := Lib.hid (And.intro hj0 (And.intro hy0 (And.intro hy1 hy2)))
      clear hj0 hy0 hy1 hy2 q0 q1 q2 q3 q4 hlt hk
      obtain ⟨wo, rfl⟩ : ∃ wo : World, wo = wr := ⟨_, rfl⟩
      have hms := HR.out.small
      go_wp2_with fail
      clear q5
      go_loopw [34] (fun i wr => ∃ (t : Nat) (vE : Value), t ≤ m ∧ i = .int .i64 t ∧ Hid (HSt w0 bh (bh + 1) (.slice aN k cN) vE (hN k) (hE P (es.take t)) wr)) (fun i _ => m - (intOf i).toNat)
      case atStart => exact ⟨0, _, Nat.zero_le _, rfl, HH⟩
      case round =>
        obtain ⟨t, vE, ht, rfl, HH3⟩ := hrel
        have hlen : (hE P (es.take t)).length = t := by unfold hE; rw [List.length_map, List.length_take]; have := HR.out.len; omega
        obtain ⟨aE, cE, rfl⟩ := own_shape' HH3.out.edg
        obtain ⟨q0, q1, q2, q3, q4⟩ := HH3.out.cells
        have HER := Lib.hid HH3.out.edg
        rw [hlen] at HER HH3 q2
        have HLEN := Lib.hid hlen
        have hszr : bh < wr.heap.size := HH3.out.lt
        have hbwr := HBWW.out wr HH3.out.below
        clear hlen
        by_cases hlt : t < m
        · obtain ⟨b, off, rfl, hb, hc⟩ := HR.out.at_ (by omega)
          obtain ⟨u, v, x, HX, d0, d1, d2⟩ := hc t hlt
          have hb2 : b < wr.heap.size := by have := hbwr.size; omega
          have e0 := (hbwr.cell (p := ⟨b, off + t * 3, none⟩) hb).trans d0
          have e1 := (hbwr.cell (p := ⟨b, off + t * 3 + 1, none⟩) hb).trans d1
          have e2 := (hbwr.cell (p := ⟨b, off + t * 3 + 2, none⟩) hb).trans d2
          have huv := HES.out _ (List.mem_of_getElem? HX.out)
          have HUP : Hid (u ∈ P) := Lib.hid huv.1
          have HVP : Hid (v ∈ P) := Lib.hid huv.2
          have HBWR := Lib.hid hbwr
          clear hc d0 d1 d2 hb huv hbwr
          go_upto_region 10 with fail
          obtain ⟨be, hbe⟩ : ∃ be, be = wr.heap.size := ⟨_, rfl⟩
          obtain ⟨w9, hw9⟩ : ∃ w9, w9 = wr.alloc (.cells #[.int .i64 u, .int .i64 v, .int .i64 x] 41) := ⟨_, rfl⟩
          have HB9 : Hid (Below wr.heap.size wr w9) := Lib.hid (by rw [hw9]; exact (Below.refl _ _).alloc (Nat.le_refl _) _)
          have x9 : w9.heap[be]? = some (.cells #[.int .i64 u, .int .i64 v, .int .i64 x] 41 (0, 0)) := by rw [hw9, hbe]; exact heap_alloc_new wr _
          rw [← hw9, ← hbe]
          have hs9 : be < w9.heap.size := (Array.getElem?_eq_some_iff.1 x9).1
          have HX9 : Hid (∀ W : World, W.heap[be]? = w9.heap[be]? → W.cell? ⟨be, 0, none⟩ = some (.int .i64 u) ∧ W.cell? ⟨be, 1, none⟩ = some (.int .i64 v)) := Lib.hid (fun W hW => by
            have hx := hW.trans x9
            refine ⟨?_, ?_⟩ <;> (rw [cell_of_row W _ _ _ _ (0, 0) hx]; rfl))
          have HBD : Hid (Below w9.heap.size w9 w9.drew) := Lib.hid (below_drewN (Below.refl _ _) 1)
          have HH9 := Lib.hid ((HH3.out.later HB9.out).later HBD.out)
          have HBW9 : Hid (Below w.heap.size w w9.drew) := Lib.hid (HBWW.out _ HH9.out.below)
          have hne : be ≠ bh := by omega
          have hbe2 : wr.heap.size ≤ be := by omega
          have HEB : Hid (∀ g, (Value.slice aE t cE).ownBlock = some g → g ≠ be) := Lib.hid (fun g hg e => by have := (HER.out.lt g hg).2; omega)
          clear hw9 x9 e0 e1 e2 hbe q0 q1 q2 q3 q4 hb2
          obtain ⟨-, -, q2, -, -⟩ := HH9.out.cells
          refine wp_region_L (by kernel_rfl) (fun w' : World => w'.cell? ⟨bh, 2, none⟩ = some (.slice aE t cE) ∧ w'.cell? ⟨be, 0, none⟩ = some (.int .i64 u) ∧ w'.cell? ⟨be, 1, none⟩ = some (.int .i64 v)) [14] ⟨q2, HX9.out _ (HBD.out.block be hs9)⟩ (fun hHeld => ?_)
          refine wpAnyL_take (i := 0) (v := ?_) rfl (by kernel_rfl) (by kernel_rfl) (by kernel_rfl) (by kernel_rfl) (fun _ _ _ h => h) (by kernel_rfl) ?_ hHeld ?_
          rotate_left
          · intro w hSw; obtain ⟨hs0, hs1, hs2⟩ := hSw; go_simp; all_goals with_reducible rfl
          simp only [Act.put]
          refine wpAnyL_take (i := 1) (v := ?_) rfl (by kernel_rfl) (by kernel_rfl) (by kernel_rfl) (by kernel_rfl) (fun _ _ _ h => h) (by kernel_rfl) ?_ hHeld ?_
          rotate_left
          · intro w hSw; obtain ⟨hs0, hs1, hs2⟩ := hSw; go_simp; all_goals with_reducible rfl
          simp only [Act.put]
          refine wpAnyL_take (i := 2) (v := ?_) rfl (by kernel_rfl) (by kernel_rfl) (by kernel_rfl) (by kernel_rfl) (fun _ _ _ h => h) (by kernel_rfl) ?_ hHeld ?_
          rotate_left
          · intro w hSw; obtain ⟨hs0, hs1, hs2⟩ := hSw; go_simp; all_goals with_reducible rfl
          simp only [Act.put]
          refine wpAnyL_take (i := 3) (v := ?_) rfl (by kernel_rfl) (by kernel_rfl) (by kernel_rfl) (by kernel_rfl) (fun _ _ _ h => h) (by kernel_rfl) ?_ hHeld ?_
          rotate_left
          · intro w hSw; obtain ⟨hs0, hs1, hs2⟩ := hSw; go_simp; all_goals with_reducible rfl
          simp only [Act.put]
          refine wpAnyL_take (i := 4) (v := ?_) rfl (by kernel_rfl) (by kernel_rfl) (by kernel_rfl) (by kernel_rfl) (fun _ _ _ h => h) (by kernel_rfl) ?_ hHeld ?_
          rotate_left
          · intro w hSw; obtain ⟨hs0, hs1, hs2⟩ := hSw; go_simp; all_goals with_reducible rfl
          simp only [Act.put]
          refine wpAnyL_take (i := 6) (v := ?_) rfl (by kernel_rfl) (by kernel_rfl) (by kernel_rfl) (by kernel_rfl) (fun _ _ _ h => h) (by kernel_rfl) ?_ hHeld ?_
          rotate_left
          · intro w hSw; obtain ⟨hs0, hs1, hs2⟩ := hSw; go_simp; all_goals with_reducible rfl
          simp only [Act.put]
          refine wpAnyL_take (i := 7) (v := ?_) rfl (by kernel_rfl) (by kernel_rfl) (by kernel_rfl) (by kernel_rfl) (fun _ _ _ h => h) (by kernel_rfl) ?_ hHeld ?_
          rotate_left
          · intro w hSw; obtain ⟨hs0, hs1, hs2⟩ := hSw; go_simp; all_goals with_reducible rfl
          simp only [Act.put]
          refine wpAnyL_take (i := 8) (v := ?_) rfl (by kernel_rfl) (by kernel_rfl) (by kernel_rfl) (by kernel_rfl) (fun _ _ _ h => h) (by kernel_rfl) ?_ hHeld ?_
          rotate_left
          · intro w hSw; obtain ⟨hs0, hs1, hs2⟩ := hSw; go_simp; all_goals with_reducible rfl
          simp only [Act.put]
          refine wpAnyL_one (i := 5) rfl (by kernel_rfl) (by kernel_rfl) (fun K hK => ?_)
          go_simp
          refine (placeIn_calls aP k cP P u w9.drew (HP.out.below HBW9.out (Nat.le_refl _)) HUP.out).mono ?_
          rintro e w' ⟨rfl, rfl⟩
          refine hK.out _ _ (.inr hHeld) ?_
          clear hK K
          refine wpAnyL_one (i := 9) rfl (by kernel_rfl) (by kernel_rfl) (fun K hK => ?_)
          go_simp
          refine (placeIn_calls aP k cP P v w9.drew (HP.out.below HBW9.out (Nat.le_refl _)) HVP.out).mono ?_
          rintro e w' ⟨rfl, rfl⟩
          refine hK.out _ _ (.inr hHeld) ?_
          clear hK K
          refine wpAnyL_take (i := 10) (v := ?_) rfl (by kernel_rfl) (by kernel_rfl) (by kernel_rfl) (by kernel_rfl) (fun _ _ _ h => h) (by kernel_rfl) ?_ hHeld ?_
          rotate_left
          · intro w hSw; obtain ⟨hs0, hs1, hs2⟩ := hSw; go_simp; all_goals with_reducible rfl
          simp only [Act.put]
          refine wpAnyL_one (i := 11) rfl (by kernel_rfl) (by kernel_rfl) (fun K hK => ?_)
          go_simp
          obtain ⟨bt, hbt⟩ : ∃ bt, bt = w9.heap.size := ⟨_, rfl⟩
          obtain ⟨w10, hw10⟩ : ∃ w10, w10 = (w9.alloc (.cells #[.int .i64 (posP P u : Nat), .int .i64 (posP P v : Nat), .int .i64 0] 41)).drew := ⟨_, rfl⟩
          rw [← hw10, ← hbt]
          have x10 : w10.heap[bt]? = some (.cells #[.int .i64 (posP P u : Nat), .int .i64 (posP P v : Nat), .int .i64 0] 41 (0, 0)) := by rw [hw10, hbt]; exact heap_alloc_new w9 _
          have HB10 : Hid (Below w9.heap.size w9 w10) := Lib.hid (by rw [hw10]; exact ((Below.refl _ _).alloc (Nat.le_refl _) _).drew)
          have HH10 := Lib.hid ((HH3.out.later HB9.out).later HB10.out)
          have HER10 := Lib.hid HH10.out.edg
          rw [HLEN.out] at HER10
          clear hHeld
          have hHeld : (fun w' : World => w'.cell? ⟨bh, 2, none⟩ = some (.slice aE t cE) ∧ w'.cell? ⟨be, 0, none⟩ = some (.int .i64 u) ∧ w'.cell? ⟨be, 1, none⟩ = some (.int .i64 v)) w10 := ⟨HH10.out.cells.2.2.1, HX9.out _ (HB10.out.block be hs9)⟩
          refine hK.out _ _ (.inr hHeld) ?_
          clear hK K hw10
          refine wpAnyL_one (i := 12) rfl (by kernel_rfl) (by kernel_rfl) (fun K hK => ?_)
          obtain ⟨hj0, hy0, hy1, hy2⟩ := HJ.out
          have hm1 : t + 1 ≤ maxLen := by unfold maxLen; omega
          have hm2 : (t + 1) * 24 ≤ 140737488355328 := by omega
          have hs10 : bh + 1 ≤ w10.heap.size := by have := HB10.out.size; omega
          refine wp_append_lies _ _ _ _ (by rfl) (bh + 1) 41 j0 (.agg #[.int .i64 0, .int .i64 0, .int .i64 0]) 3 24 Tryz.underlying23 hj0 hy0 hy1 hy2 rfl (by decide) (.slice aE t cE) t (flatE (hE P (es.take t))) (by rfl) HER10.out ⟨bt, 0, none⟩ 1 1 [.int .i64 (posP P u : Nat), .int .i64 (posP P v : Nat), .int .i64 0] (by rfl) (by rfl) (World.news_of_block (cs := #[.int .i64 (posP P u : Nat), .int .i64 (posP P v : Nat), .int .i64 0]) (t := 41) (fr := (0, 0)) x10) (by simp [Value.oneCell']) (by omega) hm1 hm2 hs10 w10.heap.size rfl ?_
          intro g4 p4 w11 hown hgrow hat hlt4
          have hsucc : hE P (es.take (t + 1)) = hE P (es.take t) ++ [(((posP P u : Nat) : Int), ((posP P v : Nat) : Int), (0 : Int))] := by
            obtain ⟨h1, h2⟩ := List.getElem?_eq_some_iff.1 HX.out
            unfold hE
            rw [List.take_succ_eq_append_getElem h1, h2, List.map_append]; rfl
          have hl1 : (hE P (es.take (t + 1))).length = t + 1 := by rw [hsucc, List.length_append, HLEN.out]; rfl
          have hfl : flatE (hE P (es.take (t + 1))) = flatE (hE P (es.take t)) ++ [.int .i64 (posP P u : Nat), .int .i64 (posP P v : Nat), .int .i64 0] := by rw [hsucc]; simp [flatE]
          obtain ⟨k3, f3, hh11⟩ := HH10.out.setE (vE' := .slice (some ⟨g4, 0, none⟩) (t + 1) p4) (x := (((posP P u : Nat) : Int), ((posP P v : Nat) : Int), (0 : Int))) hgrow (by rw [← hsucc, hl1, hfl]; exact hown) (by rcases hat with h | h; exact .inl h.symm; exact .inr (by rw [← h]; rfl))
          rw [← hsucc] at hh11
          have HH11 := Lib.hid hh11
          clear hHeld
          have hHeld : (fun w' : World => w'.cell? ⟨bh, 2, none⟩ = some (.slice aE t cE) ∧ w'.cell? ⟨be, 0, none⟩ = some (.int .i64 u) ∧ w'.cell? ⟨be, 1, none⟩ = some (.int .i64 v)) w11 := ⟨k3, HX9.out _ ((hgrow.block be (by have := HB10.out.size; omega) (fun e => HEB.out be e.symm rfl)).trans (HB10.out.block be hs9))⟩
          refine hK.out _ _ (.inr hHeld) ?_
          clear hK K hown hgrow hat hlt4 hsucc hl1 hfl hh11 hj0 hy0 hy1 hy2 hm1 hm2 hs10 x10
          refine wpAnyL_take (i := 13) (v := ?_) rfl (by kernel_rfl) (by kernel_rfl) (by kernel_rfl) (by kernel_rfl) (fun _ _ _ h => h) (by kernel_rfl) ?_ hHeld ?_
          rotate_left
          · intro w hSw; obtain ⟨hs0, hs1, hs2⟩ := hSw; go_simp; all_goals with_reducible rfl
          simp only [Act.put]
          refine wpAnyL_one (i := 14) rfl (by kernel_rfl) (by kernel_rfl) (fun K hK => ?_)
          go_simp
          refine hK.out _ _ (.inl (by decide)) ?_
          clear hK K hHeld
          refine wpAnyL_done (by kernel_rfl) ?_ _
          go_wp2
          go_roundw
          case rel => exact ⟨t + 1, _, by omega, by go_num, HH11⟩
          case measure => simp [intOf]; omega
        · obtain rfl : t = m := by omega
          have htk : es.take t = es := List.take_of_length_le (by have := HR.out.len; omega)
          rw [htk] at HER HH3 HLEN
          have HHF := HH3
          obtain ⟨wf, rfl⟩ : ∃ wf : World, wf = wr := ⟨_, rfl⟩
          have HNR2 := Lib.hid HHF.out.nod
          rw [hN_len] at HNR2
          have HBF := Lib.hid hbwr
          clear htk hbwr hlt ht
          go_wp2_with fail
          refine (stabilized_calls aN aE k cN t cE (hN k) (hE P es) wf (rdi_ownE HNR2.out) (rdE_of_own HER.out) hk8).mono ?_
          rintro e w5 ⟨parts, S, dd, aO, aC, cO, cC, hscc, hvr, hS, rfl, hord, hcyc, hlen, hb5⟩
          rw [hN_len] at hlen
          have HIN : Hid (∀ c ∈ S, ∀ i ∈ c, InK k i) := Lib.hid (fun c hc i hi => by
            rw [hS] at hc
            have := stabL_in hscc hc hi
            rw [sortI_hN, mem_hN] at this
            exact this)
          have HLEN5 : Hid (∀ c ∈ S, c.length ≤ k) := Lib.hid (fun c hc => by
            rw [hS] at hc
            have := stabL_len hscc hc
            rw [sortI_hN, hN_len] at this
            exact this)
          have HSCC := Lib.hid hscc; have HVR := Lib.hid hvr; have HSS := Lib.hid hS
          obtain ⟨N, hN1⟩ : ∃ N, N = S.length := ⟨_, rfl⟩
          obtain ⟨M, hM1⟩ : ∃ M, M = (cycs S).length := ⟨_, rfl⟩
          have hMN : M ≤ N := by rw [hN1, hM1]; exact List.length_filter_le _ _
          rw [← hN1, ← hM1] at hcyc ⊢
          rw [← hN1] at hord hlen
          have HNE := Lib.hid hN1; have HME := Lib.hid hM1
          have HORD := Lib.hid hord; have HCYC := Lib.hid hcyc
          have HB5 := Lib.hid (HBF.out.trans (hb5.mono HBF.out.size))
          have HP5 : Hid (RdI w5 aP k P) := Lib.hid (HP.out.below HB5.out (Nat.le_refl _))
          have hwf : w.heap.size ≤ wf.heap.size := HBF.out.size
          have hwf5 : wf.heap.size ≤ w5.heap.size := hb5.size
          clear hscc hvr hS hord hcyc hb5 hN1 hM1 q0 q1 q2 q3 q4
          go_wp2_with fail
          obtain ⟨os, hos⟩ : ∃ os, os = S.map slotO := ⟨_, rfl⟩
          obtain ⟨ms, hms2⟩ : ∃ ms, ms = S.map fun c => (slotO c).map (atP P) := ⟨_, rfl⟩
          have HOS := Lib.hid hos; have HMS := Lib.hid hms2
          have HOL : Hid (os.length = N) := Lib.hid (by rw [hos, List.length_map]; exact HNE.out.symm)
          have HML : Hid (ms.length = os.length) := Lib.hid (by rw [hos, hms2, List.length_map, List.length_map])
          have HAT : Hid (∀ t o, os[t]? = some o → ms[t]? = some (o.map (atP P)) ∧ ∀ i, o = some i → InK k i) := Lib.hid (fun t o ho => by
            rw [hos, List.getElem?_map] at ho
            obtain ⟨c, hc, e⟩ := Option.map_eq_some_iff.1 ho
            refine ⟨by rw [hms2, List.getElem?_map, hc, ← e]; rfl, fun i hi => ?_⟩
            refine HIN.out c (List.mem_of_getElem? hc) i ?_
            rw [hi] at e
            cases hcb : cyB c with
            | true => rw [slotO_cy hcb] at e; cases e
            | false =>
              obtain ⟨x, hx, hx2⟩ := slotO_one hcb
              rw [hx2] at e
              rw [hx, Option.some.inj e]; simp)
          rw [← hos] at HORD
          clear hos hms2
          go_loopw [60] (fun i wr => ∃ (q : Nat), q ≤ N ∧ i = .int .i64 q ∧ Hid (wr.ownsRow wf.heap.size 45 2 (.slice aO N cO) N (flatS (mixL ms os q))) ∧ Hid (Foot (fun j => (Value.slice aO N cO).ownBlock = some j) w5 wr)) (fun i _ => N - (intOf i).toNat)
          case atStart => exact ⟨0, Nat.zero_le _, rfl, Lib.hid (by unfold mixL; rw [List.take_zero, List.drop_zero, List.nil_append]; exact HORD.out), Lib.hid (Foot.refl _ _)⟩
          case round =>
            obtain ⟨q, hq, rfl, HO, HF⟩ := hrel
            have HBR : Hid (Below wf.heap.size w5 wr) := Lib.hid (HF.out.below (fun j hj => (HORD.out.lt j hj).1) hwf5)
            have HPR : Hid (RdI wr aP k P) := Lib.hid (HP.out.below (HB5.out.trans (HBR.out.mono hwf)) (Nat.le_refl _))
            by_cases hlt : q < N
            · obtain ⟨o, ho⟩ : ∃ o, os[q]? = some o := ⟨_, List.getElem?_eq_getElem (by have := HOL.out; omega)⟩
              obtain ⟨gO, cO', e, hgO0, hgO1, -⟩ := own_form HO.out (by omega)
              simp only [Value.slice.injEq, true_and] at e
              obtain ⟨rfl, rfl⟩ := e
              obtain ⟨b, off, e, hb, hc⟩ := (rdS_of_own HO.out).at_ (by omega)
              simp only [Option.some.injEq, Addr.mk.injEq, and_true] at e
              obtain ⟨rfl, rfl⟩ := e
              obtain ⟨o2, HO2, e1, e2⟩ := hc q hlt
              rw [Nat.zero_add] at e1 e2
              have ho2 : o2 = o := by
                have h := HO2.out
                rw [mixL_at HML.out (by have := HOL.out; omega), ho] at h
                exact (Option.some.inj h).symm
              subst ho2
              have HAQ := Lib.hid (HAT.out q o2 ho)
              have HOQ := Lib.hid ho
              have HSETQ := Lib.hid (mixL_set HML.out (HAQ.out).1)
              have HFZ := Lib.hid (frozen_own HO.out)
              clear hc ho hb
              cases o2 with
              | none =>
                replace e1 : wr.cell? ⟨gO, q * 2, none⟩ = some (.bool true) := e1
                replace e2 : wr.cell? ⟨gO, q * 2 + 1, none⟩ = some (.int .i64 0) := e2
                have HNEXT : Hid (flatS (mixL ms os (q + 1)) = flatS (mixL ms os q)) := Lib.hid (by
                  rw [HSETQ.out]
                  congr 1
                  have h1 := HO2.out
                  obtain ⟨h2, h3⟩ := List.getElem?_eq_some_iff.1 h1
                  show (mixL ms os q).set q none = mixL ms os q
                  rw [← h3]; exact List.set_getElem_self h2)
                go_upto_region 16 with fail
                obtain ⟨be, hbe⟩ : ∃ be, be = wr.heap.size := ⟨_, rfl⟩
                obtain ⟨w9, hw9⟩ : ∃ w9, w9 = wr.alloc (.cells #[.bool true, .int .i64 0] 45) := ⟨_, rfl⟩
                have HB9 : Hid (Below wr.heap.size wr w9) := Lib.hid (by rw [hw9]; exact (Below.refl _ _).alloc (Nat.le_refl _) _)
                have x9 : w9.heap[be]? = some (.cells #[.bool true, .int .i64 0] 45 (0, 0)) := by rw [hw9, hbe]; exact heap_alloc_new wr _
                rw [← hw9, ← hbe]
                have y0 : w9.cell? ⟨be, 0, none⟩ = some (.bool true) := by rw [cell_of_row w9 _ _ _ _ (0, 0) x9]; rfl
                have HO9 : Hid (w9.ownsRow wf.heap.size 45 2 (.slice (some ⟨gO, 0, none⟩) N cO) N (flatS (mixL ms os (q + 1)))) := Lib.hid (by rw [HNEXT.out]; exact ownsRow_of_heap HO.out (fun g hg => HB9.out.block g (HO.out.lt g hg).2))
                have HF9 : Hid (Foot (fun j => (Value.slice (some ⟨gO, 0, none⟩) N cO).ownBlock = some j) w5 w9) := Lib.hid (HF.out.trans (Foot.of_below HB9.out (fun _ => False)) (fun _ h => h.elim))
                clear hw9 x9 hbe e1 e2 HO HF
                go_wp2
                go_roundw
                case rel => exact ⟨q + 1, by omega, by go_num, HO9, HF9⟩
                case measure => simp [intOf]; omega
              | some i =>
                obtain ⟨qi, rfl⟩ : ∃ qi : Nat, i = (qi : Int) := ⟨i.toNat, by have := (HAQ.out.2 i rfl).1; omega⟩
                have hqk : qi < k := by have := (HAQ.out.2 _ rfl).2; omega
                replace e1 : wr.cell? ⟨gO, q * 2, none⟩ = some (.bool false) := e1
                replace e2 : wr.cell? ⟨gO, q * 2 + 1, none⟩ = some (.int .i64 (qi : Int)) := e2
                obtain ⟨bP, offP, rfl, hbP, hcP⟩ := HPR.out.at_ (by omega)
                obtain ⟨z, HZ, g1⟩ := hcP qi hqk
                have HZP : Hid (atP P (qi : Int) = z) := Lib.hid (by unfold atP; rw [Int.toNat_natCast]; exact HZ.out)
                have HNEXT : Hid (flatS (mixL ms os (q + 1)) = (flatS (mixL ms os q)).set (q * 2 + 1) (.int .i64 z)) := Lib.hid (by
                  rw [HSETQ.out]
                  have h := flatS_set (mixL ms os q) q (qi : Int) z HO2.out
                  rw [← h]
                  show flatS ((mixL ms os q).set q (some (atP P (qi : Int)))) = _
                  rw [HZP.out])
                clear hcP
                go_upto_region 16 with fail
                obtain ⟨be, hbe⟩ : ∃ be, be = wr.heap.size := ⟨_, rfl⟩
                obtain ⟨w9, hw9⟩ : ∃ w9, w9 = wr.alloc (.cells #[.bool false, .int .i64 (qi : Int)] 45) := ⟨_, rfl⟩
                have HB9 : Hid (Below wr.heap.size wr w9) := Lib.hid (by rw [hw9]; exact (Below.refl _ _).alloc (Nat.le_refl _) _)
                have x9 : w9.heap[be]? = some (.cells #[.bool false, .int .i64 (qi : Int)] 45 (0, 0)) := by rw [hw9, hbe]; exact heap_alloc_new wr _
                rw [← hw9, ← hbe]
                have y0 : w9.cell? ⟨be, 0, none⟩ = some (.bool false) := by rw [cell_of_row w9 _ _ _ _ (0, 0) x9]; rfl
                have y1 : w9.cell? ⟨be, 1, none⟩ = some (.int .i64 (qi : Int)) := by rw [cell_of_row w9 _ _ _ _ (0, 0) x9]; rfl
                have y2 := (HB9.out.cell (p := ⟨bP, offP + qi, none⟩) hbP).trans g1
                have y3 := (HB9.out.cell (p := ⟨gO, q * 2 + 1, none⟩) hgO1).trans e2
                have hown9 : w9.ownsRow wf.heap.size 45 2 (.slice (some ⟨gO, 0, none⟩) N cO) N (flatS (mixL ms os q)) := ownsRow_of_heap HO.out (fun g hg => HB9.out.block g (HO.out.lt g hg).2)
                have y4 := frozen_own hown9 (q * 2 + 1)
                have hbP9 : bP < w9.heap.size := by have := HB9.out.size; omega
                have hgO9 : gO < w9.heap.size := by have := HB9.out.size; omega
                have HOWN9 := Lib.hid hown9
                have HF9 : Hid (Foot (fun j => (Value.slice (some ⟨gO, 0, none⟩) N cO).ownBlock = some j) w5 w9) := Lib.hid (HF.out.trans (Foot.of_below HB9.out (fun _ => False)) (fun _ h => h.elim))
                have h0k : decide ((0 : Int) ≤ (qi : Int)) = true := by simp
                have hik : decide ((qi : Int) < (k : Int)) = true := by simp; omega
                clear hw9 x9 hbe e1 e2 HO HF g1 hown9 hbP hgO1
                go_upto_region 18 with fail
                obtain ⟨wz, hwz⟩ : ∃ wz, wz = w9.setCell ⟨gO, q * 2 + 1, none⟩ (.int .i64 z) := ⟨_, rfl⟩
                have HOZ : Hid (wz.ownsRow wf.heap.size 45 2 (.slice (some ⟨gO, 0, none⟩) N cO) N (flatS (mixL ms os (q + 1)))) := Lib.hid (by
                  rw [HNEXT.out, hwz]
                  exact own_putS HOWN9.out _)
                have HFZ2 : Hid (Foot (fun j => (Value.slice (some ⟨gO, 0, none⟩) N cO).ownBlock = some j) w5 wz) := Lib.hid (by
                  rw [hwz]; exact HF9.out.setCell gO _ _ (.inl rfl))
                rw [← hwz]
                clear hwz y0 y1 y2 y3 y4
                go_wp2
                go_roundw
                case rel => exact ⟨q + 1, by omega, by go_num, HOZ, HFZ2⟩
                case measure => simp [intOf]; omega
            · obtain rfl : q = N := by omega
              have HMIX : Hid (mixL ms os q = ms) := Lib.hid (by
                unfold mixL
                rw [List.take_of_length_le (by rw [HML.out, HOL.out]; exact Nat.le_refl _), List.drop_eq_nil_of_le (by rw [HOL.out]; exact Nat.le_refl _), List.append_nil])
              have HOF : Hid (wr.ownsRow wf.heap.size 45 2 (.slice aO q cO) q (flatS ms)) := Lib.hid (by have h := HO.out; rw [HMIX.out] at h; exact h)
              have HRD := Lib.hid (HCYC.out wr HF.out)
              have HBQ : Hid (Below w.heap.size w wr) := Lib.hid (HB5.out.trans (HBR.out.mono hwf))
              have HKIN : Hid (∀ l ∈ cycs S, ∀ i ∈ l, InK k i) := Lib.hid (fun l hl => HIN.out l (List.mem_filter.1 hl).1)
              have hwfr : wf.heap.size ≤ wr.heap.size := Nat.le_trans hwf5 HBR.out.size
              obtain ⟨ls, hls⟩ : ∃ ls, ls = (cycs S).map fun c => c.map (atP P) := ⟨_, rfl⟩
              have HLS := Lib.hid hls
              have HLSL : Hid (ls.length = M) := Lib.hid (by rw [hls, List.length_map]; exact HME.out.symm)
              have HLAT : Hid (∀ (q : Nat) (l : List Int), (cycs S)[q]? = some l → ls.take (q + 1) = ls.take q ++ [l.map (atP P)]) := Lib.hid (fun q l hl => by
                have h : ls[q]? = some (l.map (atP P)) := by rw [hls, List.getElem?_map, hl]; rfl
                obtain ⟨h1, h2⟩ := List.getElem?_eq_some_iff.1 h
                rw [List.take_succ_eq_append_getElem h1, h2])
              obtain ⟨l0, hl0, hz0, hz1, hz2⟩ := info_parts intsSl_info
              have HL0 := Lib.hid (And.intro hl0 (And.intro hz0 (And.intro hz1 hz2)))
              have hMs : M ≤ 500 := by omega
              clear hls HO HF hl0 hz0 hz1 hz2 hlt hq
              obtain ⟨wq, rfl⟩ : ∃ wq : World, wq = wr := ⟨_, rfl⟩
              go_wp2_with fail
              go_loopw [5, 80] (fun v i wx => ∃ (y : Nat) (vs2 : List Value), y ≤ M ∧ i = .int .i64 y ∧ Hid (LolI wx wq.heap.size v vs2 (ls.take y)) ∧ Hid (Below wq.heap.size wq wx)) (fun _ i _ => M - (intOf i).toNat)
              case atStart => exact ⟨0, [], by omega, rfl, Lib.hid (LolG.nil _ _), Lib.hid (Below.refl _ _)⟩
              case round =>
                obtain ⟨y, vs2, hy, rfl, HQ, HBY⟩ := hrel
                have HLN : Hid ((ls.take y).length = y) := Lib.hid (by rw [List.length_take]; have := HLSL.out; omega)
                have hor := HQ.out.row
                rw [HLN.out] at hor
                obtain ⟨a1, c1, rfl⟩ := own_shape' hor
                clear hor
                have hszy := HBY.out.size
                by_cases hlt : y < M
                · obtain ⟨bC, offC, rfl, hbb, hc⟩ := HRD.out.at_ (by omega)
                  obtain ⟨aj, nj, cj, l, HLJ, hcell, hrn⟩ := hc y hlt
                  have hck := (HBY.out.cell (p := ⟨bC, offC + y, none⟩) hbb).trans hcell
                  have hbr : bC < wr.heap.size := by omega
                  have HRN := Lib.hid (hrn.below HBY.out (Nat.le_refl _))
                  have HLK : Hid (∀ i ∈ l, InK k i) := Lib.hid (HKIN.out l (List.mem_of_getElem? HLJ.out))
                  have HNJ : Hid (l.length = nj) := Lib.hid hrn.len
                  have hnjs : nj ≤ 9223372036854775807 := hrn.small
                  have HPI : Hid (RdI wr aP k P) := Lib.hid (HP.out.below (HBQ.out.trans (HBY.out.mono (by omega))) (Nat.le_refl _))
                  obtain ⟨wi, rfl⟩ : ∃ wi : World, wi = wr := ⟨_, rfl⟩
                  clear hc hcell hrn
                  go_wp2_with fail
                  have hnjk : nj ≤ k := by rw [← HNJ.out]; exact HLEN5.out l (List.mem_filter.1 (List.mem_of_getElem? HLJ.out)).1
                  clear hck hbr hbb
                  go_loopw [15, 86] (fun v i wx => ∃ (x : Nat), x ≤ nj ∧ i = .int .i64 x ∧ Hid (wx.ownsRow wi.heap.size 3 1 v x (((l.take x).map (atP P)).map (Value.int .i64))) ∧ Hid (Below wi.heap.size wi wx)) (fun _ i _ => nj - (intOf i).toNat)
                  case atStart => exact ⟨0, Nat.zero_le _, rfl, Lib.hid (World.ownsRow_nil _ _ _ _), Lib.hid (Below.refl _ _)⟩
                  case round =>
                    obtain ⟨x, hx, rfl, HC, HBX⟩ := hrel
                    obtain ⟨a2, c2, rfl⟩ := own_shape' HC.out
                    have hszx := HBX.out.size
                    by_cases hlx : x < nj
                    · obtain ⟨bX, offX, rfl, hbX, hcX⟩ := HRN.out.at_ (by omega)
                      obtain ⟨iv, HIV, g0⟩ := hcX x hlx
                      have g1 := (HBX.out.cell (p := ⟨bX, offX + x, none⟩) hbX).trans g0
                      have hxl : x < l.length := by have := HNJ.out; omega
                      have hiv : l[x] = iv := by have := HIV.out; simpa [List.getD, hxl] using this
                      have hivK := HLK.out iv (by rw [← hiv]; exact List.getElem_mem hxl)
                      obtain ⟨qi, rfl⟩ : ∃ qi : Nat, iv = (qi : Int) := ⟨iv.toNat, by have := hivK.1; omega⟩
                      have hqk : qi < k := by have := hivK.2; omega
                      obtain ⟨bP, offP, rfl, hbP, hcP⟩ := HPI.out.at_ (by omega)
                      obtain ⟨z, HZ, g2⟩ := hcP qi hqk
                      have g3 := (HBX.out.cell (p := ⟨bP, offP + qi, none⟩) hbP).trans g2
                      have hbP2 : bP < wr.heap.size := by omega
                      have hbX2 : bX < wr.heap.size := by omega
                      have HTAKE : Hid (((l.take (x + 1)).map (atP P)).map (Value.int .i64) = ((l.take x).map (atP P)).map (Value.int .i64) ++ [.int .i64 z]) := Lib.hid (by
                        rw [List.take_succ_eq_append_getElem hxl, hiv, List.map_append, List.map_append]
                        have : atP P (qi : Int) = z := by unfold atP; rw [Int.toNat_natCast]; exact HZ.out
                        rw [List.map_singleton, this]; rfl)
                      have h0k : decide ((0 : Int) ≤ (qi : Int)) = true := by simp
                      have hik : decide ((qi : Int) < (k : Int)) = true := by simp; omega
                      obtain ⟨hi0, hz0, hz1, hz2⟩ := HI.out
                      clear hcX hcP g0 g2 hiv hivK hbP hbX
                      go_wp2_with (at_builtin; refine wpList_append_own_at _ rfl _ _ 22 rfl wi.heap.size 3 i0 (.int .i64 0) 1 8 Tryz.underlying22 hi0 hz0 hz1 hz2 rfl (by decide) (.slice a2 x c2) x _ rfl (HC.out.alloc _) ⟨wr.heap.size, 0, none⟩ 1 1 [.int .i64 z] rfl rfl ?u1 ?u2 ?u3 ?u4 ?u5 ?_)
                      case u1 => intro j u hj; match j, hj with | 0, hj => simp at hj; subst hj; simp [Addr.add]
                      case u2 => intro u hu; simp at hu; subst hu; rfl
                      case u3 => unfold maxLen; omega
                      case u4 => omega
                      case u5 => simp; omega
                      intro v' w' hown' hgrow' _ _
                      obtain ⟨a3, c3, rfl⟩ := own_shape' hown'
                      have HC' : Hid (w'.ownsRow wi.heap.size 3 1 (.slice a3 (x + 1) c3) (x + 1) (((l.take (x + 1)).map (atP P)).map (Value.int .i64))) := Lib.hid (by rw [HTAKE.out]; first | exact hown' | (rw [List.map_map, List.map_take]; exact hown'))
                      have HB' : Hid (Below wi.heap.size wi w') := Lib.hid ((HBX.out.alloc hszx _).grown hgrow' (by simp; omega) (fun j hj => (HC.out.lt j hj).1))
                      clear hown' hgrow' g1 g3 hi0 hz0 hz1 hz2
                      go_wp2
                      go_roundw
                      case rel => exact ⟨x + 1, by omega, by go_num, HC', HB'⟩
                      case measure => simp [intOf]; omega
                    · obtain rfl : x = nj := by omega
                      have HCF : Hid (wr.ownsRow wi.heap.size 3 1 (.slice a2 x c2) x ((l.map (atP P)).map (Value.int .i64))) := Lib.hid (by
                        have h := HC.out
                        rw [List.take_of_length_le (by rw [HNJ.out]; exact Nat.le_refl _)] at h
                        exact h)
                      have HL5 : Hid (LolI wr wq.heap.size (.slice a1 y c1) vs2 (ls.take y)) := Lib.hid (HQ.out.of_heap (fun j hj => HBX.out.block j (HQ.out.lt hj).2))
                      obtain ⟨hi0, hz0, hz1, hz2⟩ := HL0.out
                      have hsm : (y + 1) * 24 ≤ 140737488355328 := by omega
                      have HRW : Hid (wr.ownsRow wq.heap.size 22 1 (.slice a1 y c1) y vs2) := Lib.hid (by have h := HL5.out.row; rw [HLN.out] at h; exact h)
                      have HLL : Hid ((l.map (atP P)).length = x) := Lib.hid (by rw [List.length_map]; exact HNJ.out)
                      go_wp2_with (at_builtin; refine wpList_append_own_at _ rfl _ _ 28 rfl wq.heap.size 22 l0 (.slice none 0 0) 1 24 Tryz.underlying28 hi0 hz0 hz1 hz2 rfl (by decide) (.slice a1 y c1) y vs2 rfl (HRW.out.alloc _) ⟨wr.heap.size, 0, none⟩ 1 1 [.slice a2 x c2] rfl rfl ?g1 ?g2 ?g3 ?g4 ?g5 ?_)
                      case g1 => intro j u hj; match j, hj with | 0, hj => simp at hj; subst hj; simp [Addr.add]
                      case g2 => intro u hu; simp at hu; subst hu; rfl
                      case g3 => unfold maxLen; omega
                      case g4 => exact hsm
                      case g5 => simp; omega
                      intro v' w' hown' hgrow _ hloc
                      obtain ⟨a', c', rfl⟩ := own_shape' hown'
                      have hfr : Fresh wr (.slice a1 y c1) (.slice a' (y + 1) c') := hloc.imp id fun h g hg => by rw [h] at hg; have := Option.some.inj hg; omega
                      have HL' : Hid (LolI w' wq.heap.size (.slice a' (y + 1) c') (vs2 ++ [.slice a2 x c2]) (ls.take y ++ [l.map (atP P)])) := Lib.hid
                        (HL5.out.more (by rw [HLL.out]; exact own_lower HCF.out (by omega)) (fun g hg hj => by have h1 := (HCF.out.lt g hg).1; have h2 := (HQ.out.lt hj).2; omega) (by rw [HLN.out]; exact hown') (fun j h1 h2 => by rw [hgrow.block j (by simp; omega) h2]; exact heap_alloc_old _ _ h1) hfr)
                      have HB' : Hid (Below wq.heap.size wq w') := Lib.hid (((HBY.out.trans (HBX.out.mono hszy)).alloc (by omega) _).grown hgrow (by simp; omega) (fun j hj => (HRW.out.lt j hj).1))
                      have HTK := Lib.hid (HLAT.out y l HLJ.out)
                      clear hown' hgrow hfr hloc hi0 hz0 hz1 hz2
                      go_wp2
                      go_roundw
                      case rel => exact ⟨y + 1, _, by omega, by go_num, Lib.hid (by rw [HTK.out]; exact HL'.out), HB'⟩
                      case measure => simp [intOf]; omega
                · obtain rfl : y = M := by omega
                  have HFIN : Hid (SBPost es P w (.returned (.tuple #[.slice aO q cO, .slice a1 y c1])) wr) := Lib.hid (by
                    refine ⟨parts, S, dd, aO, a1, cO, c1, ?_, ?_, HSS.out, by rw [HNE.out, HME.out], ?_, ?_, ?_, HBQ.out.trans (HBY.out.mono (by omega))⟩
                    · rw [HKL.out]; exact HSCC.out
                    · rw [HKL.out]; exact HVR.out
                    · rw [← HNE.out, ← HMS.out]
                      exact (rdS_of_own HOF.out).below HBY.out (Nat.le_refl _)
                    · rw [← HME.out, ← HLS.out]
                      have h := HQ.out
                      rw [List.take_of_length_le (by rw [HLSL.out]; exact Nat.le_refl _)] at h
                      exact LolG.rd h
                    · rw [← HNE.out, HKL.out]; exact hlen)
                  go_wp2
                  refine bodyPost_ret (v := .tuple #[.slice aO q cO, .slice a1 y c1]) (by simp [results, Tryz.results25, go_sem]) rfl ?_
                  exact HFIN.out
end Go.Proofs.YtnfkbjgijelfdaaGreat
