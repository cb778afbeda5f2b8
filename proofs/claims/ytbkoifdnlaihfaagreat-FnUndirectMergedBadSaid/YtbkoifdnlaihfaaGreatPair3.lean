/- The walks of Next and Node of the iterator over two lists of nodes: an iterator. -/
import Derived.Test.YtbkoifdnlaihfaaGreatPair2
namespace Go.Proofs.YtbkoifdnlaihfaaGreat
open Go.RowKit

def PairP (B Bb bn ba bb bm : Nat) (outs ins : List Int) (w : World) (c : Option Int) (l : List Int) : Prop :=
  ∃ (ka kb n : Nat) (curr : Value) (idx cnt : Int), PairSt w B Bb bn ba bb bm ka kb n outs ins curr idx cnt (uniq outs ins) ∧ l = outs.drop ka ++ (ins.drop kb).filter (fun x => decide (x ∉ outs)) ∧ (∀ x, c = some x → curr = nodeV x)

def PairNext (B Bb bn ba bb bm E : Nat) (outs ins l : List Int) (w : World) (e : Ending) (w' : World) : Prop :=
  e = .returned (.bool (!l.isEmpty)) ∧ PairP B Bb bn ba bb bm outs ins w' l.head? l.tail ∧ Within B E w w'

theorem drop_filter_hit (outs ins : List Int) (k : Nat) (hk : k < ins.length) (h : ins.getD k 0 ∉ outs) : (ins.drop k).filter (fun x => decide (x ∉ outs)) = ins.getD k 0 :: (ins.drop (k + 1)).filter (fun x => decide (x ∉ outs)) := by
  have e : ins.getD k 0 = ins[k] := by simp [List.getD, hk]
  rw [e] at h ⊢
  rw [List.drop_eq_getElem_cons hk, List.filter_cons_of_pos (by simpa using h)]
theorem drop_filter_miss (outs ins : List Int) (k : Nat) (hk : k < ins.length) (h : ins.getD k 0 ∈ outs) : (ins.drop k).filter (fun x => decide (x ∉ outs)) = (ins.drop (k + 1)).filter (fun x => decide (x ∉ outs)) := by
  have e : ins.getD k 0 = ins[k] := by simp [List.getD, hk]
  rw [e] at h
  rw [List.drop_eq_getElem_cons hk, List.filter_cons_of_neg (by simpa using h)]

set_option maxHeartbeats 4000000 in
set_option maxRecDepth 100000 in
theorem pairNext_calls (B Bb bn ba bb bm E : Nat) (outs ins l : List Int) (c : Option Int) (w : World) (h : PairP B Bb bn ba bb bm outs ins w c l) (hE : bn < E) (hwi : ∀ x ∈ ins, (Lit.int .i64 x).wf = true) :
    Calls Tryz.prog 286 #[.pointer (some ⟨bn, 0, none⟩)] w (PairNext B Bb bn ba bb bm E outs ins l w) := by
  obtain ⟨ka, kb, n, curr, idx, cnt, hp, hl, _⟩ := h
  have HP := Lib.hid hp; have HWI := Lib.hid hwi; have HL := Lib.hid hl
  obtain ⟨o1, o2, o3, o4⟩ := hp.ord
  obtain ⟨q0, q1, q2, q3, q4, q5⟩ := hp.blk.cells
  have hbB : B ≤ ba := by obtain ⟨a, c, _, _, h, _⟩ := hp.ia; exact h
  have hbB2 : Bb ≤ bb := by obtain ⟨a, c, _, _, h, _⟩ := hp.ib; exact h
  have hla := hp.ia.lt
  clear hp hwi hl
  unfold iterV at q0 q1
  have m1 := oi_mNext; have m2 := oi_aNext; have m3 := oi_mNode; have m4 := oi_aNode; have m7 := method_ID
  go_enter Tryz.func286, Tryz.ntmps286
  go_wp2_with fail
  refine (next_calls B ba ka outs w HP.out.ia).mono ?_
  rintro e w1 ⟨rfl, hit, hon⟩
  have HW1 := Lib.hid (Within.only hon hbB (show ba < E by omega) hla)
  by_cases hlt : ka < outs.length
  · rw [if_pos hlt] at hit
    have hd : decide (ka < outs.length) = true := by simpa using hlt
    have HP1 := Lib.hid (HP.out.nextA hit hon)
    clear hit hon q0 q1 q2 q3 q4 q5
    obtain ⟨q0, q1, q2, q3, q4, q5⟩ := HP1.out.blk.cells
    have f3 := HP1.out.blk.free 3
    unfold iterV at q0 q1
    rw [hd]
    clear hd
    go_wp2_with fail
    obtain ⟨y, HY⟩ : ∃ y, Hid (outs.getD ka 0 = y) := ⟨_, Lib.hid rfl⟩
    obtain ⟨w2, hw2⟩ : ∃ w2, w2 = w1.setCell ⟨bn, 3, none⟩ (.int .i64 (wrap64 (idx + 1))) := ⟨_, rfl⟩
    have HP2 : Hid (PairSt w2 B Bb bn ba bb bm (ka + 1) kb n outs ins curr (wrap64 (idx + 1)) cnt (uniq outs ins)) := by
      rw [hw2]; exact HP1.out.stored (HP1.out.blk.set3 _) (grownBy_setCell _ _ _ _)
    have HW2 : Hid (Within B E w w2) := by
      rw [hw2]; exact HW1.out.trans (Within.only (grownBy_setCell _ _ _ _) (by omega) hE HP1.out.blk.lt)
    rw [← hw2]
    clear hw2 q0 q1 q2 q3 q4 q5 f3 HP1 HW1
    obtain ⟨q0, q1, q2, q3, q4, q5⟩ := HP2.out.blk.cells
    have f2 := HP2.out.blk.free 2
    refine (nodeOfY B ba ka outs y w2 HP2.out.ia hlt HY.out).mono ?_
    rintro e w3 ⟨rfl, q, rfl⟩
    go_wp2_with fail
    go_ret
    have e1 : l = y :: (outs.drop (ka + 1) ++ (ins.drop kb).filter (fun x => decide (x ∉ outs))) := by
      rw [HL.out, List.drop_eq_getElem_cons hlt, ← HY.out, show outs.getD ka 0 = outs[ka] by simp [List.getD, hlt]]; rfl
    refine ⟨by rw [e1]; rfl, ⟨ka + 1, kb, n, nodeV y, _, cnt, (HP2.out.drewN q).stored ((HP2.out.drewN q).blk.set2 _) (grownBy_setCell _ _ _ _), by rw [e1]; rfl, fun x hx => ?_⟩, HW2.out.trans ((Within.drewN B E w2 q).trans (Within.only (grownBy_setCell _ _ _ _) (by omega) hE HP2.out.blk.lt))⟩
    rw [e1] at hx
    cases hx; rfl
  · rw [if_neg hlt] at hit
    have hd : decide (ka < outs.length) = false := by simpa using hlt
    have HP1 := Lib.hid (HP.out.nextA hit hon)
    have HL1 : Hid (l = (ins.drop kb).filter (fun x => decide (x ∉ outs))) := by
      have := HL.out
      rw [List.drop_of_length_le (by omega)] at this
      exact Lib.hid this
    clear hit hon q0 q1 q2 q3 q4 q5 HL HP
    rw [hd]
    clear hd
    go_wp2_with fail
    go_loopg [] (ins.length + 2 - kb) (fun g wr => ∃ (k : Nat), g + k = ins.length + 2 ∧ k ≤ ins.length + 1 ∧ l = (ins.drop k).filter (fun x => decide (x ∉ outs)) ∧ PairSt wr B Bb bn ba bb bm (outs.length + 1) k n outs ins curr idx cnt (uniq outs ins) ∧ Within B E w wr)
    case atStart => 
      have hkb : kb ≤ ins.length + 1 := by obtain ⟨_, _, _, _, _, _, h, _⟩ := HP1.out.ib; exact h
      exact ⟨kb, by omega, hkb, HL1.out, HP1.out, HW1.out⟩
    case round =>
      obtain ⟨k, hg, hk, hl, hp, hw⟩ := hrel
      have HP := Lib.hid hp; have HW := Lib.hid hw; have HL := Lib.hid hl
      obtain ⟨q0, q1, q2, q3, q4, q5⟩ := hp.blk.cells
      have hlb := hp.ib.lt
      clear hp hw hl HP1 HW1 HL1
      unfold iterV at q0 q1
      go_wp2_with fail
      refine (next_calls Bb bb k ins wr HP.out.ib).mono ?_
      rintro e w2 ⟨rfl, hit, hon⟩
      have HW2 := Lib.hid (HW.out.trans (Within.only hon (show B ≤ bb by omega) (show bb < E by omega) hlb))
      by_cases hlk : k < ins.length
      · rw [if_pos hlk] at hit
        have hd : decide (k < ins.length) = true := by simpa using hlk
        have HP2 := Lib.hid (HP.out.nextB hit hon)
        clear hit hon q0 q1 q2 q3 q4 q5 HP HW
        obtain ⟨q0, q1, q2, q3, q4, q5⟩ := HP2.out.blk.cells
        unfold iterV at q0 q1
        rw [hd]
        clear hd
        obtain ⟨y, HY⟩ : ∃ y, Hid (ins.getD k 0 = y) := ⟨_, Lib.hid rfl⟩
        have hyi : y ∈ ins := by rw [← HY.out]; simp [List.getD, hlk]
        have hwf : (Lit.int .i64 y).wf = true := HWI.out y hyi
        by_cases hyo : y ∈ outs
        · have hlook : ∀ m, (Instr.lookup 300 (.map (some bm)) (.int .i64 y) false).run Tryz.prog (w2.drewN m) = .ok (.bool false) (w2.drewN m) := fun m => by
            have := (HP2.out.drewN m).map.look (t := 300) Tryz.underlying2 Tryz.underlying300 (zero_bool _) hwf
            rw [this]; unfold uniq; rw [if_pos hyo]; rfl
          have HL2 : Hid (l = (ins.drop (k + 1)).filter (fun x => decide (x ∉ outs))) := by
            rw [HL.out, drop_filter_miss outs ins k hlk (by rw [HY.out]; exact hyo)]; exact Lib.hid rfl |>.out
          clear hyi HL
          go_wp2_with fail
          go_quiet (first
            | (go_at_call 282; exact Calls.quiet_of (nodeOfY Bb bb k ins y _ ((HP2.out.drewN _).ib) hlk HY.out))
            | (go_at_call 267; exact Calls.quiet_of_same ((nodeID_calls _ _).mono (fun _ _ h => ⟨h.1, h.2.symm⟩))))
          go_wp2
          go_roundg (gk - 1)
          case measure => omega
          case rel => exact ⟨k + 1, by omega, by omega, HL2.out, HP2.out.drewN nq, HW2.out.trans (Within.drewN B E w2 nq)⟩
        · have hlook : ∀ m, (Instr.lookup 300 (.map (some bm)) (.int .i64 y) false).run Tryz.prog (w2.drewN m) = .ok (.bool true) (w2.drewN m) := fun m => by
            have := (HP2.out.drewN m).map.look (t := 300) Tryz.underlying2 Tryz.underlying300 (zero_bool _) hwf
            rw [this]; unfold uniq; rw [if_neg hyo, if_pos hyi]; rfl
          have HL2 : Hid (l = y :: (ins.drop (k + 1)).filter (fun x => decide (x ∉ outs))) := by
            rw [HL.out, drop_filter_hit outs ins k hlk (by rw [HY.out]; exact hyo), HY.out]; exact Lib.hid rfl |>.out
          clear hyi HL
          go_wp2_with fail
          go_quiet (first
            | (go_at_call 282; exact Calls.quiet_of (nodeOfY Bb bb k ins y _ ((HP2.out.drewN _).ib) hlk HY.out))
            | (go_at_call 267; exact Calls.quiet_of_same ((nodeID_calls _ _).mono (fun _ _ h => ⟨h.1, h.2.symm⟩))))
          obtain ⟨w3, hw3⟩ : ∃ w3, w3 = w2.drewN nq := ⟨_, rfl⟩
          have HP3 : Hid (PairSt w3 B Bb bn ba bb bm (outs.length + 1) (k + 1) n outs ins curr idx cnt (uniq outs ins)) := by rw [hw3]; exact HP2.out.drewN nq
          have HW3 : Hid (Within B E w w3) := by rw [hw3]; exact HW2.out.trans (Within.drewN B E w2 nq)
          rw [← hw3]
          clear hw3 hlook HP2 HW2 q0 q1 q2 q3 q4 q5
          obtain ⟨q0, q1, q2, q3, q4, q5⟩ := HP3.out.blk.cells
          have f3 := HP3.out.blk.free 3
          unfold iterV at q0 q1
          go_wp2_with fail
          obtain ⟨w4, hw4⟩ : ∃ w4, w4 = w3.setCell ⟨bn, 3, none⟩ (.int .i64 (wrap64 (idx + 1))) := ⟨_, rfl⟩
          have HP4 : Hid (PairSt w4 B Bb bn ba bb bm (outs.length + 1) (k + 1) n outs ins curr (wrap64 (idx + 1)) cnt (uniq outs ins)) := by
            rw [hw4]; exact HP3.out.stored (HP3.out.blk.set3 _) (grownBy_setCell _ _ _ _)
          have HW4 : Hid (Within B E w w4) := by
            rw [hw4]; exact HW3.out.trans (Within.only (grownBy_setCell _ _ _ _) (by omega) hE HP3.out.blk.lt)
          rw [← hw4]
          clear hw4 q0 q1 q2 q3 q4 q5 f3 HP3 HW3
          obtain ⟨q0, q1, q2, q3, q4, q5⟩ := HP4.out.blk.cells
          have f2 := HP4.out.blk.free 2
          refine (nodeOfY Bb bb k ins y w4 HP4.out.ib hlk HY.out).mono ?_
          rintro e w5 ⟨rfl, q, rfl⟩
          go_wp2_with fail
          go_ret
          have e1 := HL2.out
          refine ⟨by rw [e1]; rfl, ⟨outs.length + 1, k + 1, n, nodeV y, _, cnt, (HP4.out.drewN q).stored ((HP4.out.drewN q).blk.set2 _) (grownBy_setCell _ _ _ _), ?_, fun x hx => ?_⟩, HW4.out.trans ((Within.drewN B E w4 q).trans (Within.only (grownBy_setCell _ _ _ _) (by omega) hE HP4.out.blk.lt))⟩
          · rw [e1, show outs.drop (outs.length + 1) = [] from List.drop_of_length_le (by omega)]; rfl
          · rw [e1] at hx
            cases hx; rfl
      · rw [if_neg hlk] at hit
        have hd : decide (k < ins.length) = false := by simpa using hlk
        have HP2 := Lib.hid (HP.out.nextB hit hon)
        have HL2 : Hid (l = []) := by rw [HL.out, List.drop_of_length_le (by omega)]; exact Lib.hid rfl |>.out
        clear hit hon q0 q1 q2 q3 q4 q5 HP HW HL
        obtain ⟨q0, q1, q2, q3, q4, q5⟩ := HP2.out.blk.cells
        have f2 := HP2.out.blk.free 2
        unfold iterV at q0 q1
        rw [hd]
        clear hd
        go_wp2_with fail
        go_ret
        have e1 := HL2.out
        refine ⟨by rw [e1]; rfl, ⟨outs.length + 1, ins.length + 1, n, .nilIface, idx, cnt, HP2.out.stored (HP2.out.blk.set2 _) (grownBy_setCell _ _ _ _), ?_, fun x hx => by rw [e1] at hx; cases hx⟩, HW2.out.trans (Within.only (grownBy_setCell _ _ _ _) (by omega) hE HP2.out.blk.lt)⟩
        rw [e1, show outs.drop (outs.length + 1) = [] from List.drop_of_length_le (by omega), show ins.drop (ins.length + 1) = [] from List.drop_of_length_le (by omega)]; rfl
end Go.Proofs.YtbkoifdnlaihfaaGreat
