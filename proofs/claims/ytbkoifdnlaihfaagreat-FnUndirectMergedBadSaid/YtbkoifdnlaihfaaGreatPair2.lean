/- The walk of newNodeIteratorPair. -/
import Derived.Test.YtbkoifdnlaihfaaGreatPair
import Derived.Deep.LoopGhost
import Derived.Deep.DeepCutAuto
namespace Go.Proofs.YtbkoifdnlaihfaaGreat
open Go.RowKit

theorem oi_mNext (a : Addr) (w : World) : (method 408 290 (.pointer (some a)) "Next").run Tryz.prog w = .ok (281, .pointer (some a)) w := by kernel_rfl
theorem oi_aNext (a : Addr) (w : World) : (nilAhead 408 290 (.pointer (some a)) "Next").run Tryz.prog w = .ok (some false) w := by kernel_rfl
theorem oi_mNode (a : Addr) (w : World) : (method 408 290 (.pointer (some a)) "Node").run Tryz.prog w = .ok (282, .pointer (some a)) w := by kernel_rfl
theorem oi_aNode (a : Addr) (w : World) : (nilAhead 408 290 (.pointer (some a)) "Node").run Tryz.prog w = .ok (some false) w := by kernel_rfl
theorem oi_mReset (a : Addr) (w : World) : (method 408 290 (.pointer (some a)) "Reset").run Tryz.prog w = .ok (284, .pointer (some a)) w := by kernel_rfl
theorem oi_aReset (a : Addr) (w : World) : (nilAhead 408 290 (.pointer (some a)) "Reset").run Tryz.prog w = .ok (some false) w := by kernel_rfl

theorem zero_bool (w : World) : (zeroValue 4).run Tryz.prog w = .ok (.bool false) w := by kernel_rfl

theorem nodeOfY (B bi k : Nat) (ns : List Int) (y : Int) (w : World) (h : ItSt w B bi (k + 1) ns) (hk : k < ns.length) (hy : ns.getD k 0 = y) :
    Calls Tryz.prog 282 #[.pointer (some ⟨bi, 0, none⟩)] w fun e w' => e = .returned (.iface 133 (.int .i64 y)) ∧ ∃ q, w' = w.drewN q :=
  (nodeOf_calls B bi k ns w h hk).mono fun e w' ⟨h1, h2⟩ => ⟨by rw [h1, hy]; rfl, h2⟩

theorem mem_take_succ (l : List Int) (k : Nat) (hk : k < l.length) (x : Int) : x ∈ l.take (k + 1) ↔ x = l.getD k 0 ∨ x ∈ l.take k := by
  have e : l.getD k 0 = l[k] := by simp [List.getD, hk]
  rw [e, List.take_succ_eq_append_getElem hk, List.mem_append, List.mem_singleton]
  exact Or.comm

theorem uniq_ins (ins : List Int) (k : Nat) (hk : k < ins.length) (x : Int) : uniq [] (ins.take (k + 1)) x = upd (uniq [] (ins.take k)) (ins.getD k 0) (.bool true) x := by
  unfold uniq upd
  simp only [List.not_mem_nil, if_false]
  by_cases h2 : x = ins.getD k 0
  · rw [if_pos ((mem_take_succ ins k hk x).2 (.inl h2)), if_pos h2]
  · rw [if_neg h2]
    by_cases h3 : x ∈ ins.take k
    · rw [if_pos h3, if_pos ((mem_take_succ ins k hk x).2 (.inr h3))]
    · rw [if_neg h3, if_neg (fun h => ((mem_take_succ ins k hk x).1 h).elim h2 h3)]

theorem uniq_outs (outs ins : List Int) (k : Nat) (hk : k < outs.length) (x : Int) : uniq (outs.take (k + 1)) ins x = upd (uniq (outs.take k) ins) (outs.getD k 0) (.bool false) x := by
  unfold uniq upd
  dsimp only
  by_cases h2 : x = outs.getD k 0
  · rw [if_pos ((mem_take_succ outs k hk x).2 (.inl h2)), if_pos h2]
  · rw [if_neg h2]
    by_cases h3 : x ∈ outs.take k
    · rw [if_pos h3, if_pos ((mem_take_succ outs k hk x).2 (.inr h3))]
    · rw [if_neg h3, if_neg (fun h => ((mem_take_succ outs k hk x).1 h).elim h2 h3)]

def NewPair (B Bb ba bb : Nat) (outs ins : List Int) (w : World) (e : Ending) (w' : World) : Prop :=
  ∃ bn bm n : Nat, ∃ cnt : Int, e = .returned (.pointer (some ⟨bn, 0, none⟩)) ∧ PairSt w' B Bb bn ba bb bm 0 0 n outs ins .nilIface 0 cnt (uniq outs ins) ∧ Below B w w'

set_option maxHeartbeats 4000000 in
set_option maxRecDepth 100000 in
theorem newPair_calls (B Bb ba bb : Nat) (outs ins : List Int) (w : World) (ha : ItSt w B ba 0 outs) (hb : ItSt w Bb bb 0 ins) (ho : ba < Bb) (hwo : ∀ x ∈ outs, (Lit.int .i64 x).wf = true) (hwi : ∀ x ∈ ins, (Lit.int .i64 x).wf = true) :
    Calls Tryz.prog 252 #[iterV ba, iterV bb] w (NewPair B Bb ba bb outs ins w) := by
  have HA := Lib.hid ha; have HBB := Lib.hid hb; have HWO := Lib.hid hwo; have HWI := Lib.hid hwi
  have hba := ha.lt; have hbb := hb.lt
  have hbB : B ≤ ba := by obtain ⟨a, c, _, _, h, _⟩ := ha; exact h
  have hbB2 : Bb ≤ bb := by obtain ⟨a, c, _, _, h, _⟩ := hb; exact h
  have HLA : outs.length ≤ 1000000 := by obtain ⟨a, c, _, _, _, _, _, h⟩ := ha; exact h
  have HLB : ins.length ≤ 1000000 := by obtain ⟨a, c, _, _, _, _, _, h⟩ := hb; exact h
  clear ha hb hwo hwi
  have m1 := oi_mNext; have m2 := oi_aNext; have m3 := oi_mNode; have m4 := oi_aNode; have m5 := oi_mReset; have m6 := oi_aReset; have m7 := method_ID
  have hmm := @run_makeMap Tryz.prog
  unfold iterV
  go_enter Tryz.func252, Tryz.ntmps252
  go_wp2_with fail
  go_loopg [] (ins.length + 1) (fun g wr => ∃ (kb : Nat) (cnt : Int), g + kb = ins.length + 1 ∧ kb ≤ ins.length ∧ 0 ≤ cnt ∧ cnt ≤ kb ∧ PairSt wr B Bb (w.heap.size + 1) ba bb w.heap.size 0 kb kb outs ins .nilIface 0 cnt (uniq [] (ins.take kb)) ∧ Below B w wr)
  case atStart =>
    have hgm := (GM.made w Tryz.prog 2).alloc (.cells #[iterV ba, iterV bb, .nilIface, .int .i64 0, .int .i64 0, .map (some w.heap.size)] 302)
    have hbel : Below w.heap.size w ((w.alloc (.map #[] 0)).alloc (.cells #[iterV ba, iterV bb, .nilIface, .int .i64 0, .int .i64 0, .map (some w.heap.size)] 302)) := ((Below.refl _ _).alloc (Nat.le_refl _) _).alloc (by simp) _
    refine ⟨0, 0, by omega, by omega, by omega, by omega, ⟨?_, HA.out.later hbel, HBB.out.later hbel, hgm.congr (fun x => by simp [uniq]), by omega, by omega, by omega, by omega⟩, hbel.mono (by omega)⟩
    have := heap_alloc_new (w.alloc (.map #[] 0)) (.cells #[iterV ba, iterV bb, .nilIface, .int .i64 0, .int .i64 0, .map (some w.heap.size)] 302)
    unfold PairBlk iterV
    unfold iterV at this
    simpa using this
  case round =>
    obtain ⟨kb, cnt, hg, hkb, hc0, hc1, hp, hbel⟩ := hrel
    have HP := Lib.hid hp; have HB := Lib.hid hbel
    obtain ⟨q0, q1, q2, q3, q4, q5⟩ := hp.blk.cells
    have hsz := hbel.size
    clear hp hbel
    unfold iterV at q0 q1
    by_cases hlt : kb < ins.length
    · go_wp2_with fail
      refine (next_calls Bb bb kb ins wr HP.out.ib).mono ?_
      rintro e w1 ⟨rfl, hit, hon⟩
      rw [if_pos hlt] at hit
      have hd : decide (kb < ins.length) = true := by simpa using hlt
      have HP1 := Lib.hid (HP.out.nextB hit hon)
      have HB1 := Lib.hid (HB.out.grown hon (by omega) (fun j hj => by cases hj; omega))
      clear hit hon q0 q1 q2 q3 q4 q5
      obtain ⟨q0, q1, q2, q3, q4, q5⟩ := HP1.out.blk.cells
      unfold iterV at q0 q1
      have hs6 : w.heap.size + 2 ≤ w1.heap.size := by have := HP1.out.blk.lt; omega
      obtain ⟨y, HY⟩ : ∃ y, Hid (ins.getD kb 0 = y) := ⟨_, Lib.hid rfl⟩
      have hwf : (Lit.int .i64 y).wf = true := HWI.out y (by rw [← HY.out]; simp [List.getD, hlt])
      obtain ⟨W, hW⟩ := HP1.out.map.sets (t := 300) Tryz.underlying2 Tryz.underlying300 (by unfold maxLen; omega) hwf (.bool true)
      have hset := fun m => (hW m).1
      have HGM := Lib.hid (fun m => (hW m).2)
      have k5 := grownBy_cells (fun m => (hW m).2.2) q5 (by omega)
      have k1 := grownBy_cells (fun m => (hW m).2.2) q1 (by omega)
      have KK := Lib.hid (fun m => And.intro (k5 m) (k1 m))
      clear hW k5 k1
      go_wp2_with fail
      go_region_held3 (fun w' => w'.cell? ⟨w.heap.size + 1, 5, none⟩ = some (.map (some w.heap.size)) ∧ w'.cell? ⟨w.heap.size + 1, 1, none⟩ = some (.iface 290 (.pointer (some ⟨bb, 0, none⟩))))
        (first | go_keep | exact KK.out _)
        (first
          | (go_at_call 282; refine (nodeOfY Bb bb kb ins y _ (HP1.out.drewN 1).ib hlt HY.out).mono ?_; rintro e w2 ⟨rfl, q, rfl⟩)
          | (go_at_call 267; refine (nodeID_calls _ _).mono ?_; rintro e w3 ⟨rfl, rfl⟩))
      obtain ⟨w5, hw5⟩ : ∃ w5, w5 = W (1 + q) := ⟨_, rfl⟩
      rw [← hw5]
      obtain ⟨hgm, hgw⟩ := HGM.out (1 + q)
      rw [← hw5] at hgm hgw
      clear hw5 hset HGM KK
      have hg5 := hgw
      have HP5 := Lib.hid (HP1.out.mapped (hgm.congr (fun x => (uniq_ins ins kb hlt x).trans (by rw [HY.out]))) hg5)
      have HB5 := Lib.hid (HB1.out.grown hg5 (by have := HB1.out.size; omega) (fun j hj => by cases hj; omega))
      clear hgm hgw hg5 q0 q1 q2 q3 q4 q5
      obtain ⟨q0, q1, q2, q3, q4, q5⟩ := HP5.out.blk.cells
      have f4 := HP5.out.blk.free 4
      have hcw : cnt + 1 ≤ 1000001 := by omega
      go_wp2
      go_roundg (gk - 1)
      case measure => omega
      case rel =>
        refine ⟨kb + 1, cnt + 1, by omega, by omega, by omega, by omega, HP5.out.stored (HP5.out.blk.set4 _) (grownBy_setCell _ _ _ _), HB5.out.grown (grownBy_setCell _ _ _ _) (by have := HB5.out.size; omega) (fun j hj => by cases hj; omega)⟩
    · obtain rfl : kb = ins.length := by omega
      go_wp2_with fail
      refine (next_calls Bb bb ins.length ins wr HP.out.ib).mono ?_
      rintro e w1 ⟨rfl, hit, hon⟩
      rw [if_neg hlt] at hit
      have hd : decide (ins.length < ins.length) = false := by simp
      have HP1 := Lib.hid (HP.out.nextB hit hon)
      have HB1 := Lib.hid (HB.out.grown hon (by omega) (fun j hj => by cases hj; omega))
      have hs1 := hon.size
      clear hit hon q0 q1 q2 q3 q4 q5 hlt
      obtain ⟨q0, q1, q2, q3, q4, q5⟩ := HP1.out.blk.cells
      unfold iterV at q0 q1
      rw [hd]
      clear hd
      go_wp2_with fail
      refine (reset_calls Bb bb _ ins w1 HP1.out.ib).mono ?_
      rintro e w2 ⟨rfl, hit, hon⟩
      have HP2 : Hid (PairSt w2 B Bb (w.heap.size + 1) ba bb w.heap.size 0 0 ins.length outs ins .nilIface 0 cnt (uniq (outs.take 0) ins)) := by
        have := HP1.out.nextB hit hon
        rw [List.take_length] at this
        exact Lib.hid this
      have HB2 := Lib.hid (HB1.out.grown hon (by omega) (fun j hj => by cases hj; omega))
      have hs2 := hon.size
      clear hit hon q0 q1 q2 q3 q4 q5 HP HB HP1 HB1
      go_wp2_with fail
      go_loopg [] (outs.length + 1) (fun g wx => ∃ (ka : Nat) (cnt : Int), g + ka = outs.length + 1 ∧ ka ≤ outs.length ∧ 0 ≤ cnt ∧ cnt ≤ ((ins.length + ka : Nat) : Int) ∧ PairSt wx B Bb (w.heap.size + 1) ba bb w.heap.size ka 0 (ins.length + ka) outs ins .nilIface 0 cnt (uniq (outs.take ka) ins) ∧ Below B w wx)
      case atStart => exact ⟨0, cnt, by omega, by omega, hc0, by omega, HP2.out, HB2.out⟩
      case round =>
        clear HP2 HB2
        obtain ⟨ka, cnt2, hg2, hka, hc2, hc3, hp, hbel⟩ := hrel
        have HP := Lib.hid hp; have HB := Lib.hid hbel
        obtain ⟨q0, q1, q2, q3, q4, q5⟩ := hp.blk.cells
        have hsx := hbel.size
        clear hp hbel
        unfold iterV at q0 q1
        by_cases hlt : ka < outs.length
        · go_wp2_with fail
          refine (next_calls B ba ka outs wr HP.out.ia).mono ?_
          rintro e w3 ⟨rfl, hit, hon⟩
          rw [if_pos hlt] at hit
          have hd : decide (ka < outs.length) = true := by simpa using hlt
          have HP1 := Lib.hid (HP.out.nextA hit hon)
          have HB1 := Lib.hid (HB.out.grown hon (by omega) (fun j hj => by cases hj; omega))
          have hs3 := hon.size
          clear hit hon q0 q1 q2 q3 q4 q5
          obtain ⟨q0, q1, q2, q3, q4, q5⟩ := HP1.out.blk.cells
          unfold iterV at q0 q1
          obtain ⟨y, HY⟩ : ∃ y, Hid (outs.getD ka 0 = y) := ⟨_, Lib.hid rfl⟩
          have hwf : (Lit.int .i64 y).wf = true := HWO.out y (by rw [← HY.out]; simp [List.getD, hlt])
          rw [hd]
          clear hd
          obtain ⟨bv, HBV⟩ : ∃ bv : Bool, Hid ((uniq (outs.take ka) ins y).isSome = bv) := ⟨_, Lib.hid rfl⟩
          obtain ⟨vv, HVV⟩ : ∃ vv : Value, Hid ((uniq (outs.take ka) ins y).getD (.bool false) = vv) := ⟨_, Lib.hid rfl⟩
          have hlook : ∀ m, (Instr.lookup 300 (.map (some w.heap.size)) (.int .i64 y) true).run Tryz.prog (w3.drewN m) = .ok (.tuple #[vv, .bool bv]) (w3.drewN m) := fun m => by
            rw [← HVV.out, ← HBV.out]
            exact (HP1.out.drewN m).map.look_ok Tryz.underlying2 Tryz.underlying300 (zero_bool _) hwf
          go_wp2_with fail
          go_quiet (first
            | (go_at_call 282; exact Calls.quiet_of (nodeOfY B ba ka outs y _ ((HP1.out.drewN _).ia) hlt HY.out))
            | (go_at_call 267; exact Calls.quiet_of_same ((nodeID_calls _ _).mono (fun _ _ h => ⟨h.1, h.2.symm⟩))))
          obtain ⟨w4, hw4⟩ : ∃ w4, w4 = w3.drewN nq := ⟨_, rfl⟩
          have HP4 : Hid (PairSt w4 B Bb (w.heap.size + 1) ba bb w.heap.size (ka + 1) 0 (ins.length + ka) outs ins .nilIface 0 cnt2 (uniq (outs.take ka) ins)) := by rw [hw4]; exact HP1.out.drewN nq
          have HB4 : Hid (Below B w w4) := by rw [hw4]; exact below_drewN HB1.out nq
          rw [← hw4]
          clear hw4 hlook HP1 HB1 HP HB q0 q1 q2 q3 q4 q5
          have hcw : cnt2 + 1 ≤ 3000000 := by omega
          cases bv
          · obtain ⟨q0, q1, q2, q3, q4, q5⟩ := HP4.out.blk.cells
            have f4 := HP4.out.blk.free 4
            go_wp2_with fail
            obtain ⟨w6, hw6⟩ : ∃ w6, w6 = w4.setCell ⟨w.heap.size + 1, 4, none⟩ (.int .i64 (cnt2 + 1)) := ⟨_, rfl⟩
            have HP6' : Hid (PairSt w6 B Bb (w.heap.size + 1) ba bb w.heap.size (ka + 1) 0 (ins.length + ka) outs ins .nilIface 0 (cnt2 + 1) (uniq (outs.take ka) ins)) := by
              rw [hw6]; exact HP4.out.stored (HP4.out.blk.set4 _) (grownBy_setCell _ _ _ _)
            have HB6' : Hid (Below B w w6) := by
              rw [hw6]; exact HB4.out.grown (grownBy_setCell _ _ _ _) (by have := HB4.out.size; omega) (fun j hj => by cases hj; omega)
            rw [← hw6]
            clear hw6 HP4 HB4 q0 q1 q2 q3 q4 q5 f4
            have HP6 : Hid (PairSt w6 B Bb (w.heap.size + 1) ba bb w.heap.size (ka + 1) 0 (ins.length + ka) outs ins .nilIface 0 (cnt2 + 1) (uniq (outs.take ka) ins)) := HP6'
            have HB6 : Hid (Below B w w6) := HB6'
            have hs6 : w.heap.size + 2 ≤ w6.heap.size := by have := HP6.out.blk.lt; omega
            clear HP6' HB6'
            obtain ⟨q0, q1, q2, q3, q4, q5⟩ := HP6.out.blk.cells
            unfold iterV at q0 q1
            obtain ⟨W, hW⟩ := HP6.out.map.sets (t := 300) Tryz.underlying2 Tryz.underlying300 (by unfold maxLen; omega) hwf (.bool false)
            have hset := fun m => (hW m).1
            have HGM := Lib.hid (fun m => (hW m).2)
            have k5 := grownBy_cells (fun m => (hW m).2.2) q5 (by omega)
            have k0 := grownBy_cells (fun m => (hW m).2.2) q0 (by omega)
            have KK := Lib.hid (fun m => And.intro (k5 m) (k0 m))
            clear hW k5 k0
            go_region_held3  (fun w' => w'.cell? ⟨w.heap.size + 1, 5, none⟩ = some (.map (some w.heap.size)) ∧ w'.cell? ⟨w.heap.size + 1, 0, none⟩ = some (.iface 290 (.pointer (some ⟨ba, 0, none⟩))))
              (first | go_keep | exact KK.out _)
              (first
                | (go_at_call 282; refine (nodeOfY B ba ka outs y _ (HP6.out.drewN 1).ia hlt HY.out).mono ?_; rintro e w7 ⟨rfl, q, rfl⟩)
                | (go_at_call 267; refine (nodeID_calls _ _).mono ?_; rintro e w8 ⟨rfl, rfl⟩))
            obtain ⟨w9, hw9⟩ : ∃ w9, w9 = W (1 + q) := ⟨_, rfl⟩
            rw [← hw9]
            obtain ⟨hgm, hgw⟩ := HGM.out (1 + q)
            rw [← hw9] at hgm hgw
            clear hw9 hset HGM KK
            have hg9 := hgw
            have HP9 := Lib.hid (HP6.out.mapped (hgm.congr (fun x => (uniq_outs outs ins ka hlt x).trans (by rw [HY.out]))) hg9)
            have HB9 := Lib.hid (HB6.out.grown hg9 (by omega) (fun j hj => by cases hj; omega))
            clear hgm hgw hg9 q0 q1 q2 q3 q4 q5
            go_wp2
            go_roundg (gk - 1)
            case measure => omega
            case rel => exact ⟨ka + 1, cnt2 + 1, by omega, by omega, by omega, by omega, HP9.out, HB9.out⟩
          · go_wp2_with fail
            obtain ⟨w6, rfl⟩ : ∃ w6, w6 = w4 := ⟨_, rfl⟩
            have HP6' := HP4
            have HB6' := HB4
            clear HP4 HB4
            have HP6 : Hid (PairSt w6 B Bb (w.heap.size + 1) ba bb w.heap.size (ka + 1) 0 (ins.length + ka) outs ins .nilIface 0 (cnt2) (uniq (outs.take ka) ins)) := HP6'
            have HB6 : Hid (Below B w w6) := HB6'
            have hs6 : w.heap.size + 2 ≤ w6.heap.size := by have := HP6.out.blk.lt; omega
            clear HP6' HB6'
            obtain ⟨q0, q1, q2, q3, q4, q5⟩ := HP6.out.blk.cells
            unfold iterV at q0 q1
            obtain ⟨W, hW⟩ := HP6.out.map.sets (t := 300) Tryz.underlying2 Tryz.underlying300 (by unfold maxLen; omega) hwf (.bool false)
            have hset := fun m => (hW m).1
            have HGM := Lib.hid (fun m => (hW m).2)
            have k5 := grownBy_cells (fun m => (hW m).2.2) q5 (by omega)
            have k0 := grownBy_cells (fun m => (hW m).2.2) q0 (by omega)
            have KK := Lib.hid (fun m => And.intro (k5 m) (k0 m))
            clear hW k5 k0
            go_region_held3  (fun w' => w'.cell? ⟨w.heap.size + 1, 5, none⟩ = some (.map (some w.heap.size)) ∧ w'.cell? ⟨w.heap.size + 1, 0, none⟩ = some (.iface 290 (.pointer (some ⟨ba, 0, none⟩))))
              (first | go_keep | exact KK.out _)
              (first
                | (go_at_call 282; refine (nodeOfY B ba ka outs y _ (HP6.out.drewN 1).ia hlt HY.out).mono ?_; rintro e w7 ⟨rfl, q, rfl⟩)
                | (go_at_call 267; refine (nodeID_calls _ _).mono ?_; rintro e w8 ⟨rfl, rfl⟩))
            obtain ⟨w9, hw9⟩ : ∃ w9, w9 = W (1 + q) := ⟨_, rfl⟩
            rw [← hw9]
            obtain ⟨hgm, hgw⟩ := HGM.out (1 + q)
            rw [← hw9] at hgm hgw
            clear hw9 hset HGM KK
            have hg9 := hgw
            have HP9 := Lib.hid (HP6.out.mapped (hgm.congr (fun x => (uniq_outs outs ins ka hlt x).trans (by rw [HY.out]))) hg9)
            have HB9 := Lib.hid (HB6.out.grown hg9 (by omega) (fun j hj => by cases hj; omega))
            clear hgm hgw hg9 q0 q1 q2 q3 q4 q5
            go_wp2
            go_roundg (gk - 1)
            case measure => omega
            case rel => exact ⟨ka + 1, cnt2, by omega, by omega, by omega, by omega, HP9.out, HB9.out⟩
        · obtain rfl : ka = outs.length := by omega
          go_wp2_with fail
          refine (next_calls B ba outs.length outs wr HP.out.ia).mono ?_
          rintro e w3 ⟨rfl, hit, hon⟩
          rw [if_neg hlt] at hit
          have hd : decide (outs.length < outs.length) = false := by simp
          have HP1 := Lib.hid (HP.out.nextA hit hon)
          have HB1 := Lib.hid (HB.out.grown hon (by omega) (fun j hj => by cases hj; omega))
          have hs1 := hon.size
          clear hit hon q0 q1 q2 q3 q4 q5 hlt
          obtain ⟨q0, q1, q2, q3, q4, q5⟩ := HP1.out.blk.cells
          unfold iterV at q0 q1
          rw [hd]
          clear hd
          go_wp2_with fail
          refine (reset_calls B ba _ outs w3 HP1.out.ia).mono ?_
          rintro e w4 ⟨rfl, hit, hon⟩
          have HP2 : Hid (PairSt w4 B Bb (w.heap.size + 1) ba bb w.heap.size 0 0 (ins.length + outs.length) outs ins .nilIface 0 cnt2 (uniq outs ins)) := by
            have := HP1.out.nextA hit hon
            rw [List.take_length] at this
            exact Lib.hid this
          have HB2 := Lib.hid (HB1.out.grown hon (by omega) (fun j hj => by cases hj; omega))
          clear hit hon q0 q1 q2 q3 q4 q5 HP HB HP1 HB1
          go_wp2_with fail
          go_ret
          exact ⟨_, _, _, _, rfl, HP2.out, HB2.out⟩
end Go.Proofs.YtbkoifdnlaihfaaGreat
