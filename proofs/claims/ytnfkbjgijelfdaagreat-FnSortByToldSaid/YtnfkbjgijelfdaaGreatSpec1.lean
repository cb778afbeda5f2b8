/- An append onto a slice that has no room: a new block. The walks of the reference's small functions: hasInt, sameInts. The walk of the reference's sortInts. The walks of the reference's Weight, Joined, Nodes and From. The walks of the reference's reached and Reaches. -/
import Derived.Test.YtnfkbjgijelfdaaGreatMem
import Derived.Test.YtnfkbjgijelfdaaGreatPlain
import Derived.Test.YtnfkbjgijelfdaaGreatSpecP
import Derived.Test.YtnfkbjgijelfdaaGreatIterd
import Derived.Test.YtnfkbjgijelfdaaGreatLolG
import Derived.Deep.AppendSrc
import Derived.Deep.AppendLies
import Derived.Lib.AppendZeros
import Derived.Deep.RegionLaw
import Derived.Deep.RegionHeld3
namespace Go.Proofs.YtnfkbjgijelfdaaGreat
open Go.RowKit

theorem run_append_full {P : Program} (w : World) (t ty e : TypeId) (i : TypeInfo) (z : Value) (bytes : Nat) (ht : P.underlying t = some (.slice e)) (hi : P.info? e = some i) (hz : i.zero = some z) (hsize : i.size = 1) (hby : i.bytes = bytes) (hzs : z.cells.size = 1)
    (base : Option Addr) (k : Nat) (olds : List Value) (hlo : olds.length = k) (hold : k = 0 ∨ ∃ b, base = some b ∧ ∀ (j : Nat) (v : Value), olds[j]? = some v → w.cell? (b.add j) = some v)
    (ad : Addr) (m c : Nat) (news : List Value) (hl : news.length = m) (hnews : ∀ (j : Nat) (u : Value), news[j]? = some u → w.cell? (ad.add j) = some u) (h1 : ∀ u ∈ news, u.oneCell' = true) (hm : 0 < m) (hmax : k + m ≤ 1000000) (hb : bytes ≤ 64) :
    ∃ cap w', (Builtin.append_ #[t, t] ty #[.slice base k k, .slice (some ad) m c]).run P w = .ok (.slice (some ⟨w.heap.size, 0, none⟩) (k + m) cap) w' ∧
      w'.ownsRow w.heap.size e 1 (.slice (some ⟨w.heap.size, 0, none⟩) (k + m) cap) (k + m) (olds ++ news) ∧ Below w.heap.size w w' := by
  have hs : Src P i.size t (.slice (some ad) m c) m news w := Src.ofSlice w ht ad m c news (by rw [hl, hsize, Nat.mul_one]) hnews h1
  have hfc : (Builtin.firstCells i.size k (.slice base k k)).run P w.drew = .ok olds.toArray w.drew := by
    rcases hold with h0 | ⟨b, rfl, hc⟩
    · subst h0
      obtain rfl : olds = [] := List.eq_nil_of_length_eq_zero hlo
      cases base with
      | none => exact run_firstCells_none w.drew i.size 0 0 0
      | some b => exact run_firstCells_some w.drew i.size 0 b 0 0 [] (by simp) (by intro j v h; simp at h)
    · exact run_firstCells_some w.drew i.size k b k k olds (by rw [hlo, hsize, Nat.mul_one]) (by simpa using hc)
  have hcap : Builtin.nextslicecap (k + m) k ≤ 2 * (k + m) := nextslicecap_le (by omega)
  have hfit : Builtin.nextslicecap (k + m) k * i.bytes ≤ 281474976710656 := by
    rw [hby]
    exact Nat.le_trans (Nat.mul_le_mul hcap hb) (by omega)
  have hr := run_append_grow_src (P := P) w t t ty e i z ht hi hz base k k olds hfc (.slice (some ad) m c) m news hs (by omega) (by omega) hfit
  have hge := grownCap_ge w (k + m) k e
  have hcm : grownCap w (k + m) k e ≤ maxLen := grownCap_le_maxLen w (k + m) k e (by unfold maxLen; omega)
  refine ⟨_, _, hr, ⟨by simp [hlo, hl], .inr ⟨w.heap.size, _, _, rfl, Nat.le_refl _, heap_alloc_new w.drew _, hge, hcm, ?_, ?_⟩⟩, ⟨rfl, rfl, rfl, by simp, fun j hj => heap_alloc_old w.drew _ hj⟩⟩
  · simp only [Array.size_append, List.size_toArray, List.length_append, size_zeroCells, hzs, hlo, hl]
    omega
  · simp only [Array.toList_append]
    rw [List.take_left' (by simp [hlo, hl])]

theorem wpList_append_full {P : Program} (w : World) {ops : Array Oper} {rest : List Oper} {o : Oper} {a : Act} {Q : Exit → Act → World → Prop} (hgd : o.guard = none) (s x : Operand) (t : TypeId)
    (ho : o.op = .call { callee := .builtin .append, args := #[s, x], argTypes := #[t, t] }) (e : TypeId) (i : TypeInfo) (z : Value) (bytes : Nat) (ht : P.underlying t = some (.slice e)) (hi : P.info? e = some i) (hz : i.zero = some z) (hsize : i.size = 1) (hby : i.bytes = bytes) (hzs : z.cells.size = 1)
    (base : Option Addr) (k : Nat) (olds : List Value) (hs : a.eval s = .slice base k k) (hlo : olds.length = k) (hold : k = 0 ∨ ∃ b, base = some b ∧ ∀ (j : Nat) (v : Value), olds[j]? = some v → w.cell? (b.add j) = some v)
    (ad : Addr) (m c : Nat) (news : List Value) (hx : a.eval x = .slice (some ad) m c) (hl : news.length = m) (hnews : ∀ (j : Nat) (u : Value), news[j]? = some u → w.cell? (ad.add j) = some u) (h1 : ∀ u ∈ news, u.oneCell' = true) (hm : 0 < m) (hmax : k + m ≤ 1000000) (hb : bytes ≤ 64)
    (h : ∀ cap w', w'.ownsRow w.heap.size e 1 (.slice (some ⟨w.heap.size, 0, none⟩) (k + m) cap) (k + m) (olds ++ news) → Below w.heap.size w w' → wpList P ops Q rest (a.put o.dst (.slice (some ⟨w.heap.size, 0, none⟩) (k + m) cap)) w') : wpList P ops Q (o :: rest) a w := by
  obtain ⟨cap, w', hr, h2, h3⟩ := run_append_full (P := P) w t o.type e i z bytes ht hi hz hsize hby hzs base k olds hlo hold ad m c news hl hnews h1 hm hmax hb
  exact Lib.wpList_append_run w hgd s x t t ho _ _ hs hx _ _ hr (h cap w' h2 h3)

theorem step_append_full {P : Program} (w : World) {ops : Array Oper} {o : Oper} {a : Act} {K : Act → World → Prop} {Q : Exit → Act → World → Prop} {E : Prop} (hgd : o.guard = none) (s x : Operand) (t : TypeId)
    (ho : o.op = .call { callee := .builtin .append, args := #[s, x], argTypes := #[t, t] }) (e : TypeId) (i : TypeInfo) (z : Value) (bytes : Nat) (ht : P.underlying t = some (.slice e)) (hi : P.info? e = some i) (hz : i.zero = some z) (hsize : i.size = 1) (hby : i.bytes = bytes) (hzs : z.cells.size = 1)
    (base : Option Addr) (k : Nat) (olds : List Value) (hs : a.eval s = .slice base k k) (hlo : olds.length = k) (hold : k = 0 ∨ ∃ b, base = some b ∧ ∀ (j : Nat) (v : Value), olds[j]? = some v → w.cell? (b.add j) = some v)
    (ad : Addr) (m c : Nat) (news : List Value) (hx : a.eval x = .slice (some ad) m c) (hl : news.length = m) (hnews : ∀ (j : Nat) (u : Value), news[j]? = some u → w.cell? (ad.add j) = some u) (h1 : ∀ u ∈ news, u.oneCell' = true) (hm : 0 < m) (hmax : k + m ≤ 1000000) (hb : bytes ≤ 64) (H : Nat) (hH : w.heap.size = H)
    (h : ∀ cap w', w'.ownsRow H e 1 (.slice (some ⟨H, 0, none⟩) (k + m) cap) (k + m) (olds ++ news) → Below H w w' → K (a.put o.dst (.slice (some ⟨H, 0, none⟩) (k + m) cap)) w') :
    if Region.wanted o (yielded ops a.tmps) = true then Oper.wp P o a w K Q else E := by
  have hw : Region.wanted o (yielded ops a.tmps) = true := by simp [Region.wanted, hgd]
  rw [if_pos hw]
  subst hH
  obtain ⟨cap, w', hr, h2, h3⟩ := run_append_full (P := P) w t o.type e i z bytes ht hi hz hsize hby hzs base k olds hlo hold ad m c news hl hnews h1 hm hmax hb
  exact Lib.wp_append_run w s x t t ho _ _ hs hx _ _ hr (h cap w' h2 h3)

/-- An append onto a slice that the call owns, of whatever length. -/
theorem step_append_any {P : Program} (w : World) {ops : Array Oper} {o : Oper} {a : Act} {K : Act → World → Prop} {Q : Exit → Act → World → Prop} {E : Prop} (hgd : o.guard = none) (s x : Operand) (t : TypeId)
    (ho : o.op = .call { callee := .builtin .append, args := #[s, x], argTypes := #[t, t] }) (base : Nat) (e : TypeId) (i : TypeInfo) (z : Value) (bytes : Nat) (ht : P.underlying t = some (.slice e)) (hi : P.info? e = some i) (hz : i.zero = some z) (hsize : i.size = 1) (hby : i.bytes = bytes) (hzs : z.cells.size = 1)
    (v : Value) (n : Nat) (xs : List Value) (hs : a.eval s = v) (hown : w.ownsRow base e 1 v n xs) (hn : 0 < n)
    (ad : Addr) (m c : Nat) (news : List Value) (hx : a.eval x = .slice (some ad) m c) (hl : news.length = m) (hnews : ∀ (j : Nat) (u : Value), news[j]? = some u → w.cell? (ad.add j) = some u) (h1 : ∀ u ∈ news, u.oneCell' = true) (hmax : n + m ≤ 1000000) (hb : bytes ≤ 64) (hbase : base ≤ w.heap.size)
    (h : ∀ g cap w', w'.ownsRow base e 1 (.slice (some ⟨g, 0, none⟩) (n + m) cap) (n + m) (xs ++ news) → Below base w w' → base ≤ g → g < w'.heap.size → K (a.put o.dst (.slice (some ⟨g, 0, none⟩) (n + m) cap)) w') :
    if Region.wanted o (yielded ops a.tmps) = true then Oper.wp P o a w K Q else E := by
  have hw : Region.wanted o (yielded ops a.tmps) = true := by simp [Region.wanted, hgd]
  rw [if_pos hw]
  obtain ⟨v', w', hr, h2, h3, _, _⟩ := run_append_own_at (P := P) w base t o.type e i z 1 bytes ht hi hz hsize hby hzs (by decide) v n xs hown ad m c news (by omega) hnews h1 (by unfold maxLen; omega) (by
    have := Nat.mul_le_mul hmax hb; omega) hbase
  obtain ⟨g, cap, rfl, hg1, hg2⟩ := h2.form (by omega)
  exact Lib.wp_append_run w s x t t ho _ _ hs hx _ _ hr (h g cap w' h2 ((Below.refl base w).grown h3 hbase (fun j hj => (hown.lt j hj).1)) hg1 hg2)

/-- An append of nothing. -/
theorem step_append_none {P : Program} (w : World) {ops : Array Oper} {o : Oper} {a : Act} {K : Act → World → Prop} {Q : Exit → Act → World → Prop} {E : Prop} (hgd : o.guard = none) (s x : Operand) (t : TypeId)
    (ho : o.op = .call { callee := .builtin .append, args := #[s, x], argTypes := #[t, t] }) (e : TypeId) (i : TypeInfo) (ht : P.underlying t = some (.slice e)) (hi : P.info? e = some i)
    (b : Addr) (n c : Nat) (hs : a.eval s = .slice (some b) n c) (hc : n ≤ c) (hx : a.eval x = .slice none 0 0) (h : K (a.put o.dst (.slice (some b) n c)) w) :
    if Region.wanted o (yielded ops a.tmps) = true then Oper.wp P o a w K Q else E := by
  have hw : Region.wanted o (yielded ops a.tmps) = true := by simp [Region.wanted, hgd]
  rw [if_pos hw]
  have hr : (Builtin.append_ #[t, t] o.type #[.slice (some b) n c, .slice none 0 0]).run P w = .ok (.slice (some b) n c) w := by
    simp [Builtin.append_, run_underlying ht, sizeOf, typeInfo, hi, Builtin.lenOf, Builtin.firstCells, loadCells, hc, storeCells]
  exact Lib.wp_append_run w s x t t ho _ _ hs hx _ _ hr h
end Go.Proofs.YtnfkbjgijelfdaaGreat
namespace Go.Proofs.YtnfkbjgijelfdaaGreat
open Go.RowKit

set_option maxHeartbeats 400000 in
theorem hasInt_calls (a : Option Addr) (n cap : Nat) (zs : List Int) (x : Int) (w : World) (hr : RdI w a n zs) :
    Calls Tryz.prog 96 #[.slice a n cap, .int .i64 x] w fun e w' => e = .returned (.bool (hasB zs x)) ∧ w' = w := by
  have hs := hr.small
  have HR := Lib.hid hr; clear hr
  go_enter Tryz.func96, Tryz.ntmps96
  go_wp2
  go_loopw [9] (fun i wr => ∃ k : Nat, k ≤ n ∧ i = .int .i64 k ∧ hasB zs x = hasB (zs.drop k) x ∧ wr = w) (fun i _ => n - (intOf i).toNat)
  case atStart => exact ⟨0, by omega, rfl, by simp, rfl⟩
  case round =>
    obtain ⟨k, hk, rfl, he, rfl⟩ := hrel
    have HE := Lib.hid he; clear he
    by_cases hlt : k < n
    · obtain ⟨b, off, rfl, hb, hc⟩ := HR.out.at_ (by omega)
      obtain ⟨z, HZ, hck⟩ := hc k hlt
      clear hc
      have hkl : k < zs.length := by have := HR.out.len; omega
      have hst : hasB (zs.drop k) x = ((z == x) || hasB (zs.drop (k + 1)) x) := by
        have e1 : zs[k] = z := by have := HZ.out; simpa [List.getD, hkl] using this
        rw [Bool.eq_iff_iff, hasB_iff, Bool.or_eq_true, hasB_iff, List.drop_eq_getElem_cons hkl, e1, List.mem_cons, beq_iff_eq]
        exact ⟨fun h => h.imp Eq.symm id, fun h => h.imp Eq.symm id⟩
      by_cases hx : z = x
      · subst hx
        have HST : Hid (hasB (zs.drop k) z = true) := Lib.hid (by rw [hst]; simp)
        clear hst
        go_wp2
        go_ret
        exact ⟨ret_bool (by rw [HE.out, HST.out]), by first | rfl | trivial⟩
      · have hx' := beq_eq_false_iff_ne.2 hx
        have HST : Hid (hasB (zs.drop k) x = hasB (zs.drop (k + 1)) x) := Lib.hid (by rw [hst, hx']; rfl)
        clear hst
        clear hx
        go_wp2
        go_roundw
        case rel => exact ⟨k + 1, by omega, by go_num, by rw [HE.out, HST.out], by first | rfl | trivial⟩
        case measure => simp [intOf]; omega
    · go_wp2
      go_ret
      have hd : zs.drop k = [] := List.drop_eq_nil_of_le (by have := HR.out.len; omega)
      exact ⟨ret_bool (by rw [HE.out, hd]; rfl), by first | rfl | trivial⟩

set_option maxHeartbeats 400000 in
theorem sameInts_calls (a a' : Option Addr) (n n' c c' : Nat) (zs zs' : List Int) (w : World) (hr : RdI w a n zs) (hr' : RdI w a' n' zs') :
    Calls Tryz.prog 53 #[.slice a n c, .slice a' n' c'] w fun e w' => e = .returned (.bool (zs == zs')) ∧ ∃ q, w' = w.drewN q := by
  have hs := hr.small
  have hs' := hr'.small
  have HR := Lib.hid hr; clear hr
  have HR' := Lib.hid hr'; clear hr'
  by_cases hnn : n = n'
  · subst hnn
    go_enter Tryz.func53, Tryz.ntmps53
    go_wp2
    go_loopw [14] (fun i wr => ∃ k : Nat, k ≤ n ∧ i = .int .i64 k ∧ Hid ((zs == zs') = (zs.drop k == zs'.drop k)) ∧ ∃ q, wr = w.drewN q) (fun i _ => n - (intOf i).toNat)
    case atStart => exact ⟨0, by omega, rfl, Lib.hid (by simp), 0, rfl⟩
    case round =>
      obtain ⟨k, hk, rfl, HE, q, rfl⟩ := hrel
      by_cases hlt : k < n
      · obtain ⟨b, off, rfl, hb, hc⟩ := HR.out.at_ (by omega)
        obtain ⟨z, HZ, hck⟩ := hc k hlt
        obtain ⟨b', off', rfl, hb', hc'⟩ := HR'.out.at_ (by omega)
        obtain ⟨z', HZ', hck'⟩ := hc' k hlt
        have HST : Hid ((zs.drop k == zs'.drop k) = ((z == z') && (zs.drop (k + 1) == zs'.drop (k + 1)))) := by
          rw [← HZ.out, ← HZ'.out]
          exact beq_step (by have := HR.out.len; omega) (by have := HR'.out.len; omega)
        clear hc hc'
        by_cases hx : z = z'
        · subst hx
          have HST2 : Hid ((zs.drop k == zs'.drop k) = (zs.drop (k + 1) == zs'.drop (k + 1))) := Lib.hid (by rw [HST.out]; simp)
          go_wp2
          go_roundw
          case rel => exact ⟨k + 1, by omega, by go_num, Lib.hid (by rw [HE.out, HST2.out]), _, rfl⟩
          case measure => simp [intOf]; omega
        · have hx' := beq_eq_false_iff_ne.2 hx
          have HST2 : Hid ((zs.drop k == zs'.drop k) = false) := Lib.hid (by rw [HST.out, hx']; rfl)
          clear hx
          go_wp2
          go_ret
          exact ⟨ret_bool (by rw [HE.out, HST2.out]), q, rfl⟩
      · go_wp2
        go_ret
        have hd : zs.drop k = [] := List.drop_eq_nil_of_le (by have := HR.out.len; omega)
        have hd' : zs'.drop k = [] := List.drop_eq_nil_of_le (by have := HR'.out.len; omega)
        exact ⟨ret_bool (by rw [HE.out, hd, hd']; rfl), q, rfl⟩
  · have hne : ¬ ((n : Int) = (n' : Int)) := by omega
    have HF : Hid ((zs == zs') = false) := Lib.hid (by
      rw [beq_eq_false_iff_ne]
      intro e
      have h1 := HR.out.len
      have h2 := HR'.out.len
      rw [e] at h1; omega)
    clear hnn
    go_enter Tryz.func53, Tryz.ntmps53
    go_wp2
    go_ret
    exact ⟨ret_bool HF.out.symm, 0, rfl⟩
end Go.Proofs.YtnfkbjgijelfdaaGreat
namespace Go.Proofs.YtnfkbjgijelfdaaGreat
open Go.RowKit

set_option maxHeartbeats 4000000 in
set_option maxRecDepth 100000 in
theorem sortInts_calls (a : Option Addr) (n cap : Nat) (zs : List Int) (w : World) (hr : RdI w a n zs) (hn : n ≤ 1000) :
    Calls Tryz.prog 54 #[.slice a n cap] w fun e w' => ∃ v, e = .returned v ∧ w'.ownsRow w.heap.size 3 1 v n ((sortI zs).map (Value.int .i64)) ∧ Below w.heap.size w w' := by
  have HR := Lib.hid hr; clear hr
  obtain ⟨i0, hi0, hz0, hz1, hz2⟩ := info_parts int_info
  have HI := Lib.hid (And.intro hi0 (And.intro hz0 (And.intro hz1 hz2)))
  clear hi0 hz0 hz1 hz2
  go_enter Tryz.func54, Tryz.ntmps54
  go_wp2
  go_loopw [3, 9] (fun v i wr => ∃ t : Nat, t ≤ n ∧ i = .int .i64 t ∧ Hid (t = 0 → v = .slice none 0 0) ∧ wr.ownsRow w.heap.size 3 1 v t ((sortI (zs.take t)).map (Value.int .i64)) ∧ Below w.heap.size w wr) (fun _ i _ => n - (intOf i).toNat)
  case atStart => exact ⟨0, by omega, rfl, Lib.hid (fun _ => rfl), by rw [List.take_zero, sortI_nil]; exact World.ownsRow_nil _ _ _ _, Below.refl _ _⟩
  case round =>
    obtain ⟨t, ht, rfl, h0, ho, hb⟩ := hrel
    obtain ⟨a1, c1, rfl⟩ := own_shape' ho
    have HO := Lib.hid ho; have HB := Lib.hid hb
    have hsz := hb.size
    clear hb
    by_cases hlt : t < n
    · obtain ⟨b, off, rfl, hb, hc⟩ := HR.out.at_ (by omega)
      obtain ⟨x, HX, hck0⟩ := hc t hlt
      have hck := (HB.out.cell (p := ⟨b, off + t, none⟩) hb).trans hck0
      have hbr : b < wr.heap.size := by omega
      obtain ⟨S, hS⟩ : ∃ S, S = sortI (zs.take t) := ⟨_, rfl⟩
      have hSl : S.length = t := by rw [hS, sortI_len, List.length_take]; have := HR.out.len; omega
      have htk : zs.take (t + 1) = zs.take t ++ [x] := by
        have hzl : t < zs.length := by have := HR.out.len; omega
        have e1 : zs[t] = x := by have := HX.out; simpa [List.getD, hzl] using this
        rw [List.take_succ_eq_append_getElem hzl, e1]
      have HINS : Hid (∀ k, k ≤ t → (∀ j, k ≤ j → j < t → x < S.getD j 0) → (k = 0 ∨ S.getD (k - 1) 0 ≤ x) → S.take k ++ x :: S.drop k = sortI (zs.take (t + 1))) := by
        intro k hk h1 h2
        rw [htk, hS]
        rw [hS] at h1 h2 hSl
        exact sortI_ins (by omega) (fun j h3 h4 => Int.le_of_lt (h1 j h3 (by omega))) h2
      have HSL := Lib.hid hSl
      rw [← hS] at HO
      clear hc hck0 htk hS ho hSl
      go_wp2_with fail
      go_loopw [6] (fun i wr2 => ∃ k : Nat, k ≤ t ∧ i = .int .i64 k ∧ Hid (∀ j, k ≤ j → j < t → x < S.getD j 0) ∧ wr2 = wr) (fun i _ => (intOf i).toNat)
      case atStart => exact ⟨t, by omega, rfl, Lib.hid (fun j h1 h2 => by omega), rfl⟩
      case round =>
        obtain ⟨k, hk, rfl, HK, rfl⟩ := hrel
        by_cases ht0 : t = 0
        · subst ht0
          have e0 := h0.out rfl
          simp only [Value.slice.injEq] at e0
          obtain ⟨rfl, -, rfl⟩ := e0
          obtain rfl : k = 0 := by omega
          have hSe : Hid ([x] = sortI (zs.take (0 + 1))) := by
            have h := HINS.out 0 (Nat.le_refl _) (fun j h1 h2 => by omega) (.inl rfl)
            have e1 : S = [] := List.eq_nil_of_length_eq_zero HSL.out
            rw [e1] at h
            exact h
          obtain ⟨hi0, hz0, hz1, hz2⟩ := HI.out
          go_wp2_with fail
          go_region_law (first
            | (refine step_append_none _ (by rfl) _ _ _ (by rfl) 3 i0 Tryz.underlying22 hi0 ⟨wr.heap.size, 0, none⟩ 1 1 (by rfl) (Nat.le_refl _) (by rfl) ?_)
            | (refine step_append_full _ (by rfl) _ _ _ (by rfl) 3 i0 (.int .i64 0) 8 Tryz.underlying22 hi0 hz0 hz1 hz2 rfl none 0 [] (by rfl) rfl (.inl rfl) ⟨wr.heap.size, 0, none⟩ 1 1 [.int .i64 x] (by rfl) rfl (World.news_of_block (cs := #[.int .i64 x]) (t := 3) (fr := (0, 0)) (heap_alloc_new wr _)) (by intro u hu; simp at hu; subst hu; rfl) (by omega) (by omega) (by omega) (wr.heap.size + 1) (by simp) ?_; intro cap3 w3 hown3 hb3))
          all_goals
            have HO3 := Lib.hid hown3
            have HB3 : Hid (Below w.heap.size w w3) := (HB.out.alloc (by omega) _).trans ((below_drewN (Below.refl _ _) 1).trans (hb3.mono (by omega)))
            clear hown3 hb3
            go_wp2
            go_roundw
            case rel => exact ⟨1, by omega, by go_num, Lib.hid (fun h => by omega), by rw [← hSe.out]; exact own_lower HO3.out (by omega), HB3.out⟩
            case measure => simp [intOf]; omega
        · obtain ⟨g, c, e, hg0, hg1, -⟩ := own_form HO.out (by omega)
          simp only [Value.slice.injEq, true_and] at e
          obtain ⟨rfl, rfl⟩ := e
          have htc : t ≤ c1 := by
            rcases HO.out.2 with ⟨e, _⟩ | ⟨g', cap', cur', e, _, _, h3, _⟩
            · cases e
            · simp only [Value.slice.injEq] at e; omega
          have hkc : k ≤ c1 := by omega
          obtain ⟨ad, had⟩ : ∃ ad : Addr, (if c1 = k then some (⟨g, 0, none⟩ : Addr) else some ⟨g, k, none⟩) = some ad := by
            by_cases e : c1 = k
            · exact ⟨_, by rw [if_pos e]⟩
            · exact ⟨_, by rw [if_neg e]⟩
          have HSRC : Hid (∀ (j : Nat) (u : Value), ((S.drop k).map (Value.int .i64))[j]? = some u → ((wr.alloc (.cells #[.int .i64 x] 3)).drew).cell? (ad.add j) = some u) := Lib.hid (by
            intro j u hj
            have hjl := (List.getElem?_eq_some_iff.1 hj).1
            rw [List.length_map, List.length_drop, HSL.out] at hjl
            have hne : ¬ c1 = k := by omega
            rw [if_neg hne] at had
            obtain rfl := Option.some.inj had
            have hadd : (⟨g, k, none⟩ : Addr).add j = ⟨g, k + j, none⟩ := by unfold Addr.add; split <;> simp_all
            rw [hadd]
            have h1 : (S.map (Value.int .i64))[k + j]? = some u := by
              rw [← hj, List.getElem?_map, List.getElem?_map, List.getElem?_drop]
            have h2 := (own_at HO.out h1).1
            rw [← h2]
            exact ((Below.refl wr.heap.size wr).alloc (Nat.le_refl _) _).cell (p := ⟨g, k + j, none⟩) hg1)
          have HOWN : Hid (((wr.alloc (.cells #[.int .i64 x] 3)).drew).ownsRow wr.heap.size 3 1 (.slice (some ⟨wr.heap.size, 0, none⟩) 1 1) 1 [.int .i64 x]) :=
            Lib.hid ⟨rfl, .inr ⟨wr.heap.size, 1, _, rfl, Nat.le_refl _, heap_alloc_new wr _, Nat.le_refl _, by unfold maxLen; omega, rfl, rfl⟩⟩
          have HOLD : Hid (∀ W, Below wr.heap.size wr W → ∀ (j : Nat) (u : Value), ((S.take k).map (Value.int .i64))[j]? = some u → W.cell? ((⟨g, 0, none⟩ : Addr).add j) = some u) := Lib.hid (by
            intro W hbW j u hj
            have hjl := (List.getElem?_eq_some_iff.1 hj).1
            rw [List.length_map, List.length_take, HSL.out] at hjl
            have hadd : (⟨g, 0, none⟩ : Addr).add j = ⟨g, j, none⟩ := by unfold Addr.add; split <;> simp_all
            rw [hadd]
            have h1 : (S.map (Value.int .i64))[j]? = some u := by
              rw [← hj, List.getElem?_map, List.getElem?_map, List.getElem?_take_of_lt (by omega)]
            have h2 := (own_at HO.out h1).1
            rw [← h2]
            exact hbW.cell (p := ⟨g, j, none⟩) hg1)
          have hkt : k + (1 + (t - k)) = t + 1 := by omega
          have HKT := Lib.hid hkt
          have hld : ((S.drop k).map (Value.int .i64)).length = t - k := by rw [List.length_map, List.length_drop, HSL.out]
          have HLD := Lib.hid hld
          have hlk : ((S.take k).map (Value.int .i64)).length = k := by rw [List.length_map, List.length_take, HSL.out]; omega
          have HLK := Lib.hid hlk
          have HAD := Lib.hid had
          have hsmall : k + (1 + (t - k)) ≤ 1000000 := by omega
          have hsmall2 : 1 + (t - k) ≤ 1000000 := by omega
          have hpos : 0 < 1 + (t - k) := by omega
          have hb1 : Below wr.heap.size wr ((wr.alloc (.cells #[.int .i64 x] 3)).drew) := (below_drewN ((Below.refl wr.heap.size wr).alloc (Nat.le_refl _) _) 1)
          have HB1 := Lib.hid hb1
          have HONE : Hid (∀ u ∈ [Value.int .i64 x] ++ (S.drop k).map (Value.int .i64), u.oneCell' = true) := Lib.hid (by
            intro u hu
            rcases List.mem_append.1 hu with h | h
            · rw [List.mem_singleton.1 h]; rfl
            · obtain ⟨z, -, rfl⟩ := List.mem_map.1 h; rfl)
          obtain ⟨hi0, hz0, hz1, hz2⟩ := HI.out
          clear hkt hld hlk had hb1
          have key : (k = 0 ∧ Hid (k = 0 ∨ S.getD (k - 1) 0 ≤ x)) ∨ (0 < k ∧ ∃ y, S.getD (k - 1) 0 = y ∧ x < y) ∨ (0 < k ∧ ∃ y, S.getD (k - 1) 0 = y ∧ ¬ x < y ∧ Hid (k = 0 ∨ S.getD (k - 1) 0 ≤ x)) := by
            by_cases h1 : k = 0
            · exact .inl ⟨h1, Lib.hid (.inl h1)⟩
            · by_cases h2 : x < S.getD (k - 1) 0
              · exact .inr (.inl ⟨by omega, _, rfl, h2⟩)
              · exact .inr (.inr ⟨by omega, _, rfl, h2, Lib.hid (.inr (by omega))⟩)
          rcases key with ⟨hk0, HC⟩ | ⟨hkp, y, hy, hxy⟩ | ⟨hkp, y, hy, hxy, HC⟩
          · have hkn : ¬ (0 : Int) < (k : Int) := by omega
            clear hk0
            go_wp2_with fail
            go_region_law (first
              | (refine step_append_any _ (by rfl) _ _ _ (by rfl) wr.heap.size 3 i0 (.int .i64 0) 8 Tryz.underlying22 hi0 hz0 hz1 hz2 rfl (.slice (some ⟨wr.heap.size, 0, none⟩) 1 1) 1 [.int .i64 x] (by rfl) HOWN.out (by omega) ad (t - k) (c1 - k) ((S.drop k).map (Value.int .i64)) (by exact congrArg (fun z => Value.slice z (t - k) (c1 - k)) HAD.out) HLD.out HSRC.out (by intro u hu; obtain ⟨z, -, rfl⟩ := List.mem_map.1 hu; rfl) hsmall2 (by omega) (by simp) ?_; intro g2 cap2 w2 hown2 hb2 hg2 hg2')
              | (refine step_append_full _ (by rfl) _ _ _ (by rfl) 3 i0 (.int .i64 0) 8 Tryz.underlying22 hi0 hz0 hz1 hz2 rfl (some ⟨g, 0, none⟩) k ((S.take k).map (Value.int .i64)) (by rfl) HLK.out (.inr ⟨_, rfl, HOLD.out _ (HB1.out.trans hb2)⟩) ⟨g2, 0, none⟩ (1 + (t - k)) cap2 ([.int .i64 x] ++ (S.drop k).map (Value.int .i64)) (by rfl) (by rw [List.length_append, HLD.out]; rfl) (hown2.cells rfl) HONE.out hpos hsmall (by omega) w2.heap.size (by simp) ?_; intro cap3 w3 hown3 hb3; rw [HKT.out] at hown3 ⊢))
            all_goals
              have HO3 : Hid (w3.ownsRow w.heap.size 3 1 (.slice (some ⟨w2.heap.size, 0, none⟩) (t + 1) cap3) (t + 1) ((sortI (zs.take (t + 1))).map (Value.int .i64))) := by
                rw [← HINS.out k hk HK.out HC.out]
                have h := own_lower hown3 (B' := w.heap.size) (by have := (HB1.out.trans hb2).size; omega)
                rw [List.map_append, List.map_cons]
                exact h
              have HB3 : Hid (Below w.heap.size w w3) := (HB.out.trans ((HB1.out.trans hb2).mono hsz)).trans (hb3.mono (by have := (HB1.out.trans hb2).size; omega))
              clear hown3 hb3 hown2 hb2
              go_wp2
              go_roundw
              case rel => exact ⟨t + 1, by omega, by go_num, Lib.hid (fun h => by omega), HO3.out, HB3.out⟩
              case measure => simp [intOf]; omega
          · have hcy : wr.cell? ⟨g, k - 1, none⟩ = some (.int .i64 y) := (own_at HO.out (i := k - 1) (u := .int .i64 y) (by
              have h1 : k - 1 < S.length := by have := HSL.out; omega
              rw [← hy]; simp [List.getD, h1])).1
            have HY := Lib.hid hy
            have w1 : IntKind.i64.wrap ((k : Int) - 1) = ((k - 1 : Nat) : Int) := by rw [IntWalk.i64_in _ (by omega)]; omega
            have hkp' : (0 : Int) < (k : Int) := by omega
            clear hy
            go_wp2_with fail
            go_roundw
            case rel => exact ⟨k - 1, by omega, rfl, Lib.hid (fun j h1 h2 => by
              by_cases e : j = k - 1
              · rw [e, HY.out]; exact hxy
              · exact HK.out j (by omega) h2), by first | rfl | trivial⟩
            case measure => simp [intOf]; omega
          · have hcy : wr.cell? ⟨g, k - 1, none⟩ = some (.int .i64 y) := (own_at HO.out (i := k - 1) (u := .int .i64 y) (by
              have h1 : k - 1 < S.length := by have := HSL.out; omega
              rw [← hy]; simp [List.getD, h1])).1
            have w1 : IntKind.i64.wrap ((k : Int) - 1) = ((k - 1 : Nat) : Int) := by rw [IntWalk.i64_in _ (by omega)]; omega
            have hkp' : (0 : Int) < (k : Int) := by omega
            clear hy
            go_wp2_with fail
            go_region_law (first
              | (refine step_append_any _ (by rfl) _ _ _ (by rfl) wr.heap.size 3 i0 (.int .i64 0) 8 Tryz.underlying22 hi0 hz0 hz1 hz2 rfl (.slice (some ⟨wr.heap.size, 0, none⟩) 1 1) 1 [.int .i64 x] (by rfl) HOWN.out (by omega) ad (t - k) (c1 - k) ((S.drop k).map (Value.int .i64)) (by exact congrArg (fun z => Value.slice z (t - k) (c1 - k)) HAD.out) HLD.out HSRC.out (by intro u hu; obtain ⟨z, -, rfl⟩ := List.mem_map.1 hu; rfl) hsmall2 (by omega) (by simp) ?_; intro g2 cap2 w2 hown2 hb2 hg2 hg2')
              | (refine step_append_full _ (by rfl) _ _ _ (by rfl) 3 i0 (.int .i64 0) 8 Tryz.underlying22 hi0 hz0 hz1 hz2 rfl (some ⟨g, 0, none⟩) k ((S.take k).map (Value.int .i64)) (by rfl) HLK.out (.inr ⟨_, rfl, HOLD.out _ (HB1.out.trans hb2)⟩) ⟨g2, 0, none⟩ (1 + (t - k)) cap2 ([.int .i64 x] ++ (S.drop k).map (Value.int .i64)) (by rfl) (by rw [List.length_append, HLD.out]; rfl) (hown2.cells rfl) HONE.out hpos hsmall (by omega) w2.heap.size (by simp) ?_; intro cap3 w3 hown3 hb3; rw [HKT.out] at hown3 ⊢))
            all_goals
              have HO3 : Hid (w3.ownsRow w.heap.size 3 1 (.slice (some ⟨w2.heap.size, 0, none⟩) (t + 1) cap3) (t + 1) ((sortI (zs.take (t + 1))).map (Value.int .i64))) := by
                rw [← HINS.out k hk HK.out HC.out]
                have h := own_lower hown3 (B' := w.heap.size) (by have := (HB1.out.trans hb2).size; omega)
                rw [List.map_append, List.map_cons]
                exact h
              have HB3 : Hid (Below w.heap.size w w3) := (HB.out.trans ((HB1.out.trans hb2).mono hsz)).trans (hb3.mono (by have := (HB1.out.trans hb2).size; omega))
              clear hown3 hb3 hown2 hb2
              go_wp2
              go_roundw
              case rel => exact ⟨t + 1, by omega, by go_num, Lib.hid (fun h => by omega), HO3.out, HB3.out⟩
              case measure => simp [intOf]; omega
    · obtain rfl : t = n := by omega
      have hv : Hid (wr.ownsRow w.heap.size 3 1 (.slice a1 t c1) t ((sortI zs).map (Value.int .i64))) := by
        have h := HO.out
        rw [List.take_of_length_le (by have := HR.out.len; omega)] at h
        exact h
      clear ho
      go_wp2
      go_ret
      exact ⟨_, rfl, hv.out, HB.out⟩
end Go.Proofs.YtnfkbjgijelfdaaGreat
namespace Go.Proofs.YtnfkbjgijelfdaaGreat
open Go.RowKit

theorem arcB_take {d : Bool} {es : List (Int × Int × Int)} {u v : Int} {k : Nat} {e : Int × Int × Int} (h : es[k]? = some e) : arcB d (es.take (k + 1)) u v = (arcB d (es.take k) u v || arcAt d e u v) := by
  obtain ⟨hk, rfl⟩ := List.getElem?_eq_some_iff.1 h
  unfold arcB
  rw [List.take_succ_eq_append_getElem hk, List.any_append]
  simp

set_option maxHeartbeats 2000000 in
set_option maxRecDepth 100000 in
theorem specWeight_calls (d : Bool) (an ae : Option Addr) (n cn m ce : Nat) (es : List (Int × Int × Int)) (u v : Int) (w : World) (hr : RdE w ae m es) :
    Calls Tryz.prog 95 #[.agg #[.bool d, .slice an n cn, .slice ae m ce], .int .i64 u, .int .i64 v] w fun e w' => (∃ z, e = .returned (.tuple #[.int .i64 z, .bool (arcB d es u v)])) ∧ Below w.heap.size w w' := by
  have hs := hr.small
  have HR := Lib.hid hr; clear hr
  go_enter Tryz.func95, Tryz.ntmps95
  go_wp2
  obtain ⟨w0, hw0⟩ : ∃ w0, w0 = w.alloc (.cells #[.bool d, .slice an n cn, .slice ae m ce] 25) := ⟨_, rfl⟩
  have k0 : w0.cell? ⟨w.heap.size, 0, none⟩ = some (.bool d) := by rw [hw0]; go_simp
  have hsz : w.heap.size < w0.heap.size := by rw [hw0]; simp
  have hb0 : Below w.heap.size w w0 := by rw [hw0]; exact (Below.refl _ _).alloc (Nat.le_refl _) _
  rw [← hw0]
  have HB0 := Lib.hid hb0; clear hb0
  clear hw0
  go_loopw [6, 7, 13] (fun z6 b7 i wr => ∃ (k : Nat) (z : Int), k ≤ m ∧ i = .int .i64 k ∧ z6 = .int .i64 z ∧ b7 = .bool (arcB d (es.take k) u v) ∧ Below (w.heap.size + 1) w0 wr) (fun _ _ i _ => m - (intOf i).toNat)
  case atStart => exact ⟨0, 0, by omega, rfl, rfl, rfl, Below.refl _ _⟩
  case round =>
    obtain ⟨k, z0, hk, rfl, rfl, rfl, hb⟩ := hrel
    have hszr := hb.size
    have HB := Lib.hid hb
    obtain ⟨c, _⟩ := bcell hb
    have j0 := (c w.heap.size 0 (by omega)).trans k0
    have hbw := HB0.out.trans (hb.mono (show w.heap.size ≤ w.heap.size + 1 by omega))
    clear c k0 hb
    obtain ⟨b7, hb7⟩ : ∃ b, arcB d (es.take k) u v = b := ⟨_, rfl⟩
    rw [hb7]
    have HB7 := Lib.hid hb7
    clear hb7
    by_cases hlt : k < m
    · obtain ⟨b, off, rfl, hbb, hc⟩ := HR.out.at_ (by omega)
      obtain ⟨x, y, z, HX, c1, c2, c3⟩ := hc k hlt
      clear hc
      obtain ⟨c, _⟩ := bcell hbw
      have d1 := (c _ _ hbb).trans c1
      have d2 := (c _ _ hbb).trans c2
      have d3 := (c _ _ hbb).trans c3
      clear c c1 c2 c3
      have HBW := Lib.hid hbw; clear hbw
      have hwr : w.heap.size < wr.heap.size := by omega
      have hbr : b < wr.heap.size := by omega
      have key : ((x == u) = true ∧ (y == v) = true ∧ Hid (arcAt d (x, y, z) u v = true)) ∨ (((x == u) = false ∨ ((x == u) = true ∧ (y == v) = false)) ∧ ((d = true ∧ Hid (arcAt d (x, y, z) u v = false)) ∨ (d = false ∧ (((x == v) = false ∧ Hid (arcAt d (x, y, z) u v = false)) ∨ ((x == v) = true ∧ (y == u) = false ∧ Hid (arcAt d (x, y, z) u v = false)) ∨ ((x == v) = true ∧ (y == u) = true ∧ Hid (arcAt d (x, y, z) u v = true)))))) := by
        unfold Hid arcAt
        cases (x == u) <;> cases (y == v) <;> cases d <;> cases (x == v) <;> cases (y == u) <;> simp
      rcases key with ⟨g1, g2, HA⟩ | ⟨g1 | ⟨g1, g2⟩, ⟨rfl, HA⟩ | ⟨rfl, ⟨g3, HA⟩ | ⟨g3, g4, HA⟩ | ⟨g3, g4, HA⟩⟩⟩
      all_goals
        go_wp2
        go_roundw
        case rel => exact ⟨k + 1, _, by omega, by go_num, rfl, congrArg Value.bool (by rw [arcB_take HX.out, HA.out, HB7.out]; simp), HB.out.alloc (by omega) _⟩
        case measure => simp [intOf]; omega
    · go_wp2
      go_ret2
      have hke : arcB d es u v = b7 := by
        have h := HB7.out
        rw [List.take_of_length_le (by have := HR.out.len; omega)] at h
        exact h
      rw [hke]
      exact ⟨⟨_, rfl⟩, HB0.out.trans (HB.out.mono (by omega))⟩

set_option maxHeartbeats 1000000 in
theorem joined_calls (d : Bool) (an ae : Option Addr) (n cn m ce : Nat) (es : List (Int × Int × Int)) (u v : Int) (w : World) (hr : RdE w ae m es) :
    Calls Tryz.prog 175 #[.agg #[.bool d, .slice an n cn, .slice ae m ce], .int .i64 u, .int .i64 v] w fun e w' => e = .returned (.bool (arcB d es u v)) ∧ Below w.heap.size w w' := by
  have HR := Lib.hid hr; clear hr
  go_enter Tryz.func175, Tryz.ntmps175
  go_wp2_with fail
  refine (specWeight_calls d an ae n cn m ce es u v _ (HR.out.alloc _)).mono ?_
  rintro e w1 ⟨⟨z, rfl⟩, hb1⟩
  have HB1 : Hid (Below w.heap.size w w1) := ((Below.refl w.heap.size w).alloc (Nat.le_refl _) _).trans (hb1.mono (by simp))
  clear hb1
  obtain ⟨b, hb⟩ : ∃ b, arcB d es u v = b := ⟨_, rfl⟩
  rw [hb]
  have HBB := Lib.hid hb
  clear hb
  go_wp2_with fail
  go_ret
  exact ⟨ret_bool HBB.out.symm, HB1.out⟩

set_option maxHeartbeats 1000000 in
theorem specNodes_calls (d : Bool) (an ae : Option Addr) (n cn m ce : Nat) (ns : List Int) (w : World) (hn : RdI w an n ns) (hn8 : n ≤ 1000) :
    Calls Tryz.prog 55 #[.agg #[.bool d, .slice an n cn, .slice ae m ce]] w fun e w' => ∃ v, e = .returned v ∧ w'.ownsRow (w.heap.size + 1) 3 1 v n ((sortI ns).map (Value.int .i64)) ∧ Below w.heap.size w w' := by
  have HN := Lib.hid hn; clear hn
  go_enter Tryz.func55, Tryz.ntmps55
  go_wp2_with fail
  refine (sortInts_calls an n cn ns _ (HN.out.alloc _) hn8).mono ?_
  rintro e w1 ⟨v, rfl, ho, hb1⟩
  have HO := Lib.hid ho
  have HB1 : Hid (Below w.heap.size w w1) := ((Below.refl w.heap.size w).alloc (Nat.le_refl _) _).trans (hb1.mono (by simp))
  clear ho hb1
  go_wp2_with fail
  go_ret
  exact ⟨_, rfl, by have h := HO.out; simpa using h, HB1.out⟩

set_option maxHeartbeats 2000000 in
set_option maxRecDepth 100000 in
theorem specFrom_calls (d : Bool) (an ae : Option Addr) (n cn m ce : Nat) (ns : List Int) (es : List (Int × Int × Int)) (x : Int) (w : World) (hn : RdI w an n ns) (hr : RdE w ae m es) (hn8 : n ≤ 1000) :
    Calls Tryz.prog 156 #[.agg #[.bool d, .slice an n cn, .slice ae m ce], .int .i64 x] w fun e w' => ∃ v, e = .returned v ∧ w'.ownsRow (w.heap.size + 1) 3 1 v (fromL d ns es x).length ((fromL d ns es x).map (Value.int .i64)) ∧ Below w.heap.size w w' := by
  have HN := Lib.hid hn; clear hn
  have HR := Lib.hid hr; clear hr
  obtain ⟨i0, hi0, hz0, hz1, hz2⟩ := info_parts int_info
  have HI := Lib.hid (And.intro hi0 (And.intro hz0 (And.intro hz1 hz2)))
  clear hi0 hz0 hz1 hz2
  go_enter Tryz.func156, Tryz.ntmps156
  go_wp2_with fail
  refine (specNodes_calls d an ae n cn m ce ns _ (HN.out.alloc _) hn8).mono ?_
  rintro e w1 ⟨v1, rfl, ho1, hb1⟩
  obtain ⟨a1, c1, rfl⟩ := own_shape' ho1
  have k0 : w1.cell? ⟨w.heap.size, 0, none⟩ = some (.bool d) := (hb1.cell (p := ⟨w.heap.size, 0, none⟩) (by simp)).trans (by go_simp)
  have k1 : w1.cell? ⟨w.heap.size, 1, none⟩ = some (.slice an n cn) := (hb1.cell (p := ⟨w.heap.size, 1, none⟩) (by simp)).trans (by go_simp)
  have k2 : w1.cell? ⟨w.heap.size, 2, none⟩ = some (.slice ae m ce) := (hb1.cell (p := ⟨w.heap.size, 2, none⟩) (by simp)).trans (by go_simp)
  have HO1 := Lib.hid ho1
  have hs1 : w.heap.size < w1.heap.size := by have := hb1.size; simp at this; omega
  have HB1 : Hid (Below w.heap.size w w1) := ((Below.refl w.heap.size w).alloc (Nat.le_refl _) _).trans (hb1.mono (by simp))
  clear ho1 hb1
  obtain ⟨S, hS⟩ : ∃ S, S = sortI ns := ⟨_, rfl⟩
  have HS := Lib.hid hS
  rw [← hS] at HO1
  have HSL : Hid (S.length = n) := Lib.hid (by rw [hS, sortI_len]; exact HN.out.len)
  clear hS
  go_wp2_with fail
  go_loopw [5, 11] (fun v i wr => ∃ k N : Nat, k ≤ n ∧ i = .int .i64 k ∧ Hid (N = ((S.take k).filter fun y => arcB d es x y).length) ∧ wr.ownsRow w1.heap.size 3 1 v N (((S.take k).filter fun y => arcB d es x y).map (Value.int .i64)) ∧ Below w1.heap.size w1 wr) (fun _ i _ => n - (intOf i).toNat)
  case atStart => exact ⟨0, 0, by omega, rfl, Lib.hid rfl, World.ownsRow_nil _ _ _ _, Below.refl _ _⟩
  case round =>
    obtain ⟨k, N, hk, rfl, HNN, ho, hb⟩ := hrel
    obtain ⟨a2, c2, rfl⟩ := own_shape' ho
    have HO := Lib.hid ho; have HB := Lib.hid hb
    have hszr := hb.size
    have j0 := (hb.cell (p := ⟨w.heap.size, 0, none⟩) hs1).trans k0
    have j1 := (hb.cell (p := ⟨w.heap.size, 1, none⟩) hs1).trans k1
    have j2 := (hb.cell (p := ⟨w.heap.size, 2, none⟩) hs1).trans k2
    have HBW : Hid (Below w.heap.size w wr) := HB1.out.trans (hb.mono (by omega))
    clear ho hb k0 k1 k2
    by_cases hlt : k < n
    · obtain ⟨gS, c, e, hg0, hg1, -⟩ := own_form HO1.out (by omega)
      simp only [Value.slice.injEq, true_and] at e
      obtain ⟨rfl, rfl⟩ := e
      have hkl : k < S.length := by have := HSL.out; omega
      obtain ⟨y, hy⟩ : ∃ y, S[k] = y := ⟨_, rfl⟩
      have hcy : wr.cell? ⟨gS, k, none⟩ = some (.int .i64 y) := (HB.out.cell (p := ⟨gS, k, none⟩) hg1).trans (own_at HO1.out (i := k) (u := .int .i64 y) (by rw [← hy]; simp [hkl])).1
      have hgw : gS < wr.heap.size := by omega
      have hNk : N ≤ k := by
        rw [HNN.out]
        refine Nat.le_trans (List.length_filter_le ..) ?_
        rw [List.length_take]; omega
      have hfil : (S.take (k + 1)).filter (fun y => arcB d es x y) = (S.take k).filter (fun y => arcB d es x y) ++ (if arcB d es x y then [y] else []) := by
        rw [List.take_succ_eq_append_getElem hkl, List.filter_append, hy]
        by_cases h : arcB d es x y = true
        · rw [if_pos h]; simp [h]
        · rw [if_neg h]; simp [h]
      have HFIL := Lib.hid hfil
      clear hfil hy
      go_wp2_with fail
      refine (joined_calls d an ae n cn m ce es x y wr (HR.out.below HBW.out (Nat.le_refl _))).mono ?_
      rintro e w2 ⟨rfl, hb2⟩
      have HO2 : Hid (w2.ownsRow w1.heap.size 3 1 (.slice a2 N c2) N (((S.take k).filter fun y => arcB d es x y).map (Value.int .i64))) := ownsRow_of_heap HO.out (fun g hg => hb2.block g (HO.out.lt g hg).2)
      have HB2 : Hid (Below w1.heap.size w1 w2) := HB.out.trans (hb2.mono hszr)
      have hs2 : w1.heap.size ≤ w2.heap.size := HB2.out.size
      clear hb2 HO HB
      obtain ⟨b, hbb⟩ : ∃ b, arcB d es x y = b := ⟨_, rfl⟩
      rw [hbb] at HFIL ⊢
      clear hbb j0 j1 j2
      cases b
      · go_wp2_with fail
        go_roundw
        case rel => exact ⟨k + 1, N, by omega, by go_num, Lib.hid (by rw [HFIL.out]; simpa using HNN.out), by rw [HFIL.out]; simpa using HO2.out, HB2.out⟩
        case measure => simp [intOf]; omega
      · obtain ⟨hi0, hz0, hz1, hz2⟩ := HI.out
        go_wp2_with (at_builtin; refine wpList_append_own _ rfl _ _ 22 rfl w1.heap.size 3 i0 (.int .i64 0) 1 8 Tryz.underlying22 hi0 hz0 hz1 hz2 rfl (by decide) (.slice a2 N c2) N (((S.take k).filter fun y => arcB d es x y).map (Value.int .i64)) rfl ?hown ⟨w2.heap.size, 0, none⟩ 1 1 [.int .i64 y] rfl ?c0 ?c1 ?c2 ?c3 ?c4 ?c5 ?_)
        case hown => exact HO2.out.alloc _
        case c0 => rfl
        case c1 => intro j u hj; match j, hj with | 0, hj => simp at hj; subst hj; simp [Addr.add]
        case c2 => intro u hu; simp at hu; subst hu; rfl
        case c3 => unfold maxLen; omega
        case c4 => omega
        case c5 => simp; omega
        intro v' w' hown' hgrow _
        obtain ⟨a', c', rfl⟩ := own_shape' hown'
        have HO' := Lib.hid hown'
        have HB' : Hid (Below w1.heap.size w1 w') := (HB2.out.alloc (by omega) _).grown hgrow (by simp; omega) (fun j hj => (HO2.out.lt j hj).1)
        clear hown' hgrow
        go_wp2
        go_roundw
        case rel =>
          refine ⟨k + 1, N + 1, by omega, by go_num, Lib.hid (by rw [HFIL.out, if_pos trivial, List.length_append, ← HNN.out]; rfl), ?_, HB'.out⟩
          rw [HFIL.out, if_pos trivial, List.map_append]
          exact HO'.out
        case measure => simp [intOf]; omega
    · obtain rfl : k = n := by omega
      have hfin : (S.take k).filter (fun y => arcB d es x y) = fromL d ns es x := by
        rw [List.take_of_length_le (by have := HSL.out; omega), HS.out]; rfl
      have HOF : Hid (wr.ownsRow (w.heap.size + 1) 3 1 (.slice a2 N c2) (fromL d ns es x).length ((fromL d ns es x).map (Value.int .i64))) := Lib.hid (by
        have h := own_lower HO.out (B' := w.heap.size + 1) (by omega)
        have h2 := HNN.out
        rw [hfin] at h h2
        rw [← h2]
        exact h)
      clear hfin j0 j1 j2
      go_wp2
      go_ret
      exact ⟨_, rfl, HOF.out, HBW.out⟩
theorem rdi_ownE {w : World} {B : Nat} {a : Option Addr} {n c : Nat} {zs : List Int} (h : w.ownsRow B 3 1 (.slice a n c) n (zs.map (Value.int .i64))) : RdI w a n zs := by
  obtain ⟨a', c', e, hr⟩ := RdI.of_owns h
  simp only [Value.slice.injEq, true_and] at e
  rw [e.1]; exact hr
end Go.Proofs.YtnfkbjgijelfdaaGreat
namespace Go.Proofs.YtnfkbjgijelfdaaGreat
open Go.RowKit

theorem nodup_len6 : ∀ {l m : List Int}, l.Nodup → (∀ x ∈ l, x ∈ m) → l.length ≤ m.length
  | [], _, _, _ => Nat.zero_le _
  | x :: l, m, hn, hs => by
    have hx : x ∈ m := hs x (List.mem_cons_self ..)
    have h1 := List.nodup_cons.1 hn
    have h2 := nodup_len6 (l := l) (m := m.erase x) h1.2 (fun y hy => (List.mem_erase_of_ne (fun e => h1.1 (by rw [← e]; exact hy))).2 (hs y (List.mem_cons_of_mem _ hy)))
    rw [List.length_erase_of_mem hx] at h2
    have := List.length_pos_of_mem hx
    simp only [List.length_cons]
    omega

/-- What has been reached so far: the first i of it have been looked at. -/
structure RSt (adj : Int → List Int) (S : List Int) (u : Int) (o : List Int) (i : Nat) : Prop where
  nodup : o.Nodup
  has : u ∈ o
  reach : ∀ y ∈ o, ReachA adj u y
  closed : ∀ j, j < i → ∀ z ∈ adj (o.getD j 0), z ∈ o
  sub : ∀ y ∈ o, y = u ∨ y ∈ S

/-- While the nodes that x leads to are looked at. -/
structure RMid (adj : Int → List Int) (S : List Int) (u : Int) (o : List Int) (i : Nat) (x : Int) (j : Nat) : Prop where
  st : RSt adj S u o i
  lt : i < o.length
  at_ : o.getD i 0 = x
  pre : ∀ z ∈ (adj x).take j, z ∈ o

theorem RSt.start (adj : Int → List Int) (S : List Int) (u : Int) : RSt adj S u [u] 0 :=
  ⟨by simp, by simp, fun y hy => by rw [List.mem_singleton.1 hy]; exact ReachA.refl _ _, fun j hj => by omega, fun y hy => .inl (List.mem_singleton.1 hy)⟩
theorem RSt.len {adj : Int → List Int} {S : List Int} {u : Int} {o : List Int} {i : Nat} (h : RSt adj S u o i) : o.length ≤ S.length + 1 :=
  nodup_len6 (m := u :: S) h.nodup (fun y hy => (h.sub y hy).elim (fun e => by rw [e]; exact List.mem_cons_self ..) (fun e => List.mem_cons_of_mem _ e))
theorem RSt.look {adj : Int → List Int} {S : List Int} {u : Int} {o : List Int} {i : Nat} (h : RSt adj S u o i) (hi : i < o.length) : RMid adj S u o i (o.getD i 0) 0 :=
  ⟨h, hi, rfl, fun z hz => by simp at hz⟩
theorem RMid.skip {adj : Int → List Int} {S : List Int} {u x z : Int} {o : List Int} {i j : Nat} (h : RMid adj S u o i x j) (hj : j < (adj x).length) (hz : (adj x).getD j 0 = z) (hm : z ∈ o) : RMid adj S u o i x (j + 1) :=
  ⟨h.st, h.lt, h.at_, fun y hy => by
    rw [List.take_succ_eq_append_getElem hj] at hy
    rcases List.mem_append.1 hy with hy | hy
    · exact h.pre y hy
    · have e : (adj x)[j] = z := by simpa [List.getD, hj] using hz
      rw [List.mem_singleton.1 hy, e]; exact hm⟩
theorem RMid.add {adj : Int → List Int} {S : List Int} {u x z : Int} {o : List Int} {i j : Nat} (h : RMid adj S u o i x j) (hj : j < (adj x).length) (hz : (adj x).getD j 0 = z) (hm : z ∉ o) (hS : ∀ y ∈ adj x, y ∈ S) : RMid adj S u (o ++ [z]) i x (j + 1) := by
  have e : (adj x)[j] = z := by simpa [List.getD, hj] using hz
  have hmem : z ∈ adj x := e ▸ List.getElem_mem hj
  have hget : ∀ k, k < o.length → (o ++ [z]).getD k 0 = o.getD k 0 := fun k hk => by simp [List.getD, List.getElem?_append, hk]
  have hxo : x ∈ o := by
    rw [← h.at_]
    have := h.lt
    simp [List.getD, this]
  refine ⟨⟨?_, List.mem_append_left _ h.st.has, fun y hy => ?_, fun k hk y hy => ?_, fun y hy => ?_⟩, ?_, ?_, fun y hy => ?_⟩
  · rw [List.nodup_append]
    exact ⟨h.st.nodup, by simp, fun a ha b hb e => hm (by rw [← List.mem_singleton.1 hb, ← e]; exact ha)⟩
  · rcases List.mem_append.1 hy with hy | hy
    · exact h.st.reach y hy
    · rw [List.mem_singleton.1 hy]; exact (h.st.reach x hxo).step hmem
  · rw [hget k (by have := h.lt; omega)] at hy
    exact List.mem_append_left _ (h.st.closed k hk y hy)
  · rcases List.mem_append.1 hy with hy | hy
    · exact h.st.sub y hy
    · rw [List.mem_singleton.1 hy]; exact .inr (hS z hmem)
  · rw [List.length_append]; have := h.lt; omega
  · rw [hget i h.lt]; exact h.at_
  · rw [List.take_succ_eq_append_getElem hj, e] at hy
    rcases List.mem_append.1 hy with hy | hy
    · exact List.mem_append_left _ (h.pre y hy)
    · exact List.mem_append_right _ hy
theorem RMid.done {adj : Int → List Int} {S : List Int} {u x : Int} {o : List Int} {i j : Nat} (h : RMid adj S u o i x j) (hj : (adj x).length ≤ j) : RSt adj S u o (i + 1) :=
  ⟨h.st.nodup, h.st.has, h.st.reach, fun k hk y hy => by
    by_cases e : k = i
    · subst e
      rw [h.at_] at hy
      exact h.pre y (by rw [List.take_of_length_le hj]; exact hy)
    · exact h.st.closed k (by omega) y hy, h.st.sub⟩
theorem RSt.done {adj : Int → List Int} {S : List Int} {u : Int} {o : List Int} {i : Nat} (h : RSt adj S u o i) (hi : o.length ≤ i) (y : Int) : y ∈ o ↔ ReachA adj u y := by
  refine ⟨h.reach y, fun hr => hr (fun z => z ∈ o) h.has fun a b ha hb => ?_⟩
  obtain ⟨k, hk⟩ := List.getElem?_of_mem ha
  have hkl := (List.getElem?_eq_some_iff.1 hk).1
  have e : o.getD k 0 = a := by rw [List.getD_eq_getElem?_getD, hk]; rfl
  exact h.closed k (by omega) b (by rw [e]; exact hb)
theorem fromL_sub (d : Bool) (ns : List Int) (es : List (Int × Int × Int)) (x : Int) : ∀ y ∈ fromL d ns es x, y ∈ sortI ns := fun _ hy => (List.mem_filter.1 hy).1
theorem fromL_len (d : Bool) (ns : List Int) (es : List (Int × Int × Int)) (x : Int) : (fromL d ns es x).length ≤ ns.length := by
  have h := List.length_filter_le (fun v => arcB d es x v) (sortI ns)
  rw [sortI_len] at h
  exact h

def ReachedPost (adj : Int → List Int) (u : Int) (w : World) (e : Ending) (w' : World) : Prop :=
  ∃ (v : Value) (r : List Int), e = .returned v ∧ w'.ownsRow w.heap.size 3 1 v r.length (r.map (Value.int .i64)) ∧ (∀ y, y ∈ r ↔ ReachA adj u y) ∧ r.length ≤ 1000 ∧ r.Nodup ∧ Below w.heap.size w w'

set_option maxHeartbeats 4000000 in
set_option maxRecDepth 100000 in
theorem reached_calls (d : Bool) (an ae : Option Addr) (n cn m ce : Nat) (ns : List Int) (es : List (Int × Int × Int)) (u : Int) (w : World) (hn : RdI w an n ns) (hr : RdE w ae m es) (hn8 : n ≤ 500) :
    Calls Tryz.prog 142 #[.agg #[.bool d, .slice an n cn, .slice ae m ce], .int .i64 u] w (ReachedPost (fromL d ns es) u w) := by
  have HN := Lib.hid hn; have HR := Lib.hid hr
  have hnl := hn.len
  clear hn hr
  obtain ⟨i0, hi0, hz0, hz1, hz2⟩ := info_parts int_info
  have HI := Lib.hid (And.intro hi0 (And.intro hz0 (And.intro hz1 hz2)))
  clear hi0 hz0 hz1 hz2
  obtain ⟨adj, hadj⟩ : ∃ adj, adj = fromL d ns es := ⟨_, rfl⟩
  have HADJ := Lib.hid hadj
  have HSUB : Hid (∀ x, ∀ y ∈ adj x, y ∈ sortI ns) := Lib.hid (by rw [hadj]; exact fromL_sub d ns es)
  have HLENA : Hid (∀ x, (adj x).length ≤ n) := Lib.hid (by rw [hadj, ← hnl]; exact fromL_len d ns es)
  have HSL : Hid ((sortI ns).length = n) := Lib.hid (by rw [sortI_len]; exact hnl)
  clear hadj hnl
  go_enter Tryz.func142, Tryz.ntmps142
  go_wp2_with fail
  obtain ⟨w0, hw0⟩ : ∃ w0, w0 = w.alloc (.cells #[.bool d, .slice an n cn, .slice ae m ce] 25) := ⟨_, rfl⟩
  obtain ⟨bb, hbb⟩ : ∃ bb, bb = w.heap.size + 1 := ⟨_, rfl⟩
  have hb0 : Below w.heap.size w w0 := by rw [hw0]; exact (Below.refl _ _).alloc (Nat.le_refl _) _
  have hs0 : w0.heap.size = bb := by rw [hw0, hbb]; simp
  have x0 : w0.heap[w.heap.size]? = some (.cells #[.bool d, .slice an n cn, .slice ae m ce] 25 (0, 0)) := by rw [hw0]; exact heap_alloc_new w _
  have hws : w.heap.size < bb := by omega
  rw [← hw0, ← hbb]
  obtain ⟨w1, hw1⟩ : ∃ w1, w1 = w0.alloc (.cells #[.int .i64 u] 3) := ⟨_, rfl⟩
  have HO1 : Hid (w1.ownsRow bb 3 1 (.slice (some ⟨bb, 0, none⟩) [u].length 1) [u].length ([u].map (Value.int .i64))) :=
    Lib.hid ⟨rfl, .inr ⟨bb, 1, _, rfl, Nat.le_refl _, (by rw [hw1, ← hs0]; exact heap_alloc_new w0 _), Nat.le_refl _, by unfold maxLen; omega, rfl, rfl⟩⟩
  have HB1 : Hid (Below bb w0 w1) := by rw [hw1]; exact (Below.refl _ _).alloc (by omega) _
  have HSF : Hid (∀ W, Below bb w0 W → W.cell? ⟨w.heap.size, 0, none⟩ = some (.bool d) ∧ W.cell? ⟨w.heap.size, 1, none⟩ = some (.slice an n cn) ∧ W.cell? ⟨w.heap.size, 2, none⟩ = some (.slice ae m ce)) := Lib.hid fun W h => by
    have e1 := (h.block w.heap.size (by omega)).trans x0
    refine ⟨?_, ?_, ?_⟩
    · rw [cell_of_row W _ _ _ _ (0, 0) e1]; rfl
    · rw [cell_of_row W _ _ _ _ (0, 0) e1]; rfl
    · rw [cell_of_row W _ _ _ _ (0, 0) e1]; rfl
  rw [← hw1]
  have HB0 := Lib.hid hb0
  have HS0 := Lib.hid hs0
  have HST0 : Hid (RSt adj (sortI ns) u [u] 0) := RSt.start _ _ _
  clear hw0 hbb hb0 x0 hw1 hs0
  go_loopw [5, 6] (fun v i wr => ∃ (k : Nat) (o : List Int), k ≤ o.length ∧ i = .int .i64 k ∧ wr.ownsRow bb 3 1 v o.length (o.map (Value.int .i64)) ∧ Hid (RSt adj (sortI ns) u o k) ∧ Below bb w0 wr) (fun _ i _ => n + 2 - (intOf i).toNat)
  case atStart => exact ⟨0, [u], by simp, rfl, HO1.out, HST0, HB1.out⟩
  case round =>
    obtain ⟨k, o, hk, rfl, ho, HST, hb⟩ := hrel
    obtain ⟨a1, c1, rfl⟩ := own_shape' ho
    have HO := Lib.hid ho; have HB := Lib.hid hb
    have hszr := hb.size
    have holen : o.length ≤ n + 1 := by have := HST.out.len; have := HSL.out; omega
    have HBW : Hid (Below w.heap.size w wr) := HB0.out.trans (hb.mono (by omega))
    obtain ⟨j0, j1, j2⟩ := HSF.out wr hb
    have hbr : bb ≤ wr.heap.size := by have := HS0.out; omega
    clear ho hb
    obtain ⟨no, hno⟩ : ∃ no, no = o.length := ⟨_, rfl⟩
    rw [← hno] at hk holen HO ⊢
    have HNO := Lib.hid hno
    clear hno
    by_cases hlt : k < no
    · obtain ⟨g, c, e, hg0, hg1, -⟩ := own_form HO.out (by omega)
      simp only [Value.slice.injEq, true_and] at e
      obtain ⟨rfl, rfl⟩ := e
      have hkl : k < o.length := by have := HNO.out; omega
      obtain ⟨x, hx⟩ : ∃ x, o.getD k 0 = x := ⟨_, rfl⟩
      have hcx : wr.cell? ⟨g, k, none⟩ = some (.int .i64 x) := (own_at HO.out (i := k) (u := .int .i64 x) (by rw [← hx]; simp [List.getD, hkl])).1
      have HMID : Hid (RMid adj (sortI ns) u o k x 0) := Lib.hid (by rw [← hx]; exact HST.out.look hkl)
      have hwr : w.heap.size < wr.heap.size := by omega
      have HSF' : Hid (∀ W, Below wr.heap.size wr W → W.cell? ⟨w.heap.size, 0, none⟩ = some (.bool d) ∧ W.cell? ⟨w.heap.size, 1, none⟩ = some (.slice an n cn) ∧ W.cell? ⟨w.heap.size, 2, none⟩ = some (.slice ae m ce) ∧ W.cell? ⟨g, k, none⟩ = some (.int .i64 x)) := Lib.hid fun W h => by
        obtain ⟨e0, e1, e2⟩ := HSF.out W (HB.out.trans (h.mono hbr))
        exact ⟨e0, e1, e2, (h.cell (p := ⟨g, k, none⟩) hg1).trans hcx⟩
      have HCA : Hid (∀ W, Below wr.heap.size wr W → Calls Tryz.prog 156 #[.agg #[.bool d, .slice an n cn, .slice ae m ce], .int .i64 x] W fun e w' => ∃ (a : Option Addr) (c : Nat), e = .returned (.slice a (adj x).length c) ∧ w'.ownsRow wr.heap.size 3 1 (.slice a (adj x).length c) (adj x).length ((adj x).map (Value.int .i64)) ∧ Below wr.heap.size wr w') := Lib.hid fun W h => by
        have hbW : Below w.heap.size w W := HBW.out.trans (h.mono (by omega))
        refine (specFrom_calls d an ae n cn m ce ns es x W (HN.out.below hbW (Nat.le_refl _)) (HR.out.below hbW (Nat.le_refl _)) (by omega)).mono ?_
        rintro e w' ⟨v, rfl, ho, hb'⟩
        obtain ⟨a, c, rfl⟩ := own_shape' ho
        rw [← HADJ.out] at ho ⊢
        exact ⟨a, c, rfl, own_lower ho (by have := h.size; omega), h.trans (hb'.mono h.size)⟩
      have HD1 : Hid (Below wr.heap.size wr wr.drew) := below_drewN (Below.refl wr.heap.size wr) 1
      obtain ⟨A, hA⟩ : ∃ A, A = adj x := ⟨_, rfl⟩
      obtain ⟨la, hla⟩ : ∃ la, la = A.length := ⟨_, rfl⟩
      rw [← hA, ← hla] at HCA
      have HAA := Lib.hid hA; have HLA := Lib.hid hla
      have hlan : la ≤ n := by rw [hla, hA]; exact HLENA.out x
      clear hx hA hla
      go_wp2_with fail
      go_region_held3 (fun w' => w'.cell? ⟨w.heap.size, 0, none⟩ = some (.bool d) ∧ w'.cell? ⟨w.heap.size, 1, none⟩ = some (.slice an n cn) ∧ w'.cell? ⟨w.heap.size, 2, none⟩ = some (.slice ae m ce) ∧ w'.cell? ⟨g, k, none⟩ = some (.int .i64 x))
        (first | with_reducible exact s4 | go_keep)
        ((go_at_call 156; with_reducible refine (HCA.out wr.drew HD1.out).mono ?_; rintro e w4 ⟨aA, cA, rfl, hoA, hb4⟩; have s4 := HSF'.out w4 hb4; have HOA := Lib.hid hoA; have HB4 := Lib.hid hb4; clear hoA hb4))
      obtain ⟨ba, hba⟩ : ∃ ba, ba = wr.heap.size := ⟨_, rfl⟩
      rw [← hba] at HOA
      have HO4 : Hid (w4.ownsRow bb 3 1 (.slice (some ⟨g, 0, none⟩) no c1) no (o.map (Value.int .i64))) := ownsRow_of_heap HO.out (fun g' hg' => HB4.out.block g' (HO.out.lt g' hg').2)
      have HBX : Hid (Below bb w0 w4) := HB.out.trans (HB4.out.mono hbr)
      have hba1 : ba ≤ w4.heap.size := by have := HB4.out.size; omega
      have hba2 : bb ≤ ba := by omega
      have hba3 : g < ba := by omega
      clear hba s4 j0 j1 j2 hcx HD1 HSF' HCA HB4 HO HB
      go_wp2_with fail
      go_loopw [5, 24] (fun v i wr2 => ∃ (j : Nat) (o2 : List Int), j ≤ la ∧ i = .int .i64 j ∧ wr2.ownsRow bb 3 1 v o2.length (o2.map (Value.int .i64)) ∧ Hid (RMid adj (sortI ns) u o2 k x j) ∧ wr2.ownsRow ba 3 1 (.slice aA la cA) la (A.map (Value.int .i64)) ∧ Hid (∀ g', v.ownBlock = some g' → (Value.slice aA la cA).ownBlock ≠ some g') ∧ Below bb w0 wr2 ∧ ba ≤ wr2.heap.size) (fun _ i _ => la - (intOf i).toNat)
      case atStart =>
        refine ⟨0, o, by omega, rfl, by rw [← HNO.out]; exact HO4.out, HMID, HOA.out, Lib.hid (fun g' h1 h2 => ?_), HBX.out, hba1⟩
        have e1 : g = g' := Option.some.inj h1
        have := (HOA.out.lt g' h2).1
        omega
      case round =>
        obtain ⟨j, o2, hj, rfl, ho2, HM, hA2, HDIS, hb2, hbw2⟩ := hrel
        obtain ⟨a2, c2, rfl⟩ := own_shape' ho2
        obtain ⟨no2, hno2⟩ : ∃ no2, no2 = o2.length := ⟨_, rfl⟩
        rw [← hno2] at ho2 HDIS ⊢
        have HNO2 := Lib.hid hno2
        have HO2 := Lib.hid ho2; have HA2 := Lib.hid hA2; have HB2 := Lib.hid hb2
        have hol2 : no2 ≤ n + 1 := by have := HM.out.st.len; have := HSL.out; omega
        clear ho2 hA2 hb2 hno2
        by_cases hjl : j < la
        · obtain ⟨gA, cA', e, hgA0, hgA1, -⟩ := own_form HA2.out (by omega)
          simp only [Value.slice.injEq, true_and] at e
          obtain ⟨rfl, rfl⟩ := e
          have hjA : j < A.length := by have := HLA.out; omega
          obtain ⟨z, hz⟩ : ∃ z, A.getD j 0 = z := ⟨_, rfl⟩
          have hcz : wr.cell? ⟨gA, j, none⟩ = some (.int .i64 z) := (own_at HA2.out (i := j) (u := .int .i64 z) (by rw [← hz]; simp [List.getD, hjA])).1
          have HZ : Hid ((adj x).getD j 0 = z) := Lib.hid (by rw [← HAA.out]; exact hz)
          have HJL : Hid (j < (adj x).length) := Lib.hid (by rw [← HAA.out]; exact hjA)
          clear hz
          go_wp2_with fail
          refine (hasInt_calls a2 no2 c2 o2 z wr (rdi_ownE HO2.out)).mono ?_
          rintro e w5' ⟨rfl, rfl⟩
          obtain ⟨hbit, hhb⟩ : ∃ b, hasB o2 z = b := ⟨_, rfl⟩
          rw [hhb]
          have HHB := Lib.hid hhb
          clear hhb
          cases hbit
          · have HNM : Hid (z ∉ o2) := Lib.hid (fun h => by have h1 := (hasB_iff o2 z).2 h; rw [HHB.out] at h1; cases h1)
            obtain ⟨hi0, hz0, hz1, hz2⟩ := HI.out
            go_wp2_with (at_builtin; refine wpList_append_own_at _ rfl _ _ 22 rfl bb 3 i0 (.int .i64 0) 1 8 Tryz.underlying22 hi0 hz0 hz1 hz2 rfl (by decide) (.slice a2 no2 c2) no2 (o2.map (Value.int .i64)) rfl ?hown ⟨w5'.heap.size, 0, none⟩ 1 1 [.int .i64 z] rfl ?c0 ?c1 ?c2 ?c3 ?c4 ?c5 ?_)
            case hown => exact HO2.out.alloc _
            case c0 => rfl
            case c1 => intro j u hj; match j, hj with | 0, hj => simp at hj; subst hj; simp [Addr.add]
            case c2 => intro u hu; simp at hu; subst hu; rfl
            case c3 => unfold maxLen; omega
            case c4 => omega
            case c5 => simp; omega
            intro v' w' hown' hgrow _ hloc
            obtain ⟨a', c', rfl⟩ := own_shape' hown'
            have HO' := Lib.hid hown'
            have HB' : Hid (Below bb w0 w') := (HB2.out.alloc (by omega) _).grown hgrow (by simp; omega) (fun j hj => (HO2.out.lt j hj).1)
            have HA' : Hid (w'.ownsRow ba 3 1 (.slice (some ⟨gA, 0, none⟩) la cA) la (A.map (Value.int .i64))) := ownsRow_of_heap HA2.out (fun g' hg' => by
              rw [hgrow.block g' (by have := (HA2.out.lt g' hg').2; simp; omega) (fun e => HDIS.out g' e.symm hg')]
              exact heap_alloc_old _ _ (HA2.out.lt g' hg').2)
            have HDIS' : Hid (∀ g', (Value.slice a' (no2 + 1) c').ownBlock = some g' → (Value.slice (some ⟨gA, 0, none⟩) la cA).ownBlock ≠ some g') := Lib.hid (fun g' h1 h2 => by
              rcases hloc with h | h
              · exact HDIS.out g' (h ▸ h1) h2
              · rw [h] at h1
                have e1 := Option.some.inj h1
                have := (HA2.out.lt g' h2).2
                (try simp at e1)
                omega)
            have hbw' : ba ≤ w'.heap.size := by have := hgrow.size; simp at this; omega
            clear hown' hgrow hloc
            go_wp2
            go_roundw
            case rel =>
              refine ⟨j + 1, o2 ++ [z], by omega, by go_num, ?_, Lib.hid (HM.out.add HJL.out HZ.out HNM.out (HSUB.out x)), HA'.out, HDIS'.out, HB'.out, hbw'⟩
              have h := HO'.out
              rw [List.map_append, List.length_append, ← HNO2.out]
              exact h
            case measure => simp [intOf]; omega
          · have HNM : Hid (z ∈ o2) := Lib.hid ((hasB_iff o2 z).1 HHB.out)
            go_wp2_with fail
            go_roundw
            case rel => exact ⟨j + 1, o2, by omega, by go_num, by rw [← HNO2.out]; exact HO2.out, Lib.hid (HM.out.skip HJL.out HZ.out HNM.out), HA2.out, HDIS, HB2.out, hbw2⟩
            case measure => simp [intOf]; omega
        · have HST2 : Hid (RSt adj (sortI ns) u o2 (k + 1)) := Lib.hid (HM.out.done (by have := HLA.out; have := HAA.out; rw [← this]; omega))
          have hk2 : k + 1 ≤ o2.length := HM.out.lt
          go_wp2
          go_roundw
          case rel => exact ⟨k + 1, o2, hk2, by go_num, by rw [← HNO2.out]; exact HO2.out, HST2, HB2.out⟩
          case measure => simp [intOf]; omega
    · obtain rfl : k = no := by omega
      clear j0 j1 j2
      go_wp2_with fail
      refine (sortInts_calls a1 k c1 o wr (by have h := rdi_ownE HO.out; exact h) (by omega)).mono ?_
      rintro e w2 ⟨v2, rfl, ho2, hb2⟩
      obtain ⟨a2, c2, rfl⟩ := own_shape' ho2
      have HFIN : Hid (ReachedPost (fromL d ns es) u w (.returned (.slice a2 k c2)) w2) := Lib.hid (by
        have hsl : (sortI o).length = k := by rw [sortI_len]; exact HNO.out.symm
        refine ⟨_, sortI o, rfl, by rw [hsl]; exact own_lower ho2 (by omega), fun y => ?_, by rw [hsl]; omega, (sortI_perm o).nodup_iff.2 HST.out.nodup, HBW.out.trans (hb2.mono (by omega))⟩
        rw [mem_sortI, ← HADJ.out]
        exact HST.out.done (by have := HNO.out; omega) y)
      clear ho2 hb2
      go_wp2_with fail
      go_ret
      exact HFIN.out

def ReachesPost (adj : Int → List Int) (u v : Int) (w : World) (e : Ending) (w' : World) : Prop :=
  ∃ b, e = .returned (.bool b) ∧ (b = true ↔ ReachA adj u v) ∧ Below w.heap.size w w'

set_option maxHeartbeats 1000000 in
theorem reaches_calls (d : Bool) (an ae : Option Addr) (n cn m ce : Nat) (ns : List Int) (es : List (Int × Int × Int)) (u v : Int) (w : World) (hn : RdI w an n ns) (hr : RdE w ae m es) (hn8 : n ≤ 500) :
    Calls Tryz.prog 143 #[.agg #[.bool d, .slice an n cn, .slice ae m ce], .int .i64 u, .int .i64 v] w (ReachesPost (fromL d ns es) u v w) := by
  have HN := Lib.hid hn; have HR := Lib.hid hr
  clear hn hr
  go_enter Tryz.func143, Tryz.ntmps143
  go_wp2_with fail
  refine (reached_calls d an ae n cn m ce ns es u _ (HN.out.alloc _) (HR.out.alloc _) hn8).mono ?_
  rintro e w1 ⟨v1, r, rfl, ho, hmem, -, -, hb1⟩
  obtain ⟨a1, c1, rfl⟩ := own_shape' ho
  have HB1 : Hid (Below w.heap.size w w1) := ((Below.refl w.heap.size w).alloc (Nat.le_refl _) _).trans (hb1.mono (by simp))
  have HO := Lib.hid (rdi_ownE ho); have HM := Lib.hid hmem
  clear ho hmem hb1
  go_wp2_with fail
  refine (hasInt_calls a1 r.length c1 r v w1 HO.out).mono ?_
  rintro e w2 ⟨rfl, rfl⟩
  obtain ⟨b, hb⟩ : ∃ b, hasB r v = b := ⟨_, rfl⟩
  rw [hb]
  have HBB : Hid (b = true ↔ ReachA (fromL d ns es) u v) := Lib.hid (by rw [← hb, hasB_iff]; exact HM.out v)
  clear hb
  go_wp2_with fail
  go_ret
  exact ⟨_, rfl, HBB.out, HB1.out⟩
end Go.Proofs.YtnfkbjgijelfdaaGreat
