/- An append onto a slice that has no room: a new block. -/
import Derived.Test.YtnfkbjgijelfdaaGreatMem
import Derived.Deep.AppendSrc
import Derived.Deep.AppendLies
import Derived.Lib.AppendZeros
namespace Go.Proofs.YtnfkbjgijelfdaaGreat
open Go.RowKit

theorem run_append_full {P : Program} (w : World) (t ty e : TypeId) (i : TypeInfo) (z : Value) (bytes : Nat) (ht : P.underlying t = some (.slice e)) (hi : P.info? e = some i) (hz : i.zero = some z) (hsize : i.size = 1) (hby : i.bytes = bytes) (hzs : z.cells.size = 1)
    (base : Option Addr) (k : Nat) (olds : List Value) (hlo : olds.length = k) (hold : k = 0 ∨ ∃ b, base = some b ∧ ∀ (j : Nat) (v : Value), olds[j]? = some v → w.cell? (b.add j) = some v)
    (ad : Addr) (m c : Nat) (news : List Value) (hl : news.length = m) (hnews : ∀ (j : Nat) (u : Value), news[j]? = some u → w.cell? (ad.add j) = some u) (h1 : ∀ u ∈ news, u.oneCell' = true) (hm : 0 < m) (hmax : k + m ≤ 1000000) (hb : bytes ≤ 64) :
    ∃ cap w', (Builtin.append_ #[t, t] ty #[.slice base k k, .slice (some ad) m c]).run P w = .ok (.slice (some ⟨w.heap.size, 0, none⟩) (k + m) cap) w' ∧
      w'.ownsRow w.heap.size e 1 (.slice (some ⟨w.heap.size, 0, none⟩) (k + m) cap) (k + m) (olds ++ news) ∧ Below w.heap.size w w' := by
  have hs : Src P i.size t (.slice (some ad) m c) m news w := Src.ofSlice w ht ad m c news (by rw [hl, hsize, Nat.mul_one]) hnews h1
  have hfc : (Builtin.firstCells i.size k (.slice base k k)).run P w.drew = .ok olds.toArray w.drew := by
    rcases hold with h0 | ⟨b, rfl, hc⟩
    · subst h0
      obtain rfl : olds = [] := List.eq_nil_of_length_eq_zero hlo
      cases base with
      | none => exact run_firstCells_none w.drew i.size 0 0 0
      | some b => exact run_firstCells_some w.drew i.size 0 b 0 0 [] (by simp) (by intro j v h; simp at h)
    · exact run_firstCells_some w.drew i.size k b k k olds (by rw [hlo, hsize, Nat.mul_one]) (by simpa using hc)
  have hcap : Builtin.nextslicecap (k + m) k ≤ 2 * (k + m) := nextslicecap_le (by omega)
  have hfit : Builtin.nextslicecap (k + m) k * i.bytes ≤ 281474976710656 := by
    rw [hby]
    exact Nat.le_trans (Nat.mul_le_mul hcap hb) (by omega)
  have hr := run_append_grow_src (P := P) w t t ty e i z ht hi hz base k k olds hfc (.slice (some ad) m c) m news hs (by omega) (by omega) hfit
  have hge := grownCap_ge w (k + m) k e
  have hcm : grownCap w (k + m) k e ≤ maxLen := grownCap_le_maxLen w (k + m) k e (by unfold maxLen; omega)
  refine ⟨_, _, hr, ⟨by simp [hlo, hl], .inr ⟨w.heap.size, _, _, rfl, Nat.le_refl _, heap_alloc_new w.drew _, hge, hcm, ?_, ?_⟩⟩, ⟨rfl, rfl, rfl, by simp, fun j hj => heap_alloc_old w.drew _ hj⟩⟩
  · simp only [Array.size_append, List.size_toArray, List.length_append, size_zeroCells, hzs, hlo, hl]
    omega
  · simp only [Array.toList_append]
    rw [List.take_left' (by simp [hlo, hl])]

theorem wpList_append_full {P : Program} (w : World) {ops : Array Oper} {rest : List Oper} {o : Oper} {a : Act} {Q : Exit → Act → World → Prop} (hgd : o.guard = none) (s x : Operand) (t : TypeId)
    (ho : o.op = .call { callee := .builtin .append, args := #[s, x], argTypes := #[t, t] }) (e : TypeId) (i : TypeInfo) (z : Value) (bytes : Nat) (ht : P.underlying t = some (.slice e)) (hi : P.info? e = some i) (hz : i.zero = some z) (hsize : i.size = 1) (hby : i.bytes = bytes) (hzs : z.cells.size = 1)
    (base : Option Addr) (k : Nat) (olds : List Value) (hs : a.eval s = .slice base k k) (hlo : olds.length = k) (hold : k = 0 ∨ ∃ b, base = some b ∧ ∀ (j : Nat) (v : Value), olds[j]? = some v → w.cell? (b.add j) = some v)
    (ad : Addr) (m c : Nat) (news : List Value) (hx : a.eval x = .slice (some ad) m c) (hl : news.length = m) (hnews : ∀ (j : Nat) (u : Value), news[j]? = some u → w.cell? (ad.add j) = some u) (h1 : ∀ u ∈ news, u.oneCell' = true) (hm : 0 < m) (hmax : k + m ≤ 1000000) (hb : bytes ≤ 64)
    (h : ∀ cap w', w'.ownsRow w.heap.size e 1 (.slice (some ⟨w.heap.size, 0, none⟩) (k + m) cap) (k + m) (olds ++ news) → Below w.heap.size w w' → wpList P ops Q rest (a.put o.dst (.slice (some ⟨w.heap.size, 0, none⟩) (k + m) cap)) w') : wpList P ops Q (o :: rest) a w := by
  obtain ⟨cap, w', hr, h2, h3⟩ := run_append_full (P := P) w t o.type e i z bytes ht hi hz hsize hby hzs base k olds hlo hold ad m c news hl hnews h1 hm hmax hb
  exact Lib.wpList_append_run w hgd s x t t ho _ _ hs hx _ _ hr (h cap w' h2 h3)

theorem step_append_full {P : Program} (w : World) {ops : Array Oper} {o : Oper} {a : Act} {K : Act → World → Prop} {Q : Exit → Act → World → Prop} {E : Prop} (hgd : o.guard = none) (s x : Operand) (t : TypeId)
    (ho : o.op = .call { callee := .builtin .append, args := #[s, x], argTypes := #[t, t] }) (e : TypeId) (i : TypeInfo) (z : Value) (bytes : Nat) (ht : P.underlying t = some (.slice e)) (hi : P.info? e = some i) (hz : i.zero = some z) (hsize : i.size = 1) (hby : i.bytes = bytes) (hzs : z.cells.size = 1)
    (base : Option Addr) (k : Nat) (olds : List Value) (hs : a.eval s = .slice base k k) (hlo : olds.length = k) (hold : k = 0 ∨ ∃ b, base = some b ∧ ∀ (j : Nat) (v : Value), olds[j]? = some v → w.cell? (b.add j) = some v)
    (ad : Addr) (m c : Nat) (news : List Value) (hx : a.eval x = .slice (some ad) m c) (hl : news.length = m) (hnews : ∀ (j : Nat) (u : Value), news[j]? = some u → w.cell? (ad.add j) = some u) (h1 : ∀ u ∈ news, u.oneCell' = true) (hm : 0 < m) (hmax : k + m ≤ 1000000) (hb : bytes ≤ 64) (H : Nat) (hH : w.heap.size = H)
    (h : ∀ cap w', w'.ownsRow H e 1 (.slice (some ⟨H, 0, none⟩) (k + m) cap) (k + m) (olds ++ news) → Below H w w' → K (a.put o.dst (.slice (some ⟨H, 0, none⟩) (k + m) cap)) w') :
    if Region.wanted o (yielded ops a.tmps) = true then Oper.wp P o a w K Q else E := by
  have hw : Region.wanted o (yielded ops a.tmps) = true := by simp [Region.wanted, hgd]
  rw [if_pos hw]
  subst hH
  obtain ⟨cap, w', hr, h2, h3⟩ := run_append_full (P := P) w t o.type e i z bytes ht hi hz hsize hby hzs base k olds hlo hold ad m c news hl hnews h1 hm hmax hb
  exact Lib.wp_append_run w s x t t ho _ _ hs hx _ _ hr (h cap w' h2 h3)

/-- An append onto a slice that the call owns, of whatever length. -/
theorem step_append_any {P : Program} (w : World) {ops : Array Oper} {o : Oper} {a : Act} {K : Act → World → Prop} {Q : Exit → Act → World → Prop} {E : Prop} (hgd : o.guard = none) (s x : Operand) (t : TypeId)
    (ho : o.op = .call { callee := .builtin .append, args := #[s, x], argTypes := #[t, t] }) (base : Nat) (e : TypeId) (i : TypeInfo) (z : Value) (bytes : Nat) (ht : P.underlying t = some (.slice e)) (hi : P.info? e = some i) (hz : i.zero = some z) (hsize : i.size = 1) (hby : i.bytes = bytes) (hzs : z.cells.size = 1)
    (v : Value) (n : Nat) (xs : List Value) (hs : a.eval s = v) (hown : w.ownsRow base e 1 v n xs) (hn : 0 < n)
    (ad : Addr) (m c : Nat) (news : List Value) (hx : a.eval x = .slice (some ad) m c) (hl : news.length = m) (hnews : ∀ (j : Nat) (u : Value), news[j]? = some u → w.cell? (ad.add j) = some u) (h1 : ∀ u ∈ news, u.oneCell' = true) (hmax : n + m ≤ 1000000) (hb : bytes ≤ 64) (hbase : base ≤ w.heap.size)
    (h : ∀ g cap w', w'.ownsRow base e 1 (.slice (some ⟨g, 0, none⟩) (n + m) cap) (n + m) (xs ++ news) → Below base w w' → base ≤ g → g < w'.heap.size → K (a.put o.dst (.slice (some ⟨g, 0, none⟩) (n + m) cap)) w') :
    if Region.wanted o (yielded ops a.tmps) = true then Oper.wp P o a w K Q else E := by
  have hw : Region.wanted o (yielded ops a.tmps) = true := by simp [Region.wanted, hgd]
  rw [if_pos hw]
  obtain ⟨v', w', hr, h2, h3, _, _⟩ := run_append_own_at (P := P) w base t o.type e i z 1 bytes ht hi hz hsize hby hzs (by decide) v n xs hown ad m c news (by omega) hnews h1 (by unfold maxLen; omega) (by
    have := Nat.mul_le_mul hmax hb; omega) hbase
  obtain ⟨g, cap, rfl, hg1, hg2⟩ := h2.form (by omega)
  exact Lib.wp_append_run w s x t t ho _ _ hs hx _ _ hr (h g cap w' h2 ((Below.refl base w).grown h3 hbase (fun j hj => (hown.lt j hj).1)) hg1 hg2)

/-- An append of nothing. -/
theorem step_append_none {P : Program} (w : World) {ops : Array Oper} {o : Oper} {a : Act} {K : Act → World → Prop} {Q : Exit → Act → World → Prop} {E : Prop} (hgd : o.guard = none) (s x : Operand) (t : TypeId)
    (ho : o.op = .call { callee := .builtin .append, args := #[s, x], argTypes := #[t, t] }) (e : TypeId) (i : TypeInfo) (ht : P.underlying t = some (.slice e)) (hi : P.info? e = some i)
    (b : Addr) (n c : Nat) (hs : a.eval s = .slice (some b) n c) (hc : n ≤ c) (hx : a.eval x = .slice none 0 0) (h : K (a.put o.dst (.slice (some b) n c)) w) :
    if Region.wanted o (yielded ops a.tmps) = true then Oper.wp P o a w K Q else E := by
  have hw : Region.wanted o (yielded ops a.tmps) = true := by simp [Region.wanted, hgd]
  rw [if_pos hw]
  have hr : (Builtin.append_ #[t, t] o.type #[.slice (some b) n c, .slice none 0 0]).run P w = .ok (.slice (some b) n c) w := by
    simp [Builtin.append_, run_underlying ht, sizeOf, typeInfo, hi, Builtin.lenOf, Builtin.firstCells, loadCells, hc, storeCells]
  exact Lib.wp_append_run w s x t t ho _ _ hs hx _ _ hr h
end Go.Proofs.YtnfkbjgijelfdaaGreat
