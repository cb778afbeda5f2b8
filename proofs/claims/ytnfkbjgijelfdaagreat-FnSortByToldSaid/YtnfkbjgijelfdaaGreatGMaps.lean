/- Maps with int64 keys and elements of any kind, of the call's own: read as functions from keys to values. -/
import Derived.Maps.OwnSet
import Derived.Maps.Keyed
import Derived.Below
import Derived.Deep.Draws
import Derived.Deep.AppendLies
namespace Go.Proofs.YtnfkbjgijelfdaaGreat
open Go.RowKit
open Go.Maps (Keyed has)

/-- An element is held as it is. -/
def heldR (v : Value) : Option (DataW Value × List MemPlace) := some (.held v, [])
theorem key64 {P : Program} {k : TypeId} (hk : P.underlying k = some (.int .i64)) {x : Int} (hx : (Lit.int .i64 x).wf = true) : keyOf P k (.int .i64 x) = some (.int .i64 x) := by simp [keyOf, mapKey, hk, hx]
theorem isKey64 (x : Int) : WideAt.IsKeyLit (.int .i64 x) := by first | trivial | simp [WideAt.IsKeyLit]

/-- Block b is a map of at most n entries that says what f says. -/
def GM (P : Program) (k : TypeId) (w : World) (b n : Nat) (f : Int → Option Value) : Prop :=
  ∃ D : DataW Value, w.ownsMap P k heldR b n D ∧ ∀ x : Int, has D (.int .i64 x) = (f x).isSome ∧ ∀ z, D.atKey (.int .i64 x) (.held z) = .held ((f x).getD z)

/-- f, but v at y. -/
def upd (f : Int → Option Value) (y : Int) (v : Value) : Int → Option Value := fun z => if z = y then some v else f z
/-- f, without y. -/
def cut (f : Int → Option Value) (y : Int) : Int → Option Value := fun z => if z = y then none else f z

section
variable {P : Program} {k e t : TypeId} {w : World} {b n : Nat} {f : Int → Option Value}
theorem GM.made (w : World) (P : Program) (k : TypeId) : GM P k (w.alloc (.map #[] 0)) w.heap.size 0 (fun _ => none) :=
  ⟨_, World.ownsMap_made w P k _, fun _ => ⟨rfl, fun _ => rfl⟩⟩
theorem GM.lt (h : GM P k w b n f) : b < w.heap.size := h.elim fun _ h => h.1.lt
theorem GM.kept {w' : World} {row : Option Nat} (h : GM P k w b n f) (hg : w.grownBy w' row) (hne : some b ≠ row) : GM P k w' b n f := by
  obtain ⟨D, h1, h2⟩ := h
  exact ⟨D, h1.kept hg hne, h2⟩
theorem GM.alloc (h : GM P k w b n f) (o : Obj) : GM P k (w.alloc o) b n f := h.kept (World.grownBy_alloc w o none) (by simp)
theorem GM.below {w' : World} (h : GM P k w b n f) (hb : Below w.heap.size w w') : GM P k w' b n f :=
  h.kept (row := none) ⟨hb.os, hb.tape, hb.output, hb.size, fun k hk _ => hb.block k hk⟩ (by simp)
theorem GM.of_heap {w' : World} (h : GM P k w b n f) (e : w'.heap[b]? = w.heap[b]?) : GM P k w' b n f := by
  obtain ⟨D, ⟨es, clock, h1, h2⟩, h3⟩ := h
  exact ⟨D, ⟨es, clock, e.trans h1, h2⟩, h3⟩
theorem GM.mono {n' : Nat} (h : GM P k w b n f) (hn : n ≤ n') : GM P k w b n' f := by
  obtain ⟨D, h1, h2⟩ := h
  exact ⟨D, h1.mono hn, h2⟩
theorem GM.congr {g : Int → Option Value} (h : GM P k w b n f) (e : ∀ x, g x = f x) : GM P k w b n g := by
  obtain rfl : g = f := funext e
  exact h

theorem GM.look (h : GM P k w b n f) (hk : P.underlying k = some (.int .i64)) (ht : P.underlying t = some (.map k e)) {z : Value} (hz : (zeroValue e).run P w = .ok z w) {y : Int} (hy : (Lit.int .i64 y).wf = true) :
    (Instr.lookup t (.map (some b)) (.int .i64 y) false).run P w = .ok ((f y).getD z) w := by
  obtain ⟨D, h1, h2⟩ := h
  obtain ⟨v, ps, hrun, hv⟩ := h1.lookup (Maps.int_keyed hk) ht hz (zd := .held z) (zp := []) rfl (key64 hk hy)
  rw [(h2 y).2 z] at hv
  simp only [heldR, Option.some.injEq, Prod.mk.injEq, DataW.held.injEq] at hv
  rw [hrun, hv.1]

theorem GM.look_ok (h : GM P k w b n f) (hk : P.underlying k = some (.int .i64)) (ht : P.underlying t = some (.map k e)) {z : Value} (hz : (zeroValue e).run P w = .ok z w) {y : Int} (hy : (Lit.int .i64 y).wf = true) :
    (Instr.lookup t (.map (some b)) (.int .i64 y) true).run P w = .ok (.tuple #[(f y).getD z, .bool (f y).isSome]) w := by
  obtain ⟨D, h1, h2⟩ := h
  obtain ⟨v, ps, hrun, hv⟩ := h1.look_ok (Maps.int_keyed hk) ht hz (zd := .held z) (zp := []) rfl (key64 hk hy)
  rw [(h2 y).2 z] at hv
  simp only [heldR, Option.some.injEq, Prod.mk.injEq, DataW.held.injEq] at hv
  rw [hrun, hv.1, (h2 y).1]

theorem GM.put_fun {D : DataW Value} (hm : Maps.IsMap D) (h2 : ∀ x : Int, has D (.int .i64 x) = (f x).isSome ∧ ∀ z, D.atKey (.int .i64 x) (.held z) = .held ((f x).getD z)) (y : Int) (v : Value) :
    ∀ x : Int, has (D.put (.int .i64 y) (.held v)) (.int .i64 x) = (upd f y v x).isSome ∧ ∀ z, (D.put (.int .i64 y) (.held v)).atKey (.int .i64 x) (.held z) = .held ((upd f y v x).getD z) := by
  intro x
  unfold upd
  by_cases hxy : x = y
  · subst hxy
    rw [if_pos rfl]
    exact ⟨Maps.has_put_same hm (isKey64 x) _, fun z => Maps.atKey_put_same hm (isKey64 x) _ _⟩
  · have hne : (Lit.int .i64 x) ≠ .int .i64 y := by simpa using hxy
    rw [if_neg hxy]
    exact ⟨(Maps.has_put_other hne _).trans (h2 x).1, fun z => (Maps.atKey_put_other hne _ _).trans ((h2 x).2 z)⟩

theorem GM.set (h : GM P k w b n f) (hk : P.underlying k = some (.int .i64)) (ht : P.underlying t = some (.map k e)) (hn : n < maxLen) {y : Int} (hy : (Lit.int .i64 y).wf = true) (v : Value) :
    ∃ w', (Instr.mapUpdate t (.map (some b)) (.int .i64 y) v).run P w = .ok () w' ∧ GM P k w' b (n + 1) (upd f y v) ∧ w.grownBy w' (some b) := by
  obtain ⟨D, h1, h2⟩ := h
  obtain ⟨w', hrun, h3, h4⟩ := h1.update (Maps.int_keyed hk) ht hn (key64 hk hy) (val := v) (d := .held v) (ps := []) rfl
  exact ⟨w', hrun, ⟨_, h3, GM.put_fun h1.isMap h2 y v⟩, h4⟩

/-- The store, behind whatever draws. -/
theorem GM.sets (h : GM P k w b n f) (hk : P.underlying k = some (.int .i64)) (ht : P.underlying t = some (.map k e)) (hn : n < maxLen) {y : Int} (hy : (Lit.int .i64 y).wf = true) (v : Value) :
    ∃ W : Nat → World, ∀ m, (Instr.mapUpdate t (.map (some b)) (.int .i64 y) v).run P (w.drewN m) = .ok () (W m) ∧ GM P k (W m) b (n + 1) (upd f y v) ∧ w.grownBy (W m) (some b) := by
  have key : ∀ m, ∃ w' : World, (Instr.mapUpdate t (.map (some b)) (.int .i64 y) v).run P (w.drewN m) = .ok () w' ∧ GM P k w' b (n + 1) (upd f y v) ∧ w.grownBy w' (some b) := fun m => by
    obtain ⟨w', h1, h2, h3⟩ := (h.of_heap (w' := w.drewN m) rfl).set hk ht hn hy v
    exact ⟨w', h1, h2, h3.os, h3.tape, h3.output, h3.size, h3.block⟩
  exact ⟨fun m => Classical.choose (key m), fun m => Classical.choose_spec (key m)⟩
theorem grownBy_cells {w : World} {W : Nat → World} {bm : Nat} (h : ∀ m, w.grownBy (W m) (some bm)) {b j : Nat} {v : Value} (hc : w.cell? ⟨b, j, none⟩ = some v) (hne : b ≠ bm) : ∀ m, (W m).cell? ⟨b, j, none⟩ = some v := fun m => by
  have hb : b < w.heap.size := World.block_lt_of_cell? w _ hc
  rw [(h m).cell_far _ hb (by simpa using hne)]; exact hc
end

section
variable {P : Program} (w : World) {ops : Array Oper} {rest : List Oper} {o : Oper} {a : Act} {Q : Exit → Act → World → Prop} {K : Act → World → Prop} {E : Prop}

theorem wp_gm_set (m x v : Operand) (t : TypeId) (hop : o.op = Op.mapUpdate t m x v)
    (k e : TypeId) (hk : P.underlying k = some (.int .i64)) (ht : P.underlying t = some (.map k e)) (b n : Nat) (f : Int → Option Value)
    (hm : a.eval m = .map (some b)) (hown : GM P k w b n f) (hn : n < maxLen) (y : Int) (c : Value) (hx : a.eval x = .int .i64 y) (hwf : (Lit.int .i64 y).wf = true) (hv : a.eval v = c)
    (hK : ∀ w', GM P k w' b (n + 1) (upd f y c) → w.grownBy w' (some b) → K (a.put o.dst undef) w') : Oper.wp P o a w K Q := by
  obtain ⟨w', hrun, h1, h2⟩ := hown.set hk ht hn hwf c
  unfold Oper.wp
  simp [execOp, hop, hm, hx, hv, hrun, Result.andThen]
  exact hK _ h1 h2

theorem wpList_gm_set (hg : o.guard = none) (m x v : Operand) (t : TypeId) (hop : o.op = Op.mapUpdate t m x v)
    (k e : TypeId) (hk : P.underlying k = some (.int .i64)) (ht : P.underlying t = some (.map k e)) (b n : Nat) (f : Int → Option Value)
    (hm : a.eval m = .map (some b)) (hown : GM P k w b n f) (hn : n < maxLen) (y : Int) (c : Value) (hx : a.eval x = .int .i64 y) (hwf : (Lit.int .i64 y).wf = true) (hv : a.eval v = c)
    (hK : ∀ w', GM P k w' b (n + 1) (upd f y c) → w.grownBy w' (some b) → wpList P ops Q rest (a.put o.dst undef) w') :
    wpList P ops Q (o :: rest) a w :=
  wpList_plain hg fun _ hK' => wp_gm_set w m x v t hop k e hk ht b n f hm hown hn y c hx hwf hv fun w' h1 h2 => hK' _ _ (hK w' h1 h2)

theorem step_gm_set (hg : o.guard = none) (m x v : Operand) (t : TypeId) (hop : o.op = Op.mapUpdate t m x v)
    (k e : TypeId) (hk : P.underlying k = some (.int .i64)) (ht : P.underlying t = some (.map k e)) (b n : Nat) (f : Int → Option Value)
    (hm : a.eval m = .map (some b)) (hown : GM P k w b n f) (hn : n < maxLen) (y : Int) (c : Value) (hx : a.eval x = .int .i64 y) (hwf : (Lit.int .i64 y).wf = true) (hv : a.eval v = c)
    (hK : ∀ w', GM P k w' b (n + 1) (upd f y c) → w.grownBy w' (some b) → K (a.put o.dst undef) w') :
    if Region.wanted o (yielded ops a.tmps) = true then Oper.wp P o a w K Q else E := by
  have hw : Region.wanted o (yielded ops a.tmps) = true := by simp [Region.wanted, hg]
  rw [if_pos hw]
  exact wp_gm_set w m x v t hop k e hk ht b n f hm hown hn y c hx hwf hv hK
end

end Go.Proofs.YtnfkbjgijelfdaaGreat
