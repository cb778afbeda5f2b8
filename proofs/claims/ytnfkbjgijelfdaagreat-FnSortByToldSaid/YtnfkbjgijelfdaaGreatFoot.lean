/- What a step may have changed: of the blocks that were there none but those of a set. -/
import Derived.Test.YtnfkbjgijelfdaaGreatIter
import Derived.Test.YtnfkbjgijelfdaaGreatGMaps
import Derived.Test.YtnfkbjgijelfdaaGreatReadMem
namespace Go.Proofs.YtnfkbjgijelfdaaGreat
open Go.RowKit

structure Foot (S : Nat → Prop) (w w' : World) : Prop where
  os : w'.os = w.os
  tape : w'.tape = w.tape
  output : w'.output = w.output
  size : w.heap.size ≤ w'.heap.size
  block : ∀ b, b < w.heap.size → ¬ S b → w'.heap[b]? = w.heap[b]?

theorem Foot.refl (S : Nat → Prop) (w : World) : Foot S w w := ⟨rfl, rfl, rfl, Nat.le_refl _, fun _ _ _ => rfl⟩
theorem Foot.trans {S S' : Nat → Prop} {a b c : World} (h : Foot S a b) (g : Foot S' b c) (hs : ∀ j, S' j → S j ∨ a.heap.size ≤ j) : Foot S a c :=
  ⟨g.os.trans h.os, g.tape.trans h.tape, g.output.trans h.output, Nat.le_trans h.size g.size, fun j hj hn =>
    (g.block j (Nat.lt_of_lt_of_le hj h.size) (fun hS => by rcases hs j hS with h1 | h1; exact hn h1; omega)).trans (h.block j hj hn)⟩
theorem Foot.mono {S S' : Nat → Prop} {w w' : World} (h : Foot S w w') (hs : ∀ j, S j → S' j) : Foot S' w w' :=
  ⟨h.os, h.tape, h.output, h.size, fun j hj hn => h.block j hj (fun hS => hn (hs j hS))⟩
theorem Foot.of_below {w w' : World} (h : Below w.heap.size w w') (S : Nat → Prop) : Foot S w w' := ⟨h.os, h.tape, h.output, h.size, fun j hj _ => h.block j hj⟩
theorem Foot.of_grown {w w' : World} {b : Nat} (h : w.grownBy w' (some b)) : Foot (· = b) w w' := ⟨h.os, h.tape, h.output, h.size, fun j hj hn => h.block j hj (fun e => hn (Option.some.inj e))⟩
theorem Foot.of_row {w w' : World} {r : Option Nat} (h : w.grownBy w' r) : Foot (fun j => some j = r) w w' := ⟨h.os, h.tape, h.output, h.size, fun j hj hn => h.block j hj hn⟩
theorem Foot.of_within {B E : Nat} {w w' : World} (h : Within B E w w') : Foot (fun j => B ≤ j ∧ j < E) w w' :=
  ⟨h.1, h.2.1, h.2.2.1, h.2.2.2.1, fun j hj hn => h.2.2.2.2 j (by omega)⟩
theorem Foot.below {S : Nat → Prop} {w w' : World} {B : Nat} (h : Foot S w w') (hB : ∀ j, S j → B ≤ j) (hw : B ≤ w.heap.size) : Below B w w' :=
  ⟨h.os, h.tape, h.output, h.size, fun j hj => h.block j (by omega) (fun hS => by have := hB j hS; omega)⟩
theorem Foot.setCell {S : Nat → Prop} {w w' : World} (h : Foot S w w') (b j : Nat) (v : Value) (hb : S b ∨ w.heap.size ≤ b) : Foot S w (w'.setCell ⟨b, j, none⟩ v) :=
  ⟨h.os, h.tape, h.output, by simpa [World.setCell] using h.size, fun k hk hn => (Below.heap_setCell _ _ _ _ (fun e => by subst e; rcases hb with h1 | h1; exact hn h1; omega)).trans (h.block k hk hn)⟩
theorem Foot.row {S : Nat → Prop} {w w' : World} (h : Foot S w w') {base : Nat} {e : TypeId} {size : Nat} {v : Value} {n : Nat} {xs : List Value} (ho : w.ownsRow base e size v n xs) (hn : ∀ g, v.ownBlock = some g → ¬ S g) : w'.ownsRow base e size v n xs :=
  ownsRow_of_heap ho fun g hg => h.block g (ho.lt g hg).2 (hn g hg)
theorem Foot.gm {S : Nat → Prop} {w w' : World} (h : Foot S w w') {P : Program} {k : TypeId} {b n : Nat} {f : Int → Option Value} (hm : GM P k w b n f) (hn : ¬ S b) : GM P k w' b n f :=
  hm.of_heap (h.block b hm.lt hn)
theorem Foot.cell {S : Nat → Prop} {w w' : World} (h : Foot S w w') {b j : Nat} {v : Value} (hc : w.cell? ⟨b, j, none⟩ = some v) (hn : ¬ S b) : w'.cell? ⟨b, j, none⟩ = some v :=
  (World.cell?_of_block (h.block b (World.block_lt_of_cell? w _ hc) hn)).trans hc

/-- An iterator that outlasts whatever leaves its own blocks. -/
structure IsIterR (B E : Nat) (t : TypeId) (recv : Value) (fN fV : FuncId) (P : World → Option Int → List Int → Prop) : Prop where
  it : IsIter B E t recv fN fV P
  keepsR : ∀ w w' c l, P w c l → (∀ k, B ≤ k → k < E → w'.heap[k]? = w.heap[k]?) → P w' c l

theorem IsIterR.foot {B E : Nat} {t : TypeId} {recv : Value} {fN fV : FuncId} {P : World → Option Int → List Int → Prop} (h : IsIterR B E t recv fN fV P) {w w' : World} {c : Option Int} {l : List Int} (hp : P w c l) {S : Nat → Prop} (hf : Foot S w w') (hE : E ≤ w.heap.size) (hS : ∀ j, S j → j < B ∨ E ≤ j) : P w' c l :=
  h.keepsR w w' c l hp fun k h1 h2 => hf.block k (by omega) (fun hs => by have := hS k hs; omega)
end Go.Proofs.YtnfkbjgijelfdaaGreat
