/- Graphs as interface values in general: their nodes, and those that edges lead to. -/
import Derived.Test.YtnfkbjgijelfdaaGreatIter
import Derived.Test.YtnfkbjgijelfdaaGreatMeth
import Derived.Test.YtnfkbjgijelfdaaGreatInv
namespace Go.Proofs.YtnfkbjgijelfdaaGreat
open Go.RowKit

theorem Within.lower {B B' E : Nat} {w w' : World} (h : Within B E w w') (hB : B' ≤ B) : Within B' E w w' :=
  ⟨h.1, h.2.1, h.2.2.1, h.2.2.2.1, fun k hk => h.2.2.2.2 k (hk.imp (fun h => Nat.lt_of_lt_of_le h hB) id)⟩
theorem IsIter.lower {B B' E : Nat} {t : TypeId} {recv : Value} {fN fV : FuncId} {P : World → Option Int → List Int → Prop} (h : IsIter B E t recv fN fV P) (hB : B' ≤ B) : IsIter B' E t recv fN fV P where
  mNext := h.mNext
  aNext := h.aNext
  mNode := h.mNode
  aNode := h.aNode
  eNext := h.eNext
  eNode := h.eNode
  next := fun w c l hp => (h.next w c l hp).mono fun _ _ ⟨h1, h2, h3⟩ => ⟨h1, h2, h3.lower hB⟩
  node := fun w x l hp => (h.node w x l hp).mono fun _ _ ⟨h1, h2, h3⟩ => ⟨h1, h2, h3.lower hB⟩
  keeps := h.keeps

/-- An iterator over ns is handed back. -/
def IterRes (ns : List Int) (w : World) (e : Ending) (w' : World) : Prop :=
  ∃ (t : TypeId) (recv : Value) (fN fV : FuncId) (P : World → Option Int → List Int → Prop), e = .returned (.iface t recv) ∧ IsIter w.heap.size w'.heap.size t recv fN fV P ∧ P w' none ns ∧ Below w.heap.size w w'

theorem IterRes.of_new {ns : List Int} {w w' : World} {e : Ending} (h : NewIter ns w e w') : IterRes ns w e w' := by
  obtain ⟨bi, rfl, hit, hb⟩ := h
  exact ⟨_, _, _, _, _, rfl, ordered_isIter w.heap.size w'.heap.size bi ns hit.lt, ⟨0, hit, rfl, fun x hx => by cases hx⟩, hb⟩

/-- A graph behind an interface value: its nodes ids, from x to adj x. -/
structure GraphV (t : TypeId) (recv : Value) (fNs fFr : FuncId) (G : World → Prop) (ids : List Int) (adj : Int → List Int) : Prop where
  mNodes : ∀ w, (method 393 t recv "Nodes").run Tryz.prog w = .ok (fNs, recv) w
  aNodes : ∀ w, (nilAhead 393 t recv "Nodes").run Tryz.prog w = .ok (some false) w
  mFrom : ∀ w, (method 393 t recv "From").run Tryz.prog w = .ok (fFr, recv) w
  aFrom : ∀ w, (nilAhead 393 t recv "From").run Tryz.prog w = .ok (some false) w
  eNodes : ∀ args w, (callFunc fNs args).run Tryz.prog w = .ok (.enter fNs args) w
  eFrom : ∀ args w, (callFunc fFr args).run Tryz.prog w = .ok (.enter fFr args) w
  nodes : ∀ w, G w → Calls Tryz.prog fNs #[recv] w (IterRes ids w)
  frm : ∀ w x, x ∈ ids → G w → Calls Tryz.prog fFr #[recv, .int .i64 x] w (IterRes (adj x) w)
  keeps : ∀ w w', G w → Below w.heap.size w w' → G w'

end Go.Proofs.YtnfkbjgijelfdaaGreat
