/- Graphs behind interface values, whose iterators are ordered nodes. -/
import Derived.Test.YtnfkbjgijelfdaaGreatMeth
import Derived.Test.YtnfkbjgijelfdaaGreatInv
namespace Go.Proofs.YtnfkbjgijelfdaaGreat
open Go.RowKit

/-- A graph behind an interface value, whose iterators are ordered nodes. -/
structure GraphO (t : TypeId) (recv : Value) (fNs fFr : FuncId) (G : World → Prop) (ids : List Int) (adj : Int → List Int) : Prop where
  mNodes : ∀ w, (method 393 t recv "Nodes").run Tryz.prog w = .ok (fNs, recv) w
  aNodes : ∀ w, (nilAhead 393 t recv "Nodes").run Tryz.prog w = .ok (some false) w
  mFrom : ∀ w, (method 393 t recv "From").run Tryz.prog w = .ok (fFr, recv) w
  aFrom : ∀ w, (nilAhead 393 t recv "From").run Tryz.prog w = .ok (some false) w
  eNodes : ∀ args w, (callFunc fNs args).run Tryz.prog w = .ok (.enter fNs args) w
  eFrom : ∀ args w, (callFunc fFr args).run Tryz.prog w = .ok (.enter fFr args) w
  nodes : ∀ w, G w → Calls Tryz.prog fNs #[recv] w (NewIter ids w)
  frm : ∀ w x, x ∈ ids → G w → Calls Tryz.prog fFr #[recv, .int .i64 x] w (NewIter (adj x) w)
  keeps : ∀ w w', G w → Below w.heap.size w w' → G w'

theorem GraphO.congr {t : TypeId} {recv : Value} {fNs fFr : FuncId} {G : World → Prop} {ids : List Int} {adj adj' : Int → List Int} (h : GraphO t recv fNs fFr G ids adj) (e : ∀ x ∈ ids, adj' x = adj x) : GraphO t recv fNs fFr G ids adj' :=
  ⟨h.mNodes, h.aNodes, h.mFrom, h.aFrom, h.eNodes, h.eFrom, h.nodes, fun w x hx hg => by rw [e x hx]; exact h.frm w x hx hg, h.keeps⟩
theorem uGraphO (bp : Nat) (ids : List Int) (out inn : List Arcs) : GraphO 219 (.agg #[.pointer (some ⟨bp, 0, none⟩)]) 235 232 (Gr bp ids out inn) ids (nextL ids out) where
  mNodes := um_Nodes _
  aNodes := ua_Nodes _
  mFrom := um_From _
  aFrom := ua_From _
  eNodes := Tryz.call235
  eFrom := Tryz.call232
  nodes := fun w h => uNodes_calls bp ids out inn w h
  frm := fun w x hx h => uFrom_calls bp ids out inn x hx w h
  keeps := fun _ _ h hb => h.later hb
theorem dGraphO (bp : Nat) (ids : List Int) (out inn : List Arcs) : GraphO 72 (.agg #[.pointer (some ⟨bp, 0, none⟩)]) 217 215 (Gr bp ids out inn) ids (nextL ids out) where
  mNodes := dm_Nodes _
  aNodes := da_Nodes _
  mFrom := dm_From _
  aFrom := da_From _
  eNodes := Tryz.call217
  eFrom := Tryz.call215
  nodes := fun w h => dNodes_calls bp ids out inn w h
  frm := fun w x hx h => dFrom_calls bp ids out inn x hx w h
  keeps := fun _ _ h hb => h.later hb
end Go.Proofs.YtnfkbjgijelfdaaGreat
