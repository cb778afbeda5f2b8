/- Graphs behind interface values, whose iterators are ordered nodes. -/
import Derived.Test.YtbkhakjbmdmghaaMeth
import Derived.Test.YtbkhakjbmdmghaaInv
namespace Go.Proofs.Ytbkhakjbmdmghaa
open Go.RowKit

/-- A graph behind an interface value, whose iterators are ordered nodes. -/
structure GraphO (t : TypeId) (recv : Value) (fNs fFr : FuncId) (G : World → Prop) (ids : List Int) (adj : Int → List Int) : Prop where
  mNodes : ∀ w, (method 261 t recv "Nodes").run Try.prog w = .ok (fNs, recv) w
  aNodes : ∀ w, (nilAhead 261 t recv "Nodes").run Try.prog w = .ok (some false) w
  mFrom : ∀ w, (method 261 t recv "From").run Try.prog w = .ok (fFr, recv) w
  aFrom : ∀ w, (nilAhead 261 t recv "From").run Try.prog w = .ok (some false) w
  eNodes : ∀ args w, (callFunc fNs args).run Try.prog w = .ok (.enter fNs args) w
  eFrom : ∀ args w, (callFunc fFr args).run Try.prog w = .ok (.enter fFr args) w
  nodes : ∀ w, G w → Calls Try.prog fNs #[recv] w (NewIter ids w)
  frm : ∀ w x, x ∈ ids → G w → Calls Try.prog fFr #[recv, .int .i64 x] w (NewIter (adj x) w)
  keeps : ∀ w w', G w → Below w.heap.size w w' → G w'

theorem uGraphO (bp : Nat) (ids : List Int) (out inn : List Arcs) : GraphO 43 (.agg #[.pointer (some ⟨bp, 0, none⟩)]) 90 88 (Gr bp ids out inn) ids (nextL ids out) where
  mNodes := um_Nodes _
  aNodes := ua_Nodes _
  mFrom := um_From _
  aFrom := ua_From _
  eNodes := Try.call90
  eFrom := Try.call88
  nodes := fun w h => uNodes_calls bp ids out inn w h
  frm := fun w x hx h => uFrom_calls bp ids out inn x hx w h
  keeps := fun _ _ h hb => h.later hb
end Go.Proofs.Ytbkhakjbmdmghaa
