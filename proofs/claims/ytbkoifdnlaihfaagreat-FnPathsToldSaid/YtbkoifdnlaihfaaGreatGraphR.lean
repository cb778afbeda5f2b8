/- Graphs behind interface values, with iterators that outlast whatever leaves their own blocks. -/
import Derived.Test.YtbkoifdnlaihfaaGreatFoot
import Derived.Test.YtbkoifdnlaihfaaGreatGraphV
import Derived.Test.YtbkoifdnlaihfaaGreatPair
namespace Go.Proofs.YtbkoifdnlaihfaaGreat
open Go.RowKit

def IterResR (ns : List Int) (w : World) (e : Ending) (w' : World) : Prop :=
  ∃ (t : TypeId) (recv : Value) (fN fV : FuncId) (P : World → Option Int → List Int → Prop), e = .returned (.iface t recv) ∧ IsIterR w.heap.size w'.heap.size t recv fN fV P ∧ P w' none ns ∧ Below w.heap.size w w'

theorem ordered_isIterR (B E bi : Nat) (ns : List Int) (hE : bi < E) : IsIterR B E 290 (.pointer (some ⟨bi, 0, none⟩)) 281 282 (ItP B bi ns) where
  it := ordered_isIter B E bi ns hE
  keepsR := fun w w' c l ⟨k, h, h1, h2⟩ hr => ⟨k, h.of_range (fun j h1 h2 => hr j h1 (by omega)), h1, h2⟩

theorem IterResR.of_new {ns : List Int} {w w' : World} {e : Ending} (h : NewIter ns w e w') : IterResR ns w e w' := by
  obtain ⟨bi, rfl, hit, hb⟩ := h
  exact ⟨_, _, _, _, _, rfl, ordered_isIterR w.heap.size w'.heap.size bi ns hit.lt, ⟨0, hit, rfl, fun x hx => by cases hx⟩, hb⟩

/-- A graph behind an interface value: its nodes ids, from x to adj x. -/
structure GraphR (t : TypeId) (recv : Value) (fNs fFr : FuncId) (G : World → Prop) (ids : List Int) (adj : Int → List Int) : Prop where
  mNodes : ∀ w, (method 408 t recv "Nodes").run Tryz.prog w = .ok (fNs, recv) w
  aNodes : ∀ w, (nilAhead 408 t recv "Nodes").run Tryz.prog w = .ok (some false) w
  mFrom : ∀ w, (method 408 t recv "From").run Tryz.prog w = .ok (fFr, recv) w
  aFrom : ∀ w, (nilAhead 408 t recv "From").run Tryz.prog w = .ok (some false) w
  eNodes : ∀ args w, (callFunc fNs args).run Tryz.prog w = .ok (.enter fNs args) w
  eFrom : ∀ args w, (callFunc fFr args).run Tryz.prog w = .ok (.enter fFr args) w
  nodes : ∀ w, G w → Calls Tryz.prog fNs #[recv] w (IterResR ids w)
  frm : ∀ w x, x ∈ ids → G w → Calls Tryz.prog fFr #[recv, .int .i64 x] w (IterResR (adj x) w)
  keeps : ∀ w w', G w → Below w.heap.size w w' → G w'
  closed : ∀ w x y, G w → x ∈ ids → y ∈ adj x → y ∈ ids

theorem uGraphR (bp : Nat) (ids : List Int) (out inn : List Arcs) : GraphR 96 (.agg #[.pointer (some ⟨bp, 0, none⟩)]) 264 261 (Gr bp ids out inn) ids (nextL ids out) where mNodes := um_Nodes _; aNodes := ua_Nodes _; mFrom := um_From _; aFrom := ua_From _; eNodes := Tryz.call264; eFrom := Tryz.call261; nodes := fun w h => (uNodes_calls bp ids out inn w h).mono fun _ _ h => IterResR.of_new h; frm := fun w x hx h => (uFrom_calls bp ids out inn x hx w h).mono fun _ _ h => IterResR.of_new h; keeps := fun _ _ h hb => h.later hb; closed := fun _ _ _ h hx hy => h.mem_out hx hy
theorem dGraphR (bp : Nat) (ids : List Int) (out inn : List Arcs) : GraphR 73 (.agg #[.pointer (some ⟨bp, 0, none⟩)]) 233 229 (Gr bp ids out inn) ids (nextL ids out) where mNodes := dm_Nodes _; aNodes := da_Nodes _; mFrom := dm_From _; aFrom := da_From _; eNodes := Tryz.call233; eFrom := Tryz.call229; nodes := fun w h => (dNodes_calls bp ids out inn w h).mono fun _ _ h => IterResR.of_new h; frm := fun w x hx h => (dFrom_calls bp ids out inn x hx w h).mono fun _ _ h => IterResR.of_new h; keeps := fun _ _ h hb => h.later hb; closed := fun _ _ _ h hx hy => h.mem_out hx hy

end Go.Proofs.YtbkoifdnlaihfaaGreat
