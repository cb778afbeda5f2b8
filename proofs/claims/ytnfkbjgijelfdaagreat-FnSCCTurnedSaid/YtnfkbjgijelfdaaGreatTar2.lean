/- The closures of tarjanSCCstabilized. -/
import Derived.Test.YtnfkbjgijelfdaaGreatTar
import Derived.Test.YtnfkbjgijelfdaaGreatNodesOf
import Derived.Test.YtnfkbjgijelfdaaGreatGraphO
namespace Go.Proofs.YtnfkbjgijelfdaaGreat
open Go.RowKit

set_option maxHeartbeats 1000000 in
theorem succ1_calls {t : TypeId} {recv : Value} {fNs fFr : FuncId} {G : World → Prop} {ids : List Int} {adj : Int → List Int} (hA : GraphO t recv fNs fFr G ids adj) (bg : Nat) (x : Int) (w : World) (hx : x ∈ ids) (hg : G w) (hb : w.heap[bg]? = some (.cells #[.iface t recv] 139 (0, 0))) :
    Calls Tryz.prog 125 #[.int .i64 x, .pointer (some ⟨bg, 0, none⟩)] w (SuccPost (adj x) w) := by
  have c0 : w.cell? ⟨bg, 0, none⟩ = some (.iface t recv) := by rw [cell_of_row w _ _ _ _ (0, 0) hb]; rfl
  have HA := Lib.hid hA; have HG := Lib.hid hg; have HX := Lib.hid hx
  have m3 := hA.mFrom; have m4 := hA.aFrom; have m6 := hA.eFrom
  clear hA hg hx hb
  go_enter Tryz.func125, Tryz.ntmps125
  go_wp2_with fail
  refine (HA.out.frm w x HX.out HG.out).mono ?_
  rintro e w1 ⟨b1, rfl, hI1, hb1⟩
  have HI1 := Lib.hid hI1; have HB1 := Lib.hid hb1
  have hge1 : w.heap.size ≤ b1 := by obtain ⟨_, _, _, _, h, _⟩ := hI1; exact h
  clear hI1 hb1
  unfold iterV
  go_wp2_with fail
  have hNO1 := nodesOfG_calls w.heap.size b1 (adj x) w1 HI1.out
  unfold iterV at hNO1
  refine hNO1.mono ?_
  rintro e w2 ⟨vN, rfl, hoN, hg2, hvN⟩
  have HB2 : Hid (Below w.heap.size w w2) := Lib.hid (HB1.out.grown hg2 HB1.out.size (fun j hj => by have e1 := Option.some.inj hj; omega))
  have HON := Lib.hid hoN
  clear hNO1 hoN hg2 hvN HI1 HB1
  go_wp2_with fail
  go_ret
  exact ⟨vN, rfl, own_lower HON.out (by first | exact Nat.le_refl _ | omega), HB2.out⟩
end Go.Proofs.YtnfkbjgijelfdaaGreat
