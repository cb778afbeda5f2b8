/- Regions that draw their order, whose late operations end what the loads read: S must hold behind all operations but the late ones. Two operations of a drawn region that may come up in either order (a call and an alloc). -/
import Derived.OrdersHeld
import Derived.StillTail
import Derived.Deep.RegionHeld
namespace Go.Proofs.YtnfkbjgijelfdaaGreat
open Go

section
variable {P : Program} {ops : Array Oper} {Q : Exit → Act → World → Prop} {md : Region.Mode} {S : World → Prop} {E : List Nat}

/-- Whatever order is picked from here on; S holds behind every operation that is not of the list E. -/
def wpAnyL (P : Program) (md : Region.Mode) (ops : Array Oper) (Q : Exit → Act → World → Prop) (S : World → Prop) (E : List Nat) : Nat → Array Bool → Act → World → Prop
  | 0, listed, a, w => Region.ready md ops listed = [] ∧ Q .normal a w
  | fuel + 1, listed, a, w => (Region.ready md ops listed = [] → Q .normal a w) ∧
    ∀ i ∈ Region.ready md ops listed, wpOp P ops Q i (fun a' w' => (i ∈ E ∨ S w') ∧ wpAnyL P md ops Q S E fuel (listed.setIfInBounds i true) a' w') a w

theorem wpAny_of_L : ∀ (fuel : Nat) (listed : Array Bool) (a : Act) (w : World), wpAnyL P md ops Q S E fuel listed a w → wpAny P md ops Q fuel listed a w
  | 0, _, _, _, h => h
  | fuel + 1, _, _, _, h => ⟨h.1, fun i hi => wpOp_mono (fun a' w' h' => wpAny_of_L fuel _ a' w' h'.2) (h.2 i hi)⟩

/-- All of E wait for number i. -/
def lateOf (md : Region.Mode) (ops : Array Oper) (E : List Nat) (i : Nat) : Bool := E.all fun L => Region.waitsFor md ops L i

theorem last_waits {i L : Nat} (hL : lateOf md ops E i = true) {listed : Array Bool} (hi : i ∈ Region.ready md ops listed) (hm : L ∈ E) : L ∉ Region.ready md ops listed := fun hl => by
  obtain ⟨hu, oi, hoi, _⟩ := mem_ready.1 hi
  obtain ⟨_, oL, hoL, hall⟩ := mem_ready.1 hl
  obtain ⟨oj, hj, e, he, hb, hon⟩ := Region.waitsFor_spec ((List.all_eq_true.1 hL) L hm)
  obtain rfl : oj = oL := Option.some.inj (hj.symm.trans hoL)
  have h2 := hall e he hb
  rw [hon] at h2
  rcases Nat.lt_or_ge i listed.size with h' | h'
  · simp [h'] at hu h2; rw [hu] at h2; cases h2
  · simp [Array.getElem?_eq_none h'] at h2

theorem wpAnyL_first {i : Nat} {oi : Oper} {v : Value} (hi : ops[i]? = some oi) (hL : lateOf md ops E i = true) (hsel : ∀ (j : Nat) (o : Oper) cs b, ops[j]? = some o → o.op ≠ .select cs b)
    (hQ : ∀ c a w, Q (.panic c) (a.put oi.dst v) w → Q (.panic c) a w) :
    ∀ (fuel : Nat) (listed : Array Bool) (a : Act) (w : World),
      (∀ j oj, ops[j]? = some oj → j ≠ i → listed.getD j true = false → (∀ e ∈ oj.after, Region.binds md e = true → e.on ≠ i) → oi.apart ops oj = true) →
      i ∈ Region.ready md ops listed → YieldsIf P ops S oi v a → S w →
      wpAnyL P md ops Q S E fuel (listed.setIfInBounds i true) (a.put oi.dst v) w → wpAnyL P md ops Q S E (fuel + 1) listed a w := by
  intro fuel
  induction fuel with
  | zero =>
    intro listed a w _ hr hy hS H
    refine ⟨fun h => (by rw [h] at hr; cases hr), fun j hj => ?_⟩
    by_cases hji : j = i
    · subst hji; exact hy.wpOp hi hS ⟨.inr hS, H⟩
    · have := ready_mono hj hji
      rw [H.1] at this
      cases this
  | succ fuel ih =>
    intro listed a w hfree hr hy hS H
    refine ⟨fun h => (by rw [h] at hr; cases hr), fun j hj => ?_⟩
    by_cases hji : j = i
    · subst hji; exact hy.wpOp hi hS ⟨.inr hS, H⟩
    · have hjL : j ∉ E := fun e => last_waits hL hr e hj
      have h1 := H.2 j (ready_mono hj hji)
      obtain ⟨hjun, oj, hoj, hall⟩ := mem_ready.1 hj
      have hnot : ∀ e ∈ oj.after, Region.binds md e = true → e.on ≠ i := fun e he hb heq => by
        have h1 := hall e he hb
        have h0 := (mem_ready.1 hr).1
        rw [heq] at h1
        rcases Nat.lt_or_ge i listed.size with h' | h'
        · simp [h'] at h0 h1; rw [h0] at h1; cases h1
        · simp [Array.getElem?_eq_none h'] at h1
      have h2 := wpOp_putIf hoj (hfree j oj hoj hji hjun hnot) (fun cs b => hsel i oi cs b hi) (fun cs b => hsel j oj cs b hoj) hQ hy h1
      have hfree' : ∀ k ok, ops[k]? = some ok → k ≠ i → (listed.setIfInBounds j true).getD k true = false →
          (∀ e ∈ ok.after, Region.binds md e = true → e.on ≠ i) → oi.apart ops ok = true := fun k ok hk hki hun hno => by
        refine hfree k ok hk hki ?_ hno
        by_cases hjk : j = k
        · subst hjk; exact hjun
        · rw [getD_set_ne true hjk] at hun; exact hun
      refine wpOp_mono (fun a' w' h3 => ?_) h2
      have hS' : S w' := h3.2.1.resolve_left hjL
      refine ⟨.inr hS', ih (listed.setIfInBounds j true) a' w' hfree' (ready_mono hr (Ne.symm hji)) h3.1 hS' ?_⟩
      rw [Array.setIfInBounds_comm _ _ hji]
      exact h3.2.2

/-- Number i is taken first. -/
theorem wpAnyL_take {i : Nat} {oi : Oper} {v : Value} {fuel : Nat} {listed : Array Bool} {a : Act} {w : World} (hi : ops[i]? = some oi) (hc : lateOf md ops E i = true)
    (hs : Region.noSelect ops = true) (hf : Region.free md ops listed i = true) (hr : (Region.ready md ops listed).contains i = true)
    (hQ : ∀ c a w, Q (.panic c) (a.put oi.dst v) w → Q (.panic c) a w) (hw : Region.wanted oi (yielded ops a.tmps) = true) (hy : ∀ w, S w → (execOp a.eval oi).run P w = .ok (.value v) w) (hS : S w)
    (h : wpAnyL P md ops Q S E fuel (listed.setIfInBounds i true) (a.put oi.dst v) w) : wpAnyL P md ops Q S E (fuel + 1) listed a w := by
  exact wpAnyL_first hi hc (Region.noSelect_spec hs) hQ fuel listed a w (Region.free_spec hi hf) (by simpa using hr) (.inl ⟨hw, hy⟩) hS h

/-- Number i is the only one that may come up. -/
theorem wpAnyL_one {i : Nat} {oi : Oper} {fuel : Nat} {listed : Array Bool} {a : Act} {w : World} (hi : ops[i]? = some oi) (hr : Region.ready md ops listed = [i]) (hw : Region.wanted oi (yielded ops a.tmps) = true)
    (h : ∀ K : Act → World → Prop, Shut (∀ a w, (i ∈ E ∨ S w) → wpAnyL P md ops Q S E fuel (listed.setIfInBounds i true) a w → K a w) → oi.wp P a w K Q) : wpAnyL P md ops Q S E (fuel + 1) listed a w := by
  refine ⟨(fun h0 => by rw [hr] at h0; cases h0), fun j hj => ?_⟩
  rw [hr] at hj
  obtain rfl := List.mem_singleton.1 hj
  unfold wpOp
  simp only [hi, hw, if_true]
  exact .inl (h _ (fun a w h1 h2 => ⟨h1, h2⟩))

theorem wpAnyL_done {listed : Array Bool} {a : Act} {w : World} (hr : Region.ready md ops listed = []) (h : Q .normal a w) : ∀ fuel, wpAnyL P md ops Q S E fuel listed a w
  | 0 => ⟨hr, h⟩
  | _ + 1 => ⟨fun _ => h, by rw [hr]; simp⟩

/-- The beginning. -/
theorem wp_region_L {id : Nat} {a : Act} {w : World} (hm : P.follows .mixedOrders = true) (S : World → Prop) (E : List Nat) (hS : S w.drew)
    (h : S w.drew → wpAnyL P .any ops Q S E ops.size (Array.replicate ops.size false) a w.drew) : (Code.region id ops true).wp P Q a w :=
  wp_region_any hm (wpAny_of_L _ _ _ _ (h hS))
end
end Go.Proofs.YtnfkbjgijelfdaaGreat
namespace Go.Proofs.YtnfkbjgijelfdaaGreat
open Go

section
variable {P : Program} {ops : Array Oper} {Q : Exit → Act → World → Prop} {md : Region.Mode} {S : World → Prop} {E : List Nat}

/-- Number i or number j comes up next. -/
theorem wpAnyL_two {i j : Nat} {oi oj : Oper} {fuel : Nat} {listed : Array Bool} {a : Act} {w : World} (hi : ops[i]? = some oi) (hj : ops[j]? = some oj) (hr : Region.ready md ops listed = [i, j]) (hwi : Region.wanted oi (yielded ops a.tmps) = true) (hwj : Region.wanted oj (yielded ops a.tmps) = true)
    (h1 : ∀ K : Act → World → Prop, Shut (∀ a w, (i ∈ E ∨ S w) → wpAnyL P md ops Q S E fuel (listed.setIfInBounds i true) a w → K a w) → oi.wp P a w K Q)
    (h2 : ∀ K : Act → World → Prop, Shut (∀ a w, (j ∈ E ∨ S w) → wpAnyL P md ops Q S E fuel (listed.setIfInBounds j true) a w → K a w) → oj.wp P a w K Q) : wpAnyL P md ops Q S E (fuel + 1) listed a w := by
  refine ⟨(fun h0 => by rw [hr] at h0; cases h0), fun k hk => ?_⟩
  rw [hr] at hk
  rcases List.mem_cons.1 hk with e | hk
  · subst e
    unfold wpOp
    simp only [hi, hwi, if_true]
    exact .inl (h1 _ (fun a w h1 h2 => ⟨h1, h2⟩))
  · have e := List.mem_singleton.1 hk
    subst e
    unfold wpOp
    simp only [hj, hwj, if_true]
    exact .inl (h2 _ (fun a w h1 h2 => ⟨h1, h2⟩))
end
end Go.Proofs.YtnfkbjgijelfdaaGreat
