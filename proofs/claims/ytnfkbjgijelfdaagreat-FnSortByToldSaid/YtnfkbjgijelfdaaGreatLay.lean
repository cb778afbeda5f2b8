/- The walk of lay. -/
import Derived.Test.YtnfkbjgijelfdaaGreatLayA
import Derived.Deep.DeepCutAuto
namespace Go.Proofs.YtnfkbjgijelfdaaGreat
open Go.RowKit

def setAt (ls : List Arcs) (i k x : Nat) : List Arcs := ls.set i (setL (ls.getD i []) k x)

/-- The graph's lists, whatever the rows' addresses; and what is as it was. -/
def LaySt (w0 : World) (B bp bo bi n : Nat) (ai : Option Addr) (ci : Nat) (out inn : List Arcs) (w : World) : Prop :=
  (∃ vo vi, PlainSt w B bp bo bi n ai ci vo vi out inn) ∧ LayFr w0 w B bo bi

def layM (d : Bool) (out inn : List Arcs) (i k x : Nat) : List Arcs × List Arcs :=
  if d then (setAt out i k x, setAt inn k i x) else (setAt (setAt out i k x) k i x, setAt (setAt inn k i x) i k x)

theorem LaySt.goO {w0 w w1 : World} {B bp bo bi n i k x : Nat} {ai : Option Addr} {ci : Nat} {vo vi : List Value} {out inn : List Arcs} {v v' : Value} {l : Arcs}
    (h : PlainSt w B bp bo bi n ai ci vo vi out inn) (hf : LayFr w0 w B bo bi) (hi : i < n) (hk : k < n) (hv : vo[i]? = some v) (hl : out[i]? = some l) (hr : RowAt w B bp bo i n v l)
    (h1 : OwnA w1 B v' (setL l k x) ∧ w.grownBy w1 v.ownBlock ∧ (v'.ownBlock = v.ownBlock ∨ ∃ g, v'.ownBlock = some g ∧ w.heap.size ≤ g)) :
    LaySt w0 B bp bo bi n ai ci (setAt out i k x) inn (w1.setCell ⟨bo, i, none⟩ v') := by
  have hto : ∀ a ∈ setL l k x, a.1 < n := fun a ha => by
    rcases mem_setL l k x a ha with rfl | h' | h'
    · exact hk
    · exact hr.to a h'.1
    · exact hr.to a h'
  obtain ⟨a, b⟩ := h.stepO hi hv h1.1 h1.2.1 h1.2.2 (setL_up l k x hr.up) hto
  have e : setAt out i k x = out.set i (setL l k x) := by simp [setAt, List.getD, hl]
  exact ⟨⟨_, _, by rw [e]; exact a⟩, hf.trans b⟩

theorem LaySt.goI {w0 w w1 : World} {B bp bo bi n i k x : Nat} {ai : Option Addr} {ci : Nat} {vo vi : List Value} {out inn : List Arcs} {v v' : Value} {l : Arcs}
    (h : PlainSt w B bp bo bi n ai ci vo vi out inn) (hf : LayFr w0 w B bo bi) (hi : i < n) (hk : k < n) (hv : vi[i]? = some v) (hl : inn[i]? = some l) (hr : RowAt w B bp bi i n v l)
    (h1 : OwnA w1 B v' (setL l k x) ∧ w.grownBy w1 v.ownBlock ∧ (v'.ownBlock = v.ownBlock ∨ ∃ g, v'.ownBlock = some g ∧ w.heap.size ≤ g)) :
    LaySt w0 B bp bo bi n ai ci out (setAt inn i k x) (w1.setCell ⟨bi, i, none⟩ v') := by
  have hto : ∀ a ∈ setL l k x, a.1 < n := fun a ha => by
    rcases mem_setL l k x a ha with rfl | h' | h'
    · exact hk
    · exact hr.to a h'.1
    · exact hr.to a h'
  obtain ⟨a, b⟩ := h.stepI hi hv h1.1 h1.2.1 h1.2.2 (setL_up l k x hr.up) hto
  have e : setAt inn i k x = inn.set i (setL l k x) := by simp [setAt, List.getD, hl]
  exact ⟨⟨_, _, by rw [e]; exact a⟩, hf.trans b⟩

theorem RowAt.drew {w : World} {B bp b i n : Nat} {v : Value} {l : Arcs} (h : RowAt w B bp b i n v l) : RowAt w.drew B bp b i n v l :=
  ⟨h.own.kept (grownBy_of_below ((Below.refl _ _).drew) none) (by cases v.ownBlock <;> simp), h.up, h.to, h.cell, h.free, h.np, h.nb, h.size⟩

/-- The call of set at such a row. -/
theorem set_at {w : World} {B bp b i n k x : Nat} {v : Value} {l : Arcs} (h : RowAt w B bp b i n v l) (hk : k < n) (hn : n ≤ 1000000) :
    Calls Tryz.prog 161 #[v, .int .i64 k, .float .f64 x] w (InsPost B v (setL l k x) w) := by
  have hl := arcs_len h.up h.to
  exact set_calls B v l k x w h.own h.size h.up (by omega) (fun j hj => by have := toAt_lt h.to j hj; omega) (by omega)

/-- What stands behind that call, for the walk. -/
theorem RowAt.behind {w w1 : World} {B bp b i n : Nat} {v : Value} {l : Arcs} (h : RowAt w B bp b i n v l) (hb : b < B) (h2 : w.grownBy w1 v.ownBlock) :
    (∀ j u, w.cell? ⟨bp, j, none⟩ = some u → w1.cell? ⟨bp, j, none⟩ = some u) ∧ w1.cell? ⟨b, i, none⟩ = some v ∧ w1.frozen? ⟨b, i, none⟩ = false :=
  ⟨fun j u hu => h2.cell hu h.np, h2.cell h.cell h.nb, (World.frozen?_of_block (w := w) (a := ⟨b, i, none⟩) (h2.block b (by have := h.size; omega) h.nb)).trans h.free⟩

set_option maxHeartbeats 20000000 in
theorem lay_calls (w : World) (B bp bo bi n : Nat) (ai : Option Addr) (ci i k x : Nat) (d : Bool) (vo vi : List Value) (out inn : List Arcs) (hi : i < n) (hk : k < n) (hst : PlainSt w B bp bo bi n ai ci vo vi out inn) (hn : n ≤ 1000000) :
    Calls Tryz.prog 123 #[.pointer (some ⟨bp, 0, none⟩), .int .i64 i, .int .i64 k, .float .f64 x, .bool d] w fun e w' => e = .returned (.tuple #[]) ∧
      LaySt w B bp bo bi n ai ci (layM d out inn i k x).1 (layM d out inn i k x).2 w' := by
  have HST := Lib.hid hst
  have hb := hst.below
  have hbp : bp < B := hb.1
  have hbo : bo < B := hb.2.1
  have hbi : bi < B := hb.2.2.1
  clear hb
  go_enter Tryz.func123, Tryz.ntmps123
  go_wp2_with fail
  go_cut [] (fun w' => LaySt w B bp bo bi n ai ci (setAt out i k x) inn w')
  case first =>
    have p1 := hst.p1
    obtain ⟨v, l, hv, hl, hr⟩ := hst.atO hi
    obtain ⟨a, c, rfl⟩ := hr.own.shape
    have HR := Lib.hid hr
    have hcell := hr.cell
    have HV := Lib.hid hv; have HL := Lib.hid hl
    have HP0 := Lib.hid hst
    clear hst hv hl hr
    go_region_with (go_at_call 161; refine (set_at (k := k) (x := x) HR.out.drew hk hn).mono ?_; rintro e w1 ⟨v', rfl, h1, h2, h3⟩; have HP := Lib.hid (And.intro h1 (And.intro h2 h3)); obtain ⟨hq, q2, q3⟩ := HR.out.drew.behind hbo h2; have q1 := hq 1 _ p1; clear hq h2 h3; obtain ⟨a', c', rfl⟩ := h1.shape; clear h1)
    all_goals
      go_wp2
      go_meet
      exact LaySt.goO HP0.out (LayFr.refl _ _ _ _) hi hk HV.out HL.out HR.out (And.intro HP.out.1 (And.intro (grownBy_trans (grownBy_of_below ((Below.refl _ _).drew) _) HP.out.2.1) HP.out.2.2))
  case rest =>
    obtain ⟨⟨vo1, vi1, hs1⟩, hf1⟩ := hcut
    have HF1 := Lib.hid hf1
    clear hst hf1
    go_wp2_with fail
    go_cut [] (fun w' => LaySt w B bp bo bi n ai ci (setAt out i k x) (setAt inn k i x) w')
    case first =>
      have p1 := hs1.p2
      obtain ⟨v, l, hv, hl, hr⟩ := hs1.atI hk
      obtain ⟨a, c, rfl⟩ := hr.own.shape
      have HR := Lib.hid hr
      have hcell := hr.cell
      have HV := Lib.hid hv; have HL := Lib.hid hl
      have HP0 := Lib.hid hs1
      clear hs1 hv hl hr
      go_region_with (go_at_call 161; refine (set_at (k := i) (x := x) HR.out.drew hi hn).mono ?_; rintro e w1 ⟨v', rfl, h1, h2, h3⟩; have HP := Lib.hid (And.intro h1 (And.intro h2 h3)); obtain ⟨hq, q2, q3⟩ := HR.out.drew.behind hbi h2; have q1 := hq 2 _ p1; clear hq h2 h3; obtain ⟨a', c', rfl⟩ := h1.shape; clear h1)
      all_goals
        go_wp2
        go_meet
        exact LaySt.goI HP0.out HF1.out hk hi HV.out HL.out HR.out (And.intro HP.out.1 (And.intro (grownBy_trans (grownBy_of_below ((Below.refl _ _).drew) _) HP.out.2.1) HP.out.2.2))
    case rest =>
      obtain ⟨⟨vo2, vi2, hs2⟩, hf2⟩ := hcut
      have HF2 := Lib.hid hf2
      clear hs1 hf2
      cases d
      · go_wp2_with fail
        go_cut [] (fun w' => LaySt w B bp bo bi n ai ci (setAt (setAt out i k x) k i x) (setAt inn k i x) w')
        case first =>
          have p1 := hs2.p1
          obtain ⟨v, l, hv, hl, hr⟩ := hs2.atO hk
          obtain ⟨a, c, rfl⟩ := hr.own.shape
          have HR := Lib.hid hr
          have hcell := hr.cell
          have HV := Lib.hid hv; have HL := Lib.hid hl
          have HP0 := Lib.hid hs2
          clear hs2 hv hl hr
          go_region_with (go_at_call 161; refine (set_at (k := i) (x := x) HR.out.drew hi hn).mono ?_; rintro e w1 ⟨v', rfl, h1, h2, h3⟩; have HP := Lib.hid (And.intro h1 (And.intro h2 h3)); obtain ⟨hq, q2, q3⟩ := HR.out.drew.behind hbo h2; have q1 := hq 1 _ p1; clear hq h2 h3; obtain ⟨a', c', rfl⟩ := h1.shape; clear h1)
          all_goals
            go_wp2
            go_meet
            exact LaySt.goO HP0.out HF2.out hk hi HV.out HL.out HR.out (And.intro HP.out.1 (And.intro (grownBy_trans (grownBy_of_below ((Below.refl _ _).drew) _) HP.out.2.1) HP.out.2.2))
        case rest =>
          obtain ⟨⟨vo3, vi3, hs3⟩, hf3⟩ := hcut
          have HF3 := Lib.hid hf3
          clear hs2 hf3
          go_wp2_with fail
          have p1 := hs3.p2
          obtain ⟨v, l, hv, hl, hr⟩ := hs3.atI hi
          obtain ⟨a, c, rfl⟩ := hr.own.shape
          have HR := Lib.hid hr
          have hcell := hr.cell
          have HV := Lib.hid hv; have HL := Lib.hid hl
          have HP0 := Lib.hid hs3
          clear hs3 hv hl hr
          go_region_with (go_at_call 161; refine (set_at (k := k) (x := x) HR.out.drew hk hn).mono ?_; rintro e w1 ⟨v', rfl, h1, h2, h3⟩; have HP := Lib.hid (And.intro h1 (And.intro h2 h3)); obtain ⟨hq, q2, q3⟩ := HR.out.drew.behind hbi h2; have q1 := hq 2 _ p1; clear hq h2 h3; obtain ⟨a', c', rfl⟩ := h1.shape; clear h1)
          all_goals
            go_wp2
            go_end0
            exact ⟨rfl, LaySt.goI HP0.out HF3.out hi hk HV.out HL.out HR.out (And.intro HP.out.1 (And.intro (grownBy_trans (grownBy_of_below ((Below.refl _ _).drew) _) HP.out.2.1) HP.out.2.2))⟩
      · have HS2 := Lib.hid hs2; clear hs2
        go_wp2_with fail
        go_end0
        exact ⟨rfl, ⟨_, _, HS2.out⟩, HF2.out⟩
end Go.Proofs.YtnfkbjgijelfdaaGreat
