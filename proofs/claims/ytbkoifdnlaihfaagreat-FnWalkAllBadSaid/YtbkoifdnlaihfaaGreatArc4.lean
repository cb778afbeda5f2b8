/- The walk of set: an arc laid into a row. -/
import Derived.Test.YtbkoifdnlaihfaaGreatArc1
import Derived.Test.YtbkoifdnlaihfaaGreatArc3
import Derived.Test.YtbkoifdnlaihfaaGreatArcList
namespace Go.Proofs.YtbkoifdnlaihfaaGreat
open Go.RowKit

/-- A row of arcs of the call's own. -/
abbrev OwnA (w : World) (B : Nat) (v : Value) (l : Arcs) : Prop := w.ownsRow B 238 2 v l.length (flat l)

theorem OwnA.rd {w : World} {B : Nat} {v : Value} {l : Arcs} (h : OwnA w B v l) (hs : l.length < 4611686018427387904) : ∃ a c, v = .slice a l.length c ∧ RdA w a l.length l := by
  obtain ⟨h1, ⟨rfl, h0⟩ | ⟨g, cap, cur, rfl, hb, hg, h3, h4, h5, h6⟩⟩ := h
  · exact ⟨none, 0, by rw [h0], rfl, hs, by omega⟩
  · refine ⟨_, cap, rfl, rfl, hs, fun _ => ⟨g, 0, rfl, (Array.getElem?_eq_some_iff.1 hg).1, fun j hj => ?_⟩⟩
    obtain ⟨⟨t, f⟩, hp⟩ : ∃ p, l[j]? = some p := ⟨_, List.getElem?_eq_getElem hj⟩
    obtain ⟨e1, e2⟩ := flat_get l j t f hp
    rw [← h6] at e1 e2
    rw [List.getElem?_take_of_lt (by omega)] at e1 e2
    exact ⟨t, f, hp, by rw [cell_of_row w g _ cur _ (0, 0) hg, Nat.zero_add]; simpa using e1, by rw [cell_of_row w g _ cur _ (0, 0) hg, Nat.zero_add]; simpa using e2⟩

theorem grownBy_of_below {w w' : World} (h : Below w.heap.size w w') (row : Option Nat) : w.grownBy w' row :=
  ⟨h.os, h.tape, h.output, h.size, fun k hk _ => h.block k hk⟩

theorem grownBy_trans {w w1 w2 : World} {row : Option Nat} (h : w.grownBy w1 row) (k : w1.grownBy w2 row) : w.grownBy w2 row :=
  ⟨k.os.trans h.os, k.tape.trans h.tape, k.output.trans h.output, Nat.le_trans h.size k.size, fun i hi hne => (k.block i (Nat.lt_of_lt_of_le hi h.size) hne).trans (h.block i hi hne)⟩

theorem InsHere.owns {w w' : World} {B g c n : Nat} {l' : Arcs} {cur : Array Value} (h : InsHere w g c n l' w') (hg : w.heap[g]? = some (.cells cur 238 (0, 0))) (hB : B ≤ g) (hc : c ≤ maxLen) (hn : n + 1 ≤ c) (hl : l'.length = n + 1) :
    OwnA w' B (.slice (some ⟨g, 0, none⟩) (n + 1) c) l' ∧ w.grownBy w' (some g) := by
  obtain ⟨q, cur', rfl, h1, h2⟩ := h
  have hh := setRow_heap (w.drewN q) g cur cur'.toArray 238 (0, 0) hg
  unfold OwnA
  rw [hl]
  refine ⟨⟨by rw [flat_len, hl], .inr ⟨g, c, _, rfl, hB, hh, hn, hc, by simpa using h1, by simpa using h2⟩⟩, rfl, rfl, rfl, by simp, fun k hk hne => ?_⟩
  exact setRow_other (w.drewN q) g k _ (fun e => hne (by rw [e]))

theorem InsNew.owns {w w' : World} {B n : Nat} {l' : Arcs} {v' : Value} (h : InsNew w n l' v' w') (hB : B ≤ w.heap.size) (hl : l'.length = n + 1) (row : Option Nat) :
    OwnA w' B v' l' ∧ w.grownBy w' row ∧ v'.ownBlock = some w.heap.size := by
  obtain ⟨cp, cells, rfl, hb, hg, h1, h2, h3, h4⟩ := h
  unfold OwnA
  rw [hl]
  exact ⟨⟨by rw [flat_len, hl], .inr ⟨_, cp, _, rfl, hB, hg, h2, h3, by simpa using h1, by simpa using h4⟩⟩, grownBy_of_below hb _, rfl⟩

/-- What Insert says of an owned row. -/
def InsPost (B : Nat) (v : Value) (l' : Arcs) (w : World) (e : Ending) (w' : World) : Prop :=
  ∃ v', e = .returned v' ∧ OwnA w' B v' l' ∧ w.grownBy w' v.ownBlock ∧ (v'.ownBlock = v.ownBlock ∨ ∃ g, v'.ownBlock = some g ∧ w.heap.size ≤ g)

theorem insert_calls (B : Nat) (v : Value) (l : Arcs) (i k x bv : Nat) (w : World) (hown : OwnA w B v l) (hB : B ≤ w.heap.size) (hi : i ≤ l.length) (hbig : (l.length + 1) * 16 ≤ 140737488355328)
    (hbv : w.heap[bv]? = some (.cells #[.int .i64 k, .float .f64 x] 238 (0, 0))) (hne : v.ownBlock ≠ some bv) :
    Calls Tryz.prog 180 #[v, .int .i64 i, .slice (some ⟨bv, 0, none⟩) 1 1] w (InsPost B v (insL l i (k, x)) w) := by
  have hl := insL_len l i (k, x) hi
  have hown' := hown
  obtain ⟨h1, ⟨rfl, h0⟩ | ⟨g, cap, cur, rfl, hb, hg, h3, h4, h5, h6⟩⟩ := hown
  · have e : i = l.length := by omega
    have e0 : l.length = 0 := h0
    have := insert_end_grow none 0 0 k x bv l w e0 (by omega) (by omega) (by omega) (.inl ⟨rfl, rfl⟩) hbv
    rw [show i = 0 by omega]
    rw [show i = 0 by omega, e0] at hl
    refine this.mono ?_
    rintro e w' ⟨v', rfl, hn⟩
    obtain ⟨a1, a2, a3⟩ := hn.owns hB hl none
    exact ⟨v', rfl, a1, a2, .inr ⟨_, a3, Nat.le_refl _⟩⟩
  · have hgw : g < w.heap.size := (Array.getElem?_eq_some_iff.1 hg).1
    have hgl : w.heap[g]? = some (.cells cur.toList.toArray 238 (0, 0)) := by simpa using hg
    have hcell : ∀ j v, (flat l)[j]? = some v → w.cell? ⟨g, j, none⟩ = some v := fun j v hj => by
      rw [cell_of_row w g j cur _ (0, 0) hg]
      rw [← h6] at hj
      have hj2 : j < l.length * 2 := by
        have := (List.getElem?_eq_some_iff.1 hj).1
        rw [List.length_take] at this; omega
      rw [List.getElem?_take_of_lt hj2] at hj
      simpa using hj
    have hneg : bv ≠ g := fun e => hne (by rw [e]; rfl)
    by_cases hroom : l.length + 1 ≤ cap
    · by_cases hil : i < l.length
      · refine (insert_mid_room g l.length cap i k x bv cur.toList l w rfl hil hroom (by unfold maxLen at h4; omega) hgl (by simpa using h5) h6 hbv hneg).mono ?_
        rintro e w' ⟨rfl, hh⟩
        obtain ⟨a1, a2⟩ := hh.owns hg hb h4 hroom hl
        exact ⟨_, rfl, a1, a2, .inl rfl⟩
      · obtain rfl : i = l.length := by omega
        refine (insert_end_room g l.length cap k x bv cur.toList l w rfl hroom (by unfold maxLen at h4; omega) hgl (by simpa using h5) h6 hbv).mono ?_
        rintro e w' ⟨rfl, hh⟩
        obtain ⟨a1, a2⟩ := hh.owns hg hb h4 hroom hl
        exact ⟨_, rfl, a1, a2, .inl rfl⟩
    · by_cases hil : i < l.length
      · refine (insert_mid_grow g l.length cap i k x bv l w rfl hil h3 (by omega) hbig hcell hgw hbv).mono ?_
        rintro e w' ⟨v', rfl, hn⟩
        obtain ⟨a1, a2, a3⟩ := hn.owns hB hl (some g)
        exact ⟨v', rfl, a1, a2, .inr ⟨_, a3, Nat.le_refl _⟩⟩
      · obtain rfl : i = l.length := by omega
        refine (insert_end_grow (some ⟨g, 0, none⟩) l.length cap k x bv l w rfl h3 (by omega) hbig (.inr ⟨g, rfl, hcell⟩) hbv).mono ?_
        rintro e w' ⟨v', rfl, hn⟩
        obtain ⟨a1, a2, a3⟩ := hn.owns hB hl (some g)
        exact ⟨v', rfl, a1, a2, .inr ⟨_, a3, Nat.le_refl _⟩⟩

set_option maxHeartbeats 1000000 in
theorem set_calls (B : Nat) (v : Value) (l : Arcs) (k x : Nat) (w : World) (hown : OwnA w B v l) (hB : B ≤ w.heap.size) (hup : ArcsUp l) (hk : k < 4611686018427387904) (hto : ∀ j, j < l.length → toAt l j < 4611686018427387904) (hbig : (l.length + 1) * 16 ≤ 140737488355328) :
    Calls Tryz.prog 145 #[v, .int .i64 k, .float .f64 x] w (InsPost B v (setL l k x) w) := by
  obtain ⟨a, c, rfl, hrd⟩ := OwnA.rd hown (by omega)
  have HO := Lib.hid hown; clear hown
  have HR := Lib.hid hrd; clear hrd
  go_enter Tryz.func145, Tryz.ntmps145
  go_wp2_with fail
  refine (search_calls 179 set_cmp a l.length c k l w HR.out hup hk hto).mono ?_
  rintro e w1 ⟨i, found, rfl, hf, hb1⟩
  have HF := Lib.hid hf
  have hsz := hb1.size
  have HB1 := Lib.hid hb1; clear hb1
  cases found
  · have hown1 : OwnA w1 B (.slice a l.length c) l := HO.out.kept (grownBy_of_below HB1.out none) (by cases (Value.slice a l.length c).ownBlock <;> simp)
    have hlt : ∀ g, (Value.slice a l.length c).ownBlock = some g → g < w.heap.size := fun g h => (HO.out.lt g h).2
    have HO1 := Lib.hid hown1; clear hown1
    have HLt := Lib.hid hlt; clear hlt
    have HI := Lib.hid hf.1
    have HE := Lib.hid (setL_new l k x i hf)
    clear hf
    go_wp2_with fail
    refine (insert_calls B (.slice a l.length c) l i k x w1.heap.size _ (HO1.out.alloc _) (by simp; omega) HI.out hbig (heap_alloc_new w1 _) (fun h => by have := HLt.out _ h; omega)).mono ?_
    rintro e w2 ⟨v', rfl, h1, h2, h3⟩
    have HP := Lib.hid (And.intro h1 (And.intro h2 h3)); clear h1 h2 h3
    go_wp2_with fail
    go_ret
    refine ⟨v', rfl, by rw [HE.out]; exact HP.out.1, ?_, ?_⟩
    · exact grownBy_trans (grownBy_of_below (HB1.out.alloc hsz _) _) HP.out.2.1
    · rcases HP.out.2.2 with h | ⟨g, h, hg⟩
      · exact .inl h
      · exact .inr ⟨g, h, by simp at hg; omega⟩
  · obtain ⟨he, hil⟩ := setL_found l k x i hf
    have hf' : i < l.length ∧ toAt l i = k := by have := hf.2.2.2; simpa using this.symm
    have HE := Lib.hid he
    have HI := Lib.hid hil; clear hf he
    obtain ⟨h1, ⟨e, h0⟩ | ⟨g, cap, cur, e, hb, hg, h3, h4, h5, h6⟩⟩ := HO.out
    · omega
    · simp only [Value.slice.injEq] at e
      obtain ⟨rfl, -, rfl⟩ := e
      have hg1 : w1.heap[g]? = some (.cells cur 238 (0, 0)) := (HB1.out.block g (Array.getElem?_eq_some_iff.1 hg).1).trans hg
      obtain ⟨⟨t, f⟩, hp⟩ : ∃ p, l[i]? = some p := ⟨_, List.getElem?_eq_getElem hil⟩
      obtain ⟨e1, e2⟩ := flat_get l i t f hp
      have hcx : w1.cell? ⟨g, i * 2 + 1, none⟩ = some (.float .f64 f) := by
        rw [cell_of_row w1 g _ cur _ (0, 0) hg1]
        rw [← h6, List.getElem?_take_of_lt (by omega)] at e2
        simpa using e2
      have hfx : w1.frozen? ⟨g, i * 2 + 1, none⟩ = false := by simp [World.frozen?, hg1]
      have HO1 : Hid (OwnA (w1.setCell ⟨g, i * 2 + 1, none⟩ (.float .f64 x)) B (.slice (some ⟨g, 0, none⟩) l.length c) (l.set i (k, x))) := by
        refine ⟨by rw [flat_len], .inr ⟨g, c, _, by rw [List.length_set], hb, heap_setCell_same hg1 _, by rw [List.length_set]; exact h3, h4, by simpa using h5, ?_⟩⟩
        have hk' : t = k := by
          have := hf'.2
          simpa [toAt, List.getD, hp] using this
        rw [Array.toList_setIfInBounds, List.take_set, List.length_set, h6]
        exact flat_set l k f x i (by rw [← hk']; exact hp)
      have HG : Hid (w1.grownBy (w1.setCell ⟨g, i * 2 + 1, none⟩ (.float .f64 x)) (some g)) :=
        ⟨rfl, rfl, rfl, by simp [World.setCell], fun j hj hne => Below.heap_setCell _ _ _ _ (fun e => hne (by rw [e]))⟩
      clear h1 h3 h4 h5 h6 hg hg1 hb e1 e2 hp
      go_wp2_with fail
      go_ret
      refine ⟨_, rfl, ?_, ?_, .inl rfl⟩
      · have := HO1.out
        rw [HE.out]
        exact this
      · exact grownBy_trans (grownBy_of_below HB1.out _) HG.out
end Go.Proofs.YtbkoifdnlaihfaaGreat
