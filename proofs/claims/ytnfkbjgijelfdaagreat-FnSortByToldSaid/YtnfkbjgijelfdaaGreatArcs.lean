/- Words on rows of arcs: two cells each. The walk of slices.BinarySearchFunc over arcs. Plain facts on rows of arcs: an arc laid into a row. The walk of slices.Insert of one arc, in the midst of a row, where there is room. The walk of slices.Insert of one arc: at the end; and in the midst where there is no room. The walk of set: an arc laid into a row. More plain facts on rows of arcs. -/
import Derived.Test.YtnfkbjgijelfdaaGreatMem
import Derived.Test.YtnfkbjgijelfdaaGreatProg
import Derived.Deep.QuietTactic
import Derived.BigQuiet
import Derived.Deep.LoopGhost
import Derived.WalkLawsBesides
import Derived.Deep.RegionLaw
import Derived.Lib.Overlaps
import Derived.Laws.Externs
namespace Go.Proofs.YtnfkbjgijelfdaaGreat
open Go.RowKit

abbrev Arcs := List (Nat × Nat)
def toAt (l : Arcs) (j : Nat) : Nat := (l.getD j (0, 0)).1

/-- A slice (address a, length n) of arcs reads as 'l' in 'w': two cells each: the index, the weight's bits. -/
structure RdA (w : World) (a : Option Addr) (n : Nat) (l : Arcs) : Prop where
  len : l.length = n
  small : n < 4611686018427387904
  at_ : 0 < n → ∃ b off, a = some ⟨b, off, none⟩ ∧ b < w.heap.size ∧ ∀ j, j < n → ∃ t f : Nat, Hid (l[j]? = some (t, f)) ∧
    w.cell? ⟨b, off + j * 2, none⟩ = some (.int .i64 t) ∧ w.cell? ⟨b, off + j * 2 + 1, none⟩ = some (.float .f64 f)

theorem RdA.below {w w' : World} {a : Option Addr} {n : Nat} {l : Arcs} {B : Nat} (h : RdA w a n l) (hb : Below B w w') (hB : w.heap.size ≤ B) : RdA w' a n l :=
  ⟨h.len, h.small, fun h0 => by
    obtain ⟨b, off, e, hb', hc⟩ := h.at_ h0
    exact ⟨b, off, e, Nat.lt_of_lt_of_le hb' hb.size, fun j hj => by
      obtain ⟨u, v, hz, h1, h2⟩ := hc j hj
      exact ⟨u, v, hz, (hb.cell (p := ⟨b, _, none⟩) (by show b < B; omega)).trans h1, (hb.cell (p := ⟨b, _, none⟩) (by show b < B; omega)).trans h2⟩⟩⟩

/-- The arcs' ends ascend. -/
def ArcsUp (l : Arcs) : Prop := ∀ a b, a < b → b < l.length → toAt l a < toAt l b

/-- What a binary search for k says: the place, and whether k stands there. -/
def FoundAt (l : Arcs) (k i : Nat) (found : Bool) : Prop :=
  i ≤ l.length ∧ (∀ a, a < i → toAt l a < k) ∧ (∀ a, i ≤ a → a < l.length → k ≤ toAt l a) ∧ (found = decide (i < l.length ∧ toAt l i = k))

def ArcFound (l : Arcs) (k : Nat) (w : World) (e : Ending) (w' : World) : Prop :=
  ∃ i found, e = .returned (.tuple #[.int .i64 (i : Nat), .bool found]) ∧ FoundAt l k i found ∧ Below w.heap.size w w'

/-- A row of arcs as cells. -/
def flat (l : Arcs) : List Value := l.flatMap fun a => [.int .i64 a.1, .float .f64 a.2]
theorem flat_len (l : Arcs) : (flat l).length = l.length * 2 := by
  induction l with
  | nil => rfl
  | cons a l ih => simp only [flat, List.flatMap_cons, List.length_append, List.length_cons, List.length_nil] at ih ⊢; omega
theorem flat_append (l m : Arcs) : flat (l ++ m) = flat l ++ flat m := List.flatMap_append
theorem flat_cons (a : Nat × Nat) (l : Arcs) : flat (a :: l) = [.int .i64 a.1, .float .f64 a.2] ++ flat l := rfl
theorem flat_take (l : Arcs) (i : Nat) (h : i ≤ l.length) : (flat l).take (i * 2) = flat (l.take i) := by
  have e : flat l = flat (l.take i) ++ flat (l.drop i) := by rw [← flat_append, List.take_append_drop]
  have hl : (flat (l.take i)).length = i * 2 := by rw [flat_len, List.length_take]; omega
  rw [e, ← hl, List.take_left]
theorem flat_drop (l : Arcs) (i : Nat) (h : i ≤ l.length) : (flat l).drop (i * 2) = flat (l.drop i) := by
  have e : flat l = flat (l.take i) ++ flat (l.drop i) := by rw [← flat_append, List.take_append_drop]
  have hl : (flat (l.take i)).length = i * 2 := by rw [flat_len, List.length_take]; omega
  rw [e, ← hl, List.drop_left]
theorem flat_one (l : Arcs) : ∀ v ∈ flat l, v.oneCell' = true := by
  intro v hv
  obtain ⟨a, _, h⟩ := List.mem_flatMap.1 hv
  rcases List.mem_cons.1 h with rfl | h
  · rfl
  · obtain rfl := List.mem_singleton.1 h; rfl
theorem flat_set (l : Arcs) (k f x : Nat) : ∀ i, l[i]? = some (k, f) → (flat l).set (i * 2 + 1) (.float .f64 x) = flat (l.set i (k, x)) := by
  induction l with
  | nil => intro i h; simp at h
  | cons a r ih =>
    intro i h
    cases i with
    | zero =>
      obtain rfl : a = (k, f) := by simpa using h
      rfl
    | succ i =>
      have := ih i (by simpa using h)
      rw [List.set_cons_succ, flat_cons, flat_cons, ← this, show (i + 1) * 2 + 1 = i * 2 + 1 + 1 + 1 by omega]
      rfl
theorem pair_one (k x : Nat) : ∀ v ∈ [Value.int .i64 k, Value.float .f64 x], v.oneCell' = true := by
  intro v hv
  rcases List.mem_cons.1 hv with rfl | hv
  · rfl
  · obtain rfl := List.mem_singleton.1 hv; rfl
theorem flat_get (l : Arcs) (j : Nat) (t f : Nat) (h : l[j]? = some (t, f)) : (flat l)[j * 2]? = some (.int .i64 t) ∧ (flat l)[j * 2 + 1]? = some (.float .f64 f) := by
  obtain ⟨hj, he⟩ := List.getElem?_eq_some_iff.1 h
  have e : flat l = flat (l.take j) ++ flat (l.drop j) := by rw [← flat_append, List.take_append_drop]
  have hl : (flat (l.take j)).length = j * 2 := by rw [flat_len, List.length_take]; omega
  rw [e, List.drop_eq_getElem_cons hj, he, flat_cons]
  constructor
  · rw [List.getElem?_append_right (by omega), hl, Nat.sub_self]; rfl
  · rw [List.getElem?_append_right (by omega), hl, show j * 2 + 1 - j * 2 = 1 by omega]; rfl

/-- The row with an arc put in at i. -/
def insL (l : Arcs) (i : Nat) (a : Nat × Nat) : Arcs := l.take i ++ a :: l.drop i
theorem insL_end (l : Arcs) (n k x : Nat) (h : l.length = n) : flat (insL l n (k, x)) = flat l ++ [.int .i64 k, .float .f64 x] := by
  rw [insL, List.take_of_length_le (by omega), List.drop_eq_nil_of_le (by omega), flat_append]; rfl
theorem insL_len (l : Arcs) (i : Nat) (a : Nat × Nat) (h : i ≤ l.length) : (insL l i a).length = l.length + 1 := by
  simp [insL]; omega

end Go.Proofs.YtnfkbjgijelfdaaGreat
namespace Go.Proofs.YtnfkbjgijelfdaaGreat
open Go.RowKit

/-- What is known of a closure that compares an arc's end with a number. -/
def Compares (f : FuncId) : Prop := (∀ args w, (callFunc f args).run Tryz.prog w = .ok (.enter f args) w) ∧ ∀ (t k x : Nat) (w : World), t < 4611686018427387904 → k < 4611686018427387904 →
  Calls Tryz.prog f #[.agg #[.int .i64 t, .float .f64 x], .int .i64 k] w fun e w' => e = .returned (.int .i64 ((t : Int) - k)) ∧ Below w.heap.size w w'

set_option maxHeartbeats 400000 in
theorem set_cmp : Compares 185 := by
  refine ⟨fun args w => by go_simp, ?_⟩
  intro t k x w ht hk
  go_enter Tryz.func185, Tryz.ntmps185
  go_wp2
  go_ret
  exact ⟨rfl, (Below.refl _ _).alloc (Nat.le_refl _) _⟩

set_option maxHeartbeats 2000000 in
theorem search_calls (f : FuncId) (hf : Compares f) (a : Option Addr) (n c k : Nat) (l : Arcs) (w : World) (hr : RdA w a n l) (hup : ArcsUp l) (hk : k < 4611686018427387904) (hto : ∀ j, j < n → toAt l j < 4611686018427387904) :
    Calls Tryz.prog 184 #[.slice a n c, .int .i64 k, .func (.func f) #[] #[]] w (ArcFound l k w) := by
  have hs := hr.small
  have hen := hf.1
  have HF := Lib.hid hf.2; clear hf
  have HR := Lib.hid hr; clear hr
  have HU := Lib.hid hup; clear hup
  have HT := Lib.hid hto; clear hto
  go_enter Tryz.func184, Tryz.ntmps184
  go_wp2
  go_loopg [9, 10] n (fun g s7 s8 wr => ∃ lo hi : Nat, s7 = .int .i64 lo ∧ s8 = .int .i64 hi ∧ lo ≤ hi ∧ hi ≤ n ∧ hi - lo ≤ g ∧ Below w.heap.size w wr ∧ (∀ t, t < lo → toAt l t < k) ∧ (∀ t, hi ≤ t → t < n → k ≤ toAt l t))
  case atStart => exact ⟨0, n, rfl, rfl, Nat.zero_le _, Nat.le_refl _, by omega, Below.refl _ _, fun t ht => absurd ht (Nat.not_lt_zero _), fun t h1 h2 => by omega⟩
  case round =>
    obtain ⟨lo, hi, rfl, rfl, hlh, hin, hg, hb, h1, h2⟩ := hrel
    have I := Lib.hid (And.intro h1 h2)
    have HB := Lib.hid hb
    clear h1 h2
    by_cases hlt : lo < hi
    · obtain ⟨b, off, rfl, hbb, hc⟩ := HR.out.at_ (by omega)
      obtain ⟨t, x, HL, c1, c2⟩ := hc ((lo + hi) / 2) (by omega)
      clear hc
      obtain ⟨c', _⟩ := bcell hb
      have d1 := (c' _ _ hbb).trans c1
      have d2 := (c' _ _ hbb).trans c2
      clear c' c1 c2 hb
      have HTo := Lib.hid (show toAt l ((lo + hi) / 2) = t from by unfold toAt; simp [List.getD, HL.out])
      have ht : t < 4611686018427387904 := by rw [← HTo.out]; exact HT.out _ (by omega)
      go_wp2_with fail
      refine (HF.out t k x wr ht hk).mono ?_
      rintro e w1 ⟨rfl, hb1⟩
      have HB1 := Lib.hid (HB.out.trans (hb1.mono HB.out.size)); clear hb1
      by_cases hyx : (t : Int) - k < 0
      · go_wp2_with fail
        go_roundg (hi - ((lo + hi) / 2 + 1))
        case measure => omega
        case rel =>
          refine ⟨(lo + hi) / 2 + 1, hi, by rw [show ((lo : Int) + (hi : Int)) / 2 + 1 = (((lo + hi) / 2 + 1 : Nat) : Int) by omega], rfl, by omega, hin, Nat.le_refl _, HB1.out, fun t' ht' => ?_, I.out.2⟩
          by_cases e : t' = (lo + hi) / 2
          · rw [e, HTo.out]; omega
          · have := HU.out t' ((lo + hi) / 2) (by omega) (by have := HR.out.len; omega)
            rw [HTo.out] at this; omega
      · go_wp2_with fail
        go_roundg ((lo + hi) / 2 - lo)
        case measure => omega
        case rel =>
          refine ⟨lo, (lo + hi) / 2, rfl, by rw [show ((lo : Int) + (hi : Int)) / 2 = (((lo + hi) / 2 : Nat) : Int) by omega], by omega, by omega, Nat.le_refl _, HB1.out, I.out.1, fun t' ht' htn => ?_⟩
          by_cases e : t' = (lo + hi) / 2
          · rw [e, HTo.out]; omega
          · have := HU.out ((lo + hi) / 2) t' (by omega) (by have := HR.out.len; omega)
            rw [HTo.out] at this; omega
    · obtain rfl : hi = lo := by omega
      by_cases hn : hi < n
      · obtain ⟨b, off, rfl, hbb, hc⟩ := HR.out.at_ (by omega)
        obtain ⟨t, x, HL, c1, c2⟩ := hc hi (by omega)
        clear hc
        obtain ⟨c', _⟩ := bcell hb
        have d1 := (c' _ _ hbb).trans c1
        have d2 := (c' _ _ hbb).trans c2
        clear c' c1 c2 hb
        have HTo := Lib.hid (show toAt l hi = t from by unfold toAt; simp [List.getD, HL.out])
        have ht : t < 4611686018427387904 := by rw [← HTo.out]; exact HT.out _ (by omega)
        go_wp2_with fail
        refine (HF.out t k x wr ht hk).mono ?_
        rintro e w1 ⟨rfl, hb1⟩
        have HB1 := Lib.hid (HB.out.trans (hb1.mono HB.out.size)); clear hb1
        by_cases hyx : t = k
        · have hd : ((t : Int) - k == 0) = true := beq_iff_eq.2 (by omega)
          have HX := Lib.hid hyx; clear hyx
          go_wp2_with fail
          go_ret2
          exact ⟨hi, true, rfl, ⟨by have := HR.out.len; omega, I.out.1, fun a h1 h2 => I.out.2 a h1 (by have := HR.out.len; omega), by rw [HTo.out, HX.out]; simp; have := HR.out.len; omega⟩, HB1.out⟩
        · have hd : ((t : Int) - k == 0) = false := beq_eq_false_iff_ne.2 (by omega)
          have HX := Lib.hid hyx; clear hyx
          go_wp2_with fail
          go_ret2
          exact ⟨hi, false, rfl, ⟨by have := HR.out.len; omega, I.out.1, fun a h1 h2 => I.out.2 a h1 (by have := HR.out.len; omega), by rw [HTo.out]; simp [HX.out]⟩, HB1.out⟩
      · go_wp2_with fail
        go_ret2
        exact ⟨hi, false, rfl, ⟨by have := HR.out.len; omega, I.out.1, fun a h1 h2 => I.out.2 a h1 (by have := HR.out.len; omega), by simp; have := HR.out.len; omega⟩, HB.out⟩
end Go.Proofs.YtnfkbjgijelfdaaGreat
namespace Go.Proofs.YtnfkbjgijelfdaaGreat

/-- An arc laid into a row that ascends. -/
def setL : Arcs → Nat → Nat → Arcs
  | [], k, x => [(k, x)]
  | (t, f) :: r, k, x => if t < k then (t, f) :: setL r k x else if t = k then (k, x) :: r else (k, x) :: (t, f) :: r

theorem toAt_zero (a : Nat × Nat) (l : Arcs) : toAt (a :: l) 0 = a.1 := rfl
theorem toAt_succ (a : Nat × Nat) (l : Arcs) (j : Nat) : toAt (a :: l) (j + 1) = toAt l j := by simp [toAt, List.getD]

theorem setL_found (l : Arcs) (k x : Nat) : ∀ i, FoundAt l k i true → setL l k x = l.set i (k, x) ∧ i < l.length := by
  induction l with
  | nil => rintro i ⟨h1, h2, h3, h4⟩; simp at h4
  | cons a r ih =>
    rintro i ⟨h1, h2, h3, h4⟩
    obtain ⟨t, f⟩ := a
    have h4' : i < (r.length + 1) ∧ toAt ((t, f) :: r) i = k := by simpa using h4.symm
    cases i with
    | zero =>
      have : t = k := h4'.2
      simp [setL, this]
    | succ i =>
      have hlt : t < k := h2 0 (by omega)
      have := ih i ⟨by simp at h1; omega, fun a ha => by have := h2 (a + 1) (by omega); rwa [toAt_succ] at this, fun a ha hb => by have := h3 (a + 1) (by omega) (by simp; omega); rwa [toAt_succ] at this, by
        have h5 := h4'.2; rw [toAt_succ] at h5; simp [h5]; omega⟩
      simp [setL, hlt, this.1]; omega

theorem setL_new (l : Arcs) (k x : Nat) : ∀ i, FoundAt l k i false → setL l k x = insL l i (k, x) := by
  induction l with
  | nil => rintro i ⟨h1, h2, h3, h4⟩; simp [setL, insL]
  | cons a r ih =>
    rintro i ⟨h1, h2, h3, h4⟩
    obtain ⟨t, f⟩ := a
    have h4' : ¬ (i < (r.length + 1) ∧ toAt ((t, f) :: r) i = k) := by simpa using h4.symm
    cases i with
    | zero =>
      have h5 : k ≤ t := h3 0 (by omega) (by simp)
      have h6 : ¬ t = k := fun e => h4' ⟨by omega, e⟩
      have h7 : ¬ t < k := by omega
      simp [setL, h6, h7, insL]
    | succ i =>
      have hlt : t < k := h2 0 (by omega)
      have := ih i ⟨by simp at h1; omega, fun a ha => by have := h2 (a + 1) (by omega); rwa [toAt_succ] at this, fun a ha hb => by have := h3 (a + 1) (by omega) (by simp; omega); rwa [toAt_succ] at this, by
        rw [toAt_succ] at h4'; simp; intro h; by_cases e : toAt r i = k
        · exact absurd ⟨by omega, e⟩ h4'
        · exact e⟩
      simp [setL, hlt, this, insL]

theorem ArcsUp_iff (l : Arcs) : ArcsUp l ↔ l.Pairwise (fun a b => a.1 < b.1) := by
  rw [List.pairwise_iff_getElem]
  constructor
  · intro h i j hi hj hij
    have := h i j hij hj
    simpa [toAt, List.getD, hi, hj] using this
  · intro h a b hab hb
    have := h a b (by omega) hb hab
    simpa [toAt, List.getD, hb, show a < l.length by omega] using this

theorem mem_setL (l : Arcs) (k x : Nat) (p : Nat × Nat) (hp : p ∈ setL l k x) : p = (k, x) ∨ (p ∈ l ∧ p.1 ≠ k) ∨ (p ∈ l) := by
  induction l with
  | nil => simp [setL] at hp; exact .inl hp
  | cons a r ih =>
    obtain ⟨t, f⟩ := a
    unfold setL at hp
    split at hp
    · rcases List.mem_cons.1 hp with rfl | h
      · exact .inr (.inr (by simp))
      · rcases ih h with h | h | h
        · exact .inl h
        · exact .inr (.inr (by simp [h.1]))
        · exact .inr (.inr (by simp [h]))
    · split at hp
      · rcases List.mem_cons.1 hp with h | h
        · exact .inl h
        · exact .inr (.inr (by simp [h]))
      · rcases List.mem_cons.1 hp with h | h
        · exact .inl h
        · exact .inr (.inr h)

theorem setL_up (l : Arcs) (k x : Nat) (h : ArcsUp l) : ArcsUp (setL l k x) := by
  rw [ArcsUp_iff] at h ⊢
  induction l with
  | nil => simp [setL]
  | cons a r ih =>
    obtain ⟨t, f⟩ := a
    rw [List.pairwise_cons] at h
    unfold setL
    split
    · rename_i hlt
      refine List.pairwise_cons.2 ⟨fun p hp => ?_, ih h.2⟩
      rcases mem_setL r k x p hp with rfl | h' | h'
      · exact hlt
      · exact h.1 p h'.1
      · exact h.1 p h'
    · split
      · rename_i e; subst e
        exact List.pairwise_cons.2 ⟨fun p hp => h.1 p hp, h.2⟩
      · rename_i h1 h2
        refine List.pairwise_cons.2 ⟨fun p hp => ?_, List.pairwise_cons.2 h⟩
        rcases List.mem_cons.1 hp with rfl | hp
        · show k < t; omega
        · have := h.1 p hp; show k < p.1; have h3 : t < p.1 := this; omega

theorem setL_len (l : Arcs) (k x : Nat) : (setL l k x).length ≤ l.length + 1 := by
  induction l with
  | nil => simp [setL]
  | cons a r ih =>
    obtain ⟨t, f⟩ := a
    unfold setL
    split
    · simp; omega
    · split <;> simp

/-- The weight that a row tells for an end. -/
def arcOf (l : Arcs) (k : Nat) : Option Nat := (l.find? fun a => a.1 == k).map (·.2)
theorem arcOf_setL (l : Arcs) (k x j : Nat) (h : ArcsUp l) : arcOf (setL l k x) j = if j = k then some x else arcOf l j := by
  rw [ArcsUp_iff] at h
  induction l with
  | nil =>
    by_cases e : j = k
    · subst e; simp [setL, arcOf]
    · simp [setL, arcOf, e, Ne.symm e]
  | cons a r ih =>
    obtain ⟨t, f⟩ := a
    rw [List.pairwise_cons] at h
    unfold setL
    split
    · rename_i hlt
      have ih' := ih h.2
      by_cases e : t = j
      · subst e
        have : ¬ t = k := by omega
        simp [arcOf, this]
      · simp only [arcOf, List.find?_cons] at ih' ⊢
        have : (t == j) = false := by simpa using e
        rw [this]; exact ih'
    · split
      · rename_i e; subst e
        by_cases e : j = t
        · subst e; simp [arcOf]
        · have : (t == j) = false := by simpa using Ne.symm e
          simp [arcOf, this, e]
      · by_cases e : j = k
        · subst e; simp [arcOf]
        · have : (k == j) = false := by simpa using Ne.symm e
          simp [arcOf, List.find?_cons, this, e]

theorem toAt_ge (l : Arcs) (h : ArcsUp l) : ∀ j, j < l.length → j ≤ toAt l j := by
  intro j
  induction j with
  | zero => intro _; omega
  | succ j ih => intro hj; have := ih (by omega); have := h j (j + 1) (by omega) hj; omega
theorem arcs_len {l : Arcs} {n : Nat} (h : ArcsUp l) (hn : ∀ a ∈ l, a.1 < n) : l.length ≤ n := by
  by_cases h0 : l.length = 0
  · omega
  · have h1 := toAt_ge l h (l.length - 1) (by omega)
    have h2 : toAt l (l.length - 1) < n := by
      have hj : l.length - 1 < l.length := by omega
      have := hn l[l.length - 1] (List.getElem_mem hj)
      simpa [toAt, List.getD, hj] using this
    omega
theorem toAt_lt {l : Arcs} {n : Nat} (hn : ∀ a ∈ l, a.1 < n) : ∀ j, j < l.length → toAt l j < n := by
  intro j hj
  have := hn l[j] (List.getElem_mem hj)
  simpa [toAt, List.getD, hj] using this

end Go.Proofs.YtnfkbjgijelfdaaGreat
namespace Go.Proofs.YtnfkbjgijelfdaaGreat
open Go.RowKit

/-- Put in where it lies. -/
def InsHere (w : World) (g c n : Nat) (l' : Arcs) (w' : World) : Prop :=
  ∃ (q : Nat) (cur' : List Value), w' = (w.drewN q).setRow g cur'.toArray ∧ cur'.length = c * 2 ∧ cur'.take ((n + 1) * 2) = flat l'

theorem arc_info : (Tryz.prog.info? 248).map (fun i => (i.zero, i.size, i.bytes)) = some (some (.agg #[.int .i64 0, .float .f64 0]), 2, 16) := by kernel_rfl

set_option maxHeartbeats 4000000 in
set_option maxRecDepth 100000 in
theorem insert_mid_room (g n c i k x bv : Nat) (cur : List Value) (l : Arcs) (w : World) (hlen : l.length = n) (hi : i < n) (hroom : n + 1 ≤ c) (hc63 : c ≤ 9223372036854775807)
    (hg : w.heap[g]? = some (.cells cur.toArray 248 (0, 0))) (hcur : cur.length = c * 2) (htake : cur.take (n * 2) = flat l)
    (hbv : w.heap[bv]? = some (.cells #[.int .i64 k, .float .f64 x] 248 (0, 0))) (hne : bv ≠ g) :
    Calls Tryz.prog 186 #[.slice (some ⟨g, 0, none⟩) n c, .int .i64 i, .slice (some ⟨bv, 0, none⟩) 1 1] w fun e w' =>
      e = .returned (.slice (some ⟨g, 0, none⟩) (n + 1) c) ∧ InsHere w g c n (insL l i (k, x)) w' := by
  have hov : ∀ lb cb, (callFunc 192 #[.slice (some ⟨bv, 0, none⟩) 1 1, .slice (some ⟨g, (i + 1) * 2, none⟩) lb cb]).run Tryz.prog w = .ok (.value (.bool false)) w := fun lb cb => by
    rw [run_callFunc_extern Tryz.func192 (by kernel_rfl) (by kernel_rfl) (by kernel_rfl) (e := Extern.SlicesOverlaps.overlaps #[224, 224] #[4]) (by kernel_rfl),
      Lib.run_overlaps_apart w 224 4 248 Tryz.underlying224 2 Tryz.sizeOf248 ⟨bv, 0, none⟩ ⟨g, (i + 1) * 2, none⟩ 1 1 lb cb hne 248 248 2 (c * 2) (by simp [World.shape?, hbv]) (by simp [World.shape?, hg, hcur]) (by omega) (by simp [World.frozen?, hbv]) (by simp [World.frozen?, hbv])]
    rfl
  have hsz : (Tryz.prog.info? 248).map (·.size) = some 2 := by
    obtain ⟨i0, hi0, h0, h1, h2⟩ := info_parts arc_info
    rw [hi0]; simp [h1]
  go_enter Tryz.func186, Tryz.ntmps186
  have Hg := Lib.hid hg; clear hg
  have Hcur := Lib.hid hcur; clear hcur
  have Ht := Lib.hid htake; clear htake
  have Hbv := Lib.hid hbv; clear hbv
  have Hlen := Lib.hid hlen; clear hlen
  have hdl : (flat (l.drop i)).length = (n - i) * 2 := by rw [flat_len, List.length_drop, Hlen.out]
  have Hdl := Lib.hid hdl; clear hdl
  obtain ⟨cur1, hcur1⟩ : ∃ cur1 : List Value, cur1 = cur.take ((i + 1) * 2) ++ flat (l.drop i) ++ cur.drop ((i + 1) * 2 + (flat (l.drop i)).length) := ⟨_, rfl⟩
  have Hc1 := Lib.hid hcur1; clear hcur1
  have hcp1 : ∀ (W : World), W.heap = w.heap → ∀ ty dc sc, (Builtin.copy_ #[224, 224] ty #[.slice (some ⟨g, (i + 1) * 2, none⟩) (n - i) dc, .slice (some ⟨g, i * 2, none⟩) (n + 1 - i) sc]).run Tryz.prog W = .ok (goInt ((n - i : Nat) : Int)) (W.setRow g cur1.toArray) := fun W hW ty dc sc => by
    have hm : Nat.min (n + 1 - i) (n - i) = n - i := by simp only [Nat.min_def]; split <;> omega
    have := run_copy_rowK (P := Tryz.prog) W 224 224 ty 248 2 g ((i + 1) * 2) (n - i) dc ⟨g, i * 2, none⟩ (n + 1 - i) sc cur.toArray 248 (flat (l.drop i)) Tryz.underlying224 hsz (by rw [hW]; exact Hg.out) (by rw [hm]; exact Hdl.out)
      (fun j v hj => by
        have hj2 : j < (n - i) * 2 := by have := (List.getElem?_eq_some_iff.1 hj).1; rw [Hdl.out] at this; exact this
        rw [Addr.add_lit, cell_of_row W g _ cur.toArray 248 (0, 0) (by rw [hW]; exact Hg.out), List.getElem?_toArray]
        rw [← flat_drop l i (by rw [Hlen.out]; omega), List.getElem?_drop, ← Ht.out, List.getElem?_take_of_lt (by omega)] at hj
        exact hj)
      (by rw [Hdl.out, List.size_toArray, Hcur.out]; omega) (flat_one _)
    rw [this, hm, Hc1.out]
  have hl1 : cur1.length = c * 2 := by
    rw [Hc1.out]; simp only [List.length_append, List.length_take, List.length_drop, Hdl.out, Hcur.out]; omega
  have Hl1 := Lib.hid hl1; clear hl1
  obtain ⟨cur2, hcur2⟩ : ∃ cur2 : List Value, cur2 = cur1.take (i * 2) ++ [.int .i64 k, .float .f64 x] ++ cur1.drop (i * 2 + 2) := ⟨_, rfl⟩
  have Hc2 := Lib.hid hcur2; clear hcur2
  have hcp2 : ∀ (W : World), W.heap[g]? = some (.cells cur1.toArray 248 (0, 0)) → W.heap[bv]? = w.heap[bv]? → ∀ ty dc, (Builtin.copy_ #[224, 224] ty #[.slice (some ⟨g, i * 2, none⟩) (n + 1 - i) dc, .slice (some ⟨bv, 0, none⟩) 1 1]).run Tryz.prog W = .ok (goInt ((1 : Nat) : Int)) (W.setRow g cur2.toArray) := fun W hW hW2 ty dc => by
    have hm : Nat.min 1 (n + 1 - i) = 1 := by simp only [Nat.min_def]; split <;> omega
    have := run_copy_rowK (P := Tryz.prog) W 224 224 ty 248 2 g (i * 2) (n + 1 - i) dc ⟨bv, 0, none⟩ 1 1 cur1.toArray 248 [.int .i64 k, .float .f64 x] Tryz.underlying224 hsz hW (by rw [hm]; rfl)
      (fun j v hj => by
        rw [Addr.add_lit, cell_of_row W bv _ _ 248 (0, 0) (by rw [hW2]; exact Hbv.out)]
        simpa using hj)
      (by simp only [List.length_cons, List.length_nil, List.size_toArray, Hl1.out]; omega) (by intro v hv; rcases List.mem_cons.1 hv with rfl | hv; · rfl
                                                                                                · obtain rfl := List.mem_singleton.1 hv; rfl)
    rw [this, hm, Hc2.out]; rfl
  go_wp2_with (simp only [hov])
  have hw1 : IntKind.i64.wrap ((i : Int) + 1) = (i : Int) + 1 := by rw [IntKind.wrap_i64]; omega
  have hb1 : (0 : Int) ≤ (i : Int) + 1 := by omega
  have hb3 : (i : Int) + 1 ≤ (n : Int) + 1 := by omega
  have hb5 : (i : Int) ≤ (n : Int) + 1 := by omega
  have htn : ((i : Int) + 1).toNat = i + 1 := by omega
  have hb2 : ¬ (c = i + 1) := by omega
  have hb4 : ¬ (c = i) := by omega
  have hb6 : n + 1 - (i + 1) = n - i := by omega
  have hcpa := hcp1 w.drew rfl
  clear hcp1
  go_region_law (refine step_copy_run' rfl _ _ 224 224 rfl _ _ (by simp [Act.eval, Act.put]) (by simp [Act.eval, Act.put]) (hcpa _ _ _) ?_)
  have hW1 : (w.drew.setRow g cur1.toArray).heap[g]? = some (.cells cur1.toArray 248 (0, 0)) := setRow_heap w.drew g cur.toArray cur1.toArray 248 (0, 0) Hg.out
  have hW2 : (w.drew.setRow g cur1.toArray).heap[bv]? = w.heap[bv]? := setRow_other w.drew g bv _ hne
  have hcpb := hcp2 _ hW1 hW2
  clear hcp2 hcpa hW1 hW2
  go_wp2_with (at_builtin; refine wpList_copy_run' _ rfl _ _ 224 224 rfl _ _ rfl rfl (hcpb _ _) ?_)
  go_ret
  refine ⟨rfl, 1, cur2, by rw [setRow_setRow]; rfl, ?_, ?_⟩
  · rw [Hc2.out]; simp only [List.length_append, List.length_take, List.length_drop, List.length_cons, List.length_nil, Hl1.out]; omega
  · have e1 : cur1.take (i * 2) = flat (l.take i) := by
      rw [Hc1.out, List.append_assoc, List.take_append_of_le_length (by rw [List.length_take, Hcur.out]; omega), List.take_take, Nat.min_eq_left (by omega), ← flat_take l i (by rw [Hlen.out]; omega), ← Ht.out, List.take_take, Nat.min_eq_left (by omega)]
    have e2 : (cur1.drop (i * 2 + 2)).take ((n - i) * 2) = flat (l.drop i) := by
      rw [Hc1.out, List.append_assoc, List.drop_append_of_le_length (by rw [List.length_take, Hcur.out]; omega), List.drop_eq_nil_of_le (by rw [List.length_take, Hcur.out]; omega), List.nil_append, ← Hdl.out, List.take_left]
    rw [Hc2.out, e1, insL, flat_append, flat_cons, ← e2]
    have h1 : (flat (l.take i) ++ [Value.int .i64 k, Value.float .f64 x]).length = i * 2 + 2 := by
      rw [List.length_append, flat_len, List.length_take, Hlen.out]; simp; omega
    rw [show (n + 1) * 2 = (flat (l.take i) ++ [Value.int .i64 k, Value.float .f64 x]).length + (n - i) * 2 by rw [h1]; omega, List.take_length_add_append, List.append_assoc]
end Go.Proofs.YtnfkbjgijelfdaaGreat
namespace Go.Proofs.YtnfkbjgijelfdaaGreat
open Go.RowKit

/-- Put in, in a new row. -/
def InsNew (w : World) (n : Nat) (l' : Arcs) (v' : Value) (w' : World) : Prop :=
  ∃ (cp : Nat) (cells : List Value), v' = .slice (some ⟨w.heap.size, 0, none⟩) (n + 1) cp ∧ Below w.heap.size w w' ∧ w'.heap[w.heap.size]? = some (.cells cells.toArray 248 (0, 0)) ∧
    cells.length = cp * 2 ∧ n + 1 ≤ cp ∧ cp ≤ maxLen ∧ cells.take ((n + 1) * 2) = flat l'

def RetNew (w : World) (n : Nat) (l' : Arcs) (e : Ending) (w' : World) : Prop := ∃ v', e = .returned v' ∧ InsNew w n l' v' w'

theorem zeroCells_len (z : Array Value) (n : Nat) : (Builtin.zeroCells z n).toList.length = n * z.size := by simp [Builtin.zeroCells]

set_option maxHeartbeats 4000000 in
set_option maxRecDepth 100000 in
theorem insert_end_room (g n c k x bv : Nat) (cur : List Value) (l : Arcs) (w : World) (hlen : l.length = n) (hroom : n + 1 ≤ c) (hc63 : c ≤ 9223372036854775807)
    (hg : w.heap[g]? = some (.cells cur.toArray 248 (0, 0))) (hcur : cur.length = c * 2) (htake : cur.take (n * 2) = flat l)
    (hbv : w.heap[bv]? = some (.cells #[.int .i64 k, .float .f64 x] 248 (0, 0))) :
    Calls Tryz.prog 186 #[.slice (some ⟨g, 0, none⟩) n c, .int .i64 n, .slice (some ⟨bv, 0, none⟩) 1 1] w fun e w' =>
      e = .returned (.slice (some ⟨g, 0, none⟩) (n + 1) c) ∧ InsHere w g c n (insL l n (k, x)) w' := by
  obtain ⟨i0, hi0, hz0, hz1, hz2⟩ := info_parts arc_info
  have hrun := fun ty => run_append_room (P := Tryz.prog) w 224 ty 248 i0 Tryz.underlying224 hi0 g n c cur.toArray hg ⟨bv, 0, none⟩ 1 1 [.int .i64 k, .float .f64 x] (by rw [hz1]; rfl)
      (fun j v hj => by
        rw [Addr.add_lit, cell_of_row w bv _ _ 248 (0, 0) hbv]
        simpa using hj)
      (pair_one k x)
      hroom (by rw [hz1, List.size_toArray, hcur]; simp; omega)
  obtain ⟨cur', hcur'⟩ : ∃ cur' : List Value, cur' = cur.take (n * 2) ++ [.int .i64 k, .float .f64 x] ++ cur.drop (n * 2 + 2) := ⟨_, rfl⟩
  have hrun' : ∀ ty, (Builtin.append_ #[224, 224] ty #[.slice (some ⟨g, 0, none⟩) n c, .slice (some ⟨bv, 0, none⟩) 1 1]).run Tryz.prog w = .ok (.slice (some ⟨g, 0, none⟩) (n + 1) c) (w.setRow g cur'.toArray) := fun ty => by
    rw [hrun ty, hz1, hcur']; rfl
  have hfin : InsHere w g c n (insL l n (k, x)) (w.setRow g cur'.toArray) := by
    refine ⟨0, cur', rfl, ?_, ?_⟩
    · rw [hcur']; simp only [List.length_append, List.length_take, List.length_drop, List.length_cons, List.length_nil, hcur]; omega
    · rw [hcur', insL_end l n k x hlen, htake]
      have h1 : (flat l ++ [Value.int .i64 k, Value.float .f64 x]).length = (n + 1) * 2 := by
        rw [List.length_append, flat_len, hlen]; simp; omega
      rw [← h1, List.take_append_of_le_length (Nat.le_refl _), List.take_length]
  have HF := Lib.hid hfin
  clear hrun hg hcur htake hbv hlen hz0 hz1 hz2 hi0 hcur' hfin
  go_enter Tryz.func186, Tryz.ntmps186
  go_wp2_with (at_builtin; refine Lib.wpList_append_run _ rfl _ _ _ _ rfl _ _ rfl rfl _ _ (hrun' _) ?_)
  all_goals
    go_ret
    exact ⟨rfl, HF.out⟩

set_option maxHeartbeats 4000000 in
set_option maxRecDepth 100000 in
theorem insert_end_grow (base : Option Addr) (n c k x bv : Nat) (l : Arcs) (w : World) (hlen : l.length = n) (hnc : n ≤ c) (hroom : c < n + 1) (hbig : (n + 1) * 16 ≤ 140737488355328)
    (hold : (base = none ∧ n = 0) ∨ ∃ g, base = some ⟨g, 0, none⟩ ∧ ∀ j v, (flat l)[j]? = some v → w.cell? ⟨g, j, none⟩ = some v)
    (hbv : w.heap[bv]? = some (.cells #[.int .i64 k, .float .f64 x] 248 (0, 0))) :
    Calls Tryz.prog 186 #[.slice base n c, .int .i64 n, .slice (some ⟨bv, 0, none⟩) 1 1] w
      (RetNew w n (insL l n (k, x))) := by
  obtain ⟨i0, hi0, hz0, hz1, hz2⟩ := info_parts arc_info
  have hsrc : Src Tryz.prog 2 224 (.slice (some ⟨bv, 0, none⟩) 1 1) 1 [.int .i64 k, .float .f64 x] w := Src.ofSlice w Tryz.underlying224 ⟨bv, 0, none⟩ 1 1 _ rfl (fun j v hj => by
        rw [Addr.add_lit, cell_of_row w bv _ _ 248 (0, 0) hbv]
        simpa using hj)
      (pair_one k x)
  have hfirst : (Builtin.firstCells i0.size n (.slice base n c)).run Tryz.prog w.drew = .ok (flat l).toArray w.drew := by
    rw [hz1]
    rcases hold with ⟨rfl, rfl⟩ | ⟨g, rfl, hc⟩
    · obtain rfl := List.eq_nil_of_length_eq_zero hlen
      exact run_firstCells_none w.drew 2 0 0 c
    · exact run_firstCells_some w.drew 2 n ⟨g, 0, none⟩ n c (flat l) (by rw [flat_len, hlen]) (fun j v hj => by rw [Addr.add_lit, Nat.zero_add]; exact hc j v hj)
  have hrun := fun ty => run_append_grow_src (P := Tryz.prog) w 224 224 ty 248 i0 _ Tryz.underlying224 hi0 hz0 base n c (flat l) hfirst _ 1 _ (by rw [hz1]; exact hsrc) hroom (by omega) (by rw [hz2]; exact growslice_fits hroom hbig)
  have hcp : n + 1 ≤ grownCap w (n + 1) c 248 := grownCap_ge _ _ _ _
  have hcm : grownCap w (n + 1) c 248 ≤ maxLen := grownCap_le_maxLen _ _ _ _ (by unfold maxLen; omega)
  obtain ⟨cp, hcpe⟩ : ∃ cp, cp = grownCap w (n + 1) c 248 := ⟨_, rfl⟩
  rw [← hcpe] at hcp hcm
  simp only [← hcpe] at hrun
  obtain ⟨cells, hcells⟩ : ∃ cells : List Value, cells = (flat l ++ [Value.int .i64 k, Value.float .f64 x]) ++ (Builtin.zeroCells (Value.agg #[.int .i64 0, .float .f64 0]).cells (cp - (n + 1))).toList := ⟨_, rfl⟩
  have hrun' : ∀ ty, (Builtin.append_ #[224, 224] ty #[.slice base n c, .slice (some ⟨bv, 0, none⟩) 1 1]).run Tryz.prog w = .ok (.slice (some ⟨w.heap.size, 0, none⟩) (n + 1) cp) (w.drew.alloc (.cells cells.toArray 248)) := fun ty => by
    rw [hrun ty, hcells]; congr 3; apply Array.ext'; simp
  have hfin : InsNew w n (insL l n (k, x)) (.slice (some ⟨w.heap.size, 0, none⟩) (n + 1) cp) (w.drew.alloc (.cells cells.toArray 248)) := by
    refine ⟨cp, cells, rfl, ((Below.refl _ _).drew).alloc (Nat.le_refl _) _, heap_alloc_new w.drew _, ?_, hcp, hcm, ?_⟩
    · rw [hcells, List.length_append, List.length_append, flat_len, hlen, zeroCells_len]
      show n * 2 + 2 + (cp - (n + 1)) * 2 = cp * 2
      omega
    · have h1 : (flat l ++ [Value.int .i64 k, Value.float .f64 x]).length = (n + 1) * 2 := by
        rw [List.length_append, flat_len, hlen]; simp; omega
      rw [hcells, ← h1, insL_end l n k x hlen, List.take_append_of_le_length (Nat.le_refl _), List.take_length]
  have HF := Lib.hid hfin; clear hfin
  have Hnc := Lib.hid hnc
  have hb : (base = none ∧ n = 0) ∨ ∃ g o s, base = some ⟨g, o, s⟩ := by
    rcases hold with h | ⟨g, h, _⟩
    · exact .inl h
    · exact .inr ⟨_, _, _, h⟩
  clear hcpe hfirst hsrc hbv hz0 hz1 hz2 hi0 hold hlen hcells hrun
  go_enter Tryz.func186, Tryz.ntmps186
  rcases hb with ⟨rfl, rfl⟩ | ⟨g, o, s, rfl⟩
  all_goals
    go_wp2_with (at_builtin; refine Lib.wpList_append_run _ rfl _ _ _ _ rfl _ _ rfl rfl _ _ (hrun' _) ?_)
  all_goals
    go_ret
    exact ⟨_, rfl, HF.out⟩

set_option maxHeartbeats 4000000 in
set_option maxRecDepth 100000 in
theorem insert_mid_grow (g n c i k x bv : Nat) (l : Arcs) (w : World) (hlen : l.length = n) (hi : i < n) (hnc : n ≤ c) (hroom : c < n + 1) (hbig : (n + 1) * 16 ≤ 140737488355328)
    (hc : ∀ j v, (flat l)[j]? = some v → w.cell? ⟨g, j, none⟩ = some v) (hgw : g < w.heap.size)
    (hbv : w.heap[bv]? = some (.cells #[.int .i64 k, .float .f64 x] 248 (0, 0))) :
    Calls Tryz.prog 186 #[.slice (some ⟨g, 0, none⟩) n c, .int .i64 i, .slice (some ⟨bv, 0, none⟩) 1 1] w
      (RetNew w n (insL l i (k, x))) := by
  obtain ⟨i0, hi0, hz0, hz1, hz2⟩ := info_parts arc_info
  have hsz : (Tryz.prog.info? 248).map (·.size) = some 2 := by rw [hi0]; simp [hz1]
  have hti : (flat (l.take i)).length = i * 2 := by rw [flat_len, List.length_take]; omega
  have hdl : (flat (l.drop i)).length = (n - i) * 2 := by rw [flat_len, List.length_drop, hlen]
  have hfirst : (Builtin.firstCells i0.size i (.slice (some ⟨g, 0, none⟩) i c)).run Tryz.prog w.drew = .ok (flat (l.take i)).toArray w.drew := by
    rw [hz1]
    refine run_firstCells_some w.drew 2 i ⟨g, 0, none⟩ i c (flat (l.take i)) hti (fun j v hj => ?_)
    rw [Addr.add_lit, Nat.zero_add]
    have hj2 : j < i * 2 := by have := (List.getElem?_eq_some_iff.1 hj).1; omega
    refine hc j v ?_
    rw [← flat_take l i (by omega), List.getElem?_take_of_lt hj2] at hj
    exact hj
  have hrun := fun ty => run_append_zeros_grow (P := Tryz.prog) w 224 3 ty 248 i0 _ .i64 .i64 Tryz.underlying224 Tryz.underlying3 hi0 hz0 (some ⟨g, 0, none⟩) i c (flat (l.take i)) hfirst (n + 1 - i) (by omega) (by omega) (by omega) (by omega) (by rw [hz2]; omega) (by rw [hz2]; exact growslice_fits (by omega) (by rw [show i + (n + 1 - i) = n + 1 by omega]; exact hbig))
  rw [show i + (n + 1 - i) = n + 1 by omega] at hrun
  have hcp : n + 1 ≤ grownCap w (n + 1) c 248 := grownCap_ge _ _ _ _
  have hcm : grownCap w (n + 1) c 248 ≤ maxLen := grownCap_le_maxLen _ _ _ _ (by unfold maxLen; omega)
  obtain ⟨cp, hcpe⟩ : ∃ cp, cp = grownCap w (n + 1) c 248 := ⟨_, rfl⟩
  rw [← hcpe] at hcp hcm
  simp only [← hcpe] at hrun
  -- the three states of the new row
  obtain ⟨cur0, hcur0⟩ : ∃ cur0 : List Value, cur0 = flat (l.take i) ++ (Builtin.zeroCells (Value.agg #[.int .i64 0, .float .f64 0]).cells (n + 1 - i)).toList ++ (Builtin.zeroCells (Value.agg #[.int .i64 0, .float .f64 0]).cells (cp - (n + 1))).toList := ⟨_, rfl⟩
  have hl0 : cur0.length = cp * 2 := by
    rw [hcur0, List.length_append, List.length_append, hti, zeroCells_len, zeroCells_len]
    show i * 2 + (n + 1 - i) * 2 + (cp - (n + 1)) * 2 = cp * 2
    omega
  have ht0 : cur0.take (i * 2) = flat (l.take i) := by rw [hcur0, List.append_assoc, ← hti, List.take_left]
  obtain ⟨cur1, hcur1⟩ : ∃ cur1 : List Value, cur1 = cur0.take (i * 2) ++ [.int .i64 k, .float .f64 x] ++ cur0.drop (i * 2 + 2) := ⟨_, rfl⟩
  have hl1 : cur1.length = cp * 2 := by rw [hcur1]; simp only [List.length_append, List.length_take, List.length_drop, List.length_cons, List.length_nil, hl0]; omega
  obtain ⟨cur2, hcur2⟩ : ∃ cur2 : List Value, cur2 = cur1.take ((i + 1) * 2) ++ flat (l.drop i) ++ cur1.drop ((i + 1) * 2 + (flat (l.drop i)).length) := ⟨_, rfl⟩
  have hl2 : cur2.length = cp * 2 := by rw [hcur2]; simp only [List.length_append, List.length_take, List.length_drop, hdl, hl1]; omega
  have hfin : cur2.take ((n + 1) * 2) = flat (insL l i (k, x)) := by
    have h1 : (flat (l.take i) ++ [Value.int .i64 k, Value.float .f64 x]).length = (i + 1) * 2 := by
      rw [List.length_append, hti]; simp; omega
    have e1 : cur1.take ((i + 1) * 2) = flat (l.take i) ++ [.int .i64 k, .float .f64 x] := by
      rw [hcur1, ht0, ← h1, List.take_left]
    have e2 : (flat (l.take i) ++ [Value.int .i64 k, Value.float .f64 x] ++ flat (l.drop i)).length = (n + 1) * 2 := by
      rw [List.length_append, h1, hdl]; omega
    rw [hcur2, e1, ← e2, List.take_append_of_le_length (Nat.le_refl _), List.take_length, insL, flat_append, flat_cons, List.append_assoc]
  have hrun' : ∀ ty, (Builtin.append_ #[224, 3] ty #[.slice (some ⟨g, 0, none⟩) i c, .int .i64 ((n : Int) + 1 - i)]).run Tryz.prog w = .ok (.slice (some ⟨w.heap.size, 0, none⟩) (n + 1) cp) (w.drew.alloc (.cells cur0.toArray 248)) := fun ty => by
    rw [show ((n : Int) + 1 - i) = ((n + 1 - i : Nat) : Int) by omega, hrun ty, hcur0]; congr 3; apply Array.ext'; simp
  obtain ⟨w1, hw1⟩ : ∃ w1, w1 = w.drew.alloc (.cells cur0.toArray 248) := ⟨_, rfl⟩
  have hh0 : w1.heap[w.heap.size]? = some (.cells cur0.toArray 248 (0, 0)) := by rw [hw1]; exact heap_alloc_new w.drew _
  have hold : ∀ b, b < w.heap.size → w1.heap[b]? = w.heap[b]? := fun b hb => by rw [hw1]; exact heap_alloc_old w.drew _ hb
  have hbw : bv < w.heap.size := (Array.getElem?_eq_some_iff.1 hbv).1
  have hb1 : Below w.heap.size w w1 := by rw [hw1]; exact ((Below.refl _ _).drew).alloc (Nat.le_refl _) _
  rw [← hw1] at hrun'
  have hcp2 : ∀ ty dc, (Builtin.copy_ #[224, 224] ty #[.slice (some ⟨w.heap.size, i * 2, none⟩) (n + 1 - i) dc, .slice (some ⟨bv, 0, none⟩) 1 1]).run Tryz.prog w1 = .ok (goInt ((1 : Nat) : Int)) (w1.setRow w.heap.size cur1.toArray) := fun ty dc => by
    have hm : Nat.min 1 (n + 1 - i) = 1 := by simp only [Nat.min_def]; split <;> omega
    have := run_copy_rowK (P := Tryz.prog) w1 224 224 ty 248 2 w.heap.size (i * 2) (n + 1 - i) dc ⟨bv, 0, none⟩ 1 1 cur0.toArray 248 [.int .i64 k, .float .f64 x] Tryz.underlying224 hsz hh0 (by rw [hm]; rfl)
      (fun j v hj => by
        rw [Addr.add_lit, cell_of_row w1 bv _ _ 248 (0, 0) (by rw [hold _ hbw]; exact hbv)]
        simpa using hj)
      (by simp only [List.length_cons, List.length_nil, List.size_toArray, hl0]; omega) (pair_one k x)
    rw [this, hm, hcur1]; rfl
  obtain ⟨w2, hw2⟩ : ∃ w2, w2 = w1.setRow w.heap.size cur1.toArray := ⟨_, rfl⟩
  have hh1 : w2.heap[w.heap.size]? = some (.cells cur1.toArray 248 (0, 0)) := by rw [hw2]; exact setRow_heap w1 _ _ _ _ _ hh0
  have hb2 : Below w.heap.size w w2 := by rw [hw2]; exact below_setRow hb1 (Nat.le_refl _) _
  rw [← hw2] at hcp2
  have hcp1 : ∀ ty dc sc, (Builtin.copy_ #[224, 224] ty #[.slice (some ⟨w.heap.size, (i + 1) * 2, none⟩) (n - i) dc, .slice (some ⟨g, i * 2, none⟩) (n - i) sc]).run Tryz.prog w2.drew = .ok (goInt ((n - i : Nat) : Int)) (w2.drew.setRow w.heap.size cur2.toArray) := fun ty dc sc => by
    have hm : Nat.min (n - i) (n - i) = n - i := by simp only [Nat.min_def]; split <;> omega
    have := run_copy_rowK (P := Tryz.prog) w2.drew 224 224 ty 248 2 w.heap.size ((i + 1) * 2) (n - i) dc ⟨g, i * 2, none⟩ (n - i) sc cur1.toArray 248 (flat (l.drop i)) Tryz.underlying224 hsz hh1 (by rw [hm]; exact hdl)
      (fun j v hj => by
        rw [Addr.add_lit]
        refine (hb2.cell (p := ⟨g, i * 2 + j, none⟩) hgw).trans (hc _ v ?_)
        rw [← flat_drop l i (by omega), List.getElem?_drop] at hj
        exact hj)
      (by rw [hdl, List.size_toArray, hl1]; omega) (flat_one _)
    rw [this, hm, hcur2]
  have HF : Hid (InsNew w n (insL l i (k, x)) (.slice (some ⟨w.heap.size, 0, none⟩) (n + 1) cp) (w2.drew.setRow w.heap.size cur2.toArray)) :=
    ⟨cp, cur2, rfl, below_setRow hb2.drew (Nat.le_refl _) _, setRow_heap w2.drew _ _ _ _ _ hh1, hl2, hcp, hcm, hfin⟩
  have Hcm := Lib.hid hcm
  unfold maxLen at hcm
  clear hi0 hz0 hz1 hz2 hsz hti hdl hfirst hrun hcpe hcur0 hl0 ht0 hcur1 hl1 hcur2 hl2 hfin hw1 hh0 hold hbw hb1 hw2 hh1 hb2 hc hbv hlen
  go_enter Tryz.func186, Tryz.ntmps186
  go_wp2_with (at_builtin; refine Lib.wpList_append_run _ rfl _ _ _ _ rfl _ _ rfl rfl _ _ (hrun' _) ?_)
  have hw1 : IntKind.i64.wrap ((i : Int) + 1) = (i : Int) + 1 := by rw [IntKind.wrap_i64]; omega
  have hb1 : (0 : Int) ≤ (i : Int) + 1 := by omega
  have hb3 : (i : Int) + 1 ≤ (n : Int) + 1 := by omega
  have hb5 : (i : Int) ≤ (n : Int) := by omega
  have htn : ((i : Int) + 1).toNat = i + 1 := by omega
  have hb2 : ¬ (cp = i + 1) := by omega
  have hb4 : ¬ (c = i) := by omega
  have hb6 : n + 1 - (i + 1) = n - i := by omega
  go_region_law (refine step_copy_run' rfl _ _ 224 224 rfl _ _ (by simp [Act.eval, Act.put]) (by simp [Act.eval, Act.put]) (hcp1 _ _ _) ?_)
  go_wp2
  go_ret
  exact ⟨_, rfl, HF.out⟩
end Go.Proofs.YtnfkbjgijelfdaaGreat
namespace Go.Proofs.YtnfkbjgijelfdaaGreat
open Go.RowKit

/-- A row of arcs of the call's own. -/
abbrev OwnA (w : World) (B : Nat) (v : Value) (l : Arcs) : Prop := w.ownsRow B 248 2 v l.length (flat l)

theorem OwnA.rd {w : World} {B : Nat} {v : Value} {l : Arcs} (h : OwnA w B v l) (hs : l.length < 4611686018427387904) : ∃ a c, v = .slice a l.length c ∧ RdA w a l.length l := by
  obtain ⟨h1, ⟨rfl, h0⟩ | ⟨g, cap, cur, rfl, hb, hg, h3, h4, h5, h6⟩⟩ := h
  · exact ⟨none, 0, by rw [h0], rfl, hs, by omega⟩
  · refine ⟨_, cap, rfl, rfl, hs, fun _ => ⟨g, 0, rfl, (Array.getElem?_eq_some_iff.1 hg).1, fun j hj => ?_⟩⟩
    obtain ⟨⟨t, f⟩, hp⟩ : ∃ p, l[j]? = some p := ⟨_, List.getElem?_eq_getElem hj⟩
    obtain ⟨e1, e2⟩ := flat_get l j t f hp
    rw [← h6] at e1 e2
    rw [List.getElem?_take_of_lt (by omega)] at e1 e2
    exact ⟨t, f, hp, by rw [cell_of_row w g _ cur _ (0, 0) hg, Nat.zero_add]; simpa using e1, by rw [cell_of_row w g _ cur _ (0, 0) hg, Nat.zero_add]; simpa using e2⟩

theorem grownBy_of_below {w w' : World} (h : Below w.heap.size w w') (row : Option Nat) : w.grownBy w' row :=
  ⟨h.os, h.tape, h.output, h.size, fun k hk _ => h.block k hk⟩

theorem grownBy_trans {w w1 w2 : World} {row : Option Nat} (h : w.grownBy w1 row) (k : w1.grownBy w2 row) : w.grownBy w2 row :=
  ⟨k.os.trans h.os, k.tape.trans h.tape, k.output.trans h.output, Nat.le_trans h.size k.size, fun i hi hne => (k.block i (Nat.lt_of_lt_of_le hi h.size) hne).trans (h.block i hi hne)⟩

theorem InsHere.owns {w w' : World} {B g c n : Nat} {l' : Arcs} {cur : Array Value} (h : InsHere w g c n l' w') (hg : w.heap[g]? = some (.cells cur 248 (0, 0))) (hB : B ≤ g) (hc : c ≤ maxLen) (hn : n + 1 ≤ c) (hl : l'.length = n + 1) :
    OwnA w' B (.slice (some ⟨g, 0, none⟩) (n + 1) c) l' ∧ w.grownBy w' (some g) := by
  obtain ⟨q, cur', rfl, h1, h2⟩ := h
  have hh := setRow_heap (w.drewN q) g cur cur'.toArray 248 (0, 0) hg
  unfold OwnA
  rw [hl]
  refine ⟨⟨by rw [flat_len, hl], .inr ⟨g, c, _, rfl, hB, hh, hn, hc, by simpa using h1, by simpa using h2⟩⟩, rfl, rfl, rfl, by simp, fun k hk hne => ?_⟩
  exact setRow_other (w.drewN q) g k _ (fun e => hne (by rw [e]))

theorem InsNew.owns {w w' : World} {B n : Nat} {l' : Arcs} {v' : Value} (h : InsNew w n l' v' w') (hB : B ≤ w.heap.size) (hl : l'.length = n + 1) (row : Option Nat) :
    OwnA w' B v' l' ∧ w.grownBy w' row ∧ v'.ownBlock = some w.heap.size := by
  obtain ⟨cp, cells, rfl, hb, hg, h1, h2, h3, h4⟩ := h
  unfold OwnA
  rw [hl]
  exact ⟨⟨by rw [flat_len, hl], .inr ⟨_, cp, _, rfl, hB, hg, h2, h3, by simpa using h1, by simpa using h4⟩⟩, grownBy_of_below hb _, rfl⟩

/-- What Insert says of an owned row. -/
def InsPost (B : Nat) (v : Value) (l' : Arcs) (w : World) (e : Ending) (w' : World) : Prop :=
  ∃ v', e = .returned v' ∧ OwnA w' B v' l' ∧ w.grownBy w' v.ownBlock ∧ (v'.ownBlock = v.ownBlock ∨ ∃ g, v'.ownBlock = some g ∧ w.heap.size ≤ g)

theorem insert_calls (B : Nat) (v : Value) (l : Arcs) (i k x bv : Nat) (w : World) (hown : OwnA w B v l) (hB : B ≤ w.heap.size) (hi : i ≤ l.length) (hbig : (l.length + 1) * 16 ≤ 140737488355328)
    (hbv : w.heap[bv]? = some (.cells #[.int .i64 k, .float .f64 x] 248 (0, 0))) (hne : v.ownBlock ≠ some bv) :
    Calls Tryz.prog 186 #[v, .int .i64 i, .slice (some ⟨bv, 0, none⟩) 1 1] w (InsPost B v (insL l i (k, x)) w) := by
  have hl := insL_len l i (k, x) hi
  have hown' := hown
  obtain ⟨h1, ⟨rfl, h0⟩ | ⟨g, cap, cur, rfl, hb, hg, h3, h4, h5, h6⟩⟩ := hown
  · have e : i = l.length := by omega
    have e0 : l.length = 0 := h0
    have := insert_end_grow none 0 0 k x bv l w e0 (by omega) (by omega) (by omega) (.inl ⟨rfl, rfl⟩) hbv
    rw [show i = 0 by omega]
    rw [show i = 0 by omega, e0] at hl
    refine this.mono ?_
    rintro e w' ⟨v', rfl, hn⟩
    obtain ⟨a1, a2, a3⟩ := hn.owns hB hl none
    exact ⟨v', rfl, a1, a2, .inr ⟨_, a3, Nat.le_refl _⟩⟩
  · have hgw : g < w.heap.size := (Array.getElem?_eq_some_iff.1 hg).1
    have hgl : w.heap[g]? = some (.cells cur.toList.toArray 248 (0, 0)) := by simpa using hg
    have hcell : ∀ j v, (flat l)[j]? = some v → w.cell? ⟨g, j, none⟩ = some v := fun j v hj => by
      rw [cell_of_row w g j cur _ (0, 0) hg]
      rw [← h6] at hj
      have hj2 : j < l.length * 2 := by
        have := (List.getElem?_eq_some_iff.1 hj).1
        rw [List.length_take] at this; omega
      rw [List.getElem?_take_of_lt hj2] at hj
      simpa using hj
    have hneg : bv ≠ g := fun e => hne (by rw [e]; rfl)
    by_cases hroom : l.length + 1 ≤ cap
    · by_cases hil : i < l.length
      · refine (insert_mid_room g l.length cap i k x bv cur.toList l w rfl hil hroom (by unfold maxLen at h4; omega) hgl (by simpa using h5) h6 hbv hneg).mono ?_
        rintro e w' ⟨rfl, hh⟩
        obtain ⟨a1, a2⟩ := hh.owns hg hb h4 hroom hl
        exact ⟨_, rfl, a1, a2, .inl rfl⟩
      · obtain rfl : i = l.length := by omega
        refine (insert_end_room g l.length cap k x bv cur.toList l w rfl hroom (by unfold maxLen at h4; omega) hgl (by simpa using h5) h6 hbv).mono ?_
        rintro e w' ⟨rfl, hh⟩
        obtain ⟨a1, a2⟩ := hh.owns hg hb h4 hroom hl
        exact ⟨_, rfl, a1, a2, .inl rfl⟩
    · by_cases hil : i < l.length
      · refine (insert_mid_grow g l.length cap i k x bv l w rfl hil h3 (by omega) hbig hcell hgw hbv).mono ?_
        rintro e w' ⟨v', rfl, hn⟩
        obtain ⟨a1, a2, a3⟩ := hn.owns hB hl (some g)
        exact ⟨v', rfl, a1, a2, .inr ⟨_, a3, Nat.le_refl _⟩⟩
      · obtain rfl : i = l.length := by omega
        refine (insert_end_grow (some ⟨g, 0, none⟩) l.length cap k x bv l w rfl h3 (by omega) hbig (.inr ⟨g, rfl, hcell⟩) hbv).mono ?_
        rintro e w' ⟨v', rfl, hn⟩
        obtain ⟨a1, a2, a3⟩ := hn.owns hB hl (some g)
        exact ⟨v', rfl, a1, a2, .inr ⟨_, a3, Nat.le_refl _⟩⟩

set_option maxHeartbeats 1000000 in
theorem set_calls (B : Nat) (v : Value) (l : Arcs) (k x : Nat) (w : World) (hown : OwnA w B v l) (hB : B ≤ w.heap.size) (hup : ArcsUp l) (hk : k < 4611686018427387904) (hto : ∀ j, j < l.length → toAt l j < 4611686018427387904) (hbig : (l.length + 1) * 16 ≤ 140737488355328) :
    Calls Tryz.prog 161 #[v, .int .i64 k, .float .f64 x] w (InsPost B v (setL l k x) w) := by
  obtain ⟨a, c, rfl, hrd⟩ := OwnA.rd hown (by omega)
  have HO := Lib.hid hown; clear hown
  have HR := Lib.hid hrd; clear hrd
  go_enter Tryz.func161, Tryz.ntmps161
  go_wp2_with fail
  refine (search_calls 185 set_cmp a l.length c k l w HR.out hup hk hto).mono ?_
  rintro e w1 ⟨i, found, rfl, hf, hb1⟩
  have HF := Lib.hid hf
  have hsz := hb1.size
  have HB1 := Lib.hid hb1; clear hb1
  cases found
  · have hown1 : OwnA w1 B (.slice a l.length c) l := HO.out.kept (grownBy_of_below HB1.out none) (by cases (Value.slice a l.length c).ownBlock <;> simp)
    have hlt : ∀ g, (Value.slice a l.length c).ownBlock = some g → g < w.heap.size := fun g h => (HO.out.lt g h).2
    have HO1 := Lib.hid hown1; clear hown1
    have HLt := Lib.hid hlt; clear hlt
    have HI := Lib.hid hf.1
    have HE := Lib.hid (setL_new l k x i hf)
    clear hf
    go_wp2_with fail
    refine (insert_calls B (.slice a l.length c) l i k x w1.heap.size _ (HO1.out.alloc _) (by simp; omega) HI.out hbig (heap_alloc_new w1 _) (fun h => by have := HLt.out _ h; omega)).mono ?_
    rintro e w2 ⟨v', rfl, h1, h2, h3⟩
    have HP := Lib.hid (And.intro h1 (And.intro h2 h3)); clear h1 h2 h3
    go_wp2_with fail
    go_ret
    refine ⟨v', rfl, by rw [HE.out]; exact HP.out.1, ?_, ?_⟩
    · exact grownBy_trans (grownBy_of_below (HB1.out.alloc hsz _) _) HP.out.2.1
    · rcases HP.out.2.2 with h | ⟨g, h, hg⟩
      · exact .inl h
      · exact .inr ⟨g, h, by simp at hg; omega⟩
  · obtain ⟨he, hil⟩ := setL_found l k x i hf
    have hf' : i < l.length ∧ toAt l i = k := by have := hf.2.2.2; simpa using this.symm
    have HE := Lib.hid he
    have HI := Lib.hid hil; clear hf he
    obtain ⟨h1, ⟨e, h0⟩ | ⟨g, cap, cur, e, hb, hg, h3, h4, h5, h6⟩⟩ := HO.out
    · omega
    · simp only [Value.slice.injEq] at e
      obtain ⟨rfl, -, rfl⟩ := e
      have hg1 : w1.heap[g]? = some (.cells cur 248 (0, 0)) := (HB1.out.block g (Array.getElem?_eq_some_iff.1 hg).1).trans hg
      obtain ⟨⟨t, f⟩, hp⟩ : ∃ p, l[i]? = some p := ⟨_, List.getElem?_eq_getElem hil⟩
      obtain ⟨e1, e2⟩ := flat_get l i t f hp
      have hcx : w1.cell? ⟨g, i * 2 + 1, none⟩ = some (.float .f64 f) := by
        rw [cell_of_row w1 g _ cur _ (0, 0) hg1]
        rw [← h6, List.getElem?_take_of_lt (by omega)] at e2
        simpa using e2
      have hfx : w1.frozen? ⟨g, i * 2 + 1, none⟩ = false := by simp [World.frozen?, hg1]
      have HO1 : Hid (OwnA (w1.setCell ⟨g, i * 2 + 1, none⟩ (.float .f64 x)) B (.slice (some ⟨g, 0, none⟩) l.length c) (l.set i (k, x))) := by
        refine ⟨by rw [flat_len], .inr ⟨g, c, _, by rw [List.length_set], hb, heap_setCell_same hg1 _, by rw [List.length_set]; exact h3, h4, by simpa using h5, ?_⟩⟩
        have hk' : t = k := by
          have := hf'.2
          simpa [toAt, List.getD, hp] using this
        rw [Array.toList_setIfInBounds, List.take_set, List.length_set, h6]
        exact flat_set l k f x i (by rw [← hk']; exact hp)
      have HG : Hid (w1.grownBy (w1.setCell ⟨g, i * 2 + 1, none⟩ (.float .f64 x)) (some g)) :=
        ⟨rfl, rfl, rfl, by simp [World.setCell], fun j hj hne => Below.heap_setCell _ _ _ _ (fun e => hne (by rw [e]))⟩
      clear h1 h3 h4 h5 h6 hg hg1 hb e1 e2 hp
      go_wp2_with fail
      go_ret
      refine ⟨_, rfl, ?_, ?_, .inl rfl⟩
      · have := HO1.out
        rw [HE.out]
        exact this
      · exact grownBy_trans (grownBy_of_below HB1.out _) HG.out
end Go.Proofs.YtnfkbjgijelfdaaGreat
namespace Go.Proofs.YtnfkbjgijelfdaaGreat

theorem arcOf_found (l : Arcs) (k i : Nat) (hf : FoundAt l k i true) : ∃ x, l[i]? = some (k, x) ∧ arcOf l k = some x := by
  have h4 : i < l.length ∧ toAt l i = k := by have := hf.2.2.2; simpa using this.symm
  obtain ⟨hi, he⟩ := h4
  obtain ⟨⟨t, x⟩, hp⟩ : ∃ p, l[i]? = some p := ⟨_, List.getElem?_eq_getElem hi⟩
  have ht : t = k := by simpa [toAt, List.getD, hp] using he
  subst ht
  refine ⟨x, hp, ?_⟩
  have hlt := hf.2.1
  clear he hf
  induction l generalizing i with
  | nil => simp at hi
  | cons a r ih =>
    cases i with
    | zero =>
      obtain rfl : a = (t, x) := by simpa using hp
      simp [arcOf]
    | succ i =>
      have h0 : a.1 < t := hlt 0 (by omega)
      have : (a.1 == t) = false := by simp; omega
      have ih' := ih i (by simpa using hi) (by simpa using hp) (fun j hj => by have := hlt (j + 1) (by omega); rwa [toAt_succ] at this)
      simp only [arcOf, List.find?_cons, this] at ih' ⊢
      exact ih'
theorem arcOf_none (l : Arcs) (k i : Nat) (h : ArcsUp l) (hf : FoundAt l k i false) : arcOf l k = none := by
  have h4 : ¬ (i < l.length ∧ toAt l i = k) := by have := hf.2.2.2; simpa using this.symm
  have : ∀ j, j < l.length → toAt l j ≠ k := fun j hj e => by
    by_cases h1 : j < i
    · have := hf.2.1 j h1; omega
    · by_cases h2 : j = i
      · subst h2; exact h4 ⟨hj, e⟩
      · have h3 := hf.2.2.1 i (Nat.le_refl _) (by omega)
        have h5 := h i j (by omega) hj
        omega
  unfold arcOf
  rw [List.find?_eq_none.2 (fun a ha => ?_)]
  · rfl
  · obtain ⟨j, hj, rfl⟩ := List.getElem_of_mem ha
    have := this j hj
    simpa [toAt, List.getD, hj] using this

end Go.Proofs.YtnfkbjgijelfdaaGreat
