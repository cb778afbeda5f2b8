/- The walks of the reference's reached and Reaches. -/
import Derived.Test.YtbkoifdnlaihfaaGreatSpec5
import Derived.Test.YtbkoifdnlaihfaaGreatDfs
namespace Go.Proofs.YtbkoifdnlaihfaaGreat
open Go.RowKit

/-- What has been reached so far: the first i of it have been looked at. -/
structure RSt (adj : Int → List Int) (S : List Int) (u : Int) (o : List Int) (i : Nat) : Prop where
  nodup : o.Nodup
  has : u ∈ o
  reach : ∀ y ∈ o, ReachA adj u y
  closed : ∀ j, j < i → ∀ z ∈ adj (o.getD j 0), z ∈ o
  sub : ∀ y ∈ o, y = u ∨ y ∈ S

/-- While the nodes that x leads to are looked at. -/
structure RMid (adj : Int → List Int) (S : List Int) (u : Int) (o : List Int) (i : Nat) (x : Int) (j : Nat) : Prop where
  st : RSt adj S u o i
  lt : i < o.length
  at_ : o.getD i 0 = x
  pre : ∀ z ∈ (adj x).take j, z ∈ o

theorem RSt.start (adj : Int → List Int) (S : List Int) (u : Int) : RSt adj S u [u] 0 :=
  ⟨by simp, by simp, fun y hy => by rw [List.mem_singleton.1 hy]; exact ReachA.refl _ _, fun j hj => by omega, fun y hy => .inl (List.mem_singleton.1 hy)⟩
theorem RSt.len {adj : Int → List Int} {S : List Int} {u : Int} {o : List Int} {i : Nat} (h : RSt adj S u o i) : o.length ≤ S.length + 1 :=
  nodup_len (m := u :: S) h.nodup (fun y hy => (h.sub y hy).elim (fun e => by rw [e]; exact List.mem_cons_self ..) (fun e => List.mem_cons_of_mem _ e))
theorem RSt.look {adj : Int → List Int} {S : List Int} {u : Int} {o : List Int} {i : Nat} (h : RSt adj S u o i) (hi : i < o.length) : RMid adj S u o i (o.getD i 0) 0 :=
  ⟨h, hi, rfl, fun z hz => by simp at hz⟩
theorem RMid.skip {adj : Int → List Int} {S : List Int} {u x z : Int} {o : List Int} {i j : Nat} (h : RMid adj S u o i x j) (hj : j < (adj x).length) (hz : (adj x).getD j 0 = z) (hm : z ∈ o) : RMid adj S u o i x (j + 1) :=
  ⟨h.st, h.lt, h.at_, fun y hy => by
    rw [List.take_succ_eq_append_getElem hj] at hy
    rcases List.mem_append.1 hy with hy | hy
    · exact h.pre y hy
    · have e : (adj x)[j] = z := by simpa [List.getD, hj] using hz
      rw [List.mem_singleton.1 hy, e]; exact hm⟩
theorem RMid.add {adj : Int → List Int} {S : List Int} {u x z : Int} {o : List Int} {i j : Nat} (h : RMid adj S u o i x j) (hj : j < (adj x).length) (hz : (adj x).getD j 0 = z) (hm : z ∉ o) (hS : ∀ y ∈ adj x, y ∈ S) : RMid adj S u (o ++ [z]) i x (j + 1) := by
  have e : (adj x)[j] = z := by simpa [List.getD, hj] using hz
  have hmem : z ∈ adj x := e ▸ List.getElem_mem hj
  have hget : ∀ k, k < o.length → (o ++ [z]).getD k 0 = o.getD k 0 := fun k hk => by simp [List.getD, List.getElem?_append, hk]
  have hxo : x ∈ o := by
    rw [← h.at_]
    have := h.lt
    simp [List.getD, this]
  refine ⟨⟨?_, List.mem_append_left _ h.st.has, fun y hy => ?_, fun k hk y hy => ?_, fun y hy => ?_⟩, ?_, ?_, fun y hy => ?_⟩
  · rw [List.nodup_append]
    exact ⟨h.st.nodup, by simp, fun a ha b hb e => hm (by rw [← List.mem_singleton.1 hb, ← e]; exact ha)⟩
  · rcases List.mem_append.1 hy with hy | hy
    · exact h.st.reach y hy
    · rw [List.mem_singleton.1 hy]; exact (h.st.reach x hxo).step hmem
  · rw [hget k (by have := h.lt; omega)] at hy
    exact List.mem_append_left _ (h.st.closed k hk y hy)
  · rcases List.mem_append.1 hy with hy | hy
    · exact h.st.sub y hy
    · rw [List.mem_singleton.1 hy]; exact .inr (hS z hmem)
  · rw [List.length_append]; have := h.lt; omega
  · rw [hget i h.lt]; exact h.at_
  · rw [List.take_succ_eq_append_getElem hj, e] at hy
    rcases List.mem_append.1 hy with hy | hy
    · exact List.mem_append_left _ (h.pre y hy)
    · exact List.mem_append_right _ hy
theorem RMid.done {adj : Int → List Int} {S : List Int} {u x : Int} {o : List Int} {i j : Nat} (h : RMid adj S u o i x j) (hj : (adj x).length ≤ j) : RSt adj S u o (i + 1) :=
  ⟨h.st.nodup, h.st.has, h.st.reach, fun k hk y hy => by
    by_cases e : k = i
    · subst e
      rw [h.at_] at hy
      exact h.pre y (by rw [List.take_of_length_le hj]; exact hy)
    · exact h.st.closed k (by omega) y hy, h.st.sub⟩
theorem RSt.done {adj : Int → List Int} {S : List Int} {u : Int} {o : List Int} {i : Nat} (h : RSt adj S u o i) (hi : o.length ≤ i) (y : Int) : y ∈ o ↔ ReachA adj u y := by
  refine ⟨h.reach y, fun hr => hr (fun z => z ∈ o) h.has fun a b ha hb => ?_⟩
  obtain ⟨k, hk⟩ := List.getElem?_of_mem ha
  have hkl := (List.getElem?_eq_some_iff.1 hk).1
  have e : o.getD k 0 = a := by rw [List.getD_eq_getElem?_getD, hk]; rfl
  exact h.closed k (by omega) b (by rw [e]; exact hb)
theorem fromL_sub (d : Bool) (ns : List Int) (es : List (Int × Int × Int)) (x : Int) : ∀ y ∈ fromL d ns es x, y ∈ sortI ns := fun _ hy => (List.mem_filter.1 hy).1
theorem fromL_len (d : Bool) (ns : List Int) (es : List (Int × Int × Int)) (x : Int) : (fromL d ns es x).length ≤ ns.length := by
  have h := List.length_filter_le (fun v => arcB d es x v) (sortI ns)
  rw [sortI_len] at h
  exact h

def ReachedPost (adj : Int → List Int) (u : Int) (w : World) (e : Ending) (w' : World) : Prop :=
  ∃ (v : Value) (r : List Int), e = .returned v ∧ w'.ownsRow w.heap.size 3 1 v r.length (r.map (Value.int .i64)) ∧ (∀ y, y ∈ r ↔ ReachA adj u y) ∧ r.length ≤ 1000 ∧ Below w.heap.size w w'

set_option maxHeartbeats 4000000 in
set_option maxRecDepth 100000 in
theorem reached_calls (d : Bool) (an ae : Option Addr) (n cn m ce : Nat) (ns : List Int) (es : List (Int × Int × Int)) (u : Int) (w : World) (hn : RdI w an n ns) (hr : RdE w ae m es) (hn8 : n ≤ 500) :
    Calls Tryz.prog 93 #[.agg #[.bool d, .slice an n cn, .slice ae m ce], .int .i64 u] w (ReachedPost (fromL d ns es) u w) := by
  have HN := Lib.hid hn; have HR := Lib.hid hr
  have hnl := hn.len
  clear hn hr
  obtain ⟨i0, hi0, hz0, hz1, hz2⟩ := info_parts int_info
  have HI := Lib.hid (And.intro hi0 (And.intro hz0 (And.intro hz1 hz2)))
  clear hi0 hz0 hz1 hz2
  obtain ⟨adj, hadj⟩ : ∃ adj, adj = fromL d ns es := ⟨_, rfl⟩
  have HADJ := Lib.hid hadj
  have HSUB : Hid (∀ x, ∀ y ∈ adj x, y ∈ sortI ns) := Lib.hid (by rw [hadj]; exact fromL_sub d ns es)
  have HLENA : Hid (∀ x, (adj x).length ≤ n) := Lib.hid (by rw [hadj, ← hnl]; exact fromL_len d ns es)
  have HSL : Hid ((sortI ns).length = n) := Lib.hid (by rw [sortI_len]; exact hnl)
  clear hadj hnl
  go_enter Tryz.func93, Tryz.ntmps93
  go_wp2_with fail
  obtain ⟨w0, hw0⟩ : ∃ w0, w0 = w.alloc (.cells #[.bool d, .slice an n cn, .slice ae m ce] 25) := ⟨_, rfl⟩
  obtain ⟨bb, hbb⟩ : ∃ bb, bb = w.heap.size + 1 := ⟨_, rfl⟩
  have hb0 : Below w.heap.size w w0 := by rw [hw0]; exact (Below.refl _ _).alloc (Nat.le_refl _) _
  have hs0 : w0.heap.size = bb := by rw [hw0, hbb]; simp
  have x0 : w0.heap[w.heap.size]? = some (.cells #[.bool d, .slice an n cn, .slice ae m ce] 25 (0, 0)) := by rw [hw0]; exact heap_alloc_new w _
  have hws : w.heap.size < bb := by omega
  rw [← hw0, ← hbb]
  obtain ⟨w1, hw1⟩ : ∃ w1, w1 = w0.alloc (.cells #[.int .i64 u] 3) := ⟨_, rfl⟩
  have HO1 : Hid (w1.ownsRow bb 3 1 (.slice (some ⟨bb, 0, none⟩) [u].length 1) [u].length ([u].map (Value.int .i64))) :=
    Lib.hid ⟨rfl, .inr ⟨bb, 1, _, rfl, Nat.le_refl _, (by rw [hw1, ← hs0]; exact heap_alloc_new w0 _), Nat.le_refl _, by unfold maxLen; omega, rfl, rfl⟩⟩
  have HB1 : Hid (Below bb w0 w1) := by rw [hw1]; exact (Below.refl _ _).alloc (by omega) _
  have HSF : Hid (∀ W, Below bb w0 W → W.cell? ⟨w.heap.size, 0, none⟩ = some (.bool d) ∧ W.cell? ⟨w.heap.size, 1, none⟩ = some (.slice an n cn) ∧ W.cell? ⟨w.heap.size, 2, none⟩ = some (.slice ae m ce)) := Lib.hid fun W h => by
    have e1 := (h.block w.heap.size (by omega)).trans x0
    refine ⟨?_, ?_, ?_⟩
    · rw [cell_of_row W _ _ _ _ (0, 0) e1]; rfl
    · rw [cell_of_row W _ _ _ _ (0, 0) e1]; rfl
    · rw [cell_of_row W _ _ _ _ (0, 0) e1]; rfl
  rw [← hw1]
  have HB0 := Lib.hid hb0
  have HS0 := Lib.hid hs0
  have HST0 : Hid (RSt adj (sortI ns) u [u] 0) := RSt.start _ _ _
  clear hw0 hbb hb0 x0 hw1 hs0
  go_loopw [5, 6] (fun v i wr => ∃ (k : Nat) (o : List Int), k ≤ o.length ∧ i = .int .i64 k ∧ wr.ownsRow bb 3 1 v o.length (o.map (Value.int .i64)) ∧ Hid (RSt adj (sortI ns) u o k) ∧ Below bb w0 wr) (fun _ i _ => n + 2 - (intOf i).toNat)
  case atStart => exact ⟨0, [u], by simp, rfl, HO1.out, HST0, HB1.out⟩
  case round =>
    obtain ⟨k, o, hk, rfl, ho, HST, hb⟩ := hrel
    obtain ⟨a1, c1, rfl⟩ := own_shape' ho
    have HO := Lib.hid ho; have HB := Lib.hid hb
    have hszr := hb.size
    have holen : o.length ≤ n + 1 := by have := HST.out.len; have := HSL.out; omega
    have HBW : Hid (Below w.heap.size w wr) := HB0.out.trans (hb.mono (by omega))
    obtain ⟨j0, j1, j2⟩ := HSF.out wr hb
    have hbr : bb ≤ wr.heap.size := by have := HS0.out; omega
    clear ho hb
    obtain ⟨no, hno⟩ : ∃ no, no = o.length := ⟨_, rfl⟩
    rw [← hno] at hk holen HO ⊢
    have HNO := Lib.hid hno
    clear hno
    by_cases hlt : k < no
    · obtain ⟨g, c, e, hg0, hg1, -⟩ := own_form HO.out (by omega)
      simp only [Value.slice.injEq, true_and] at e
      obtain ⟨rfl, rfl⟩ := e
      have hkl : k < o.length := by have := HNO.out; omega
      obtain ⟨x, hx⟩ : ∃ x, o.getD k 0 = x := ⟨_, rfl⟩
      have hcx : wr.cell? ⟨g, k, none⟩ = some (.int .i64 x) := (own_at HO.out (i := k) (u := .int .i64 x) (by rw [← hx]; simp [List.getD, hkl])).1
      have HMID : Hid (RMid adj (sortI ns) u o k x 0) := Lib.hid (by rw [← hx]; exact HST.out.look hkl)
      have hwr : w.heap.size < wr.heap.size := by omega
      have HSF' : Hid (∀ W, Below wr.heap.size wr W → W.cell? ⟨w.heap.size, 0, none⟩ = some (.bool d) ∧ W.cell? ⟨w.heap.size, 1, none⟩ = some (.slice an n cn) ∧ W.cell? ⟨w.heap.size, 2, none⟩ = some (.slice ae m ce) ∧ W.cell? ⟨g, k, none⟩ = some (.int .i64 x)) := Lib.hid fun W h => by
        obtain ⟨e0, e1, e2⟩ := HSF.out W (HB.out.trans (h.mono hbr))
        exact ⟨e0, e1, e2, (h.cell (p := ⟨g, k, none⟩) hg1).trans hcx⟩
      have HCA : Hid (∀ W, Below wr.heap.size wr W → Calls Tryz.prog 89 #[.agg #[.bool d, .slice an n cn, .slice ae m ce], .int .i64 x] W fun e w' => ∃ (a : Option Addr) (c : Nat), e = .returned (.slice a (adj x).length c) ∧ w'.ownsRow wr.heap.size 3 1 (.slice a (adj x).length c) (adj x).length ((adj x).map (Value.int .i64)) ∧ Below wr.heap.size wr w') := Lib.hid fun W h => by
        have hbW : Below w.heap.size w W := HBW.out.trans (h.mono (by omega))
        refine (specFrom_calls d an ae n cn m ce ns es x W (HN.out.below hbW (Nat.le_refl _)) (HR.out.below hbW (Nat.le_refl _)) (by omega)).mono ?_
        rintro e w' ⟨v, rfl, ho, hb'⟩
        obtain ⟨a, c, rfl⟩ := own_shape' ho
        rw [← HADJ.out] at ho ⊢
        exact ⟨a, c, rfl, own_lower ho (by have := h.size; omega), h.trans (hb'.mono h.size)⟩
      have HD1 : Hid (Below wr.heap.size wr wr.drew) := below_drewN (Below.refl wr.heap.size wr) 1
      obtain ⟨A, hA⟩ : ∃ A, A = adj x := ⟨_, rfl⟩
      obtain ⟨la, hla⟩ : ∃ la, la = A.length := ⟨_, rfl⟩
      rw [← hA, ← hla] at HCA
      have HAA := Lib.hid hA; have HLA := Lib.hid hla
      have hlan : la ≤ n := by rw [hla, hA]; exact HLENA.out x
      clear hx hA hla
      go_wp2_with fail
      go_region_held3 (fun w' => w'.cell? ⟨w.heap.size, 0, none⟩ = some (.bool d) ∧ w'.cell? ⟨w.heap.size, 1, none⟩ = some (.slice an n cn) ∧ w'.cell? ⟨w.heap.size, 2, none⟩ = some (.slice ae m ce) ∧ w'.cell? ⟨g, k, none⟩ = some (.int .i64 x))
        (first | with_reducible exact s4 | go_keep)
        ((go_at_call 89; with_reducible refine (HCA.out wr.drew HD1.out).mono ?_; rintro e w4 ⟨aA, cA, rfl, hoA, hb4⟩; have s4 := HSF'.out w4 hb4; have HOA := Lib.hid hoA; have HB4 := Lib.hid hb4; clear hoA hb4))
      obtain ⟨ba, hba⟩ : ∃ ba, ba = wr.heap.size := ⟨_, rfl⟩
      rw [← hba] at HOA
      have HO4 : Hid (w4.ownsRow bb 3 1 (.slice (some ⟨g, 0, none⟩) no c1) no (o.map (Value.int .i64))) := ownsRow_of_heap HO.out (fun g' hg' => HB4.out.block g' (HO.out.lt g' hg').2)
      have HBX : Hid (Below bb w0 w4) := HB.out.trans (HB4.out.mono hbr)
      have hba1 : ba ≤ w4.heap.size := by have := HB4.out.size; omega
      have hba2 : bb ≤ ba := by omega
      have hba3 : g < ba := by omega
      clear hba s4 j0 j1 j2 hcx HD1 HSF' HCA HB4 HO HB
      go_wp2_with fail
      go_loopw [5, 24] (fun v i wr2 => ∃ (j : Nat) (o2 : List Int), j ≤ la ∧ i = .int .i64 j ∧ wr2.ownsRow bb 3 1 v o2.length (o2.map (Value.int .i64)) ∧ Hid (RMid adj (sortI ns) u o2 k x j) ∧ wr2.ownsRow ba 3 1 (.slice aA la cA) la (A.map (Value.int .i64)) ∧ Hid (∀ g', v.ownBlock = some g' → (Value.slice aA la cA).ownBlock ≠ some g') ∧ Below bb w0 wr2 ∧ ba ≤ wr2.heap.size) (fun _ i _ => la - (intOf i).toNat)
      case atStart =>
        refine ⟨0, o, by omega, rfl, by rw [← HNO.out]; exact HO4.out, HMID, HOA.out, Lib.hid (fun g' h1 h2 => ?_), HBX.out, hba1⟩
        have e1 : g = g' := Option.some.inj h1
        have := (HOA.out.lt g' h2).1
        omega
      case round =>
        obtain ⟨j, o2, hj, rfl, ho2, HM, hA2, HDIS, hb2, hbw2⟩ := hrel
        obtain ⟨a2, c2, rfl⟩ := own_shape' ho2
        obtain ⟨no2, hno2⟩ : ∃ no2, no2 = o2.length := ⟨_, rfl⟩
        rw [← hno2] at ho2 HDIS ⊢
        have HNO2 := Lib.hid hno2
        have HO2 := Lib.hid ho2; have HA2 := Lib.hid hA2; have HB2 := Lib.hid hb2
        have hol2 : no2 ≤ n + 1 := by have := HM.out.st.len; have := HSL.out; omega
        clear ho2 hA2 hb2 hno2
        by_cases hjl : j < la
        · obtain ⟨gA, cA', e, hgA0, hgA1, -⟩ := own_form HA2.out (by omega)
          simp only [Value.slice.injEq, true_and] at e
          obtain ⟨rfl, rfl⟩ := e
          have hjA : j < A.length := by have := HLA.out; omega
          obtain ⟨z, hz⟩ : ∃ z, A.getD j 0 = z := ⟨_, rfl⟩
          have hcz : wr.cell? ⟨gA, j, none⟩ = some (.int .i64 z) := (own_at HA2.out (i := j) (u := .int .i64 z) (by rw [← hz]; simp [List.getD, hjA])).1
          have HZ : Hid ((adj x).getD j 0 = z) := Lib.hid (by rw [← HAA.out]; exact hz)
          have HJL : Hid (j < (adj x).length) := Lib.hid (by rw [← HAA.out]; exact hjA)
          clear hz
          go_wp2_with fail
          refine (hasInt_calls a2 no2 c2 o2 z wr (rdi_ownE HO2.out)).mono ?_
          rintro e w5' ⟨rfl, rfl⟩
          obtain ⟨hbit, hhb⟩ : ∃ b, hasB o2 z = b := ⟨_, rfl⟩
          rw [hhb]
          have HHB := Lib.hid hhb
          clear hhb
          cases hbit
          · have HNM : Hid (z ∉ o2) := Lib.hid (fun h => by have h1 := (hasB_iff o2 z).2 h; rw [HHB.out] at h1; cases h1)
            obtain ⟨hi0, hz0, hz1, hz2⟩ := HI.out
            go_wp2_with (at_builtin; refine wpList_append_own_at _ rfl _ _ 22 rfl bb 3 i0 (.int .i64 0) 1 8 Tryz.underlying22 hi0 hz0 hz1 hz2 rfl (by decide) (.slice a2 no2 c2) no2 (o2.map (Value.int .i64)) rfl ?hown ⟨w5'.heap.size, 0, none⟩ 1 1 [.int .i64 z] rfl ?c0 ?c1 ?c2 ?c3 ?c4 ?c5 ?_)
            case hown => exact HO2.out.alloc _
            case c0 => rfl
            case c1 => intro j u hj; match j, hj with | 0, hj => simp at hj; subst hj; simp [Addr.add]
            case c2 => intro u hu; simp at hu; subst hu; rfl
            case c3 => unfold maxLen; omega
            case c4 => omega
            case c5 => simp; omega
            intro v' w' hown' hgrow _ hloc
            obtain ⟨a', c', rfl⟩ := own_shape' hown'
            have HO' := Lib.hid hown'
            have HB' : Hid (Below bb w0 w') := (HB2.out.alloc (by omega) _).grown hgrow (by simp; omega) (fun j hj => (HO2.out.lt j hj).1)
            have HA' : Hid (w'.ownsRow ba 3 1 (.slice (some ⟨gA, 0, none⟩) la cA) la (A.map (Value.int .i64))) := ownsRow_of_heap HA2.out (fun g' hg' => by
              rw [hgrow.block g' (by have := (HA2.out.lt g' hg').2; simp; omega) (fun e => HDIS.out g' e.symm hg')]
              exact heap_alloc_old _ _ (HA2.out.lt g' hg').2)
            have HDIS' : Hid (∀ g', (Value.slice a' (no2 + 1) c').ownBlock = some g' → (Value.slice (some ⟨gA, 0, none⟩) la cA).ownBlock ≠ some g') := Lib.hid (fun g' h1 h2 => by
              rcases hloc with h | h
              · exact HDIS.out g' (h ▸ h1) h2
              · rw [h] at h1
                have e1 := Option.some.inj h1
                have := (HA2.out.lt g' h2).2
                (try simp at e1)
                omega)
            have hbw' : ba ≤ w'.heap.size := by have := hgrow.size; simp at this; omega
            clear hown' hgrow hloc
            go_wp2
            go_roundw
            case rel =>
              refine ⟨j + 1, o2 ++ [z], by omega, by go_num, ?_, Lib.hid (HM.out.add HJL.out HZ.out HNM.out (HSUB.out x)), HA'.out, HDIS'.out, HB'.out, hbw'⟩
              have h := HO'.out
              rw [List.map_append, List.length_append, ← HNO2.out]
              exact h
            case measure => simp [intOf]; omega
          · have HNM : Hid (z ∈ o2) := Lib.hid ((hasB_iff o2 z).1 HHB.out)
            go_wp2_with fail
            go_roundw
            case rel => exact ⟨j + 1, o2, by omega, by go_num, by rw [← HNO2.out]; exact HO2.out, Lib.hid (HM.out.skip HJL.out HZ.out HNM.out), HA2.out, HDIS, HB2.out, hbw2⟩
            case measure => simp [intOf]; omega
        · have HST2 : Hid (RSt adj (sortI ns) u o2 (k + 1)) := Lib.hid (HM.out.done (by have := HLA.out; have := HAA.out; rw [← this]; omega))
          have hk2 : k + 1 ≤ o2.length := HM.out.lt
          go_wp2
          go_roundw
          case rel => exact ⟨k + 1, o2, hk2, by go_num, by rw [← HNO2.out]; exact HO2.out, HST2, HB2.out⟩
          case measure => simp [intOf]; omega
    · obtain rfl : k = no := by omega
      clear j0 j1 j2
      go_wp2_with fail
      refine (sortInts_calls a1 k c1 o wr (by have h := rdi_ownE HO.out; exact h) (by omega)).mono ?_
      rintro e w2 ⟨v2, rfl, ho2, hb2⟩
      obtain ⟨a2, c2, rfl⟩ := own_shape' ho2
      have HFIN : Hid (ReachedPost (fromL d ns es) u w (.returned (.slice a2 k c2)) w2) := Lib.hid (by
        have hsl : (sortI o).length = k := by rw [sortI_len]; exact HNO.out.symm
        refine ⟨_, sortI o, rfl, by rw [hsl]; exact own_lower ho2 (by omega), fun y => ?_, by rw [hsl]; omega, HBW.out.trans (hb2.mono (by omega))⟩
        rw [mem_sortI, ← HADJ.out]
        exact HST.out.done (by have := HNO.out; omega) y)
      clear ho2 hb2
      go_wp2_with fail
      go_ret
      exact HFIN.out

def ReachesPost (adj : Int → List Int) (u v : Int) (w : World) (e : Ending) (w' : World) : Prop :=
  ∃ b, e = .returned (.bool b) ∧ (b = true ↔ ReachA adj u v) ∧ Below w.heap.size w w'

set_option maxHeartbeats 1000000 in
theorem reaches_calls (d : Bool) (an ae : Option Addr) (n cn m ce : Nat) (ns : List Int) (es : List (Int × Int × Int)) (u v : Int) (w : World) (hn : RdI w an n ns) (hr : RdE w ae m es) (hn8 : n ≤ 500) :
    Calls Tryz.prog 47 #[.agg #[.bool d, .slice an n cn, .slice ae m ce], .int .i64 u, .int .i64 v] w (ReachesPost (fromL d ns es) u v w) := by
  have HN := Lib.hid hn; have HR := Lib.hid hr
  clear hn hr
  go_enter Tryz.func47, Tryz.ntmps47
  go_wp2_with fail
  refine (reached_calls d an ae n cn m ce ns es u _ (HN.out.alloc _) (HR.out.alloc _) hn8).mono ?_
  rintro e w1 ⟨v1, r, rfl, ho, hmem, -, hb1⟩
  obtain ⟨a1, c1, rfl⟩ := own_shape' ho
  have HB1 : Hid (Below w.heap.size w w1) := ((Below.refl w.heap.size w).alloc (Nat.le_refl _) _).trans (hb1.mono (by simp))
  have HO := Lib.hid (rdi_ownE ho); have HM := Lib.hid hmem
  clear ho hmem hb1
  go_wp2_with fail
  refine (hasInt_calls a1 r.length c1 r v w1 HO.out).mono ?_
  rintro e w2 ⟨rfl, rfl⟩
  obtain ⟨b, hb⟩ : ∃ b, hasB r v = b := ⟨_, rfl⟩
  rw [hb]
  have HBB : Hid (b = true ↔ ReachA (fromL d ns es) u v) := Lib.hid (by rw [← hb, hasB_iff]; exact HM.out v)
  clear hb
  go_wp2_with fail
  go_ret
  exact ⟨_, rfl, HBB.out, HB1.out⟩
end Go.Proofs.YtbkoifdnlaihfaaGreat
