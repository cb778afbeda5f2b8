/- A key is taken out of a map. An append of zeros ('append(s, make([]T, m)...)') onto a slice that the call owns. Buckets of nodes: memory and plain facts. The degrees while nodes are taken: plain facts. No walk. -/
import Derived.Test.YtnfkbjgijelfdaaGreatGMaps
import Derived.Test.YtnfkbjgijelfdaaGreatMem
import Derived.Test.YtnfkbjgijelfdaaGreatLolG
import Derived.Test.YtnfkbjgijelfdaaGreatRdN
import Derived.Test.YtnfkbjgijelfdaaGreatDegP
import Derived.Deep.AppendSrc
import Derived.Lib.AppendZeros
import Derived.Lib.AppendZerosOnto
namespace Go.Proofs.YtnfkbjgijelfdaaGreat
open Go.RowKit
open Go.Maps (Keyed has)

section
variable {P : Program} {k e t : TypeId} {w : World} {b n : Nat} {f : Int → Option Value}
theorem GM.take (h : GM P k w b n f) (hk : P.underlying k = some (.int .i64)) (ht : P.underlying t = some (.map k e)) {y : Int} (hy : (Lit.int .i64 y).wf = true) (ty : TypeId) :
    ∃ w', (Builtin.delete_ #[t, k] ty #[.map (some b), .int .i64 y]).run P w = .ok (.tuple #[]) w' ∧ GM P k w' b n (cut f y) ∧ w.grownBy w' (some b) := by
  obtain ⟨D, h1, h2⟩ := h
  obtain ⟨w', hrun, h3, h4⟩ := h1.drop (Maps.int_keyed hk) ht (key64 hk hy) ty
  refine ⟨w', hrun, ⟨_, h3, fun x => ?_⟩, h4.grown⟩
  unfold cut
  by_cases hxy : x = y
  · subst hxy
    rw [if_pos rfl]
    exact ⟨Maps.has_del_same, fun z => Maps.atKey_del_same _⟩
  · have hne : (Lit.int .i64 x) ≠ .int .i64 y := by simpa using hxy
    rw [if_neg hxy]
    exact ⟨(Maps.has_del_other hne).trans (h2 x).1, fun z => (Maps.atKey_del_other hne _).trans ((h2 x).2 z)⟩
end

theorem wpList_gm_cut {P : Program} (w : World) {ops : Array Oper} {rest : List Oper} {o : Oper} {a : Act} {Q : Exit → Act → World → Prop} (hg : o.guard = none) (m x : Operand) (t k : TypeId) (hop : o.op = Op.call { callee := Callee.builtin Builtin.delete, args := #[m, x], argTypes := #[t, k] })
    (e : TypeId) (hk : P.underlying k = some (.int .i64)) (ht : P.underlying t = some (.map k e)) (b n : Nat) (f : Int → Option Value)
    (hm : a.eval m = .map (some b)) (hown : GM P k w b n f) (y : Int) (hx : a.eval x = .int .i64 y) (hwf : (Lit.int .i64 y).wf = true)
    (hK : ∀ w', GM P k w' b n (cut f y) → w.grownBy w' (some b) → wpList P ops Q rest (a.put o.dst (.tuple #[])) w') :
    wpList P ops Q (o :: rest) a w := by
  refine wpList_plain hg fun K' hK' => ?_
  obtain ⟨w', hrun, r1, r2⟩ := hown.take hk ht hwf o.type
  unfold Oper.wp
  simp [execOp, hop, resolve, invoke, builtin, hm, hx, hrun, Result.andThen]
  exact hK' _ _ (hK w' r1 r2)
end Go.Proofs.YtnfkbjgijelfdaaGreat
namespace Go.Proofs.YtnfkbjgijelfdaaGreat
open Go.RowKit

theorem zeroCells_one (z : Value) (m : Nat) (hz : z.cells = #[z]) : Builtin.zeroCells z.cells m = (List.replicate m z).toArray := by
  apply Array.ext
  · simp [Builtin.zeroCells, hz]
  · intro j h1 h2
    simp [Builtin.zeroCells, hz, Nat.mod_one]

theorem run_append_room_zeros {P : Program} (w : World) (t tn ty e : TypeId) (i : TypeInfo) (z : Value) (kq kn : IntKind) (ht : P.underlying t = some (.slice e)) (htn : P.underlying tn = some (.int kn)) (hi : P.info? e = some i) (hz : i.zero = some z) (hsize : i.size = 1) (hzc : z.cells = #[z]) (h1 : z.oneCell' = true)
    (g n cap m : Nat) (cur : Array Value) (hg : w.heap[g]? = some (.cells cur e (0, 0))) (h0 : 0 < m) (hroom : n + m ≤ cap) (hcs : cur.size = cap) (hmax : n + m ≤ 1000000) (hby : i.bytes ≤ 64) :
    (Builtin.append_ #[t, tn] ty #[.slice (some ⟨g, 0, none⟩) n cap, .int kq m]).run P w = .ok (.slice (some ⟨g, 0, none⟩) (n + m) cap) (w.setRow g (cur.toList.take n ++ List.replicate m z ++ cur.toList.drop (n + m)).toArray) := by
  have hm : m ≠ 0 := by omega
  have hw : IntKind.i64.wrap (m : Int) = m := by rw [IntKind.wrap_i64]; omega
  have h48i : ¬ (281474976710656 < (m : Int) * (i.bytes : Int)) := by
    have h := Nat.mul_le_mul (show m ≤ 1000000 by omega) hby
    rw [← Int.natCast_mul]; omega
  have hneg : ¬ ((m : Int) < 0) := by omega
  have hst := run_storeCells_at P g n e (List.replicate m z) 0 cur w hg (by simp; omega) (fun u hu => by rw [(List.mem_replicate.1 hu).2]; exact h1)
  simp only [Nat.add_zero, List.length_replicate] at hst
  simp [Builtin.append_, run_underlying ht, run_underlying htn, sizeOf, typeInfo, zeroValue, hi, hz, hsize, asInt, asIntOf, hw, hm, hneg, h48i, hroom, zeroCells_one z m hzc, Addr.add_lit, hst]

theorem run_append_zeros {P : Program} (w : World) (t tn ty e : TypeId) (i : TypeInfo) (z : Value) (kq kn : IntKind) (ht : P.underlying t = some (.slice e)) (htn : P.underlying tn = some (.int kn)) (hi : P.info? e = some i) (hz : i.zero = some z) (hsize : i.size = 1) (hzc : z.cells = #[z]) (h1 : z.oneCell' = true) (hby : i.bytes ≤ 64)
    (base g n cap m : Nat) (xs : List Value) (hown : w.ownsRow base e 1 (.slice (some ⟨g, 0, none⟩) n cap) n xs) (h0 : 0 < m) (hmax : n + m ≤ 1000000) (hbase : base ≤ w.heap.size) :
    ∃ g' cap' w', (Builtin.append_ #[t, tn] ty #[.slice (some ⟨g, 0, none⟩) n cap, .int kq m]).run P w = .ok (.slice (some ⟨g', 0, none⟩) (n + m) cap') w' ∧
      w'.ownsRow base e 1 (.slice (some ⟨g', 0, none⟩) (n + m) cap') (n + m) (xs ++ List.replicate m z) ∧ w.grownBy w' (some g) ∧ (g' = g ∨ g' = w.heap.size) := by
  have hlt := (hown.lt g rfl).1
  obtain ⟨hl, h2⟩ := hown
  rcases h2 with ⟨h3, _⟩ | ⟨g2, c2, cur, h3, h4, h5, h6, h7, h8, h9⟩
  · cases h3
  · simp only [Value.slice.injEq, Option.some.injEq, Addr.mk.injEq, true_and, and_true] at h3
    obtain ⟨rfl, rfl⟩ := h3
    by_cases hroom : n + m ≤ cap
    · have hr := run_append_room_zeros (P := P) w t tn ty e i z kq kn ht htn hi hz hsize hzc h1 g n cap m cur h5 h0 hroom (by omega) hmax hby
      refine ⟨g, cap, _, hr, ⟨by simp; omega, .inr ⟨g, cap, _, rfl, hlt, setRow_heap w g cur _ e _ h5, hroom, h7, ?_, ?_⟩⟩, ⟨rfl, rfl, rfl, by simp [World.setRow], fun k _ hk => setRow_other w g k _ (fun e => hk (by rw [e]))⟩, .inl rfl⟩
      · simp; omega
      · rw [Nat.mul_one] at h9
        simp only []
        rw [h9, List.take_left' (by simp; omega)]
    · have hcells : ∀ (j : Nat) (u : Value), xs[j]? = some u → w.drew.cell? ((⟨g, 0, none⟩ : Addr).add j) = some u := fun j u hu => (World.ownsRow.cells (w := w) (base := base) (e := e) (size := 1) (v := .slice (some ⟨g, 0, none⟩) n cap) (n := n) (xs := xs) ⟨hl, .inr ⟨g, cap, cur, rfl, h4, h5, h6, h7, h8, h9⟩⟩ (g := g) rfl j u hu)
      have hfc := run_firstCells_some (P := P) w.drew i.size n ⟨g, 0, none⟩ n cap xs (by rw [hl, hsize]) hcells
      have hcap : Builtin.nextslicecap (n + m) cap ≤ 2 * (n + m) := nextslicecap_le (by omega)
      have hr := Lib.run_append_grow_zeros (P := P) w t tn ty e i z kq kn ht htn hi hz (some ⟨g, 0, none⟩) n cap xs hfc m h0 (by omega) (by omega) (by omega) (by
        have h := Nat.mul_le_mul (show m ≤ 1000000 by omega) hby
        omega) (Nat.le_trans (Nat.mul_le_mul hcap hby) (by omega))
      have hge := grownCap_ge w (n + m) cap e
      have hcm : grownCap w (n + m) cap e ≤ maxLen := grownCap_le_maxLen w (n + m) cap e (by unfold maxLen; omega)
      refine ⟨w.heap.size, _, _, hr, ⟨by simp; omega, .inr ⟨w.heap.size, _, _, rfl, hbase, heap_alloc_new w.drew _, hge, hcm, ?_, ?_⟩⟩, ⟨rfl, rfl, rfl, by simp, fun j hj _ => heap_alloc_old w.drew _ hj⟩, .inr rfl⟩
      · have hzs : z.cells.size = 1 := by rw [hzc]; rfl
        simp only [Array.size_append, List.size_toArray, size_zeroCells, hzs, hl]
        omega
      · simp only [Array.toList_append]
        rw [zeroCells_one z m hzc, List.take_left' (by simp; omega)]
end Go.Proofs.YtnfkbjgijelfdaaGreat
namespace Go.Proofs.YtnfkbjgijelfdaaGreat
open Go.RowKit

theorem own_cut {w : World} {B g c n k : Nat} {e : TypeId} {xs : List Value} (h : w.ownsRow B e 1 (.slice (some ⟨g, 0, none⟩) n c) n xs) (hk : k ≤ n) : w.ownsRow B e 1 (.slice (some ⟨g, 0, none⟩) k c) k (xs.take k) := by
  obtain ⟨h1, h2⟩ := h
  refine ⟨by rw [List.length_take]; omega, ?_⟩
  rcases h2 with ⟨h3, _⟩ | ⟨g', cap, cur, h3, h4, h5, h6, h7, h8, h9⟩
  · cases h3
  · simp only [Value.slice.injEq, Option.some.injEq, Addr.mk.injEq, true_and, and_true] at h3
    obtain ⟨rfl, rfl⟩ := h3
    refine .inr ⟨g, c, cur, rfl, h4, h5, by omega, h7, h8, ?_⟩
    rw [← h9, List.take_take]
    congr 1
    omega

/-- The buckets: gd holds their slices vs, these the nodes ls. -/
structure Bkt (w : World) (lo gd : Nat) (vs : List Value) (ls : List (List Int)) : Prop where
  row : w.ownsRow lo 77 1 (.slice (some ⟨gd, 0, none⟩) ls.length ls.length) ls.length vs
  rows : ∀ (i : Nat) (u : Value) (l : List Int), vs[i]? = some u → ls[i]? = some l → w.ownsRow lo 103 1 u l.length (l.map nodeV)
  apart : ∀ u ∈ vs, u.ownBlock ≠ some gd
  dist : ∀ (i j : Nat) (u u' : Value) (g : Nat), i ≠ j → vs[i]? = some u → vs[j]? = some u' → u.ownBlock = some g → u'.ownBlock ≠ some g

def BktF (gd : Nat) (vs : List Value) (j : Nat) : Prop := j = gd ∨ ∃ u ∈ vs, u.ownBlock = some j

section
variable {w w' : World} {lo gd : Nat} {vs : List Value} {ls : List (List Int)}
theorem Bkt.len (h : Bkt w lo gd vs ls) : vs.length = ls.length := by have := h.row.1; omega
theorem Bkt.lt (h : Bkt w lo gd vs ls) {j : Nat} (hj : BktF gd vs j) : lo ≤ j ∧ j < w.heap.size := by
  rcases hj with hj | ⟨u, hu, hj⟩
  · exact h.row.lt j (by rw [hj]; rfl)
  · obtain ⟨i, hi⟩ := List.getElem?_of_mem hu
    have hil : i < vs.length := (List.getElem?_eq_some_iff.1 hi).1
    rw [h.len] at hil
    exact (h.rows i u ls[i] hi (List.getElem?_eq_getElem hil)).lt j hj
theorem Bkt.of_heap (h : Bkt w lo gd vs ls) (hb : ∀ j, BktF gd vs j → w'.heap[j]? = w.heap[j]?) : Bkt w' lo gd vs ls :=
  ⟨ownsRow_of_heap h.row (fun g hg => hb g (.inl (Option.some.inj hg).symm)), fun i u l hu hl => ownsRow_of_heap (h.rows i u l hu hl) (fun g hg => hb g (.inr ⟨u, List.mem_of_getElem? hu, hg⟩)), h.apart, h.dist⟩

/-- The i-th bucket's slice, and what it holds. -/
theorem Bkt.at_ (h : Bkt w lo gd vs ls) {i : Nat} (hi : i < ls.length) : ∃ u, vs[i]? = some u ∧ w.cell? ⟨gd, i, none⟩ = some u ∧ w.frozen? ⟨gd, i, none⟩ = false ∧ w.ownsRow lo 103 1 u ls[i].length (ls[i].map nodeV) := by
  have hl := h.len
  have e : vs[i]? = some vs[i] := List.getElem?_eq_getElem (by omega)
  exact ⟨vs[i], e, (own_at h.row e).1, (own_at h.row e).2, h.rows i _ _ e (List.getElem?_eq_getElem hi)⟩

/-- Another list is laid into the i-th bucket: in its own block, or in a new one. -/
theorem Bkt.put (h : Bkt w lo gd vs ls) {i : Nat} {u u' : Value} {l' : List Int} (hu : vs[i]? = some u) (ho : w'.ownsRow lo 103 1 u' l'.length (l'.map nodeV)) (hk : ∀ j, j < w.heap.size → some j ≠ u.ownBlock → w'.heap[j]? = w.heap[j]?)
    (hf : u'.ownBlock = u.ownBlock ∨ u'.ownBlock = none ∨ ∀ g, u'.ownBlock = some g → w.heap.size ≤ g) : Bkt (w'.setCell ⟨gd, i, none⟩ u') lo gd (vs.set i u') (ls.set i l') := by
  have hgd := h.lt (.inl rfl : BktF gd vs gd)
  have hum := List.mem_of_getElem? hu
  have hne := h.apart u hum
  have hgdk : w'.heap[gd]? = w.heap[gd]? := hk gd hgd.2 (fun e => hne e.symm)
  have hu' : u'.ownBlock ≠ some gd := fun e => by
    rcases hf with h1 | h1 | h1
    · exact hne (h1 ▸ e)
    · rw [h1] at e; cases e
    · have := h1 gd e; omega
  have hset : ∀ j, j ≠ gd → (w'.setCell ⟨gd, i, none⟩ u').heap[j]? = w'.heap[j]? := fun j hj => Below.heap_setCell _ _ _ _ (fun e => hj e)
  have hil : i < vs.length := (List.getElem?_eq_some_iff.1 hu).1
  refine ⟨?_, fun j x l hx hl => ?_, fun x hx => ?_, fun a b x y g hab hx hy hg => ?_⟩
  · rw [List.length_set]
    exact own_put (ownsRow_of_heap h.row (fun g hg => by rw [← Option.some.inj hg]; exact hgdk)) u'
  · by_cases e : i = j
    · subst e
      rw [List.getElem?_set_self (by omega)] at hx
      have hil2 : i < ls.length := by have := h.len; omega
      rw [List.getElem?_set_self hil2] at hl
      obtain rfl := Option.some.inj hx
      obtain rfl := Option.some.inj hl
      exact ownsRow_of_heap ho (fun g hg => hset g (fun e => hu' (e ▸ hg)))
    · rw [List.getElem?_set_ne e] at hx hl
      have h1 := h.rows j x l hx hl
      refine ownsRow_of_heap h1 (fun g hg => ?_)
      rw [hset g (fun e2 => h.apart x (List.mem_of_getElem? hx) (e2 ▸ hg))]
      exact hk g (h1.lt g hg).2 (fun e2 => h.dist i j u x g e hu hx e2.symm hg)
  · rcases List.mem_or_eq_of_mem_set hx with hx | rfl
    · exact h.apart x hx
    · exact hu'
  · have key : ∀ (b : Nat) (y : Value), i ≠ b → vs[b]? = some y → ∀ g, u'.ownBlock = some g → y.ownBlock ≠ some g := fun b y hb hy g hg hyg => by
      rcases hf with h1 | h1 | h1
      · exact h.dist i b u y g hb hu hy (h1 ▸ hg) hyg
      · rw [h1] at hg; cases hg
      · have h2 := h1 g hg
        have h3 := (h.lt (.inr ⟨y, List.mem_of_getElem? hy, hyg⟩)).2
        omega
    by_cases ea : i = a
    · subst ea
      rw [List.getElem?_set_self hil] at hx
      obtain rfl := Option.some.inj hx
      rw [List.getElem?_set_ne hab] at hy
      exact key b y hab hy g hg
    · rw [List.getElem?_set_ne ea] at hx
      by_cases eb : i = b
      · subst eb
        rw [List.getElem?_set_self hil] at hy
        obtain rfl := Option.some.inj hy
        exact fun hyg => key a x ea hx g hyg hg
      · rw [List.getElem?_set_ne eb] at hy
        exact h.dist a b x y g hab hx hy hg
end

/-- A node is taken out of a bucket: the last one takes its place. -/
def swapOut (l : List Int) (i : Nat) : List Int := (l.set i (l.getLastD 0)).dropLast
theorem set_swap : ∀ (a : List Int) (i : Nat) (z : Int), i < a.length → (a.getD i 0 :: a.set i z).Perm (z :: a)
  | [], i, z, h => by simp at h
  | b :: r, 0, z, _ => by
    show (b :: z :: r).Perm (z :: b :: r)
    exact List.Perm.swap ..
  | b :: r, i + 1, z, h => by
    have h1 := set_swap r i z (by simpa using h)
    show (r.getD i 0 :: b :: r.set i z).Perm (z :: b :: r)
    exact ((List.Perm.swap ..).trans (h1.cons b)).trans (List.Perm.swap ..)
theorem swapOut_perm {l : List Int} {i : Nat} (hi : i < l.length) : (l.getD i 0 :: swapOut l i).Perm l := by
  have hne : l ≠ [] := fun e => by rw [e] at hi; simp at hi
  obtain ⟨a, z, rfl⟩ : ∃ a z, l = a ++ [z] := ⟨l.dropLast, l.getLast hne, (List.dropLast_concat_getLast hne).symm⟩
  unfold swapOut
  have hz : (a ++ [z]).getLastD 0 = z := by simp
  rw [hz]
  by_cases e : i < a.length
  · have e1 : (a ++ [z]).set i z = a.set i z ++ [z] := by rw [List.set_append_left _ _ e]
    have e2 : (a ++ [z]).getD i 0 = a[i] := by simp [List.getD, List.getElem?_append, e]
    rw [e1, e2, List.dropLast_concat]
    have p1 := set_swap a i z e
    have e3 : a.getD i 0 = a[i] := by simp [List.getD, e]
    rw [e3] at p1
    exact p1.trans (List.perm_append_singleton z a).symm
  · have e0 : i = a.length := by simp at hi; omega
    subst e0
    have e1 : (a ++ [z]).set a.length z = a ++ [z] := by simp
    have e2 : (a ++ [z]).getD a.length 0 = z := by simp [List.getD]
    rw [e1, e2, List.dropLast_concat]
    exact (List.perm_append_singleton z a).symm

/-- The buckets say of each node in which of them it is. -/
structure BkD (ls : List (List Int)) (D : Int → Option Nat) : Prop where
  mem : ∀ (j : Nat) (v : Int), (∃ l, ls[j]? = some l ∧ v ∈ l) ↔ D v = some j
  nodup : ∀ (j : Nat) (l : List Int), ls[j]? = some l → l.Nodup

/-- A node leaves its bucket. -/
theorem BkD.out {ls : List (List Int)} {D : Int → Option Nat} (h : BkD ls D) {j : Nat} {l l' : List Int} {v : Int} (hl : ls[j]? = some l) (hp : (v :: l').Perm l) : BkD (ls.set j l') (fun u => if u = v then none else D u) := by
  have hnd := h.nodup j l hl
  have hnd2 := hp.nodup_iff.2 hnd
  rw [List.nodup_cons] at hnd2
  have hjl := (List.getElem?_eq_some_iff.1 hl).1
  have hv : D v = some j := (h.mem j v).1 ⟨l, hl, hp.subset (List.mem_cons_self ..)⟩
  refine ⟨fun k u => ?_, fun k x hx => ?_⟩
  · by_cases e : j = k
    · subst e
      rw [List.getElem?_set_self hjl]
      constructor
      · rintro ⟨x, hx, hu⟩
        obtain rfl := Option.some.inj hx
        have hne : u ≠ v := fun e => hnd2.1 (e ▸ hu)
        show (if u = v then none else D u) = some j
        rw [if_neg hne]
        exact (h.mem j u).1 ⟨l, hl, hp.subset (List.mem_cons_of_mem _ hu)⟩
      · intro hD
        have hD' : (if u = v then none else D u) = some j := hD
        by_cases hne : u = v
        · rw [if_pos hne] at hD'; cases hD'
        · rw [if_neg hne] at hD'
          obtain ⟨x, hx, hu⟩ := (h.mem j u).2 hD'
          rw [hl] at hx
          obtain rfl := Option.some.inj hx
          exact ⟨l', rfl, (List.mem_cons.1 (hp.symm.subset hu)).resolve_left hne⟩
    · rw [List.getElem?_set_ne e]
      show _ ↔ (if u = v then none else D u) = some k
      by_cases hne : u = v
      · subst hne
        rw [if_pos rfl, h.mem k u, hv]
        constructor
        · intro h2; exact absurd (Option.some.inj h2) e
        · intro h2; cases h2
      · rw [if_neg hne]; exact h.mem k u
  · by_cases e : j = k
    · subst e
      rw [List.getElem?_set_self hjl] at hx
      obtain rfl := Option.some.inj hx
      exact hnd2.2
    · rw [List.getElem?_set_ne e] at hx; exact h.nodup k x hx

/-- A node that is in no bucket comes into one. -/
theorem BkD.into {ls : List (List Int)} {D : Int → Option Nat} (h : BkD ls D) {j : Nat} {l : List Int} {v : Int} (hl : ls[j]? = some l) (hv : D v = none) : BkD (ls.set j (l ++ [v])) (fun u => if u = v then some j else D u) := by
  have hjl := (List.getElem?_eq_some_iff.1 hl).1
  have hnv : v ∉ l := fun hm => by have h1 := (h.mem j v).1 ⟨l, hl, hm⟩; rw [hv] at h1; cases h1
  refine ⟨fun k u => ?_, fun k x hx => ?_⟩
  · show _ ↔ (if u = v then some j else D u) = some k
    by_cases e : j = k
    · subst e
      rw [List.getElem?_set_self hjl]
      by_cases hne : u = v
      · rw [if_pos hne]
        exact ⟨fun _ => rfl, fun _ => ⟨_, rfl, by rw [hne]; simp⟩⟩
      · rw [if_neg hne, ← h.mem j u]
        constructor
        · rintro ⟨x, hx, hu⟩
          obtain rfl := Option.some.inj hx
          exact ⟨l, hl, (List.mem_append.1 hu).resolve_right (by simpa using hne)⟩
        · rintro ⟨x, hx, hu⟩
          rw [hl] at hx
          obtain rfl := Option.some.inj hx
          exact ⟨_, rfl, List.mem_append_left _ hu⟩
    · rw [List.getElem?_set_ne e]
      by_cases hne : u = v
      · subst hne
        rw [if_pos rfl, h.mem k u, hv]
        constructor
        · intro h2; cases h2
        · intro h2; exact absurd (Option.some.inj h2) e
      · rw [if_neg hne]; exact h.mem k u
  · by_cases e : j = k
    · subst e
      rw [List.getElem?_set_self hjl] at hx
      obtain rfl := Option.some.inj hx
      rw [List.nodup_append]
      exact ⟨h.nodup j l hl, by simp, fun a ha b hb e => hnv (by rw [← List.mem_singleton.1 hb, ← e]; exact ha)⟩
    · rw [List.getElem?_set_ne e] at hx; exact h.nodup k x hx
end Go.Proofs.YtnfkbjgijelfdaaGreat
namespace Go.Proofs.YtnfkbjgijelfdaaGreat

theorem BkD.congr {ls : List (List Int)} {D D' : Int → Option Nat} (h : BkD ls D) (e : ∀ v, D' v = D v) : BkD ls D' :=
  ⟨fun j v => by rw [e]; exact h.mem j v, h.nodup⟩

/-- The degree of a node that has not been taken. -/
def degD (ids : List Int) (adj : Int → List Int) (l : List Int) (v : Int) : Option Nat := if leftB ids l v = true then some (degIn adj (leftB ids l) v) else none

theorem countP_less (x : Int) (X : Int → Bool) (hx : X x = true) : ∀ A : List Int, A.Nodup → A.countP (fun u => X u && !decide (u = x)) + (if x ∈ A then 1 else 0) = A.countP X
  | [], _ => by simp
  | a :: r, h => by
    rw [List.nodup_cons] at h
    have ih := countP_less x X hx r h.2
    rw [List.countP_cons, List.countP_cons]
    by_cases e : a = x
    · subst e
      rw [if_neg h.1] at ih
      simp [hx]; omega
    · have e2 : (x ∈ a :: r) ↔ x ∈ r := ⟨fun h => (List.mem_cons.1 h).resolve_left (fun h => e h.symm), fun h => List.mem_cons_of_mem _ h⟩
      have e3 : (X a && !decide (a = x)) = X a := by simp [e]
      rw [e3]
      by_cases h2 : x ∈ r
      · rw [if_pos h2] at ih; rw [if_pos (e2.2 h2)]; omega
      · rw [if_neg h2] at ih; rw [if_neg (fun h => h2 (e2.1 h))]; omega

theorem leftB_snoc (ids l : List Int) (x u : Int) : leftB ids (l ++ [x]) u = (leftB ids l u && !decide (u = x)) := by
  unfold leftB
  by_cases h1 : u ∈ ids <;> by_cases h2 : u ∈ l <;> by_cases h3 : u = x <;> simp [h1, h2, h3]

section
variable {ids : List Int} {adj : Int → List Int} {l : List Int} {x : Int}

/-- While the nodes that x leads to are looked at: x has been taken, the first t of them have lost one. -/
def midD (ids : List Int) (adj : Int → List Int) (l : List Int) (x : Int) (t : Nat) (v : Int) : Option Nat :=
  if (leftB ids l v && !decide (v = x)) = true then some (degIn adj (leftB ids l) v - (if v ∈ (adj x).take t then 1 else 0)) else none

theorem midD_zero (v : Int) : midD ids adj l x 0 v = if v = x then none else degD ids adj l v := by
  unfold midD degD
  by_cases h : v = x
  · simp [h]
  · simp [h]
theorem midD_skip {t : Nat} {z : Int} (ht : t < (adj x).length) (hz : (adj x).getD t 0 = z) (hn : midD ids adj l x t z = none) (v : Int) : midD ids adj l x (t + 1) v = midD ids adj l x t v := by
  have e1 : (adj x)[t] = z := by simpa [List.getD, ht] using hz
  unfold midD at hn ⊢
  by_cases hv : v = z
  · subst hv
    by_cases hc : (leftB ids l v && !decide (v = x)) = true
    · rw [if_pos hc] at hn; cases hn
    · rw [if_neg hc, if_neg hc]
  · have e2 : (v ∈ (adj x).take (t + 1)) ↔ v ∈ (adj x).take t := by
      rw [List.take_succ_eq_append_getElem ht, e1]
      simp [hv]
    by_cases h2 : v ∈ (adj x).take t
    · rw [if_pos h2, if_pos (e2.2 h2)]
    · rw [if_neg h2, if_neg (fun h => h2 (e2.1 h))]
theorem midD_turn {t dz : Nat} {z : Int} (hnd : (adj x).Nodup) (ht : t < (adj x).length) (hz : (adj x).getD t 0 = z) (hn : midD ids adj l x t z = some dz) (v : Int) : midD ids adj l x (t + 1) v = if v = z then some (dz - 1) else (if v = z then none else midD ids adj l x t v) := by
  have e1 : (adj x)[t] = z := by simpa [List.getD, ht] using hz
  have hnt : z ∉ (adj x).take t := fun hm => by
    have h1 : ((adj x).take (t + 1)).Nodup := hnd.sublist (List.take_sublist ..)
    rw [List.take_succ_eq_append_getElem ht, e1, List.nodup_append] at h1
    exact h1.2.2 z hm z (List.mem_singleton.2 rfl) rfl
  have hin : z ∈ (adj x).take (t + 1) := by rw [List.take_succ_eq_append_getElem ht, e1]; simp
  by_cases hv : v = z
  · subst hv
    rw [if_pos rfl]
    unfold midD at hn ⊢
    by_cases hc : (leftB ids l v && !decide (v = x)) = true
    · rw [if_pos hc, if_neg hnt] at hn
      rw [if_pos hc, if_pos hin]
      have := Option.some.inj hn
      congr 1; omega
    · rw [if_neg hc] at hn; cases hn
  · rw [if_neg hv, if_neg hv]
    unfold midD
    have e2 : (v ∈ (adj x).take (t + 1)) ↔ v ∈ (adj x).take t := by
      rw [List.take_succ_eq_append_getElem ht, e1]
      simp [hv]
    by_cases h2 : v ∈ (adj x).take t
    · rw [if_pos h2, if_pos (e2.2 h2)]
    · rw [if_neg h2, if_neg (fun h => h2 (e2.1 h))]
/-- The degree that is to be lessened is not nought. -/
theorem midD_pos {t dz : Nat} {z : Int} (hnd : (adj x).Nodup) (hsym : ∀ a b, b ∈ adj a → a ∈ adj b) (hx : leftB ids l x = true) (ht : t < (adj x).length) (hz : (adj x).getD t 0 = z) (hn : midD ids adj l x t z = some dz) : 0 < dz := by
  have e1 : (adj x)[t] = z := by simpa [List.getD, ht] using hz
  have hnt : z ∉ (adj x).take t := fun hm => by
    have h1 : ((adj x).take (t + 1)).Nodup := hnd.sublist (List.take_sublist ..)
    rw [List.take_succ_eq_append_getElem ht, e1, List.nodup_append] at h1
    exact h1.2.2 z hm z (List.mem_singleton.2 rfl) rfl
  unfold midD at hn
  by_cases hc : (leftB ids l z && !decide (z = x)) = true
  · rw [if_pos hc, if_neg hnt] at hn
    have h2 : 0 < degIn adj (leftB ids l) z := List.countP_pos_iff.2 ⟨x, hsym x z (by rw [← e1]; exact List.getElem_mem ht), hx⟩
    have := Option.some.inj hn
    omega
  · rw [if_neg hc] at hn; cases hn
theorem midD_done {t : Nat} (hall : ∀ v, (adj v).Nodup) (hsym : ∀ a b, b ∈ adj a → a ∈ adj b) (hx : leftB ids l x = true) (ht : (adj x).length ≤ t) (v : Int) : midD ids adj l x t v = degD ids adj (l ++ [x]) v := by
  unfold midD degD
  rw [leftB_snoc]
  by_cases hc : (leftB ids l v && !decide (v = x)) = true
  · rw [if_pos hc, if_pos hc]
    have h1 : degIn adj (leftB ids (l ++ [x])) v + (if x ∈ adj v then 1 else 0) = degIn adj (leftB ids l) v := by
      unfold degIn
      have h2 := countP_less x (leftB ids l) hx (adj v) (hall v)
      rw [← h2]
      congr 1
      refine congrArg (fun p => List.countP p (adj v)) ?_
      funext u
      exact leftB_snoc ids l x u
    rw [List.take_of_length_le ht]
    by_cases h2 : v ∈ adj x
    · rw [if_pos h2]; rw [if_pos (hsym x v h2)] at h1; congr 1; omega
    · rw [if_neg h2]; rw [if_neg (fun h => h2 (hsym v x h))] at h1; congr 1; omega
  · rw [if_neg hc, if_neg hc]
end
end Go.Proofs.YtnfkbjgijelfdaaGreat
