/- The walk of read. -/
import Derived.Test.YtnfkbjgijelfdaaGreatReadMem
import Derived.Test.YtnfkbjgijelfdaaGreatIndex
import Derived.BigRegion
import Derived.Deep.DeepCutAuto
namespace Go.Proofs.YtnfkbjgijelfdaaGreat
open Go.RowKit

theorem i64_info : (Tryz.prog.info? 2).map (fun i => (i.zero, i.size, i.bytes)) = some (some (.int .i64 0), 1, 8) := by kernel_rfl

theorem row_info : (Tryz.prog.info? 224).map (fun i => (i.zero, i.size, i.bytes)) = some (some (.slice none 0 0), 1, 24) := by kernel_rfl
set_option maxRecDepth 100000 in
theorem make_rows (W : World) (k : Nat) (hk : k ≤ 1000000) : (Instr.makeSlice 96 (.int .i64 k) (.int .i64 k)).run Tryz.prog W = .ok (.slice (some ⟨W.heap.size, 0, none⟩) k k) (W.alloc (.cells (nils k) 224)) := by
  obtain ⟨i0, hi0, hz0, hz1, hz2⟩ := info_parts row_info
  have := run_make (P := Tryz.prog) W 96 224 i0 _ Tryz.underlying96 hi0 hz0 .i64 .i64 k k (by omega) (by omega) (by rw [hz2]; omega) (by omega)
  rw [this, hz1, Int.toNat_natCast, Nat.mul_one]
  congr 3
  apply Array.ext
  · simp [madeCells, nils]
  · intro j h1 h2
    simp [madeCells, nils, Value.cells, Nat.mod_one]

theorem edge_cases (ns : List Int) (x y z : Int) : (memB (sortI ns) x = false ∧ Hid (edgeB ns (x, y, z) = false)) ∨ (memB (sortI ns) x = true ∧ ((memB (sortI ns) y = false ∧ Hid (edgeB ns (x, y, z) = false)) ∨ (memB (sortI ns) y = true ∧
    ((((posOf (sortI ns) x : Nat) : Int) == ((posOf (sortI ns) y : Nat) : Int)) = true ∧ Hid (edgeB ns (x, y, z) = false) ∨ ((((posOf (sortI ns) x : Nat) : Int) == ((posOf (sortI ns) y : Nat) : Int)) = false ∧
      ((1099511627776 < z ∧ Hid (edgeB ns (x, y, z) = false)) ∨ (z ≤ 1099511627776 ∧ ((z < -1099511627776 ∧ Hid (edgeB ns (x, y, z) = false)) ∨ (-1099511627776 ≤ z ∧ Hid (edgeB ns (x, y, z) = true)))))))))) := by
  unfold Hid edgeB most
  rw [memB_hasB, memB_hasB]
  cases h1 : hasB ns x
  · simp
  · cases h2 : hasB ns y
    · simp
    · have hx : x ∈ sortI ns := mem_sortI.2 ((hasB_iff _ _).1 h1)
      have hy : y ∈ sortI ns := mem_sortI.2 ((hasB_iff _ _).1 h2)
      have hi := posOf_inj (sortI ns) x y hx hy
      by_cases e : x = y
      · subst e; simp
      · have e2 : ¬ ((posOf (sortI ns) x : Nat) : Int) = ((posOf (sortI ns) y : Nat) : Int) := fun h => e (hi.1 (by omega))
        by_cases g4 : 1099511627776 < z <;> by_cases g5 : z < -1099511627776 <;> simp [e, e2, g4, g5] <;> omega

/-- A weight's bits. -/
def bitsOf (x : Int) : Nat := floatOfInt FloatKind.f64 x
/-- The rows that the edges make, one behind the other. -/
def rowsStep (d : Bool) (ids : List Int) (st : List Arcs × List Arcs) (e : Int × Int × Int) : List Arcs × List Arcs :=
  layM d st.1 st.2 (posOf ids e.1) (posOf ids e.2.1) (bitsOf e.2.2)
def rowsFrom (d : Bool) (ids : List Int) (es : List (Int × Int × Int)) : List Arcs × List Arcs :=
  es.foldl (rowsStep d ids) (List.replicate ids.length [], List.replicate ids.length [])

theorem rowsFrom_succ (d : Bool) (ids : List Int) (es : List (Int × Int × Int)) (t : Nat) (e : Int × Int × Int) (h : es[t]? = some e) : rowsFrom d ids (es.take (t + 1)) = rowsStep d ids (rowsFrom d ids (es.take t)) e := by
  obtain ⟨ht, rfl⟩ := List.getElem?_eq_some_iff.1 h
  unfold rowsFrom
  rw [List.take_succ_eq_append_getElem ht, List.foldl_append]; rfl

theorem compact_neq (ns : List Int) (k : Nat) (h : ns.length = k) : (((Lib.compact (sortI ns)).length : Int) != (k : Int)) = !risingB (sortI ns) := by
  have hc := compact_len (sortI ns) (sortI_pw ns)
  rw [sortI_len, h] at hc
  cases hr : risingB (sortI ns)
  · have : ¬ (Lib.compact (sortI ns)).length = k := fun e => by have := hc.1 e; rw [hr] at this; cases this
    simp; omega
  · have := hc.2 hr
    simp [this]

/-- What read says: the pointer to the lists, and whether the graph is good; the lists, if it is. -/
def ReadPost (d : Bool) (n : Nat) (ns : List Int) (es : List (Int × Int × Int)) (w : World) (e : Ending) (w' : World) : Prop :=
  Below w.heap.size w w' ∧ ∃ bp : Nat, e = .returned (.tuple #[.pointer (some ⟨bp, 0, none⟩), .bool (wellB ns es)]) ∧
    (wellB ns es = true → w.heap.size ≤ bp ∧ ∃ (w0 : World) (a : Option Addr) (c : Nat), ReadSt w0 bp n (sortI ns) a c (rowsFrom d (sortI ns) es).1 (rowsFrom d (sortI ns) es).2 w')

theorem own_shape {w : World} {base : Nat} {e : TypeId} {size : Nat} {v : Value} {n : Nat} {xs : List Value} (h : w.ownsRow base e size v n xs) : ∃ a c, v = .slice a n c := by
  rcases h.2 with ⟨rfl, rfl⟩ | ⟨g, cap, cur, rfl, _⟩
  · exact ⟨none, 0, rfl⟩
  · exact ⟨_, _, rfl⟩

/-- The numbers are being appended: block bp holds the list's head. -/
def IdsSt (w0 : World) (bp k : Nat) (ns : List Int) (w : World) : Prop :=
  ∃ a c, w.heap[bp]? = some (.cells #[.slice a k c, .slice none 0 0, .slice none 0 0] 98 (0, 0)) ∧
    w.ownsRow (bp + 1) 2 1 (.slice a k c) k ((ns.take k).map (Value.int .i64)) ∧ Below bp w0 w

set_option maxHeartbeats 10000000 in
set_option maxRecDepth 100000 in
theorem read_calls (d : Bool) (an ae : Option Addr) (n cn m ce : Nat) (ns : List Int) (es : List (Int × Int × Int)) (w : World) (hn : RdI w an n ns) (hr : RdE w ae m es) (hn8 : n ≤ 1000000) :
    Calls Tryz.prog 87 #[.agg #[.bool d, .slice an n cn, .slice ae m ce]] w (ReadPost d n ns es w) := by
  have hs := hr.small
  have HR := Lib.hid hr; clear hr
  have HN := Lib.hid hn; clear hn
  obtain ⟨i0, hi0, hz0, hz1, hz2⟩ := info_parts i64_info
  have HI := Lib.hid (And.intro hi0 (And.intro hz0 (And.intro hz1 hz2)))
  clear hi0 hz0 hz1 hz2
  go_enter Tryz.func87, Tryz.ntmps87
  go_wp2_with fail
  obtain ⟨w0, hw0⟩ : ∃ w0, w0 = (w.alloc (.cells #[.bool d, .slice an n cn, .slice ae m ce] 25)).alloc (.cells #[.slice none 0 0, .slice none 0 0, .slice none 0 0] 98) := ⟨_, rfl⟩
  have hb0 : Below w.heap.size w w0 := by rw [hw0]; exact ((Below.refl _ _).alloc (Nat.le_refl _) _).alloc (by simp) _
  have hg0 : w0.heap[w.heap.size]? = some (.cells #[.bool d, .slice an n cn, .slice ae m ce] 25 (0, 0)) := by
    rw [hw0, heap_alloc_old _ _ (by simp)]; exact heap_alloc_new w _
  have hp0 : w0.heap[w.heap.size + 1]? = some (.cells #[.slice none 0 0, .slice none 0 0, .slice none 0 0] 98 (0, 0)) := by
    rw [hw0]; have := heap_alloc_new (w.alloc (.cells #[.bool d, .slice an n cn, .slice ae m ce] 25)) (.cells #[.slice none 0 0, .slice none 0 0, .slice none 0 0] 98)
    simpa using this
  obtain ⟨bp, hbp⟩ : ∃ bp, bp = w.heap.size + 1 := ⟨_, rfl⟩
  obtain ⟨gb, hgb⟩ : ∃ gb, gb = w.heap.size := ⟨_, rfl⟩
  have hsz0 : w0.heap.size = bp + 1 := by rw [hw0, hbp]; simp
  have hgp : gb < bp := by omega
  rw [← hw0]
  rw [← hbp] at hp0 ⊢
  rw [← hgb] at hg0 hb0 ⊢
  have HB0 := Lib.hid hb0
  have HG0 := Lib.hid hg0
  have HP0 := Lib.hid hp0
  have HGB := Lib.hid hgb
  have HSZ0 := Lib.hid hsz0
  clear hw0 hbp hb0 hg0 hp0 hsz0 hgb
  go_loopw [18] (fun i wr => ∃ k : Nat, k ≤ n ∧ i = .int .i64 k ∧ IdsSt w0 bp k ns wr) (fun i _ => n - (intOf i).toNat)
  case atStart =>
    exact ⟨0, by omega, rfl, none, 0, HP0.out, World.ownsRow_nil _ _ _ _, Below.refl _ _⟩
  case round =>
    obtain ⟨k, hk, rfl, a, c, h1, h2, h3⟩ := hrel
    have H1 := Lib.hid h1; have H2 := Lib.hid h2; have H3 := Lib.hid h3
    have hbl : bp < wr.heap.size := (Array.getElem?_eq_some_iff.1 h1).1
    have q0 : wr.cell? ⟨bp, 0, none⟩ = some (.slice a k c) := by rw [cell_of_row wr bp 0 _ _ (0, 0) h1]; rfl
    have f0 : wr.frozen? ⟨bp, 0, none⟩ = false := by simp [World.frozen?, h1]
    clear h1 h2
    by_cases hlt : k < n
    · obtain ⟨b, off, rfl, hbb, hc⟩ := HN.out.at_ (by omega)
      obtain ⟨z, HZ, c1⟩ := hc k hlt
      clear hc
      have hbg : b < gb := by rw [HGB.out]; exact hbb
      have hbw := HB0.out.trans (h3.mono (show gb ≤ bp by omega))
      have d1 : wr.cell? ⟨b, off + k, none⟩ = some (.int .i64 z) := (hbw.cell (p := ⟨b, off + k, none⟩) hbg).trans c1
      have hbp2 : b < wr.heap.size := by omega
      clear hbw c1 h3
      obtain ⟨hi0, hz0, hz1, hz2⟩ := HI.out
      have hsm : (k + 1) * 8 ≤ 140737488355328 := by omega
      go_wp2_with (at_builtin; refine wpList_append_own _ rfl _ _ 95 rfl (bp + 1) 2 i0 (.int .i64 0) 1 8 Tryz.underlying95 hi0 hz0 hz1 hz2 rfl (by decide) _ _ _ rfl (H2.out.alloc _) ⟨wr.heap.size, 0, none⟩ 1 1 [.int .i64 z] rfl rfl ?c1 ?c2 ?c3 ?c4 ?c5 ?_)
      case c1 => intro j u hj; match j, hj with | 0, hj => simp at hj; subst hj; simp [Addr.add]
      case c2 => intro u hu; simp at hu; subst hu; rfl
      case c3 => unfold maxLen; omega
      case c4 => exact hsm
      case c5 => simp; omega
      intro v' w' hown' hgrow _
      obtain ⟨a', c', rfl⟩ := own_shape hown'
      have hne : some bp ≠ (Value.slice a k c).ownBlock := fun e => by have := (H2.out.lt bp e.symm).1; omega
      have e1 : w'.heap[bp]? = some (.cells #[.slice a k c, .slice none 0 0, .slice none 0 0] 98 (0, 0)) := by
        rw [hgrow.block bp (by simp; omega) hne, heap_alloc_old _ _ hbl]; exact H1.out
      have k0 : w'.cell? ⟨bp, 0, none⟩ = some (.slice a k c) := by rw [cell_of_row w' bp 0 _ _ (0, 0) e1]; rfl
      have k1 : w'.frozen? ⟨bp, 0, none⟩ = false := by simp [World.frozen?, e1]
      have E1 := Lib.hid e1
      have HO := Lib.hid hown'
      have HB3 : Hid (Below bp w0 w') := (H3.out.alloc (by omega) _).grown hgrow (by simp; omega) (fun j hj => by have := (H2.out.lt j hj).1; omega)
      clear e1 hown' hgrow hne q0 f0
      go_wp2
      go_roundw
      case rel =>
        refine ⟨k + 1, by omega, by go_num, a', c', ?_, ?_, HB3.out.setCell (Nat.le_refl _) _⟩
        · rw [heap_setCell_same E1.out]; rfl
        · have := ownsRow_setCell_below HO.out (a := ⟨bp, 0, none⟩) (by show bp < bp + 1; omega) (.slice a' (k + 1) c')
          have e2 : (ns.take (k + 1)).map (Value.int .i64) = List.take k (ns.map (Value.int .i64)) ++ [.int .i64 z] := by
            have hkl : k < ns.length := by rw [HN.out.len]; exact hlt
            rw [List.take_succ_eq_append_getElem hkl, List.map_append, List.map_take]
            have := HZ.out; simp [List.getD, hkl] at this; simp [this]
          rw [e2]; exact this
      case measure => simp [intOf]; omega
    · obtain rfl : k = n := by omega
      have H2' : Hid (wr.ownsRow (bp + 1) 2 1 (.slice a k c) k (ns.map (Value.int .i64))) := by
        have := H2.out
        rw [show ns.take k = ns by rw [← HN.out.len, List.take_length]] at this; exact this
      go_wp2_with fail
      refine (sort64_calls (bp + 1) (.slice a k c) k ns wr H2'.out (by omega)).mono ?_
      rintro e w1 ⟨rfl, h1, h2⟩
      have HD : Hid (IdsDone w0 bp k (sortI ns) a c w1) := by
        have hne : some bp ≠ (Value.slice a k c).ownBlock := fun e => by have := (H2.out.lt bp e.symm).1; omega
        exact ⟨(h2.block bp hbl hne).trans H1.out, h1, H3.out.grown h2 (by omega) (fun j hj => by have := (H2.out.lt j hj).1; omega)⟩
      clear h1 h2 q0 f0 H1 H2 H2' H3 h3 hbl
      have q0 := HD.out.cell
      go_wp2_with fail
      have HEq := Lib.hid (compact_neq ns k HN.out.len)
      go_cut [50] (fun s wc => s = .bool (!risingB (sortI ns)) ∧ IdsDone w0 bp k (sortI ns) a c wc)
      case first =>
        go_region_with (first
          | (go_at_call 122; refine (clone64_calls a k c (sortI ns) _ (IdsDone.rd (HD.out.later ((Below.refl _ _).drew))) (by omega)).mono ?_; rintro e w2 ⟨v2, rfl, ho2, hb2⟩; have HO2 := Lib.hid ho2; have HB2 := Lib.hid hb2; have q2 := ((HD.out.later ((Below.refl _ _).drew)).later hb2).cell; obtain ⟨a2, c2, rfl⟩ := own_shape ho2; clear ho2 hb2)
          | (go_at_call 121; refine (compact64_calls _ _ k (sortI ns) _ HO2.out).mono ?_; rintro e w3 ⟨a3, c3, rfl, hg3⟩; have HD3 := Lib.hid ((HD.out.later ((Below.refl _ _).drew)).later (HB2.out.grown hg3 HB2.out.size (fun j hj => (HO2.out.lt j hj).1))); have q3 := HD3.out.cell; clear hg3))
        all_goals
          go_wp2
          go_meet
          exact ⟨by rw [HEq.out], HD3.out⟩
      case rest =>
        obtain ⟨rfl, hd⟩ := hcut
        have HDC := Lib.hid hd; clear hd q0
        have hbc : bp < wc.heap.size := (Array.getElem?_eq_some_iff.1 HDC.out.1).1
        cases hris : risingB (sortI ns)
        · have HF := Lib.hid (show wellB ns es = false from by rw [wellB, hris]; rfl)
          go_wp2_with fail
          go_ret2
          refine ⟨?_, bp, ?_, fun h => ?_⟩
          · rw [← HGB.out]; exact HB0.out.trans (HDC.out.2.2.mono (by omega))
          · rw [HF.out]; rfl
          · rw [HF.out] at h; cases h
        · have q0 := HDC.out.cell
          have q1 : wc.cell? ⟨bp, 1, none⟩ = some (.slice none 0 0) := by rw [cell_of_row wc bp 1 _ _ (0, 0) HDC.out.1]; rfl
          have q2 : wc.cell? ⟨bp, 2, none⟩ = some (.slice none 0 0) := by rw [cell_of_row wc bp 2 _ _ (0, 0) HDC.out.1]; rfl
          have f1 : wc.frozen? ⟨bp, 1, none⟩ = false := by simp [World.frozen?, HDC.out.1]
          have f2 : wc.frozen? ⟨bp, 2, none⟩ = false := by simp [World.frozen?, HDC.out.1]
          have hmk : ∀ W : World, (Instr.makeSlice 96 (.int .i64 k) (.int .i64 k)).run Tryz.prog W = .ok (.slice (some ⟨W.heap.size, 0, none⟩) k k) (W.alloc (.cells (nils k) 224)) := fun W => make_rows W k hn8
          go_wp2_with fail
          go_cut [] (fun wr => ReadSt w0 bp k (sortI ns) a c (List.replicate k []) (List.replicate k []) wr)
          case first =>
            go_region
            all_goals
              go_wp2
              go_meet
            · exact ReadSt.made HDC.out (.inl ⟨rfl, rfl⟩) rfl
            · exact ReadSt.made HDC.out (.inr ⟨rfl, rfl⟩) rfl
          case rest =>
            have HRS := Lib.hid hcut; clear hcut q0 q1 q2 f1 f2 hmk
            have hg1 : wc.heap[gb]? = some (.cells #[.bool d, .slice an k cn, .slice ae m ce] 25 (0, 0)) := (HRS.out.below.block gb hgp).trans HG0.out
            have j2 : wc.cell? ⟨gb, 2, none⟩ = some (.slice ae m ce) := by rw [cell_of_row wc gb 2 _ _ (0, 0) hg1]; rfl
            have HWE := Lib.hid (show wellB ns es = edgesB ns es from by rw [wellB, hris]; rfl)
            clear hg1
            go_wp2_with fail
            go_loopw [73] (fun i wr => ∃ t : Nat, t ≤ m ∧ i = .int .i64 t ∧ wellB ns es = edgesB ns (es.drop t) ∧ ∃ st : List Arcs × List Arcs, st = rowsFrom d (sortI ns) (es.take t) ∧ ReadSt w0 bp k (sortI ns) a c st.1 st.2 wr) (fun i _ => m - (intOf i).toNat)
            case atStart => exact ⟨0, by omega, rfl, by rw [HWE.out]; simp, _, rfl, by have := HRS.out; simpa [rowsFrom, sortI_len, HN.out.len] using this⟩
            case round =>
              obtain ⟨t, ht, rfl, he, st, hst, hrs⟩ := hrel
              have HE := Lib.hid he; have HST := Lib.hid hst; have HRW := Lib.hid hrs
              clear he hst j2
              have hbw : Below gb w wr := HB0.out.trans (hrs.below.mono (by omega))
              have hg1 : wr.heap[gb]? = some (.cells #[.bool d, .slice an k cn, .slice ae m ce] 25 (0, 0)) := (hrs.below.block gb hgp).trans HG0.out
              have j0 : wr.cell? ⟨gb, 0, none⟩ = some (.bool d) := by rw [cell_of_row wr gb 0 _ _ (0, 0) hg1]; rfl
              have hszr : bp < wr.heap.size := hrs.size
              clear hg1 hrs
              by_cases hlt2 : t < m
              · obtain ⟨b, off, rfl, hbb, hc⟩ := HR.out.at_ (by omega)
                obtain ⟨x, y, z, HX, c1, c2, c3⟩ := hc t hlt2
                clear hc
                have hbg : b < gb := by rw [HGB.out]; exact hbb
                have d1 := (hbw.cell (p := ⟨b, _, none⟩) hbg).trans c1
                have d2 := (hbw.cell (p := ⟨b, _, none⟩) hbg).trans c2
                have d3 := (hbw.cell (p := ⟨b, _, none⟩) hbg).trans c3
                have hgr : gb < wr.heap.size := by omega
                have hbr : b < wr.heap.size := by omega
                clear c1 c2 c3 hbw
                obtain ⟨wa, hwa⟩ : ∃ wa, wa = wr.alloc (.cells #[.int .i64 x, .int .i64 y, .int .i64 z] 41) := ⟨_, rfl⟩
                have hra : ReadSt w0 bp k (sortI ns) a c st.1 st.2 wa := by rw [hwa]; exact HRW.out.later ((Below.refl _ _).alloc (Nat.le_refl _) _)
                have g0 : wa.cell? ⟨gb, 0, none⟩ = some (.bool d) := by rw [hwa, World.cell?_alloc_past _ _ _ hgr]; exact j0
                have e0 : wa.cell? ⟨wr.heap.size, 0, none⟩ = some (.int .i64 x) := by rw [hwa]; go_simp
                have e1 : wa.cell? ⟨wr.heap.size, 1, none⟩ = some (.int .i64 y) := by rw [hwa]; go_simp
                have e2 : wa.cell? ⟨wr.heap.size, 2, none⟩ = some (.int .i64 z) := by rw [hwa]; go_simp
                have HRA := Lib.hid hra; clear hra
                have HWA := Lib.hid hwa
                go_wp2_with fail
                rw [← hwa]
                clear hwa
                refine (pidx_calls bp a k c (sortI ns) x wa HRA.out.cell HRA.out.rd (by omega) (sortI_pw _)).mono ?_
                rintro e w' ⟨rfl, q, rfl⟩
                go_wp2_with fail
                refine (pidx_calls bp a k c (sortI ns) y (wa.drewN q) HRA.out.cell (HRA.out.rd.drewN q) (by omega) (sortI_pw _)).mono ?_
                rintro e w' ⟨rfl, q2, rfl⟩
                rw [World.drewN_drewN]
                have key : (memB (sortI ns) x = false ∧ Hid (edgeB ns (x, y, z) = false)) ∨ (memB (sortI ns) x = true ∧ ((memB (sortI ns) y = false ∧ Hid (edgeB ns (x, y, z) = false)) ∨ (memB (sortI ns) y = true ∧
                    ((((posOf (sortI ns) x : Nat) : Int) == ((posOf (sortI ns) y : Nat) : Int)) = true ∧ Hid (edgeB ns (x, y, z) = false) ∨ ((((posOf (sortI ns) x : Nat) : Int) == ((posOf (sortI ns) y : Nat) : Int)) = false ∧
                      ((1099511627776 < z ∧ Hid (edgeB ns (x, y, z) = false)) ∨ (z ≤ 1099511627776 ∧ ((z < -1099511627776 ∧ Hid (edgeB ns (x, y, z) = false)) ∨ (-1099511627776 ≤ z ∧ Hid (edgeB ns (x, y, z) = true)))))))))) := edge_cases ns x y z
                rcases key with ⟨g1, HA⟩ | ⟨g1, ⟨g2, HA⟩ | ⟨g2, ⟨g3, HA⟩ | ⟨g3, ⟨g4, HA⟩ | ⟨g4, ⟨g5, HA⟩ | ⟨g5, HA⟩⟩⟩⟩⟩
                all_goals go_wp2_with fail
                iterate 5
                  go_ret2
                  have HF := Lib.hid (show wellB ns es = false from by rw [HE.out, edgesB_step _ _ _ _ HX.out, HA.out]; rfl)
                  refine ⟨?_, bp, ?_, fun h => ?_⟩
                  · rw [← HGB.out]
                    refine HB0.out.trans ((HRW.out.below.mono (by omega)).trans ?_)
                    rw [HWA.out]
                    exact below_drewN ((Below.refl _ _).alloc (by omega) _) _
                  · rw [HF.out]; rfl
                  · rw [HF.out] at h; cases h
                obtain ⟨B, bo, bi, vo, vi, hp, ho, hsp, h1, h2, h3⟩ := HRA.out
                have hx : x ∈ sortI ns := (memB_iff _ _).1 g1
                have hy : y ∈ sortI ns := (memB_iff _ _).1 g2
                have hkl : (sortI ns).length = k := by rw [sortI_len, HN.out.len]
                have hi : posOf (sortI ns) x < k := by rw [← hkl]; exact posOf_len _ _ hx
                have hj : posOf (sortI ns) y < k := by rw [← hkl]; exact posOf_len _ _ hy
                have hbq := below_drewN (Below.refl wa.heap.size wa) (q + q2)
                refine (lay_calls (wa.drewN (q + q2)) B bp bo bi k a c (posOf (sortI ns) x) (posOf (sortI ns) y) (floatOfInt FloatKind.f64 z) d vo vi st.1 st.2 hi hj (hp.later hbq) hn8).mono ?_
                rintro e w2 ⟨rfl, hl⟩
                have HL : Hid (ReadSt w0 bp k (sortI ns) a c (rowsStep d (sortI ns) st (x, y, z)).1 (rowsStep d (sortI ns) st (x, y, z)).2 w2) :=
                  ReadSt.laid (hp.later hbq) (ho.kept (grownBy_of_below hbq none) (by cases (Value.slice a k c).ownBlock <;> simp)) hsp h1 h2 (below_drewN h3 _) hl
                clear hl hp ho hsp h1 h2 h3 hbq
                go_wp2_with fail
                go_roundw
                case rel => exact ⟨t + 1, by omega, by go_num, by rw [HE.out, edgesB_step _ _ _ _ HX.out, HA.out]; rfl, _, (by rw [rowsFrom_succ _ _ _ _ _ HX.out, ← HST.out]), HL.out⟩
                case measure => simp [intOf]; omega
              · go_wp2_with fail
                go_ret2
                have htm : t = m := by omega
                have hte : es.take t = es := by rw [htm, ← HR.out.len, List.take_length]
                have hwl : wellB ns es = true := by rw [HE.out, edgesB_end _ _ _ (by have := HR.out.len; omega)]
                refine ⟨?_, bp, by rw [hwl]; rfl, fun _ => ⟨by have := HGB.out; omega, w0, a, c, ?_⟩⟩
                · rw [← HGB.out]; exact HB0.out.trans (HRW.out.below.mono (by omega))
                · have := HRW.out
                  rw [HST.out, hte] at this; exact this
end Go.Proofs.YtnfkbjgijelfdaaGreat
