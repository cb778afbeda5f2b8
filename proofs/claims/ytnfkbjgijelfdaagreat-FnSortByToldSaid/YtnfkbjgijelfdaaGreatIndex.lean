/- The walks of BinarySearch at int64 and of the index of a node. -/
import Derived.Test.YtnfkbjgijelfdaaGreatProg
import Derived.Test.YtnfkbjgijelfdaaGreatMem
import Derived.Test.YtnfkbjgijelfdaaGreatShelf
import Derived.Deep.QuietTactic
import Derived.BigQuiet
import Derived.Deep.LoopGhost
namespace Go.Proofs.YtnfkbjgijelfdaaGreat
open Go.RowKit

/-- How many numbers are less. -/
def posOf (ids : List Int) (x : Int) : Nat := ids.countP (· < x)

/-- Whether a number is there. -/
def memB (ids : List Int) (x : Int) : Bool := ids.contains x
theorem memB_iff (ids : List Int) (x : Int) : memB ids x = true ↔ x ∈ ids := by simp [memB]

theorem memB_hasB (ns : List Int) (x : Int) : memB (sortI ns) x = hasB ns x := by
  rw [Bool.eq_iff_iff, memB_iff, hasB_iff, mem_sortI]
theorem posOf_le (ids : List Int) (x y : Int) (h : x ≤ y) : posOf ids x ≤ posOf ids y := by
  unfold posOf
  exact List.countP_mono_left (fun z _ hz => by simp at hz ⊢; omega)
theorem posOf_lt (ids : List Int) (x y : Int) (h : x < y) (hx : x ∈ ids) : posOf ids x < posOf ids y := by
  induction ids with
  | nil => simp at hx
  | cons z r ih =>
    unfold posOf at ih ⊢
    rw [List.countP_cons, List.countP_cons]
    rcases List.mem_cons.1 hx with rfl | hx
    · have := posOf_le r x y (by omega)
      unfold posOf at this
      simp [h]; omega
    · have := ih hx
      by_cases h1 : z < x
      · have h2 : z < y := by omega
        simp [h1, h2]; omega
      · by_cases h2 : z < y <;> simp [h1, h2] <;> omega
theorem posOf_inj (ids : List Int) (x y : Int) (hx : x ∈ ids) (hy : y ∈ ids) : posOf ids x = posOf ids y ↔ x = y := by
  constructor
  · intro h
    rcases Int.lt_trichotomy x y with h1 | h1 | h1
    · have := posOf_lt ids x y h1 hx; omega
    · exact h1
    · have := posOf_lt ids y x h1 hy; omega
  · rintro rfl; rfl
theorem posOf_len (ids : List Int) (x : Int) (hx : x ∈ ids) : posOf ids x < ids.length := by
  have h1 : posOf ids x ≤ ids.length := List.countP_le_length
  have h2 : posOf ids x ≠ ids.length := fun e => by
    have := (List.countP_eq_length.1 e) x hx
    simp at this
  omega

def SearchPost (ids : List Int) (x : Int) (w : World) (e : Ending) (w' : World) : Prop :=
  e = .returned (.tuple #[.int .i64 (posOf ids x : Nat),   .bool (memB ids x)]) ∧ ∃ q, w' = w.drewN q

set_option maxHeartbeats 1000000 in
theorem bsearch_calls (a : Option Addr) (n c : Nat) (ids : List Int) (x : Int) (w : World) (hr : RdI w a n ids) (hn : n < 4611686018427387904) (hs : ids.Pairwise (· ≤ ·)) :
    Calls Tryz.prog 100 #[.slice a n c, .int .i64 x] w (SearchPost ids x w) := by
  by_cases h0 : 0 < n
  · obtain ⟨b, off, rfl, hb, hc⟩ := hr.at_ h0
    have ht : ids.take n = ids := by rw [← hr.len, List.take_length]
    have hcs : ∀ j, j < ids.length → w.cell? ⟨b, off + j, none⟩ = some (.int .i64 (ids.getD j 0)) := fun j hj => by
      obtain ⟨z, hz, hcz⟩ := hc j (by have := hr.len; omega)
      rw [hcz, hz.out]
    have hcall : Calls Tryz.prog 100 #[.slice (some ⟨b, off, none⟩) n c, .int .i64 x] w fun e w' => e = .returned (.tuple #[.int .i64 ((ids.take n).countP (· < x) : Nat), .bool ((ids.take n).contains x)]) ∧ ∃ q, w' = w.drewN q := by
      first
        | exact Tryz.slices_BinarySearch_int b off n c ids x w (by have := hr.len; omega) hn hcs (by rw [ht]; exact hs)
        | exact Tryz.slices_BinarySearch_int_f100 b off n c ids x w (by have := hr.len; omega) hn hcs (by rw [ht]; exact hs)
    refine hcall.mono ?_
    rintro e w' ⟨rfl, q, rfl⟩
    rw [ht]
    exact ⟨rfl, q, rfl⟩
  · obtain rfl : n = 0 := by omega
    obtain rfl : ids = [] := List.eq_nil_of_length_eq_zero hr.len
    clear hr hs
    go_enter Tryz.func100, Tryz.ntmps100
    go_wp2_with fail
    refine wp_loop_rounds 1 ?_
    rw [rounds_succ]
    go_wp2_with fail
    go_ret2
    exact ⟨by simp [posOf, memB], 0, rfl⟩

set_option maxHeartbeats 1000000 in
theorem pidx_calls (bp : Nat) (a : Option Addr) (n c : Nat) (ids : List Int) (x : Int) (w : World) (hp : w.cell? ⟨bp, 0, none⟩ = some (.slice a n c)) (hr : RdI w a n ids) (hn : n < 4611686018427387904) (hs : ids.Pairwise (· ≤ ·)) :
    Calls Tryz.prog 65 #[.pointer (some ⟨bp, 0, none⟩), .int .i64 x] w (SearchPost ids x w) := by
  have HR := Lib.hid hr; clear hr
  have HS := Lib.hid hs; clear hs
  go_enter Tryz.func65, Tryz.ntmps65
  go_wp2_with fail
  refine (bsearch_calls a n c ids x w HR.out hn HS.out).mono ?_
  rintro e w' ⟨rfl, q, rfl⟩
  go_wp2_with fail
  go_ret2
  exact ⟨rfl, q, rfl⟩

end Go.Proofs.YtnfkbjgijelfdaaGreat
