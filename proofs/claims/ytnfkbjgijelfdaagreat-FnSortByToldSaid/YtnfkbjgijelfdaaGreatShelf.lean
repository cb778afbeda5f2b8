/-
  DERIVED: THE SHELF's CONTRACTS AT THIS DUMP, IN PLAIN WORDS (tools/lay-plain.mjs out of 'TryzShelf.lean', which tools/lay-shelf.mjs wrote): THE SAME DECLARATIONS UNDER THE SAME NAMES: 'import', 'namespace', 'open', 'def', 'theorem' AND NOTHING ELSE: no command of the shelf's: FOR A HAND-IN. Each laying: the table of numbers ('.._ren') and one theorem, a field a fact of the dump's own or the kernel's comparison; each contract: ONE APPLICATION.
-/
import Derived.Shelf.Small.Bits
import Derived.Shelf.Strconv.Itoa0
import Derived.Shelf.Slices.Equal
import Derived.Ground.Names2Prog
import Derived.Shelf.Slices.Clone
import Derived.Shelf.Slices.Empties2
import Derived.Ground.SlgnProg
import Derived.Shelf.SlicesG.Clone
import Derived.Shelf.SlicesG.CompactI
import Derived.Shelf.SlicesG.SearchI
import Derived.Shelf.SlicesE.Reverse
import Derived.Ground.SlsfProg
import Derived.Shelf.SlSortCmp.Insertion
import Derived.Ground.SlgmProg
import Derived.Shelf.SortM.Plain
import Derived.Shelf.SortM.SortNone
import Derived.Shelf.SlSortCmp.SiftDown1
import Derived.Shelf.SlSortCmp.HeapSort1
import Derived.Shelf.SlSortCmp.Insertion1
import Derived.Shelf.SlSortCmp.Median1
import Derived.Shelf.SlSortCmp.Pivot1
import Derived.Shelf.SlSortCmp.ReverseRange1
import Derived.Shelf.SlSortCmp.PartialInsertion1
import Derived.Shelf.SlSortCmp.PartitionEqual1
import Derived.Shelf.SlSortCmp.Partition1
import Derived.Shelf.SlSortCmp.Pdq1
import Derived.Shelf.SlSortCmp.Whole1
import Derived.Shelf.SlSortCmp.NoneTotal
import Derived.Test.YtnfkbjgijelfdaaGreatProg
namespace Go.Proofs
open Go.Shelf
def Tryz.lays128_ren : Go.Shelf.Ren := ⟨fun | 128 => 138 | n => n, fun | 51 => 205 | 3 => 3 | 4 => 4 | 46 => 143 | 5 => 5 | 9 => 9 | n => n, fun | n => n⟩
theorem Tryz.lays128 : Go.Proofs.Lays.n128 Tryz.prog Tryz.lays128_ren := {
  mixed := by kernel_rfl
  f128 := Tryz.func138.trans (congrArg some (by kernel_rfl))
  t3 := Tryz.underlying3
  a3 := Tryz.isAgg3
  z3 := Tryz.sizeOf3
  v3 := Tryz.zeroValue3
  t4 := Tryz.underlying4
  a4 := Tryz.isAgg4
  z4 := Tryz.sizeOf4
  v4 := Tryz.zeroValue4
  t5 := Tryz.underlying5
  a5 := Tryz.isAgg5
  z5 := Tryz.sizeOf5
  v5 := Tryz.zeroValue5
  t9 := Tryz.underlying9
  a9 := Tryz.isAgg9
  z9 := Tryz.sizeOf9
  v9 := Tryz.zeroValue9
  t46 := Tryz.underlying143
  a46 := Tryz.isAgg143
  z46 := Tryz.sizeOf143
  v46 := Tryz.zeroValue143
  t51 := Tryz.underlying205
  a51 := Tryz.isAgg205
  z51 := Tryz.sizeOf205
  v51 := Tryz.zeroValue205 }
/-- bits.Len32: "Len32 returns the minimum number of bits required to represent x; the result is 0 for x == 0.": IT RETURNS 'Lib.bitLen x'; the world is as it was. ('h0', 'h1': x is a uint32.) (LAID: no walk: one application.) -/
theorem Tryz.bits_Len32 (x : Int) (w : World) (h0 : 0 ≤ x) (h1 : x ≤ 4294967295) :
    Calls Tryz.prog 138 #[.int .u32 x] w fun e w' => e = .returned (.int .i64 (Lib.bitLen x.toNat)) ∧ w' = w := Any.bits_Len32 Tryz.lays128 x w h0 h1
def Tryz.lays125_ren : Go.Shelf.Ren := ⟨fun | 125 => 90 | 128 => 138 | 129 => 139 | n => n, fun | 46 => 143 | 3 => 3 | 51 => 205 | 53 => 207 | 4 => 4 | 5 => 5 | 9 => 9 | n => n, fun | n => n⟩
theorem Tryz.lays125 : Go.Proofs.Lays.n125 Tryz.prog Tryz.lays125_ren := {
  mixed := by kernel_rfl
  f125 := Tryz.func90.trans (congrArg some (by kernel_rfl))
  f128 := Tryz.func138.trans (congrArg some (by kernel_rfl))
  f129 := Tryz.func139.trans (congrArg some (by kernel_rfl))
  t3 := Tryz.underlying3
  a3 := Tryz.isAgg3
  z3 := Tryz.sizeOf3
  v3 := Tryz.zeroValue3
  t4 := Tryz.underlying4
  a4 := Tryz.isAgg4
  z4 := Tryz.sizeOf4
  v4 := Tryz.zeroValue4
  t5 := Tryz.underlying5
  a5 := Tryz.isAgg5
  z5 := Tryz.sizeOf5
  v5 := Tryz.zeroValue5
  t9 := Tryz.underlying9
  a9 := Tryz.isAgg9
  z9 := Tryz.sizeOf9
  v9 := Tryz.zeroValue9
  t46 := Tryz.underlying143
  a46 := Tryz.isAgg143
  z46 := Tryz.sizeOf143
  v46 := Tryz.zeroValue143
  t51 := Tryz.underlying205
  a51 := Tryz.isAgg205
  z51 := Tryz.sizeOf205
  v51 := Tryz.zeroValue205
  t53 := Tryz.underlying207
  a53 := Tryz.isAgg207
  z53 := Tryz.sizeOf207
  v53 := Tryz.zeroValue207 }
/-- bits.Len: "Len returns the minimum number of bits required to represent x; the result is 0 for x == 0.": IT RETURNS 'Lib.bitLen x'; the world is as it was. (A uint has 64 bits in the model.) ITS CALLEE bits.Len64 IS MET BY ITS OWN CONTRACT OFF THE SHELF (lay that first). (LAID: no walk: one application.) -/
theorem Tryz.bits_Len (x : Int) (w : World) (h0 : 0 ≤ x) (h1 : x ≤ 18446744073709551615) :
    Calls Tryz.prog 90 #[.int .u64 x] w fun e w' => e = .returned (.int .i64 (Lib.bitLen x.toNat)) ∧ w' = w := Any.bits_Len Tryz.lays125 x w h0 h1
def Tryz.lays129_ren : Go.Shelf.Ren := ⟨fun | 129 => 139 | n => n, fun | 53 => 207 | 3 => 3 | 4 => 4 | 46 => 143 | 5 => 5 | 9 => 9 | n => n, fun | n => n⟩
theorem Tryz.lays129 : Go.Proofs.Lays.n129 Tryz.prog Tryz.lays129_ren := {
  mixed := by kernel_rfl
  f129 := Tryz.func139.trans (congrArg some (by kernel_rfl))
  t3 := Tryz.underlying3
  a3 := Tryz.isAgg3
  z3 := Tryz.sizeOf3
  v3 := Tryz.zeroValue3
  t4 := Tryz.underlying4
  a4 := Tryz.isAgg4
  z4 := Tryz.sizeOf4
  v4 := Tryz.zeroValue4
  t5 := Tryz.underlying5
  a5 := Tryz.isAgg5
  z5 := Tryz.sizeOf5
  v5 := Tryz.zeroValue5
  t9 := Tryz.underlying9
  a9 := Tryz.isAgg9
  z9 := Tryz.sizeOf9
  v9 := Tryz.zeroValue9
  t46 := Tryz.underlying143
  a46 := Tryz.isAgg143
  z46 := Tryz.sizeOf143
  v46 := Tryz.zeroValue143
  t53 := Tryz.underlying207
  a53 := Tryz.isAgg207
  z53 := Tryz.sizeOf207
  v53 := Tryz.zeroValue207 }
/-- bits.Len64: "Len64 returns the minimum number of bits required to represent x; the result is 0 for x == 0.": IT RETURNS 'Lib.bitLen x'; the world is as it was. ('h0', 'h1': x is a uint64.) (LAID: no walk: one application.) -/
theorem Tryz.bits_Len64 (x : Int) (w : World) (h0 : 0 ≤ x) (h1 : x ≤ 18446744073709551615) :
    Calls Tryz.prog 139 #[.int .u64 x] w fun e w' => e = .returned (.int .i64 (Lib.bitLen x.toNat)) ∧ w' = w := Any.bits_Len64 Tryz.lays129 x w h0 h1
def Tryz.lays111_ren : Go.Shelf.Ren := ⟨fun | 111 => 46 | n => n, fun | 28 => 22 | 3 => 3 | 4 => 4 | 0 => 0 | n => n, fun | n => n⟩
theorem Tryz.lays111 : Go.Proofs.Lays.n111 Tryz.prog Tryz.lays111_ren := {
  mixed := by kernel_rfl
  f111 := Tryz.func46.trans (congrArg some (by kernel_rfl))
  t0 := Tryz.underlying0
  a0 := Tryz.isAgg0
  z0 := Tryz.sizeOf0
  v0 := Tryz.zeroValue0
  t3 := Tryz.underlying3
  a3 := Tryz.isAgg3
  z3 := Tryz.sizeOf3
  v3 := Tryz.zeroValue3
  t4 := Tryz.underlying4
  a4 := Tryz.isAgg4
  z4 := Tryz.sizeOf4
  v4 := Tryz.zeroValue4
  t28 := Tryz.underlying22
  a28 := Tryz.isAgg22
  z28 := Tryz.sizeOf22
  v28 := Tryz.zeroValue22 }
open Go.RowKit Go.Lib in
/-- slices.Equal at []int: "Equal reports whether two slices are equal: the same length and all elements equal. If the lengths are different, Equal returns false. Otherwise, the elements are compared in increasing index order, and the comparison stops at the first unequal pair. Empty and nil slices are considered equal.": IT RETURNS WHETHER THE TWO LISTS OF ELEMENTS ARE ONE; the world is as it was but for the count of draws (the test 's1[i] != s2[i]' has two reads, whose order the model draws, once a round). 'xs', 'ys': what the cells behind the two addresses hold (the spare capacity too, if you have it); 'xs.take n', 'ys.take m': the elements. THE TWO SLICES MAY OVERLAP. (LAID: no walk: one application.) -/
theorem Tryz.slices_Equal_int (b1 o1 n c b2 o2 m d : Nat) (xs ys : List Int) (w : World) (hx : n ≤ xs.length) (hy : m ≤ ys.length) (hbig : n ≤ 9223372036854775807) (hbig2 : m ≤ 9223372036854775807) (hc1 : ∀ j, j < xs.length → w.cell? ⟨b1, o1 + j, none⟩ = some (.int .i64 (xs.getD j 0))) (hc2 : ∀ j, j < ys.length → w.cell? ⟨b2, o2 + j, none⟩ = some (.int .i64 (ys.getD j 0))) :
    Calls Tryz.prog 46 #[.slice (some ⟨b1, o1, none⟩) n c, .slice (some ⟨b2, o2, none⟩) m d] w fun e w' => e = .returned (.bool (xs.take n == ys.take m)) ∧ ∃ q, w' = w.drewN q := Any.slices_Equal_int Tryz.lays111 b1 o1 n c b2 o2 m d xs ys w hx hy hbig hbig2 hc1 hc2
open Go.RowKit Go.Lib in
/-- The same where the first is of length 0 (a nil one too): no cell is asked for. (LAID: no walk: one application.) -/
theorem Tryz.slices_Equal_int_empty (a1 a2 : Option Addr) (c m d : Nat) (w : World) (hbig2 : m ≤ 9223372036854775807) :
    Calls Tryz.prog 46 #[.slice a1 0 c, .slice a2 m d] w fun e w' => e = .returned (.bool (decide (m = 0))) ∧ w' = w := Any.slices_Equal_int_empty Tryz.lays111 a1 a2 c m d w hbig2
def Tryz.laysNm215_ren : Go.Shelf.Ren := ⟨fun | 15 => 63 | n => n, fun | 22 => 22 | 3 => 3 | 4 => 4 | n => n, fun | n => n⟩
theorem Tryz.laysNm215 : Go.Proofs.Lays2.n15 Tryz.prog Tryz.laysNm215_ren := {
  mixed := by kernel_rfl
  f15 := Tryz.func63.trans (congrArg some (by kernel_rfl))
  t3 := Tryz.underlying3
  a3 := Tryz.isAgg3
  z3 := Tryz.sizeOf3
  v3 := Tryz.zeroValue3
  t4 := Tryz.underlying4
  a4 := Tryz.isAgg4
  z4 := Tryz.sizeOf4
  v4 := Tryz.zeroValue4
  t22 := Tryz.underlying22
  a22 := Tryz.isAgg22
  z22 := Tryz.sizeOf22
  v22 := Tryz.zeroValue22
  i3 := by kernel_rfl }
open Go.RowKit Go.Lib in
/-- slices.Clone at []int: "Clone returns a copy of the slice. The elements are copied using assignment, so this is a shallow clone. The result may have additional unused capacity. The result preserves the nilness of s.": OF A SLICE THAT IS NOT nil IT RETURNS A SLICE THAT IS NOT nil, OF THE SAME ELEMENTS, IN MEMORY OF THE CALL's OWN: in the how-to's words (6f): 'w'.ownsRow B e 1 v' n cells': v' begins at the head of a row among the blocks from B on (B: the heap's size at the call), not frozen, whose first cells are the elements · 'Below B w w'': below B all is as it was. The capacity is whatever the run-time gives. 'zs': what the cells behind the slice's address hold; 'zs.take n': its elements. (LAID: no walk: one application.) -/
theorem Tryz.slices_Clone_int (b off n c : Nat) (zs : List Int) (w : World) (hz : n ≤ zs.length) (hbig : n * 8 ≤ 140737488355328) (hc : ∀ j, j < zs.length → w.cell? ⟨b, off + j, none⟩ = some (.int .i64 (zs.getD j 0))) :
    Calls Tryz.prog 63 #[.slice (some ⟨b, off, none⟩) n c] w fun e w' => ∃ v', e = .returned v' ∧ w'.ownsRow w.heap.size 3 1 v' n ((zs.take n).map (Value.int .i64)) ∧ v' ≠ .slice none 0 0 ∧ Below w.heap.size w w' := Any.slices_Clone_int Tryz.laysNm215 b off n c zs w hz hbig hc
open Go.RowKit Go.Lib in
/-- The same at nil: nil comes back; the world is as it was. (LAID: no walk: one application.) -/
theorem Tryz.slices_Clone_int_nil (n c : Nat) (w : World) :
    Calls Tryz.prog 63 #[.slice none n c] w fun e w' => e = .returned (.slice none 0 0) ∧ w' = w := Any.slices_Clone_int_nil Tryz.laysNm215 n c w
open Go.RowKit Go.Lib in
/-- The same at a slice of length 0 that is not nil, WHATEVER ITS ADDRESS (no cell is asked for): a slice that is not nil and owns nothing comes back. (LAID: no walk: one application.) -/
theorem Tryz.slices_Clone_int_zero (a : Addr) (c : Nat) (w : World) :
    Calls Tryz.prog 63 #[.slice (some a) 0 c] w fun e w' => ∃ v', e = .returned v' ∧ w'.ownsRow w.heap.size 3 1 v' 0 [] ∧ v' ≠ .slice none 0 0 ∧ Below w.heap.size w w' := Any.slices_Clone_int_zero Tryz.laysNm215 a c w
open Go.RowKit Go.Lib in
theorem Tryz.slices_Equal_int_lens (a1 a2 : Option Addr) (n c m d : Nat) (w : World) (hnm : n ≠ m) :
    Calls Tryz.prog 46 #[.slice a1 n c, .slice a2 m d] w fun e w' => e = .returned (.bool false) ∧ w' = w := Any.slices_Equal_int_lens Tryz.lays111 a1 a2 n c m d w hnm
def Tryz.laysSlN41_f122_ren : Go.Shelf.Ren := ⟨fun | 41 => 122 | n => n, fun | 22 => 95 | 23 => 2 | 4 => 4 | n => n, fun | n => n⟩
theorem Tryz.laysSlN41_f122 : Go.Proofs.SlLaysN.n41 Tryz.prog Tryz.laysSlN41_f122_ren := {
  mixed := by kernel_rfl
  f41 := ⟨Tryz.f122.name, by decide, Tryz.func122.trans (congrArg some (by kernel_rfl))⟩
  t4 := Tryz.underlying4
  a4 := Tryz.isAgg4
  z4 := Tryz.sizeOf4
  v4 := Tryz.zeroValue4
  t22 := Tryz.underlying95
  a22 := Tryz.isAgg95
  z22 := Tryz.sizeOf95
  v22 := Tryz.zeroValue95
  t23 := Tryz.underlying2
  a23 := Tryz.isAgg2
  z23 := Tryz.sizeOf2
  v23 := Tryz.zeroValue2
  i23 := by kernel_rfl }
open Go.RowKit Go.Lib in
/-- slices.Clone at []int: "Clone returns a copy of the slice. The elements are copied using assignment, so this is a shallow clone. The result may have additional unused capacity. The result preserves the nilness of s.": OF A SLICE THAT IS NOT nil IT RETURNS A SLICE THAT IS NOT nil, OF THE SAME ELEMENTS, IN MEMORY OF THE CALL's OWN: in the how-to's words (6f): 'w'.ownsRow B e 1 v' n cells': v' begins at the head of a row among the blocks from B on (B: the heap's size at the call), not frozen, whose first cells are the elements · 'Below B w w'': below B all is as it was. The capacity is whatever the run-time gives. 'zs': what the cells behind the slice's address hold; 'zs.take n': its elements. (LAID AT THE INSTANCE 'slices.Clone[[]int64,int64]': no walk: one application.) -/
theorem Tryz.slices_Clone_int_f122 (b off n c : Nat) (zs : List Int) (w : World) (hz : n ≤ zs.length) (hbig : n * 8 ≤ 140737488355328) (hc : ∀ j, j < zs.length → w.cell? ⟨b, off + j, none⟩ = some (.int .i64 (zs.getD j 0))) :
    Calls Tryz.prog 122 #[.slice (some ⟨b, off, none⟩) n c] w fun e w' => ∃ v', e = .returned v' ∧ w'.ownsRow w.heap.size 2 1 v' n ((zs.take n).map (Value.int .i64)) ∧ v' ≠ .slice none 0 0 ∧ Below w.heap.size w w' := AnyG.slices_Clone_int Tryz.laysSlN41_f122 b off n c zs w hz hbig hc
open Go.RowKit Go.Lib in
/-- The same at nil: nil comes back; the world is as it was. (LAID AT THE INSTANCE 'slices.Clone[[]int64,int64]': no walk: one application.) -/
theorem Tryz.slices_Clone_int_nil_f122 (n c : Nat) (w : World) :
    Calls Tryz.prog 122 #[.slice none n c] w fun e w' => e = .returned (.slice none 0 0) ∧ w' = w := AnyG.slices_Clone_int_nil Tryz.laysSlN41_f122 n c w
open Go.RowKit Go.Lib in
/-- The same at a slice of length 0 that is not nil, WHATEVER ITS ADDRESS (no cell is asked for): a slice that is not nil and owns nothing comes back. (LAID AT THE INSTANCE 'slices.Clone[[]int64,int64]': no walk: one application.) -/
theorem Tryz.slices_Clone_int_zero_f122 (a : Addr) (c : Nat) (w : World) :
    Calls Tryz.prog 122 #[.slice (some a) 0 c] w fun e w' => ∃ v', e = .returned v' ∧ w'.ownsRow w.heap.size 2 1 v' 0 [] ∧ v' ≠ .slice none 0 0 ∧ Below w.heap.size w w' := AnyG.slices_Clone_int_zero Tryz.laysSlN41_f122 a c w
def Tryz.laysSlN43_f99_ren : Go.Shelf.Ren := ⟨fun | 43 => 99 | n => n, fun | 22 => 22 | 23 => 3 | 3 => 3 | 4 => 4 | 0 => 0 | n => n, fun | n => n⟩
theorem Tryz.laysSlN43_f99 : Go.Proofs.SlLaysN.n43 Tryz.prog Tryz.laysSlN43_f99_ren := {
  mixed := by kernel_rfl
  f43 := ⟨Tryz.f99.name, by decide, Tryz.func99.trans (congrArg some (by kernel_rfl))⟩
  t0 := Tryz.underlying0
  a0 := Tryz.isAgg0
  z0 := Tryz.sizeOf0
  v0 := Tryz.zeroValue0
  t3 := Tryz.underlying3
  a3 := Tryz.isAgg3
  z3 := Tryz.sizeOf3
  v3 := Tryz.zeroValue3
  t4 := Tryz.underlying4
  a4 := Tryz.isAgg4
  z4 := Tryz.sizeOf4
  v4 := Tryz.zeroValue4
  t22 := Tryz.underlying22
  a22 := Tryz.isAgg22
  z22 := Tryz.sizeOf22
  v22 := Tryz.zeroValue22
  t23 := Tryz.underlying3
  a23 := Tryz.isAgg3
  z23 := Tryz.sizeOf3
  v23 := Tryz.zeroValue3
  i23 := by kernel_rfl }
open Go.RowKit Go.Lib Go.Sort in
/-- slices.Compact at []int, over an array: the library's two loops are walked. (LAID AT THE INSTANCE 'slices.Compact[[]int,int]': no walk: one application.) -/
theorem Tryz.slices_Compact_int_arr_f99 (blk off cap : Nat) (d : Array Int) (w : World) (hH : Holds encI w blk off d) (hsz : d.size ≤ 9223372036854775807) (hcap : d.size ≤ cap) :
    Calls Tryz.prog 99 #[.slice (some ⟨blk, off, none⟩) d.size cap] w fun e w' => e = .returned (.slice (some ⟨blk, off, none⟩) (compactUpTo d d.size).length cap) ∧ ∃ q, w' = putRow encI (Sort.ahead w q) blk off (compactUpTo d d.size ++ List.replicate (d.size - (compactUpTo d d.size).length) 0).toArray := AnyG.slices_Compact_int_arr Tryz.laysSlN43_f99 blk off cap d w hH hsz hcap
def Tryz.laysSlN43_f121_ren : Go.Shelf.Ren := ⟨fun | 43 => 121 | n => n, fun | 22 => 95 | 23 => 2 | 3 => 3 | 4 => 4 | 0 => 0 | n => n, fun | n => n⟩
theorem Tryz.laysSlN43_f121 : Go.Proofs.SlLaysN.n43 Tryz.prog Tryz.laysSlN43_f121_ren := {
  mixed := by kernel_rfl
  f43 := ⟨Tryz.f121.name, by decide, Tryz.func121.trans (congrArg some (by kernel_rfl))⟩
  t0 := Tryz.underlying0
  a0 := Tryz.isAgg0
  z0 := Tryz.sizeOf0
  v0 := Tryz.zeroValue0
  t3 := Tryz.underlying3
  a3 := Tryz.isAgg3
  z3 := Tryz.sizeOf3
  v3 := Tryz.zeroValue3
  t4 := Tryz.underlying4
  a4 := Tryz.isAgg4
  z4 := Tryz.sizeOf4
  v4 := Tryz.zeroValue4
  t22 := Tryz.underlying95
  a22 := Tryz.isAgg95
  z22 := Tryz.sizeOf95
  v22 := Tryz.zeroValue95
  t23 := Tryz.underlying2
  a23 := Tryz.isAgg2
  z23 := Tryz.sizeOf2
  v23 := Tryz.zeroValue2
  i23 := by kernel_rfl }
open Go.RowKit Go.Lib Go.Sort in
/-- slices.Compact at []int, over an array: the library's two loops are walked. (LAID AT THE INSTANCE 'slices.Compact[[]int64,int64]': no walk: one application.) -/
theorem Tryz.slices_Compact_int_arr_f121 (blk off cap : Nat) (d : Array Int) (w : World) (hH : Holds encI w blk off d) (hsz : d.size ≤ 9223372036854775807) (hcap : d.size ≤ cap) :
    Calls Tryz.prog 121 #[.slice (some ⟨blk, off, none⟩) d.size cap] w fun e w' => e = .returned (.slice (some ⟨blk, off, none⟩) (compactUpTo d d.size).length cap) ∧ ∃ q, w' = putRow encI (Sort.ahead w q) blk off (compactUpTo d d.size ++ List.replicate (d.size - (compactUpTo d d.size).length) 0).toArray := AnyG.slices_Compact_int_arr Tryz.laysSlN43_f121 blk off cap d w hH hsz hcap
open Go.RowKit Go.Lib Go.Sort in
/-- slices.Compact at []int: "Compact replaces consecutive runs of equal elements with a single copy. This is like the uniq command found on Unix. Compact modifies the contents of the slice s and returns the modified slice, which may have a smaller length. Compact zeroes the elements between the new length and the original length. The result preserves the nilness of s.": IT RETURNS THE SLICE CUT TO 'Lib.compact zs'; ITS CELLS HOLD 'Lib.compact zs', THEN ZERO VALUES up to the old length; all else is as it was, but for the count of draws. IN THE WORDS OF slices.Sort's CONTRACT ('Holds', 'putRow'): so the everyday 'slices.Sort(xs); xs = slices.Compact(xs)' goes from the one contract to the other. It asks 'zs.length ≤ cap' (every slice's: the reslicing 's[:k]' looks at it). Length 0, nil: '.._empty'. (LAID AT THE INSTANCE 'slices.Compact[[]int,int]': no walk: one application.) -/
theorem Tryz.slices_Compact_int_f99 (blk off cap : Nat) (zs : List Int) (w : World) (hH : Holds (Value.int .i64) w blk off zs.toArray) (hsz : zs.length ≤ 9223372036854775807) (hcap : zs.length ≤ cap) :
    Calls Tryz.prog 99 #[.slice (some ⟨blk, off, none⟩) zs.length cap] w fun e w' => e = .returned (.slice (some ⟨blk, off, none⟩) (Lib.compact zs).length cap) ∧ ∃ q, w' = putRow (Value.int .i64) (Sort.ahead w q) blk off (Lib.compact zs ++ List.replicate (zs.length - (Lib.compact zs).length) 0).toArray := AnyG.slices_Compact_int Tryz.laysSlN43_f99 blk off cap zs w hH hsz hcap
open Go.RowKit Go.Lib Go.Sort in
/-- slices.Compact at []int: "Compact replaces consecutive runs of equal elements with a single copy. This is like the uniq command found on Unix. Compact modifies the contents of the slice s and returns the modified slice, which may have a smaller length. Compact zeroes the elements between the new length and the original length. The result preserves the nilness of s.": IT RETURNS THE SLICE CUT TO 'Lib.compact zs'; ITS CELLS HOLD 'Lib.compact zs', THEN ZERO VALUES up to the old length; all else is as it was, but for the count of draws. IN THE WORDS OF slices.Sort's CONTRACT ('Holds', 'putRow'): so the everyday 'slices.Sort(xs); xs = slices.Compact(xs)' goes from the one contract to the other. It asks 'zs.length ≤ cap' (every slice's: the reslicing 's[:k]' looks at it). Length 0, nil: '.._empty'. (LAID AT THE INSTANCE 'slices.Compact[[]int64,int64]': no walk: one application.) -/
theorem Tryz.slices_Compact_int_f121 (blk off cap : Nat) (zs : List Int) (w : World) (hH : Holds (Value.int .i64) w blk off zs.toArray) (hsz : zs.length ≤ 9223372036854775807) (hcap : zs.length ≤ cap) :
    Calls Tryz.prog 121 #[.slice (some ⟨blk, off, none⟩) zs.length cap] w fun e w' => e = .returned (.slice (some ⟨blk, off, none⟩) (Lib.compact zs).length cap) ∧ ∃ q, w' = putRow (Value.int .i64) (Sort.ahead w q) blk off (Lib.compact zs ++ List.replicate (zs.length - (Lib.compact zs).length) 0).toArray := AnyG.slices_Compact_int Tryz.laysSlN43_f121 blk off cap zs w hH hsz hcap
open Go.RowKit Go.Lib Go.Sort in
/-- The same at a slice of length 0, a nil one too: it comes back as it is. (LAID AT THE INSTANCE 'slices.Compact[[]int,int]': no walk: one application.) -/
theorem Tryz.slices_Compact_int_empty_f99 (a : Option Addr) (cap : Nat) (w : World) :
    Calls Tryz.prog 99 #[.slice a 0 cap] w fun e w' => e = .returned (.slice a 0 cap) ∧ w' = w := AnyG.slices_Compact_int_empty Tryz.laysSlN43_f99 a cap w
open Go.RowKit Go.Lib Go.Sort in
/-- The same at a slice of length 0, a nil one too: it comes back as it is. (LAID AT THE INSTANCE 'slices.Compact[[]int64,int64]': no walk: one application.) -/
theorem Tryz.slices_Compact_int_empty_f121 (a : Option Addr) (cap : Nat) (w : World) :
    Calls Tryz.prog 121 #[.slice a 0 cap] w fun e w' => e = .returned (.slice a 0 cap) ∧ w' = w := AnyG.slices_Compact_int_empty Tryz.laysSlN43_f121 a cap w
def Tryz.laysSlN68_f168_ren : Go.Shelf.Ren := ⟨fun | 68 => 168 | n => n, fun | 23 => 3 | 4 => 4 | n => n, fun | n => n⟩
theorem Tryz.laysSlN68_f168 : Go.Proofs.SlLaysN.n68 Tryz.prog Tryz.laysSlN68_f168_ren := {
  mixed := by kernel_rfl
  f68 := ⟨Tryz.f168.name, by decide, Tryz.func168.trans (congrArg some (by kernel_rfl))⟩
  t4 := Tryz.underlying4
  a4 := Tryz.isAgg4
  z4 := Tryz.sizeOf4
  v4 := Tryz.zeroValue4
  t23 := Tryz.underlying3
  a23 := Tryz.isAgg3
  z23 := Tryz.sizeOf3
  v23 := Tryz.zeroValue3 }
open Go.RowKit Go.Lib in
/-- cmp.isNaN[int]: 'x != x': false. (LAID AT THE INSTANCE 'cmp.isNaN[int]': no walk: one application.) -/
theorem Tryz.cmp_isNaN_int2_f168 (x : Int) (w : World) :
    Calls Tryz.prog 168 #[.int .i64 x] w fun e w' => e = .returned (.bool false) ∧ w' = w := AnyG.cmp_isNaN_int2 Tryz.laysSlN68_f168 x w
def Tryz.laysSlN68_f171_ren : Go.Shelf.Ren := ⟨fun | 68 => 171 | n => n, fun | 23 => 2 | 4 => 4 | n => n, fun | n => n⟩
theorem Tryz.laysSlN68_f171 : Go.Proofs.SlLaysN.n68 Tryz.prog Tryz.laysSlN68_f171_ren := {
  mixed := by kernel_rfl
  f68 := ⟨Tryz.f171.name, by decide, Tryz.func171.trans (congrArg some (by kernel_rfl))⟩
  t4 := Tryz.underlying4
  a4 := Tryz.isAgg4
  z4 := Tryz.sizeOf4
  v4 := Tryz.zeroValue4
  t23 := Tryz.underlying2
  a23 := Tryz.isAgg2
  z23 := Tryz.sizeOf2
  v23 := Tryz.zeroValue2 }
open Go.RowKit Go.Lib in
/-- cmp.isNaN[int]: 'x != x': false. (LAID AT THE INSTANCE 'cmp.isNaN[int64]': no walk: one application.) -/
theorem Tryz.cmp_isNaN_int2_f171 (x : Int) (w : World) :
    Calls Tryz.prog 171 #[.int .i64 x] w fun e w' => e = .returned (.bool false) ∧ w' = w := AnyG.cmp_isNaN_int2 Tryz.laysSlN68_f171 x w
def Tryz.laysSlN60_f147_ren : Go.Shelf.Ren := ⟨fun | 60 => 147 | n => n, fun | 23 => 2 | 4 => 4 | n => n, fun | n => n⟩
theorem Tryz.laysSlN60_f147 : Go.Proofs.SlLaysN.n60 Tryz.prog Tryz.laysSlN60_f147_ren := {
  mixed := by kernel_rfl
  f60 := ⟨Tryz.f147.name, by decide, Tryz.func147.trans (congrArg some (by kernel_rfl))⟩
  t4 := Tryz.underlying4
  a4 := Tryz.isAgg4
  z4 := Tryz.sizeOf4
  v4 := Tryz.zeroValue4
  t23 := Tryz.underlying2
  a23 := Tryz.isAgg2
  z23 := Tryz.sizeOf2
  v23 := Tryz.zeroValue2 }
open Go.RowKit Go.Lib in
/-- slices.isNaN[int]: 'x != x': false. (LAID AT THE INSTANCE 'slices.isNaN[int64]': no walk: one application.) -/
theorem Tryz.slices_isNaN_int2 (x : Int) (w : World) :
    Calls Tryz.prog 147 #[.int .i64 x] w fun e w' => e = .returned (.bool false) ∧ w' = w := AnyG.slices_isNaN_int2 Tryz.laysSlN60_f147 x w
def Tryz.laysSlN59_f135_ren : Go.Shelf.Ren := ⟨fun | 59 => 135 | 68 => 168 | n => n, fun | 23 => 3 | 4 => 4 | n => n, fun | n => n⟩
theorem Tryz.laysSlN59_f135 : Go.Proofs.SlLaysN.n59 Tryz.prog Tryz.laysSlN59_f135_ren := {
  mixed := by kernel_rfl
  f59 := ⟨Tryz.f135.name, by decide, Tryz.func135.trans (congrArg some (by kernel_rfl))⟩
  f68 := ⟨Tryz.f168.name, by decide, Tryz.func168.trans (congrArg some (by kernel_rfl))⟩
  t4 := Tryz.underlying4
  a4 := Tryz.isAgg4
  z4 := Tryz.sizeOf4
  v4 := Tryz.zeroValue4
  t23 := Tryz.underlying3
  a23 := Tryz.isAgg3
  z23 := Tryz.sizeOf3
  v23 := Tryz.zeroValue3 }
open Go.RowKit Go.Lib in
/-- cmp.Less[int]: "Less reports whether x is less than y.": 'x < y'; the world is as it was. (LAID AT THE INSTANCE 'cmp.Less[int]': no walk: one application.) -/
theorem Tryz.cmp_Less_int2_f135 (x y : Int) (w : World) :
    Calls Tryz.prog 135 #[.int .i64 x, .int .i64 y] w fun e w' => e = .returned (.bool (decide (x < y))) ∧ w' = w := AnyG.cmp_Less_int2 Tryz.laysSlN59_f135 x y w
def Tryz.laysSlN59_f146_ren : Go.Shelf.Ren := ⟨fun | 59 => 146 | 68 => 171 | n => n, fun | 23 => 2 | 4 => 4 | n => n, fun | n => n⟩
theorem Tryz.laysSlN59_f146 : Go.Proofs.SlLaysN.n59 Tryz.prog Tryz.laysSlN59_f146_ren := {
  mixed := by kernel_rfl
  f59 := ⟨Tryz.f146.name, by decide, Tryz.func146.trans (congrArg some (by kernel_rfl))⟩
  f68 := ⟨Tryz.f171.name, by decide, Tryz.func171.trans (congrArg some (by kernel_rfl))⟩
  t4 := Tryz.underlying4
  a4 := Tryz.isAgg4
  z4 := Tryz.sizeOf4
  v4 := Tryz.zeroValue4
  t23 := Tryz.underlying2
  a23 := Tryz.isAgg2
  z23 := Tryz.sizeOf2
  v23 := Tryz.zeroValue2 }
open Go.RowKit Go.Lib in
/-- cmp.Less[int]: "Less reports whether x is less than y.": 'x < y'; the world is as it was. (LAID AT THE INSTANCE 'cmp.Less[int64]': no walk: one application.) -/
theorem Tryz.cmp_Less_int2_f146 (x y : Int) (w : World) :
    Calls Tryz.prog 146 #[.int .i64 x, .int .i64 y] w fun e w' => e = .returned (.bool (decide (x < y))) ∧ w' = w := AnyG.cmp_Less_int2 Tryz.laysSlN59_f146 x y w
def Tryz.laysSlN49_f100_ren : Go.Shelf.Ren := ⟨fun | 49 => 100 | 59 => 146 | 60 => 147 | 68 => 171 | n => n, fun | 22 => 95 | 23 => 2 | 3 => 3 | 4 => 4 | 51 => 143 | 0 => 0 | n => n, fun | n => n⟩
theorem Tryz.laysSlN49_f100 : Go.Proofs.SlLaysN.n49 Tryz.prog Tryz.laysSlN49_f100_ren := {
  mixed := by kernel_rfl
  f49 := ⟨Tryz.f100.name, by decide, Tryz.func100.trans (congrArg some (by kernel_rfl))⟩
  f59 := ⟨Tryz.f146.name, by decide, Tryz.func146.trans (congrArg some (by kernel_rfl))⟩
  f60 := ⟨Tryz.f147.name, by decide, Tryz.func147.trans (congrArg some (by kernel_rfl))⟩
  f68 := ⟨Tryz.f171.name, by decide, Tryz.func171.trans (congrArg some (by kernel_rfl))⟩
  t0 := Tryz.underlying0
  a0 := Tryz.isAgg0
  z0 := Tryz.sizeOf0
  v0 := Tryz.zeroValue0
  t3 := Tryz.underlying3
  a3 := Tryz.isAgg3
  z3 := Tryz.sizeOf3
  v3 := Tryz.zeroValue3
  t4 := Tryz.underlying4
  a4 := Tryz.isAgg4
  z4 := Tryz.sizeOf4
  v4 := Tryz.zeroValue4
  t22 := Tryz.underlying95
  a22 := Tryz.isAgg95
  z22 := Tryz.sizeOf95
  v22 := Tryz.zeroValue95
  t23 := Tryz.underlying2
  a23 := Tryz.isAgg2
  z23 := Tryz.sizeOf2
  v23 := Tryz.zeroValue2
  t51 := Tryz.underlying143
  a51 := Tryz.isAgg143
  z51 := Tryz.sizeOf143
  v51 := Tryz.zeroValue143 }
open Go.RowKit Go.Lib in
/-- slices.BinarySearch at []int: "BinarySearch searches for target in a sorted slice and returns the earliest position where target is found, or the position where target would appear in the sort order; it also returns a bool saying whether the target is really found in the slice. The slice must be sorted in increasing order.": OF A SORTED SLICE IT RETURNS how many elements are less than the target, and whether the target is among the elements; the world is as it was but for the count of draws. 'zs': what the cells behind the slice's address hold; 'zs.take n': its elements. (Of a slice that is not sorted: no contract here.) (LAID AT THE INSTANCE 'slices.BinarySearch[[]int64,int64]': no walk: one application.) -/
theorem Tryz.slices_BinarySearch_int (b off n c : Nat) (zs : List Int) (x : Int) (w : World) (hz : n ≤ zs.length) (hbig : n < 4611686018427387904) (hc : ∀ j, j < zs.length → w.cell? ⟨b, off + j, none⟩ = some (.int .i64 (zs.getD j 0))) (hs : (zs.take n).Pairwise (· ≤ ·)) :
    Calls Tryz.prog 100 #[.slice (some ⟨b, off, none⟩) n c, .int .i64 x] w fun e w' => e = .returned (.tuple #[.int .i64 ((zs.take n).countP (· < x) : Nat), .bool ((zs.take n).contains x)]) ∧ ∃ q, w' = w.drewN q := AnyG.slices_BinarySearch_int Tryz.laysSlN49_f100 b off n c zs x w hz hbig hc hs
def Tryz.laysSlE35_f59_ren : Go.Shelf.Ren := ⟨fun | 35 => 59 | n => n, fun | 22 => 22 | 23 => 3 | 3 => 3 | 4 => 4 | 0 => 0 | n => n, fun | n => n⟩
theorem Tryz.laysSlE35_f59 : Go.Proofs.SlLaysE.n35 Tryz.prog Tryz.laysSlE35_f59_ren := {
  mixed := by kernel_rfl
  f35 := ⟨Tryz.f59.name, by decide, Tryz.func59.trans (congrArg some (by kernel_rfl))⟩
  t0 := Tryz.underlying0
  a0 := Tryz.isAgg0
  z0 := Tryz.sizeOf0
  v0 := Tryz.zeroValue0
  t3 := Tryz.underlying3
  a3 := Tryz.isAgg3
  z3 := Tryz.sizeOf3
  v3 := Tryz.zeroValue3
  t4 := Tryz.underlying4
  a4 := Tryz.isAgg4
  z4 := Tryz.sizeOf4
  v4 := Tryz.zeroValue4
  t22 := Tryz.underlying22
  a22 := Tryz.isAgg22
  z22 := Tryz.sizeOf22
  v22 := Tryz.zeroValue22
  a23 := Tryz.isAgg3
  z23 := Tryz.sizeOf3 }
open Go.RowKit Go.Lib Go.Sort in
/-- slices.Reverse, over an array: Go's loop from the two ends inward is walked; it makes 'Sort.reverseLoop 0 (len - 1)', which is 'Array.reverse' (Derived/Lib/SlicesMore.lean). (LAID AT THE INSTANCE 'slices.Reverse[[]int,int]': no walk: one application.) -/
theorem Tryz.slices_Reverse_arr_f59 {α : Type} [Inhabited α] (enc : α → Value) (h1 : OneCell enc) (blk off cap : Nat) (d : Array α) (w : World) (hH : Holds enc w blk off d) (hsz : d.size ≤ 9223372036854775807) :
    Calls Tryz.prog 59 #[.slice (some ⟨blk, off, none⟩) d.size cap] w fun e w' => e = .returned (.tuple #[]) ∧ ∃ n, w' = putRow enc (Sort.ahead w n) blk off d.reverse := AnyE.slices_Reverse_arr Tryz.laysSlE35_f59 enc h1 blk off cap d w hH hsz
def Tryz.laysSlE35_f126_ren : Go.Shelf.Ren := ⟨fun | 35 => 126 | n => n, fun | 22 => 77 | 23 => 103 | 3 => 3 | 4 => 4 | 0 => 0 | n => n, fun | n => n⟩
theorem Tryz.laysSlE35_f126 : Go.Proofs.SlLaysE.n35 Tryz.prog Tryz.laysSlE35_f126_ren := {
  mixed := by kernel_rfl
  f35 := ⟨Tryz.f126.name, by decide, Tryz.func126.trans (congrArg some (by kernel_rfl))⟩
  t0 := Tryz.underlying0
  a0 := Tryz.isAgg0
  z0 := Tryz.sizeOf0
  v0 := Tryz.zeroValue0
  t3 := Tryz.underlying3
  a3 := Tryz.isAgg3
  z3 := Tryz.sizeOf3
  v3 := Tryz.zeroValue3
  t4 := Tryz.underlying4
  a4 := Tryz.isAgg4
  z4 := Tryz.sizeOf4
  v4 := Tryz.zeroValue4
  t22 := Tryz.underlying77
  a22 := Tryz.isAgg77
  z22 := Tryz.sizeOf77
  v22 := Tryz.zeroValue77
  a23 := Tryz.isAgg103
  z23 := Tryz.sizeOf103 }
open Go.RowKit Go.Lib Go.Sort in
/-- slices.Reverse, over an array: Go's loop from the two ends inward is walked; it makes 'Sort.reverseLoop 0 (len - 1)', which is 'Array.reverse' (Derived/Lib/SlicesMore.lean). (LAID AT THE INSTANCE 'slices.Reverse[[]pub-labyrinth/pub/gonum/graph.Node,pub-labyrinth/pub/gonum/graph.Node]': no walk: one application.) -/
theorem Tryz.slices_Reverse_arr_f126 {α : Type} [Inhabited α] (enc : α → Value) (h1 : OneCell enc) (blk off cap : Nat) (d : Array α) (w : World) (hH : Holds enc w blk off d) (hsz : d.size ≤ 9223372036854775807) :
    Calls Tryz.prog 126 #[.slice (some ⟨blk, off, none⟩) d.size cap] w fun e w' => e = .returned (.tuple #[]) ∧ ∃ n, w' = putRow enc (Sort.ahead w n) blk off d.reverse := AnyE.slices_Reverse_arr Tryz.laysSlE35_f126 enc h1 blk off cap d w hH hsz
open Go.RowKit Go.Lib Go.Sort in
/-- slices.Reverse: "Reverse reverses the elements of the slice in place.": THE SLICE's CELLS HOLD 'zs.reverse' BEHIND THE CALL; all else is as it was, but for the count of draws (the exchange 's[i], s[j] = s[j], s[i]' draws its order, once a round). IN THE WORDS OF slices.Sort's CONTRACT: 'Holds': the cells hold zs and none is frozen; 'putRow': the world with those cells holding another array. A slice of length 0 that is not nil is among them ('zs = []'); nil: '.._nil'. (LAID AT THE INSTANCE 'slices.Reverse[[]int,int]': no walk: one application.) -/
theorem Tryz.slices_Reverse_f59 {α : Type} [Inhabited α] (enc : α → Value) (h1 : OneCell enc) (blk off cap : Nat) (zs : List α) (w : World) (hH : Holds enc w blk off zs.toArray) (hsz : zs.length ≤ 9223372036854775807) :
    Calls Tryz.prog 59 #[.slice (some ⟨blk, off, none⟩) zs.length cap] w fun e w' => e = .returned (.tuple #[]) ∧ ∃ n, w' = putRow enc (Sort.ahead w n) blk off zs.reverse.toArray := AnyE.slices_Reverse Tryz.laysSlE35_f59 enc h1 blk off cap zs w hH hsz
open Go.RowKit Go.Lib Go.Sort in
/-- slices.Reverse: "Reverse reverses the elements of the slice in place.": THE SLICE's CELLS HOLD 'zs.reverse' BEHIND THE CALL; all else is as it was, but for the count of draws (the exchange 's[i], s[j] = s[j], s[i]' draws its order, once a round). IN THE WORDS OF slices.Sort's CONTRACT: 'Holds': the cells hold zs and none is frozen; 'putRow': the world with those cells holding another array. A slice of length 0 that is not nil is among them ('zs = []'); nil: '.._nil'. (LAID AT THE INSTANCE 'slices.Reverse[[]pub-labyrinth/pub/gonum/graph.Node,pub-labyrinth/pub/gonum/graph.Node]': no walk: one application.) -/
theorem Tryz.slices_Reverse_f126 {α : Type} [Inhabited α] (enc : α → Value) (h1 : OneCell enc) (blk off cap : Nat) (zs : List α) (w : World) (hH : Holds enc w blk off zs.toArray) (hsz : zs.length ≤ 9223372036854775807) :
    Calls Tryz.prog 126 #[.slice (some ⟨blk, off, none⟩) zs.length cap] w fun e w' => e = .returned (.tuple #[]) ∧ ∃ n, w' = putRow enc (Sort.ahead w n) blk off zs.reverse.toArray := AnyE.slices_Reverse Tryz.laysSlE35_f126 enc h1 blk off cap zs w hH hsz
open Go.RowKit Go.Lib Go.Sort in
/-- The same at a slice of length 0, a nil one too: nothing is read, nothing written, nothing drawn. (LAID AT THE INSTANCE 'slices.Reverse[[]int,int]': no walk: one application.) -/
theorem Tryz.slices_Reverse_empty_f59 {α : Type} [Inhabited α] (a : Option Addr) (cap : Nat) (w : World) :
    Calls Tryz.prog 59 #[.slice a 0 cap] w fun e w' => e = .returned (.tuple #[]) ∧ w' = w := AnyE.slices_Reverse_empty Tryz.laysSlE35_f59 a cap w
open Go.RowKit Go.Lib Go.Sort in
/-- The same at a slice of length 0, a nil one too: nothing is read, nothing written, nothing drawn. (LAID AT THE INSTANCE 'slices.Reverse[[]pub-labyrinth/pub/gonum/graph.Node,pub-labyrinth/pub/gonum/graph.Node]': no walk: one application.) -/
theorem Tryz.slices_Reverse_empty_f126 {α : Type} [Inhabited α] (a : Option Addr) (cap : Nat) (w : World) :
    Calls Tryz.prog 126 #[.slice a 0 cap] w fun e w' => e = .returned (.tuple #[]) ∧ w' = w := AnyE.slices_Reverse_empty Tryz.laysSlE35_f126 a cap w
def Tryz.laysSlF20_f148_ren : Go.Shelf.Ren := ⟨fun | 20 => 148 | n => n, fun | 24 => 103 | 22 => 77 | 3 => 3 | 25 => 105 | 4 => 4 | 0 => 0 | n => n, fun | n => n⟩
theorem Tryz.laysSlF20_f148 : Go.Proofs.SlLaysF.n20 Tryz.prog Tryz.laysSlF20_f148_ren := {
  mixed := by kernel_rfl
  f20 := ⟨Tryz.f148.name, by decide, Tryz.func148.trans (congrArg some (by kernel_rfl))⟩
  t0 := Tryz.underlying0
  a0 := Tryz.isAgg0
  z0 := Tryz.sizeOf0
  v0 := Tryz.zeroValue0
  t3 := Tryz.underlying3
  a3 := Tryz.isAgg3
  z3 := Tryz.sizeOf3
  v3 := Tryz.zeroValue3
  t4 := Tryz.underlying4
  a4 := Tryz.isAgg4
  z4 := Tryz.sizeOf4
  v4 := Tryz.zeroValue4
  t22 := Tryz.underlying77
  a22 := Tryz.isAgg77
  z22 := Tryz.sizeOf77
  v22 := Tryz.zeroValue77
  a24 := Tryz.isAgg103
  z24 := Tryz.sizeOf103
  t25 := Tryz.underlying105
  a25 := Tryz.isAgg105
  z25 := Tryz.sizeOf105
  v25 := Tryz.zeroValue105 }
open Go.RowKit Go.Lib Go.Sort in
theorem Tryz.insertionSortCmpFunc_one {α : Type} [Inhabited α] (enc : α → Value) (hO : OneCell enc) (cf : α → α → Int) (g : Nat) (cb : Array Value) (blk off cap a b : Nat) (d : Array α) (w : World) (eg : ∀ args w, (callFunc g args).run Tryz.prog w = .ok (.enter g args) w) (hcmp : CmpReads Tryz.prog g cb enc cf blk off d.size w) (hH : Holds enc w blk off d) (hab : a ≤ b) (hb : b ≤ d.size) (hsz : d.size < 4611686018427387904) :
    Calls Tryz.prog 148 #[.slice (some ⟨blk, off, none⟩) d.size cap, .int .i64 a, .int .i64 b, .func (.func g) #[] cb] w fun e w' =>
      e = .returned (.tuple #[]) ∧ ∃ n, w' = (putRow enc w blk off (Sort.insertionSort (ltOf cf) d a b)).drewN n := Any.insertionSortCmpFunc_one Tryz.laysSlF20_f148 enc hO cf g cb blk off cap a b d w eg hcmp hH hab hb hsz
def Tryz.laysSlM5_f44_ren : Go.Shelf.Ren := ⟨fun | 5 => 44 | 8 => 90 | 7 => 89 | 19 => 138 | 20 => 139 | 10 => 129 | 11 => 130 | 12 => 131 | 13 => 132 | 14 => 133 | 15 => 134 | 16 => 135 | 17 => 136 | 18 => 137 | 30 => 163 | 31 => 164 | 32 => 165 | 33 => 166 | 34 => 167 | 35 => 168 | 40 => 187 | n => n, fun | 23 => 22 | 25 => 3 | 3 => 3 | 32 => 143 | 22 => 22 | 0 => 0 | 44 => 205 | 46 => 207 | 4 => 4 | 36 => 198 | 35 => 197 | 41 => 99 | 5 => 5 | 9 => 9 | 53 => 230 | 57 => 234 | 63 => 251 | 64 => 252 | n => n, fun | n => n⟩
theorem Tryz.laysSlM5_f44 : Go.Proofs.SlLaysM.n5 Tryz.prog Tryz.laysSlM5_f44_ren := {
  mixed := by kernel_rfl
  f5 := ⟨Tryz.f44.name, by decide, Tryz.func44.trans (congrArg some (by kernel_rfl))⟩
  f7 := ⟨Tryz.f89.name, by decide, Tryz.func89.trans (congrArg some (by kernel_rfl))⟩
  f8 := Tryz.func90.trans (congrArg some (by kernel_rfl))
  f10 := ⟨Tryz.f129.name, by decide, Tryz.func129.trans (congrArg some (by kernel_rfl))⟩
  f11 := ⟨Tryz.f130.name, by decide, Tryz.func130.trans (congrArg some (by kernel_rfl))⟩
  f12 := ⟨Tryz.f131.name, by decide, Tryz.func131.trans (congrArg some (by kernel_rfl))⟩
  f13 := ⟨Tryz.f132.name, by decide, Tryz.func132.trans (congrArg some (by kernel_rfl))⟩
  f14 := ⟨Tryz.f133.name, by decide, Tryz.func133.trans (congrArg some (by kernel_rfl))⟩
  f15 := ⟨Tryz.f134.name, by decide, Tryz.func134.trans (congrArg some (by kernel_rfl))⟩
  f16 := ⟨Tryz.f135.name, by decide, Tryz.func135.trans (congrArg some (by kernel_rfl))⟩
  f17 := ⟨Tryz.f136.name, by decide, Tryz.func136.trans (congrArg some (by kernel_rfl))⟩
  f18 := ⟨Tryz.f137.name, by decide, Tryz.func137.trans (congrArg some (by kernel_rfl))⟩
  f19 := Tryz.func138.trans (congrArg some (by kernel_rfl))
  f20 := Tryz.func139.trans (congrArg some (by kernel_rfl))
  f30 := ⟨Tryz.f163.name, by decide, Tryz.func163.trans (congrArg some (by kernel_rfl))⟩
  f31 := Tryz.func164.trans (congrArg some (by kernel_rfl))
  f32 := Tryz.func165.trans (congrArg some (by kernel_rfl))
  f33 := ⟨Tryz.f166.name, by decide, Tryz.func166.trans (congrArg some (by kernel_rfl))⟩
  f34 := ⟨Tryz.f167.name, by decide, Tryz.func167.trans (congrArg some (by kernel_rfl))⟩
  f35 := ⟨Tryz.f168.name, by decide, Tryz.func168.trans (congrArg some (by kernel_rfl))⟩
  f40 := ⟨Tryz.f187.name, by decide, Tryz.func187.trans (congrArg some (by kernel_rfl))⟩
  t0 := Tryz.underlying0
  a0 := Tryz.isAgg0
  z0 := Tryz.sizeOf0
  v0 := Tryz.zeroValue0
  t3 := Tryz.underlying3
  a3 := Tryz.isAgg3
  z3 := Tryz.sizeOf3
  v3 := Tryz.zeroValue3
  t4 := Tryz.underlying4
  a4 := Tryz.isAgg4
  z4 := Tryz.sizeOf4
  v4 := Tryz.zeroValue4
  t5 := Tryz.underlying5
  a5 := Tryz.isAgg5
  z5 := Tryz.sizeOf5
  v5 := Tryz.zeroValue5
  t9 := Tryz.underlying9
  a9 := Tryz.isAgg9
  z9 := Tryz.sizeOf9
  v9 := Tryz.zeroValue9
  t22 := Tryz.underlying22
  a22 := Tryz.isAgg22
  z22 := Tryz.sizeOf22
  v22 := Tryz.zeroValue22
  t23 := Tryz.underlying22
  a23 := Tryz.isAgg22
  z23 := Tryz.sizeOf22
  v23 := Tryz.zeroValue22
  t25 := Tryz.underlying3
  a25 := Tryz.isAgg3
  z25 := Tryz.sizeOf3
  v25 := Tryz.zeroValue3
  t32 := Tryz.underlying143
  a32 := Tryz.isAgg143
  z32 := Tryz.sizeOf143
  v32 := Tryz.zeroValue143
  t35 := Tryz.underlying197
  a35 := Tryz.isAgg197
  z35 := Tryz.sizeOf197
  v35 := Tryz.zeroValue197
  t36 := Tryz.underlying198
  a36 := Tryz.isAgg198
  z36 := Tryz.sizeOf198
  v36 := Tryz.zeroValue198
  t41 := Tryz.underlying99
  a41 := Tryz.isAgg99
  z41 := Tryz.sizeOf99
  v41 := Tryz.zeroValue99
  t44 := Tryz.underlying205
  a44 := Tryz.isAgg205
  z44 := Tryz.sizeOf205
  v44 := Tryz.zeroValue205
  t46 := Tryz.underlying207
  a46 := Tryz.isAgg207
  z46 := Tryz.sizeOf207
  v46 := Tryz.zeroValue207
  t53 := Tryz.underlying230
  a53 := Tryz.isAgg230
  z53 := Tryz.sizeOf230
  v53 := Tryz.zeroValue230
  t57 := Tryz.underlying234
  a57 := Tryz.isAgg234
  z57 := Tryz.sizeOf234
  v57 := Tryz.zeroValue234
  t63 := Tryz.underlying251
  a63 := Tryz.isAgg251
  z63 := Tryz.sizeOf251
  v63 := Tryz.zeroValue251
  t64 := Tryz.underlying252
  a64 := Tryz.isAgg252
  z64 := Tryz.sizeOf252
  v64 := Tryz.zeroValue252 }
open Go.Sort Go.RowKit in
theorem Tryz.slices_Sort_int_f44 (blk off cap : Nat) (zs : List Int) (w : World) (hH : Holds (Value.int .i64) w blk off zs.toArray) (hblk : blk < w.heap.size) (hsz : zs.length < 4611686018427387904) :
    Calls Tryz.prog 44 #[.slice (some ⟨blk, off, none⟩) zs.length cap] w fun e w' =>
      e = .returned (.tuple #[]) ∧ ∃ n os, w' = grow (putRow (Value.int .i64) (Sort.ahead w n) blk off (zs.mergeSort fun x y => decide (x ≤ y)).toArray) os := AnyM.slices_Sort_int Tryz.laysSlM5_f44 blk off cap zs w hH hblk hsz
def Tryz.laysSlM5_f120_ren : Go.Shelf.Ren := ⟨fun | 5 => 120 | 8 => 90 | 7 => 160 | 19 => 138 | 20 => 139 | 10 => 176 | 11 => 177 | 12 => 178 | 13 => 179 | 14 => 180 | 15 => 181 | 16 => 146 | 17 => 182 | 18 => 183 | 30 => 189 | 31 => 164 | 32 => 165 | 33 => 190 | 34 => 191 | 35 => 171 | 40 => 194 | n => n, fun | 23 => 95 | 25 => 2 | 3 => 3 | 32 => 143 | 22 => 95 | 0 => 0 | 44 => 205 | 46 => 207 | 4 => 4 | 36 => 198 | 35 => 197 | 41 => 99 | 5 => 5 | 9 => 9 | 53 => 230 | 57 => 234 | 63 => 251 | 64 => 252 | n => n, fun | n => n⟩
theorem Tryz.laysSlM5_f120 : Go.Proofs.SlLaysM.n5 Tryz.prog Tryz.laysSlM5_f120_ren := {
  mixed := by kernel_rfl
  f5 := ⟨Tryz.f120.name, by decide, Tryz.func120.trans (congrArg some (by kernel_rfl))⟩
  f7 := ⟨Tryz.f160.name, by decide, Tryz.func160.trans (congrArg some (by kernel_rfl))⟩
  f8 := Tryz.func90.trans (congrArg some (by kernel_rfl))
  f10 := ⟨Tryz.f176.name, by decide, Tryz.func176.trans (congrArg some (by kernel_rfl))⟩
  f11 := ⟨Tryz.f177.name, by decide, Tryz.func177.trans (congrArg some (by kernel_rfl))⟩
  f12 := ⟨Tryz.f178.name, by decide, Tryz.func178.trans (congrArg some (by kernel_rfl))⟩
  f13 := ⟨Tryz.f179.name, by decide, Tryz.func179.trans (congrArg some (by kernel_rfl))⟩
  f14 := ⟨Tryz.f180.name, by decide, Tryz.func180.trans (congrArg some (by kernel_rfl))⟩
  f15 := ⟨Tryz.f181.name, by decide, Tryz.func181.trans (congrArg some (by kernel_rfl))⟩
  f16 := ⟨Tryz.f146.name, by decide, Tryz.func146.trans (congrArg some (by kernel_rfl))⟩
  f17 := ⟨Tryz.f182.name, by decide, Tryz.func182.trans (congrArg some (by kernel_rfl))⟩
  f18 := ⟨Tryz.f183.name, by decide, Tryz.func183.trans (congrArg some (by kernel_rfl))⟩
  f19 := Tryz.func138.trans (congrArg some (by kernel_rfl))
  f20 := Tryz.func139.trans (congrArg some (by kernel_rfl))
  f30 := ⟨Tryz.f189.name, by decide, Tryz.func189.trans (congrArg some (by kernel_rfl))⟩
  f31 := Tryz.func164.trans (congrArg some (by kernel_rfl))
  f32 := Tryz.func165.trans (congrArg some (by kernel_rfl))
  f33 := ⟨Tryz.f190.name, by decide, Tryz.func190.trans (congrArg some (by kernel_rfl))⟩
  f34 := ⟨Tryz.f191.name, by decide, Tryz.func191.trans (congrArg some (by kernel_rfl))⟩
  f35 := ⟨Tryz.f171.name, by decide, Tryz.func171.trans (congrArg some (by kernel_rfl))⟩
  f40 := ⟨Tryz.f194.name, by decide, Tryz.func194.trans (congrArg some (by kernel_rfl))⟩
  t0 := Tryz.underlying0
  a0 := Tryz.isAgg0
  z0 := Tryz.sizeOf0
  v0 := Tryz.zeroValue0
  t3 := Tryz.underlying3
  a3 := Tryz.isAgg3
  z3 := Tryz.sizeOf3
  v3 := Tryz.zeroValue3
  t4 := Tryz.underlying4
  a4 := Tryz.isAgg4
  z4 := Tryz.sizeOf4
  v4 := Tryz.zeroValue4
  t5 := Tryz.underlying5
  a5 := Tryz.isAgg5
  z5 := Tryz.sizeOf5
  v5 := Tryz.zeroValue5
  t9 := Tryz.underlying9
  a9 := Tryz.isAgg9
  z9 := Tryz.sizeOf9
  v9 := Tryz.zeroValue9
  t22 := Tryz.underlying95
  a22 := Tryz.isAgg95
  z22 := Tryz.sizeOf95
  v22 := Tryz.zeroValue95
  t23 := Tryz.underlying95
  a23 := Tryz.isAgg95
  z23 := Tryz.sizeOf95
  v23 := Tryz.zeroValue95
  t25 := Tryz.underlying2
  a25 := Tryz.isAgg2
  z25 := Tryz.sizeOf2
  v25 := Tryz.zeroValue2
  t32 := Tryz.underlying143
  a32 := Tryz.isAgg143
  z32 := Tryz.sizeOf143
  v32 := Tryz.zeroValue143
  t35 := Tryz.underlying197
  a35 := Tryz.isAgg197
  z35 := Tryz.sizeOf197
  v35 := Tryz.zeroValue197
  t36 := Tryz.underlying198
  a36 := Tryz.isAgg198
  z36 := Tryz.sizeOf198
  v36 := Tryz.zeroValue198
  t41 := Tryz.underlying99
  a41 := Tryz.isAgg99
  z41 := Tryz.sizeOf99
  v41 := Tryz.zeroValue99
  t44 := Tryz.underlying205
  a44 := Tryz.isAgg205
  z44 := Tryz.sizeOf205
  v44 := Tryz.zeroValue205
  t46 := Tryz.underlying207
  a46 := Tryz.isAgg207
  z46 := Tryz.sizeOf207
  v46 := Tryz.zeroValue207
  t53 := Tryz.underlying230
  a53 := Tryz.isAgg230
  z53 := Tryz.sizeOf230
  v53 := Tryz.zeroValue230
  t57 := Tryz.underlying234
  a57 := Tryz.isAgg234
  z57 := Tryz.sizeOf234
  v57 := Tryz.zeroValue234
  t63 := Tryz.underlying251
  a63 := Tryz.isAgg251
  z63 := Tryz.sizeOf251
  v63 := Tryz.zeroValue251
  t64 := Tryz.underlying252
  a64 := Tryz.isAgg252
  z64 := Tryz.sizeOf252
  v64 := Tryz.zeroValue252 }
open Go.Sort Go.RowKit in
theorem Tryz.slices_Sort_int_f120 (blk off cap : Nat) (zs : List Int) (w : World) (hH : Holds (Value.int .i64) w blk off zs.toArray) (hblk : blk < w.heap.size) (hsz : zs.length < 4611686018427387904) :
    Calls Tryz.prog 120 #[.slice (some ⟨blk, off, none⟩) zs.length cap] w fun e w' =>
      e = .returned (.tuple #[]) ∧ ∃ n os, w' = grow (putRow (Value.int .i64) (Sort.ahead w n) blk off (zs.mergeSort fun x y => decide (x ≤ y)).toArray) os := AnyM.slices_Sort_int Tryz.laysSlM5_f120 blk off cap zs w hH hblk hsz
open Go.RowKit Go.Sort in
/-- .. and plain. (LAID AT THE INSTANCE 'slices.Sort[[]int,int]': no walk: one application.) -/
theorem Tryz.slices_Sort_int_none_f44 (p : Option Addr) (cap : Nat) (w : World) :
    Calls Tryz.prog 44 #[.slice p 0 cap] w fun e w' => e = .returned (.tuple #[]) ∧ w' = w := AnyM.slices_Sort_int_none Tryz.laysSlM5_f44 p cap w
open Go.RowKit Go.Sort in
/-- .. and plain. (LAID AT THE INSTANCE 'slices.Sort[[]int64,int64]': no walk: one application.) -/
theorem Tryz.slices_Sort_int_none_f120 (p : Option Addr) (cap : Nat) (w : World) :
    Calls Tryz.prog 120 #[.slice p 0 cap] w fun e w' => e = .returned (.tuple #[]) ∧ w' = w := AnyM.slices_Sort_int_none Tryz.laysSlM5_f120 p cap w
def Tryz.laysSlF46_f172_ren : Go.Shelf.Ren := ⟨fun | 46 => 172 | n => n, fun | 24 => 103 | 22 => 77 | 3 => 3 | 25 => 105 | 4 => 4 | 0 => 0 | n => n, fun | n => n⟩
theorem Tryz.laysSlF46_f172 : Go.Proofs.SlLaysF.n46 Tryz.prog Tryz.laysSlF46_f172_ren := {
  mixed := by kernel_rfl
  f46 := ⟨Tryz.f172.name, by decide, Tryz.func172.trans (congrArg some (by kernel_rfl))⟩
  t0 := Tryz.underlying0
  a0 := Tryz.isAgg0
  z0 := Tryz.sizeOf0
  v0 := Tryz.zeroValue0
  t3 := Tryz.underlying3
  a3 := Tryz.isAgg3
  z3 := Tryz.sizeOf3
  v3 := Tryz.zeroValue3
  t4 := Tryz.underlying4
  a4 := Tryz.isAgg4
  z4 := Tryz.sizeOf4
  v4 := Tryz.zeroValue4
  t22 := Tryz.underlying77
  a22 := Tryz.isAgg77
  z22 := Tryz.sizeOf77
  v22 := Tryz.zeroValue77
  a24 := Tryz.isAgg103
  z24 := Tryz.sizeOf103
  t25 := Tryz.underlying105
  a25 := Tryz.isAgg105
  z25 := Tryz.sizeOf105
  v25 := Tryz.zeroValue105 }
open Go.RowKit Go.Lib Go.Sort in
/-- slices.siftDownCmpFunc at elements of one cell: from a world of the sort's to a world of the sort's. (LAID AT THE INSTANCE 'slices.siftDownCmpFunc[pub-labyrinth/pub/gonum/graph.Node]': no walk: one application.) -/
theorem Tryz.siftDownCmpFunc {α : Type} [Inhabited α] (enc : α → Value) (cf : α → α → Int) (g : Nat) (cb : Array Value) (blk off cap lo hi first : Nat) (d0 d : Array α) (w0 w : World) (eg : ∀ args w, (callFunc g args).run Tryz.prog w = .ok (.enter g args) w) (hcmp : CmpLays1 Tryz.prog g cb enc cf blk off d0.size w0) (R : Row1 enc w0 blk off d0) (hs : d0.size = d.size) (S : SW enc w0 blk off d w) (hlo : lo ≤ hi) (hb : first + hi ≤ d.size) (hsz : d.size < 4611686018427387904) :
    Calls Tryz.prog 172 #[.slice (some ⟨blk, off, none⟩) d.size cap, .int .i64 lo, .int .i64 hi, .int .i64 first, .func (.func g) #[] cb] w fun e w' =>
      e = .returned (.tuple #[]) ∧ SW enc w0 blk off (siftDown (ltOf cf) hi first lo d) w' := Any.siftDownCmpFunc Tryz.laysSlF46_f172 enc cf g cb blk off cap lo hi first d0 d w0 w eg hcmp R hs S hlo hb hsz
def Tryz.laysSlF21_f149_ren : Go.Shelf.Ren := ⟨fun | 21 => 149 | 46 => 172 | n => n, fun | 24 => 103 | 22 => 77 | 3 => 3 | 25 => 105 | 4 => 4 | 0 => 0 | n => n, fun | n => n⟩
theorem Tryz.laysSlF21_f149 : Go.Proofs.SlLaysF.n21 Tryz.prog Tryz.laysSlF21_f149_ren := {
  mixed := by kernel_rfl
  f21 := ⟨Tryz.f149.name, by decide, Tryz.func149.trans (congrArg some (by kernel_rfl))⟩
  f46 := ⟨Tryz.f172.name, by decide, Tryz.func172.trans (congrArg some (by kernel_rfl))⟩
  t0 := Tryz.underlying0
  a0 := Tryz.isAgg0
  z0 := Tryz.sizeOf0
  v0 := Tryz.zeroValue0
  t3 := Tryz.underlying3
  a3 := Tryz.isAgg3
  z3 := Tryz.sizeOf3
  v3 := Tryz.zeroValue3
  t4 := Tryz.underlying4
  a4 := Tryz.isAgg4
  z4 := Tryz.sizeOf4
  v4 := Tryz.zeroValue4
  t22 := Tryz.underlying77
  a22 := Tryz.isAgg77
  z22 := Tryz.sizeOf77
  v22 := Tryz.zeroValue77
  a24 := Tryz.isAgg103
  z24 := Tryz.sizeOf103
  t25 := Tryz.underlying105
  a25 := Tryz.isAgg105
  z25 := Tryz.sizeOf105
  v25 := Tryz.zeroValue105 }
open Go.RowKit Go.Lib Go.Sort in
/-- slices.heapSortCmpFunc at elements of one cell. (LAID AT THE INSTANCE 'slices.heapSortCmpFunc[pub-labyrinth/pub/gonum/graph.Node]': no walk: one application.) -/
theorem Tryz.heapSortCmpFunc {α : Type} [Inhabited α] (enc : α → Value) (cf : α → α → Int) (g : Nat) (cb : Array Value) (blk off cap a b : Nat) (d0 d : Array α) (w0 w : World) (eg : ∀ args w, (callFunc g args).run Tryz.prog w = .ok (.enter g args) w) (hcmp : CmpLays1 Tryz.prog g cb enc cf blk off d0.size w0) (R : Row1 enc w0 blk off d0) (hs : d0.size = d.size) (S : SW enc w0 blk off d w) (hab : a ≤ b) (hb : b ≤ d.size) (hsz : d.size < 4611686018427387904) :
    Calls Tryz.prog 149 #[.slice (some ⟨blk, off, none⟩) d.size cap, .int .i64 a, .int .i64 b, .func (.func g) #[] cb] w fun e w' =>
      e = .returned (.tuple #[]) ∧ SW enc w0 blk off (heapSort (ltOf cf) d a b) w' := Any.heapSortCmpFunc Tryz.laysSlF21_f149 enc cf g cb blk off cap a b d0 d w0 w eg hcmp R hs S hab hb hsz
open Go.RowKit Go.Lib Go.Sort in
/-- slices.insertionSortCmpFunc at elements of one cell: from a world of the sort's to a world of the sort's. (LAID AT THE INSTANCE 'slices.insertionSortCmpFunc[pub-labyrinth/pub/gonum/graph.Node]': no walk: one application.) -/
theorem Tryz.insertionSortCmpFunc_s {α : Type} [Inhabited α] (enc : α → Value) (cf : α → α → Int) (g : Nat) (cb : Array Value) (blk off cap a b : Nat) (d0 d : Array α) (w0 w : World) (eg : ∀ args w, (callFunc g args).run Tryz.prog w = .ok (.enter g args) w) (hcmp : CmpLays1 Tryz.prog g cb enc cf blk off d0.size w0) (R : Row1 enc w0 blk off d0) (hs : d0.size = d.size) (S : SW enc w0 blk off d w) (hab : a ≤ b) (hb : b ≤ d.size) (hsz : d.size < 4611686018427387904) :
    Calls Tryz.prog 148 #[.slice (some ⟨blk, off, none⟩) d.size cap, .int .i64 a, .int .i64 b, .func (.func g) #[] cb] w fun e w' => e = .returned (.tuple #[]) ∧ SW enc w0 blk off (Sort.insertionSort (ltOf cf) d a b) w' := Any.insertionSortCmpFunc_s Tryz.laysSlF20_f148 enc cf g cb blk off cap a b d0 d w0 w eg hcmp R hs S hab hb hsz
def Tryz.laysSlF57_f188_ren : Go.Shelf.Ren := ⟨fun | 57 => 188 | n => n, fun | 24 => 103 | 22 => 77 | 3 => 3 | 70 => 234 | 25 => 105 | 0 => 0 | 4 => 4 | n => n, fun | n => n⟩
theorem Tryz.laysSlF57_f188 : Go.Proofs.SlLaysF.n57 Tryz.prog Tryz.laysSlF57_f188_ren := {
  mixed := by kernel_rfl
  f57 := ⟨Tryz.f188.name, by decide, Tryz.func188.trans (congrArg some (by kernel_rfl))⟩
  t0 := Tryz.underlying0
  a0 := Tryz.isAgg0
  z0 := Tryz.sizeOf0
  v0 := Tryz.zeroValue0
  t3 := Tryz.underlying3
  a3 := Tryz.isAgg3
  z3 := Tryz.sizeOf3
  v3 := Tryz.zeroValue3
  t4 := Tryz.underlying4
  a4 := Tryz.isAgg4
  z4 := Tryz.sizeOf4
  v4 := Tryz.zeroValue4
  t22 := Tryz.underlying77
  a22 := Tryz.isAgg77
  z22 := Tryz.sizeOf77
  v22 := Tryz.zeroValue77
  a24 := Tryz.isAgg103
  z24 := Tryz.sizeOf103
  t25 := Tryz.underlying105
  a25 := Tryz.isAgg105
  z25 := Tryz.sizeOf105
  v25 := Tryz.zeroValue105
  t70 := Tryz.underlying234
  a70 := Tryz.isAgg234
  z70 := Tryz.sizeOf234
  v70 := Tryz.zeroValue234 }
open Go.RowKit Go.Lib Go.Sort in
/-- slices.order2CmpFunc at elements of one cell. (LAID AT THE INSTANCE 'slices.order2CmpFunc[pub-labyrinth/pub/gonum/graph.Node]': no walk: one application.) -/
theorem Tryz.order2CmpFunc {α : Type} [Inhabited α] (enc : α → Value) (cf : α → α → Int) (g : Nat) (cb : Array Value) (blk off cap a b c s : Nat) (d0 d : Array α) (w0 W : World) (eg : ∀ args w, (callFunc g args).run Tryz.prog w = .ok (.enter g args) w) (hcmp : CmpLays1 Tryz.prog g cb enc cf blk off d0.size w0) (R : Row1 enc w0 blk off d0) (hs : d0.size = d.size) (C : Cnt1 enc w0 blk off d c s W) (ha : a < d.size) (hb : b < d.size) (hsz : d.size < 4611686018427387904) (hss : s < 4611686018427387904) :
    Calls Tryz.prog 188 #[.slice (some ⟨blk, off, none⟩) d.size cap, .int .i64 a, .int .i64 b, .pointer (some ⟨c, 0, none⟩), .func (.func g) #[] cb] W fun e w' =>
      e = .returned (.tuple #[.int .i64 (order2 (ltOf cf) d a b s).1, .int .i64 (order2 (ltOf cf) d a b s).2.1]) ∧ Cnt1 enc w0 blk off d c (order2 (ltOf cf) d a b s).2.2 w' := Any.order2CmpFunc Tryz.laysSlF57_f188 enc cf g cb blk off cap a b c s d0 d w0 W eg hcmp R hs C ha hb hsz hss
def Tryz.laysSlF50_f174_ren : Go.Shelf.Ren := ⟨fun | 50 => 174 | 57 => 188 | n => n, fun | 24 => 103 | 22 => 77 | 3 => 3 | 70 => 234 | 25 => 105 | 77 => 252 | 0 => 0 | 4 => 4 | n => n, fun | n => n⟩
theorem Tryz.laysSlF50_f174 : Go.Proofs.SlLaysF.n50 Tryz.prog Tryz.laysSlF50_f174_ren := {
  mixed := by kernel_rfl
  f50 := ⟨Tryz.f174.name, by decide, Tryz.func174.trans (congrArg some (by kernel_rfl))⟩
  f57 := ⟨Tryz.f188.name, by decide, Tryz.func188.trans (congrArg some (by kernel_rfl))⟩
  t0 := Tryz.underlying0
  a0 := Tryz.isAgg0
  z0 := Tryz.sizeOf0
  v0 := Tryz.zeroValue0
  t3 := Tryz.underlying3
  a3 := Tryz.isAgg3
  z3 := Tryz.sizeOf3
  v3 := Tryz.zeroValue3
  t4 := Tryz.underlying4
  a4 := Tryz.isAgg4
  z4 := Tryz.sizeOf4
  v4 := Tryz.zeroValue4
  t22 := Tryz.underlying77
  a22 := Tryz.isAgg77
  z22 := Tryz.sizeOf77
  v22 := Tryz.zeroValue77
  a24 := Tryz.isAgg103
  z24 := Tryz.sizeOf103
  t25 := Tryz.underlying105
  a25 := Tryz.isAgg105
  z25 := Tryz.sizeOf105
  v25 := Tryz.zeroValue105
  t70 := Tryz.underlying234
  a70 := Tryz.isAgg234
  z70 := Tryz.sizeOf234
  v70 := Tryz.zeroValue234
  t77 := Tryz.underlying252
  a77 := Tryz.isAgg252
  z77 := Tryz.sizeOf252
  v77 := Tryz.zeroValue252 }
open Go.RowKit Go.Lib Go.Sort in
/-- slices.medianCmpFunc at elements of one cell. (LAID AT THE INSTANCE 'slices.medianCmpFunc[pub-labyrinth/pub/gonum/graph.Node]': no walk: one application.) -/
theorem Tryz.medianCmpFunc {α : Type} [Inhabited α] (enc : α → Value) (cf : α → α → Int) (g : Nat) (cb : Array Value) (blk off cap a b c' c s : Nat) (d0 d : Array α) (w0 W : World) (eg : ∀ args w, (callFunc g args).run Tryz.prog w = .ok (.enter g args) w) (hcmp : CmpLays1 Tryz.prog g cb enc cf blk off d0.size w0) (R : Row1 enc w0 blk off d0) (hs : d0.size = d.size) (C : Cnt1 enc w0 blk off d c s W) (ha : a < d.size) (hb : b < d.size) (hc : c' < d.size) (hsz : d.size < 4611686018427387904) (hss : s + 3 < 4611686018427387904) :
    Calls Tryz.prog 174 #[.slice (some ⟨blk, off, none⟩) d.size cap, .int .i64 a, .int .i64 b, .int .i64 c', .pointer (some ⟨c, 0, none⟩), .func (.func g) #[] cb] W fun e w' =>
      e = .returned (.int .i64 (median (ltOf cf) d a b c' s).1) ∧ Cnt1 enc w0 blk off d c (median (ltOf cf) d a b c' s).2 w' := Any.medianCmpFunc Tryz.laysSlF50_f174 enc cf g cb blk off cap a b c' c s d0 d w0 W eg hcmp R hs C ha hb hc hsz hss
def Tryz.laysSlF49_f173_ren : Go.Shelf.Ren := ⟨fun | 49 => 173 | 50 => 174 | 57 => 188 | n => n, fun | 24 => 103 | 22 => 77 | 3 => 3 | 70 => 234 | 25 => 105 | 77 => 252 | 0 => 0 | 4 => 4 | n => n, fun | n => n⟩
theorem Tryz.laysSlF49_f173 : Go.Proofs.SlLaysF.n49 Tryz.prog Tryz.laysSlF49_f173_ren := {
  mixed := by kernel_rfl
  f49 := ⟨Tryz.f173.name, by decide, Tryz.func173.trans (congrArg some (by kernel_rfl))⟩
  f50 := ⟨Tryz.f174.name, by decide, Tryz.func174.trans (congrArg some (by kernel_rfl))⟩
  f57 := ⟨Tryz.f188.name, by decide, Tryz.func188.trans (congrArg some (by kernel_rfl))⟩
  t0 := Tryz.underlying0
  a0 := Tryz.isAgg0
  z0 := Tryz.sizeOf0
  v0 := Tryz.zeroValue0
  t3 := Tryz.underlying3
  a3 := Tryz.isAgg3
  z3 := Tryz.sizeOf3
  v3 := Tryz.zeroValue3
  t4 := Tryz.underlying4
  a4 := Tryz.isAgg4
  z4 := Tryz.sizeOf4
  v4 := Tryz.zeroValue4
  t22 := Tryz.underlying77
  a22 := Tryz.isAgg77
  z22 := Tryz.sizeOf77
  v22 := Tryz.zeroValue77
  a24 := Tryz.isAgg103
  z24 := Tryz.sizeOf103
  t25 := Tryz.underlying105
  a25 := Tryz.isAgg105
  z25 := Tryz.sizeOf105
  v25 := Tryz.zeroValue105
  t70 := Tryz.underlying234
  a70 := Tryz.isAgg234
  z70 := Tryz.sizeOf234
  v70 := Tryz.zeroValue234
  t77 := Tryz.underlying252
  a77 := Tryz.isAgg252
  z77 := Tryz.sizeOf252
  v77 := Tryz.zeroValue252 }
open Go.RowKit Go.Lib Go.Sort in
/-- slices.medianAdjacentCmpFunc at elements of one cell. (LAID AT THE INSTANCE 'slices.medianAdjacentCmpFunc[pub-labyrinth/pub/gonum/graph.Node]': no walk: one application.) -/
theorem Tryz.medianAdjacentCmpFunc {α : Type} [Inhabited α] (enc : α → Value) (cf : α → α → Int) (g : Nat) (cb : Array Value) (blk off cap a c s : Nat) (d0 d : Array α) (w0 W : World) (eg : ∀ args w, (callFunc g args).run Tryz.prog w = .ok (.enter g args) w) (hcmp : CmpLays1 Tryz.prog g cb enc cf blk off d0.size w0) (R : Row1 enc w0 blk off d0) (hs : d0.size = d.size) (C : Cnt1 enc w0 blk off d c s W) (ha1 : 1 ≤ a) (ha2 : a + 1 < d.size) (hsz : d.size < 4611686018427387904) (hss : s + 3 < 4611686018427387904) :
    Calls Tryz.prog 173 #[.slice (some ⟨blk, off, none⟩) d.size cap, .int .i64 a, .pointer (some ⟨c, 0, none⟩), .func (.func g) #[] cb] W fun e w' =>
      e = .returned (.int .i64 (medianAdjacent (ltOf cf) d a s).1) ∧ Cnt1 enc w0 blk off d c (medianAdjacent (ltOf cf) d a s).2 w' := Any.medianAdjacentCmpFunc Tryz.laysSlF49_f173 enc cf g cb blk off cap a c s d0 d w0 W eg hcmp R hs C ha1 ha2 hsz hss
def Tryz.laysSlF23_f151_ren : Go.Shelf.Ren := ⟨fun | 23 => 151 | 49 => 173 | 50 => 174 | 57 => 188 | n => n, fun | 24 => 103 | 22 => 77 | 3 => 3 | 25 => 105 | 45 => 197 | 0 => 0 | 4 => 4 | 70 => 234 | 77 => 252 | n => n, fun | n => n⟩
theorem Tryz.laysSlF23_f151 : Go.Proofs.SlLaysF.n23 Tryz.prog Tryz.laysSlF23_f151_ren := {
  mixed := by kernel_rfl
  f23 := ⟨Tryz.f151.name, by decide, Tryz.func151.trans (congrArg some (by kernel_rfl))⟩
  f49 := ⟨Tryz.f173.name, by decide, Tryz.func173.trans (congrArg some (by kernel_rfl))⟩
  f50 := ⟨Tryz.f174.name, by decide, Tryz.func174.trans (congrArg some (by kernel_rfl))⟩
  f57 := ⟨Tryz.f188.name, by decide, Tryz.func188.trans (congrArg some (by kernel_rfl))⟩
  t0 := Tryz.underlying0
  a0 := Tryz.isAgg0
  z0 := Tryz.sizeOf0
  v0 := Tryz.zeroValue0
  t3 := Tryz.underlying3
  a3 := Tryz.isAgg3
  z3 := Tryz.sizeOf3
  v3 := Tryz.zeroValue3
  t4 := Tryz.underlying4
  a4 := Tryz.isAgg4
  z4 := Tryz.sizeOf4
  v4 := Tryz.zeroValue4
  t22 := Tryz.underlying77
  a22 := Tryz.isAgg77
  z22 := Tryz.sizeOf77
  v22 := Tryz.zeroValue77
  a24 := Tryz.isAgg103
  z24 := Tryz.sizeOf103
  t25 := Tryz.underlying105
  a25 := Tryz.isAgg105
  z25 := Tryz.sizeOf105
  v25 := Tryz.zeroValue105
  t45 := Tryz.underlying197
  a45 := Tryz.isAgg197
  z45 := Tryz.sizeOf197
  v45 := Tryz.zeroValue197
  t70 := Tryz.underlying234
  a70 := Tryz.isAgg234
  z70 := Tryz.sizeOf234
  v70 := Tryz.zeroValue234
  t77 := Tryz.underlying252
  a77 := Tryz.isAgg252
  z77 := Tryz.sizeOf252
  v77 := Tryz.zeroValue252 }
open Go.RowKit Go.Lib Go.Sort in
/-- slices.choosePivotCmpFunc at elements of one cell: THE LIBRARY's OWN TEXT COMPUTES 'Sort.choosePivot (ltOf cf) d a b'; the row is not turned. (After Derived/Shelf/SlSortFuncK/PivotK.lean, row for row; the counter's world by 'CntK'.) (LAID AT THE INSTANCE 'slices.choosePivotCmpFunc[pub-labyrinth/pub/gonum/graph.Node]': no walk: one application.) -/
theorem Tryz.choosePivotCmpFunc {α : Type} [Inhabited α] (enc : α → Value) (cf : α → α → Int) (g : Nat) (cb : Array Value) (blk off cap a b : Nat) (d0 d : Array α) (w0 W : World) (eg : ∀ args w, (callFunc g args).run Tryz.prog w = .ok (.enter g args) w) (hcmp : CmpLays1 Tryz.prog g cb enc cf blk off d0.size w0) (R : Row1 enc w0 blk off d0) (hs : d0.size = d.size) (S : SW enc w0 blk off d W) (hab : a < b) (hb : b ≤ d.size) (hsz : d.size < 4611686018427387904) :
    Calls Tryz.prog 151 #[.slice (some ⟨blk, off, none⟩) d.size cap, .int .i64 a, .int .i64 b, .func (.func g) #[] cb] W fun e w' =>
      e = .returned (.tuple #[.int .i64 (choosePivot (ltOf cf) d a b).1, .int .i64 (hintCode (choosePivot (ltOf cf) d a b).2)]) ∧ SW enc w0 blk off d w' := Any.choosePivotCmpFunc Tryz.laysSlF23_f151 enc cf g cb blk off cap a b d0 d w0 W eg hcmp R hs S hab hb hsz
def Tryz.laysSlF24_f152_ren : Go.Shelf.Ren := ⟨fun | 24 => 152 | n => n, fun | 24 => 103 | 22 => 77 | 3 => 3 | 25 => 105 | 4 => 4 | 0 => 0 | n => n, fun | n => n⟩
theorem Tryz.laysSlF24_f152 : Go.Proofs.SlLaysF.n24 Tryz.prog Tryz.laysSlF24_f152_ren := {
  mixed := by kernel_rfl
  f24 := ⟨Tryz.f152.name, by decide, Tryz.func152.trans (congrArg some (by kernel_rfl))⟩
  t0 := Tryz.underlying0
  a0 := Tryz.isAgg0
  z0 := Tryz.sizeOf0
  v0 := Tryz.zeroValue0
  t3 := Tryz.underlying3
  a3 := Tryz.isAgg3
  z3 := Tryz.sizeOf3
  v3 := Tryz.zeroValue3
  t4 := Tryz.underlying4
  a4 := Tryz.isAgg4
  z4 := Tryz.sizeOf4
  v4 := Tryz.zeroValue4
  t22 := Tryz.underlying77
  a22 := Tryz.isAgg77
  z22 := Tryz.sizeOf77
  v22 := Tryz.zeroValue77
  a24 := Tryz.isAgg103
  z24 := Tryz.sizeOf103
  t25 := Tryz.underlying105
  a25 := Tryz.isAgg105
  z25 := Tryz.sizeOf105
  v25 := Tryz.zeroValue105 }
open Go.RowKit Go.Lib Go.Sort in
/-- slices.reverseRangeCmpFunc at elements of one cell: it exchanges and does not compare. (LAID AT THE INSTANCE 'slices.reverseRangeCmpFunc[pub-labyrinth/pub/gonum/graph.Node]': no walk: one application.) -/
theorem Tryz.reverseRangeCmpFunc {α : Type} [Inhabited α] (enc : α → Value) (g : Nat) (cb : Array Value) (blk off cap a b : Nat) (d0 d : Array α) (w0 w : World) (R : Row1 enc w0 blk off d0) (hs : d0.size = d.size) (S : SW enc w0 blk off d w) (hab : a ≤ b) (hb : b ≤ d.size) (hsz : d.size < 4611686018427387904) :
    Calls Tryz.prog 152 #[.slice (some ⟨blk, off, none⟩) d.size cap, .int .i64 a, .int .i64 b, .func (.func g) #[] cb] w fun e w' => e = .returned (.tuple #[]) ∧ SW enc w0 blk off (reverseRange d a b) w' := Any.reverseRangeCmpFunc Tryz.laysSlF24_f152 enc g cb blk off cap a b d0 d w0 w R hs S hab hb hsz
def Tryz.laysSlF25_f153_ren : Go.Shelf.Ren := ⟨fun | 25 => 153 | n => n, fun | 24 => 103 | 22 => 77 | 3 => 3 | 25 => 105 | 4 => 4 | 0 => 0 | n => n, fun | n => n⟩
theorem Tryz.laysSlF25_f153 : Go.Proofs.SlLaysF.n25 Tryz.prog Tryz.laysSlF25_f153_ren := {
  mixed := by kernel_rfl
  f25 := ⟨Tryz.f153.name, by decide, Tryz.func153.trans (congrArg some (by kernel_rfl))⟩
  t0 := Tryz.underlying0
  a0 := Tryz.isAgg0
  z0 := Tryz.sizeOf0
  v0 := Tryz.zeroValue0
  t3 := Tryz.underlying3
  a3 := Tryz.isAgg3
  z3 := Tryz.sizeOf3
  v3 := Tryz.zeroValue3
  t4 := Tryz.underlying4
  a4 := Tryz.isAgg4
  z4 := Tryz.sizeOf4
  v4 := Tryz.zeroValue4
  t22 := Tryz.underlying77
  a22 := Tryz.isAgg77
  z22 := Tryz.sizeOf77
  v22 := Tryz.zeroValue77
  a24 := Tryz.isAgg103
  z24 := Tryz.sizeOf103
  t25 := Tryz.underlying105
  a25 := Tryz.isAgg105
  z25 := Tryz.sizeOf105
  v25 := Tryz.zeroValue105 }
open Go.RowKit Go.Lib Go.Sort in
/-- slices.partialInsertionSortCmpFunc at elements of one cell. (LAID AT THE INSTANCE 'slices.partialInsertionSortCmpFunc[pub-labyrinth/pub/gonum/graph.Node]': no walk: one application.) -/
theorem Tryz.partialInsertionSortCmpFunc {α : Type} [Inhabited α] (enc : α → Value) (cf : α → α → Int) (g : Nat) (cb : Array Value) (blk off cap a b : Nat) (d0 d : Array α) (w0 w : World) (eg : ∀ args w, (callFunc g args).run Tryz.prog w = .ok (.enter g args) w) (hcmp : CmpLays1 Tryz.prog g cb enc cf blk off d0.size w0) (R : Row1 enc w0 blk off d0) (hs : d0.size = d.size) (S : SW enc w0 blk off d w) (hab : a < b) (hb : b ≤ d.size) (hsz : d.size < 4611686018427387904) :
    Calls Tryz.prog 153 #[.slice (some ⟨blk, off, none⟩) d.size cap, .int .i64 a, .int .i64 b, .func (.func g) #[] cb] w fun e w' =>
      e = .returned (.bool (Sort.partialInsertionSort (ltOf cf) d a b).2) ∧ SW enc w0 blk off (Sort.partialInsertionSort (ltOf cf) d a b).1 w' := Any.partialInsertionSortCmpFunc Tryz.laysSlF25_f153 enc cf g cb blk off cap a b d0 d w0 w eg hcmp R hs S hab hb hsz
def Tryz.laysSlF26_f154_ren : Go.Shelf.Ren := ⟨fun | 26 => 154 | n => n, fun | 24 => 103 | 22 => 77 | 3 => 3 | 25 => 105 | 0 => 0 | 4 => 4 | n => n, fun | n => n⟩
theorem Tryz.laysSlF26_f154 : Go.Proofs.SlLaysF.n26 Tryz.prog Tryz.laysSlF26_f154_ren := {
  mixed := by kernel_rfl
  f26 := ⟨Tryz.f154.name, by decide, Tryz.func154.trans (congrArg some (by kernel_rfl))⟩
  t0 := Tryz.underlying0
  a0 := Tryz.isAgg0
  z0 := Tryz.sizeOf0
  v0 := Tryz.zeroValue0
  t3 := Tryz.underlying3
  a3 := Tryz.isAgg3
  z3 := Tryz.sizeOf3
  v3 := Tryz.zeroValue3
  t4 := Tryz.underlying4
  a4 := Tryz.isAgg4
  z4 := Tryz.sizeOf4
  v4 := Tryz.zeroValue4
  t22 := Tryz.underlying77
  a22 := Tryz.isAgg77
  z22 := Tryz.sizeOf77
  v22 := Tryz.zeroValue77
  a24 := Tryz.isAgg103
  z24 := Tryz.sizeOf103
  t25 := Tryz.underlying105
  a25 := Tryz.isAgg105
  z25 := Tryz.sizeOf105
  v25 := Tryz.zeroValue105 }
open Go.RowKit Go.Lib Go.Sort in
/-- slices.partitionEqualCmpFunc at elements of one cell. (After Derived/Shelf/SlSortFuncK/PartitionK.lean, row for row.) (LAID AT THE INSTANCE 'slices.partitionEqualCmpFunc[pub-labyrinth/pub/gonum/graph.Node]': no walk: one application.) -/
theorem Tryz.partitionEqualCmpFunc {α : Type} [Inhabited α] (enc : α → Value) (cf : α → α → Int) (g : Nat) (cb : Array Value) (blk off cap a b pivot : Nat) (d0 d : Array α) (w0 w : World) (eg : ∀ args w, (callFunc g args).run Tryz.prog w = .ok (.enter g args) w) (hcmp : CmpLays1 Tryz.prog g cb enc cf blk off d0.size w0) (R : Row1 enc w0 blk off d0) (hs : d0.size = d.size) (S : SW enc w0 blk off d w) (hap : a ≤ pivot) (hpb : pivot < b) (hb : b ≤ d.size) (hsz : d.size < 4611686018427387904) :
    Calls Tryz.prog 154 #[.slice (some ⟨blk, off, none⟩) d.size cap, .int .i64 a, .int .i64 b, .int .i64 pivot, .func (.func g) #[] cb] w fun e w' =>
      e = .returned (.int .i64 (Sort.partitionEqual (ltOf cf) d a b pivot).1) ∧ SW enc w0 blk off (Sort.partitionEqual (ltOf cf) d a b pivot).2 w' := Any.partitionEqualCmpFunc Tryz.laysSlF26_f154 enc cf g cb blk off cap a b pivot d0 d w0 w eg hcmp R hs S hap hpb hb hsz
def Tryz.laysSlF27_f155_ren : Go.Shelf.Ren := ⟨fun | 27 => 155 | n => n, fun | 24 => 103 | 22 => 77 | 3 => 3 | 25 => 105 | 4 => 4 | 0 => 0 | n => n, fun | n => n⟩
theorem Tryz.laysSlF27_f155 : Go.Proofs.SlLaysF.n27 Tryz.prog Tryz.laysSlF27_f155_ren := {
  mixed := by kernel_rfl
  f27 := ⟨Tryz.f155.name, by decide, Tryz.func155.trans (congrArg some (by kernel_rfl))⟩
  t0 := Tryz.underlying0
  a0 := Tryz.isAgg0
  z0 := Tryz.sizeOf0
  v0 := Tryz.zeroValue0
  t3 := Tryz.underlying3
  a3 := Tryz.isAgg3
  z3 := Tryz.sizeOf3
  v3 := Tryz.zeroValue3
  t4 := Tryz.underlying4
  a4 := Tryz.isAgg4
  z4 := Tryz.sizeOf4
  v4 := Tryz.zeroValue4
  t22 := Tryz.underlying77
  a22 := Tryz.isAgg77
  z22 := Tryz.sizeOf77
  v22 := Tryz.zeroValue77
  a24 := Tryz.isAgg103
  z24 := Tryz.sizeOf103
  t25 := Tryz.underlying105
  a25 := Tryz.isAgg105
  z25 := Tryz.sizeOf105
  v25 := Tryz.zeroValue105 }
open Go.RowKit Go.Lib Go.Sort in
/-- slices.partitionCmpFunc at elements of one cell. (After Derived/Shelf/SlSortFuncK/PartitionK.lean, row for row.) (LAID AT THE INSTANCE 'slices.partitionCmpFunc[pub-labyrinth/pub/gonum/graph.Node]': no walk: one application.) -/
theorem Tryz.partitionCmpFunc {α : Type} [Inhabited α] (enc : α → Value) (cf : α → α → Int) (g : Nat) (cb : Array Value) (blk off cap a b pivot : Nat) (d0 d : Array α) (w0 w : World) (eg : ∀ args w, (callFunc g args).run Tryz.prog w = .ok (.enter g args) w) (hcmp : CmpLays1 Tryz.prog g cb enc cf blk off d0.size w0) (R : Row1 enc w0 blk off d0) (hs : d0.size = d.size) (S : SW enc w0 blk off d w) (hap : a ≤ pivot) (hpb : pivot < b) (hb : b ≤ d.size) (hsz : d.size < 4611686018427387904) :
    Calls Tryz.prog 155 #[.slice (some ⟨blk, off, none⟩) d.size cap, .int .i64 a, .int .i64 b, .int .i64 pivot, .func (.func g) #[] cb] w fun e w' =>
      e = .returned (.tuple #[.int .i64 (Sort.partition (ltOf cf) d a b pivot).1, .bool (Sort.partition (ltOf cf) d a b pivot).2.1]) ∧ SW enc w0 blk off (Sort.partition (ltOf cf) d a b pivot).2.2 w' := Any.partitionCmpFunc Tryz.laysSlF27_f155 enc cf g cb blk off cap a b pivot d0 d w0 w eg hcmp R hs S hap hpb hb hsz
def Tryz.laysSlF14_f101_ren : Go.Shelf.Ren := ⟨fun | 14 => 101 | 20 => 148 | 21 => 149 | 22 => 150 | 23 => 151 | 24 => 152 | 25 => 153 | 26 => 154 | 27 => 155 | 46 => 172 | 47 => 164 | 48 => 165 | 49 => 173 | 50 => 174 | 15 => 90 | 57 => 188 | 28 => 138 | 29 => 139 | n => n, fun | 24 => 103 | 22 => 77 | 3 => 3 | 25 => 105 | 4 => 4 | 0 => 0 | 46 => 198 | 45 => 197 | 50 => 99 | 66 => 230 | 39 => 143 | 55 => 207 | 70 => 234 | 76 => 251 | 77 => 252 | 53 => 205 | 5 => 5 | 9 => 9 | n => n, fun | n => n⟩
theorem Tryz.laysSlF14_f101 : Go.Proofs.SlLaysF.n14 Tryz.prog Tryz.laysSlF14_f101_ren := {
  mixed := by kernel_rfl
  f14 := ⟨Tryz.f101.name, by decide, Tryz.func101.trans (congrArg some (by kernel_rfl))⟩
  f15 := Tryz.func90.trans (congrArg some (by kernel_rfl))
  f20 := ⟨Tryz.f148.name, by decide, Tryz.func148.trans (congrArg some (by kernel_rfl))⟩
  f21 := ⟨Tryz.f149.name, by decide, Tryz.func149.trans (congrArg some (by kernel_rfl))⟩
  f22 := ⟨Tryz.f150.name, by decide, Tryz.func150.trans (congrArg some (by kernel_rfl))⟩
  f23 := ⟨Tryz.f151.name, by decide, Tryz.func151.trans (congrArg some (by kernel_rfl))⟩
  f24 := ⟨Tryz.f152.name, by decide, Tryz.func152.trans (congrArg some (by kernel_rfl))⟩
  f25 := ⟨Tryz.f153.name, by decide, Tryz.func153.trans (congrArg some (by kernel_rfl))⟩
  f26 := ⟨Tryz.f154.name, by decide, Tryz.func154.trans (congrArg some (by kernel_rfl))⟩
  f27 := ⟨Tryz.f155.name, by decide, Tryz.func155.trans (congrArg some (by kernel_rfl))⟩
  f28 := Tryz.func138.trans (congrArg some (by kernel_rfl))
  f29 := Tryz.func139.trans (congrArg some (by kernel_rfl))
  f46 := ⟨Tryz.f172.name, by decide, Tryz.func172.trans (congrArg some (by kernel_rfl))⟩
  f47 := Tryz.func164.trans (congrArg some (by kernel_rfl))
  f48 := Tryz.func165.trans (congrArg some (by kernel_rfl))
  f49 := ⟨Tryz.f173.name, by decide, Tryz.func173.trans (congrArg some (by kernel_rfl))⟩
  f50 := ⟨Tryz.f174.name, by decide, Tryz.func174.trans (congrArg some (by kernel_rfl))⟩
  f57 := ⟨Tryz.f188.name, by decide, Tryz.func188.trans (congrArg some (by kernel_rfl))⟩
  t0 := Tryz.underlying0
  a0 := Tryz.isAgg0
  z0 := Tryz.sizeOf0
  v0 := Tryz.zeroValue0
  t3 := Tryz.underlying3
  a3 := Tryz.isAgg3
  z3 := Tryz.sizeOf3
  v3 := Tryz.zeroValue3
  t4 := Tryz.underlying4
  a4 := Tryz.isAgg4
  z4 := Tryz.sizeOf4
  v4 := Tryz.zeroValue4
  t5 := Tryz.underlying5
  a5 := Tryz.isAgg5
  z5 := Tryz.sizeOf5
  v5 := Tryz.zeroValue5
  t9 := Tryz.underlying9
  a9 := Tryz.isAgg9
  z9 := Tryz.sizeOf9
  v9 := Tryz.zeroValue9
  t22 := Tryz.underlying77
  a22 := Tryz.isAgg77
  z22 := Tryz.sizeOf77
  v22 := Tryz.zeroValue77
  a24 := Tryz.isAgg103
  z24 := Tryz.sizeOf103
  t25 := Tryz.underlying105
  a25 := Tryz.isAgg105
  z25 := Tryz.sizeOf105
  v25 := Tryz.zeroValue105
  t39 := Tryz.underlying143
  a39 := Tryz.isAgg143
  z39 := Tryz.sizeOf143
  v39 := Tryz.zeroValue143
  t45 := Tryz.underlying197
  a45 := Tryz.isAgg197
  z45 := Tryz.sizeOf197
  v45 := Tryz.zeroValue197
  t46 := Tryz.underlying198
  a46 := Tryz.isAgg198
  z46 := Tryz.sizeOf198
  v46 := Tryz.zeroValue198
  t50 := Tryz.underlying99
  a50 := Tryz.isAgg99
  z50 := Tryz.sizeOf99
  v50 := Tryz.zeroValue99
  t53 := Tryz.underlying205
  a53 := Tryz.isAgg205
  z53 := Tryz.sizeOf205
  v53 := Tryz.zeroValue205
  t55 := Tryz.underlying207
  a55 := Tryz.isAgg207
  z55 := Tryz.sizeOf207
  v55 := Tryz.zeroValue207
  t66 := Tryz.underlying230
  a66 := Tryz.isAgg230
  z66 := Tryz.sizeOf230
  v66 := Tryz.zeroValue230
  t70 := Tryz.underlying234
  a70 := Tryz.isAgg234
  z70 := Tryz.sizeOf234
  v70 := Tryz.zeroValue234
  t76 := Tryz.underlying251
  a76 := Tryz.isAgg251
  z76 := Tryz.sizeOf251
  v76 := Tryz.zeroValue251
  t77 := Tryz.underlying252
  a77 := Tryz.isAgg252
  z77 := Tryz.sizeOf252
  v77 := Tryz.zeroValue252 }
open Go.RowKit Go.Lib Go.Sort in
/-- slices.pdqsortCmpFunc at elements of one cell, WHOLE. (After Derived/Shelf/SlSortFuncK/PdqK.lean, row for row: the slots and the regions' numbers are this body's.) (LAID AT THE INSTANCE 'slices.pdqsortCmpFunc[pub-labyrinth/pub/gonum/graph.Node]': no walk: one application.) -/
theorem Tryz.pdqsortCmpFunc_all {α : Type} [Inhabited α] (enc : α → Value) (cf : α → α → Int) (g : Nat) (cb : Array Value) (hO : SWO (ltOf cf)) (blk off cap : Nat) (d0 : Array α) (w0 : World) (eg : ∀ args w, (callFunc g args).run Tryz.prog w = .ok (.enter g args) w) (hcmp : CmpLays1 Tryz.prog g cb enc cf blk off d0.size w0) (R : Row1 enc w0 blk off d0) :
    ∀ (N a b limit : Nat) (d : Array α) (w : World), b - a < N → d0.size = d.size → SW enc w0 blk off d w → a ≤ b → b ≤ d.size → d.size < 4611686018427387904 → limit < 4611686018427387904 → Below (ltOf cf) a b d →
    Calls Tryz.prog 101 #[.slice (some ⟨blk, off, none⟩) d.size cap, .int .i64 a, .int .i64 b, .int .i64 limit, .func (.func g) #[] cb] w fun e w' => e = .returned (.tuple #[]) ∧ SW enc w0 blk off (pdq (ltOf cf) d a b limit true true) w' := Any.pdqsortCmpFunc_all Tryz.laysSlF14_f101 enc cf g cb hO blk off cap d0 w0 eg hcmp R
def Tryz.laysSlF6_f67_ren : Go.Shelf.Ren := ⟨fun | 6 => 67 | 15 => 90 | 14 => 101 | 28 => 138 | 29 => 139 | 20 => 148 | 21 => 149 | 22 => 150 | 23 => 151 | 24 => 152 | 25 => 153 | 26 => 154 | 27 => 155 | 46 => 172 | 47 => 164 | 48 => 165 | 49 => 173 | 50 => 174 | 57 => 188 | n => n, fun | 22 => 77 | 24 => 103 | 25 => 105 | 3 => 3 | 39 => 143 | 0 => 0 | 53 => 205 | 55 => 207 | 4 => 4 | 46 => 198 | 45 => 197 | 50 => 99 | 5 => 5 | 9 => 9 | 66 => 230 | 70 => 234 | 76 => 251 | 77 => 252 | n => n, fun | n => n⟩
theorem Tryz.laysSlF6_f67 : Go.Proofs.SlLaysF.n6 Tryz.prog Tryz.laysSlF6_f67_ren := {
  mixed := by kernel_rfl
  f6 := ⟨Tryz.f67.name, by decide, Tryz.func67.trans (congrArg some (by kernel_rfl))⟩
  f14 := ⟨Tryz.f101.name, by decide, Tryz.func101.trans (congrArg some (by kernel_rfl))⟩
  f15 := Tryz.func90.trans (congrArg some (by kernel_rfl))
  f20 := ⟨Tryz.f148.name, by decide, Tryz.func148.trans (congrArg some (by kernel_rfl))⟩
  f21 := ⟨Tryz.f149.name, by decide, Tryz.func149.trans (congrArg some (by kernel_rfl))⟩
  f22 := ⟨Tryz.f150.name, by decide, Tryz.func150.trans (congrArg some (by kernel_rfl))⟩
  f23 := ⟨Tryz.f151.name, by decide, Tryz.func151.trans (congrArg some (by kernel_rfl))⟩
  f24 := ⟨Tryz.f152.name, by decide, Tryz.func152.trans (congrArg some (by kernel_rfl))⟩
  f25 := ⟨Tryz.f153.name, by decide, Tryz.func153.trans (congrArg some (by kernel_rfl))⟩
  f26 := ⟨Tryz.f154.name, by decide, Tryz.func154.trans (congrArg some (by kernel_rfl))⟩
  f27 := ⟨Tryz.f155.name, by decide, Tryz.func155.trans (congrArg some (by kernel_rfl))⟩
  f28 := Tryz.func138.trans (congrArg some (by kernel_rfl))
  f29 := Tryz.func139.trans (congrArg some (by kernel_rfl))
  f46 := ⟨Tryz.f172.name, by decide, Tryz.func172.trans (congrArg some (by kernel_rfl))⟩
  f47 := Tryz.func164.trans (congrArg some (by kernel_rfl))
  f48 := Tryz.func165.trans (congrArg some (by kernel_rfl))
  f49 := ⟨Tryz.f173.name, by decide, Tryz.func173.trans (congrArg some (by kernel_rfl))⟩
  f50 := ⟨Tryz.f174.name, by decide, Tryz.func174.trans (congrArg some (by kernel_rfl))⟩
  f57 := ⟨Tryz.f188.name, by decide, Tryz.func188.trans (congrArg some (by kernel_rfl))⟩
  t0 := Tryz.underlying0
  a0 := Tryz.isAgg0
  z0 := Tryz.sizeOf0
  v0 := Tryz.zeroValue0
  t3 := Tryz.underlying3
  a3 := Tryz.isAgg3
  z3 := Tryz.sizeOf3
  v3 := Tryz.zeroValue3
  t4 := Tryz.underlying4
  a4 := Tryz.isAgg4
  z4 := Tryz.sizeOf4
  v4 := Tryz.zeroValue4
  t5 := Tryz.underlying5
  a5 := Tryz.isAgg5
  z5 := Tryz.sizeOf5
  v5 := Tryz.zeroValue5
  t9 := Tryz.underlying9
  a9 := Tryz.isAgg9
  z9 := Tryz.sizeOf9
  v9 := Tryz.zeroValue9
  t22 := Tryz.underlying77
  a22 := Tryz.isAgg77
  z22 := Tryz.sizeOf77
  v22 := Tryz.zeroValue77
  a24 := Tryz.isAgg103
  z24 := Tryz.sizeOf103
  t25 := Tryz.underlying105
  a25 := Tryz.isAgg105
  z25 := Tryz.sizeOf105
  v25 := Tryz.zeroValue105
  t39 := Tryz.underlying143
  a39 := Tryz.isAgg143
  z39 := Tryz.sizeOf143
  v39 := Tryz.zeroValue143
  t45 := Tryz.underlying197
  a45 := Tryz.isAgg197
  z45 := Tryz.sizeOf197
  v45 := Tryz.zeroValue197
  t46 := Tryz.underlying198
  a46 := Tryz.isAgg198
  z46 := Tryz.sizeOf198
  v46 := Tryz.zeroValue198
  t50 := Tryz.underlying99
  a50 := Tryz.isAgg99
  z50 := Tryz.sizeOf99
  v50 := Tryz.zeroValue99
  t53 := Tryz.underlying205
  a53 := Tryz.isAgg205
  z53 := Tryz.sizeOf205
  v53 := Tryz.zeroValue205
  t55 := Tryz.underlying207
  a55 := Tryz.isAgg207
  z55 := Tryz.sizeOf207
  v55 := Tryz.zeroValue207
  t66 := Tryz.underlying230
  a66 := Tryz.isAgg230
  z66 := Tryz.sizeOf230
  v66 := Tryz.zeroValue230
  t70 := Tryz.underlying234
  a70 := Tryz.isAgg234
  z70 := Tryz.sizeOf234
  v70 := Tryz.zeroValue234
  t76 := Tryz.underlying251
  a76 := Tryz.isAgg251
  z76 := Tryz.sizeOf251
  v76 := Tryz.zeroValue251
  t77 := Tryz.underlying252
  a77 := Tryz.isAgg252
  z77 := Tryz.sizeOf252
  v77 := Tryz.zeroValue252 }
open Go.RowKit Go.Lib Go.Sort in
/-- **slices.SortFunc: WHAT THE ROW HOLDS, TO THE ELEMENT.** (LAID AT THE INSTANCE 'slices.SortFunc[[]pub-labyrinth/pub/gonum/graph.Node,pub-labyrinth/pub/gonum/graph.Node]': no walk: one application.) -/
theorem Tryz.slices_SortFunc_eq {α : Type} [Inhabited α] (enc : α → Value) (h1 : OneCell enc) (cf : α → α → Int) (hO : SWO (ltOf cf)) (g : Nat) (cb : Array Value) (blk off cap : Nat) (d : Array α) (w : World) (eg : ∀ args w, (callFunc g args).run Tryz.prog w = .ok (.enter g args) w) (hcmp : CmpLays1 Tryz.prog g cb enc cf blk off d.size w) (hH : Holds enc w blk off d) (hblk : blk < w.heap.size) (hsz : d.size < 4611686018427387904) :
    Calls Tryz.prog 67 #[.slice (some ⟨blk, off, none⟩) d.size cap, .func (.func g) #[] cb] w fun e w' =>
      e = .returned (.tuple #[]) ∧ ∃ n os, w' = sortWorld enc w blk off n (pdq (ltOf cf) d 0 d.size (Lib.bitLen d.size) true true) os := Any.slices_SortFunc_eq Tryz.laysSlF6_f67 enc h1 cf hO g cb blk off cap d w eg hcmp hH hblk hsz
open Go.RowKit Go.Lib Go.Sort in
/-- **slices.SortFunc, IN THE DOCUMENTATION's OWN TERMS: A PERMUTATION OF WHAT THE ROW HELD, SORTED BY 'cmp(a, b) < 0'.** Which of two equals comes first is left open ("The sort is not guaranteed to be stable"). (LAID AT THE INSTANCE 'slices.SortFunc[[]pub-labyrinth/pub/gonum/graph.Node,pub-labyrinth/pub/gonum/graph.Node]': no walk: one application.) -/
theorem Tryz.slices_SortFunc {α : Type} [Inhabited α] (enc : α → Value) (h1 : OneCell enc) (cf : α → α → Int) (hO : SWO (ltOf cf)) (g : Nat) (cb : Array Value) (blk off cap : Nat) (d : Array α) (w : World) (eg : ∀ args w, (callFunc g args).run Tryz.prog w = .ok (.enter g args) w) (hcmp : CmpLays1 Tryz.prog g cb enc cf blk off d.size w) (hH : Holds enc w blk off d) (hblk : blk < w.heap.size) (hsz : d.size < 4611686018427387904) :
    Calls Tryz.prog 67 #[.slice (some ⟨blk, off, none⟩) d.size cap, .func (.func g) #[] cb] w fun e w' =>
      e = .returned (.tuple #[]) ∧ ∃ d' n os, PermIn 0 d.size d d' ∧ SortedIn (ltOf cf) 0 d.size d' ∧ w' = sortWorld enc w blk off n d' os := Any.slices_SortFunc Tryz.laysSlF6_f67 enc h1 cf hO g cb blk off cap d w eg hcmp hH hblk hsz
def Tryz.laysSlF020_f148_ren : Go.Shelf.Ren := ⟨fun | 20 => 148 | n => n, fun | 24 => 103 | 22 => 77 | 3 => 3 | 25 => 105 | 4 => 4 | 0 => 0 | n => n, fun | n => n⟩
theorem Tryz.laysSlF020_f148 : Go.Proofs.SlLaysF0.n20 Tryz.prog Tryz.laysSlF020_f148_ren := {
  mixed := by kernel_rfl
  f20 := ⟨Tryz.f148.name, by decide, Tryz.func148.trans (congrArg some (by kernel_rfl))⟩
  t0 := Tryz.underlying0
  a0 := Tryz.isAgg0
  z0 := Tryz.sizeOf0
  v0 := Tryz.zeroValue0
  t3 := Tryz.underlying3
  a3 := Tryz.isAgg3
  z3 := Tryz.sizeOf3
  v3 := Tryz.zeroValue3
  t4 := Tryz.underlying4
  a4 := Tryz.isAgg4
  z4 := Tryz.sizeOf4
  v4 := Tryz.zeroValue4
  t22 := Tryz.underlying77
  a22 := Tryz.isAgg77
  z22 := Tryz.sizeOf77
  v22 := Tryz.zeroValue77
  t25 := Tryz.underlying105
  a25 := Tryz.isAgg105
  z25 := Tryz.sizeOf105
  v25 := Tryz.zeroValue105 }
open Go.RowKit Go.Lib Go.Sort in
theorem Tryz.insertionSortCmpFunc_none {α : Type} [Inhabited α] (p : Option Addr) (cap : Nat) (fv : Value) (w : World) :
    Calls Tryz.prog 148 #[.slice p 0 cap, .int .i64 0, .int .i64 0, fv] w fun e w' => e = .returned (.tuple #[]) ∧ w' = w := AnyF.insertionSortCmpFunc_none Tryz.laysSlF020_f148 p cap fv w
def Tryz.laysSlF014_f101_ren : Go.Shelf.Ren := ⟨fun | 14 => 101 | 20 => 148 | 21 => 149 | 22 => 150 | 23 => 151 | 24 => 152 | 25 => 153 | 26 => 154 | 27 => 155 | 46 => 172 | 47 => 164 | 48 => 165 | 49 => 173 | 50 => 174 | 15 => 90 | 57 => 188 | 28 => 138 | 29 => 139 | n => n, fun | 24 => 103 | 22 => 77 | 3 => 3 | 25 => 105 | 4 => 4 | 0 => 0 | 46 => 198 | 45 => 197 | 50 => 99 | 66 => 230 | 39 => 143 | 55 => 207 | 70 => 234 | 76 => 251 | 77 => 252 | 53 => 205 | 5 => 5 | 9 => 9 | n => n, fun | n => n⟩
theorem Tryz.laysSlF014_f101 : Go.Proofs.SlLaysF0.n14 Tryz.prog Tryz.laysSlF014_f101_ren := {
  mixed := by kernel_rfl
  f14 := ⟨Tryz.f101.name, by decide, Tryz.func101.trans (congrArg some (by kernel_rfl))⟩
  f15 := Tryz.func90.trans (congrArg some (by kernel_rfl))
  f20 := ⟨Tryz.f148.name, by decide, Tryz.func148.trans (congrArg some (by kernel_rfl))⟩
  f21 := ⟨Tryz.f149.name, by decide, Tryz.func149.trans (congrArg some (by kernel_rfl))⟩
  f22 := ⟨Tryz.f150.name, by decide, Tryz.func150.trans (congrArg some (by kernel_rfl))⟩
  f23 := ⟨Tryz.f151.name, by decide, Tryz.func151.trans (congrArg some (by kernel_rfl))⟩
  f24 := ⟨Tryz.f152.name, by decide, Tryz.func152.trans (congrArg some (by kernel_rfl))⟩
  f25 := ⟨Tryz.f153.name, by decide, Tryz.func153.trans (congrArg some (by kernel_rfl))⟩
  f26 := ⟨Tryz.f154.name, by decide, Tryz.func154.trans (congrArg some (by kernel_rfl))⟩
  f27 := ⟨Tryz.f155.name, by decide, Tryz.func155.trans (congrArg some (by kernel_rfl))⟩
  f28 := Tryz.func138.trans (congrArg some (by kernel_rfl))
  f29 := Tryz.func139.trans (congrArg some (by kernel_rfl))
  f46 := ⟨Tryz.f172.name, by decide, Tryz.func172.trans (congrArg some (by kernel_rfl))⟩
  f47 := Tryz.func164.trans (congrArg some (by kernel_rfl))
  f48 := Tryz.func165.trans (congrArg some (by kernel_rfl))
  f49 := ⟨Tryz.f173.name, by decide, Tryz.func173.trans (congrArg some (by kernel_rfl))⟩
  f50 := ⟨Tryz.f174.name, by decide, Tryz.func174.trans (congrArg some (by kernel_rfl))⟩
  f57 := ⟨Tryz.f188.name, by decide, Tryz.func188.trans (congrArg some (by kernel_rfl))⟩
  t0 := Tryz.underlying0
  a0 := Tryz.isAgg0
  z0 := Tryz.sizeOf0
  v0 := Tryz.zeroValue0
  t3 := Tryz.underlying3
  a3 := Tryz.isAgg3
  z3 := Tryz.sizeOf3
  v3 := Tryz.zeroValue3
  t4 := Tryz.underlying4
  a4 := Tryz.isAgg4
  z4 := Tryz.sizeOf4
  v4 := Tryz.zeroValue4
  t5 := Tryz.underlying5
  a5 := Tryz.isAgg5
  z5 := Tryz.sizeOf5
  v5 := Tryz.zeroValue5
  t9 := Tryz.underlying9
  a9 := Tryz.isAgg9
  z9 := Tryz.sizeOf9
  v9 := Tryz.zeroValue9
  t22 := Tryz.underlying77
  a22 := Tryz.isAgg77
  z22 := Tryz.sizeOf77
  v22 := Tryz.zeroValue77
  t25 := Tryz.underlying105
  a25 := Tryz.isAgg105
  z25 := Tryz.sizeOf105
  v25 := Tryz.zeroValue105
  t39 := Tryz.underlying143
  a39 := Tryz.isAgg143
  z39 := Tryz.sizeOf143
  v39 := Tryz.zeroValue143
  t45 := Tryz.underlying197
  a45 := Tryz.isAgg197
  z45 := Tryz.sizeOf197
  v45 := Tryz.zeroValue197
  t46 := Tryz.underlying198
  a46 := Tryz.isAgg198
  z46 := Tryz.sizeOf198
  v46 := Tryz.zeroValue198
  t50 := Tryz.underlying99
  a50 := Tryz.isAgg99
  z50 := Tryz.sizeOf99
  v50 := Tryz.zeroValue99
  t53 := Tryz.underlying205
  a53 := Tryz.isAgg205
  z53 := Tryz.sizeOf205
  v53 := Tryz.zeroValue205
  t55 := Tryz.underlying207
  a55 := Tryz.isAgg207
  z55 := Tryz.sizeOf207
  v55 := Tryz.zeroValue207
  t66 := Tryz.underlying230
  a66 := Tryz.isAgg230
  z66 := Tryz.sizeOf230
  v66 := Tryz.zeroValue230
  t70 := Tryz.underlying234
  a70 := Tryz.isAgg234
  z70 := Tryz.sizeOf234
  v70 := Tryz.zeroValue234
  t76 := Tryz.underlying251
  a76 := Tryz.isAgg251
  z76 := Tryz.sizeOf251
  v76 := Tryz.zeroValue251
  t77 := Tryz.underlying252
  a77 := Tryz.isAgg252
  z77 := Tryz.sizeOf252
  v77 := Tryz.zeroValue252 }
open Go.RowKit Go.Lib Go.Sort in
theorem Tryz.pdqsortCmpFunc_none {α : Type} [Inhabited α] (p : Option Addr) (cap : Nat) (lim : Int) (fv : Value) (w : World) :
    Calls Tryz.prog 101 #[.slice p 0 cap, .int .i64 0, .int .i64 0, .int .i64 lim, fv] w fun e w' => e = .returned (.tuple #[]) ∧ w' = w := AnyF.pdqsortCmpFunc_none Tryz.laysSlF014_f101 p cap lim fv w
def Tryz.laysSlF06_f67_ren : Go.Shelf.Ren := ⟨fun | 6 => 67 | 15 => 90 | 14 => 101 | 28 => 138 | 29 => 139 | 20 => 148 | 21 => 149 | 22 => 150 | 23 => 151 | 24 => 152 | 25 => 153 | 26 => 154 | 27 => 155 | 46 => 172 | 47 => 164 | 48 => 165 | 49 => 173 | 50 => 174 | 57 => 188 | n => n, fun | 22 => 77 | 24 => 103 | 25 => 105 | 3 => 3 | 39 => 143 | 0 => 0 | 53 => 205 | 55 => 207 | 4 => 4 | 46 => 198 | 45 => 197 | 50 => 99 | 5 => 5 | 9 => 9 | 66 => 230 | 70 => 234 | 76 => 251 | 77 => 252 | n => n, fun | n => n⟩
theorem Tryz.laysSlF06_f67 : Go.Proofs.SlLaysF0.n6 Tryz.prog Tryz.laysSlF06_f67_ren := {
  mixed := by kernel_rfl
  f6 := ⟨Tryz.f67.name, by decide, Tryz.func67.trans (congrArg some (by kernel_rfl))⟩
  f14 := ⟨Tryz.f101.name, by decide, Tryz.func101.trans (congrArg some (by kernel_rfl))⟩
  f15 := Tryz.func90.trans (congrArg some (by kernel_rfl))
  f20 := ⟨Tryz.f148.name, by decide, Tryz.func148.trans (congrArg some (by kernel_rfl))⟩
  f21 := ⟨Tryz.f149.name, by decide, Tryz.func149.trans (congrArg some (by kernel_rfl))⟩
  f22 := ⟨Tryz.f150.name, by decide, Tryz.func150.trans (congrArg some (by kernel_rfl))⟩
  f23 := ⟨Tryz.f151.name, by decide, Tryz.func151.trans (congrArg some (by kernel_rfl))⟩
  f24 := ⟨Tryz.f152.name, by decide, Tryz.func152.trans (congrArg some (by kernel_rfl))⟩
  f25 := ⟨Tryz.f153.name, by decide, Tryz.func153.trans (congrArg some (by kernel_rfl))⟩
  f26 := ⟨Tryz.f154.name, by decide, Tryz.func154.trans (congrArg some (by kernel_rfl))⟩
  f27 := ⟨Tryz.f155.name, by decide, Tryz.func155.trans (congrArg some (by kernel_rfl))⟩
  f28 := Tryz.func138.trans (congrArg some (by kernel_rfl))
  f29 := Tryz.func139.trans (congrArg some (by kernel_rfl))
  f46 := ⟨Tryz.f172.name, by decide, Tryz.func172.trans (congrArg some (by kernel_rfl))⟩
  f47 := Tryz.func164.trans (congrArg some (by kernel_rfl))
  f48 := Tryz.func165.trans (congrArg some (by kernel_rfl))
  f49 := ⟨Tryz.f173.name, by decide, Tryz.func173.trans (congrArg some (by kernel_rfl))⟩
  f50 := ⟨Tryz.f174.name, by decide, Tryz.func174.trans (congrArg some (by kernel_rfl))⟩
  f57 := ⟨Tryz.f188.name, by decide, Tryz.func188.trans (congrArg some (by kernel_rfl))⟩
  t0 := Tryz.underlying0
  a0 := Tryz.isAgg0
  z0 := Tryz.sizeOf0
  v0 := Tryz.zeroValue0
  t3 := Tryz.underlying3
  a3 := Tryz.isAgg3
  z3 := Tryz.sizeOf3
  v3 := Tryz.zeroValue3
  t4 := Tryz.underlying4
  a4 := Tryz.isAgg4
  z4 := Tryz.sizeOf4
  v4 := Tryz.zeroValue4
  t5 := Tryz.underlying5
  a5 := Tryz.isAgg5
  z5 := Tryz.sizeOf5
  v5 := Tryz.zeroValue5
  t9 := Tryz.underlying9
  a9 := Tryz.isAgg9
  z9 := Tryz.sizeOf9
  v9 := Tryz.zeroValue9
  t22 := Tryz.underlying77
  a22 := Tryz.isAgg77
  z22 := Tryz.sizeOf77
  v22 := Tryz.zeroValue77
  t25 := Tryz.underlying105
  a25 := Tryz.isAgg105
  z25 := Tryz.sizeOf105
  v25 := Tryz.zeroValue105
  t39 := Tryz.underlying143
  a39 := Tryz.isAgg143
  z39 := Tryz.sizeOf143
  v39 := Tryz.zeroValue143
  t45 := Tryz.underlying197
  a45 := Tryz.isAgg197
  z45 := Tryz.sizeOf197
  v45 := Tryz.zeroValue197
  t46 := Tryz.underlying198
  a46 := Tryz.isAgg198
  z46 := Tryz.sizeOf198
  v46 := Tryz.zeroValue198
  t50 := Tryz.underlying99
  a50 := Tryz.isAgg99
  z50 := Tryz.sizeOf99
  v50 := Tryz.zeroValue99
  t53 := Tryz.underlying205
  a53 := Tryz.isAgg205
  z53 := Tryz.sizeOf205
  v53 := Tryz.zeroValue205
  t55 := Tryz.underlying207
  a55 := Tryz.isAgg207
  z55 := Tryz.sizeOf207
  v55 := Tryz.zeroValue207
  t66 := Tryz.underlying230
  a66 := Tryz.isAgg230
  z66 := Tryz.sizeOf230
  v66 := Tryz.zeroValue230
  t70 := Tryz.underlying234
  a70 := Tryz.isAgg234
  z70 := Tryz.sizeOf234
  v70 := Tryz.zeroValue234
  t76 := Tryz.underlying251
  a76 := Tryz.isAgg251
  z76 := Tryz.sizeOf251
  v76 := Tryz.zeroValue251
  t77 := Tryz.underlying252
  a77 := Tryz.isAgg252
  z77 := Tryz.sizeOf252
  v77 := Tryz.zeroValue252 }
open Go.RowKit Go.Lib Go.Sort in
/-- **slices.SortFunc AT NO ELEMENT, A nil SLICE TOO: nothing turns.** (LAID AT THE INSTANCE 'slices.SortFunc[[]pub-labyrinth/pub/gonum/graph.Node,pub-labyrinth/pub/gonum/graph.Node]': no walk: one application.) -/
theorem Tryz.slices_SortFunc_none {α : Type} [Inhabited α] (p : Option Addr) (cap : Nat) (fv : Value) (w : World) :
    Calls Tryz.prog 67 #[.slice p 0 cap, fv] w fun e w' => e = .returned (.tuple #[]) ∧ w' = w := AnyF.slices_SortFunc_none Tryz.laysSlF06_f67 p cap fv w
open Go.RowKit Go.Lib Go.Sort in
/-- **slices.SortFunc AT ONE CELL, UNDER A 'cmp' THAT PARTS WHATEVER TWO THAT ARE NOT ONE: THE ROW HOLDS core's 'mergeSort'.** (LAID AT THE INSTANCE 'slices.SortFunc[[]pub-labyrinth/pub/gonum/graph.Node,pub-labyrinth/pub/gonum/graph.Node]': no walk: one application.) -/
theorem Tryz.slices_SortFunc_total {α : Type} [Inhabited α] (enc : α → Value) (h1 : OneCell enc) (cf : α → α → Int) (hO : SWO (ltOf cf)) (g : Nat) (cb : Array Value) (blk off cap : Nat) (d : Array α) (w : World) (eg : ∀ args w, (callFunc g args).run Tryz.prog w = .ok (.enter g args) w) (hcmp : CmpLays1 Tryz.prog g cb enc cf blk off d.size w) (hH : Holds enc w blk off d) (hblk : blk < w.heap.size) (hsz : d.size < 4611686018427387904) (hT : ∀ x y, (ltOf cf) x y = false → (ltOf cf) y x = false → x = y) :
    Calls Tryz.prog 67 #[.slice (some ⟨blk, off, none⟩) d.size cap, .func (.func g) #[] cb] w fun e w' =>
      e = .returned (.tuple #[]) ∧ ∃ n os, w' = sortWorld enc w blk off n (d.toList.mergeSort fun x y => !(ltOf cf) y x).toArray os := Any.slices_SortFunc_total Tryz.laysSlF6_f67 enc h1 cf hO g cb blk off cap d w eg hcmp hH hblk hsz hT
end Go.Proofs
