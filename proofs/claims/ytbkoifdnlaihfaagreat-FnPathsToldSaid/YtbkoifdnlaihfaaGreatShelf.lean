/-
  DERIVED: THE SHELF's CONTRACTS AT THIS DUMP, IN PLAIN WORDS (tools/lay-plain.mjs out of 'TryzShelf.lean', which tools/lay-shelf.mjs wrote): THE SAME DECLARATIONS UNDER THE SAME NAMES: 'import', 'namespace', 'open', 'def', 'theorem' AND NOTHING ELSE: no command of the shelf's: FOR A HAND-IN. Each laying: the table of numbers ('.._ren') and one theorem, a field a fact of the dump's own or the kernel's comparison; each contract: ONE APPLICATION.
-/
import Derived.Shelf.Small.Bits
import Derived.Shelf.Strconv.Itoa0
import Derived.Ground.SlgnProg
import Derived.Shelf.SlicesG.Clone
import Derived.Shelf.SlicesG.CompactI
import Derived.Shelf.SlicesG.SearchI
import Derived.Ground.SlsfProg
import Derived.Shelf.SlSortCmp.Insertion
import Derived.Ground.SlgmProg
import Derived.Shelf.SortM.Plain
import Derived.Shelf.SortM.SortNone
import Derived.Shelf.SlSortCmp.SiftDown1
import Derived.Shelf.SlSortCmp.HeapSort1
import Derived.Shelf.SlSortCmp.Insertion1
import Derived.Shelf.SlSortCmp.Median1
import Derived.Shelf.SlSortCmp.Pivot1
import Derived.Shelf.SlSortCmp.ReverseRange1
import Derived.Shelf.SlSortCmp.PartialInsertion1
import Derived.Shelf.SlSortCmp.PartitionEqual1
import Derived.Shelf.SlSortCmp.Partition1
import Derived.Shelf.SlSortCmp.Pdq1
import Derived.Shelf.SlSortCmp.Whole1
import Derived.Test.YtbkoifdnlaihfaaGreatProg
namespace Go.Proofs
open Go.Shelf
def Tryz.lays128_ren : Go.Shelf.Ren := ⟨fun | 128 => 157 | n => n, fun | 51 => 221 | 3 => 3 | 4 => 4 | 46 => 199 | 5 => 5 | 9 => 9 | n => n, fun | n => n⟩
theorem Tryz.lays128 : Go.Proofs.Lays.n128 Tryz.prog Tryz.lays128_ren := {
  mixed := by kernel_rfl
  f128 := Tryz.func157.trans (congrArg some (by kernel_rfl))
  t3 := Tryz.underlying3
  a3 := Tryz.isAgg3
  z3 := Tryz.sizeOf3
  v3 := Tryz.zeroValue3
  t4 := Tryz.underlying4
  a4 := Tryz.isAgg4
  z4 := Tryz.sizeOf4
  v4 := Tryz.zeroValue4
  t5 := Tryz.underlying5
  a5 := Tryz.isAgg5
  z5 := Tryz.sizeOf5
  v5 := Tryz.zeroValue5
  t9 := Tryz.underlying9
  a9 := Tryz.isAgg9
  z9 := Tryz.sizeOf9
  v9 := Tryz.zeroValue9
  t46 := Tryz.underlying199
  a46 := Tryz.isAgg199
  z46 := Tryz.sizeOf199
  v46 := Tryz.zeroValue199
  t51 := Tryz.underlying221
  a51 := Tryz.isAgg221
  z51 := Tryz.sizeOf221
  v51 := Tryz.zeroValue221 }
/-- bits.Len32: "Len32 returns the minimum number of bits required to represent x; the result is 0 for x == 0.": IT RETURNS 'Lib.bitLen x'; the world is as it was. ('h0', 'h1': x is a uint32.) (LAID: no walk: one application.) -/
theorem Tryz.bits_Len32 (x : Int) (w : World) (h0 : 0 ≤ x) (h1 : x ≤ 4294967295) :
    Calls Tryz.prog 157 #[.int .u32 x] w fun e w' => e = .returned (.int .i64 (Lib.bitLen x.toNat)) ∧ w' = w := Any.bits_Len32 Tryz.lays128 x w h0 h1
def Tryz.lays125_ren : Go.Shelf.Ren := ⟨fun | 125 => 138 | 128 => 157 | 129 => 158 | n => n, fun | 46 => 199 | 3 => 3 | 51 => 221 | 53 => 223 | 4 => 4 | 5 => 5 | 9 => 9 | n => n, fun | n => n⟩
theorem Tryz.lays125 : Go.Proofs.Lays.n125 Tryz.prog Tryz.lays125_ren := {
  mixed := by kernel_rfl
  f125 := Tryz.func138.trans (congrArg some (by kernel_rfl))
  f128 := Tryz.func157.trans (congrArg some (by kernel_rfl))
  f129 := Tryz.func158.trans (congrArg some (by kernel_rfl))
  t3 := Tryz.underlying3
  a3 := Tryz.isAgg3
  z3 := Tryz.sizeOf3
  v3 := Tryz.zeroValue3
  t4 := Tryz.underlying4
  a4 := Tryz.isAgg4
  z4 := Tryz.sizeOf4
  v4 := Tryz.zeroValue4
  t5 := Tryz.underlying5
  a5 := Tryz.isAgg5
  z5 := Tryz.sizeOf5
  v5 := Tryz.zeroValue5
  t9 := Tryz.underlying9
  a9 := Tryz.isAgg9
  z9 := Tryz.sizeOf9
  v9 := Tryz.zeroValue9
  t46 := Tryz.underlying199
  a46 := Tryz.isAgg199
  z46 := Tryz.sizeOf199
  v46 := Tryz.zeroValue199
  t51 := Tryz.underlying221
  a51 := Tryz.isAgg221
  z51 := Tryz.sizeOf221
  v51 := Tryz.zeroValue221
  t53 := Tryz.underlying223
  a53 := Tryz.isAgg223
  z53 := Tryz.sizeOf223
  v53 := Tryz.zeroValue223 }
/-- bits.Len: "Len returns the minimum number of bits required to represent x; the result is 0 for x == 0.": IT RETURNS 'Lib.bitLen x'; the world is as it was. (A uint has 64 bits in the model.) ITS CALLEE bits.Len64 IS MET BY ITS OWN CONTRACT OFF THE SHELF (lay that first). (LAID: no walk: one application.) -/
theorem Tryz.bits_Len (x : Int) (w : World) (h0 : 0 ≤ x) (h1 : x ≤ 18446744073709551615) :
    Calls Tryz.prog 138 #[.int .u64 x] w fun e w' => e = .returned (.int .i64 (Lib.bitLen x.toNat)) ∧ w' = w := Any.bits_Len Tryz.lays125 x w h0 h1
def Tryz.lays129_ren : Go.Shelf.Ren := ⟨fun | 129 => 158 | n => n, fun | 53 => 223 | 3 => 3 | 4 => 4 | 46 => 199 | 5 => 5 | 9 => 9 | n => n, fun | n => n⟩
theorem Tryz.lays129 : Go.Proofs.Lays.n129 Tryz.prog Tryz.lays129_ren := {
  mixed := by kernel_rfl
  f129 := Tryz.func158.trans (congrArg some (by kernel_rfl))
  t3 := Tryz.underlying3
  a3 := Tryz.isAgg3
  z3 := Tryz.sizeOf3
  v3 := Tryz.zeroValue3
  t4 := Tryz.underlying4
  a4 := Tryz.isAgg4
  z4 := Tryz.sizeOf4
  v4 := Tryz.zeroValue4
  t5 := Tryz.underlying5
  a5 := Tryz.isAgg5
  z5 := Tryz.sizeOf5
  v5 := Tryz.zeroValue5
  t9 := Tryz.underlying9
  a9 := Tryz.isAgg9
  z9 := Tryz.sizeOf9
  v9 := Tryz.zeroValue9
  t46 := Tryz.underlying199
  a46 := Tryz.isAgg199
  z46 := Tryz.sizeOf199
  v46 := Tryz.zeroValue199
  t53 := Tryz.underlying223
  a53 := Tryz.isAgg223
  z53 := Tryz.sizeOf223
  v53 := Tryz.zeroValue223 }
/-- bits.Len64: "Len64 returns the minimum number of bits required to represent x; the result is 0 for x == 0.": IT RETURNS 'Lib.bitLen x'; the world is as it was. ('h0', 'h1': x is a uint64.) (LAID: no walk: one application.) -/
theorem Tryz.bits_Len64 (x : Int) (w : World) (h0 : 0 ≤ x) (h1 : x ≤ 18446744073709551615) :
    Calls Tryz.prog 158 #[.int .u64 x] w fun e w' => e = .returned (.int .i64 (Lib.bitLen x.toNat)) ∧ w' = w := Any.bits_Len64 Tryz.lays129 x w h0 h1
def Tryz.laysSlN41_f96_ren : Go.Shelf.Ren := ⟨fun | 41 => 96 | n => n, fun | 22 => 22 | 23 => 3 | 4 => 4 | n => n, fun | n => n⟩
theorem Tryz.laysSlN41_f96 : Go.Proofs.SlLaysN.n41 Tryz.prog Tryz.laysSlN41_f96_ren := {
  mixed := by kernel_rfl
  f41 := ⟨Tryz.f96.name, by decide, Tryz.func96.trans (congrArg some (by kernel_rfl))⟩
  t4 := Tryz.underlying4
  a4 := Tryz.isAgg4
  z4 := Tryz.sizeOf4
  v4 := Tryz.zeroValue4
  t22 := Tryz.underlying22
  a22 := Tryz.isAgg22
  z22 := Tryz.sizeOf22
  v22 := Tryz.zeroValue22
  t23 := Tryz.underlying3
  a23 := Tryz.isAgg3
  z23 := Tryz.sizeOf3
  v23 := Tryz.zeroValue3
  i23 := by kernel_rfl }
open Go.RowKit Go.Lib in
/-- slices.Clone at []int: "Clone returns a copy of the slice. The elements are copied using assignment, so this is a shallow clone. The result may have additional unused capacity. The result preserves the nilness of s.": OF A SLICE THAT IS NOT nil IT RETURNS A SLICE THAT IS NOT nil, OF THE SAME ELEMENTS, IN MEMORY OF THE CALL's OWN: in the how-to's words (6f): 'w'.ownsRow B e 1 v' n cells': v' begins at the head of a row among the blocks from B on (B: the heap's size at the call), not frozen, whose first cells are the elements · 'Below B w w'': below B all is as it was. The capacity is whatever the run-time gives. 'zs': what the cells behind the slice's address hold; 'zs.take n': its elements. (LAID AT THE INSTANCE 'slices.Clone[[]int,int]': no walk: one application.) -/
theorem Tryz.slices_Clone_int_f96 (b off n c : Nat) (zs : List Int) (w : World) (hz : n ≤ zs.length) (hbig : n * 8 ≤ 140737488355328) (hc : ∀ j, j < zs.length → w.cell? ⟨b, off + j, none⟩ = some (.int .i64 (zs.getD j 0))) :
    Calls Tryz.prog 96 #[.slice (some ⟨b, off, none⟩) n c] w fun e w' => ∃ v', e = .returned v' ∧ w'.ownsRow w.heap.size 3 1 v' n ((zs.take n).map (Value.int .i64)) ∧ v' ≠ .slice none 0 0 ∧ Below w.heap.size w w' := AnyG.slices_Clone_int Tryz.laysSlN41_f96 b off n c zs w hz hbig hc
def Tryz.laysSlN41_f130_ren : Go.Shelf.Ren := ⟨fun | 41 => 130 | n => n, fun | 22 => 186 | 23 => 2 | 4 => 4 | n => n, fun | n => n⟩
theorem Tryz.laysSlN41_f130 : Go.Proofs.SlLaysN.n41 Tryz.prog Tryz.laysSlN41_f130_ren := {
  mixed := by kernel_rfl
  f41 := ⟨Tryz.f130.name, by decide, Tryz.func130.trans (congrArg some (by kernel_rfl))⟩
  t4 := Tryz.underlying4
  a4 := Tryz.isAgg4
  z4 := Tryz.sizeOf4
  v4 := Tryz.zeroValue4
  t22 := Tryz.underlying186
  a22 := Tryz.isAgg186
  z22 := Tryz.sizeOf186
  v22 := Tryz.zeroValue186
  t23 := Tryz.underlying2
  a23 := Tryz.isAgg2
  z23 := Tryz.sizeOf2
  v23 := Tryz.zeroValue2
  i23 := by kernel_rfl }
open Go.RowKit Go.Lib in
/-- slices.Clone at []int: "Clone returns a copy of the slice. The elements are copied using assignment, so this is a shallow clone. The result may have additional unused capacity. The result preserves the nilness of s.": OF A SLICE THAT IS NOT nil IT RETURNS A SLICE THAT IS NOT nil, OF THE SAME ELEMENTS, IN MEMORY OF THE CALL's OWN: in the how-to's words (6f): 'w'.ownsRow B e 1 v' n cells': v' begins at the head of a row among the blocks from B on (B: the heap's size at the call), not frozen, whose first cells are the elements · 'Below B w w'': below B all is as it was. The capacity is whatever the run-time gives. 'zs': what the cells behind the slice's address hold; 'zs.take n': its elements. (LAID AT THE INSTANCE 'slices.Clone[[]int64,int64]': no walk: one application.) -/
theorem Tryz.slices_Clone_int_f130 (b off n c : Nat) (zs : List Int) (w : World) (hz : n ≤ zs.length) (hbig : n * 8 ≤ 140737488355328) (hc : ∀ j, j < zs.length → w.cell? ⟨b, off + j, none⟩ = some (.int .i64 (zs.getD j 0))) :
    Calls Tryz.prog 130 #[.slice (some ⟨b, off, none⟩) n c] w fun e w' => ∃ v', e = .returned v' ∧ w'.ownsRow w.heap.size 2 1 v' n ((zs.take n).map (Value.int .i64)) ∧ v' ≠ .slice none 0 0 ∧ Below w.heap.size w w' := AnyG.slices_Clone_int Tryz.laysSlN41_f130 b off n c zs w hz hbig hc
open Go.RowKit Go.Lib in
/-- The same at nil: nil comes back; the world is as it was. (LAID AT THE INSTANCE 'slices.Clone[[]int,int]': no walk: one application.) -/
theorem Tryz.slices_Clone_int_nil_f96 (n c : Nat) (w : World) :
    Calls Tryz.prog 96 #[.slice none n c] w fun e w' => e = .returned (.slice none 0 0) ∧ w' = w := AnyG.slices_Clone_int_nil Tryz.laysSlN41_f96 n c w
open Go.RowKit Go.Lib in
/-- The same at nil: nil comes back; the world is as it was. (LAID AT THE INSTANCE 'slices.Clone[[]int64,int64]': no walk: one application.) -/
theorem Tryz.slices_Clone_int_nil_f130 (n c : Nat) (w : World) :
    Calls Tryz.prog 130 #[.slice none n c] w fun e w' => e = .returned (.slice none 0 0) ∧ w' = w := AnyG.slices_Clone_int_nil Tryz.laysSlN41_f130 n c w
open Go.RowKit Go.Lib in
/-- The same at a slice of length 0 that is not nil, WHATEVER ITS ADDRESS (no cell is asked for): a slice that is not nil and owns nothing comes back. (LAID AT THE INSTANCE 'slices.Clone[[]int,int]': no walk: one application.) -/
theorem Tryz.slices_Clone_int_zero_f96 (a : Addr) (c : Nat) (w : World) :
    Calls Tryz.prog 96 #[.slice (some a) 0 c] w fun e w' => ∃ v', e = .returned v' ∧ w'.ownsRow w.heap.size 3 1 v' 0 [] ∧ v' ≠ .slice none 0 0 ∧ Below w.heap.size w w' := AnyG.slices_Clone_int_zero Tryz.laysSlN41_f96 a c w
open Go.RowKit Go.Lib in
/-- The same at a slice of length 0 that is not nil, WHATEVER ITS ADDRESS (no cell is asked for): a slice that is not nil and owns nothing comes back. (LAID AT THE INSTANCE 'slices.Clone[[]int64,int64]': no walk: one application.) -/
theorem Tryz.slices_Clone_int_zero_f130 (a : Addr) (c : Nat) (w : World) :
    Calls Tryz.prog 130 #[.slice (some a) 0 c] w fun e w' => ∃ v', e = .returned v' ∧ w'.ownsRow w.heap.size 2 1 v' 0 [] ∧ v' ≠ .slice none 0 0 ∧ Below w.heap.size w w' := AnyG.slices_Clone_int_zero Tryz.laysSlN41_f130 a c w
def Tryz.laysSlN43_f129_ren : Go.Shelf.Ren := ⟨fun | 43 => 129 | n => n, fun | 22 => 186 | 23 => 2 | 3 => 3 | 4 => 4 | 0 => 0 | n => n, fun | n => n⟩
theorem Tryz.laysSlN43_f129 : Go.Proofs.SlLaysN.n43 Tryz.prog Tryz.laysSlN43_f129_ren := {
  mixed := by kernel_rfl
  f43 := ⟨Tryz.f129.name, by decide, Tryz.func129.trans (congrArg some (by kernel_rfl))⟩
  t0 := Tryz.underlying0
  a0 := Tryz.isAgg0
  z0 := Tryz.sizeOf0
  v0 := Tryz.zeroValue0
  t3 := Tryz.underlying3
  a3 := Tryz.isAgg3
  z3 := Tryz.sizeOf3
  v3 := Tryz.zeroValue3
  t4 := Tryz.underlying4
  a4 := Tryz.isAgg4
  z4 := Tryz.sizeOf4
  v4 := Tryz.zeroValue4
  t22 := Tryz.underlying186
  a22 := Tryz.isAgg186
  z22 := Tryz.sizeOf186
  v22 := Tryz.zeroValue186
  t23 := Tryz.underlying2
  a23 := Tryz.isAgg2
  z23 := Tryz.sizeOf2
  v23 := Tryz.zeroValue2
  i23 := by kernel_rfl }
open Go.RowKit Go.Lib Go.Sort in
/-- slices.Compact at []int, over an array: the library's two loops are walked. (LAID AT THE INSTANCE 'slices.Compact[[]int64,int64]': no walk: one application.) -/
theorem Tryz.slices_Compact_int_arr (blk off cap : Nat) (d : Array Int) (w : World) (hH : Holds encI w blk off d) (hsz : d.size ≤ 9223372036854775807) (hcap : d.size ≤ cap) :
    Calls Tryz.prog 129 #[.slice (some ⟨blk, off, none⟩) d.size cap] w fun e w' => e = .returned (.slice (some ⟨blk, off, none⟩) (compactUpTo d d.size).length cap) ∧ ∃ q, w' = putRow encI (Sort.ahead w q) blk off (compactUpTo d d.size ++ List.replicate (d.size - (compactUpTo d d.size).length) 0).toArray := AnyG.slices_Compact_int_arr Tryz.laysSlN43_f129 blk off cap d w hH hsz hcap
open Go.RowKit Go.Lib Go.Sort in
/-- slices.Compact at []int: "Compact replaces consecutive runs of equal elements with a single copy. This is like the uniq command found on Unix. Compact modifies the contents of the slice s and returns the modified slice, which may have a smaller length. Compact zeroes the elements between the new length and the original length. The result preserves the nilness of s.": IT RETURNS THE SLICE CUT TO 'Lib.compact zs'; ITS CELLS HOLD 'Lib.compact zs', THEN ZERO VALUES up to the old length; all else is as it was, but for the count of draws. IN THE WORDS OF slices.Sort's CONTRACT ('Holds', 'putRow'): so the everyday 'slices.Sort(xs); xs = slices.Compact(xs)' goes from the one contract to the other. It asks 'zs.length ≤ cap' (every slice's: the reslicing 's[:k]' looks at it). Length 0, nil: '.._empty'. (LAID AT THE INSTANCE 'slices.Compact[[]int64,int64]': no walk: one application.) -/
theorem Tryz.slices_Compact_int (blk off cap : Nat) (zs : List Int) (w : World) (hH : Holds (Value.int .i64) w blk off zs.toArray) (hsz : zs.length ≤ 9223372036854775807) (hcap : zs.length ≤ cap) :
    Calls Tryz.prog 129 #[.slice (some ⟨blk, off, none⟩) zs.length cap] w fun e w' => e = .returned (.slice (some ⟨blk, off, none⟩) (Lib.compact zs).length cap) ∧ ∃ q, w' = putRow (Value.int .i64) (Sort.ahead w q) blk off (Lib.compact zs ++ List.replicate (zs.length - (Lib.compact zs).length) 0).toArray := AnyG.slices_Compact_int Tryz.laysSlN43_f129 blk off cap zs w hH hsz hcap
open Go.RowKit Go.Lib Go.Sort in
/-- The same at a slice of length 0, a nil one too: it comes back as it is. (LAID AT THE INSTANCE 'slices.Compact[[]int64,int64]': no walk: one application.) -/
theorem Tryz.slices_Compact_int_empty (a : Option Addr) (cap : Nat) (w : World) :
    Calls Tryz.prog 129 #[.slice a 0 cap] w fun e w' => e = .returned (.slice a 0 cap) ∧ w' = w := AnyG.slices_Compact_int_empty Tryz.laysSlN43_f129 a cap w
def Tryz.laysSlN68_f167_ren : Go.Shelf.Ren := ⟨fun | 68 => 167 | n => n, fun | 23 => 3 | 4 => 4 | n => n, fun | n => n⟩
theorem Tryz.laysSlN68_f167 : Go.Proofs.SlLaysN.n68 Tryz.prog Tryz.laysSlN68_f167_ren := {
  mixed := by kernel_rfl
  f68 := ⟨Tryz.f167.name, by decide, Tryz.func167.trans (congrArg some (by kernel_rfl))⟩
  t4 := Tryz.underlying4
  a4 := Tryz.isAgg4
  z4 := Tryz.sizeOf4
  v4 := Tryz.zeroValue4
  t23 := Tryz.underlying3
  a23 := Tryz.isAgg3
  z23 := Tryz.sizeOf3
  v23 := Tryz.zeroValue3 }
open Go.RowKit Go.Lib in
/-- cmp.isNaN[int]: 'x != x': false. (LAID AT THE INSTANCE 'cmp.isNaN[int]': no walk: one application.) -/
theorem Tryz.cmp_isNaN_int2_f167 (x : Int) (w : World) :
    Calls Tryz.prog 167 #[.int .i64 x] w fun e w' => e = .returned (.bool false) ∧ w' = w := AnyG.cmp_isNaN_int2 Tryz.laysSlN68_f167 x w
def Tryz.laysSlN68_f169_ren : Go.Shelf.Ren := ⟨fun | 68 => 169 | n => n, fun | 23 => 2 | 4 => 4 | n => n, fun | n => n⟩
theorem Tryz.laysSlN68_f169 : Go.Proofs.SlLaysN.n68 Tryz.prog Tryz.laysSlN68_f169_ren := {
  mixed := by kernel_rfl
  f68 := ⟨Tryz.f169.name, by decide, Tryz.func169.trans (congrArg some (by kernel_rfl))⟩
  t4 := Tryz.underlying4
  a4 := Tryz.isAgg4
  z4 := Tryz.sizeOf4
  v4 := Tryz.zeroValue4
  t23 := Tryz.underlying2
  a23 := Tryz.isAgg2
  z23 := Tryz.sizeOf2
  v23 := Tryz.zeroValue2 }
open Go.RowKit Go.Lib in
/-- cmp.isNaN[int]: 'x != x': false. (LAID AT THE INSTANCE 'cmp.isNaN[int64]': no walk: one application.) -/
theorem Tryz.cmp_isNaN_int2_f169 (x : Int) (w : World) :
    Calls Tryz.prog 169 #[.int .i64 x] w fun e w' => e = .returned (.bool false) ∧ w' = w := AnyG.cmp_isNaN_int2 Tryz.laysSlN68_f169 x w
def Tryz.laysSlN60_f147_ren : Go.Shelf.Ren := ⟨fun | 60 => 147 | n => n, fun | 23 => 2 | 4 => 4 | n => n, fun | n => n⟩
theorem Tryz.laysSlN60_f147 : Go.Proofs.SlLaysN.n60 Tryz.prog Tryz.laysSlN60_f147_ren := {
  mixed := by kernel_rfl
  f60 := ⟨Tryz.f147.name, by decide, Tryz.func147.trans (congrArg some (by kernel_rfl))⟩
  t4 := Tryz.underlying4
  a4 := Tryz.isAgg4
  z4 := Tryz.sizeOf4
  v4 := Tryz.zeroValue4
  t23 := Tryz.underlying2
  a23 := Tryz.isAgg2
  z23 := Tryz.sizeOf2
  v23 := Tryz.zeroValue2 }
open Go.RowKit Go.Lib in
/-- slices.isNaN[int]: 'x != x': false. (LAID AT THE INSTANCE 'slices.isNaN[int64]': no walk: one application.) -/
theorem Tryz.slices_isNaN_int2 (x : Int) (w : World) :
    Calls Tryz.prog 147 #[.int .i64 x] w fun e w' => e = .returned (.bool false) ∧ w' = w := AnyG.slices_isNaN_int2 Tryz.laysSlN60_f147 x w
def Tryz.laysSlN59_f146_ren : Go.Shelf.Ren := ⟨fun | 59 => 146 | 68 => 169 | n => n, fun | 23 => 2 | 4 => 4 | n => n, fun | n => n⟩
theorem Tryz.laysSlN59_f146 : Go.Proofs.SlLaysN.n59 Tryz.prog Tryz.laysSlN59_f146_ren := {
  mixed := by kernel_rfl
  f59 := ⟨Tryz.f146.name, by decide, Tryz.func146.trans (congrArg some (by kernel_rfl))⟩
  f68 := ⟨Tryz.f169.name, by decide, Tryz.func169.trans (congrArg some (by kernel_rfl))⟩
  t4 := Tryz.underlying4
  a4 := Tryz.isAgg4
  z4 := Tryz.sizeOf4
  v4 := Tryz.zeroValue4
  t23 := Tryz.underlying2
  a23 := Tryz.isAgg2
  z23 := Tryz.sizeOf2
  v23 := Tryz.zeroValue2 }
open Go.RowKit Go.Lib in
/-- cmp.Less[int]: "Less reports whether x is less than y.": 'x < y'; the world is as it was. (LAID AT THE INSTANCE 'cmp.Less[int64]': no walk: one application.) -/
theorem Tryz.cmp_Less_int2_f146 (x y : Int) (w : World) :
    Calls Tryz.prog 146 #[.int .i64 x, .int .i64 y] w fun e w' => e = .returned (.bool (decide (x < y))) ∧ w' = w := AnyG.cmp_Less_int2 Tryz.laysSlN59_f146 x y w
def Tryz.laysSlN59_f154_ren : Go.Shelf.Ren := ⟨fun | 59 => 154 | 68 => 167 | n => n, fun | 23 => 3 | 4 => 4 | n => n, fun | n => n⟩
theorem Tryz.laysSlN59_f154 : Go.Proofs.SlLaysN.n59 Tryz.prog Tryz.laysSlN59_f154_ren := {
  mixed := by kernel_rfl
  f59 := ⟨Tryz.f154.name, by decide, Tryz.func154.trans (congrArg some (by kernel_rfl))⟩
  f68 := ⟨Tryz.f167.name, by decide, Tryz.func167.trans (congrArg some (by kernel_rfl))⟩
  t4 := Tryz.underlying4
  a4 := Tryz.isAgg4
  z4 := Tryz.sizeOf4
  v4 := Tryz.zeroValue4
  t23 := Tryz.underlying3
  a23 := Tryz.isAgg3
  z23 := Tryz.sizeOf3
  v23 := Tryz.zeroValue3 }
open Go.RowKit Go.Lib in
/-- cmp.Less[int]: "Less reports whether x is less than y.": 'x < y'; the world is as it was. (LAID AT THE INSTANCE 'cmp.Less[int]': no walk: one application.) -/
theorem Tryz.cmp_Less_int2_f154 (x y : Int) (w : World) :
    Calls Tryz.prog 154 #[.int .i64 x, .int .i64 y] w fun e w' => e = .returned (.bool (decide (x < y))) ∧ w' = w := AnyG.cmp_Less_int2 Tryz.laysSlN59_f154 x y w
def Tryz.laysSlN49_f136_ren : Go.Shelf.Ren := ⟨fun | 49 => 136 | 59 => 146 | 60 => 147 | 68 => 169 | n => n, fun | 22 => 186 | 23 => 2 | 3 => 3 | 4 => 4 | 51 => 199 | 0 => 0 | n => n, fun | n => n⟩
theorem Tryz.laysSlN49_f136 : Go.Proofs.SlLaysN.n49 Tryz.prog Tryz.laysSlN49_f136_ren := {
  mixed := by kernel_rfl
  f49 := ⟨Tryz.f136.name, by decide, Tryz.func136.trans (congrArg some (by kernel_rfl))⟩
  f59 := ⟨Tryz.f146.name, by decide, Tryz.func146.trans (congrArg some (by kernel_rfl))⟩
  f60 := ⟨Tryz.f147.name, by decide, Tryz.func147.trans (congrArg some (by kernel_rfl))⟩
  f68 := ⟨Tryz.f169.name, by decide, Tryz.func169.trans (congrArg some (by kernel_rfl))⟩
  t0 := Tryz.underlying0
  a0 := Tryz.isAgg0
  z0 := Tryz.sizeOf0
  v0 := Tryz.zeroValue0
  t3 := Tryz.underlying3
  a3 := Tryz.isAgg3
  z3 := Tryz.sizeOf3
  v3 := Tryz.zeroValue3
  t4 := Tryz.underlying4
  a4 := Tryz.isAgg4
  z4 := Tryz.sizeOf4
  v4 := Tryz.zeroValue4
  t22 := Tryz.underlying186
  a22 := Tryz.isAgg186
  z22 := Tryz.sizeOf186
  v22 := Tryz.zeroValue186
  t23 := Tryz.underlying2
  a23 := Tryz.isAgg2
  z23 := Tryz.sizeOf2
  v23 := Tryz.zeroValue2
  t51 := Tryz.underlying199
  a51 := Tryz.isAgg199
  z51 := Tryz.sizeOf199
  v51 := Tryz.zeroValue199 }
open Go.RowKit Go.Lib in
/-- slices.BinarySearch at []int: "BinarySearch searches for target in a sorted slice and returns the earliest position where target is found, or the position where target would appear in the sort order; it also returns a bool saying whether the target is really found in the slice. The slice must be sorted in increasing order.": OF A SORTED SLICE IT RETURNS how many elements are less than the target, and whether the target is among the elements; the world is as it was but for the count of draws. 'zs': what the cells behind the slice's address hold; 'zs.take n': its elements. (Of a slice that is not sorted: no contract here.) (LAID AT THE INSTANCE 'slices.BinarySearch[[]int64,int64]': no walk: one application.) -/
theorem Tryz.slices_BinarySearch_int (b off n c : Nat) (zs : List Int) (x : Int) (w : World) (hz : n ≤ zs.length) (hbig : n < 4611686018427387904) (hc : ∀ j, j < zs.length → w.cell? ⟨b, off + j, none⟩ = some (.int .i64 (zs.getD j 0))) (hs : (zs.take n).Pairwise (· ≤ ·)) :
    Calls Tryz.prog 136 #[.slice (some ⟨b, off, none⟩) n c, .int .i64 x] w fun e w' => e = .returned (.tuple #[.int .i64 ((zs.take n).countP (· < x) : Nat), .bool ((zs.take n).contains x)]) ∧ ∃ q, w' = w.drewN q := AnyG.slices_BinarySearch_int Tryz.laysSlN49_f136 b off n c zs x w hz hbig hc hs
def Tryz.laysSlF20_f159_ren : Go.Shelf.Ren := ⟨fun | 20 => 159 | n => n, fun | 24 => 22 | 22 => 35 | 3 => 3 | 25 => 180 | 4 => 4 | 0 => 0 | n => n, fun | n => n⟩
theorem Tryz.laysSlF20_f159 : Go.Proofs.SlLaysF.n20 Tryz.prog Tryz.laysSlF20_f159_ren := {
  mixed := by kernel_rfl
  f20 := ⟨Tryz.f159.name, by decide, Tryz.func159.trans (congrArg some (by kernel_rfl))⟩
  t0 := Tryz.underlying0
  a0 := Tryz.isAgg0
  z0 := Tryz.sizeOf0
  v0 := Tryz.zeroValue0
  t3 := Tryz.underlying3
  a3 := Tryz.isAgg3
  z3 := Tryz.sizeOf3
  v3 := Tryz.zeroValue3
  t4 := Tryz.underlying4
  a4 := Tryz.isAgg4
  z4 := Tryz.sizeOf4
  v4 := Tryz.zeroValue4
  t22 := Tryz.underlying35
  a22 := Tryz.isAgg35
  z22 := Tryz.sizeOf35
  v22 := Tryz.zeroValue35
  a24 := Tryz.isAgg22
  z24 := Tryz.sizeOf22
  t25 := Tryz.underlying180
  a25 := Tryz.isAgg180
  z25 := Tryz.sizeOf180
  v25 := Tryz.zeroValue180 }
open Go.RowKit Go.Lib Go.Sort in
theorem Tryz.insertionSortCmpFunc_one {α : Type} [Inhabited α] (enc : α → Value) (hO : OneCell enc) (cf : α → α → Int) (g : Nat) (cb : Array Value) (blk off cap a b : Nat) (d : Array α) (w : World) (eg : ∀ args w, (callFunc g args).run Tryz.prog w = .ok (.enter g args) w) (hcmp : CmpReads Tryz.prog g cb enc cf blk off d.size w) (hH : Holds enc w blk off d) (hab : a ≤ b) (hb : b ≤ d.size) (hsz : d.size < 4611686018427387904) :
    Calls Tryz.prog 159 #[.slice (some ⟨blk, off, none⟩) d.size cap, .int .i64 a, .int .i64 b, .func (.func g) #[] cb] w fun e w' =>
      e = .returned (.tuple #[]) ∧ ∃ n, w' = (putRow enc w blk off (Sort.insertionSort (ltOf cf) d a b)).drewN n := Any.insertionSortCmpFunc_one Tryz.laysSlF20_f159 enc hO cf g cb blk off cap a b d w eg hcmp hH hab hb hsz
def Tryz.laysSlM5_f118_ren : Go.Shelf.Ren := ⟨fun | 5 => 118 | 8 => 138 | 7 => 137 | 19 => 157 | 20 => 158 | 10 => 148 | 11 => 149 | 12 => 150 | 13 => 151 | 14 => 152 | 15 => 153 | 16 => 154 | 17 => 155 | 18 => 156 | 30 => 181 | 31 => 182 | 32 => 183 | 33 => 184 | 34 => 185 | 35 => 167 | 40 => 202 | n => n, fun | 23 => 22 | 25 => 3 | 3 => 3 | 32 => 199 | 22 => 22 | 0 => 0 | 44 => 221 | 46 => 223 | 4 => 4 | 36 => 214 | 35 => 213 | 41 => 169 | 5 => 5 | 9 => 9 | 53 => 241 | 57 => 245 | 63 => 258 | 64 => 259 | n => n, fun | n => n⟩
theorem Tryz.laysSlM5_f118 : Go.Proofs.SlLaysM.n5 Tryz.prog Tryz.laysSlM5_f118_ren := {
  mixed := by kernel_rfl
  f5 := ⟨Tryz.f118.name, by decide, Tryz.func118.trans (congrArg some (by kernel_rfl))⟩
  f7 := ⟨Tryz.f137.name, by decide, Tryz.func137.trans (congrArg some (by kernel_rfl))⟩
  f8 := Tryz.func138.trans (congrArg some (by kernel_rfl))
  f10 := ⟨Tryz.f148.name, by decide, Tryz.func148.trans (congrArg some (by kernel_rfl))⟩
  f11 := ⟨Tryz.f149.name, by decide, Tryz.func149.trans (congrArg some (by kernel_rfl))⟩
  f12 := ⟨Tryz.f150.name, by decide, Tryz.func150.trans (congrArg some (by kernel_rfl))⟩
  f13 := ⟨Tryz.f151.name, by decide, Tryz.func151.trans (congrArg some (by kernel_rfl))⟩
  f14 := ⟨Tryz.f152.name, by decide, Tryz.func152.trans (congrArg some (by kernel_rfl))⟩
  f15 := ⟨Tryz.f153.name, by decide, Tryz.func153.trans (congrArg some (by kernel_rfl))⟩
  f16 := ⟨Tryz.f154.name, by decide, Tryz.func154.trans (congrArg some (by kernel_rfl))⟩
  f17 := ⟨Tryz.f155.name, by decide, Tryz.func155.trans (congrArg some (by kernel_rfl))⟩
  f18 := ⟨Tryz.f156.name, by decide, Tryz.func156.trans (congrArg some (by kernel_rfl))⟩
  f19 := Tryz.func157.trans (congrArg some (by kernel_rfl))
  f20 := Tryz.func158.trans (congrArg some (by kernel_rfl))
  f30 := ⟨Tryz.f181.name, by decide, Tryz.func181.trans (congrArg some (by kernel_rfl))⟩
  f31 := Tryz.func182.trans (congrArg some (by kernel_rfl))
  f32 := Tryz.func183.trans (congrArg some (by kernel_rfl))
  f33 := ⟨Tryz.f184.name, by decide, Tryz.func184.trans (congrArg some (by kernel_rfl))⟩
  f34 := ⟨Tryz.f185.name, by decide, Tryz.func185.trans (congrArg some (by kernel_rfl))⟩
  f35 := ⟨Tryz.f167.name, by decide, Tryz.func167.trans (congrArg some (by kernel_rfl))⟩
  f40 := ⟨Tryz.f202.name, by decide, Tryz.func202.trans (congrArg some (by kernel_rfl))⟩
  t0 := Tryz.underlying0
  a0 := Tryz.isAgg0
  z0 := Tryz.sizeOf0
  v0 := Tryz.zeroValue0
  t3 := Tryz.underlying3
  a3 := Tryz.isAgg3
  z3 := Tryz.sizeOf3
  v3 := Tryz.zeroValue3
  t4 := Tryz.underlying4
  a4 := Tryz.isAgg4
  z4 := Tryz.sizeOf4
  v4 := Tryz.zeroValue4
  t5 := Tryz.underlying5
  a5 := Tryz.isAgg5
  z5 := Tryz.sizeOf5
  v5 := Tryz.zeroValue5
  t9 := Tryz.underlying9
  a9 := Tryz.isAgg9
  z9 := Tryz.sizeOf9
  v9 := Tryz.zeroValue9
  t22 := Tryz.underlying22
  a22 := Tryz.isAgg22
  z22 := Tryz.sizeOf22
  v22 := Tryz.zeroValue22
  t23 := Tryz.underlying22
  a23 := Tryz.isAgg22
  z23 := Tryz.sizeOf22
  v23 := Tryz.zeroValue22
  t25 := Tryz.underlying3
  a25 := Tryz.isAgg3
  z25 := Tryz.sizeOf3
  v25 := Tryz.zeroValue3
  t32 := Tryz.underlying199
  a32 := Tryz.isAgg199
  z32 := Tryz.sizeOf199
  v32 := Tryz.zeroValue199
  t35 := Tryz.underlying213
  a35 := Tryz.isAgg213
  z35 := Tryz.sizeOf213
  v35 := Tryz.zeroValue213
  t36 := Tryz.underlying214
  a36 := Tryz.isAgg214
  z36 := Tryz.sizeOf214
  v36 := Tryz.zeroValue214
  t41 := Tryz.underlying169
  a41 := Tryz.isAgg169
  z41 := Tryz.sizeOf169
  v41 := Tryz.zeroValue169
  t44 := Tryz.underlying221
  a44 := Tryz.isAgg221
  z44 := Tryz.sizeOf221
  v44 := Tryz.zeroValue221
  t46 := Tryz.underlying223
  a46 := Tryz.isAgg223
  z46 := Tryz.sizeOf223
  v46 := Tryz.zeroValue223
  t53 := Tryz.underlying241
  a53 := Tryz.isAgg241
  z53 := Tryz.sizeOf241
  v53 := Tryz.zeroValue241
  t57 := Tryz.underlying245
  a57 := Tryz.isAgg245
  z57 := Tryz.sizeOf245
  v57 := Tryz.zeroValue245
  t63 := Tryz.underlying258
  a63 := Tryz.isAgg258
  z63 := Tryz.sizeOf258
  v63 := Tryz.zeroValue258
  t64 := Tryz.underlying259
  a64 := Tryz.isAgg259
  z64 := Tryz.sizeOf259
  v64 := Tryz.zeroValue259 }
open Go.Sort Go.RowKit in
theorem Tryz.slices_Sort_int_f118 (blk off cap : Nat) (zs : List Int) (w : World) (hH : Holds (Value.int .i64) w blk off zs.toArray) (hblk : blk < w.heap.size) (hsz : zs.length < 4611686018427387904) :
    Calls Tryz.prog 118 #[.slice (some ⟨blk, off, none⟩) zs.length cap] w fun e w' =>
      e = .returned (.tuple #[]) ∧ ∃ n os, w' = grow (putRow (Value.int .i64) (Sort.ahead w n) blk off (zs.mergeSort fun x y => decide (x ≤ y)).toArray) os := AnyM.slices_Sort_int Tryz.laysSlM5_f118 blk off cap zs w hH hblk hsz
def Tryz.laysSlM5_f128_ren : Go.Shelf.Ren := ⟨fun | 5 => 128 | 8 => 138 | 7 => 144 | 19 => 157 | 20 => 158 | 10 => 170 | 11 => 171 | 12 => 172 | 13 => 173 | 14 => 174 | 15 => 175 | 16 => 146 | 17 => 176 | 18 => 177 | 30 => 197 | 31 => 182 | 32 => 183 | 33 => 198 | 34 => 199 | 35 => 169 | 40 => 207 | n => n, fun | 23 => 186 | 25 => 2 | 3 => 3 | 32 => 199 | 22 => 186 | 0 => 0 | 44 => 221 | 46 => 223 | 4 => 4 | 36 => 214 | 35 => 213 | 41 => 169 | 5 => 5 | 9 => 9 | 53 => 241 | 57 => 245 | 63 => 258 | 64 => 259 | n => n, fun | n => n⟩
theorem Tryz.laysSlM5_f128 : Go.Proofs.SlLaysM.n5 Tryz.prog Tryz.laysSlM5_f128_ren := {
  mixed := by kernel_rfl
  f5 := ⟨Tryz.f128.name, by decide, Tryz.func128.trans (congrArg some (by kernel_rfl))⟩
  f7 := ⟨Tryz.f144.name, by decide, Tryz.func144.trans (congrArg some (by kernel_rfl))⟩
  f8 := Tryz.func138.trans (congrArg some (by kernel_rfl))
  f10 := ⟨Tryz.f170.name, by decide, Tryz.func170.trans (congrArg some (by kernel_rfl))⟩
  f11 := ⟨Tryz.f171.name, by decide, Tryz.func171.trans (congrArg some (by kernel_rfl))⟩
  f12 := ⟨Tryz.f172.name, by decide, Tryz.func172.trans (congrArg some (by kernel_rfl))⟩
  f13 := ⟨Tryz.f173.name, by decide, Tryz.func173.trans (congrArg some (by kernel_rfl))⟩
  f14 := ⟨Tryz.f174.name, by decide, Tryz.func174.trans (congrArg some (by kernel_rfl))⟩
  f15 := ⟨Tryz.f175.name, by decide, Tryz.func175.trans (congrArg some (by kernel_rfl))⟩
  f16 := ⟨Tryz.f146.name, by decide, Tryz.func146.trans (congrArg some (by kernel_rfl))⟩
  f17 := ⟨Tryz.f176.name, by decide, Tryz.func176.trans (congrArg some (by kernel_rfl))⟩
  f18 := ⟨Tryz.f177.name, by decide, Tryz.func177.trans (congrArg some (by kernel_rfl))⟩
  f19 := Tryz.func157.trans (congrArg some (by kernel_rfl))
  f20 := Tryz.func158.trans (congrArg some (by kernel_rfl))
  f30 := ⟨Tryz.f197.name, by decide, Tryz.func197.trans (congrArg some (by kernel_rfl))⟩
  f31 := Tryz.func182.trans (congrArg some (by kernel_rfl))
  f32 := Tryz.func183.trans (congrArg some (by kernel_rfl))
  f33 := ⟨Tryz.f198.name, by decide, Tryz.func198.trans (congrArg some (by kernel_rfl))⟩
  f34 := ⟨Tryz.f199.name, by decide, Tryz.func199.trans (congrArg some (by kernel_rfl))⟩
  f35 := ⟨Tryz.f169.name, by decide, Tryz.func169.trans (congrArg some (by kernel_rfl))⟩
  f40 := ⟨Tryz.f207.name, by decide, Tryz.func207.trans (congrArg some (by kernel_rfl))⟩
  t0 := Tryz.underlying0
  a0 := Tryz.isAgg0
  z0 := Tryz.sizeOf0
  v0 := Tryz.zeroValue0
  t3 := Tryz.underlying3
  a3 := Tryz.isAgg3
  z3 := Tryz.sizeOf3
  v3 := Tryz.zeroValue3
  t4 := Tryz.underlying4
  a4 := Tryz.isAgg4
  z4 := Tryz.sizeOf4
  v4 := Tryz.zeroValue4
  t5 := Tryz.underlying5
  a5 := Tryz.isAgg5
  z5 := Tryz.sizeOf5
  v5 := Tryz.zeroValue5
  t9 := Tryz.underlying9
  a9 := Tryz.isAgg9
  z9 := Tryz.sizeOf9
  v9 := Tryz.zeroValue9
  t22 := Tryz.underlying186
  a22 := Tryz.isAgg186
  z22 := Tryz.sizeOf186
  v22 := Tryz.zeroValue186
  t23 := Tryz.underlying186
  a23 := Tryz.isAgg186
  z23 := Tryz.sizeOf186
  v23 := Tryz.zeroValue186
  t25 := Tryz.underlying2
  a25 := Tryz.isAgg2
  z25 := Tryz.sizeOf2
  v25 := Tryz.zeroValue2
  t32 := Tryz.underlying199
  a32 := Tryz.isAgg199
  z32 := Tryz.sizeOf199
  v32 := Tryz.zeroValue199
  t35 := Tryz.underlying213
  a35 := Tryz.isAgg213
  z35 := Tryz.sizeOf213
  v35 := Tryz.zeroValue213
  t36 := Tryz.underlying214
  a36 := Tryz.isAgg214
  z36 := Tryz.sizeOf214
  v36 := Tryz.zeroValue214
  t41 := Tryz.underlying169
  a41 := Tryz.isAgg169
  z41 := Tryz.sizeOf169
  v41 := Tryz.zeroValue169
  t44 := Tryz.underlying221
  a44 := Tryz.isAgg221
  z44 := Tryz.sizeOf221
  v44 := Tryz.zeroValue221
  t46 := Tryz.underlying223
  a46 := Tryz.isAgg223
  z46 := Tryz.sizeOf223
  v46 := Tryz.zeroValue223
  t53 := Tryz.underlying241
  a53 := Tryz.isAgg241
  z53 := Tryz.sizeOf241
  v53 := Tryz.zeroValue241
  t57 := Tryz.underlying245
  a57 := Tryz.isAgg245
  z57 := Tryz.sizeOf245
  v57 := Tryz.zeroValue245
  t63 := Tryz.underlying258
  a63 := Tryz.isAgg258
  z63 := Tryz.sizeOf258
  v63 := Tryz.zeroValue258
  t64 := Tryz.underlying259
  a64 := Tryz.isAgg259
  z64 := Tryz.sizeOf259
  v64 := Tryz.zeroValue259 }
open Go.Sort Go.RowKit in
theorem Tryz.slices_Sort_int_f128 (blk off cap : Nat) (zs : List Int) (w : World) (hH : Holds (Value.int .i64) w blk off zs.toArray) (hblk : blk < w.heap.size) (hsz : zs.length < 4611686018427387904) :
    Calls Tryz.prog 128 #[.slice (some ⟨blk, off, none⟩) zs.length cap] w fun e w' =>
      e = .returned (.tuple #[]) ∧ ∃ n os, w' = grow (putRow (Value.int .i64) (Sort.ahead w n) blk off (zs.mergeSort fun x y => decide (x ≤ y)).toArray) os := AnyM.slices_Sort_int Tryz.laysSlM5_f128 blk off cap zs w hH hblk hsz
open Go.RowKit Go.Sort in
/-- .. and plain. (LAID AT THE INSTANCE 'slices.Sort[[]int,int]': no walk: one application.) -/
theorem Tryz.slices_Sort_int_none_f118 (p : Option Addr) (cap : Nat) (w : World) :
    Calls Tryz.prog 118 #[.slice p 0 cap] w fun e w' => e = .returned (.tuple #[]) ∧ w' = w := AnyM.slices_Sort_int_none Tryz.laysSlM5_f118 p cap w
open Go.RowKit Go.Sort in
/-- .. and plain. (LAID AT THE INSTANCE 'slices.Sort[[]int64,int64]': no walk: one application.) -/
theorem Tryz.slices_Sort_int_none_f128 (p : Option Addr) (cap : Nat) (w : World) :
    Calls Tryz.prog 128 #[.slice p 0 cap] w fun e w' => e = .returned (.tuple #[]) ∧ w' = w := AnyM.slices_Sort_int_none Tryz.laysSlM5_f128 p cap w
def Tryz.laysSlF46_f186_ren : Go.Shelf.Ren := ⟨fun | 46 => 186 | n => n, fun | 24 => 22 | 22 => 35 | 3 => 3 | 25 => 180 | 4 => 4 | 0 => 0 | n => n, fun | n => n⟩
theorem Tryz.laysSlF46_f186 : Go.Proofs.SlLaysF.n46 Tryz.prog Tryz.laysSlF46_f186_ren := {
  mixed := by kernel_rfl
  f46 := ⟨Tryz.f186.name, by decide, Tryz.func186.trans (congrArg some (by kernel_rfl))⟩
  t0 := Tryz.underlying0
  a0 := Tryz.isAgg0
  z0 := Tryz.sizeOf0
  v0 := Tryz.zeroValue0
  t3 := Tryz.underlying3
  a3 := Tryz.isAgg3
  z3 := Tryz.sizeOf3
  v3 := Tryz.zeroValue3
  t4 := Tryz.underlying4
  a4 := Tryz.isAgg4
  z4 := Tryz.sizeOf4
  v4 := Tryz.zeroValue4
  t22 := Tryz.underlying35
  a22 := Tryz.isAgg35
  z22 := Tryz.sizeOf35
  v22 := Tryz.zeroValue35
  a24 := Tryz.isAgg22
  z24 := Tryz.sizeOf22
  t25 := Tryz.underlying180
  a25 := Tryz.isAgg180
  z25 := Tryz.sizeOf180
  v25 := Tryz.zeroValue180 }
open Go.RowKit Go.Lib Go.Sort in
/-- slices.siftDownCmpFunc at elements of one cell: from a world of the sort's to a world of the sort's. (LAID AT THE INSTANCE 'slices.siftDownCmpFunc[[]int]': no walk: one application.) -/
theorem Tryz.siftDownCmpFunc {α : Type} [Inhabited α] (enc : α → Value) (cf : α → α → Int) (g : Nat) (cb : Array Value) (blk off cap lo hi first : Nat) (d0 d : Array α) (w0 w : World) (eg : ∀ args w, (callFunc g args).run Tryz.prog w = .ok (.enter g args) w) (hcmp : CmpLays1 Tryz.prog g cb enc cf blk off d0.size w0) (R : Row1 enc w0 blk off d0) (hs : d0.size = d.size) (S : SW enc w0 blk off d w) (hlo : lo ≤ hi) (hb : first + hi ≤ d.size) (hsz : d.size < 4611686018427387904) :
    Calls Tryz.prog 186 #[.slice (some ⟨blk, off, none⟩) d.size cap, .int .i64 lo, .int .i64 hi, .int .i64 first, .func (.func g) #[] cb] w fun e w' =>
      e = .returned (.tuple #[]) ∧ SW enc w0 blk off (siftDown (ltOf cf) hi first lo d) w' := Any.siftDownCmpFunc Tryz.laysSlF46_f186 enc cf g cb blk off cap lo hi first d0 d w0 w eg hcmp R hs S hlo hb hsz
def Tryz.laysSlF21_f160_ren : Go.Shelf.Ren := ⟨fun | 21 => 160 | 46 => 186 | n => n, fun | 24 => 22 | 22 => 35 | 3 => 3 | 25 => 180 | 4 => 4 | 0 => 0 | n => n, fun | n => n⟩
theorem Tryz.laysSlF21_f160 : Go.Proofs.SlLaysF.n21 Tryz.prog Tryz.laysSlF21_f160_ren := {
  mixed := by kernel_rfl
  f21 := ⟨Tryz.f160.name, by decide, Tryz.func160.trans (congrArg some (by kernel_rfl))⟩
  f46 := ⟨Tryz.f186.name, by decide, Tryz.func186.trans (congrArg some (by kernel_rfl))⟩
  t0 := Tryz.underlying0
  a0 := Tryz.isAgg0
  z0 := Tryz.sizeOf0
  v0 := Tryz.zeroValue0
  t3 := Tryz.underlying3
  a3 := Tryz.isAgg3
  z3 := Tryz.sizeOf3
  v3 := Tryz.zeroValue3
  t4 := Tryz.underlying4
  a4 := Tryz.isAgg4
  z4 := Tryz.sizeOf4
  v4 := Tryz.zeroValue4
  t22 := Tryz.underlying35
  a22 := Tryz.isAgg35
  z22 := Tryz.sizeOf35
  v22 := Tryz.zeroValue35
  a24 := Tryz.isAgg22
  z24 := Tryz.sizeOf22
  t25 := Tryz.underlying180
  a25 := Tryz.isAgg180
  z25 := Tryz.sizeOf180
  v25 := Tryz.zeroValue180 }
open Go.RowKit Go.Lib Go.Sort in
/-- slices.heapSortCmpFunc at elements of one cell. (LAID AT THE INSTANCE 'slices.heapSortCmpFunc[[]int]': no walk: one application.) -/
theorem Tryz.heapSortCmpFunc {α : Type} [Inhabited α] (enc : α → Value) (cf : α → α → Int) (g : Nat) (cb : Array Value) (blk off cap a b : Nat) (d0 d : Array α) (w0 w : World) (eg : ∀ args w, (callFunc g args).run Tryz.prog w = .ok (.enter g args) w) (hcmp : CmpLays1 Tryz.prog g cb enc cf blk off d0.size w0) (R : Row1 enc w0 blk off d0) (hs : d0.size = d.size) (S : SW enc w0 blk off d w) (hab : a ≤ b) (hb : b ≤ d.size) (hsz : d.size < 4611686018427387904) :
    Calls Tryz.prog 160 #[.slice (some ⟨blk, off, none⟩) d.size cap, .int .i64 a, .int .i64 b, .func (.func g) #[] cb] w fun e w' =>
      e = .returned (.tuple #[]) ∧ SW enc w0 blk off (heapSort (ltOf cf) d a b) w' := Any.heapSortCmpFunc Tryz.laysSlF21_f160 enc cf g cb blk off cap a b d0 d w0 w eg hcmp R hs S hab hb hsz
open Go.RowKit Go.Lib Go.Sort in
/-- slices.insertionSortCmpFunc at elements of one cell: from a world of the sort's to a world of the sort's. (LAID AT THE INSTANCE 'slices.insertionSortCmpFunc[[]int]': no walk: one application.) -/
theorem Tryz.insertionSortCmpFunc_s {α : Type} [Inhabited α] (enc : α → Value) (cf : α → α → Int) (g : Nat) (cb : Array Value) (blk off cap a b : Nat) (d0 d : Array α) (w0 w : World) (eg : ∀ args w, (callFunc g args).run Tryz.prog w = .ok (.enter g args) w) (hcmp : CmpLays1 Tryz.prog g cb enc cf blk off d0.size w0) (R : Row1 enc w0 blk off d0) (hs : d0.size = d.size) (S : SW enc w0 blk off d w) (hab : a ≤ b) (hb : b ≤ d.size) (hsz : d.size < 4611686018427387904) :
    Calls Tryz.prog 159 #[.slice (some ⟨blk, off, none⟩) d.size cap, .int .i64 a, .int .i64 b, .func (.func g) #[] cb] w fun e w' => e = .returned (.tuple #[]) ∧ SW enc w0 blk off (Sort.insertionSort (ltOf cf) d a b) w' := Any.insertionSortCmpFunc_s Tryz.laysSlF20_f159 enc cf g cb blk off cap a b d0 d w0 w eg hcmp R hs S hab hb hsz
def Tryz.laysSlF57_f203_ren : Go.Shelf.Ren := ⟨fun | 57 => 203 | n => n, fun | 24 => 22 | 22 => 35 | 3 => 3 | 70 => 245 | 25 => 180 | 0 => 0 | 4 => 4 | n => n, fun | n => n⟩
theorem Tryz.laysSlF57_f203 : Go.Proofs.SlLaysF.n57 Tryz.prog Tryz.laysSlF57_f203_ren := {
  mixed := by kernel_rfl
  f57 := ⟨Tryz.f203.name, by decide, Tryz.func203.trans (congrArg some (by kernel_rfl))⟩
  t0 := Tryz.underlying0
  a0 := Tryz.isAgg0
  z0 := Tryz.sizeOf0
  v0 := Tryz.zeroValue0
  t3 := Tryz.underlying3
  a3 := Tryz.isAgg3
  z3 := Tryz.sizeOf3
  v3 := Tryz.zeroValue3
  t4 := Tryz.underlying4
  a4 := Tryz.isAgg4
  z4 := Tryz.sizeOf4
  v4 := Tryz.zeroValue4
  t22 := Tryz.underlying35
  a22 := Tryz.isAgg35
  z22 := Tryz.sizeOf35
  v22 := Tryz.zeroValue35
  a24 := Tryz.isAgg22
  z24 := Tryz.sizeOf22
  t25 := Tryz.underlying180
  a25 := Tryz.isAgg180
  z25 := Tryz.sizeOf180
  v25 := Tryz.zeroValue180
  t70 := Tryz.underlying245
  a70 := Tryz.isAgg245
  z70 := Tryz.sizeOf245
  v70 := Tryz.zeroValue245 }
open Go.RowKit Go.Lib Go.Sort in
/-- slices.order2CmpFunc at elements of one cell. (LAID AT THE INSTANCE 'slices.order2CmpFunc[[]int]': no walk: one application.) -/
theorem Tryz.order2CmpFunc {α : Type} [Inhabited α] (enc : α → Value) (cf : α → α → Int) (g : Nat) (cb : Array Value) (blk off cap a b c s : Nat) (d0 d : Array α) (w0 W : World) (eg : ∀ args w, (callFunc g args).run Tryz.prog w = .ok (.enter g args) w) (hcmp : CmpLays1 Tryz.prog g cb enc cf blk off d0.size w0) (R : Row1 enc w0 blk off d0) (hs : d0.size = d.size) (C : Cnt1 enc w0 blk off d c s W) (ha : a < d.size) (hb : b < d.size) (hsz : d.size < 4611686018427387904) (hss : s < 4611686018427387904) :
    Calls Tryz.prog 203 #[.slice (some ⟨blk, off, none⟩) d.size cap, .int .i64 a, .int .i64 b, .pointer (some ⟨c, 0, none⟩), .func (.func g) #[] cb] W fun e w' =>
      e = .returned (.tuple #[.int .i64 (order2 (ltOf cf) d a b s).1, .int .i64 (order2 (ltOf cf) d a b s).2.1]) ∧ Cnt1 enc w0 blk off d c (order2 (ltOf cf) d a b s).2.2 w' := Any.order2CmpFunc Tryz.laysSlF57_f203 enc cf g cb blk off cap a b c s d0 d w0 W eg hcmp R hs C ha hb hsz hss
def Tryz.laysSlF50_f188_ren : Go.Shelf.Ren := ⟨fun | 50 => 188 | 57 => 203 | n => n, fun | 24 => 22 | 22 => 35 | 3 => 3 | 70 => 245 | 25 => 180 | 77 => 259 | 0 => 0 | 4 => 4 | n => n, fun | n => n⟩
theorem Tryz.laysSlF50_f188 : Go.Proofs.SlLaysF.n50 Tryz.prog Tryz.laysSlF50_f188_ren := {
  mixed := by kernel_rfl
  f50 := ⟨Tryz.f188.name, by decide, Tryz.func188.trans (congrArg some (by kernel_rfl))⟩
  f57 := ⟨Tryz.f203.name, by decide, Tryz.func203.trans (congrArg some (by kernel_rfl))⟩
  t0 := Tryz.underlying0
  a0 := Tryz.isAgg0
  z0 := Tryz.sizeOf0
  v0 := Tryz.zeroValue0
  t3 := Tryz.underlying3
  a3 := Tryz.isAgg3
  z3 := Tryz.sizeOf3
  v3 := Tryz.zeroValue3
  t4 := Tryz.underlying4
  a4 := Tryz.isAgg4
  z4 := Tryz.sizeOf4
  v4 := Tryz.zeroValue4
  t22 := Tryz.underlying35
  a22 := Tryz.isAgg35
  z22 := Tryz.sizeOf35
  v22 := Tryz.zeroValue35
  a24 := Tryz.isAgg22
  z24 := Tryz.sizeOf22
  t25 := Tryz.underlying180
  a25 := Tryz.isAgg180
  z25 := Tryz.sizeOf180
  v25 := Tryz.zeroValue180
  t70 := Tryz.underlying245
  a70 := Tryz.isAgg245
  z70 := Tryz.sizeOf245
  v70 := Tryz.zeroValue245
  t77 := Tryz.underlying259
  a77 := Tryz.isAgg259
  z77 := Tryz.sizeOf259
  v77 := Tryz.zeroValue259 }
open Go.RowKit Go.Lib Go.Sort in
/-- slices.medianCmpFunc at elements of one cell. (LAID AT THE INSTANCE 'slices.medianCmpFunc[[]int]': no walk: one application.) -/
theorem Tryz.medianCmpFunc {α : Type} [Inhabited α] (enc : α → Value) (cf : α → α → Int) (g : Nat) (cb : Array Value) (blk off cap a b c' c s : Nat) (d0 d : Array α) (w0 W : World) (eg : ∀ args w, (callFunc g args).run Tryz.prog w = .ok (.enter g args) w) (hcmp : CmpLays1 Tryz.prog g cb enc cf blk off d0.size w0) (R : Row1 enc w0 blk off d0) (hs : d0.size = d.size) (C : Cnt1 enc w0 blk off d c s W) (ha : a < d.size) (hb : b < d.size) (hc : c' < d.size) (hsz : d.size < 4611686018427387904) (hss : s + 3 < 4611686018427387904) :
    Calls Tryz.prog 188 #[.slice (some ⟨blk, off, none⟩) d.size cap, .int .i64 a, .int .i64 b, .int .i64 c', .pointer (some ⟨c, 0, none⟩), .func (.func g) #[] cb] W fun e w' =>
      e = .returned (.int .i64 (median (ltOf cf) d a b c' s).1) ∧ Cnt1 enc w0 blk off d c (median (ltOf cf) d a b c' s).2 w' := Any.medianCmpFunc Tryz.laysSlF50_f188 enc cf g cb blk off cap a b c' c s d0 d w0 W eg hcmp R hs C ha hb hc hsz hss
def Tryz.laysSlF49_f187_ren : Go.Shelf.Ren := ⟨fun | 49 => 187 | 50 => 188 | 57 => 203 | n => n, fun | 24 => 22 | 22 => 35 | 3 => 3 | 70 => 245 | 25 => 180 | 77 => 259 | 0 => 0 | 4 => 4 | n => n, fun | n => n⟩
theorem Tryz.laysSlF49_f187 : Go.Proofs.SlLaysF.n49 Tryz.prog Tryz.laysSlF49_f187_ren := {
  mixed := by kernel_rfl
  f49 := ⟨Tryz.f187.name, by decide, Tryz.func187.trans (congrArg some (by kernel_rfl))⟩
  f50 := ⟨Tryz.f188.name, by decide, Tryz.func188.trans (congrArg some (by kernel_rfl))⟩
  f57 := ⟨Tryz.f203.name, by decide, Tryz.func203.trans (congrArg some (by kernel_rfl))⟩
  t0 := Tryz.underlying0
  a0 := Tryz.isAgg0
  z0 := Tryz.sizeOf0
  v0 := Tryz.zeroValue0
  t3 := Tryz.underlying3
  a3 := Tryz.isAgg3
  z3 := Tryz.sizeOf3
  v3 := Tryz.zeroValue3
  t4 := Tryz.underlying4
  a4 := Tryz.isAgg4
  z4 := Tryz.sizeOf4
  v4 := Tryz.zeroValue4
  t22 := Tryz.underlying35
  a22 := Tryz.isAgg35
  z22 := Tryz.sizeOf35
  v22 := Tryz.zeroValue35
  a24 := Tryz.isAgg22
  z24 := Tryz.sizeOf22
  t25 := Tryz.underlying180
  a25 := Tryz.isAgg180
  z25 := Tryz.sizeOf180
  v25 := Tryz.zeroValue180
  t70 := Tryz.underlying245
  a70 := Tryz.isAgg245
  z70 := Tryz.sizeOf245
  v70 := Tryz.zeroValue245
  t77 := Tryz.underlying259
  a77 := Tryz.isAgg259
  z77 := Tryz.sizeOf259
  v77 := Tryz.zeroValue259 }
open Go.RowKit Go.Lib Go.Sort in
/-- slices.medianAdjacentCmpFunc at elements of one cell. (LAID AT THE INSTANCE 'slices.medianAdjacentCmpFunc[[]int]': no walk: one application.) -/
theorem Tryz.medianAdjacentCmpFunc {α : Type} [Inhabited α] (enc : α → Value) (cf : α → α → Int) (g : Nat) (cb : Array Value) (blk off cap a c s : Nat) (d0 d : Array α) (w0 W : World) (eg : ∀ args w, (callFunc g args).run Tryz.prog w = .ok (.enter g args) w) (hcmp : CmpLays1 Tryz.prog g cb enc cf blk off d0.size w0) (R : Row1 enc w0 blk off d0) (hs : d0.size = d.size) (C : Cnt1 enc w0 blk off d c s W) (ha1 : 1 ≤ a) (ha2 : a + 1 < d.size) (hsz : d.size < 4611686018427387904) (hss : s + 3 < 4611686018427387904) :
    Calls Tryz.prog 187 #[.slice (some ⟨blk, off, none⟩) d.size cap, .int .i64 a, .pointer (some ⟨c, 0, none⟩), .func (.func g) #[] cb] W fun e w' =>
      e = .returned (.int .i64 (medianAdjacent (ltOf cf) d a s).1) ∧ Cnt1 enc w0 blk off d c (medianAdjacent (ltOf cf) d a s).2 w' := Any.medianAdjacentCmpFunc Tryz.laysSlF49_f187 enc cf g cb blk off cap a c s d0 d w0 W eg hcmp R hs C ha1 ha2 hsz hss
def Tryz.laysSlF23_f162_ren : Go.Shelf.Ren := ⟨fun | 23 => 162 | 49 => 187 | 50 => 188 | 57 => 203 | n => n, fun | 24 => 22 | 22 => 35 | 3 => 3 | 25 => 180 | 45 => 213 | 0 => 0 | 4 => 4 | 70 => 245 | 77 => 259 | n => n, fun | n => n⟩
theorem Tryz.laysSlF23_f162 : Go.Proofs.SlLaysF.n23 Tryz.prog Tryz.laysSlF23_f162_ren := {
  mixed := by kernel_rfl
  f23 := ⟨Tryz.f162.name, by decide, Tryz.func162.trans (congrArg some (by kernel_rfl))⟩
  f49 := ⟨Tryz.f187.name, by decide, Tryz.func187.trans (congrArg some (by kernel_rfl))⟩
  f50 := ⟨Tryz.f188.name, by decide, Tryz.func188.trans (congrArg some (by kernel_rfl))⟩
  f57 := ⟨Tryz.f203.name, by decide, Tryz.func203.trans (congrArg some (by kernel_rfl))⟩
  t0 := Tryz.underlying0
  a0 := Tryz.isAgg0
  z0 := Tryz.sizeOf0
  v0 := Tryz.zeroValue0
  t3 := Tryz.underlying3
  a3 := Tryz.isAgg3
  z3 := Tryz.sizeOf3
  v3 := Tryz.zeroValue3
  t4 := Tryz.underlying4
  a4 := Tryz.isAgg4
  z4 := Tryz.sizeOf4
  v4 := Tryz.zeroValue4
  t22 := Tryz.underlying35
  a22 := Tryz.isAgg35
  z22 := Tryz.sizeOf35
  v22 := Tryz.zeroValue35
  a24 := Tryz.isAgg22
  z24 := Tryz.sizeOf22
  t25 := Tryz.underlying180
  a25 := Tryz.isAgg180
  z25 := Tryz.sizeOf180
  v25 := Tryz.zeroValue180
  t45 := Tryz.underlying213
  a45 := Tryz.isAgg213
  z45 := Tryz.sizeOf213
  v45 := Tryz.zeroValue213
  t70 := Tryz.underlying245
  a70 := Tryz.isAgg245
  z70 := Tryz.sizeOf245
  v70 := Tryz.zeroValue245
  t77 := Tryz.underlying259
  a77 := Tryz.isAgg259
  z77 := Tryz.sizeOf259
  v77 := Tryz.zeroValue259 }
open Go.RowKit Go.Lib Go.Sort in
/-- slices.choosePivotCmpFunc at elements of one cell: THE LIBRARY's OWN TEXT COMPUTES 'Sort.choosePivot (ltOf cf) d a b'; the row is not turned. (After Derived/Shelf/SlSortFuncK/PivotK.lean, row for row; the counter's world by 'CntK'.) (LAID AT THE INSTANCE 'slices.choosePivotCmpFunc[[]int]': no walk: one application.) -/
theorem Tryz.choosePivotCmpFunc {α : Type} [Inhabited α] (enc : α → Value) (cf : α → α → Int) (g : Nat) (cb : Array Value) (blk off cap a b : Nat) (d0 d : Array α) (w0 W : World) (eg : ∀ args w, (callFunc g args).run Tryz.prog w = .ok (.enter g args) w) (hcmp : CmpLays1 Tryz.prog g cb enc cf blk off d0.size w0) (R : Row1 enc w0 blk off d0) (hs : d0.size = d.size) (S : SW enc w0 blk off d W) (hab : a < b) (hb : b ≤ d.size) (hsz : d.size < 4611686018427387904) :
    Calls Tryz.prog 162 #[.slice (some ⟨blk, off, none⟩) d.size cap, .int .i64 a, .int .i64 b, .func (.func g) #[] cb] W fun e w' =>
      e = .returned (.tuple #[.int .i64 (choosePivot (ltOf cf) d a b).1, .int .i64 (hintCode (choosePivot (ltOf cf) d a b).2)]) ∧ SW enc w0 blk off d w' := Any.choosePivotCmpFunc Tryz.laysSlF23_f162 enc cf g cb blk off cap a b d0 d w0 W eg hcmp R hs S hab hb hsz
def Tryz.laysSlF24_f163_ren : Go.Shelf.Ren := ⟨fun | 24 => 163 | n => n, fun | 24 => 22 | 22 => 35 | 3 => 3 | 25 => 180 | 4 => 4 | 0 => 0 | n => n, fun | n => n⟩
theorem Tryz.laysSlF24_f163 : Go.Proofs.SlLaysF.n24 Tryz.prog Tryz.laysSlF24_f163_ren := {
  mixed := by kernel_rfl
  f24 := ⟨Tryz.f163.name, by decide, Tryz.func163.trans (congrArg some (by kernel_rfl))⟩
  t0 := Tryz.underlying0
  a0 := Tryz.isAgg0
  z0 := Tryz.sizeOf0
  v0 := Tryz.zeroValue0
  t3 := Tryz.underlying3
  a3 := Tryz.isAgg3
  z3 := Tryz.sizeOf3
  v3 := Tryz.zeroValue3
  t4 := Tryz.underlying4
  a4 := Tryz.isAgg4
  z4 := Tryz.sizeOf4
  v4 := Tryz.zeroValue4
  t22 := Tryz.underlying35
  a22 := Tryz.isAgg35
  z22 := Tryz.sizeOf35
  v22 := Tryz.zeroValue35
  a24 := Tryz.isAgg22
  z24 := Tryz.sizeOf22
  t25 := Tryz.underlying180
  a25 := Tryz.isAgg180
  z25 := Tryz.sizeOf180
  v25 := Tryz.zeroValue180 }
open Go.RowKit Go.Lib Go.Sort in
/-- slices.reverseRangeCmpFunc at elements of one cell: it exchanges and does not compare. (LAID AT THE INSTANCE 'slices.reverseRangeCmpFunc[[]int]': no walk: one application.) -/
theorem Tryz.reverseRangeCmpFunc {α : Type} [Inhabited α] (enc : α → Value) (g : Nat) (cb : Array Value) (blk off cap a b : Nat) (d0 d : Array α) (w0 w : World) (R : Row1 enc w0 blk off d0) (hs : d0.size = d.size) (S : SW enc w0 blk off d w) (hab : a ≤ b) (hb : b ≤ d.size) (hsz : d.size < 4611686018427387904) :
    Calls Tryz.prog 163 #[.slice (some ⟨blk, off, none⟩) d.size cap, .int .i64 a, .int .i64 b, .func (.func g) #[] cb] w fun e w' => e = .returned (.tuple #[]) ∧ SW enc w0 blk off (reverseRange d a b) w' := Any.reverseRangeCmpFunc Tryz.laysSlF24_f163 enc g cb blk off cap a b d0 d w0 w R hs S hab hb hsz
def Tryz.laysSlF25_f164_ren : Go.Shelf.Ren := ⟨fun | 25 => 164 | n => n, fun | 24 => 22 | 22 => 35 | 3 => 3 | 25 => 180 | 4 => 4 | 0 => 0 | n => n, fun | n => n⟩
theorem Tryz.laysSlF25_f164 : Go.Proofs.SlLaysF.n25 Tryz.prog Tryz.laysSlF25_f164_ren := {
  mixed := by kernel_rfl
  f25 := ⟨Tryz.f164.name, by decide, Tryz.func164.trans (congrArg some (by kernel_rfl))⟩
  t0 := Tryz.underlying0
  a0 := Tryz.isAgg0
  z0 := Tryz.sizeOf0
  v0 := Tryz.zeroValue0
  t3 := Tryz.underlying3
  a3 := Tryz.isAgg3
  z3 := Tryz.sizeOf3
  v3 := Tryz.zeroValue3
  t4 := Tryz.underlying4
  a4 := Tryz.isAgg4
  z4 := Tryz.sizeOf4
  v4 := Tryz.zeroValue4
  t22 := Tryz.underlying35
  a22 := Tryz.isAgg35
  z22 := Tryz.sizeOf35
  v22 := Tryz.zeroValue35
  a24 := Tryz.isAgg22
  z24 := Tryz.sizeOf22
  t25 := Tryz.underlying180
  a25 := Tryz.isAgg180
  z25 := Tryz.sizeOf180
  v25 := Tryz.zeroValue180 }
open Go.RowKit Go.Lib Go.Sort in
/-- slices.partialInsertionSortCmpFunc at elements of one cell. (LAID AT THE INSTANCE 'slices.partialInsertionSortCmpFunc[[]int]': no walk: one application.) -/
theorem Tryz.partialInsertionSortCmpFunc {α : Type} [Inhabited α] (enc : α → Value) (cf : α → α → Int) (g : Nat) (cb : Array Value) (blk off cap a b : Nat) (d0 d : Array α) (w0 w : World) (eg : ∀ args w, (callFunc g args).run Tryz.prog w = .ok (.enter g args) w) (hcmp : CmpLays1 Tryz.prog g cb enc cf blk off d0.size w0) (R : Row1 enc w0 blk off d0) (hs : d0.size = d.size) (S : SW enc w0 blk off d w) (hab : a < b) (hb : b ≤ d.size) (hsz : d.size < 4611686018427387904) :
    Calls Tryz.prog 164 #[.slice (some ⟨blk, off, none⟩) d.size cap, .int .i64 a, .int .i64 b, .func (.func g) #[] cb] w fun e w' =>
      e = .returned (.bool (Sort.partialInsertionSort (ltOf cf) d a b).2) ∧ SW enc w0 blk off (Sort.partialInsertionSort (ltOf cf) d a b).1 w' := Any.partialInsertionSortCmpFunc Tryz.laysSlF25_f164 enc cf g cb blk off cap a b d0 d w0 w eg hcmp R hs S hab hb hsz
def Tryz.laysSlF26_f165_ren : Go.Shelf.Ren := ⟨fun | 26 => 165 | n => n, fun | 24 => 22 | 22 => 35 | 3 => 3 | 25 => 180 | 0 => 0 | 4 => 4 | n => n, fun | n => n⟩
theorem Tryz.laysSlF26_f165 : Go.Proofs.SlLaysF.n26 Tryz.prog Tryz.laysSlF26_f165_ren := {
  mixed := by kernel_rfl
  f26 := ⟨Tryz.f165.name, by decide, Tryz.func165.trans (congrArg some (by kernel_rfl))⟩
  t0 := Tryz.underlying0
  a0 := Tryz.isAgg0
  z0 := Tryz.sizeOf0
  v0 := Tryz.zeroValue0
  t3 := Tryz.underlying3
  a3 := Tryz.isAgg3
  z3 := Tryz.sizeOf3
  v3 := Tryz.zeroValue3
  t4 := Tryz.underlying4
  a4 := Tryz.isAgg4
  z4 := Tryz.sizeOf4
  v4 := Tryz.zeroValue4
  t22 := Tryz.underlying35
  a22 := Tryz.isAgg35
  z22 := Tryz.sizeOf35
  v22 := Tryz.zeroValue35
  a24 := Tryz.isAgg22
  z24 := Tryz.sizeOf22
  t25 := Tryz.underlying180
  a25 := Tryz.isAgg180
  z25 := Tryz.sizeOf180
  v25 := Tryz.zeroValue180 }
open Go.RowKit Go.Lib Go.Sort in
/-- slices.partitionEqualCmpFunc at elements of one cell. (After Derived/Shelf/SlSortFuncK/PartitionK.lean, row for row.) (LAID AT THE INSTANCE 'slices.partitionEqualCmpFunc[[]int]': no walk: one application.) -/
theorem Tryz.partitionEqualCmpFunc {α : Type} [Inhabited α] (enc : α → Value) (cf : α → α → Int) (g : Nat) (cb : Array Value) (blk off cap a b pivot : Nat) (d0 d : Array α) (w0 w : World) (eg : ∀ args w, (callFunc g args).run Tryz.prog w = .ok (.enter g args) w) (hcmp : CmpLays1 Tryz.prog g cb enc cf blk off d0.size w0) (R : Row1 enc w0 blk off d0) (hs : d0.size = d.size) (S : SW enc w0 blk off d w) (hap : a ≤ pivot) (hpb : pivot < b) (hb : b ≤ d.size) (hsz : d.size < 4611686018427387904) :
    Calls Tryz.prog 165 #[.slice (some ⟨blk, off, none⟩) d.size cap, .int .i64 a, .int .i64 b, .int .i64 pivot, .func (.func g) #[] cb] w fun e w' =>
      e = .returned (.int .i64 (Sort.partitionEqual (ltOf cf) d a b pivot).1) ∧ SW enc w0 blk off (Sort.partitionEqual (ltOf cf) d a b pivot).2 w' := Any.partitionEqualCmpFunc Tryz.laysSlF26_f165 enc cf g cb blk off cap a b pivot d0 d w0 w eg hcmp R hs S hap hpb hb hsz
def Tryz.laysSlF27_f166_ren : Go.Shelf.Ren := ⟨fun | 27 => 166 | n => n, fun | 24 => 22 | 22 => 35 | 3 => 3 | 25 => 180 | 4 => 4 | 0 => 0 | n => n, fun | n => n⟩
theorem Tryz.laysSlF27_f166 : Go.Proofs.SlLaysF.n27 Tryz.prog Tryz.laysSlF27_f166_ren := {
  mixed := by kernel_rfl
  f27 := ⟨Tryz.f166.name, by decide, Tryz.func166.trans (congrArg some (by kernel_rfl))⟩
  t0 := Tryz.underlying0
  a0 := Tryz.isAgg0
  z0 := Tryz.sizeOf0
  v0 := Tryz.zeroValue0
  t3 := Tryz.underlying3
  a3 := Tryz.isAgg3
  z3 := Tryz.sizeOf3
  v3 := Tryz.zeroValue3
  t4 := Tryz.underlying4
  a4 := Tryz.isAgg4
  z4 := Tryz.sizeOf4
  v4 := Tryz.zeroValue4
  t22 := Tryz.underlying35
  a22 := Tryz.isAgg35
  z22 := Tryz.sizeOf35
  v22 := Tryz.zeroValue35
  a24 := Tryz.isAgg22
  z24 := Tryz.sizeOf22
  t25 := Tryz.underlying180
  a25 := Tryz.isAgg180
  z25 := Tryz.sizeOf180
  v25 := Tryz.zeroValue180 }
open Go.RowKit Go.Lib Go.Sort in
/-- slices.partitionCmpFunc at elements of one cell. (After Derived/Shelf/SlSortFuncK/PartitionK.lean, row for row.) (LAID AT THE INSTANCE 'slices.partitionCmpFunc[[]int]': no walk: one application.) -/
theorem Tryz.partitionCmpFunc {α : Type} [Inhabited α] (enc : α → Value) (cf : α → α → Int) (g : Nat) (cb : Array Value) (blk off cap a b pivot : Nat) (d0 d : Array α) (w0 w : World) (eg : ∀ args w, (callFunc g args).run Tryz.prog w = .ok (.enter g args) w) (hcmp : CmpLays1 Tryz.prog g cb enc cf blk off d0.size w0) (R : Row1 enc w0 blk off d0) (hs : d0.size = d.size) (S : SW enc w0 blk off d w) (hap : a ≤ pivot) (hpb : pivot < b) (hb : b ≤ d.size) (hsz : d.size < 4611686018427387904) :
    Calls Tryz.prog 166 #[.slice (some ⟨blk, off, none⟩) d.size cap, .int .i64 a, .int .i64 b, .int .i64 pivot, .func (.func g) #[] cb] w fun e w' =>
      e = .returned (.tuple #[.int .i64 (Sort.partition (ltOf cf) d a b pivot).1, .bool (Sort.partition (ltOf cf) d a b pivot).2.1]) ∧ SW enc w0 blk off (Sort.partition (ltOf cf) d a b pivot).2.2 w' := Any.partitionCmpFunc Tryz.laysSlF27_f166 enc cf g cb blk off cap a b pivot d0 d w0 w eg hcmp R hs S hap hpb hb hsz
def Tryz.laysSlF14_f139_ren : Go.Shelf.Ren := ⟨fun | 14 => 139 | 20 => 159 | 21 => 160 | 22 => 161 | 23 => 162 | 24 => 163 | 25 => 164 | 26 => 165 | 27 => 166 | 46 => 186 | 47 => 182 | 48 => 183 | 49 => 187 | 50 => 188 | 15 => 138 | 57 => 203 | 28 => 157 | 29 => 158 | n => n, fun | 24 => 22 | 22 => 35 | 3 => 3 | 25 => 180 | 4 => 4 | 0 => 0 | 46 => 214 | 45 => 213 | 50 => 169 | 66 => 241 | 39 => 199 | 55 => 223 | 70 => 245 | 76 => 258 | 77 => 259 | 53 => 221 | 5 => 5 | 9 => 9 | n => n, fun | n => n⟩
theorem Tryz.laysSlF14_f139 : Go.Proofs.SlLaysF.n14 Tryz.prog Tryz.laysSlF14_f139_ren := {
  mixed := by kernel_rfl
  f14 := ⟨Tryz.f139.name, by decide, Tryz.func139.trans (congrArg some (by kernel_rfl))⟩
  f15 := Tryz.func138.trans (congrArg some (by kernel_rfl))
  f20 := ⟨Tryz.f159.name, by decide, Tryz.func159.trans (congrArg some (by kernel_rfl))⟩
  f21 := ⟨Tryz.f160.name, by decide, Tryz.func160.trans (congrArg some (by kernel_rfl))⟩
  f22 := ⟨Tryz.f161.name, by decide, Tryz.func161.trans (congrArg some (by kernel_rfl))⟩
  f23 := ⟨Tryz.f162.name, by decide, Tryz.func162.trans (congrArg some (by kernel_rfl))⟩
  f24 := ⟨Tryz.f163.name, by decide, Tryz.func163.trans (congrArg some (by kernel_rfl))⟩
  f25 := ⟨Tryz.f164.name, by decide, Tryz.func164.trans (congrArg some (by kernel_rfl))⟩
  f26 := ⟨Tryz.f165.name, by decide, Tryz.func165.trans (congrArg some (by kernel_rfl))⟩
  f27 := ⟨Tryz.f166.name, by decide, Tryz.func166.trans (congrArg some (by kernel_rfl))⟩
  f28 := Tryz.func157.trans (congrArg some (by kernel_rfl))
  f29 := Tryz.func158.trans (congrArg some (by kernel_rfl))
  f46 := ⟨Tryz.f186.name, by decide, Tryz.func186.trans (congrArg some (by kernel_rfl))⟩
  f47 := Tryz.func182.trans (congrArg some (by kernel_rfl))
  f48 := Tryz.func183.trans (congrArg some (by kernel_rfl))
  f49 := ⟨Tryz.f187.name, by decide, Tryz.func187.trans (congrArg some (by kernel_rfl))⟩
  f50 := ⟨Tryz.f188.name, by decide, Tryz.func188.trans (congrArg some (by kernel_rfl))⟩
  f57 := ⟨Tryz.f203.name, by decide, Tryz.func203.trans (congrArg some (by kernel_rfl))⟩
  t0 := Tryz.underlying0
  a0 := Tryz.isAgg0
  z0 := Tryz.sizeOf0
  v0 := Tryz.zeroValue0
  t3 := Tryz.underlying3
  a3 := Tryz.isAgg3
  z3 := Tryz.sizeOf3
  v3 := Tryz.zeroValue3
  t4 := Tryz.underlying4
  a4 := Tryz.isAgg4
  z4 := Tryz.sizeOf4
  v4 := Tryz.zeroValue4
  t5 := Tryz.underlying5
  a5 := Tryz.isAgg5
  z5 := Tryz.sizeOf5
  v5 := Tryz.zeroValue5
  t9 := Tryz.underlying9
  a9 := Tryz.isAgg9
  z9 := Tryz.sizeOf9
  v9 := Tryz.zeroValue9
  t22 := Tryz.underlying35
  a22 := Tryz.isAgg35
  z22 := Tryz.sizeOf35
  v22 := Tryz.zeroValue35
  a24 := Tryz.isAgg22
  z24 := Tryz.sizeOf22
  t25 := Tryz.underlying180
  a25 := Tryz.isAgg180
  z25 := Tryz.sizeOf180
  v25 := Tryz.zeroValue180
  t39 := Tryz.underlying199
  a39 := Tryz.isAgg199
  z39 := Tryz.sizeOf199
  v39 := Tryz.zeroValue199
  t45 := Tryz.underlying213
  a45 := Tryz.isAgg213
  z45 := Tryz.sizeOf213
  v45 := Tryz.zeroValue213
  t46 := Tryz.underlying214
  a46 := Tryz.isAgg214
  z46 := Tryz.sizeOf214
  v46 := Tryz.zeroValue214
  t50 := Tryz.underlying169
  a50 := Tryz.isAgg169
  z50 := Tryz.sizeOf169
  v50 := Tryz.zeroValue169
  t53 := Tryz.underlying221
  a53 := Tryz.isAgg221
  z53 := Tryz.sizeOf221
  v53 := Tryz.zeroValue221
  t55 := Tryz.underlying223
  a55 := Tryz.isAgg223
  z55 := Tryz.sizeOf223
  v55 := Tryz.zeroValue223
  t66 := Tryz.underlying241
  a66 := Tryz.isAgg241
  z66 := Tryz.sizeOf241
  v66 := Tryz.zeroValue241
  t70 := Tryz.underlying245
  a70 := Tryz.isAgg245
  z70 := Tryz.sizeOf245
  v70 := Tryz.zeroValue245
  t76 := Tryz.underlying258
  a76 := Tryz.isAgg258
  z76 := Tryz.sizeOf258
  v76 := Tryz.zeroValue258
  t77 := Tryz.underlying259
  a77 := Tryz.isAgg259
  z77 := Tryz.sizeOf259
  v77 := Tryz.zeroValue259 }
open Go.RowKit Go.Lib Go.Sort in
/-- slices.pdqsortCmpFunc at elements of one cell, WHOLE. (After Derived/Shelf/SlSortFuncK/PdqK.lean, row for row: the slots and the regions' numbers are this body's.) (LAID AT THE INSTANCE 'slices.pdqsortCmpFunc[[]int]': no walk: one application.) -/
theorem Tryz.pdqsortCmpFunc_all {α : Type} [Inhabited α] (enc : α → Value) (cf : α → α → Int) (g : Nat) (cb : Array Value) (hO : SWO (ltOf cf)) (blk off cap : Nat) (d0 : Array α) (w0 : World) (eg : ∀ args w, (callFunc g args).run Tryz.prog w = .ok (.enter g args) w) (hcmp : CmpLays1 Tryz.prog g cb enc cf blk off d0.size w0) (R : Row1 enc w0 blk off d0) :
    ∀ (N a b limit : Nat) (d : Array α) (w : World), b - a < N → d0.size = d.size → SW enc w0 blk off d w → a ≤ b → b ≤ d.size → d.size < 4611686018427387904 → limit < 4611686018427387904 → Below (ltOf cf) a b d →
    Calls Tryz.prog 139 #[.slice (some ⟨blk, off, none⟩) d.size cap, .int .i64 a, .int .i64 b, .int .i64 limit, .func (.func g) #[] cb] w fun e w' => e = .returned (.tuple #[]) ∧ SW enc w0 blk off (pdq (ltOf cf) d a b limit true true) w' := Any.pdqsortCmpFunc_all Tryz.laysSlF14_f139 enc cf g cb hO blk off cap d0 w0 eg hcmp R
def Tryz.laysSlF6_f119_ren : Go.Shelf.Ren := ⟨fun | 6 => 119 | 15 => 138 | 14 => 139 | 28 => 157 | 29 => 158 | 20 => 159 | 21 => 160 | 22 => 161 | 23 => 162 | 24 => 163 | 25 => 164 | 26 => 165 | 27 => 166 | 46 => 186 | 47 => 182 | 48 => 183 | 49 => 187 | 50 => 188 | 57 => 203 | n => n, fun | 22 => 35 | 24 => 22 | 25 => 180 | 3 => 3 | 39 => 199 | 0 => 0 | 53 => 221 | 55 => 223 | 4 => 4 | 46 => 214 | 45 => 213 | 50 => 169 | 5 => 5 | 9 => 9 | 66 => 241 | 70 => 245 | 76 => 258 | 77 => 259 | n => n, fun | n => n⟩
theorem Tryz.laysSlF6_f119 : Go.Proofs.SlLaysF.n6 Tryz.prog Tryz.laysSlF6_f119_ren := {
  mixed := by kernel_rfl
  f6 := ⟨Tryz.f119.name, by decide, Tryz.func119.trans (congrArg some (by kernel_rfl))⟩
  f14 := ⟨Tryz.f139.name, by decide, Tryz.func139.trans (congrArg some (by kernel_rfl))⟩
  f15 := Tryz.func138.trans (congrArg some (by kernel_rfl))
  f20 := ⟨Tryz.f159.name, by decide, Tryz.func159.trans (congrArg some (by kernel_rfl))⟩
  f21 := ⟨Tryz.f160.name, by decide, Tryz.func160.trans (congrArg some (by kernel_rfl))⟩
  f22 := ⟨Tryz.f161.name, by decide, Tryz.func161.trans (congrArg some (by kernel_rfl))⟩
  f23 := ⟨Tryz.f162.name, by decide, Tryz.func162.trans (congrArg some (by kernel_rfl))⟩
  f24 := ⟨Tryz.f163.name, by decide, Tryz.func163.trans (congrArg some (by kernel_rfl))⟩
  f25 := ⟨Tryz.f164.name, by decide, Tryz.func164.trans (congrArg some (by kernel_rfl))⟩
  f26 := ⟨Tryz.f165.name, by decide, Tryz.func165.trans (congrArg some (by kernel_rfl))⟩
  f27 := ⟨Tryz.f166.name, by decide, Tryz.func166.trans (congrArg some (by kernel_rfl))⟩
  f28 := Tryz.func157.trans (congrArg some (by kernel_rfl))
  f29 := Tryz.func158.trans (congrArg some (by kernel_rfl))
  f46 := ⟨Tryz.f186.name, by decide, Tryz.func186.trans (congrArg some (by kernel_rfl))⟩
  f47 := Tryz.func182.trans (congrArg some (by kernel_rfl))
  f48 := Tryz.func183.trans (congrArg some (by kernel_rfl))
  f49 := ⟨Tryz.f187.name, by decide, Tryz.func187.trans (congrArg some (by kernel_rfl))⟩
  f50 := ⟨Tryz.f188.name, by decide, Tryz.func188.trans (congrArg some (by kernel_rfl))⟩
  f57 := ⟨Tryz.f203.name, by decide, Tryz.func203.trans (congrArg some (by kernel_rfl))⟩
  t0 := Tryz.underlying0
  a0 := Tryz.isAgg0
  z0 := Tryz.sizeOf0
  v0 := Tryz.zeroValue0
  t3 := Tryz.underlying3
  a3 := Tryz.isAgg3
  z3 := Tryz.sizeOf3
  v3 := Tryz.zeroValue3
  t4 := Tryz.underlying4
  a4 := Tryz.isAgg4
  z4 := Tryz.sizeOf4
  v4 := Tryz.zeroValue4
  t5 := Tryz.underlying5
  a5 := Tryz.isAgg5
  z5 := Tryz.sizeOf5
  v5 := Tryz.zeroValue5
  t9 := Tryz.underlying9
  a9 := Tryz.isAgg9
  z9 := Tryz.sizeOf9
  v9 := Tryz.zeroValue9
  t22 := Tryz.underlying35
  a22 := Tryz.isAgg35
  z22 := Tryz.sizeOf35
  v22 := Tryz.zeroValue35
  a24 := Tryz.isAgg22
  z24 := Tryz.sizeOf22
  t25 := Tryz.underlying180
  a25 := Tryz.isAgg180
  z25 := Tryz.sizeOf180
  v25 := Tryz.zeroValue180
  t39 := Tryz.underlying199
  a39 := Tryz.isAgg199
  z39 := Tryz.sizeOf199
  v39 := Tryz.zeroValue199
  t45 := Tryz.underlying213
  a45 := Tryz.isAgg213
  z45 := Tryz.sizeOf213
  v45 := Tryz.zeroValue213
  t46 := Tryz.underlying214
  a46 := Tryz.isAgg214
  z46 := Tryz.sizeOf214
  v46 := Tryz.zeroValue214
  t50 := Tryz.underlying169
  a50 := Tryz.isAgg169
  z50 := Tryz.sizeOf169
  v50 := Tryz.zeroValue169
  t53 := Tryz.underlying221
  a53 := Tryz.isAgg221
  z53 := Tryz.sizeOf221
  v53 := Tryz.zeroValue221
  t55 := Tryz.underlying223
  a55 := Tryz.isAgg223
  z55 := Tryz.sizeOf223
  v55 := Tryz.zeroValue223
  t66 := Tryz.underlying241
  a66 := Tryz.isAgg241
  z66 := Tryz.sizeOf241
  v66 := Tryz.zeroValue241
  t70 := Tryz.underlying245
  a70 := Tryz.isAgg245
  z70 := Tryz.sizeOf245
  v70 := Tryz.zeroValue245
  t76 := Tryz.underlying258
  a76 := Tryz.isAgg258
  z76 := Tryz.sizeOf258
  v76 := Tryz.zeroValue258
  t77 := Tryz.underlying259
  a77 := Tryz.isAgg259
  z77 := Tryz.sizeOf259
  v77 := Tryz.zeroValue259 }
open Go.RowKit Go.Lib Go.Sort in
/-- **slices.SortFunc: WHAT THE ROW HOLDS, TO THE ELEMENT.** (LAID AT THE INSTANCE 'slices.SortFunc[[][]int,[]int]': no walk: one application.) -/
theorem Tryz.slices_SortFunc_eq {α : Type} [Inhabited α] (enc : α → Value) (h1 : OneCell enc) (cf : α → α → Int) (hO : SWO (ltOf cf)) (g : Nat) (cb : Array Value) (blk off cap : Nat) (d : Array α) (w : World) (eg : ∀ args w, (callFunc g args).run Tryz.prog w = .ok (.enter g args) w) (hcmp : CmpLays1 Tryz.prog g cb enc cf blk off d.size w) (hH : Holds enc w blk off d) (hblk : blk < w.heap.size) (hsz : d.size < 4611686018427387904) :
    Calls Tryz.prog 119 #[.slice (some ⟨blk, off, none⟩) d.size cap, .func (.func g) #[] cb] w fun e w' =>
      e = .returned (.tuple #[]) ∧ ∃ n os, w' = sortWorld enc w blk off n (pdq (ltOf cf) d 0 d.size (Lib.bitLen d.size) true true) os := Any.slices_SortFunc_eq Tryz.laysSlF6_f119 enc h1 cf hO g cb blk off cap d w eg hcmp hH hblk hsz
open Go.RowKit Go.Lib Go.Sort in
/-- **slices.SortFunc, IN THE DOCUMENTATION's OWN TERMS: A PERMUTATION OF WHAT THE ROW HELD, SORTED BY 'cmp(a, b) < 0'.** Which of two equals comes first is left open ("The sort is not guaranteed to be stable"). (LAID AT THE INSTANCE 'slices.SortFunc[[][]int,[]int]': no walk: one application.) -/
theorem Tryz.slices_SortFunc {α : Type} [Inhabited α] (enc : α → Value) (h1 : OneCell enc) (cf : α → α → Int) (hO : SWO (ltOf cf)) (g : Nat) (cb : Array Value) (blk off cap : Nat) (d : Array α) (w : World) (eg : ∀ args w, (callFunc g args).run Tryz.prog w = .ok (.enter g args) w) (hcmp : CmpLays1 Tryz.prog g cb enc cf blk off d.size w) (hH : Holds enc w blk off d) (hblk : blk < w.heap.size) (hsz : d.size < 4611686018427387904) :
    Calls Tryz.prog 119 #[.slice (some ⟨blk, off, none⟩) d.size cap, .func (.func g) #[] cb] w fun e w' =>
      e = .returned (.tuple #[]) ∧ ∃ d' n os, PermIn 0 d.size d d' ∧ SortedIn (ltOf cf) 0 d.size d' ∧ w' = sortWorld enc w blk off n d' os := Any.slices_SortFunc Tryz.laysSlF6_f119 enc h1 cf hO g cb blk off cap d w eg hcmp hH hblk hsz
end Go.Proofs
