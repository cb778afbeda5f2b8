/- The contracts of slices.SortFunc at lists of ints, of slices.Equal and of cmp.Compare, laid by the kit. -/
import Derived.Shelf.Small.Wraps
import Derived.Shelf.Slices.Equal
import Derived.Shelf.Slices.Empties2
import Derived.Shelf.SlicesE.Clone
import Derived.Shelf.SlSortCmp.Whole1
import Derived.Shelf.SlSortCmp.NoneTotal
import Derived.Ground.Names2Prog
import Derived.Ground.SlsfProg
import Derived.Test.YtbkoifdnlaihfaaGreatShelf
namespace Go.Proofs
open Go.Shelf
def Tryz.lays122_ren : Go.Shelf.Ren := ⟨fun | 122 => 140 | 215 => 167 | n => n, fun | 3 => 3 | 4 => 4 | n => n, fun | n => n⟩
theorem Tryz.lays122 : Go.Proofs.Lays.n122 Tryz.prog Tryz.lays122_ren := {
  mixed := by kernel_rfl
  f122 := Tryz.func140.trans (congrArg some (by kernel_rfl))
  f215 := Tryz.func167.trans (congrArg some (by kernel_rfl))
  t3 := Tryz.underlying3
  a3 := Tryz.isAgg3
  z3 := Tryz.sizeOf3
  v3 := Tryz.zeroValue3
  t4 := Tryz.underlying4
  a4 := Tryz.isAgg4
  z4 := Tryz.sizeOf4
  v4 := Tryz.zeroValue4 }
open Go.RowKit in
/-- cmp.Compare at int: "Compare returns -1 if x is less than y, 0 if x equals y, +1 if x is greater than y.": IT RETURNS 'Lib.compareInt x y'; the world is as it was. (LAID: no walk: one application.) -/
theorem Tryz.cmp_Compare_int (x y : Int) (w : World) :
    Calls Tryz.prog 140 #[.int .i64 x, .int .i64 y] w fun e w' => e = .returned (.int .i64 (Lib.compareInt x y)) ∧ w' = w := Any.cmp_Compare_int Tryz.lays122 x y w
def Tryz.lays111_ren : Go.Shelf.Ren := ⟨fun | 111 => 50 | n => n, fun | 28 => 22 | 3 => 3 | 4 => 4 | 0 => 0 | n => n, fun | n => n⟩
theorem Tryz.lays111 : Go.Proofs.Lays.n111 Tryz.prog Tryz.lays111_ren := {
  mixed := by kernel_rfl
  f111 := Tryz.func50.trans (congrArg some (by kernel_rfl))
  t0 := Tryz.underlying0
  a0 := Tryz.isAgg0
  z0 := Tryz.sizeOf0
  v0 := Tryz.zeroValue0
  t3 := Tryz.underlying3
  a3 := Tryz.isAgg3
  z3 := Tryz.sizeOf3
  v3 := Tryz.zeroValue3
  t4 := Tryz.underlying4
  a4 := Tryz.isAgg4
  z4 := Tryz.sizeOf4
  v4 := Tryz.zeroValue4
  t28 := Tryz.underlying22
  a28 := Tryz.isAgg22
  z28 := Tryz.sizeOf22
  v28 := Tryz.zeroValue22 }
open Go.RowKit Go.Lib in
/-- slices.Equal at []int: "Equal reports whether two slices are equal: the same length and all elements equal. If the lengths are different, Equal returns false. Otherwise, the elements are compared in increasing index order, and the comparison stops at the first unequal pair. Empty and nil slices are considered equal.": IT RETURNS WHETHER THE TWO LISTS OF ELEMENTS ARE ONE; the world is as it was but for the count of draws (the test 's1[i] != s2[i]' has two reads, whose order the model draws, once a round). 'xs', 'ys': what the cells behind the two addresses hold (the spare capacity too, if you have it); 'xs.take n', 'ys.take m': the elements. THE TWO SLICES MAY OVERLAP. (LAID: no walk: one application.) -/
theorem Tryz.slices_Equal_int (b1 o1 n c b2 o2 m d : Nat) (xs ys : List Int) (w : World) (hx : n ≤ xs.length) (hy : m ≤ ys.length) (hbig : n ≤ 9223372036854775807) (hbig2 : m ≤ 9223372036854775807) (hc1 : ∀ j, j < xs.length → w.cell? ⟨b1, o1 + j, none⟩ = some (.int .i64 (xs.getD j 0))) (hc2 : ∀ j, j < ys.length → w.cell? ⟨b2, o2 + j, none⟩ = some (.int .i64 (ys.getD j 0))) :
    Calls Tryz.prog 50 #[.slice (some ⟨b1, o1, none⟩) n c, .slice (some ⟨b2, o2, none⟩) m d] w fun e w' => e = .returned (.bool (xs.take n == ys.take m)) ∧ ∃ q, w' = w.drewN q := Any.slices_Equal_int Tryz.lays111 b1 o1 n c b2 o2 m d xs ys w hx hy hbig hbig2 hc1 hc2
open Go.RowKit Go.Lib in
/-- The same where the first is of length 0 (a nil one too): no cell is asked for. (LAID: no walk: one application.) -/
theorem Tryz.slices_Equal_int_empty (a1 a2 : Option Addr) (c m d : Nat) (w : World) (hbig2 : m ≤ 9223372036854775807) :
    Calls Tryz.prog 50 #[.slice a1 0 c, .slice a2 m d] w fun e w' => e = .returned (.bool (decide (m = 0))) ∧ w' = w := Any.slices_Equal_int_empty Tryz.lays111 a1 a2 c m d w hbig2
open Go.RowKit Go.Lib in
theorem Tryz.slices_Equal_int_lens (a1 a2 : Option Addr) (n c m d : Nat) (w : World) (hnm : n ≠ m) :
    Calls Tryz.prog 50 #[.slice a1 n c, .slice a2 m d] w fun e w' => e = .returned (.bool false) ∧ w' = w := Any.slices_Equal_int_lens Tryz.lays111 a1 a2 n c m d w hnm
def Tryz.laysSlE041_f82_ren : Go.Shelf.Ren := ⟨fun | 41 => 82 | n => n, fun | 22 => 64 | 23 => 4 | 4 => 4 | n => n, fun | n => n⟩
theorem Tryz.laysSlE041_f82 : Go.Proofs.SlLaysE0.n41 Tryz.prog Tryz.laysSlE041_f82_ren := {
  mixed := by kernel_rfl
  f41 := ⟨Tryz.f82.name, by decide, Tryz.func82.trans (congrArg some (by kernel_rfl))⟩
  t4 := Tryz.underlying4
  a4 := Tryz.isAgg4
  z4 := Tryz.sizeOf4
  v4 := Tryz.zeroValue4
  t22 := Tryz.underlying64
  a22 := Tryz.isAgg64
  z22 := Tryz.sizeOf64
  v22 := Tryz.zeroValue64 }
open Go.RowKit Go.Lib in
/-- slices.Clone: "Clone returns a copy of the slice. The elements are copied using assignment, so this is a shallow clone. The result may have additional unused capacity. The result preserves the nilness of s.": OF A SLICE THAT IS NOT nil IT RETURNS A SLICE THAT IS NOT nil, OF THE SAME CELLS, IN MEMORY OF THE CALL's OWN ('ownsRow': the how-to's 6f); below the heap's size at the call all is as it was. (LAID AT THE INSTANCE 'slices.Clone[[]bool,bool]': no walk: one application.) -/
theorem Tryz.slices_Clone_f82 (i0 : TypeInfo) (z : Value) (size bytes : Nat) (hi : Tryz.prog.info? 4 = some i0) (hz0 : i0.zero = some z) (hz1 : i0.size = size) (hz2 : i0.bytes = bytes) (hzs : z.cells.size = size) (hsz : 0 < size) (z23 : ∀ w, (Go.sizeOf 4).run Tryz.prog w = .ok size w) (b off n c : Nat) (news : List Value) (w : World) (hl : news.length = n * size) (hn : n ≤ maxLen) (hbig : n * bytes ≤ 140737488355328) (hc : ∀ j u, news[j]? = some u → w.cell? ⟨b, off + j, none⟩ = some u) (h1 : ∀ u ∈ news, u.oneCell' = true) :
    Calls Tryz.prog 82 #[.slice (some ⟨b, off, none⟩) n c] w fun e w' => ∃ v', e = .returned v' ∧ w'.ownsRow w.heap.size 4 size v' n news ∧ v' ≠ .slice none 0 0 ∧ Below w.heap.size w w' := AnyE.slices_Clone Tryz.laysSlE041_f82 i0 z size bytes hi hz0 hz1 hz2 hzs hsz z23 b off n c news w hl hn hbig hc h1
open Go.RowKit Go.Lib in
/-- The same at nil: nil comes back; the world is as it was; nothing is asked of the element's type. (LAID AT THE INSTANCE 'slices.Clone[[]bool,bool]': no walk: one application.) -/
theorem Tryz.slices_Clone_nil_f82 (n c : Nat) (w : World) :
    Calls Tryz.prog 82 #[.slice none n c] w fun e w' => e = .returned (.slice none 0 0) ∧ w' = w := AnyE.slices_Clone_nil Tryz.laysSlE041_f82 n c w
def Tryz.laysSlF06_f119_ren : Go.Shelf.Ren := ⟨fun | 6 => 119 | 15 => 138 | 14 => 139 | 28 => 157 | 29 => 158 | 20 => 159 | 21 => 160 | 22 => 161 | 23 => 162 | 24 => 163 | 25 => 164 | 26 => 165 | 27 => 166 | 46 => 186 | 47 => 182 | 48 => 183 | 49 => 187 | 50 => 188 | 57 => 203 | n => n, fun | 22 => 35 | 24 => 22 | 25 => 180 | 3 => 3 | 39 => 199 | 0 => 0 | 53 => 221 | 55 => 223 | 4 => 4 | 46 => 214 | 45 => 213 | 50 => 169 | 5 => 5 | 9 => 9 | 66 => 241 | 70 => 245 | 76 => 258 | 77 => 259 | n => n, fun | n => n⟩
theorem Tryz.laysSlF06_f119 : Go.Proofs.SlLaysF0.n6 Tryz.prog Tryz.laysSlF06_f119_ren := {
  mixed := by kernel_rfl
  f6 := ⟨Tryz.f119.name, by decide, Tryz.func119.trans (congrArg some (by kernel_rfl))⟩
  f14 := ⟨Tryz.f139.name, by decide, Tryz.func139.trans (congrArg some (by kernel_rfl))⟩
  f15 := Tryz.func138.trans (congrArg some (by kernel_rfl))
  f20 := ⟨Tryz.f159.name, by decide, Tryz.func159.trans (congrArg some (by kernel_rfl))⟩
  f21 := ⟨Tryz.f160.name, by decide, Tryz.func160.trans (congrArg some (by kernel_rfl))⟩
  f22 := ⟨Tryz.f161.name, by decide, Tryz.func161.trans (congrArg some (by kernel_rfl))⟩
  f23 := ⟨Tryz.f162.name, by decide, Tryz.func162.trans (congrArg some (by kernel_rfl))⟩
  f24 := ⟨Tryz.f163.name, by decide, Tryz.func163.trans (congrArg some (by kernel_rfl))⟩
  f25 := ⟨Tryz.f164.name, by decide, Tryz.func164.trans (congrArg some (by kernel_rfl))⟩
  f26 := ⟨Tryz.f165.name, by decide, Tryz.func165.trans (congrArg some (by kernel_rfl))⟩
  f27 := ⟨Tryz.f166.name, by decide, Tryz.func166.trans (congrArg some (by kernel_rfl))⟩
  f28 := Tryz.func157.trans (congrArg some (by kernel_rfl))
  f29 := Tryz.func158.trans (congrArg some (by kernel_rfl))
  f46 := ⟨Tryz.f186.name, by decide, Tryz.func186.trans (congrArg some (by kernel_rfl))⟩
  f47 := Tryz.func182.trans (congrArg some (by kernel_rfl))
  f48 := Tryz.func183.trans (congrArg some (by kernel_rfl))
  f49 := ⟨Tryz.f187.name, by decide, Tryz.func187.trans (congrArg some (by kernel_rfl))⟩
  f50 := ⟨Tryz.f188.name, by decide, Tryz.func188.trans (congrArg some (by kernel_rfl))⟩
  f57 := ⟨Tryz.f203.name, by decide, Tryz.func203.trans (congrArg some (by kernel_rfl))⟩
  t0 := Tryz.underlying0
  a0 := Tryz.isAgg0
  z0 := Tryz.sizeOf0
  v0 := Tryz.zeroValue0
  t3 := Tryz.underlying3
  a3 := Tryz.isAgg3
  z3 := Tryz.sizeOf3
  v3 := Tryz.zeroValue3
  t4 := Tryz.underlying4
  a4 := Tryz.isAgg4
  z4 := Tryz.sizeOf4
  v4 := Tryz.zeroValue4
  t5 := Tryz.underlying5
  a5 := Tryz.isAgg5
  z5 := Tryz.sizeOf5
  v5 := Tryz.zeroValue5
  t9 := Tryz.underlying9
  a9 := Tryz.isAgg9
  z9 := Tryz.sizeOf9
  v9 := Tryz.zeroValue9
  t22 := Tryz.underlying35
  a22 := Tryz.isAgg35
  z22 := Tryz.sizeOf35
  v22 := Tryz.zeroValue35
  t25 := Tryz.underlying180
  a25 := Tryz.isAgg180
  z25 := Tryz.sizeOf180
  v25 := Tryz.zeroValue180
  t39 := Tryz.underlying199
  a39 := Tryz.isAgg199
  z39 := Tryz.sizeOf199
  v39 := Tryz.zeroValue199
  t45 := Tryz.underlying213
  a45 := Tryz.isAgg213
  z45 := Tryz.sizeOf213
  v45 := Tryz.zeroValue213
  t46 := Tryz.underlying214
  a46 := Tryz.isAgg214
  z46 := Tryz.sizeOf214
  v46 := Tryz.zeroValue214
  t50 := Tryz.underlying169
  a50 := Tryz.isAgg169
  z50 := Tryz.sizeOf169
  v50 := Tryz.zeroValue169
  t53 := Tryz.underlying221
  a53 := Tryz.isAgg221
  z53 := Tryz.sizeOf221
  v53 := Tryz.zeroValue221
  t55 := Tryz.underlying223
  a55 := Tryz.isAgg223
  z55 := Tryz.sizeOf223
  v55 := Tryz.zeroValue223
  t66 := Tryz.underlying241
  a66 := Tryz.isAgg241
  z66 := Tryz.sizeOf241
  v66 := Tryz.zeroValue241
  t70 := Tryz.underlying245
  a70 := Tryz.isAgg245
  z70 := Tryz.sizeOf245
  v70 := Tryz.zeroValue245
  t76 := Tryz.underlying258
  a76 := Tryz.isAgg258
  z76 := Tryz.sizeOf258
  v76 := Tryz.zeroValue258
  t77 := Tryz.underlying259
  a77 := Tryz.isAgg259
  z77 := Tryz.sizeOf259
  v77 := Tryz.zeroValue259 }
open Go.RowKit Go.Lib Go.Sort in
/-- **slices.SortFunc AT NO ELEMENT, A nil SLICE TOO: nothing turns.** (LAID AT THE INSTANCE 'slices.SortFunc[[][]int,[]int]': no walk: one application.) -/
theorem Tryz.slices_SortFunc_none {α : Type} [Inhabited α] (p : Option Addr) (cap : Nat) (fv : Value) (w : World) :
    Calls Tryz.prog 119 #[.slice p 0 cap, fv] w fun e w' => e = .returned (.tuple #[]) ∧ w' = w := AnyF.slices_SortFunc_none Tryz.laysSlF06_f119 p cap fv w
end Go.Proofs
