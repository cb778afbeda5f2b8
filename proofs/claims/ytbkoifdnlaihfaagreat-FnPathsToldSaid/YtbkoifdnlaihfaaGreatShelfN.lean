/- Contracts of the library at instances of this program, laid by the kit. -/
import Derived.Shelf.Small.Bits
import Derived.Shelf.Small.Wraps
import Derived.Shelf.Strconv.Itoa0
import Derived.Shelf.Slices.Turned
import Derived.Shelf.Slices.Equal
import Derived.Shelf.Slices.Empties2
import Derived.Ground.SlgnProg
import Derived.Shelf.SlicesG.Clone
import Derived.Shelf.SlicesG.CompactI
import Derived.Shelf.SlicesG.SearchI
import Derived.Shelf.SlicesE.Clone
import Derived.Ground.SlsfProg
import Derived.Shelf.SlSortCmp.Insertion
import Derived.Ground.SlgmProg
import Derived.Shelf.SortM.Plain
import Derived.Shelf.SortM.SortNone
import Derived.Shelf.SlSortCmp.SiftDown1
import Derived.Shelf.SlSortCmp.HeapSort1
import Derived.Shelf.SlSortCmp.Insertion1
import Derived.Shelf.SlSortCmp.Median1
import Derived.Shelf.SlSortCmp.Pivot1
import Derived.Shelf.SlSortCmp.ReverseRange1
import Derived.Shelf.SlSortCmp.PartialInsertion1
import Derived.Shelf.SlSortCmp.PartitionEqual1
import Derived.Shelf.SlSortCmp.Partition1
import Derived.Shelf.SlSortCmp.Pdq1
import Derived.Shelf.SlSortCmp.Whole1
import Derived.Shelf.SlSortCmp.NoneTotal
import Derived.Test.YtbkoifdnlaihfaaGreatShelf
import Derived.Test.YtbkoifdnlaihfaaGreatShelfS
namespace Go.Proofs
open Go.Shelf
def Tryz.laysSlF6_f141_ren : Go.Shelf.Ren := ⟨fun | 6 => 141 | 15 => 138 | 14 => 168 | 28 => 157 | 29 => 158 | 20 => 189 | 21 => 190 | 22 => 191 | 23 => 192 | 24 => 193 | 25 => 194 | 26 => 195 | 27 => 196 | 46 => 204 | 47 => 182 | 48 => 183 | 49 => 205 | 50 => 206 | 57 => 209 | n => n, fun | 22 => 104 | 24 => 100 | 25 => 207 | 3 => 3 | 39 => 199 | 0 => 0 | 53 => 221 | 55 => 223 | 4 => 4 | 46 => 214 | 45 => 213 | 50 => 169 | 5 => 5 | 9 => 9 | 66 => 241 | 70 => 245 | 76 => 258 | 77 => 259 | n => n, fun | n => n⟩
theorem Tryz.laysSlF6_f141 : Go.Proofs.SlLaysF.n6 Tryz.prog Tryz.laysSlF6_f141_ren := {
  mixed := by kernel_rfl
  f6 := ⟨Tryz.f141.name, by decide, Tryz.func141.trans (congrArg some (by kernel_rfl))⟩
  f14 := ⟨Tryz.f168.name, by decide, Tryz.func168.trans (congrArg some (by kernel_rfl))⟩
  f15 := Tryz.func138.trans (congrArg some (by kernel_rfl))
  f20 := ⟨Tryz.f189.name, by decide, Tryz.func189.trans (congrArg some (by kernel_rfl))⟩
  f21 := ⟨Tryz.f190.name, by decide, Tryz.func190.trans (congrArg some (by kernel_rfl))⟩
  f22 := ⟨Tryz.f191.name, by decide, Tryz.func191.trans (congrArg some (by kernel_rfl))⟩
  f23 := ⟨Tryz.f192.name, by decide, Tryz.func192.trans (congrArg some (by kernel_rfl))⟩
  f24 := ⟨Tryz.f193.name, by decide, Tryz.func193.trans (congrArg some (by kernel_rfl))⟩
  f25 := ⟨Tryz.f194.name, by decide, Tryz.func194.trans (congrArg some (by kernel_rfl))⟩
  f26 := ⟨Tryz.f195.name, by decide, Tryz.func195.trans (congrArg some (by kernel_rfl))⟩
  f27 := ⟨Tryz.f196.name, by decide, Tryz.func196.trans (congrArg some (by kernel_rfl))⟩
  f28 := Tryz.func157.trans (congrArg some (by kernel_rfl))
  f29 := Tryz.func158.trans (congrArg some (by kernel_rfl))
  f46 := ⟨Tryz.f204.name, by decide, Tryz.func204.trans (congrArg some (by kernel_rfl))⟩
  f47 := Tryz.func182.trans (congrArg some (by kernel_rfl))
  f48 := Tryz.func183.trans (congrArg some (by kernel_rfl))
  f49 := ⟨Tryz.f205.name, by decide, Tryz.func205.trans (congrArg some (by kernel_rfl))⟩
  f50 := ⟨Tryz.f206.name, by decide, Tryz.func206.trans (congrArg some (by kernel_rfl))⟩
  f57 := ⟨Tryz.f209.name, by decide, Tryz.func209.trans (congrArg some (by kernel_rfl))⟩
  t0 := Tryz.underlying0
  a0 := Tryz.isAgg0
  z0 := Tryz.sizeOf0
  v0 := Tryz.zeroValue0
  t3 := Tryz.underlying3
  a3 := Tryz.isAgg3
  z3 := Tryz.sizeOf3
  v3 := Tryz.zeroValue3
  t4 := Tryz.underlying4
  a4 := Tryz.isAgg4
  z4 := Tryz.sizeOf4
  v4 := Tryz.zeroValue4
  t5 := Tryz.underlying5
  a5 := Tryz.isAgg5
  z5 := Tryz.sizeOf5
  v5 := Tryz.zeroValue5
  t9 := Tryz.underlying9
  a9 := Tryz.isAgg9
  z9 := Tryz.sizeOf9
  v9 := Tryz.zeroValue9
  t22 := Tryz.underlying104
  a22 := Tryz.isAgg104
  z22 := Tryz.sizeOf104
  v22 := Tryz.zeroValue104
  a24 := Tryz.isAgg100
  z24 := Tryz.sizeOf100
  t25 := Tryz.underlying207
  a25 := Tryz.isAgg207
  z25 := Tryz.sizeOf207
  v25 := Tryz.zeroValue207
  t39 := Tryz.underlying199
  a39 := Tryz.isAgg199
  z39 := Tryz.sizeOf199
  v39 := Tryz.zeroValue199
  t45 := Tryz.underlying213
  a45 := Tryz.isAgg213
  z45 := Tryz.sizeOf213
  v45 := Tryz.zeroValue213
  t46 := Tryz.underlying214
  a46 := Tryz.isAgg214
  z46 := Tryz.sizeOf214
  v46 := Tryz.zeroValue214
  t50 := Tryz.underlying169
  a50 := Tryz.isAgg169
  z50 := Tryz.sizeOf169
  v50 := Tryz.zeroValue169
  t53 := Tryz.underlying221
  a53 := Tryz.isAgg221
  z53 := Tryz.sizeOf221
  v53 := Tryz.zeroValue221
  t55 := Tryz.underlying223
  a55 := Tryz.isAgg223
  z55 := Tryz.sizeOf223
  v55 := Tryz.zeroValue223
  t66 := Tryz.underlying241
  a66 := Tryz.isAgg241
  z66 := Tryz.sizeOf241
  v66 := Tryz.zeroValue241
  t70 := Tryz.underlying245
  a70 := Tryz.isAgg245
  z70 := Tryz.sizeOf245
  v70 := Tryz.zeroValue245
  t76 := Tryz.underlying258
  a76 := Tryz.isAgg258
  z76 := Tryz.sizeOf258
  v76 := Tryz.zeroValue258
  t77 := Tryz.underlying259
  a77 := Tryz.isAgg259
  z77 := Tryz.sizeOf259
  v77 := Tryz.zeroValue259 }
def Tryz.laysSlF06_f141_ren : Go.Shelf.Ren := ⟨fun | 6 => 141 | 15 => 138 | 14 => 168 | 28 => 157 | 29 => 158 | 20 => 189 | 21 => 190 | 22 => 191 | 23 => 192 | 24 => 193 | 25 => 194 | 26 => 195 | 27 => 196 | 46 => 204 | 47 => 182 | 48 => 183 | 49 => 205 | 50 => 206 | 57 => 209 | n => n, fun | 22 => 104 | 24 => 100 | 25 => 207 | 3 => 3 | 39 => 199 | 0 => 0 | 53 => 221 | 55 => 223 | 4 => 4 | 46 => 214 | 45 => 213 | 50 => 169 | 5 => 5 | 9 => 9 | 66 => 241 | 70 => 245 | 76 => 258 | 77 => 259 | n => n, fun | n => n⟩
theorem Tryz.laysSlF06_f141 : Go.Proofs.SlLaysF0.n6 Tryz.prog Tryz.laysSlF06_f141_ren := {
  mixed := by kernel_rfl
  f6 := ⟨Tryz.f141.name, by decide, Tryz.func141.trans (congrArg some (by kernel_rfl))⟩
  f14 := ⟨Tryz.f168.name, by decide, Tryz.func168.trans (congrArg some (by kernel_rfl))⟩
  f15 := Tryz.func138.trans (congrArg some (by kernel_rfl))
  f20 := ⟨Tryz.f189.name, by decide, Tryz.func189.trans (congrArg some (by kernel_rfl))⟩
  f21 := ⟨Tryz.f190.name, by decide, Tryz.func190.trans (congrArg some (by kernel_rfl))⟩
  f22 := ⟨Tryz.f191.name, by decide, Tryz.func191.trans (congrArg some (by kernel_rfl))⟩
  f23 := ⟨Tryz.f192.name, by decide, Tryz.func192.trans (congrArg some (by kernel_rfl))⟩
  f24 := ⟨Tryz.f193.name, by decide, Tryz.func193.trans (congrArg some (by kernel_rfl))⟩
  f25 := ⟨Tryz.f194.name, by decide, Tryz.func194.trans (congrArg some (by kernel_rfl))⟩
  f26 := ⟨Tryz.f195.name, by decide, Tryz.func195.trans (congrArg some (by kernel_rfl))⟩
  f27 := ⟨Tryz.f196.name, by decide, Tryz.func196.trans (congrArg some (by kernel_rfl))⟩
  f28 := Tryz.func157.trans (congrArg some (by kernel_rfl))
  f29 := Tryz.func158.trans (congrArg some (by kernel_rfl))
  f46 := ⟨Tryz.f204.name, by decide, Tryz.func204.trans (congrArg some (by kernel_rfl))⟩
  f47 := Tryz.func182.trans (congrArg some (by kernel_rfl))
  f48 := Tryz.func183.trans (congrArg some (by kernel_rfl))
  f49 := ⟨Tryz.f205.name, by decide, Tryz.func205.trans (congrArg some (by kernel_rfl))⟩
  f50 := ⟨Tryz.f206.name, by decide, Tryz.func206.trans (congrArg some (by kernel_rfl))⟩
  f57 := ⟨Tryz.f209.name, by decide, Tryz.func209.trans (congrArg some (by kernel_rfl))⟩
  t0 := Tryz.underlying0
  a0 := Tryz.isAgg0
  z0 := Tryz.sizeOf0
  v0 := Tryz.zeroValue0
  t3 := Tryz.underlying3
  a3 := Tryz.isAgg3
  z3 := Tryz.sizeOf3
  v3 := Tryz.zeroValue3
  t4 := Tryz.underlying4
  a4 := Tryz.isAgg4
  z4 := Tryz.sizeOf4
  v4 := Tryz.zeroValue4
  t5 := Tryz.underlying5
  a5 := Tryz.isAgg5
  z5 := Tryz.sizeOf5
  v5 := Tryz.zeroValue5
  t9 := Tryz.underlying9
  a9 := Tryz.isAgg9
  z9 := Tryz.sizeOf9
  v9 := Tryz.zeroValue9
  t22 := Tryz.underlying104
  a22 := Tryz.isAgg104
  z22 := Tryz.sizeOf104
  v22 := Tryz.zeroValue104
  t25 := Tryz.underlying207
  a25 := Tryz.isAgg207
  z25 := Tryz.sizeOf207
  v25 := Tryz.zeroValue207
  t39 := Tryz.underlying199
  a39 := Tryz.isAgg199
  z39 := Tryz.sizeOf199
  v39 := Tryz.zeroValue199
  t45 := Tryz.underlying213
  a45 := Tryz.isAgg213
  z45 := Tryz.sizeOf213
  v45 := Tryz.zeroValue213
  t46 := Tryz.underlying214
  a46 := Tryz.isAgg214
  z46 := Tryz.sizeOf214
  v46 := Tryz.zeroValue214
  t50 := Tryz.underlying169
  a50 := Tryz.isAgg169
  z50 := Tryz.sizeOf169
  v50 := Tryz.zeroValue169
  t53 := Tryz.underlying221
  a53 := Tryz.isAgg221
  z53 := Tryz.sizeOf221
  v53 := Tryz.zeroValue221
  t55 := Tryz.underlying223
  a55 := Tryz.isAgg223
  z55 := Tryz.sizeOf223
  v55 := Tryz.zeroValue223
  t66 := Tryz.underlying241
  a66 := Tryz.isAgg241
  z66 := Tryz.sizeOf241
  v66 := Tryz.zeroValue241
  t70 := Tryz.underlying245
  a70 := Tryz.isAgg245
  z70 := Tryz.sizeOf245
  v70 := Tryz.zeroValue245
  t76 := Tryz.underlying258
  a76 := Tryz.isAgg258
  z76 := Tryz.sizeOf258
  v76 := Tryz.zeroValue258
  t77 := Tryz.underlying259
  a77 := Tryz.isAgg259
  z77 := Tryz.sizeOf259
  v77 := Tryz.zeroValue259 }
open Go.RowKit Go.Lib Go.Sort in
/-- **slices.SortFunc AT NO ELEMENT, A nil SLICE TOO: nothing turns.** (LAID AT THE INSTANCE 'slices.SortFunc[[]pub-labyrinth/pub/gonum/graph.Node,pub-labyrinth/pub/gonum/graph.Node]': no walk: one application.) -/
theorem Tryz.slices_SortFunc_none_f141 {α : Type} [Inhabited α] (p : Option Addr) (cap : Nat) (fv : Value) (w : World) :
    Calls Tryz.prog 141 #[.slice p 0 cap, fv] w fun e w' => e = .returned (.tuple #[]) ∧ w' = w := AnyF.slices_SortFunc_none Tryz.laysSlF06_f141 p cap fv w
open Go.RowKit Go.Lib Go.Sort in
/-- **slices.SortFunc AT ONE CELL, UNDER A 'cmp' THAT PARTS WHATEVER TWO THAT ARE NOT ONE: THE ROW HOLDS core's 'mergeSort'.** (LAID AT THE INSTANCE 'slices.SortFunc[[]pub-labyrinth/pub/gonum/graph.Node,pub-labyrinth/pub/gonum/graph.Node]': no walk: one application.) -/
theorem Tryz.slices_SortFunc_total_f141 {α : Type} [Inhabited α] (enc : α → Value) (h1 : OneCell enc) (cf : α → α → Int) (hO : SWO (ltOf cf)) (g : Nat) (cb : Array Value) (blk off cap : Nat) (d : Array α) (w : World) (eg : ∀ args w, (callFunc g args).run Tryz.prog w = .ok (.enter g args) w) (hcmp : CmpLays1 Tryz.prog g cb enc cf blk off d.size w) (hH : Holds enc w blk off d) (hblk : blk < w.heap.size) (hsz : d.size < 4611686018427387904) (hT : ∀ x y, (ltOf cf) x y = false → (ltOf cf) y x = false → x = y) :
    Calls Tryz.prog 141 #[.slice (some ⟨blk, off, none⟩) d.size cap, .func (.func g) #[] cb] w fun e w' =>
      e = .returned (.tuple #[]) ∧ ∃ n os, w' = sortWorld enc w blk off n (d.toList.mergeSort fun x y => !(ltOf cf) y x).toArray os := Any.slices_SortFunc_total Tryz.laysSlF6_f141 enc h1 cf hO g cb blk off cap d w eg hcmp hH hblk hsz hT
end Go.Proofs
