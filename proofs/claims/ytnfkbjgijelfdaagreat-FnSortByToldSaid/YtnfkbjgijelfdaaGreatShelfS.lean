/- Contracts of the library at instances of this program, laid by the kit. -/
import Derived.Shelf.Small.Bits
import Derived.Shelf.Strconv.Itoa0
import Derived.Shelf.Slices.Equal
import Derived.Ground.Names2Prog
import Derived.Shelf.Slices.Clone
import Derived.Shelf.Slices.Empties2
import Derived.Ground.SlgnProg
import Derived.Shelf.SlicesG.Clone
import Derived.Shelf.SlicesG.CompactI
import Derived.Shelf.SlicesG.SearchI
import Derived.Shelf.SlicesE.Index
import Derived.Shelf.SlicesE.Reverse
import Derived.Shelf.SlicesE.Equal
import Derived.Shelf.SlicesE.Compact
import Derived.Shelf.SlicesE.Clone
import Derived.Ground.SlsfProg
import Derived.Shelf.SlSortCmp.Insertion
import Derived.Ground.SlgmProg
import Derived.Shelf.SortM.Plain
import Derived.Shelf.SortM.SortNone
import Derived.Shelf.SlSortCmp.SiftDown1
import Derived.Shelf.SlSortCmp.HeapSort1
import Derived.Shelf.SlSortCmp.Insertion1
import Derived.Shelf.SlSortCmp.Median1
import Derived.Shelf.SlSortCmp.Pivot1
import Derived.Shelf.SlSortCmp.ReverseRange1
import Derived.Shelf.SlSortCmp.PartialInsertion1
import Derived.Shelf.SlSortCmp.PartitionEqual1
import Derived.Shelf.SlSortCmp.Partition1
import Derived.Shelf.SlSortCmp.Pdq1
import Derived.Shelf.SlSortCmp.Whole1
import Derived.Shelf.SlSortCmp.NoneTotal
import Derived.Test.YtnfkbjgijelfdaaGreatShelf
import Derived.Test.YtnfkbjgijelfdaaGreatShelfR
namespace Go.Proofs
open Go.Shelf
def Tryz.laysSlE29_f35_ren : Go.Shelf.Ren := ⟨fun | 29 => 35 | n => n, fun | 22 => 22 | 23 => 3 | 3 => 3 | 0 => 0 | 4 => 4 | n => n, fun | n => n⟩
theorem Tryz.laysSlE29_f35 : Go.Proofs.SlLaysE.n29 Tryz.prog Tryz.laysSlE29_f35_ren := {
  mixed := by kernel_rfl
  f29 := ⟨Tryz.f35.name, by decide, Tryz.func35.trans (congrArg some (by kernel_rfl))⟩
  t0 := Tryz.underlying0
  a0 := Tryz.isAgg0
  z0 := Tryz.sizeOf0
  v0 := Tryz.zeroValue0
  t3 := Tryz.underlying3
  a3 := Tryz.isAgg3
  z3 := Tryz.sizeOf3
  v3 := Tryz.zeroValue3
  t4 := Tryz.underlying4
  a4 := Tryz.isAgg4
  z4 := Tryz.sizeOf4
  v4 := Tryz.zeroValue4
  t22 := Tryz.underlying22
  a22 := Tryz.isAgg22
  z22 := Tryz.sizeOf22
  v22 := Tryz.zeroValue22
  a23 := Tryz.isAgg3
  z23 := Tryz.sizeOf3 }
open Go.Lib in
/-- slices.Index: "Index returns the index of the first occurrence of v in s, or -1 if not present.": IT RETURNS 'Lib.idxBy eq (the elements) v'; the world is as it was. 'zs': what the cells behind the slice's address hold (its spare capacity too, if you have it); 'zs.take n': its elements. (LAID AT THE INSTANCE 'slices.Index[[]int,int]': no walk: one application.) -/
theorem Tryz.slices_Index {α : Type} [Inhabited α] (enc : α → Value) (eq : α → α → Bool) (heq : EqlAt Tryz.prog 3 enc eq) (b off n c : Nat) (zs : List α) (x : α) (w : World) (hz : n ≤ zs.length) (hbig : n ≤ 9223372036854775807) (hc : ∀ j, j < zs.length → w.cell? ⟨b, off + j, none⟩ = some (enc zs[j]!)) :
    Calls Tryz.prog 35 #[.slice (some ⟨b, off, none⟩) n c, enc x] w fun e w' => e = .returned (.int .i64 (Lib.idxBy eq (zs.take n) x)) ∧ w' = w := AnyE.slices_Index Tryz.laysSlE29_f35 enc eq heq b off n c zs x w hz hbig hc
open Go.Lib in
/-- The same at a slice of length 0, a nil one too: no cell is known, none is asked for; nothing is asked of '=='. (LAID AT THE INSTANCE 'slices.Index[[]int,int]': no walk: one application.) -/
theorem Tryz.slices_Index_empty {α : Type} [Inhabited α] (a : Option Addr) (c : Nat) (xv : Value) (w : World) :
    Calls Tryz.prog 35 #[.slice a 0 c, xv] w fun e w' => e = .returned (.int .i64 (-1)) ∧ w' = w := AnyE.slices_Index_empty Tryz.laysSlE29_f35 a c xv w
def Tryz.laysSlE31_f30_ren : Go.Shelf.Ren := ⟨fun | 31 => 30 | 29 => 35 | n => n, fun | 22 => 22 | 23 => 3 | 4 => 4 | 3 => 3 | 0 => 0 | n => n, fun | n => n⟩
theorem Tryz.laysSlE31_f30 : Go.Proofs.SlLaysE.n31 Tryz.prog Tryz.laysSlE31_f30_ren := {
  mixed := by kernel_rfl
  f29 := ⟨Tryz.f35.name, by decide, Tryz.func35.trans (congrArg some (by kernel_rfl))⟩
  f31 := ⟨Tryz.f30.name, by decide, Tryz.func30.trans (congrArg some (by kernel_rfl))⟩
  t0 := Tryz.underlying0
  a0 := Tryz.isAgg0
  z0 := Tryz.sizeOf0
  v0 := Tryz.zeroValue0
  t3 := Tryz.underlying3
  a3 := Tryz.isAgg3
  z3 := Tryz.sizeOf3
  v3 := Tryz.zeroValue3
  t4 := Tryz.underlying4
  a4 := Tryz.isAgg4
  z4 := Tryz.sizeOf4
  v4 := Tryz.zeroValue4
  t22 := Tryz.underlying22
  a22 := Tryz.isAgg22
  z22 := Tryz.sizeOf22
  v22 := Tryz.zeroValue22
  a23 := Tryz.isAgg3
  z23 := Tryz.sizeOf3 }
open Go.Lib in
/-- slices.Contains: "Contains reports whether v is present in s.": IT RETURNS 'elements.any (eq v ·)'; the world is as it was. ITS CALLEE slices.Index IS MET BY ITS OWN CONTRACT: no loop is walked here. (LAID AT THE INSTANCE 'slices.Contains[[]int,int]': no walk: one application.) -/
theorem Tryz.slices_Contains {α : Type} [Inhabited α] (enc : α → Value) (eq : α → α → Bool) (heq : EqlAt Tryz.prog 3 enc eq) (b off n c : Nat) (zs : List α) (x : α) (w : World) (hz : n ≤ zs.length) (hbig : n ≤ 9223372036854775807) (hc : ∀ j, j < zs.length → w.cell? ⟨b, off + j, none⟩ = some (enc zs[j]!)) :
    Calls Tryz.prog 30 #[.slice (some ⟨b, off, none⟩) n c, enc x] w fun e w' => e = .returned (.bool ((zs.take n).any fun y => eq x y)) ∧ w' = w := AnyE.slices_Contains Tryz.laysSlE31_f30 enc eq heq b off n c zs x w hz hbig hc
open Go.Lib in
/-- The same at a slice of length 0, a nil one too. (LAID AT THE INSTANCE 'slices.Contains[[]int,int]': no walk: one application.) -/
theorem Tryz.slices_Contains_empty {α : Type} [Inhabited α] (a : Option Addr) (c : Nat) (xv : Value) (w : World) :
    Calls Tryz.prog 30 #[.slice a 0 c, xv] w fun e w' => e = .returned (.bool false) ∧ w' = w := AnyE.slices_Contains_empty Tryz.laysSlE31_f30 a c xv w
def Tryz.laysSlE33_f46_ren : Go.Shelf.Ren := ⟨fun | 33 => 46 | n => n, fun | 22 => 22 | 23 => 3 | 4 => 4 | 3 => 3 | 0 => 0 | n => n, fun | n => n⟩
theorem Tryz.laysSlE33_f46 : Go.Proofs.SlLaysE.n33 Tryz.prog Tryz.laysSlE33_f46_ren := {
  mixed := by kernel_rfl
  f33 := ⟨Tryz.f46.name, by decide, Tryz.func46.trans (congrArg some (by kernel_rfl))⟩
  t0 := Tryz.underlying0
  a0 := Tryz.isAgg0
  z0 := Tryz.sizeOf0
  v0 := Tryz.zeroValue0
  t3 := Tryz.underlying3
  a3 := Tryz.isAgg3
  z3 := Tryz.sizeOf3
  v3 := Tryz.zeroValue3
  t4 := Tryz.underlying4
  a4 := Tryz.isAgg4
  z4 := Tryz.sizeOf4
  v4 := Tryz.zeroValue4
  t22 := Tryz.underlying22
  a22 := Tryz.isAgg22
  z22 := Tryz.sizeOf22
  v22 := Tryz.zeroValue22
  a23 := Tryz.isAgg3
  z23 := Tryz.sizeOf3 }
open Go.RowKit Go.Lib in
/-- slices.Equal: "Equal reports whether two slices are equal: the same length and all elements equal. .. Empty and nil slices are considered equal. Floating point NaNs are not considered equal.": IT RETURNS 'Lib.allEq eq (the one's elements) (the other's)'; the world is as it was but for the count of draws. (LAID AT THE INSTANCE 'slices.Equal[[]int,int]': no walk: one application.) -/
theorem Tryz.slices_Equal {α : Type} [Inhabited α] (enc : α → Value) (eq : α → α → Bool) (hne : NeqAt Tryz.prog 3 enc eq) (b1 o1 n c b2 o2 m d : Nat) (xs ys : List α) (w : World) (hx : n ≤ xs.length) (hy : m ≤ ys.length) (hbig : n ≤ 9223372036854775807) (hbig2 : m ≤ 9223372036854775807) (hc1 : ∀ j, j < xs.length → w.cell? ⟨b1, o1 + j, none⟩ = some (enc xs[j]!)) (hc2 : ∀ j, j < ys.length → w.cell? ⟨b2, o2 + j, none⟩ = some (enc ys[j]!)) :
    Calls Tryz.prog 46 #[.slice (some ⟨b1, o1, none⟩) n c, .slice (some ⟨b2, o2, none⟩) m d] w fun e w' => e = .returned (.bool (Lib.allEq eq (xs.take n) (ys.take m))) ∧ ∃ q, w' = w.drewN q := AnyE.slices_Equal Tryz.laysSlE33_f46 enc eq hne b1 o1 n c b2 o2 m d xs ys w hx hy hbig hbig2 hc1 hc2
def Tryz.laysSlE041_f47_ren : Go.Shelf.Ren := ⟨fun | 41 => 47 | n => n, fun | 22 => 28 | 23 => 22 | 4 => 4 | n => n, fun | n => n⟩
theorem Tryz.laysSlE041_f47 : Go.Proofs.SlLaysE0.n41 Tryz.prog Tryz.laysSlE041_f47_ren := {
  mixed := by kernel_rfl
  f41 := ⟨Tryz.f47.name, by decide, Tryz.func47.trans (congrArg some (by kernel_rfl))⟩
  t4 := Tryz.underlying4
  a4 := Tryz.isAgg4
  z4 := Tryz.sizeOf4
  v4 := Tryz.zeroValue4
  t22 := Tryz.underlying28
  a22 := Tryz.isAgg28
  z22 := Tryz.sizeOf28
  v22 := Tryz.zeroValue28 }
open Go.RowKit Go.Lib in
/-- slices.Clone: "Clone returns a copy of the slice. The elements are copied using assignment, so this is a shallow clone. The result may have additional unused capacity. The result preserves the nilness of s.": OF A SLICE THAT IS NOT nil IT RETURNS A SLICE THAT IS NOT nil, OF THE SAME CELLS, IN MEMORY OF THE CALL's OWN ('ownsRow': the how-to's 6f); below the heap's size at the call all is as it was. (LAID AT THE INSTANCE 'slices.Clone[[][]int,[]int]': no walk: one application.) -/
theorem Tryz.slices_Clone_f47 (i0 : TypeInfo) (z : Value) (size bytes : Nat) (hi : Tryz.prog.info? 22 = some i0) (hz0 : i0.zero = some z) (hz1 : i0.size = size) (hz2 : i0.bytes = bytes) (hzs : z.cells.size = size) (hsz : 0 < size) (z23 : ∀ w, (Go.sizeOf 22).run Tryz.prog w = .ok size w) (b off n c : Nat) (news : List Value) (w : World) (hl : news.length = n * size) (hn : n ≤ maxLen) (hbig : n * bytes ≤ 140737488355328) (hc : ∀ j u, news[j]? = some u → w.cell? ⟨b, off + j, none⟩ = some u) (h1 : ∀ u ∈ news, u.oneCell' = true) :
    Calls Tryz.prog 47 #[.slice (some ⟨b, off, none⟩) n c] w fun e w' => ∃ v', e = .returned v' ∧ w'.ownsRow w.heap.size 22 size v' n news ∧ v' ≠ .slice none 0 0 ∧ Below w.heap.size w w' := AnyE.slices_Clone Tryz.laysSlE041_f47 i0 z size bytes hi hz0 hz1 hz2 hzs hsz z23 b off n c news w hl hn hbig hc h1
def Tryz.laysSlE041_f145_ren : Go.Shelf.Ren := ⟨fun | 41 => 145 | n => n, fun | 22 => 153 | 23 => 4 | 4 => 4 | n => n, fun | n => n⟩
theorem Tryz.laysSlE041_f145 : Go.Proofs.SlLaysE0.n41 Tryz.prog Tryz.laysSlE041_f145_ren := {
  mixed := by kernel_rfl
  f41 := ⟨Tryz.f145.name, by decide, Tryz.func145.trans (congrArg some (by kernel_rfl))⟩
  t4 := Tryz.underlying4
  a4 := Tryz.isAgg4
  z4 := Tryz.sizeOf4
  v4 := Tryz.zeroValue4
  t22 := Tryz.underlying153
  a22 := Tryz.isAgg153
  z22 := Tryz.sizeOf153
  v22 := Tryz.zeroValue153 }
open Go.RowKit Go.Lib in
/-- slices.Clone: "Clone returns a copy of the slice. The elements are copied using assignment, so this is a shallow clone. The result may have additional unused capacity. The result preserves the nilness of s.": OF A SLICE THAT IS NOT nil IT RETURNS A SLICE THAT IS NOT nil, OF THE SAME CELLS, IN MEMORY OF THE CALL's OWN ('ownsRow': the how-to's 6f); below the heap's size at the call all is as it was. (LAID AT THE INSTANCE 'slices.Clone[[]bool,bool]': no walk: one application.) -/
theorem Tryz.slices_Clone_f145 (i0 : TypeInfo) (z : Value) (size bytes : Nat) (hi : Tryz.prog.info? 4 = some i0) (hz0 : i0.zero = some z) (hz1 : i0.size = size) (hz2 : i0.bytes = bytes) (hzs : z.cells.size = size) (hsz : 0 < size) (z23 : ∀ w, (Go.sizeOf 4).run Tryz.prog w = .ok size w) (b off n c : Nat) (news : List Value) (w : World) (hl : news.length = n * size) (hn : n ≤ maxLen) (hbig : n * bytes ≤ 140737488355328) (hc : ∀ j u, news[j]? = some u → w.cell? ⟨b, off + j, none⟩ = some u) (h1 : ∀ u ∈ news, u.oneCell' = true) :
    Calls Tryz.prog 145 #[.slice (some ⟨b, off, none⟩) n c] w fun e w' => ∃ v', e = .returned v' ∧ w'.ownsRow w.heap.size 4 size v' n news ∧ v' ≠ .slice none 0 0 ∧ Below w.heap.size w w' := AnyE.slices_Clone Tryz.laysSlE041_f145 i0 z size bytes hi hz0 hz1 hz2 hzs hsz z23 b off n c news w hl hn hbig hc h1
open Go.RowKit Go.Lib in
/-- The same at nil: nil comes back; the world is as it was; nothing is asked of the element's type. (LAID AT THE INSTANCE 'slices.Clone[[][]int,[]int]': no walk: one application.) -/
theorem Tryz.slices_Clone_nil_f47 (n c : Nat) (w : World) :
    Calls Tryz.prog 47 #[.slice none n c] w fun e w' => e = .returned (.slice none 0 0) ∧ w' = w := AnyE.slices_Clone_nil Tryz.laysSlE041_f47 n c w
open Go.RowKit Go.Lib in
/-- The same at nil: nil comes back; the world is as it was; nothing is asked of the element's type. (LAID AT THE INSTANCE 'slices.Clone[[]bool,bool]': no walk: one application.) -/
theorem Tryz.slices_Clone_nil_f145 (n c : Nat) (w : World) :
    Calls Tryz.prog 145 #[.slice none n c] w fun e w' => e = .returned (.slice none 0 0) ∧ w' = w := AnyE.slices_Clone_nil Tryz.laysSlE041_f145 n c w
open Go.Lib in
/-- slices.Contains: "Contains reports whether v is present in s.": IT RETURNS 'elements.any (eq v ·)'; the world is as it was. ITS CALLEE slices.Index IS MET BY ITS OWN CONTRACT: no loop is walked here. (LAID AT THE INSTANCE 'slices.Contains[[]int,int]': no walk: one application.) -/
theorem Tryz.slices_Contains_f30 {α : Type} [Inhabited α] (enc : α → Value) (eq : α → α → Bool) (heq : EqlAt Tryz.prog 3 enc eq) (b off n c : Nat) (zs : List α) (x : α) (w : World) (hz : n ≤ zs.length) (hbig : n ≤ 9223372036854775807) (hc : ∀ j, j < zs.length → w.cell? ⟨b, off + j, none⟩ = some (enc zs[j]!)) :
    Calls Tryz.prog 30 #[.slice (some ⟨b, off, none⟩) n c, enc x] w fun e w' => e = .returned (.bool ((zs.take n).any fun y => eq x y)) ∧ w' = w := AnyE.slices_Contains Tryz.laysSlE31_f30 enc eq heq b off n c zs x w hz hbig hc
open Go.Lib in
/-- The same at a slice of length 0, a nil one too. (LAID AT THE INSTANCE 'slices.Contains[[]int,int]': no walk: one application.) -/
theorem Tryz.slices_Contains_empty_f30 {α : Type} [Inhabited α] (a : Option Addr) (c : Nat) (xv : Value) (w : World) :
    Calls Tryz.prog 30 #[.slice a 0 c, xv] w fun e w' => e = .returned (.bool false) ∧ w' = w := AnyE.slices_Contains_empty Tryz.laysSlE31_f30 a c xv w
open Go.Lib in
/-- slices.Index: "Index returns the index of the first occurrence of v in s, or -1 if not present.": IT RETURNS 'Lib.idxBy eq (the elements) v'; the world is as it was. 'zs': what the cells behind the slice's address hold (its spare capacity too, if you have it); 'zs.take n': its elements. (LAID AT THE INSTANCE 'slices.Index[[]int,int]': no walk: one application.) -/
theorem Tryz.slices_Index_f35 {α : Type} [Inhabited α] (enc : α → Value) (eq : α → α → Bool) (heq : EqlAt Tryz.prog 3 enc eq) (b off n c : Nat) (zs : List α) (x : α) (w : World) (hz : n ≤ zs.length) (hbig : n ≤ 9223372036854775807) (hc : ∀ j, j < zs.length → w.cell? ⟨b, off + j, none⟩ = some (enc zs[j]!)) :
    Calls Tryz.prog 35 #[.slice (some ⟨b, off, none⟩) n c, enc x] w fun e w' => e = .returned (.int .i64 (Lib.idxBy eq (zs.take n) x)) ∧ w' = w := AnyE.slices_Index Tryz.laysSlE29_f35 enc eq heq b off n c zs x w hz hbig hc
open Go.Lib in
/-- The same at a slice of length 0, a nil one too: no cell is known, none is asked for; nothing is asked of '=='. (LAID AT THE INSTANCE 'slices.Index[[]int,int]': no walk: one application.) -/
theorem Tryz.slices_Index_empty_f35 {α : Type} [Inhabited α] (a : Option Addr) (c : Nat) (xv : Value) (w : World) :
    Calls Tryz.prog 35 #[.slice a 0 c, xv] w fun e w' => e = .returned (.int .i64 (-1)) ∧ w' = w := AnyE.slices_Index_empty Tryz.laysSlE29_f35 a c xv w
open Go.RowKit Go.Lib in
/-- slices.Equal: "Equal reports whether two slices are equal: the same length and all elements equal. .. Empty and nil slices are considered equal. Floating point NaNs are not considered equal.": IT RETURNS 'Lib.allEq eq (the one's elements) (the other's)'; the world is as it was but for the count of draws. (LAID AT THE INSTANCE 'slices.Equal[[]int,int]': no walk: one application.) -/
theorem Tryz.slices_Equal_f46 {α : Type} [Inhabited α] (enc : α → Value) (eq : α → α → Bool) (hne : NeqAt Tryz.prog 3 enc eq) (b1 o1 n c b2 o2 m d : Nat) (xs ys : List α) (w : World) (hx : n ≤ xs.length) (hy : m ≤ ys.length) (hbig : n ≤ 9223372036854775807) (hbig2 : m ≤ 9223372036854775807) (hc1 : ∀ j, j < xs.length → w.cell? ⟨b1, o1 + j, none⟩ = some (enc xs[j]!)) (hc2 : ∀ j, j < ys.length → w.cell? ⟨b2, o2 + j, none⟩ = some (enc ys[j]!)) :
    Calls Tryz.prog 46 #[.slice (some ⟨b1, o1, none⟩) n c, .slice (some ⟨b2, o2, none⟩) m d] w fun e w' => e = .returned (.bool (Lib.allEq eq (xs.take n) (ys.take m))) ∧ ∃ q, w' = w.drewN q := AnyE.slices_Equal Tryz.laysSlE33_f46 enc eq hne b1 o1 n c b2 o2 m d xs ys w hx hy hbig hbig2 hc1 hc2
end Go.Proofs
