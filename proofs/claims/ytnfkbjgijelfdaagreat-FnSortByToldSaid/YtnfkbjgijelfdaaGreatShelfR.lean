/- Contracts of the library at instances of this program, under further names. -/
import Derived.Test.YtnfkbjgijelfdaaGreatShelf
namespace Go.Proofs
open Go.Shelf
open Go.RowKit Go.Lib Go.Sort in
theorem Tryz.bits_Len32_f138 (x : Int) (w : World) (h0 : 0 ≤ x) (h1 : x ≤ 4294967295) :
    Calls Tryz.prog 138 #[.int .u32 x] w fun e w' => e = .returned (.int .i64 (Lib.bitLen x.toNat)) ∧ w' = w := Any.bits_Len32 Tryz.lays128 x w h0 h1
open Go.RowKit Go.Lib Go.Sort in
theorem Tryz.bits_Len_f90 (x : Int) (w : World) (h0 : 0 ≤ x) (h1 : x ≤ 18446744073709551615) :
    Calls Tryz.prog 90 #[.int .u64 x] w fun e w' => e = .returned (.int .i64 (Lib.bitLen x.toNat)) ∧ w' = w := Any.bits_Len Tryz.lays125 x w h0 h1
open Go.RowKit Go.Lib Go.Sort in
theorem Tryz.bits_Len64_f139 (x : Int) (w : World) (h0 : 0 ≤ x) (h1 : x ≤ 18446744073709551615) :
    Calls Tryz.prog 139 #[.int .u64 x] w fun e w' => e = .returned (.int .i64 (Lib.bitLen x.toNat)) ∧ w' = w := Any.bits_Len64 Tryz.lays129 x w h0 h1
open Go.RowKit Go.Lib Go.Sort in
theorem Tryz.slices_Equal_int_f46 (b1 o1 n c b2 o2 m d : Nat) (xs ys : List Int) (w : World) (hx : n ≤ xs.length) (hy : m ≤ ys.length) (hbig : n ≤ 9223372036854775807) (hbig2 : m ≤ 9223372036854775807) (hc1 : ∀ j, j < xs.length → w.cell? ⟨b1, o1 + j, none⟩ = some (.int .i64 (xs.getD j 0))) (hc2 : ∀ j, j < ys.length → w.cell? ⟨b2, o2 + j, none⟩ = some (.int .i64 (ys.getD j 0))) :
    Calls Tryz.prog 46 #[.slice (some ⟨b1, o1, none⟩) n c, .slice (some ⟨b2, o2, none⟩) m d] w fun e w' => e = .returned (.bool (xs.take n == ys.take m)) ∧ ∃ q, w' = w.drewN q := Any.slices_Equal_int Tryz.lays111 b1 o1 n c b2 o2 m d xs ys w hx hy hbig hbig2 hc1 hc2
open Go.RowKit Go.Lib Go.Sort in
theorem Tryz.slices_Equal_int_empty_f46 (a1 a2 : Option Addr) (c m d : Nat) (w : World) (hbig2 : m ≤ 9223372036854775807) :
    Calls Tryz.prog 46 #[.slice a1 0 c, .slice a2 m d] w fun e w' => e = .returned (.bool (decide (m = 0))) ∧ w' = w := Any.slices_Equal_int_empty Tryz.lays111 a1 a2 c m d w hbig2
open Go.RowKit Go.Lib Go.Sort in
theorem Tryz.slices_Clone_int_f63 (b off n c : Nat) (zs : List Int) (w : World) (hz : n ≤ zs.length) (hbig : n * 8 ≤ 140737488355328) (hc : ∀ j, j < zs.length → w.cell? ⟨b, off + j, none⟩ = some (.int .i64 (zs.getD j 0))) :
    Calls Tryz.prog 63 #[.slice (some ⟨b, off, none⟩) n c] w fun e w' => ∃ v', e = .returned v' ∧ w'.ownsRow w.heap.size 3 1 v' n ((zs.take n).map (Value.int .i64)) ∧ v' ≠ .slice none 0 0 ∧ Below w.heap.size w w' := Any.slices_Clone_int Tryz.laysNm215 b off n c zs w hz hbig hc
open Go.RowKit Go.Lib Go.Sort in
theorem Tryz.slices_Clone_int_nil_f63 (n c : Nat) (w : World) :
    Calls Tryz.prog 63 #[.slice none n c] w fun e w' => e = .returned (.slice none 0 0) ∧ w' = w := Any.slices_Clone_int_nil Tryz.laysNm215 n c w
open Go.RowKit Go.Lib Go.Sort in
theorem Tryz.slices_Clone_int_zero_f63 (a : Addr) (c : Nat) (w : World) :
    Calls Tryz.prog 63 #[.slice (some a) 0 c] w fun e w' => ∃ v', e = .returned v' ∧ w'.ownsRow w.heap.size 3 1 v' 0 [] ∧ v' ≠ .slice none 0 0 ∧ Below w.heap.size w w' := Any.slices_Clone_int_zero Tryz.laysNm215 a c w
open Go.RowKit Go.Lib Go.Sort in
theorem Tryz.slices_Equal_int_lens_f46 (a1 a2 : Option Addr) (n c m d : Nat) (w : World) (hnm : n ≠ m) :
    Calls Tryz.prog 46 #[.slice a1 n c, .slice a2 m d] w fun e w' => e = .returned (.bool false) ∧ w' = w := Any.slices_Equal_int_lens Tryz.lays111 a1 a2 n c m d w hnm
open Go.RowKit Go.Lib Go.Sort in
theorem Tryz.slices_isNaN_int2_f147 (x : Int) (w : World) :
    Calls Tryz.prog 147 #[.int .i64 x] w fun e w' => e = .returned (.bool false) ∧ w' = w := AnyG.slices_isNaN_int2 Tryz.laysSlN60_f147 x w
open Go.RowKit Go.Lib Go.Sort in
theorem Tryz.slices_BinarySearch_int_f100 (b off n c : Nat) (zs : List Int) (x : Int) (w : World) (hz : n ≤ zs.length) (hbig : n < 4611686018427387904) (hc : ∀ j, j < zs.length → w.cell? ⟨b, off + j, none⟩ = some (.int .i64 (zs.getD j 0))) (hs : (zs.take n).Pairwise (· ≤ ·)) :
    Calls Tryz.prog 100 #[.slice (some ⟨b, off, none⟩) n c, .int .i64 x] w fun e w' => e = .returned (.tuple #[.int .i64 ((zs.take n).countP (· < x) : Nat), .bool ((zs.take n).contains x)]) ∧ ∃ q, w' = w.drewN q := AnyG.slices_BinarySearch_int Tryz.laysSlN49_f100 b off n c zs x w hz hbig hc hs
open Go.RowKit Go.Lib Go.Sort in
theorem Tryz.insertionSortCmpFunc_one_f148 {α : Type} [Inhabited α] (enc : α → Value) (hO : OneCell enc) (cf : α → α → Int) (g : Nat) (cb : Array Value) (blk off cap a b : Nat) (d : Array α) (w : World) (eg : ∀ args w, (callFunc g args).run Tryz.prog w = .ok (.enter g args) w) (hcmp : CmpReads Tryz.prog g cb enc cf blk off d.size w) (hH : Holds enc w blk off d) (hab : a ≤ b) (hb : b ≤ d.size) (hsz : d.size < 4611686018427387904) :
    Calls Tryz.prog 148 #[.slice (some ⟨blk, off, none⟩) d.size cap, .int .i64 a, .int .i64 b, .func (.func g) #[] cb] w fun e w' =>
      e = .returned (.tuple #[]) ∧ ∃ n, w' = (putRow enc w blk off (Sort.insertionSort (ltOf cf) d a b)).drewN n := Any.insertionSortCmpFunc_one Tryz.laysSlF20_f148 enc hO cf g cb blk off cap a b d w eg hcmp hH hab hb hsz
open Go.RowKit Go.Lib Go.Sort in
theorem Tryz.siftDownCmpFunc_f172 {α : Type} [Inhabited α] (enc : α → Value) (cf : α → α → Int) (g : Nat) (cb : Array Value) (blk off cap lo hi first : Nat) (d0 d : Array α) (w0 w : World) (eg : ∀ args w, (callFunc g args).run Tryz.prog w = .ok (.enter g args) w) (hcmp : CmpLays1 Tryz.prog g cb enc cf blk off d0.size w0) (R : Row1 enc w0 blk off d0) (hs : d0.size = d.size) (S : SW enc w0 blk off d w) (hlo : lo ≤ hi) (hb : first + hi ≤ d.size) (hsz : d.size < 4611686018427387904) :
    Calls Tryz.prog 172 #[.slice (some ⟨blk, off, none⟩) d.size cap, .int .i64 lo, .int .i64 hi, .int .i64 first, .func (.func g) #[] cb] w fun e w' =>
      e = .returned (.tuple #[]) ∧ SW enc w0 blk off (siftDown (ltOf cf) hi first lo d) w' := Any.siftDownCmpFunc Tryz.laysSlF46_f172 enc cf g cb blk off cap lo hi first d0 d w0 w eg hcmp R hs S hlo hb hsz
open Go.RowKit Go.Lib Go.Sort in
theorem Tryz.heapSortCmpFunc_f149 {α : Type} [Inhabited α] (enc : α → Value) (cf : α → α → Int) (g : Nat) (cb : Array Value) (blk off cap a b : Nat) (d0 d : Array α) (w0 w : World) (eg : ∀ args w, (callFunc g args).run Tryz.prog w = .ok (.enter g args) w) (hcmp : CmpLays1 Tryz.prog g cb enc cf blk off d0.size w0) (R : Row1 enc w0 blk off d0) (hs : d0.size = d.size) (S : SW enc w0 blk off d w) (hab : a ≤ b) (hb : b ≤ d.size) (hsz : d.size < 4611686018427387904) :
    Calls Tryz.prog 149 #[.slice (some ⟨blk, off, none⟩) d.size cap, .int .i64 a, .int .i64 b, .func (.func g) #[] cb] w fun e w' =>
      e = .returned (.tuple #[]) ∧ SW enc w0 blk off (heapSort (ltOf cf) d a b) w' := Any.heapSortCmpFunc Tryz.laysSlF21_f149 enc cf g cb blk off cap a b d0 d w0 w eg hcmp R hs S hab hb hsz
open Go.RowKit Go.Lib Go.Sort in
theorem Tryz.insertionSortCmpFunc_s_f148 {α : Type} [Inhabited α] (enc : α → Value) (cf : α → α → Int) (g : Nat) (cb : Array Value) (blk off cap a b : Nat) (d0 d : Array α) (w0 w : World) (eg : ∀ args w, (callFunc g args).run Tryz.prog w = .ok (.enter g args) w) (hcmp : CmpLays1 Tryz.prog g cb enc cf blk off d0.size w0) (R : Row1 enc w0 blk off d0) (hs : d0.size = d.size) (S : SW enc w0 blk off d w) (hab : a ≤ b) (hb : b ≤ d.size) (hsz : d.size < 4611686018427387904) :
    Calls Tryz.prog 148 #[.slice (some ⟨blk, off, none⟩) d.size cap, .int .i64 a, .int .i64 b, .func (.func g) #[] cb] w fun e w' => e = .returned (.tuple #[]) ∧ SW enc w0 blk off (Sort.insertionSort (ltOf cf) d a b) w' := Any.insertionSortCmpFunc_s Tryz.laysSlF20_f148 enc cf g cb blk off cap a b d0 d w0 w eg hcmp R hs S hab hb hsz
open Go.RowKit Go.Lib Go.Sort in
theorem Tryz.order2CmpFunc_f188 {α : Type} [Inhabited α] (enc : α → Value) (cf : α → α → Int) (g : Nat) (cb : Array Value) (blk off cap a b c s : Nat) (d0 d : Array α) (w0 W : World) (eg : ∀ args w, (callFunc g args).run Tryz.prog w = .ok (.enter g args) w) (hcmp : CmpLays1 Tryz.prog g cb enc cf blk off d0.size w0) (R : Row1 enc w0 blk off d0) (hs : d0.size = d.size) (C : Cnt1 enc w0 blk off d c s W) (ha : a < d.size) (hb : b < d.size) (hsz : d.size < 4611686018427387904) (hss : s < 4611686018427387904) :
    Calls Tryz.prog 188 #[.slice (some ⟨blk, off, none⟩) d.size cap, .int .i64 a, .int .i64 b, .pointer (some ⟨c, 0, none⟩), .func (.func g) #[] cb] W fun e w' =>
      e = .returned (.tuple #[.int .i64 (order2 (ltOf cf) d a b s).1, .int .i64 (order2 (ltOf cf) d a b s).2.1]) ∧ Cnt1 enc w0 blk off d c (order2 (ltOf cf) d a b s).2.2 w' := Any.order2CmpFunc Tryz.laysSlF57_f188 enc cf g cb blk off cap a b c s d0 d w0 W eg hcmp R hs C ha hb hsz hss
open Go.RowKit Go.Lib Go.Sort in
theorem Tryz.medianCmpFunc_f174 {α : Type} [Inhabited α] (enc : α → Value) (cf : α → α → Int) (g : Nat) (cb : Array Value) (blk off cap a b c' c s : Nat) (d0 d : Array α) (w0 W : World) (eg : ∀ args w, (callFunc g args).run Tryz.prog w = .ok (.enter g args) w) (hcmp : CmpLays1 Tryz.prog g cb enc cf blk off d0.size w0) (R : Row1 enc w0 blk off d0) (hs : d0.size = d.size) (C : Cnt1 enc w0 blk off d c s W) (ha : a < d.size) (hb : b < d.size) (hc : c' < d.size) (hsz : d.size < 4611686018427387904) (hss : s + 3 < 4611686018427387904) :
    Calls Tryz.prog 174 #[.slice (some ⟨blk, off, none⟩) d.size cap, .int .i64 a, .int .i64 b, .int .i64 c', .pointer (some ⟨c, 0, none⟩), .func (.func g) #[] cb] W fun e w' =>
      e = .returned (.int .i64 (median (ltOf cf) d a b c' s).1) ∧ Cnt1 enc w0 blk off d c (median (ltOf cf) d a b c' s).2 w' := Any.medianCmpFunc Tryz.laysSlF50_f174 enc cf g cb blk off cap a b c' c s d0 d w0 W eg hcmp R hs C ha hb hc hsz hss
open Go.RowKit Go.Lib Go.Sort in
theorem Tryz.medianAdjacentCmpFunc_f173 {α : Type} [Inhabited α] (enc : α → Value) (cf : α → α → Int) (g : Nat) (cb : Array Value) (blk off cap a c s : Nat) (d0 d : Array α) (w0 W : World) (eg : ∀ args w, (callFunc g args).run Tryz.prog w = .ok (.enter g args) w) (hcmp : CmpLays1 Tryz.prog g cb enc cf blk off d0.size w0) (R : Row1 enc w0 blk off d0) (hs : d0.size = d.size) (C : Cnt1 enc w0 blk off d c s W) (ha1 : 1 ≤ a) (ha2 : a + 1 < d.size) (hsz : d.size < 4611686018427387904) (hss : s + 3 < 4611686018427387904) :
    Calls Tryz.prog 173 #[.slice (some ⟨blk, off, none⟩) d.size cap, .int .i64 a, .pointer (some ⟨c, 0, none⟩), .func (.func g) #[] cb] W fun e w' =>
      e = .returned (.int .i64 (medianAdjacent (ltOf cf) d a s).1) ∧ Cnt1 enc w0 blk off d c (medianAdjacent (ltOf cf) d a s).2 w' := Any.medianAdjacentCmpFunc Tryz.laysSlF49_f173 enc cf g cb blk off cap a c s d0 d w0 W eg hcmp R hs C ha1 ha2 hsz hss
open Go.RowKit Go.Lib Go.Sort in
theorem Tryz.choosePivotCmpFunc_f151 {α : Type} [Inhabited α] (enc : α → Value) (cf : α → α → Int) (g : Nat) (cb : Array Value) (blk off cap a b : Nat) (d0 d : Array α) (w0 W : World) (eg : ∀ args w, (callFunc g args).run Tryz.prog w = .ok (.enter g args) w) (hcmp : CmpLays1 Tryz.prog g cb enc cf blk off d0.size w0) (R : Row1 enc w0 blk off d0) (hs : d0.size = d.size) (S : SW enc w0 blk off d W) (hab : a < b) (hb : b ≤ d.size) (hsz : d.size < 4611686018427387904) :
    Calls Tryz.prog 151 #[.slice (some ⟨blk, off, none⟩) d.size cap, .int .i64 a, .int .i64 b, .func (.func g) #[] cb] W fun e w' =>
      e = .returned (.tuple #[.int .i64 (choosePivot (ltOf cf) d a b).1, .int .i64 (hintCode (choosePivot (ltOf cf) d a b).2)]) ∧ SW enc w0 blk off d w' := Any.choosePivotCmpFunc Tryz.laysSlF23_f151 enc cf g cb blk off cap a b d0 d w0 W eg hcmp R hs S hab hb hsz
open Go.RowKit Go.Lib Go.Sort in
theorem Tryz.reverseRangeCmpFunc_f152 {α : Type} [Inhabited α] (enc : α → Value) (g : Nat) (cb : Array Value) (blk off cap a b : Nat) (d0 d : Array α) (w0 w : World) (R : Row1 enc w0 blk off d0) (hs : d0.size = d.size) (S : SW enc w0 blk off d w) (hab : a ≤ b) (hb : b ≤ d.size) (hsz : d.size < 4611686018427387904) :
    Calls Tryz.prog 152 #[.slice (some ⟨blk, off, none⟩) d.size cap, .int .i64 a, .int .i64 b, .func (.func g) #[] cb] w fun e w' => e = .returned (.tuple #[]) ∧ SW enc w0 blk off (reverseRange d a b) w' := Any.reverseRangeCmpFunc Tryz.laysSlF24_f152 enc g cb blk off cap a b d0 d w0 w R hs S hab hb hsz
open Go.RowKit Go.Lib Go.Sort in
theorem Tryz.partialInsertionSortCmpFunc_f153 {α : Type} [Inhabited α] (enc : α → Value) (cf : α → α → Int) (g : Nat) (cb : Array Value) (blk off cap a b : Nat) (d0 d : Array α) (w0 w : World) (eg : ∀ args w, (callFunc g args).run Tryz.prog w = .ok (.enter g args) w) (hcmp : CmpLays1 Tryz.prog g cb enc cf blk off d0.size w0) (R : Row1 enc w0 blk off d0) (hs : d0.size = d.size) (S : SW enc w0 blk off d w) (hab : a < b) (hb : b ≤ d.size) (hsz : d.size < 4611686018427387904) :
    Calls Tryz.prog 153 #[.slice (some ⟨blk, off, none⟩) d.size cap, .int .i64 a, .int .i64 b, .func (.func g) #[] cb] w fun e w' =>
      e = .returned (.bool (Sort.partialInsertionSort (ltOf cf) d a b).2) ∧ SW enc w0 blk off (Sort.partialInsertionSort (ltOf cf) d a b).1 w' := Any.partialInsertionSortCmpFunc Tryz.laysSlF25_f153 enc cf g cb blk off cap a b d0 d w0 w eg hcmp R hs S hab hb hsz
open Go.RowKit Go.Lib Go.Sort in
theorem Tryz.partitionEqualCmpFunc_f154 {α : Type} [Inhabited α] (enc : α → Value) (cf : α → α → Int) (g : Nat) (cb : Array Value) (blk off cap a b pivot : Nat) (d0 d : Array α) (w0 w : World) (eg : ∀ args w, (callFunc g args).run Tryz.prog w = .ok (.enter g args) w) (hcmp : CmpLays1 Tryz.prog g cb enc cf blk off d0.size w0) (R : Row1 enc w0 blk off d0) (hs : d0.size = d.size) (S : SW enc w0 blk off d w) (hap : a ≤ pivot) (hpb : pivot < b) (hb : b ≤ d.size) (hsz : d.size < 4611686018427387904) :
    Calls Tryz.prog 154 #[.slice (some ⟨blk, off, none⟩) d.size cap, .int .i64 a, .int .i64 b, .int .i64 pivot, .func (.func g) #[] cb] w fun e w' =>
      e = .returned (.int .i64 (Sort.partitionEqual (ltOf cf) d a b pivot).1) ∧ SW enc w0 blk off (Sort.partitionEqual (ltOf cf) d a b pivot).2 w' := Any.partitionEqualCmpFunc Tryz.laysSlF26_f154 enc cf g cb blk off cap a b pivot d0 d w0 w eg hcmp R hs S hap hpb hb hsz
open Go.RowKit Go.Lib Go.Sort in
theorem Tryz.partitionCmpFunc_f155 {α : Type} [Inhabited α] (enc : α → Value) (cf : α → α → Int) (g : Nat) (cb : Array Value) (blk off cap a b pivot : Nat) (d0 d : Array α) (w0 w : World) (eg : ∀ args w, (callFunc g args).run Tryz.prog w = .ok (.enter g args) w) (hcmp : CmpLays1 Tryz.prog g cb enc cf blk off d0.size w0) (R : Row1 enc w0 blk off d0) (hs : d0.size = d.size) (S : SW enc w0 blk off d w) (hap : a ≤ pivot) (hpb : pivot < b) (hb : b ≤ d.size) (hsz : d.size < 4611686018427387904) :
    Calls Tryz.prog 155 #[.slice (some ⟨blk, off, none⟩) d.size cap, .int .i64 a, .int .i64 b, .int .i64 pivot, .func (.func g) #[] cb] w fun e w' =>
      e = .returned (.tuple #[.int .i64 (Sort.partition (ltOf cf) d a b pivot).1, .bool (Sort.partition (ltOf cf) d a b pivot).2.1]) ∧ SW enc w0 blk off (Sort.partition (ltOf cf) d a b pivot).2.2 w' := Any.partitionCmpFunc Tryz.laysSlF27_f155 enc cf g cb blk off cap a b pivot d0 d w0 w eg hcmp R hs S hap hpb hb hsz
open Go.RowKit Go.Lib Go.Sort in
theorem Tryz.pdqsortCmpFunc_all_f101 {α : Type} [Inhabited α] (enc : α → Value) (cf : α → α → Int) (g : Nat) (cb : Array Value) (hO : SWO (ltOf cf)) (blk off cap : Nat) (d0 : Array α) (w0 : World) (eg : ∀ args w, (callFunc g args).run Tryz.prog w = .ok (.enter g args) w) (hcmp : CmpLays1 Tryz.prog g cb enc cf blk off d0.size w0) (R : Row1 enc w0 blk off d0) :
    ∀ (N a b limit : Nat) (d : Array α) (w : World), b - a < N → d0.size = d.size → SW enc w0 blk off d w → a ≤ b → b ≤ d.size → d.size < 4611686018427387904 → limit < 4611686018427387904 → Below (ltOf cf) a b d →
    Calls Tryz.prog 101 #[.slice (some ⟨blk, off, none⟩) d.size cap, .int .i64 a, .int .i64 b, .int .i64 limit, .func (.func g) #[] cb] w fun e w' => e = .returned (.tuple #[]) ∧ SW enc w0 blk off (pdq (ltOf cf) d a b limit true true) w' := Any.pdqsortCmpFunc_all Tryz.laysSlF14_f101 enc cf g cb hO blk off cap d0 w0 eg hcmp R
open Go.RowKit Go.Lib Go.Sort in
theorem Tryz.slices_SortFunc_eq_f67 {α : Type} [Inhabited α] (enc : α → Value) (h1 : OneCell enc) (cf : α → α → Int) (hO : SWO (ltOf cf)) (g : Nat) (cb : Array Value) (blk off cap : Nat) (d : Array α) (w : World) (eg : ∀ args w, (callFunc g args).run Tryz.prog w = .ok (.enter g args) w) (hcmp : CmpLays1 Tryz.prog g cb enc cf blk off d.size w) (hH : Holds enc w blk off d) (hblk : blk < w.heap.size) (hsz : d.size < 4611686018427387904) :
    Calls Tryz.prog 67 #[.slice (some ⟨blk, off, none⟩) d.size cap, .func (.func g) #[] cb] w fun e w' =>
      e = .returned (.tuple #[]) ∧ ∃ n os, w' = sortWorld enc w blk off n (pdq (ltOf cf) d 0 d.size (Lib.bitLen d.size) true true) os := Any.slices_SortFunc_eq Tryz.laysSlF6_f67 enc h1 cf hO g cb blk off cap d w eg hcmp hH hblk hsz
open Go.RowKit Go.Lib Go.Sort in
theorem Tryz.slices_SortFunc_f67 {α : Type} [Inhabited α] (enc : α → Value) (h1 : OneCell enc) (cf : α → α → Int) (hO : SWO (ltOf cf)) (g : Nat) (cb : Array Value) (blk off cap : Nat) (d : Array α) (w : World) (eg : ∀ args w, (callFunc g args).run Tryz.prog w = .ok (.enter g args) w) (hcmp : CmpLays1 Tryz.prog g cb enc cf blk off d.size w) (hH : Holds enc w blk off d) (hblk : blk < w.heap.size) (hsz : d.size < 4611686018427387904) :
    Calls Tryz.prog 67 #[.slice (some ⟨blk, off, none⟩) d.size cap, .func (.func g) #[] cb] w fun e w' =>
      e = .returned (.tuple #[]) ∧ ∃ d' n os, PermIn 0 d.size d d' ∧ SortedIn (ltOf cf) 0 d.size d' ∧ w' = sortWorld enc w blk off n d' os := Any.slices_SortFunc Tryz.laysSlF6_f67 enc h1 cf hO g cb blk off cap d w eg hcmp hH hblk hsz
open Go.RowKit Go.Lib Go.Sort in
theorem Tryz.insertionSortCmpFunc_none_f148 {α : Type} [Inhabited α] (p : Option Addr) (cap : Nat) (fv : Value) (w : World) :
    Calls Tryz.prog 148 #[.slice p 0 cap, .int .i64 0, .int .i64 0, fv] w fun e w' => e = .returned (.tuple #[]) ∧ w' = w := AnyF.insertionSortCmpFunc_none Tryz.laysSlF020_f148 p cap fv w
open Go.RowKit Go.Lib Go.Sort in
theorem Tryz.pdqsortCmpFunc_none_f101 {α : Type} [Inhabited α] (p : Option Addr) (cap : Nat) (lim : Int) (fv : Value) (w : World) :
    Calls Tryz.prog 101 #[.slice p 0 cap, .int .i64 0, .int .i64 0, .int .i64 lim, fv] w fun e w' => e = .returned (.tuple #[]) ∧ w' = w := AnyF.pdqsortCmpFunc_none Tryz.laysSlF014_f101 p cap lim fv w
open Go.RowKit Go.Lib Go.Sort in
theorem Tryz.slices_SortFunc_none_f67 {α : Type} [Inhabited α] (p : Option Addr) (cap : Nat) (fv : Value) (w : World) :
    Calls Tryz.prog 67 #[.slice p 0 cap, fv] w fun e w' => e = .returned (.tuple #[]) ∧ w' = w := AnyF.slices_SortFunc_none Tryz.laysSlF06_f67 p cap fv w
open Go.RowKit Go.Lib Go.Sort in
theorem Tryz.slices_SortFunc_total_f67 {α : Type} [Inhabited α] (enc : α → Value) (h1 : OneCell enc) (cf : α → α → Int) (hO : SWO (ltOf cf)) (g : Nat) (cb : Array Value) (blk off cap : Nat) (d : Array α) (w : World) (eg : ∀ args w, (callFunc g args).run Tryz.prog w = .ok (.enter g args) w) (hcmp : CmpLays1 Tryz.prog g cb enc cf blk off d.size w) (hH : Holds enc w blk off d) (hblk : blk < w.heap.size) (hsz : d.size < 4611686018427387904) (hT : ∀ x y, (ltOf cf) x y = false → (ltOf cf) y x = false → x = y) :
    Calls Tryz.prog 67 #[.slice (some ⟨blk, off, none⟩) d.size cap, .func (.func g) #[] cb] w fun e w' =>
      e = .returned (.tuple #[]) ∧ ∃ n os, w' = sortWorld enc w blk off n (d.toList.mergeSort fun x y => !(ltOf cf) y x).toArray os := Any.slices_SortFunc_total Tryz.laysSlF6_f67 enc h1 cf hO g cb blk off cap d w eg hcmp hH hblk hsz hT
end Go.Proofs
