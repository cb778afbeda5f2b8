/- Floats as the walk meets them, whatever their bits: sums, min and max, a float cut to an int. -/
import Derived.WalkKit
import Derived.Deep.Draws
import Derived.WalkLawsBesides
namespace Go.Proofs.YtbkoifdnlaihfaaGreat
open Go.RowKit

theorem choose_any (P : Program) (q : Question) (w : World) : ∃ n k, (choose q).run P w = .ok n (w.drewN k) := by
  rw [run_choose_drew]
  split
  · exact ⟨0, 0, rfl⟩
  · exact ⟨_, 1, rfl⟩

theorem run_add_any (P : Program) (t : TypeId) (x y : Nat) (w : World) : ∃ z q, (binOp .add t (.float .f64 x) (.float .f64 y)).run P w = .ok (.float .f64 z) (w.drewN q) ∧ ∀ r, floatBits .add .f64 x y = some r → z = r := by
  cases h : floatBits .add .f64 x y with
  | some r => exact ⟨r, 0, run_float_arith w .add t .f64 x y r h, fun r' h' => by simpa using h'⟩
  | none =>
    unfold floatBits at h
    simp only at h
    obtain ⟨n, k, hc⟩ := choose_any P (.nanBits .f64 x y) w
    exact ⟨n, k, by simp [-run_choose_drew, binOp, Op.floatArith, h, hc], fun r' h' => by cases h'⟩

theorem run_min_any (P : Program) (ts : Array TypeId) (t : TypeId) (x y : Nat) (w : World) : ∃ z q, (Builtin.min_ ts t #[.float .f64 x, .float .f64 y]).run P w = .ok (.float .f64 z) (w.drewN q) := by
  cases h : FloatKind.f64.format.order x y with
  | none =>
    obtain ⟨n, k, hc⟩ := choose_any P (.nanMinMax .f64 false x y) w
    exact ⟨n, k, by simp [-run_choose_drew, Builtin.min_, Builtin.min2, h, hc]⟩
  | some o => exact ⟨match o with | .lt => x | .gt => y | .eq => if (FloatKind.f64.decode x).neg then x else y, 0, by cases o <;> simp [Builtin.min_, Builtin.min2, h, World.drewN_zero]⟩

theorem run_max_any (P : Program) (ts : Array TypeId) (t : TypeId) (x y : Nat) (w : World) : ∃ z q, (Builtin.max_ ts t #[.float .f64 x, .float .f64 y]).run P w = .ok (.float .f64 z) (w.drewN q) := by
  cases h : FloatKind.f64.format.order x y with
  | none =>
    obtain ⟨n, k, hc⟩ := choose_any P (.nanMinMax .f64 true x y) w
    exact ⟨n, k, by simp [-run_choose_drew, Builtin.max_, Builtin.max2, h, hc]⟩
  | some o => exact ⟨match o with | .lt => y | .gt => x | .eq => if (FloatKind.f64.decode x).neg then y else x, 0, by cases o <;> simp [Builtin.max_, Builtin.max2, h, World.drewN_zero]⟩

theorem run_ftoi_any (P : Program) (src dst : TypeId) (b : Nat) (w : World) (hs : (P.underlying src).isSome = true) (hd : P.underlying dst = some (.int .i64)) :
    ∃ n q, (convert src dst (.float .f64 b)).run P w = .ok (.int .i64 n) (w.drewN q) ∧ ∀ m, floatToIntVal .f64 b .i64 = some m → n = m := by
  cases h : floatToIntVal .f64 b .i64 with
  | some r => exact ⟨r, 0, run_convert_float_int w src dst .f64 .i64 b r hs hd h, fun r' h' => by simpa using h'⟩
  | none =>
    obtain ⟨u, hs'⟩ := Option.isSome_iff_exists.1 hs
    obtain ⟨n, k, hc⟩ := choose_any P (.floatToInt .f64 b .i64) w
    unfold floatToIntVal at h
    split at h
    · rename_i m he
      split at h
      · cases h
      · rename_i hb
        have hb' : ¬ (IntKind.i64.min ≤ m ∧ m ≤ 9223372036854775807) := hb
        refine ⟨IntKind.i64.wrap n, k, ?_, fun r' h' => by cases h'⟩
        cases u <;> simp [-run_choose_drew, -run_choose, convert, run_underlying hs', run_underlying hd, Conv.floatToInt, he, hc, if_neg hb']
    · rename_i he
      refine ⟨IntKind.i64.wrap n, k, ?_, fun r' h' => by cases h'⟩
      cases u <;> simp [-run_choose_drew, -run_choose, convert, run_underlying hs', run_underlying hd, Conv.floatToInt, he, hc]
end Go.Proofs.YtbkoifdnlaihfaaGreat
