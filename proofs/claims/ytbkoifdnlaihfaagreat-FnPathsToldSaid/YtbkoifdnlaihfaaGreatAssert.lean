/- A type assertion to an interface that fails: over any program. -/
import Derived.WalkKit
import Derived.KernelRfl
namespace Go.Proofs.YtbkoifdnlaihfaaGreat
open Go.RowKit

theorem least_some (l : List String) (h : l ≠ []) : ∃ m, Instr.least l = some m := by
  cases l with
  | nil => exact absurd rfl h
  | cons a r => exact ⟨_, rfl⟩

/-- How many of the wanted methods are missing. -/
def missingOf (want : Array (String × TypeId)) (got : Array Method) : List String :=
  (want.toList.filter fun (name, sig) => !got.any fun m => m.name == name && m.sig == sig).map (·.1)

theorem least_part (p : String → Bool) (f : String → String) (l : List String) (h : l ≠ []) : ∃ m, (Instr.least (l.partition p).2 <|> Instr.least ((l.partition p).1.map f)) = some m := by
  rw [List.partition_eq_filter_filter]
  dsimp only
  by_cases h1 : l.filter (not ∘ p) = []
  · rw [h1]
    have h2 : l.filter p ≠ [] := by
      intro h2
      cases l with
      | nil => exact h rfl
      | cons a r =>
        cases hc : p a
        · simp [hc] at h1
        · simp [hc] at h2
    obtain ⟨m, hm⟩ := least_some _ (fun e2 => h2 (List.map_eq_nil_iff.1 e2) : (l.filter p).map f ≠ [])
    exact ⟨m, by simpa [Instr.least] using hm⟩
  · obtain ⟨m, hm⟩ := least_some _ h1
    exact ⟨m, by rw [hm]; rfl⟩

theorem missing_some (want : Array (String × TypeId)) (got : Array Method) (h : (missingOf want got).isEmpty = false) : ∃ m, Instr.missingMethod want got = some m := by
  have h' : missingOf want got ≠ [] := fun e => by rw [e] at h; cases h
  unfold Instr.missingMethod
  exact least_part _ _ _ h'

theorem run_typeAssert_not {P : Program} (w : World) (t T T' : TypeId) (v z : Value) (want : Array (String × TypeId)) (i i' : TypeInfo) (hu : P.underlying T' = some (.interface want)) (hi : P.info? t = some i) (hm : (missingOf want i.methods).isEmpty = false)
    (hi' : P.info? T' = some i') (hz : i'.zero = some z) : (Instr.typeAssert (.iface t v) T T' true).run P w = .ok (.tuple #[z, .bool false]) w := by
  obtain ⟨m, hm⟩ := missing_some want i.methods hm
  simp [Instr.typeAssert, run_underlying hu, typeInfo, hi, hm, zeroValue, hi', hz]

end Go.Proofs.YtbkoifdnlaihfaaGreat
