/- Lists of ints in lexical order. -/
import Derived.Test.YtnfkbjgijelfdaaGreatMem
namespace Go.Proofs.YtnfkbjgijelfdaaGreat

/-- Which of two lists stands ahead. -/
def cmpL : List Int → List Int → Int
  | [], [] => 0
  | [], _ :: _ => -1
  | _ :: _, [] => 1
  | x :: xs, y :: ys => if x < y then -1 else if y < x then 1 else cmpL xs ys

theorem cmpL_cons (x y : Int) (xs ys : List Int) : cmpL (x :: xs) (y :: ys) = if x < y then -1 else if y < x then 1 else cmpL xs ys := rfl
theorem cmpL_nil_left (ys : List Int) : cmpL [] ys = if ys = [] then 0 else -1 := by cases ys <;> simp [cmpL]

theorem cmpL_self : ∀ a : List Int, cmpL a a = 0
  | [] => rfl
  | x :: xs => by rw [cmpL_cons, if_neg (by omega), if_neg (by omega)]; exact cmpL_self xs
theorem cmpL_neg : ∀ a b : List Int, cmpL b a = - cmpL a b
  | [], [] => rfl
  | [], _ :: _ => rfl
  | _ :: _, [] => rfl
  | x :: xs, y :: ys => by
    rw [cmpL_cons, cmpL_cons]
    by_cases h1 : x < y
    · rw [if_neg (by omega), if_pos h1, if_pos h1]; rfl
    · by_cases h2 : y < x
      · rw [if_pos h2, if_neg h1, if_pos h2]
      · rw [if_neg h2, if_neg h1, if_neg h1, if_neg h2]; exact cmpL_neg xs ys
theorem cmpL_zero : ∀ a b : List Int, cmpL a b = 0 → a = b
  | [], [], _ => rfl
  | [], _ :: _, h => by simp [cmpL] at h
  | _ :: _, [], h => by simp [cmpL] at h
  | x :: xs, y :: ys, h => by
    rw [cmpL_cons] at h
    by_cases h1 : x < y
    · rw [if_pos h1] at h; omega
    · by_cases h2 : y < x
      · rw [if_neg h1, if_pos h2] at h; omega
      · rw [if_neg h1, if_neg h2] at h
        rw [cmpL_zero xs ys h, show x = y by omega]
theorem cmpL_trans : ∀ a b c : List Int, cmpL a b < 0 → cmpL b c < 0 → cmpL a c < 0
  | [], [], _, h, _ => by simp [cmpL] at h
  | [], _ :: _, [], _, h => by simp [cmpL] at h
  | [], _ :: _, _ :: _, _, _ => by simp [cmpL]
  | _ :: _, [], _, h, _ => by simp [cmpL] at h
  | _ :: _, _ :: _, [], _, h => by simp [cmpL] at h
  | x :: xs, y :: ys, z :: zs, h1, h2 => by
    rw [cmpL_cons] at h1 h2 ⊢
    by_cases a1 : x < y
    · by_cases b1 : y < z
      · rw [if_pos (by omega)]; omega
      · by_cases b2 : z < y
        · rw [if_neg b1, if_pos b2] at h2; omega
        · rw [if_pos (by omega)]; omega
    · by_cases a2 : y < x
      · rw [if_neg a1, if_pos a2] at h1; omega
      · rw [if_neg a1, if_neg a2] at h1
        by_cases b1 : y < z
        · rw [if_pos (by omega)]; omega
        · by_cases b2 : z < y
          · rw [if_neg b1, if_pos b2] at h2; omega
          · rw [if_neg b1, if_neg b2] at h2
            rw [if_neg (by omega), if_neg (by omega)]
            exact cmpL_trans xs ys zs h1 h2

end Go.Proofs.YtnfkbjgijelfdaaGreat
