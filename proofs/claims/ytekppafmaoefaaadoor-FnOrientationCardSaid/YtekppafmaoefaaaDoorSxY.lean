/-
  Rounding: the word nearest to a number lies between any two words between which the number lies; sums, quotients and roots. Ours; it knows no program.
-/
import Derived.Test.YtekppafmaoefaaaDoorSxV
namespace Go.Sx
open Ieee (signed)
set_option linter.unusedVariables false
set_option linter.unusedSimpArgs false
set_option maxRecDepth 100000

theorem D_absn {x : Nat} {n : Int} {v : Nat} (hx : x < 2 ^ 64) (h : D x n v) : D (x % 2 ^ 63) (n.natAbs : Int) v := by
  obtain ⟨s, m, q, h1, h2⟩ := h
  obtain ⟨s2, m2, q2, t1, t2⟩ := D_abs hx h1
  refine ⟨s2, m2, q2, t1, ?_⟩
  rw [t2]
  have := congrArg Int.natAbs h2
  rw [signed_eq, Int.natAbs_mul, Int.natAbs_pow, show (2 : Int).natAbs = 2 from rfl] at this
  have e : (if s = true then -((m : Int) * 2 ^ q) else (m : Int) * 2 ^ q).natAbs = m * 2 ^ q := by
    cases s <;> simp [Int.natAbs_mul, Int.natAbs_pow, Int.natAbs_neg]
  rw [e] at this
  exact_mod_cast this
end Go.Sx
