/-
  Rounding: the word nearest to a number lies between any two words between which the number lies; sums, quotients and roots. Ours; it knows no program.
-/
import Derived.Test.YtjgpiealnfbkcaaSxV
namespace Go.Sx
open Ieee (signed)
set_option linter.unusedVariables false
set_option linter.unusedSimpArgs false
set_option maxRecDepth 100000

theorem zero_le {x P : Nat} (h : x ≤ 0 * P) : x = 0 := by rw [Nat.zero_mul] at h; omega
theorem read_low {x : Nat} {s : Bool} {m q : Nat} (h : FloatKind.f64.format.read x = .number s m ((q : Int) - 1074)) : q = 0 ∨ 2 ^ 52 ≤ m := by
  rw [fmt_is] at h
  unfold Ieee.Format.read at h
  simp only [Go.Sx.sign_is, binade_is, inf_is, least_is] at h
  split at h
  · simp only [Ieee.Datum.number.injEq] at h; omega
  · split at h
    · simp only [Ieee.Datum.number.injEq] at h; omega
    · split at h <;> cases h
end Go.Sx
