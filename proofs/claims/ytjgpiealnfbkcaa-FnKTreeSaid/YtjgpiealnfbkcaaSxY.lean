/-
  Rounding: the word nearest to a number lies between any two words between which the number lies; sums, quotients and roots. Ours; it knows no program.
-/
import Derived.Test.YtjgpiealnfbkcaaSxV
namespace Go.Sx
open Ieee (signed)
set_option linter.unusedVariables false
set_option linter.unusedSimpArgs false
set_option maxRecDepth 100000

theorem zero_le {x P : Nat} (h : x ≤ 0 * P) : x = 0 := by rw [Nat.zero_mul] at h; omega
end Go.Sx
