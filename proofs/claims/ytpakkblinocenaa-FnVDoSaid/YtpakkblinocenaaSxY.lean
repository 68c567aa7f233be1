/-
  Rounding: the word nearest to a number lies between any two words between which the number lies; sums, quotients and roots. Ours; it knows no program.
-/
import Derived.Test.YtpakkblinocenaaSxV
namespace Go.Sx
open Ieee (signed)
set_option linter.unusedVariables false
set_option linter.unusedSimpArgs false
set_option maxRecDepth 100000

theorem zero_le {x P : Nat} (h : x ≤ 0 * P) : x = 0 := by rw [Nat.zero_mul] at h; omega
theorem sum_num {a b d : Ieee.Datum} (h : a.sum b = some d) : d.isNaN = false := by
  cases a <;> cases b <;> simp only [Ieee.Datum.sum] at h
  all_goals first
    | (cases h; done)
    | (cases h; rfl)
    | (split at h
       · cases h; rfl
       · cases h)
theorem qn_lt : qn < 2 ^ 64 := by decide
theorem map_lt {o : Option Ieee.Datum} (h : ∀ d, o = some d → d.isNaN = false) : (o.map FloatKind.f64.format.write).getD qn < 2 ^ 64 := by
  cases o with
  | none => exact qn_lt
  | some d =>
    rcases write_lt d with h1 | h1
    · exact h1
    · rw [h d rfl] at h1; cases h1
theorem gadd_lt (x y : Nat) : gadd x y < 2 ^ 64 := by unfold gadd fadd Ieee.Format.add; exact map_lt fun d h => sum_num h
end Go.Sx
