/-
  The root of the sum of two squares, as the machine's hypot tells it. Ours; it knows no program.
-/
import Derived.Test.YtmkhoplffiakmaaRelat
namespace Go.Sx
open Ieee (signed)
set_option linter.unusedVariables false
set_option linter.unusedSimpArgs false
set_option maxRecDepth 100000

theorem Q_qn {r : Rat} : ¬ Q qn r := by
  rintro ⟨n, h, _⟩
  have h1 := D_num h
  have h2 : fnan qn = true := by decide
  rw [h1] at h2; cases h2
theorem some_q {o : Option Nat} {r : Rat} (h : Q (o.getD qn) r) : o = some (o.getD qn) := by
  cases o with
  | none => exact absurd h Q_qn
  | some z => rfl
theorem fdiv_q {x y : Nat} {r : Rat} (h : Q (gdiv x y) r) : fdiv x y = some (gdiv x y) := some_q h
theorem fmul_q {x y : Nat} {r : Rat} (h : Q (gmul x y) r) : fmul x y = some (gmul x y) := some_q h
theorem fadd_q {x y : Nat} {r : Rat} (h : Q (gadd x y) r) : fadd x y = some (gadd x y) := some_q h
end Go.Sx
