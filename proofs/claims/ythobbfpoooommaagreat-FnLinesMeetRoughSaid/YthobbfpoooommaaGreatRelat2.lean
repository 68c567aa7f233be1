/-
  Ranges of numbers, and differences. Ours; it knows no program.
-/
import Derived.Test.YthobbfpoooommaaGreatHypot
namespace Go.Sx
open Ieee (signed)
set_option linter.unusedVariables false
set_option linter.unusedSimpArgs false
set_option maxRecDepth 100000

def Rge (lo hi V : Rat) : Prop := V = 0 ∨ (lo ≤ V ∧ V ≤ hi) ∨ (lo ≤ -V ∧ -V ≤ hi)
end Go.Sx
