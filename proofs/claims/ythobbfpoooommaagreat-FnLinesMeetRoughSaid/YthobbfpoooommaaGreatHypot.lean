/-
  The root of the sum of two squares, as the machine's hypot tells it. Ours; it knows no program.
-/
import Derived.Test.YthobbfpoooommaaGreatRelat
namespace Go.Sx
open Ieee (signed)
set_option linter.unusedVariables false
set_option linter.unusedSimpArgs false
set_option maxRecDepth 100000

end Go.Sx
