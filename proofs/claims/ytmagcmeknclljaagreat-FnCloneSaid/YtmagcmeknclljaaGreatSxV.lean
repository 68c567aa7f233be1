/-
  Floats that are whole numbers: what a test tells of them. Ours; it knows no program.
-/
import Derived.Test.YtmagcmeknclljaaGreatSxW
import Derived.Test.YtmagcmeknclljaaGreatSxQ
namespace Go.Sx
open Ieee (signed)
set_option linter.unusedVariables false
set_option linter.unusedSimpArgs false
set_option maxRecDepth 100000

end Go.Sx
