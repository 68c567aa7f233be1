/-
  Sums and differences of any greatness: the word is the number itself times 1 + e. Ours; it knows no program.
-/
import Derived.Test.YthobbfpoooommaaGreatRelat2
namespace Go.Sx
open Ieee (signed)
set_option linter.unusedVariables false
set_option linter.unusedSimpArgs false
set_option maxRecDepth 100000

end Go.Sx
