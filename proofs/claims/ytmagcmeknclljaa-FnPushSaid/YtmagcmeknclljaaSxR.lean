/-
  Floats as exact numbers: reading, writing, sums, differences, products of numbers that a word can hold. Ours; it knows no program.
-/
import Derived.Test.YtmagcmeknclljaaSxP
namespace Go.Sx
set_option linter.unusedVariables false
set_option linter.unusedSimpArgs false
open Ieee

def D (x : Nat) (n : Int) (v : Nat) : Prop := ∃ (s : Bool) (m q : Nat), FloatKind.f64.format.read x = .number s m ((q : Int) - 1074) ∧ signed s m q = n * 2 ^ v

end Go.Sx
