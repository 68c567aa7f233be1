/-
  Any word as a dyadic number; two of them held against one another. Ours.
-/
import Derived.Test.YthobbfpoooommaaGreatExact3
import Derived.Test.YthobbfpoooommaaGreatSxY
namespace Go.Proofs.YthobbfpoooommaaGreat
open Go.Sx
open Ieee (signed)
set_option linter.unusedVariables false
set_option linter.unusedSimpArgs false
set_option maxRecDepth 100000

theorem Dr.down {B B' T : Int} {L : Nat} {s : Bool} {l : List Int} {e N : Int} (h : Dr B T L s l e N) (hB : B' ≤ B) : Dr B' T L s l e (N * 2 ^ (B - B').toNat) := by
  obtain ⟨z, hz, hN⟩ := h.ex
  have := h.lo
  refine ⟨⟨z, hz, ?_⟩, by omega, h.hi, h.len⟩
  rw [hN, Int.mul_assoc, ← Int.pow_add]
  congr 2
  omega

end Go.Proofs.YthobbfpoooommaaGreat
