/-
  The root of the sum of two squares, as the machine's hypot tells it. Ours; it knows no program.
-/
import Derived.Test.YtmkhoplffiakmaaRelat
namespace Go.Sx
open Ieee (signed)
set_option linter.unusedVariables false
set_option linter.unusedSimpArgs false
set_option maxRecDepth 100000

theorem Q_abs {x : Nat} {a : Rat} (hx : x < 2 ^ 64) (h : Q x a) : ∃ A, Q (x % 2 ^ 63) A ∧ 0 ≤ A ∧ (A = a ∨ A = -a) := by
  obtain ⟨n, h1, h2⟩ := h
  have h3 := D_absn hx h1
  have hU := Un_pos
  refine ⟨(n.natAbs : Nat) / Un, ⟨_, h3, ?_⟩, ?_, ?_⟩
  · rw [Rat.intCast_natCast]; grind
  · have : (0 : Rat) ≤ (n.natAbs : Rat) := by
      have : ((0 : Nat) : Rat) ≤ (n.natAbs : Rat) := Rat.natCast_le_natCast.2 (Nat.zero_le _)
      simpa using this
    rw [Rat.div_def]; exact Rat.mul_nonneg this (Rat.le_of_lt (Rat.inv_pos.2 hU))
  · rcases Int.natAbs_eq n with h4 | h4
    · left
      have : ((n : Int) : Rat) = ((n.natAbs : Nat) : Rat) := by rw [← Rat.intCast_natCast, ← h4]
      rw [← this, h2]; grind
    · right
      have : ((n : Int) : Rat) = -((n.natAbs : Nat) : Rat) := by rw [← Rat.intCast_natCast, ← Rat.intCast_neg, ← h4]
      have h5 : ((n.natAbs : Nat) : Rat) = -(a * Un) := by rw [← h2, this]; grind
      rw [h5]; grind
end Go.Sx
