/-
  The root of the sum of two squares, as the machine's hypot tells it. Ours; it knows no program.
-/
import Derived.Test.YtajpajggckappaaGreatRelat
namespace Go.Sx
open Ieee (signed)
set_option linter.unusedVariables false
set_option linter.unusedSimpArgs false
set_option maxRecDepth 100000

theorem Q_abs {x : Nat} {a : Rat} (hx : x < 2 ^ 64) (h : Q x a) : ∃ A, Q (x % 2 ^ 63) A ∧ 0 ≤ A ∧ (A = a ∨ A = -a) := by
  obtain ⟨n, h1, h2⟩ := h
  have h3 := D_absn hx h1
  have hU := Un_pos
  refine ⟨(n.natAbs : Nat) / Un, ⟨_, h3, ?_⟩, ?_, ?_⟩
  · rw [Rat.intCast_natCast]; grind
  · have : (0 : Rat) ≤ (n.natAbs : Rat) := by
      have : ((0 : Nat) : Rat) ≤ (n.natAbs : Rat) := Rat.natCast_le_natCast.2 (Nat.zero_le _)
      simpa using this
    rw [Rat.div_def]; exact Rat.mul_nonneg this (Rat.le_of_lt (Rat.inv_pos.2 hU))
  · rcases Int.natAbs_eq n with h4 | h4
    · left
      have : ((n : Int) : Rat) = ((n.natAbs : Nat) : Rat) := by rw [← Rat.intCast_natCast, ← h4]
      rw [← this, h2]; grind
    · right
      have : ((n : Int) : Rat) = -((n.natAbs : Nat) : Rat) := by rw [← Rat.intCast_natCast, ← Rat.intCast_neg, ← h4]
      have h5 : ((n.natAbs : Nat) : Rat) = -(a * Un) := by rw [← h2, this]; grind
      rw [h5]; grind
theorem Q_qn {r : Rat} : ¬ Q qn r := by
  rintro ⟨n, h, _⟩
  have h1 := D_num h
  have h2 : fnan qn = true := by decide
  rw [h1] at h2; cases h2
theorem some_q {o : Option Nat} {r : Rat} (h : Q (o.getD qn) r) : o = some (o.getD qn) := by
  cases o with
  | none => exact absurd h Q_qn
  | some z => rfl
theorem fdiv_q {x y : Nat} {r : Rat} (h : Q (gdiv x y) r) : fdiv x y = some (gdiv x y) := some_q h
theorem fmul_q {x y : Nat} {r : Rat} (h : Q (gmul x y) r) : fmul x y = some (gmul x y) := some_q h
theorem fadd_q {x y : Nat} {r : Rat} (h : Q (gadd x y) r) : fadd x y = some (gadd x y) := some_q h
theorem sq_lo {r c : Rat} (h0 : 0 < r) (hc : 0 < c) (h : c * c ≤ r * r) : c ≤ r := by
  by_cases h1 : c ≤ r
  · exact h1
  · exfalso
    have a1 := Rat.mul_pos (show 0 < c - r by grind) (show 0 < c + r by grind)
    grind
theorem sq_hi {r c : Rat} (h0 : 0 < r) (hc : 0 < c) (h : r * r ≤ c * c) : r ≤ c := sq_lo hc h0 h

end Go.Sx
