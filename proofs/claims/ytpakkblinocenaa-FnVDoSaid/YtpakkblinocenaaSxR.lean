/-
  Floats as exact numbers: reading, writing, sums, differences, products of numbers that a word can hold. Ours; it knows no program.
-/
import Derived.Test.YtpakkblinocenaaSxP
namespace Go.Sx
set_option linter.unusedVariables false
set_option linter.unusedSimpArgs false
open Ieee

theorem least_is : Ieee.double.leastPlace = -1074 := by decide
theorem binade_is : Ieee.double.binade = 2 ^ 52 := by decide
theorem inf_is : Ieee.double.infRung = 2047 * 2 ^ 52 := by decide
theorem sign_is : Ieee.double.signWeight = 2 ^ 63 := by decide
def D (x : Nat) (n : Int) (v : Nat) : Prop := ∃ (s : Bool) (m q : Nat), FloatKind.f64.format.read x = .number s m ((q : Int) - 1074) ∧ signed s m q = n * 2 ^ v

theorem fmt_is : FloatKind.f64.format = Ieee.double := rfl

theorem signed_eq (s : Bool) (m q : Nat) : signed s m q = (if s then -((m : Int) * 2 ^ q) else (m : Int) * 2 ^ q) := by
  unfold signed; rw [Nat.shiftLeft_eq]; cases s <;> simp

theorem signed_mul (s : Bool) (m q r : Nat) : signed s m (q + r) = signed s m q * 2 ^ r := by
  rw [signed_eq, signed_eq, Int.pow_add]; cases s <;> simp [Int.mul_assoc, Int.neg_mul]

theorem write_lt (d : Datum) : Ieee.double.write d < 2 ^ 64 ∨ d.isNaN = true := by
  cases d with
  | nan s t => exact .inr rfl
  | infinity s =>
    left
    show Ieee.double.word s _ < _
    unfold Format.word; rw [sign_is, inf_is]; cases s <;> simp
  | number s m i =>
    left
    show Ieee.double.nearest s m i < _
    have key : ∀ r : Nat, Ieee.double.word s (min r (2047 * 2 ^ 52)) < 2 ^ 64 := by
      intro r
      unfold Format.word; rw [sign_is]
      have := Nat.min_le_right r (2047 * 2 ^ 52)
      cases s <;> simp <;> omega
    unfold Format.nearest
    split
    · unfold Format.word; rw [sign_is]; cases s <;> simp
    · simp only [inf_is]; exact key _

/-! comparisons of numbers -/
end Go.Sx
