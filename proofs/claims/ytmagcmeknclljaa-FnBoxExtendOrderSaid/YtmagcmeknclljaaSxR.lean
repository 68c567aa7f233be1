/-
  Floats as exact numbers: reading, writing, sums, differences, products of numbers that a word can hold. Ours; it knows no program.
-/
import Derived.Test.YtmagcmeknclljaaSxP
namespace Go.Sx
set_option linter.unusedVariables false
set_option linter.unusedSimpArgs false
open Ieee

theorem least_is : Ieee.double.leastPlace = -1074 := by decide
theorem binade_is : Ieee.double.binade = 2 ^ 52 := by decide
theorem inf_is : Ieee.double.infRung = 2047 * 2 ^ 52 := by decide
theorem sign_is : Ieee.double.signWeight = 2 ^ 63 := by decide
def D (x : Nat) (n : Int) (v : Nat) : Prop := ∃ (s : Bool) (m q : Nat), FloatKind.f64.format.read x = .number s m ((q : Int) - 1074) ∧ signed s m q = n * 2 ^ v

theorem fmt_is : FloatKind.f64.format = Ieee.double := rfl

theorem signed_eq (s : Bool) (m q : Nat) : signed s m q = (if s then -((m : Int) * 2 ^ q) else (m : Int) * 2 ^ q) := by
  unfold signed; rw [Nat.shiftLeft_eq]; cases s <;> simp

theorem signed_mul (s : Bool) (m q r : Nat) : signed s m (q + r) = signed s m q * 2 ^ r := by
  rw [signed_eq, signed_eq, Int.pow_add]; cases s <;> simp [Int.mul_assoc, Int.neg_mul]

theorem signed_min (s : Bool) (m q b : Nat) (h : b ≤ q) : signed s m (q - b) * 2 ^ b = signed s m q := by
  rw [← signed_mul]; congr 1; omega

theorem D_order {x y : Nat} {a b : Int} {v : Nat} (hx : D x a v) (hy : D y b v) : FloatKind.f64.format.order x y = some (compare a b) := by
  obtain ⟨s, m, q, h1, h2⟩ := hx
  obtain ⟨s', m', q', h1', h2'⟩ := hy
  unfold Format.order
  rw [h1, h1']
  simp only [Datum.order]
  have hb : min ((q : Int) - 1074) ((q' : Int) - 1074) = ((min q q' : Nat) : Int) - 1074 := by omega
  rw [hb, show ((q : Int) - 1074 - (((min q q' : Nat) : Int) - 1074)).toNat = q - min q q' from by omega, show ((q' : Int) - 1074 - (((min q q' : Nat) : Int) - 1074)).toNat = q' - min q q' from by omega]
  obtain ⟨B, hB⟩ : ∃ B, min q q' = B := ⟨_, rfl⟩
  rw [hB]
  have e1 := signed_min s m q B (by omega)
  have e2 := signed_min s' m' q' B (by omega)
  rw [h2] at e1; rw [h2'] at e2
  have hB0 : (0 : Int) < 2 ^ B := Int.pow_pos (by omega)
  have hv0 : (0 : Int) < 2 ^ v := Int.pow_pos (by omega)
  congr 1
  have hlt : ∀ {c d e f : Int}, c * 2 ^ B = e * 2 ^ v → d * 2 ^ B = f * 2 ^ v → (c < d ↔ e < f) := by
    intro c d e f h1 h2
    constructor
    · intro h; have := Int.mul_lt_mul_of_pos_right h hB0; rw [h1, h2] at this; exact Int.lt_of_mul_lt_mul_right this (Int.le_of_lt hv0)
    · intro h; have := Int.mul_lt_mul_of_pos_right h hv0; rw [← h1, ← h2] at this; exact Int.lt_of_mul_lt_mul_right this (Int.le_of_lt hB0)
  rcases Int.lt_trichotomy a b with h | h | h
  · have := (hlt e1 e2).2 h
    rw [Int.compare_eq_lt.2 h, Int.compare_eq_lt.2 this]
  · subst h
    have : signed s m (q - B) = signed s' m' (q' - B) := Int.eq_of_mul_eq_mul_right (by omega) (e1.trans e2.symm)
    rw [this]; simp
  · have := (hlt e2 e1).2 h
    rw [Int.compare_eq_gt.2 h, Int.compare_eq_gt.2 this]

end Go.Sx
