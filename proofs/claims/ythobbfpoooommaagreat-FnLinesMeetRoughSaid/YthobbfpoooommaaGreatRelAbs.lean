/-
  Products of any smallness: the word is nearer to the number than its part of 2^-53 and 2^-53 together. Ours; it knows no program.
-/
import Derived.Test.YthobbfpoooommaaGreatRelat3
namespace Go.Sx
open Ieee (signed)
set_option linter.unusedVariables false
set_option linter.unusedSimpArgs false
set_option maxRecDepth 100000

theorem cast_one_pow {N t : Nat} (h : N ≤ 1 * 2 ^ t) : (N : Rat) ≤ 2 ^ t := by
  have := (Rat.natCast_le_natCast (a := N) (b := 1 * 2 ^ t)).2 h
  rw [Nat.one_mul, castpow] at this; exact this
theorem round_low (s : Bool) (mag P R : Nat) (V : Rat) (hV : V = (if s then -1 else 1) * ((mag : Rat) * 2 ^ P / 2 ^ R / Un)) (h : -1 ≤ V * BB ∧ V * BB ≤ 1) :
    ∃ r : Rat, Q (Ieee.double.write (.number s mag ((P : Int) - 1074 - R))) r ∧ -1 ≤ r * BB ∧ r * BB ≤ 1 := by
  have hR := un_pos R
  have hU := Un_pos
  have hdu : ∀ z : Rat, z / Un * Un = z := fun z => by grind
  have hX0 : (0 : Rat) ≤ (mag : Rat) * 2 ^ P := by
    have h1 : (0 : Rat) ≤ (mag : Rat) := by
      have : ((0 : Nat) : Rat) ≤ (mag : Rat) := Rat.natCast_le_natCast.2 (Nat.zero_le _)
      simpa using this
    exact Rat.mul_nonneg h1 (Rat.le_of_lt (un_pos P))
  have hsp : Un = BB * 2 ^ 874 := by
    rw [BB_is]; unfold Un; rw [← ratpow_add]
  have h2 : (2 : Rat) ^ (874 + R) = 2 ^ 874 * 2 ^ R := ratpow_add _ _
  have hle : mag * 2 ^ P ≤ 1 * 2 ^ (874 + R) := by
    apply Rat.natCast_le_natCast.1
    rw [Nat.one_mul, castpow, h2, Rat.natCast_mul, castpow]
    have hA : (mag : Rat) * 2 ^ P / 2 ^ R / Un * BB ≤ 1 := by
      obtain ⟨h3, h4⟩ := h
      rw [hV] at h3 h4
      cases s <;> simp only [Bool.false_eq_true, if_false, if_true] at h3 h4 <;> grind
    rw [hsp] at hA
    have hE := un_pos 874
    generalize (mag : Rat) * 2 ^ P = X at *
    generalize (2 : Rat) ^ R = W at *
    generalize (2 : Rat) ^ 874 = E at *
    have hBB : (0 : Rat) < BB := by decide +kernel
    have e1 : X / W / (BB * E) * BB * (E * W) = X := by
      have : BB ≠ 0 := by grind
      grind
    have := Rat.mul_nonneg (show 0 ≤ 1 - X / W / (BB * E) * BB by grind) (Rat.le_of_lt (Rat.mul_pos hE hR))
    grind
  have hbig : mag * 2 ^ P < 2 ^ (2096 + R) := by
    have : 1 * 2 ^ (874 + R) < 2 ^ (2096 + R) := by
      rw [Nat.one_mul]; exact Nat.pow_lt_pow_right (by decide) (by omega)
    omega
  obtain ⟨N, h1, h3, h4⟩ := near_D s mag P R hbig
  have hN : N ≤ 1 * 2 ^ 874 := h3 1 874 (by decide) hle
  refine ⟨((if s then -(N : Int) else (N : Int) : Int) : Rat) / Un, ⟨_, h1, (hdu _).symm⟩, ?_⟩
  have hN2 : (N : Rat) ≤ 2 ^ 874 := cast_one_pow hN
  clear hle hbig h3 h4 hN h1
  have hN0 : (0 : Rat) ≤ (N : Rat) := by
    have : ((0 : Nat) : Rat) ≤ (N : Rat) := Rat.natCast_le_natCast.2 (Nat.zero_le _)
    simpa using this
  have hE := un_pos 874
  have hBB : (0 : Rat) < BB := by decide +kernel
  rw [hsp]
  have e1 : ((if s then -(N : Int) else (N : Int) : Int) : Rat) = (if s then -1 else 1) * (N : Rat) := by
    cases s with
    | false => simp only [Bool.false_eq_true, if_false]; rw [Rat.intCast_natCast]; grind
    | true => simp only [if_true]; rw [Rat.intCast_neg, Rat.intCast_natCast]; grind
  rw [e1]
  generalize (N : Rat) = M at *
  generalize (2 : Rat) ^ 874 = E at *
  have e2 : ∀ t : Rat, t * M / (BB * E) * BB * E = t * M := by
    intro t
    have : BB ≠ 0 := by grind
    grind
  have e3 := e2 (if s then -1 else 1)
  obtain ⟨z, hz⟩ : ∃ z, (if s = true then (-1 : Rat) else 1) * M / (BB * E) * BB = z := ⟨_, rfl⟩
  rw [hz] at e3 ⊢
  constructor
  · by_cases h5 : -1 ≤ z
    · exact h5
    · have := Rat.mul_pos (show 0 < -1 - z by grind) hE
      cases s <;> simp only [Bool.false_eq_true, if_false, if_true] at e3 <;> grind
  · by_cases h5 : z ≤ 1
    · exact h5
    · have := Rat.mul_pos (show 0 < z - 1 by grind) hE
      cases s <;> simp only [Bool.false_eq_true, if_false, if_true] at e3 <;> grind
end Go.Sx
