/-
  Floats that are whole numbers: what a test tells of them. Ours; it knows no program.
-/
import Derived.Test.YtpakkblinocenaaSxW
import Derived.Test.YtpakkblinocenaaSxQ
namespace Go.Sx
open Ieee (signed)
set_option linter.unusedVariables false
set_option linter.unusedSimpArgs false
set_option maxRecDepth 100000

theorem iand_mask {a : Nat} {t : Nat} (ha : a < 2 ^ 64) (ht : t < 64) : iand .u64 (a : Int) ((2 ^ t - 1 : Nat) : Int) = ((a % 2 ^ t : Nat) : Int) := by
  have h1 := bv_nat64 a ha
  have hp : 2 ^ t < 2 ^ 64 := Nat.pow_lt_pow_right (by omega) ht
  have h2 := bv_nat64 (2 ^ t - 1) (by omega)
  unfold iand
  have e3 : (BitVec.ofInt IntKind.u64.bits (a : Int) &&& BitVec.ofInt IntKind.u64.bits ((2 ^ t - 1 : Nat) : Int)).toNat = a % 2 ^ t := by
    show (BitVec.ofInt 64 (a : Int) &&& BitVec.ofInt 64 ((2 ^ t - 1 : Nat) : Int)).toNat = _
    rw [BitVec.toNat_and, h1, h2, Nat.and_two_pow_sub_one_eq_mod]
  rw [e3]
  have h4 : a % 2 ^ t < 2 ^ t := Nat.mod_lt _ (Nat.two_pow_pos t)
  have h5 : a % 2 ^ t < 18446744073709551616 := by
    have : (2 : Nat) ^ 64 = 18446744073709551616 := by decide
    omega
  exact wrap_u64_id (by omega) (by omega)

theorem read_fields {x : Nat} (hx : x < 2 ^ 64) {s : Bool} {m : Nat} {q : Nat} (h : FloatKind.f64.format.read x = .number s m ((q : Int) - 1074)) :
    s = decide (x / 2 ^ 63 = 1) ∧ ((x / 2 ^ 52 % 2048 = 0 ∧ m = x % 2 ^ 52 ∧ q = 0) ∨ (0 < x / 2 ^ 52 % 2048 ∧ x / 2 ^ 52 % 2048 < 2047 ∧ m = 2 ^ 52 + x % 2 ^ 52 ∧ q + 1 = x / 2 ^ 52 % 2048)) := by
  rw [fmt_is] at h
  unfold Ieee.Format.read at h
  simp only [Go.Sx.sign_is, binade_is, inf_is, least_is] at h
  have hs : (x / 2 ^ 63 % 2 == 1) = decide (x / 2 ^ 63 = 1) := by
    have : x / 2 ^ 63 < 2 := by omega
    have e : x / 2 ^ 63 % 2 = x / 2 ^ 63 := by omega
    rw [e]; rfl
  rw [hs] at h
  split at h
  · rename_i h1
    simp only [Ieee.Datum.number.injEq] at h
    obtain ⟨h3, h4, h5⟩ := h
    refine ⟨h3.symm, .inl ⟨by omega, by omega, by omega⟩⟩
  · rename_i h1
    split at h
    · rename_i h2
      simp only [Ieee.Datum.number.injEq] at h
      obtain ⟨h3, h4, h5⟩ := h
      refine ⟨h3.symm, .inr ⟨by omega, by omega, by omega, by omega⟩⟩
    · split at h <;> cases h

end Go.Sx
