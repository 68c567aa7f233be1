/-
  What a float stands for, as a dyadic number. Ours.
-/
import Derived.Test.YthobbfpoooommaaGreatExact2
namespace Go.Proofs.YthobbfpoooommaaGreat
open Go.Sx
open Ieee (signed)
set_option linter.unusedVariables false
set_option linter.unusedSimpArgs false
set_option maxRecDepth 100000

theorem iand_mask {a : Nat} {t : Nat} (ha : a < 2 ^ 64) (ht : t < 64) : iand .u64 (a : Int) ((2 ^ t - 1 : Nat) : Int) = ((a % 2 ^ t : Nat) : Int) := by
  have h1 := bv_nat64 a ha
  have hp : 2 ^ t < 2 ^ 64 := Nat.pow_lt_pow_right (by omega) ht
  have h2 := bv_nat64 (2 ^ t - 1) (by omega)
  unfold iand
  have e3 : (BitVec.ofInt IntKind.u64.bits (a : Int) &&& BitVec.ofInt IntKind.u64.bits ((2 ^ t - 1 : Nat) : Int)).toNat = a % 2 ^ t := by
    show (BitVec.ofInt 64 (a : Int) &&& BitVec.ofInt 64 ((2 ^ t - 1 : Nat) : Int)).toNat = _
    rw [BitVec.toNat_and, h1, h2, Nat.and_two_pow_sub_one_eq_mod]
  rw [e3]
  have h4 : a % 2 ^ t < 2 ^ t := Nat.mod_lt _ (Nat.two_pow_pos t)
  have h5 : a % 2 ^ t < 18446744073709551616 := by
    have : (2 : Nat) ^ 64 = 18446744073709551616 := by decide
    omega
  exact wrap_u64_id (by omega) (by omega)

/-- the fields of a word that reads as a number -/
theorem read_fields {x : Nat} (hx : x < 2 ^ 64) {s : Bool} {m : Nat} {q : Nat} (h : FloatKind.f64.format.read x = .number s m ((q : Int) - 1074)) :
    s = decide (x / 2 ^ 63 = 1) ∧ ((x / 2 ^ 52 % 2048 = 0 ∧ m = x % 2 ^ 52 ∧ q = 0) ∨ (0 < x / 2 ^ 52 % 2048 ∧ x / 2 ^ 52 % 2048 < 2047 ∧ m = 2 ^ 52 + x % 2 ^ 52 ∧ q + 1 = x / 2 ^ 52 % 2048)) := by
  rw [fmt_is] at h
  unfold Ieee.Format.read at h
  simp only [Go.Sx.sign_is, binade_is, inf_is, least_is] at h
  have hs : (x / 2 ^ 63 % 2 == 1) = decide (x / 2 ^ 63 = 1) := by
    have : x / 2 ^ 63 < 2 := by omega
    have e : x / 2 ^ 63 % 2 = x / 2 ^ 63 := by omega
    rw [e]; rfl
  rw [hs] at h
  split at h
  · rename_i h1
    simp only [Ieee.Datum.number.injEq] at h
    obtain ⟨h3, h4, h5⟩ := h
    refine ⟨h3.symm, .inl ⟨by omega, by omega, by omega⟩⟩
  · rename_i h1
    split at h
    · rename_i h2
      simp only [Ieee.Datum.number.injEq] at h
      obtain ⟨h3, h4, h5⟩ := h
      refine ⟨h3.symm, .inr ⟨by omega, by omega, by omega, by omega⟩⟩
    · split at h <;> cases h

theorem dyadicOf_is {k : Nat} {x : Nat} {n : Int} {v : Nat} (hx : x < 2 ^ 64) (h : D x n v) (hk : 2 < k) : ∃ s l e, spec_DyadicOf k x = some (s, l, e) ∧ Dr (-1074) 971 2 s l e (n * 2 ^ v) := by
  obtain ⟨sg, m, q, h1, h2⟩ := h
  obtain ⟨hs, hf⟩ := read_fields hx h1
  have hx' : (x : Int) < 18446744073709551616 := by
    have : (2 : Nat) ^ 64 = 18446744073709551616 := by decide
    omega
  have r52 : ishr .u64 (fbits x) 52 = some ((x / 2 ^ 52 : Nat) : Int) := by
    have := ishr_u64 (a := (x : Int)) (n := 52) (by omega) hx' (by omega)
    rw [show fbits x = (x : Int) from rfl, show (52 : Int) = ((52 : Nat) : Int) from rfl, this]
    congr 1
  have r63 : ishr .u64 (fbits x) 63 = some ((x / 2 ^ 63 : Nat) : Int) := by
    have := ishr_u64 (a := (x : Int)) (n := 63) (by omega) hx' (by omega)
    rw [show fbits x = (x : Int) from rfl, show (63 : Int) = ((63 : Nat) : Int) from rfl, this]
    congr 1
  obtain ⟨E, hE⟩ : ∃ E, x / 2 ^ 52 % 2048 = E := ⟨_, rfl⟩
  obtain ⟨F, hF⟩ : ∃ F, x % 2 ^ 52 = F := ⟨_, rfl⟩
  have hEl : E < 2048 := by omega
  have hFl : F < 4503599627370496 := by omega
  have iE : iand .u64 ((x / 2 ^ 52 : Nat) : Int) 2047 = (E : Int) := by
    have := iand_mask (a := x / 2 ^ 52) (t := 11) (by omega) (by omega)
    rw [← hE]; exact this
  have iF : iand .u64 (fbits x) 4503599627370495 = (F : Int) := by
    have := iand_mask (a := x) (t := 52) hx (by omega)
    rw [← hF]; exact this
  rw [hE, hF] at hf
  have cE : icv .i64 (E : Int) = (E : Int) := icv_i64 (by omega) (by omega)
  have cF : icv .i64 (F : Int) = (F : Int) := icv_i64 (by omega) (by omega)
  -- the end, once the number and the exponent are known
  have fin : ∀ (M e : Int), M = (m : Int) → e = (q : Int) + 1 → 0 ≤ e → e ≤ 2046 → ∃ s l e', spec_DyadicOf_j1 k x M e = some (s, l, e') ∧ Dr (-1074) 971 2 s l e' (n * 2 ^ v) := by
    intro M e hM he he0 he1
    have hm53 : (m : Int) < 9007199254740992 := by
      rcases hf with ⟨a, b, c⟩ | ⟨a, b, c, d⟩ <;> omega
    have hse : isub .i64 e 1075 = (q : Int) - 1074 := by rw [isub_i64 (by omega) (by omega)]; omega
    have hend : ∀ z : Int, z = signed sg m 0 → ∃ s l e', spec_DyadicOf_j2 k e z = some (s, l, e') ∧ Dr (-1074) 971 2 s l e' (n * 2 ^ v) := by
      intro z hz
      have hz2 : z = (if sg then -(m : Int) else (m : Int)) := by rw [hz, signed_eq]; cases sg <;> simp
      obtain ⟨s, l, w1, w2, w3⟩ := wholeOf_is (k := k) (n := z) (by rw [hz2]; split <;> omega) (by rw [hz2]; split <;> omega) hk
      refine ⟨s, l, (q : Int) - 1074, by simp [spec_DyadicOf_j2, w1, hse], ⟨z, w2, ?_⟩, by omega, by omega, w3⟩
      rw [← h2, hz, show ((q : Int) - 1074 - -1074).toNat = q from by omega, ← signed_mul, Nat.zero_add]
    unfold spec_DyadicOf_j1
    rw [r63]
    simp only [Option.bind_eq_bind, Option.bind_some]
    by_cases hneg : x / 2 ^ 63 = 1
    · have hd : decide (((x / 2 ^ 63 : Nat) : Int) = 1) = true := by rw [hneg]; rfl
      rw [hd, br_true]
      have hn : isub .i64 0 M = -(m : Int) := by rw [isub_i64 (by omega) (by omega), hM]; omega
      rw [hn]
      refine hend _ ?_
      rw [hs, signed_eq]; simp [hneg]
    · have hd : decide (((x / 2 ^ 63 : Nat) : Int) = 1) = false := by
        simp only [decide_eq_false_iff_not]; omega
      rw [hd, br_false, hM]
      refine hend _ ?_
      rw [hs, signed_eq]; simp [hneg]
  unfold spec_DyadicOf
  rw [r52]
  simp only [Option.bind_eq_bind, Option.bind_some, iE, cE, iF, cF]
  rcases hf with ⟨a, b, c⟩ | ⟨a, b, c, d⟩
  · have d1 : decide ((E : Int) = 2047) = false := by simp only [decide_eq_false_iff_not]; omega
    have d2 : decide ((E : Int) = 0) = true := by simp only [decide_eq_true_eq]; omega
    rw [d1, d2, br_false, br_true]
    exact fin _ _ (by omega) (by omega) (by omega) (by omega)
  · have d1 : decide ((E : Int) = 2047) = false := by simp only [decide_eq_false_iff_not]; omega
    have d2 : decide ((E : Int) = 0) = false := by simp only [decide_eq_false_iff_not]; omega
    rw [d1, d2, br_false, br_false]
    have hadd : iadd .i64 (F : Int) 4503599627370496 = (F : Int) + 4503599627370496 := iadd_i64 (by omega) (by omega)
    rw [hadd]
    exact fin _ _ (by omega) (by omega) (by omega) (by omega)
end Go.Proofs.YthobbfpoooommaaGreat
