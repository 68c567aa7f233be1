/-
  The nearest float of a dyadic number that is a whole number a float can hold: Ldexp, and the end. Ours.
-/
import Derived.Test.YtmkhoplffiakmaaExact5
namespace Go.Proofs.Ytmkhoplffiakmaa
open Go.Sx
open Ieee (signed)
set_option linter.unusedVariables false
set_option linter.unusedSimpArgs false
set_option maxRecDepth 100000

theorem iandn_sign {x : Nat} (hx : x < 2 ^ 63) : iandn .u64 (x : Int) 9223372036854775808 = (x : Int) := by
  have h1 := bv_nat64 x (by omega)
  unfold iandn
  have e3 : (BitVec.ofInt IntKind.u64.bits (x : Int) &&& ~~~ BitVec.ofInt IntKind.u64.bits 9223372036854775808).toNat = x := by
    show (BitVec.ofInt 64 (x : Int) &&& ~~~ BitVec.ofInt 64 9223372036854775808).toNat = _
    rw [BitVec.toNat_and, h1, show (~~~ BitVec.ofInt 64 9223372036854775808).toNat = 2 ^ 63 - 1 from by decide, Nat.and_two_pow_sub_one_eq_mod]
    omega
  rw [e3]; exact wrap_u64_id (by omega) (by omega)
theorem and_high {x : Nat} (hx : x < 2 ^ 63) : x &&& 2 ^ 63 = 0 := by
  apply Nat.eq_of_testBit_eq
  intro i
  rw [Nat.testBit_and, Nat.zero_testBit]
  by_cases hi : i = 63
  · subst hi; rw [Nat.testBit_lt_two_pow hx]; rfl
  · rw [Nat.testBit_two_pow_of_ne (Ne.symm hi)]; simp
theorem iandn_exp {x : Nat} (hx : x < 2 ^ 63) : iandn .u64 (x : Int) 9218868437227405312 = ((x % 2 ^ 52 : Nat) : Int) := by
  have h1 := bv_nat64 x (by omega)
  unfold iandn
  have e3 : (BitVec.ofInt IntKind.u64.bits (x : Int) &&& ~~~ BitVec.ofInt IntKind.u64.bits 9218868437227405312).toNat = x % 2 ^ 52 := by
    show (BitVec.ofInt 64 (x : Int) &&& ~~~ BitVec.ofInt 64 9218868437227405312).toNat = _
    rw [BitVec.toNat_and, h1, show (~~~ BitVec.ofInt 64 9218868437227405312).toNat = 2 ^ 63 ||| (2 ^ 52 - 1) from by decide, Nat.and_or_distrib_left, Nat.and_two_pow_sub_one_eq_mod, and_high hx, Nat.zero_or]
  rw [e3]; exact wrap_u64_id (by omega) (by omega)
theorem ior_low {F c : Nat} (hF : F < 2 ^ 52) (hc : c < 2048) : ior .u64 (F : Int) ((c * 2 ^ 52 : Nat) : Int) = ((c * 2 ^ 52 + F : Nat) : Int) := by
  have h1 := bv_nat64 F (by omega)
  have h2 := bv_nat64 (c * 2 ^ 52) (by omega)
  unfold ior
  have e3 : (BitVec.ofInt IntKind.u64.bits (F : Int) ||| BitVec.ofInt IntKind.u64.bits ((c * 2 ^ 52 : Nat) : Int)).toNat = c * 2 ^ 52 + F := by
    show (BitVec.ofInt 64 (F : Int) ||| BitVec.ofInt 64 ((c * 2 ^ 52 : Nat) : Int)).toNat = _
    rw [BitVec.toNat_or, h1, h2, Nat.or_comm, Nat.mul_comm, Nat.two_pow_add_eq_or_of_lt hF]
  rw [e3]; exact wrap_u64_id (by omega) (by omega)

theorem two_le_pow (n : Nat) (h : 1 ≤ n) : (2 : Int) ≤ 2 ^ n := by
  have := powle 2 h (by omega)
  simpa using this

theorem isn_D {x : Nat} {n : Int} {v : Nat} (h : D x n v) : isn x = false := D_num h

theorem ldexp_is {k x m b n : Nat} (hx : x < 2 ^ 64) (hm0 : 2 ^ 52 ≤ m) (hm1 : m < 2 ^ 53) (hD : D x (m : Int) 1074) (hb0 : 1 ≤ b) (hb1 : b ≤ 53) (hn : n * 2 ^ (53 - b) = m) : ∃ y, math_Ldexp k x ((b : Int) - 53) = some y ∧ D y (n : Int) 1074 ∧ y < 2 ^ 64 := by
  have hw := word_of_53 hx hm0 hm1 hD
  obtain ⟨F, hF⟩ : ∃ F, m - 2 ^ 52 = F := ⟨_, rfl⟩
  rw [hF] at hw
  have hFl : F < 2 ^ 52 := by omega
  have hx63 : x < 2 ^ 63 := by omega
  have hnl : n ≤ 2 ^ 53 := by
    have : n * 1 ≤ n * 2 ^ (53 - b) := Nat.mul_le_mul_left _ (Nat.two_pow_pos _)
    omega
  have habs : ∀ k, math_Abs k x = some x := by
    intro k
    unfold math_Abs ffrom
    rw [show fbits x = (x : Int) from rfl, iandn_sign hx63]; simp
  have h1 : feq x 0 = false := by rw [D_eq hD (D_zero 1074)]; simp; omega
  have hbig : D 9218868437227405311 ((9007199254740991 : Int) * 2 ^ 971) 1074 := by
    have := D_fields (E := 2046) (F := 4503599627370495) (by omega) (by omega) (by omega) (n := (9007199254740991 : Int) * 2 ^ 971) (v := 1074) (by
      rw [Int.mul_assoc, ← Int.pow_add, show ((2 ^ 52 + 4503599627370495 : Nat) : Int) = 9007199254740991 from rfl, show (2046 - 1 : Nat) = 971 + 1074 from rfl])
    exact this
  have h971 : (2 : Int) ≤ 2 ^ 971 := two_le_pow 971 (by omega)
  have h2 : fgt x 9218868437227405311 = false := by
    rw [fgt_flt, D_lt hbig hD]
    have : (9007199254740991 : Int) * 2 ≤ 9007199254740991 * 2 ^ 971 := Int.mul_le_mul_of_nonneg_left h971 (by omega)
    simp only [decide_eq_false_iff_not]; omega
  have h3 : fne x x = false := by rw [D_ne hD hD]; simp
  have h4 : flt x 4503599627370496 = false := by
    have hmin : D 4503599627370496 4503599627370496 0 := by
      have := D_fields (E := 1) (F := 0) (by omega) (by omega) (by omega) (n := 4503599627370496) (v := 0) (by simp)
      exact this
    have hD0 : D x ((m : Int) * 2 ^ 1074) 0 := by
      have := D.scale (v := 0) (w := 1074) (by rw [Nat.zero_add]; exact hD)
      exact this
    rw [D_lt hD0 hmin]
    have hp : (1 : Int) ≤ 2 ^ 1074 := Int.pow_pos (by omega)
    have : (m : Int) * 1 ≤ m * 2 ^ 1074 := Int.mul_le_mul_of_nonneg_left hp (by omega)
    simp only [decide_eq_false_iff_not]; omega
  have hnum : num x = some x := by unfold num; rw [isn_D hD]; rfl
  have h52 : ishr .u64 (fbits x) 52 = some 1075 := by
    have := ishr_u64 (a := (x : Int)) (n := 52) (by omega) (by omega) (by omega)
    rw [show fbits x = (x : Int) from rfl, show (52 : Int) = ((52 : Nat) : Int) from rfl, this]
    exact congrArg some (by omega)
  have he1 : iadd .i64 ((b : Int) - 53) 0 = (b : Int) - 53 := by rw [iadd_i64 (by omega) (by omega)]; omega
  have he2 : isub .i64 (iand .i64 (icv .i64 1075) 2047) 1023 = 52 := by decide
  have he3 : iadd .i64 ((b : Int) - 53) 52 = (b : Int) - 1 := by rw [iadd_i64 (by omega) (by omega)]; omega
  have c1 : decide ((b : Int) - 1 < -1075) = false := by simp only [decide_eq_false_iff_not]; omega
  have c2 : decide (1023 < (b : Int) - 1) = false := by simp only [decide_eq_false_iff_not]; omega
  have c3 : decide ((b : Int) - 1 < -1022) = false := by simp only [decide_eq_false_iff_not]; omega
  -- the last step
  have hadd : iadd .i64 ((b : Int) - 1) 1023 = ((b + 1022 : Nat) : Int) := by rw [iadd_i64 (by omega) (by omega)]; omega
  have hcv : icv .u64 ((b + 1022 : Nat) : Int) = ((b + 1022 : Nat) : Int) := icv_u64 (by omega) (by omega)
  have hshl : ishl .u64 ((b + 1022 : Nat) : Int) 52 = some (((b + 1022) * 2 ^ 52 : Nat) : Int) := by
    have := ishl_u64 (a := ((b + 1022 : Nat) : Int)) (n := 52) (by omega)
    rw [show ((52 : Nat) : Int) = 52 from rfl] at this
    rw [this, Int.emod_eq_of_lt (by omega) (by omega)]
    exact congrArg some (by omega)
  have hmod : x % 2 ^ 52 = F := by omega
  have hword : ffrom (ior .u64 (iandn .u64 (fbits x) 9218868437227405312) (((b + 1022) * 2 ^ 52 : Nat) : Int)) = (b + 1022) * 2 ^ 52 + F := by
    rw [show fbits x = (x : Int) from rfl, iandn_exp hx63, hmod, ior_low hFl (by omega)]; rfl
  have hDw : D ((b + 1022) * 2 ^ 52 + F) (n : Int) 1074 := by
    refine D_fields (by omega) (by omega) hFl ?_
    rw [show 2 ^ 52 + F = m from by omega, ← hn]
    rw [show b + 1022 - 1 = b + 1021 from by omega]
    rw [show ((n * 2 ^ (53 - b) : Nat) : Int) = (n : Int) * 2 ^ (53 - b) from by simp, Int.mul_assoc, ← Int.pow_add, show 53 - b + (b + 1021) = 1074 from by omega]
  obtain ⟨y, hy1, hy2⟩ := D_mul (v := 1074) (w := 1074) (u := 1074) D_one hDw (Int.one_mul _) (by omega) (by omega) (by omega) (by omega)
  refine ⟨y, ?_, hy2, FloatKind.f64.format.mul_lt hy1⟩
  have hg : gmul 4607182418800017408 ((b + 1022) * 2 ^ 52 + F) = y := by unfold gmul; rw [hy1]; rfl
  have d00 : decide ((0 : Int) = 0) = true := rfl
  simp only [math_Ldexp, math_ldexp, h1, br_false, math_IsInf, decide_true, br_true, habs, Option.bind_eq_bind, Option.bind_some, math_IsInf_j1, h2, math_IsNaN, h3, math_ldexp_j1, math_normalize, h4, hnum, h52, he1, he2, he3, c1, c2, c3, math_ldexp_j2, hadd, hcv, hshl, hword, hg]

theorem D_fneg {x : Nat} {a : Int} {v : Nat} (hx : x < 2 ^ 64) (h : D x a v) : D (fneg x) (-a) v := by
  obtain ⟨s, m, q, h1, h2⟩ := h
  refine ⟨!s, m, q, ?_, ?_⟩
  · rw [fmt_is] at h1 ⊢
    have hr := neg_rung x
    have hb : (fneg x / 2 ^ 63 % 2 == 1) = !(x / 2 ^ 63 % 2 == 1) := by
      have e : fneg x = x ^^^ 2 ^ 63 := rfl
      have t1 : (x ^^^ 2 ^ 63).testBit 63 = !(x.testBit 63) := by rw [Nat.testBit_xor, Nat.testBit_two_pow_self]; simp
      rw [Nat.testBit_eq_decide_div_mod_eq, Nat.testBit_eq_decide_div_mod_eq] at t1
      rw [e]; exact t1
    unfold Ieee.Format.read at h1 ⊢
    simp only [Go.Sx.sign_is, hr, hb] at h1 ⊢
    split
    · rename_i c
      rw [if_pos c] at h1
      simp only [Ieee.Datum.number.injEq] at h1 ⊢
      exact ⟨by rw [h1.1], h1.2⟩
    · rename_i c
      rw [if_neg c] at h1
      split
      · rename_i c2
        rw [if_pos c2] at h1
        simp only [Ieee.Datum.number.injEq] at h1 ⊢
        exact ⟨by rw [h1.1], h1.2⟩
      · rename_i c2
        rw [if_neg c2] at h1
        split at h1 <;> cases h1
  · rw [Int.neg_mul, ← h2, signed_eq, signed_eq]; cases s <;> simp

theorem i2f_lt (n : Int) : i2f n < 2 ^ 64 := by
  rcases write_lt (.number (decide (n < 0)) n.natAbs 0) with h | h
  · exact h
  · cases h

end Go.Proofs.Ytmkhoplffiakmaa
