/-
  Words without their signs, and with others' signs; great numbers that are not infinite. Ours.
-/
import Derived.Test.YtmkhoplffiakmaaExact3
import Derived.Test.YtmkhoplffiakmaaWholeTo
import Derived.Test.YtmkhoplffiakmaaHypot
import Derived.Test.YtmkhoplffiakmaaQCmp
namespace Go.Proofs.Ytmkhoplffiakmaa
open Go.Sx
open Ieee (signed)
set_option linter.unusedVariables false
set_option linter.unusedSimpArgs false
set_option maxRecDepth 100000

theorem sign_word {x : Nat} {a : Rat} (hx : x < 2 ^ 64) (h : Q x a) : (a < 0 → fneg x = x % 2 ^ 63 ∧ Q (x % 2 ^ 63) (-a)) ∧ (0 < a → x % 2 ^ 63 = x) := by
  obtain ⟨s, m, q, h1, h2⟩ := Q_read h
  obtain ⟨hs, hf⟩ := read_fields hx h1
  have hm : (0 : Rat) ≤ (m : Rat) * 2 ^ q := by
    have h1 : (0 : Rat) ≤ (m : Rat) := by
      have : ((0 : Nat) : Rat) ≤ (m : Rat) := Rat.natCast_le_natCast.2 (Nat.zero_le _)
      simpa using this
    exact Rat.mul_nonneg h1 (Rat.le_of_lt (un_pos q))
  have hU := Un_pos
  generalize (m : Rat) * 2 ^ q = z at *
  constructor
  · intro ha
    have hs1 : s = true := by
      cases s
      · exfalso
        simp only [Bool.false_eq_true, if_false] at h2
        have := Rat.mul_pos (show 0 < -a by grind) hU
        grind
      · rfl
    rw [hs1] at hs
    have h63 : x / 2 ^ 63 = 1 := by simpa using hs.symm
    have e : fneg x = x % 2 ^ 63 := by
      have e0 : fneg x = x ^^^ 2 ^ 63 := rfl
      have hx2 : x = 2 ^ 63 * 1 + x % 2 ^ 63 := by omega
      have hl : x % 2 ^ 63 < 2 ^ 63 := Nat.mod_lt _ (Nat.two_pow_pos _)
      rw [e0]
      generalize x % 2 ^ 63 = y at *
      subst hx2
      apply Nat.eq_of_testBit_eq
      intro i
      rw [Nat.two_pow_add_eq_or_of_lt hl, Nat.testBit_xor, Nat.testBit_or, Nat.mul_one]
      by_cases hi : i = 63
      · subst hi; rw [Nat.testBit_lt_two_pow hl]; simp
      · rw [Nat.testBit_two_pow_of_ne (Ne.symm hi)]; simp
    exact ⟨e, by rw [← e]; exact Q_fneg hx h⟩
  · intro ha
    have hs1 : s = false := by
      cases s
      · rfl
      · exfalso
        simp only [if_true] at h2
        have := Rat.mul_pos ha hU
        grind
    rw [hs1] at hs
    have h63 : ¬ x / 2 ^ 63 = 1 := by
      intro h; rw [h] at hs; simp at hs
    have := Nat.div_add_mod x (2 ^ 63)
    omega
theorem iandn_sgn {x : Nat} (hx : x < 2 ^ 63) : iandn .u64 (x : Int) 9223372036854775808 = (x : Int) := by
  have h1 := bv_nat64 x (by omega)
  unfold iandn
  have e3 : (BitVec.ofInt IntKind.u64.bits (x : Int) &&& ~~~ BitVec.ofInt IntKind.u64.bits 9223372036854775808).toNat = x := by
    show (BitVec.ofInt 64 (x : Int) &&& ~~~ BitVec.ofInt 64 9223372036854775808).toNat = _
    rw [BitVec.toNat_and, h1, show (~~~ BitVec.ofInt 64 9223372036854775808).toNat = 2 ^ 63 - 1 from by decide, Nat.and_two_pow_sub_one_eq_mod]
    omega
  rw [e3]; exact wrap_u64_id (by omega) (by omega)
theorem sign_bit {x : Nat} (hx : x < 2 ^ 64) : iand .u64 (x : Int) 9223372036854775808 = ((if x < 2 ^ 63 then 0 else 2 ^ 63 : Nat) : Int) := by
  have h1 := bv_nat64 x hx
  unfold iand
  have e3 : (BitVec.ofInt IntKind.u64.bits (x : Int) &&& BitVec.ofInt IntKind.u64.bits 9223372036854775808).toNat = if x < 2 ^ 63 then 0 else 2 ^ 63 := by
    show (BitVec.ofInt 64 (x : Int) &&& BitVec.ofInt 64 9223372036854775808).toNat = _
    rw [BitVec.toNat_and, h1, show (BitVec.ofInt 64 9223372036854775808).toNat = 2 ^ 63 from by decide]
    apply Nat.eq_of_testBit_eq
    intro i
    rw [Nat.testBit_and]
    by_cases hi : i = 63
    · subst hi
      by_cases h : x < 2 ^ 63
      · rw [if_pos h, Nat.testBit_lt_two_pow h]; simp
      · rw [if_neg h, Nat.testBit_two_pow_self, Bool.and_true, Nat.testBit_eq_decide_div_mod_eq]
        have : x / 2 ^ 63 = 1 := by omega
        rw [this]; rfl
    · rw [Nat.testBit_two_pow_of_ne (Ne.symm hi), Bool.and_false]
      split
      · rw [Nat.zero_testBit]
      · rw [Nat.testBit_two_pow_of_ne (Ne.symm hi)]
  rw [e3]
  split
  · rfl
  · exact wrap_u64_id (by omega) (by omega)
theorem copysign_is (k : Nat) {f s : Nat} (hf : f < 2 ^ 63) (hs : s < 2 ^ 64) : math_Copysign k f s = some (if s < 2 ^ 63 then f else fneg f) := by
  unfold math_Copysign ffrom
  rw [show fbits f = (f : Int) from rfl, show fbits s = (s : Int) from rfl, iandn_sgn hf, sign_bit hs]
  have h1 := bv_nat64 f (by omega)
  by_cases h : s < 2 ^ 63
  · rw [if_pos h, if_pos h]
    unfold ior
    have e3 : (BitVec.ofInt IntKind.u64.bits (f : Int) ||| BitVec.ofInt IntKind.u64.bits ((0 : Nat) : Int)).toNat = f := by
      show (BitVec.ofInt 64 (f : Int) ||| BitVec.ofInt 64 ((0 : Nat) : Int)).toNat = _
      rw [BitVec.toNat_or, h1, bv_nat64 0 (by decide), Nat.or_zero]
    rw [e3, wrap_u64_id (by omega) (by omega)]; rfl
  · rw [if_neg h, if_neg h]
    unfold ior
    have e0 : fneg f = f ^^^ 2 ^ 63 := rfl
    have e3 : (BitVec.ofInt IntKind.u64.bits (f : Int) ||| BitVec.ofInt IntKind.u64.bits ((2 ^ 63 : Nat) : Int)).toNat = f ^^^ 2 ^ 63 := by
      show (BitVec.ofInt 64 (f : Int) ||| BitVec.ofInt 64 ((2 ^ 63 : Nat) : Int)).toNat = _
      rw [BitVec.toNat_or, h1, bv_nat64 (2 ^ 63) (by decide)]
      apply Nat.eq_of_testBit_eq
      intro i
      rw [Nat.testBit_or, Nat.testBit_xor]
      by_cases hi : i = 63
      · subst hi; rw [Nat.testBit_lt_two_pow hf]; simp
      · rw [Nat.testBit_two_pow_of_ne (Ne.symm hi)]; simp
    have hl : f ^^^ 2 ^ 63 < 2 ^ 64 := Nat.xor_lt_two_pow (by omega) (by decide)
    rw [e3, wrap_u64_id (by omega) (by omega), e0]; rfl
theorem greatest3 : ∃ g : Rat, Q 9218868437227405311 g ∧ 4503599627370496 ≤ g := by
  have h := Go.Sx.D_fields (E := 2046) (F := 4503599627370495) (by decide) (by decide) (by decide) (n := ((2 ^ 52 + 4503599627370495 : Nat) : Int)) (v := 2045) rfl
  have h1 := Q_of h
  refine ⟨_, h1, ?_⟩
  have hU := Un_pos
  have hs : (2 : Rat) ^ 2045 = 2 ^ 971 * Un := by
    unfold Un; rw [← ratpow_add]
  have h9 := one_le_pow 971
  have e1 : (((2 ^ 52 + 4503599627370495 : Nat) : Int) : Rat) = 9007199254740991 := rfl
  rw [e1, hs]
  generalize (2 : Rat) ^ 971 = z at *
  have e2 : (9007199254740991 : Rat) * (z * Un) / Un = 9007199254740991 * z := by grind
  rw [e2]; grind
theorem isinf3 {k x : Nat} {r : Rat} (hx : x < 2 ^ 64) (h : Q x r) (h1 : -4503599627370000 ≤ r) (h2 : r ≤ 4503599627370000) : math_IsInf k x 0 = some false := by
  obtain ⟨A, qA, A0, hA⟩ := Q_abs hx h
  obtain ⟨g, qg, hg⟩ := greatest3
  unfold math_IsInf math_IsInf_j1
  rw [show decide ((0 : Int) = 0) = true from rfl, br_true, abs_is k x hx, sbind, fgt_q qA qg, decide_eq_false (by rcases hA with e | e <;> grind)]
theorem isnan3 {x : Nat} {r : Rat} (h : Q x r) (k : Nat) : math_IsNaN k x = some false := by
  obtain ⟨n, h1, h2⟩ := h
  unfold math_IsNaN
  rw [D_ne h1 h1]; simp
theorem signbit3 (k : Nat) {x : Nat} (hx : x < 2 ^ 63) : math_Signbit k x = some false := by
  unfold math_Signbit icv
  rw [show fbits x = (x : Int) from rfl]
  have : IntKind.wrap .i64 (x : Int) = (x : Int) := by
    unfold IntKind.wrap
    simp only [IntKind.signed, IntKind.bits]
    have e : (x : Int) % 2 ^ 64 = x := Int.emod_eq_of_lt (by omega) (by omega)
    simp only [e, Bool.true_and, decide_eq_true_eq]
    rw [if_neg (by omega)]
  rw [this, decide_eq_false (by omega)]
theorem pos_word {x : Nat} {a : Rat} (hx : x < 2 ^ 64) (h : Q x a) (ha : 0 < a) : x < 2 ^ 63 := by
  have h1 := (sign_word hx h).2 ha
  have := Nat.mod_lt x (show 0 < 2 ^ 63 by decide)
  omega
end Go.Proofs.Ytmkhoplffiakmaa
