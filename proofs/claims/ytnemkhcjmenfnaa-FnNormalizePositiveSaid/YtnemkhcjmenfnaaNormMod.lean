/-
  The remainder of a number by two pi, as the library computes it. Ours.
-/
import Derived.Test.YtnemkhcjmenfnaaFun
import Derived.Test.YtnemkhcjmenfnaaRelat3
namespace Go.Proofs.Ytnemkhcjmenfnaa
open Go.Sx
open Ieee (signed)
set_option linter.unusedVariables false
set_option linter.unusedSimpArgs false
set_option maxRecDepth 100000

/-! #### fields of words -/
theorem iandn_sign {x : Nat} (hx : x < 2 ^ 63) : iandn .u64 (x : Int) 9223372036854775808 = (x : Int) := by
  have h1 := bv_nat64 x (by omega)
  unfold iandn
  have e3 : (BitVec.ofInt IntKind.u64.bits (x : Int) &&& ~~~ BitVec.ofInt IntKind.u64.bits 9223372036854775808).toNat = x := by
    show (BitVec.ofInt 64 (x : Int) &&& ~~~ BitVec.ofInt 64 9223372036854775808).toNat = _
    rw [BitVec.toNat_and, h1, show (~~~ BitVec.ofInt 64 9223372036854775808).toNat = 2 ^ 63 - 1 from by decide, Nat.and_two_pow_sub_one_eq_mod]
    omega
  rw [e3]; exact wrap_u64_id (by omega) (by omega)
theorem and_high {x : Nat} (hx : x < 2 ^ 63) : x &&& 2 ^ 63 = 0 := by
  apply Nat.eq_of_testBit_eq
  intro i
  rw [Nat.testBit_and, Nat.zero_testBit]
  by_cases hi : i = 63
  · subst hi; rw [Nat.testBit_lt_two_pow hx]; rfl
  · rw [Nat.testBit_two_pow_of_ne (Ne.symm hi)]; simp
theorem iandn_exp {x : Nat} (hx : x < 2 ^ 63) : iandn .u64 (x : Int) 9218868437227405312 = ((x % 2 ^ 52 : Nat) : Int) := by
  have h1 := bv_nat64 x (by omega)
  unfold iandn
  have e3 : (BitVec.ofInt IntKind.u64.bits (x : Int) &&& ~~~ BitVec.ofInt IntKind.u64.bits 9218868437227405312).toNat = x % 2 ^ 52 := by
    show (BitVec.ofInt 64 (x : Int) &&& ~~~ BitVec.ofInt 64 9218868437227405312).toNat = _
    rw [BitVec.toNat_and, h1, show (~~~ BitVec.ofInt 64 9218868437227405312).toNat = 2 ^ 63 ||| (2 ^ 52 - 1) from by decide, Nat.and_or_distrib_left, Nat.and_two_pow_sub_one_eq_mod, and_high hx, Nat.zero_or]
  rw [e3]; exact wrap_u64_id (by omega) (by omega)
theorem ior_low {F c : Nat} (hF : F < 2 ^ 52) (hc : c < 2048) : ior .u64 (F : Int) ((c * 2 ^ 52 : Nat) : Int) = ((c * 2 ^ 52 + F : Nat) : Int) := by
  have h1 := bv_nat64 F (by omega)
  have h2 := bv_nat64 (c * 2 ^ 52) (by omega)
  unfold ior
  have e3 : (BitVec.ofInt IntKind.u64.bits (F : Int) ||| BitVec.ofInt IntKind.u64.bits ((c * 2 ^ 52 : Nat) : Int)).toNat = c * 2 ^ 52 + F := by
    show (BitVec.ofInt 64 (F : Int) ||| BitVec.ofInt 64 ((c * 2 ^ 52 : Nat) : Int)).toNat = _
    rw [BitVec.toNat_or, h1, h2, Nat.or_comm, Nat.mul_comm, Nat.two_pow_add_eq_or_of_lt hF]
  rw [e3]; exact wrap_u64_id (by omega) (by omega)

theorem iand_mask {a : Nat} {t : Nat} (ha : a < 2 ^ 64) (ht : t < 64) : iand .u64 (a : Int) ((2 ^ t - 1 : Nat) : Int) = ((a % 2 ^ t : Nat) : Int) := by
  have h1 := bv_nat64 a ha
  have hp : 2 ^ t < 2 ^ 64 := Nat.pow_lt_pow_right (by omega) ht
  have h2 := bv_nat64 (2 ^ t - 1) (by omega)
  unfold iand
  have e3 : (BitVec.ofInt IntKind.u64.bits (a : Int) &&& BitVec.ofInt IntKind.u64.bits ((2 ^ t - 1 : Nat) : Int)).toNat = a % 2 ^ t := by
    show (BitVec.ofInt 64 (a : Int) &&& BitVec.ofInt 64 ((2 ^ t - 1 : Nat) : Int)).toNat = _
    rw [BitVec.toNat_and, h1, h2, Nat.and_two_pow_sub_one_eq_mod]
  rw [e3]
  have h4 : a % 2 ^ t < 2 ^ t := Nat.mod_lt _ (Nat.two_pow_pos t)
  have h5 : a % 2 ^ t < 18446744073709551616 := by
    have : (2 : Nat) ^ 64 = 18446744073709551616 := by decide
    omega
  exact wrap_u64_id (by omega) (by omega)

/-- the fields of a word that reads as a number -/
theorem read_fields {x : Nat} (hx : x < 2 ^ 64) {s : Bool} {m : Nat} {q : Nat} (h : FloatKind.f64.format.read x = .number s m ((q : Int) - 1074)) :
    s = decide (x / 2 ^ 63 = 1) ∧ ((x / 2 ^ 52 % 2048 = 0 ∧ m = x % 2 ^ 52 ∧ q = 0) ∨ (0 < x / 2 ^ 52 % 2048 ∧ x / 2 ^ 52 % 2048 < 2047 ∧ m = 2 ^ 52 + x % 2 ^ 52 ∧ q + 1 = x / 2 ^ 52 % 2048)) := by
  rw [fmt_is] at h
  unfold Ieee.Format.read at h
  simp only [Go.Sx.sign_is, binade_is, inf_is, least_is] at h
  have hs : (x / 2 ^ 63 % 2 == 1) = decide (x / 2 ^ 63 = 1) := by
    have : x / 2 ^ 63 < 2 := by omega
    have e : x / 2 ^ 63 % 2 = x / 2 ^ 63 := by omega
    rw [e]; rfl
  rw [hs] at h
  split at h
  · rename_i h1
    simp only [Ieee.Datum.number.injEq] at h
    obtain ⟨h3, h4, h5⟩ := h
    refine ⟨h3.symm, .inl ⟨by omega, by omega, by omega⟩⟩
  · rename_i h1
    split at h
    · rename_i h2
      simp only [Ieee.Datum.number.injEq] at h
      obtain ⟨h3, h4, h5⟩ := h
      refine ⟨h3.symm, .inr ⟨by omega, by omega, by omega, by omega⟩⟩
    · split at h <;> cases h

theorem abs_is (k x : Nat) (hx : x < 2 ^ 64) : math_Abs k x = some (x % 2 ^ 63) := by
  have h1 := bv_nat64 x hx
  have e : iandn .u64 (x : Int) 9223372036854775808 = ((x % 2 ^ 63 : Nat) : Int) := by
    unfold iandn
    have e3 : (BitVec.ofInt IntKind.u64.bits (x : Int) &&& ~~~ BitVec.ofInt IntKind.u64.bits 9223372036854775808).toNat = x % 2 ^ 63 := by
      show (BitVec.ofInt 64 (x : Int) &&& ~~~ BitVec.ofInt 64 9223372036854775808).toNat = _
      rw [BitVec.toNat_and, h1, show (~~~ BitVec.ofInt 64 9223372036854775808).toNat = 2 ^ 63 - 1 from by decide, Nat.and_two_pow_sub_one_eq_mod]
    rw [e3]; exact wrap_u64_id (by omega) (by omega)
  unfold math_Abs ffrom
  rw [show fbits x = (x : Int) from rfl, e, Int.toNat_natCast]

/-! #### comparisons -/
theorem num_q {x : Nat} {r : Rat} (h : Q x r) : num x = some x := by
  obtain ⟨n, h1, _⟩ := h
  unfold num
  have : isn x = false := D_num h1
  rw [this]; rfl
theorem flt_q {x y : Nat} {a b : Rat} (hx : Q x a) (hy : Q y b) : flt x y = decide (a < b) := by
  obtain ⟨m, h1, h2⟩ := hx
  obtain ⟨n, h3, h4⟩ := hy
  have hU := Un_pos
  rw [D_lt h1 h3]
  apply decide_eq_decide.2
  have k1 : (m < n) ↔ ((m : Rat) < (n : Rat)) := Rat.intCast_lt_intCast.symm
  rw [k1, h2, h4]
  constructor
  · intro h
    by_cases h5 : a < b
    · exact h5
    · exfalso
      have := Rat.mul_nonneg (show 0 ≤ a - b by grind) (Rat.le_of_lt hU)
      grind
  · intro h
    have := Rat.mul_pos (show 0 < b - a by grind) hU
    grind
theorem fgt_q {x y : Nat} {a b : Rat} (hx : Q x a) (hy : Q y b) : fgt x y = decide (b < a) := by rw [fgt_flt]; exact flt_q hy hx
theorem fle_q {x y : Nat} {a b : Rat} (hx : Q x a) (hy : Q y b) : fle x y = decide (a ≤ b) := by
  obtain ⟨m, h1, h2⟩ := hx
  obtain ⟨n, h3, h4⟩ := hy
  have hU := Un_pos
  rw [D_le h1 h3]
  apply decide_eq_decide.2
  have k1 : (m ≤ n) ↔ ((m : Rat) ≤ (n : Rat)) := Rat.intCast_le_intCast.symm
  rw [k1, h2, h4]
  constructor
  · intro h
    by_cases h5 : a ≤ b
    · exact h5
    · exfalso
      have := Rat.mul_pos (show 0 < a - b by grind) hU
      grind
  · intro h
    have := Rat.mul_nonneg (show 0 ≤ b - a by grind) (Rat.le_of_lt hU)
    grind
theorem fge_q {x y : Nat} {a b : Rat} (hx : Q x a) (hy : Q y b) : fge x y = decide (b ≤ a) := by rw [fge_fle]; exact fle_q hy hx
theorem feq_q {x y : Nat} {a b : Rat} (hx : Q x a) (hy : Q y b) : feq x y = decide (a = b) := by
  obtain ⟨m, h1, h2⟩ := hx
  obtain ⟨n, h3, h4⟩ := hy
  have hU := Un_pos
  rw [D_eq h1 h3]
  apply decide_eq_decide.2
  constructor
  · intro h
    rw [h] at h2
    have : (a - b) * Un = 0 := by grind
    rcases Rat.mul_eq_zero.1 this with h5 | h5
    · grind
    · grind
  · intro h
    rw [h] at h2
    exact Rat.intCast_inj.1 (h2.trans h4.symm)
theorem Q_nought : Q 0 0 := by
  have : D 0 ((0 : Int)) 1074 := D_zero 1074
  have := Q_whole this
  simpa using this

/-! #### two pi -/
/-- two pi, as the program has it -/
abbrev tau : Rat := 7074237752028440 / 1125899906842624
theorem Q_word2 (e m : Nat) (E F : Nat) (h0 : 0 < E) (h1 : E < 2047) (hF : F < 2 ^ 52) (hE : E - 1 + e = 1074) : Q (E * 2 ^ 52 + F) (((2 ^ 52 + F : Nat) : Rat) / 2 ^ e) := by
  have h := Go.Sx.D_fields (E := E) (F := F) h0 h1 hF (n := ((2 ^ 52 + F : Nat) : Int)) (v := E - 1) rfl
  have h1 := Q_of h
  have hU := Un_pos
  have hp := un_pos e
  have hs : (2 : Rat) ^ (E - 1) * 2 ^ e = Un := by rw [← ratpow_add, hE]; rfl
  have e2 : (((2 ^ 52 + F : Nat) : Int) : Rat) * 2 ^ (E - 1) / Un = ((2 ^ 52 + F : Nat) : Rat) / 2 ^ e := by
    rw [Rat.intCast_natCast, ← hs]
    have hp2 := un_pos (E - 1)
    generalize (2 : Rat) ^ (E - 1) = z at *
    generalize (2 : Rat) ^ e = y at *
    grind
  rw [e2] at h1; exact h1
theorem Q_tau : Q 4618760256179416344 tau := by
  have := Q_word2 50 0 1025 2570638124657944 (by decide) (by decide) (by decide) (by decide)
  have e1 : (((2 ^ 52 + 2570638124657944 : Nat) : Rat)) = 7074237752028440 := rfl
  have e2 : (2 : Rat) ^ 50 = 1125899906842624 := by decide +kernel
  rw [e1, e2] at this; exact this
theorem Q_tau2 : Q 4623263855806786840 (2 * tau) := by
  have := Q_word2 49 0 1026 2570638124657944 (by decide) (by decide) (by decide) (by decide)
  have e1 : (((2 ^ 52 + 2570638124657944 : Nat) : Rat)) = 7074237752028440 := rfl
  have e2 : (2 : Rat) ^ 49 = 562949953421312 := by decide +kernel
  rw [e1, e2] at this
  have e3 : (2 : Rat) * tau = 7074237752028440 / 562949953421312 := by grind
  rw [e3]; exact this
theorem Q_least30 : Q 4472074429978902528 (1 / 1073741824) := by
  have := Q_word2 82 0 993 0 (by decide) (by decide) (by decide) (by decide)
  have e1 : (((2 ^ 52 + 0 : Nat) : Rat)) = 4503599627370496 := rfl
  have e2 : (2 : Rat) ^ 82 = 4503599627370496 * 1073741824 := by decide +kernel
  rw [e1, e2] at this
  have e3 : (1 : Rat) / 1073741824 = 4503599627370496 / (4503599627370496 * 1073741824) := by grind
  rw [e3]; exact this
theorem Q_thousand : Q 4652007308841189376 1000 := by
  have := Q_word2 43 0 1032 4292493394837504 (by decide) (by decide) (by decide) (by decide)
  have e1 : (((2 ^ 52 + 4292493394837504 : Nat) : Rat)) = 8796093022208000 := rfl
  have e2 : (2 : Rat) ^ 43 = 8796093022208 := by decide +kernel
  rw [e1, e2] at this
  have e3 : (1000 : Rat) = 8796093022208000 / 8796093022208 := by grind
  rw [e3]; exact this
/-- the greatest word is great -/
theorem Q_greatest : ∃ g : Rat, Q 9218868437227405311 g ∧ 4000 ≤ g := by
  have h := Go.Sx.D_fields (E := 2046) (F := 4503599627370495) (by decide) (by decide) (by decide) (n := ((2 ^ 52 + 4503599627370495 : Nat) : Int)) (v := 2045) rfl
  have h1 := Q_of h
  refine ⟨_, h1, ?_⟩
  have hU := Un_pos
  have hs : (2 : Rat) ^ 2045 = 2 ^ 971 * Un := by
    unfold Un; rw [← ratpow_add]
  have h9 := one_le_pow 971
  have e1 : (((2 ^ 52 + 4503599627370495 : Nat) : Int) : Rat) = 9007199254740991 := rfl
  rw [e1, hs]
  have e2 : (9007199254740991 : Rat) * (2 ^ 971 * Un) / Un = 9007199254740991 * 2 ^ 971 := by
    generalize (2 : Rat) ^ 971 = z
    grind
  rw [e2]
  generalize (2 : Rat) ^ 971 = z at h9 ⊢
  grind
theorem isnan_is {k x : Nat} {r : Rat} (h : Q x r) : math_IsNaN k x = some false := by
  obtain ⟨n, h1, _⟩ := h
  unfold math_IsNaN
  rw [D_ne h1 h1]; simp
theorem isinf_is {k x : Nat} {r : Rat} (hx : x < 2 ^ 64) (h : Q x r) (h1 : -3000 ≤ r) (h2 : r ≤ 3000) : math_IsInf k x 0 = some false := by
  obtain ⟨A, qA, A0, hA⟩ := Q_abs hx h
  obtain ⟨g, qg, hg⟩ := Q_greatest
  unfold math_IsInf math_IsInf_j1
  rw [show decide ((0 : Int) = 0) = true from rfl, br_true, abs_is k x hx, sbind, fgt_q qA qg, decide_eq_false (by rcases hA with e | e <;> grind)]

/-! #### Frexp of the numbers that are met -/
theorem frexp_is (k t F : Nat) (ht : t ≤ 6) (hF : F < 2 ^ 52) {r : Rat} (hq : Q ((1026 + t) * 2 ^ 52 + F) r) (h1 : 8 ≤ r) (h2 : r ≤ 3000) : math_Frexp k ((1026 + t) * 2 ^ 52 + F) = some (1022 * 2 ^ 52 + F, (t : Int) + 4) := by
  obtain ⟨x, hx⟩ : ∃ x, (1026 + t) * 2 ^ 52 + F = x := ⟨_, rfl⟩
  rw [hx] at hq ⊢
  have hx63 : x < 2 ^ 63 := by omega
  have hx64 : x < 2 ^ 64 := by omega
  have hE : x / 2 ^ 52 = 1026 + t := by omega
  have hm : x % 2 ^ 52 = F := by omega
  have hmod : x % 2 ^ 63 = x := Nat.mod_eq_of_lt hx63
  unfold math_Frexp math_frexp
  rw [feq_q hq Q_nought, decide_eq_false (by grind), br_false, isinf_is hx64 hq (by grind) h2, sbind, br_false, isnan_is hq, sbind]
  unfold math_frexp_j1
  rw [br_false]
  unfold math_normalize
  rw [abs_is k x hx64, sbind, hmod]
  have hsm : Q 4503599627370496 (Un⁻¹ * (4503599627370496 : Rat)) := by
    have h := Go.Sx.D_fields (E := 1) (F := 0) (by decide) (by decide) (by decide) (n := 4503599627370496) (v := 0) rfl
    have h1 := Q_of h
    have hU := Un_pos
    have hp0 : (2 : Rat) ^ 0 = 1 := by decide +kernel
    have e1 : ((4503599627370496 : Int) : Rat) = 4503599627370496 := rfl
    rw [hp0, e1] at h1
    have e2 : (4503599627370496 : Rat) * 1 / Un = Un⁻¹ * 4503599627370496 := by grind
    rw [e2] at h1; exact h1
  have hlt : ¬ (r < Un⁻¹ * (4503599627370496 : Rat)) := by
    have hU := Un_pos
    have hB := Un_big
    intro h
    have h3 := Rat.mul_pos (show 0 < Un⁻¹ * (4503599627370496 : Rat) - r by grind) hU
    have h4 : Un⁻¹ * Un = 1 := by grind
    have h5 := Rat.mul_nonneg (show 0 ≤ r - 8 by grind) (Rat.le_of_lt hU)
    grind
  rw [flt_q hq hsm, decide_eq_false hlt, br_false, sbind]
  dsimp only
  rw [num_q hq, sbind]
  have r52 : ishr .u64 (fbits x) 52 = some ((1026 + t : Nat) : Int) := by
    have := ishr_u64 (a := (x : Int)) (n := 52) (by omega) (by omega) (by omega)
    rw [show fbits x = (x : Int) from rfl, show (52 : Int) = ((52 : Nat) : Int) from rfl, this]
    congr 1
    rw [show ((2 : Int) ^ 52) = ((2 ^ 52 : Nat) : Int) from rfl, ← Int.natCast_ediv, hE]
  rw [r52, sbind]
  have iE : iand .u64 ((1026 + t : Nat) : Int) 2047 = ((1026 + t : Nat) : Int) := by
    have := iand_mask (a := 1026 + t) (t := 11) (by omega) (by omega)
    rw [Nat.mod_eq_of_lt (by omega)] at this
    exact this
  have cE : icv .i64 ((1026 + t : Nat) : Int) = ((1026 + t : Nat) : Int) := icv_i64 (by omega) (by omega)
  have f1 : iandn .u64 (fbits x) 9218868437227405312 = (F : Int) := by
    rw [show fbits x = (x : Int) from rfl, iandn_exp hx63, hm]
  have f2 : ior .u64 (F : Int) 4602678819172646912 = ((1022 * 2 ^ 52 + F : Nat) : Int) := by
    have := ior_low (F := F) (c := 1022) hF (by omega)
    exact this
  rw [iE, cE, f1, f2]
  have g1 : isub .i64 ((1026 + t : Nat) : Int) 1023 = ((3 + t : Nat) : Int) := by rw [isub_i64 (by omega) (by omega)]; omega
  have g2 : iadd .i64 ((3 + t : Nat) : Int) 1 = ((4 + t : Nat) : Int) := by rw [iadd_i64 (by omega) (by omega)]; omega
  have g3 : iadd .i64 0 ((4 + t : Nat) : Int) = (t : Int) + 4 := by rw [iadd_i64 (by omega) (by omega)]; omega
  rw [g1, g2, g3, sbind]
  rfl
theorem ldexp_is (k n : Nat) (hn : n ≤ 6) : math_Ldexp k 4623263855806786840 (n : Int) = some ((1026 + n) * 2 ^ 52 + 2570638124657944) := by
  match n, hn with
  | 0, _ => rfl
  | 1, _ => rfl
  | 2, _ => rfl
  | 3, _ => rfl
  | 4, _ => rfl
  | 5, _ => rfl
  | 6, _ => rfl

/-! #### Mod -/
/-- two pi's double, in units of 2 ^ -1074 * 2 ^ 1025 -/
abbrev mt : Nat := 7074237752028440
theorem two_tau : 2 * tau = (mt : Rat) * 2 ^ 1025 / Un := by
  have hU := Un_pos
  have hs : (2 : Rat) ^ 1025 * 562949953421312 = Un := by
    have : (562949953421312 : Rat) = 2 ^ 49 := by decide +kernel
    rw [this, ← ratpow_add]; rfl
  have e1 : ((mt : Nat) : Rat) = 7074237752028440 := rfl
  rw [e1]
  generalize (2 : Rat) ^ 1025 = z at *
  rw [← hs] at hU ⊢
  grind
theorem cast0 : (((0 : Nat)) : Rat) = 0 := by simp
theorem small_q (m q e : Nat) (hm : m < 2 ^ 53) (hq : q ≤ e) : m * 2 ^ q < 2 ^ 53 * 2 ^ e :=
  Nat.lt_of_le_of_lt (Nat.mul_le_mul_left _ (pow_le2 q e hq)) (Nat.mul_lt_mul_of_pos_right hm (Nat.two_pow_pos _))
theorem great_q (m q e : Nat) (hm : 2 ^ 52 ≤ m) (hq : e ≤ q) : 2 ^ 52 * 2 ^ e ≤ m * 2 ^ q := Nat.mul_le_mul hm (pow_le2 e q hq)
theorem lt_cast (m q a e : Nat) (h : m * 2 ^ q < 2 ^ a * 2 ^ e) : (m : Rat) * 2 ^ q < 2 ^ a * 2 ^ e := by
  have h9 : ((m * 2 ^ q : Nat) : Rat) < ((2 ^ a * 2 ^ e : Nat) : Rat) := Rat.natCast_lt_natCast.2 h
  rw [Rat.natCast_mul, Rat.natCast_mul, castpow, castpow, castpow] at h9
  exact h9
theorem le_cast (m q a e : Nat) (h : 2 ^ a * 2 ^ e ≤ m * 2 ^ q) : (2 : Rat) ^ a * 2 ^ e ≤ (m : Rat) * 2 ^ q := by
  have h9 : ((2 ^ a * 2 ^ e : Nat) : Rat) ≤ ((m * 2 ^ q : Nat) : Rat) := Rat.natCast_le_natCast.2 h
  rw [Rat.natCast_mul, Rat.natCast_mul, castpow, castpow, castpow] at h9
  exact h9
theorem pow_mono_lt {a b : Nat} (h : 2 ^ a < 2 ^ b) : a < b := (Nat.pow_lt_pow_iff_right (a := 2) (by omega)).1 h
/-- the word of two pi's double times 2 ^ n -/
theorem D_wn (n : Nat) (hn : n ≤ 6) : D ((1026 + n) * 2 ^ 52 + 2570638124657944) ((mt : Nat) : Int) (1025 + n) := by
  have h := Go.Sx.D_fields (E := 1026 + n) (F := 2570638124657944) (by omega) (by omega) (by decide) (n := ((2 ^ 52 + 2570638124657944 : Nat) : Int)) (v := 1026 + n - 1) rfl
  rw [show 1026 + n - 1 = 1025 + n from by omega] at h
  exact h
theorem step_core {n N x A : Nat} {r : Rat} (hn : n ≤ 6) (hD : D x (A : Int) (1025 + n)) (hr : r * Un = (A : Rat) * 2 ^ (1025 + n)) (h1 : mt ≤ A) (h2 : A < 2 * mt) (hN : r < 2 * tau * 2 ^ (N + 1)) :
    n ≤ N ∧ Q (gsub x ((1026 + n) * 2 ^ 52 + 2570638124657944)) (r - (((2 ^ n : Nat)) : Rat) * (2 * tau)) ∧ 0 ≤ r - (((2 ^ n : Nat)) : Rat) * (2 * tau) ∧ r - (((2 ^ n : Nat)) : Rat) * (2 * tau) < 2 * tau * 2 ^ N := by
  have hU := Un_pos
  have h1' : 7074237752028440 ≤ A := h1
  have h2' : A < 2 * 7074237752028440 := h2
  have hsub := gsub_D hD (D_wn n hn) (c := ((A - mt : Nat) : Int)) (by show (A : Int) - ((7074237752028440 : Nat) : Int) = ((A - 7074237752028440 : Nat) : Int); omega) (by show ((A - 7074237752028440 : Nat) : Int).natAbs ≤ 2 ^ 53; omega) (by omega)
  have hq := Q_of hsub
  have h1r : ((mt : Nat) : Rat) ≤ (A : Rat) := Rat.natCast_le_natCast.2 h1
  have h2r : (A : Rat) < 2 * ((mt : Nat) : Rat) := by
    have : ((A : Nat) : Rat) < ((2 * mt : Nat) : Rat) := Rat.natCast_lt_natCast.2 h2
    rw [Rat.natCast_mul] at this; exact this
  have hp := un_pos (1025 + n)
  have hpn := un_pos n
  have hsplit : (2 : Rat) ^ (1025 + n) = 2 ^ 1025 * 2 ^ n := ratpow_add _ _
  have hmt : ((mt : Nat) : Rat) * 2 ^ 1025 = 2 * tau * Un := by rw [two_tau]; grind
  have hcast : (((A - mt : Nat) : Int) : Rat) = (A : Rat) - ((mt : Nat) : Rat) := by
    rw [show ((A - mt : Nat) : Int) = (A : Int) - ((mt : Nat) : Int) from by omega, Rat.intCast_sub, Rat.intCast_natCast, Rat.intCast_natCast]
  have hval : (((A - mt : Nat) : Int) : Rat) * 2 ^ (1025 + n) / Un = r - (((2 ^ n : Nat)) : Rat) * (2 * tau) := by
    rw [hcast, castpow]
    have e1 : ((A : Rat) - ((mt : Nat) : Rat)) * 2 ^ (1025 + n) = r * Un - 2 * tau * Un * 2 ^ n := by
      rw [hr, ← hmt, hsplit]; grind
    rw [e1]
    generalize (2 : Rat) ^ n = z
    grind
  rw [hval] at hq
  have hnN : n ≤ N := by
    have hNU := Rat.mul_pos (show 0 < 2 * tau * 2 ^ (N + 1) - r by grind) hU
    have e2 : 2 * tau * 2 ^ (N + 1) * Un = ((mt : Nat) : Rat) * 2 ^ (1025 + (N + 1)) := by rw [ratpow_add 1025, ← Rat.mul_assoc, hmt]; grind
    have e3 : ((mt : Nat) : Rat) * 2 ^ (1025 + n) ≤ r * Un := by
      rw [hr]
      have := Rat.mul_nonneg (show 0 ≤ (A : Rat) - ((mt : Nat) : Rat) by grind) (Rat.le_of_lt hp)
      grind
    have e4 : ((mt : Nat) : Rat) * 2 ^ (1025 + n) < ((mt : Nat) : Rat) * 2 ^ (1025 + (N + 1)) := by
      rw [← e2]
      generalize (2 : Rat) ^ (1025 + n) = z at *
      generalize (2 : Rat) ^ (N + 1) = y at *
      grind
    have e5 : ((mt * 2 ^ (1025 + n) : Nat) : Rat) < ((mt * 2 ^ (1025 + (N + 1)) : Nat) : Rat) := by
      rw [Rat.natCast_mul, Rat.natCast_mul, castpow, castpow]; exact e4
    have e6 := pow_mono_lt (Nat.lt_of_mul_lt_mul_left (Rat.natCast_lt_natCast.1 e5))
    omega
  have hlow : 0 ≤ r - (((2 ^ n : Nat)) : Rat) * (2 * tau) := by
    rw [← hval, hcast, Rat.div_def]
    exact Rat.mul_nonneg (Rat.mul_nonneg (by grind) (Rat.le_of_lt hp)) (Rat.le_of_lt (Rat.inv_pos.2 hU))
  refine ⟨hnN, hq, hlow, ?_⟩
  have hpow : (2 : Rat) ^ n ≤ 2 ^ N := by
    have : ((2 ^ n : Nat) : Rat) ≤ ((2 ^ N : Nat) : Rat) := Rat.natCast_le_natCast.2 (pow_le2 n N hnN)
    rw [castpow, castpow] at this; exact this
  have htop : r - (((2 ^ n : Nat)) : Rat) * (2 * tau) < 2 * tau * 2 ^ n := by
    have k1 := Rat.mul_pos (show 0 < 2 * ((mt : Nat) : Rat) - (A : Rat) by grind) hp
    have k2 : 2 * ((mt : Nat) : Rat) * 2 ^ (1025 + n) = 2 * (2 * tau * 2 ^ n) * Un := by
      rw [hsplit]
      have : 2 * ((mt : Nat) : Rat) * (2 ^ 1025 * 2 ^ n) = 2 * (((mt : Nat) : Rat) * 2 ^ 1025) * 2 ^ n := by grind
      rw [this, hmt]; grind
    have k3 : 0 < (2 * (2 * tau * 2 ^ n) - r) * Un := by grind
    rw [castpow]
    by_cases h5 : r < 2 * (2 * tau * 2 ^ n)
    · generalize (2 : Rat) ^ n = z at *
      grind
    · exfalso
      have := Rat.mul_nonneg (show 0 ≤ r - 2 * (2 * tau * 2 ^ n) by grind) (Rat.le_of_lt hU)
      generalize (2 : Rat) ^ n = z at *
      grind
  have := Rat.mul_nonneg (show (0 : Rat) ≤ 2 * tau by grind) (show 0 ≤ (2 : Rat) ^ N - 2 ^ n by grind)
  generalize (2 : Rat) ^ n = z at *
  generalize (2 : Rat) ^ N = y at *
  grind
theorem mod_loop : ∀ (N k x : Nat) (r : Rat), N < k → N ≤ 7 → Q x r → x < 2 ^ 64 → 0 ≤ r → r < 2 * tau * 2 ^ N → r ≤ 1020 →
    ∃ y s, ∃ m : Nat, math_mod_l1 4623263855806786840 (1022 * 2 ^ 52 + 2570638124657944, 4) k x = some y ∧ Q y s ∧ y < 2 ^ 64 ∧ s = r - (m : Rat) * (2 * tau) ∧ 0 ≤ s ∧ s < 2 * tau := by
  intro N
  induction N with
  | zero =>
    intro k x r hk _ hq hx h0 h1 h2
    obtain ⟨k, rfl⟩ : ∃ j, k = j + 1 := ⟨k - 1, by omega⟩
    have hp0 : (2 : Rat) ^ 0 = 1 := by decide +kernel
    rw [hp0] at h1
    refine ⟨x, r, 0, ?_, hq, hx, by rw [cast0]; grind, h0, by grind⟩
    rw [math_mod_l1]
    unfold math_mod_l1s
    rw [fge_q hq Q_tau2, decide_eq_false (by grind), br_false]
  | succ N ih =>
    intro k x r hk hN hq hx h0 h1 h2
    obtain ⟨k, rfl⟩ : ∃ j, k = j + 1 := ⟨k - 1, by omega⟩
    by_cases hlt : r < 2 * tau
    · refine ⟨x, r, 0, ?_, hq, hx, by rw [cast0]; grind, h0, hlt⟩
      rw [math_mod_l1]
      unfold math_mod_l1s
      rw [fge_q hq Q_tau2, decide_eq_false (by grind), br_false]
    -- the fields of the number
    obtain ⟨n0, hD, hn0⟩ := hq
    have hq : Q x r := ⟨n0, hD, hn0⟩
    have hU := Un_pos
    have hfields : ∃ t F, t ≤ 6 ∧ F < 2 ^ 52 ∧ x = (1026 + t) * 2 ^ 52 + F := by
      obtain ⟨sg, mm, q, r1, r2⟩ := hD
      obtain ⟨hs, hf⟩ := read_fields hx r1
      have hval : r * Un = (if sg then -1 else 1) * ((mm : Rat) * 2 ^ q) := by
        rw [← hn0, ← signed_rat, r2]; simp
      have hmm := mag_lt (x := x) (s := sg) (m := mm) (i := (q : Int) - 1074) r1
      have hpq := un_pos q
      have hm0 : (0 : Rat) ≤ (mm : Rat) := by
        have : ((0 : Nat) : Rat) ≤ (mm : Rat) := Rat.natCast_le_natCast.2 (Nat.zero_le _)
        simpa using this
      have hprod := Rat.mul_nonneg hm0 (Rat.le_of_lt hpq)
      have hr12 : 12 ≤ r := by grind
      have hrU := Rat.mul_nonneg (show 0 ≤ r - 12 by grind) (Rat.le_of_lt hU)
      have hsg : sg = false := by
        cases sg with
        | false => rfl
        | true => exfalso; simp only [if_true] at hval; grind
      subst hsg
      simp only [Bool.false_eq_true, if_false] at hval
      -- bounds of q
      have hlo : 1025 ≤ q := by
        rcases Nat.lt_or_ge q 1025 with h5 | h5
        · exfalso
          have h9 := lt_cast mm q 53 1024 (small_q mm q 1024 hmm (Nat.le_of_lt_succ h5))
          have hs : (2 : Rat) ^ 53 * 2 ^ 1024 = 8 * Un := by
            have : (8 : Rat) = 2 ^ 3 := by decide +kernel
            rw [this]; unfold Un; rw [← ratpow_add, ← ratpow_add]
          rw [hs] at h9
          clear hs
          grind
        · exact h5
      have hnorm : 0 < x / 2 ^ 52 % 2048 ∧ x / 2 ^ 52 % 2048 < 2047 ∧ mm = 2 ^ 52 + x % 2 ^ 52 ∧ q + 1 = x / 2 ^ 52 % 2048 := by
        rcases hf with ⟨_, _, h5⟩ | h5
        · omega
        · exact h5
      obtain ⟨e1, e2, e3, e4⟩ := hnorm
      have hhi : q ≤ 1031 := by
        rcases Nat.lt_or_ge 1031 q with h5 | h5
        · exfalso
          have h9 := le_cast mm q 52 1032 (great_q mm q 1032 (by omega) h5)
          have hs : (2 : Rat) ^ 52 * 2 ^ 1032 = 1024 * Un := by
            have : (1024 : Rat) = 2 ^ 10 := by decide +kernel
            rw [this]; unfold Un; rw [← ratpow_add, ← ratpow_add]
          rw [hs] at h9
          clear hs
          have := Rat.mul_nonneg (show 0 ≤ 1020 - r by grind) (Rat.le_of_lt hU)
          grind
        · exact h5
      refine ⟨q - 1025, x % 2 ^ 52, by omega, Nat.mod_lt _ (Nat.two_pow_pos _), ?_⟩
      have hs1 : x / 2 ^ 63 = 0 := by
        rcases Nat.lt_or_ge (x / 2 ^ 63) 1 with h5 | h5
        · omega
        · have : x / 2 ^ 63 = 1 := by omega
          rw [this] at hs; simp at hs
      omega
    obtain ⟨t, F, ht, hF, hxe⟩ := hfields
    have hr8 : 8 ≤ r := by grind
    have hfr := frexp_is k t F ht hF (r := r) (by rw [← hxe]; exact hq) hr8 (by grind)
    rw [← hxe] at hfr
    have hDx : D x ((2 ^ 52 + F : Nat) : Int) (1025 + t) := by
      have h := Go.Sx.D_fields (E := 1026 + t) (F := F) (by omega) (by omega) hF (n := ((2 ^ 52 + F : Nat) : Int)) (v := 1026 + t - 1) rfl
      rw [show 1026 + t - 1 = 1025 + t from by omega, ← hxe] at h
      exact h
    have hrU : r * Un = ((2 ^ 52 + F : Nat) : Rat) * 2 ^ (1025 + t) := by
      have h5 := Q_uniq hq (Q_of hDx)
      rw [h5, Rat.intCast_natCast]
      generalize ((2 ^ 52 + F : Nat) : Rat) * 2 ^ (1025 + t) = z
      grind
    have hd1 : D (1022 * 2 ^ 52 + F) ((2 ^ 52 + F : Nat) : Int) 1021 := Go.Sx.D_fields (E := 1022) (F := F) (by omega) (by omega) hF (n := ((2 ^ 52 + F : Nat) : Int)) (v := 1021) rfl
    have hd2 : D (1022 * 2 ^ 52 + 2570638124657944) ((2 ^ 52 + 2570638124657944 : Nat) : Int) 1021 := Go.Sx.D_fields (E := 1022) (F := 2570638124657944) (by omega) (by omega) (by decide) (n := ((2 ^ 52 + 2570638124657944 : Nat) : Int)) (v := 1021) rfl
    have go : ∀ (n A : Nat), n ≤ 6 → D x (A : Int) (1025 + n) → r * Un = (A : Rat) * 2 ^ (1025 + n) → mt ≤ A → A < 2 * mt →
        ∃ y s, ∃ m : Nat, math_mod_l1 4623263855806786840 (1022 * 2 ^ 52 + 2570638124657944, 4) k (gsub x ((1026 + n) * 2 ^ 52 + 2570638124657944)) = some y ∧ Q y s ∧ y < 2 ^ 64 ∧ s = r - (m : Rat) * (2 * tau) ∧ 0 ≤ s ∧ s < 2 * tau := by
      intro n A hn6 hDA hrA hA1 hA2
      obtain ⟨g1, g2, g3, g4⟩ := step_core (N := N) hn6 hDA hrA hA1 hA2 h1
      obtain ⟨y, s, m, t1, t2, t3, t4, t5, t6⟩ := ih k _ _ (by omega) (by omega) g2 (gsub_lt _ _) g3 g4 (by
        have : (0 : Rat) ≤ (((2 ^ n : Nat)) : Rat) * (2 * tau) := by
          rw [castpow]; exact Rat.mul_nonneg (Rat.le_of_lt (un_pos n)) (by grind)
        grind)
      refine ⟨y, s, 2 ^ n + m, t1, t2, t3, ?_, t5, t6⟩
      rw [t4, Rat.natCast_add]
      grind
    have hone : ∀ (n : Nat), n ≤ 6 → (if F < 2570638124657944 then t = n + 1 else t = n) →
        math_mod_l1 4623263855806786840 (1022 * 2 ^ 52 + 2570638124657944, 4) (k + 1) x = math_mod_l1 4623263855806786840 (1022 * 2 ^ 52 + 2570638124657944, 4) k (gsub x ((1026 + n) * 2 ^ 52 + 2570638124657944)) := by
      intro n hn6 hc
      rw [math_mod_l1]
      unfold math_mod_l1s
      rw [fge_q hq Q_tau2, decide_eq_true (by grind), br_true, num_q hq, sbind, hfr, sbind]
      dsimp only
      rw [D_lt hd1 hd2]
      unfold math_mod_j6
      by_cases hlt2 : F < 2570638124657944
      · rw [if_pos hlt2] at hc
        rw [decide_eq_true (show ((2 ^ 52 + F : Nat) : Int) < ((2 ^ 52 + 2570638124657944 : Nat) : Int) by omega), br_true]
        have e1 : isub .i64 (isub .i64 ((t : Int) + 4) 1) 4 = (n : Int) := by
          rw [isub_i64 (a := (t : Int) + 4) (by omega) (by omega), isub_i64 (by omega) (by omega)]; omega
        dsimp only
        rw [e1, ldexp_is k n hn6, sbind, sbind]
      · rw [if_neg hlt2] at hc
        rw [decide_eq_false (show ¬ (((2 ^ 52 + F : Nat) : Int) < ((2 ^ 52 + 2570638124657944 : Nat) : Int)) by omega), br_false]
        have e1 : isub .i64 ((t : Int) + 4) 4 = (n : Int) := by
          rw [isub_i64 (by omega) (by omega)]; omega
        dsimp only
        rw [e1, ldexp_is k n hn6, sbind, sbind]
    by_cases hc : F < 2570638124657944
    · -- the number's digits are less than those of two pi
      have ht1 : 1 ≤ t := by
        rcases Nat.eq_zero_or_pos t with h5 | h5
        · exfalso
          rw [h5, Nat.add_zero] at hrU
          have h6 : ((2 ^ 52 + F : Nat) : Rat) ≤ ((mt : Nat) : Rat) := Rat.natCast_le_natCast.2 (by show 2 ^ 52 + F ≤ 7074237752028440; omega)
          have h7 := Rat.mul_nonneg (show 0 ≤ ((mt : Nat) : Rat) - ((2 ^ 52 + F : Nat) : Rat) by grind) (Rat.le_of_lt (un_pos 1025))
          have h9 : ((2 ^ 52 + F : Nat) : Rat) < ((mt : Nat) : Rat) := Rat.natCast_lt_natCast.2 (by show 2 ^ 52 + F < 7074237752028440; omega)
          have h10 := Rat.mul_pos (show 0 < ((mt : Nat) : Rat) - ((2 ^ 52 + F : Nat) : Rat) by grind) (un_pos 1025)
          have h8 : ((mt : Nat) : Rat) * 2 ^ 1025 = 2 * tau * Un := by rw [two_tau]; grind
          have h11 := Rat.mul_nonneg (show 0 ≤ r - 2 * tau by grind) (Rat.le_of_lt hU)
          grind
        · exact h5
      obtain ⟨n, rfl⟩ : ∃ n, t = n + 1 := ⟨t - 1, by omega⟩
      rw [hone n (by omega) (by rw [if_pos hc])]
      refine go n (2 * (2 ^ 52 + F)) (by omega) ?_ ?_ (by show 7074237752028440 ≤ 2 * (2 ^ 52 + F); omega) (by show 2 * (2 ^ 52 + F) < 2 * 7074237752028440; omega)
      · have := D.scale (x := x) (n := ((2 ^ 52 + F : Nat) : Int)) (v := 1025 + n) (w := 1) (by rw [Nat.add_assoc]; exact hDx)
        rw [show ((2 ^ 52 + F : Nat) : Int) * 2 ^ 1 = ((2 * (2 ^ 52 + F) : Nat) : Int) from by omega] at this
        exact this
      · rw [hrU, Rat.natCast_mul, show 1025 + (n + 1) = 1025 + n + 1 from rfl, ratpow_add (1025 + n) 1]
        have : (2 : Rat) ^ 1 = 2 := by decide +kernel
        have e2 : ((2 : Nat) : Rat) = 2 := rfl
        rw [this, e2]
        generalize ((2 ^ 52 + F : Nat) : Rat) = a
        generalize (2 : Rat) ^ (1025 + n) = b
        grind
    · rw [hone t ht (by rw [if_neg hc])]
      exact go t (2 ^ 52 + F) ht hDx hrU (by show 7074237752028440 ≤ 2 ^ 52 + F; omega) (by show 2 ^ 52 + F < 2 * 7074237752028440; omega)
end Go.Proofs.Ytnemkhcjmenfnaa
