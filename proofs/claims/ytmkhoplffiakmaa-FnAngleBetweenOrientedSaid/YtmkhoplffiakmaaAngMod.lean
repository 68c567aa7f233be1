/-
  The remainder of a number by two pi, for the law of the oriented angle (lines of NormMod and NormalizePositive). Ours.
-/
import Derived.Test.YtmkhoplffiakmaaAtanW
namespace Go.Proofs.Ytmkhoplffiakmaa
open Go.Sx
open Ieee (signed)
set_option linter.unusedVariables false
set_option linter.unusedSimpArgs false
set_option maxRecDepth 100000

/-! #### fields of words -/
theorem and_highA {x : Nat} (hx : x < 2 ^ 63) : x &&& 2 ^ 63 = 0 := by
  apply Nat.eq_of_testBit_eq
  intro i
  rw [Nat.testBit_and, Nat.zero_testBit]
  by_cases hi : i = 63
  · subst hi; rw [Nat.testBit_lt_two_pow hx]; rfl
  · rw [Nat.testBit_two_pow_of_ne (Ne.symm hi)]; simp
theorem iandn_expA {x : Nat} (hx : x < 2 ^ 63) : iandn .u64 (x : Int) 9218868437227405312 = ((x % 2 ^ 52 : Nat) : Int) := by
  have h1 := bv_nat64 x (by omega)
  unfold iandn
  have e3 : (BitVec.ofInt IntKind.u64.bits (x : Int) &&& ~~~ BitVec.ofInt IntKind.u64.bits 9218868437227405312).toNat = x % 2 ^ 52 := by
    show (BitVec.ofInt 64 (x : Int) &&& ~~~ BitVec.ofInt 64 9218868437227405312).toNat = _
    rw [BitVec.toNat_and, h1, show (~~~ BitVec.ofInt 64 9218868437227405312).toNat = 2 ^ 63 ||| (2 ^ 52 - 1) from by decide, Nat.and_or_distrib_left, Nat.and_two_pow_sub_one_eq_mod, and_highA hx, Nat.zero_or]
  rw [e3]; exact wrap_u64_id (by omega) (by omega)
theorem ior_lowA {F c : Nat} (hF : F < 2 ^ 52) (hc : c < 2048) : ior .u64 (F : Int) ((c * 2 ^ 52 : Nat) : Int) = ((c * 2 ^ 52 + F : Nat) : Int) := by
  have h1 := bv_nat64 F (by omega)
  have h2 := bv_nat64 (c * 2 ^ 52) (by omega)
  unfold ior
  have e3 : (BitVec.ofInt IntKind.u64.bits (F : Int) ||| BitVec.ofInt IntKind.u64.bits ((c * 2 ^ 52 : Nat) : Int)).toNat = c * 2 ^ 52 + F := by
    show (BitVec.ofInt 64 (F : Int) ||| BitVec.ofInt 64 ((c * 2 ^ 52 : Nat) : Int)).toNat = _
    rw [BitVec.toNat_or, h1, h2, Nat.or_comm, Nat.mul_comm, Nat.two_pow_add_eq_or_of_lt hF]
  rw [e3]; exact wrap_u64_id (by omega) (by omega)

/-! #### comparisons -/
theorem Q_nought : Q 0 0 := by
  have : D 0 ((0 : Int)) 1074 := D_zero 1074
  have := Q_whole this
  simpa using this

/-! #### two pi -/
abbrev tau : Rat := 7074237752028440 / 1125899906842624
theorem Q_word2 (e m : Nat) (E F : Nat) (h0 : 0 < E) (h1 : E < 2047) (hF : F < 2 ^ 52) (hE : E - 1 + e = 1074) : Q (E * 2 ^ 52 + F) (((2 ^ 52 + F : Nat) : Rat) / 2 ^ e) := by
  have h := Go.Sx.D_fields (E := E) (F := F) h0 h1 hF (n := ((2 ^ 52 + F : Nat) : Int)) (v := E - 1) rfl
  have h1 := Q_of h
  have hU := Un_pos
  have hp := un_pos e
  have hs : (2 : Rat) ^ (E - 1) * 2 ^ e = Un := by rw [← ratpow_add, hE]; rfl
  have e2 : (((2 ^ 52 + F : Nat) : Int) : Rat) * 2 ^ (E - 1) / Un = ((2 ^ 52 + F : Nat) : Rat) / 2 ^ e := by
    rw [Rat.intCast_natCast, ← hs]
    have hp2 := un_pos (E - 1)
    generalize (2 : Rat) ^ (E - 1) = z at *
    generalize (2 : Rat) ^ e = y at *
    grind
  rw [e2] at h1; exact h1
theorem Q_tau : Q 4618760256179416344 tau := by
  have := Q_word2 50 0 1025 2570638124657944 (by decide) (by decide) (by decide) (by decide)
  have e1 : (((2 ^ 52 + 2570638124657944 : Nat) : Rat)) = 7074237752028440 := rfl
  have e2 : (2 : Rat) ^ 50 = 1125899906842624 := by decide +kernel
  rw [e1, e2] at this; exact this
theorem Q_tau2 : Q 4623263855806786840 (2 * tau) := by
  have := Q_word2 49 0 1026 2570638124657944 (by decide) (by decide) (by decide) (by decide)
  have e1 : (((2 ^ 52 + 2570638124657944 : Nat) : Rat)) = 7074237752028440 := rfl
  have e2 : (2 : Rat) ^ 49 = 562949953421312 := by decide +kernel
  rw [e1, e2] at this
  have e3 : (2 : Rat) * tau = 7074237752028440 / 562949953421312 := by grind
  rw [e3]; exact this
theorem Q_least30 : Q 4472074429978902528 (1 / 1073741824) := by
  have := Q_word2 82 0 993 0 (by decide) (by decide) (by decide) (by decide)
  have e1 : (((2 ^ 52 + 0 : Nat) : Rat)) = 4503599627370496 := rfl
  have e2 : (2 : Rat) ^ 82 = 4503599627370496 * 1073741824 := by decide +kernel
  rw [e1, e2] at this
  have e3 : (1 : Rat) / 1073741824 = 4503599627370496 / (4503599627370496 * 1073741824) := by grind
  rw [e3]; exact this
theorem Q_greatest : ∃ g : Rat, Q 9218868437227405311 g ∧ 4000 ≤ g := by
  have h := Go.Sx.D_fields (E := 2046) (F := 4503599627370495) (by decide) (by decide) (by decide) (n := ((2 ^ 52 + 4503599627370495 : Nat) : Int)) (v := 2045) rfl
  have h1 := Q_of h
  refine ⟨_, h1, ?_⟩
  have hU := Un_pos
  have hs : (2 : Rat) ^ 2045 = 2 ^ 971 * Un := by
    unfold Un; rw [← ratpow_add]
  have h9 := one_le_pow 971
  have e1 : (((2 ^ 52 + 4503599627370495 : Nat) : Int) : Rat) = 9007199254740991 := rfl
  rw [e1, hs]
  have e2 : (9007199254740991 : Rat) * (2 ^ 971 * Un) / Un = 9007199254740991 * 2 ^ 971 := by
    generalize (2 : Rat) ^ 971 = z
    grind
  rw [e2]
  generalize (2 : Rat) ^ 971 = z at h9 ⊢
  grind
theorem isnan_is {k x : Nat} {r : Rat} (h : Q x r) : math_IsNaN k x = some false := by
  obtain ⟨n, h1, _⟩ := h
  unfold math_IsNaN
  rw [D_ne h1 h1]; simp
theorem isinf_is {k x : Nat} {r : Rat} (hx : x < 2 ^ 64) (h : Q x r) (h1 : -3000 ≤ r) (h2 : r ≤ 3000) : math_IsInf k x 0 = some false := by
  obtain ⟨A, qA, A0, hA⟩ := Q_abs hx h
  obtain ⟨g, qg, hg⟩ := Q_greatest
  unfold math_IsInf math_IsInf_j1
  rw [show decide ((0 : Int) = 0) = true from rfl, br_true, abs_is k x hx, sbind, fgt_q qA qg, decide_eq_false (by rcases hA with e | e <;> grind)]

/-! #### Frexp of the numbers that are met -/
theorem frexp_isA (k t F : Nat) (ht : t ≤ 6) (hF : F < 2 ^ 52) {r : Rat} (hq : Q ((1026 + t) * 2 ^ 52 + F) r) (h1 : 8 ≤ r) (h2 : r ≤ 3000) : math_Frexp k ((1026 + t) * 2 ^ 52 + F) = some (1022 * 2 ^ 52 + F, (t : Int) + 4) := by
  obtain ⟨x, hx⟩ : ∃ x, (1026 + t) * 2 ^ 52 + F = x := ⟨_, rfl⟩
  rw [hx] at hq ⊢
  have hx63 : x < 2 ^ 63 := by omega
  have hx64 : x < 2 ^ 64 := by omega
  have hE : x / 2 ^ 52 = 1026 + t := by omega
  have hm : x % 2 ^ 52 = F := by omega
  have hmod : x % 2 ^ 63 = x := Nat.mod_eq_of_lt hx63
  unfold math_Frexp math_frexp
  rw [feq_q hq Q_nought, decide_eq_false (by grind), br_false, isinf_is hx64 hq (by grind) h2, sbind, br_false, isnan_is hq, sbind]
  unfold math_frexp_j1
  rw [br_false]
  unfold math_normalize
  rw [abs_is k x hx64, sbind, hmod]
  have hsm : Q 4503599627370496 (Un⁻¹ * (4503599627370496 : Rat)) := by
    have h := Go.Sx.D_fields (E := 1) (F := 0) (by decide) (by decide) (by decide) (n := 4503599627370496) (v := 0) rfl
    have h1 := Q_of h
    have hU := Un_pos
    have hp0 : (2 : Rat) ^ 0 = 1 := by decide +kernel
    have e1 : ((4503599627370496 : Int) : Rat) = 4503599627370496 := rfl
    rw [hp0, e1] at h1
    have e2 : (4503599627370496 : Rat) * 1 / Un = Un⁻¹ * 4503599627370496 := by grind
    rw [e2] at h1; exact h1
  have hlt : ¬ (r < Un⁻¹ * (4503599627370496 : Rat)) := by
    have hU := Un_pos
    have hB := Un_big
    intro h
    have h3 := Rat.mul_pos (show 0 < Un⁻¹ * (4503599627370496 : Rat) - r by grind) hU
    have h4 : Un⁻¹ * Un = 1 := by grind
    have h5 := Rat.mul_nonneg (show 0 ≤ r - 8 by grind) (Rat.le_of_lt hU)
    grind
  rw [flt_q hq hsm, decide_eq_false hlt, br_false, sbind]
  dsimp only
  rw [num_q hq, sbind]
  have r52 : ishr .u64 (fbits x) 52 = some ((1026 + t : Nat) : Int) := by
    have := ishr_u64 (a := (x : Int)) (n := 52) (by omega) (by omega) (by omega)
    rw [show fbits x = (x : Int) from rfl, show (52 : Int) = ((52 : Nat) : Int) from rfl, this]
    congr 1
    rw [show ((2 : Int) ^ 52) = ((2 ^ 52 : Nat) : Int) from rfl, ← Int.natCast_ediv, hE]
  rw [r52, sbind]
  have iE : iand .u64 ((1026 + t : Nat) : Int) 2047 = ((1026 + t : Nat) : Int) := by
    have := iand_mask (a := 1026 + t) (t := 11) (by omega) (by omega)
    rw [Nat.mod_eq_of_lt (by omega)] at this
    exact this
  have cE : icv .i64 ((1026 + t : Nat) : Int) = ((1026 + t : Nat) : Int) := icv_i64 (by omega) (by omega)
  have f1 : iandn .u64 (fbits x) 9218868437227405312 = (F : Int) := by
    rw [show fbits x = (x : Int) from rfl, iandn_expA hx63, hm]
  have f2 : ior .u64 (F : Int) 4602678819172646912 = ((1022 * 2 ^ 52 + F : Nat) : Int) := by
    have := ior_lowA (F := F) (c := 1022) hF (by omega)
    exact this
  rw [iE, cE, f1, f2]
  have g1 : isub .i64 ((1026 + t : Nat) : Int) 1023 = ((3 + t : Nat) : Int) := by rw [isub_i64 (by omega) (by omega)]; omega
  have g2 : iadd .i64 ((3 + t : Nat) : Int) 1 = ((4 + t : Nat) : Int) := by rw [iadd_i64 (by omega) (by omega)]; omega
  have g3 : iadd .i64 0 ((4 + t : Nat) : Int) = (t : Int) + 4 := by rw [iadd_i64 (by omega) (by omega)]; omega
  rw [g1, g2, g3, sbind]
  rfl
theorem ldexp_isA (k n : Nat) (hn : n ≤ 6) : math_Ldexp k 4623263855806786840 (n : Int) = some ((1026 + n) * 2 ^ 52 + 2570638124657944) := by
  match n, hn with
  | 0, _ => rfl
  | 1, _ => rfl
  | 2, _ => rfl
  | 3, _ => rfl
  | 4, _ => rfl
  | 5, _ => rfl
  | 6, _ => rfl

/-! #### Mod -/
abbrev mt : Nat := 7074237752028440
theorem two_tau : 2 * tau = (mt : Rat) * 2 ^ 1025 / Un := by
  have hU := Un_pos
  have hs : (2 : Rat) ^ 1025 * 562949953421312 = Un := by
    have : (562949953421312 : Rat) = 2 ^ 49 := by decide +kernel
    rw [this, ← ratpow_add]; rfl
  have e1 : ((mt : Nat) : Rat) = 7074237752028440 := rfl
  rw [e1]
  generalize (2 : Rat) ^ 1025 = z at *
  rw [← hs] at hU ⊢
  grind
theorem cast0A : (((0 : Nat)) : Rat) = 0 := by simp
theorem small_qA (m q e : Nat) (hm : m < 2 ^ 53) (hq : q ≤ e) : m * 2 ^ q < 2 ^ 53 * 2 ^ e :=
  Nat.lt_of_le_of_lt (Nat.mul_le_mul_left _ (pow_le2 q e hq)) (Nat.mul_lt_mul_of_pos_right hm (Nat.two_pow_pos _))
theorem great_qA (m q e : Nat) (hm : 2 ^ 52 ≤ m) (hq : e ≤ q) : 2 ^ 52 * 2 ^ e ≤ m * 2 ^ q := Nat.mul_le_mul hm (pow_le2 e q hq)
theorem lt_castA (m q a e : Nat) (h : m * 2 ^ q < 2 ^ a * 2 ^ e) : (m : Rat) * 2 ^ q < 2 ^ a * 2 ^ e := by
  have h9 : ((m * 2 ^ q : Nat) : Rat) < ((2 ^ a * 2 ^ e : Nat) : Rat) := Rat.natCast_lt_natCast.2 h
  rw [Rat.natCast_mul, Rat.natCast_mul, castpow, castpow, castpow] at h9
  exact h9
theorem le_castA (m q a e : Nat) (h : 2 ^ a * 2 ^ e ≤ m * 2 ^ q) : (2 : Rat) ^ a * 2 ^ e ≤ (m : Rat) * 2 ^ q := by
  have h9 : ((2 ^ a * 2 ^ e : Nat) : Rat) ≤ ((m * 2 ^ q : Nat) : Rat) := Rat.natCast_le_natCast.2 h
  rw [Rat.natCast_mul, Rat.natCast_mul, castpow, castpow, castpow] at h9
  exact h9
theorem pow_mono_ltA {a b : Nat} (h : 2 ^ a < 2 ^ b) : a < b := (Nat.pow_lt_pow_iff_right (a := 2) (by omega)).1 h
theorem D_wn (n : Nat) (hn : n ≤ 6) : D ((1026 + n) * 2 ^ 52 + 2570638124657944) ((mt : Nat) : Int) (1025 + n) := by
  have h := Go.Sx.D_fields (E := 1026 + n) (F := 2570638124657944) (by omega) (by omega) (by decide) (n := ((2 ^ 52 + 2570638124657944 : Nat) : Int)) (v := 1026 + n - 1) rfl
  rw [show 1026 + n - 1 = 1025 + n from by omega] at h
  exact h
theorem step_core {n N x A : Nat} {r : Rat} (hn : n ≤ 6) (hD : D x (A : Int) (1025 + n)) (hr : r * Un = (A : Rat) * 2 ^ (1025 + n)) (h1 : mt ≤ A) (h2 : A < 2 * mt) (hN : r < 2 * tau * 2 ^ (N + 1)) :
    n ≤ N ∧ Q (gsub x ((1026 + n) * 2 ^ 52 + 2570638124657944)) (r - (((2 ^ n : Nat)) : Rat) * (2 * tau)) ∧ 0 ≤ r - (((2 ^ n : Nat)) : Rat) * (2 * tau) ∧ r - (((2 ^ n : Nat)) : Rat) * (2 * tau) < 2 * tau * 2 ^ N := by
  have hU := Un_pos
  have h1' : 7074237752028440 ≤ A := h1
  have h2' : A < 2 * 7074237752028440 := h2
  have hsub := gsub_D hD (D_wn n hn) (c := ((A - mt : Nat) : Int)) (by show (A : Int) - ((7074237752028440 : Nat) : Int) = ((A - 7074237752028440 : Nat) : Int); omega) (by show ((A - 7074237752028440 : Nat) : Int).natAbs ≤ 2 ^ 53; omega) (by omega)
  have hq := Q_of hsub
  have h1r : ((mt : Nat) : Rat) ≤ (A : Rat) := Rat.natCast_le_natCast.2 h1
  have h2r : (A : Rat) < 2 * ((mt : Nat) : Rat) := by
    have : ((A : Nat) : Rat) < ((2 * mt : Nat) : Rat) := Rat.natCast_lt_natCast.2 h2
    rw [Rat.natCast_mul] at this; exact this
  have hp := un_pos (1025 + n)
  have hpn := un_pos n
  have hsplit : (2 : Rat) ^ (1025 + n) = 2 ^ 1025 * 2 ^ n := ratpow_add _ _
  have hmt : ((mt : Nat) : Rat) * 2 ^ 1025 = 2 * tau * Un := by rw [two_tau]; grind
  have hcast : (((A - mt : Nat) : Int) : Rat) = (A : Rat) - ((mt : Nat) : Rat) := by
    rw [show ((A - mt : Nat) : Int) = (A : Int) - ((mt : Nat) : Int) from by omega, Rat.intCast_sub, Rat.intCast_natCast, Rat.intCast_natCast]
  have hval : (((A - mt : Nat) : Int) : Rat) * 2 ^ (1025 + n) / Un = r - (((2 ^ n : Nat)) : Rat) * (2 * tau) := by
    rw [hcast, castpow]
    have e1 : ((A : Rat) - ((mt : Nat) : Rat)) * 2 ^ (1025 + n) = r * Un - 2 * tau * Un * 2 ^ n := by
      rw [hr, ← hmt, hsplit]; grind
    rw [e1]
    generalize (2 : Rat) ^ n = z
    grind
  rw [hval] at hq
  have hnN : n ≤ N := by
    have hNU := Rat.mul_pos (show 0 < 2 * tau * 2 ^ (N + 1) - r by grind) hU
    have e2 : 2 * tau * 2 ^ (N + 1) * Un = ((mt : Nat) : Rat) * 2 ^ (1025 + (N + 1)) := by rw [ratpow_add 1025, ← Rat.mul_assoc, hmt]; grind
    have e3 : ((mt : Nat) : Rat) * 2 ^ (1025 + n) ≤ r * Un := by
      rw [hr]
      have := Rat.mul_nonneg (show 0 ≤ (A : Rat) - ((mt : Nat) : Rat) by grind) (Rat.le_of_lt hp)
      grind
    have e4 : ((mt : Nat) : Rat) * 2 ^ (1025 + n) < ((mt : Nat) : Rat) * 2 ^ (1025 + (N + 1)) := by
      rw [← e2]
      generalize (2 : Rat) ^ (1025 + n) = z at *
      generalize (2 : Rat) ^ (N + 1) = y at *
      grind
    have e5 : ((mt * 2 ^ (1025 + n) : Nat) : Rat) < ((mt * 2 ^ (1025 + (N + 1)) : Nat) : Rat) := by
      rw [Rat.natCast_mul, Rat.natCast_mul, castpow, castpow]; exact e4
    have e6 := pow_mono_ltA (Nat.lt_of_mul_lt_mul_left (Rat.natCast_lt_natCast.1 e5))
    omega
  have hlow : 0 ≤ r - (((2 ^ n : Nat)) : Rat) * (2 * tau) := by
    rw [← hval, hcast, Rat.div_def]
    exact Rat.mul_nonneg (Rat.mul_nonneg (by grind) (Rat.le_of_lt hp)) (Rat.le_of_lt (Rat.inv_pos.2 hU))
  refine ⟨hnN, hq, hlow, ?_⟩
  have hpow : (2 : Rat) ^ n ≤ 2 ^ N := by
    have : ((2 ^ n : Nat) : Rat) ≤ ((2 ^ N : Nat) : Rat) := Rat.natCast_le_natCast.2 (pow_le2 n N hnN)
    rw [castpow, castpow] at this; exact this
  have htop : r - (((2 ^ n : Nat)) : Rat) * (2 * tau) < 2 * tau * 2 ^ n := by
    have k1 := Rat.mul_pos (show 0 < 2 * ((mt : Nat) : Rat) - (A : Rat) by grind) hp
    have k2 : 2 * ((mt : Nat) : Rat) * 2 ^ (1025 + n) = 2 * (2 * tau * 2 ^ n) * Un := by
      rw [hsplit]
      have : 2 * ((mt : Nat) : Rat) * (2 ^ 1025 * 2 ^ n) = 2 * (((mt : Nat) : Rat) * 2 ^ 1025) * 2 ^ n := by grind
      rw [this, hmt]; grind
    have k3 : 0 < (2 * (2 * tau * 2 ^ n) - r) * Un := by grind
    rw [castpow]
    by_cases h5 : r < 2 * (2 * tau * 2 ^ n)
    · generalize (2 : Rat) ^ n = z at *
      grind
    · exfalso
      have := Rat.mul_nonneg (show 0 ≤ r - 2 * (2 * tau * 2 ^ n) by grind) (Rat.le_of_lt hU)
      generalize (2 : Rat) ^ n = z at *
      grind
  have := Rat.mul_nonneg (show (0 : Rat) ≤ 2 * tau by grind) (show 0 ≤ (2 : Rat) ^ N - 2 ^ n by grind)
  generalize (2 : Rat) ^ n = z at *
  generalize (2 : Rat) ^ N = y at *
  grind
theorem mod_loop : ∀ (N k x : Nat) (r : Rat), N < k → N ≤ 7 → Q x r → x < 2 ^ 64 → 0 ≤ r → r < 2 * tau * 2 ^ N → r ≤ 1020 →
    ∃ y s, ∃ m : Nat, math_mod_l1 4623263855806786840 (1022 * 2 ^ 52 + 2570638124657944, 4) k x = some y ∧ Q y s ∧ y < 2 ^ 64 ∧ s = r - (m : Rat) * (2 * tau) ∧ 0 ≤ s ∧ s < 2 * tau := by
  intro N
  induction N with
  | zero =>
    intro k x r hk _ hq hx h0 h1 h2
    obtain ⟨k, rfl⟩ : ∃ j, k = j + 1 := ⟨k - 1, by omega⟩
    have hp0 : (2 : Rat) ^ 0 = 1 := by decide +kernel
    rw [hp0] at h1
    refine ⟨x, r, 0, ?_, hq, hx, by rw [cast0A]; grind, h0, by grind⟩
    rw [math_mod_l1]
    unfold math_mod_l1s
    rw [fge_q hq Q_tau2, decide_eq_false (by grind), br_false]
  | succ N ih =>
    intro k x r hk hN hq hx h0 h1 h2
    obtain ⟨k, rfl⟩ : ∃ j, k = j + 1 := ⟨k - 1, by omega⟩
    by_cases hlt : r < 2 * tau
    · refine ⟨x, r, 0, ?_, hq, hx, by rw [cast0A]; grind, h0, hlt⟩
      rw [math_mod_l1]
      unfold math_mod_l1s
      rw [fge_q hq Q_tau2, decide_eq_false (by grind), br_false]
    -- the fields of the number
    obtain ⟨n0, hD, hn0⟩ := hq
    have hq : Q x r := ⟨n0, hD, hn0⟩
    have hU := Un_pos
    have hfields : ∃ t F, t ≤ 6 ∧ F < 2 ^ 52 ∧ x = (1026 + t) * 2 ^ 52 + F := by
      obtain ⟨sg, mm, q, r1, r2⟩ := hD
      obtain ⟨hs, hf⟩ := read_fields hx r1
      have hval : r * Un = (if sg then -1 else 1) * ((mm : Rat) * 2 ^ q) := by
        rw [← hn0, ← signed_rat, r2]; simp
      have hmm := mag_lt (x := x) (s := sg) (m := mm) (i := (q : Int) - 1074) r1
      have hpq := un_pos q
      have hm0 : (0 : Rat) ≤ (mm : Rat) := by
        have : ((0 : Nat) : Rat) ≤ (mm : Rat) := Rat.natCast_le_natCast.2 (Nat.zero_le _)
        simpa using this
      have hprod := Rat.mul_nonneg hm0 (Rat.le_of_lt hpq)
      have hr12 : 12 ≤ r := by grind
      have hrU := Rat.mul_nonneg (show 0 ≤ r - 12 by grind) (Rat.le_of_lt hU)
      have hsg : sg = false := by
        cases sg with
        | false => rfl
        | true => exfalso; simp only [if_true] at hval; grind
      subst hsg
      simp only [Bool.false_eq_true, if_false] at hval
      -- bounds of q
      have hlo : 1025 ≤ q := by
        rcases Nat.lt_or_ge q 1025 with h5 | h5
        · exfalso
          have h9 := lt_castA mm q 53 1024 (small_qA mm q 1024 hmm (Nat.le_of_lt_succ h5))
          have hs : (2 : Rat) ^ 53 * 2 ^ 1024 = 8 * Un := by
            have : (8 : Rat) = 2 ^ 3 := by decide +kernel
            rw [this]; unfold Un; rw [← ratpow_add, ← ratpow_add]
          rw [hs] at h9
          clear hs
          grind
        · exact h5
      have hnorm : 0 < x / 2 ^ 52 % 2048 ∧ x / 2 ^ 52 % 2048 < 2047 ∧ mm = 2 ^ 52 + x % 2 ^ 52 ∧ q + 1 = x / 2 ^ 52 % 2048 := by
        rcases hf with ⟨_, _, h5⟩ | h5
        · omega
        · exact h5
      obtain ⟨e1, e2, e3, e4⟩ := hnorm
      have hhi : q ≤ 1031 := by
        rcases Nat.lt_or_ge 1031 q with h5 | h5
        · exfalso
          have h9 := le_castA mm q 52 1032 (great_qA mm q 1032 (by omega) h5)
          have hs : (2 : Rat) ^ 52 * 2 ^ 1032 = 1024 * Un := by
            have : (1024 : Rat) = 2 ^ 10 := by decide +kernel
            rw [this]; unfold Un; rw [← ratpow_add, ← ratpow_add]
          rw [hs] at h9
          clear hs
          have := Rat.mul_nonneg (show 0 ≤ 1020 - r by grind) (Rat.le_of_lt hU)
          grind
        · exact h5
      refine ⟨q - 1025, x % 2 ^ 52, by omega, Nat.mod_lt _ (Nat.two_pow_pos _), ?_⟩
      have hs1 : x / 2 ^ 63 = 0 := by
        rcases Nat.lt_or_ge (x / 2 ^ 63) 1 with h5 | h5
        · omega
        · have : x / 2 ^ 63 = 1 := by omega
          rw [this] at hs; simp at hs
      omega
    obtain ⟨t, F, ht, hF, hxe⟩ := hfields
    have hr8 : 8 ≤ r := by grind
    have hfr := frexp_isA k t F ht hF (r := r) (by rw [← hxe]; exact hq) hr8 (by grind)
    rw [← hxe] at hfr
    have hDx : D x ((2 ^ 52 + F : Nat) : Int) (1025 + t) := by
      have h := Go.Sx.D_fields (E := 1026 + t) (F := F) (by omega) (by omega) hF (n := ((2 ^ 52 + F : Nat) : Int)) (v := 1026 + t - 1) rfl
      rw [show 1026 + t - 1 = 1025 + t from by omega, ← hxe] at h
      exact h
    have hrU : r * Un = ((2 ^ 52 + F : Nat) : Rat) * 2 ^ (1025 + t) := by
      have h5 := Q_uniq hq (Q_of hDx)
      rw [h5, Rat.intCast_natCast]
      generalize ((2 ^ 52 + F : Nat) : Rat) * 2 ^ (1025 + t) = z
      grind
    have hd1 : D (1022 * 2 ^ 52 + F) ((2 ^ 52 + F : Nat) : Int) 1021 := Go.Sx.D_fields (E := 1022) (F := F) (by omega) (by omega) hF (n := ((2 ^ 52 + F : Nat) : Int)) (v := 1021) rfl
    have hd2 : D (1022 * 2 ^ 52 + 2570638124657944) ((2 ^ 52 + 2570638124657944 : Nat) : Int) 1021 := Go.Sx.D_fields (E := 1022) (F := 2570638124657944) (by omega) (by omega) (by decide) (n := ((2 ^ 52 + 2570638124657944 : Nat) : Int)) (v := 1021) rfl
    have go : ∀ (n A : Nat), n ≤ 6 → D x (A : Int) (1025 + n) → r * Un = (A : Rat) * 2 ^ (1025 + n) → mt ≤ A → A < 2 * mt →
        ∃ y s, ∃ m : Nat, math_mod_l1 4623263855806786840 (1022 * 2 ^ 52 + 2570638124657944, 4) k (gsub x ((1026 + n) * 2 ^ 52 + 2570638124657944)) = some y ∧ Q y s ∧ y < 2 ^ 64 ∧ s = r - (m : Rat) * (2 * tau) ∧ 0 ≤ s ∧ s < 2 * tau := by
      intro n A hn6 hDA hrA hA1 hA2
      obtain ⟨g1, g2, g3, g4⟩ := step_core (N := N) hn6 hDA hrA hA1 hA2 h1
      obtain ⟨y, s, m, t1, t2, t3, t4, t5, t6⟩ := ih k _ _ (by omega) (by omega) g2 (gsub_lt _ _) g3 g4 (by
        have : (0 : Rat) ≤ (((2 ^ n : Nat)) : Rat) * (2 * tau) := by
          rw [castpow]; exact Rat.mul_nonneg (Rat.le_of_lt (un_pos n)) (by grind)
        grind)
      refine ⟨y, s, 2 ^ n + m, t1, t2, t3, ?_, t5, t6⟩
      rw [t4, Rat.natCast_add]
      grind
    have hone : ∀ (n : Nat), n ≤ 6 → (if F < 2570638124657944 then t = n + 1 else t = n) →
        math_mod_l1 4623263855806786840 (1022 * 2 ^ 52 + 2570638124657944, 4) (k + 1) x = math_mod_l1 4623263855806786840 (1022 * 2 ^ 52 + 2570638124657944, 4) k (gsub x ((1026 + n) * 2 ^ 52 + 2570638124657944)) := by
      intro n hn6 hc
      rw [math_mod_l1]
      unfold math_mod_l1s
      rw [fge_q hq Q_tau2, decide_eq_true (by grind), br_true, num_q hq, sbind, hfr, sbind]
      dsimp only
      rw [D_lt hd1 hd2]
      unfold math_mod_j6
      by_cases hlt2 : F < 2570638124657944
      · rw [if_pos hlt2] at hc
        rw [decide_eq_true (show ((2 ^ 52 + F : Nat) : Int) < ((2 ^ 52 + 2570638124657944 : Nat) : Int) by omega), br_true]
        have e1 : isub .i64 (isub .i64 ((t : Int) + 4) 1) 4 = (n : Int) := by
          rw [isub_i64 (a := (t : Int) + 4) (by omega) (by omega), isub_i64 (by omega) (by omega)]; omega
        dsimp only
        rw [e1, ldexp_isA k n hn6, sbind, sbind]
      · rw [if_neg hlt2] at hc
        rw [decide_eq_false (show ¬ (((2 ^ 52 + F : Nat) : Int) < ((2 ^ 52 + 2570638124657944 : Nat) : Int)) by omega), br_false]
        have e1 : isub .i64 ((t : Int) + 4) 4 = (n : Int) := by
          rw [isub_i64 (by omega) (by omega)]; omega
        dsimp only
        rw [e1, ldexp_isA k n hn6, sbind, sbind]
    by_cases hc : F < 2570638124657944
    · -- the number's digits are less than those of two pi
      have ht1 : 1 ≤ t := by
        rcases Nat.eq_zero_or_pos t with h5 | h5
        · exfalso
          rw [h5, Nat.add_zero] at hrU
          have h6 : ((2 ^ 52 + F : Nat) : Rat) ≤ ((mt : Nat) : Rat) := Rat.natCast_le_natCast.2 (by show 2 ^ 52 + F ≤ 7074237752028440; omega)
          have h7 := Rat.mul_nonneg (show 0 ≤ ((mt : Nat) : Rat) - ((2 ^ 52 + F : Nat) : Rat) by grind) (Rat.le_of_lt (un_pos 1025))
          have h9 : ((2 ^ 52 + F : Nat) : Rat) < ((mt : Nat) : Rat) := Rat.natCast_lt_natCast.2 (by show 2 ^ 52 + F < 7074237752028440; omega)
          have h10 := Rat.mul_pos (show 0 < ((mt : Nat) : Rat) - ((2 ^ 52 + F : Nat) : Rat) by grind) (un_pos 1025)
          have h8 : ((mt : Nat) : Rat) * 2 ^ 1025 = 2 * tau * Un := by rw [two_tau]; grind
          have h11 := Rat.mul_nonneg (show 0 ≤ r - 2 * tau by grind) (Rat.le_of_lt hU)
          grind
        · exact h5
      obtain ⟨n, rfl⟩ : ∃ n, t = n + 1 := ⟨t - 1, by omega⟩
      rw [hone n (by omega) (by rw [if_pos hc])]
      refine go n (2 * (2 ^ 52 + F)) (by omega) ?_ ?_ (by show 7074237752028440 ≤ 2 * (2 ^ 52 + F); omega) (by show 2 * (2 ^ 52 + F) < 2 * 7074237752028440; omega)
      · have := D.scale (x := x) (n := ((2 ^ 52 + F : Nat) : Int)) (v := 1025 + n) (w := 1) (by rw [Nat.add_assoc]; exact hDx)
        rw [show ((2 ^ 52 + F : Nat) : Int) * 2 ^ 1 = ((2 * (2 ^ 52 + F) : Nat) : Int) from by omega] at this
        exact this
      · rw [hrU, Rat.natCast_mul, show 1025 + (n + 1) = 1025 + n + 1 from rfl, ratpow_add (1025 + n) 1]
        have : (2 : Rat) ^ 1 = 2 := by decide +kernel
        have e2 : ((2 : Nat) : Rat) = 2 := rfl
        rw [this, e2]
        generalize ((2 ^ 52 + F : Nat) : Rat) = a
        generalize (2 : Rat) ^ (1025 + n) = b
        grind
    · rw [hone t ht (by rw [if_neg hc])]
      exact go t (2 ^ 52 + F) ht hDx hrU (by show 7074237752028440 ≤ 2 ^ 52 + F; omega) (by show 2 ^ 52 + F < 2 * 7074237752028440; omega)
/-! #### the remainder -/
theorem frexp_tau (k : Nat) : math_Frexp k 4623263855806786840 = some (1022 * 2 ^ 52 + 2570638124657944, 4) := rfl
theorem mod_is {k x : Nat} {r : Rat} (hk : 100 < k) (hq : Q x r) (hx : x < 2 ^ 64) (h0 : 0 ≤ r) (h1 : r ≤ 1020) :
    ∃ y s, ∃ m : Nat, math_Mod k x 4623263855806786840 = some y ∧ Q y s ∧ y < 2 ^ 64 ∧ s = r - (m : Rat) * (2 * tau) ∧ 0 ≤ s ∧ s < 2 * tau := by
  have hp : (2 : Rat) ^ 7 = 128 := by decide +kernel
  obtain ⟨y, s, m, t1, t2, t3, t4, t5, t6⟩ := mod_loop 7 k x r (by omega) (by omega) hq hx h0 (by rw [hp]; grind) h1
  refine ⟨y, s, m, ?_, t2, t3, t4, t5, t6⟩
  unfold math_Mod math_mod
  rw [feq_q Q_tau2 Q_nought, decide_eq_false (by grind), br_false, isinf_is hx hq (by grind) (by grind), sbind]
  unfold math_mod_j1
  rw [br_false, isnan_is hq, sbind]
  unfold math_mod_j2
  rw [br_false, isnan_is Q_tau2, sbind]
  unfold math_mod_j3
  rw [br_false, abs_is k 4623263855806786840 (by decide), sbind, show 4623263855806786840 % 2 ^ 63 = 4623263855806786840 from by decide, frexp_tau, sbind, flt_q hq Q_nought, decide_eq_false (by grind), br_false]
  unfold math_mod_j4
  rw [t1, sbind, flt_q hq Q_nought, decide_eq_false (by grind), br_false]
  rfl
theorem Q_pi : Q 4614256656552045848 (tau / 2) := by
  have := Q_word2 51 0 1024 2570638124657944 (by decide) (by decide) (by decide) (by decide)
  have e1 : (((2 ^ 52 + 2570638124657944 : Nat) : Rat)) = 7074237752028440 := rfl
  have e2 : (2 : Rat) ^ 51 = 2251799813685248 := by decide +kernel
  rw [e1, e2] at this
  have e3 : tau / 2 = 7074237752028440 / 2251799813685248 := by grind
  rw [e3]; exact this
abbrev eta : Rat := 1 / 8589934592
theorem j7_is {k x : Nat} {s : Rat} (sg : Bool) (hq : Q x s) (hx : x < 2 ^ 64) (h : Sm s (4 * eta)) : ∃ y s', math_remainder_j7 k sg x = some y ∧ Q y s' ∧ y < 2 ^ 64 ∧ Sm s' (4 * eta) := by
  obtain ⟨h1, h2⟩ := h
  cases sg with
  | false => exact ⟨x, s, rfl, hq, hx, h1, h2⟩
  | true =>
    have e : fneg x = x ^^^ 2 ^ 63 := rfl
    exact ⟨fneg x, -s, rfl, Q_fneg hx hq, by rw [e]; exact Nat.xor_lt_two_pow hx (by decide), by grind, by grind⟩
theorem int_rat {i : Int} {c : Int} (h : i ≤ c) : (i : Rat) ≤ (c : Rat) := Rat.intCast_le_intCast.2 h
theorem j6_is {k x : Nat} {s : Rat} {i : Int} (sg : Bool) (hq : Q x s) (hx : x < 2 ^ 64) (h0 : 0 ≤ s) (h1 : s < 2 * tau) (h : Sm (s - (i : Rat) * tau) eta) :
    ∃ y s', math_remainder_j6 k 4618760256179416344 sg x = some y ∧ Q y s' ∧ y < 2 ^ 64 ∧ Sm s' (4 * eta) := by
  obtain ⟨g1, g2⟩ := h
  have i0 : 0 ≤ i := by
    by_cases hi : 0 ≤ i
    · exact hi
    · exfalso
      have h3 := int_rat (show i ≤ -1 by omega)
      have e : ((-1 : Int) : Rat) = -1 := by simp
      rw [e] at h3
      have := Rat.mul_nonneg (show 0 ≤ -1 - (i : Rat) by grind) (show (0 : Rat) ≤ tau by grind)
      grind
  have i2 : i ≤ 2 := by
    by_cases hi : i ≤ 2
    · exact hi
    · exfalso
      have h3 := int_rat (show 3 ≤ i by omega)
      have e : ((3 : Int) : Rat) = 3 := by simp
      rw [e] at h3
      have := Rat.mul_nonneg (show 0 ≤ (i : Rat) - 3 by grind) (show (0 : Rat) ≤ tau by grind)
      grind
  unfold math_remainder_j6
  have e0 : flt 4618760256179416344 9007199254740992 = false := by rfl
  have e1 : gmul 4602678819172646912 4618760256179416344 = 4614256656552045848 := by rfl
  rw [e0, br_false, sbind, e1, fgt_q hq Q_pi]
  have hi : i = 0 ∨ i = 1 ∨ i = 2 := by omega
  rcases hi with rfl | rfl | rfl
  · have e : ((0 : Int) : Rat) = 0 := by simp
    rw [e] at g1 g2
    rw [decide_eq_false (by grind), br_false]
    exact j7_is sg hq hx ⟨by grind, by grind⟩
  · have e : ((1 : Int) : Rat) = 1 := by simp
    rw [e] at g1 g2
    obtain ⟨e2, q2, s2⟩ := gsub_full hq Q_tau (by constructor <;> grind)
    have s3 := sm_mul (show Sm (s - tau) eta from ⟨by grind, by grind⟩) s2
    obtain ⟨s4, s5⟩ := s3
    rw [decide_eq_true (by grind), br_true, sbind, fge_q q2 Q_pi, decide_eq_false (by grind), br_false]
    exact j7_is sg q2 (gsub_lt _ _) ⟨by grind, by grind⟩
  · have e : ((2 : Int) : Rat) = 2 := by simp
    rw [e] at g1 g2
    obtain ⟨e2, q2, s2⟩ := gsub_full hq Q_tau (by constructor <;> grind)
    have s3 := sm_mul (show Sm (s - tau) 8 from ⟨by grind, by grind⟩) s2
    obtain ⟨s4, s5⟩ := s3
    have e3 : (s - tau) * (1 + e2) = s - tau + (s - tau) * e2 := by grind
    rw [e3] at q2
    generalize (s - tau) * e2 = z at *
    obtain ⟨e4, q4, s6⟩ := gsub_full q2 Q_tau (by constructor <;> grind)
    have s7 := sm_mul (show Sm (s - tau + z - tau) (2 * eta) from ⟨by grind, by grind⟩) s6
    obtain ⟨s8, s9⟩ := s7
    rw [decide_eq_true (by grind), br_true, sbind, fge_q q2 Q_pi, decide_eq_true (by grind), br_true, sbind]
    exact j7_is sg q4 (gsub_lt _ _) ⟨by grind, by grind⟩
theorem j5_is {k x : Nat} {r : Rat} {J : Int} (sg : Bool) (hk : 100 < k) (hq : Q x r) (hx : x < 2 ^ 64) (h0 : 0 ≤ r) (h1 : r ≤ 1020) (h : Sm (r - (J : Rat) * tau) eta) :
    ∃ y s', math_remainder_j5 k x sg 4618760256179416344 = some y ∧ Q y s' ∧ y < 2 ^ 64 ∧ Sm s' (4 * eta) := by
  unfold math_remainder_j5
  rw [feq_q hq Q_tau]
  by_cases he : r = tau
  · rw [decide_eq_true he, br_true]
    cases sg with
    | false => exact ⟨0, 0, rfl, Q_nought, by decide, by constructor <;> grind⟩
    | true => exact ⟨fneg 0, -0, rfl, Q_fneg (by decide) Q_nought, by decide, by constructor <;> grind⟩
  · rw [decide_eq_false he, br_false]
    have e0 : fle 4618760256179416344 9214364837600034815 = true := by rfl
    have e1 : gadd 4618760256179416344 4618760256179416344 = 4623263855806786840 := by rfl
    obtain ⟨y, s, m, t1, t2, t3, t4, t5, t6⟩ := mod_is hk hq hx h0 h1
    rw [e0, br_true, sbind, e1, num_q Q_tau2, sbind, t1, sbind]
    refine j6_is (i := J - 2 * (m : Int)) sg t2 t3 t5 t6 ?_
    have : s - ((J - 2 * (m : Int) : Int) : Rat) * tau = r - (J : Rat) * tau := by
      rw [t4, Rat.intCast_sub, Rat.intCast_mul, Rat.intCast_natCast]
      have e : ((2 : Int) : Rat) = 2 := by simp
      rw [e]; grind
    rw [this]; exact h
theorem rem_is {k d : Nat} {r : Rat} {J : Int} (hk : 100 < k) (hq : Q d r) (hd : d < 2 ^ 64) (h0 : -1020 ≤ r) (h1 : r ≤ 1020) (h : Sm (r - (J : Rat) * tau) eta) :
    ∃ y s', math_Remainder k d 4618760256179416344 = some y ∧ Q y s' ∧ y < 2 ^ 64 ∧ Sm s' (4 * eta) := by
  have hj : ∃ y s', math_remainder k d 4618760256179416344 = some y ∧ Q y s' ∧ y < 2 ^ 64 ∧ Sm s' (4 * eta) := by
    unfold math_remainder
    rw [isnan_is hq, sbind, br_false, isnan_is Q_tau, sbind]
    unfold math_remainder_j1
    rw [br_false, isinf_is hd hq (by grind) (by grind), sbind]
    unfold math_remainder_j2
    rw [br_false, feq_q Q_tau Q_nought, decide_eq_false (by grind)]
    unfold math_remainder_j3
    rw [br_false, isinf_is (by decide) Q_tau (by grind) (by grind), sbind, br_false, flt_q hq Q_nought]
    have e4 : ∀ x sg, math_remainder_j4 k 4618760256179416344 x sg = math_remainder_j5 k x sg 4618760256179416344 := by
      intro x sg
      unfold math_remainder_j4
      rw [flt_q Q_tau Q_nought, decide_eq_false (by grind), br_false]
    by_cases hn : r < 0
    · rw [decide_eq_true hn, br_true, e4]
      obtain ⟨h2, h3⟩ := h
      have e : fneg d = d ^^^ 2 ^ 63 := rfl
      refine j5_is (J := -J) true hk (Q_fneg hd hq) (by rw [e]; exact Nat.xor_lt_two_pow hd (by decide)) (by grind) (by grind) ?_
      rw [Rat.intCast_neg]
      constructor <;> grind
    · rw [decide_eq_false hn, br_false, e4]
      exact j5_is (J := J) false hk hq hd (by grind) h1 h
  obtain ⟨y, s', t1, t2, t3, t4⟩ := hj
  exact ⟨y, s', by unfold math_Remainder; rw [t1, sbind], t2, t3, t4⟩


/-! #### the law's measure -/
theorem round_is {k a b : Nat} {r s : Rat} {J : Int} (hk : 100 < k) (ha : Q a r) (hb : Q b s) (h1 : Bd (r - s) 16) (h : Bd (r - s - (J : Rat) * tau) (1 / 17179869184)) : laws_round k a b = some true := by
  obtain ⟨h2, h3⟩ := h1
  obtain ⟨h4, h5⟩ := h
  obtain ⟨e, q1, s1⟩ := gsub_full ha hb (by constructor <;> grind)
  have s2 := sm_mul (show Sm (r - s) 16 from ⟨by grind, by grind⟩) s1
  obtain ⟨s3, s4⟩ := s2
  have e1 : (r - s) * (1 + e) = r - s + (r - s) * e := by grind
  rw [e1] at q1
  obtain ⟨z, hz⟩ : ∃ z, (r - s) * e = z := ⟨_, rfl⟩
  rw [hz] at s3 s4 q1
  obtain ⟨w, s', w1, w2, w3, w4⟩ := rem_is (k := k) (J := J) hk q1 (gsub_lt _ _) (by grind) (by grind) ⟨by grind, by grind⟩
  obtain ⟨w5, w6⟩ := w4
  obtain ⟨B, qB, B0, hB⟩ := Q_abs w3 w2
  unfold laws_round
  rw [sbind, num_q q1, sbind, w1, sbind, num_q w2, sbind, abs_is k w w3, sbind, flt_q qB Q_least30, decide_eq_true (by rcases hB with e | e <;> grind)]
end Go.Proofs.Ytmkhoplffiakmaa
