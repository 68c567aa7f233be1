/-
  A whole number times a power of two, by Ldexp: exactly. Ours.
-/
import Derived.Test.YtmkhoplffiakmaaFun
import Derived.Test.YtmkhoplffiakmaaSxY
import Derived.Test.YtmkhoplffiakmaaSxW
import Derived.Test.YtmkhoplffiakmaaSxV
import Derived.Test.YtmkhoplffiakmaaSxL
namespace Go.Proofs.Ytmkhoplffiakmaa
open Go.Sx
open Ieee (signed)
set_option linter.unusedVariables false
set_option linter.unusedSimpArgs false
set_option maxRecDepth 100000

theorem iand_i64 {a : Nat} (ha : a < 2 ^ 12) : iand .i64 (a : Int) 2047 = ((a % 2048 : Nat) : Int) := by
  unfold iand
  have e3 : (BitVec.ofInt IntKind.i64.bits (a : Int) &&& BitVec.ofInt IntKind.i64.bits 2047).toNat = a % 2048 := by
    show (BitVec.ofInt 64 (a : Int) &&& BitVec.ofInt 64 2047).toNat = _
    rw [BitVec.toNat_and, bv_nat64 a (by omega), show (BitVec.ofInt 64 2047).toNat = 2 ^ 11 - 1 from by decide, Nat.and_two_pow_sub_one_eq_mod]
  rw [e3]; exact wrap_i64 (by omega) (by omega)
theorem absK (k x : Nat) (hx : x < 2 ^ 64) : math_Abs k x = some (x % 2 ^ 63) := by
  have h1 := bv_nat64 x hx
  have e : iandn .u64 (x : Int) 9223372036854775808 = ((x % 2 ^ 63 : Nat) : Int) := by
    unfold iandn
    have e3 : (BitVec.ofInt IntKind.u64.bits (x : Int) &&& ~~~ BitVec.ofInt IntKind.u64.bits 9223372036854775808).toNat = x % 2 ^ 63 := by
      show (BitVec.ofInt 64 (x : Int) &&& ~~~ BitVec.ofInt 64 9223372036854775808).toNat = _
      rw [BitVec.toNat_and, h1, show (~~~ BitVec.ofInt 64 9223372036854775808).toNat = 2 ^ 63 - 1 from by decide, Nat.and_two_pow_sub_one_eq_mod]
    rw [e3]; exact wrap_u64_id (by omega) (by omega)
  unfold math_Abs ffrom
  rw [show fbits x = (x : Int) from rfl, e, Int.toNat_natCast]
theorem and_top {x : Nat} (hx : x < 2 ^ 64) : x &&& 2 ^ 63 = x / 2 ^ 63 * 2 ^ 63 := by
  apply Nat.eq_of_testBit_eq
  intro i
  rw [Nat.testBit_and]
  have hq : x / 2 ^ 63 = 0 ∨ x / 2 ^ 63 = 1 := by omega
  by_cases hi : i = 63
  · subst hi
    rw [Nat.testBit_two_pow_self, Nat.testBit_eq_decide_div_mod_eq]
    rcases hq with h | h <;> rw [h] <;> decide
  · rw [Nat.testBit_two_pow_of_ne (Ne.symm hi), Bool.and_false]
    rcases hq with h | h <;> rw [h]
    · simp
    · rw [Nat.one_mul, Nat.testBit_two_pow_of_ne (Ne.symm hi)]
theorem iandn_exps {x : Nat} (hx : x < 2 ^ 64) : iandn .u64 (x : Int) 9218868437227405312 = ((x / 2 ^ 63 * 2 ^ 63 + x % 2 ^ 52 : Nat) : Int) := by
  have h1 := bv_nat64 x (by omega)
  unfold iandn
  have e3 : (BitVec.ofInt IntKind.u64.bits (x : Int) &&& ~~~ BitVec.ofInt IntKind.u64.bits 9218868437227405312).toNat = x / 2 ^ 63 * 2 ^ 63 + x % 2 ^ 52 := by
    show (BitVec.ofInt 64 (x : Int) &&& ~~~ BitVec.ofInt 64 9218868437227405312).toNat = _
    have hl : x % 2 ^ 52 < 2 ^ 63 := by omega
    rw [BitVec.toNat_and, h1, show (~~~ BitVec.ofInt 64 9218868437227405312).toNat = 2 ^ 63 ||| (2 ^ 52 - 1) from by decide, Nat.and_or_distrib_left, Nat.and_two_pow_sub_one_eq_mod, and_top hx, Nat.mul_comm, Nat.two_pow_add_eq_or_of_lt hl]
  rw [e3]; exact wrap_u64_id (by omega) (by omega)
theorem ior_exps {s F c : Nat} (hs : s < 2) (hF : F < 2 ^ 52) (hc : c < 2048) : ior .u64 ((s * 2 ^ 63 + F : Nat) : Int) ((c * 2 ^ 52 : Nat) : Int) = ((s * 2 ^ 63 + (c * 2 ^ 52 + F) : Nat) : Int) := by
  have h1 := bv_nat64 (s * 2 ^ 63 + F) (by omega)
  have h2 := bv_nat64 (c * 2 ^ 52) (by omega)
  unfold ior
  have e3 : (BitVec.ofInt IntKind.u64.bits ((s * 2 ^ 63 + F : Nat) : Int) ||| BitVec.ofInt IntKind.u64.bits ((c * 2 ^ 52 : Nat) : Int)).toNat = s * 2 ^ 63 + (c * 2 ^ 52 + F) := by
    show (BitVec.ofInt 64 ((s * 2 ^ 63 + F : Nat) : Int) ||| BitVec.ofInt 64 ((c * 2 ^ 52 : Nat) : Int)).toNat = _
    have hF' : F < 2 ^ 63 := by omega
    have hcF : c * 2 ^ 52 + F < 2 ^ 63 := by omega
    rw [BitVec.toNat_or, h1, h2, Nat.mul_comm s, Nat.two_pow_add_eq_or_of_lt hF', Nat.two_pow_add_eq_or_of_lt hcF, Nat.or_assoc, Nat.mul_comm c, Nat.two_pow_add_eq_or_of_lt hF, Nat.or_comm F]
  rw [e3]; exact wrap_u64_id (by omega) (by omega)
theorem fneg_low {x : Nat} (hx : x < 2 ^ 63) : fneg x = 2 ^ 63 + x := by
  have e : fneg x = x ^^^ 2 ^ 63 := rfl
  have h := Nat.two_pow_add_eq_or_of_lt hx 1
  rw [Nat.mul_one] at h
  rw [e, h]
  apply Nat.eq_of_testBit_eq
  intro i
  rw [Nat.testBit_xor, Nat.testBit_or]
  by_cases hi : i = 63
  · subst hi; rw [Nat.testBit_lt_two_pow hx]; simp
  · rw [Nat.testBit_two_pow_of_ne (Ne.symm hi)]; simp
/-- a word by its sign, its exponent and its fraction -/
theorem D_word {s E F : Nat} (hs : s < 2) (h0 : 0 < E) (h1 : E < 2047) (hF : F < 2 ^ 52) {n : Int} {v : Nat} (h : ((2 ^ 52 + F : Nat) : Int) * 2 ^ (E - 1) = (if s = 1 then -n else n) * 2 ^ v) : D (s * 2 ^ 63 + (E * 2 ^ 52 + F)) n v := by
  have hs' : s = 0 ∨ s = 1 := by omega
  rcases hs' with rfl | rfl
  · rw [Nat.zero_mul, Nat.zero_add]
    exact D_fields h0 h1 hF (by simpa using h)
  · have := D_fneg (x := E * 2 ^ 52 + F) (by omega) (D_fields h0 h1 hF (n := -n) (v := v) (by simpa using h))
    rw [fneg_low (by omega), Int.neg_neg] at this
    rw [Nat.one_mul]; exact this
theorem fit_exp {m X E v : Nat} (h : m * 2 ^ (E - 1) = X * 2 ^ v) (hm0 : 2 ^ 52 ≤ m) (hm1 : m < 2 ^ 53) (hE : 0 < E) (hX0 : 0 < X) (hX1 : X ≤ 2 ^ 53) : v < E + 52 ∧ E + 51 ≤ v + 53 := by
  constructor
  · rcases Nat.lt_or_ge v (E + 52) with h' | h'
    · exact h'
    · have h1 : m * 2 ^ (E - 1) < 2 ^ 53 * 2 ^ (E - 1) := (Nat.mul_lt_mul_right (Nat.two_pow_pos _)).2 hm1
      have h2 : 2 ^ 53 * 2 ^ (E - 1) = 2 ^ (E + 52) := by rw [← Nat.pow_add]; congr 1; omega
      have h3 : 2 ^ (E + 52) ≤ 2 ^ v := Nat.pow_le_pow_right (by decide) h'
      have h4 : 1 * 2 ^ v ≤ X * 2 ^ v := Nat.mul_le_mul_right _ hX0
      omega
  · rcases Nat.lt_or_ge (v + 53) (E + 51) with h' | h'
    · have h1 : 2 ^ 52 * 2 ^ (E - 1) ≤ m * 2 ^ (E - 1) := Nat.mul_le_mul_right _ hm0
      have h2 : 2 ^ 52 * 2 ^ (E - 1) = 2 ^ (E + 51) := by rw [← Nat.pow_add]; congr 1; omega
      have h3 : 2 ^ (v + 53) < 2 ^ (E + 51) := Nat.pow_lt_pow_right (by decide) h'
      have h4 : X * 2 ^ v ≤ 2 ^ 53 * 2 ^ v := Nat.mul_le_mul_right _ hX1
      have h5 : 2 ^ 53 * 2 ^ v = 2 ^ (v + 53) := by rw [← Nat.pow_add]; congr 1; omega
      omega
    · exact h'
theorem shift_exp {m X a v b w : Nat} (h : m * 2 ^ a = X * 2 ^ v) (hab : a + w = b + v) : m * 2 ^ b = X * 2 ^ w := by
  have e1 : m * 2 ^ b * 2 ^ v = X * 2 ^ w * 2 ^ v := by
    rw [Nat.mul_assoc, ← Nat.pow_add, ← hab, Nat.pow_add, ← Nat.mul_assoc, h]
    rw [Nat.mul_assoc, Nat.mul_assoc, Nat.mul_comm (2 ^ v)]
  exact Nat.mul_right_cancel (Nat.two_pow_pos v) e1

theorem small_no {m X t : Nat} (h : m = X * 2 ^ t) (hX : 0 < X) (ht : 53 ≤ t) (hm : m < 2 ^ 52) : False := by
  have h3 : 1 * 2 ^ t ≤ X * 2 ^ t := Nat.mul_le_mul_right _ hX
  have h4 : 2 ^ 53 ≤ 2 ^ t := Nat.pow_le_pow_right (by decide) ht
  omega
theorem big_no {Z : Int} {t : Nat} (hZ : 1 ≤ Z) (ht : 53 ≤ t) : 9007199254740992 ≤ Z * 2 ^ t := by
  have h3 : 1 * (2 : Int) ^ t ≤ Z * 2 ^ t := Int.mul_le_mul_of_nonneg_right hZ (Int.le_of_lt (Int.pow_pos (by decide)))
  have h4 : ((2 ^ 53 : Nat) : Int) ≤ ((2 ^ t : Nat) : Int) := Int.ofNat_le.2 (Nat.pow_le_pow_right (by decide) ht)
  rw [← powcast2 t] at h4
  have : ((2 ^ 53 : Nat) : Int) = 9007199254740992 := by decide
  omega
theorem ldexp_zero (k : Nat) {x : Nat} (h : D x 0 1074) (e : Int) : math_Ldexp k x e = some x := by
  unfold math_Ldexp math_ldexp
  rw [D_eq h (D_zero 1074), decide_eq_true rfl, br_true, sbind]
theorem D_any_zero {x u : Nat} (h : D x 0 u) (v : Nat) : D x 0 v := by
  obtain ⟨s, m, q, h1, h2⟩ := h
  exact ⟨s, m, q, h1, by rw [h2, Int.zero_mul, Int.zero_mul]⟩

theorem ldexpk (k : Nat) {x : Nat} {X e : Int} (hx : x < 2 ^ 64) (hD : D x X 1074) (hb : X.natAbs ≤ 9007199254740992) (he0 : -100 ≤ e) (he1 : e ≤ 100) :
    ∃ y, math_Ldexp k x e = some y ∧ D y X (1074 + e).toNat ∧ y < 2 ^ 64 := by
  by_cases hX : X = 0
  · subst hX; exact ⟨x, ldexp_zero k hD e, D_any_zero hD _, hx⟩
  obtain ⟨sg, m, q, h1, h2⟩ := hD
  obtain ⟨hs, hf⟩ := read_fields hx h1
  have hD : D x X 1074 := ⟨sg, m, q, h1, h2⟩
  obtain ⟨E, hE⟩ : ∃ E, x / 2 ^ 52 % 2048 = E := ⟨_, rfl⟩
  obtain ⟨F, hF⟩ : ∃ F, x % 2 ^ 52 = F := ⟨_, rfl⟩
  obtain ⟨S, hS⟩ : ∃ S, x / 2 ^ 63 = S := ⟨_, rfl⟩
  have hEl : E < 2048 := by omega
  have hFl : F < 2 ^ 52 := by omega
  have hSl : S < 2 := by omega
  rw [hE, hF] at hf
  rw [hS] at hs
  have hm : m * 2 ^ q = X.natAbs * 2 ^ 1074 := by
    have := congrArg Int.natAbs h2
    rw [signed_eq] at this
    have e1 : (if sg = true then -((m : Int) * 2 ^ q) else (m : Int) * 2 ^ q).natAbs = m * 2 ^ q := by
      cases sg
      · simp [Int.natAbs_mul, Int.natAbs_pow]
      · simp [Int.natAbs_mul, Int.natAbs_pow]
    rw [e1] at this
    rw [this, Int.natAbs_mul, Int.natAbs_pow, show (2 : Int).natAbs = 2 from rfl]
  have hXp : 0 < X.natAbs := by omega
  have hEp : 0 < E ∧ E < 2047 ∧ m = 2 ^ 52 + F ∧ q + 1 = E := by
    rcases hf with ⟨a, b, c⟩ | h
    · exfalso
      subst c
      rw [Nat.pow_zero, Nat.mul_one] at hm
      exact small_no hm hXp (by decide) (by omega)
    · exact h
  obtain ⟨hE0, hE1, hmF, hqE⟩ := hEp
  have hq : q = E - 1 := by omega
  subst hq
  obtain ⟨r1, r2⟩ := fit_exp hm (by omega) (by omega) hE0 hXp (by omega)
  obtain ⟨G, hG⟩ : ∃ G : Nat, (E : Int) + e = G := ⟨(E + e).toNat, by omega⟩
  obtain ⟨w, hw⟩ : ∃ w : Nat, (1074 + e).toNat = w := ⟨_, rfl⟩
  rw [hw]
  have hm2 : m * 2 ^ (G - 1) = X.natAbs * 2 ^ w := shift_exp hm (by omega)
  have hneg : S = 1 ↔ X < 0 := by
    have hms : 0 < (m : Int) * 2 ^ (E - 1) := Int.mul_pos (by omega) (Int.pow_pos (by decide))
    have hp : (0 : Int) < 2 ^ 1074 := Int.pow_pos (by decide)
    rw [signed_eq] at h2
    generalize (2 : Int) ^ 1074 = P at *
    by_cases hS1 : S = 1
    · simp [hS1] at hs; subst hs
      simp at h2
      refine ⟨fun _ => ?_, fun _ => hS1⟩
      rcases Int.lt_or_le X 0 with h | h
      · exact h
      · have := Int.mul_nonneg h (Int.le_of_lt hp); omega
    · simp [hS1] at hs; subst hs
      simp at h2
      refine ⟨fun h => absurd h hS1, fun h => ?_⟩
      have := Int.mul_neg_of_neg_of_pos h hp; omega
  have hDw : D (S * 2 ^ 63 + (G * 2 ^ 52 + F)) X w := by
    refine D_word hSl (by omega) (by omega) hFl ?_
    rw [← hmF]
    have : (if S = 1 then -X else X) = (X.natAbs : Int) := by
      by_cases h : S = 1
      · rw [if_pos h]; have := hneg.1 h; omega
      · rw [if_neg h]; have : ¬ X < 0 := fun h' => h (hneg.2 h'); omega
    rw [this, powcast2, powcast2, ← Int.natCast_mul, ← Int.natCast_mul, hm2]
  -- the steps
  have habs : math_Abs k x = some (x % 2 ^ 63) := absK k x hx
  have hDa : D (x % 2 ^ 63) (X.natAbs : Int) 1074 := D_absn hx hD
  have f1 : feq x 0 = false := by rw [D_eq hD (D_zero 1074)]; simp [hX]
  have hbig : D 9218868437227405311 ((9007199254740991 : Int) * 2 ^ 971) 1074 := by
    have := D_fields (E := 2046) (F := 4503599627370495) (by omega) (by omega) (by omega) (n := (9007199254740991 : Int) * 2 ^ 971) (v := 1074) (by
      rw [Int.mul_assoc, ← Int.pow_add, show ((2 ^ 52 + 4503599627370495 : Nat) : Int) = 9007199254740991 from rfl, show (2046 - 1 : Nat) = 971 + 1074 from rfl])
    exact this
  have h971 : (1 : Int) ≤ 2 ^ 971 := Int.pow_pos (by decide)
  have f2 : fgt (x % 2 ^ 63) 9218868437227405311 = false := by
    rw [D_gt hDa hbig]
    have : (9007199254740991 : Int) * 1 ≤ 9007199254740991 * 2 ^ 971 := Int.mul_le_mul_of_nonneg_left h971 (by omega)
    simp only [decide_eq_false_iff_not]; omega
  have f3 : fne x x = false := by rw [D_ne hD hD]; simp
  have f4 : flt (x % 2 ^ 63) 4503599627370496 = false := by
    have hmin : D 4503599627370496 4503599627370496 0 := by
      have := D_fields (E := 1) (F := 0) (by omega) (by omega) (by omega) (n := 4503599627370496) (v := 0) (by simp)
      exact this
    have hD0 : D (x % 2 ^ 63) ((X.natAbs : Int) * 2 ^ 1074) 0 := by
      have := D.scale (v := 0) (w := 1074) (by rw [Nat.zero_add]; exact hDa)
      exact this
    rw [D_lt hD0 hmin]
    have := big_no (Z := (X.natAbs : Int)) (t := 1074) (by omega) (by decide)
    simp only [decide_eq_false_iff_not]; omega
  have hnum : num x = some x := by
    have : isn x = false := D_num hD
    unfold num; rw [this]; rfl
  have h52 : ishr .u64 (fbits x) 52 = some ((x / 2 ^ 52 : Nat) : Int) := by
    have := ishr_u64 (a := (x : Int)) (n := 52) (by omega) (by omega) (by omega)
    rw [show fbits x = (x : Int) from rfl, show (52 : Int) = ((52 : Nat) : Int) from rfl, this]
    congr 1
  have hc1 : icv .i64 ((x / 2 ^ 52 : Nat) : Int) = ((x / 2 ^ 52 : Nat) : Int) := icv_i64 (by omega) (by omega)
  have hE2 : iand .i64 ((x / 2 ^ 52 : Nat) : Int) 2047 = (E : Int) := by
    have := iand_i64 (a := x / 2 ^ 52) (by omega)
    rw [this, hE]
  have g1 : isub .i64 (E : Int) 1023 = (E : Int) - 1023 := isub_i64 (by omega) (by omega)
  have g0 : iadd .i64 e 0 = e := by rw [iadd_i64 (by omega) (by omega)]; omega
  have g2 : iadd .i64 e ((E : Int) - 1023) = (G : Int) - 1023 := by rw [iadd_i64 (by omega) (by omega)]; omega
  have c1 : decide ((G : Int) - 1023 < -1075) = false := by simp only [decide_eq_false_iff_not]; omega
  have c2 : decide (1023 < (G : Int) - 1023) = false := by simp only [decide_eq_false_iff_not]; omega
  have c3 : decide ((G : Int) - 1023 < -1022) = false := by simp only [decide_eq_false_iff_not]; omega
  have hadd : iadd .i64 ((G : Int) - 1023) 1023 = (G : Int) := by rw [iadd_i64 (by omega) (by omega)]; omega
  have hcv : icv .u64 (G : Int) = (G : Int) := icv_u64 (by omega) (by omega)
  have hshl : ishl .u64 (G : Int) 52 = some ((G * 2 ^ 52 : Nat) : Int) := by
    have := ishl_u64 (a := (G : Int)) (n := 52) (by omega)
    rw [show ((52 : Nat) : Int) = 52 from rfl] at this
    rw [this, Int.emod_eq_of_lt (by omega) (by omega)]
    exact congrArg some (by omega)
  have hword : ffrom (ior .u64 (iandn .u64 (fbits x) 9218868437227405312) ((G * 2 ^ 52 : Nat) : Int)) = S * 2 ^ 63 + (G * 2 ^ 52 + F) := by
    rw [show fbits x = (x : Int) from rfl, iandn_exps hx, hS, hF, ior_exps hSl hFl (by omega)]; rfl
  obtain ⟨y, hy1, hy2⟩ := D_mul (v := 1074) (w := w) (u := w) D_one hDw (Int.one_mul _) (by omega) (by omega) (by omega) (by omega)
  have hg : gmul 4607182418800017408 (S * 2 ^ 63 + (G * 2 ^ 52 + F)) = y := by unfold gmul; rw [hy1]; rfl
  refine ⟨y, ?_, hy2, FloatKind.f64.format.mul_lt hy1⟩
  simp only [math_Ldexp, math_ldexp, f1, br_false, math_IsInf, decide_true, br_true, habs, Option.bind_eq_bind, Option.bind_some, math_IsInf_j1, f2, math_IsNaN, f3, math_ldexp_j1, math_normalize, f4, hnum, h52, hc1, hE2, g0, g1, g2, c1, c2, c3, math_ldexp_j2, hadd, hcv, hshl, hword, hg]
end Go.Proofs.Ytmkhoplffiakmaa
