/-
  The nearest float of a dyadic number that is a whole number a float can hold: the float. Ours.
-/
import Derived.Test.YtmkhoplffiakmaaExact4
namespace Go.Proofs.Ytmkhoplffiakmaa
open Go.Sx
open Ieee (signed)
set_option linter.unusedVariables false
set_option linter.unusedSimpArgs false
set_option maxRecDepth 100000

/-- a word by its fields -/
theorem read_of_fields {E F : Nat} (h0 : 0 < E) (h1 : E < 2047) (hF : F < 2 ^ 52) : FloatKind.f64.format.read (E * 2 ^ 52 + F) = .number false (2 ^ 52 + F) (((E - 1 : Nat) : Int) - 1074) := by
  have hw : E * 2 ^ 52 + F = Ieee.double.word false (E * 2 ^ 52 + F) := by unfold Ieee.Format.word; simp
  rw [fmt_is, hw, read_word false _ (by omega), if_neg (by omega)]
  have e1 : (E * 2 ^ 52 + F) % 2 ^ 52 = F := by omega
  have e2 : (E * 2 ^ 52 + F) / 2 ^ 52 = E := by omega
  rw [e1, e2]
  congr 1
theorem D_fields {E F : Nat} (h0 : 0 < E) (h1 : E < 2047) (hF : F < 2 ^ 52) {n : Int} {v : Nat} (h : ((2 ^ 52 + F : Nat) : Int) * 2 ^ (E - 1) = n * 2 ^ v) : D (E * 2 ^ 52 + F) n v :=
  ⟨false, 2 ^ 52 + F, E - 1, read_of_fields h0 h1 hF, by rw [signed_eq]; simpa using h⟩
theorem D_zero (v : Nat) : D 0 0 v := ⟨false, 0, 0, by decide, by rw [signed_eq]; simp⟩
theorem D_one : D 4607182418800017408 1 1074 := by
  have := D_fields (E := 1023) (F := 0) (by omega) (by omega) (by omega) (n := 1) (v := 1074) (by
    rw [Int.one_mul, show (1074 : Nat) = 52 + (1023 - 1) from rfl, Int.pow_add]; rfl)
  exact this

/-- the word of a whole number with 53 bits -/
theorem word_of_53 {x m : Nat} (hx : x < 2 ^ 64) (hm0 : 2 ^ 52 ≤ m) (hm1 : m < 2 ^ 53) (h : D x (m : Int) 1074) : x = 1075 * 2 ^ 52 + (m - 2 ^ 52) := by
  obtain ⟨s, m', q, h1, h2⟩ := h
  obtain ⟨hs, hf⟩ := read_fields hx h1
  have hs0 : s = false := by
    cases s with
    | false => rfl
    | true =>
      rw [signed_eq] at h2
      simp only [if_true] at h2
      have a : (0 : Int) ≤ (m' : Int) * 2 ^ q := Int.mul_nonneg (by omega) (Int.le_of_lt (Int.pow_pos (by omega)))
      have b : (0 : Int) < (m : Int) * 2 ^ 1074 := Int.mul_pos (by omega) (Int.pow_pos (by omega))
      omega
  rw [hs0] at h2
  rw [signed_eq] at h2
  simp only [Bool.false_eq_true, if_false] at h2
  have gen : ∀ w : Nat, (m' : Int) * 2 ^ q = (m : Int) * 2 ^ w → m' * 2 ^ q = m * 2 ^ w := by
    intro w hw
    rw [powcast2, powcast2] at hw
    exact_mod_cast hw
  have h3 : m' * 2 ^ q = m * 2 ^ 1074 := gen 1074 h2
  have hx63 : x / 2 ^ 63 = 0 := by
    rw [hs0] at hs
    have : ¬ (x / 2 ^ 63 = 1) := by simpa using hs.symm
    omega
  have hpw : ∀ {a b c d : Nat}, a < 2 ^ 53 → 2 ^ 52 ≤ b → a * 2 ^ c = b * 2 ^ d → d ≤ c := by
    intro a b c d ha hb hab
    rcases Nat.lt_or_ge c d with hlt | hge
    · exfalso
      have e : 2 ^ d = 2 ^ c * 2 ^ (d - c) := by rw [← Nat.pow_add]; congr 1; omega
      rw [e, Nat.mul_comm (2 ^ c), ← Nat.mul_assoc] at hab
      have hab' := Nat.eq_of_mul_eq_mul_right (Nat.two_pow_pos c) hab
      have h2 : 2 ≤ 2 ^ (d - c) := by
        have := Nat.pow_le_pow_right (n := 2) (by omega) (show 1 ≤ d - c by omega)
        simpa using this
      have := Nat.mul_le_mul hb h2
      omega
    · exact hge
  rcases hf with ⟨a, b, c⟩ | ⟨a, b, c, d⟩
  · exfalso
    have := hpw (a := m') (b := m) (c := q) (d := 1074) (by omega) hm0 h3
    omega
  · have l1 := hpw (a := m') (b := m) (c := q) (d := 1074) (by omega) hm0 h3
    have l2 := hpw (a := m) (b := m') (c := 1074) (d := q) hm1 (by omega) h3.symm
    have hq : q = 1074 := by omega
    subst hq
    have hmm := Nat.eq_of_mul_eq_mul_right (Nat.two_pow_pos 1074) h3
    omega

/-! ### the bits that are kept -/
theorem half_step (Z T i : Nat) : Z * 2 ^ (i + 1) / 2 ^ T = 2 * (Z * 2 ^ i / 2 ^ T) + (if bitZ Z ((T : Int) - 1 - i) = true then 1 else 0) := by
  unfold bitZ
  by_cases hi : i < T
  · obtain ⟨d, hd⟩ : ∃ d, T = i + 1 + d := ⟨T - i - 1, by omega⟩
    have e0 : (T : Int) - 1 - i = (d : Int) := by omega
    rw [e0]
    simp only [Int.toNat_natCast, show decide ((0 : Int) ≤ (d : Int)) = true from by simp, Bool.true_and, Nat.testBit_eq_decide_div_mod_eq]
    have e1 : Z * 2 ^ (i + 1) / 2 ^ T = Z / 2 ^ d := by
      rw [hd, Nat.pow_add (2) (i + 1) d, Nat.mul_comm Z, Nat.mul_div_mul_left _ _ (Nat.two_pow_pos _)]
    have e2 : Z * 2 ^ i / 2 ^ T = Z / 2 ^ d / 2 := by
      rw [hd, show i + 1 + d = i + (d + 1) from by omega, Nat.pow_add 2 i (d + 1), Nat.mul_comm Z, Nat.mul_div_mul_left _ _ (Nat.two_pow_pos _), Nat.pow_succ, Nat.div_div_eq_div_mul]
    rw [e1, e2]
    by_cases hb : Z / 2 ^ d % 2 = 1
    · simp [hb]; omega
    · simp [hb]; omega
  · obtain ⟨d, hd⟩ : ∃ d, i = T + d := ⟨i - T, by omega⟩
    have e0 : decide ((0 : Int) ≤ (T : Int) - 1 - i) = false := by simp only [decide_eq_false_iff_not]; omega
    rw [e0]
    have e1 : Z * 2 ^ (i + 1) / 2 ^ T = Z * 2 ^ (d + 1) := by
      rw [hd, show T + d + 1 = T + (d + 1) from by omega, Nat.pow_add, ← Nat.mul_assoc, Nat.mul_comm Z (2 ^ T), Nat.mul_assoc, Nat.mul_div_cancel_left _ (Nat.two_pow_pos _)]
    have e2 : Z * 2 ^ i / 2 ^ T = Z * 2 ^ d := by
      rw [hd, Nat.pow_add, ← Nat.mul_assoc, Nat.mul_comm Z (2 ^ T), Nat.mul_assoc, Nat.mul_div_cancel_left _ (Nat.two_pow_pos _)]
    rw [e1, e2, Nat.pow_succ, ← Nat.mul_assoc]
    simp only [Bool.false_and, Bool.false_eq_true, if_false]
    omega

theorem float_loop {s : Bool} {l : List Int} {z : Int} (h : Wh s l z) (hz : z ≠ 0) (hl : l.length < 1000000) {e : Int} {T : Nat} (hT : T = z.natAbs.log2 + 1) (hTb : T < 100000000) (he0 : -100000000 < e) (he1 : e < 100000000) (hk53 : 53 ≤ (T : Int) + e + 1074) :
    ∀ (n k i : Nat), 53 - i = n → n + 32 < k → i ≤ 53 → spec_Dyadic_Float_l1 (T : Int) e s l k (((z.natAbs * 2 ^ i / 2 ^ T : Nat) : Int), (i : Int)) = some ((z.natAbs * 2 ^ 53 / 2 ^ T : Nat) : Int) := by
  have hkeep : imin 53 (iadd .i64 (iadd .i64 (T : Int) e) 1074) = 53 := by
    rw [iadd_i64 (a := (T : Int)) (by omega) (by omega), iadd_i64 (by omega) (by omega)]
    unfold imin; rw [if_neg (by omega)]
  intro n
  induction n with
  | zero =>
    intro k i hn hk hi
    obtain ⟨k, rfl⟩ : ∃ j, k = j + 1 := ⟨k - 1, by omega⟩
    have hii : i = 53 := by omega
    subst hii
    have : decide (((53 : Nat) : Int) < 53) = false := by decide
    simp only [spec_Dyadic_Float_l1, spec_Dyadic_Float_l1s, hkeep, this, br_false]
  | succ n ih =>
    intro k i hn hk hi
    obtain ⟨k, rfl⟩ : ∃ j, k = j + 1 := ⟨k - 1, by omega⟩
    have hd : decide ((i : Int) < 53) = true := by simp only [decide_eq_true_eq]; omega
    obtain ⟨x, hx⟩ : ∃ x, z.natAbs * 2 ^ i / 2 ^ T = x := ⟨_, rfl⟩
    have hxlt : x < 9007199254740992 := by
      have hZ : z.natAbs < 2 ^ T := by rw [hT]; exact Nat.lt_log2_self
      have h1 : z.natAbs * 2 ^ i < 2 ^ T * 2 ^ i := Nat.mul_lt_mul_of_pos_right hZ (Nat.two_pow_pos _)
      have h2 : x < 2 ^ i := by rw [← hx]; exact Nat.div_lt_of_lt_mul h1
      have h3 : (2 : Nat) ^ i ≤ 2 ^ 53 := Nat.pow_le_pow_right (by omega) hi
      have h4 : (2 : Nat) ^ 53 = 9007199254740992 := by decide
      omega
    have hshl : ishl .u64 (x : Int) 1 = some ((2 * x : Nat) : Int) := by
      have := ishl_u64 (a := (x : Int)) (n := 1) (by omega)
      rw [show ((1 : Nat) : Int) = 1 from rfl] at this
      rw [this]
      congr 1
      rw [Int.emod_eq_of_lt (by omega) (by omega)]; omega
    have htop := top_is (k := k) h hz (by omega) hl
    rw [← hT] at htop
    have hs1 : isub .i64 (isub .i64 (T : Int) 1) (i : Int) = (T : Int) - 1 - i := by
      rw [isub_i64 (a := (T : Int)) (by omega) (by omega), isub_i64 (by omega) (by omega)]
    have hbit := bit_is (k := k) (n := (T : Int) - 1 - i) h (by omega) (by omega) hl
    have hadd1 : iadd .i64 (i : Int) 1 = ((i + 1 : Nat) : Int) := by rw [iadd_i64 (by omega) (by omega)]; omega
    have hstep := half_step z.natAbs T i
    have hih := ih k (i + 1) (by omega) (by omega) (by omega)
    rw [hx] at hstep ⊢
    simp only [spec_Dyadic_Float_l1, spec_Dyadic_Float_l1s, hkeep, hd, br_true, hshl, Option.bind_eq_bind, Option.bind_some, htop, hs1, hbit, spec_Dyadic_Float_j2, hadd1]
    cases hb : bitZ z.natAbs ((T : Int) - 1 - i) with
    | true =>
      rw [hb] at hstep
      simp only [if_true] at hstep
      have e1 : iadd .u64 ((2 * x : Nat) : Int) 1 = ((2 * x + 1 : Nat) : Int) := by rw [iadd_u64 (by omega) (by omega)]; omega
      rw [br_true, e1, ← hstep]; exact hih
    | false =>
      rw [hb] at hstep
      simp only [Bool.false_eq_true, if_false, Nat.add_zero] at hstep
      rw [br_false, ← hstep]; exact hih
end Go.Proofs.Ytmkhoplffiakmaa
