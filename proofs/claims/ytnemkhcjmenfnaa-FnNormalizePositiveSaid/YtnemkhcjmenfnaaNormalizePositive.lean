/-
  An angle brought to one from 0 to two pi: the plain statement. Ours.
-/
import Derived.Test.YtnemkhcjmenfnaaNormMod
namespace Go.Proofs.Ytnemkhcjmenfnaa
open Go.Sx
open Ieee (signed)
set_option linter.unusedVariables false
set_option linter.unusedSimpArgs false
set_option maxRecDepth 100000

/-! #### the remainder -/
theorem frexp_tau (k : Nat) : math_Frexp k 4623263855806786840 = some (1022 * 2 ^ 52 + 2570638124657944, 4) := rfl
theorem mod_is {k x : Nat} {r : Rat} (hk : 100 < k) (hq : Q x r) (hx : x < 2 ^ 64) (h0 : 0 ≤ r) (h1 : r ≤ 1020) :
    ∃ y s, ∃ m : Nat, math_Mod k x 4623263855806786840 = some y ∧ Q y s ∧ y < 2 ^ 64 ∧ s = r - (m : Rat) * (2 * tau) ∧ 0 ≤ s ∧ s < 2 * tau := by
  have hp : (2 : Rat) ^ 7 = 128 := by decide +kernel
  obtain ⟨y, s, m, t1, t2, t3, t4, t5, t6⟩ := mod_loop 7 k x r (by omega) (by omega) hq hx h0 (by rw [hp]; grind) h1
  refine ⟨y, s, m, ?_, t2, t3, t4, t5, t6⟩
  unfold math_Mod math_mod
  rw [feq_q Q_tau2 Q_nought, decide_eq_false (by grind), br_false, isinf_is hx hq (by grind) (by grind), sbind]
  unfold math_mod_j1
  rw [br_false, isnan_is hq, sbind]
  unfold math_mod_j2
  rw [br_false, isnan_is Q_tau2, sbind]
  unfold math_mod_j3
  rw [br_false, abs_is k 4623263855806786840 (by decide), sbind, show 4623263855806786840 % 2 ^ 63 = 4623263855806786840 from by decide, frexp_tau, sbind, flt_q hq Q_nought, decide_eq_false (by grind), br_false]
  unfold math_mod_j4
  rw [t1, sbind, flt_q hq Q_nought, decide_eq_false (by grind), br_false]
  rfl
theorem Q_pi : Q 4614256656552045848 (tau / 2) := by
  have := Q_word2 51 0 1024 2570638124657944 (by decide) (by decide) (by decide) (by decide)
  have e1 : (((2 ^ 52 + 2570638124657944 : Nat) : Rat)) = 7074237752028440 := rfl
  have e2 : (2 : Rat) ^ 51 = 2251799813685248 := by decide +kernel
  rw [e1, e2] at this
  have e3 : tau / 2 = 7074237752028440 / 2251799813685248 := by grind
  rw [e3]; exact this
abbrev eta : Rat := 1 / 8589934592
theorem j7_is {k x : Nat} {s : Rat} (sg : Bool) (hq : Q x s) (hx : x < 2 ^ 64) (h : Sm s (4 * eta)) : ∃ y s', math_remainder_j7 k sg x = some y ∧ Q y s' ∧ y < 2 ^ 64 ∧ Sm s' (4 * eta) := by
  obtain ⟨h1, h2⟩ := h
  cases sg with
  | false => exact ⟨x, s, rfl, hq, hx, h1, h2⟩
  | true =>
    have e : fneg x = x ^^^ 2 ^ 63 := rfl
    exact ⟨fneg x, -s, rfl, Q_fneg hx hq, by rw [e]; exact Nat.xor_lt_two_pow hx (by decide), by grind, by grind⟩
theorem int_rat {i : Int} {c : Int} (h : i ≤ c) : (i : Rat) ≤ (c : Rat) := Rat.intCast_le_intCast.2 h
theorem j6_is {k x : Nat} {s : Rat} {i : Int} (sg : Bool) (hq : Q x s) (hx : x < 2 ^ 64) (h0 : 0 ≤ s) (h1 : s < 2 * tau) (h : Sm (s - (i : Rat) * tau) eta) :
    ∃ y s', math_remainder_j6 k 4618760256179416344 sg x = some y ∧ Q y s' ∧ y < 2 ^ 64 ∧ Sm s' (4 * eta) := by
  obtain ⟨g1, g2⟩ := h
  have i0 : 0 ≤ i := by
    by_cases hi : 0 ≤ i
    · exact hi
    · exfalso
      have h3 := int_rat (show i ≤ -1 by omega)
      have e : ((-1 : Int) : Rat) = -1 := by simp
      rw [e] at h3
      have := Rat.mul_nonneg (show 0 ≤ -1 - (i : Rat) by grind) (show (0 : Rat) ≤ tau by grind)
      grind
  have i2 : i ≤ 2 := by
    by_cases hi : i ≤ 2
    · exact hi
    · exfalso
      have h3 := int_rat (show 3 ≤ i by omega)
      have e : ((3 : Int) : Rat) = 3 := by simp
      rw [e] at h3
      have := Rat.mul_nonneg (show 0 ≤ (i : Rat) - 3 by grind) (show (0 : Rat) ≤ tau by grind)
      grind
  unfold math_remainder_j6
  have e0 : flt 4618760256179416344 9007199254740992 = false := by rfl
  have e1 : gmul 4602678819172646912 4618760256179416344 = 4614256656552045848 := by rfl
  rw [e0, br_false, sbind, e1, fgt_q hq Q_pi]
  have hi : i = 0 ∨ i = 1 ∨ i = 2 := by omega
  rcases hi with rfl | rfl | rfl
  · have e : ((0 : Int) : Rat) = 0 := by simp
    rw [e] at g1 g2
    rw [decide_eq_false (by grind), br_false]
    exact j7_is sg hq hx ⟨by grind, by grind⟩
  · have e : ((1 : Int) : Rat) = 1 := by simp
    rw [e] at g1 g2
    obtain ⟨e2, q2, s2⟩ := gsub_full hq Q_tau (by constructor <;> grind)
    have s3 := sm_mul (show Sm (s - tau) eta from ⟨by grind, by grind⟩) s2
    obtain ⟨s4, s5⟩ := s3
    rw [decide_eq_true (by grind), br_true, sbind, fge_q q2 Q_pi, decide_eq_false (by grind), br_false]
    exact j7_is sg q2 (gsub_lt _ _) ⟨by grind, by grind⟩
  · have e : ((2 : Int) : Rat) = 2 := by simp
    rw [e] at g1 g2
    obtain ⟨e2, q2, s2⟩ := gsub_full hq Q_tau (by constructor <;> grind)
    have s3 := sm_mul (show Sm (s - tau) 8 from ⟨by grind, by grind⟩) s2
    obtain ⟨s4, s5⟩ := s3
    have e3 : (s - tau) * (1 + e2) = s - tau + (s - tau) * e2 := by grind
    rw [e3] at q2
    generalize (s - tau) * e2 = z at *
    obtain ⟨e4, q4, s6⟩ := gsub_full q2 Q_tau (by constructor <;> grind)
    have s7 := sm_mul (show Sm (s - tau + z - tau) (2 * eta) from ⟨by grind, by grind⟩) s6
    obtain ⟨s8, s9⟩ := s7
    rw [decide_eq_true (by grind), br_true, sbind, fge_q q2 Q_pi, decide_eq_true (by grind), br_true, sbind]
    exact j7_is sg q4 (gsub_lt _ _) ⟨by grind, by grind⟩
theorem j5_is {k x : Nat} {r : Rat} {J : Int} (sg : Bool) (hk : 100 < k) (hq : Q x r) (hx : x < 2 ^ 64) (h0 : 0 ≤ r) (h1 : r ≤ 1020) (h : Sm (r - (J : Rat) * tau) eta) :
    ∃ y s', math_remainder_j5 k x sg 4618760256179416344 = some y ∧ Q y s' ∧ y < 2 ^ 64 ∧ Sm s' (4 * eta) := by
  unfold math_remainder_j5
  rw [feq_q hq Q_tau]
  by_cases he : r = tau
  · rw [decide_eq_true he, br_true]
    cases sg with
    | false => exact ⟨0, 0, rfl, Q_nought, by decide, by constructor <;> grind⟩
    | true => exact ⟨fneg 0, -0, rfl, Q_fneg (by decide) Q_nought, by decide, by constructor <;> grind⟩
  · rw [decide_eq_false he, br_false]
    have e0 : fle 4618760256179416344 9214364837600034815 = true := by rfl
    have e1 : gadd 4618760256179416344 4618760256179416344 = 4623263855806786840 := by rfl
    obtain ⟨y, s, m, t1, t2, t3, t4, t5, t6⟩ := mod_is hk hq hx h0 h1
    rw [e0, br_true, sbind, e1, num_q Q_tau2, sbind, t1, sbind]
    refine j6_is (i := J - 2 * (m : Int)) sg t2 t3 t5 t6 ?_
    have : s - ((J - 2 * (m : Int) : Int) : Rat) * tau = r - (J : Rat) * tau := by
      rw [t4, Rat.intCast_sub, Rat.intCast_mul, Rat.intCast_natCast]
      have e : ((2 : Int) : Rat) = 2 := by simp
      rw [e]; grind
    rw [this]; exact h
theorem rem_is {k d : Nat} {r : Rat} {J : Int} (hk : 100 < k) (hq : Q d r) (hd : d < 2 ^ 64) (h0 : -1020 ≤ r) (h1 : r ≤ 1020) (h : Sm (r - (J : Rat) * tau) eta) :
    ∃ y s', math_Remainder k d 4618760256179416344 = some y ∧ Q y s' ∧ y < 2 ^ 64 ∧ Sm s' (4 * eta) := by
  have hj : ∃ y s', math_remainder k d 4618760256179416344 = some y ∧ Q y s' ∧ y < 2 ^ 64 ∧ Sm s' (4 * eta) := by
    unfold math_remainder
    rw [isnan_is hq, sbind, br_false, isnan_is Q_tau, sbind]
    unfold math_remainder_j1
    rw [br_false, isinf_is hd hq (by grind) (by grind), sbind]
    unfold math_remainder_j2
    rw [br_false, feq_q Q_tau Q_nought, decide_eq_false (by grind)]
    unfold math_remainder_j3
    rw [br_false, isinf_is (by decide) Q_tau (by grind) (by grind), sbind, br_false, flt_q hq Q_nought]
    have e4 : ∀ x sg, math_remainder_j4 k 4618760256179416344 x sg = math_remainder_j5 k x sg 4618760256179416344 := by
      intro x sg
      unfold math_remainder_j4
      rw [flt_q Q_tau Q_nought, decide_eq_false (by grind), br_false]
    by_cases hn : r < 0
    · rw [decide_eq_true hn, br_true, e4]
      obtain ⟨h2, h3⟩ := h
      have e : fneg d = d ^^^ 2 ^ 63 := rfl
      refine j5_is (J := -J) true hk (Q_fneg hd hq) (by rw [e]; exact Nat.xor_lt_two_pow hd (by decide)) (by grind) (by grind) ?_
      rw [Rat.intCast_neg]
      constructor <;> grind
    · rw [decide_eq_false hn, br_false, e4]
      exact j5_is (J := J) false hk hq hd (by grind) h1 h
  obtain ⟨y, s', t1, t2, t3, t4⟩ := hj
  exact ⟨y, s', by unfold math_Remainder; rw [t1, sbind], t2, t3, t4⟩

/-! #### the loops -/
/-- the error of one step -/
abbrev cc : Rat := 1 / 4398046511104
theorem nat_succ_rat (J : Nat) : (((J + 1 : Nat)) : Rat) = (J : Rat) + 1 := by rw [Rat.natCast_add]; rfl
theorem loop1 (A : Rat) : ∀ (n k x : Nat) (r : Rat) (J : Nat), n < k → Q x r → x < 2 ^ 64 → -(6 * (n : Rat)) ≤ r → -1000 ≤ r → r ≤ tau + uu * 8 → Sm (r - A - (J : Rat) * tau) ((J : Rat) * cc) →
    ∃ y s, ∃ J' : Nat, xy_NormalizePositive_l1 k x = some y ∧ Q y s ∧ y < 2 ^ 64 ∧ 0 ≤ s ∧ s ≤ tau + uu * 8 ∧ Sm (s - A - (J' : Rat) * tau) ((J' : Rat) * cc) ∧ J' ≤ J + n := by
  intro n
  induction n with
  | zero =>
    intro k x r J hk hq hx h1 h2 h3 h4
    obtain ⟨k, rfl⟩ : ∃ j, k = j + 1 := ⟨k - 1, by omega⟩
    have e : (((0 : Nat)) : Rat) = 0 := by simp
    rw [e] at h1
    refine ⟨x, r, J, ?_, hq, hx, by grind, h3, h4, by omega⟩
    rw [xy_NormalizePositive_l1]
    unfold xy_NormalizePositive_l1s
    rw [flt_q hq Q_nought, decide_eq_false (by grind), br_false]
  | succ n ih =>
    intro k x r J hk hq hx h1 h2 h3 h4
    obtain ⟨k, rfl⟩ : ∃ j, k = j + 1 := ⟨k - 1, by omega⟩
    rw [nat_succ_rat] at h1
    by_cases hr : 0 ≤ r
    · refine ⟨x, r, J, ?_, hq, hx, hr, h3, h4, by omega⟩
      rw [xy_NormalizePositive_l1]
      unfold xy_NormalizePositive_l1s
      rw [flt_q hq Q_nought, decide_eq_false (by grind), br_false]
    · obtain ⟨e, q1, s1⟩ := gadd_full hq Q_tau (by constructor <;> grind)
      have s2 := sm_mul (show Sm (r + tau) 1020 from ⟨by grind, by grind⟩) s1
      obtain ⟨s3, s4⟩ := s2
      obtain ⟨s5, s6⟩ := s1
      have e1 : (r + tau) * (1 + e) = r + tau + (r + tau) * e := by grind
      obtain ⟨z, hz⟩ : ∃ z, (r + tau) * e = z := ⟨_, rfl⟩
      rw [hz] at s3 s4 e1
      have hsign : (0 ≤ r + tau → 0 ≤ (r + tau) * (1 + e)) ∧ (r + tau ≤ 0 → (r + tau) * (1 + e) ≤ 0) ∧ (0 ≤ r + tau → z ≤ uu * 8) := by
        refine ⟨fun h => Rat.mul_nonneg h (by grind), fun h => ?_, fun h => ?_⟩
        · have := Rat.mul_nonneg (show 0 ≤ -(r + tau) by grind) (show 0 ≤ 1 + e by grind)
          grind
        · rw [← hz]
          have := Rat.mul_nonneg h (show 0 ≤ uu - e by grind)
          grind
      obtain ⟨c1, c2, c3⟩ := hsign
      rw [e1] at q1 c1 c2
      obtain ⟨h5, h6⟩ := h4
      have n0 : (0 : Rat) ≤ (n : Rat) := by
        have : ((0 : Nat) : Rat) ≤ (n : Rat) := Rat.natCast_le_natCast.2 (Nat.zero_le _)
        simpa using this
      obtain ⟨y, s, J', t1, t2, t3, t4, t5, t6, t7⟩ := ih k _ _ (J + 1) (by omega) q1 (gadd_lt _ _) (by
          by_cases hp : 0 ≤ r + tau
          · have := c1 hp; grind
          · grind) (by
          by_cases hp : 0 ≤ r + tau
          · have := c1 hp; grind
          · grind) (by
          by_cases hp : 0 ≤ r + tau
          · have := c3 hp; grind
          · have := c2 (by grind); grind) (by
          rw [nat_succ_rat]
          constructor <;> grind)
      refine ⟨y, s, J', ?_, t2, t3, t4, t5, t6, by omega⟩
      rw [xy_NormalizePositive_l1]
      unfold xy_NormalizePositive_l1s
      rw [flt_q hq Q_nought, decide_eq_true (by grind), br_true, sbind]
      exact t1
theorem loop2 (A : Rat) : ∀ (n k x : Nat) (r : Rat) (J : Nat), n < k → Q x r → x < 2 ^ 64 → r < 6 * ((n : Rat) + 1) → 0 ≤ r → r ≤ 1000 → Sm (r - A + (J : Rat) * tau) ((J : Rat) * cc) →
    ∃ y s, ∃ J' : Nat, xy_NormalizePositive_l2 k x = some y ∧ Q y s ∧ y < 2 ^ 64 ∧ 0 ≤ s ∧ s < tau ∧ Sm (s - A + (J' : Rat) * tau) ((J' : Rat) * cc) ∧ J' ≤ J + n := by
  intro n
  induction n with
  | zero =>
    intro k x r J hk hq hx h1 h2 h3 h4
    obtain ⟨k, rfl⟩ : ∃ j, k = j + 1 := ⟨k - 1, by omega⟩
    have e : (((0 : Nat)) : Rat) = 0 := by simp
    rw [e] at h1
    refine ⟨x, r, J, ?_, hq, hx, h2, by grind, h4, by omega⟩
    rw [xy_NormalizePositive_l2]
    unfold xy_NormalizePositive_l2s
    rw [fge_q hq Q_tau, decide_eq_false (by grind), br_false]
  | succ n ih =>
    intro k x r J hk hq hx h1 h2 h3 h4
    obtain ⟨k, rfl⟩ : ∃ j, k = j + 1 := ⟨k - 1, by omega⟩
    rw [nat_succ_rat] at h1
    by_cases hr : r < tau
    · refine ⟨x, r, J, ?_, hq, hx, h2, hr, h4, by omega⟩
      rw [xy_NormalizePositive_l2]
      unfold xy_NormalizePositive_l2s
      rw [fge_q hq Q_tau, decide_eq_false (by grind), br_false]
    · obtain ⟨e, q1, s1⟩ := gsub_full hq Q_tau (by constructor <;> grind)
      have s2 := sm_mul (show Sm (r - tau) 1020 from ⟨by grind, by grind⟩) s1
      obtain ⟨s3, s4⟩ := s2
      obtain ⟨s5, s6⟩ := s1
      have c1 : 0 ≤ (r - tau) * (1 + e) := Rat.mul_nonneg (by grind) (by grind)
      have e1 : (r - tau) * (1 + e) = r - tau + (r - tau) * e := by grind
      obtain ⟨z, hz⟩ : ∃ z, (r - tau) * e = z := ⟨_, rfl⟩
      rw [hz] at s3 s4 e1
      rw [e1] at q1 c1
      obtain ⟨h5, h6⟩ := h4
      obtain ⟨y, s, J', t1, t2, t3, t4, t5, t6, t7⟩ := ih k _ _ (J + 1) (by omega) q1 (gsub_lt _ _) (by grind) c1 (by grind) (by
          rw [nat_succ_rat]
          constructor <;> grind)
      refine ⟨y, s, J', ?_, t2, t3, t4, t5, t6, by omega⟩
      rw [xy_NormalizePositive_l2]
      unfold xy_NormalizePositive_l2s
      rw [fge_q hq Q_tau, decide_eq_true (by grind), br_true, sbind]
      exact t1

/-- what the program tells -/
theorem np_is {k a : Nat} {A : Rat} (hk : 300 < k) (hq : Q a A) (ha : a < 2 ^ 64) (h1 : -1000 ≤ A) (h2 : A ≤ 1000) :
    ∃ y s, ∃ J : Int, impl_NormalizePositive k a = some y ∧ Q y s ∧ y < 2 ^ 64 ∧ 0 ≤ s ∧ s < tau ∧ Sm (s - A - (J : Rat) * tau) (200 * cc) ∧ (0 ≤ A → A < tau → y = a) := by
  unfold impl_NormalizePositive xy_NormalizePositive
  rw [flt_q hq Q_nought]
  by_cases hn : A < 0
  · rw [decide_eq_true hn, br_true]
    have e : (((167 : Nat)) : Rat) = 167 := rfl
    have e0 : (((0 : Nat)) : Rat) = 0 := by simp
    obtain ⟨y, s, J, t1, t2, t3, t4, t5, t6, t7⟩ := loop1 A 167 k a A 0 (by omega) hq ha (by rw [e]; grind) h1 (by grind) (by rw [e0]; constructor <;> grind)
    obtain ⟨t8, t9⟩ := t6
    have hJ : (J : Rat) ≤ 167 := by
      have : ((J : Nat) : Rat) ≤ ((167 : Nat) : Rat) := Rat.natCast_le_natCast.2 (by omega)
      exact this
    rw [t1, sbind, fge_q t2 Q_tau]
    by_cases hs : tau ≤ s
    · rw [decide_eq_true hs, br_true]
      refine ⟨0, 0, (J : Int) - 1, rfl, Q_nought, by decide, by grind, by grind, ?_, fun h => by grind⟩
      rw [Rat.intCast_sub, Rat.intCast_natCast]
      have e1 : ((1 : Int) : Rat) = 1 := by simp
      rw [e1]
      constructor <;> grind
    · rw [decide_eq_false hs, br_false]
      refine ⟨y, s, (J : Int), rfl, t2, t3, t4, by grind, ?_, fun h => by grind⟩
      rw [Rat.intCast_natCast]
      constructor <;> grind
  · rw [decide_eq_false hn, br_false]
    have e : (((167 : Nat)) : Rat) = 167 := rfl
    have e0 : (((0 : Nat)) : Rat) = 0 := by simp
    obtain ⟨y, s, J, t1, t2, t3, t4, t5, t6, t7⟩ := loop2 A 167 k a A 0 (by omega) hq ha (by rw [e]; grind) (by grind) h2 (by rw [e0]; constructor <;> grind)
    obtain ⟨t8, t9⟩ := t6
    have hJ : (J : Rat) ≤ 167 := by
      have : ((J : Nat) : Rat) ≤ ((167 : Nat) : Rat) := Rat.natCast_le_natCast.2 (by omega)
      exact this
    rw [t1, sbind, flt_q t2 Q_nought, decide_eq_false (by grind), br_false]
    refine ⟨y, s, -(J : Int), rfl, t2, t3, t4, t5, ?_, fun h5 h6 => ?_⟩
    · rw [Rat.intCast_neg, Rat.intCast_natCast]
      constructor <;> grind
    · obtain ⟨k, rfl⟩ : ∃ j, k = j + 1 := ⟨k - 1, by omega⟩
      rw [xy_NormalizePositive_l2] at t1
      unfold xy_NormalizePositive_l2s at t1
      rw [fge_q hq Q_tau, decide_eq_false (by grind), br_false] at t1
      exact (Option.some.inj t1).symm

/-! #### the law -/
theorem fin_abs {x : Nat} (hx : x < 2 ^ 64) (h : fle (x % 2 ^ 63) 4652007308841189376 = true) : ∃ N : Int, D x N 0 := by
  obtain ⟨b, hb, _⟩ := Q_thousand
  have h64 : x % 2 ^ 63 < 2 ^ 64 := by omega
  have hread : ∃ s m q, FloatKind.f64.format.read (x % 2 ^ 63) = .number s m ((q : Nat) - 1074 : Int) := by
    rcases fle_read hb h with ⟨s, m, i, hr⟩ | hr
    · rw [fmt_is] at hr
      have hi : ∃ q : Nat, i = (q : Int) - 1074 := by
        unfold Ieee.Format.read at hr
        simp only [Go.Sx.sign_is, binade_is, inf_is, least_is] at hr
        split at hr
        · simp only [Ieee.Datum.number.injEq] at hr; exact ⟨0, by omega⟩
        · split at hr
          · simp only [Ieee.Datum.number.injEq] at hr; exact ⟨x % 2 ^ 63 % 2 ^ 63 / 2 ^ 52 - 1, by omega⟩
          · split at hr <;> cases hr
      obtain ⟨q, rfl⟩ := hi
      exact ⟨s, m, q, hr⟩
    · exfalso
      rw [fmt_is] at hr
      unfold Ieee.Format.read at hr
      simp only [Go.Sx.sign_is, binade_is, inf_is, least_is] at hr
      have h0 : (x % 2 ^ 63 / 2 ^ 63 % 2 == 1) = false := by
        have : x % 2 ^ 63 / 2 ^ 63 = 0 := by omega
        rw [this]; rfl
      rw [h0] at hr
      split at hr
      · cases hr
      · split at hr
        · cases hr
        · split at hr <;> cases hr
  obtain ⟨s, m, q, hr⟩ := hread
  rw [fmt_is] at hr
  have hmm : x % 2 ^ 63 % 2 ^ 63 = x % 2 ^ 63 := by omega
  have hrx : ∃ s', Ieee.double.read x = .number s' m ((q : Int) - 1074) := by
    unfold Ieee.Format.read at hr ⊢
    simp only [Go.Sx.sign_is, binade_is, inf_is, least_is] at hr ⊢
    rw [hmm] at hr
    split at hr
    · rename_i c
      simp only [Ieee.Datum.number.injEq] at hr
      rw [if_pos c]
      exact ⟨_, by rw [hr.2.1, hr.2.2]⟩
    · rename_i c
      rw [if_neg c]
      split at hr
      · rename_i c2
        simp only [Ieee.Datum.number.injEq] at hr
        rw [if_pos c2]
        exact ⟨_, by rw [hr.2.1, hr.2.2]⟩
      · split at hr <;> cases hr
  obtain ⟨s', hr'⟩ := hrx
  exact ⟨signed s' m q, s', m, q, hr', by simp⟩
theorem main (k a : Nat) (hk : 300 < k) (ha : a < 2 ^ 64) : laws_FnNormalizePositive k a = some true := by
  unfold laws_FnNormalizePositive
  rw [abs_is k a ha, sbind]
  cases h0 : fle (a % 2 ^ 63) 4652007308841189376 with
  | false => rfl
  | true =>
    rw [Bool.not_true, br_false]
    obtain ⟨N, hN⟩ := fin_abs ha h0
    have hq : Q a ((N : Rat) / Un) := ⟨N, hN, by have := Un_pos; grind⟩
    obtain ⟨A, hA⟩ : ∃ A : Rat, (N : Rat) / Un = A := ⟨_, rfl⟩
    rw [hA] at hq
    have hb : -1000 ≤ A ∧ A ≤ 1000 := by
      obtain ⟨B, qB, B0, hB⟩ := Q_abs ha hq
      rw [fle_q qB Q_thousand] at h0
      have := of_decide_eq_true h0
      rcases hB with e | e <;> constructor <;> grind
    obtain ⟨y, s, J, t1, t2, t3, t4, t5, t6, t7⟩ := np_is (k := k) hk hq ha hb.1 hb.2
    obtain ⟨t8, t9⟩ := t6
    rw [t1, sbind, fge_q t2 Q_nought, decide_eq_true t4, br_true, fle_q t2 Q_tau, decide_eq_true (by grind)]
    unfold laws_FnNormalizePositive_j1
    rw [br_true, num_q t2, sbind]
    obtain ⟨e, q1, s1⟩ := gsub_full t2 hq (by constructor <;> grind)
    have s2 := sm_mul (show Sm (s - A) 1010 from ⟨by grind, by grind⟩) s1
    obtain ⟨s3, s4⟩ := s2
    have e1 : (s - A) * (1 + e) = s - A + (s - A) * e := by grind
    rw [e1] at q1
    obtain ⟨z, hz⟩ : ∃ z, (s - A) * e = z := ⟨_, rfl⟩
    rw [hz] at s3 s4 q1
    obtain ⟨w, s', w1, w2, w3, w4⟩ := rem_is (k := k) (J := J) (by omega) q1 (gsub_lt _ _) (by grind) (by grind) ⟨by grind, by grind⟩
    obtain ⟨w5, w6⟩ := w4
    obtain ⟨B, qB, B0, hB⟩ := Q_abs w3 w2
    have hr : laws_round k y a = some true := by
      unfold laws_round
      rw [sbind, num_q q1, sbind, w1, sbind, num_q w2, sbind, abs_is k w w3, sbind, flt_q qB Q_least30, decide_eq_true (by rcases hB with e | e <;> grind)]
    rw [hr, sbind]
    unfold laws_FnNormalizePositive_j2
    rw [br_true, flt_q hq Q_nought, fge_q hq Q_tau]
    by_cases c1 : A < 0
    · rw [decide_eq_true c1, br_true]; rfl
    · rw [decide_eq_false c1, br_false]
      by_cases c2 : tau ≤ A
      · rw [decide_eq_true c2, br_true]; rfl
      · rw [decide_eq_false c2, br_false, t7 (by grind) (by grind), feq_q hq hq, decide_eq_true rfl]; rfl
theorem fact_FnNormalizePositive (a0 : Nat) (g0 : a0 < 18446744073709551616) : laws_FnNormalizePositive 1000 a0 = some true := main 1000 a0 (by decide) g0
end Go.Proofs.Ytnemkhcjmenfnaa
