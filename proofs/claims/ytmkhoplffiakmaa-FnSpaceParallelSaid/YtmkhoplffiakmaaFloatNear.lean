/-
  The float of a dyadic number that stands for a whole one of at most 2^60: nearer than its part of 2^-52. Ours.
-/
import Derived.Test.YtmkhoplffiakmaaExact5
import Derived.Test.YtmkhoplffiakmaaLdexpK
import Derived.Test.YtmkhoplffiakmaaRelat
namespace Go.Proofs.Ytmkhoplffiakmaa
open Go.Sx
open Ieee (signed)
set_option linter.unusedVariables false
set_option linter.unusedSimpArgs false
set_option maxRecDepth 100000

theorem up_core (M n b v : Nat) (h : v + 53 = 1074 + b) (h1 : M * 2 ^ b ≤ n * 2 ^ 53 + n * 2) : M * 2 ^ v * 2 ^ 52 ≤ n * 2 ^ 1074 * (2 ^ 52 + 1) := by
  obtain ⟨t, ht⟩ : ∃ t, t = 1074 := ⟨_, rfl⟩
  rw [← ht] at h ⊢
  have e1 : M * 2 ^ v * 2 ^ 52 * 2 = M * 2 ^ b * 2 ^ t := by
    have : 2 ^ v * 2 ^ 53 = 2 ^ b * 2 ^ t := by rw [← Nat.pow_add, ← Nat.pow_add, h, Nat.add_comm]
    have e2 : (2 : Nat) ^ 53 = 2 ^ 52 * 2 := by decide
    rw [Nat.mul_assoc, Nat.mul_assoc, ← e2, this, Nat.mul_assoc]
  have h2 := Nat.mul_le_mul_right (2 ^ t) h1
  rw [← e1] at h2
  have e3 : (n * 2 ^ 53 + n * 2) * 2 ^ t = n * 2 ^ t * (2 ^ 52 + 1) * 2 := by
    have : (2 : Nat) ^ 53 = 2 ^ 52 * 2 := by decide
    rw [this]
    generalize (2 : Nat) ^ t = A
    generalize (2 : Nat) ^ 52 = B
    grind
  rw [e3] at h2
  exact Nat.le_of_mul_le_mul_right h2 (by decide : 0 < 2)
theorem dn_core (M n b v : Nat) (h : v + 53 = 1074 + b) (h1 : n * 2 ^ 53 ≤ M * 2 ^ b + n * 2) : n * 2 ^ 1074 * 2 ^ 52 ≤ M * 2 ^ v * 2 ^ 52 + n * 2 ^ 1074 := by
  obtain ⟨t, ht⟩ : ∃ t, t = 1074 := ⟨_, rfl⟩
  rw [← ht] at h ⊢
  have e1 : M * 2 ^ v * 2 ^ 52 * 2 = M * 2 ^ b * 2 ^ t := by
    have : 2 ^ v * 2 ^ 53 = 2 ^ b * 2 ^ t := by rw [← Nat.pow_add, ← Nat.pow_add, h, Nat.add_comm]
    have e2 : (2 : Nat) ^ 53 = 2 ^ 52 * 2 := by decide
    rw [Nat.mul_assoc, Nat.mul_assoc, ← e2, this, Nat.mul_assoc]
  have h2 := Nat.mul_le_mul_right (2 ^ t) h1
  rw [Nat.add_mul, ← e1] at h2
  have e3 : n * 2 ^ 53 * 2 ^ t = n * 2 ^ t * 2 ^ 52 * 2 := by
    have : (2 : Nat) ^ 53 = 2 ^ 52 * 2 := by decide
    rw [this]
    generalize (2 : Nat) ^ t = A
    generalize (2 : Nat) ^ 52 = B
    grind
  have e4 : n * 2 * 2 ^ t = n * 2 ^ t * 2 := by
    generalize (2 : Nat) ^ t = A
    grind
  rw [e3, e4, ← Nat.add_mul] at h2
  exact Nat.le_of_mul_le_mul_right h2 (by decide : 0 < 2)
theorem zero_le1 (v a b : Nat) : 0 * 2 ^ v * 2 ^ a ≤ b := by rw [Nat.zero_mul, Nat.zero_mul]; exact Nat.zero_le _
theorem zero_le2 (t a b : Nat) : 0 * 2 ^ t * 2 ^ a ≤ b := by rw [Nat.zero_mul, Nat.zero_mul]; exact Nat.zero_le _
theorem zcase (o : Option Nat) (ho : o = some 0) : ∃ y, ∃ M v : Nat, o = some y ∧ D y (M : Int) v ∧ 1000 ≤ v ∧ v ≤ 1090 ∧ M ≤ 2 ^ 53 ∧ (M * 2 ^ v * 2 ^ 52 ≤ 0 * 2 ^ 1074 * (2 ^ 52 + 1)) ∧ (0 * 2 ^ 1074 * 2 ^ 52 ≤ M * 2 ^ v * 2 ^ 52 + 0 * 2 ^ 1074) := by
  obtain ⟨t, ht⟩ : ∃ t, t = 1074 := ⟨_, rfl⟩
  rw [← ht]
  exact ⟨0, 0, t, ho, D_zero t, by omega, by omega, Nat.zero_le _, zero_le1 _ _ _, zero_le2 _ _ _⟩
theorem low_tot (k : Nat) {s : Bool} {l : List Int} {z : Int} {n : Nat} (h : Wh s l z) (hn : n < 1000000) (hk : n < k) (hl : l.length < 1000000) : ∃ b, spec_Whole_low k s l (n : Int) = some b := by
  have := loop_any (F := spec_Whole_low_l1 (n : Int) s l) 0 n (fun i => bitZ z.natAbs (i : Int)) (.inl ()) (.inr ()) (fun k i _ hi => by
    have hb := bit_is (k := k) (n := (i : Int)) h (by omega) (by omega) hl
    simp only [spec_Whole_low_l1, spec_Whole_low_l1s, lt_true hi, br_true, hb, Option.bind_eq_bind, Option.bind_some]
    cases bitZ z.natAbs (i : Int)
    · rw [br_false, iadd_one (by omega)]; rfl
    · rfl) (fun k => by simp only [spec_Whole_low_l1, spec_Whole_low_l1s, lt_false (Nat.lt_irrefl _), br_false]) n 0 k (by omega) (by omega)
  have this' : spec_Whole_low_l1 (n : Int) s l k 0 = some _ := this
  unfold spec_Whole_low
  rw [this', sbind]
  split
  · exact ⟨_, rfl⟩
  · exact ⟨_, rfl⟩
theorem float_near {k : Nat} {s : Bool} {l : List Int} {z e : Int} {n : Nat} {K : Nat} (h : Wh s l z) (hl : l.length < 10000) (hk : 400000 < k) (he0 : -(K : Int) ≤ e) (he1 : e < 100000) (hK : K < 100000) (hv : z * 2 ^ (e + K).toNat = (n : Int) * 2 ^ K) (hn60 : n < 2 ^ 60) :
    ∃ y, ∃ M v : Nat, spec_Dyadic_Float k s l e = some y ∧ D y (M : Int) v ∧ 1000 ≤ v ∧ v ≤ 1090 ∧ M ≤ 2 ^ 53 ∧ (M * 2 ^ v * 2 ^ 52 ≤ n * 2 ^ 1074 * (2 ^ 52 + 1)) ∧ (n * 2 ^ 1074 * 2 ^ 52 ≤ M * 2 ^ v * 2 ^ 52 + n * 2 ^ 1074) := by
  have hsgn : spec_Dyadic_Sign k s l e = some (sgn z) := by simp [spec_Dyadic_Sign, Go.Proofs.Ytmkhoplffiakmaa.sign_is h]
  have hpK : (0 : Int) < 2 ^ K := Int.pow_pos (by omega)
  have hpe : (0 : Int) < 2 ^ (e + K).toNat := Int.pow_pos (by omega)
  unfold spec_Dyadic_Float
  rw [hsgn]
  simp only [Option.bind_eq_bind, Option.bind_some]
  by_cases hz : z = 0
  · subst hz
    have hN0 : n = 0 := by
      rw [Int.zero_mul] at hv
      rcases Int.mul_eq_zero.1 hv.symm with h' | h'
      · omega
      · omega
    subst hN0
    exact zcase _ (by simp [sgn])
  · have hd0 : decide (sgn z = 0) = false := by simp [sgn_zero, hz]
    rw [hd0, br_false]
    have hzp : 0 < z := by
      rcases Int.lt_or_le 0 z with h' | h'
      · exact h'
      · have h1 : z < 0 := by omega
        have h2 := Int.mul_neg_of_neg_of_pos h1 hpe
        have h3 : (0 : Int) ≤ (n : Int) * 2 ^ K := Int.mul_nonneg (by omega) (Int.le_of_lt hpK)
        omega
    obtain ⟨Z, hZ⟩ : ∃ Z, z.natAbs = Z := ⟨_, rfl⟩
    obtain ⟨p, hp⟩ : ∃ p, (e + K).toNat = p := ⟨_, rfl⟩
    have hnat : Z * 2 ^ p = n * 2 ^ K := by
      have := congrArg Int.natAbs hv
      rw [Int.natAbs_mul, Int.natAbs_mul, Int.natAbs_pow, Int.natAbs_pow, hZ, hp] at this
      exact this
    have hZ0 : 0 < Z := by omega
    have hn0 : 0 < n := by
      rcases Nat.eq_zero_or_pos n with h' | h'
      · rw [h', Nat.zero_mul] at hnat
        have := Nat.mul_pos hZ0 (Nat.two_pow_pos p); omega
      · exact h'
    obtain ⟨T, hT⟩ : ∃ T, Z.log2 + 1 = T := ⟨_, rfl⟩
    obtain ⟨b, hb⟩ : ∃ b, n.log2 + 1 = b := ⟨_, rfl⟩
    have hZ1 : 2 ^ (T - 1) ≤ Z := by rw [← hT]; exact Nat.log2_self_le (by omega)
    have hZ2 : Z < 2 ^ T := by rw [← hT]; exact Nat.lt_log2_self
    have hn1 : 2 ^ (b - 1) ≤ n := by rw [← hb]; exact Nat.log2_self_le (by omega)
    have hn2 : n < 2 ^ b := by rw [← hb]; exact Nat.lt_log2_self
    have hb60 : b ≤ 60 := by
      have := (Nat.log2_lt (n := n) (k := 60) (by omega)).2 (by omega)
      omega
    have hTp : T + p = b + K := by
      have a1 : 2 ^ (T - 1 + p) ≤ n * 2 ^ K := by rw [← hnat, Nat.pow_add]; exact Nat.mul_le_mul_right _ hZ1
      have a2 : n * 2 ^ K < 2 ^ (b + K) := by rw [Nat.pow_add]; exact Nat.mul_lt_mul_of_pos_right hn2 (Nat.two_pow_pos _)
      have a3 : 2 ^ (b - 1 + K) ≤ Z * 2 ^ p := by rw [hnat, Nat.pow_add]; exact Nat.mul_le_mul_right _ hn1
      have a4 : Z * 2 ^ p < 2 ^ (T + p) := by rw [Nat.pow_add]; exact Nat.mul_lt_mul_of_pos_right hZ2 (Nat.two_pow_pos _)
      have b1 := (Nat.pow_lt_pow_iff_right (a := 2) (by omega)).1 (Nat.lt_of_le_of_lt a1 a2)
      have b2 := (Nat.pow_lt_pow_iff_right (a := 2) (by omega)).1 (Nat.lt_of_le_of_lt a3 a4)
      omega
    have hTl : T ≤ 32 * l.length := by
      have h5 := lv_lt h.lb.lim
      rw [h.lb.val, hZ, show (4294967296 : Int) ^ l.length = ((2 ^ (32 * l.length) : Nat) : Int) from by
        rw [Nat.pow_mul, show (2 : Nat) ^ 32 = 4294967296 from rfl]; exact Go.Proofs.Ytmkhoplffiakmaa.powcast 4294967296 _] at h5
      have h6 : Z < 2 ^ (32 * l.length) := by omega
      have := (Nat.log2_lt (n := Z) (by omega)).2 h6
      omega
    have heq : e = (b : Int) - T := by omega
    have htop := top_is (k := k) h hz (by omega) (by omega)
    rw [hZ, hT] at htop
    have hkeep : imin 53 (iadd .i64 (iadd .i64 (T : Int) e) 1074) = 53 := by
      rw [iadd_i64 (a := (T : Int)) (by omega) (by omega), iadd_i64 (by omega) (by omega)]
      unfold imin; rw [if_neg (by omega)]
    have hloop := float_loop (e := e) (T := T) h hz (by omega) (by rw [hZ, hT]) (by omega) (by omega) (by omega) (by omega) 53 k 0 (by omega) (by omega) (by omega)
    rw [hZ, Nat.pow_zero, Nat.mul_one, Nat.div_eq_of_lt hZ2] at hloop
    obtain ⟨m, hmm⟩ : ∃ m, Z * 2 ^ 53 / 2 ^ T = m := ⟨_, rfl⟩
    rw [hmm] at hloop
    have hP := Nat.two_pow_pos T
    have hlo : m * 2 ^ T ≤ Z * 2 ^ 53 := by rw [← hmm]; exact Nat.div_mul_le_self _ _
    have hhi : Z * 2 ^ 53 < (m + 1) * 2 ^ T := by
      rw [← hmm]
      have := Nat.lt_div_mul_add hP (a := Z * 2 ^ 53)
      rw [Nat.add_mul, Nat.one_mul]; exact this
    have hm1 : m < 2 ^ 53 := by
      rw [← hmm]
      apply Nat.div_lt_of_lt_mul
      exact Nat.mul_lt_mul_of_pos_right hZ2 (Nat.two_pow_pos 53)
    -- against n
    have key : m * 2 ^ b ≤ n * 2 ^ 53 ∧ n * 2 ^ 53 < (m + 1) * 2 ^ b := by
      have e1 : ∀ x : Nat, x * 2 ^ T * 2 ^ p = x * 2 ^ b * 2 ^ K := fun x => by
        rw [Nat.mul_assoc, ← Nat.pow_add, hTp, Nat.pow_add, Nat.mul_assoc]
      have e2 : Z * 2 ^ 53 * 2 ^ p = n * 2 ^ 53 * 2 ^ K := by
        rw [Nat.mul_assoc, Nat.mul_comm (2 ^ 53), ← Nat.mul_assoc, hnat, Nat.mul_assoc, Nat.mul_comm (2 ^ K), ← Nat.mul_assoc]
      constructor
      · have := Nat.mul_le_mul_right (2 ^ p) hlo
        rw [e1, e2] at this
        exact Nat.le_of_mul_le_mul_right this (Nat.two_pow_pos K)
      · have := Nat.mul_lt_mul_of_pos_right hhi (Nat.two_pow_pos p)
        rw [e1, e2] at this
        exact Nat.lt_of_mul_lt_mul_right this
    have hcut : isub .i64 (T : Int) 53 = (T : Int) - 53 := isub_i64 (by omega) (by omega)
    have hadd : iadd .i64 e ((T : Int) - 53) = (b : Int) - 53 := by rw [iadd_i64 (by omega) (by omega)]; omega
    obtain ⟨v, hvv⟩ : ∃ v, (1074 + ((b : Int) - 53)).toNat = v := ⟨_, rfl⟩
    have hb1 : 1 ≤ b := by omega
    have hj6 : ∀ M : Nat, M ≤ 2 ^ 53 → ∃ y', spec_Dyadic_Float_j6 k e (T : Int) (T : Int) s (M : Int) = some y' ∧ D y' (M : Int) v := by
      intro M hM
      obtain ⟨y, y1, y2, y3⟩ := ldexpk k (x := i2f (M : Int)) (X := (M : Int)) (e := (b : Int) - 53) (i2f_lt _) (D_i2f (by omega)) (by omega) (by omega) (by omega)
      rw [hvv] at y2
      unfold spec_Dyadic_Float_j6
      rw [hkeep, hcut, hadd, y1]
      simp only [Option.bind_eq_bind, Option.bind_some]
      rw [h.sg, show decide (z < 0) = false from decide_eq_false (by omega)]
      exact ⟨y, rfl, y2⟩
    have hl0 : spec_Dyadic_Float_l1 (T : Int) e s l k (0, 0) = some (m : Int) := hloop
    simp only [htop, Option.bind_some, hl0, hkeep, hcut]
    -- either of the two is near
    have near : ∀ M, (M = m ∨ M = m + 1) → 1000 ≤ v ∧ v ≤ 1090 ∧ M ≤ 2 ^ 53 ∧ (M * 2 ^ v * 2 ^ 52 ≤ n * 2 ^ 1074 * (2 ^ 52 + 1)) ∧ (n * 2 ^ 1074 * 2 ^ 52 ≤ M * 2 ^ v * 2 ^ 52 + n * 2 ^ 1074) := by
      intro M hM
      have hvb : v + 53 = 1074 + b := by omega
      refine ⟨by omega, by omega, by omega, ?_, ?_⟩
      · have h1 : M * 2 ^ b ≤ n * 2 ^ 53 + 2 ^ b := by
          rcases hM with rfl | rfl
          · omega
          · rw [Nat.add_mul, Nat.one_mul]; omega
        have h2 : 2 ^ b ≤ n * 2 := by
          have : 2 ^ b = 2 ^ (b - 1) * 2 := by rw [← Nat.pow_succ]; congr 1; omega
          omega
        exact up_core M n b v hvb (by omega)
      · have h1 : n * 2 ^ 53 ≤ M * 2 ^ b + 2 ^ b := by
          rcases hM with rfl | rfl
          · have := key.2
            rw [Nat.add_mul, Nat.one_mul] at this; omega
          · have := key.2; omega
        have h2 : 2 ^ b ≤ n * 2 := by
          have : 2 ^ b = 2 ^ (b - 1) * 2 := by rw [← Nat.pow_succ]; congr 1; omega
          omega
        exact dn_core M n b v hvb (by omega)
    have hj5 : ∀ c, ∃ y', ∃ M : Nat, spec_Dyadic_Float_j5 k e (T : Int) (T : Int) s (m : Int) c = some y' ∧ D y' (M : Int) v ∧ (M = m ∨ M = m + 1) := by
      intro c
      unfold spec_Dyadic_Float_j5
      cases c with
      | false => obtain ⟨y', q1, q2⟩ := hj6 m (by omega); exact ⟨y', m, by rw [br_false]; exact q1, q2, .inl rfl⟩
      | true =>
        obtain ⟨y', q1, q2⟩ := hj6 (m + 1) (by omega)
        refine ⟨y', m + 1, ?_, q2, .inr rfl⟩
        have hu : iadd .u64 (m : Int) 1 = ((m + 1 : Nat) : Int) := by
          unfold iadd; rw [wrap_u64_id (by omega) (by omega)]; omega
        rw [br_true, hu]; exact q1
    have hj3 : ∀ c, ∃ y', ∃ M : Nat, spec_Dyadic_Float_j3 k (m : Int) e (T : Int) (T : Int) s l c = some y' ∧ D y' (M : Int) v ∧ (M = m ∨ M = m + 1) := by
      intro c
      unfold spec_Dyadic_Float_j3 spec_Dyadic_Float_j4
      cases c with
      | false => rw [br_false]; exact hj5 false
      | true =>
        have hr : irem (m : Int) 2 = some ((m % 2 : Nat) : Int) := by
          unfold irem; rw [if_neg (by decide), Int.tmod_eq_emod_of_nonneg (by omega)]; rfl
        rw [br_true, hr, sbind]
        cases decide (((m % 2 : Nat) : Int) = 1) with
        | true => rw [br_true]; exact hj5 true
        | false =>
          rw [br_false, hkeep, hcut]
          have hlow : ∃ c, spec_Whole_low k s l (isub .i64 ((T : Int) - 53) 1) = some c := by
            rw [isub_i64 (by omega) (by omega)]
            by_cases hc : 0 ≤ (T : Int) - 53 - 1
            · obtain ⟨t, ht⟩ : ∃ t : Nat, (T : Int) - 53 - 1 = t := ⟨((T : Int) - 53 - 1).toNat, by omega⟩
              rw [ht]; exact low_tot k h (by omega) (by omega) (by omega)
            · obtain ⟨k, rfl⟩ : ∃ j, k = j + 1 := ⟨k - 1, by omega⟩
              unfold spec_Whole_low
              have : spec_Whole_low_l1 ((T : Int) - 53 - 1) s l (k + 1) 0 = some (.inr ()) := by
                simp only [spec_Whole_low_l1, spec_Whole_low_l1s, decide_eq_false (show ¬ (0 : Int) < (T : Int) - 53 - 1 by omega), br_false]
              rw [this]; exact ⟨_, rfl⟩
          obtain ⟨c, hc⟩ := hlow
          rw [hc, sbind]
          exact hj5 c
    by_cases hc : 0 < (T : Int) - 53
    · have hs1 : isub .i64 ((T : Int) - 53) 1 = ((T - 54 : Nat) : Int) := by rw [isub_i64 (by omega) (by omega)]; omega
      have hbit := bit_is (k := k) (n := ((T - 54 : Nat) : Int)) h (by omega) (by omega) (by omega)
      rw [decide_eq_true hc, br_true, hs1, hbit]
      simp only [Option.bind_some]
      obtain ⟨y', M, q1, q2, q3⟩ := hj3 (bitZ z.natAbs ((T - 54 : Nat) : Int))
      obtain ⟨n1, n2, n3, n4, n5⟩ := near M q3
      exact ⟨y', M, v, q1, q2, n1, n2, n3, n4, n5⟩
    · rw [decide_eq_false hc, br_false]
      obtain ⟨y', M, q1, q2, q3⟩ := hj3 false
      obtain ⟨n1, n2, n3, n4, n5⟩ := near M q3
      exact ⟨y', M, v, q1, q2, n1, n2, n3, n4, n5⟩
theorem div_ge {A N U : Rat} (hU : 0 < U) (h : N * U ≤ A) : N ≤ A / U := by
  have h1 := Rat.mul_nonneg (show 0 ≤ A - N * U by grind) (Rat.le_of_lt (Rat.inv_pos.2 hU))
  rw [Rat.div_def]
  have h2 : U * U⁻¹ = 1 := Rat.mul_inv_cancel _ (by grind)
  have h3 : (A - N * U) * U⁻¹ = A * U⁻¹ - N * (U * U⁻¹) := by generalize U⁻¹ = I; grind
  rw [h3, h2] at h1
  generalize A * U⁻¹ = P at *
  grind
theorem div_le' {A N U : Rat} (hU : 0 < U) (h : A ≤ N * U) : A / U ≤ N := by
  have h1 := Rat.mul_nonneg (show 0 ≤ N * U - A by grind) (Rat.le_of_lt (Rat.inv_pos.2 hU))
  rw [Rat.div_def]
  have h2 : U * U⁻¹ = 1 := Rat.mul_inv_cancel _ (by grind)
  have h3 : (N * U - A) * U⁻¹ = N * (U * U⁻¹) - A * U⁻¹ := by generalize U⁻¹ = I; grind
  rw [h3, h2] at h1
  generalize A * U⁻¹ = P at *
  grind
theorem Un_is (t : Nat) (ht : t = 1074) : (2 : Rat) ^ t = Un := by subst ht; rfl
/-- The same in numbers. -/
theorem float_q {k : Nat} {s : Bool} {l : List Int} {z e : Int} {n : Nat} {K : Nat} (h : Wh s l z) (hl : l.length < 10000) (hk : 400000 < k) (he0 : -(K : Int) ≤ e) (he1 : e < 100000) (hK : K < 100000) (hv : z * 2 ^ (e + K).toNat = (n : Int) * 2 ^ K) (hn60 : n < 2 ^ 60) :
    ∃ y r, spec_Dyadic_Float k s l e = some y ∧ Q y r ∧ (n : Rat) * (1 - 1 / 4503599627370496) ≤ r ∧ r ≤ n * (1 + 1 / 4503599627370496) := by
  obtain ⟨y, M, v, y1, y2, v0, v1, hM, h1, h2⟩ := float_near h hl hk he0 he1 hK hv hn60
  have hU := Un_pos
  have h52 : (2 : Rat) ^ 52 = 4503599627370496 := by rw [← castpow]; rfl
  obtain ⟨t, ht⟩ : ∃ t, t = 1074 := ⟨_, rfl⟩
  rw [← ht] at h1 h2
  refine ⟨y, _, y1, Q_of y2, ?_, ?_⟩
  · have := Rat.natCast_le_natCast.2 h2
    rw [Rat.natCast_add, Rat.natCast_mul, Rat.natCast_mul, Rat.natCast_mul, Rat.natCast_mul, castpow, castpow, castpow, Un_is t ht, h52] at this
    apply div_ge hU
    rw [Rat.intCast_natCast]
    generalize (M : Rat) * 2 ^ v = A at *
    generalize (n : Rat) = N at *
    generalize Un = U at *
    grind
  · have := Rat.natCast_le_natCast.2 h1
    rw [Rat.natCast_mul, Rat.natCast_mul, Rat.natCast_mul, Rat.natCast_mul, Rat.natCast_add, castpow, castpow, castpow, Un_is t ht, h52] at this
    apply div_le' hU
    rw [Rat.intCast_natCast]
    have e1 : ((1 : Nat) : Rat) = 1 := rfl
    rw [e1] at this
    generalize (M : Rat) * 2 ^ v = A at *
    generalize (n : Rat) = N at *
    generalize Un = U at *
    grind
end Go.Proofs.Ytmkhoplffiakmaa
