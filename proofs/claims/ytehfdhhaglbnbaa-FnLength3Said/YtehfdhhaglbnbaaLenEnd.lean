/-
  The end of the laws of lengths: the exact comparison. Ours.
-/
import Derived.Test.YtehfdhhaglbnbaaExact3
import Derived.Test.YtehfdhhaglbnbaaGridRows
import Derived.Test.YtehfdhhaglbnbaaHypot
namespace Go.Proofs.Ytehfdhhaglbnbaa
open Go.Sx
open Ieee (signed)
set_option linter.unusedVariables false
set_option linter.unusedSimpArgs false
set_option maxRecDepth 100000

theorem Dr.rebase {B T : Int} {L : Nat} {s : Bool} {l : List Int} {e N : Int} (h : Dr B T L s l e N) (B' T' : Int) (d : Nat) (hd : B = B' + d) (hT : T ≤ T') : Dr B' T' L s l e (N * 2 ^ d) := by
  obtain ⟨⟨z, hz, hN⟩, h2, h3, h4⟩ := h
  refine ⟨⟨z, hz, ?_⟩, by omega, by omega, h4⟩
  rw [hN, Int.mul_assoc, ← Int.pow_add]
  congr 2; omega
theorem dabs_is {k : Nat} {B T : Int} {L : Nat} {s : Bool} {l : List Int} {e N : Int} (h : Dr B T L s l e N) : ∃ s', spec_Dyadic_Abs k s l e = some (s', l, e) ∧ Dr B T L s' l e (N.natAbs : Int) := by
  unfold spec_Dyadic_Abs
  rw [dsign_is h]
  simp only [sbind]
  by_cases h0 : N < 0
  · have e1 : decide (sgn N < 0) = true := by simp [sgn, h0]
    obtain ⟨s', m1, m2⟩ := dminus_is (k := k) h
    rw [e1, br_true, m1]
    refine ⟨s', rfl, ?_⟩
    rw [show (N.natAbs : Int) = -N from by omega]; exact m2
  · have e1 : decide (sgn N < 0) = false := by
      unfold sgn; rw [if_neg h0]; split <;> rfl
    rw [e1, br_false]
    refine ⟨s, rfl, ?_⟩
    rw [show (N.natAbs : Int) = N from by omega]; exact h
theorem sgn_le (n : Int) : decide (sgn n ≤ 0) = decide (n ≤ 0) := by
  unfold sgn
  by_cases h : n < 0
  · rw [if_pos h]; simp; omega
  · rw [if_neg h]
    by_cases h2 : n = 0
    · subst h2; rfl
    · rw [if_neg h2]; simp; omega

theorem sq_step (l z : List Nat) (k i x : Nat) (s m : Int) (hi : i < l.length) (hz : i < z.length) (hz0 : z[i] = 0) (hm : D l[i] m 1074) (hmb : m.natAbs ≤ 1048576) (hx : D x s 1074) (hs : s.natAbs ≤ 4398046511104) (hl : l.length < 10) :
    ∃ x', spec_SquareN_l1 l z (k + 1) (x, (i : Int)) = spec_SquareN_l1 l z k (x', ((i + 1 : Nat) : Int)) ∧ D x' (s + m * m) 1074 ∧ x' < 2 ^ 64 := by
  have hp : (m * m).natAbs ≤ 1099511627776 := by
    rw [Int.natAbs_mul]
    have := Nat.mul_le_mul hmb hmb; omega
  have d0 : D (0 : Nat) (0 : Int) 1074 := D_zero 1074
  obtain ⟨u1, e1, v1⟩ := D_sub hm d0 rfl (by omega) (by omega)
  rw [Int.sub_zero] at v1
  obtain ⟨u2, e2, v2⟩ := D_mul (u := 1074) v1 v1 rfl (by omega) (by omega) (by omega) (by omega)
  obtain ⟨u3, e3, v3⟩ := D_sum hx v2 rfl (by omega) (by omega)
  refine ⟨u3, ?_, v3, ?_⟩
  · simp only [spec_SquareN_l1, spec_SquareN_l1s, lt_true hi, br_true, idx_get hi, idx_get hz, hz0, Option.bind_eq_bind, Option.bind_some, e1, e2, e3, iadd_one (show i < 9223372036854775807 by omega)]
  · have : u3 = gadd x u2 := by unfold gadd; rw [e3]; rfl
    rw [this]; exact gadd_lt _ _
theorem sq_end (l z : List Nat) (k x : Nat) : spec_SquareN_l1 l z (k + 1) (x, (l.length : Int)) = some x := by
  simp only [spec_SquareN_l1, spec_SquareN_l1s, lt_false (Nat.lt_irrefl _), br_false]

/-- the comparison in rationals -/
theorem rat_end (N S : Int) (r e : Rat) (hN : (N : Rat) = r * Un) (h : r * r = (S : Rat) * (1 + e)) (he : Sm e (32 * uu)) (hS : 0 ≤ S) :
    ((N * N - S * 2 ^ 1074 * 2 ^ 1074).natAbs : Int) - S * 2 ^ 1074 * 2 ^ 1026 ≤ 0 := by
  have hU := Un_pos
  have eU : ((2 ^ 1074 : Int) : Rat) = Un := castpowi 1074
  have eV : ((2 ^ 1026 : Int) : Rat) * 281474976710656 = Un := by
    rw [castpowi]
    have : (281474976710656 : Rat) = 2 ^ 48 := by decide +kernel
    rw [this, ← ratpow_add]; rfl
  generalize (2 : Int) ^ 1074 = P at *
  generalize (2 : Int) ^ 1026 = W at *
  have hs : (0 : Rat) ≤ (S : Rat) := by
    have : ((0 : Int) : Rat) ≤ (S : Rat) := Rat.intCast_le_intCast.2 hS
    simpa using this
  obtain ⟨h1, h2⟩ := he
  have k1 := Rat.mul_nonneg hs (show 0 ≤ 32 * uu - e by grind)
  have k2 := Rat.mul_nonneg hs (show 0 ≤ 32 * uu + e by grind)
  have hUU := Rat.mul_pos hU hU
  have j1 := Rat.mul_nonneg k1 (Rat.le_of_lt hUU)
  have j2 := Rat.mul_nonneg k2 (Rat.le_of_lt hUU)
  have c1 : ((N * N - S * P * P : Int) : Rat) = (S : Rat) * e * (Un * Un) := by
    rw [Rat.intCast_sub, Rat.intCast_mul, Rat.intCast_mul, Rat.intCast_mul, hN, eU]
    have : r * Un * (r * Un) = r * r * (Un * Un) := by grind
    rw [this, h]; grind
  have c2 : ((S * P * W : Int) : Rat) * 281474976710656 = (S : Rat) * (Un * Un) := by
    rw [Rat.intCast_mul, Rat.intCast_mul, eU, Rat.mul_assoc, eV]; grind
  have key : N * N - S * P * P ≤ S * P * W ∧ -(N * N - S * P * P) ≤ S * P * W := by
    constructor
    · apply Rat.intCast_le_intCast.1
      rw [c1]
      generalize ((S * P * W : Int) : Rat) = Z at *
      grind
    · apply Rat.intCast_le_intCast.1
      rw [Rat.intCast_neg, c1]
      generalize ((S * P * W : Int) : Rat) = Z at *
      grind
  omega

/-- the law's last lines -/
theorem len_end {k w z : Nat} {S : Int} {r e : Rat} (hk : 1000 < k) (hw : w < 2 ^ 64) (hz : z < 2 ^ 64) (dw : D w S 1074) (qz : Q z r) (h : r * r = (S : Rat) * (1 + e)) (he : Sm e (32 * uu)) (hS : 0 ≤ S) :
    ((spec_DyadicOf k w) >>= fun r23 =>
    (spec_DyadicOf k z) >>= fun r25 =>
    (spec_DyadicOf k z) >>= fun r27 =>
    (spec_Dyadic_Mul k r25.1 r25.2.1 r25.2.2 r27.1 r27.2.1 r27.2.2) >>= fun r28 =>
    (spec_Dyadic_Sub k r28.1 r28.2.1 r28.2.2 r23.1 r23.2.1 r23.2.2) >>= fun r30 =>
    (spec_Dyadic_Abs k r30.1 r30.2.1 r30.2.2) >>= fun r31 =>
    (spec_Dyadic_Shift k r23.1 r23.2.1 r23.2.2 (-48)) >>= fun r34 =>
    (spec_Dyadic_Cmp k r31.1 r31.2.1 r31.2.2 r34.1 r34.2.1 r34.2.2) >>= fun r35 =>
    some (decide (r35 ≤ 0))) = some true := by
  obtain ⟨N, dz, hN⟩ := qz
  obtain ⟨s1, l1, e1, a1, w1⟩ := dyadicOf_is (k := k) hw dw (by omega)
  obtain ⟨s2, l2, e2, a2, w2⟩ := dyadicOf_is (k := k) hz dz (by omega)
  rw [show N * 2 ^ 0 = N from by simp] at w2
  obtain ⟨s3, l3, e3, a3, w3⟩ := dmul_is (k := k) w2 w2 (by decide) (by decide) (by decide) (by decide) (by decide) (by decide) (by omega)
  have w1' := w1.rebase (-1074 + -1074) (971 + 971) 1074 (by decide) (by decide)
  obtain ⟨s4, l4, e4, a4, w4⟩ := dsub_is (k := k) w3 (w1'.mono (T' := 971 + 971) (L' := 2 + 2) (by decide) (by decide)) (by decide) (by decide) (by decide) (by decide) (by simp; omega)
  obtain ⟨s5, a5, w5⟩ := dabs_is (k := k) w4
  have w6 : Dr (-1074 + -48) 971 2 s1 l1 (e1 + -48) (S * 2 ^ 1074) := by
    obtain ⟨⟨z, h1, h2⟩, h3, h4, h5⟩ := w1
    exact ⟨⟨z, h1, by rw [h2]; congr 2; omega⟩, by omega, by omega, h5⟩
  have hlo := w1.lo
  have hhi := w1.hi
  have a6 : iadd .i64 e1 (-48) = e1 + -48 := iadd_i64 (by omega) (by omega)
  have w6' := w6.rebase (-1074 + -1074) (971 + 971) 1026 (by decide) (by decide)
  obtain ⟨s7, l7, e7, a7, w7⟩ := dsub_is (k := k) w5 (w6'.mono (T' := 971 + 971) (L' := 2 + 2 + (971 + 971 - (-1074 + -1074)).toNat / 32 + 2) (by decide) (by decide)) (by decide) (by decide) (by decide) (by decide) (by simp; omega)
  have a8 := dsign_is (k := k) w7
  rw [a1, a2]
  simp only [sbind, a3, a4, a5, spec_Dyadic_Shift, a6, spec_Dyadic_Cmp, a7, a8, sgn_le]
  rw [decide_eq_true (rat_end N S r e hN h he hS)]
theorem finite_is {z : Nat} {r : Rat} (k : Nat) (qz : Q z r) : spec_Finite k z = some true := by
  obtain ⟨N, dz, hN⟩ := qz
  unfold spec_Finite
  rw [sbind, D_eq (near_self dz) (D_zero 0)]; rfl
theorem nonneg_is {z : Nat} {r : Rat} (qz : Q z r) (h : 0 ≤ r) : flt z 0 = false := by
  obtain ⟨N, dz, hN⟩ := qz
  rw [D_lt dz (D_zero 0)]
  have : 0 ≤ N := by
    apply Rat.intCast_le_intCast.1
    rw [hN]
    have := Rat.mul_nonneg h (Rat.le_of_lt Un_pos)
    simpa using this
  exact decide_eq_false (by omega)
end Go.Proofs.Ytehfdhhaglbnbaa
