/-
  The length of a vector of the plane: the plain statement. Ours.
-/
import Derived.Test.YtehfdhhaglbnbaaLenEnd
namespace Go.Proofs.Ytehfdhhaglbnbaa
open Go.Sx
open Ieee (signed)
set_option linter.unusedVariables false
set_option linter.unusedSimpArgs false
set_option maxRecDepth 100000

theorem whole_rat {m : Int} (h : m.natAbs ≤ 1048576) : ((m : Rat) = 0 ∨ 1 / 2 ≤ (m : Rat) ∨ (m : Rat) ≤ -(1 / 2)) ∧ -1048576 ≤ (m : Rat) ∧ (m : Rat) ≤ 1048576 := by
  have h1 : ((-1048576 : Int) : Rat) ≤ (m : Rat) := Rat.intCast_le_intCast.2 (by omega)
  have h2 : (m : Rat) ≤ ((1048576 : Int) : Rat) := Rat.intCast_le_intCast.2 (by omega)
  refine ⟨?_, by simpa using h1, by simpa using h2⟩
  rcases Int.lt_trichotomy m 0 with h | h | h
  · right; right
    have : (m : Rat) ≤ ((-1 : Int) : Rat) := Rat.intCast_le_intCast.2 (by omega)
    have e : ((-1 : Int) : Rat) = -1 := by simp
    rw [e] at this; grind
  · left; subst h; simp
  · right; left
    have : ((1 : Int) : Rat) ≤ (m : Rat) := Rat.intCast_le_intCast.2 (by omega)
    have e : ((1 : Int) : Rat) = 1 := by simp
    rw [e] at this; grind
theorem whole2_one (j a0 a1 : Nat) (hj : 10 < j) (g0 : a0 < 18446744073709551616 ∧ a1 < 18446744073709551616) : ∃ b, laws_whole2 (j + 2) [(a0, a1)] = some b ∧ (b = true → ∃ m n : Int, D a0 m 1074 ∧ m.natAbs ≤ 1048576 ∧ D a1 n 1074 ∧ n.natAbs ≤ 1048576) := by
  obtain ⟨b, b1, b2⟩ := grid_rows (j + 1) [[a0, a1]] 2 (by omega) 4697254411347427328 (by simp) (by simp; omega)
  have b1' : spec_Grid (j + 1) [[a0, a1]] 2 4697254411347427328 = some b := b1
  refine ⟨b, ?_, fun hb => ?_⟩
  · unfold laws_whole2
    have i0 : idx [(a0, a1)] 0 = some (a0, a1) := rfl
    have i1 : decide ((0 : Int) < (([(a0, a1)] : List (Nat × Nat)).length : Int)) = true := rfl
    have i2 : decide ((1 : Int) < (([(a0, a1)] : List (Nat × Nat)).length : Int)) = false := rfl
    have i3 : iadd .i64 0 1 = 1 := by decide
    simp only [laws_whole2_l1, laws_whole2_l1s, i0, i1, i2, i3, br_true, br_false, sbind, laws_off2, b1']
    cases b <;> rfl
  · obtain ⟨hl, hg⟩ := b2 hb [a0, a1] (by simp)
    obtain ⟨m, dm, hm⟩ := offGrid_num20 (x := a0) (by omega) (hg 0 (by simp))
    obtain ⟨n, dn, hn⟩ := offGrid_num20 (x := a1) (by omega) (hg 1 (by simp))
    exact ⟨m, n, dm, hm, dn, hn⟩
theorem sq_pos (m : Int) : 0 ≤ m * m := by rw [← Int.natAbs_mul_self' m]; exact Int.mul_nonneg (by omega) (by omega)
theorem hyp2 {a0 a1 : Nat} {m n : Int} (g0 : a0 < 2 ^ 64) (g1 : a1 < 2 ^ 64) (dm : D a0 m 1074) (dn : D a1 n 1074) (hm : m.natAbs ≤ 1048576) (hn : n.natAbs ≤ 1048576) :
    ∃ z r e, fhypot a0 a1 = some z ∧ Q z r ∧ 0 ≤ r ∧ r * r = (((0 + m * m + n * n : Int)) : Rat) * (1 + e) ∧ Sm e (32 * uu) ∧ z < 2 ^ 64 := by
  obtain ⟨c1, c2, c3⟩ := whole_rat hm
  obtain ⟨c4, c5, c6⟩ := whole_rat hn
  obtain ⟨z, r, e, z1, z2, z3, z4, z5, z6⟩ := hyp_rel g0 g1 (Q_whole dm) (Q_whole dn) c1 c4 (by constructor <;> grind) (by constructor <;> grind)
  exact ⟨z, r, e, z1, z2, z3, by rw [z4]; simp, sm_mono z5 (by grind), z6⟩
theorem mk22 : mk 8 0 2 2 = some [0, 0] := by decide
theorem main2 (j a0 a1 : Nat) (hj : 1000 < j) (g0 : a0 < 18446744073709551616 ∧ a1 < 18446744073709551616) : laws_FnLength2 (j + 3) a0 a1 = some true := by
  obtain ⟨b, hw, b2⟩ := whole2_one (j + 1) a0 a1 (by omega) g0
  unfold laws_FnLength2
  rw [hw, sbind]
  cases b with
  | false => rfl
  | true =>
    obtain ⟨m, n, dm, hm, dn, hn⟩ := b2 rfl
    obtain ⟨z, r, e, z1, z2, z3, z4, z5, z6⟩ := hyp2 (a0 := a0) (a1 := a1) (by omega) (by omega) dm dn hm hn
    have hL : impl_Length2 (j + 3) a0 a1 = some z := by simp [impl_Length2, impl_vec2, r2_Norm, math_Hypot, z1]
    obtain ⟨x1, y1, v1, _⟩ := sq_step [a0, a1] [0, 0] (j + 2) 0 0 0 m (by simp) (by simp) rfl dm hm (D_zero 1074) (by simp) (by simp)
    have bm : (m * m).natAbs ≤ 1099511627776 := by rw [Int.natAbs_mul]; exact Nat.mul_le_mul hm hm
    obtain ⟨x2, y2, v2, lt2⟩ := sq_step [a0, a1] [0, 0] (j + 1) 1 x1 (0 + m * m) n (by simp) (by simp) rfl dn hn v1 (by omega) (by simp)
    have hS : spec_SquareN (j + 3) [a0, a1] [0, 0] = some x2 := by
      unfold spec_SquareN
      have y3 := sq_end [a0, a1] [0, 0] j x2
      have : spec_SquareN_l1 [a0, a1] [0, 0] (j + 3) (0, 0) = some x2 := by
        rw [show ((0 : Nat), (0 : Int)) = (0, ((0 : Nat) : Int)) from rfl, y1, y2]; exact y3
      rw [this]; rfl
    rw [Bool.not_true, br_false, hL, sbind, finite_is (j + 3) z2, sbind, nonneg_is z2 z3, Bool.not_true, br_false]
    unfold laws_FnLength2_j1
    rw [br_false]
    unfold laws_off2
    rw [sbind, mk22, sbind, hS, sbind]
    refine len_end (S := 0 + m * m + n * n) (e := e) (r := r) (by omega) lt2 z6 v2 z2 z4 z5 ?_
    · have q1 := sq_pos m
      have q2 := sq_pos n
      omega
theorem fact_FnLength2 (a0 a1 : Nat) (g0 : a0 < 18446744073709551616 ∧ a1 < 18446744073709551616) : laws_FnLength2 2000 a0 a1 = some true := main2 1997 a0 a1 (by omega) g0
end Go.Proofs.Ytehfdhhaglbnbaa
