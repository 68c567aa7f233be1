/-
  The turn of three places as the program tells it, and as the reference tells it: both are the sign of one determinant, exactly. Ours.
-/
import Derived.Test.YtekppafmaoefaaaDoorPlaneTo
import Derived.Test.YtekppafmaoefaaaDoorExact3
namespace Go.Proofs.YtekppafmaoefaaaDoor
open Go.Sx
open Ieee (signed)
set_option linter.unusedVariables false
set_option linter.unusedSimpArgs false
set_option maxRecDepth 100000

theorem num_ok {x : Nat} {n : Int} {v : Nat} (h : D x n v) : num x = some x := by
  have : isn x = false := D_num h
  unfold num; rw [this]; rfl
theorem idx0 (x y : Nat) : idx [x, y] 0 = some x := rfl
theorem idx1 (x y : Nat) : idx [x, y] 1 = some y := rfl
theorem sgn_le (n : Int) : decide (sgn n ≤ 1) = true := by
  unfold sgn; split
  · decide
  · split <;> decide
theorem sgn_scale {z p : Int} (hp : 0 < p) : sgn (z * p) = sgn z := by
  unfold sgn
  by_cases h : z < 0
  · rw [if_pos h, if_pos (Int.mul_neg_of_neg_of_pos h hp)]
  · rw [if_neg h, if_neg (by have := Int.mul_nonneg (show 0 ≤ z by omega) (show 0 ≤ p by omega); omega)]
    by_cases h0 : z = 0
    · subst h0; simp
    · rw [if_neg h0, if_neg (by intro h'; rcases Int.mul_eq_zero.1 h' with h | h <;> omega)]
theorem based_is (k : Nat) {x : Nat} {n : Int} {v : Nat} (h : D x n v) : bigxy_orientationBasedOnSign k x = some (sgn n) := by
  unfold bigxy_orientationBasedOnSign sgn
  rw [D_gt h (D_zero v), D_lt h (D_zero v)]
  by_cases h1 : 0 < n
  · rw [decide_eq_true h1, br_true, if_neg (by omega), if_neg (by omega)]
  · rw [decide_eq_false h1, br_false]
    by_cases h2 : n < 0
    · rw [decide_eq_true h2, br_true, if_pos h2]
    · rw [decide_eq_false h2, br_false, if_neg h2, if_pos (by omega)]
theorem prod_le {a b : Int} {m n : Nat} (ha : a.natAbs ≤ m) (hb : b.natAbs ≤ n) : (a * b).natAbs ≤ m * n := by
  rw [Int.natAbs_mul]; exact Nat.mul_le_mul ha hb

theorem filter_is (k : Nat) {a0 a1 b0 b1 p0 p1 : Nat} {A0 A1 B0 B1 P0 P1 : Int} {v u : Nat} (ha0 : D a0 A0 v) (ha1 : D a1 A1 v) (hb0 : D b0 B0 v) (hb1 : D b1 B1 v) (hp0 : D p0 P0 v) (hp1 : D p1 P1 v)
    (l1 : A0.natAbs ≤ 33554432) (l2 : A1.natAbs ≤ 33554432) (l3 : B0.natAbs ≤ 33554432) (l4 : B1.natAbs ≤ 33554432) (l5 : P0.natAbs ≤ 33554432) (l6 : P1.natAbs ≤ 33554432)
    (hv : v ≤ 2044) (hu : v + v = u + 1074) (hu1 : 104 ≤ u) (hu2 : u ≤ 2044) :
    ∃ r, bigxy_orientationIndexFilter k [a0, a1] [b0, b1] [p0, p1] = some r ∧ (r = sgn ((A0 - P0) * (B1 - P1) - (A1 - P1) * (B0 - P0)) ∨ r = 2) := by
  obtain ⟨z1, e1, d1⟩ := D_sub ha0 hp0 rfl (by omega) hv
  obtain ⟨z2, e2, d2⟩ := D_sub hb1 hp1 rfl (by omega) hv
  obtain ⟨z4, e4, d4⟩ := D_sub ha1 hp1 rfl (by omega) hv
  obtain ⟨z5, e5, d5⟩ := D_sub hb0 hp0 rfl (by omega) hv
  have n1 := prod_le (a := A0 - P0) (b := B1 - P1) (m := 67108864) (n := 67108864) (by omega) (by omega)
  have n2 := prod_le (a := A1 - P1) (b := B0 - P0) (m := 67108864) (n := 67108864) (by omega) (by omega)
  obtain ⟨z3, e3, d3⟩ := D_mul d1 d2 rfl hu hu1 (by omega) hu2
  obtain ⟨z6, e6, d6⟩ := D_mul d4 d5 rfl hu hu1 (by omega) hu2
  have d7 := gsub_D d3 d6 rfl (by omega) hu2
  generalize (A0 - P0) * (B1 - P1) = L at *
  generalize (A1 - P1) * (B0 - P0) = R at *
  unfold bigxy_orientationIndexFilter
  simp only [idx0, idx1, sbind, e1, e2, e3, e4, e5, e6]
  generalize gsub z3 z6 = w at *
  have fin : (num w >>= fun u1 => bigxy_orientationBasedOnSign k w >>= fun r53 => some r53) = some (sgn (L - R)) := by
    rw [num_ok d7, sbind, based_is k d7, sbind]
  have hj : ∀ x, ∃ r, bigxy_orientationIndexFilter_j1 k w x = some r ∧ (r = sgn (L - R) ∨ r = 2) := by
    intro x
    have h2 : ∀ b, ∃ r, bigxy_orientationIndexFilter_j2 k w b = some r ∧ (r = sgn (L - R) ∨ r = 2) := by
      intro b
      unfold bigxy_orientationIndexFilter_j2
      cases b
      · exact ⟨2, rfl, .inr rfl⟩
      · rw [br_true, fin]; exact ⟨_, rfl, .inl rfl⟩
    unfold bigxy_orientationIndexFilter_j1
    rw [sbind]
    cases fge w (gmul 4382569440205035030 x)
    · rw [br_false]; exact h2 _
    · rw [br_true]; exact h2 _
  rw [fin]
  cases fgt z3 0
  · rw [br_false]
    cases flt z3 0
    · rw [br_false]; exact ⟨_, rfl, .inl rfl⟩
    · rw [br_true]
      cases fge z6 0
      · rw [br_false]; exact hj _
      · rw [br_true]; exact ⟨_, rfl, .inl rfl⟩
  · rw [br_true]
    cases fle z6 0
    · rw [br_false]; exact hj _
    · rw [br_true]; exact ⟨_, rfl, .inl rfl⟩

theorem orient_is (k : Nat) {a0 a1 b0 b1 p0 p1 : Nat} {A0 A1 B0 B1 P0 P1 : Int} {v u : Nat} (ha0 : D a0 A0 v) (ha1 : D a1 A1 v) (hb0 : D b0 B0 v) (hb1 : D b1 B1 v) (hp0 : D p0 P0 v) (hp1 : D p1 P1 v)
    (l1 : A0.natAbs ≤ 33554432) (l2 : A1.natAbs ≤ 33554432) (l3 : B0.natAbs ≤ 33554432) (l4 : B1.natAbs ≤ 33554432) (l5 : P0.natAbs ≤ 33554432) (l6 : P1.natAbs ≤ 33554432)
    (hv : v ≤ 2044) (hu : v + v = u + 1074) (hu1 : 104 ≤ u) (hu2 : u ≤ 2044) :
    bigxy_OrientationIndex k [a0, a1] [b0, b1] [p0, p1] = some (sgn ((B0 - A0) * (P1 - A1) - (B1 - A1) * (P0 - A0))) := by
  obtain ⟨r, h1, h2⟩ := filter_is k ha0 ha1 hb0 hb1 hp0 hp1 l1 l2 l3 l4 l5 l6 hv hu hu1 hu2
  have t1 : (A0 - P0) * (B1 - P1) - (A1 - P1) * (B0 - P0) = (B0 - A0) * (P1 - A1) - (B1 - A1) * (P0 - A0) := by grind
  rw [t1] at h2
  unfold bigxy_OrientationIndex
  rw [h1, sbind]
  rcases h2 with rfl | rfl
  · rw [sgn_le, br_true]
  rw [show decide ((2 : Int) ≤ 1) = false from rfl, br_false]
  obtain ⟨z1, e1, d1⟩ := D_sub hb0 ha0 rfl (by omega) hv
  obtain ⟨z2, e2, d2⟩ := D_sub hb1 ha1 rfl (by omega) hv
  obtain ⟨z4, e4, d4⟩ := D_sub hp0 hb0 rfl (by omega) hv
  obtain ⟨z5, e5, d5⟩ := D_sub hp1 hb1 rfl (by omega) hv
  have n1 := prod_le (a := B0 - A0) (b := P1 - B1) (m := 67108864) (n := 67108864) (by omega) (by omega)
  have n2 := prod_le (a := B1 - A1) (b := P0 - B0) (m := 67108864) (n := 67108864) (by omega) (by omega)
  have d3 := gmul_D d1 d5 rfl hu hu1 (by omega) hu2
  have d6 := gmul_D d2 d4 rfl hu hu1 (by omega) hu2
  have d7 := gsub_D d3 d6 rfl (by omega) hu2
  have t2 : (B0 - A0) * (P1 - B1) - (B1 - A1) * (P0 - B0) = (B0 - A0) * (P1 - A1) - (B1 - A1) * (P0 - A0) := by grind
  rw [t2] at d7
  simp only [idx0, idx1, sbind, e1, e2, e4, e5]
  rw [num_ok d7, sbind, based_is k d7, sbind]

/-- three places as the reference holds them -/
theorem exactly_is (k x y : Nat) (hx : x < 2 ^ 64) (hy : y < 2 ^ 64) (hk : 2 < k) {X Y : Int} {v : Nat} (h1 : D x X v) (h2 : D y Y v) : ∃ s l e s' l' e', laws_exactly k x y = some (s, l, e, s', l', e') ∧ Dr (-1074) 971 2 s l e (X * 2 ^ v) ∧ Dr (-1074) 971 2 s' l' e' (Y * 2 ^ v) := by
  obtain ⟨s, l, e, q1, w1⟩ := dyadicOf_is (k := k) hx h1 hk
  obtain ⟨s', l', e', q2, w2⟩ := dyadicOf_is (k := k) hy h2 hk
  refine ⟨s, l, e, s', l', e', ?_, w1, w2⟩
  unfold laws_exactly spec_PointOf
  rw [q1, sbind, q2, sbind, sbind]

theorem cross_is {k : Nat} (hk : 400 < k) {a0 b0 p0 a3 b3 p3 : Bool} {a1 a4 b1 b4 p1 p4 : List Int} {a2 a5 b2 b5 p2 p5 : Int} {A0 A1 B0 B1 P0 P1 : Int}
    (ha : Dr (-1074) 971 2 a0 a1 a2 A0) (ha' : Dr (-1074) 971 2 a3 a4 a5 A1) (hb : Dr (-1074) 971 2 b0 b1 b2 B0) (hb' : Dr (-1074) 971 2 b3 b4 b5 B1) (hp : Dr (-1074) 971 2 p0 p1 p2 P0) (hp' : Dr (-1074) 971 2 p3 p4 p5 P1) :
    spec_Orient k a0 a1 a2 a3 a4 a5 b0 b1 b2 b3 b4 b5 p0 p1 p2 p3 p4 p5 = some (sgn ((B0 - A0) * (P1 - A1) - (B1 - A1) * (P0 - A0))) := by
  obtain ⟨s1, m1, e1, q1, w1⟩ := dsub_is (k := k) hb ha (by decide) (by decide) (by decide) (by decide) (by simp; omega)
  obtain ⟨s2, m2, e2, q2, w2⟩ := dsub_is (k := k) hp' ha' (by decide) (by decide) (by decide) (by decide) (by simp; omega)
  obtain ⟨s3, m3, e3, q3, w3⟩ := dsub_is (k := k) hb' ha' (by decide) (by decide) (by decide) (by decide) (by simp; omega)
  obtain ⟨s4, m4, e4, q4, w4⟩ := dsub_is (k := k) hp ha (by decide) (by decide) (by decide) (by decide) (by simp; omega)
  obtain ⟨s5, m5, e5, q5, w5⟩ := dmul_is (k := k) w1 w2 (by decide) (by decide) (by decide) (by decide) (by decide) (by decide) (by simp; omega)
  obtain ⟨s6, m6, e6, q6, w6⟩ := dmul_is (k := k) w3 w4 (by decide) (by decide) (by decide) (by decide) (by decide) (by decide) (by simp; omega)
  obtain ⟨s7, m7, e7, q7, w7⟩ := dsub_is (k := k) w5 w6 (by decide) (by decide) (by decide) (by decide) (by simp; omega)
  have q8 := dsign_is (k := k) w7
  unfold spec_Orient spec_Cross
  simp only [q1, q2, q3, q4, q5, q6, q7, q8, sbind]
theorem det_scale (A0 A1 B0 B1 P0 P1 P : Int) (hP : 0 < P) : sgn ((B0 * P - A0 * P) * (P1 * P - A1 * P) - (B1 * P - A1 * P) * (P0 * P - A0 * P)) = sgn ((B0 - A0) * (P1 - A1) - (B1 - A1) * (P0 - A0)) := by
  have : (B0 * P - A0 * P) * (P1 * P - A1 * P) - (B1 * P - A1 * P) * (P0 * P - A0 * P) = ((B0 - A0) * (P1 - A1) - (B1 - A1) * (P0 - A0)) * (P * P) := by grind
  rw [this, sgn_scale (Int.mul_pos hP hP)]
end Go.Proofs.YtekppafmaoefaaaDoor
