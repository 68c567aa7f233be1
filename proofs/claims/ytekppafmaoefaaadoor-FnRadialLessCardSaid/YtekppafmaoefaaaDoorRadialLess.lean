/-
  Two places sorted about a focus: the plain statement. Ours.
-/
import Derived.Test.YtekppafmaoefaaaDoorOrientD
namespace Go.Proofs.YtekppafmaoefaaaDoor
open Go.Sx
set_option linter.unusedVariables false
set_option linter.unusedSimpArgs false
set_option maxRecDepth 100000

theorem square_is {k : Nat} (hk : 600 < k) {a0 b0 a3 b3 : Bool} {a1 a4 b1 b4 : List Int} {a2 a5 b2 b5 : Int} {A0 A1 B0 B1 : Int}
    (ha : Dr (-1074) 971 2 a0 a1 a2 A0) (ha' : Dr (-1074) 971 2 a3 a4 a5 A1) (hb : Dr (-1074) 971 2 b0 b1 b2 B0) (hb' : Dr (-1074) 971 2 b3 b4 b5 B1) :
    ∃ s l e, spec_Square k a0 a1 a2 a3 a4 a5 b0 b1 b2 b3 b4 b5 = some (s, l, e) ∧ Dr (-2148) 1942 300 s l e ((B0 - A0) * (B0 - A0) + (B1 - A1) * (B1 - A1)) := by
  obtain ⟨s1, m1, e1, q1, w1⟩ := dsub_is (k := k) hb ha (by decide) (by decide) (by decide) (by decide) (by simp; omega)
  obtain ⟨s3, m3, e3, q3, w3⟩ := dsub_is (k := k) hb' ha' (by decide) (by decide) (by decide) (by decide) (by simp; omega)
  obtain ⟨s5, m5, e5, q5, w5⟩ := dmul_is (k := k) w1 w1 (by decide) (by decide) (by decide) (by decide) (by decide) (by decide) (by simp; omega)
  obtain ⟨s6, m6, e6, q6, w6⟩ := dmul_is (k := k) w3 w3 (by decide) (by decide) (by decide) (by decide) (by decide) (by decide) (by simp; omega)
  obtain ⟨s7, m7, e7, q7, w7⟩ := dadd_is (k := k) w5 w6 (by decide) (by decide) (by decide) (by decide) (by simp; omega)
  refine ⟨s7, m7, e7, ?_, w7.mono (by decide) (by decide)⟩
  unfold spec_Square spec_Dot
  simp only [q1, q3, q5, q6, q7, sbind]
theorem cmp_is {k : Nat} (hk : 600 < k) {a0 b0 : Bool} {a1 b1 : List Int} {a2 b2 : Int} {A B : Int} (ha : Dr (-2148) 1942 300 a0 a1 a2 A) (hb : Dr (-2148) 1942 300 b0 b1 b2 B) :
    spec_Dyadic_Cmp k a0 a1 a2 b0 b1 b2 = some (sgn (A - B)) := by
  obtain ⟨s1, m1, e1, q1, w1⟩ := dsub_is (k := k) ha hb (by decide) (by decide) (by decide) (by decide) (by simp; omega)
  unfold spec_Dyadic_Cmp
  simp only [q1, sbind, dsign_is (k := k) w1]
theorem sgn_neg_iff (n : Int) : decide (sgn n < 0) = decide (n < 0) := by
  unfold sgn; split
  · rename_i h; simp [h]
  · rename_i h
    split
    · rename_i h0; subst h0; rfl
    · simp; omega
theorem sgn_pos_iff (n : Int) : decide (sgn n = 1) = decide (0 < n) := by
  unfold sgn; split
  · rename_i h; simp; omega
  · rename_i h
    split
    · rename_i h0; subst h0; rfl
    · simp; omega
theorem sgn_m1_iff (n : Int) : decide (sgn n = -1) = decide (n < 0) := by
  unfold sgn; split
  · rename_i h; simp [h]
  · rename_i h
    split
    · rename_i h0; subst h0; rfl
    · simp; omega
theorem sgn_0_iff (n : Int) : decide (sgn n = 0) = decide (n = 0) := by
  unfold sgn; split
  · rename_i h; simp; omega
  · rename_i h
    split
    · rename_i h0; subst h0; rfl
    · rename_i h0; simp [h0]
theorem dist_is (A0 A1 F0 F1 : Int) {a0 a1 f0 f1 : Nat} (ha0 : D a0 A0 1074) (ha1 : D a1 A1 1074) (hf0 : D f0 F0 1074) (hf1 : D f1 F1 1074)
    (l1 : A0.natAbs ≤ 16777216) (l2 : A1.natAbs ≤ 16777216) (l3 : F0.natAbs ≤ 16777216) (l4 : F1.natAbs ≤ 16777216) :
    ∃ z1 z2, fsub a0 f0 = some z1 ∧ fsub a1 f1 = some z2 ∧ D (gadd (gmul z1 z1) (gmul z2 z2)) ((A0 - F0) * (A0 - F0) + (A1 - F1) * (A1 - F1)) 1074 := by
  obtain ⟨z1, e1, d1⟩ := D_sub ha0 hf0 rfl (by omega) (by decide)
  obtain ⟨z2, e2, d2⟩ := D_sub ha1 hf1 rfl (by omega) (by decide)
  have n1 := prod_le (a := A0 - F0) (b := A0 - F0) (m := 33554432) (n := 33554432) (by omega) (by omega)
  have n2 := prod_le (a := A1 - F1) (b := A1 - F1) (m := 33554432) (n := 33554432) (by omega) (by omega)
  have d3 := gmul_D (u := 1074) d1 d1 rfl rfl (by decide) (by omega) (by decide)
  have d4 := gmul_D (u := 1074) d2 d2 rfl rfl (by decide) (by omega) (by decide)
  exact ⟨z1, z2, e1, e2, gadd_D d3 d4 rfl (by omega) (by decide)⟩
theorem impl_is (k : Nat) {f0 f1 a0 a1 b0 b1 : Nat} {F0 F1 A0 A1 B0 B1 : Int} (hf0 : D f0 F0 1074) (hf1 : D f1 F1 1074) (ha0 : D a0 A0 1074) (ha1 : D a1 A1 1074) (hb0 : D b0 B0 1074) (hb1 : D b1 B1 1074)
    (l1 : F0.natAbs ≤ 16777216) (l2 : F1.natAbs ≤ 16777216) (l3 : A0.natAbs ≤ 16777216) (l4 : A1.natAbs ≤ 16777216) (l5 : B0.natAbs ≤ 16777216) (l6 : B1.natAbs ≤ 16777216) :
    impl_RadialLess k f0 f1 a0 a1 b0 b1 = some (decide ((A0 - F0) * (B1 - F1) - (A1 - F1) * (B0 - F0) < 0) || decide ((A0 - F0) * (B1 - F1) - (A1 - F1) * (B0 - F0) = 0) && decide ((A0 - F0) * (A0 - F0) + (A1 - F1) * (A1 - F1) < (B0 - F0) * (B0 - F0) + (B1 - F1) * (B1 - F1))) := by
  have c1 : cut [a0, a1, b0, b1] (imul .i64 0 2) (iadd .i64 (imul .i64 0 2) 2) = some [a0, a1] := rfl
  have c2 : cut [a0, a1, b0, b1] (imul .i64 1 2) (iadd .i64 (imul .i64 1 2) 2) = some [b0, b1] := rfl
  have hs : gogeom_Layout_Stride k 1 = some 2 := rfl
  obtain ⟨z1, z2, e1, e2, d1⟩ := dist_is A0 A1 F0 F1 ha0 ha1 hf0 hf1 l3 l4 l1 l2
  obtain ⟨z3, z4, e3, e4, d2⟩ := dist_is B0 B1 F0 F1 hb0 hb1 hf0 hf1 l5 l6 l1 l2
  have ho := orient_is k (u := 1074) hf0 hf1 ha0 ha1 hb0 hb1 (by omega) (by omega) (by omega) (by omega) (by omega) (by omega) (by decide) rfl (by decide) (by decide)
  simp only [impl_RadialLess, impl_coord, xy_NewRadialSorting, sorting_NewFlatCoordSorting, hs, sorting_FlatCoord_Less, xy_NewRadialSorting_1, sbind]
  simp only [sbind, c1, c2, ho, idx0, idx1, e1, e2, e3, e4]
  rw [D_lt d1 d2, sgn_pos_iff, sgn_m1_iff]
  generalize (A0 - F0) * (B1 - F1) - (A1 - F1) * (B0 - F0) = t
  generalize (A0 - F0) * (A0 - F0) + (A1 - F1) * (A1 - F1) = q
  generalize (B0 - F0) * (B0 - F0) + (B1 - F1) * (B1 - F1) = r
  by_cases h1 : 0 < t
  · rw [decide_eq_true h1, br_true, sbind, sbind, decide_eq_false (by omega), decide_eq_false (by omega)]; rfl
  · rw [decide_eq_false h1, br_false]
    by_cases h2 : t < 0
    · rw [decide_eq_true h2, br_true, sbind, sbind]; rfl
    · rw [decide_eq_false h2, br_false, sbind, sbind, decide_eq_true (show t = 0 by omega)]; simp
theorem main (k : Nat) (hk : 700 < k) (f0 f1 a0 a1 b0 b1 : Nat) (g0 : f0 < 2 ^ 64) (g1 : f1 < 2 ^ 64) (g2 : a0 < 2 ^ 64) (g3 : a1 < 2 ^ 64) (g4 : b0 < 2 ^ 64) (g5 : b1 < 2 ^ 64) : laws_FnRadialLess k f0 f1 a0 a1 b0 b1 = some true := by
  have hw : D 4715268809856909312 ((16777216 : Nat) : Int) 1074 := by
    have := D_two 24 (by decide)
    exact this
  obtain ⟨b, w1, w2⟩ := planeTo_is (k := k) 4715268809856909312 16777216 hw (by decide) [(f0, f1), (a0, a1), (b0, b1)] (fun x hx => by
    simp at hx
    rcases hx with rfl | rfl | rfl <;> exact ⟨by assumption, by assumption⟩) (by simp; omega) (by simp)
  unfold laws_FnRadialLess
  rw [w1, sbind]
  cases b with
  | false => rfl
  | true =>
    obtain ⟨F0, F1, df0, lf0, df1, lf1⟩ := w2 rfl (f0, f1) (by simp)
    obtain ⟨A0, A1, da0, la0, da1, la1⟩ := w2 rfl (a0, a1) (by simp)
    obtain ⟨B0, B1, db0, lb0, db1, lb1⟩ := w2 rfl (b0, b1) (by simp)
    dsimp only at df0 lf0 df1 lf1 da0 la0 da1 la1 db0 lb0 db1 lb1
    obtain ⟨s1, l1, e1, t1, m1, n1, q1, u1, v1⟩ := exactly_is k f0 f1 g0 g1 (by omega) df0 df1
    obtain ⟨s2, l2, e2, t2, m2, n2, q2, u2, v2⟩ := exactly_is k a0 a1 g2 g3 (by omega) da0 da1
    obtain ⟨s3, l3, e3, t3, m3, n3, q3, u3, v3⟩ := exactly_is k b0 b1 g4 g5 (by omega) db0 db1
    have ho := cross_is (k := k) (by omega) u1 v1 u2 v2 u3 v3
    obtain ⟨s4, l4, e4, q4, w4⟩ := square_is (k := k) (by omega) u1 v1 u2 v2
    obtain ⟨s5, l5, e5, q5, w5⟩ := square_is (k := k) (by omega) u1 v1 u3 v3
    have hc := cmp_is (k := k) (by omega) w4 w5
    have hp : (0 : Int) < 2 ^ 1074 := Int.pow_pos (by decide)
    rw [Bool.not_true, br_false, q1, sbind, q2, sbind, q3, sbind]
    dsimp only
    rw [ho, sbind, impl_is k df0 df1 da0 da1 db0 db1 lf0 lf1 la0 la1 lb0 lb1, sbind, sgn_neg_iff, sgn_0_iff]
    rw [q4, q5, sbind, sbind]
    dsimp only
    rw [hc, sbind, sgn_neg_iff]
    generalize (2 : Int) ^ 1074 = P at hp
    have ht : (A0 * P - F0 * P) * (B1 * P - F1 * P) - (A1 * P - F1 * P) * (B0 * P - F0 * P) = ((A0 - F0) * (B1 - F1) - (A1 - F1) * (B0 - F0)) * (P * P) := by grind
    have hq : (A0 * P - F0 * P) * (A0 * P - F0 * P) + (A1 * P - F1 * P) * (A1 * P - F1 * P) - ((B0 * P - F0 * P) * (B0 * P - F0 * P) + (B1 * P - F1 * P) * (B1 * P - F1 * P)) = ((A0 - F0) * (A0 - F0) + (A1 - F1) * (A1 - F1) - ((B0 - F0) * (B0 - F0) + (B1 - F1) * (B1 - F1))) * (P * P) := by grind
    rw [ht, hq]
    have hpp := Int.mul_pos hp hp
    generalize P * P = PP at hpp
    generalize (A0 - F0) * (B1 - F1) - (A1 - F1) * (B0 - F0) = t
    generalize (A0 - F0) * (A0 - F0) + (A1 - F1) * (A1 - F1) = q
    generalize (B0 - F0) * (B0 - F0) + (B1 - F1) * (B1 - F1) = r
    have hneg : ∀ z : Int, decide (z * PP < 0) = decide (z < 0) := by
      intro z
      have := sgn_neg_iff (z * PP)
      rw [sgn_scale hpp, sgn_neg_iff] at this
      exact this.symm
    have hzer : decide (t * PP = 0) = decide (t = 0) := by
      have := sgn_0_iff (t * PP)
      rw [sgn_scale hpp, sgn_0_iff] at this
      exact this.symm
    rw [hneg, hneg, hzer]
    have hqr : decide (q - r < 0) = decide (q < r) := by
      by_cases h : q < r
      · rw [decide_eq_true h, decide_eq_true (by omega)]
      · rw [decide_eq_false h, decide_eq_false (by omega)]
    rw [hqr]
    unfold laws_FnRadialLess_j1 laws_FnRadialLess_j2
    cases decide (t < 0)
    · rw [br_false]
      cases decide (t = 0)
      · rfl
      · rw [br_true]; cases decide (q < r) <;> rfl
    · rfl
theorem fact_FnRadialLess (a0_0 a0_1 a1_0 a1_1 a2_0 a2_1 : Nat) (g0 : a0_0 < 18446744073709551616 ∧ a0_1 < 18446744073709551616) (g1 : a1_0 < 18446744073709551616 ∧ a1_1 < 18446744073709551616) (g2 : a2_0 < 18446744073709551616 ∧ a2_1 < 18446744073709551616) :
    laws_FnRadialLess 1000 a0_0 a0_1 a1_0 a1_1 a2_0 a2_1 = some true := main 1000 (by decide) _ _ _ _ _ _ g0.1 g0.2 g1.1 g1.2 g2.1 g2.2
end Go.Proofs.YtekppafmaoefaaaDoor
