/-
  The turn of three places, all of them times a power of two: the plain statement. Ours.
-/
import Derived.Test.YtekppafmaoefaaaDoorOrientD
import Derived.Test.YtekppafmaoefaaaDoorLdexpK
namespace Go.Proofs.YtekppafmaoefaaaDoor
open Go.Sx
set_option linter.unusedVariables false
set_option linter.unusedSimpArgs false
set_option maxRecDepth 100000

theorem main (k : Nat) (hk : 700 < k) (a0 a1 b0 b1 p0 p1 : Nat) (e : Int) (g0 : a0 < 2 ^ 64) (g1 : a1 < 2 ^ 64) (g2 : b0 < 2 ^ 64) (g3 : b1 < 2 ^ 64) (g4 : p0 < 2 ^ 64) (g5 : p1 < 2 ^ 64) : laws_FnOrientation k a0 a1 b0 b1 p0 p1 e = some true := by
  have hw : D 4719772409484279808 ((33554432 : Nat) : Int) 1074 := by
    have := D_two 25 (by decide)
    exact this
  obtain ⟨b, w1, w2⟩ := planeTo_is (k := k) 4719772409484279808 33554432 hw (by decide) [(a0, a1), (b0, b1), (p0, p1)] (fun x hx => by
    simp at hx
    rcases hx with rfl | rfl | rfl <;> exact ⟨by assumption, by assumption⟩) (by simp; omega) (by simp)
  unfold laws_FnOrientation
  rw [w1, sbind]
  cases b with
  | false => rfl
  | true =>
    rw [Bool.not_true, br_false]
    unfold laws_FnOrientation_j1
    by_cases c1 : e < -100
    · rw [decide_eq_true c1, br_true]; rfl
    rw [decide_eq_false c1, br_false]
    unfold laws_FnOrientation_j2
    by_cases c2 : 100 < e
    · rw [decide_eq_true c2, br_true]
    rw [decide_eq_false c2, br_false]
    obtain ⟨A0, A1, da0, la0, da1, la1⟩ := w2 rfl (a0, a1) (by simp)
    obtain ⟨B0, B1, db0, lb0, db1, lb1⟩ := w2 rfl (b0, b1) (by simp)
    obtain ⟨P0, P1, dp0, lp0, dp1, lp1⟩ := w2 rfl (p0, p1) (by simp)
    dsimp only at da0 la0 da1 la1 db0 lb0 db1 lb1 dp0 lp0 dp1 lp1
    obtain ⟨x0, i0, j0, _⟩ := ldexpk k g0 da0 la0 (e := e) (by omega) (by omega)
    obtain ⟨x1, i1, j1, _⟩ := ldexpk k g1 da1 la1 (e := e) (by omega) (by omega)
    obtain ⟨x2, i2, j2, _⟩ := ldexpk k g2 db0 lb0 (e := e) (by omega) (by omega)
    obtain ⟨x3, i3, j3, _⟩ := ldexpk k g3 db1 lb1 (e := e) (by omega) (by omega)
    obtain ⟨x4, i4, j4, _⟩ := ldexpk k g4 dp0 lp0 (e := e) (by omega) (by omega)
    obtain ⟨x5, i5, j5, _⟩ := ldexpk k g5 dp1 lp1 (e := e) (by omega) (by omega)
    obtain ⟨v, hv⟩ : ∃ v, (1074 + e).toNat = v := ⟨_, rfl⟩
    rw [hv] at j0 j1 j2 j3 j4 j5
    have ho := orient_is k (v := v) (u := v + v - 1074) j0 j1 j2 j3 j4 j5 (by omega) (by omega) (by omega) (by omega) (by omega) (by omega) (by omega) (by omega) (by omega) (by omega)
    obtain ⟨s1, l1, e1, t1, m1, n1, q1, u1, v1⟩ := exactly_is k a0 a1 g0 g1 (by omega) da0 da1
    obtain ⟨s2, l2, e2, t2, m2, n2, q2, u2, v2⟩ := exactly_is k b0 b1 g2 g3 (by omega) db0 db1
    obtain ⟨s3, l3, e3, t3, m3, n3, q3, u3, v3⟩ := exactly_is k p0 p1 g4 g5 (by omega) dp0 dp1
    have hc := cross_is (k := k) (by omega) u1 v1 u2 v2 u3 v3
    have hp : (0 : Int) < 2 ^ 1074 := Int.pow_pos (by decide)
    have hi : impl_Orientation k x0 x1 x2 x3 x4 x5 = some (sgn ((B0 - A0) * (P1 - A1) - (B1 - A1) * (P0 - A0))) := by
      simp only [impl_Orientation, impl_coord, xy_OrientationIndex, sbind, ho]
    simp only [laws_scaled, i0, i1, i2, i3, i4, i5, sbind, num_ok j0, num_ok j1, num_ok j2, num_ok j3, num_ok j4, num_ok j5, hi, q1, q2, q3, hc]
    rw [det_scale A0 A1 B0 B1 P0 P1 _ hp]
    simp
theorem fact_FnOrientation (a0_0 a0_1 a1_0 a1_1 a2_0 a2_1 : Nat) (a3 : Int) {p : Prop} (g0 : a0_0 < 18446744073709551616 ∧ a0_1 < 18446744073709551616) (g1 : a1_0 < 18446744073709551616 ∧ a1_1 < 18446744073709551616) (g2 : a2_0 < 18446744073709551616 ∧ a2_1 < 18446744073709551616) (g3 : p) :
    laws_FnOrientation 1000 a0_0 a0_1 a1_0 a1_1 a2_0 a2_1 a3 = some true := main 1000 (by decide) _ _ _ _ _ _ _ g0.1 g0.2 g1.1 g1.2 g2.1 g2.2
end Go.Proofs.YtekppafmaoefaaaDoor
