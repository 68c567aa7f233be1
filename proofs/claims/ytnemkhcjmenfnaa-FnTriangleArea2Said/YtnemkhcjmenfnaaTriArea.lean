/-
  Twice the signed area of a triangle is exact: the plain statement. Ours.
-/
import Derived.Test.YtnemkhcjmenfnaaWhole
namespace Go.Proofs.Ytnemkhcjmenfnaa
open Go.Sx
open Ieee (signed)
set_option linter.unusedVariables false
set_option linter.unusedSimpArgs false
set_option maxRecDepth 100000

theorem planeTo_loop (w : Nat) (b : Nat) (hw : D w (b : Int) 1074) (hb : b < 2 ^ 53) (xs : List (Nat × Nat)) (hx : ∀ x ∈ xs, x.1 < 2 ^ 64 ∧ x.2 < 2 ^ 64) (hl : xs.length < 1000000) : ∀ (n k i : Nat), xs.length - i = n → n + 3 < k → i ≤ xs.length →
    ∃ y, laws_planeTo_l1 xs w k (i : Int) = some y ∧ (y = .inr () → ∀ j x, i ≤ j → xs[j]? = some x → ∃ m n : Int, D x.1 m 1074 ∧ m.natAbs ≤ b ∧ D x.2 n 1074 ∧ n.natAbs ≤ b) := by
  intro n
  induction n with
  | zero =>
    intro k i hn hk hi
    obtain ⟨k, rfl⟩ : ∃ j, k = j + 1 := ⟨k - 1, by omega⟩
    have : decide ((i : Int) < (xs.length : Int)) = false := by simp only [decide_eq_false_iff_not]; omega
    exact ⟨.inr (), by simp only [laws_planeTo_l1, laws_planeTo_l1s, this, br_false], fun _ j x hj h => by
      rw [List.getElem?_eq_none (by omega)] at h; cases h⟩
  | succ n ih =>
    intro k i hn hk hi
    obtain ⟨k, rfl⟩ : ∃ j, k = j + 1 := ⟨k - 1, by omega⟩
    have hlt : i < xs.length := by omega
    have hd : decide ((i : Int) < (xs.length : Int)) = true := by simp only [decide_eq_true_eq]; omega
    have hadd1 : iadd .i64 (i : Int) 1 = ((i + 1 : Nat) : Int) := by rw [iadd_i64 (by omega) (by omega)]; omega
    have hxl := hx _ (List.getElem_mem hlt)
    obtain ⟨r, r1, r2⟩ := wholeTo_is (k := k) w b hw hb [xs[i].1, xs[i].2] (fun x hxm => by
      simp at hxm
      rcases hxm with rfl | rfl
      · exact hxl.1
      · exact hxl.2) (by simp; omega) (by simp)
    obtain ⟨y, y1, y2⟩ := ih k (i + 1) (by omega) (by omega) (by omega)
    cases r with
    | false =>
      refine ⟨.inl (), ?_, fun h => by cases h⟩
      simp only [laws_planeTo_l1, laws_planeTo_l1s, hd, br_true, idx_get hlt, Option.bind_eq_bind, Option.bind_some, r1, Bool.not_false]
    | true =>
      refine ⟨y, ?_, fun h j x hj hjx => ?_⟩
      · simp only [laws_planeTo_l1, laws_planeTo_l1s, hd, br_true, br_false, idx_get hlt, Option.bind_eq_bind, Option.bind_some, r1, Bool.not_true, hadd1, y1]
      · by_cases hji : j = i
        · subst hji
          rw [List.getElem?_eq_getElem hlt] at hjx
          cases hjx
          obtain ⟨m, m1, m2⟩ := r2 rfl xs[j].1 (by simp)
          obtain ⟨n', n1, n2⟩ := r2 rfl xs[j].2 (by simp)
          exact ⟨m, n', m1, m2, n1, n2⟩
        · exact y2 h j x (by omega) hjx
theorem planeTo_is {k : Nat} (w : Nat) (b : Nat) (hw : D w (b : Int) 1074) (hb : b < 2 ^ 53) (xs : List (Nat × Nat)) (hx : ∀ x ∈ xs, x.1 < 2 ^ 64 ∧ x.2 < 2 ^ 64) (hl : xs.length + 3 < k) (hl' : xs.length < 1000000) :
    ∃ r, laws_planeTo k w xs = some r ∧ (r = true → ∀ x ∈ xs, ∃ m n : Int, D x.1 m 1074 ∧ m.natAbs ≤ b ∧ D x.2 n 1074 ∧ n.natAbs ≤ b) := by
  obtain ⟨y, y1, y2⟩ := planeTo_loop w b hw hb xs hx hl' xs.length k 0 (by omega) hl (by omega)
  have y1' : laws_planeTo_l1 xs w k 0 = some y := y1
  unfold laws_planeTo
  rw [y1']
  cases y with
  | inl u => exact ⟨false, rfl, fun h => by cases h⟩
  | inr u =>
    refine ⟨true, rfl, fun _ x hxm => ?_⟩
    obtain ⟨j, hj⟩ := List.mem_iff_getElem?.1 hxm
    exact y2 rfl j x (by omega) hj

/-- the cross product -/
def crs (ax ay bx by_ cx cy : Int) : Int := (bx - ax) * (cy - ay) - (cx - ax) * (by_ - ay)
theorem crs_rot (ax ay bx by_ cx cy : Int) : crs bx by_ cx cy ax ay = crs ax ay bx by_ cx cy := by
  unfold crs
  simp only [Int.mul_sub, Int.sub_mul]
  have e1 := Int.mul_comm ay cx; have e2 := Int.mul_comm by_ cx; have e3 := Int.mul_comm cy ax; have e4 := Int.mul_comm by_ ax; have e5 := Int.mul_comm cy bx; have e6 := Int.mul_comm ay bx; have e7 := Int.mul_comm ax ay; have e8 := Int.mul_comm bx by_
  omega
theorem crs_swap (ax ay bx by_ cx cy : Int) : crs bx by_ ax ay cx cy = - crs ax ay bx by_ cx cy := by
  unfold crs
  simp only [Int.mul_sub, Int.sub_mul]
  omega
theorem prod_le {x y : Int} {b c : Nat} (hx : x.natAbs ≤ b) (hy : y.natAbs ≤ c) : (x * y).natAbs ≤ b * c := by
  rw [Int.natAbs_mul]; exact Nat.mul_le_mul hx hy
theorem crs_le {ax ay bx by_ cx cy : Int} (h1 : ax.natAbs ≤ 1048576) (h2 : ay.natAbs ≤ 1048576) (h3 : bx.natAbs ≤ 1048576) (h4 : by_.natAbs ≤ 1048576) (h5 : cx.natAbs ≤ 1048576) (h6 : cy.natAbs ≤ 1048576) :
    ((bx - ax) * (cy - ay)).natAbs ≤ 4398046511104 ∧ ((cx - ax) * (by_ - ay)).natAbs ≤ 4398046511104 ∧ (crs ax ay bx by_ cx cy).natAbs ≤ 8796093022208 := by
  have p1 := prod_le (x := bx - ax) (y := cy - ay) (b := 2097152) (c := 2097152) (by omega) (by omega)
  have p2 := prod_le (x := cx - ax) (y := by_ - ay) (b := 2097152) (c := 2097152) (by omega) (by omega)
  unfold crs
  omega

theorem area_is {k : Nat} {a0 a1 b0 b1 c0 c1 : Nat} {ax ay bx by_ cx cy : Int} (d1 : D a0 ax 1074) (d2 : D a1 ay 1074) (d3 : D b0 bx 1074) (d4 : D b1 by_ 1074) (d5 : D c0 cx 1074) (d6 : D c1 cy 1074)
    (h1 : ax.natAbs ≤ 1048576) (h2 : ay.natAbs ≤ 1048576) (h3 : bx.natAbs ≤ 1048576) (h4 : by_.natAbs ≤ 1048576) (h5 : cx.natAbs ≤ 1048576) (h6 : cy.natAbs ≤ 1048576) :
    ∃ y, impl_TriangleArea2 k a0 a1 b0 b1 c0 c1 = some y ∧ D y (crs ax ay bx by_ cx cy) 1074 ∧ y < 2 ^ 64 := by
  obtain ⟨p1, p2, p3⟩ := crs_le h1 h2 h3 h4 h5 h6
  obtain ⟨u1, e1, v1⟩ := D_sub d3 d1 rfl (by omega) (by omega)
  obtain ⟨u2, e2, v2⟩ := D_sub d6 d2 rfl (by omega) (by omega)
  obtain ⟨u3, e3, v3⟩ := D_sub d5 d1 rfl (by omega) (by omega)
  obtain ⟨u4, e4, v4⟩ := D_sub d4 d2 rfl (by omega) (by omega)
  obtain ⟨u5, e5, v5⟩ := D_mul (u := 1074) v1 v2 rfl (by omega) (by omega) (by omega) (by omega)
  obtain ⟨u6, e6, v6⟩ := D_mul (u := 1074) v3 v4 rfl (by omega) (by omega) (by omega) (by omega)
  obtain ⟨y, e7, v7⟩ := D_sub (c := crs ax ay bx by_ cx cy) v5 v6 rfl (by omega) (by omega)
  refine ⟨y, ?_, v7, FloatKind.f64.format.sub_lt e7⟩
  simp [impl_TriangleArea2, impl_coord, xy_DoorTriangleArea2, xy_area2, idx, e1, e2, e3, e4, e5, e6, e7]

theorem mul4 (a b c d : Int) : a * b * (c * d) = a * c * (b * d) := by rw [Int.mul_assoc, Int.mul_assoc, ← Int.mul_assoc b, Int.mul_comm b c, Int.mul_assoc c]

theorem exactly_is {k : Nat} {x y : Nat} {m n : Int} (hx : x < 2 ^ 64) (hy : y < 2 ^ 64) (d1 : D x m 1074) (d2 : D y n 1074) (hk : 2 < k) :
    ∃ s1 l1 e1 s2 l2 e2, laws_exactly k x y = some (s1, l1, e1, s2, l2, e2) ∧ Dr (-1074) 971 2 s1 l1 e1 (m * 2 ^ 1074) ∧ Dr (-1074) 971 2 s2 l2 e2 (n * 2 ^ 1074) := by
  obtain ⟨s1, l1, e1, r1, w1⟩ := dyadicOf_is (k := k) hx d1 hk
  obtain ⟨s2, l2, e2, r2, w2⟩ := dyadicOf_is (k := k) hy d2 hk
  exact ⟨s1, l1, e1, s2, l2, e2, by simp [laws_exactly, spec_PointOf, r1, r2], w1, w2⟩

theorem pure_FnTriangleArea2 (a0 a1 b0 b1 c0 c1 : Nat) (g0 : a0 < 2 ^ 64) (g1 : a1 < 2 ^ 64) (g2 : b0 < 2 ^ 64) (g3 : b1 < 2 ^ 64) (g4 : c0 < 2 ^ 64) (g5 : c1 < 2 ^ 64) : laws_FnTriangleArea2 1000 a0 a1 b0 b1 c0 c1 = some true := by
  have hw : D 4697254411347427328 ((1048576 : Nat) : Int) 1074 := by
    have := D_fields (E := 1043) (F := 0) (by omega) (by omega) (by omega) (n := ((1048576 : Nat) : Int)) (v := 1074) (by
      rw [show (1048576 : Nat) = 2 ^ 20 from rfl, ← powcast2 20, ← Int.pow_add, show ((2 ^ 52 + 0 : Nat) : Int) = 2 ^ 52 from rfl, ← Int.pow_add])
    exact this
  obtain ⟨r, r1, r2⟩ := planeTo_is (k := 1000) 4697254411347427328 1048576 hw (by omega) [(a0, a1), (b0, b1), (c0, c1)] (fun x hx => by
    simp at hx
    rcases hx with rfl | rfl | rfl <;> constructor <;> assumption) (by simp) (by simp)
  unfold laws_FnTriangleArea2
  rw [r1]
  cases r with
  | false => rfl
  | true =>
    obtain ⟨ax, ay, d1, h1, d2, h2⟩ := r2 rfl (a0, a1) (by simp)
    obtain ⟨bx, by_, d3, h3, d4, h4⟩ := r2 rfl (b0, b1) (by simp)
    obtain ⟨cx, cy, d5, h5, d6, h6⟩ := r2 rfl (c0, c1) (by simp)
    obtain ⟨y, y1, y2, y3⟩ := area_is (k := 1000) d1 d2 d3 d4 d5 d6 h1 h2 h3 h4 h5 h6
    obtain ⟨z, z1, z2, z3⟩ := area_is (k := 1000) d3 d4 d5 d6 d1 d2 h3 h4 h5 h6 h1 h2
    obtain ⟨u, u1, u2, u3⟩ := area_is (k := 1000) d3 d4 d1 d2 d5 d6 h3 h4 h1 h2 h5 h6
    rw [crs_rot] at z2; rw [crs_swap] at u2
    obtain ⟨s1, l1, e1, s2, l2, e2, x1, w1, w2⟩ := exactly_is (k := 1000) g0 g1 d1 d2 (by omega)
    obtain ⟨s3, l3, e3, s4, l4, e4, x2, w3, w4⟩ := exactly_is (k := 1000) g2 g3 d3 d4 (by omega)
    obtain ⟨s5, l5, e5, s6, l6, e6, x3, w5, w6⟩ := exactly_is (k := 1000) g4 g5 d5 d6 (by omega)
    obtain ⟨t1, m1, f1, q1, v1⟩ := dsub_is (k := 1000) w3 w1 (by decide) (by decide) (by decide) (by decide) (by decide)
    obtain ⟨t2, m2, f2, q2, v2⟩ := dsub_is (k := 1000) w6 w2 (by decide) (by decide) (by decide) (by decide) (by decide)
    obtain ⟨t3, m3, f3, q3, v3⟩ := dsub_is (k := 1000) w4 w2 (by decide) (by decide) (by decide) (by decide) (by decide)
    obtain ⟨t4, m4, f4, q4, v4⟩ := dsub_is (k := 1000) w5 w1 (by decide) (by decide) (by decide) (by decide) (by decide)
    obtain ⟨t5, m5, f5, q5, v5⟩ := dmul_is (k := 1000) v1 v2 (by decide) (by decide) (by decide) (by decide) (by decide) (by decide) (by decide)
    obtain ⟨t6, m6, f6, q6, v6⟩ := dmul_is (k := 1000) v3 v4 (by decide) (by decide) (by decide) (by decide) (by decide) (by decide) (by decide)
    obtain ⟨t7, m7, f7, q7, v7⟩ := dsub_is (k := 1000) v5 v6 (by decide) (by decide) (by decide) (by decide) (by decide)
    obtain ⟨zz, wz, hz⟩ := v7.ex
    have hlo := v7.lo; have hhi := v7.hi; have hlen := v7.len
    obtain ⟨_, _, p3⟩ := crs_le h1 h2 h3 h4 h5 h6
    have hX : zz * 2 ^ (f7 + ((2148 : Nat) : Int)).toNat = crs ax ay bx by_ cx cy * 2 ^ 2148 := by
      have e : (f7 + ((2148 : Nat) : Int)).toNat = (f7 - (-1074 + -1074)).toNat := by omega
      rw [e, ← hz, show (2148 : Nat) = 1074 + 1074 from rfl, Int.pow_add]
      generalize (2 : Int) ^ 1074 = P
      unfold crs
      rw [← Int.sub_mul, ← Int.sub_mul, ← Int.sub_mul, ← Int.sub_mul, mul4, mul4 (by_ - ay), ← Int.sub_mul, Int.mul_comm (by_ - ay)]
    obtain ⟨o, o1, o2⟩ := float_is (k := 1000) (K := 2148) wz (by simp at hlen; omega) (by omega) (by omega) (by simp at hhi; omega) (by omega) hX (by omega)
    have hcross : spec_Cross 1000 s1 l1 e1 s2 l2 e2 s3 l3 e3 s4 l4 e4 s5 l5 e5 s6 l6 e6 = some (t7, m7, f7) := by
      simp [spec_Cross, q1, q2, q3, q4, q5, q6, q7]
    have c1 : feq y o = true := by rw [D_eq y2 o2]; simp
    have c2 : feq z y = true := by rw [D_eq z2 y2]; simp
    have c3 : feq u (fneg y) = true := by rw [D_eq u2 (D_fneg y3 y2)]; simp
    simp [y1, x1, x2, x3, hcross, o1, c1, z1, c2, laws_FnTriangleArea2_j1, u1, c3, laws_FnTriangleArea2_j2]
theorem fact_FnTriangleArea2 (a0 a1 b0 b1 c0 c1 : Nat) (g0 : a0 < 18446744073709551616 ∧ a1 < 18446744073709551616) (g1 : b0 < 18446744073709551616 ∧ b1 < 18446744073709551616) (g2 : c0 < 18446744073709551616 ∧ c1 < 18446744073709551616) :
    laws_FnTriangleArea2 1000 a0 a1 b0 b1 c0 c1 = some true := pure_FnTriangleArea2 a0 a1 b0 b1 c0 c1 (by omega) (by omega) (by omega) (by omega) (by omega) (by omega)
end Go.Proofs.Ytnemkhcjmenfnaa
