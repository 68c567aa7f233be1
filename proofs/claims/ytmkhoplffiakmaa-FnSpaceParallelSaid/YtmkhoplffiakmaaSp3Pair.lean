/-
  The program's distance of two segments that run in one direction. Ours.
-/
import Derived.Test.YtmkhoplffiakmaaSp3A
namespace Go.Proofs.Ytmkhoplffiakmaa
open Go.Sx
open Ieee (signed)
set_option linter.unusedVariables false
set_option linter.unusedSimpArgs false
set_option maxRecDepth 100000

theorem ne_sub3' {a0 a1 a2 b0 b1 b2 : Int} (h : ¬ (a0 = b0 ∧ a1 = b1 ∧ a2 = b2)) : ¬ (b0 - a0 = 0 ∧ b1 - a1 = 0 ∧ b2 - a2 = 0) := fun g => h ⟨by omega, by omega, by omega⟩
theorem gm3 {x y : Nat} {a b : Int} {M N : Nat} (hx : D x a 1074) (hy : D y b 1074) (ha : a.natAbs ≤ M) (hb : b.natAbs ≤ N) (h : M * N ≤ 2 ^ 53) : D (gmul x y) (a * b) 1074 ∧ (a * b).natAbs ≤ M * N := by
  have h1 := prod_bd ha hb
  exact ⟨gmul_D hx hy rfl rfl (by decide) (Nat.le_trans h1 h) (by decide), h1⟩
theorem ga3 {x y : Nat} {a b : Int} {M N : Nat} (hx : D x a 1074) (hy : D y b 1074) (ha : a.natAbs ≤ M) (hb : b.natAbs ≤ N) (h : M + N ≤ 2 ^ 53) : D (gadd x y) (a + b) 1074 ∧ (a + b).natAbs ≤ M + N := by
  have h1 : (a + b).natAbs ≤ M + N := by omega
  exact ⟨gadd_D hx hy rfl (Nat.le_trans h1 h) (by decide), h1⟩
theorem vecDot_is (k : Nat) {x0 x1 x2 y0 y1 y2 z0 z1 z2 t0 t1 t2 : Nat} {a0 a1 a2 b0 b1 b2 c0 c1 c2 d0 d1 d2 : Int} (hx0 : D x0 a0 1074) (hx1 : D x1 a1 1074) (hx2 : D x2 a2 1074) (hy0 : D y0 b0 1074) (hy1 : D y1 b1 1074) (hy2 : D y2 b2 1074)
    (hz0 : D z0 c0 1074) (hz1 : D z1 c1 1074) (hz2 : D z2 c2 1074) (ht0 : D t0 d0 1074) (ht1 : D t1 d1 1074) (ht2 : D t2 d2 1074)
    (ca0 : a0.natAbs ≤ 256) (ca1 : a1.natAbs ≤ 256) (ca2 : a2.natAbs ≤ 256) (cb0 : b0.natAbs ≤ 256) (cb1 : b1.natAbs ≤ 256) (cb2 : b2.natAbs ≤ 256) (cc0 : c0.natAbs ≤ 256) (cc1 : c1.natAbs ≤ 256) (cc2 : c2.natAbs ≤ 256) (cd0 : d0.natAbs ≤ 256) (cd1 : d1.natAbs ≤ 256) (cd2 : d2.natAbs ≤ 256) :
    ∃ w, xyz_VectorDot k [x0, x1, x2] [y0, y1, y2] [z0, z1, z2] [t0, t1, t2] = some w ∧ D w (dt3 (b0 - a0) (b1 - a1) (b2 - a2) (d0 - c0) (d1 - c1) (d2 - c2)) 1074 ∧ (dt3 (b0 - a0) (b1 - a1) (b2 - a2) (d0 - c0) (d1 - c1) (d2 - c2)).natAbs ≤ 786432 := by
  obtain ⟨u0, su0, du0, bu0⟩ := s3 hy0 hx0 cb0 ca0
  obtain ⟨u1, su1, du1, bu1⟩ := s3 hy1 hx1 cb1 ca1
  obtain ⟨u2, su2, du2, bu2⟩ := s3 hy2 hx2 cb2 ca2
  obtain ⟨w0, sw0, dw0, bw0⟩ := s3 ht0 hz0 cd0 cc0
  obtain ⟨w1, sw1, dw1, bw1⟩ := s3 ht1 hz1 cd1 cc1
  obtain ⟨w2, sw2, dw2, bw2⟩ := s3 ht2 hz2 cd2 cc2
  obtain ⟨p0, q0⟩ := gm3 du0 dw0 bu0 bw0 (by decide)
  obtain ⟨p1, q1⟩ := gm3 du1 dw1 bu1 bw1 (by decide)
  obtain ⟨p2, q2⟩ := gm3 du2 dw2 bu2 bw2 (by decide)
  obtain ⟨p3, q3⟩ := ga3 p0 p1 q0 q1 (by decide)
  obtain ⟨p4, q4⟩ := ga3 p3 p2 q3 q2 (by decide)
  unfold xyz_VectorDot
  simp only [i30, i31, i32, sbind, su0, su1, su2, sw0, sw1, sw2]
  exact ⟨_, rfl, p4, q4⟩
theorem neg_quot {f e L A : Rat} (hf : f * L = A) (hL : 1 ≤ L) (he : Sm e (3 * uu)) : (f * (1 + e) < 0 ↔ A < 0) := by
  have h := pos_quot (f := -f) (e := e) (L := L) (A := -A) (by rw [← hf]; grind) hL he
  constructor
  · intro h1; have := h.1 (by grind); grind
  · intro h1; have := h.2 (by grind); grind
theorem frac_same {a b c e : Int} (hb : 0 < b) (hc : 0 < c) (h : a * c = e * b) : (a < 0 ↔ e < 0) ∧ (b < a ↔ c < e) := by
  refine ⟨⟨fun h1 => ?_, fun h1 => ?_⟩, ⟨fun h1 => ?_, fun h1 => ?_⟩⟩
  · have h2 : a * c < 0 := Int.mul_neg_of_neg_of_pos h1 hc
    rcases Int.lt_or_le e 0 with h3 | h3
    · exact h3
    · have := Int.mul_nonneg h3 (Int.le_of_lt hb); omega
  · have h2 : e * b < 0 := Int.mul_neg_of_neg_of_pos h1 hb
    rcases Int.lt_or_le a 0 with h3 | h3
    · exact h3
    · have := Int.mul_nonneg h3 (Int.le_of_lt hc); omega
  · have h2 : b * c < a * c := Int.mul_lt_mul_of_pos_right h1 hc
    rcases Int.lt_or_le c e with h3 | h3
    · exact h3
    · have := Int.mul_le_mul_of_nonneg_right h3 (Int.le_of_lt hb)
      rw [Int.mul_comm c b] at this; omega
  · have h2 : c * b < e * b := Int.mul_lt_mul_of_pos_right h1 hb
    rcases Int.lt_or_le b a with h3 | h3
    · exact h3
    · have := Int.mul_le_mul_of_nonneg_right h3 (Int.le_of_lt hc)
      rw [Int.mul_comm b c] at this; omega
def Told (o : Rat) (a0 a1 a2 b0 b1 b2 c0 c1 c2 d0 d1 d2 : Int) : Prop :=
  (dt3 (d0 - c0) (d1 - c1) (d2 - c2) (a0 - c0) (a1 - c1) (a2 - c2) < 0 ∨ (c0 = b0 ∧ c1 = b1 ∧ c2 = b2)) ∧ NearR o ((sgN (b0 - a0) (b1 - a1) (b2 - a2) (c0 - a0) (c1 - a1) (c2 - a2) : Int) : Rat) ((sgD (b0 - a0) (b1 - a1) (b2 - a2) (c0 - a0) (c1 - a1) (c2 - a2) : Int) : Rat) ∨
  lng (d0 - c0) (d1 - c1) (d2 - c2) ≤ dt3 (d0 - c0) (d1 - c1) (d2 - c2) (a0 - c0) (a1 - c1) (a2 - c2) ∧ NearR o ((sgN (b0 - a0) (b1 - a1) (b2 - a2) (d0 - a0) (d1 - a1) (d2 - a2) : Int) : Rat) ((sgD (b0 - a0) (b1 - a1) (b2 - a2) (d0 - a0) (d1 - a1) (d2 - a2) : Int) : Rat) ∨
  (0 ≤ dt3 (d0 - c0) (d1 - c1) (d2 - c2) (a0 - c0) (a1 - c1) (a2 - c2) ∧ dt3 (d0 - c0) (d1 - c1) (d2 - c2) (a0 - c0) (a1 - c1) (a2 - c2) ≤ lng (d0 - c0) (d1 - c1) (d2 - c2)) ∧ NearR o ((cr2 (d0 - c0) (d1 - c1) (d2 - c2) (a0 - c0) (a1 - c1) (a2 - c2) : Int) : Rat) ((lng (d0 - c0) (d1 - c1) (d2 - c2) : Int) : Rat)
set_option maxHeartbeats 4000000 in
theorem tail3 (k : Nat) {x0 x1 x2 y0 y1 y2 z0 z1 z2 t0 t1 t2 r : Nat} {a0 a1 a2 b0 b1 b2 c0 c1 c2 d0 d1 d2 num den : Int} {f e : Rat} (hx0 : D x0 a0 1074) (hx1 : D x1 a1 1074) (hx2 : D x2 a2 1074) (hy0 : D y0 b0 1074) (hy1 : D y1 b1 1074) (hy2 : D y2 b2 1074)
    (hz0 : D z0 c0 1074) (hz1 : D z1 c1 1074) (hz2 : D z2 c2 1074) (ht0 : D t0 d0 1074) (ht1 : D t1 d1 1074) (ht2 : D t2 d2 1074)
    (ca0 : a0.natAbs ≤ 256) (ca1 : a1.natAbs ≤ 256) (ca2 : a2.natAbs ≤ 256) (cb0 : b0.natAbs ≤ 256) (cb1 : b1.natAbs ≤ 256) (cb2 : b2.natAbs ≤ 256) (cc0 : c0.natAbs ≤ 256) (cc1 : c1.natAbs ≤ 256) (cc2 : c2.natAbs ≤ 256) (cd0 : d0.natAbs ≤ 256) (cd1 : d1.natAbs ≤ 256) (cd2 : d2.natAbs ≤ 256)
    (hab : ¬ (a0 = b0 ∧ a1 = b1 ∧ a2 = b2)) (hcd : ¬ (c0 = d0 ∧ c1 = d1 ∧ c2 = d2))
    (hr : Q r (f * (1 + e))) (he : Sm e (3 * uu)) (hden : 0 < den) (hden2 : den ≤ 1073741824) (hf : f * (den : Rat) = (num : Rat))
    (hs : num * lng (d0 - c0) (d1 - c1) (d2 - c2) = dt3 (d0 - c0) (d1 - c1) (d2 - c2) (a0 - c0) (a1 - c1) (a2 - c2) * den) :
    ∃ w o, xyz_DistanceLineToLine_j1 k [x0, x1, x2] [z0, z1, z2] [t0, t1, t2] [y0, y1, y2] 0 r = some w ∧ Q w o ∧ Told o a0 a1 a2 b0 b1 b2 c0 c1 c2 d0 d1 d2 := by
  have hL : 0 < lng (d0 - c0) (d1 - c1) (d2 - c2) := lng_pos (ne_sub3' hcd)
  obtain ⟨fs1, fs2⟩ := frac_same hden hL hs
  have qone : Q 4607182418800017408 1 := by have := Q_whole D_one; simpa using this
  have hd1 := int_lt_rat hden
  have z0' : ((0 : Int) : Rat) = 0 := rfl
  rw [z0'] at hd1
  have hd2 : (den : Rat) ≤ 1073741824 := int_le_rat hden2
  have hneg := neg_quot hf (by grind) he
  unfold xyz_DistanceLineToLine_j1
  rw [flt_q q_zero q_zero, decide_eq_false (by decide), br_false, fgt_q q_zero qone, decide_eq_false (by decide), br_false]
  by_cases h1 : num < 0
  · have h1r := int_lt_rat h1
    rw [z0'] at h1r
    rw [flt_q hr q_zero, decide_eq_true (hneg.2 (by grind)), br_true]
    obtain ⟨w, o, r1, r2, r3⟩ := ptLine_is k hz0 hz1 hz2 hx0 hx1 hx2 hy0 hy1 hy2 cc0 cc1 cc2 ca0 ca1 ca2 cb0 cb1 cb2 hab
    rw [r1, sbind]
    exact ⟨w, o, rfl, r2, .inl ⟨.inl (fs1.1 h1), r3⟩⟩
  have h1r := int_le_rat (show 0 ≤ num by omega)
  rw [z0'] at h1r
  rw [flt_q hr q_zero, decide_eq_false (fun h => by have := hneg.1 h; grind), br_false]
  by_cases h2 : den < num
  · have h2r := int_lt_rat h2
    rw [fgt_q hr qone, decide_eq_true (by
      by_cases h : 1 < f * (1 + e)
      · exact h
      · exact (under_one hf (by grind) hd2 he (by grind) h2r).elim), br_true]
    obtain ⟨w, o, r1, r2, r3⟩ := ptLine_is k ht0 ht1 ht2 hx0 hx1 hx2 hy0 hy1 hy2 cd0 cd1 cd2 ca0 ca1 ca2 cb0 cb1 cb2 hab
    rw [r1, sbind]
    exact ⟨w, o, rfl, r2, .inr (.inl ⟨Int.le_of_lt (fs2.1 h2), r3⟩)⟩
  have h2r := int_le_rat (show num ≤ den by omega)
  have hfr := frac_bd hf (by grind) h1r h2r
  by_cases h3 : 1 < f * (1 + e)
  · have h4 : ¬ num + 1 ≤ den := fun h => over_one hf (by grind) hd2 he h3 (int_lt_rat (show num < den by omega))
    rw [fgt_q hr qone, decide_eq_true h3, br_true]
    obtain ⟨w, o, r1, r2, r3⟩ := ptLine_is k ht0 ht1 ht2 hx0 hx1 hx2 hy0 hy1 hy2 cd0 cd1 cd2 ca0 ca1 ca2 cb0 cb1 cb2 hab
    rw [r1, sbind]
    refine ⟨w, o, rfl, r2, .inr (.inl ⟨?_, r3⟩)⟩
    have h5 : num = den := by omega
    subst h5
    have h6 : num * (lng (d0 - c0) (d1 - c1) (d2 - c2) - dt3 (d0 - c0) (d1 - c1) (d2 - c2) (a0 - c0) (a1 - c1) (a2 - c2)) = 0 := by rw [Int.mul_sub, hs, Int.mul_comm]; omega
    rcases Int.mul_eq_zero.1 h6 with h7 | h7 <;> omega
  rw [fgt_q hr qone, decide_eq_false h3, br_false]
  obtain ⟨u0, su0, du0, bu0⟩ := s3 hy0 hx0 cb0 ca0
  obtain ⟨u1, su1, du1, bu1⟩ := s3 hy1 hx1 cb1 ca1
  obtain ⟨u2, su2, du2, bu2⟩ := s3 hy2 hx2 cb2 ca2
  obtain ⟨m0, sm0, dm0⟩ := D_mul (D_zero 1074) du0 (Int.zero_mul _) rfl (by decide) (by decide) (by decide)
  obtain ⟨m1, sm1, dm1⟩ := D_mul (D_zero 1074) du1 (Int.zero_mul _) rfl (by decide) (by decide) (by decide)
  obtain ⟨m2, sm2, dm2⟩ := D_mul (D_zero 1074) du2 (Int.zero_mul _) rfl (by decide) (by decide) (by decide)
  obtain ⟨n0, sn0, dn0⟩ := D_sum hx0 dm0 (Int.add_zero _) (show a0.natAbs ≤ 2 ^ 53 by omega) (by decide)
  obtain ⟨n1, sn1, dn1⟩ := D_sum hx1 dm1 (Int.add_zero _) (show a1.natAbs ≤ 2 ^ 53 by omega) (by decide)
  obtain ⟨n2, sn2, dn2⟩ := D_sum hx2 dm2 (Int.add_zero _) (show a2.natAbs ≤ 2 ^ 53 by omega) (by decide)
  obtain ⟨v0, sv0, dv0, bv0⟩ := s3 ht0 hz0 cd0 cc0
  obtain ⟨v1, sv1, dv1, bv1⟩ := s3 ht1 hz1 cd1 cc1
  obtain ⟨v2, sv2, dv2, bv2⟩ := s3 ht2 hz2 cd2 cc2
  obtain ⟨f1, f2, ⟨X0, qX0, bX0, bX0', nX0, nX0'⟩, -⟩ := inner3 hx0 hz0 dv0 hr hfr he ca0 cc0 bv0
  obtain ⟨f3, f4, ⟨X1, qX1, bX1, bX1', nX1, nX1'⟩, -⟩ := inner3 hx1 hz1 dv1 hr hfr he ca1 cc1 bv1
  obtain ⟨f5, f6, ⟨X2, qX2, bX2, bX2', nX2, nX2'⟩, -⟩ := inner3 hx2 hz2 dv2 hr hfr he ca2 cc2 bv2
  have e256 : ((256 : Nat) : Rat) = 256 := rfl
  have ka0 := rat_bd ca0
  have ka1 := rat_bd ca1
  have ka2 := rat_bd ca2
  rw [e256] at ka0 ka1 ka2
  obtain ⟨w, o, u, v, t, r1, r2, r3, r4, r5, o1, o2, o3, o4⟩ := dist_q k (Q_whole dn0) (Q_whole dn1) (Q_whole dn2) qX0 qX1 qX2 ⟨by grind, by grind⟩ ⟨by grind, by grind⟩ ⟨by grind, by grind⟩
  simp only [i30, i31, i32, sbind, su0, su1, su2, sm0, sm1, sm2, sn0, sn1, sn2, sv0, sv1, sv2, f1, f2, f3, f4, f5, f6, num_q q_zero, num_q hr, r1]
  refine ⟨w, o, rfl, r2, .inr (.inr ⟨⟨by have := fs1; omega, by have := fs2; omega⟩, ?_⟩)⟩
  have hLr := int_lt_rat hL
  rw [z0'] at hLr
  have hfL : f * ((lng (d0 - c0) (d1 - c1) (d2 - c2) : Int) : Rat) = ((dt3 (d0 - c0) (d1 - c1) (d2 - c2) (a0 - c0) (a1 - c1) (a2 - c2) : Int) : Rat) := by
    have h := congrArg (fun z : Int => (z : Rat)) hs
    simp only [Rat.intCast_mul] at h
    rw [← hf] at h
    have h5 : (f * ((lng (d0 - c0) (d1 - c1) (d2 - c2) : Int) : Rat) - ((dt3 (d0 - c0) (d1 - c1) (d2 - c2) (a0 - c0) (a1 - c1) (a2 - c2) : Int) : Rat)) * (den : Rat) = 0 := by grind
    rcases Rat.mul_eq_zero.1 h5 with h6 | h6 <;> grind
  have hw := way3 (w0 := ((a0 - c0 : Int) : Rat)) (w1 := ((a1 - c1 : Int) : Rat)) (w2 := ((a2 - c2 : Int) : Rat)) (u0 := ((d0 - c0 : Int) : Rat)) (u1 := ((d1 - c1 : Int) : Rat)) (u2 := ((d2 - c2 : Int) : Rat)) hfL (by unfold lng; simp only [Rat.intCast_add, Rat.intCast_mul]) (by unfold dt3; simp only [Rat.intCast_add, Rat.intCast_mul])
  have e4 := e36_34
  refine near_end (by grind) ?_ ?_ ?_ ?_ o1 o2 o3 o4 (u' := ((a0 - c0 : Int) : Rat) - f * ((d0 - c0 : Int) : Rat)) (v' := ((a1 - c1 : Int) : Rat) - f * ((d1 - c1 : Int) : Rat)) (w' := ((a2 - c2 : Int) : Rat) - f * ((d2 - c2 : Int) : Rat))
  · rw [hw]
    have hl := congrArg (fun z : Int => (z : Rat)) (lagr (d0 - c0) (d1 - c1) (d2 - c2) (a0 - c0) (a1 - c1) (a2 - c2))
    simp only [Rat.intCast_add, Rat.intCast_mul] at hl
    have e1 : ((lng (a0 - c0) (a1 - c1) (a2 - c2) : Int) : Rat) = ((a0 - c0 : Int) : Rat) * ((a0 - c0 : Int) : Rat) + ((a1 - c1 : Int) : Rat) * ((a1 - c1 : Int) : Rat) + ((a2 - c2 : Int) : Rat) * ((a2 - c2 : Int) : Rat) := by unfold lng; simp only [Rat.intCast_add, Rat.intCast_mul]
    rw [← e1]
    grind
  · rw [Rat.intCast_sub a0 c0]
    generalize f * ((d0 - c0 : Int) : Rat) = z at *
    constructor <;> grind
  · rw [Rat.intCast_sub a1 c1]
    generalize f * ((d1 - c1 : Int) : Rat) = z at *
    constructor <;> grind
  · rw [Rat.intCast_sub a2 c2]
    generalize f * ((d2 - c2 : Int) : Rat) = z at *
    constructor <;> grind
theorem le_abs3 {x : Int} {N : Nat} (h : x.natAbs ≤ N) (hN : N ≤ 1073741824) : x ≤ 1073741824 := by omega
theorem ne_sub3 {a0 a1 a2 b0 b1 b2 : Int} (h : ¬ (a0 = b0 ∧ a1 = b1 ∧ a2 = b2)) : ¬ (b0 - a0 = 0 ∧ b1 - a1 = 0 ∧ b2 - a2 = 0) := fun g => h ⟨by omega, by omega, by omega⟩
theorem dt_left (m s0 s1 s2 w0 w1 w2 : Int) : dt3 (m * s0) (m * s1) (m * s2) w0 w1 w2 = m * dt3 s0 s1 s2 w0 w1 w2 := by unfold dt3; grind
theorem dt_both (m n s0 s1 s2 : Int) : dt3 (m * s0) (m * s1) (m * s2) (n * s0) (n * s1) (n * s2) = m * n * lng s0 s1 s2 := by unfold dt3 lng; grind
theorem lng_mul (n s0 s1 s2 : Int) : lng (n * s0) (n * s1) (n * s2) = n * n * lng s0 s1 s2 := by unfold lng; grind
theorem par1 (m n s : Int) : m * m * s * (n * n * s) - m * n * s * (m * n * s) = 0 := by grind
theorem par2 (m n s t : Int) : m * t * (n * n * s) = n * t * (m * n * s) := by grind
theorem le_zero3 {x : Nat} (h : D x 0 1074) : fle x 0 = true := by rw [D_le h (D_zero 1074)]; exact decide_eq_true (Int.le_refl 0)
theorem lineLine_is (k : Nat) {x0 x1 x2 y0 y1 y2 z0 z1 z2 t0 t1 t2 : Nat} {a0 a1 a2 b0 b1 b2 c0 c1 c2 d0 d1 d2 s0 s1 s2 m n : Int} (hx0 : D x0 a0 1074) (hx1 : D x1 a1 1074) (hx2 : D x2 a2 1074) (hy0 : D y0 b0 1074) (hy1 : D y1 b1 1074) (hy2 : D y2 b2 1074)
    (hz0 : D z0 c0 1074) (hz1 : D z1 c1 1074) (hz2 : D z2 c2 1074) (ht0 : D t0 d0 1074) (ht1 : D t1 d1 1074) (ht2 : D t2 d2 1074)
    (ca0 : a0.natAbs ≤ 256) (ca1 : a1.natAbs ≤ 256) (ca2 : a2.natAbs ≤ 256) (cb0 : b0.natAbs ≤ 256) (cb1 : b1.natAbs ≤ 256) (cb2 : b2.natAbs ≤ 256) (cc0 : c0.natAbs ≤ 256) (cc1 : c1.natAbs ≤ 256) (cc2 : c2.natAbs ≤ 256) (cd0 : d0.natAbs ≤ 256) (cd1 : d1.natAbs ≤ 256) (cd2 : d2.natAbs ≤ 256)
    (hab : ¬ (a0 = b0 ∧ a1 = b1 ∧ a2 = b2)) (hcd : ¬ (c0 = d0 ∧ c1 = d1 ∧ c2 = d2))
    (p0 : b0 - a0 = m * s0) (p1 : b1 - a1 = m * s1) (p2 : b2 - a2 = m * s2) (q0 : d0 - c0 = n * s0) (q1 : d1 - c1 = n * s1) (q2 : d2 - c2 = n * s2) :
    ∃ w o, xyz_DistanceLineToLine k [x0, x1, x2] [y0, y1, y2] [z0, z1, z2] [t0, t1, t2] = some w ∧ Q w o ∧ Told o a0 a1 a2 b0 b1 b2 c0 c1 c2 d0 d1 d2 := by
  have hL : 0 < lng (d0 - c0) (d1 - c1) (d2 - c2) := lng_pos (ne_sub3 hcd)
  have hE := eq3_is k hx0 hx1 hx2 hy0 hy1 hy2
  rw [decide_eq_false hab] at hE
  unfold xyz_DistanceLineToLine
  rw [hE, sbind, br_false, eq3_is k hz0 hz1 hz2 hy0 hy1 hy2, sbind]
  by_cases hcb : c0 = b0 ∧ c1 = b1 ∧ c2 = b2
  · rw [decide_eq_true hcb, br_true]
    obtain ⟨w, o, r1, r2, r3⟩ := ptLine_is k hz0 hz1 hz2 hx0 hx1 hx2 hy0 hy1 hy2 cc0 cc1 cc2 ca0 ca1 ca2 cb0 cb1 cb2 hab
    rw [r1, sbind]
    exact ⟨w, o, rfl, r2, .inl ⟨.inr hcb, r3⟩⟩
  rw [decide_eq_false hcb, br_false]
  obtain ⟨wa, va, da, na⟩ := vecDot_is k hx0 hx1 hx2 hy0 hy1 hy2 hx0 hx1 hx2 hy0 hy1 hy2 ca0 ca1 ca2 cb0 cb1 cb2 ca0 ca1 ca2 cb0 cb1 cb2
  obtain ⟨wb, vb, db, nb⟩ := vecDot_is k hx0 hx1 hx2 hy0 hy1 hy2 hz0 hz1 hz2 ht0 ht1 ht2 ca0 ca1 ca2 cb0 cb1 cb2 cc0 cc1 cc2 cd0 cd1 cd2
  obtain ⟨wc, vc, dc, nc⟩ := vecDot_is k hz0 hz1 hz2 ht0 ht1 ht2 hz0 hz1 hz2 ht0 ht1 ht2 cc0 cc1 cc2 cd0 cd1 cd2 cc0 cc1 cc2 cd0 cd1 cd2
  obtain ⟨wd, vd, dd, nd⟩ := vecDot_is k hx0 hx1 hx2 hy0 hy1 hy2 hz0 hz1 hz2 hx0 hx1 hx2 ca0 ca1 ca2 cb0 cb1 cb2 cc0 cc1 cc2 ca0 ca1 ca2
  obtain ⟨we, ve, de, ne⟩ := vecDot_is k hz0 hz1 hz2 ht0 ht1 ht2 hz0 hz1 hz2 hx0 hx1 hx2 cc0 cc1 cc2 cd0 cd1 cd2 cc0 cc1 cc2 ca0 ca1 ca2
  obtain ⟨g1, h1⟩ := gm3 da dc na nc (by decide)
  obtain ⟨g2, h2⟩ := gm3 db db nb nb (by decide)
  have ez : dt3 (b0 - a0) (b1 - a1) (b2 - a2) (b0 - a0) (b1 - a1) (b2 - a2) * dt3 (d0 - c0) (d1 - c1) (d2 - c2) (d0 - c0) (d1 - c1) (d2 - c2) - dt3 (b0 - a0) (b1 - a1) (b2 - a2) (d0 - c0) (d1 - c1) (d2 - c2) * dt3 (b0 - a0) (b1 - a1) (b2 - a2) (d0 - c0) (d1 - c1) (d2 - c2) = 0 := by
    rw [p0, p1, p2, q0, q1, q2, dt_both, dt_both, dt_both]; exact par1 _ _ _
  have g3 := gsub_D g1 g2 ez (by decide) (by decide)
  have el : dt3 (d0 - c0) (d1 - c1) (d2 - c2) (d0 - c0) (d1 - c1) (d2 - c2) = lng (d0 - c0) (d1 - c1) (d2 - c2) := rfl
  rw [el] at dc nc
  have bD : lng (d0 - c0) (d1 - c1) (d2 - c2) ≤ 1073741824 := le_abs3 nc (by decide)
  have n1 := num_q (Q_whole g3)
  have n2 := nan_q (Q_whole g3) k
  have n3 := le_zero3 g3
  have n4 := D_gt db dc
  rw [va, sbind, vb, sbind, vc, sbind, vd, sbind, ve, sbind, sbind, sbind, sbind, n1, sbind, n2, sbind, br_false, n3, br_true, n4]
  by_cases hbc : lng (d0 - c0) (d1 - c1) (d2 - c2) < dt3 (b0 - a0) (b1 - a1) (b2 - a2) (d0 - c0) (d1 - c1) (d2 - c2)
  · rw [decide_eq_true hbc, br_true, sbind]
    obtain ⟨f, e, fd, qf, hf, he⟩ := quot_is dd db (Int.lt_trans hL hbc) (Nat.le_trans nd (by decide)) (le_abs3 nb (by decide))
    exact tail3 k hx0 hx1 hx2 hy0 hy1 hy2 hz0 hz1 hz2 ht0 ht1 ht2 ca0 ca1 ca2 cb0 cb1 cb2 cc0 cc1 cc2 cd0 cd1 cd2 hab hcd qf he (Int.lt_trans hL hbc) (le_abs3 nb (by decide)) hf (by
      rw [p0, p1, p2, q0, q1, q2, dt_left, dt_left, dt_both, lng_mul]; exact par2 _ _ _ _)
  · rw [decide_eq_false hbc, br_false, sbind]
    obtain ⟨f, e, fd, qf, hf, he⟩ := quot_is de dc hL (Nat.le_trans ne (by decide)) bD
    exact tail3 k hx0 hx1 hx2 hy0 hy1 hy2 hz0 hz1 hz2 ht0 ht1 ht2 ca0 ca1 ca2 cb0 cb1 cb2 cc0 cc1 cc2 cd0 cd1 cd2 hab hcd qf he hL bD hf rfl
end Go.Proofs.Ytmkhoplffiakmaa
