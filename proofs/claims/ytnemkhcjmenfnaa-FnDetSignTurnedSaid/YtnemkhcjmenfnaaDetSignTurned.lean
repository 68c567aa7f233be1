/-
  The sign of a determinant turned about: the plain statement. Ours.
-/
import Derived.Test.YtnemkhcjmenfnaaDetSign
import Derived.Test.YtnemkhcjmenfnaaWholeTo
import Derived.Test.YtnemkhcjmenfnaaExact3
namespace Go.Proofs.Ytnemkhcjmenfnaa
open Go.Sx
open Ieee (signed)
set_option linter.unusedVariables false
set_option linter.unusedSimpArgs false
set_option maxRecDepth 100000

theorem impl_is {k : Nat} {x1 y1 x2 y2 : Nat} {X1 Y1 X2 Y2 : Int} (h1 : D x1 X1 1074) (h2 : D y1 Y1 1074) (h3 : D x2 X2 1074) (h4 : D y2 Y2 1074) (l1 : x1 < 2 ^ 64) (l2 : y1 < 2 ^ 64) (l3 : x2 < 2 ^ 64) (l4 : y2 < 2 ^ 64)
    (b1 : X1.natAbs ≤ 67108864) (b2 : Y1.natAbs ≤ 67108864) (b3 : X2.natAbs ≤ 67108864) (b4 : Y2.natAbs ≤ 67108864) (hk : 67108864 < k) :
    impl_DetSign k x1 y1 x2 y2 = some (sg (X1 * Y2 - Y1 * X2)) := by
  unfold impl_DetSign
  rw [det_is h1 h2 h3 h4 l1 l2 l3 l4 b1 b2 b3 b4 hk, sbind]
theorem sg_cases (n : Int) : sg n = 0 ∨ sg n = 1 ∨ sg n = -1 := by
  unfold sg; split
  · exact .inr (.inr rfl)
  · split
    · exact .inl rfl
    · exact .inr (.inl rfl)
theorem isub_sg (n : Int) : isub .i64 0 (sg n) = sg (-n) := by
  rw [sg_opp]
  rcases sg_cases n with h | h | h <;> rw [h] <;> decide
theorem ne_same {a b : Int} (h : a = b) : (!decide (a = b)) = false := by subst h; simp
theorem sg_sgn (n : Int) : decide (sg n = 0) = decide (n = 0) := by
  unfold sg
  split
  · rename_i h; simp; omega
  · split
    · rename_i h; subst h; rfl
    · rename_i h; simp; omega
theorem sgn_sgn (n : Int) : decide (sgn n = 0) = decide (n = 0) := by
  unfold sgn
  split
  · rename_i h; simp; omega
  · split
    · rename_i h; subst h; rfl
    · rename_i h; simp; omega
theorem irem_is (a : Int) : ∃ r : Int, irem a 1000 = some r ∧ r.natAbs ≤ 1000 := by
  refine ⟨a.tmod 1000, by simp [irem], ?_⟩
  have := Int.natAbs_tmod a 1000
  rw [this]
  have h2 := Nat.mod_lt a.natAbs (show 0 < (1000 : Int).natAbs by decide)
  have h3 : (1000 : Int).natAbs = 1000 := rfl
  rw [h3] at h2 ⊢
  omega
theorem tail_is (k : Nat) (a0 a1 a2 a3 : Nat) (a4 X1 Y1 X2 Y2 : Int) (hk : 67108864 < k) (h1 : D a0 X1 1074) (h2 : D a1 Y1 1074) (h3 : D a2 X2 1074) (h4 : D a3 Y2 1074) (l1 : a0 < 2 ^ 64) (l2 : a1 < 2 ^ 64) (l3 : a2 < 2 ^ 64) (l4 : a3 < 2 ^ 64)
    (b1 : X1.natAbs ≤ 67108864) (b2 : Y1.natAbs ≤ 67108864) : laws_FnDetSignTurned_j3 k a0 a3 a1 a2 a4 (sg (X1 * Y2 - Y1 * X2)) false = some true := by
  unfold laws_FnDetSignTurned_j3
  rw [br_false]
  obtain ⟨s1, m1, e1, q1, w1⟩ := dyadicOf_is (k := k) l1 h1 (by omega)
  obtain ⟨s2, m2, e2, q2, w2⟩ := dyadicOf_is (k := k) l4 h4 (by omega)
  obtain ⟨s3, m3, e3, q3, w3⟩ := dyadicOf_is (k := k) l2 h2 (by omega)
  obtain ⟨s4, m4, e4, q4, w4⟩ := dyadicOf_is (k := k) l3 h3 (by omega)
  obtain ⟨s5, m5, e5, q5, w5⟩ := dmul_is (k := k) w1 w2 (by decide) (by decide) (by decide) (by decide) (by decide) (by decide) (by omega)
  obtain ⟨s6, m6, e6, q6, w6⟩ := dmul_is (k := k) w3 w4 (by decide) (by decide) (by decide) (by decide) (by decide) (by decide) (by omega)
  obtain ⟨s7, m7, e7, q7, w7⟩ := dsub_is (k := k) w5 w6 (by decide) (by decide) (by decide) (by decide) (by simp; omega)
  have q8 := dsign_is (k := k) w7
  obtain ⟨r, r1, r2⟩ := irem_is a4
  rw [q1, sbind, q2, sbind]
  dsimp only
  rw [q5, sbind, q3, sbind, q4, sbind]
  dsimp only
  rw [q6, sbind]
  dsimp only
  rw [q7, sbind, r1, sbind]
  dsimp only
  rw [q8, sbind, sgn_sgn, sg_sgn]
  have hpow : X1 * 2 ^ 1074 * (Y2 * 2 ^ 1074) - Y1 * 2 ^ 1074 * (X2 * 2 ^ 1074) = (X1 * Y2 - Y1 * X2) * (2 ^ 1074 * 2 ^ 1074) := by
    generalize (2 : Int) ^ 1074 = P
    grind
  have hz : decide (X1 * 2 ^ 1074 * (Y2 * 2 ^ 1074) - Y1 * 2 ^ 1074 * (X2 * 2 ^ 1074) = 0) = decide (X1 * Y2 - Y1 * X2 = 0) := by
    rw [hpow]
    have hp : (0 : Int) < 2 ^ 1074 := Int.pow_pos (by decide)
    generalize (2 : Int) ^ 1074 = P at hp
    have hpp := Int.mul_pos hp hp
    by_cases h : X1 * Y2 - Y1 * X2 = 0
    · rw [h, Int.zero_mul]
    · rw [decide_eq_false h, decide_eq_false]
      intro h'
      rcases Int.mul_eq_zero.1 h' with h5 | h5
      · exact h h5
      · omega
  rw [hz, beq_self_eq_true, br_true]
  have dr := D_i2f (n := r) (by omega)
  have p1 : (r * X1).natAbs ≤ 2 ^ 53 := by
    rw [Int.natAbs_mul]
    have := Nat.mul_le_mul r2 b1
    omega
  have p2 : (r * Y1).natAbs ≤ 2 ^ 53 := by
    rw [Int.natAbs_mul]
    have := Nat.mul_le_mul r2 b2
    omega
  have g1 := gmul_D (u := 1074) dr h1 rfl rfl (by decide) p1 (by decide)
  have g2 := gmul_D (u := 1074) dr h2 rfl rfl (by decide) p2 (by decide)
  have nm : ∀ {x : Nat} {n : Int}, D x n 1074 → num x = some x := fun {x n} h => by
    have : isn x = false := D_num h
    unfold num; rw [this]; rfl
  have hw : D 4724276009111650304 ((67108864 : Nat) : Int) 1074 := by
    have := D_two 26 (by decide)
    exact this
  obtain ⟨b, w1, w2⟩ := wholeTo_is (k := k) 4724276009111650304 67108864 hw (by decide) [gmul (i2f r) a0, gmul (i2f r) a1] (fun x hx => by
    simp at hx
    rcases hx with rfl | rfl <;> exact gmul_lt _ _) (by simp; omega) (by simp)
  rw [sbind, sbind, nm g1, sbind, nm g2, sbind, w1, sbind]
  cases b with
  | false => rfl
  | true =>
    rw [Bool.not_true, br_false, sbind, sbind, nm g1, sbind, nm g2, sbind]
    obtain ⟨n1, u1, v1⟩ := w2 rfl _ (List.mem_cons_self ..)
    obtain ⟨n2, u2, v2⟩ := w2 rfl (gmul (i2f r) a1) (by simp)
    have same : ∀ {x : Nat} {n m : Int}, D x n 1074 → D x m 1074 → n = m := fun {x n m} h h' => by
      have := D_eq h h'
      have h2 := D_eq h h
      rw [this] at h2
      simpa using h2
    have e1 := same g1 u1
    have e2 := same g2 u2
    rw [impl_is h1 h2 g1 g2 l1 l2 (gmul_lt _ _) (gmul_lt _ _) b1 b2 (by rw [e1]; exact v1) (by rw [e2]; exact v2) hk, sbind]
    have : X1 * (r * Y1) - Y1 * (r * X1) = 0 := by grind
    rw [this]; rfl
theorem main (k : Nat) (a0 a1 a2 a3 : Nat) (a4 : Int) (hk : 67108864 < k) (l1 : a0 < 2 ^ 64) (l2 : a1 < 2 ^ 64) (l3 : a2 < 2 ^ 64) (l4 : a3 < 2 ^ 64) : laws_FnDetSignTurned k a0 a1 a2 a3 a4 = some true := by
  have hw : D 4724276009111650304 ((67108864 : Nat) : Int) 1074 := by
    have := D_two 26 (by decide)
    exact this
  obtain ⟨b, w1, w2⟩ := wholeTo_is (k := k) 4724276009111650304 67108864 hw (by decide) [a0, a1, a2, a3] (fun x hx => by
    simp at hx
    rcases hx with rfl | rfl | rfl | rfl <;> assumption) (by simp; omega) (by simp)
  unfold laws_FnDetSignTurned
  rw [w1, sbind]
  cases b with
  | false => rfl
  | true =>
    obtain ⟨X1, h1, b1⟩ := w2 rfl a0 (by simp)
    obtain ⟨Y1, h2, b2⟩ := w2 rfl a1 (by simp)
    obtain ⟨X2, h3, b3⟩ := w2 rfl a2 (by simp)
    obtain ⟨Y2, h4, b4⟩ := w2 rfl a3 (by simp)
    have o1 := D_fneg l1 h1
    have o2 := D_fneg l2 h2
    have o3 := D_fneg l3 h3
    have o4 := D_fneg l4 h4
    have i1 := impl_is h1 h2 h3 h4 l1 l2 l3 l4 b1 b2 b3 b4 hk
    have i2 := impl_is h3 h4 h1 h2 l3 l4 l1 l2 b3 b4 b1 b2 hk
    have i3 := impl_is h2 h1 h4 h3 l2 l1 l4 l3 b2 b1 b4 b3 hk
    have i4 := impl_is o1 o2 h3 h4 (fneg_lt l1) (fneg_lt l2) l3 l4 (by omega) (by omega) b3 b4 hk
    have i5 := impl_is h1 h2 o3 o4 l1 l2 (fneg_lt l3) (fneg_lt l4) b1 b2 (by omega) (by omega) hk
    have t2 : X2 * Y1 - Y2 * X1 = -(X1 * Y2 - Y1 * X2) := by grind
    have t3 : Y1 * X2 - X1 * Y2 = -(X1 * Y2 - Y1 * X2) := by grind
    have t4 : -X1 * Y2 - -Y1 * X2 = -(X1 * Y2 - Y1 * X2) := by grind
    have t5 : X1 * -Y2 - Y1 * -X2 = -(X1 * Y2 - Y1 * X2) := by grind
    rw [t2] at i2
    rw [t3] at i3
    rw [t4] at i4
    rw [t5] at i5
    have hend := tail_is k a0 a1 a2 a3 a4 X1 Y1 X2 Y2 hk h1 h2 h3 h4 l1 l2 l3 l4 b1 b2
    generalize X1 * Y2 - Y1 * X2 = d at *
    rw [Bool.not_true, br_false, i1, sbind, i2, sbind, ne_same (isub_sg d).symm, br_false, i3, sbind, ne_same (isub_sg d).symm]
    unfold laws_FnDetSignTurned_j1
    rw [br_false, i4, sbind, ne_same (isub_sg d).symm]
    unfold laws_FnDetSignTurned_j2
    rw [br_false, i5, sbind, ne_same (isub_sg d).symm]
    exact hend
theorem fact_FnDetSignTurned (a0 a1 a2 a3 : Nat) (a4 : Int) {p : Prop} (g0 : a0 < 18446744073709551616) (g1 : a1 < 18446744073709551616) (g2 : a2 < 18446744073709551616) (g3 : a3 < 18446744073709551616) (g4 : p) :
    laws_FnDetSignTurned 70000000 a0 a1 a2 a3 a4 = some true := main 70000000 a0 a1 a2 a3 a4 (by decide) g0 g1 g2 g3
end Go.Proofs.Ytnemkhcjmenfnaa
