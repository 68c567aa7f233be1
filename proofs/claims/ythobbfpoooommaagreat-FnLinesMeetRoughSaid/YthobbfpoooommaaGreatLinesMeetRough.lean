/-
  The rough way tells how two segments meet: the whole law. Ours.
-/
import Derived.Test.YthobbfpoooommaaGreatLmProg
namespace Go.Proofs.YthobbfpoooommaaGreat
open Go.Sx
open Ieee (signed)
set_option linter.unusedVariables false
set_option linter.unusedSimpArgs false
set_option maxRecDepth 100000

def Near (x : Nat) (n d : Int) : Prop := x < 2 ^ 64 ∧ ∃ M : Int, D x M 0 ∧ ((M * d - n * 2 ^ 1074).natAbs : Int) < (d.natAbs : Int) * 2 ^ 1054
theorem near_core (P Q : Int) (hP : (P : Rat) = Un) (hQ : (Q : Rat) * 1048576 = Un) {M n d : Int} {X e δ : Rat} (hX : X * (d : Rat) = (n : Rat)) (hM : (M : Rat) = (X * (1 + e) + δ) * Un) (he : Sm e (3 * uu)) (hδ : Sm δ uu) (h1 : -8192 ≤ X) (h2 : X ≤ 8192) (hd : d ≠ 0) :
    ((M * d - n * P).natAbs : Int) < (d.natAbs : Int) * Q := by
  have hU := Un_pos
  obtain ⟨e1, e2⟩ := he
  obtain ⟨e3, e4⟩ := hδ
  obtain ⟨t, ht⟩ : ∃ t, t = X * e + δ := ⟨_, rfl⟩
  have t1 : t ≤ 1 / 2097152 := by
    have a1 := Rat.mul_nonneg (show 0 ≤ 8192 - X by grind) (show 0 ≤ e + 3 * uu by grind)
    have a2 := Rat.mul_nonneg (show 0 ≤ 8192 + X by grind) (show 0 ≤ 3 * uu - e by grind)
    grind
  have t2 : -(1 / 2097152) ≤ t := by
    have a1 := Rat.mul_nonneg (show 0 ≤ 8192 - X by grind) (show 0 ≤ 3 * uu - e by grind)
    have a2 := Rat.mul_nonneg (show 0 ≤ 8192 + X by grind) (show 0 ≤ e + 3 * uu by grind)
    grind
  have ev : (((M * d - n * P : Int)) : Rat) = t * ((d : Rat) * Un) := by
    rw [Rat.intCast_sub, Rat.intCast_mul, Rat.intCast_mul, hM, hP, ← hX, ht]; grind
  have key : ∀ (c : Int), 0 < c → ∀ s : Rat, s ≤ 1 / 2097152 → -(1 / 2097152) ≤ s → ∀ v : Int, (v : Rat) = s * ((c : Rat) * Un) → (v.natAbs : Int) < c * Q := by
    intro c hc s s1 s2 v hv
    have hc' : (0 : Rat) < (c : Rat) := Rat.intCast_lt_intCast.2 hc
    have hW := Rat.mul_pos hc' hU
    have hcQ : (((c * Q : Int)) : Rat) * 1048576 = (c : Rat) * Un := by rw [Rat.intCast_mul, Rat.mul_assoc, hQ]
    have g : ∀ (W Z V : Rat), 0 < W → Z * 1048576 = W → V = s * W → V < Z ∧ -Z < V := by
      intro W Z V hW hZ hV
      have a1 := Rat.mul_nonneg (show 0 ≤ 1 / 2097152 - s by grind) (Rat.le_of_lt hW)
      have a2 := Rat.mul_nonneg (show 0 ≤ s + 1 / 2097152 by grind) (Rat.le_of_lt hW)
      clear hv hcQ ev hM hX ht
      constructor <;> grind
    obtain ⟨b1, b2⟩ := g _ _ _ hW hcQ hv
    have b1' := Rat.intCast_lt_intCast.1 b1
    rw [← Rat.intCast_neg] at b2
    have b2' := Rat.intCast_lt_intCast.1 b2
    omega
  rcases Int.lt_or_lt_of_ne hd with h | h
  · rw [show (d.natAbs : Int) = -d by omega]
    refine key (-d) (by omega) (-t) (by grind) (by grind) _ ?_
    rw [ev, Rat.intCast_neg]; grind
  · rw [show (d.natAbs : Int) = d by omega]
    exact key d h t t1 t2 _ ev
theorem un_cast (e : Nat) (he : Un = (2 : Rat) ^ e) : (((2 ^ e : Int)) : Rat) = Un := by rw [castpowi, he]
theorem un_cast2 (e f : Nat) (he : Un = (2 : Rat) ^ e) (h : e = f + 20) : (((2 ^ f : Int)) : Rat) * 1048576 = Un := by
  rw [castpowi, he, h, ← castpow f, ← castpow (f + 20), Nat.pow_add, Rat.natCast_mul]
  rfl
theorem near_of {x y : Nat} {n d : Int} (hx : D x n 1074) (hy : D y d 1074) (hd : d ≠ 0) (hn : n.natAbs ≤ 8192 * d.natAbs) : Near (gdiv x y) n d ∧ num (gdiv x y) = some (gdiv x y) := by
  have q1 := Q_whole hx
  have q2 := Q_whole hy
  have hd' : (d : Rat) ≠ 0 := fun h => hd (Rat.intCast_inj.1 h)
  obtain ⟨X, hX⟩ : ∃ X, X = (n : Rat) / (d : Rat) := ⟨_, rfl⟩
  have hXd : X * (d : Rat) = (n : Rat) := by rw [hX]; grind
  have hb : -8192 ≤ X ∧ X ≤ 8192 := by
    have pos : ∀ (c m : Int), 0 < c → m.natAbs ≤ 8192 * c.natAbs → ∀ Y : Rat, Y * (c : Rat) = (m : Rat) → -8192 ≤ Y ∧ Y ≤ 8192 := by
      intro c m hc hm Y hY
      have hc' : (0 : Rat) < (c : Rat) := Rat.intCast_lt_intCast.2 hc
      have h1 : ((-(8192 * c) : Int) : Rat) ≤ (m : Rat) := Rat.intCast_le_intCast.2 (by omega)
      have h2 : (m : Rat) ≤ ((8192 * c : Int) : Rat) := Rat.intCast_le_intCast.2 (by omega)
      rw [Rat.intCast_neg, Rat.intCast_mul] at h1
      rw [Rat.intCast_mul] at h2
      have e8 : ((8192 : Int) : Rat) = 8192 := rfl
      rw [e8] at h1 h2
      constructor
      · apply Classical.byContradiction
        intro h
        have := Rat.mul_pos (show 0 < -8192 - Y by grind) hc'
        grind
      · apply Classical.byContradiction
        intro h
        have := Rat.mul_pos (show 0 < Y - 8192 by grind) hc'
        grind
    rcases Int.lt_or_lt_of_ne hd with h | h
    · refine pos (-d) (-n) (by omega) (by omega) X ?_
      rw [Rat.intCast_neg, Rat.intCast_neg, ← hXd]; grind
    · exact pos d n h hn X hXd
  have hBB : (32768 : Rat) ≤ BB := by decide +kernel
  obtain ⟨e, δ, q, he, hδ⟩ := gdiv_abs q1 q2 hd' (by rw [← hX]; constructor <;> grind)
  rw [← hX] at q
  refine ⟨⟨gdiv_lt _ _, ?_⟩, num_q q⟩
  obtain ⟨M, m1, m2⟩ := q
  exact ⟨M, m1, near_core (2 ^ 1074) (2 ^ 1054) (un_cast 1074 rfl) (un_cast2 1074 1054 rfl rfl) hXd m2 he hδ hb.1 hb.2 hd⟩
theorem mix_le {o d a b : Int} (ha : a.natAbs ≤ 8192) (hb : b.natAbs ≤ 8192) (h : o * (o - d) ≤ 0) : (a * d + o * (b - a)).natAbs ≤ 8192 * d.natAbs := by
  have e : a * d + o * (b - a) = a * (d - o) + o * b := by grind
  have h' : 0 ≤ o * (d - o) := by
    have : o * (d - o) = -(o * (o - d)) := by grind
    omega
  have h1 := pr_le ha (Nat.le_refl (d - o).natAbs)
  have h2 := pr_le (Nat.le_refl o.natAbs) hb
  rw [e]
  rcases mul_nn.1 h' with ⟨h3, h4⟩ | ⟨h3, h4⟩ <;> omega
theorem j8_is {k : Nat} {a0 a1 b0 b1 c0 c1 d0 d1 : Nat} (hk : 10 < k) (u0 u1 u2 u3 : List Nat) (x y : Nat) (x5 : Bool) :
    ∃ b, lineintersector_NonRobustLineIntersector_computeLineOnLineIntersection_j5 k u0 u1 u2 u3 [0, 0] x y [0, 0] [d0, d1] [c0, c1] x5 = some (u0, u1, u2, u3, [x, y], [0, 0], 1, b) := by
  have s : (([0, 0] : List Nat).set (0 : Int).toNat x).set (1 : Int).toNat y = [x, y] := rfl
  have j7 : ∀ c, ∃ b, lineintersector_NonRobustLineIntersector_computeLineOnLineIntersection_j7 k u0 u1 u2 u3 [0, 0] x y [0, 0] c = some (u0, u1, u2, u3, [x, y], [0, 0], 1, b) := by
    intro c; cases c <;> exact ⟨_, rfl⟩
  have j6 : ∀ c, ∃ b, lineintersector_NonRobustLineIntersector_computeLineOnLineIntersection_j6 k u0 u1 u2 u3 [0, 0] x y [0, 0] [d0, d1] c = some (u0, u1, u2, u3, [x, y], [0, 0], 1, b) := by
    intro c
    unfold lineintersector_NonRobustLineIntersector_computeLineOnLineIntersection_j6
    cases c with
    | true => exact j7 true
    | false =>
      obtain ⟨b, hb⟩ := equal_any hk x y d0 d1
      rw [br_false, s, hb, sbind]; exact j7 b
  unfold lineintersector_NonRobustLineIntersector_computeLineOnLineIntersection_j5
  cases x5 with
  | true => exact j6 true
  | false =>
    obtain ⟨b, hb⟩ := equal_any hk x y c0 c1
    rw [br_false, s, hb, sbind]; exact j6 b
def Cm (A B C E : Int × Int) (r : T8) : Prop :=
  (dn A B C E ≠ 0 ∧ Crs A B C E ∧ ∃ x y, r.2.2.2.2.2.2.1 = 1 ∧ r.2.2.2.2.1 = [x, y] ∧ Near x (A.1 * dn A B C E + orn C E A * (B.1 - A.1)) (dn A B C E) ∧ Near y (A.2 * dn A B C E + orn C E A * (B.2 - A.2)) (dn A B C E)) ∨
  (Rk r 0 ∧ ((dn A B C E ≠ 0 ∧ ¬ Crs A B C E) ∨ (dn A B C E = 0 ∧ orn A B C ≠ 0))) ∨
  (dn A B C E = 0 ∧ orn A B C = 0 ∧ ((B.1 - A.1 ≠ 0 ∧ ((Off A.1 B.1 C.1 E.1 ∧ Rk r 0) ∨ (¬ Off A.1 B.1 C.1 E.1 ∧ Rk r 2))) ∨ (B.2 - A.2 ≠ 0 ∧ ((Off A.2 B.2 C.2 E.2 ∧ Rk r 0) ∨ (¬ Off A.2 B.2 C.2 E.2 ∧ Rk r 2)))))
theorem neg_pos (o p : Int) : (0 < -o * -p) ↔ 0 < o * p := by rw [Int.neg_mul_neg]
theorem x_ring (A B C E : Int × Int) : (A.1 - B.1) * (E.1 * C.2 - C.1 * E.2) - (C.1 - E.1) * (B.1 * A.2 - A.1 * B.2) = A.1 * dn A B C E + orn C E A * (B.1 - A.1) := by unfold dn orn; grind
theorem y_ring (A B C E : Int × Int) : (E.2 - C.2) * (B.1 * A.2 - A.1 * B.2) - (B.2 - A.2) * (E.1 * C.2 - C.1 * E.2) = A.2 * dn A B C E + orn C E A * (B.2 - A.2) := by unfold dn orn; grind
theorem d_ring (A B C E : Int × Int) : (B.2 - A.2) * (C.1 - E.1) - (E.2 - C.2) * (A.1 - B.1) = dn A B C E := by unfold dn; grind
theorem comp_is {k a0 a1 b0 b1 c0 c1 d0 d1 : Nat} {A B C E : Int × Int} (hk : 10 < k) (ha : Wd a0 a1 A) (hb : Wd b0 b1 B) (hc : Wd c0 c1 C) (hd : Wd d0 d1 E) (hab : A ≠ B) (u0 u1 u2 u3 : List Nat) :
    ∃ r, lineintersector_NonRobustLineIntersector_computeLineOnLineIntersection k u0 u1 u2 u3 [0, 0] [0, 0] 0 false [a0, a1] [b0, b1] [c0, c1] [d0, d1] = some r ∧ Cm A B C E r := by
  obtain ⟨u, v, m, n, w, e1, e2, e3, e4, e5, du, dv, dw, bu, bv, bw⟩ := line_is ha hb
  obtain ⟨u', v', m', n', w', e1', e2', e3', e4', e5', du', dv', dw', bu', bv', bw'⟩ := line_is hc hd
  obtain ⟨p1, p2, p3, p4, f1, f2, f3, f4, g1⟩ := side_is hc du dv dw bu bv bw
  obtain ⟨q1, q2, q3, q4, f5, f6, f7, f8, g2⟩ := side_is hd du dv dw bu bv bw
  obtain ⟨r1, r2, r3, r4, f1', f2', f3', f4', g3⟩ := side_is ha du' dv' dw' bu' bv' bw'
  obtain ⟨s1, s2, s3, s4, f5', f6', f7', f8', g4⟩ := side_is hb du' dv' dw' bu' bv' bw'
  have z := D_zero 1074
  have hzero : ∀ {o : Int}, (-o = 0) ↔ o = 0 := by intro o; omega
  have j4 : ∃ r, lineintersector_NonRobustLineIntersector_computeLineOnLineIntersection_j4 k u0 u1 u2 u3 [0, 0] [0, 0] u v' u' v 0 [a0, a1] [b0, b1] [c0, c1] [d0, d1] w' w (decide (0 < orn C E A * orn C E B)) = some r ∧ (orn A B C * orn A B E ≤ 0 → Cm A B C E r) := by
    unfold lineintersector_NonRobustLineIntersector_computeLineOnLineIntersection_j4
    by_cases h4 : 0 < orn C E A * orn C E B
    · rw [decide_eq_true h4, br_true]
      refine ⟨_, rfl, fun h5 => .inr (.inl ⟨⟨rfl, ⟨0, 0, rfl⟩, ⟨0, 0, rfl⟩⟩, ?_⟩)⟩
      by_cases h0 : dn A B C E = 0
      · right
        refine ⟨h0, fun h1 => ?_⟩
        obtain ⟨_, l3, _⟩ := col_all hab h0 h1
        rw [l3] at h4; omega
      · exact .inl ⟨h0, fun hcr => by have := hcr.2; omega⟩
    rw [decide_eq_false h4, br_false]
    have bb1 := pr_le bu bv'
    have bb2 := pr_le bu' bv
    have bb3 := sub_le4 bb1 bb2
    have t1 := gmul_D (u := 1074) du dv' rfl rfl (by decide) (by omega) (by decide)
    have t2 := gmul_D (u := 1074) du' dv rfl rfl (by decide) (by omega) (by decide)
    have t3 := gsub_D t1 t2 (d_ring A B C E) (by rw [← d_ring]; omega) (by decide)
    rw [sbind, sbind, sbind, D_eq t3 z]
    by_cases h0 : dn A B C E = 0
    · rw [decide_eq_true h0, br_true]
      obtain ⟨r, hr, hc'⟩ := col_is (k := k) ha hb hc hd hab u0 u1 u2 u3 0 false
      rw [hr, sbind]
      refine ⟨_, rfl, fun h5 => ?_⟩
      by_cases h1 : orn A B C = 0
      · exact .inr (.inr ⟨h0, h1, hc'⟩)
      · have := orn_diff A B C E
        rw [h0, Int.add_zero] at this
        rw [this] at h5
        have := sq_pos h1
        omega
    rw [decide_eq_false h0, br_false]
    have bb4 := pr_le bv bw'
    have bb5 := pr_le bv' bw
    have bb6 := sub_le5 bb4 bb5
    have t4 := gmul_D (u := 1074) dv dw' rfl rfl (by decide) (by omega) (by decide)
    have t5 := gmul_D (u := 1074) dv' dw rfl rfl (by decide) (by omega) (by decide)
    have t6 := gsub_D t4 t5 (x_ring A B C E) (by rw [← x_ring]; omega) (by decide)
    have bb7 := pr_le bu' bw
    have bb8 := pr_le bu bw'
    have bb9 := sub_le5 bb7 bb8
    have t7 := gmul_D (u := 1074) du' dw rfl rfl (by decide) (by omega) (by decide)
    have t8 := gmul_D (u := 1074) du dw' rfl rfl (by decide) (by omega) (by decide)
    have t9 := gsub_D t7 t8 (y_ring A B C E) (by rw [← y_ring]; omega) (by decide)
    have hmix : orn C E A * (orn C E A - dn A B C E) ≤ 0 := by
      have := orn_diff2 A B C E
      rw [this] at h4; omega
    obtain ⟨n1, n2⟩ := near_of t6 t3 h0 (mix_le ha.bx hb.bx hmix)
    obtain ⟨n3, n4⟩ := near_of t9 t3 h0 (mix_le ha.by_ hb.by_ hmix)
    have s : ∀ x y : Nat, (([0, 0] : List Nat).set (0 : Int).toNat x).set (1 : Int).toNat y = [x, y] := fun _ _ => rfl
    have ix : ∀ x : Nat, idx (([0, 0] : List Nat).set (0 : Int).toNat x) 1 = some 0 := fun _ => rfl
    rw [sbind, sbind, sbind, sbind, i0, sbind, n2, sbind, sbind, sbind, sbind, sbind, ix, sbind, n4, sbind, s]
    have fin : ∀ c, ∃ r, lineintersector_NonRobustLineIntersector_computeLineOnLineIntersection_j5 k u0 u1 u2 u3 [0, 0] (gdiv (gsub (gmul v w') (gmul v' w)) (gsub (gmul u v') (gmul u' v))) (gdiv (gsub (gmul u' w) (gmul u w')) (gsub (gmul u v') (gmul u' v))) [0, 0] [d0, d1] [c0, c1] c = some r ∧ (orn A B C * orn A B E ≤ 0 → Cm A B C E r) := by
      intro c
      obtain ⟨b, hb'⟩ := j8_is (a0 := a0) (a1 := a1) (b0 := b0) (b1 := b1) (c0 := c0) (c1 := c1) (d0 := d0) (d1 := d1) hk u0 u1 u2 u3 (gdiv (gsub (gmul v w') (gmul v' w)) (gsub (gmul u v') (gmul u' v))) (gdiv (gsub (gmul u' w) (gmul u w')) (gsub (gmul u v') (gmul u' v))) c
      exact ⟨_, hb', fun h5 => .inl ⟨h0, ⟨h5, by omega⟩, _, _, rfl, rfl, n1, n3⟩⟩
    obtain ⟨b, hb'⟩ := equal_any hk (gdiv (gsub (gmul v w') (gmul v' w)) (gsub (gmul u v') (gmul u' v))) (gdiv (gsub (gmul u' w) (gmul u w')) (gsub (gmul u v') (gmul u' v))) a0 a1
    rw [hb', sbind]
    cases b with
    | true => exact fin true
    | false =>
      obtain ⟨b', hb2⟩ := equal_any hk (gdiv (gsub (gmul v w') (gmul v' w)) (gsub (gmul u v') (gmul u' v))) (gdiv (gsub (gmul u' w) (gmul u w')) (gsub (gmul u v') (gmul u' v))) b0 b1
      rw [br_false, hb2, sbind]
      exact fin b'
  obtain ⟨r, hr, hcm⟩ := j4
  have j2 : ∃ r, lineintersector_NonRobustLineIntersector_computeLineOnLineIntersection_j2 k u0 u1 u2 u3 [0, 0] [0, 0] [d0, d1] [c0, c1] [a0, a1] [b0, b1] u v 0 w (decide (0 < orn A B C * orn A B E)) = some r ∧ Cm A B C E r := by
    unfold lineintersector_NonRobustLineIntersector_computeLineOnLineIntersection_j2
    by_cases h4 : 0 < orn A B C * orn A B E
    · rw [decide_eq_true h4, br_true]
      refine ⟨_, rfl, .inr (.inl ⟨⟨rfl, ⟨0, 0, rfl⟩, ⟨0, 0, rfl⟩⟩, ?_⟩)⟩
      by_cases h0 : dn A B C E = 0
      · exact .inr ⟨h0, fun h1 => by rw [h1] at h4; omega⟩
      · exact .inl ⟨h0, fun hcr => by have := hcr.1; omega⟩
    rw [decide_eq_false h4, br_false, i1, sbind, i1, sbind, e1', sbind, i0, sbind, i0, sbind, e2', sbind, sbind, sbind, e3', sbind, sbind, sbind, e4', sbind, e5', sbind, i0, sbind, f1', sbind, i1, sbind, f2', sbind, f3', sbind, f4', sbind, i0, sbind, f5', sbind, i1, sbind, f6', sbind, f7', sbind, f8', sbind, D_ne g3 z, D_ne g4 z]
    refine ⟨r, ?_, hcm (by omega)⟩
    unfold lineintersector_NonRobustLineIntersector_computeLineOnLineIntersection_j3
    by_cases h5 : orn C E A = 0
    · rw [decide_eq_true (hzero.2 h5), Bool.not_true, br_false, br_false]
      rw [decide_eq_false (show ¬ 0 < orn C E A * orn C E B by rw [h5]; omega)] at hr
      exact hr
    rw [decide_eq_false (fun h => h5 (hzero.1 h)), Bool.not_false, br_true]
    by_cases h6 : orn C E B = 0
    · rw [decide_eq_true (hzero.2 h6), Bool.not_true, br_false]
      rw [decide_eq_false (show ¬ 0 < orn C E A * orn C E B by rw [h6]; omega)] at hr
      exact hr
    rw [decide_eq_false (fun h => h6 (hzero.1 h)), Bool.not_false, br_true, same_is g3 g4, sbind, decide_eq_decide.2 (neg_pos _ _)]
    exact hr
  obtain ⟨r', hr', hcm'⟩ := j2
  refine ⟨r', ?_, hcm'⟩
  unfold lineintersector_NonRobustLineIntersector_computeLineOnLineIntersection
  rw [i1, sbind, i1, sbind, e1, sbind, i0, sbind, i0, sbind, e2, sbind, sbind, sbind, e3, sbind, sbind, sbind, e4, sbind, e5, sbind, i0, sbind, f1, sbind, i1, sbind, f2, sbind, f3, sbind, f4, sbind, i0, sbind, f5, sbind, i1, sbind, f6, sbind, f7, sbind, f8, sbind, D_ne g1 z, D_ne g2 z]
  unfold lineintersector_NonRobustLineIntersector_computeLineOnLineIntersection_j1
  by_cases h5 : orn A B C = 0
  · rw [decide_eq_true (hzero.2 h5), Bool.not_true, br_false, br_false]
    rw [decide_eq_false (show ¬ 0 < orn A B C * orn A B E by rw [h5]; omega)] at hr'
    exact hr'
  rw [decide_eq_false (fun h => h5 (hzero.1 h)), Bool.not_false, br_true]
  by_cases h6 : orn A B E = 0
  · rw [decide_eq_true (hzero.2 h6), Bool.not_true, br_false]
    rw [decide_eq_false (show ¬ 0 < orn A B C * orn A B E by rw [h6]; omega)] at hr'
    exact hr'
  rw [decide_eq_false (fun h => h6 (hzero.1 h)), Bool.not_false, br_true, same_is g1 g2, sbind, decide_eq_decide.2 (neg_pos _ _)]
  exact hr'
theorem places0 (k : Nat) (hk : 5 < k) : impl_places k [] = some [] := by
  obtain ⟨k, rfl⟩ : ∃ j, k = j + 1 := ⟨k - 1, by omega⟩
  rfl
theorem places1 (k : Nat) (hk : 5 < k) (x y : Nat) : impl_places k [[x, y]] = some [(x, y)] := by
  obtain ⟨k, rfl⟩ : ∃ j, k = j + 2 := ⟨k - 2, by omega⟩
  have : impl_places_l1 [[x, y]] (k + 2) ([], 0) = some [(x, y)] := by
    show impl_places_l1s [[x, y]] (k + 1) (impl_places_l1 [[x, y]] (k + 1)) [] 0 = _
    unfold impl_places_l1s impl_place
    rw [decide_eq_true (by simp), br_true, show idx [[x, y]] 0 = some [x, y] from rfl, sbind, i0, sbind, i1, sbind, sbind]
    rw [show apd 16 ([] : List (Nat × Nat)) [(x, y)] = some [(x, y)] from apd_some (by simp) (by simp), sbind, show iadd .i64 0 1 = 1 from rfl]
    show impl_places_l1s [[x, y]] k (impl_places_l1 [[x, y]] k) [(x, y)] 1 = _
    unfold impl_places_l1s
    rw [decide_eq_false (by simp), br_false]
  unfold impl_places
  rw [this, sbind]
theorem places2 (k : Nat) (hk : 5 < k) (x y z w : Nat) : impl_places k [[x, y], [z, w]] = some [(x, y), (z, w)] := by
  obtain ⟨k, rfl⟩ : ∃ j, k = j + 3 := ⟨k - 3, by omega⟩
  have : impl_places_l1 [[x, y], [z, w]] (k + 3) ([], 0) = some [(x, y), (z, w)] := by
    show impl_places_l1s [[x, y], [z, w]] (k + 2) (impl_places_l1 [[x, y], [z, w]] (k + 2)) [] 0 = _
    unfold impl_places_l1s impl_place
    rw [decide_eq_true (by simp), br_true, i0, sbind, i0, sbind, i1, sbind, sbind]
    rw [show apd 16 ([] : List (Nat × Nat)) [(x, y)] = some [(x, y)] from apd_some (by simp) (by simp), sbind, show iadd .i64 0 1 = 1 from rfl]
    show impl_places_l1s [[x, y], [z, w]] (k + 1) (impl_places_l1 [[x, y], [z, w]] (k + 1)) [(x, y)] 1 = _
    unfold impl_places_l1s impl_place
    rw [decide_eq_true (by simp), br_true, i1, sbind, i0, sbind, i1, sbind, sbind]
    rw [show apd 16 [(x, y)] [(z, w)] = some [(x, y), (z, w)] from apd_some (by simp) (by simp), sbind, show iadd .i64 1 1 = 2 from rfl]
    show impl_places_l1s [[x, y], [z, w]] k (impl_places_l1 [[x, y], [z, w]] k) [(x, y), (z, w)] 2 = _
    unfold impl_places_l1s
    rw [decide_eq_false (by simp), br_false]
  unfold impl_places
  rw [this, sbind]
def Lm (A B C E : Int × Int) (h : Int) (l : List (Nat × Nat)) : Prop :=
  (dn A B C E ≠ 0 ∧ Crs A B C E ∧ h = 1 ∧ ∃ x y, l = [(x, y)] ∧ Near x (A.1 * dn A B C E + orn C E A * (B.1 - A.1)) (dn A B C E) ∧ Near y (A.2 * dn A B C E + orn C E A * (B.2 - A.2)) (dn A B C E)) ∨
  (h = 0 ∧ ((dn A B C E ≠ 0 ∧ ¬ Crs A B C E) ∨ (dn A B C E = 0 ∧ orn A B C ≠ 0))) ∨
  (dn A B C E = 0 ∧ orn A B C = 0 ∧ ((B.1 - A.1 ≠ 0 ∧ ((Off A.1 B.1 C.1 E.1 ∧ h = 0) ∨ (¬ Off A.1 B.1 C.1 E.1 ∧ h = 2))) ∨ (B.2 - A.2 ≠ 0 ∧ ((Off A.2 B.2 C.2 E.2 ∧ h = 0) ∨ (¬ Off A.2 B.2 C.2 E.2 ∧ h = 2)))))
theorem meets_is {k a0 a1 b0 b1 c0 c1 d0 d1 : Nat} {A B C E : Int × Int} (hk : 10 < k) (ha : Wd a0 a1 A) (hb : Wd b0 b1 B) (hc : Wd c0 c1 C) (hd : Wd d0 d1 E) (hab : A ≠ B) :
    ∃ h l, impl_LinesMeet k a0 a1 b0 b1 c0 c1 d0 d1 = some (h, l) ∧ Lm A B C E h l := by
  obtain ⟨r, hr, hcm⟩ := comp_is hk ha hb hc hd hab [c0, c1] [d0, d1] [a0, a1] [b0, b1]
  have k0 : Rk r 0 → impl_LinesMeet k a0 a1 b0 b1 c0 c1 d0 d1 = some (0, []) := by
    intro h
    have e : r.2.2.2.2.2.2.1 = 0 := h.1
    unfold impl_LinesMeet impl_strategy impl_coord lineintersector_LineIntersectsLine lineintersector_LineIntersectsLine_j1a lineintersection_NewResult lineintersection_Result_Type lineintersection_Result_Intersection
    rw [sbind, sbind, sbind, sbind, sbind, hr, sbind, e, decide_eq_true rfl, br_true, sbind, sbind, sbind, sbind, places0 k (by omega), sbind]
  have k1 : ∀ x y, r.2.2.2.2.2.2.1 = 1 → r.2.2.2.2.1 = [x, y] → impl_LinesMeet k a0 a1 b0 b1 c0 c1 d0 d1 = some (1, [(x, y)]) := by
    intro x y e e'
    unfold impl_LinesMeet impl_strategy impl_coord lineintersector_LineIntersectsLine lineintersector_LineIntersectsLine_j1b lineintersection_NewResult lineintersection_Result_Type lineintersection_Result_Intersection
    rw [sbind, sbind, sbind, sbind, sbind, hr, sbind, e, e', decide_eq_false (by decide), br_false, decide_eq_true rfl, br_true]
    have hc1 : ∀ p q : List Nat, cut [p, q] 0 1 = some [p] := fun _ _ => rfl
    rw [hc1, sbind, sbind, sbind, sbind, sbind, places1 k (by omega), sbind]
  have k2 : Rk r 2 → ∃ l, impl_LinesMeet k a0 a1 b0 b1 c0 c1 d0 d1 = some (2, l) := by
    rintro ⟨e, ⟨x, y, e'⟩, z, w, e''⟩
    unfold impl_LinesMeet impl_strategy impl_coord lineintersector_LineIntersectsLine lineintersector_LineIntersectsLine_j1b lineintersection_NewResult lineintersection_Result_Type lineintersection_Result_Intersection
    rw [sbind, sbind, sbind, sbind, sbind, hr, sbind, e, e', e'', decide_eq_false (by decide), br_false, decide_eq_false (by decide), br_false, decide_eq_true rfl, br_true]
    have hc1 : ∀ p q : List Nat, cut [p, q] 0 2 = some [p, q] := fun _ _ => rfl
    rw [hc1, sbind, sbind, sbind, sbind, sbind, places2 k (by omega), sbind]
    exact ⟨_, rfl⟩
  rcases hcm with ⟨h0, hcr, x, y, e, e', n1, n2⟩ | ⟨hr0, h⟩ | ⟨h0, h1, h⟩
  · exact ⟨_, _, k1 x y e e', .inl ⟨h0, hcr, rfl, x, y, rfl, n1, n2⟩⟩
  · exact ⟨_, _, k0 hr0, .inr (.inl ⟨rfl, h⟩)⟩
  · rcases h with ⟨hx, ⟨ho, hr0⟩ | ⟨ho, hr2⟩⟩ | ⟨hx, ⟨ho, hr0⟩ | ⟨ho, hr2⟩⟩
    · exact ⟨_, _, k0 hr0, .inr (.inr ⟨h0, h1, .inl ⟨hx, .inl ⟨ho, rfl⟩⟩⟩)⟩
    · obtain ⟨l, hl⟩ := k2 hr2
      exact ⟨_, l, hl, .inr (.inr ⟨h0, h1, .inl ⟨hx, .inr ⟨ho, rfl⟩⟩⟩)⟩
    · exact ⟨_, _, k0 hr0, .inr (.inr ⟨h0, h1, .inr ⟨hx, .inl ⟨ho, rfl⟩⟩⟩)⟩
    · obtain ⟨l, hl⟩ := k2 hr2
      exact ⟨_, l, hl, .inr (.inr ⟨h0, h1, .inr ⟨hx, .inr ⟨ho, rfl⟩⟩⟩)⟩
theorem near_ratio {k x : Nat} {s s' : Bool} {l l' : List Int} {e e' n m d f : Int} (hk : 10000 < k) (h : Near x n d) (hR : Rz s l e s' l' e' m f) (hf : 0 < f) (hc : (f = d ∧ m = n) ∨ (f = -d ∧ m = -n)) : laws_nearRatio k x s l e s' l' e' (-20) = some true := by
  obtain ⟨hx, M, hM, hn⟩ := h
  refine nearRatio_z hk hx hM hR ?_
  rcases hc with ⟨rfl, rfl⟩ | ⟨rfl, rfl⟩
  · rw [show ((f.natAbs : Nat) : Int) = f by omega] at hn; exact hn
  · rw [show ((d.natAbs : Nat) : Int) = -d by omega] at hn
    have e : M * -d - -n * 2 ^ 1074 = -(M * d - n * 2 ^ 1074) := by
      generalize (2 : Int) ^ 1074 = P; grind
    rw [e, Int.natAbs_neg]; exact hn
theorem lmr_main {k a0 a1 b0 b1 c0 c1 d0 d1 : Nat} (hk : 20000 < k) (l0 : a0 < 2 ^ 64) (l1 : a1 < 2 ^ 64) (l2 : b0 < 2 ^ 64) (l3 : b1 < 2 ^ 64) (l4 : c0 < 2 ^ 64) (l5 : c1 < 2 ^ 64) (l6 : d0 < 2 ^ 64) (l7 : d1 < 2 ^ 64) :
    laws_FnLinesMeetRough k a0 a1 b0 b1 c0 c1 d0 d1 = some true := by
  have hw : D 4665729213955833856 ((8192 : Nat) : Int) 1074 := D_two 13 (by omega)
  obtain ⟨t, w1, w2⟩ := planeTo_is (k := k) 4665729213955833856 8192 hw (by decide) [(a0, a1), (b0, b1), (c0, c1), (d0, d1)] (fun x hx => by
    simp only [List.mem_cons, List.not_mem_nil, or_false] at hx
    rcases hx with rfl | rfl | rfl | rfl <;> exact ⟨by assumption, by assumption⟩) (by simp; omega) (by simp)
  unfold laws_FnLinesMeetRough
  rw [w1, sbind]
  cases t with
  | false => rfl
  | true =>
  obtain ⟨A0, A1, dA0, lA0, dA1, lA1⟩ := w2 rfl (a0, a1) (by simp)
  obtain ⟨B0, B1, dB0, lB0, dB1, lB1⟩ := w2 rfl (b0, b1) (by simp)
  obtain ⟨C0, C1, dC0, lC0, dC1, lC1⟩ := w2 rfl (c0, c1) (by simp)
  obtain ⟨E0, E1, dE0, lE0, dE1, lE1⟩ := w2 rfl (d0, d1) (by simp)
  dsimp only at dA0 lA0 dA1 lA1 dB0 lB0 dB1 lB1 dC0 lC0 dC1 lC1 dE0 lE0 dE1 lE1
  have ha : Wd a0 a1 (A0, A1) := ⟨l0, l1, dA0, dA1, lA0, lA1⟩
  have hb : Wd b0 b1 (B0, B1) := ⟨l2, l3, dB0, dB1, lB0, lB1⟩
  have hc : Wd c0 c1 (C0, C1) := ⟨l4, l5, dC0, dC1, lC0, lC1⟩
  have hd : Wd d0 d1 (E0, E1) := ⟨l6, l7, dE0, dE1, lE0, lE1⟩
  rw [Bool.not_true, br_false, D_eq dA0 dB0, D_eq dA1 dB1]
  unfold laws_FnLinesMeetRough_j1
  rw [D_eq dC0 dE0, D_eq dC1 dE1]
  by_cases e1 : A0 = B0 ∧ A1 = B1
  · rw [decide_eq_true e1.1, decide_eq_true e1.2]; rfl
  have f1 : (decide (A0 = B0) && (decide (A1 = B1) && true)) = false := by
    rw [Bool.and_true, Bool.and_eq_false_iff]
    by_cases h : A0 = B0
    · exact .inr (decide_eq_false fun h' => e1 ⟨h, h'⟩)
    · exact .inl (decide_eq_false h)
  rw [f1, br_false]
  by_cases e2 : C0 = E0 ∧ C1 = E1
  · rw [decide_eq_true e2.1, decide_eq_true e2.2]; rfl
  have f2 : (decide (C0 = E0) && (decide (C1 = E1) && true)) = false := by
    rw [Bool.and_true, Bool.and_eq_false_iff]
    by_cases h : C0 = E0
    · exact .inr (decide_eq_false fun h' => e2 ⟨h, h'⟩)
    · exact .inl (decide_eq_false h)
  rw [f2]
  unfold laws_FnLinesMeetRough_j2
  rw [br_false]
  have hab : ((A0, A1) : Int × Int) ≠ (B0, B1) := fun e => e1 ⟨by injection e, by injection e⟩
  have hcd : ((C0, C1) : Int × Int) ≠ (E0, E1) := fun e => e2 ⟨by injection e, by injection e⟩
  obtain ⟨ra, qa, za⟩ := exactly_z (k := k) l0 l1 dA0 dA1 (by omega)
  obtain ⟨rb, qb, zb⟩ := exactly_z (k := k) l2 l3 dB0 dB1 (by omega)
  obtain ⟨rc, qc, zc⟩ := exactly_z (k := k) l4 l5 dC0 dC1 (by omega)
  obtain ⟨rd, qd, zd⟩ := exactly_z (k := k) l6 l7 dE0 dE1 (by omega)
  obtain ⟨rm, qm, hm⟩ := meet_is (k := k) (by omega) za zb zc zd
  obtain ⟨rx, qx, hx⟩ := crossing_z (k := k) (by omega) za zb zc zd
  obtain ⟨h, l, ql, hl⟩ := meets_is (k := k) (by omega) ha hb hc hd hab
  generalize ((A0, A1) : Int × Int) = A at *
  generalize ((B0, B1) : Int × Int) = B at *
  generalize ((C0, C1) : Int × Int) = C at *
  generalize ((E0, E1) : Int × Int) = E at *
  rw [qa, sbind, qb, sbind, qc, sbind, qd, sbind, qm, sbind, qx, sbind]
  unfold laws_FnLinesMeetRough_j3
  rw [ql]
  have plain : ∀ g : Int, rm.1 = g → g ≠ 1 → h = g → (br (decide (rm.1 = 1)) (br (!rx.2.2.2.2.2.2.2.2.2.2.2.2) (some true) ((some (h, l)) >>= fun r77 => br (!decide (r77.1 = rm.1)) (some false) (br (!decide (rm.1 = 1)) (laws_FnLinesMeetRough_j6 k true) (br (decide ((r77.2.length : Int) = 1)) ((idx r77.2 0) >>= fun r91 => (laws_nearRatio k r91.1 rx.1 rx.2.1 rx.2.2.1 rx.2.2.2.1 rx.2.2.2.2.1 rx.2.2.2.2.2.1 (-20)) >>= fun r95 => br r95 ((idx r77.2 0) >>= fun r99 => (laws_nearRatio k r99.2 rx.2.2.2.2.2.2.1 rx.2.2.2.2.2.2.2.1 rx.2.2.2.2.2.2.2.2.1 rx.2.2.2.2.2.2.2.2.2.1 rx.2.2.2.2.2.2.2.2.2.2.1 rx.2.2.2.2.2.2.2.2.2.2.2.1 (-20)) >>= fun r103 => laws_FnLinesMeetRough_j4 k r103) (laws_FnLinesMeetRough_j4 k false)) (laws_FnLinesMeetRough_j5 k false)))))
      (br false (some true) ((some (h, l)) >>= fun r77 => br (!decide (r77.1 = rm.1)) (some false) (br (!decide (rm.1 = 1)) (laws_FnLinesMeetRough_j6 k true) (br (decide ((r77.2.length : Int) = 1)) ((idx r77.2 0) >>= fun r91 => (laws_nearRatio k r91.1 rx.1 rx.2.1 rx.2.2.1 rx.2.2.2.1 rx.2.2.2.2.1 rx.2.2.2.2.2.1 (-20)) >>= fun r95 => br r95 ((idx r77.2 0) >>= fun r99 => (laws_nearRatio k r99.2 rx.2.2.2.2.2.2.1 rx.2.2.2.2.2.2.2.1 rx.2.2.2.2.2.2.2.2.1 rx.2.2.2.2.2.2.2.2.2.1 rx.2.2.2.2.2.2.2.2.2.2.1 rx.2.2.2.2.2.2.2.2.2.2.2.1 (-20)) >>= fun r103 => laws_FnLinesMeetRough_j4 k r103) (laws_FnLinesMeetRough_j4 k false)) (laws_FnLinesMeetRough_j5 k false)))))) = some true := by
    intro g e hg eh
    rw [e, decide_eq_false hg, br_false, br_false, sbind]
    dsimp only
    rw [eh, decide_eq_true rfl, Bool.not_true, br_false, Bool.not_false, br_true]
    rfl
  rcases hl with ⟨h0, hcr, rfl, x, y, rfl, n1, n2⟩ | ⟨rfl, hh⟩ | ⟨h0, h1, hh⟩
  · have hr1 : rm.1 = 1 := by
      rcases how_cross h0 hm with ⟨h, _⟩ | ⟨_, h⟩
      · exact h
      · exact absurd hcr h
    rcases hx with ⟨hx, _⟩ | ⟨_, hx, n, m, e, he, z1, z2, hz⟩
    · exact absurd hx h0
    have r1 := near_ratio (k := k) (by omega) n1 z1 he (by rcases hz with ⟨p, q, _⟩ | ⟨p, q, _⟩; exact .inl ⟨p, q⟩; exact .inr ⟨p, q⟩)
    have r2 := near_ratio (k := k) (by omega) n2 z2 he (by rcases hz with ⟨p, _, q⟩ | ⟨p, _, q⟩; exact .inl ⟨p, q⟩; exact .inr ⟨p, q⟩)
    have ih : ∀ p : Nat × Nat, idx [p] 0 = some p := fun _ => rfl
    rw [hr1, decide_eq_true rfl, br_true, hx, Bool.not_true, br_false, sbind]
    dsimp only
    rw [decide_eq_true rfl, Bool.not_true, br_false, br_false, decide_eq_true (by rfl), br_true, ih, sbind]
    dsimp only
    rw [r1, sbind, br_true, sbind]
    dsimp only
    rw [r2, sbind]
    rfl
  · refine plain 0 ?_ (by decide) rfl
    rcases hh with ⟨h0, hn⟩ | ⟨h0, h1⟩
    · rcases how_cross h0 hm with ⟨_, h⟩ | ⟨h, _⟩
      · exact absurd h hn
      · exact h
    · exact par_apart hcd h0 h1 hm
  · have hx0 : rx.2.2.2.2.2.2.2.2.2.2.2.2 = false := by
      rcases hx with ⟨_, hx⟩ | ⟨hx, _⟩
      · exact hx
      · exact absurd h0 hx
    have fin : (rm.1 = 0 ∧ h = 0) ∨ ((rm.1 = 1 ∨ rm.1 = 2) ∧ h = 2) := by
      rcases hh with ⟨hs, hh⟩ | ⟨hs, hh⟩
      · rcases how_line1 hcd hs h0 h1 hm with ⟨g, ho⟩ | ⟨g, ho⟩ <;> rcases hh with ⟨ho', hh⟩ | ⟨ho', hh⟩
        · exact .inl ⟨g, hh⟩
        · exact absurd ho ho'
        · exact absurd ho' ho
        · exact .inr ⟨g, hh⟩
      · rcases how_line2 hcd hs h0 h1 hm with ⟨g, ho⟩ | ⟨g, ho⟩ <;> rcases hh with ⟨ho', hh⟩ | ⟨ho', hh⟩
        · exact .inl ⟨g, hh⟩
        · exact absurd ho ho'
        · exact absurd ho' ho
        · exact .inr ⟨g, hh⟩
    rcases fin with ⟨g, hh⟩ | ⟨g | g, hh⟩
    · exact plain 0 g (by decide) hh
    · rw [g, decide_eq_true rfl, br_true, hx0]; rfl
    · exact plain 2 g (by decide) hh
theorem fact_FnLinesMeetRough (a0_0 a0_1 a1_0 a1_1 a2_0 a2_1 a3_0 a3_1 : Nat) (g0 : a0_0 < 18446744073709551616 ∧ a0_1 < 18446744073709551616) (g1 : a1_0 < 18446744073709551616 ∧ a1_1 < 18446744073709551616) (g2 : a2_0 < 18446744073709551616 ∧ a2_1 < 18446744073709551616) (g3 : a3_0 < 18446744073709551616 ∧ a3_1 < 18446744073709551616) :
    laws_FnLinesMeetRough 30000 a0_0 a0_1 a1_0 a1_1 a2_0 a2_1 a3_0 a3_1 = some true := lmr_main (by decide) g0.1 g0.2 g1.1 g1.2 g2.1 g2.2 g3.1 g3.2
end Go.Proofs.YthobbfpoooommaaGreat
