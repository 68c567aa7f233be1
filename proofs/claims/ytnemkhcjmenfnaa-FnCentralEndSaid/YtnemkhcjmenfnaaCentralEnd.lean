/-
  The most central end of two segments: the plain statement. Ours.
-/
import Derived.Test.YtnemkhcjmenfnaaPlaneTo
import Derived.Test.YtnemkhcjmenfnaaHypot
namespace Go.Proofs.Ytnemkhcjmenfnaa
open Go.Sx
open Ieee (signed)
set_option linter.unusedVariables false
set_option linter.unusedSimpArgs false
set_option maxRecDepth 100000

/-! #### roots in order -/
theorem D_zero_any {x : Nat} {v w : Nat} (h : D x 0 v) : D x 0 w := by
  obtain ⟨s, m, q, h1, h2⟩ := h
  exact ⟨s, m, q, h1, by rw [h2]; simp⟩
theorem root_zero_u (e1074 e1000 e2148 e10148 e8000 e5574 e4000 : Nat) (h1 : e1074 = 1074) (h2 : e1000 = 1000) (h3 : e2148 = 2148) (h4 : e10148 = 10148) (h5 : e8000 = 8000) (h6 : e5574 = 5574) (h7 : e4000 = 4000) {w : Nat} (h : D w ((0 : Nat) : Int) e1074) : Q (gsqrt w) 0 := by
  obtain ⟨N, dN, up, _⟩ := gsqrt_near_u e1074 e1000 e2148 e10148 e8000 e5574 e4000 h1 h2 h3 h4 h5 h6 h7 h (Nat.two_pow_pos e1000)
  have hN : N = 0 := by
    have := up 0 0 (by decide) (by rw [Nat.zero_mul, Nat.zero_mul]; exact Nat.le_refl _)
    omega
  rw [hN] at dN
  exact ⟨_, dN, by simp⟩
theorem root_zero {w : Nat} (h : D w 0 1070) : Q (gsqrt w) 0 :=
  root_zero_u 1074 1000 2148 10148 8000 5574 4000 rfl rfl rfl rfl rfl rfl rfl (D_zero_any h)
theorem Q_1070 {w : Nat} {F : Int} (h : D w F 1070) : Q w ((F : Rat) / 16) := by
  have h1 := Q_of h
  have hU := Un_pos
  have e : (2 : Rat) ^ 1070 * 16 = Un := by
    have : (16 : Rat) = 2 ^ 4 := by decide +kernel
    rw [this, ← ratpow_add]; rfl
  have e2 : (F : Rat) * 2 ^ 1070 / Un = (F : Rat) / 16 := by
    generalize (2 : Rat) ^ 1070 = z at *
    rw [← e] at hU ⊢
    grind
  rw [e2] at h1; exact h1
theorem root_is {w : Nat} {F : Int} (h : D w F 1070) (h0 : 0 < F) (h1 : F ≤ 8589934592) : ∃ r e, Q (gsqrt w) r ∧ 0 < r ∧ r * r = (F : Rat) / 16 * (1 + e) ∧ Sm e (5 * uu) := by
  have k1 : (1 : Rat) ≤ (F : Rat) := by
    have : ((1 : Int) : Rat) ≤ (F : Rat) := Rat.intCast_le_intCast.2 h0
    simpa using this
  have k2 : (F : Rat) ≤ 8589934592 := by
    have : (F : Rat) ≤ ((8589934592 : Int) : Rat) := Rat.intCast_le_intCast.2 h1
    simpa using this
  exact gsqrt_rel (Q_1070 h) (by grind) (by grind)
theorem root_lt {w1 w2 : Nat} {F1 F2 : Int} (d1 : D w1 F1 1070) (d2 : D w2 F2 1070) (h0 : 0 ≤ F1) (h1 : F1 < F2) (h2 : F2 ≤ 8589934592) : ∃ r1 r2, Q (gsqrt w1) r1 ∧ Q (gsqrt w2) r2 ∧ r1 < r2 := by
  obtain ⟨r2, e2, q2, p2, s2, b2⟩ := root_is d2 (by omega) h2
  by_cases hz : F1 = 0
  · subst hz
    exact ⟨0, r2, root_zero d1, q2, p2⟩
  · obtain ⟨r1, e1, q1, p1, s1, b1⟩ := root_is d1 (by omega) (by omega)
    refine ⟨r1, r2, q1, q2, ?_⟩
    have k1 : (F1 : Rat) + 1 ≤ (F2 : Rat) := by
      have : ((F1 + 1 : Int) : Rat) ≤ (F2 : Rat) := Rat.intCast_le_intCast.2 (by omega)
      rw [Rat.intCast_add] at this
      simpa using this
    have k2 : (F2 : Rat) ≤ 8589934592 := by
      have : (F2 : Rat) ≤ ((8589934592 : Int) : Rat) := Rat.intCast_le_intCast.2 h2
      simpa using this
    have k0 : (0 : Rat) ≤ (F1 : Rat) := by
      have : ((0 : Int) : Rat) ≤ (F1 : Rat) := Rat.intCast_le_intCast.2 h0
      simpa using this
    obtain ⟨a1, a2⟩ := b1
    obtain ⟨a3, a4⟩ := b2
    have m1 := Rat.mul_nonneg k0 (show 0 ≤ 5 * uu - e1 by grind)
    have m2 := Rat.mul_nonneg (show 0 ≤ (F2 : Rat) by grind) (show 0 ≤ 5 * uu + e2 by grind)
    by_cases hlt : r1 < r2
    · exact hlt
    · exfalso
      have := Rat.mul_nonneg (show 0 ≤ r1 - r2 by grind) (show 0 ≤ r1 + r2 by grind)
      grind
theorem q_lt {x y : Nat} {a b : Rat} (hx : Q x a) (hy : Q y b) : flt x y = decide (a < b) := by
  obtain ⟨m, h1, h2⟩ := hx
  obtain ⟨n, h3, h4⟩ := hy
  have hU := Un_pos
  rw [D_lt h1 h3]
  apply decide_eq_decide.2
  have k1 : (m < n) ↔ ((m : Rat) < (n : Rat)) := Rat.intCast_lt_intCast.symm
  rw [k1, h2, h4]
  constructor
  · intro h
    by_cases h5 : a < b
    · exact h5
    · exfalso
      have := Rat.mul_nonneg (show 0 ≤ a - b by grind) (Rat.le_of_lt hU)
      grind
  · intro h
    have := Rat.mul_pos (show 0 < b - a by grind) hU
    grind
theorem lt_is {w1 w2 : Nat} {F1 F2 : Int} (d1 : D w1 F1 1070) (d2 : D w2 F2 1070) (h0 : 0 ≤ F1) (h0' : 0 ≤ F2) (h1 : F1 ≤ 8589934592) (h2 : F2 ≤ 8589934592) : flt (gsqrt w1) (gsqrt w2) = decide (F1 < F2) := by
  by_cases h : F1 < F2
  · obtain ⟨r1, r2, q1, q2, q3⟩ := root_lt d1 d2 h0 h h2
    rw [q_lt q1 q2, decide_eq_true h, decide_eq_true q3]
  · rw [decide_eq_false h]
    by_cases he : F1 = F2
    · subst he
      by_cases hz : F1 = 0
      · subst hz
        rw [q_lt (root_zero d1) (root_zero d2)]; exact decide_eq_false (by grind)
      · have hr := gsqrt_read (D_read d1 d2 hz)
        obtain ⟨r1, e1, q1, _⟩ := root_is d1 (by omega) h1
        rw [hr] at q1 ⊢
        rw [q_lt q1 q1]; exact decide_eq_false (by grind)
    · obtain ⟨r1, r2, q1, q2, q3⟩ := root_lt d2 d1 h0' (by omega) h1
      rw [q_lt q2 q1]; exact decide_eq_false (by grind)

/-! #### the mean -/
/-- a quarter -/
theorem quarter_u (e1074 e1072 e1000 e5074 e4000 e5128 : Nat) (h1 : e1074 = 1074) (h2 : e1074 = e1072 + 2) (h3 : e1000 = 1000) (h4 : e5074 = 5074) (h5 : e4000 = 4000) (h6 : e5128 = 5128) {x : Nat} {s : Int} (h : D x s e1074) (d4 : D 4616189618054758400 ((4 : Nat) : Int) e1074) (hs : s.natAbs ≤ 2 ^ 53) : D (gdiv x 4616189618054758400) s e1072 := by
  have h1000 : 4 < 2 ^ e1000 := Nat.lt_of_lt_of_le (show 4 < 2 ^ 3 by decide) (pow_le2 3 e1000 (by rw [h3]; decide))
  obtain ⟨N, n1, n2, up, dn⟩ := gdiv_near_u e1074 e1000 e5074 e4000 e5128 h1 h3 h4 h5 h6 h d4 hs (by decide) h1000
  have e : s.natAbs * 2 ^ e1074 = s.natAbs * 2 ^ e1072 * 4 := by
    rw [h2, Nat.pow_add, ← Nat.mul_assoc]
  have k1 := up s.natAbs e1072 hs (Nat.le_of_eq e)
  have k2 := dn s.natAbs e1072 hs (Nat.le_of_eq e.symm)
  have hN : N = s.natAbs * 2 ^ e1072 := Nat.le_antisymm k1 k2
  clear e k1 k2 up dn h1000
  have hc := cast_up N s.natAbs e1072 hN
  by_cases hn : s < 0
  · obtain ⟨sg, m, q, r1, r2⟩ := n1 hn
    refine ⟨sg, m, q, r1, ?_⟩
    have e1 : s = -(s.natAbs : Int) := by omega
    rw [r2, Int.neg_mul, hc, ← Int.neg_mul, ← e1]
  · obtain ⟨sg, m, q, r1, r2⟩ := n2 (by omega)
    refine ⟨sg, m, q, r1, ?_⟩
    have e1 : (s.natAbs : Int) = s := by omega
    rw [r2, hc, e1]
theorem quarter_is {x : Nat} {s : Int} (h : D x s 1074) (hs : s.natAbs ≤ 2 ^ 53) : D (gdiv x 4616189618054758400) s 1072 :=
  quarter_u 1074 1072 1000 5074 4000 5128 rfl rfl rfl rfl rfl rfl h (D_two 2 (by decide)) hs
theorem ix0 (a b : Nat) : idx [a, b] 0 = some a := rfl
theorem ix1 (a b : Nat) : idx [a, b] 1 = some b := rfl
theorem st0 (a b x : Nat) : [a, b].set (0 : Int).toNat x = [x, b] := rfl
theorem st1 (a b x : Nat) : [a, b].set (1 : Int).toNat x = [a, x] := rfl
theorem num_D {x : Nat} {n : Int} {v : Nat} (h : D x n v) : num x = some x := by
  have : isn x = false := D_num h
  unfold num; rw [this]; rfl
theorem nb {x : Int} (h : x.natAbs ≤ 8192) : -8192 ≤ x ∧ x ≤ 8192 := by omega
theorem average_is (k : Nat) {a0 a1 b0 b1 c0 c1 d0 d1 : Nat} {ax ay bx by_ cx cy dx dy : Int} (h1 : D a0 ax 1074) (h2 : D a1 ay 1074) (h3 : D b0 bx 1074) (h4 : D b1 by_ 1074) (h5 : D c0 cx 1074) (h6 : D c1 cy 1074) (h7 : D d0 dx 1074) (h8 : D d1 dy 1074)
    (m1 : ax.natAbs ≤ 8192) (m2 : ay.natAbs ≤ 8192) (m3 : bx.natAbs ≤ 8192) (m4 : by_.natAbs ≤ 8192) (m5 : cx.natAbs ≤ 8192) (m6 : cy.natAbs ≤ 8192) (m7 : dx.natAbs ≤ 8192) (m8 : dy.natAbs ≤ 8192) :
    ∃ x y, centralendpoint_average k [a0, a1] [b0, b1] [c0, c1] [d0, d1] = some [x, y] ∧ D x (ax + bx + cx + dx) 1072 ∧ D y (ay + by_ + cy + dy) 1072 := by
  have z : D (0 : Nat) (0 : Int) 1074 := D_zero 1074
  obtain ⟨m1, m1'⟩ := nb m1
  obtain ⟨m2, m2'⟩ := nb m2
  obtain ⟨m3, m3'⟩ := nb m3
  obtain ⟨m4, m4'⟩ := nb m4
  obtain ⟨m5, m5'⟩ := nb m5
  obtain ⟨m6, m6'⟩ := nb m6
  obtain ⟨m7, m7'⟩ := nb m7
  obtain ⟨m8, m8'⟩ := nb m8
  obtain ⟨s1, e1, v1⟩ := D_sum z h1 rfl (by omega) (by omega)
  obtain ⟨t1, f1, w1⟩ := D_sum z h2 rfl (by omega) (by omega)
  obtain ⟨s2, e2, v2⟩ := D_sum v1 h3 rfl (by omega) (by omega)
  obtain ⟨t2, f2, w2⟩ := D_sum w1 h4 rfl (by omega) (by omega)
  obtain ⟨s3, e3, v3⟩ := D_sum v2 h5 rfl (by omega) (by omega)
  obtain ⟨t3, f3, w3⟩ := D_sum w2 h6 rfl (by omega) (by omega)
  obtain ⟨s4, e4, v4⟩ := D_sum v3 h7 rfl (by omega) (by omega)
  obtain ⟨t4, f4, w4⟩ := D_sum w3 h8 rfl (by omega) (by omega)
  rw [Int.zero_add] at v4 w4
  have q1 := quarter_is v4 (by omega)
  have q2 := quarter_is w4 (by omega)
  have hg : fgt 4616189618054758400 0 = true := by rfl
  have n1 := num_D q1
  have n2 := num_D q2
  refine ⟨_, _, ?_, q1, q2⟩
  clear q1 q2 v1 v2 v3 v4 w1 w2 w3 w4 h1 h2 h3 h4 h5 h6 h7 h8 z m1 m2 m3 m4 m5 m6 m7 m8 m1' m2' m3' m4' m5' m6' m7' m8'
  unfold centralendpoint_average centralendpoint_average_j1
  rw [ix0, sbind, ix0, sbind, e1, sbind, sbind]
  rw [st0, ix1, sbind, ix1, sbind, f1, sbind, sbind]
  rw [st1, ix0, sbind, ix0, sbind, e2, sbind, sbind]
  rw [st0, ix1, sbind, ix1, sbind, f2, sbind, sbind]
  rw [st1, ix0, sbind, ix0, sbind, e3, sbind, sbind]
  rw [st0, ix1, sbind, ix1, sbind, f3, sbind, sbind]
  rw [st1, ix0, sbind, ix0, sbind, e4, sbind, sbind]
  rw [st0, ix1, sbind, ix1, sbind, f4, sbind, sbind]
  rw [hg, br_true, st1, ix0, sbind, sbind, sbind, n1, sbind, st0, ix1, sbind, sbind, sbind, n2, sbind, st1]

/-! #### the nearest one -/
/-- sixteen times the square of the distance from the mean -/
def FF (SX SY x y : Int) : Int := (SX - 4 * x) * (SX - 4 * x) + (SY - 4 * y) * (SY - 4 * y)
theorem FF_le {SX SY x y : Int} (h1 : SX.natAbs ≤ 32768) (h2 : SY.natAbs ≤ 32768) (h3 : x.natAbs ≤ 8192) (h4 : y.natAbs ≤ 8192) :
    ((SX - 4 * x) * (SX - 4 * x)).natAbs ≤ 4294967296 ∧ ((SY - 4 * y) * (SY - 4 * y)).natAbs ≤ 4294967296 ∧ 0 ≤ (SX - 4 * x) * (SX - 4 * x) ∧ 0 ≤ (SY - 4 * y) * (SY - 4 * y) := by
  have k1 : (SX - 4 * x).natAbs ≤ 65536 := by omega
  have k2 : (SY - 4 * y).natAbs ≤ 65536 := by omega
  refine ⟨?_, ?_, ?_, ?_⟩
  · rw [Int.natAbs_mul]; exact Nat.mul_le_mul k1 k1
  · rw [Int.natAbs_mul]; exact Nat.mul_le_mul k2 k2
  · rw [← Int.natAbs_mul_self' (SX - 4 * x)]; exact Int.mul_nonneg (by omega) (by omega)
  · rw [← Int.natAbs_mul_self' (SY - 4 * y)]; exact Int.mul_nonneg (by omega) (by omega)
theorem FF_bd {SX SY x y : Int} (h1 : SX.natAbs ≤ 32768) (h2 : SY.natAbs ≤ 32768) (h3 : x.natAbs ≤ 8192) (h4 : y.natAbs ≤ 8192) : 0 ≤ FF SX SY x y ∧ FF SX SY x y ≤ 8589934592 := by
  obtain ⟨a, b, c, d⟩ := FF_le h1 h2 h3 h4
  unfold FF
  omega
theorem dist_is (k : Nat) {mx my u v : Nat} {SX SY x y : Int} (h1 : D mx SX 1072) (h2 : D my SY 1072) (h3 : D u x 1074) (h4 : D v y 1074) (b1 : SX.natAbs ≤ 32768) (b2 : SY.natAbs ≤ 32768) (b3 : x.natAbs ≤ 8192) (b4 : y.natAbs ≤ 8192) :
    ∃ w, inner_Distance2D k [mx, my] [u, v] = some (gsqrt w) ∧ D w (FF SX SY x y) 1070 := by
  have h3' : D u (4 * x) 1072 := by
    have := D.scale (x := u) (n := x) (v := 1072) (w := 2) h3
    rw [show x * 2 ^ 2 = 4 * x from by omega] at this
    exact this
  have h4' : D v (4 * y) 1072 := by
    have := D.scale (x := v) (n := y) (v := 1072) (w := 2) h4
    rw [show y * 2 ^ 2 = 4 * y from by omega] at this
    exact this
  obtain ⟨p, e1, v1⟩ := D_sub h1 h3' rfl (by omega) (by decide)
  obtain ⟨q, e2, v2⟩ := D_sub h2 h4' rfl (by omega) (by decide)
  obtain ⟨k1, k2, k3, k4⟩ := FF_le b1 b2 b3 b4
  have g1 := gmul_D (u := 1070) v1 v1 rfl (by decide) (by decide) (by omega) (by decide)
  have g2 := gmul_D (u := 1070) v2 v2 rfl (by decide) (by decide) (by omega) (by decide)
  have g3 := gadd_D g1 g2 (c := FF SX SY x y) rfl (by unfold FF; omega) (by decide)
  refine ⟨_, ?_, g3⟩
  unfold inner_Distance2D math_Sqrt
  rw [ix0, sbind, ix0, sbind, e1, sbind, ix1, sbind, ix1, sbind, e2, sbind, sbind, sbind, sbind, num_D g3, sbind, sbind, sbind]

/-- a place: its words and its numbers -/
structure Pt2 (p : Nat × Nat) (x y : Int) : Prop where
  dx : D p.1 x 1074
  dy : D p.2 y 1074
  bx : x.natAbs ≤ 8192
  by_ : y.natAbs ≤ 8192
theorem nearest_is (k : Nat) {mx my : Nat} {SX SY : Int} (h1 : D mx SX 1072) (h2 : D my SY 1072) (b1 : SX.natAbs ≤ 32768) (b2 : SY.natAbs ≤ 32768) {a b c d : Nat × Nat} {ax ay bx by_ cx cy dx dy : Int} (ha : Pt2 a ax ay) (hb : Pt2 b bx by_) (hc : Pt2 c cx cy) (hd : Pt2 d dx dy) :
    ∃ p x y, centralendpoint_findNearestPoint k [mx, my] [a.1, a.2] [b.1, b.2] [c.1, c.2] [d.1, d.2] = some [p.1, p.2] ∧ Pt2 p x y ∧ (p = a ∨ p = b ∨ p = c ∨ p = d) ∧
      FF SX SY x y ≤ FF SX SY ax ay ∧ FF SX SY x y ≤ FF SX SY bx by_ ∧ FF SX SY x y ≤ FF SX SY cx cy ∧ FF SX SY x y ≤ FF SX SY dx dy := by
  obtain ⟨w1, r1, v1⟩ := dist_is k h1 h2 ha.dx ha.dy b1 b2 ha.bx ha.by_
  obtain ⟨w2, r2, v2⟩ := dist_is k h1 h2 hb.dx hb.dy b1 b2 hb.bx hb.by_
  obtain ⟨w3, r3, v3⟩ := dist_is k h1 h2 hc.dx hc.dy b1 b2 hc.bx hc.by_
  obtain ⟨w4, r4, v4⟩ := dist_is k h1 h2 hd.dx hd.dy b1 b2 hd.bx hd.by_
  obtain ⟨f1, f1'⟩ := FF_bd b1 b2 ha.bx ha.by_
  obtain ⟨f2, f2'⟩ := FF_bd b1 b2 hb.bx hb.by_
  obtain ⟨f3, f3'⟩ := FF_bd b1 b2 hc.bx hc.by_
  obtain ⟨f4, f4'⟩ := FF_bd b1 b2 hd.bx hd.by_
  -- the last two steps
  have step2 : ∀ (p : Nat × Nat) (x y : Int) (w : Nat), Pt2 p x y → D w (FF SX SY x y) 1070 → ∃ p' x' y', centralendpoint_findNearestPoint_j2 k [mx, my] [d.1, d.2] (gsqrt w) [p.1, p.2] = some [p'.1, p'.2] ∧ Pt2 p' x' y' ∧ (p' = p ∨ p' = d) ∧ FF SX SY x' y' ≤ FF SX SY x y ∧ FF SX SY x' y' ≤ FF SX SY dx dy := by
    intro p x y w hp hw
    obtain ⟨g1, g2⟩ := FF_bd b1 b2 hp.bx hp.by_
    unfold centralendpoint_findNearestPoint_j2 centralendpoint_findNearestPoint_j3
    rw [r4, sbind, lt_is v4 hw f4 g1 f4' g2]
    by_cases h : FF SX SY dx dy < FF SX SY x y
    · rw [decide_eq_true h, br_true]
      exact ⟨d, dx, dy, rfl, hd, .inr rfl, by omega, by omega⟩
    · rw [decide_eq_false h, br_false]
      exact ⟨p, x, y, rfl, hp, .inl rfl, by omega, by omega⟩
  have step1 : ∀ (p : Nat × Nat) (x y : Int) (w : Nat), Pt2 p x y → D w (FF SX SY x y) 1070 → ∃ p' x' y', centralendpoint_findNearestPoint_j1 k [mx, my] [c.1, c.2] [d.1, d.2] (gsqrt w) [p.1, p.2] = some [p'.1, p'.2] ∧ Pt2 p' x' y' ∧ (p' = p ∨ p' = c ∨ p' = d) ∧ FF SX SY x' y' ≤ FF SX SY x y ∧ FF SX SY x' y' ≤ FF SX SY cx cy ∧ FF SX SY x' y' ≤ FF SX SY dx dy := by
    intro p x y w hp hw
    obtain ⟨g1, g2⟩ := FF_bd b1 b2 hp.bx hp.by_
    unfold centralendpoint_findNearestPoint_j1
    rw [r3, sbind, lt_is v3 hw f3 g1 f3' g2]
    by_cases h : FF SX SY cx cy < FF SX SY x y
    · rw [decide_eq_true h, br_true]
      obtain ⟨p', x', y', t1, t2, t3, t4, t5⟩ := step2 c cx cy w3 hc v3
      refine ⟨p', x', y', t1, t2, .inr t3, by omega, t4, t5⟩
    · rw [decide_eq_false h, br_false]
      obtain ⟨p', x', y', t1, t2, t3, t4, t5⟩ := step2 p x y w hp hw
      refine ⟨p', x', y', t1, t2, ?_, t4, by omega, t5⟩
      rcases t3 with h | h
      · exact .inl h
      · exact .inr (.inr h)
  unfold centralendpoint_findNearestPoint
  rw [r1, sbind, r2, sbind, lt_is v2 v1 f2 f1 f2' f1']
  by_cases h : FF SX SY bx by_ < FF SX SY ax ay
  · rw [decide_eq_true h, br_true]
    obtain ⟨p', x', y', t1, t2, t3, t4, t5, t6⟩ := step1 b bx by_ w2 hb v2
    exact ⟨p', x', y', t1, t2, .inr t3, by omega, t4, t5, t6⟩
  · rw [decide_eq_false h, br_false]
    obtain ⟨p', x', y', t1, t2, t3, t4, t5, t6⟩ := step1 a ax ay w1 ha v1
    refine ⟨p', x', y', t1, t2, ?_, t4, by omega, t5, t6⟩
    rcases t3 with h | h
    · exact .inl h
    · exact .inr (.inr h)

/-! #### the law -/
theorem far_is (k : Nat) {p a b c d : Nat × Nat} {x y ax ay bx by_ cx cy dx dy : Int} (hp : Pt2 p x y) (ha : Pt2 a ax ay) (hb : Pt2 b bx by_) (hc : Pt2 c cx cy) (hd : Pt2 d dx dy) :
    ∃ w, laws_FnCentralEnd_1 k p.1 p.2 a.1 a.2 b.1 b.2 c.1 c.2 d.1 d.2 = some (a.1, a.2, b.1, b.2, c.1, c.2, d.1, d.2, w) ∧ D w (FF (ax + bx + cx + dx) (ay + by_ + cy + dy) x y) 1074 := by
  have d4 : D 4616189618054758400 (4 : Int) 1074 := D_two 2 (by decide)
  obtain ⟨g1, g1'⟩ := nb ha.bx
  obtain ⟨g2, g2'⟩ := nb ha.by_
  obtain ⟨g3, g3'⟩ := nb hb.bx
  obtain ⟨g4, g4'⟩ := nb hb.by_
  obtain ⟨g5, g5'⟩ := nb hc.bx
  obtain ⟨g6, g6'⟩ := nb hc.by_
  obtain ⟨g7, g7'⟩ := nb hd.bx
  obtain ⟨g8, g8'⟩ := nb hd.by_
  obtain ⟨g9, g9'⟩ := nb hp.bx
  obtain ⟨g10, g10'⟩ := nb hp.by_
  obtain ⟨s0, e0, v0⟩ := D_mul (u := 1074) d4 hp.dx rfl rfl (by decide) (by omega) (by decide)
  obtain ⟨s1, e1, v1⟩ := D_sub v0 ha.dx rfl (by omega) (by decide)
  obtain ⟨s2, e2, v2⟩ := D_sub v1 hb.dx rfl (by omega) (by decide)
  obtain ⟨s3, e3, v3⟩ := D_sub v2 hc.dx rfl (by omega) (by decide)
  obtain ⟨s4, e4, v4⟩ := D_sub v3 hd.dx rfl (by omega) (by decide)
  obtain ⟨t0, f0, w0⟩ := D_mul (u := 1074) d4 hp.dy rfl rfl (by decide) (by omega) (by decide)
  obtain ⟨t1, f1, w1⟩ := D_sub w0 ha.dy rfl (by omega) (by decide)
  obtain ⟨t2, f2, w2⟩ := D_sub w1 hb.dy rfl (by omega) (by decide)
  obtain ⟨t3, f3, w3⟩ := D_sub w2 hc.dy rfl (by omega) (by decide)
  obtain ⟨t4, f4, w4⟩ := D_sub w3 hd.dy rfl (by omega) (by decide)
  obtain ⟨k1, k2, k3, k4⟩ := FF_le (SX := ax + bx + cx + dx) (SY := ay + by_ + cy + dy) (x := x) (y := y) (by omega) (by omega) hp.bx hp.by_
  have q1 : (4 * x - ax - bx - cx - dx) * (4 * x - ax - bx - cx - dx) = (ax + bx + cx + dx - 4 * x) * (ax + bx + cx + dx - 4 * x) := by grind
  have q2 : (4 * y - ay - by_ - cy - dy) * (4 * y - ay - by_ - cy - dy) = (ay + by_ + cy + dy - 4 * y) * (ay + by_ + cy + dy - 4 * y) := by grind
  have h1 := gmul_D (u := 1074) v4 v4 q1 rfl (by decide) (by omega) (by decide)
  have h2 := gmul_D (u := 1074) w4 w4 q2 rfl (by decide) (by omega) (by decide)
  have h3 := gadd_D h1 h2 (c := FF (ax + bx + cx + dx) (ay + by_ + cy + dy) x y) rfl (by unfold FF; omega) (by decide)
  refine ⟨_, ?_, h3⟩
  unfold laws_FnCentralEnd_1
  rw [e0, sbind, e1, sbind, e2, sbind, e3, sbind, e4, sbind, f0, sbind, f1, sbind, f2, sbind, f3, sbind, f4, sbind, sbind, sbind, sbind]
theorem main (j : Nat) (a b c d : Nat × Nat) (hj : 100 < j) (ga : a.1 < 2 ^ 64 ∧ a.2 < 2 ^ 64) (gb : b.1 < 2 ^ 64 ∧ b.2 < 2 ^ 64) (gc : c.1 < 2 ^ 64 ∧ c.2 < 2 ^ 64) (gd : d.1 < 2 ^ 64 ∧ d.2 < 2 ^ 64) : laws_FnCentralEnd (j + 5) a.1 a.2 b.1 b.2 c.1 c.2 d.1 d.2 = some true := by
  have hw : D 4665729213955833856 ((8192 : Nat) : Int) 1074 := D_two 13 (by decide)
  obtain ⟨r, r1, r2⟩ := planeTo_is (k := j + 5) 4665729213955833856 8192 hw (by decide) [(a.1, a.2), (b.1, b.2), (c.1, c.2), (d.1, d.2)] (fun x hx => by
    simp at hx
    rcases hx with rfl | rfl | rfl | rfl <;> assumption) (by simp; omega) (by simp)
  unfold laws_FnCentralEnd
  rw [r1, sbind]
  cases r with
  | false => rfl
  | true =>
    obtain ⟨ax, ay, x1, x2, x3, x4⟩ := r2 rfl (a.1, a.2) (by simp)
    obtain ⟨bx, by_, y1, y2, y3, y4⟩ := r2 rfl (b.1, b.2) (by simp)
    obtain ⟨cx, cy, z1, z2, z3, z4⟩ := r2 rfl (c.1, c.2) (by simp)
    obtain ⟨dx, dy, u1, u2, u3, u4⟩ := r2 rfl (d.1, d.2) (by simp)
    have pa : Pt2 a ax ay := ⟨x1, x3, x2, x4⟩
    have pb : Pt2 b bx by_ := ⟨y1, y3, y2, y4⟩
    have pc : Pt2 c cx cy := ⟨z1, z3, z2, z4⟩
    have pd : Pt2 d dx dy := ⟨u1, u3, u2, u4⟩
    obtain ⟨mx, my, v1, v2, v3⟩ := average_is (j + 5) x1 x3 y1 y3 z1 z3 u1 u3 x2 x4 y2 y4 z2 z4 u2 u4
    obtain ⟨p, x, y, n1, n2, n3, n4, n5, n6, n7⟩ := nearest_is (j + 5) v2 v3 (by omega) (by omega) pa pb pc pd
    have hgot : impl_CentralEnd (j + 5) a.1 a.2 b.1 b.2 c.1 c.2 d.1 d.2 = some (p.1, p.2) := by
      unfold impl_CentralEnd impl_coord centralendpoint_GetIntersection centralendpoint_centralEndpointIntersector_compute impl_place
      rw [sbind, sbind, sbind, sbind, v1, sbind]
      rw [n1, sbind, sbind, sbind]
      dsimp only
      rw [ix0, sbind, ix1, sbind, sbind]
    rw [Bool.not_true, br_false, hgot, sbind]
    obtain ⟨fp, e0, w0⟩ := far_is (j + 5) n2 pa pb pc pd
    have far : ∀ (k : Nat) {q : Nat × Nat} {X Y : Int}, Pt2 q X Y → FF (ax + bx + cx + dx) (ay + by_ + cy + dy) x y ≤ FF (ax + bx + cx + dx) (ay + by_ + cy + dy) X Y → ∀ (rec1 : (Nat × Nat × Nat × Nat × Nat × Nat × Nat × Nat × Bool × Int) → Option (Unit ⊕ Bool)) (i : Int) (is : Bool),
        laws_FnCentralEnd_j1 k (q.1, q.2) a.1 a.2 b.1 b.2 c.1 c.2 d.1 d.2 (p.1, p.2) rec1 i is = rec1 (a.1, a.2, b.1, b.2, c.1, c.2, d.1, d.2, is, iadd .i64 i 1) := by
      intro k q X Y hq hle rec1 i is
      obtain ⟨fq, e1, w1⟩ := far_is k hq pa pb pc pd
      obtain ⟨fp, e2, w2⟩ := far_is k n2 pa pb pc pd
      unfold laws_FnCentralEnd_j1
      dsimp only
      rw [e1, sbind]
      dsimp only
      rw [e2, sbind]
      dsimp only
      rw [D_lt w1 w2, decide_eq_false (by omega), br_false]
    have hsame : ∀ {q : Nat × Nat} {X Y : Int}, Pt2 q X Y → (feq q.1 q.1 && (feq q.2 q.2 && true)) = true := by
      intro q X Y hq
      rw [D_eq hq.dx hq.dx, D_eq hq.dy hq.dy]; simp
    have l0 : ∀ (k : Nat) (is : Bool) (i : Nat) (q : Nat × Nat) (X Y : Int), idx [(a.1, a.2), (b.1, b.2), (c.1, c.2), (d.1, d.2)] (i : Int) = some (q.1, q.2) → decide ((i : Int) < (([(a.1, a.2), (b.1, b.2), (c.1, c.2), (d.1, d.2)] : List (Nat × Nat)).length : Int)) = true → i < 10 → Pt2 q X Y → FF (ax + bx + cx + dx) (ay + by_ + cy + dy) x y ≤ FF (ax + bx + cx + dx) (ay + by_ + cy + dy) X Y →
        laws_FnCentralEnd_l1 a.1 a.2 b.1 b.2 c.1 c.2 d.1 d.2 (p.1, p.2) (k + 1) (a.1, a.2, b.1, b.2, c.1, c.2, d.1, d.2, is, (i : Int)) = laws_FnCentralEnd_l1 a.1 a.2 b.1 b.2 c.1 c.2 d.1 d.2 (p.1, p.2) k (a.1, a.2, b.1, b.2, c.1, c.2, d.1, d.2, is || (feq q.1 p.1 && (feq q.2 p.2 && true)), ((i + 1 : Nat) : Int)) := by
      intro k is i q X Y hi hlt hi10 hq hle
      rw [laws_FnCentralEnd_l1]
      unfold laws_FnCentralEnd_l1s
      dsimp only
      rw [hlt, br_true, hi, sbind, far k hq hle, far k hq hle, iadd_one (show i < 9223372036854775807 by omega)]
      cases is <;> rfl
    have hend : ∀ (k : Nat) (is : Bool), laws_FnCentralEnd_l1 a.1 a.2 b.1 b.2 c.1 c.2 d.1 d.2 (p.1, p.2) (k + 1) (a.1, a.2, b.1, b.2, c.1, c.2, d.1, d.2, is, ((4 : Nat) : Int)) = some (.inr is) := by
      intro k is
      rw [laws_FnCentralEnd_l1]
      unfold laws_FnCentralEnd_l1s
      dsimp only
      rw [show decide (((4 : Nat) : Int) < (([(a.1, a.2), (b.1, b.2), (c.1, c.2), (d.1, d.2)] : List (Nat × Nat)).length : Int)) = false from rfl, br_false]
    have hall : laws_FnCentralEnd_l1 a.1 a.2 b.1 b.2 c.1 c.2 d.1 d.2 (p.1, p.2) (j + 5) (a.1, a.2, b.1, b.2, c.1, c.2, d.1, d.2, false, ((0 : Nat) : Int)) = some (.inr true) := by
      rw [l0 (j + 4) false 0 a ax ay rfl rfl (by omega) pa n4, l0 (j + 3) _ 1 b bx by_ rfl rfl (by omega) pb n5, l0 (j + 2) _ 2 c cx cy rfl rfl (by omega) pc n6, l0 (j + 1) _ 3 d dx dy rfl rfl (by omega) pd n7, hend]
      congr 2
      rcases n3 with rfl | rfl | rfl | rfl
      · rw [hsame pa]; simp
      · rw [hsame pb]; simp
      · rw [hsame pc]; simp
      · rw [hsame pd]; simp
    have hall' : laws_FnCentralEnd_l1 a.1 a.2 b.1 b.2 c.1 c.2 d.1 d.2 (p.1, p.2) (j + 5) (a.1, a.2, b.1, b.2, c.1, c.2, d.1, d.2, false, 0) = some (.inr true) := hall
    rw [hall', sbind]
theorem fact_FnCentralEnd (a0 a1 b0 b1 c0 c1 d0 d1 : Nat) (g0 : a0 < 18446744073709551616 ∧ a1 < 18446744073709551616) (g1 : b0 < 18446744073709551616 ∧ b1 < 18446744073709551616) (g2 : c0 < 18446744073709551616 ∧ c1 < 18446744073709551616) (g3 : d0 < 18446744073709551616 ∧ d1 < 18446744073709551616) :
    laws_FnCentralEnd 1000 a0 a1 b0 b1 c0 c1 d0 d1 = some true := main 995 (a0, a1) (b0, b1) (c0, c1) (d0, d1) (by decide) g0 g1 g2 g3
end Go.Proofs.Ytnemkhcjmenfnaa
