/-
  The area and the middle of a triangle of the space: the plain statement. Ours.
-/
import Derived.Test.YtnhbmhdjkibjaaaGridRows
import Derived.Test.YtnhbmhdjkibjaaaTriBase
import Derived.Test.YtnhbmhdjkibjaaaHyp3
namespace Go.Proofs.Ytnhbmhdjkibjaaa
open Go.Sx
open Ieee (signed)
set_option linter.unusedVariables false
set_option linter.unusedSimpArgs false
set_option maxRecDepth 100000

theorem D_thousand : D 4652007308841189376 ((1000 : Nat) : Int) 1074 := by
  have := D_fields (E := 1032) (F := 4292493394837504) (by omega) (by omega) (by omega) (n := ((1000 : Nat) : Int)) (v := 1074) (by
    rw [show (1074 : Nat) = 43 + (1032 - 1) from rfl, Int.pow_add, ← Int.mul_assoc]; congr 1)
  exact this
theorem offGrid_1000 {x : Nat} (hx : x < 2 ^ 64) (h : offGrid 4652007308841189376 x = false) : ∃ n : Int, D x n 1074 ∧ n.natAbs ≤ 1000 := by
  unfold offGrid at h
  simp only [Bool.not_eq_false', Bool.and_eq_true, Bool.not_eq_true'] at h
  exact grid_one (w := 4652007308841189376) (b := 1000) hx (by omega) D_thousand h.1.1 h.1.2 h.2
theorem prod_le {a b : Int} {m n : Nat} (h : a.natAbs ≤ m) (h' : b.natAbs ≤ n) : (a * b).natAbs ≤ m * n := by rw [Int.natAbs_mul]; exact Nat.mul_le_mul h h'
theorem sqn_step (l z : List Nat) (k i x : Nat) (s m n : Int) (hi : i < l.length) (hz : i < z.length) (hm : D l[i] m 1074) (hn : D z[i] n 1074) (hmb : (m - n).natAbs ≤ 2000) (hx : D x s 1074) (hs : s.natAbs ≤ 8000000) (hl : l.length < 10) :
    ∃ x', spec_SquareN_l1 l z (k + 1) (x, (i : Int)) = spec_SquareN_l1 l z k (x', ((i + 1 : Nat) : Int)) ∧ D x' (s + (m - n) * (m - n)) 1074 := by
  have hp := prod_le hmb hmb
  obtain ⟨u1, e1, v1⟩ := D_sub hm hn rfl (by omega) (by decide)
  obtain ⟨u2, e2, v2⟩ := D_mul (u := 1074) v1 v1 rfl rfl (by decide) (by omega) (by decide)
  obtain ⟨u3, e3, v3⟩ := D_sum hx v2 rfl (by omega) (by decide)
  refine ⟨u3, ?_, v3⟩
  simp only [spec_SquareN_l1, spec_SquareN_l1s, lt_true hi, br_true, idx_get hi, idx_get hz, Option.bind_eq_bind, Option.bind_some, e1, e2, e3, iadd_one (show i < 9223372036854775807 by omega)]
theorem sqn_end (l z : List Nat) (k x : Nat) : spec_SquareN_l1 l z (k + 1) (x, (l.length : Int)) = some x := by
  simp only [spec_SquareN_l1, spec_SquareN_l1s, lt_false (Nat.lt_irrefl _), br_false]
theorem sqn3 (j : Nat) {x0 x1 x2 y0 y1 y2 : Nat} {m0 m1 m2 n0 n1 n2 : Int} (h0 : D x0 m0 1074) (h1 : D x1 m1 1074) (h2 : D x2 m2 1074) (g0 : D y0 n0 1074) (g1 : D y1 n1 1074) (g2 : D y2 n2 1074) (b0 : (m0 - n0).natAbs ≤ 2000) (b1 : (m1 - n1).natAbs ≤ 2000) (b2 : (m2 - n2).natAbs ≤ 2000) :
    ∃ w, spec_SquareN (j + 4) [x0, x1, x2] [y0, y1, y2] = some w ∧ D w ((m0 - n0) * (m0 - n0) + (m1 - n1) * (m1 - n1) + (m2 - n2) * (m2 - n2)) 1074 := by
  have hp := prod_le b0 b0
  have hp1 := prod_le b1 b1
  obtain ⟨w1, e1, v1⟩ := sqn_step [x0, x1, x2] [y0, y1, y2] (j + 3) 0 0 0 m0 n0 (by simp) (by simp) h0 g0 b0 (D_zero 1074) (by simp) (by simp)
  obtain ⟨w2, e2, v2⟩ := sqn_step [x0, x1, x2] [y0, y1, y2] (j + 2) 1 w1 (0 + (m0 - n0) * (m0 - n0)) m1 n1 (by simp) (by simp) h1 g1 b1 v1 (by omega) (by simp)
  obtain ⟨w3, e3, v3⟩ := sqn_step [x0, x1, x2] [y0, y1, y2] (j + 1) 2 w2 (0 + (m0 - n0) * (m0 - n0) + (m1 - n1) * (m1 - n1)) m2 n2 (by simp) (by simp) h2 g2 b2 v2 (by omega) (by simp)
  have e4 := sqn_end [x0, x1, x2] [y0, y1, y2] j w3
  refine ⟨w3, ?_, by rw [Int.zero_add] at v3; exact v3⟩
  unfold spec_SquareN
  have : spec_SquareN_l1 [x0, x1, x2] [y0, y1, y2] (j + 4) (0, 0) = some w3 := by
    rw [show ((0 : Nat), (0 : Int)) = (0, ((0 : Nat) : Int)) from rfl, e1, e2, e3]; exact e4
  rw [this]; rfl
theorem sq_nn (m : Int) : 0 ≤ m * m := by rw [← Int.natAbs_mul_self' m]; exact Int.mul_nonneg (by omega) (by omega)
theorem pos_of_prod {U W N d : Int} (hU : 0 ≤ U) (hW : 0 ≤ W) (h : U * W = N + d * d) (hN : 1 ≤ N) : 1 ≤ U ∧ 1 ≤ W := by
  have hd := sq_nn d
  constructor
  · by_cases h0 : U = 0
    · subst h0; rw [Int.zero_mul] at h; omega
    · omega
  · by_cases h0 : W = 0
    · subst h0; rw [Int.mul_zero] at h; omega
    · omega
theorem side_of {C : Rat} {w : Nat} {r e : Rat} {U : Int} (q : Q w r) (h0 : 0 ≤ r) (h : r * r = (U : Rat) * (1 + e)) (he : Sm e (32 * uu)) (hU : 1 ≤ U) (hC : (U : Rat) ≤ C) : Side C w r (U : Rat) := by
  have h1 : (1 : Rat) ≤ (U : Rat) := by
    have : ((1 : Int) : Rat) ≤ (U : Rat) := Rat.intCast_le_intCast.2 hU
    simpa using this
  refine ⟨q, ?_, ⟨e, h, he⟩, h1, hC⟩
  obtain ⟨e1, e2⟩ := he
  have := Rat.mul_pos (show 0 < (U : Rat) by grind) (show 0 < 1 + e by grind)
  by_cases hr : r = 0
  · rw [hr] at h; grind
  · grind
theorem norm_is (k : Nat) {x y z : Nat} {p q o U : Int} {C : Rat} (hx : x < 2 ^ 64) (hy : y < 2 ^ 64) (hz : z < 2 ^ 64) (dx : D x p 1074) (dy : D y q 1074) (dz : D z o 1074) (hp : p.natAbs ≤ 2000) (hq : q.natAbs ≤ 2000) (ho : o.natAbs ≤ 2000) (hU : p * p + q * q + o * o = U) (h1 : 1 ≤ U) (hC : (U : Rat) ≤ C) :
    ∃ w r, r3_Norm k x y z = some w ∧ Side C w r (U : Rat) := by
  obtain ⟨y1, w, r, e, z0, z1, z2, z3, z4, z5, z6⟩ := hyp3 hx hy hz dx dy dz (by omega) (by omega) (by omega)
  refine ⟨w, r, by simp [r3_Norm, math_Hypot, z0, z1], side_of (e := e) z2 z3 ?_ z5 h1 hC⟩
  rw [z4, show 0 + p * p + q * q + o * o = U by omega]
theorem D_numo {x : Nat} {n : Int} {v : Nat} (h : D x n v) : num x = some x := by
  have : isn x = false := D_num h
  unfold num; rw [this]; rfl
theorem ordered_j1 (k w1 w2 w3 : Nat) : br (flt w2 w1) (r3_Triangle_orderedLengths_j1 k w3 w2 w1) (r3_Triangle_orderedLengths_j1 k w3 w1 w2) = some (sort3 w1 w2 w3) := by
  unfold r3_Triangle_orderedLengths_j1 r3_Triangle_orderedLengths_j2 sort3 sort3b sort2
  cases h1 : flt w2 w1 with
  | true =>
    rw [br_true]
    cases h2 : flt w3 w1 with
    | true =>
      cases h3 : flt w3 w2 <;> simp [h2, h3, br_true, br_false]
    | false => simp [h2, br_true, br_false]
  | false =>
    rw [br_false]
    cases h2 : flt w3 w2 with
    | true =>
      cases h3 : flt w3 w1 <;> simp [h2, h3, br_true, br_false]
    | false => simp [h2, br_true, br_false]
theorem nd {a b : Int} (h : a.natAbs ≤ 1000) (h' : b.natAbs ≤ 1000) : (a - b).natAbs ≤ 2000 := by omega
theorem nd53 {a b : Int} (h : a.natAbs ≤ 1000) (h' : b.natAbs ≤ 1000) : (a - b).natAbs ≤ 2 ^ 53 := by omega
theorem ns53 {a b : Int} (h : a.natAbs ≤ 1000) (h' : b.natAbs ≤ 2000) : (b + a).natAbs ≤ 2 ^ 53 := by omega
theorem ns {a b : Int} (h : a.natAbs ≤ 1000) (h' : b.natAbs ≤ 1000) : (a + b).natAbs ≤ 2000 := by omega
theorem ns3 {a b c : Int} (h : a.natAbs ≤ 1000) (h' : b.natAbs ≤ 1000) (h2 : c.natAbs ≤ 1000) : (a + b + c).natAbs ≤ 3000 := by omega
theorem sq_bd {p q o : Int} {U : Int} (h : p.natAbs ≤ 2000) (h' : q.natAbs ≤ 2000) (h3 : o.natAbs ≤ 2000) (hU : p * p + q * q + o * o = U) : U ≤ 12000000 := by
  have h1 := prod_le h h
  have h2 := prod_le h' h'
  have h4 := prod_le h3 h3
  omega
theorem sq_flip (a b c d e f : Int) : (a - b) * (a - b) + (c - d) * (c - d) + (e - f) * (e - f) = (b - a) * (b - a) + (d - c) * (d - c) + (f - e) * (f - e) := by grind
theorem half_le {A K L : Rat} (h : A = K / 16) (h6 : K ≤ 6 * (L * L)) (h1 : 1 ≤ L) : 2 * A ≤ L * L := by
  have : 1 ≤ L * L := by
    have := Rat.mul_nonneg (show (0 : Rat) ≤ L - 1 by grind) (show (0 : Rat) ≤ L + 1 by grind)
    grind
  generalize L * L = LL at *
  grind
theorem quarter_nn {T : Rat} (h : 1 ≤ T) : 0 ≤ T / 4 := by grind
theorem hk_four {T K : Rat} (h : K = 4 * T) (h1 : 1 ≤ T) : 4 ≤ K := by grind
theorem hk_quarter {T K : Rat} (h : K = 4 * T) : T / 4 = K / 16 := by grind
theorem side_nn {C : Rat} {w : Nat} {r x : Rat} (h : Side C w r x) : 0 ≤ x := by have := h.lo; grind
theorem pos32 {r : Rat} (h : 1 / 32 ≤ r) : 0 ≤ r := by grind
/-- the numbers of the triangle -/
theorem hk_dot (U W d : Rat) : HK U (U + W - 2 * d) W = 4 * (U * W - d * d) := by unfold HK; grind
theorem lagrange (p q o r s t : Rat) : (p * p + q * q + o * o) * (r * r + s * s + t * t) - (p * r + q * s + o * t) * (p * r + q * s + o * t) = (q * t - o * s) * (q * t - o * s) + (o * r - p * t) * (o * r - p * t) + (p * s - q * r) * (p * s - q * r) := by grind
theorem lagrange_i (p q o r s t : Int) : (p * p + q * q + o * o) * (r * r + s * s + t * t) = (q * t - o * s) * (q * t - o * s) + (o * r - p * t) * (o * r - p * t) + (p * s - q * r) * (p * s - q * r) + (p * r + q * s + o * t) * (p * r + q * s + o * t) := by grind
theorem dot_side (p q o r s t : Rat) : (r - p) * (r - p) + (s - q) * (s - q) + (t - o) * (t - o) = (p * p + q * q + o * o) + (r * r + s * s + t * t) - 2 * (p * r + q * s + o * t) := by grind
theorem hk_id (p q o r s t : Rat) : HK (p * p + q * q + o * o) ((r - p) * (r - p) + (s - q) * (s - q) + (t - o) * (t - o)) (r * r + s * s + t * t) = 4 * ((q * t - o * s) * (q * t - o * s) + (o * r - p * t) * (o * r - p * t) + (p * s - q * r) * (p * s - q * r)) := by
  rw [dot_side, hk_dot, lagrange]
theorem max3_ge (a b c : Int) : a ≤ max (max a b) c ∧ b ≤ max (max a b) c ∧ c ≤ max (max a b) c := by omega
theorem cross_bd {a b c d : Int} (h1 : a.natAbs ≤ 2000) (h2 : b.natAbs ≤ 2000) (h3 : c.natAbs ≤ 2000) (h4 : d.natAbs ≤ 2000) : (a * b).natAbs ≤ 2 ^ 53 ∧ (c * d).natAbs ≤ 2 ^ 53 ∧ (a * b - c * d).natAbs ≤ 8000000 := by
  have p1 := prod_le h1 h2
  have p2 := prod_le h3 h4
  omega
theorem sum3_bd {a b c : Int} (h1 : a.natAbs ≤ 8000000) (h2 : b.natAbs ≤ 8000000) (h3 : c.natAbs ≤ 8000000) : (a * a).natAbs ≤ 2 ^ 53 ∧ (b * b).natAbs ≤ 2 ^ 53 ∧ (c * c).natAbs ≤ 2 ^ 53 ∧ (a * a + b * b).natAbs ≤ 2 ^ 53 ∧ (a * a + b * b + c * c).natAbs ≤ 2 ^ 53 := by
  have p1 := prod_le h1 h1
  have p2 := prod_le h2 h2
  have p3 := prod_le h3 h3
  omega
theorem n2000 {a : Int} (h : a.natAbs ≤ 2000) : a.natAbs ≤ 2 ^ 53 := by omega
theorem n8m {a : Int} (h : a.natAbs ≤ 8000000) : a.natAbs ≤ 2 ^ 53 := by omega
theorem squareArea_is (k : Nat) {a0 a1 a2 b0 b1 b2 c0 c1 c2 : Nat} {ax ay az bx by_ bz cx cy cz : Int} (h1 : D a0 ax 1074) (h2 : D a1 ay 1074) (h3 : D a2 az 1074) (h4 : D b0 bx 1074) (h5 : D b1 by_ 1074) (h6 : D b2 bz 1074) (h7 : D c0 cx 1074) (h8 : D c1 cy 1074) (h9 : D c2 cz 1074)
    {p q o r s t : Int} (ep : bx - ax = p) (eq_ : by_ - ay = q) (eo : bz - az = o) (er : cx - ax = r) (es : cy - ay = s) (et : cz - az = t)
    (mp : p.natAbs ≤ 2000) (mq : q.natAbs ≤ 2000) (mo : o.natAbs ≤ 2000) (mr : r.natAbs ≤ 2000) (ms : s.natAbs ≤ 2000) (mt : t.natAbs ≤ 2000) :
    ∃ w, laws_squareArea3 k a0 a1 a2 b0 b1 b2 c0 c1 c2 = some w ∧ D w ((q * t - o * s) * (q * t - o * s) + (o * r - p * t) * (o * r - p * t) + (p * s - q * r) * (p * s - q * r)) 1072 := by
  obtain ⟨u1, f1, d1⟩ := D_sub h4 h1 ep (n2000 mp) (by decide)
  obtain ⟨u2, f2, d2⟩ := D_sub h5 h2 eq_ (n2000 mq) (by decide)
  obtain ⟨u3, f3, d3⟩ := D_sub h6 h3 eo (n2000 mo) (by decide)
  obtain ⟨u4, f4, d4⟩ := D_sub h7 h1 er (n2000 mr) (by decide)
  obtain ⟨u5, f5, d5⟩ := D_sub h8 h2 es (n2000 ms) (by decide)
  obtain ⟨u6, f6, d6⟩ := D_sub h9 h3 et (n2000 mt) (by decide)
  obtain ⟨x1, x2, x3⟩ := cross_bd mq mt mo ms
  obtain ⟨y1, y2, y3⟩ := cross_bd mo mr mp mt
  obtain ⟨z1, z2, z3⟩ := cross_bd mp ms mq mr
  have a1 := gmul_D (u := 1074) d2 d6 rfl rfl (by decide) x1 (by decide)
  have a2 := gmul_D (u := 1074) d3 d5 rfl rfl (by decide) x2 (by decide)
  have a3 := gsub_D a1 a2 rfl (n8m x3) (by decide)
  have b1 := gmul_D (u := 1074) d3 d4 rfl rfl (by decide) y1 (by decide)
  have b2 := gmul_D (u := 1074) d1 d6 rfl rfl (by decide) y2 (by decide)
  have b3 := gsub_D b1 b2 rfl (n8m y3) (by decide)
  have c1 := gmul_D (u := 1074) d1 d5 rfl rfl (by decide) z1 (by decide)
  have c2 := gmul_D (u := 1074) d2 d4 rfl rfl (by decide) z2 (by decide)
  have c3 := gsub_D c1 c2 rfl (n8m z3) (by decide)
  obtain ⟨m1, m2, m3, m4, m5⟩ := sum3_bd x3 y3 z3
  have e1 := gmul_D (u := 1074) a3 a3 rfl rfl (by decide) m1 (by decide)
  have e2 := gmul_D (u := 1074) b3 b3 rfl rfl (by decide) m2 (by decide)
  have e3 := gmul_D (u := 1074) c3 c3 rfl rfl (by decide) m3 (by decide)
  have e4 := gadd_D e1 e2 rfl m4 (by decide)
  have e5 := gadd_D e4 e3 rfl m5 (by decide)
  refine ⟨_, ?_, quarter_is e5 m5⟩
  unfold laws_squareArea3
  rw [f1, sbind, f2, sbind, f3, sbind, f4, sbind, f5, sbind, f6, sbind]
  simp only [sbind]
theorem tri_ints {p q o r s t N : Int} (hN : (q * t - o * s) * (q * t - o * s) + (o * r - p * t) * (o * r - p * t) + (p * s - q * r) * (p * s - q * r) = N) (h0 : N ≠ 0) : 1 ≤ N ∧ 1 ≤ p * p + q * q + o * o ∧ 1 ≤ (r - p) * (r - p) + (s - q) * (s - q) + (t - o) * (t - o) ∧ 1 ≤ r * r + s * s + t * t := by
  have g1 := sq_nn (q * t - o * s)
  have g2 := sq_nn (o * r - p * t)
  have g3 := sq_nn (p * s - q * r)
  have h1 : 1 ≤ N := by omega
  have a1 := sq_nn p
  have a2 := sq_nn q
  have a3 := sq_nn o
  have a4 := sq_nn r
  have a5 := sq_nn s
  have a6 := sq_nn t
  have a7 := sq_nn (r - p)
  have a8 := sq_nn (s - q)
  have a9 := sq_nn (t - o)
  have k := lagrange_i p q o r s t
  rw [hN] at k
  obtain ⟨k1, k2⟩ := pos_of_prod (by omega) (by omega) k h1
  have l := lagrange_i p q o (r - p) (s - q) (t - o)
  rw [show q * (t - o) - o * (s - q) = q * t - o * s by grind, show o * (r - p) - p * (t - o) = o * r - p * t by grind, show p * (s - q) - q * (r - p) = p * s - q * r by grind, hN] at l
  obtain ⟨k3, k4⟩ := pos_of_prod (by omega) (by omega) l h1
  exact ⟨h1, k1, k4, k2⟩
theorem main3 (j a0 a1 a2 b0 b1 b2 c0 c1 c2 : Nat) (hj : 100 < j) (ga : a0 < 18446744073709551616 ∧ a1 < 18446744073709551616 ∧ a2 < 18446744073709551616) (gb : b0 < 18446744073709551616 ∧ b1 < 18446744073709551616 ∧ b2 < 18446744073709551616) (gc : c0 < 18446744073709551616 ∧ c1 < 18446744073709551616 ∧ c2 < 18446744073709551616) : laws_FnTriangle3 (j + 4) a0 a1 a2 b0 b1 b2 c0 c1 c2 = some true := by
  obtain ⟨b, hg, hb⟩ := grid_rows (j + 4) [[a0, a1, a2], [b0, b1, b2], [c0, c1, c2]] 3 (by omega) 4652007308841189376 (by simp) (by simp; omega)
  have hg' : spec_Grid (j + 4) [[a0, a1, a2], [b0, b1, b2], [c0, c1, c2]] 3 4652007308841189376 = some b := hg
  unfold laws_FnTriangle3 laws_off3
  rw [sbind, sbind, sbind, hg', sbind]
  cases b with
  | false => rfl
  | true =>
    obtain ⟨ax, h1, m1⟩ := offGrid_1000 (x := a0) (by omega) ((hb rfl [a0, a1, a2] (by simp)).2 0 (by simp))
    obtain ⟨ay, h2, m2⟩ := offGrid_1000 (x := a1) (by omega) ((hb rfl [a0, a1, a2] (by simp)).2 1 (by simp))
    obtain ⟨az, h3, m3⟩ := offGrid_1000 (x := a2) (by omega) ((hb rfl [a0, a1, a2] (by simp)).2 2 (by simp))
    obtain ⟨bx, h4, m4⟩ := offGrid_1000 (x := b0) (by omega) ((hb rfl [b0, b1, b2] (by simp)).2 0 (by simp))
    obtain ⟨by_, h5, m5⟩ := offGrid_1000 (x := b1) (by omega) ((hb rfl [b0, b1, b2] (by simp)).2 1 (by simp))
    obtain ⟨bz, h6, m6⟩ := offGrid_1000 (x := b2) (by omega) ((hb rfl [b0, b1, b2] (by simp)).2 2 (by simp))
    obtain ⟨cx, h7, m7⟩ := offGrid_1000 (x := c0) (by omega) ((hb rfl [c0, c1, c2] (by simp)).2 0 (by simp))
    obtain ⟨cy, h8, m8⟩ := offGrid_1000 (x := c1) (by omega) ((hb rfl [c0, c1, c2] (by simp)).2 1 (by simp))
    obtain ⟨cz, h9, m9⟩ := offGrid_1000 (x := c2) (by omega) ((hb rfl [c0, c1, c2] (by simp)).2 2 (by simp))
    clear hb hg hg'
    obtain ⟨sw, hsw, dsw⟩ := squareArea_is (j + 4) h1 h2 h3 h4 h5 h6 h7 h8 h9 rfl rfl rfl rfl rfl rfl (nd m4 m1) (nd m5 m2) (nd m6 m3) (nd m7 m1) (nd m8 m2) (nd m9 m3)
    obtain ⟨T2, hT2⟩ : ∃ T2, ((by_ - ay) * (cz - az) - (bz - az) * (cy - ay)) * ((by_ - ay) * (cz - az) - (bz - az) * (cy - ay)) + ((bz - az) * (cx - ax) - (bx - ax) * (cz - az)) * ((bz - az) * (cx - ax) - (bx - ax) * (cz - az)) + ((bx - ax) * (cy - ay) - (by_ - ay) * (cx - ax)) * ((bx - ax) * (cy - ay) - (by_ - ay) * (cx - ax)) = T2 := ⟨_, rfl⟩
    rw [hT2] at dsw
    have hz : D 0 ((0 : Int)) 1072 := D_zero 1072
    rw [Bool.not_true, br_false, hsw, sbind, D_eq dsw hz]
    unfold laws_FnTriangle3_j1
    by_cases hT0 : T2 = 0
    · rw [decide_eq_true hT0]; rfl
    · rw [decide_eq_false hT0, br_false]
      obtain ⟨t1, tU, tV, tW⟩ := tri_ints hT2 hT0
      -- the squares of the sides
      obtain ⟨U, hU⟩ : ∃ U, (bx - ax) * (bx - ax) + (by_ - ay) * (by_ - ay) + (bz - az) * (bz - az) = U := ⟨_, rfl⟩
      obtain ⟨V, hV⟩ : ∃ V, (cx - bx) * (cx - bx) + (cy - by_) * (cy - by_) + (cz - bz) * (cz - bz) = V := ⟨_, rfl⟩
      obtain ⟨W, hW⟩ : ∃ W, (cx - ax) * (cx - ax) + (cy - ay) * (cy - ay) + (cz - az) * (cz - az) = W := ⟨_, rfl⟩
      have eV : cx - ax - (bx - ax) = cx - bx := by omega
      have eV' : cy - ay - (by_ - ay) = cy - by_ := by omega
      have eV2 : cz - az - (bz - az) = cz - bz := by omega
      rw [eV, eV', eV2, hV] at tV
      rw [hU] at tU
      rw [hW] at tW
      have hHK : HK (U : Rat) (V : Rat) (W : Rat) = 4 * (T2 : Rat) := by
        have := hk_id ((bx - ax : Int) : Rat) ((by_ - ay : Int) : Rat) ((bz - az : Int) : Rat) ((cx - ax : Int) : Rat) ((cy - ay : Int) : Rat) ((cz - az : Int) : Rat)
        rw [← hU, ← hV, ← hW, ← hT2, ← eV, ← eV', ← eV2]
        simp only [Rat.intCast_add, Rat.intCast_mul, Rat.intCast_sub] at this ⊢
        exact this
      obtain ⟨w1, e1, v1⟩ := sqn3 j h4 h5 h6 h7 h8 h9 (nd m4 m7) (nd m5 m8) (nd m6 m9)
      obtain ⟨w2, e2, v2⟩ := sqn3 j h7 h8 h9 h1 h2 h3 (nd m7 m1) (nd m8 m2) (nd m9 m3)
      obtain ⟨w3, e3, v3⟩ := sqn3 j h1 h2 h3 h4 h5 h6 (nd m1 m4) (nd m2 m5) (nd m3 m6)
      rw [(sq_flip _ _ _ _ _ _).trans hV] at v1
      rw [hW] at v2
      rw [(sq_flip _ _ _ _ _ _).trans hU] at v3
      obtain ⟨lw, e4, v4⟩ := fmax3_D v1 v2 v3
      obtain ⟨g1, g2, g3⟩ := max3_ge V W U
      have bU : U ≤ 12000000 := sq_bd (nd m4 m1) (nd m5 m2) (nd m6 m3) hU
      have bV : V ≤ 12000000 := sq_bd (nd m7 m4) (nd m8 m5) (nd m9 m6) hV
      have bW : W ≤ 12000000 := sq_bd (nd m7 m1) (nd m8 m2) (nd m9 m3) hW
      obtain ⟨L, hL⟩ : ∃ L, max (max V W) U = L := ⟨_, rfl⟩
      rw [hL] at v4 g1 g2 g3
      have bL : L ≤ 12000000 := by clear tU tV tW hU hV hW hT2; omega
      have cV : (V : Rat) ≤ (L : Rat) := Rat.intCast_le_intCast.2 g1
      have cW : (W : Rat) ≤ (L : Rat) := Rat.intCast_le_intCast.2 g2
      have cU : (U : Rat) ≤ (L : Rat) := Rat.intCast_le_intCast.2 g3
      have cL : (L : Rat) ≤ 12000000 := by
        have : (L : Rat) ≤ ((12000000 : Int) : Rat) := Rat.intCast_le_intCast.2 bL
        simpa using this
      have cL1 : (1 : Rat) ≤ (L : Rat) := by
        have : ((1 : Int) : Rat) ≤ (L : Rat) := Rat.intCast_le_intCast.2 (Int.le_trans tU g3)
        simpa using this
      have cT : (1 : Rat) ≤ (T2 : Rat) := by
        have : ((1 : Int) : Rat) ≤ (T2 : Rat) := Rat.intCast_le_intCast.2 t1
        simpa using this
      -- the lengths
      have s1 := gsub_D h4 h1 rfl (nd53 m4 m1) (by decide)
      have s2 := gsub_D h5 h2 rfl (nd53 m5 m2) (by decide)
      have s3 := gsub_D h6 h3 rfl (nd53 m6 m3) (by decide)
      have s4 := gsub_D h7 h4 rfl (nd53 m7 m4) (by decide)
      have s5 := gsub_D h8 h5 rfl (nd53 m8 m5) (by decide)
      have s6 := gsub_D h9 h6 rfl (nd53 m9 m6) (by decide)
      have s7 := gsub_D h1 h7 rfl (nd53 m1 m7) (by decide)
      have s8 := gsub_D h2 h8 rfl (nd53 m2 m8) (by decide)
      have s9 := gsub_D h3 h9 rfl (nd53 m3 m9) (by decide)
      obtain ⟨l1, r1, f1, S1⟩ := norm_is (j + 4) (gsub_lt _ _) (gsub_lt _ _) (gsub_lt _ _) s1 s2 s3 (nd m4 m1) (nd m5 m2) (nd m6 m3) hU tU cU
      obtain ⟨l2, r2, f2, S2⟩ := norm_is (j + 4) (gsub_lt _ _) (gsub_lt _ _) (gsub_lt _ _) s4 s5 s6 (nd m7 m4) (nd m8 m5) (nd m9 m6) hV tV cV
      obtain ⟨l3, r3, f3, S3⟩ := norm_is (j + 4) (gsub_lt _ _) (gsub_lt _ _) (gsub_lt _ _) s7 s8 s9 (nd m1 m7) (nd m2 m8) (nd m3 m9) ((sq_flip _ _ _ _ _ _).trans hW) tW cW
      obtain ⟨⟨v, qv⟩, r, qa, ra, sa⟩ := area_is S1 S2 S3 cL (hk_four hHK cT)
      have hord : r3_Triangle_orderedLengths (j + 4) a0 a1 a2 b0 b1 b2 c0 c1 c2 = some (sort3 l1 l2 l3) := by
        unfold r3_Triangle_orderedLengths r3_Triangle_sides r3_Sub
        simp only [sbind]
        rw [D_numo s1, sbind, D_numo s2, sbind, D_numo s3, sbind, f1, sbind, D_numo s4, sbind, D_numo s5, sbind, D_numo s6, sbind, f2, sbind, D_numo s7, sbind, D_numo s8, sbind, D_numo s9, sbind, f3, sbind]
        exact ordered_j1 _ _ _ _
      have harea : impl_TriangleAreaIn3 (j + 4) a0 a1 a2 b0 b1 b2 c0 c1 c2 = some (areaw (sort3 l1 l2 l3).1 (sort3 l1 l2 l3).2.1 (sort3 l1 l2 l3).2.2) := by
        unfold impl_TriangleAreaIn3 impl_vec3 r3_Triangle_Area
        simp only [sbind]
        rw [hord, sbind]
        have hn := q_num qv
        unfold areap at hn
        rw [hn, sbind]
        rfl
      -- the middle
      have p1 := gadd_D h1 h4 rfl (Nat.le_trans (ns m1 m4) (by decide)) (by decide)
      have p2 := gadd_D p1 h7 rfl (ns53 m7 (ns m1 m4)) (by decide)
      have p3 := gadd_D h2 h5 rfl (Nat.le_trans (ns m2 m5) (by decide)) (by decide)
      have p4 := gadd_D p3 h8 rfl (ns53 m8 (ns m2 m5)) (by decide)
      have p5 := gadd_D h3 h6 rfl (Nat.le_trans (ns m3 m6) (by decide)) (by decide)
      have p6 := gadd_D p5 h9 rfl (ns53 m9 (ns m3 m6)) (by decide)
      obtain ⟨x1, x2, x3⟩ := cent_one p2 (ns3 m1 m4 m7)
      obtain ⟨y1, y2, y3⟩ := cent_one p4 (ns3 m2 m5 m8)
      obtain ⟨n1, n2, n3⟩ := cent_one p6 (ns3 m3 m6 m9)
      have hcent : impl_TriangleCentroid3 (j + 4) a0 a1 a2 b0 b1 b2 c0 c1 c2 = some (gmul 4599676419421066581 (gadd (gadd a0 b0) c0), gmul 4599676419421066581 (gadd (gadd a1 b1) c1), gmul 4599676419421066581 (gadd (gadd a2 b2) c2)) := by
        unfold impl_TriangleCentroid3 impl_vec3 r3_Triangle_Centroid r3_Add r3_Scale impl_plainP3
        simp only [sbind]
        rw [D_numo p1, sbind, D_numo p3, sbind, D_numo p5, sbind, D_numo p2, sbind, D_numo p4, sbind, D_numo p6, sbind]
        simp only [sbind]
        rw [x1, sbind, y1, sbind, n1, sbind]
      -- the comparison
      have qs := Q_1072 dsw
      have hS : (T2 : Rat) / 4 = HK (U : Rat) (V : Rat) (W : Rat) / 16 := hk_quarter hHK
      have hsix := hk_six (side_nn S1) (side_nn S2) (side_nn S3) cU cV cW
      obtain ⟨z1, z2⟩ := cmp_is qa ra (by rw [hS]; exact sa) qs (quarter_nn cT) (half_le hS hsix cL1) (Q_whole v4) cL1 cL
      have i0 : idx [[a0, a1, a2], [b0, b1, b2], [c0, c1, c2]] 0 = some [a0, a1, a2] := rfl
      have i1 : idx [[a0, a1, a2], [b0, b1, b2], [c0, c1, c2]] 1 = some [b0, b1, b2] := rfl
      have i2 : idx [[a0, a1, a2], [b0, b1, b2], [c0, c1, c2]] 2 = some [c0, c1, c2] := rfl
      rw [i0, i1, i2, sbind, sbind, sbind, sbind, sbind, sbind, e1, sbind, e2, sbind, e3, sbind, e4, sbind, harea, sbind, hcent, sbind]
      have hge : fge (areaw (sort3 l1 l2 l3).1 (sort3 l1 l2 l3).2.1 (sort3 l1 l2 l3).2.2) 0 = true := by
        rw [fge_fle, q_fle q_nought qa]; exact decide_eq_true (pos32 ra.1)
      rw [hge, br_true, sbind, hsw, sbind, sbind, z1, sbind]
      have habs : ∀ x, x < 2 ^ 64 → math_Abs (j + 4) x = some (x % 2 ^ 63) := fun x hx => by unfold math_Abs; rw [abs_word x hx]
      rw [habs _ (gsub_lt _ _), sbind, sbind, sbind, z2]
      unfold laws_FnTriangle3_j2
      rw [br_true, sbind, sbind, sbind, sbind, x2, sbind, habs _ (gsub_lt _ _), sbind, x3]
      unfold laws_FnTriangle3_j3
      rw [br_true, sbind, sbind, sbind, sbind, y2, sbind, habs _ (gsub_lt _ _), sbind, y3]
      unfold laws_FnTriangle3_j4
      rw [br_true, sbind, sbind, sbind, sbind, n2, sbind, habs _ (gsub_lt _ _), sbind, n3]
      rfl
theorem fact_FnTriangle3 (a0 a1 a2 b0 b1 b2 c0 c1 c2 : Nat) (g0 : a0 < 18446744073709551616 ∧ a1 < 18446744073709551616 ∧ a2 < 18446744073709551616) (g1 : b0 < 18446744073709551616 ∧ b1 < 18446744073709551616 ∧ b2 < 18446744073709551616) (g2 : c0 < 18446744073709551616 ∧ c1 < 18446744073709551616 ∧ c2 < 18446744073709551616) :
    laws_FnTriangle3 1004 a0 a1 a2 b0 b1 b2 c0 c1 c2 = some true := main3 1000 a0 a1 a2 b0 b1 b2 c0 c1 c2 (by decide) g0 g1 g2
end Go.Proofs.Ytnhbmhdjkibjaaa
