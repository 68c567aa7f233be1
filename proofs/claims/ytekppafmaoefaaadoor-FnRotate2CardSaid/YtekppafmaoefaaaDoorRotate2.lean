/-
  A place that is turned about a center: the plain statement. Ours.
-/
import Derived.Test.YtekppafmaoefaaaDoorTrigS
import Derived.Test.YtekppafmaoefaaaDoorGridRows
namespace Go.Proofs.YtekppafmaoefaaaDoor
open Go.Sx
open Ieee (signed)
set_option linter.unusedVariables false
set_option linter.unusedSimpArgs false
set_option maxRecDepth 100000

theorem fsub_q {x y : Nat} {r : Rat} (h : Q (gsub x y) r) : fsub x y = some (gsub x y) := some_q h
theorem fin_of {x a b : Nat} {n m : Int} {v w : Nat} (ha : D a n v) (hb : D b m w) (h1 : fle x b = true) (h2 : fge x a = true) : ∃ N : Int, D x N 0 := by
  have hfin : ∃ s m i, FloatKind.f64.format.read x = .number s m i := by
    rcases fle_read hb h1 with h | h
    · exact h
    · rcases fge_read ha h2 with h' | h'
      · exact h'
      · rw [h] at h'; cases h'
  obtain ⟨s, m, i, hr⟩ := hfin
  rw [fmt_is] at hr
  have hi : ∃ q : Nat, i = (q : Int) - 1074 := by
    unfold Ieee.Format.read at hr
    simp only [Go.Sx.sign_is, binade_is, inf_is, least_is] at hr
    split at hr
    · simp only [Ieee.Datum.number.injEq] at hr; exact ⟨0, by omega⟩
    · split at hr
      · simp only [Ieee.Datum.number.injEq] at hr; exact ⟨x % 2 ^ 63 / 2 ^ 52 - 1, by omega⟩
      · split at hr <;> cases hr
  obtain ⟨q, rfl⟩ := hi
  exact ⟨signed s m q, s, m, q, hr, by simp⟩
theorem Q_of0 {x : Nat} {N : Int} (h : D x N 0) : Q x ((N : Rat) / Un) := ⟨N, h, by have := Un_pos; grind⟩
theorem q_least30 : Q 4472074429978902528 (1 / 1073741824) := by
  have := Q_word2 82 993 0 (by decide) (by decide) (by decide) (by decide)
  have e : ((2 ^ 52 + 0 : Nat) : Rat) / 2 ^ 82 = 1 / 1073741824 := by decide +kernel
  rw [e] at this; exact this
theorem D_thousand : D 4652007308841189376 ((1000 : Nat) : Int) 1074 := by
  have := D_fields (E := 1032) (F := 4292493394837504) (by decide) (by decide) (by decide) (n := 1000) (v := 1074) (by
    rw [show (1074 : Nat) = 43 + (1032 - 1) from rfl, Int.pow_add, ← Int.mul_assoc, show (1000 : Int) * 2 ^ 43 = ((2 ^ 52 + 4292493394837504 : Nat) : Int) from by decide])
  exact this
theorem D_seven : D 4619567317775286272 7 1074 := by
  have := D_fields (E := 1025) (F := 3377699720527872) (by decide) (by decide) (by decide) (n := 7) (v := 1074) (by
    rw [show (1074 : Nat) = 50 + (1025 - 1) from rfl, Int.pow_add, ← Int.mul_assoc, show (7 : Int) * 2 ^ 50 = ((2 ^ 52 + 3377699720527872 : Nat) : Int) from by decide])
  exact this
theorem D_seven' : D 13842939354630062080 (-7) 1074 := by
  have := D_fneg (x := 4619567317775286272) (by decide) D_seven
  have e : fneg 4619567317775286272 = 13842939354630062080 := by decide +kernel
  rw [e] at this; exact this
theorem offGrid_num {x : Nat} (hx : x < 2 ^ 64) (h : offGrid 4652007308841189376 x = false) : ∃ n : Int, D x n 1074 ∧ n.natAbs ≤ 1000 := by
  unfold offGrid at h
  simp only [Bool.not_eq_false', Bool.and_eq_true, Bool.not_eq_true'] at h
  exact grid_one (w := 4652007308841189376) (b := 1000) hx (by omega) D_thousand h.1.1 h.1.2 h.2
theorem bnd {n : Int} {b : Nat} (h : n.natAbs ≤ b) : -(b : Rat) ≤ (n : Rat) ∧ (n : Rat) ≤ (b : Rat) := by
  have h1 : (-(b : Int)) ≤ n := by omega
  have h2 : n ≤ (b : Int) := by omega
  constructor
  · have := Rat.intCast_le_intCast.2 h1
    rw [Rat.intCast_neg, Rat.intCast_natCast] at this; exact this
  · have := Rat.intCast_le_intCast.2 h2
    rw [Rat.intCast_natCast] at this; exact this

/-- one coordinate of the place that is told, against what the law reckons -/
theorem end_is {w c S : Nat} {ξ C ρ : Rat} (hw : Q w ξ) (hc : Q c C) (hS : Q S ρ) (h1 : -262144 ≤ ξ - C) (h2 : ξ - C ≤ 262144) (h3 : -(1 / 4294967296) ≤ ξ - C - ρ) (h4 : ξ - C - ρ ≤ 1 / 4294967296) :
    fsub w c = some (gsub w c) ∧ fsub (gsub w c) S = some (gsub (gsub w c) S) ∧ flt (gsub (gsub w c) S % 2 ^ 63) 4472074429978902528 = true := by
  have hBB : (1073741824 : Rat) ≤ BB := by decide +kernel
  obtain ⟨e, q1, he⟩ := gsub_full hw hc ⟨by grind, by grind⟩
  have k1 := bd_mul (a := ξ - C) (A := 262144) ⟨by grind, by grind⟩ he
  have hu : (262144 : Rat) * uu ≤ 1 / 4294967296 := by decide +kernel
  have e1 : (ξ - C) * (1 + e) = ξ - C + (ξ - C) * e := by grind
  rw [e1] at q1
  obtain ⟨d, hd⟩ : ∃ d, (ξ - C) * e = d := ⟨_, rfl⟩
  rw [hd] at k1 q1
  generalize (262144 : Rat) * uu = U at *
  obtain ⟨f, q2, hf⟩ := gsub_full q1 hS ⟨by grind, by grind⟩
  have k2 := bd_mul (a := ξ - C + d - ρ) (A := 1 / 2147483648) ⟨by grind, by grind⟩ hf
  have hu2 : (1 : Rat) / 2147483648 * uu ≤ 1 / 17179869184 := by decide +kernel
  have e2 : (ξ - C + d - ρ) * (1 + f) = ξ - C + d - ρ + (ξ - C + d - ρ) * f := by grind
  rw [e2] at q2
  generalize (ξ - C + d - ρ) * f = g at *
  generalize (1 : Rat) / 2147483648 * uu = V at *
  refine ⟨fsub_q q1, fsub_q q2, ?_⟩
  obtain ⟨A, qA, A0, hA⟩ := Q_abs (gsub_lt _ _) q2
  rw [flt_q qA q_least30, decide_eq_true (by rcases hA with h | h <;> grind)]

/-- the place that is told where nothing is turned -/
theorem stay_is (k : Nat) {p0 p1 a c0 c1 s c : Nat} {P0 P1 C0 C1 : Rat} (hp0 : Q p0 P0) (hp1 : Q p1 P1) (hs : Q s 0) (hc : Q c 1)
    (hn : r2_NewRotation k a c0 c1 = some (s, c, c0, c1)) : impl_Rotate2 k p0 p1 a c0 c1 = some (p0, p1) := by
  have f1 : feq s 0 = true := by rw [feq_q hs q_zero, decide_eq_true rfl]
  have f2 : feq c 4607182418800017408 = true := by rw [feq_q hc q_one, decide_eq_true rfl]
  simp only [impl_Rotate2, impl_vec2, r2_Rotate, sbind, hn, num_q hs, num_q hc, r2_Rotation_Rotate, r2_Rotation_isIdentity, f1, f2, br_true, r2_Rotation_isIdentity_j1, num_q hp0, num_q hp1, impl_plainP2]
theorem zero_is (k : Nat) {p0 p1 a c0 c1 : Nat} {P0 P1 : Rat} (hp0 : Q p0 P0) (hp1 : Q p1 P1) (ha : feq a 0 = true) : impl_Rotate2 k p0 p1 a c0 c1 = some (p0, p1) := by
  refine stay_is k (s := 0) (c := 4607182418800017408) (C0 := 0) (C1 := 0) hp0 hp1 q_zero q_one ?_
  unfold r2_NewRotation
  rw [ha, br_true]

/-- the law's end, once the place that is told is known -/
theorem fin_is (k : Nat) {p0 p1 a c0 c1 s c w1 w2 : Nat} {X Y : Rat} {S T : Nat} (hx : Q (gsub p0 c0) X) (hy : Q (gsub p1 c1) Y) {P0 P1 : Rat} (hp0 : Q p0 P0) (hp1 : Q p1 P1)
    (hs : math_Sin k a = some s) (hc : math_Cos k a = some c) {σ κ : Rat} (qs : Q s σ) (qc : Q c κ)
    (hi : impl_Rotate2 k p0 p1 a c0 c1 = some (w1, w2))
    (m1 : ∃ r, Q (gmul (gsub p0 c0) c) r) (m2 : ∃ r, Q (gmul (gsub p1 c1) s) r) (m3 : ∃ r, Q (gmul (gsub p0 c0) s) r) (m4 : ∃ r, Q (gmul (gsub p1 c1) c) r)
    (hS : ∃ ρ, Q (gsub (gmul (gsub p0 c0) c) (gmul (gsub p1 c1) s)) ρ) (hT : ∃ ρ, Q (gadd (gmul (gsub p0 c0) s) (gmul (gsub p1 c1) c)) ρ)
    (hS1 : gsub (gmul (gsub p0 c0) c) (gmul (gsub p1 c1) s) = S) (hT1 : gadd (gmul (gsub p0 c0) s) (gmul (gsub p1 c1) c) = T)
    (E1 : fsub w1 c0 = some (gsub w1 c0) ∧ fsub (gsub w1 c0) S = some (gsub (gsub w1 c0) S) ∧ flt (gsub (gsub w1 c0) S % 2 ^ 63) 4472074429978902528 = true)
    (E2 : fsub w2 c1 = some (gsub w2 c1) ∧ fsub (gsub w2 c1) T = some (gsub (gsub w2 c1) T) ∧ flt (gsub (gsub w2 c1) T % 2 ^ 63) 4472074429978902528 = true) :
    laws_FnRotate2_j2 k p0 p1 a c0 c1 false = some true := by
  obtain ⟨r1, m1⟩ := m1
  obtain ⟨r2, m2⟩ := m2
  obtain ⟨r3, m3⟩ := m3
  obtain ⟨r4, m4⟩ := m4
  obtain ⟨ρ, hS⟩ := hS
  obtain ⟨τ, hT⟩ := hT
  obtain ⟨a1, a2, a3⟩ := E1
  obtain ⟨b1, b2, b3⟩ := E2
  have hsub := fsub_q hS
  have hadd := fadd_q hT
  rw [hS1] at hsub
  rw [hT1] at hadd
  unfold laws_FnRotate2_j2
  rw [br_false, hi, sbind, fsub_q hx, sbind, fsub_q hy, sbind, hs, sbind, hc, sbind]
  dsimp only
  rw [a1, sbind, num_q qc, sbind, fmul_q m1, sbind, num_q qs, sbind, fmul_q m2, sbind, hsub, sbind, a2, sbind, abs_is k _ (gsub_lt _ _), sbind, a3, br_true]
  rw [b1, sbind, sbind, fmul_q m3, sbind, sbind, fmul_q m4, sbind, hadd, sbind, b2, sbind, abs_is k _ (gsub_lt _ _), sbind, b3]
  unfold laws_FnRotate2_j3
  rw [br_true, zero_is k hp0 hp1 (by rw [feq_q q_zero q_zero, decide_eq_true rfl]), sbind]
  dsimp only
  rw [feq_q hp0 hp0, feq_q hp1 hp1, decide_eq_true rfl, decide_eq_true rfl]; rfl

/-- products with numbers of at most 16 -/
theorem prod_w {x s : Nat} {X : Rat} (hx : Q x X) (h1 : -2000 ≤ X) (h2 : X ≤ 2000) (hs : Wb s 16) : Wb (gmul x s) 32001 := mul_b ⟨X, hx, h1, h2⟩ hs (by decide +kernel) (by decide +kernel)

theorem turn_end {w1 c0 S : Nat} {C : Rat} (hS : Wb S 65000) (hc : Q c0 C) (hC1 : -1000 ≤ C) (hC2 : C ≤ 1000) (hw : w1 = gadd S c0) :
    (∃ r, Q w1 r) ∧ (fsub w1 c0 = some (gsub w1 c0) ∧ fsub (gsub w1 c0) S = some (gsub (gsub w1 c0) S) ∧ flt (gsub (gsub w1 c0) S % 2 ^ 63) 4472074429978902528 = true) := by
  obtain ⟨ρ, qS, s1, s2⟩ := hS
  have hBB : (1073741824 : Rat) ≤ BB := by decide +kernel
  obtain ⟨e, q1, he⟩ := gadd_full qS hc ⟨by grind, by grind⟩
  have k1 := bd_mul (a := ρ + C) (A := 66000) ⟨by grind, by grind⟩ he
  have hu : (66000 : Rat) * uu ≤ 1 / 4294967296 := by decide +kernel
  have e1 : (ρ + C) * (1 + e) = ρ + C + (ρ + C) * e := by grind
  rw [e1, ← hw] at q1
  generalize (ρ + C) * e = d at *
  generalize (66000 : Rat) * uu = U at *
  exact ⟨⟨_, q1⟩, end_is q1 hc qS (by grind) (by grind) (by grind) (by grind)⟩

theorem main (k : Nat) (hk : 100 < k) (p0 p1 c0 c1 a : Nat) (g0 : p0 < 2 ^ 64) (g1 : p1 < 2 ^ 64) (g2 : c0 < 2 ^ 64) (g3 : c1 < 2 ^ 64) (g4 : a < 2 ^ 64) : laws_FnRotate2 k p0 p1 c0 c1 a = some true := by
  obtain ⟨b, w1, w2⟩ := grid_rows k [[p0, p1], [c0, c1]] 2 (by decide) 4652007308841189376 (by simp) (by simp; omega)
  have w1' : spec_Grid k [[p0, p1], [c0, c1]] 2 4652007308841189376 = some b := w1
  unfold laws_FnRotate2 laws_off2
  rw [sbind, sbind, w1', sbind]
  cases b with
  | false => rfl
  | true =>
    rw [Bool.not_true, br_false]
    cases h1 : fge a 13842939354630062080 with
    | false => rfl
    | true =>
      rw [br_true]
      unfold laws_FnRotate2_j1
      cases h2 : fle a 4619567317775286272 with
      | false => rfl
      | true =>
        rw [Bool.not_true]
        have rp := (w2 rfl [p0, p1] (by simp)).2
        have rc := (w2 rfl [c0, c1] (by simp)).2
        obtain ⟨P0, dp0, bp0⟩ := offGrid_num g0 (rp 0 (by simp))
        obtain ⟨P1, dp1, bp1⟩ := offGrid_num g1 (rp 1 (by simp))
        obtain ⟨C0, dc0, bc0⟩ := offGrid_num g2 (rc 0 (by simp))
        obtain ⟨C1, dc1, bc1⟩ := offGrid_num g3 (rc 1 (by simp))
        have dx := gsub_D dp0 dc0 rfl (by omega) (by decide)
        have dy := gsub_D dp1 dc1 rfl (by omega) (by decide)
        have hx := Q_whole dx
        have hy := Q_whole dy
        have bx := bnd (n := P0 - C0) (b := 2000) (by omega)
        have by_ := bnd (n := P1 - C1) (b := 2000) (by omega)
        have bc0 := bnd bc0
        have bc1 := bnd bc1
        have qp0 := Q_whole dp0
        have qp1 := Q_whole dp1
        have qc0 := Q_whole dc0
        have qc1 := Q_whole dc1
        have ex : ((P0 - C0 : Int) : Rat) = (P0 : Rat) - (C0 : Rat) := Rat.intCast_sub _ _
        have ey : ((P1 - C1 : Int) : Rat) = (P1 : Rat) - (C1 : Rat) := Rat.intCast_sub _ _
        obtain ⟨N, hN⟩ := fin_of D_seven' D_seven h2 h1
        have qa := Q_of0 hN
        obtain ⟨A, hA⟩ : ∃ A : Rat, (N : Rat) / Un = A := ⟨_, rfl⟩
        rw [hA] at qa
        rw [fge_q qa (Q_whole D_seven')] at h1
        rw [fle_q qa (Q_whole D_seven)] at h2
        have h1 := of_decide_eq_true h1
        have h2 := of_decide_eq_true h2
        have o7 : ((-7 : Int) : Rat) = -7 := rfl
        have o7' : ((7 : Int) : Rat) = 7 := rfl
        rw [o7] at h1
        rw [o7'] at h2
        have t1 : ((1000 : Nat) : Rat) = 1000 := rfl
        have t2 : ((2000 : Nat) : Rat) = 2000 := rfl
        rw [t1] at bc0 bc1
        rw [t2] at bx by_
        rw [ex] at hx bx
        rw [ey] at hy by_
        generalize (P0 : Rat) = p at *
        generalize (P1 : Rat) = q at *
        generalize (C0 : Rat) = u at *
        generalize (C1 : Rat) = v at *
        -- nothing is turned
        have stay : ∀ {s c : Nat}, math_Sin k a = some s → math_Cos k a = some c → Q s 0 → Q c 1 → impl_Rotate2 k p0 p1 a c0 c1 = some (p0, p1) → laws_FnRotate2_j2 k p0 p1 a c0 c1 false = some true := by
          intro s c hs hc qs qc hi
          obtain ⟨e1, d1, m1, f1, f1'⟩ := gmul_abs hx qc ⟨by have : (1073741824 : Rat) ≤ BB := by decide +kernel
                                                             grind, by have : (1073741824 : Rat) ≤ BB := by decide +kernel
                                                                       grind⟩
          obtain ⟨e2, d2, m2, f2, f2'⟩ := gmul_abs hy qs ⟨by have : (1073741824 : Rat) ≤ BB := by decide +kernel
                                                             grind, by have : (1073741824 : Rat) ≤ BB := by decide +kernel
                                                                       grind⟩
          obtain ⟨e3, d3, m3, f3, f3'⟩ := gmul_abs hx qs ⟨by have : (1073741824 : Rat) ≤ BB := by decide +kernel
                                                             grind, by have : (1073741824 : Rat) ≤ BB := by decide +kernel
                                                                       grind⟩
          obtain ⟨e4, d4, m4, f4, f4'⟩ := gmul_abs hy qc ⟨by have : (1073741824 : Rat) ≤ BB := by decide +kernel
                                                             grind, by have : (1073741824 : Rat) ≤ BB := by decide +kernel
                                                                       grind⟩
          have i1 : (p - u) * 1 * (1 + e1) + d1 = p - u + ((p - u) * e1 + d1) := by grind
          have i2 : (q - v) * 0 * (1 + e2) + d2 = d2 := by grind
          have i3 : (p - u) * 0 * (1 + e3) + d3 = d3 := by grind
          have i4 : (q - v) * 1 * (1 + e4) + d4 = q - v + ((q - v) * e4 + d4) := by grind
          rw [i1] at m1
          rw [i2] at m2
          rw [i3] at m3
          rw [i4] at m4
          have l1 := bd_mul (a := p - u) (A := 2000) bx f1
          have l4 := bd_mul (a := q - v) (A := 2000) by_ f4
          have hu : (2000 : Rat) * uu + uu ≤ 1 / 1099511627776 := by decide +kernel
          have hu0 : uu ≤ 1 / 1099511627776 := by decide +kernel
          have hu1 := uu_pos
          obtain ⟨g1, g1'⟩ := f1'
          obtain ⟨g2, g2'⟩ := f2'
          obtain ⟨g3, g3'⟩ := f3'
          obtain ⟨g4, g4'⟩ := f4'
          have hBB : (1073741824 : Rat) ≤ BB := by decide +kernel
          generalize (p - u) * e1 = n1 at *
          generalize (q - v) * e4 = n4 at *
          obtain ⟨a1, qS, a1'⟩ := gsub_full m1 m2 ⟨by grind, by grind⟩
          obtain ⟨a2, qT, a2'⟩ := gadd_full m3 m4 ⟨by grind, by grind⟩
          have l5 := bd_mul (a := p - u + (n1 + d1) - d2) (A := 3000) ⟨by grind, by grind⟩ a1'
          have l6 := bd_mul (a := d3 + (q - v + (n4 + d4))) (A := 3000) ⟨by grind, by grind⟩ a2'
          have hu3 : (3000 : Rat) * uu ≤ 1 / 1099511627776 := by decide +kernel
          have i5 : (p - u + (n1 + d1) - d2) * (1 + a1) = p - u + (n1 + d1) - d2 + (p - u + (n1 + d1) - d2) * a1 := by grind
          have i6 : (d3 + (q - v + (n4 + d4))) * (1 + a2) = d3 + (q - v + (n4 + d4)) + (d3 + (q - v + (n4 + d4))) * a2 := by grind
          rw [i5] at qS
          rw [i6] at qT
          generalize (p - u + (n1 + d1) - d2) * a1 = n5 at *
          generalize (d3 + (q - v + (n4 + d4))) * a2 = n6 at *
          generalize (3000 : Rat) * uu = U3 at *
          exact fin_is k hx hy qp0 qp1 hs hc qs qc hi ⟨_, m1⟩ ⟨_, m2⟩ ⟨_, m3⟩ ⟨_, m4⟩ ⟨_, qS⟩ ⟨_, qT⟩ rfl rfl
            (end_is qp0 qc0 qS (by grind) (by grind) (by grind) (by grind)) (end_is qp1 qc1 qT (by grind) (by grind) (by grind) (by grind))
        by_cases hz : A = 0
        · rw [hz] at qa
          obtain ⟨hs, hc⟩ := trig_zero k g4 qa
          exact stay hs hc qa q_one (zero_is k qp0 qp1 (by rw [feq_q qa q_zero, decide_eq_true rfl]))
        · obtain ⟨s, c, hs, hc, hsc, bs, bc⟩ := trig_is k g4 qa hz h1 h2
          have hn : r2_NewRotation k a c0 c1 = some (s, c, c0, c1) := by
            unfold r2_NewRotation
            rw [feq_q qa q_zero, decide_eq_false hz, br_false, hsc, sbind]
          obtain ⟨σ, qs, s1, s2⟩ := bs
          obtain ⟨κ, qc, z1, z2⟩ := bc
          by_cases hid : σ = 0 ∧ κ = 1
          · obtain ⟨rfl, rfl⟩ := hid
            exact stay hs hc qs qc (stay_is k (C0 := 0) (C1 := 0) qp0 qp1 qs qc hn)
          · have bs : Wb s 16 := ⟨σ, qs, s1, s2⟩
            have bc : Wb c 16 := ⟨κ, qc, z1, z2⟩
            have m1 := prod_w hx bx.1 bx.2 bc
            have m2 := prod_w hy by_.1 by_.2 bs
            have m3 := prod_w hx bx.1 bx.2 bs
            have m4 := prod_w hy by_.1 by_.2 bc
            have hS : Wb (gsub (gmul (gsub p0 c0) c) (gmul (gsub p1 c1) s)) 65000 := sub_b m1 m2 (by decide +kernel) (by decide +kernel)
            have hT : Wb (gadd (gmul (gsub p0 c0) s) (gmul (gsub p1 c1) c)) 65000 := add_b m3 m4 (by decide +kernel) (by decide +kernel)
            obtain ⟨⟨r1, q1⟩, E1⟩ := turn_end hS qc0 bc0.1 bc0.2 rfl
            obtain ⟨⟨r2, q2⟩, E2⟩ := turn_end hT qc1 bc1.1 bc1.2 rfl
            obtain ⟨ρ, qS, _⟩ := hS
            obtain ⟨τ, qT, _⟩ := hT
            have hno : r2_Rotation_isIdentity k s c c0 c1 = some false := by
              unfold r2_Rotation_isIdentity r2_Rotation_isIdentity_j1
              rw [feq_q qs q_zero, feq_q qc q_one]
              by_cases h0 : σ = 0
              · rw [decide_eq_true h0, br_true, decide_eq_false (fun h => hid ⟨h0, h⟩)]
              · rw [decide_eq_false h0, br_false]
            have hi : impl_Rotate2 k p0 p1 a c0 c1 = some (gadd (gsub (gmul (gsub p0 c0) c) (gmul (gsub p1 c1) s)) c0, gadd (gadd (gmul (gsub p0 c0) s) (gmul (gsub p1 c1) c)) c1) := by
              simp only [impl_Rotate2, impl_vec2, r2_Rotate, sbind, hn, num_q qs, num_q qc, r2_Rotation_Rotate, hno, br_false, r2_Sub, num_q qS, num_q qT, r2_Add, num_q q1, num_q q2, impl_plainP2]
            obtain ⟨_, m1, _⟩ := m1
            obtain ⟨_, m2, _⟩ := m2
            obtain ⟨_, m3, _⟩ := m3
            obtain ⟨_, m4, _⟩ := m4
            exact fin_is k hx hy qp0 qp1 hs hc qs qc hi ⟨_, m1⟩ ⟨_, m2⟩ ⟨_, m3⟩ ⟨_, m4⟩ ⟨_, qS⟩ ⟨_, qT⟩ rfl rfl E1 E2
theorem fact_FnRotate2 (a0_0 a0_1 a1_0 a1_1 a2 : Nat) (g0 : a0_0 < 18446744073709551616 ∧ a0_1 < 18446744073709551616) (g1 : a1_0 < 18446744073709551616 ∧ a1_1 < 18446744073709551616) (g2 : a2 < 18446744073709551616) :
    laws_FnRotate2 1000 a0_0 a0_1 a1_0 a1_1 a2 = some true := main 1000 (by decide) _ _ _ _ _ g0.1 g0.2 g1.1 g1.2 g2
end Go.Proofs.YtekppafmaoefaaaDoor
