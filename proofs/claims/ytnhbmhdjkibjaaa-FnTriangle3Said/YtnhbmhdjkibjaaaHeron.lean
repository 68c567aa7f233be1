/-
  Kahan's form of Heron's formula: how near the square of the area is. Ours; it knows no program.
-/
import Derived.Test.YtnhbmhdjkibjaaaRelat3
namespace Go.Sx
open Ieee (signed)
set_option linter.unusedVariables false
set_option linter.unusedSimpArgs false
set_option maxRecDepth 100000

/-- sixteen times the square of the area, by the squares of the sides -/
def HK (x y z : Rat) : Rat := 2 * (x * y + y * z + z * x) - x * x - y * y - z * z
theorem prod_sm {x y C : Rat} (hx : 0 ≤ x) (hy : 0 ≤ y) (hx2 : x ≤ C) (hy2 : y ≤ C) : Sm (x * y) (C * C) ∧ 0 ≤ x * y := by
  have h1 := Rat.mul_nonneg hx hy
  have h2 := Rat.mul_nonneg (show 0 ≤ C - x by grind) hy
  have h3 := Rat.mul_nonneg (show 0 ≤ C by grind) (show 0 ≤ C - y by grind)
  exact ⟨⟨by grind, by grind⟩, h1⟩
theorem slope_sm {x y z C : Rat} (hx : 0 ≤ x) (hy : 0 ≤ y) (hz : 0 ≤ z) (hx2 : x ≤ C) (hy2 : y ≤ C) (hz2 : z ≤ C) : Sm (x * (y + z - x)) (C * C) := by
  have h1 := Rat.mul_nonneg hx (show 0 ≤ C - y + (C - z) by grind)
  have h2 := Rat.mul_nonneg (show 0 ≤ C - x by grind) (show 0 ≤ C - x by grind)
  have h3 := Rat.mul_nonneg hx (show 0 ≤ y + z by grind)
  have h4 := Rat.mul_nonneg (show 0 ≤ C - x by grind) (show 0 ≤ C + x by grind)
  exact ⟨by grind, by grind⟩
theorem hk_near {x y z C e1 e2 e3 : Rat} (hx : 0 ≤ x) (hy : 0 ≤ y) (hz : 0 ≤ z) (hx2 : x ≤ C) (hy2 : y ≤ C) (hz2 : z ≤ C) (h1 : Sm e1 (32 * uu)) (h2 : Sm e2 (32 * uu)) (h3 : Sm e3 (32 * uu)) :
    Sm (HK (x * (1 + e1)) (y * (1 + e2)) (z * (1 + e3)) - HK x y z) (193 * uu * (C * C)) := by
  have s1 := sm_mul (slope_sm hx hy hz hx2 hy2 hz2) h1
  have s2 := sm_mul (slope_sm hy hz hx hy2 hz2 hx2) h2
  have s3 := sm_mul (slope_sm hz hx hy hz2 hx2 hy2) h3
  have q12 := sm_mul (prod_sm hx hy hx2 hy2).1 (sm_mul h1 h2)
  have q23 := sm_mul (prod_sm hy hz hy2 hz2).1 (sm_mul h2 h3)
  have q31 := sm_mul (prod_sm hz hx hz2 hx2).1 (sm_mul h3 h1)
  have q11 := sm_mul (prod_sm hx hx hx2 hx2).1 (sm_mul h1 h1)
  have q22 := sm_mul (prod_sm hy hy hy2 hy2).1 (sm_mul h2 h2)
  have q33 := sm_mul (prod_sm hz hz hz2 hz2).1 (sm_mul h3 h3)
  have hC := (prod_sm (show 0 ≤ C by grind) (show 0 ≤ C by grind) (show C ≤ C by grind) (show C ≤ C by grind)).2
  have key : HK (x * (1 + e1)) (y * (1 + e2)) (z * (1 + e3)) - HK x y z = 2 * (x * (y + z - x) * e1) + 2 * (y * (z + x - y) * e2) + 2 * (z * (x + y - z) * e3) + 2 * (x * y * (e1 * e2)) + 2 * (y * z * (e2 * e3)) + 2 * (z * x * (e3 * e1)) - x * x * (e1 * e1) - y * y * (e2 * e2) - z * z * (e3 * e3) := by
    unfold HK; grind
  rw [key]
  obtain ⟨a1, b1⟩ := s1
  obtain ⟨a2, b2⟩ := s2
  obtain ⟨a3, b3⟩ := s3
  obtain ⟨a4, b4⟩ := q12
  obtain ⟨a5, b5⟩ := q23
  obtain ⟨a6, b6⟩ := q31
  obtain ⟨a7, b7⟩ := q11
  obtain ⟨a8, b8⟩ := q22
  obtain ⟨a9, b9⟩ := q33
  clear key h1 h2 h3
  generalize x * (y + z - x) * e1 = t1 at *
  generalize y * (z + x - y) * e2 = t2 at *
  generalize z * (x + y - z) * e3 = t3 at *
  generalize x * y * (e1 * e2) = t4 at *
  generalize y * z * (e2 * e3) = t5 at *
  generalize z * x * (e3 * e1) = t6 at *
  generalize x * x * (e1 * e1) = t7 at *
  generalize y * y * (e2 * e2) = t8 at *
  generalize z * z * (e3 * e3) = t9 at *
  generalize C * C = CC at *
  constructor <;> grind
theorem hk_six {x y z C : Rat} (hx : 0 ≤ x) (hy : 0 ≤ y) (hz : 0 ≤ z) (hx2 : x ≤ C) (hy2 : y ≤ C) (hz2 : z ≤ C) : HK x y z ≤ 6 * (C * C) := by
  obtain ⟨⟨_, a1⟩, _⟩ := prod_sm hx hy hx2 hy2
  obtain ⟨⟨_, a2⟩, _⟩ := prod_sm hy hz hy2 hz2
  obtain ⟨⟨_, a3⟩, _⟩ := prod_sm hz hx hz2 hx2
  have b1 := Rat.mul_nonneg hx hx
  have b2 := Rat.mul_nonneg hy hy
  have b3 := Rat.mul_nonneg hz hz
  unfold HK
  generalize x * y = t1 at *
  generalize y * z = t2 at *
  generalize z * x = t3 at *
  generalize x * x = t4 at *
  generalize y * y = t5 at *
  generalize z * z = t6 at *
  grind
/-- a sum of what is not below nought, its second part rounded, rounded -/
theorem pos_sum {p q d d' : Rat} (hp : 0 < p) (hq : 0 ≤ q) (h : Sm d uu) (h' : Sm d' uu) : ∃ f, (p + q * (1 + d)) * (1 + d') = (p + q) * (1 + f) ∧ Sm f (3 * uu) := by
  obtain ⟨t, ht⟩ : ∃ t, q / (p + q) = t := ⟨_, rfl⟩
  have hs : 0 < p + q := by grind
  have htq : t * (p + q) = q := by grind
  have ht1 : Sm t 1 := by
    constructor
    · by_cases h5 : -1 ≤ t
      · exact h5
      · have := Rat.mul_pos (show 0 < -1 - t by grind) hs
        grind
    · by_cases h5 : t ≤ 1
      · exact h5
      · have := Rat.mul_pos (show 0 < t - 1 by grind) hs
        grind
  obtain ⟨f, k1, k2⟩ := sm_one (sm_mono (sm_mul ht1 h) (show 1 * uu ≤ uu by grind)) h' (r := 3 * uu) (by grind)
  refine ⟨f, ?_, k2⟩
  have e1 : p + q * (1 + d) = (p + q) * (1 + t * d) := by
    have : (p + q) * (1 + t * d) = p + q + t * (p + q) * d := by grind
    rw [this, htq]; grind
  rw [e1, ← k1]; grind

/-- the word of the area, of sorted sides -/
def areap (wa wb wc : Nat) : Nat := gmul (gmul (gadd wc (gadd wb wa)) (gsub wa (gsub wc wb))) (gmul (gadd wa (gsub wc wb)) (gadd wc (gsub wb wa)))
def areaw (wa wb wc : Nat) : Nat := gdiv (gsqrt (areap wa wb wc)) 4616189618054758400
theorem Q_four : Q 4616189618054758400 4 := by
  have : D 4616189618054758400 (4 : Int) 1074 := D_two 2 (by decide)
  have := Q_whole this
  simpa using this
theorem heron_id (a b c : Rat) : (c + (b + a)) * (a - (c - b)) * ((a + (c - b)) * (c + (b - a))) = HK (a * a) (b * b) (c * c) := by unfold HK; grind
theorem cube_le {a b c : Rat} (h1 : 0 < a) (h2 : a ≤ b) (h3 : b ≤ c) : 0 < (c + (b + a)) * ((a + (c - b)) * (c + (b - a))) ∧ (c + (b + a)) * ((a + (c - b)) * (c + (b - a))) ≤ 12 * (c * (c * c)) := by
  have p1 := Rat.mul_pos (show 0 < a + (c - b) by grind) (show 0 < c + (b - a) by grind)
  have p2 := Rat.mul_pos (show 0 < c + (b + a) by grind) p1
  refine ⟨p2, ?_⟩
  have q1 := Rat.mul_nonneg (show 0 ≤ 2 * c - (a + (c - b)) by grind) (show 0 ≤ c + (b - a) by grind)
  have q2 := Rat.mul_nonneg (show 0 ≤ 2 * c by grind) (show 0 ≤ 2 * c - (c + (b - a)) by grind)
  have q3 : (a + (c - b)) * (c + (b - a)) ≤ 4 * (c * c) := by grind
  have q4 := Rat.mul_nonneg (show 0 ≤ c + (b + a) by grind) (show 0 ≤ 4 * (c * c) - (a + (c - b)) * (c + (b - a)) by grind)
  have q5 := Rat.mul_nonneg (show 0 ≤ 3 * c - (c + (b + a)) by grind) (Rat.mul_nonneg (show 0 ≤ c by grind) (show 0 ≤ c by grind))
  generalize (a + (c - b)) * (c + (b - a)) = m at *
  grind
theorem ring_a (F1 f1 g d2 k1 F3 f3 F4 f4 k2 k3 : Rat) : F1 * (1 + f1) * (g * (1 + d2)) * (1 + k1) * (F3 * (1 + f3) * (F4 * (1 + f4)) * (1 + k2)) * (1 + k3) = F1 * (F3 * F4) * g * ((1 + f1) * (1 + d2) * (1 + k1) * ((1 + f3) * (1 + f4) * (1 + k2)) * (1 + k3)) := by grind
theorem ring_b (r k : Rat) : r / 4 * (1 + k) * (r / 4 * (1 + k)) = r * r / 16 * ((1 + k) * (1 + k)) := by grind
theorem ring_c (H q k e : Rat) : H * (1 + q) * (1 + k) / 16 * (1 + e) = H / 16 * ((1 + q) * (1 + k) * (1 + e)) := by grind
theorem ring_d (H q : Rat) : H / 16 * (1 + q) = H / 16 + H * q / 16 := by grind
theorem cube_bd {c : Rat} (h0 : 0 ≤ c) (h1 : c ≤ 4096) : 12 * (c * (c * c)) ≤ 824633720832 := by
  have t1 := Rat.mul_nonneg (show 0 ≤ 4096 - c by grind) (show 0 ≤ 4096 + c by grind)
  have t2 : c * c ≤ 16777216 := by grind
  have t3 := Rat.mul_nonneg h0 (show 0 ≤ 16777216 - c * c by grind)
  grind
theorem heron_end {H zz CC : Rat} (z1 : -(7 * CC * (26 * uu)) ≤ zz) (z2 : zz ≤ 7 * CC * (26 * uu)) (h : 0 ≤ CC) : Sm (H / 16 + zz / 16 - H / 16) (12 * uu * CC) := by
  constructor <;> grind
theorem heron2 {w1 w2 w3 w4 : Nat} {F1 F3 F4 g f1 f3 f4 d2 H' CC : Rat} (g5 : Q w1 (F1 * (1 + f1))) (g2 : Q w2 (g * (1 + d2))) (g3 : Q w3 (F3 * (1 + f3))) (g7 : Q w4 (F4 * (1 + f4)))
    (r1 : Sm f1 (3 * uu)) (s2 : Sm d2 uu) (r3 : Sm f3 (3 * uu)) (r4 : Sm f4 (3 * uu)) (b1 : 1 / 2 ≤ F1) (b1' : F1 ≤ 12288) (gl : 1 / 2199023255552 ≤ g) (gu : g ≤ 4096) (b3 : 1 / 2 ≤ F3) (b3' : F3 ≤ 8192) (b4 : 1 / 2 ≤ F4) (b4' : F4 ≤ 8192)
    (hH' : F1 * (F3 * F4) * g = H') (hH1 : 1 / 2 ≤ H') (hH2 : H' ≤ 7 * CC) (hCC2 : CC ≤ 144000000000000) :
    (∃ v, Q (gmul (gmul w1 w2) (gmul w3 w4)) v) ∧ ∃ r, Q (gdiv (gsqrt (gmul (gmul w1 w2) (gmul w3 w4))) 4616189618054758400) r ∧ (1 / 32 ≤ r ∧ r ≤ 33554432) ∧ Sm (r * r - H' / 16) (12 * uu * CC) := by
  have R1 : Rg (1 / 4) 32768 (F1 * (1 + f1)) := rg_mono (rg_err (show Rg (1 / 2) 12288 F1 from .inr (.inl ⟨by grind, by grind⟩)) (sm_mono r1 (by grind)) (by grind)) (by grind) (by grind)
  have R2 : Rg (1 / 4398046511104) 8192 (g * (1 + d2)) := rg_mono (rg_err (show Rg (1 / 2199023255552) 4096 g from .inr (.inl ⟨gl, gu⟩)) (sm_mono s2 (by grind)) (by grind)) (by grind) (by grind)
  have R3 : Rg (1 / 4) 16384 (F3 * (1 + f3)) := rg_mono (rg_err (show Rg (1 / 2) 8192 F3 from .inr (.inl ⟨by grind, by grind⟩)) (sm_mono r3 (by grind)) (by grind)) (by grind) (by grind)
  have R4 : Rg (1 / 4) 16384 (F4 * (1 + f4)) := rg_mono (rg_err (show Rg (1 / 2) 8192 F4 from .inr (.inl ⟨by grind, by grind⟩)) (sm_mono r4 (by grind)) (by grind)) (by grind) (by grind)
  have R12 := rg_mul R1 R2 (by grind) (by grind)
  have R34 := rg_mul R3 R4 (by grind) (by grind)
  obtain ⟨k1, v1, w1⟩ := gmul_rel g5 g2 (rg_md R12 (by grind) (by grind))
  obtain ⟨k2, v2, w2⟩ := gmul_rel g3 g7 (rg_md R34 (by grind) (by grind))
  have R12' := rg_err R12 (sm_mono w1 (show uu ≤ 1 / 4 by grind)) (by grind)
  have R34' := rg_err R34 (sm_mono w2 (show uu ≤ 1 / 4 by grind)) (by grind)
  have RA := rg_mul R12' R34' (by grind) (by grind)
  obtain ⟨k3, v3, w3⟩ := gmul_rel v1 v2 (rg_md RA (by grind) (by grind))
  -- the errors of the product together
  obtain ⟨q1, x1, y1⟩ := sm_one r1 s2 (r := 4 * uu + uu / 1000) (by grind)
  obtain ⟨q2, x2, y2⟩ := sm_one r3 r4 (r := 6 * uu + uu / 1000) (by grind)
  obtain ⟨q3, x3, y3⟩ := sm_one y1 w1 (r := 5 * uu + uu / 500) (by grind)
  obtain ⟨q4, x4, y4⟩ := sm_one y2 w2 (r := 7 * uu + uu / 500) (by grind)
  obtain ⟨q5, x5, y5⟩ := sm_one y3 y4 (r := 12 * uu + uu / 100) (by grind)
  obtain ⟨q6, x6, y6⟩ := sm_one y5 w3 (r := 14 * uu) (by grind)
  have hA : F1 * (1 + f1) * (g * (1 + d2)) * (1 + k1) * (F3 * (1 + f3) * (F4 * (1 + f4)) * (1 + k2)) * (1 + k3) = H' * (1 + q6) := by
    rw [← x6, ← x5, ← x3, ← x4, ← x1, ← x2, ← hH']
    exact ring_a ..
  rw [hA] at v3
  -- the root
  have hA1 : 1 / 4 ≤ H' * (1 + q6) ∧ H' * (1 + q6) ≤ 14 * CC := by
    obtain ⟨u1, u2⟩ := y6
    have t1 := Rat.mul_nonneg (show 0 ≤ H' by grind) (show 0 ≤ 1 / 2 + q6 by grind)
    have t2 := Rat.mul_nonneg (show 0 ≤ H' by grind) (show 0 ≤ 1 - q6 by grind)
    constructor <;> grind
  obtain ⟨r, k4, v4, rp, rr, w4⟩ := gsqrt_rel v3 (by grind) (by grind)
  have rb : 1 / 4 ≤ r ∧ r ≤ 67108864 := by
    obtain ⟨u1, u2⟩ := w4
    have t1 := Rat.mul_nonneg (show 0 ≤ H' * (1 + q6) by grind) (show 0 ≤ 1 / 2 + k4 by grind)
    have t2 := Rat.mul_nonneg (show 0 ≤ H' * (1 + q6) by grind) (show 0 ≤ 1 - k4 by grind)
    exact ⟨sq_lo rp (by grind) (by grind), sq_hi rp (by grind) (by grind)⟩
  obtain ⟨k5, v5, w5⟩ := gdiv_rel v4 Q_four (by grind) ⟨.inr (.inl (by grind)), by grind, by grind⟩
  refine ⟨⟨_, v3⟩, _, v5, ?_, ?_⟩
  · obtain ⟨u1, u2⟩ := w5
    have t1 := Rat.mul_nonneg (show 0 ≤ r / 4 by grind) (show 0 ≤ k5 + 1 / 2 by grind)
    have t2 := Rat.mul_nonneg (show 0 ≤ r / 4 by grind) (show 0 ≤ 1 - k5 by grind)
    constructor <;> grind
  · obtain ⟨q7, x7, y7⟩ := sm_one y6 w4 (r := 19 * uu + uu / 100) (by grind)
    obtain ⟨q8, x8, y8⟩ := sm_one w5 w5 (r := 6 * uu + uu / 100) (by grind)
    obtain ⟨q9, x9, y9⟩ := sm_one y7 y8 (r := 26 * uu) (by grind)
    have e9 : r / 4 * (1 + k5) * (r / 4 * (1 + k5)) = H' / 16 * (1 + q9) := by
      rw [ring_b, rr, x8, ← x9, ← x7]
      exact ring_c ..
    rw [e9]
    obtain ⟨z1, z2⟩ := sm_mul (show Sm H' (7 * CC) from ⟨by grind, hH2⟩) y9
    have e10 : H' / 16 * (1 + q9) = H' / 16 + H' * q9 / 16 := ring_d ..
    rw [e10]
    exact heron_end z1 z2 (by grind)
/-- the area's square is near the exact one -/
theorem heron {wa wb wc : Nat} {a b c x y z C e1 e2 e3 : Rat} (qa : Q wa a) (qb : Q wb b) (qc : Q wc c) (pa : 0 < a) (hab : a ≤ b) (hbc : b ≤ c)
    (ha : a * a = x * (1 + e1)) (hb : b * b = y * (1 + e2)) (hc : c * c = z * (1 + e3)) (h1 : Sm e1 (32 * uu)) (h2 : Sm e2 (32 * uu)) (h3 : Sm e3 (32 * uu))
    (hx : 1 ≤ x) (hy : 1 ≤ y) (hz : 1 ≤ z) (hx2 : x ≤ C) (hy2 : y ≤ C) (hz2 : z ≤ C) (hC : C ≤ 12000000) (hK : 4 ≤ HK x y z) :
    (∃ v, Q (areap wa wb wc) v) ∧ ∃ r, Q (areaw wa wb wc) r ∧ (1 / 32 ≤ r ∧ r ≤ 33554432) ∧ Sm (r * r - HK x y z / 16) (25 * uu * (C * C)) := by
  have nH := hk_near (show 0 ≤ x by grind) (show 0 ≤ y by grind) (show 0 ≤ z by grind) hx2 hy2 hz2 h1 h2 h3
  have n6 := hk_six (show 0 ≤ x by grind) (show 0 ≤ y by grind) (show 0 ≤ z by grind) hx2 hy2 hz2
  have hid := heron_id a b c
  rw [ha, hb, hc] at hid
  obtain ⟨cp, cq⟩ := cube_le pa hab hbc
  -- greatness
  have hCC := (prod_sm (show 0 ≤ C by grind) (show 0 ≤ C by grind) (show C ≤ C by grind) (show C ≤ C by grind)).2
  have hCC2 : C * C ≤ 144000000000000 := by
    have := Rat.mul_nonneg (show 0 ≤ 12000000 - C by grind) (show 0 ≤ 12000000 + C by grind)
    grind
  have a2 : 1 / 2 ≤ a := by
    refine sq_lo pa (by grind) ?_
    rw [ha]
    have := Rat.mul_nonneg (show 0 ≤ x by grind) (show 0 ≤ 1 / 2 + e1 by obtain ⟨u1, u2⟩ := h1; grind)
    grind
  have c2 : c ≤ 4096 := by
    refine sq_hi (show 0 < c by grind) (by grind) ?_
    rw [hc]
    have := Rat.mul_nonneg (show 0 ≤ z by grind) (show 0 ≤ 1 / 4 - e3 by obtain ⟨u1, u2⟩ := h3; grind)
    grind
  have c4 : c * c * (c * c) ≤ 101 / 100 * (C * C) := by
    have hcc0 := Rat.mul_nonneg (show 0 ≤ c by grind) (show 0 ≤ c by grind)
    have hcc : c * c ≤ C * (1001 / 1000) := by
      rw [hc]
      have t1 := Rat.mul_nonneg (show 0 ≤ z by grind) (show 0 ≤ 1 / 1000 - e3 by obtain ⟨u1, u2⟩ := h3; grind)
      grind
    have t2 := Rat.mul_nonneg hcc0 (show 0 ≤ C * (1001 / 1000) - c * c by grind)
    have t3 := Rat.mul_nonneg (show 0 ≤ C * (1001 / 1000) by grind) (show 0 ≤ C * (1001 / 1000) - c * c by grind)
    generalize c * c = cc at *
    grind
  -- the rounded difference
  obtain ⟨d1, g1, s1⟩ := gsub_full qc qb (by constructor <;> grind)
  obtain ⟨d2, g2, s2⟩ := gsub_full qa g1 (by
    obtain ⟨u1, u2⟩ := s1
    have t1 := Rat.mul_nonneg (show 0 ≤ c - b by grind) (show 0 ≤ 1 - d1 by grind)
    have t2 := Rat.mul_nonneg (show 0 ≤ c - b by grind) (show 0 ≤ 1 + d1 by grind)
    constructor <;> grind)
  obtain ⟨d3, g3, s3⟩ := gadd_full qa g1 (by
    obtain ⟨u1, u2⟩ := s1
    have t1 := Rat.mul_nonneg (show 0 ≤ c - b by grind) (show 0 ≤ 1 - d1 by grind)
    have t2 := Rat.mul_nonneg (show 0 ≤ c - b by grind) (show 0 ≤ 1 + d1 by grind)
    constructor <;> grind)
  obtain ⟨d4, g4, s4⟩ := gadd_full qb qa (by constructor <;> grind)
  obtain ⟨d5, g5, s5⟩ := gadd_full qc g4 (by
    obtain ⟨u1, u2⟩ := s4
    have t1 := Rat.mul_nonneg (show 0 ≤ b + a by grind) (show 0 ≤ 1 - d4 by grind)
    have t2 := Rat.mul_nonneg (show 0 ≤ b + a by grind) (show 0 ≤ 1 + d4 by grind)
    constructor <;> grind)
  obtain ⟨d6, g6, s6⟩ := gsub_full qb qa (by constructor <;> grind)
  obtain ⟨d7, g7, s7⟩ := gadd_full qc g6 (by
    obtain ⟨u1, u2⟩ := s6
    have t1 := Rat.mul_nonneg (show 0 ≤ b - a by grind) (show 0 ≤ 1 - d6 by grind)
    have t2 := Rat.mul_nonneg (show 0 ≤ b - a by grind) (show 0 ≤ 1 + d6 by grind)
    constructor <;> grind)
  obtain ⟨f1, p1, r1⟩ := pos_sum (p := c) (q := b + a) (by grind) (by grind) s4 s5
  obtain ⟨f3, p3, r3⟩ := pos_sum (p := a) (q := c - b) (by grind) (by grind) s1 s3
  obtain ⟨f4, p4, r4⟩ := pos_sum (p := c) (q := b - a) (by grind) (by grind) s6 s7
  rw [p1] at g5
  rw [p3] at g3
  rw [p4] at g7
  -- the product's exact value
  obtain ⟨F1, hF1⟩ : ∃ F1, c + (b + a) = F1 := ⟨_, rfl⟩
  obtain ⟨F3, hF3⟩ : ∃ F3, a + (c - b) = F3 := ⟨_, rfl⟩
  obtain ⟨F4, hF4⟩ : ∃ F4, c + (b - a) = F4 := ⟨_, rfl⟩
  obtain ⟨g, hg⟩ : ∃ g, a - (c - b) * (1 + d1) = g := ⟨_, rfl⟩
  rw [hF1] at hid cp cq g5
  rw [hF3] at hid cp cq g3
  rw [hF4] at hid cp cq g7
  rw [hg] at g2
  obtain ⟨H, hH⟩ : ∃ H, HK (x * (1 + e1)) (y * (1 + e2)) (z * (1 + e3)) = H := ⟨_, rfl⟩
  rw [hH] at hid nH
  obtain ⟨K, hKK⟩ : ∃ K, HK x y z = K := ⟨_, rfl⟩
  rw [hKK] at nH n6 hK ⊢
  obtain ⟨H', hH'⟩ : ∃ H', F1 * (F3 * F4) * g = H' := ⟨_, rfl⟩
  obtain ⟨PP, hPP⟩ : ∃ PP, F1 * (F3 * F4) = PP := ⟨_, rfl⟩
  rw [hPP] at cp cq hH'
  have hdiff : H' = H - PP * (c - b) * d1 := by
    have e0 : g = (a - (c - b)) - (c - b) * d1 := by rw [← hg]; grind
    have e4 : H = PP * (a - (c - b)) := by rw [← hid, ← hPP]; grind
    rw [← hH', e0, e4]; grind
  have hPc : Sm (PP * (c - b)) (13 * (C * C)) := by
    have t1 := Rat.mul_nonneg (show 0 ≤ PP by grind) (show 0 ≤ c - b by grind)
    have t2 := Rat.mul_nonneg (show 0 ≤ PP by grind) (show 0 ≤ b by grind)
    have t3 := Rat.mul_nonneg (show 0 ≤ 12 * (c * (c * c)) - PP by grind) (show 0 ≤ c by grind)
    have t4 : c * (c * c) * c = c * c * (c * c) := by grind
    generalize c * c * (c * c) = c4' at *
    generalize c * (c * c) = c3 at *
    exact ⟨by grind, by grind⟩
  obtain ⟨m1, m2⟩ := sm_mul hPc s1
  obtain ⟨n1, n2⟩ := nH
  obtain ⟨dd, hdd⟩ : ∃ dd, PP * (c - b) * d1 = dd := ⟨_, rfl⟩
  rw [hdd] at hdiff m1 m2
  obtain ⟨CC, hCCe⟩ : ∃ CC, C * C = CC := ⟨_, rfl⟩
  rw [hCCe] at hCC hCC2 c4 n6 n1 n2 hPc m1 m2 ⊢
  have hH1 : 1 / 2 ≤ H' := by grind
  have hH2 : H' ≤ 7 * CC := by grind
  have g0 : 0 < g := by
    by_cases h : 0 < g
    · exact h
    · exfalso
      have := Rat.mul_nonneg (show 0 ≤ PP by grind) (show 0 ≤ -g by grind)
      grind
  -- ranges
  have PPu : PP ≤ 824633720832 := Rat.le_trans cq (cube_bd (by grind) c2)
  have gl : 1 / 2199023255552 ≤ g := by
    by_cases h : 1 / 2199023255552 ≤ g
    · exact h
    · exfalso
      have t1 := Rat.mul_nonneg (show 0 ≤ PP by grind) (show 0 ≤ 1 / 2199023255552 - g by grind)
      grind
  have gu : g ≤ 4096 := by
    obtain ⟨u1, u2⟩ := s1
    have := Rat.mul_nonneg (show 0 ≤ c - b by grind) (show 0 ≤ 1 + d1 by grind)
    grind
  have hHe : F1 * (F3 * F4) * g = H' := by rw [hPP]; exact hH'
  obtain ⟨v0, r, v1, v2, v3, v4⟩ := heron2 g5 g2 g3 g7 r1 s2 r3 r4 (by grind) (by grind) gl gu (by grind) (by grind) (by grind) (by grind) hHe hH1 hH2 hCC2
  refine ⟨v0, r, v1, v2, ?_, ?_⟩
  · clear hHe hH' hdd hid hH p1 p3 p4 hg
    generalize r * r = rr at *
    grind
  · clear hHe hH' hdd hid hH p1 p3 p4 hg
    generalize r * r = rr at *
    grind
end Go.Sx
