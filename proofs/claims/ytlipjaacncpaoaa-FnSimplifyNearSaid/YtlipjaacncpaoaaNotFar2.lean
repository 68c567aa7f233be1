/-
  What the law says of a point between two kept ones. Ours.
-/
import Derived.Test.YtlipjaacncpaoaaNotFar
namespace Go.Proofs.Ytlipjaacncpaoaa
open Go.Sx
open Ieee (signed)
set_option linter.unusedVariables false
set_option linter.unusedSimpArgs false
set_option maxRecDepth 100000

abbrev Six := Bool × (List Int) × Int × Bool × (List Int) × Int
/-- a point in words and in exact numbers -/
structure Pt (x y : Nat) (t : Six) (X Y : Int) : Prop where
  dx : D x X 1074
  dy : D y Y 1074
  bx : X.natAbs ≤ 8192
  by_ : Y.natAbs ≤ 8192
  ex : Dr (-1074) 971 2 t.1 t.2.1 t.2.2.1 (X * 2 ^ 1074)
  ey : Dr (-1074) 971 2 t.2.2.2.1 t.2.2.2.2.1 t.2.2.2.2.2 (Y * 2 ^ 1074)
theorem len_sc (a b c d P : Int) : lenZ (a * P) (b * P) (c * P) (d * P) = lenZ a b c d * (P * P) := by unfold lenZ; grind
theorem dot_sc (a b c d e f P : Int) : dotZ (a * P) (b * P) (c * P) (d * P) (e * P) (f * P) = dotZ a b c d e f * (P * P) := by unfold dotZ; grind
theorem crs_sc (a b c d e f P : Int) : crsZ (a * P) (b * P) (c * P) (d * P) (e * P) (f * P) * crsZ (a * P) (b * P) (c * P) (d * P) (e * P) (f * P) = crsZ a b c d e f * crsZ a b c d e f * ((P * P) * (P * P)) := by unfold crsZ; grind
theorem le_sc {a P : Int} (hP : 0 < P) : a * P ≤ 0 ↔ a ≤ 0 := by
  constructor
  · intro h
    rcases Int.lt_or_le 0 a with h' | h'
    · have := Int.mul_pos h' hP; omega
    · exact h'
  · intro h; exact Int.mul_nonpos_of_nonpos_of_nonneg h (Int.le_of_lt hP)
theorem eq_sc {a P : Int} (hP : 0 < P) : a * P = 0 ↔ a = 0 := by
  rw [Int.mul_eq_zero]; constructor
  · rintro (h | h); exact h; omega
  · intro h; exact .inl h
theorem lt_sc {a b P : Int} (hP : 0 < P) : a * P < b * P ↔ a < b := Int.mul_lt_mul_right hP
theorem len_cap {a b c d : Int} (h1 : a.natAbs ≤ 8192) (h2 : b.natAbs ≤ 8192) (h3 : c.natAbs ≤ 8192) (h4 : d.natAbs ≤ 8192) : 0 ≤ lenZ a b c d ∧ (lenZ a b c d).natAbs ≤ 1073741824 := by
  unfold lenZ
  have n1 := sq_nn (c - a)
  have n2 := sq_nn (d - b)
  have b1 := big_prod (a := c - a) (b := c - a) (by omega) (by omega)
  have b2 := big_prod (a := d - b) (b := d - b) (by omega) (by omega)
  exact ⟨by omega, by omega⟩
theorem crs_cap {a b c d e f : Int} (h1 : a.natAbs ≤ 8192) (h2 : b.natAbs ≤ 8192) (h3 : c.natAbs ≤ 8192) (h4 : d.natAbs ≤ 8192) (h5 : e.natAbs ≤ 8192) (h6 : f.natAbs ≤ 8192) : 0 ≤ crsZ a b c d e f * crsZ a b c d e f ∧ (crsZ a b c d e f * crsZ a b c d e f).natAbs < 2 ^ 60 := by
  have b1 := big_prod (a := c - a) (b := f - b) (by omega) (by omega)
  have b2 := big_prod (a := d - b) (b := e - a) (by omega) (by omega)
  have b3 : (crsZ a b c d e f).natAbs ≤ 536870912 := by
    unfold crsZ
    generalize (c - a) * (f - b) = x at *
    generalize (d - b) * (e - a) = y at *
    omega
  refine ⟨sq_nn _, ?_⟩
  have := prod_bd b3 b3
  omega
theorem lagrange (ax ay bx by_ px py : Int) (f u v : Rat) (hf : f * (lenZ ax ay bx by_ : Int) = (dotZ ax ay bx by_ px py : Int))
    (hu : u = ((px - ax : Int) : Rat) - f * ((bx - ax : Int) : Rat)) (hv : v = ((py - ay : Int) : Rat) - f * ((by_ - ay : Int) : Rat)) :
    (u * u + v * v) * (lenZ ax ay bx by_ : Int) = ((crsZ ax ay bx by_ px py * crsZ ax ay bx by_ px py : Int) : Rat) := by
  unfold lenZ dotZ at hf
  unfold lenZ crsZ
  simp only [Rat.intCast_mul, Rat.intCast_add, Rat.intCast_sub] at *
  generalize (ax : Rat) = a at *
  generalize (ay : Rat) = b at *
  generalize (bx : Rat) = c at *
  generalize (by_ : Rat) = d at *
  generalize (px : Rat) = p at *
  generalize (py : Rat) = q at *
  generalize hm : c - a = m at *
  generalize hn : d - b = n at *
  generalize hx : p - a = x at *
  generalize hy : q - b = y at *
  subst hu hv
  have e1 : ((x - f * m) * (x - f * m) + (y - f * n) * (y - f * n)) * (m * m + n * n) = (x * x + y * y) * (m * m + n * n) - 2 * ((m * x + n * y) * (f * (m * m + n * n))) + (f * (m * m + n * n)) * (f * (m * m + n * n)) := by grind
  rw [e1, hf]
  grind
theorem cast_nat {n : Int} (h : 0 ≤ n) : ∃ m : Nat, n = (m : Int) ∧ (m : Rat) = (n : Rat) := ⟨n.toNat, by omega, by rw [← Rat.intCast_natCast]; congr 1; omega⟩
theorem notfar {k : Nat} (hk : 400000 < k) {a0 a1 b0 b1 p0 p1 w th : Nat} {A B P : Six} {ax ay bx by_ px py : Int} (ha : Pt a0 a1 A ax ay) (hb : Pt b0 b1 B bx by_) (hp : Pt p0 p1 P px py)
    {φ u v u' v' τ M : Rat} (qw : Q w φ) (hs : u * u + v * v ≤ φ * (1 + 8 * uu) + 8 * uu) (hway : Way ax ay bx by_ px py u' v') (hu : u' - e34 ≤ u ∧ u ≤ u' + e34) (hv : v' - e34 ≤ v ∧ v ≤ v' + e34)
    (qτ : Q th τ) (h0 : 0 ≤ τ) (h1 : τ ≤ 16384) (hM : M ≤ τ * τ * (1 + uu) + uu) (hφ : φ ≤ M) :
    ∃ r, spec_SquareTo k P.1 P.2.1 P.2.2.1 P.2.2.2.1 P.2.2.2.2.1 P.2.2.2.2.2 A.1 A.2.1 A.2.2.1 A.2.2.2.1 A.2.2.2.2.1 A.2.2.2.2.2 B.1 B.2.1 B.2.2.1 B.2.2.2.1 B.2.2.2.2.1 B.2.2.2.2.2 = some r ∧
      ∀ k2, 400000 < k2 → ∃ y, laws_rootOf k2 r.1 r.2.1 r.2.2.1 r.2.2.2.1 r.2.2.2.2.1 r.2.2.2.2.2 = some y ∧ fgt y (gadd th 4517110426252607488) = false := by
  have c1 := near_sq h0 h1 hs hφ hM
  have c2 := near_vec (s := τ + e25) (by grind) c1 hu hv
  have c3 : u' * u' + v' * v' ≤ (τ + e24) * (τ + e24) := by
    have d1 : τ + e25 + 2 * e34 ≤ τ + e24 := by grind
    have d2 := bd_prod (a := τ + e25 + 2 * e34) (b := τ + e25 + 2 * e34) (A := τ + e24) (B := τ + e24) ⟨by grind, d1⟩ ⟨by grind, d1⟩
    grind
  obtain ⟨s, l, e, s', l', e', q, hq⟩ := squareTo_is (k := k) (by omega) ha.ex ha.ey hb.ex hb.ey hp.ex hp.ey
  obtain ⟨t, ht⟩ : ∃ t, t = 1074 := ⟨_, rfl⟩
  obtain ⟨K, hK⟩ : ∃ K : Nat, K = t + t := ⟨_, rfl⟩
  have hP : (0 : Int) < 2 ^ t := Int.pow_pos (by decide)
  have hPP := Int.mul_pos hP hP
  have eK : (2 : Int) ^ t * 2 ^ t = 2 ^ K := by rw [← Int.pow_add, hK]
  have n2148 : (-2148 : Int) = -(K : Int) := by omega
  have n4296 : (-4296 : Int) = -((K + K : Nat) : Int) := by omega
  rw [← ht, len_sc, len_sc, len_sc, dot_sc, crs_sc, eK, n2148, n4296] at hq
  rw [eK] at hPP
  have eKK : (2 : Int) ^ K * 2 ^ K = 2 ^ (K + K) := by rw [← Int.pow_add]
  simp only [ne_eq] at hq
  rw [eKK, eq_sc hPP, le_sc hPP, lt_sc hPP] at hq
  have pos2 : ∀ z : Int, 0 < z * 2 ^ K ↔ 0 < z := fun z => by
    have := lt_sc (a := 0) (b := z) hPP; rw [Int.zero_mul] at this; exact this
  have le2 : ∀ y z : Int, y * 2 ^ K ≤ z * 2 ^ K ↔ y ≤ z := fun y z => by
    have := lt_sc (a := z) (b := y) hPP; omega
  rw [pos2, le2] at hq
  have fin : ∀ (D : Rat) (y : Nat) (ρ : Rat), D = u' * u' + v' * v' → Q y ρ → ρ * ρ ≤ D * (1 + 1 / 281474976710656) → fgt y (gadd th 4517110426252607488) = false := by
    intro D y ρ hD qy hρ
    exact bound_is qτ qy h0 h1 (root_near h0 h1 (by rw [hD]; exact c3) hρ)
  refine ⟨(s, l, e, s', l', e'), q, ?_⟩
  intro k2 hk2
  obtain ⟨y, hy⟩ : ∃ y, laws_rootOf k2 s l e s' l' e' = some y ∧ fgt y (gadd th 4517110426252607488) = false := by
    have one : Dr (-((0 : Nat) : Int)) 0 2 s' l' e' (((1 : Nat) : Int) * 2 ^ 0) ↔ Dr 0 0 2 s' l' e' 1 := Iff.rfl
    rcases hq with ⟨g, w1, w2⟩ | ⟨g, w1, w2⟩ | ⟨g, w1, w2⟩
    · obtain ⟨n0, nb⟩ := len_cap ha.bx ha.by_ hp.bx hp.by_
      obtain ⟨n, hn, hn'⟩ := cast_nat n0
      rw [hn] at w1 nb
      obtain ⟨y, ρ, r1, r2, r3, r4⟩ := rootOf_is w1 (by decide) (by decide) (by omega) (by omega) (one.2 w2) (by decide) (by decide) (by decide) (by decide) (by decide) hk2
      refine ⟨y, r1, fin n y ρ ?_ r2 ?_⟩
      · rw [hn']
        obtain ⟨z1, z2⟩ := hway.1 g
        rw [z1, z2]; unfold lenZ; rw [Rat.intCast_add, Rat.intCast_mul, Rat.intCast_mul]
      · have : ((1 : Nat) : Rat) = 1 := rfl
        rw [this, Rat.mul_one] at r4; exact r4
    · obtain ⟨n0, nb⟩ := len_cap hb.bx hb.by_ hp.bx hp.by_
      obtain ⟨n, hn, hn'⟩ := cast_nat n0
      rw [hn] at w1 nb
      obtain ⟨y, ρ, r1, r2, r3, r4⟩ := rootOf_is w1 (by decide) (by decide) (by omega) (by omega) (one.2 w2) (by decide) (by decide) (by decide) (by decide) (by decide) hk2
      refine ⟨y, r1, fin n y ρ ?_ r2 ?_⟩
      · rw [hn']
        obtain ⟨z1, z2⟩ := hway.2.1 g.2.1 g.2.2
        rw [z1, z2]; unfold lenZ; rw [Rat.intCast_add, Rat.intCast_mul, Rat.intCast_mul]
      · have : ((1 : Nat) : Rat) = 1 := rfl
        rw [this, Rat.mul_one] at r4; exact r4
    · obtain ⟨n0, nb⟩ := crs_cap ha.bx ha.by_ hb.bx hb.by_ hp.bx hp.by_
      obtain ⟨n, hn, hn'⟩ := cast_nat n0
      obtain ⟨m0, mb⟩ := len_cap ha.bx ha.by_ hb.bx hb.by_
      obtain ⟨m, hm, hm'⟩ := cast_nat m0
      obtain ⟨f, z0, z1, z2⟩ := hway.2.2 g.2.1 g.2.2
      have lg := lagrange ax ay bx by_ px py f u' v' z0 z1 z2
      rw [← hn', ← hm'] at lg
      have g1 := g.1
      rw [hn] at w1 nb
      rw [hm] at w2 mb g1
      obtain ⟨y, ρ, r1, r2, r3, r4⟩ := rootOf_is w1 (by decide) (by decide) (by omega) (by omega) w2 (by decide) (by decide) (by omega) (by omega) (by omega) hk2
      refine ⟨y, r1, fin _ y ρ rfl r2 ?_⟩
      have hmp : (0 : Rat) < (m : Rat) := Rat.natCast_lt_natCast.2 (show 0 < m by omega)
      rw [← lg] at r4
      by_cases h : ρ * ρ ≤ (u' * u' + v' * v') * (1 + 1 / 281474976710656)
      · exact h
      · have := Rat.mul_pos (show 0 < ρ * ρ - (u' * u' + v' * v') * (1 + 1 / 281474976710656) by grind) hmp
        generalize ρ * ρ = x1 at *
        generalize u' * u' + v' * v' = x2 at *
        grind
  exact ⟨y, hy⟩
end Go.Proofs.Ytlipjaacncpaoaa
