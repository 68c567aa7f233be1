/-
  Distances in space as the program computes them, against the true ones: a computed root is near every number between. Ours.
  A computed distance in space is near the true one; two near numbers. Ours.
  The program's distances in space: two places, a place and a segment. Ours.
-/
import Derived.Test.YtmkhoplffiakmaaSqrtFull
import Derived.Test.YtmkhoplffiakmaaSegBase
import Derived.Test.YtmkhoplffiakmaaWholeTo
namespace Go.Proofs.Ytmkhoplffiakmaa
open Go.Sx
open Ieee (signed)
set_option linter.unusedVariables false
set_option linter.unusedSimpArgs false
set_option maxRecDepth 100000

/-- 2^-22 -/
abbrev e22 : Rat := 1 / 4194304
/-- nearer than 2^-22 to the root of n / d -/
def NearR (o n d : Rat) : Prop := (∀ s : Rat, 0 ≤ s → n ≤ s * s * d → o ≤ s + e22) ∧ (∀ s : Rat, 0 ≤ s → s * s * d ≤ n → s ≤ o + e22)
theorem near_vec3 {u v w u' v' w' s : Rat} (hs : 0 ≤ s) (h : u * u + v * v + w * w ≤ s * s) (hu : u' - e34 ≤ u ∧ u ≤ u' + e34) (hv : v' - e34 ≤ v ∧ v ≤ v' + e34) (hw : w' - e34 ≤ w ∧ w ≤ w' + e34) : u' * u' + v' * v' + w' * w' ≤ (s + 3 * e34) * (s + 3 * e34) := by
  have u0 := rsq_nn u
  have v0 := rsq_nn v
  have w0 := rsq_nn w
  have u1 := le_of_sq hs (show u * u ≤ s * s by grind)
  have v1 := le_of_sq hs (show v * v ≤ s * s by grind)
  have w1 := le_of_sq hs (show w * w ≤ s * s by grind)
  have u2 := le_of_sq (a := -u) hs (by grind)
  have v2 := le_of_sq (a := -v) hs (by grind)
  have w2 := le_of_sq (a := -w) hs (by grind)
  have a1 := bd_prod (a := u) (A := s) ⟨by grind, u1⟩ (b := u' - u) (B := e34) ⟨by grind, by grind⟩
  have a2 := bd_prod (a := v) (A := s) ⟨by grind, v1⟩ (b := v' - v) (B := e34) ⟨by grind, by grind⟩
  have a5 := bd_prod (a := w) (A := s) ⟨by grind, w1⟩ (b := w' - w) (B := e34) ⟨by grind, by grind⟩
  have a3 := bd_prod (a := u' - u) (A := e34) ⟨by grind, by grind⟩ (b := u' - u) (B := e34) ⟨by grind, by grind⟩
  have a4 := bd_prod (a := v' - v) (A := e34) ⟨by grind, by grind⟩ (b := v' - v) (B := e34) ⟨by grind, by grind⟩
  have a6 := bd_prod (a := w' - w) (A := e34) ⟨by grind, by grind⟩ (b := w' - w) (B := e34) ⟨by grind, by grind⟩
  have e1 : u' * u' = u * u + 2 * (u * (u' - u)) + (u' - u) * (u' - u) := by grind
  have e2 : v' * v' = v * v + 2 * (v * (v' - v)) + (v' - v) * (v' - v) := by grind
  have e5 : w' * w' = w * w + 2 * (w * (w' - w)) + (w' - w) * (w' - w) := by grind
  have e3 : (s + 3 * e34) * (s + 3 * e34) = s * s + 6 * (s * e34) + 9 * (e34 * e34) := by grind
  rw [e1, e2, e5, e3]
  have e4 : 0 ≤ e34 * e34 := by decide +kernel
  generalize u * (u' - u) = x1 at *
  generalize v * (v' - v) = x2 at *
  generalize w * (w' - w) = y1 at *
  generalize (u' - u) * (u' - u) = x3 at *
  generalize (v' - v) * (v' - v) = x4 at *
  generalize (w' - w) * (w' - w) = y2 at *
  generalize u * u = x5 at *
  generalize v * v = x6 at *
  generalize w * w = y3 at *
  generalize s * s = x7 at *
  generalize s * e34 = x8 at *
  generalize e34 * e34 = x9 at *
  grind
theorem gsq_nn3 {x : Nat} {τ M : Rat} (q : Q x τ) (h0 : -16384 ≤ τ) (h1 : τ ≤ 16384) (qM : Q (gmul x x) M) : 0 ≤ M := by
  obtain ⟨s, m, c, r1, r2⟩ := Q_read q
  obtain ⟨t, ht⟩ : ∃ t, t = 1074 := ⟨_, rfl⟩
  have hw : gmul x x = Ieee.double.write (.number false (m * m) (((c + c : Nat) : Int) - 1074 - (t : Int))) := by
    unfold gmul fmul Ieee.Format.mul
    rw [r1]
    simp only [Ieee.Datum.product, Option.map_some, Option.getD_some]
    have e0 : (c : Int) - 1074 + ((c : Int) - 1074) = ((c + c : Nat) : Int) - 1074 - (t : Int) := by omega
    rw [e0, Bool.xor_self]; rfl
  have hM : m * 2 ^ c ≤ 2 ^ (14 + t) := by
    apply Rat.natCast_le_natCast.1
    rw [Rat.natCast_mul, castpow, castpow, ratpow_add, Un_is t ht]
    have h14 : (2 : Rat) ^ 14 = 16384 := by rw [← castpow]; rfl
    rw [h14]
    have hU := Un_pos
    have h2 := Rat.mul_nonneg (show 0 ≤ 16384 - τ by grind) (Rat.le_of_lt hU)
    have h3 := Rat.mul_nonneg (show 0 ≤ 16384 + τ by grind) (Rat.le_of_lt hU)
    generalize (m : Rat) * 2 ^ c = X at *
    cases s <;> simp only [Bool.false_eq_true, if_false, if_true] at r2 <;> grind
  have hbig : m * m * 2 ^ (c + c) < 2 ^ (2096 + t) := by
    have e1 : m * m * 2 ^ (c + c) = m * 2 ^ c * (m * 2 ^ c) := by rw [Nat.pow_add]; grind
    rw [e1]
    refine Nat.lt_of_le_of_lt (sq_cap (b := 0) hM) ?_
    exact pow_lt2 _ _ (by omega)
  obtain ⟨N, n1, n2, n3⟩ := near_D false (m * m) (c + c) t hbig
  rw [← hw] at n1
  have hq : Q (gmul x x) (((N : Int) : Rat) / Un) := ⟨N, n1, un_cancel _⟩
  rw [Q_uniq qM hq]
  refine div_ge Un_pos ?_
  rw [Rat.zero_mul]
  exact Rat.intCast_le_intCast.2 (Int.natCast_nonneg N)
theorem sq_one3 {x : Nat} {u : Rat} (hx : Q x u) (hu : -2048 ≤ u ∧ u ≤ 2048) : ∃ A, Q (gmul x x) A ∧ 0 ≤ A ∧ u * u * (1 - uu) - uu ≤ A ∧ A ≤ u * u * (1 + uu) + uu := by
  have hBB : (1099511627776 : Rat) ≤ BB := by decide +kernel
  have u2 := bd_prod hu hu
  have u0 := rsq_nn u
  obtain ⟨e1, d1, q1, ⟨e2, e3⟩, ⟨d2, d3⟩⟩ := gmul_abs hx hx ⟨by grind, by grind⟩
  refine ⟨_, q1, gsq_nn3 hx (by grind) (by grind) q1, ?_, ?_⟩
  · have := Rat.mul_nonneg u0 (show 0 ≤ e1 + uu by grind)
    generalize u * u = X at *
    generalize uu = w at *
    grind
  · have := Rat.mul_nonneg u0 (show 0 ≤ uu - e1 by grind)
    generalize u * u = X at *
    generalize uu = w at *
    grind
theorem add_nn {x y : Nat} {A B : Rat} (hx : Q x A) (hy : Q y B) (hA : 0 ≤ A) (hB : 0 ≤ B) (hb : A + B ≤ 1099511627776) : ∃ S, Q (gadd x y) S ∧ 0 ≤ S ∧ (A + B) * (1 - uu) ≤ S ∧ S ≤ (A + B) * (1 + uu) := by
  have hBB : (1099511627776 : Rat) ≤ BB := by decide +kernel
  have hu : uu ≤ 1 := by decide +kernel
  obtain ⟨e, q, ⟨e1, e2⟩⟩ := gadd_full hx hy ⟨by grind, by grind⟩
  refine ⟨_, q, ?_, ?_, ?_⟩
  · exact Rat.mul_nonneg (by grind) (by grind)
  · have := Rat.mul_nonneg (show 0 ≤ A + B by grind) (show 0 ≤ e + uu by grind)
    grind
  · have := Rat.mul_nonneg (show 0 ≤ A + B by grind) (show 0 ≤ uu - e by grind)
    grind
/-- the root of the sum of three squares, as it is computed -/
theorem norm3 {x y z : Nat} {u v w : Rat} (hx : Q x u) (hy : Q y v) (hz : Q z w) (hu : -2048 ≤ u ∧ u ≤ 2048) (hv : -2048 ≤ v ∧ v ≤ 2048) (hw : -2048 ≤ w ∧ w ≤ 2048) :
    ∃ φ o, Q (gadd (gadd (gmul x x) (gmul y y)) (gmul z z)) φ ∧ Q (gsqrt (gadd (gadd (gmul x x) (gmul y y)) (gmul z z))) o ∧ -uu ≤ o ∧ o ≤ 4096 ∧ o * o ≤ (u * u + v * v + w * w) * (1 + 16 * uu) + 16 * uu ∧ u * u + v * v + w * w ≤ o * o * (1 + 16 * uu) + 16 * uu := by
  obtain ⟨A, qA, A0, A1, A2⟩ := sq_one3 hx hu
  obtain ⟨B, qB, B0, B1, B2⟩ := sq_one3 hy hv
  obtain ⟨C, qC, C0, C1, C2⟩ := sq_one3 hz hw
  have u2 := bd_prod hu hu
  have v2 := bd_prod hv hv
  have w2 := bd_prod hw hw
  have u0 := rsq_nn u
  have v0 := rsq_nn v
  have w0 := rsq_nn w
  have hu1 : (8388608 : Rat) * uu ≤ 1 := by decide +kernel
  have hu0 := uu_pos
  have bA : A ≤ 4194306 := by
    generalize u * u = X at *
    generalize uu = w at *
    have := Rat.mul_nonneg (show 0 ≤ 4194304 - X by grind) hu0
    grind
  have bB : B ≤ 4194306 := by
    generalize v * v = X at *
    generalize uu = w at *
    have := Rat.mul_nonneg (show 0 ≤ 4194304 - X by grind) hu0
    grind
  have bC : C ≤ 4194306 := by
    generalize w * w = X at *
    generalize uu = w at *
    have := Rat.mul_nonneg (show 0 ≤ 4194304 - X by grind) hu0
    grind
  obtain ⟨S, qS, S0, S1, S2⟩ := add_nn qA qB A0 B0 (by grind)
  have bS : S ≤ 8388614 := by
    have := Rat.mul_nonneg (show 0 ≤ 8388612 - (A + B) by grind) hu0
    grind
  obtain ⟨φ, qF, F0, F1, F2⟩ := add_nn qS qC S0 C0 (by grind)
  have bF : φ ≤ 12582924 := by
    have := Rat.mul_nonneg (show 0 ≤ 12582920 - (S + C) by grind) hu0
    grind
  have hBB : (1099511627776 : Rat) ≤ BB := by decide +kernel
  obtain ⟨o, qO, o1, o2, o3⟩ := gsqrt_full qF F0 (by grind)
  refine ⟨φ, o, qF, qO, o1, ?_, ?_, ?_⟩
  · apply le_of_sq (by decide +kernel)
    have := Rat.mul_nonneg (show 0 ≤ 12582924 - φ by grind) hu0
    generalize uu = w at *
    grind
  · generalize u * u = X at *
    generalize v * v = Y at *
    generalize w * w = Z at *
    have k1 := Rat.mul_nonneg u0 hu0
    have k2 := Rat.mul_nonneg v0 hu0
    have k3 := Rat.mul_nonneg w0 hu0
    have hs : uu ≤ 1 / 64 := by decide +kernel
    have k4 := Rat.mul_nonneg hu0 hu0
    have k5 := Rat.mul_nonneg k1 (show 0 ≤ 1 / 64 - uu by grind)
    have k6 := Rat.mul_nonneg k2 (show 0 ≤ 1 / 64 - uu by grind)
    have k7 := Rat.mul_nonneg k3 (show 0 ≤ 1 / 64 - uu by grind)
    have m1 : A + B ≤ (X + Y) * (1 + uu) + 2 * uu := by grind
    have m2 : S ≤ ((X + Y) * (1 + uu) + 2 * uu) * (1 + uu) := by
      have := Rat.mul_nonneg (show 0 ≤ (X + Y) * (1 + uu) + 2 * uu - (A + B) by grind) (show 0 ≤ 1 + uu by grind)
      grind
    have m3 : S ≤ (X + Y) * (1 + 3 * uu) + 3 * uu := by
      have k8 := Rat.mul_nonneg hu0 (show 0 ≤ 1 / 64 - uu by grind)
      grind
    have m4 : S + C ≤ (X + Y + Z) * (1 + 3 * uu) + 4 * uu := by grind
    have m5 : φ ≤ ((X + Y + Z) * (1 + 3 * uu) + 4 * uu) * (1 + uu) := by
      have := Rat.mul_nonneg (show 0 ≤ (X + Y + Z) * (1 + 3 * uu) + 4 * uu - (S + C) by grind) (show 0 ≤ 1 + uu by grind)
      grind
    have m6 : φ ≤ (X + Y + Z) * (1 + 5 * uu) + 5 * uu := by
      have k8 := Rat.mul_nonneg hu0 (show 0 ≤ 1 / 64 - uu by grind)
      grind
    have m7 : φ * (1 + 5 * uu) ≤ ((X + Y + Z) * (1 + 5 * uu) + 5 * uu) * (1 + 5 * uu) := by
      have := Rat.mul_nonneg (show 0 ≤ (X + Y + Z) * (1 + 5 * uu) + 5 * uu - φ by grind) (show 0 ≤ 1 + 5 * uu by grind)
      grind
    have k8 := Rat.mul_nonneg hu0 (show 0 ≤ 1 / 64 - uu by grind)
    grind
  · generalize u * u = X at *
    generalize v * v = Y at *
    generalize w * w = Z at *
    have hs : uu ≤ 1 / 1024 := by decide +kernel
    have k1 := Rat.mul_nonneg u0 hu0
    have k2 := Rat.mul_nonneg v0 hu0
    have k3 := Rat.mul_nonneg w0 hu0
    have k8 := Rat.mul_nonneg hu0 (show 0 ≤ 1 / 1024 - uu by grind)
    have k4 := Rat.mul_nonneg hu0 hu0
    have m1 : (X + Y) * (1 - uu) - 2 * uu ≤ A + B := by grind
    have m2 : ((X + Y) * (1 - uu) - 2 * uu) * (1 - uu) ≤ S := by
      have := Rat.mul_nonneg (show 0 ≤ A + B - ((X + Y) * (1 - uu) - 2 * uu) by grind) (show 0 ≤ 1 - uu by grind)
      grind
    have m3 : (X + Y) * (1 - 2 * uu) - 2 * uu ≤ S := by
      have := Rat.mul_nonneg k1 hu0
      have := Rat.mul_nonneg k2 hu0
      grind
    have m4 : (X + Y + Z) * (1 - 2 * uu) - 3 * uu ≤ S + C := by grind
    have m5 : ((X + Y + Z) * (1 - 2 * uu) - 3 * uu) * (1 - uu) ≤ φ := by
      have := Rat.mul_nonneg (show 0 ≤ S + C - ((X + Y + Z) * (1 - 2 * uu) - 3 * uu) by grind) (show 0 ≤ 1 - uu by grind)
      grind
    have zz := Rat.mul_nonneg (Rat.mul_nonneg (show 0 ≤ X + Y + Z by grind) hu0) hu0
    have m6 : (X + Y + Z) * (1 - 3 * uu) - 3 * uu ≤ φ := by grind
    have m7 : ((X + Y + Z) * (1 - 3 * uu) - 3 * uu) * (1 - 5 * uu) ≤ φ * (1 - 5 * uu) := by
      have := Rat.mul_nonneg (show 0 ≤ φ - ((X + Y + Z) * (1 - 3 * uu) - 3 * uu) by grind) (show 0 ≤ 1 - 5 * uu by grind)
      grind
    have m8 : (X + Y + Z) * (1 - 8 * uu) - 5 * uu ≤ o * o := by grind
    have m9 := Rat.mul_nonneg (show 0 ≤ o * o + 5 * uu - (X + Y + Z) * (1 - 8 * uu) by grind) (show 0 ≤ 1 + 16 * uu by grind)
    have zz2 := Rat.mul_nonneg (Rat.mul_nonneg (show 0 ≤ X + Y + Z by grind) hu0) (show 0 ≤ 1 / 1024 - uu by grind)
    grind
end Go.Proofs.Ytmkhoplffiakmaa
namespace Go.Proofs.Ytmkhoplffiakmaa
open Go.Sx
open Ieee (signed)
set_option linter.unusedVariables false
set_option linter.unusedSimpArgs false
set_option maxRecDepth 100000

theorem le_of_mul_le {a b d : Rat} (hd : 0 < d) (h : a * d ≤ b * d) : a ≤ b := by
  by_cases h1 : a ≤ b
  · exact h1
  · have := Rat.mul_pos (show 0 < a - b by grind) hd; grind
theorem near_end {u v w u' v' w' o n d : Rat} (hd : 0 < d) (hn : (u' * u' + v' * v' + w' * w') * d = n)
    (hu : u' - e34 ≤ u ∧ u ≤ u' + e34) (hv : v' - e34 ≤ v ∧ v ≤ v' + e34) (hw : w' - e34 ≤ w ∧ w ≤ w' + e34)
    (o1 : -uu ≤ o) (o2 : o ≤ 4096) (o3 : o * o ≤ (u * u + v * v + w * w) * (1 + 16 * uu) + 16 * uu) (o4 : u * u + v * v + w * w ≤ o * o * (1 + 16 * uu) + 16 * uu) : NearR o n d := by
  have hu0 := uu_pos
  have hus : uu ≤ 1 / 4503599627370496 := by decide +kernel
  constructor
  · intro s hs h
    rw [← hn] at h
    have h1 := le_of_mul_le hd h
    have h2 := near_vec3 (u := u') (v := v') (w := w') (u' := u) (v' := v) (w' := w) hs h1 ⟨by grind, by grind⟩ ⟨by grind, by grind⟩ ⟨by grind, by grind⟩
    rcases (show 4096 ≤ s ∨ s ≤ 4096 by grind) with hb | hb
    · grind
    · apply le_of_sq (by grind)
      generalize u * u + v * v + w * w = Z at *
      have s1 := Rat.mul_nonneg hs (show 0 ≤ 4096 - s by grind)
      have e1 : (s + 3 * e34) * (s + 3 * e34) = s * s + 6 * e34 * s + 9 * (e34 * e34) := by grind
      have e2 : (s + e22) * (s + e22) = s * s + 2 * e22 * s + e22 * e22 := by grind
      rw [e1] at h2
      rw [e2]
      have h3 := Rat.mul_nonneg (show 0 ≤ s * s + 6 * e34 * s + 9 * (e34 * e34) - Z by grind) (show 0 ≤ 1 + 16 * uu by grind)
      have h4 := Rat.mul_nonneg (show 0 ≤ 4096 * s - s * s by grind) hu0
      have h5 := Rat.mul_nonneg hs (show 0 ≤ 1 / 4503599627370496 - uu by grind)
      generalize s * s = X at *
      generalize uu = t at *
      grind
  · intro s hs h
    rw [← hn] at h
    have h1 := le_of_mul_le hd h
    obtain ⟨t, ht⟩ : ∃ t, t = o + 1 / 8388608 := ⟨_, rfl⟩
    have t0 : 0 ≤ t := by grind
    have h2 : u * u + v * v + w * w ≤ t * t := by
      generalize u * u + v * v + w * w = Z at *
      have e1 : t * t = o * o + 1 / 4194304 * o + 1 / 8388608 * (1 / 8388608) := by rw [ht]; grind
      rw [e1]
      clear e1 ht h h1 hn hu hv hw o3
      obtain ⟨y, hy⟩ : ∃ y, y = o + uu := ⟨_, rfl⟩
      have y0 : 0 ≤ y := by grind
      have h3 := Rat.mul_nonneg y0 (show 0 ≤ 4096 - o by grind)
      have h4 := Rat.mul_nonneg hu0 y0
      have h10 := Rat.mul_nonneg hu0 (show 0 ≤ 1 / 4503599627370496 - uu by grind)
      have h5 : o * o ≤ 4096 * y + 1 / 4503599627370496 * uu := by
        have e2 : y * (4096 - o) = 4096 * y - o * o - uu * y + uu * uu := by rw [hy]; grind
        rw [e2] at h3
        grind
      have h6 := Rat.mul_nonneg hu0 (show 0 ≤ 4096 * y + 1 / 4503599627370496 * uu - o * o by grind)
      have h7 := Rat.mul_nonneg y0 (show 0 ≤ 1 / 4503599627370496 - uu by grind)
      generalize o * o = X at *
      have h8 : uu * X ≤ 4096 * (uu * y) + 1 / 4503599627370496 * (uu * uu) := by grind
      have h9 : uu * y ≤ 1 / 4503599627370496 * y := by grind
      generalize uu * X = W at *
      generalize uu * uu = U at *
      generalize uu * y = V at *
      grind
    have h3 := near_vec3 t0 h2 hu hv hw
    have h4 := le_of_sq (a := s) (b := t + 3 * e34) (by grind) (by grind)
    grind
theorem near_eq {o n d n' d' : Rat} (h : NearR o n d) (hd : 0 < d) (hd' : 0 < d') (he : n * d' = n' * d) : NearR o n' d' := by
  obtain ⟨h1, h2⟩ := h
  constructor
  · intro s hs h
    apply h1 s hs
    apply le_of_mul_le hd'
    have := Rat.mul_nonneg (show 0 ≤ s * s * d' - n' by grind) (Rat.le_of_lt hd)
    grind
  · intro s hs h
    apply h2 s hs
    apply le_of_mul_le hd'
    have := Rat.mul_nonneg (show 0 ≤ n' - s * s * d' by grind) (Rat.le_of_lt hd)
    grind
theorem near_fin {o r n d : Rat} (h : NearR o n d) (hr : 0 ≤ r) (hr4 : r ≤ 4096) (hn : 0 ≤ n) (h1 : r * r * d ≤ n * (1 + 1 / 281474976710656)) (h2 : n * (1 - 1 / 281474976710656) ≤ r * r * d) :
    -(2 * e22) ≤ o - r ∧ o - r ≤ 2 * e22 := by
  obtain ⟨k1, k2⟩ := h
  have g1 := k1 (r * (1 + 2 / 281474976710656)) (by grind) (by
    have e : r * (1 + 2 / 281474976710656) * (r * (1 + 2 / 281474976710656)) * d = r * r * d * ((1 + 2 / 281474976710656) * (1 + 2 / 281474976710656)) := by grind
    rw [e]
    generalize r * r * d = X at *
    grind)
  have g2 := k2 (r * (1 - 1 / 281474976710656)) (by grind) (by
    have e : r * (1 - 1 / 281474976710656) * (r * (1 - 1 / 281474976710656)) * d = r * r * d * ((1 - 1 / 281474976710656) * (1 - 1 / 281474976710656)) := by grind
    rw [e]
    generalize r * r * d = X at *
    grind)
  constructor <;> grind
theorem Q_abs3 {x : Nat} {r : Rat} (hx : x < 2 ^ 64) (h : Q x r) : ∃ A, Q (x % 2 ^ 63) A ∧ (A = r ∨ A = -r) := by
  obtain ⟨n, h1, h2⟩ := h
  have h3 := D_absn hx h1
  refine ⟨((n.natAbs : Int) : Rat) / Un, ⟨_, h3, un_cancel _⟩, ?_⟩
  have hU := Un_pos
  rcases Int.natAbs_eq n with e | e
  · left; rw [← e, h2]; grind
  · right
    have : ((n.natAbs : Int) : Rat) = -(n : Rat) := by rw [e, Int.natAbs_neg, Int.natAbs_natCast, Rat.intCast_neg]; grind
    rw [this, h2]; grind
theorem nearTo3 {k a b : Nat} {p q : Rat} (ha : Q a p) (hb : Q b q) (h1 : -(2 * e22) ≤ p - q) (h2 : p - q ≤ 2 * e22) : laws_nearTo k a b = some true := by
  have hBB : (1099511627776 : Rat) ≤ BB := by decide +kernel
  obtain ⟨e, g1, g2⟩ := gsub_full ha hb ⟨by grind, by grind⟩
  obtain ⟨s1, s2⟩ := bd_prod (a := p - q) (A := 2 * e22) ⟨h1, h2⟩ g2
  obtain ⟨A, t1, t3⟩ := Q_abs3 (gsub_lt a b) g1
  have e1 : (p - q) * (1 + e) = (p - q) + (p - q) * e := by grind
  have hu : 2 * e22 * uu ≤ 1 / 1073741824 := by decide +kernel
  have hA : A < 1 / 1048576 := by
    rw [e1] at t3
    generalize (p - q) * e = w at *
    generalize 2 * e22 * uu = y at *
    rcases t3 with h | h <;> rw [h] <;> grind
  have q20 : Q 4517110426252607488 (1 / 1048576) := by
    have h := Go.Sx.D_fields (E := 1003) (F := 0) (by omega) (by omega) (by omega) (n := 1) (v := 1054) (by
      rw [Int.one_mul, show (1054 : Nat) = 52 + (1003 - 1) from rfl, Int.pow_add]; rfl)
    have h1 := Q_of h
    have hU := Un_pos
    have e : (2 : Rat) ^ 1054 * 1048576 = Un := by
      have : (1048576 : Rat) = 2 ^ 20 := by decide +kernel
      rw [this, ← ratpow_add]; rfl
    have e1 : ((1 : Int) : Rat) = 1 := by simp
    rw [e1] at h1
    have e2 : 1 * (2 : Rat) ^ 1054 / Un = 1 / 1048576 := by
      generalize (2 : Rat) ^ 1054 = z at e ⊢
      rw [← e] at hU ⊢
      grind
    rw [e2] at h1; exact h1
  unfold laws_nearTo
  simp only [Option.bind_eq_bind, Option.bind_some, num_q g1, abs_is _ _ (gsub_lt a b), flt_q t1 q20, decide_eq_true hA]
end Go.Proofs.Ytmkhoplffiakmaa
namespace Go.Proofs.Ytmkhoplffiakmaa
open Go.Sx
open Ieee (signed)
set_option linter.unusedVariables false
set_option linter.unusedSimpArgs false
set_option maxRecDepth 100000

theorem fsub_q3 {x y : Nat} {r : Rat} (h : Q (gsub x y) r) : fsub x y = some (gsub x y) := some_q h
theorem nan_q {x : Nat} {r : Rat} (h : Q x r) (k : Nat) : math_IsNaN k x = some false := by
  obtain ⟨n, h1, h2⟩ := h
  unfold math_IsNaN
  rw [D_ne h1 h1]; simp
theorem i30 (x y z : Nat) : idx [x, y, z] 0 = some x := rfl
theorem i31 (x y z : Nat) : idx [x, y, z] 1 = some y := rfl
theorem i32 (x y z : Nat) : idx [x, y, z] 2 = some z := rfl
/-- the distance of two places, as it is computed -/
theorem dist_q (k : Nat) {x0 x1 x2 y0 y1 y2 : Nat} {p0 p1 p2 q0 q1 q2 : Rat} (hx0 : Q x0 p0) (hx1 : Q x1 p1) (hx2 : Q x2 p2) (hy0 : Q y0 q0) (hy1 : Q y1 q1) (hy2 : Q y2 q2)
    (h0 : -2000 ≤ p0 - q0 ∧ p0 - q0 ≤ 2000) (h1 : -2000 ≤ p1 - q1 ∧ p1 - q1 ≤ 2000) (h2 : -2000 ≤ p2 - q2 ∧ p2 - q2 ≤ 2000) :
    ∃ w o u v t, xyz_Distance k [x0, x1, x2] [y0, y1, y2] = some w ∧ Q w o ∧ (p0 - q0 - e36 ≤ u ∧ u ≤ p0 - q0 + e36) ∧ (p1 - q1 - e36 ≤ v ∧ v ≤ p1 - q1 + e36) ∧ (p2 - q2 - e36 ≤ t ∧ t ≤ p2 - q2 + e36) ∧
      -uu ≤ o ∧ o ≤ 4096 ∧ o * o ≤ (u * u + v * v + t * t) * (1 + 16 * uu) + 16 * uu ∧ u * u + v * v + t * t ≤ o * o * (1 + 16 * uu) + 16 * uu := by
  obtain ⟨u, g0, u1, u2⟩ := sub_near hx0 hy0 ⟨by grind, by grind⟩
  obtain ⟨v, g1, v1, v2⟩ := sub_near hx1 hy1 ⟨by grind, by grind⟩
  obtain ⟨t, g2, t1, t2⟩ := sub_near hx2 hy2 ⟨by grind, by grind⟩
  obtain ⟨φ, o, qF, qO, o1, o2, o3, o4⟩ := norm3 g0 g1 g2 ⟨by grind, by grind⟩ ⟨by grind, by grind⟩ ⟨by grind, by grind⟩
  refine ⟨_, o, u, v, t, ?_, qO, ⟨u1, u2⟩, ⟨v1, v2⟩, ⟨t1, t2⟩, o1, o2, o3, o4⟩
  unfold xyz_Distance xyz_Distance_j1 math_Sqrt
  simp only [i30, i31, i32, sbind, nan_q hx2, nan_q hy2, br_false, fsub_q3 g0, fsub_q3 g1, fsub_q3 g2, num_q qF]
def lng (u0 u1 u2 : Int) : Int := u0 * u0 + u1 * u1 + u2 * u2
def dt3 (u0 u1 u2 w0 w1 w2 : Int) : Int := u0 * w0 + u1 * w1 + u2 * w2
def cr2 (u0 u1 u2 w0 w1 w2 : Int) : Int := (u1 * w2 - u2 * w1) * (u1 * w2 - u2 * w1) + (u2 * w0 - u0 * w2) * (u2 * w0 - u0 * w2) + (u0 * w1 - u1 * w0) * (u0 * w1 - u1 * w0)
/-- the square of the way from a place (w from the segment's start) to the segment u: a fraction -/
def sgN (u0 u1 u2 w0 w1 w2 : Int) : Int := if dt3 u0 u1 u2 w0 w1 w2 ≤ 0 then lng w0 w1 w2 else if lng u0 u1 u2 ≤ dt3 u0 u1 u2 w0 w1 w2 then lng (w0 - u0) (w1 - u1) (w2 - u2) else cr2 u0 u1 u2 w0 w1 w2
def sgD (u0 u1 u2 w0 w1 w2 : Int) : Int := if dt3 u0 u1 u2 w0 w1 w2 ≤ 0 then 1 else if lng u0 u1 u2 ≤ dt3 u0 u1 u2 w0 w1 w2 then 1 else lng u0 u1 u2
theorem eq3_is (k : Nat) {x0 x1 x2 y0 y1 y2 : Nat} {p0 p1 p2 q0 q1 q2 : Int} (hx0 : D x0 p0 1074) (hx1 : D x1 p1 1074) (hx2 : D x2 p2 1074) (hy0 : D y0 q0 1074) (hy1 : D y1 q1 1074) (hy2 : D y2 q2 1074) :
    xyz_Equals k [x0, x1, x2] [y0, y1, y2] = some (decide (p0 = q0 ∧ p1 = q1 ∧ p2 = q2)) := by
  unfold xyz_Equals xyz_Equals_j1 xyz_Equals_j2 xyz_Equals_j3 xyz_Equals_j4
  simp only [i30, i31, i32, sbind, D_eq hx0 hy0, D_eq hx1 hy1, D_eq hx2 hy2, nan_q (Q_whole hx2), nan_q (Q_whole hy2), br_false]
  by_cases h0 : p0 = q0 <;> by_cases h1 : p1 = q1 <;> by_cases h2 : p2 = q2 <;> simp [h0, h1, h2, br]
theorem whole_dist (k : Nat) {x0 x1 x2 y0 y1 y2 : Nat} {p0 p1 p2 q0 q1 q2 : Int} (hx0 : D x0 p0 1074) (hx1 : D x1 p1 1074) (hx2 : D x2 p2 1074) (hy0 : D y0 q0 1074) (hy1 : D y1 q1 1074) (hy2 : D y2 q2 1074)
    (h0 : (p0 - q0).natAbs ≤ 2000) (h1 : (p1 - q1).natAbs ≤ 2000) (h2 : (p2 - q2).natAbs ≤ 2000) :
    ∃ w o, xyz_Distance k [x0, x1, x2] [y0, y1, y2] = some w ∧ Q w o ∧ NearR o ((lng (p0 - q0) (p1 - q1) (p2 - q2) : Int) : Rat) ((1 : Int) : Rat) := by
  have b0 := rat_bd h0
  have b1 := rat_bd h1
  have b2 := rat_bd h2
  have e2 : ((2000 : Nat) : Rat) = 2000 := rfl
  rw [e2, Rat.intCast_sub] at b0 b1 b2
  obtain ⟨w, o, u, v, t, r1, r2, r3, r4, r5, o1, o2, o3, o4⟩ := dist_q k (Q_whole hx0) (Q_whole hx1) (Q_whole hx2) (Q_whole hy0) (Q_whole hy1) (Q_whole hy2) b0 b1 b2
  have e3 : e36 ≤ e34 := by decide +kernel
  refine ⟨w, o, r1, r2, near_end (u' := (p0 : Rat) - q0) (v' := (p1 : Rat) - q1) (w' := (p2 : Rat) - q2) (by decide +kernel) ?_ ⟨by grind, by grind⟩ ⟨by grind, by grind⟩ ⟨by grind, by grind⟩ o1 o2 o3 o4⟩
  unfold lng
  simp only [Rat.intCast_add, Rat.intCast_mul, Rat.intCast_sub]
  have : ((1 : Int) : Rat) = 1 := rfl
  rw [this]; grind
theorem s3 {x y : Nat} {a b : Int} (hx : D x a 1074) (hy : D y b 1074) (ha : a.natAbs ≤ 256) (hb : b.natAbs ≤ 256) : ∃ z, fsub x y = some z ∧ D z (a - b) 1074 ∧ (a - b).natAbs ≤ 512 := by
  obtain ⟨z, h1, h2⟩ := D_sub hx hy rfl (show (a - b).natAbs ≤ 2 ^ 53 by omega) (by decide)
  exact ⟨z, h1, h2, by omega⟩
theorem m3 {x y : Nat} {a b : Int} (hx : D x a 1074) (hy : D y b 1074) (ha : a.natAbs ≤ 512) (hb : b.natAbs ≤ 512) : ∃ z, fmul x y = some z ∧ D z (a * b) 1074 ∧ (a * b).natAbs ≤ 262144 := by
  have h := prod_bd ha hb
  have h2 : (512 * 512 : Nat) ≤ 2 ^ 53 := by decide
  obtain ⟨z, h1, h3⟩ := D_mul hx hy rfl rfl (by decide) (Nat.le_trans h h2) (by decide)
  exact ⟨z, h1, h3, h⟩
theorem a3 {x y : Nat} {a b : Int} {N : Nat} (hx : D x a 1074) (hy : D y b 1074) (ha : a.natAbs ≤ N) (hb : b.natAbs ≤ 262144) (hN : N ≤ 1048576) : ∃ z, fadd x y = some z ∧ D z (a + b) 1074 ∧ (a + b).natAbs ≤ N + 262144 := by
  obtain ⟨z, h1, h2⟩ := D_sum hx hy rfl (show (a + b).natAbs ≤ 2 ^ 53 by omega) (by decide)
  exact ⟨z, h1, h2, by omega⟩
theorem sq_nn3 (a : Int) : 0 ≤ a * a := by rcases Int.le_total 0 a with h' | h'; exact Int.mul_nonneg h' h'; exact Int.mul_nonneg_of_nonpos_of_nonpos h' h'
theorem lng_nn (a b c : Int) : 0 ≤ lng a b c := by have := sq_nn3 a; have := sq_nn3 b; have := sq_nn3 c; unfold lng; omega
theorem sq_zero3 {a : Int} (h : a * a ≤ 0) : a = 0 := by
  have := sq_nn3 a
  rcases Int.mul_eq_zero.1 (show a * a = 0 by omega) with h' | h' <;> exact h'
theorem lng_pos {a b c : Int} (h : ¬ (a = 0 ∧ b = 0 ∧ c = 0)) : 0 < lng a b c := by
  have h0 := sq_nn3 a
  have h1 := sq_nn3 b
  have h2 := sq_nn3 c
  by_cases hc : 0 < lng a b c
  · exact hc
  · exfalso
    unfold lng at hc
    exact h ⟨sq_zero3 (by omega), sq_zero3 (by omega), sq_zero3 (by omega)⟩
theorem d2000 {a b : Int} (h : a.natAbs ≤ 256) (h' : b.natAbs ≤ 256) : (a - b).natAbs ≤ 2000 := by omega
/-- Lagrange -/
theorem lagr (u0 u1 u2 w0 w1 w2 : Int) : lng u0 u1 u2 * lng w0 w1 w2 = dt3 u0 u1 u2 w0 w1 w2 * dt3 u0 u1 u2 w0 w1 w2 + cr2 u0 u1 u2 w0 w1 w2 := by unfold lng dt3 cr2; grind
theorem r_le_lt (a b : Int) : a < b ∨ b ≤ a := by omega
theorem over_eq {f e L A : Rat} (hf : f * L = A) (hL : 1 ≤ L) (hL2 : L ≤ 1073741824) (he : Sm e (3 * uu)) (h : 1 ≤ f * (1 + e)) (hA : A + 1 ≤ L) : False := by
  obtain ⟨e1, e2⟩ := he
  have hu : 1073741824 * (3 * uu) < 1 := by decide +kernel
  have hu1 : 3 * uu ≤ 1 := by decide +kernel
  have k1 := Rat.mul_nonneg (show 0 ≤ f * (1 + e) - 1 by grind) (show 0 ≤ L by grind)
  have k2 : L ≤ A * (1 + e) := by rw [← hf]; grind
  have k3 := Rat.mul_nonneg (show 0 ≤ L - 1 - A by grind) (show 0 ≤ 1 + e by grind)
  have hu0 := uu_pos
  have k4 := Rat.mul_nonneg (show 0 ≤ 3 * uu - e by grind) (show 0 ≤ L - 1 by grind)
  have k5 := Rat.mul_nonneg (show 0 ≤ 1073741824 - L by grind) (show 0 ≤ 3 * uu by grind)
  generalize uu = w at *
  grind
/-- the square of the way from a place to a place within the segment -/
theorem way3 {f L T u0 u1 u2 w0 w1 w2 : Rat} (hf : f * L = T) (hL : L = u0 * u0 + u1 * u1 + u2 * u2) (hT : T = u0 * w0 + u1 * w1 + u2 * w2) :
    ((w0 - f * u0) * (w0 - f * u0) + (w1 - f * u1) * (w1 - f * u1) + (w2 - f * u2) * (w2 - f * u2)) * L = (w0 * w0 + w1 * w1 + w2 * w2) * L - T * T := by
  have e1 : (w0 - f * u0) * (w0 - f * u0) + (w1 - f * u1) * (w1 - f * u1) + (w2 - f * u2) * (w2 - f * u2) = w0 * w0 + w1 * w1 + w2 * w2 - 2 * f * T + f * (f * L) := by rw [hT, hL]; grind
  rw [e1, hf, ← hf]; grind
theorem one_of {f L : Rat} (h : f * L = L) (hL : 1 ≤ L) : f = 1 := by
  have : (f - 1) * L = 0 := by grind
  rcases Rat.mul_eq_zero.1 this with h | h <;> grind
/-- a part of the way to a place within the segment, as it is computed -/
theorem inner3 {x y u r : Nat} {p a d : Int} {f e : Rat} (hx : D x p 1074) (hy : D y a 1074) (hu : D u d 1074) (hr : Q r (f * (1 + e))) (hf : 0 ≤ f ∧ f ≤ 1) (he : Sm e (3 * uu)) (cp : p.natAbs ≤ 256) (ca : a.natAbs ≤ 256) (cd : d.natAbs ≤ 512) :
    fmul r u = some (gmul r u) ∧ fadd y (gmul r u) = some (gadd y (gmul r u)) ∧ (∃ X, Q (gadd y (gmul r u)) X ∧ -1000 ≤ X ∧ X ≤ 1000 ∧ (a : Rat) + f * d - 3 * e36 ≤ X ∧ X ≤ (a : Rat) + f * d + 3 * e36) ∧
      ∃ v, Q (gsub x (gadd y (gmul r u))) v ∧ (((p - a : Int) : Rat) - f * d - e34 ≤ v ∧ v ≤ ((p - a : Int) : Rat) - f * d + e34) ∧ (-2048 ≤ v ∧ v ≤ 2048) := by
  have e512 : ((512 : Nat) : Rat) = 512 := rfl
  have e256 : ((256 : Nat) : Rat) = 256 := rfl
  have cd := rat_bd cd
  have ca := rat_bd ca
  have cp := rat_bd cp
  rw [e512] at cd
  rw [e256] at ca cp
  have hu1 : 3 * uu ≤ 1 := by decide +kernel
  have hT := bd_prod (a := f) (A := 1) ⟨by grind, hf.2⟩ (b := 1 + e) (B := 2) ⟨by have := he.1; grind, by have := he.2; grind⟩
  have hTd := bd_prod (a := f * (1 + e)) (A := 2) ⟨by grind, by grind⟩ cd
  obtain ⟨m, qm, m1, m2⟩ := mul_near hr (Q_whole hu) ⟨by grind, by grind⟩
  have hs := e36_small
  obtain ⟨X, qX, x1, x2⟩ := add_near (Q_whole hy) qm ⟨by grind, by grind⟩
  have hn := near_point (ax := (a : Rat)) (dx := (d : Rat)) (r70 := m) (X := X) (f := f) (T := f * (1 + e)) (e := e) ⟨by grind, by grind⟩ hf rfl he ⟨by grind, by grind⟩ ⟨by grind, by grind⟩
  have hfd := bd_prod (a := f) (A := 1) ⟨by grind, hf.2⟩ cd
  obtain ⟨v, qv, v1, v2⟩ := sub_near (Q_whole hx) qX ⟨by grind, by grind⟩
  refine ⟨fmul_q qm, fadd_q qX, ⟨X, qX, by grind, by grind, hn.1, hn.2⟩, v, qv, ?_, ?_⟩
  · rw [Rat.intCast_sub]
    have := e36_34
    obtain ⟨n1, n2⟩ := hn
    generalize f * (d : Rat) = z at *
    constructor <;> grind
  · obtain ⟨n1, n2⟩ := hn
    generalize f * (d : Rat) = z at *
    constructor <;> grind
set_option maxHeartbeats 4000000 in
theorem ptLine_is (k : Nat) {x0 x1 x2 y0 y1 y2 z0 z1 z2 : Nat} {p0 p1 p2 a0 a1 a2 b0 b1 b2 : Int} (hx0 : D x0 p0 1074) (hx1 : D x1 p1 1074) (hx2 : D x2 p2 1074) (hy0 : D y0 a0 1074) (hy1 : D y1 a1 1074) (hy2 : D y2 a2 1074) (hz0 : D z0 b0 1074) (hz1 : D z1 b1 1074) (hz2 : D z2 b2 1074)
    (cp0 : p0.natAbs ≤ 256) (cp1 : p1.natAbs ≤ 256) (cp2 : p2.natAbs ≤ 256) (ca0 : a0.natAbs ≤ 256) (ca1 : a1.natAbs ≤ 256) (ca2 : a2.natAbs ≤ 256) (cb0 : b0.natAbs ≤ 256) (cb1 : b1.natAbs ≤ 256) (cb2 : b2.natAbs ≤ 256)
    (hne : ¬ (a0 = b0 ∧ a1 = b1 ∧ a2 = b2)) :
    ∃ w o, xyz_DistancePointToLine k [x0, x1, x2] [y0, y1, y2] [z0, z1, z2] = some w ∧ Q w o ∧
      NearR o ((sgN (b0 - a0) (b1 - a1) (b2 - a2) (p0 - a0) (p1 - a1) (p2 - a2) : Int) : Rat) ((sgD (b0 - a0) (b1 - a1) (b2 - a2) (p0 - a0) (p1 - a1) (p2 - a2) : Int) : Rat) := by
  obtain ⟨u0, su0, du0, bu0⟩ := s3 hz0 hy0 cb0 ca0
  obtain ⟨u1, su1, du1, bu1⟩ := s3 hz1 hy1 cb1 ca1
  obtain ⟨u2, su2, du2, bu2⟩ := s3 hz2 hy2 cb2 ca2
  obtain ⟨w0, sw0, dw0, bw0⟩ := s3 hx0 hy0 cp0 ca0
  obtain ⟨w1, sw1, dw1, bw1⟩ := s3 hx1 hy1 cp1 ca1
  obtain ⟨w2, sw2, dw2, bw2⟩ := s3 hx2 hy2 cp2 ca2
  obtain ⟨l0, sl0, dl0, bl0⟩ := m3 du0 du0 bu0 bu0
  obtain ⟨l1, sl1, dl1, bl1⟩ := m3 du1 du1 bu1 bu1
  obtain ⟨l2, sl2, dl2, bl2⟩ := m3 du2 du2 bu2 bu2
  obtain ⟨l3, sl3, dl3, bl3⟩ := a3 dl0 dl1 bl0 bl1 (by decide)
  obtain ⟨l4, sl4, dl4, bl4⟩ := a3 dl3 dl2 bl3 bl2 (by decide)
  obtain ⟨t0, st0, dt0, bt0⟩ := m3 dw0 du0 bw0 bu0
  obtain ⟨t1, st1, dt1, bt1⟩ := m3 dw1 du1 bw1 bu1
  obtain ⟨t2, st2, dt2, bt2⟩ := m3 dw2 du2 bw2 bu2
  obtain ⟨t3, st3, dt3', bt3⟩ := a3 dt0 dt1 bt0 bt1 (by decide)
  obtain ⟨t4, st4, dt4, bt4⟩ := a3 dt3' dt2 bt3 bt2 (by decide)
  have hE := eq3_is k hy0 hy1 hy2 hz0 hz1 hz2
  rw [decide_eq_false hne] at hE
  have eL : (b0 - a0) * (b0 - a0) + (b1 - a1) * (b1 - a1) + (b2 - a2) * (b2 - a2) = lng (b0 - a0) (b1 - a1) (b2 - a2) := rfl
  have eT : (p0 - a0) * (b0 - a0) + (p1 - a1) * (b1 - a1) + (p2 - a2) * (b2 - a2) = dt3 (b0 - a0) (b1 - a1) (b2 - a2) (p0 - a0) (p1 - a1) (p2 - a2) := by unfold dt3; grind
  rw [eL] at dl4 bl4
  rw [eT] at dt4 bt4
  have hL : 0 < lng (b0 - a0) (b1 - a1) (b2 - a2) := lng_pos (fun h => hne ⟨by have := h.1; omega, by have := h.2.1; omega, by have := h.2.2; omega⟩)
  obtain ⟨f, e, fd, qf, hf, he⟩ := quot_is dt4 dl4 hL (by omega) (by omega)
  have ptz : math_IsNaN k l4 = some false := nan_q (Q_whole dl4) k
  unfold xyz_DistancePointToLine
  simp only [hE, i30, i31, i32, sbind, br_false, su0, su1, su2, sw0, sw1, sw2, sl0, sl1, sl2, sl3, sl4, st0, st1, st2, st3, st4, ptz, fd]
  have hL1 := int_lt_rat hL
  have hL2 : ((lng (b0 - a0) (b1 - a1) (b2 - a2) : Int) : Rat) ≤ 1073741824 := int_le_rat (show lng (b0 - a0) (b1 - a1) (b2 - a2) ≤ (1073741824 : Int) by omega)
  have z0' : ((0 : Int) : Rat) = 0 := rfl
  rw [z0'] at hL1
  have hpos := pos_quot hf (by grind) he
  unfold sgN sgD
  by_cases h1 : dt3 (b0 - a0) (b1 - a1) (b2 - a2) (p0 - a0) (p1 - a1) (p2 - a2) ≤ 0
  · have hr : ((dt3 (b0 - a0) (b1 - a1) (b2 - a2) (p0 - a0) (p1 - a1) (p2 - a2) : Int) : Rat) ≤ 0 := int_le_rat h1
    rw [fle_q qf q_zero, decide_eq_true (by
      by_cases h : f * (1 + e) ≤ 0
      · exact h
      · have := hpos.1 (by grind); grind), br_true, if_pos h1, if_pos h1]
    obtain ⟨w, o, r1, r2, r3⟩ := whole_dist k hx0 hx1 hx2 hy0 hy1 hy2 (d2000 cp0 ca0) (d2000 cp1 ca1) (d2000 cp2 ca2)
    rw [r1, sbind]
    exact ⟨w, o, rfl, r2, r3⟩
  have h1' : 0 < dt3 (b0 - a0) (b1 - a1) (b2 - a2) (p0 - a0) (p1 - a1) (p2 - a2) := by omega
  have hr := int_lt_rat h1'
  rw [z0'] at hr
  have hp := hpos.2 (by grind)
  rw [fle_q qf q_zero, decide_eq_false (by grind), br_false, if_neg h1, if_neg h1]
  have qone : Q 4607182418800017408 1 := by have := Q_whole D_one; simpa using this
  by_cases hge : 1 ≤ f * (1 + e)
  · have h2 : lng (b0 - a0) (b1 - a1) (b2 - a2) ≤ dt3 (b0 - a0) (b1 - a1) (b2 - a2) (p0 - a0) (p1 - a1) (p2 - a2) := by
      rcases r_le_lt (dt3 (b0 - a0) (b1 - a1) (b2 - a2) (p0 - a0) (p1 - a1) (p2 - a2)) (lng (b0 - a0) (b1 - a1) (b2 - a2)) with h | h
      · exact (over_eq hf (by grind) hL2 he hge (int_lt_rat h)).elim
      · exact h
    rw [fge_q qf qone, decide_eq_true hge, br_true, if_pos h2, if_pos h2]
    obtain ⟨w, o, r1, r2, r3⟩ := whole_dist k hx0 hx1 hx2 hz0 hz1 hz2 (d2000 cp0 cb0) (d2000 cp1 cb1) (d2000 cp2 cb2)
    rw [r1, sbind]
    refine ⟨w, o, rfl, r2, ?_⟩
    have e0 : p0 - a0 - (b0 - a0) = p0 - b0 := by omega
    have e1 : p1 - a1 - (b1 - a1) = p1 - b1 := by omega
    have e2 : p2 - a2 - (b2 - a2) = p2 - b2 := by omega
    rw [e0, e1, e2]; exact r3
  · rw [fge_q qf qone, decide_eq_false hge, br_false]
    have h2 : dt3 (b0 - a0) (b1 - a1) (b2 - a2) (p0 - a0) (p1 - a1) (p2 - a2) ≤ lng (b0 - a0) (b1 - a1) (b2 - a2) := by
      rcases r_le_lt (lng (b0 - a0) (b1 - a1) (b2 - a2)) (dt3 (b0 - a0) (b1 - a1) (b2 - a2) (p0 - a0) (p1 - a1) (p2 - a2)) with h | h
      · exact (under_one hf (by grind) hL2 he (by grind) (int_lt_rat h)).elim
      · exact h
    have hfr := frac_bd hf (by grind) (by grind) (int_le_rat h2)
    obtain ⟨f1, f2, -, v0, q0, r0, c0⟩ := inner3 hx0 hy0 du0 qf hfr he cp0 ca0 bu0
    obtain ⟨f3, f4, -, v1, q1, r1, c1⟩ := inner3 hx1 hy1 du1 qf hfr he cp1 ca1 bu1
    obtain ⟨f5, f6, -, v2, q2, r2, c2⟩ := inner3 hx2 hy2 du2 qf hfr he cp2 ca2 bu2
    obtain ⟨φ, o, qF, qO, o1, o2, o3, o4⟩ := norm3 q0 q1 q2 c0 c1 c2
    simp only [f1, f2, f3, f4, f5, f6, sbind, num_q qF, math_Sqrt]
    have hw := way3 (w0 := ((p0 - a0 : Int) : Rat)) (w1 := ((p1 - a1 : Int) : Rat)) (w2 := ((p2 - a2 : Int) : Rat)) (u0 := ((b0 - a0 : Int) : Rat)) (u1 := ((b1 - a1 : Int) : Rat)) (u2 := ((b2 - a2 : Int) : Rat)) hf (by unfold lng; simp only [Rat.intCast_add, Rat.intCast_mul]) (by unfold dt3; simp only [Rat.intCast_add, Rat.intCast_mul])
    refine ⟨_, o, rfl, qO, ?_⟩
    by_cases h3 : lng (b0 - a0) (b1 - a1) (b2 - a2) ≤ dt3 (b0 - a0) (b1 - a1) (b2 - a2) (p0 - a0) (p1 - a1) (p2 - a2)
    · rw [if_pos h3, if_pos h3]
      have h4 : lng (b0 - a0) (b1 - a1) (b2 - a2) = dt3 (b0 - a0) (b1 - a1) (b2 - a2) (p0 - a0) (p1 - a1) (p2 - a2) := Int.le_antisymm h3 h2
      have hf1 : f = 1 := by
        rw [← h4] at hf
        exact one_of hf (by grind)
      subst hf1
      refine near_end (u' := ((p0 - a0 : Int) : Rat) - 1 * ((b0 - a0 : Int) : Rat)) (v' := ((p1 - a1 : Int) : Rat) - 1 * ((b1 - a1 : Int) : Rat)) (w' := ((p2 - a2 : Int) : Rat) - 1 * ((b2 - a2 : Int) : Rat)) (by decide +kernel) ?_ r0 r1 r2 o1 o2 o3 o4
      unfold lng
      simp only [Rat.intCast_add, Rat.intCast_mul, Rat.intCast_sub]
      have : ((1 : Int) : Rat) = 1 := rfl
      rw [this]; grind
    · rw [if_neg h3, if_neg h3]
      refine near_end (by grind) ?_ r0 r1 r2 o1 o2 o3 o4
      rw [hw]
      have hl := congrArg (fun z : Int => (z : Rat)) (lagr (b0 - a0) (b1 - a1) (b2 - a2) (p0 - a0) (p1 - a1) (p2 - a2))
      simp only [Rat.intCast_add, Rat.intCast_mul] at hl
      have e1 : ((lng (p0 - a0) (p1 - a1) (p2 - a2) : Int) : Rat) = ((p0 - a0 : Int) : Rat) * ((p0 - a0 : Int) : Rat) + ((p1 - a1 : Int) : Rat) * ((p1 - a1 : Int) : Rat) + ((p2 - a2 : Int) : Rat) * ((p2 - a2 : Int) : Rat) := by unfold lng; simp only [Rat.intCast_add, Rat.intCast_mul]
      rw [← e1]
      grind
end Go.Proofs.Ytmkhoplffiakmaa
