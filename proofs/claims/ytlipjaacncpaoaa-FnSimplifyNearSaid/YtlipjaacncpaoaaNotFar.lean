/-
  A point that the program does not find far from a segment is not far from it. Ours.
-/
import Derived.Test.YtlipjaacncpaoaaDistSeg2
namespace Go.Proofs.Ytlipjaacncpaoaa
open Go.Sx
open Ieee (signed)
set_option linter.unusedVariables false
set_option linter.unusedSimpArgs false
set_option maxRecDepth 100000

theorem sq_cap {M t b : Nat} (h : M ≤ 2 ^ (14 + t)) : M * M ≤ 2 ^ (28 + (t + t)) := by
  have := Nat.mul_le_mul h h
  rw [← Nat.pow_add] at this
  have e : 14 + t + (14 + t) = 28 + (t + t) := by omega
  rw [e] at this; exact this
theorem un_cancel (z : Rat) : z = z / Un * Un := by have := Un_pos; grind
theorem gsq_nn {x : Nat} {τ M : Rat} (q : Q x τ) (h0 : 0 ≤ τ) (h1 : τ ≤ 16384) (qM : Q (gmul x x) M) : 0 ≤ M := by
  obtain ⟨s, m, c, r1, r2⟩ := Q_read q
  obtain ⟨t, ht⟩ : ∃ t, t = 1074 := ⟨_, rfl⟩
  have hw : gmul x x = Ieee.double.write (.number false (m * m) (((c + c : Nat) : Int) - 1074 - (t : Int))) := by
    unfold gmul fmul Ieee.Format.mul
    rw [r1]
    simp only [Ieee.Datum.product, Option.map_some, Option.getD_some]
    have e0 : (c : Int) - 1074 + ((c : Int) - 1074) = ((c + c : Nat) : Int) - 1074 - (t : Int) := by omega
    rw [e0, Bool.xor_self]; rfl
  have hM : m * 2 ^ c ≤ 2 ^ (14 + t) := by
    apply Rat.natCast_le_natCast.1
    rw [Rat.natCast_mul, castpow, castpow, ratpow_add, Un_is t ht]
    have h14 : (2 : Rat) ^ 14 = 16384 := by rw [← castpow]; rfl
    rw [h14]
    have hm0 : (0 : Rat) ≤ (m : Rat) * 2 ^ c := Rat.mul_nonneg (by have := Rat.natCast_le_natCast.2 (Nat.zero_le m); exact this) (Rat.le_of_lt (un_pos c))
    have hU := Un_pos
    have h2 := Rat.mul_nonneg (show 0 ≤ 16384 - τ by grind) (Rat.le_of_lt hU)
    have h3 := Rat.mul_nonneg h0 (Rat.le_of_lt hU)
    generalize (m : Rat) * 2 ^ c = X at *
    cases s <;> simp only [Bool.false_eq_true, if_false, if_true] at r2 <;> grind
  have hbig : m * m * 2 ^ (c + c) < 2 ^ (2096 + t) := by
    have e1 : m * m * 2 ^ (c + c) = m * 2 ^ c * (m * 2 ^ c) := by rw [Nat.pow_add]; grind
    rw [e1]
    refine Nat.lt_of_le_of_lt (sq_cap (b := 0) hM) ?_
    exact pow_lt2 _ _ (by omega)
  obtain ⟨N, n1, n2, n3⟩ := near_D false (m * m) (c + c) t hbig
  rw [← hw] at n1
  have hq : Q (gmul x x) (((N : Int) : Rat) / Un) := ⟨N, n1, un_cancel _⟩
  rw [Q_uniq qM hq]
  refine div_ge Un_pos ?_
  rw [Rat.zero_mul]
  exact Rat.intCast_le_intCast.2 (Int.natCast_nonneg N)
theorem le_of_sq {a b : Rat} (hb : 0 ≤ b) (h : a * a ≤ b * b) : a ≤ b := by
  by_cases h1 : a ≤ b
  · exact h1
  · have := Rat.mul_pos (show 0 < a - b by grind) (show 0 < a + b by grind); grind
/-- 2^-24, 2^-23, 2^-22 -/
abbrev e25 : Rat := 1 / 16777216
abbrev e24 : Rat := 1 / 8388608
abbrev e23 : Rat := 1 / 4194304
theorem rsq_nn (a : Rat) : 0 ≤ a * a := by
  rcases (show 0 ≤ a ∨ 0 ≤ -a by grind) with h | h
  · exact Rat.mul_nonneg h h
  · have := Rat.mul_nonneg h h; grind
theorem near_sq {S φ M τ : Rat} (h0 : 0 ≤ τ) (h1 : τ ≤ 16384) (hS : S ≤ φ * (1 + 8 * uu) + 8 * uu) (hφ : φ ≤ M) (hM : M ≤ τ * τ * (1 + uu) + uu) : S ≤ (τ + e25) * (τ + e25) := by
  have h2 := Rat.mul_nonneg h0 h0
  have h3 := Rat.mul_nonneg h0 (show 0 ≤ 16384 - τ by grind)
  have e1 : (τ + e25) * (τ + e25) = τ * τ + 2 * e25 * τ + e25 * e25 := by grind
  rw [e1]
  generalize τ * τ = X at *
  grind
theorem near_vec {u v u' v' s : Rat} (hs : 0 ≤ s) (h : u * u + v * v ≤ s * s) (hu : u' - e34 ≤ u ∧ u ≤ u' + e34) (hv : v' - e34 ≤ v ∧ v ≤ v' + e34) : u' * u' + v' * v' ≤ (s + 2 * e34) * (s + 2 * e34) := by
  have u0 := rsq_nn u
  have v0 := rsq_nn v
  have u1 := le_of_sq hs (show u * u ≤ s * s by grind)
  have v1 := le_of_sq hs (show v * v ≤ s * s by grind)
  have u2 := le_of_sq (a := -u) hs (by grind)
  have v2 := le_of_sq (a := -v) hs (by grind)
  have a1 := bd_prod (a := u) (A := s) ⟨by grind, u1⟩ (b := u' - u) (B := e34) ⟨by grind, by grind⟩
  have a2 := bd_prod (a := v) (A := s) ⟨by grind, v1⟩ (b := v' - v) (B := e34) ⟨by grind, by grind⟩
  have a3 := bd_prod (a := u' - u) (A := e34) ⟨by grind, by grind⟩ (b := u' - u) (B := e34) ⟨by grind, by grind⟩
  have a4 := bd_prod (a := v' - v) (A := e34) ⟨by grind, by grind⟩ (b := v' - v) (B := e34) ⟨by grind, by grind⟩
  have e1 : u' * u' = u * u + 2 * (u * (u' - u)) + (u' - u) * (u' - u) := by grind
  have e2 : v' * v' = v * v + 2 * (v * (v' - v)) + (v' - v) * (v' - v) := by grind
  have e3 : (s + 2 * e34) * (s + 2 * e34) = s * s + 4 * (s * e34) + 4 * (e34 * e34) := by grind
  rw [e1, e2, e3]
  have e4 : 0 ≤ e34 * e34 := by decide +kernel
  generalize u * (u' - u) = x1 at *
  generalize v * (v' - v) = x2 at *
  generalize (u' - u) * (u' - u) = x3 at *
  generalize (v' - v) * (v' - v) = x4 at *
  generalize u * u = x5 at *
  generalize v * v = x6 at *
  generalize s * s = x7 at *
  generalize s * e34 = x8 at *
  generalize e34 * e34 = x9 at *
  grind
theorem root_near {ρ D τ : Rat} (h0 : 0 ≤ τ) (h1 : τ ≤ 16384) (hD : D ≤ (τ + e24) * (τ + e24)) (hρ : ρ * ρ ≤ D * (1 + 1 / 281474976710656)) : ρ ≤ τ + e23 := by
  apply le_of_sq (by grind)
  have h2 := Rat.mul_nonneg h0 h0
  have h3 := Rat.mul_nonneg h0 (show 0 ≤ 16384 - τ by grind)
  have e1 : (τ + e24) * (τ + e24) = τ * τ + 2 * e24 * τ + e24 * e24 := by grind
  have e2 : (τ + e23) * (τ + e23) = τ * τ + 2 * e23 * τ + e23 * e23 := by grind
  rw [e1] at hD
  rw [e2]
  generalize τ * τ = X at *
  grind
theorem q_m20 : Q 4517110426252607488 (1 / 1048576) := by
  have := Go.Sx.D_fields (E := 1003) (F := 0) (by decide) (by decide) (by decide) (n := ((2 ^ 52 + 0 : Nat) : Int)) (v := 1002) rfl
  have h := Q_of this
  obtain ⟨t, ht⟩ : ∃ t, t = 1074 := ⟨_, rfl⟩
  obtain ⟨v, hv⟩ : ∃ v, v = 1002 := ⟨_, rfl⟩
  rw [← hv, ← Un_is t ht, show t = v + 72 by omega, ratpow_add, Rat.intCast_natCast] at h
  have e : ((2 ^ 52 + 0 : Nat) : Rat) * 2 ^ v / (2 ^ v * 2 ^ 72) = 1 / 1048576 := by
    have h1 := un_pos v
    have h2 : (2 : Rat) ^ 72 = 4722366482869645213696 := by rw [← castpow]; rfl
    have h3 : ((2 ^ 52 + 0 : Nat) : Rat) = 4503599627370496 := rfl
    rw [h2, h3]
    generalize (2 : Rat) ^ v = V at *
    grind
  rw [e] at h
  exact h
/-- the bound that the law allows -/
theorem bound_is {x y : Nat} {τ ρ : Rat} (qx : Q x τ) (qy : Q y ρ) (h0 : 0 ≤ τ) (h1 : τ ≤ 16384) (h : ρ ≤ τ + e23) : fgt y (gadd x 4517110426252607488) = false := by
  have hBB : (1099511627776 : Rat) ≤ BB := by decide +kernel
  obtain ⟨e, q, he⟩ := gadd_full qx q_m20 ⟨by grind, by grind⟩
  rw [fgt_q qy q]
  apply decide_eq_false
  have h2 := bd_prod (a := τ + 1 / 1048576) (A := 32768) ⟨by grind, by grind⟩ he
  have h3 : 32768 * uu + e23 < 1 / 1048576 := by decide +kernel
  have e1 : (τ + 1 / 1048576) * (1 + e) = τ + 1 / 1048576 + (τ + 1 / 1048576) * e := by grind
  rw [e1]
  generalize (τ + 1 / 1048576) * e = z at *
  generalize uu = w at *
  grind
end Go.Proofs.Ytlipjaacncpaoaa
