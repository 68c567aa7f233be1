/-
  The length of a vector of the space by two calls of hypot; whole numbers as rationals. Ours; it knows no program.
-/
import Derived.Test.YtnhbmhdjkibjaaaHypot
namespace Go.Sx
open Ieee (signed)
set_option linter.unusedVariables false
set_option linter.unusedSimpArgs false
set_option maxRecDepth 100000

theorem whole_rat {m : Int} (h : m.natAbs ≤ 1048576) : ((m : Rat) = 0 ∨ 1 / 2 ≤ (m : Rat) ∨ (m : Rat) ≤ -(1 / 2)) ∧ -1048576 ≤ (m : Rat) ∧ (m : Rat) ≤ 1048576 := by
  have h1 : ((-1048576 : Int) : Rat) ≤ (m : Rat) := Rat.intCast_le_intCast.2 (by omega)
  have h2 : (m : Rat) ≤ ((1048576 : Int) : Rat) := Rat.intCast_le_intCast.2 (by omega)
  refine ⟨?_, by simpa using h1, by simpa using h2⟩
  rcases Int.lt_trichotomy m 0 with h | h | h
  · right; right
    have : (m : Rat) ≤ ((-1 : Int) : Rat) := Rat.intCast_le_intCast.2 (by omega)
    have e : ((-1 : Int) : Rat) = -1 := by simp
    rw [e] at this; grind
  · left; subst h; simp
  · right; left
    have : ((1 : Int) : Rat) ≤ (m : Rat) := Rat.intCast_le_intCast.2 (by omega)
    have e : ((1 : Int) : Rat) = 1 := by simp
    rw [e] at this; grind
theorem sq_pos (m : Int) : 0 ≤ m * m := by rw [← Int.natAbs_mul_self' m]; exact Int.mul_nonneg (by omega) (by omega)
theorem sq_ge {m : Int} (h : m ≠ 0) : 1 ≤ m * m := by
  rw [← Int.natAbs_mul_self' m]
  have h1 : 1 ≤ m.natAbs := by omega
  have := Nat.mul_le_mul h1 h1
  omega
/-- the error of both steps together -/
theorem two_steps {Y X S e1 e2 : Rat} (hX : 0 ≤ X) (hS : 0 ≤ S) (h1 : Sm e1 (13 * uu)) (h2 : Sm e2 (13 * uu)) : ∃ e, (X + S * (1 + e1)) * (1 + e2) = (X + S) * (1 + e) ∧ Sm e (32 * uu) := by
  by_cases h0 : X + S = 0
  · refine ⟨0, ?_, sm_zero (by grind)⟩
    have a : X = 0 := by grind
    have b : S = 0 := by grind
    rw [a, b]; grind
  · obtain ⟨d, hd⟩ : ∃ d, S / (X + S) = d := ⟨_, rfl⟩
    have hp : 0 < X + S := by grind
    have hdS : d * (X + S) = S := by grind
    have hds : Sm d 1 := by
      constructor
      · by_cases h : -1 ≤ d
        · exact h
        · have := Rat.mul_pos (show 0 < -1 - d by grind) hp
          grind
      · by_cases h : d ≤ 1
        · exact h
        · have := Rat.mul_pos (show 0 < d - 1 by grind) hp
          grind
    have h3 := sm_mul hds h1
    obtain ⟨e, k1, k2⟩ := sm_one (sm_mono h3 (show 1 * (13 * uu) ≤ 13 * uu by grind)) h2 (r := 32 * uu) (by grind)
    refine ⟨e, ?_, k2⟩
    rw [← k1]
    have : (X + S) * (1 + d * e1) = X + S * (1 + e1) := by
      have : (X + S) * (1 + d * e1) = X + S + (d * (X + S)) * e1 := by grind
      rw [this, hdS]; grind
    have h5 : (X + S) * ((1 + d * e1) * (1 + e2)) = ((X + S) * (1 + d * e1)) * (1 + e2) := by grind
    rw [h5, this]
theorem hyp3 {a0 a1 a2 : Nat} {m n o : Int} (g0 : a0 < 2 ^ 64) (g1 : a1 < 2 ^ 64) (g2 : a2 < 2 ^ 64) (dm : D a0 m 1074) (dn : D a1 n 1074) (d3 : D a2 o 1074) (hm : m.natAbs ≤ 1048576) (hn : n.natAbs ≤ 1048576) (ho : o.natAbs ≤ 1048576) :
    ∃ y z r e, fhypot a1 a2 = some y ∧ fhypot a0 y = some z ∧ Q z r ∧ 0 ≤ r ∧ r * r = (((0 + m * m + n * n + o * o : Int)) : Rat) * (1 + e) ∧ Sm e (32 * uu) ∧ z < 2 ^ 64 := by
  obtain ⟨c1, c2, c3⟩ := whole_rat hm
  obtain ⟨c4, c5, c6⟩ := whole_rat hn
  obtain ⟨c7, c8, c9⟩ := whole_rat ho
  obtain ⟨y, h, e1, y1, y2, y3, y4, y5, y6⟩ := hyp_rel g1 g2 (Q_whole dn) (Q_whole d3) c4 c7 (by constructor <;> grind) (by constructor <;> grind)
  have bn := Rat.mul_nonneg (show 0 ≤ 1048576 - (n : Rat) by grind) (show 0 ≤ 1048576 + (n : Rat) by grind)
  have bo := Rat.mul_nonneg (show 0 ≤ 1048576 - (o : Rat) by grind) (show 0 ≤ 1048576 + (o : Rat) by grind)
  have pn : (0 : Rat) ≤ (n : Rat) * n := by
    have : ((0 : Int) : Rat) ≤ ((n * n : Int) : Rat) := Rat.intCast_le_intCast.2 (sq_pos n)
    rw [Rat.intCast_mul] at this; simpa using this
  have po : (0 : Rat) ≤ (o : Rat) * o := by
    have : ((0 : Int) : Rat) ≤ ((o * o : Int) : Rat) := Rat.intCast_le_intCast.2 (sq_pos o)
    rw [Rat.intCast_mul] at this; simpa using this
  have pm : (0 : Rat) ≤ (m : Rat) * m := by
    have : ((0 : Int) : Rat) ≤ ((m * m : Int) : Rat) := Rat.intCast_le_intCast.2 (sq_pos m)
    rw [Rat.intCast_mul] at this; simpa using this
  have hlo : h = 0 ∨ 1 / 2 ≤ h := by
    by_cases hz : n = 0 ∧ o = 0
    · left
      obtain ⟨e, f⟩ := hz
      subst e; subst f
      have e0 : ((0 : Int) : Rat) = 0 := by simp
      rw [e0] at y4
      have : h * h = 0 := by rw [y4]; grind
      rcases Rat.mul_eq_zero.1 this with h1 | h1 <;> exact h1
    · right
      have hge : (1 : Rat) ≤ (n : Rat) * n + (o : Rat) * o := by
        have : 1 ≤ n * n + o * o := by
          by_cases hn0 : n = 0
          · have := sq_ge (m := o) (fun h => hz ⟨hn0, h⟩)
            have := sq_pos n
            omega
          · have := sq_ge hn0
            have := sq_pos o
            omega
        have : ((1 : Int) : Rat) ≤ ((n * n + o * o : Int) : Rat) := Rat.intCast_le_intCast.2 this
        rw [Rat.intCast_add, Rat.intCast_mul, Rat.intCast_mul] at this; simpa using this
      obtain ⟨y7, y8⟩ := y5
      have := Rat.mul_nonneg (show 0 ≤ (n : Rat) * n + (o : Rat) * o by grind) (show 0 ≤ e1 + 13 * uu by grind)
      have hne : h ≠ 0 := by
        intro h0
        rw [h0] at y4
        have := Rat.mul_pos (show 0 < (n : Rat) * n + (o : Rat) * o by grind) (show 0 < 1 + e1 by grind)
        grind
      have k := Rat.mul_nonneg (show 0 ≤ (n : Rat) * n + (o : Rat) * o by grind) (show 0 ≤ 1 / 2 + e1 by grind)
      exact sq_lo (show 0 < h by grind) (by grind) (by grind)
  have hhi : h ≤ 8388608 := by
    by_cases hz : h = 0
    · rw [hz]; grind
    · obtain ⟨y7, y8⟩ := y5
      have := Rat.mul_nonneg (show 0 ≤ (n : Rat) * n + (o : Rat) * o by grind) (show 0 ≤ 1 - e1 by grind)
      exact sq_hi (show 0 < h by grind) (by grind) (by grind)
  obtain ⟨z, r, e2, z1, z2, z3, z4, z5, z6⟩ := hyp_rel g0 y6 (Q_whole dm) y2 c1 (hlo.imp id .inl) (by constructor <;> grind) (by constructor <;> grind)
  obtain ⟨e, k1, k2⟩ := two_steps (Y := 0) pm (show (0 : Rat) ≤ (n : Rat) * n + (o : Rat) * o by grind) y5 z5
  refine ⟨y, z, r, e, y1, z1, z2, z3, ?_, k2, z6⟩
  rw [z4, y4, k1]
  have : ((0 + m * m + n * n + o * o : Int) : Rat) = (m : Rat) * m + ((n : Rat) * n + (o : Rat) * o) := by
    rw [Rat.intCast_add, Rat.intCast_add, Rat.intCast_add, Rat.intCast_mul, Rat.intCast_mul, Rat.intCast_mul]
    have e0 : ((0 : Int) : Rat) = 0 := by simp
    rw [e0]; grind
  rw [this]
end Go.Sx
