/-
  The root of a quotient of whole numbers, as the law draws it: its square is nearer than its part of 2^-48. Ours.
-/
import Derived.Test.YtlipjaacncpaoaaFloatNear
import Derived.Test.YtlipjaacncpaoaaQCmp
namespace Go.Proofs.Ytlipjaacncpaoaa
open Go.Sx
open Ieee (signed)
set_option linter.unusedVariables false
set_option linter.unusedSimpArgs false
set_option maxRecDepth 100000

theorem dr_float {k K L : Nat} {T : Int} {s : Bool} {l : List Int} {e : Int} {n : Nat} (h : Dr (-(K : Int)) T L s l e ((n : Int) * 2 ^ K)) (hL : L < 10000) (hk : 400000 < k) (hT : T < 100000) (hK : K < 100000) (hn : n < 2 ^ 60) :
    ∃ y r, spec_Dyadic_Float k s l e = some y ∧ Q y r ∧ (n : Rat) * (1 - 1 / 4503599627370496) ≤ r ∧ r ≤ n * (1 + 1 / 4503599627370496) := by
  obtain ⟨z, w, hz⟩ := h.ex
  have hlo := h.lo
  have hhi := h.hi
  have hlen := h.len
  exact float_q w (by omega) hk hlo (by omega) hK (by rw [show e + (K : Int) = e - -(K : Int) by omega]; exact hz.symm) hn
theorem quot_bound {ν δ d n f : Rat} (hn : 0 ≤ n) (hd : 1 ≤ d) (h1 : ν ≤ n * (1 + 1 / 4503599627370496)) (h2 : d * (1 - 1 / 4503599627370496) ≤ δ) (h3 : f * δ = ν) (hf : 0 ≤ f) : f * d ≤ n * (1 + 3 / 4503599627370496) := by
  have h4 := Rat.mul_nonneg hf (show 0 ≤ δ - d * (1 - 1 / 4503599627370496) by grind)
  have h5 : f * (δ - d * (1 - 1 / 4503599627370496)) = ν - f * d * (1 - 1 / 4503599627370496) := by rw [← h3]; grind
  rw [h5] at h4
  generalize f * d = X at *
  grind
theorem root_bound {X e1 e2 n ρ2 d a f : Rat} (hn : 0 ≤ n) (hX : 0 ≤ X) (h1 : X ≤ n * (1 + 3 / 4503599627370496)) (he1 : Sm e1 (3 * uu)) (he2 : Sm e2 (5 * uu)) (hf : f * d = X) (ha : a = f * (1 + e1)) (hρ : ρ2 = a * (1 + e2)) : ρ2 * d ≤ n * (1 + 1 / 281474976710656) := by
  obtain ⟨g, hg, hs1, hs2⟩ := sm_one (r := 9 * uu) he1 he2 (by decide +kernel)
  have e : ρ2 * d = X * (1 + g) := by rw [← hg, hρ, ha, ← hf]; grind
  rw [e]
  have h3 := Rat.mul_nonneg hX (show 0 ≤ 9 * uu - g by grind)
  have h4 : X * (1 + g) ≤ X * (1 + 9 * uu) := by grind
  have h5 : X * (1 + 9 * uu) ≤ n * (1 + 3 / 4503599627370496) * (1 + 9 * uu) := by grind
  have h6 : n * (1 + 3 / 4503599627370496) * (1 + 9 * uu) ≤ n * (1 + 1 / 281474976710656) := by grind
  grind
theorem rootOf_is {k K K' L L' : Nat} {T T' : Int} {s s' : Bool} {l l' : List Int} {e e' : Int} {n d : Nat}
    (h : Dr (-(K : Int)) T L s l e ((n : Int) * 2 ^ K)) (hL : L < 10000) (hT : T < 100000) (hK : K < 100000) (hn : n < 2 ^ 60)
    (h' : Dr (-(K' : Int)) T' L' s' l' e' ((d : Int) * 2 ^ K')) (hL' : L' < 10000) (hT' : T' < 100000) (hK' : K' < 100000) (hd : d < 2 ^ 60) (hd0 : 0 < d) (hk : 400000 < k) :
    ∃ y ρ, laws_rootOf k s l e s' l' e' = some y ∧ Q y ρ ∧ 0 ≤ ρ ∧ ρ * ρ * d ≤ n * (1 + 1 / 281474976710656) := by
  obtain ⟨y1, ν, q1, Q1, a1, a2⟩ := dr_float h hL hk hT hK hn
  obtain ⟨y2, δ, q2, Q2, b1, b2⟩ := dr_float h' hL' hk hT' hK' hd
  have hdr : (1 : Rat) ≤ (d : Rat) := by
    have := Rat.natCast_le_natCast.2 (show 1 ≤ d from hd0); exact this
  have hdr2 : (d : Rat) ≤ 1152921504606846976 := by
    have := Rat.natCast_le_natCast.2 (show d ≤ 1152921504606846976 by omega); exact this
  have hnr : (0 : Rat) ≤ (n : Rat) := by
    have := Rat.natCast_le_natCast.2 (Nat.zero_le n); exact this
  have hnr2 : (n : Rat) ≤ 1152921504606846976 := by
    have := Rat.natCast_le_natCast.2 (show n ≤ 1152921504606846976 by omega); exact this
  have hδ : (1 / 2 : Rat) ≤ δ := by grind
  have hν0 : 0 ≤ ν := by grind
  have hν1 : ν ≤ 1152921504606846976 * 2 := by grind
  have hδ1 : δ ≤ 1152921504606846976 * 2 := by grind
  have hδ0 : (0 : Rat) < δ := by grind
  obtain ⟨f, hf⟩ : ∃ f, f = ν / δ := ⟨_, rfl⟩
  have hfδ : f * δ = ν := by rw [hf]; grind
  have hf0 : 0 ≤ f := by rw [hf]; exact div_ge hδ0 (by grind)
  have hf1 : f ≤ 1152921504606846976 * 4 := by rw [hf]; exact div_le' hδ0 (by grind)
  have hfd := quot_bound hnr hdr a2 b1 hfδ hf0
  have hX : 0 ≤ f * d := Rat.mul_nonneg hf0 (by grind)
  have hdiv := fdiv_q Q1 Q2 hδ0
  unfold laws_rootOf math_Sqrt
  rw [q1, sbind, q2, sbind, num_q Q1, sbind, num_q Q2, sbind, hdiv, sbind, sbind, sbind]
  have hBB : (1152921504606846976 * 1152921504606846976 : Rat) ≤ BB := by decide +kernel
  rcases Nat.eq_zero_or_pos n with hn0 | hn0
  · have hz : f = 0 := by
      subst hn0
      have : ν = 0 := by
        have e0 : ((0 : Nat) : Rat) = 0 := rfl
        rw [e0] at a2; grind
      rw [hf, this]; grind
    obtain ⟨e1, Q3, E1⟩ := gdiv_rel Q1 Q2 (by grind) ⟨.inl (by rw [← hf]; exact hz), by rw [← hf, hz]; decide +kernel⟩
    rw [← hf, hz, Rat.zero_mul] at Q3
    refine ⟨_, 0, rfl, gsqrt_q0 Q3, by grind, ?_⟩
    grind
  · have hn1 : (1 : Rat) ≤ (n : Rat) := by
      have := Rat.natCast_le_natCast.2 (show 1 ≤ n from hn0); exact this
    have hν2 : (1 / 2 : Rat) ≤ ν := by grind
    have hf2 : (1 / 4611686018427387904 : Rat) ≤ f := by rw [hf]; exact div_ge hδ0 (by grind)
    obtain ⟨e1, Q3, E1⟩ := gdiv_rel Q1 Q2 (by grind) ⟨.inr (.inl (by
      rw [← hf]
      have h1 := Rat.mul_nonneg (show 0 ≤ f - 1 / 4611686018427387904 by grind) (show 0 ≤ BB by grind)
      generalize BB = b at *
      grind)), by rw [← hf]; grind⟩
    rw [← hf] at Q3
    have he : (-(1 / 2) : Rat) ≤ e1 ∧ e1 ≤ 1 / 2 := by
      obtain ⟨p1, p2⟩ := E1
      have : 3 * uu ≤ 1 / 2 := by decide +kernel
      grind
    have hf3 : 1 / 9223372036854775808 ≤ f * (1 + e1) ∧ f * (1 + e1) ≤ 1152921504606846976 * 8 := by
      have h1 := Rat.mul_nonneg hf0 (show 0 ≤ e1 + 1 / 2 by grind)
      have h2 := Rat.mul_nonneg hf0 (show 0 ≤ 1 / 2 - e1 by grind)
      grind
    obtain ⟨ρ, e2, Q4, r1, r2, E2⟩ := gsqrt_rel Q3 (by
      have h1 := Rat.mul_nonneg (show 0 ≤ f * (1 + e1) - 1 / 9223372036854775808 by grind) (show 0 ≤ BB by grind)
      generalize BB = b at *
      generalize f * (1 + e1) = g at *
      grind) (by grind)
    refine ⟨_, ρ, rfl, Q4, Rat.le_of_lt r1, ?_⟩
    exact root_bound hnr hX hfd E1 E2 rfl rfl r2
end Go.Proofs.Ytlipjaacncpaoaa
