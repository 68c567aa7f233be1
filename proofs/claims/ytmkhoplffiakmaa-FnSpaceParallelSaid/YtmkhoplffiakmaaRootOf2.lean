/-
  The law's root of a fraction, from both sides. Ours.
-/
import Derived.Test.YtmkhoplffiakmaaRootOf
namespace Go.Proofs.Ytmkhoplffiakmaa
open Go.Sx
open Ieee (signed)
set_option linter.unusedVariables false
set_option linter.unusedSimpArgs false
set_option maxRecDepth 100000

theorem quot_low {ν δ d n f : Rat} (hn : 0 ≤ n) (hd : 1 ≤ d) (h1 : n * (1 - 1 / 4503599627370496) ≤ ν) (h2 : δ ≤ d * (1 + 1 / 4503599627370496)) (h3 : f * δ = ν) (hf : 0 ≤ f) : n * (1 - 3 / 4503599627370496) ≤ f * d := by
  have h4 := Rat.mul_nonneg hf (show 0 ≤ d * (1 + 1 / 4503599627370496) - δ by grind)
  have h5 : f * (d * (1 + 1 / 4503599627370496) - δ) = f * d * (1 + 1 / 4503599627370496) - ν := by rw [← h3]; grind
  rw [h5] at h4
  generalize f * d = X at *
  grind
theorem root_low {X e1 e2 n ρ2 d a f : Rat} (hn : 0 ≤ n) (hX : 0 ≤ X) (h1 : n * (1 - 3 / 4503599627370496) ≤ X) (he1 : Sm e1 (3 * uu)) (he2 : Sm e2 (5 * uu)) (hf : f * d = X) (ha : a = f * (1 + e1)) (hρ : ρ2 = a * (1 + e2)) : n * (1 - 1 / 281474976710656) ≤ ρ2 * d := by
  obtain ⟨g, hg, hs1, hs2⟩ := sm_one (r := 9 * uu) he1 he2 (by decide +kernel)
  have e : ρ2 * d = X * (1 + g) := by rw [← hg, hρ, ha, ← hf]; grind
  rw [e]
  have hu : 9 * uu ≤ 9 / 4503599627370496 := by decide +kernel
  have h3 := Rat.mul_nonneg hX (show 0 ≤ g + 9 * uu by grind)
  have h4 : X * (1 - 9 * uu) ≤ X * (1 + g) := by grind
  have h5 := Rat.mul_nonneg (show 0 ≤ X - n * (1 - 3 / 4503599627370496) by grind) (show 0 ≤ 1 - 9 * uu by grind)
  have h6 := Rat.mul_nonneg hn (show 0 ≤ 9 / 4503599627370496 - 9 * uu by grind)
  grind
theorem rootOf2 {k K K' L L' : Nat} {T T' : Int} {s s' : Bool} {l l' : List Int} {e e' : Int} {n d : Nat}
    (h : Dr (-(K : Int)) T L s l e ((n : Int) * 2 ^ K)) (hL : L < 10000) (hT : T < 100000) (hK : K < 100000) (hn : n < 2 ^ 60)
    (h' : Dr (-(K' : Int)) T' L' s' l' e' ((d : Int) * 2 ^ K')) (hL' : L' < 10000) (hT' : T' < 100000) (hK' : K' < 100000) (hd : d < 2 ^ 60) (hd0 : 0 < d) (hk : 400000 < k) :
    ∃ y ρ, laws_rootOf k s l e s' l' e' = some y ∧ Q y ρ ∧ 0 ≤ ρ ∧ ρ * ρ * d ≤ n * (1 + 1 / 281474976710656) ∧ n * (1 - 1 / 281474976710656) ≤ ρ * ρ * d := by
  obtain ⟨y1, ν, q1, Q1, a1, a2⟩ := dr_float h hL hk hT hK hn
  obtain ⟨y2, δ, q2, Q2, b1, b2⟩ := dr_float h' hL' hk hT' hK' hd
  have hdr : (1 : Rat) ≤ (d : Rat) := by
    have := Rat.natCast_le_natCast.2 (show 1 ≤ d from hd0); exact this
  have hdr2 : (d : Rat) ≤ 1152921504606846976 := by
    have := Rat.natCast_le_natCast.2 (show d ≤ 1152921504606846976 by omega); exact this
  have hnr : (0 : Rat) ≤ (n : Rat) := by
    have := Rat.natCast_le_natCast.2 (Nat.zero_le n); exact this
  have hnr2 : (n : Rat) ≤ 1152921504606846976 := by
    have := Rat.natCast_le_natCast.2 (show n ≤ 1152921504606846976 by omega); exact this
  have hδ : (1 / 2 : Rat) ≤ δ := by grind
  have hν0 : 0 ≤ ν := by grind
  have hν1 : ν ≤ 1152921504606846976 * 2 := by grind
  have hδ1 : δ ≤ 1152921504606846976 * 2 := by grind
  have hδ0 : (0 : Rat) < δ := by grind
  obtain ⟨f, hf⟩ : ∃ f, f = ν / δ := ⟨_, rfl⟩
  have hfδ : f * δ = ν := by rw [hf]; grind
  have hf0 : 0 ≤ f := by rw [hf]; exact div_ge hδ0 (by grind)
  have hf1 : f ≤ 1152921504606846976 * 4 := by rw [hf]; exact div_le' hδ0 (by grind)
  have hfd := quot_bound hnr hdr a2 b1 hfδ hf0
  have hfd' := quot_low hnr hdr a1 b2 hfδ hf0
  have hX : 0 ≤ f * d := Rat.mul_nonneg hf0 (by grind)
  have hdiv := fdiv_q Q1 Q2 hδ0
  unfold laws_rootOf math_Sqrt
  rw [q1, sbind, q2, sbind, num_q Q1, sbind, num_q Q2, sbind, hdiv, sbind, sbind, sbind]
  have hBB : (1152921504606846976 * 1152921504606846976 : Rat) ≤ BB := by decide +kernel
  rcases Nat.eq_zero_or_pos n with hn0 | hn0
  · have hz : f = 0 := by
      subst hn0
      have : ν = 0 := by
        have e0 : ((0 : Nat) : Rat) = 0 := rfl
        rw [e0] at a2; grind
      rw [hf, this]; grind
    obtain ⟨e1, Q3, E1⟩ := gdiv_rel Q1 Q2 (by grind) ⟨.inl (by rw [← hf]; exact hz), by rw [← hf, hz]; decide +kernel⟩
    rw [← hf, hz, Rat.zero_mul] at Q3
    have e0 : (n : Rat) = 0 := by rw [hn0]; rfl
    refine ⟨_, 0, rfl, gsqrt_q0 Q3, by grind, ?_, ?_⟩ <;> rw [e0] <;> grind
  · have hn1 : (1 : Rat) ≤ (n : Rat) := by
      have := Rat.natCast_le_natCast.2 (show 1 ≤ n from hn0); exact this
    have hν2 : (1 / 2 : Rat) ≤ ν := by grind
    have hf2 : (1 / 4611686018427387904 : Rat) ≤ f := by rw [hf]; exact div_ge hδ0 (by grind)
    obtain ⟨e1, Q3, E1⟩ := gdiv_rel Q1 Q2 (by grind) ⟨.inr (.inl (by
      rw [← hf]
      have h1 := Rat.mul_nonneg (show 0 ≤ f - 1 / 4611686018427387904 by grind) (show 0 ≤ BB by grind)
      generalize BB = b at *
      grind)), by rw [← hf]; grind⟩
    rw [← hf] at Q3
    have he : (-(1 / 2) : Rat) ≤ e1 ∧ e1 ≤ 1 / 2 := by
      obtain ⟨p1, p2⟩ := E1
      have : 3 * uu ≤ 1 / 2 := by decide +kernel
      grind
    have hf3 : 1 / 9223372036854775808 ≤ f * (1 + e1) ∧ f * (1 + e1) ≤ 1152921504606846976 * 8 := by
      have h1 := Rat.mul_nonneg hf0 (show 0 ≤ e1 + 1 / 2 by grind)
      have h2 := Rat.mul_nonneg hf0 (show 0 ≤ 1 / 2 - e1 by grind)
      grind
    obtain ⟨ρ, e2, Q4, r1, r2, E2⟩ := gsqrt_rel Q3 (by
      have h1 := Rat.mul_nonneg (show 0 ≤ f * (1 + e1) - 1 / 9223372036854775808 by grind) (show 0 ≤ BB by grind)
      generalize BB = b at *
      generalize f * (1 + e1) = g at *
      grind) (by grind)
    refine ⟨_, ρ, rfl, Q4, Rat.le_of_lt r1, ?_, ?_⟩
    · exact root_bound hnr hX hfd E1 E2 rfl rfl r2
    · exact root_low hnr hX hfd' E1 E2 rfl rfl r2
end Go.Proofs.Ytmkhoplffiakmaa
