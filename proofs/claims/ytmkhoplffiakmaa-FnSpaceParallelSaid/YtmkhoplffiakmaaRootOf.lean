/-
  The root of a quotient of whole numbers, as the law draws it: its square is nearer than its part of 2^-48. Ours.
-/
import Derived.Test.YtmkhoplffiakmaaFloatNear
import Derived.Test.YtmkhoplffiakmaaQCmp
namespace Go.Proofs.Ytmkhoplffiakmaa
open Go.Sx
open Ieee (signed)
set_option linter.unusedVariables false
set_option linter.unusedSimpArgs false
set_option maxRecDepth 100000

theorem dr_float {k K L : Nat} {T : Int} {s : Bool} {l : List Int} {e : Int} {n : Nat} (h : Dr (-(K : Int)) T L s l e ((n : Int) * 2 ^ K)) (hL : L < 10000) (hk : 400000 < k) (hT : T < 100000) (hK : K < 100000) (hn : n < 2 ^ 60) :
    ∃ y r, spec_Dyadic_Float k s l e = some y ∧ Q y r ∧ (n : Rat) * (1 - 1 / 4503599627370496) ≤ r ∧ r ≤ n * (1 + 1 / 4503599627370496) := by
  obtain ⟨z, w, hz⟩ := h.ex
  have hlo := h.lo
  have hhi := h.hi
  have hlen := h.len
  exact float_q w (by omega) hk hlo (by omega) hK (by rw [show e + (K : Int) = e - -(K : Int) by omega]; exact hz.symm) hn
theorem quot_bound {ν δ d n f : Rat} (hn : 0 ≤ n) (hd : 1 ≤ d) (h1 : ν ≤ n * (1 + 1 / 4503599627370496)) (h2 : d * (1 - 1 / 4503599627370496) ≤ δ) (h3 : f * δ = ν) (hf : 0 ≤ f) : f * d ≤ n * (1 + 3 / 4503599627370496) := by
  have h4 := Rat.mul_nonneg hf (show 0 ≤ δ - d * (1 - 1 / 4503599627370496) by grind)
  have h5 : f * (δ - d * (1 - 1 / 4503599627370496)) = ν - f * d * (1 - 1 / 4503599627370496) := by rw [← h3]; grind
  rw [h5] at h4
  generalize f * d = X at *
  grind
theorem root_bound {X e1 e2 n ρ2 d a f : Rat} (hn : 0 ≤ n) (hX : 0 ≤ X) (h1 : X ≤ n * (1 + 3 / 4503599627370496)) (he1 : Sm e1 (3 * uu)) (he2 : Sm e2 (5 * uu)) (hf : f * d = X) (ha : a = f * (1 + e1)) (hρ : ρ2 = a * (1 + e2)) : ρ2 * d ≤ n * (1 + 1 / 281474976710656) := by
  obtain ⟨g, hg, hs1, hs2⟩ := sm_one (r := 9 * uu) he1 he2 (by decide +kernel)
  have e : ρ2 * d = X * (1 + g) := by rw [← hg, hρ, ha, ← hf]; grind
  rw [e]
  have h3 := Rat.mul_nonneg hX (show 0 ≤ 9 * uu - g by grind)
  have h4 : X * (1 + g) ≤ X * (1 + 9 * uu) := by grind
  have h5 : X * (1 + 9 * uu) ≤ n * (1 + 3 / 4503599627370496) * (1 + 9 * uu) := by grind
  have h6 : n * (1 + 3 / 4503599627370496) * (1 + 9 * uu) ≤ n * (1 + 1 / 281474976710656) := by grind
  grind
end Go.Proofs.Ytmkhoplffiakmaa
