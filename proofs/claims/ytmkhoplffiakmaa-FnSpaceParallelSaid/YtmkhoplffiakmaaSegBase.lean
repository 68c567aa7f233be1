/-
  What is known of parts of segments: sums and products that are near, quotients of whole numbers. Ours.
-/
import Derived.Test.YtmkhoplffiakmaaRootOf
namespace Go.Proofs.Ytmkhoplffiakmaa
open Go.Sx
open Ieee (signed)
set_option linter.unusedVariables false
set_option linter.unusedSimpArgs false
set_option maxRecDepth 100000

theorem bd_prod {a b A B : Rat} (ha : -A ≤ a ∧ a ≤ A) (hb : -B ≤ b ∧ b ≤ B) : -(A * B) ≤ a * b ∧ a * b ≤ A * B := by
  obtain ⟨h1, h2⟩ := ha
  obtain ⟨h3, h4⟩ := hb
  have a1 := Rat.mul_nonneg (show 0 ≤ A - a by grind) (show 0 ≤ B + b by grind)
  have a2 := Rat.mul_nonneg (show 0 ≤ A + a by grind) (show 0 ≤ B - b by grind)
  have a3 := Rat.mul_nonneg (show 0 ≤ A - a by grind) (show 0 ≤ B - b by grind)
  have a4 := Rat.mul_nonneg (show 0 ≤ A + a by grind) (show 0 ≤ B + b by grind)
  constructor <;> grind
abbrev e36 : Rat := 1 / 68719476736
abbrev e34 : Rat := 1 / 17179869184
theorem mul_near {x y : Nat} {a b : Rat} (hx : Q x a) (hy : Q y b) (h : -65536 ≤ a * b ∧ a * b ≤ 65536) : ∃ r, Q (gmul x y) r ∧ a * b - e36 ≤ r ∧ r ≤ a * b + e36 := by
  have hBB : (1099511627776 : Rat) ≤ BB := by decide +kernel
  obtain ⟨e, d, q, he, hd⟩ := gmul_abs hx hy ⟨by grind, by grind⟩
  refine ⟨_, q, ?_⟩
  have h1 := bd_prod h he
  have hu : (65536 : Rat) * uu + uu ≤ e36 := by decide +kernel
  obtain ⟨d1, d2⟩ := hd
  generalize a * b = m at *
  generalize uu = u at *
  generalize e36 = v at *
  grind
theorem add_near {x y : Nat} {a b : Rat} (hx : Q x a) (hy : Q y b) (h : -65536 ≤ a + b ∧ a + b ≤ 65536) : ∃ r, Q (gadd x y) r ∧ a + b - e36 ≤ r ∧ r ≤ a + b + e36 := by
  have hBB : (1099511627776 : Rat) ≤ BB := by decide +kernel
  obtain ⟨e, q, he⟩ := gadd_full hx hy ⟨by grind, by grind⟩
  refine ⟨_, q, ?_⟩
  have h1 := bd_prod h he
  have hu : (65536 : Rat) * uu + uu ≤ e36 := by decide +kernel
  have hu0 := uu_pos
  generalize uu = u at *
  generalize e36 = v at *
  grind
theorem sub_near {x y : Nat} {a b : Rat} (hx : Q x a) (hy : Q y b) (h : -65536 ≤ a - b ∧ a - b ≤ 65536) : ∃ r, Q (gsub x y) r ∧ a - b - e36 ≤ r ∧ r ≤ a - b + e36 := by
  have hBB : (1099511627776 : Rat) ≤ BB := by decide +kernel
  obtain ⟨e, q, he⟩ := gsub_full hx hy ⟨by grind, by grind⟩
  refine ⟨_, q, ?_⟩
  have h1 := bd_prod h he
  have hu : (65536 : Rat) * uu + uu ≤ e36 := by decide +kernel
  have hu0 := uu_pos
  generalize uu = u at *
  generalize e36 = v at *
  grind
theorem rat_bd {n : Int} {b : Nat} (h : n.natAbs ≤ b) : -(b : Rat) ≤ (n : Rat) ∧ (n : Rat) ≤ b := by
  have h1 := Rat.intCast_le_intCast.2 (show -(b : Int) ≤ n by omega)
  have h2 := Rat.intCast_le_intCast.2 (show n ≤ (b : Int) by omega)
  rw [Rat.intCast_neg, Rat.intCast_natCast] at h1
  rw [Rat.intCast_natCast] at h2
  exact ⟨h1, h2⟩
theorem prod_bd {a b : Int} {m n : Nat} (h : a.natAbs ≤ m) (h' : b.natAbs ≤ n) : (a * b).natAbs ≤ m * n := by rw [Int.natAbs_mul]; exact Nat.mul_le_mul h h'
theorem int_lt_rat {m n : Int} (h : m < n) : (m : Rat) + 1 ≤ (n : Rat) := by
  have := Rat.intCast_le_intCast.2 (show m + 1 ≤ n by omega)
  rw [Rat.intCast_add] at this; exact this
theorem int_le_rat {m n : Int} (h : m ≤ n) : (m : Rat) ≤ (n : Rat) := Rat.intCast_le_intCast.2 h
theorem near_point {ax dx r70 X f T e : Rat} (hdx : -16384 ≤ dx ∧ dx ≤ 16384) (hf : 0 ≤ f ∧ f ≤ 1) (hT : T = f * (1 + e)) (he : Sm e (3 * uu))
    (h1 : dx * T - e36 ≤ r70 ∧ r70 ≤ dx * T + e36) (h2 : ax + r70 - e36 ≤ X ∧ X ≤ ax + r70 + e36) : ax + f * dx - 3 * e36 ≤ X ∧ X ≤ ax + f * dx + 3 * e36 := by
  have h3 := bd_prod (a := f) (A := 1) ⟨by grind, hf.2⟩ he
  have h4 := bd_prod hdx h3
  have h5 : 16384 * (1 * (3 * uu)) ≤ e36 := by decide +kernel
  have h6 : dx * T = f * dx + dx * (f * e) := by rw [hT]; grind
  rw [h6] at h1
  generalize dx * (f * e) = g at *
  generalize f * dx = h at *
  grind
theorem quot_is {x y : Nat} {a b : Int} (hx : D x a 1074) (hy : D y b 1074) (hb : 0 < b) (ha : a.natAbs ≤ 1073741824) (hb2 : b ≤ 1073741824) :
    ∃ f e : Rat, fdiv x y = some (gdiv x y) ∧ Q (gdiv x y) (f * (1 + e)) ∧ f * (b : Rat) = (a : Rat) ∧ Sm e (3 * uu) := by
  have qx := Q_whole hx
  have qy := Q_whole hy
  have hb0 : (0 : Rat) + 1 ≤ (b : Rat) := int_lt_rat hb
  have hb3 : (b : Rat) ≤ 1073741824 := int_le_rat hb2
  obtain ⟨a1, a2⟩ := rat_bd ha
  have a3 : ((1073741824 : Nat) : Rat) = 1073741824 := rfl
  rw [a3] at a1 a2
  have hbp : (0 : Rat) < (b : Rat) := by grind
  obtain ⟨f, hf⟩ : ∃ f, f = (a : Rat) / b := ⟨_, rfl⟩
  have hfb : f * (b : Rat) = a := by rw [hf]; grind
  have hBB : (1152921504606846976 * 1152921504606846976 : Rat) ≤ BB := by decide +kernel
  have f1 : f ≤ 1073741824 := by rw [hf]; exact div_le' hbp (by grind)
  have f2 : -1073741824 ≤ f := by rw [hf]; exact div_ge hbp (by grind)
  obtain ⟨e, q, he⟩ := gdiv_rel qx qy (by grind) ⟨by
    rw [← hf]
    rcases Int.lt_trichotomy a 0 with h | h | h
    · right; right
      have h1 : (a : Rat) + 1 ≤ ((0 : Int) : Rat) := int_lt_rat h
      have h0 : ((0 : Int) : Rat) = 0 := rfl
      rw [h0] at h1
      have h2 : f ≤ -(1 / 1073741824) := by rw [hf]; exact div_le' hbp (by grind)
      have h3 := Rat.mul_nonneg (show 0 ≤ -f - 1 / 1073741824 by grind) (show 0 ≤ BB by grind)
      generalize BB = B at *
      grind
    · left; rw [hf, h]
      have h0 : ((0 : Int) : Rat) = 0 := rfl
      rw [h0]; grind
    · right; left
      have h1 : ((0 : Int) : Rat) + 1 ≤ (a : Rat) := int_lt_rat h
      have h0 : ((0 : Int) : Rat) = 0 := rfl
      rw [h0] at h1
      have h2 : (1 / 1073741824) ≤ f := by rw [hf]; exact div_ge hbp (by grind)
      have h3 := Rat.mul_nonneg (show 0 ≤ f - 1 / 1073741824 by grind) (show 0 ≤ BB by grind)
      generalize BB = B at *
      grind, by rw [← hf]; grind⟩
  rw [← hf] at q
  exact ⟨f, e, fdiv_q qx qy hbp, q, hfb, he⟩
theorem over_one {f e L A : Rat} (hf : f * L = A) (hL : 1 ≤ L) (hL2 : L ≤ 1073741824) (he : Sm e (3 * uu)) (h : 1 < f * (1 + e)) (hA : A + 1 ≤ L) : False := by
  obtain ⟨e1, e2⟩ := he
  have hu : 1073741824 * (3 * uu) < 1 := by decide +kernel
  have h1 : L < A * (1 + e) := by
    have := Rat.mul_pos (show 0 < f * (1 + e) - 1 by grind) (show 0 < L by grind)
    rw [← hf]; grind
  have he1 : 0 ≤ 1 + e := by have : 3 * uu ≤ 1 := by decide +kernel
                             grind
  have h2 := Rat.mul_nonneg (show 0 ≤ L - 1 - A by grind) he1
  have h3 := Rat.mul_nonneg (show 0 ≤ 3 * uu - e by grind) (show 0 ≤ L - 1 by grind)
  generalize uu = w at *
  have h4 := Rat.mul_nonneg (show 0 ≤ 1073741824 - L by grind) (show 0 ≤ 3 * w by grind)
  grind
theorem under_one {f e L A : Rat} (hf : f * L = A) (hL : 1 ≤ L) (hL2 : L ≤ 1073741824) (he : Sm e (3 * uu)) (h : f * (1 + e) ≤ 1) (hA : L + 1 ≤ A) : False := by
  obtain ⟨e1, e2⟩ := he
  have hu : 1073741824 * (3 * uu) + 3 * uu < 1 := by decide +kernel
  have h1 : A * (1 + e) ≤ L := by
    have := Rat.mul_nonneg (show 0 ≤ 1 - f * (1 + e) by grind) (show 0 ≤ L by grind)
    rw [← hf]; grind
  have he1 : 0 ≤ 1 + e := by have : 3 * uu ≤ 1 := by decide +kernel
                             grind
  have h2 := Rat.mul_nonneg (show 0 ≤ A - (L + 1) by grind) he1
  have h3 := Rat.mul_nonneg (show 0 ≤ 3 * uu + e by grind) (show 0 ≤ L + 1 by grind)
  have hu0 := uu_pos
  generalize uu = w at *
  have h4 := Rat.mul_nonneg (show 0 ≤ 1073741824 - L by grind) (show 0 ≤ 3 * w by grind)
  grind
theorem pos_quot {f e L A : Rat} (hf : f * L = A) (hL : 1 ≤ L) (he : Sm e (3 * uu)) : (0 < f * (1 + e) ↔ 0 < A) := by
  obtain ⟨e1, e2⟩ := he
  have he1 : 0 < 1 + e := by have : 3 * uu < 1 := by decide +kernel
                             grind
  rw [← hf]
  constructor
  · intro h
    by_cases h0 : 0 < f
    · exact Rat.mul_pos h0 (by grind)
    · have := Rat.mul_nonneg (show 0 ≤ -f by grind) (Rat.le_of_lt he1); grind
  · intro h
    by_cases h0 : 0 < f
    · exact Rat.mul_pos h0 he1
    · have := Rat.mul_nonneg (show 0 ≤ -f by grind) (show 0 ≤ L by grind); grind
theorem frac_bd {f L A : Rat} (hf : f * L = A) (hL : 1 ≤ L) (h0 : 0 ≤ A) (h1 : A ≤ L) : 0 ≤ f ∧ f ≤ 1 := by
  constructor
  · by_cases h : 0 ≤ f
    · exact h
    · have := Rat.mul_pos (show 0 < -f by grind) (show 0 < L by grind); grind
  · by_cases h : f ≤ 1
    · exact h
    · have := Rat.mul_pos (show 0 < f - 1 by grind) (show 0 < L by grind); grind
theorem e36_34 : 4 * e36 ≤ e34 := by decide +kernel
theorem e36_small : e36 ≤ 1 / 2 := by decide +kernel
theorem sq_cap {M t b : Nat} (h : M ≤ 2 ^ (14 + t)) : M * M ≤ 2 ^ (28 + (t + t)) := by
  have := Nat.mul_le_mul h h
  rw [← Nat.pow_add] at this
  have e : 14 + t + (14 + t) = 28 + (t + t) := by omega
  rw [e] at this; exact this
theorem un_cancel (z : Rat) : z = z / Un * Un := by have := Un_pos; grind
theorem le_of_sq {a b : Rat} (hb : 0 ≤ b) (h : a * a ≤ b * b) : a ≤ b := by
  by_cases h1 : a ≤ b
  · exact h1
  · have := Rat.mul_pos (show 0 < a - b by grind) (show 0 < a + b by grind); grind
theorem rsq_nn (a : Rat) : 0 ≤ a * a := by
  rcases (show 0 ≤ a ∨ 0 ≤ -a by grind) with h | h
  · exact Rat.mul_nonneg h h
  · have := Rat.mul_nonneg h h; grind
end Go.Proofs.Ytmkhoplffiakmaa
