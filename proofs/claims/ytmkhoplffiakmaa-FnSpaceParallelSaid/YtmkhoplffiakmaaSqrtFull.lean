/-
  The root of a float that is not below 0, however small. Ours.
-/
import Derived.Test.YtmkhoplffiakmaaQCmp
namespace Go.Proofs.Ytmkhoplffiakmaa
open Go.Sx
open Ieee (signed)
set_option linter.unusedVariables false
set_option linter.unusedSimpArgs false
set_option maxRecDepth 100000

theorem gsqrt_pos {x : Nat} {a : Rat} (hx : Q x a) (ha : 0 < a) (h1 : 2 * a ≤ BB) : ∃ r, Q (gsqrt x) r ∧ -uu ≤ r ∧ r * r ≤ a * (1 + 5 * uu) + uu ∧ a * (1 - 5 * uu) ≤ r * r + uu := by
  obtain ⟨s, m, q, r1, r2⟩ := Q_read hx
  have hU := Un_pos
  have hmlt := mag_lt (x := x) (s := s) (m := m) (i := (q : Int) - 1074) r1
  have haU := Rat.mul_pos ha hU
  have hs : s = false ∧ m ≠ 0 := by
    have hp := un_pos q
    have hm : (0 : Rat) ≤ (m : Rat) := by
      have : ((0 : Nat) : Rat) ≤ (m : Rat) := Rat.natCast_le_natCast.2 (Nat.zero_le _)
      simpa using this
    have hp2 := Rat.mul_nonneg hm (Rat.le_of_lt hp)
    refine ⟨?_, ?_⟩
    · cases s with
      | false => rfl
      | true => exfalso; simp only [if_true] at r2; grind
    · intro hm0
      subst hm0
      have e : (((0 : Nat)) : Rat) = 0 := by simp
      rw [e] at r2; grind
  obtain ⟨rfl, hm0⟩ := hs
  unfold gsqrt fsqrt Ieee.Format.sqrt
  rw [r1]
  simp only [Ieee.Datum.root, hm0, if_false, Bool.false_eq_true, Option.map_some, Option.getD_some]
  rw [show FloatKind.f64.format.fractionBits = 52 from rfl, show FloatKind.f64.format.write = Ieee.double.write from rfl]
  obtain ⟨L, hL⟩ : ∃ L, m.log2 = L := ⟨_, rfl⟩
  have hL52 : L ≤ 52 := by
    have : m.log2 < 53 := (Nat.log2_lt hm0).2 hmlt
    omega
  have hLm1 : 2 ^ L ≤ m := by rw [← hL]; exact Nat.log2_self_le hm0
  rw [hL, Nat.shiftLeft_eq]
  obtain ⟨more, hmore⟩ : ∃ more, 2 * (52 + 2) - L + (((q : Int) - 1074 - ((2 * (52 + 2) - L : Nat) : Int)) % 2).toNat = more := ⟨_, rfl⟩
  rw [hmore]
  obtain ⟨n, hn⟩ : ∃ n, m * 2 ^ more = n := ⟨_, rfl⟩
  rw [hn]
  have hn108 : 2 ^ 108 ≤ n := by
    have h3 : 2 ^ L * 2 ^ more ≤ n := by rw [← hn]; exact Nat.mul_le_mul_right _ hLm1
    have h4 : 2 ^ 108 ≤ 2 ^ L * 2 ^ more := by rw [← Nat.pow_add]; exact Nat.pow_le_pow_right (by omega) (by omega)
    exact Nat.le_trans h4 h3
  obtain ⟨w1, w2⟩ := rootFrom_is n (n.log2 / 2 + 1) 0 (by omega) (by
      have h3 : n < 2 ^ (n.log2 + 1) := Nat.lt_log2_self
      have h4 : 2 ^ (n.log2 + 1) ≤ 2 ^ (n.log2 / 2 + 1) * 2 ^ (n.log2 / 2 + 1) := by
        rw [← Nat.pow_add]; exact Nat.pow_le_pow_right (by omega) (by omega)
      rw [Nat.zero_add]; exact Nat.lt_of_lt_of_le h3 h4)
  obtain ⟨w, hw⟩ : ∃ w, Ieee.Datum.rootFrom n (n.log2 / 2 + 1) 0 = w := ⟨_, rfl⟩
  rw [hw] at w1 w2 ⊢
  obtain ⟨st, hst⟩ : ∃ st, (w * w != n).toNat = st := ⟨_, rfl⟩
  rw [hst]
  have hst1 : (st = 0 ∧ w * w = n) ∨ st = 1 := by
    by_cases h : w * w = n
    · left; exact ⟨by rw [← hst, h]; simp, h⟩
    · right; rw [← hst]; simp [h]
  have hw53 : 2 ^ 53 ≤ w := by
    rcases Nat.lt_or_ge w (2 ^ 53) with h5 | h5
    · exfalso
      have h6 : (w + 1) * (w + 1) ≤ 2 ^ 53 * 2 ^ 53 := Nat.mul_le_mul h5 h5
      have h7 : (2 : Nat) ^ 53 * 2 ^ 53 ≤ 2 ^ 108 := by decide
      omega
    · exact h5
  obtain ⟨e1, c1, c2⟩ := root_core w1 w2 hst1 hw53
  obtain ⟨P, hP⟩ : ∃ P : Nat, (P : Int) = ((q : Int) - 1074 - more) / 2 - 1 + 1074 + more := ⟨(((q : Int) - 1074 - more) / 2 - 1 + 1074 + more).toNat, by omega⟩
  have hP2 : 2 * P + 2 = q + 1074 + more := by omega
  have hpl : ((q : Int) - 1074 - (more : Int)) / 2 - 1 = (P : Int) - 1074 - (more : Int) := by omega
  rw [hpl]
  clear hpl hP hw53 hst1 w1 w2 hn108 hLm1 hL52 hL hmlt hst hw hmore
  -- the value
  obtain ⟨V, hV⟩ : ∃ V, ((2 * w + st : Nat) : Rat) * 2 ^ P / 2 ^ more / Un = V := ⟨_, rfl⟩
  have hVV : V * V = a * (1 + e1) := by
    rw [← hV]
    have hn' : (m : Rat) * 2 ^ more = n := by rw [← castpow, ← Rat.natCast_mul, hn]
    have h3 : (2 : Rat) ^ P * 2 ^ P * 4 = 2 ^ q * Un * 2 ^ more := by
      have : (4 : Rat) = 2 ^ 2 := by decide +kernel
      rw [this, ← ratpow_add, ← ratpow_add]
      unfold Un
      rw [← ratpow_add, ← ratpow_add]
      congr 1; omega
    simp only [Bool.false_eq_true, if_false] at r2
    have hp3 := un_pos more
    generalize ((2 * w + st : Nat) : Rat) = W at *
    generalize (n : Rat) = N at *
    generalize (m : Rat) = M at *
    generalize (2 : Rat) ^ P = A at *
    generalize (2 : Rat) ^ q = B at *
    generalize (2 : Rat) ^ more = O at *
    have e2 : (W * A / O / Un) * (W * A / O / Un) * 4 * (O * O * Un * Un) = W * W * (A * A * 4) := by grind
    rw [c1, h3] at e2
    have e3 : a * Un = N / O * B := by rw [div_of hn' hp3, ← r2, Rat.one_mul]
    have e4 : (W * A / O / Un * (W * A / O / Un) - a * (1 + e1)) * (4 * (O * O * Un * Un)) = 0 := by grind
    have hO2 := Rat.mul_pos (Rat.mul_pos hp3 hp3) (Rat.mul_pos hU hU)
    rcases Rat.mul_eq_zero.1 e4 with h | h
    · grind
    · exfalso; grind
  have hV0 : 0 < V := by
    rw [← hV]
    have : 0 < ((2 * w + st : Nat) : Rat) := by
      apply nat_rat_pos
      rcases Nat.eq_zero_or_pos (2 * w + st) with h | h
      · exfalso
        rw [h] at c1
        have e : (((0 : Nat)) : Rat) = 0 := by simp
        rw [e] at c1
        have : V = 0 := by rw [← hV, h, e]; grind
        rw [this] at hVV
        obtain ⟨c3, c4⟩ := c2
        have := Rat.mul_pos ha (show 0 < 1 + e1 by grind)
        grind
      · exact h
    have k1 := Rat.mul_pos this (un_pos P)
    have k2 : 0 < ((2 * w + st : Nat) : Rat) * 2 ^ P / 2 ^ more := by
      have := un_pos more
      generalize ((2 * w + st : Nat) : Rat) * 2 ^ P = z at k1 ⊢
      generalize (2 : Rat) ^ more = y at this ⊢
      rw [Rat.div_def]; exact Rat.mul_pos k1 (Rat.inv_pos.2 this)
    rw [Rat.div_def]; exact Rat.mul_pos k2 (Rat.inv_pos.2 hU)
  obtain ⟨c3, c4⟩ := c2
  have hb1 : a * (1 + e1) ≤ BB := by
    have := Rat.mul_nonneg (Rat.le_of_lt ha) (show 0 ≤ 1 - e1 by grind)
    grind
  have hBB0 : (0 : Rat) < BB := by decide +kernel
  have hu0 := uu_pos
  by_cases hv : 1 ≤ V * BB
  · have hMd : Md V := by
      refine ⟨Or.inr (Or.inl hv), by grind, ?_⟩
      by_cases h : V ≤ BB
      · exact h
      · exfalso
        have k1 := Rat.mul_nonneg (show 0 ≤ V - BB by grind) (Rat.le_of_lt hV0)
        have k2 : (1 : Rat) ≤ BB := by decide +kernel
        have k3 := Rat.mul_nonneg (show 0 ≤ BB - 1 by grind) (show 0 ≤ V - BB by grind)
        grind
    obtain ⟨e2, g1, g2⟩ := round false (2 * w + st) P more V (by rw [← hV]; simp only [Bool.false_eq_true, if_false]; grind) hMd
    obtain ⟨e3, k1, k2⟩ := sm_one g2 g2 (r := (5 / 2) * uu) (by grind)
    obtain ⟨e4, k3, k4, k5⟩ := sm_one (show Sm e1 (2 * uu) from ⟨c3, c4⟩) k2 (r := 5 * uu) (by grind)
    have e5 : V * (1 + e2) * (V * (1 + e2)) = a * (1 + e4) := by
      have : V * (1 + e2) * (V * (1 + e2)) = V * V * ((1 + e2) * (1 + e2)) := by grind
      rw [this, hVV, k1, ← k3]; grind
    refine ⟨V * (1 + e2), g1, ?_, ?_, ?_⟩
    · have := Rat.mul_pos hV0 (show 0 < 1 + e2 by obtain ⟨g3, g4⟩ := g2; have : uu < 1 := by decide +kernel
                                                  grind)
      grind
    · rw [e5]
      have := Rat.mul_nonneg (Rat.le_of_lt ha) (show 0 ≤ 5 * uu - e4 by grind)
      grind
    · rw [e5]
      have := Rat.mul_nonneg (Rat.le_of_lt ha) (show 0 ≤ 5 * uu + e4 by grind)
      grind
  · have k0 := Rat.mul_pos hV0 hBB0
    obtain ⟨r, g1, g2, g3⟩ := round_low false (2 * w + st) P more V (by rw [← hV]; simp only [Bool.false_eq_true, if_false]; grind) ⟨by grind, by grind⟩
    have hB : (1 : Rat) ≤ uu * BB := by decide +kernel
    have hB2 : uu ≤ 1 / 8 := by decide +kernel
    have r1 : -uu ≤ r := by
      by_cases h : -uu ≤ r
      · exact h
      · have := Rat.mul_pos (show 0 < -uu - r by grind) hBB0; grind
    have r2 : r ≤ uu := by
      by_cases h : r ≤ uu
      · exact h
      · have := Rat.mul_pos (show 0 < r - uu by grind) hBB0; grind
    have v2 : V ≤ uu := by
      by_cases h : V ≤ uu
      · exact h
      · have := Rat.mul_pos (show 0 < V - uu by grind) hBB0; grind
    have r3 : 0 ≤ r * r := by
      rcases (show 0 ≤ r ∨ 0 ≤ -r by grind) with h | h
      · exact Rat.mul_nonneg h h
      · have := Rat.mul_nonneg h h; grind
    have r4 : r * r ≤ uu * uu := by
      have := Rat.mul_nonneg (show 0 ≤ uu - r by grind) (show 0 ≤ uu + r by grind); grind
    have v4 : V * V ≤ uu * uu := by
      have := Rat.mul_nonneg (show 0 ≤ uu - V by grind) (show 0 ≤ uu + V by grind); grind
    have u2 := Rat.mul_nonneg hu0 (show 0 ≤ 1 / 8 - uu by grind)
    have a2 := Rat.mul_nonneg (Rat.le_of_lt ha) (show 0 ≤ e1 + 1 / 2 by grind)
    have a3 := Rat.mul_nonneg (Rat.le_of_lt ha) hu0
    refine ⟨r, g1, r1, ?_, ?_⟩
    · grind
    · grind
/-- the root of any number that is not below 0 -/
theorem gsqrt_full {x : Nat} {a : Rat} (hx : Q x a) (h0 : 0 ≤ a) (h1 : 2 * a ≤ BB) : ∃ r, Q (gsqrt x) r ∧ -uu ≤ r ∧ r * r ≤ a * (1 + 5 * uu) + uu ∧ a * (1 - 5 * uu) ≤ r * r + uu := by
  have hu0 := uu_pos
  by_cases h : a = 0
  · subst h
    exact ⟨0, gsqrt_q0 hx, by grind, by grind, by grind⟩
  · exact gsqrt_pos hx (by grind) h1
end Go.Proofs.Ytmkhoplffiakmaa
