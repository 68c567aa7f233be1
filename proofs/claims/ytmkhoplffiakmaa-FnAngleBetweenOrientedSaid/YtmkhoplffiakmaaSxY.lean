/-
  Rounding: the word nearest to a number lies between any two words between which the number lies; sums, quotients and roots. Ours; it knows no program.
-/
import Derived.Test.YtmkhoplffiakmaaSxV
namespace Go.Sx
open Ieee (signed)
set_option linter.unusedVariables false
set_option linter.unusedSimpArgs false
set_option maxRecDepth 100000

theorem zero_le {x P : Nat} (h : x ≤ 0 * P) : x = 0 := by rw [Nat.zero_mul] at h; omega
theorem pow_le2 (a b : Nat) (h : a ≤ b) : 2 ^ a ≤ 2 ^ b := Nat.pow_le_pow_right (by omega) h
theorem cut_near (neg : Bool) (n d : Nat) : (∀ t, n ≤ t * 2 ^ d → Ieee.Toward.even.cut neg n d ≤ t) ∧ (∀ t, t * 2 ^ d ≤ n → t ≤ Ieee.Toward.even.cut neg n d) ∧
    2 * (Ieee.Toward.even.cut neg n d * 2 ^ d) ≤ 2 * n + 2 ^ d ∧ 2 * n ≤ 2 * (Ieee.Toward.even.cut neg n d * 2 ^ d) + 2 ^ d := by
  unfold Ieee.Toward.cut
  simp only [Nat.shiftLeft_eq, Nat.one_mul]
  by_cases h : d ≤ n.log2 + 2
  · rw [Nat.min_eq_left h]
    obtain ⟨g, hg⟩ : ∃ g, 2 ^ d = g := ⟨_, rfl⟩
    have hg0 : 0 < g := by rw [← hg]; exact Nat.two_pow_pos d
    rw [hg]
    have hdm := Nat.div_add_mod n g
    have hml := Nat.mod_lt n hg0
    obtain ⟨low, hlow⟩ : ∃ low, n / g = low := ⟨_, rfl⟩
    obtain ⟨rest, hrest⟩ : ∃ rest, n % g = rest := ⟨_, rfl⟩
    rw [hlow, hrest] at hdm ⊢
    rw [hrest] at hml
    have hge : ∀ t, t * g ≤ n → t ≤ low := fun t ht => by
      rw [← hlow]; exact (Nat.le_div_iff_mul_le hg0).2 ht
    have hle : ∀ t, n ≤ t * g → low ≤ t := fun t ht => by
      have : low * g ≤ t * g := by rw [Nat.mul_comm low]; omega
      exact Nat.le_of_mul_le_mul_right this hg0
    cases hb : (decide (g < 2 * rest) || g == 2 * rest && low % 2 == 1) with
    | false =>
      simp only [hb, Bool.toNat_false, Nat.add_zero]
      have h0 : ¬ (g < 2 * rest) := by
        intro h0
        simp only [Bool.or_eq_false_iff, decide_eq_false_iff_not] at hb
        exact hb.1 h0
      rw [Nat.mul_comm g] at hdm
      exact ⟨hle, hge, by omega, by omega⟩
    | true =>
      have h0 : 0 < rest := by
        simp only [Bool.or_eq_true, decide_eq_true_eq, Bool.and_eq_true, beq_iff_eq] at hb
        omega
      have h00 : g ≤ 2 * rest := by
        simp only [Bool.or_eq_true, decide_eq_true_eq, Bool.and_eq_true, beq_iff_eq] at hb
        omega
      simp only [hb, Bool.toNat_true]
      have hlg : (low + 1) * g = g * low + g := by rw [Nat.add_mul, Nat.mul_comm low]; omega
      refine ⟨fun t ht => ?_, fun t ht => by have := hge t ht; omega, by omega, by omega⟩
      have h1 : low * g < t * g := by rw [Nat.mul_comm low]; omega
      have := Nat.lt_of_mul_lt_mul_right h1
      omega
  · rw [Nat.min_eq_right (by omega)]
    have hn : n < 2 ^ (n.log2 + 1) := Nat.lt_log2_self
    obtain ⟨L, hL⟩ : ∃ L, n.log2 = L := ⟨_, rfl⟩
    rw [hL] at hn h ⊢
    have e : 2 ^ (L + 2) = 2 * 2 ^ (L + 1) := by rw [Nat.pow_succ]; omega
    have hp := Nat.two_pow_pos (L + 1)
    have h1 : n / 2 ^ (L + 2) = 0 := Nat.div_eq_of_lt (by omega)
    have h2 : n % 2 ^ (L + 2) = n := Nat.mod_eq_of_lt (by omega)
    rw [h1, h2]
    have hb : (decide (2 ^ (L + 2) < 2 * n) || 2 ^ (L + 2) == 2 * n && 0 % 2 == 1) = false := by
      have : ¬ (2 ^ (L + 2) < 2 * n) := by omega
      simp [this]
    simp only [hb, Bool.toNat_false, Nat.add_zero]
    have hbig : 2 ^ (L + 2) ≤ 2 ^ d := Nat.pow_le_pow_right (by omega) (by omega)
    refine ⟨fun t _ => by omega, fun t ht => ?_, by omega, by omega⟩
    have : 2 ^ (L + 2) ≤ 2 ^ d := Nat.pow_le_pow_right (by omega) (by omega)
    have h3 : t * 2 ^ d < 1 * 2 ^ d := by omega
    have := Nat.lt_of_mul_lt_mul_right h3
    omega

theorem half_split (k B C m : Nat) (c1 : 2 * (k * C) ≤ 2 * m + C) (c2 : 2 * m ≤ 2 * (k * C) + C) : 2 * (k * (B * C)) ≤ 2 * (m * B) + B * C ∧ 2 * (m * B) ≤ 2 * (k * (B * C)) + B * C := by
  have h3 := Nat.mul_le_mul_right B c1
  have h4 := Nat.mul_le_mul_right B c2
  have e1 : 2 * (k * (B * C)) = 2 * (k * C) * B := by grind
  have e2 : 2 * (m * B) + B * C = (2 * m + C) * B := by grind
  have e3 : 2 * (m * B) = 2 * m * B := by grind
  have e4 : 2 * (k * (B * C)) + B * C = (2 * (k * C) + C) * B := by grind
  rw [e4, e1, e2, e3]
  exact ⟨h3, h4⟩
theorem near_gen2 (s : Bool) (mag P R : Nat) (hm : 0 < mag) (hbig : mag * 2 ^ P < 2 ^ (2096 + R)) :
    ∃ m q N : Nat, Ieee.double.read (Ieee.double.nearest s mag ((P : Int) - 1074 - R)) = .number s m ((q : Int) - 1074) ∧ m * 2 ^ q = N ∧
      (∀ n v, n ≤ 2 ^ 53 → mag * 2 ^ P ≤ n * 2 ^ (v + R) → N ≤ n * 2 ^ v) ∧ (∀ n v, n ≤ 2 ^ 53 → n * 2 ^ (v + R) ≤ mag * 2 ^ P → n * 2 ^ v ≤ N) ∧
      (2 ^ (52 + R) ≤ mag * 2 ^ P → N * 2 ^ R * 2 ^ 53 ≤ mag * 2 ^ P * 2 ^ 53 + mag * 2 ^ P ∧ mag * 2 ^ P * 2 ^ 53 ≤ N * 2 ^ R * 2 ^ 53 + mag * 2 ^ P) := by
  have hm0 : mag ≠ 0 := by omega
  obtain ⟨L, hL⟩ : ∃ L, mag.log2 = L := ⟨_, rfl⟩
  have hL1 : 2 ^ L ≤ mag := by rw [← hL]; exact Nat.log2_self_le hm0
  have hL2 : mag < 2 ^ (L + 1) := by rw [← hL]; exact Nat.lt_log2_self
  obtain ⟨X, hX⟩ : ∃ X, mag * 2 ^ P = X := ⟨_, rfl⟩
  have hX1 : 2 ^ (L + P) ≤ X := by rw [← hX, Nat.pow_add]; exact Nat.mul_le_mul_right _ hL1
  have hX2 : X < 2 ^ (L + 1 + P) := by rw [← hX, Nat.pow_add]; exact Nat.mul_lt_mul_of_pos_right hL2 (Nat.two_pow_pos P)
  rw [hX] at hbig
  have hLP : L + P < 2096 + R := (Nat.pow_lt_pow_iff_right (a := 2) (by omega)).1 (Nat.lt_of_le_of_lt hX1 hbig)
  obtain ⟨e, he⟩ : ∃ e, P + L - (52 + R) = e := ⟨_, rfl⟩
  have hlast : max ((P : Int) - 1074 - R + (mag.log2 : Int) - (Ieee.double.fractionBits : Int)) Ieee.double.leastPlace = (e : Int) - 1074 := by
    rw [least_is, frac_is, hL]; omega
  have hcut : ∃ kept, Ieee.Toward.even.cut s (mag <<< ((P : Int) - 1074 - R - ((e : Int) - 1074)).toNat) (((e : Int) - 1074) - ((P : Int) - 1074 - R)).toNat = kept ∧
      (∀ t, X ≤ t * 2 ^ (e + R) → kept ≤ t) ∧ (∀ t, t * 2 ^ (e + R) ≤ X → t ≤ kept) ∧ 2 * (kept * 2 ^ (e + R)) ≤ 2 * X + 2 ^ (e + R) ∧ 2 * X ≤ 2 * (kept * 2 ^ (e + R)) + 2 ^ (e + R) := by
    obtain ⟨c1, c2, c3⟩ := cut_near s (mag <<< ((P : Int) - 1074 - R - ((e : Int) - 1074)).toNat) (((e : Int) - 1074) - ((P : Int) - 1074 - R)).toNat
    refine ⟨_, rfl, ?_, ?_, ?_⟩
    rotate_left 2
    · obtain ⟨kk, hkk⟩ : ∃ kk, Ieee.Toward.even.cut s (mag <<< ((P : Int) - 1074 - R - ((e : Int) - 1074)).toNat) (((e : Int) - 1074) - ((P : Int) - 1074 - R)).toNat = kk := ⟨_, rfl⟩
      rw [hkk] at c3 ⊢
      by_cases hq : e + R ≤ P
      · rw [show ((P : Int) - 1074 - R - ((e : Int) - 1074)).toNat = P - (e + R) from by omega, show (((e : Int) - 1074) - ((P : Int) - 1074 - R)).toNat = 0 from by omega, Nat.shiftLeft_eq, Nat.pow_zero, Nat.mul_one] at c3
        have h0 : kk = mag * 2 ^ (P - (e + R)) := by
          obtain ⟨c4, c5⟩ := c3
          clear hX1 hX2 hLP hL1 hL2 hbig hlast hkk he
          omega
        rw [h0, Nat.mul_assoc, Nat.mul_comm (2 ^ (P - (e + R))), ← pow_split hq, hX]
        have := Nat.two_pow_pos (e + R)
        omega
      · rw [show ((P : Int) - 1074 - R - ((e : Int) - 1074)).toNat = 0 from by omega, show (((e : Int) - 1074) - ((P : Int) - 1074 - R)).toNat = e + R - P from by omega, Nat.shiftLeft_zero] at c3
        rw [← hX, pow_split (show P ≤ e + R by omega)]
        exact half_split _ _ _ _ c3.1 c3.2
    all_goals
      intro t ht
    · apply c1
      by_cases hq : e + R ≤ P
      · rw [show ((P : Int) - 1074 - R - ((e : Int) - 1074)).toNat = P - (e + R) from by omega, show (((e : Int) - 1074) - ((P : Int) - 1074 - R)).toNat = 0 from by omega, Nat.shiftLeft_eq]
        rw [← hX, pow_split hq, Nat.mul_comm (2 ^ (e + R)), ← Nat.mul_assoc] at ht
        have := Nat.le_of_mul_le_mul_right ht (Nat.two_pow_pos _)
        simpa using this
      · rw [show ((P : Int) - 1074 - R - ((e : Int) - 1074)).toNat = 0 from by omega, show (((e : Int) - 1074) - ((P : Int) - 1074 - R)).toNat = e + R - P from by omega, Nat.shiftLeft_zero]
        rw [← hX, pow_split (show P ≤ e + R by omega), Nat.mul_comm (2 ^ P), ← Nat.mul_assoc] at ht
        exact Nat.le_of_mul_le_mul_right ht (Nat.two_pow_pos _)
    · apply c2
      by_cases hq : e + R ≤ P
      · rw [show ((P : Int) - 1074 - R - ((e : Int) - 1074)).toNat = P - (e + R) from by omega, show (((e : Int) - 1074) - ((P : Int) - 1074 - R)).toNat = 0 from by omega, Nat.shiftLeft_eq]
        rw [← hX, pow_split hq, Nat.mul_comm (2 ^ (e + R)), ← Nat.mul_assoc] at ht
        have := Nat.le_of_mul_le_mul_right ht (Nat.two_pow_pos _)
        simpa using this
      · rw [show ((P : Int) - 1074 - R - ((e : Int) - 1074)).toNat = 0 from by omega, show (((e : Int) - 1074) - ((P : Int) - 1074 - R)).toNat = e + R - P from by omega, Nat.shiftLeft_zero]
        rw [← hX, pow_split (show P ≤ e + R by omega), Nat.mul_comm (2 ^ P), ← Nat.mul_assoc] at ht
        exact Nat.le_of_mul_le_mul_right ht (Nat.two_pow_pos _)
  obtain ⟨kept, hkept, kup, kdn, kh1, kh2⟩ := hcut
  have hk53 : kept ≤ 2 ^ 53 := kup _ (by
    have : 2 ^ (L + 1 + P) ≤ 2 ^ (53 + (e + R)) := Nat.pow_le_pow_right (by omega) (by omega)
    rw [Nat.pow_add 2 53] at this; omega)
  have hk52 : e ≠ 0 → 2 ^ 52 ≤ kept := fun h0 => kdn _ (by
    rw [← Nat.pow_add, show 52 + (e + R) = L + P from by omega]; exact hX1)
  have hX52 : e ≠ 0 → 2 ^ (52 + (e + R)) ≤ X := fun h0 => by rw [show 52 + (e + R) = L + P from by omega]; exact hX1
  have mono : (∀ n v, n ≤ 2 ^ 53 → X ≤ n * 2 ^ (v + R) → kept * 2 ^ e ≤ n * 2 ^ v) ∧ (∀ n v, n ≤ 2 ^ 53 → n * 2 ^ (v + R) ≤ X → n * 2 ^ v ≤ kept * 2 ^ e) := by
    refine ⟨fun n v hn hx => ?_, fun n v hn hx => ?_⟩
    · by_cases hv : e ≤ v
      · have h1 : X ≤ n * 2 ^ (v - e) * 2 ^ (e + R) := by
          rw [Nat.mul_assoc, ← Nat.pow_add, show v - e + (e + R) = v + R from by omega]; exact hx
        have h2 := kup _ h1
        have h3 := Nat.mul_le_mul_right (2 ^ e) h2
        rw [Nat.mul_assoc, ← Nat.pow_add, show v - e + e = v from by omega] at h3
        exact h3
      · have h0 : e ≠ 0 := by omega
        have h1 := hX52 h0
        have h2 : n * 2 ^ (v + R) ≤ 2 ^ 53 * 2 ^ (v + R) := Nat.mul_le_mul_right _ hn
        rw [← Nat.pow_add] at h2
        have h3 : 2 ^ (52 + (e + R)) ≤ 2 ^ (53 + (v + R)) := by omega
        have h4 := (Nat.pow_le_pow_iff_right (a := 2) (by omega)).1 h3
        have hve : v + 1 = e := by omega
        have h5 : X ≤ 2 ^ 52 * 2 ^ (e + R) := by
          rw [← Nat.pow_add, show 52 + (e + R) = 53 + (v + R) from by omega]; omega
        have h6 := kup _ h5
        have h7 : 2 ^ 53 * 2 ^ (v + R) ≤ n * 2 ^ (v + R) := by
          rw [← Nat.pow_add, show 53 + (v + R) = 52 + (e + R) from by omega]; omega
        have h8 := Nat.le_of_mul_le_mul_right h7 (Nat.two_pow_pos _)
        have h9 : n = 2 ^ 53 := by omega
        subst h9
        have h10 := Nat.mul_le_mul_right (2 ^ e) h6
        rw [← Nat.pow_add] at h10 ⊢
        rw [show 53 + v = 52 + e from by omega]
        exact h10
    · by_cases hv : e ≤ v
      · have h1 : n * 2 ^ (v - e) * 2 ^ (e + R) ≤ X := by
          rw [Nat.mul_assoc, ← Nat.pow_add, show v - e + (e + R) = v + R from by omega]; exact hx
        have h2 := kdn _ h1
        have h3 := Nat.mul_le_mul_right (2 ^ e) h2
        rw [Nat.mul_assoc, ← Nat.pow_add, show v - e + e = v from by omega] at h3
        exact h3
      · have h0 : e ≠ 0 := by omega
        have h1 := hk52 h0
        have h2 : n * 2 ^ v ≤ 2 ^ 53 * 2 ^ v := Nat.mul_le_mul_right _ hn
        have h3 : 2 ^ 52 * 2 ^ e ≤ kept * 2 ^ e := Nat.mul_le_mul_right _ h1
        have h4 : 2 ^ 53 * 2 ^ v ≤ 2 ^ 52 * 2 ^ e := by
          rw [← Nat.pow_add, ← Nat.pow_add]; exact Nat.pow_le_pow_right (by omega) (by omega)
        omega
  have key : ∃ m q : Nat, Ieee.double.read (Ieee.double.nearest s mag ((P : Int) - 1074 - R)) = .number s m ((q : Int) - 1074) ∧ m * 2 ^ q = kept * 2 ^ e := by
    unfold Ieee.Format.nearest
    rw [if_neg hm0]
    simp only [hlast]
    simp only [hkept, least_is, binade_is, inf_is]
    rw [show ((e : Int) - 1074 - -1074).toNat = e from by omega]
    have hr : e * 2 ^ 52 + kept < 2047 * 2 ^ 52 := by omega
    rw [Nat.min_eq_left (by omega), read_word s _ hr]
    by_cases hz : e * 2 ^ 52 + kept < 2 ^ 52
    · rw [if_pos hz]
      have hq0 : e = 0 := by omega
      subst hq0
      exact ⟨_, 0, rfl, by simp⟩
    · rw [if_neg hz]
      have hk52' : 2 ^ 52 ≤ kept := by
        by_cases h0 : e = 0
        · subst h0; omega
        · exact hk52 h0
      by_cases hk : kept = 2 ^ 53
      · subst hk
        refine ⟨2 ^ 52, e + 1, ?_, by rw [Nat.pow_succ]; omega⟩
        have h1 : (e * 2 ^ 52 + 2 ^ 53) % 2 ^ 52 = 0 := by omega
        have h2 : (e * 2 ^ 52 + 2 ^ 53) / 2 ^ 52 = e + 2 := by omega
        rw [h1, h2, Nat.add_zero, show (-1074 : Int) + ((e + 2 - 1 : Nat) : Int) = ((e + 1 : Nat) : Int) - 1074 from by omega]
      · refine ⟨kept, e, ?_, rfl⟩
        have h1 : (e * 2 ^ 52 + kept) % 2 ^ 52 = kept - 2 ^ 52 := by omega
        have h2 : (e * 2 ^ 52 + kept) / 2 ^ 52 = e + 1 := by omega
        rw [h1, h2, show 2 ^ 52 + (kept - 2 ^ 52) = kept from by omega, show (-1074 : Int) + ((e + 1 - 1 : Nat) : Int) = (e : Int) - 1074 from by omega]
  obtain ⟨m, q, k1, k2⟩ := key
  refine ⟨m, q, kept * 2 ^ e, k1, k2, ?_⟩
  rw [hX]
  refine ⟨mono.1, mono.2, fun hbig2 => ?_⟩
  have hee : 2 ^ (52 + (e + R)) ≤ X := by
    by_cases h0 : e = 0
    · subst h0; rw [Nat.zero_add]; exact hbig2
    · exact hX52 h0
  have ee : kept * 2 ^ e * 2 ^ R = kept * 2 ^ (e + R) := by rw [Nat.mul_assoc, ← Nat.pow_add]
  rw [ee]
  rw [Nat.pow_add] at hee
  have e53 : (2 : Nat) ^ 53 = 2 * 2 ^ 52 := by decide
  obtain ⟨W, hW⟩ : ∃ W, kept * 2 ^ (e + R) = W := ⟨_, rfl⟩
  obtain ⟨U, hU⟩ : ∃ U, 2 ^ (e + R) = U := ⟨_, rfl⟩
  rw [hW, hU] at kh1 kh2
  rw [hU] at hee
  rw [hW]
  omega

theorem near_D2 (s : Bool) (mag P R : Nat) (hbig : mag * 2 ^ P < 2 ^ (2096 + R)) :
    ∃ N : Nat, D (Ieee.double.write (.number s mag ((P : Int) - 1074 - R))) (if s then -(N : Int) else N) 0 ∧
      (∀ n v, n ≤ 2 ^ 53 → mag * 2 ^ P ≤ n * 2 ^ (v + R) → N ≤ n * 2 ^ v) ∧ (∀ n v, n ≤ 2 ^ 53 → n * 2 ^ (v + R) ≤ mag * 2 ^ P → n * 2 ^ v ≤ N) ∧
      (2 ^ (52 + R) ≤ mag * 2 ^ P → N * 2 ^ R * 2 ^ 53 ≤ mag * 2 ^ P * 2 ^ 53 + mag * 2 ^ P ∧ mag * 2 ^ P * 2 ^ 53 ≤ N * 2 ^ R * 2 ^ 53 + mag * 2 ^ P) := by
  show ∃ N : Nat, D (Ieee.double.nearest s mag ((P : Int) - 1074 - R)) _ 0 ∧ _
  by_cases hm : mag = 0
  · subst hm
    refine ⟨0, ?_, fun _ _ _ _ => by omega, fun n v _ h => ?_, fun h => ?_⟩
    · have : Ieee.double.nearest s 0 ((P : Int) - 1074 - R) = Ieee.double.word s 0 := by unfold Ieee.Format.nearest; simp
      rw [this]
      refine ⟨s, 0, 0, ?_, ?_⟩
      · rw [fmt_is, read_word s 0 (by decide)]; simp
      · rw [signed_eq]; cases s <;> simp
    · rw [Nat.zero_mul] at h
      have : n = 0 := by
        rcases Nat.mul_eq_zero.1 (Nat.le_zero.1 h) with h | h
        · exact h
        · have := Nat.two_pow_pos (v + R); omega
      subst this; omega
    · rw [Nat.zero_mul] at h
      have := Nat.two_pow_pos (52 + R); omega
  · obtain ⟨m, q, N, h1, h2, h3, h4, h5⟩ := near_gen2 s mag P R (by omega) hbig
    refine ⟨N, ⟨s, m, q, h1, ?_⟩, h3, h4, h5⟩
    rw [signed_eq, ← h2]; cases s <;> simp

theorem near_D (s : Bool) (mag P R : Nat) (hbig : mag * 2 ^ P < 2 ^ (2096 + R)) :
    ∃ N : Nat, D (Ieee.double.write (.number s mag ((P : Int) - 1074 - R))) (if s then -(N : Int) else N) 0 ∧
      (∀ n v, n ≤ 2 ^ 53 → mag * 2 ^ P ≤ n * 2 ^ (v + R) → N ≤ n * 2 ^ v) ∧ (∀ n v, n ≤ 2 ^ 53 → n * 2 ^ (v + R) ≤ mag * 2 ^ P → n * 2 ^ v ≤ N) := by
  obtain ⟨N, h1, h2, h3, h4⟩ := near_D2 s mag P R hbig
  exact ⟨N, h1, h2, h3⟩

theorem sum_num {a b d : Ieee.Datum} (h : a.sum b = some d) : d.isNaN = false := by
  cases a <;> cases b <;> simp only [Ieee.Datum.sum] at h
  all_goals first
    | (cases h; done)
    | (cases h; rfl)
    | (split at h
       · cases h; rfl
       · cases h)
theorem qn_lt : qn < 2 ^ 64 := by decide
theorem map_lt {o : Option Ieee.Datum} (h : ∀ d, o = some d → d.isNaN = false) : (o.map FloatKind.f64.format.write).getD qn < 2 ^ 64 := by
  cases o with
  | none => exact qn_lt
  | some d =>
    rcases write_lt d with h1 | h1
    · exact h1
    · rw [h d rfl] at h1; cases h1
theorem gsub_lt (x y : Nat) : gsub x y < 2 ^ 64 := by unfold gsub fsub Ieee.Format.sub; exact map_lt fun d h => sum_num h
theorem gadd_lt (x y : Nat) : gadd x y < 2 ^ 64 := by unfold gadd fadd Ieee.Format.add; exact map_lt fun d h => sum_num h
theorem D_absn {x : Nat} {n : Int} {v : Nat} (hx : x < 2 ^ 64) (h : D x n v) : D (x % 2 ^ 63) (n.natAbs : Int) v := by
  obtain ⟨s, m, q, h1, h2⟩ := h
  obtain ⟨s2, m2, q2, t1, t2⟩ := D_abs hx h1
  refine ⟨s2, m2, q2, t1, ?_⟩
  rw [t2]
  have := congrArg Int.natAbs h2
  rw [signed_eq, Int.natAbs_mul, Int.natAbs_pow, show (2 : Int).natAbs = 2 from rfl] at this
  have e : (if s = true then -((m : Int) * 2 ^ q) else (m : Int) * 2 ^ q).natAbs = m * 2 ^ q := by
    cases s <;> simp [Int.natAbs_mul, Int.natAbs_pow, Int.natAbs_neg]
  rw [e] at this
  exact_mod_cast this
theorem fsub_g {x y z : Nat} (h : fsub x y = some z) : z = gsub x y := by unfold gsub; rw [h]; rfl
end Go.Sx
