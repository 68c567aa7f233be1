/-
  Rounding: the word nearest to a number lies between any two words between which the number lies; sums, quotients and roots. Ours; it knows no program.
-/
import Derived.Test.YthobbfpoooommaaGreatSxV
namespace Go.Sx
open Ieee (signed)
set_option linter.unusedVariables false
set_option linter.unusedSimpArgs false
set_option maxRecDepth 100000

theorem cast_pow {m q b v : Nat} (h : (m : Int) * 2 ^ q = (b : Int) * 2 ^ v) : m * 2 ^ q = b * 2 ^ v := by exact_mod_cast h
theorem zero_le {x P : Nat} (h : x ≤ 0 * P) : x = 0 := by rw [Nat.zero_mul] at h; omega
theorem pow_le2 (a b : Nat) (h : a ≤ b) : 2 ^ a ≤ 2 ^ b := Nat.pow_le_pow_right (by omega) h
theorem mul_pow_lt (b n m : Nat) (h : b < 2 ^ n) : b * 2 ^ m < 2 ^ (n + m) := by rw [Nat.pow_add]; exact Nat.mul_lt_mul_of_pos_right h (Nat.two_pow_pos _)
theorem mulpow_r (n v b e : Nat) : n * 2 ^ v * b * 2 ^ e = n * 2 ^ (v + e) * b := by rw [Nat.pow_add]; grind
theorem cut_near (neg : Bool) (n d : Nat) : (∀ t, n ≤ t * 2 ^ d → Ieee.Toward.even.cut neg n d ≤ t) ∧ (∀ t, t * 2 ^ d ≤ n → t ≤ Ieee.Toward.even.cut neg n d) ∧
    2 * (Ieee.Toward.even.cut neg n d * 2 ^ d) ≤ 2 * n + 2 ^ d ∧ 2 * n ≤ 2 * (Ieee.Toward.even.cut neg n d * 2 ^ d) + 2 ^ d := by
  unfold Ieee.Toward.cut
  simp only [Nat.shiftLeft_eq, Nat.one_mul]
  by_cases h : d ≤ n.log2 + 2
  · rw [Nat.min_eq_left h]
    obtain ⟨g, hg⟩ : ∃ g, 2 ^ d = g := ⟨_, rfl⟩
    have hg0 : 0 < g := by rw [← hg]; exact Nat.two_pow_pos d
    rw [hg]
    have hdm := Nat.div_add_mod n g
    have hml := Nat.mod_lt n hg0
    obtain ⟨low, hlow⟩ : ∃ low, n / g = low := ⟨_, rfl⟩
    obtain ⟨rest, hrest⟩ : ∃ rest, n % g = rest := ⟨_, rfl⟩
    rw [hlow, hrest] at hdm ⊢
    rw [hrest] at hml
    have hge : ∀ t, t * g ≤ n → t ≤ low := fun t ht => by
      rw [← hlow]; exact (Nat.le_div_iff_mul_le hg0).2 ht
    have hle : ∀ t, n ≤ t * g → low ≤ t := fun t ht => by
      have : low * g ≤ t * g := by rw [Nat.mul_comm low]; omega
      exact Nat.le_of_mul_le_mul_right this hg0
    cases hb : (decide (g < 2 * rest) || g == 2 * rest && low % 2 == 1) with
    | false =>
      simp only [hb, Bool.toNat_false, Nat.add_zero]
      have h0 : ¬ (g < 2 * rest) := by
        intro h0
        simp only [Bool.or_eq_false_iff, decide_eq_false_iff_not] at hb
        exact hb.1 h0
      rw [Nat.mul_comm g] at hdm
      exact ⟨hle, hge, by omega, by omega⟩
    | true =>
      have h0 : 0 < rest := by
        simp only [Bool.or_eq_true, decide_eq_true_eq, Bool.and_eq_true, beq_iff_eq] at hb
        omega
      have h00 : g ≤ 2 * rest := by
        simp only [Bool.or_eq_true, decide_eq_true_eq, Bool.and_eq_true, beq_iff_eq] at hb
        omega
      simp only [hb, Bool.toNat_true]
      have hlg : (low + 1) * g = g * low + g := by rw [Nat.add_mul, Nat.mul_comm low]; omega
      refine ⟨fun t ht => ?_, fun t ht => by have := hge t ht; omega, by omega, by omega⟩
      have h1 : low * g < t * g := by rw [Nat.mul_comm low]; omega
      have := Nat.lt_of_mul_lt_mul_right h1
      omega
  · rw [Nat.min_eq_right (by omega)]
    have hn : n < 2 ^ (n.log2 + 1) := Nat.lt_log2_self
    obtain ⟨L, hL⟩ : ∃ L, n.log2 = L := ⟨_, rfl⟩
    rw [hL] at hn h ⊢
    have e : 2 ^ (L + 2) = 2 * 2 ^ (L + 1) := by rw [Nat.pow_succ]; omega
    have hp := Nat.two_pow_pos (L + 1)
    have h1 : n / 2 ^ (L + 2) = 0 := Nat.div_eq_of_lt (by omega)
    have h2 : n % 2 ^ (L + 2) = n := Nat.mod_eq_of_lt (by omega)
    rw [h1, h2]
    have hb : (decide (2 ^ (L + 2) < 2 * n) || 2 ^ (L + 2) == 2 * n && 0 % 2 == 1) = false := by
      have : ¬ (2 ^ (L + 2) < 2 * n) := by omega
      simp [this]
    simp only [hb, Bool.toNat_false, Nat.add_zero]
    have hbig : 2 ^ (L + 2) ≤ 2 ^ d := Nat.pow_le_pow_right (by omega) (by omega)
    refine ⟨fun t _ => by omega, fun t ht => ?_, by omega, by omega⟩
    have : 2 ^ (L + 2) ≤ 2 ^ d := Nat.pow_le_pow_right (by omega) (by omega)
    have h3 : t * 2 ^ d < 1 * 2 ^ d := by omega
    have := Nat.lt_of_mul_lt_mul_right h3
    omega

theorem half_split (k B C m : Nat) (c1 : 2 * (k * C) ≤ 2 * m + C) (c2 : 2 * m ≤ 2 * (k * C) + C) : 2 * (k * (B * C)) ≤ 2 * (m * B) + B * C ∧ 2 * (m * B) ≤ 2 * (k * (B * C)) + B * C := by
  have h3 := Nat.mul_le_mul_right B c1
  have h4 := Nat.mul_le_mul_right B c2
  have e1 : 2 * (k * (B * C)) = 2 * (k * C) * B := by grind
  have e2 : 2 * (m * B) + B * C = (2 * m + C) * B := by grind
  have e3 : 2 * (m * B) = 2 * m * B := by grind
  have e4 : 2 * (k * (B * C)) + B * C = (2 * (k * C) + C) * B := by grind
  rw [e4, e1, e2, e3]
  exact ⟨h3, h4⟩
theorem near_gen2 (s : Bool) (mag P R : Nat) (hm : 0 < mag) (hbig : mag * 2 ^ P < 2 ^ (2096 + R)) :
    ∃ m q N : Nat, Ieee.double.read (Ieee.double.nearest s mag ((P : Int) - 1074 - R)) = .number s m ((q : Int) - 1074) ∧ m * 2 ^ q = N ∧
      (∀ n v, n ≤ 2 ^ 53 → mag * 2 ^ P ≤ n * 2 ^ (v + R) → N ≤ n * 2 ^ v) ∧ (∀ n v, n ≤ 2 ^ 53 → n * 2 ^ (v + R) ≤ mag * 2 ^ P → n * 2 ^ v ≤ N) ∧
      (2 ^ (52 + R) ≤ mag * 2 ^ P → N * 2 ^ R * 2 ^ 53 ≤ mag * 2 ^ P * 2 ^ 53 + mag * 2 ^ P ∧ mag * 2 ^ P * 2 ^ 53 ≤ N * 2 ^ R * 2 ^ 53 + mag * 2 ^ P) := by
  have hm0 : mag ≠ 0 := by omega
  obtain ⟨L, hL⟩ : ∃ L, mag.log2 = L := ⟨_, rfl⟩
  have hL1 : 2 ^ L ≤ mag := by rw [← hL]; exact Nat.log2_self_le hm0
  have hL2 : mag < 2 ^ (L + 1) := by rw [← hL]; exact Nat.lt_log2_self
  obtain ⟨X, hX⟩ : ∃ X, mag * 2 ^ P = X := ⟨_, rfl⟩
  have hX1 : 2 ^ (L + P) ≤ X := by rw [← hX, Nat.pow_add]; exact Nat.mul_le_mul_right _ hL1
  have hX2 : X < 2 ^ (L + 1 + P) := by rw [← hX, Nat.pow_add]; exact Nat.mul_lt_mul_of_pos_right hL2 (Nat.two_pow_pos P)
  rw [hX] at hbig
  have hLP : L + P < 2096 + R := (Nat.pow_lt_pow_iff_right (a := 2) (by omega)).1 (Nat.lt_of_le_of_lt hX1 hbig)
  obtain ⟨e, he⟩ : ∃ e, P + L - (52 + R) = e := ⟨_, rfl⟩
  have hlast : max ((P : Int) - 1074 - R + (mag.log2 : Int) - (Ieee.double.fractionBits : Int)) Ieee.double.leastPlace = (e : Int) - 1074 := by
    rw [least_is, frac_is, hL]; omega
  have hcut : ∃ kept, Ieee.Toward.even.cut s (mag <<< ((P : Int) - 1074 - R - ((e : Int) - 1074)).toNat) (((e : Int) - 1074) - ((P : Int) - 1074 - R)).toNat = kept ∧
      (∀ t, X ≤ t * 2 ^ (e + R) → kept ≤ t) ∧ (∀ t, t * 2 ^ (e + R) ≤ X → t ≤ kept) ∧ 2 * (kept * 2 ^ (e + R)) ≤ 2 * X + 2 ^ (e + R) ∧ 2 * X ≤ 2 * (kept * 2 ^ (e + R)) + 2 ^ (e + R) := by
    obtain ⟨c1, c2, c3⟩ := cut_near s (mag <<< ((P : Int) - 1074 - R - ((e : Int) - 1074)).toNat) (((e : Int) - 1074) - ((P : Int) - 1074 - R)).toNat
    refine ⟨_, rfl, ?_, ?_, ?_⟩
    rotate_left 2
    · obtain ⟨kk, hkk⟩ : ∃ kk, Ieee.Toward.even.cut s (mag <<< ((P : Int) - 1074 - R - ((e : Int) - 1074)).toNat) (((e : Int) - 1074) - ((P : Int) - 1074 - R)).toNat = kk := ⟨_, rfl⟩
      rw [hkk] at c3 ⊢
      by_cases hq : e + R ≤ P
      · rw [show ((P : Int) - 1074 - R - ((e : Int) - 1074)).toNat = P - (e + R) from by omega, show (((e : Int) - 1074) - ((P : Int) - 1074 - R)).toNat = 0 from by omega, Nat.shiftLeft_eq, Nat.pow_zero, Nat.mul_one] at c3
        have h0 : kk = mag * 2 ^ (P - (e + R)) := by
          obtain ⟨c4, c5⟩ := c3
          clear hX1 hX2 hLP hL1 hL2 hbig hlast hkk he
          omega
        rw [h0, Nat.mul_assoc, Nat.mul_comm (2 ^ (P - (e + R))), ← pow_split hq, hX]
        have := Nat.two_pow_pos (e + R)
        omega
      · rw [show ((P : Int) - 1074 - R - ((e : Int) - 1074)).toNat = 0 from by omega, show (((e : Int) - 1074) - ((P : Int) - 1074 - R)).toNat = e + R - P from by omega, Nat.shiftLeft_zero] at c3
        rw [← hX, pow_split (show P ≤ e + R by omega)]
        exact half_split _ _ _ _ c3.1 c3.2
    all_goals
      intro t ht
    · apply c1
      by_cases hq : e + R ≤ P
      · rw [show ((P : Int) - 1074 - R - ((e : Int) - 1074)).toNat = P - (e + R) from by omega, show (((e : Int) - 1074) - ((P : Int) - 1074 - R)).toNat = 0 from by omega, Nat.shiftLeft_eq]
        rw [← hX, pow_split hq, Nat.mul_comm (2 ^ (e + R)), ← Nat.mul_assoc] at ht
        have := Nat.le_of_mul_le_mul_right ht (Nat.two_pow_pos _)
        simpa using this
      · rw [show ((P : Int) - 1074 - R - ((e : Int) - 1074)).toNat = 0 from by omega, show (((e : Int) - 1074) - ((P : Int) - 1074 - R)).toNat = e + R - P from by omega, Nat.shiftLeft_zero]
        rw [← hX, pow_split (show P ≤ e + R by omega), Nat.mul_comm (2 ^ P), ← Nat.mul_assoc] at ht
        exact Nat.le_of_mul_le_mul_right ht (Nat.two_pow_pos _)
    · apply c2
      by_cases hq : e + R ≤ P
      · rw [show ((P : Int) - 1074 - R - ((e : Int) - 1074)).toNat = P - (e + R) from by omega, show (((e : Int) - 1074) - ((P : Int) - 1074 - R)).toNat = 0 from by omega, Nat.shiftLeft_eq]
        rw [← hX, pow_split hq, Nat.mul_comm (2 ^ (e + R)), ← Nat.mul_assoc] at ht
        have := Nat.le_of_mul_le_mul_right ht (Nat.two_pow_pos _)
        simpa using this
      · rw [show ((P : Int) - 1074 - R - ((e : Int) - 1074)).toNat = 0 from by omega, show (((e : Int) - 1074) - ((P : Int) - 1074 - R)).toNat = e + R - P from by omega, Nat.shiftLeft_zero]
        rw [← hX, pow_split (show P ≤ e + R by omega), Nat.mul_comm (2 ^ P), ← Nat.mul_assoc] at ht
        exact Nat.le_of_mul_le_mul_right ht (Nat.two_pow_pos _)
  obtain ⟨kept, hkept, kup, kdn, kh1, kh2⟩ := hcut
  have hk53 : kept ≤ 2 ^ 53 := kup _ (by
    have : 2 ^ (L + 1 + P) ≤ 2 ^ (53 + (e + R)) := Nat.pow_le_pow_right (by omega) (by omega)
    rw [Nat.pow_add 2 53] at this; omega)
  have hk52 : e ≠ 0 → 2 ^ 52 ≤ kept := fun h0 => kdn _ (by
    rw [← Nat.pow_add, show 52 + (e + R) = L + P from by omega]; exact hX1)
  have hX52 : e ≠ 0 → 2 ^ (52 + (e + R)) ≤ X := fun h0 => by rw [show 52 + (e + R) = L + P from by omega]; exact hX1
  have mono : (∀ n v, n ≤ 2 ^ 53 → X ≤ n * 2 ^ (v + R) → kept * 2 ^ e ≤ n * 2 ^ v) ∧ (∀ n v, n ≤ 2 ^ 53 → n * 2 ^ (v + R) ≤ X → n * 2 ^ v ≤ kept * 2 ^ e) := by
    refine ⟨fun n v hn hx => ?_, fun n v hn hx => ?_⟩
    · by_cases hv : e ≤ v
      · have h1 : X ≤ n * 2 ^ (v - e) * 2 ^ (e + R) := by
          rw [Nat.mul_assoc, ← Nat.pow_add, show v - e + (e + R) = v + R from by omega]; exact hx
        have h2 := kup _ h1
        have h3 := Nat.mul_le_mul_right (2 ^ e) h2
        rw [Nat.mul_assoc, ← Nat.pow_add, show v - e + e = v from by omega] at h3
        exact h3
      · have h0 : e ≠ 0 := by omega
        have h1 := hX52 h0
        have h2 : n * 2 ^ (v + R) ≤ 2 ^ 53 * 2 ^ (v + R) := Nat.mul_le_mul_right _ hn
        rw [← Nat.pow_add] at h2
        have h3 : 2 ^ (52 + (e + R)) ≤ 2 ^ (53 + (v + R)) := by omega
        have h4 := (Nat.pow_le_pow_iff_right (a := 2) (by omega)).1 h3
        have hve : v + 1 = e := by omega
        have h5 : X ≤ 2 ^ 52 * 2 ^ (e + R) := by
          rw [← Nat.pow_add, show 52 + (e + R) = 53 + (v + R) from by omega]; omega
        have h6 := kup _ h5
        have h7 : 2 ^ 53 * 2 ^ (v + R) ≤ n * 2 ^ (v + R) := by
          rw [← Nat.pow_add, show 53 + (v + R) = 52 + (e + R) from by omega]; omega
        have h8 := Nat.le_of_mul_le_mul_right h7 (Nat.two_pow_pos _)
        have h9 : n = 2 ^ 53 := by omega
        subst h9
        have h10 := Nat.mul_le_mul_right (2 ^ e) h6
        rw [← Nat.pow_add] at h10 ⊢
        rw [show 53 + v = 52 + e from by omega]
        exact h10
    · by_cases hv : e ≤ v
      · have h1 : n * 2 ^ (v - e) * 2 ^ (e + R) ≤ X := by
          rw [Nat.mul_assoc, ← Nat.pow_add, show v - e + (e + R) = v + R from by omega]; exact hx
        have h2 := kdn _ h1
        have h3 := Nat.mul_le_mul_right (2 ^ e) h2
        rw [Nat.mul_assoc, ← Nat.pow_add, show v - e + e = v from by omega] at h3
        exact h3
      · have h0 : e ≠ 0 := by omega
        have h1 := hk52 h0
        have h2 : n * 2 ^ v ≤ 2 ^ 53 * 2 ^ v := Nat.mul_le_mul_right _ hn
        have h3 : 2 ^ 52 * 2 ^ e ≤ kept * 2 ^ e := Nat.mul_le_mul_right _ h1
        have h4 : 2 ^ 53 * 2 ^ v ≤ 2 ^ 52 * 2 ^ e := by
          rw [← Nat.pow_add, ← Nat.pow_add]; exact Nat.pow_le_pow_right (by omega) (by omega)
        omega
  have key : ∃ m q : Nat, Ieee.double.read (Ieee.double.nearest s mag ((P : Int) - 1074 - R)) = .number s m ((q : Int) - 1074) ∧ m * 2 ^ q = kept * 2 ^ e := by
    unfold Ieee.Format.nearest
    rw [if_neg hm0]
    simp only [hlast]
    simp only [hkept, least_is, binade_is, inf_is]
    rw [show ((e : Int) - 1074 - -1074).toNat = e from by omega]
    have hr : e * 2 ^ 52 + kept < 2047 * 2 ^ 52 := by omega
    rw [Nat.min_eq_left (by omega), read_word s _ hr]
    by_cases hz : e * 2 ^ 52 + kept < 2 ^ 52
    · rw [if_pos hz]
      have hq0 : e = 0 := by omega
      subst hq0
      exact ⟨_, 0, rfl, by simp⟩
    · rw [if_neg hz]
      have hk52' : 2 ^ 52 ≤ kept := by
        by_cases h0 : e = 0
        · subst h0; omega
        · exact hk52 h0
      by_cases hk : kept = 2 ^ 53
      · subst hk
        refine ⟨2 ^ 52, e + 1, ?_, by rw [Nat.pow_succ]; omega⟩
        have h1 : (e * 2 ^ 52 + 2 ^ 53) % 2 ^ 52 = 0 := by omega
        have h2 : (e * 2 ^ 52 + 2 ^ 53) / 2 ^ 52 = e + 2 := by omega
        rw [h1, h2, Nat.add_zero, show (-1074 : Int) + ((e + 2 - 1 : Nat) : Int) = ((e + 1 : Nat) : Int) - 1074 from by omega]
      · refine ⟨kept, e, ?_, rfl⟩
        have h1 : (e * 2 ^ 52 + kept) % 2 ^ 52 = kept - 2 ^ 52 := by omega
        have h2 : (e * 2 ^ 52 + kept) / 2 ^ 52 = e + 1 := by omega
        rw [h1, h2, show 2 ^ 52 + (kept - 2 ^ 52) = kept from by omega, show (-1074 : Int) + ((e + 1 - 1 : Nat) : Int) = (e : Int) - 1074 from by omega]
  obtain ⟨m, q, k1, k2⟩ := key
  refine ⟨m, q, kept * 2 ^ e, k1, k2, ?_⟩
  rw [hX]
  refine ⟨mono.1, mono.2, fun hbig2 => ?_⟩
  have hee : 2 ^ (52 + (e + R)) ≤ X := by
    by_cases h0 : e = 0
    · subst h0; rw [Nat.zero_add]; exact hbig2
    · exact hX52 h0
  have ee : kept * 2 ^ e * 2 ^ R = kept * 2 ^ (e + R) := by rw [Nat.mul_assoc, ← Nat.pow_add]
  rw [ee]
  rw [Nat.pow_add] at hee
  have e53 : (2 : Nat) ^ 53 = 2 * 2 ^ 52 := by decide
  obtain ⟨W, hW⟩ : ∃ W, kept * 2 ^ (e + R) = W := ⟨_, rfl⟩
  obtain ⟨U, hU⟩ : ∃ U, 2 ^ (e + R) = U := ⟨_, rfl⟩
  rw [hW, hU] at kh1 kh2
  rw [hU] at hee
  rw [hW]
  omega

theorem near_D2 (s : Bool) (mag P R : Nat) (hbig : mag * 2 ^ P < 2 ^ (2096 + R)) :
    ∃ N : Nat, D (Ieee.double.write (.number s mag ((P : Int) - 1074 - R))) (if s then -(N : Int) else N) 0 ∧
      (∀ n v, n ≤ 2 ^ 53 → mag * 2 ^ P ≤ n * 2 ^ (v + R) → N ≤ n * 2 ^ v) ∧ (∀ n v, n ≤ 2 ^ 53 → n * 2 ^ (v + R) ≤ mag * 2 ^ P → n * 2 ^ v ≤ N) ∧
      (2 ^ (52 + R) ≤ mag * 2 ^ P → N * 2 ^ R * 2 ^ 53 ≤ mag * 2 ^ P * 2 ^ 53 + mag * 2 ^ P ∧ mag * 2 ^ P * 2 ^ 53 ≤ N * 2 ^ R * 2 ^ 53 + mag * 2 ^ P) := by
  show ∃ N : Nat, D (Ieee.double.nearest s mag ((P : Int) - 1074 - R)) _ 0 ∧ _
  by_cases hm : mag = 0
  · subst hm
    refine ⟨0, ?_, fun _ _ _ _ => by omega, fun n v _ h => ?_, fun h => ?_⟩
    · have : Ieee.double.nearest s 0 ((P : Int) - 1074 - R) = Ieee.double.word s 0 := by unfold Ieee.Format.nearest; simp
      rw [this]
      refine ⟨s, 0, 0, ?_, ?_⟩
      · rw [fmt_is, read_word s 0 (by decide)]; simp
      · rw [signed_eq]; cases s <;> simp
    · rw [Nat.zero_mul] at h
      have : n = 0 := by
        rcases Nat.mul_eq_zero.1 (Nat.le_zero.1 h) with h | h
        · exact h
        · have := Nat.two_pow_pos (v + R); omega
      subst this; omega
    · rw [Nat.zero_mul] at h
      have := Nat.two_pow_pos (52 + R); omega
  · obtain ⟨m, q, N, h1, h2, h3, h4, h5⟩ := near_gen2 s mag P R (by omega) hbig
    refine ⟨N, ⟨s, m, q, h1, ?_⟩, h3, h4, h5⟩
    rw [signed_eq, ← h2]; cases s <;> simp

theorem near_D (s : Bool) (mag P R : Nat) (hbig : mag * 2 ^ P < 2 ^ (2096 + R)) :
    ∃ N : Nat, D (Ieee.double.write (.number s mag ((P : Int) - 1074 - R))) (if s then -(N : Int) else N) 0 ∧
      (∀ n v, n ≤ 2 ^ 53 → mag * 2 ^ P ≤ n * 2 ^ (v + R) → N ≤ n * 2 ^ v) ∧ (∀ n v, n ≤ 2 ^ 53 → n * 2 ^ (v + R) ≤ mag * 2 ^ P → n * 2 ^ v ≤ N) := by
  obtain ⟨N, h1, h2, h3, h4⟩ := near_D2 s mag P R hbig
  exact ⟨N, h1, h2, h3⟩

theorem stick_up {w st P n v : Nat} (hw : 2 ^ 52 ≤ w) (hn : n ≤ 2 ^ 53) (hst : st ≤ 1) (h1 : w * 2 ^ (P + 1) ≤ n * 2 ^ v) (h2 : st = 1 → w * 2 ^ (P + 1) < n * 2 ^ v) : (2 * w + st) * 2 ^ P ≤ n * 2 ^ v := by
  have e : (2 * w) * 2 ^ P = w * 2 ^ (P + 1) := by rw [Nat.pow_succ, Nat.mul_comm 2 w, Nat.mul_assoc, Nat.mul_comm 2]
  by_cases h0 : st = 0
  · subst h0; rw [Nat.add_zero, e]; exact h1
  · have hs : st = 1 := by omega
    have h3 := h2 hs
    by_cases hv : P + 1 ≤ v
    · have e2 : n * 2 ^ v = n * 2 ^ (v - (P + 1)) * 2 ^ (P + 1) := by rw [Nat.mul_assoc, ← Nat.pow_add]; congr 2; omega
      rw [e2] at h3 ⊢
      have h4 := Nat.lt_of_mul_lt_mul_right h3
      have h5 : (2 * w + st) * 2 ^ P ≤ (2 * (w + 1)) * 2 ^ P := Nat.mul_le_mul_right _ (by omega)
      have e3 : (2 * (w + 1)) * 2 ^ P = (w + 1) * 2 ^ (P + 1) := by rw [Nat.pow_succ, Nat.mul_comm 2 (w + 1), Nat.mul_assoc, Nat.mul_comm 2]
      have h6 : (w + 1) * 2 ^ (P + 1) ≤ n * 2 ^ (v - (P + 1)) * 2 ^ (P + 1) := Nat.mul_le_mul_right _ h4
      omega
    · exfalso
      have h4 : n * 2 ^ v ≤ 2 ^ 53 * 2 ^ P := Nat.mul_le_mul hn (Nat.pow_le_pow_right (by omega) (by omega))
      have h5 : 2 ^ 52 * 2 ^ (P + 1) ≤ w * 2 ^ (P + 1) := Nat.mul_le_mul_right _ hw
      have h6 : 2 ^ 52 * 2 ^ (P + 1) = 2 ^ 53 * 2 ^ P := by rw [← Nat.pow_add, ← Nat.pow_add]; congr 1; omega
      omega
theorem stick_dn {w st P n v : Nat} (hw : 2 ^ 52 ≤ w) (hn : n ≤ 2 ^ 53) (h : n * 2 ^ v < (w + 1) * 2 ^ (P + 1)) : n * 2 ^ v ≤ (2 * w + st) * 2 ^ P := by
  have e : (2 * w) * 2 ^ P = w * 2 ^ (P + 1) := by rw [Nat.pow_succ, Nat.mul_comm 2 w, Nat.mul_assoc, Nat.mul_comm 2]
  have h0 : (2 * w) * 2 ^ P ≤ (2 * w + st) * 2 ^ P := Nat.mul_le_mul_right _ (by omega)
  by_cases hv : P + 1 ≤ v
  · have e2 : n * 2 ^ v = n * 2 ^ (v - (P + 1)) * 2 ^ (P + 1) := by rw [Nat.mul_assoc, ← Nat.pow_add]; congr 2; omega
    rw [e2] at h ⊢
    have h4 := Nat.lt_of_mul_lt_mul_right h
    have h6 : n * 2 ^ (v - (P + 1)) * 2 ^ (P + 1) ≤ w * 2 ^ (P + 1) := Nat.mul_le_mul_right _ (by omega)
    omega
  · have h4 : n * 2 ^ v ≤ 2 ^ 53 * 2 ^ P := Nat.mul_le_mul hn (Nat.pow_le_pow_right (by omega) (by omega))
    have h5 : 2 ^ 52 * 2 ^ (P + 1) ≤ w * 2 ^ (P + 1) := Nat.mul_le_mul_right _ hw
    have h6 : 2 ^ 52 * 2 ^ (P + 1) = 2 ^ 53 * 2 ^ P := by rw [← Nat.pow_add, ← Nat.pow_add]; congr 1; omega
    omega

/-! sums -/
theorem gdiv_near_u (e1074 e1000 e5074 e4000 e5128 : Nat) (he1 : e1074 = 1074) (he2 : e1000 = 1000) (he3 : e5074 = 5074) (he4 : e4000 = 4000) (he5 : e5128 = 5128) {x y : Nat} {a : Int} {b : Nat} (hx : D x a e1074) (hy : D y b e1074) (ha : a.natAbs ≤ 2 ^ 53) (hb : 0 < b) (hb2 : b < 2 ^ e1000) :
    ∃ N : Nat, (a < 0 → D (gdiv x y) (-(N : Int)) 0) ∧ (0 ≤ a → D (gdiv x y) N 0) ∧ (∀ n v, n ≤ 2 ^ 53 → a.natAbs * 2 ^ e1074 ≤ n * 2 ^ v * b → N ≤ n * 2 ^ v) ∧ (∀ n v, n ≤ 2 ^ 53 → n * 2 ^ v * b ≤ a.natAbs * 2 ^ e1074 → n * 2 ^ v ≤ N) := by
  obtain ⟨s, m, q, h1, h2⟩ := hx
  obtain ⟨s', m', q', h1', h2'⟩ := hy
  have hy' : m' * 2 ^ q' = b * 2 ^ e1074 ∧ s' = false := by
    rw [signed_eq] at h2'
    have hpos : (0 : Int) < (b : Int) * 2 ^ e1074 := Int.mul_pos (by omega) (Int.pow_pos (by omega))
    have hnn : (0 : Int) ≤ (m' : Int) * 2 ^ q' := Int.mul_nonneg (by omega) (Int.le_of_lt (Int.pow_pos (by omega)))
    cases s' with
    | true => simp only [if_true] at h2'; omega
    | false =>
      refine ⟨?_, rfl⟩
      simp only [Bool.false_eq_true, if_false] at h2'
      exact cast_pow (m := m') (q := q') (b := b) (v := e1074) h2'
  obtain ⟨hy1, rfl⟩ := hy'
  have hx1 : m * 2 ^ q = a.natAbs * 2 ^ e1074 := by
    have := congrArg Int.natAbs h2
    rw [signed_eq, Int.natAbs_mul, Int.natAbs_pow] at this
    rw [show (2 : Int).natAbs = 2 from rfl] at this
    rw [← this]
    cases s <;> simp [Int.natAbs_mul, Int.natAbs_pow, Int.natAbs_neg]
  have hm' : 0 < m' := by
    rcases Nat.eq_zero_or_pos m' with h | h
    · subst h
      have := Nat.mul_pos hb (Nat.two_pow_pos e1074)
      rw [Nat.zero_mul] at hy1; omega
    · exact h
  have hmlt := mag_lt (x := x) (s := s) (m := m) (i := (q : Int) - 1074) h1
  have hmlt' := mag_lt (x := y) (s := false) (m := m') (i := (q' : Int) - 1074) h1'
  unfold gdiv fdiv Ieee.Format.div
  rw [h1, h1']
  have hne : ¬ (m' = 0) := by omega
  simp only [Ieee.Datum.quotient, hne, if_false, Option.map_some, Option.getD_some, Bool.xor_false]
  rw [show FloatKind.f64.format.fractionBits = 52 from rfl, show FloatKind.f64.format.write = Ieee.double.write from rfl]
  by_cases hm0 : m = 0
  · subst hm0
    have ha0 : a = 0 := by
      rw [Nat.zero_mul] at hx1
      have := Nat.two_pow_pos e1074
      rcases Nat.mul_eq_zero.1 hx1.symm with h | h <;> omega
    subst ha0
    simp only [Nat.zero_shiftLeft, Nat.zero_div, Nat.zero_mod, Nat.mul_zero, bne_self_eq_false, Bool.toNat_false, Nat.add_zero]
    have : ∀ i : Int, Ieee.double.write (.number s 0 i) = Ieee.double.write (.number s 0 (((0 : Nat) : Int) - 1074)) := fun i => by
      show Ieee.double.nearest _ 0 _ = Ieee.double.nearest _ 0 _
      unfold Ieee.Format.nearest; simp
    rw [this]
    have hD : D (Ieee.double.write (.number s 0 (((0 : Nat) : Int) - 1074))) 0 0 := D_write (by rw [signed_eq]; simp) (by simp) (by omega)
    refine ⟨0, fun h => absurd h (by omega), fun _ => hD, fun _ _ _ _ => by omega, fun n v _ h => ?_⟩
    simp only [Int.natAbs_zero, Nat.zero_mul] at h
    rcases Nat.mul_eq_zero.1 (Nat.le_zero.1 h) with h | h <;> omega
  · have hs : a < 0 ↔ s = true := by
      rw [signed_eq] at h2
      have hpos : (0 : Int) < (m : Int) * 2 ^ q := Int.mul_pos (by omega) (Int.pow_pos (by omega))
      have hp2 : (0 : Int) < 2 ^ e1074 := Int.pow_pos (by omega)
      cases s with
      | true =>
        simp only [if_true] at h2
        refine ⟨fun _ => rfl, fun _ => ?_⟩
        by_cases h : a < 0
        · exact h
        · have := Int.mul_nonneg (by omega : 0 ≤ a) (Int.le_of_lt hp2); omega
      | false =>
        simp only [Bool.false_eq_true, if_false] at h2
        refine ⟨fun h => ?_, fun h => by cases h⟩
        have := Int.mul_neg_of_neg_of_pos h hp2; omega
    obtain ⟨L, hL⟩ : ∃ L, m.log2 = L := ⟨_, rfl⟩
    obtain ⟨L', hL'⟩ : ∃ L', m'.log2 = L' := ⟨_, rfl⟩
    have hLm1 : 2 ^ L ≤ m := by rw [← hL]; exact Nat.log2_self_le hm0
    have hLm2 : m' < 2 ^ (L' + 1) := by rw [← hL']; exact Nat.lt_log2_self
    have hL52 : L ≤ 52 := by
      have : m.log2 < 53 := (Nat.log2_lt hm0).2 hmlt
      omega
    have hL52' : L' ≤ 52 := by
      have : m'.log2 < 53 := (Nat.log2_lt hne).2 hmlt'
      omega
    rw [hL, hL', Nat.shiftLeft_eq]
    obtain ⟨more, hmore⟩ : ∃ more, 52 + 2 + L' - L = more := ⟨_, rfl⟩
    rw [hmore]
    obtain ⟨w, hw⟩ : ∃ w, m * 2 ^ more / m' = w := ⟨_, rfl⟩
    obtain ⟨st, hst⟩ : ∃ st, (m * 2 ^ more % m' != 0).toNat = st := ⟨_, rfl⟩
    rw [hw, hst]
    have hst1 : st ≤ 1 := by rw [← hst]; cases (m * 2 ^ more % m' != 0) <;> simp
    have hdm := Nat.div_add_mod (m * 2 ^ more) m'
    have hml := Nat.mod_lt (m * 2 ^ more) hm'
    have hst0 : st = 1 → 0 < m * 2 ^ more % m' := fun h => by
      rcases Nat.eq_zero_or_pos (m * 2 ^ more % m') with h0 | h0
      · rw [h0] at hst; simp at hst; omega
      · exact h0
    rw [hw] at hdm
    have hw52 : 2 ^ 52 ≤ w := by
      rw [← hw, Nat.le_div_iff_mul_le hm']
      have h3 : 2 ^ L * 2 ^ more ≤ m * 2 ^ more := Nat.mul_le_mul_right _ hLm1
      have h4 : 2 ^ 52 * m' ≤ 2 ^ 52 * 2 ^ (L' + 1) := Nat.mul_le_mul_left _ (by omega)
      have h5 : 2 ^ 52 * 2 ^ (L' + 1) ≤ 2 ^ L * 2 ^ more := by
        rw [← Nat.pow_add, ← Nat.pow_add]; exact Nat.pow_le_pow_right (by omega) (by omega)
      omega
    -- the place
    have hq' : q' ≤ 2100 := by
      have h3 : 1 * 2 ^ q' ≤ m' * 2 ^ q' := Nat.mul_le_mul_right _ hm'
      have h4 := mul_pow_lt b e1000 e1074 hb2
      have h5 : 2 ^ q' < 2 ^ (e1000 + e1074) := by omega
      have := (Nat.pow_lt_pow_iff_right (a := 2) (by omega)).1 h5
      omega
    obtain ⟨P, hP⟩ : ∃ P : Nat, (P : Int) = (q : Int) - q' - more - 1 + (e5074 : Int) := ⟨((q : Int) - q' - more - 1 + (e5074 : Int)).toNat, by omega⟩
    have hpl : (q : Int) - 1074 - ((q' : Int) - 1074) - (more : Int) - 1 = (P : Int) - 1074 - (e4000 : Int) := by omega
    rw [hpl]
    -- the quotient in units
    have hU : m * 2 ^ more * 2 ^ (P + 1) * 2 ^ q' = a.natAbs * 2 ^ e5074 * 2 ^ e1074 := by
      rw [Nat.mul_assoc, Nat.mul_assoc, ← Nat.pow_add, ← Nat.pow_add, show more + (P + 1 + q') = q + e5074 from by omega, Nat.pow_add, ← Nat.mul_assoc, hx1, Nat.mul_right_comm]
    have hlow : w * 2 ^ (P + 1) * b + (m * 2 ^ more % m') * 2 ^ (P + 1) * 2 ^ q' / 2 ^ e1074 * 0 ≤ a.natAbs * 2 ^ e5074 := by
      rw [Nat.mul_zero, Nat.add_zero]
      have h3 : w * m' * 2 ^ (P + 1) * 2 ^ q' ≤ m * 2 ^ more * 2 ^ (P + 1) * 2 ^ q' := Nat.mul_le_mul_right _ (Nat.mul_le_mul_right _ (by rw [Nat.mul_comm w]; omega))
      have h4 : w * m' * 2 ^ (P + 1) * 2 ^ q' = w * 2 ^ (P + 1) * b * 2 ^ e1074 := by
        calc w * m' * 2 ^ (P + 1) * 2 ^ q' = w * 2 ^ (P + 1) * (m' * 2 ^ q') := by grind
          _ = _ := by rw [hy1]; grind
      rw [h4, hU] at h3
      exact Nat.le_of_mul_le_mul_right h3 (Nat.two_pow_pos _)
    rw [Nat.mul_zero, Nat.add_zero] at hlow
    have hlow1 : st = 1 → w * 2 ^ (P + 1) * b < a.natAbs * 2 ^ e5074 := fun h => by
      have h0 := hst0 h
      have h3 : w * m' * 2 ^ (P + 1) * 2 ^ q' < m * 2 ^ more * 2 ^ (P + 1) * 2 ^ q' :=
        Nat.mul_lt_mul_of_pos_right (Nat.mul_lt_mul_of_pos_right (by rw [Nat.mul_comm w]; omega) (Nat.two_pow_pos _)) (Nat.two_pow_pos _)
      have h4 : w * m' * 2 ^ (P + 1) * 2 ^ q' = w * 2 ^ (P + 1) * b * 2 ^ e1074 := by
        calc w * m' * 2 ^ (P + 1) * 2 ^ q' = w * 2 ^ (P + 1) * (m' * 2 ^ q') := by grind
          _ = _ := by rw [hy1]; grind
      rw [h4, hU] at h3
      exact Nat.lt_of_mul_lt_mul_right h3
    have hhigh : a.natAbs * 2 ^ e5074 < (w + 1) * 2 ^ (P + 1) * b := by
      have h3 : m * 2 ^ more * 2 ^ (P + 1) * 2 ^ q' < (w + 1) * m' * 2 ^ (P + 1) * 2 ^ q' :=
        Nat.mul_lt_mul_of_pos_right (Nat.mul_lt_mul_of_pos_right (by rw [Nat.add_mul, Nat.mul_comm w]; omega) (Nat.two_pow_pos _)) (Nat.two_pow_pos _)
      have h4 : (w + 1) * m' * 2 ^ (P + 1) * 2 ^ q' = (w + 1) * 2 ^ (P + 1) * b * 2 ^ e1074 := by
        calc (w + 1) * m' * 2 ^ (P + 1) * 2 ^ q' = (w + 1) * 2 ^ (P + 1) * (m' * 2 ^ q') := by grind
          _ = _ := by rw [hy1]; grind
      rw [h4, hU] at h3
      exact Nat.lt_of_mul_lt_mul_right h3
    have hbig : (2 * w + st) * 2 ^ P < 2 ^ (2096 + e4000) := by
      have h3 : (2 * w + st) * 2 ^ P ≤ (4 * w) * 2 ^ P := Nat.mul_le_mul_right _ (by omega)
      have h4 : (4 * w) * 2 ^ P = 2 * (w * 2 ^ (P + 1)) := by rw [Nat.pow_succ]; grind
      have h5 : w * 2 ^ (P + 1) * 1 ≤ w * 2 ^ (P + 1) * b := Nat.mul_le_mul_left _ hb
      have h6 : a.natAbs * 2 ^ e5074 ≤ 2 ^ 53 * 2 ^ e5074 := Nat.mul_le_mul_right _ ha
      have h7 : 2 * (2 ^ 53 * 2 ^ e5074) < 2 ^ (2096 + e4000) := by
        have : 2 * (2 ^ 53 * 2 ^ e5074) = 2 ^ e5128 := by rw [← Nat.pow_add, Nat.mul_comm, ← Nat.pow_succ]; congr 1; omega
        rw [this]; exact Nat.pow_lt_pow_right (by omega) (by omega)
      omega
    obtain ⟨N, g1, g2, g3⟩ := near_D s (2 * w + st) P e4000 hbig
    refine ⟨N, ?_, ?_, fun n v hn h => g2 n v hn ?_, fun n v hn h => g3 n v hn ?_⟩
    · intro h0
      cases s with
      | true => simpa using g1
      | false => have := hs.1 h0; cases this
    · intro h0
      cases s with
      | true => have := hs.2 rfl; omega
      | false => simpa using g1
    · have h3 := Nat.mul_le_mul_right (2 ^ e4000) h
      have h4 : a.natAbs * 2 ^ e1074 * 2 ^ e4000 = a.natAbs * 2 ^ e5074 := by rw [Nat.mul_assoc, ← Nat.pow_add, show e1074 + e4000 = e5074 from by omega]
      have h5 := mulpow_r n v b e4000
      rw [h4, h5] at h3
      refine stick_up hw52 hn hst1 ?_ ?_
      · exact Nat.le_of_mul_le_mul_right (Nat.le_trans hlow h3) hb
      · intro hs1; exact Nat.lt_of_mul_lt_mul_right (Nat.lt_of_lt_of_le (hlow1 hs1) h3)
    · have h3 := Nat.mul_le_mul_right (2 ^ e4000) h
      have h4 : a.natAbs * 2 ^ e1074 * 2 ^ e4000 = a.natAbs * 2 ^ e5074 := by rw [Nat.mul_assoc, ← Nat.pow_add, show e1074 + e4000 = e5074 from by omega]
      have h5 := mulpow_r n v b e4000
      rw [h4, h5] at h3
      exact stick_dn hw52 hn (Nat.lt_of_mul_lt_mul_right (Nat.lt_of_le_of_lt h3 hhigh))


theorem gdiv_near {x y : Nat} {a : Int} {b : Nat} (hx : D x a 1074) (hy : D y b 1074) (ha : a.natAbs ≤ 2 ^ 53) (hb : 0 < b) (hb2 : b < 2 ^ 1000) :
    ∃ N : Nat, (a < 0 → D (gdiv x y) (-(N : Int)) 0) ∧ (0 ≤ a → D (gdiv x y) N 0) ∧ (∀ n v, n ≤ 2 ^ 53 → a.natAbs * 2 ^ 1074 ≤ n * 2 ^ v * b → N ≤ n * 2 ^ v) ∧ (∀ n v, n ≤ 2 ^ 53 → n * 2 ^ v * b ≤ a.natAbs * 2 ^ 1074 → n * 2 ^ v ≤ N) :=
  gdiv_near_u 1074 1000 5074 4000 5128 rfl rfl rfl rfl rfl hx hy ha hb hb2

/-! roots -/
theorem sum_num {a b d : Ieee.Datum} (h : a.sum b = some d) : d.isNaN = false := by
  cases a <;> cases b <;> simp only [Ieee.Datum.sum] at h
  all_goals first
    | (cases h; done)
    | (cases h; rfl)
    | (split at h
       · cases h; rfl
       · cases h)
theorem qn_lt : qn < 2 ^ 64 := by decide
theorem map_lt {o : Option Ieee.Datum} (h : ∀ d, o = some d → d.isNaN = false) : (o.map FloatKind.f64.format.write).getD qn < 2 ^ 64 := by
  cases o with
  | none => exact qn_lt
  | some d =>
    rcases write_lt d with h1 | h1
    · exact h1
    · rw [h d rfl] at h1; cases h1
theorem gsub_lt (x y : Nat) : gsub x y < 2 ^ 64 := by unfold gsub fsub Ieee.Format.sub; exact map_lt fun d h => sum_num h
theorem D_absn {x : Nat} {n : Int} {v : Nat} (hx : x < 2 ^ 64) (h : D x n v) : D (x % 2 ^ 63) (n.natAbs : Int) v := by
  obtain ⟨s, m, q, h1, h2⟩ := h
  obtain ⟨s2, m2, q2, t1, t2⟩ := D_abs hx h1
  refine ⟨s2, m2, q2, t1, ?_⟩
  rw [t2]
  have := congrArg Int.natAbs h2
  rw [signed_eq, Int.natAbs_mul, Int.natAbs_pow, show (2 : Int).natAbs = 2 from rfl] at this
  have e : (if s = true then -((m : Int) * 2 ^ q) else (m : Int) * 2 ^ q).natAbs = m * 2 ^ q := by
    cases s <;> simp [Int.natAbs_mul, Int.natAbs_pow, Int.natAbs_neg]
  rw [e] at this
  exact_mod_cast this
theorem fsub_g {x y z : Nat} (h : fsub x y = some z) : z = gsub x y := by unfold gsub; rw [h]; rfl
theorem near_self {y : Nat} {Y : Int} (h : D y Y 0) : D (gsub y y) 0 0 := gsub_D h h (by omega) (by omega) (by omega)

end Go.Sx
