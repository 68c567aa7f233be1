/-
  Floats as exact numbers: reading, writing, sums, differences, products of numbers that a word can hold. Ours; it knows no program.
-/
import Derived.Test.YtjgpiealnfbkcaaSxP
namespace Go.Sx
set_option linter.unusedVariables false
set_option linter.unusedSimpArgs false
open Ieee

theorem least_is : Ieee.double.leastPlace = -1074 := by decide
theorem binade_is : Ieee.double.binade = 2 ^ 52 := by decide
theorem inf_is : Ieee.double.infRung = 2047 * 2 ^ 52 := by decide
theorem sign_is : Ieee.double.signWeight = 2 ^ 63 := by decide
theorem frac_is : Ieee.double.fractionBits = 52 := rfl

theorem read_word (neg : Bool) (r : Nat) (h : r < 2047 * 2 ^ 52) :
    Ieee.double.read (Ieee.double.word neg r) = if r < 2 ^ 52 then .number neg r (-1074) else .number neg (2 ^ 52 + r % 2 ^ 52) (-1074 + (r / 2 ^ 52 - 1 : Nat)) := by
  have hr : r < 2 ^ 63 := by omega
  have h1 : (Ieee.double.word neg r) % Ieee.double.signWeight = r := by
    unfold Format.word; rw [sign_is]
    cases neg <;> simp <;> omega
  have h2 : ((Ieee.double.word neg r) / Ieee.double.signWeight % 2 == 1) = neg := by
    unfold Format.word; rw [sign_is]
    cases neg
    · simp; omega
    · simp; omega
  unfold Format.read
  simp only [h1, h2, binade_is, inf_is, least_is, h, if_true]

theorem cut_exact (neg : Bool) (n drop : Nat) (h : 2 ^ drop ∣ n) : Toward.even.cut neg n drop = n / 2 ^ drop := by
  unfold Toward.cut
  by_cases h0 : n = 0
  · subst h0; simp
  · have hle : drop ≤ n.log2 + 2 := by
      obtain ⟨c, hc⟩ := h
      have hcp : 0 < c := Nat.pos_of_ne_zero fun e => by rw [e] at hc; simp at hc; exact h0 hc
      have : 2 ^ drop ≤ n := by rw [hc]; exact Nat.le_mul_of_pos_right _ hcp
      have : drop ≤ n.log2 := (Nat.le_log2 h0).2 this
      omega
    have hmin : min drop (n.log2 + 2) = drop := Nat.min_eq_left hle
    have hgap : 1 <<< drop = 2 ^ drop := by rw [Nat.shiftLeft_eq, Nat.one_mul]
    have hrest : n % 2 ^ drop = 0 := Nat.mod_eq_zero_of_dvd h
    simp only [hmin, hgap, hrest]
    have hp : 0 < 2 ^ drop := Nat.two_pow_pos drop
    have : (decide (2 ^ drop < 2 * 0) || (2 ^ drop == 2 * 0 && n / 2 ^ drop % 2 == 1)) = false := by
      have h1 : ¬ (2 ^ drop < 2 * 0) := by omega
      have h2 : ¬ (2 ^ drop = 2 * 0) := by omega
      simp [h2]
    rw [this]; rfl

theorem pow_split {a b : Nat} (h : a ≤ b) : 2 ^ b = 2 ^ a * 2 ^ (b - a) := by rw [← Nat.pow_add]; congr 1; omega

theorem near_read (neg : Bool) (mag p k v : Nat) (hm : 0 < mag) (h : mag * 2 ^ p = k * 2 ^ v) (hk : k ≤ 2 ^ 53) (hv : v ≤ 2044) :
    ∃ kept q : Nat, Ieee.double.read (Ieee.double.nearest neg mag ((p : Int) - 1074)) = .number neg kept ((q : Int) - 1074) ∧ kept * 2 ^ q = k * 2 ^ v := by
  have hm0 : mag ≠ 0 := by omega
  obtain ⟨L, hL⟩ : ∃ L, mag.log2 = L := ⟨_, rfl⟩
  have hL1 : 2 ^ L ≤ mag := by rw [← hL]; exact Nat.log2_self_le hm0
  have hL2 : mag < 2 ^ (L + 1) := by rw [← hL]; exact Nat.lt_log2_self
  have hN1 : 2 ^ (L + p) ≤ k * 2 ^ v := by rw [← h, Nat.pow_add]; exact Nat.mul_le_mul_right _ hL1
  have hN2 : k * 2 ^ v < 2 ^ (L + 1 + p) := by rw [← h, Nat.pow_add]; exact Nat.mul_lt_mul_of_pos_right hL2 (Nat.two_pow_pos p)
  have hk53 : k * 2 ^ v ≤ 2 ^ (53 + v) := by rw [Nat.pow_add]; exact Nat.mul_le_mul_right _ hk
  have hLp : L + p ≤ 53 + v := (Nat.pow_le_pow_iff_right (by omega)).1 (Nat.le_trans hN1 hk53)
  -- the place of the last digit
  have hlast : max ((p : Int) - 1074 + (mag.log2 : Int) - (Ieee.double.fractionBits : Int)) Ieee.double.leastPlace = ((p + L - 52 : Nat) : Int) - 1074 := by
    rw [least_is, frac_is, hL]; omega
  obtain ⟨q, hq⟩ : ∃ q, p + L - 52 = q := ⟨_, rfl⟩
  rw [hq] at hlast
  -- what is kept
  have hkept : ∃ kept, Toward.even.cut neg (mag <<< ((p : Int) - 1074 - ((q : Int) - 1074)).toNat) (((q : Int) - 1074) - ((p : Int) - 1074)).toNat = kept ∧ kept * 2 ^ q = mag * 2 ^ p := by
    by_cases hqp : q ≤ p
    · refine ⟨mag * 2 ^ (p - q), ?_, ?_⟩
      · rw [show ((p : Int) - 1074 - ((q : Int) - 1074)).toNat = p - q from by omega, show (((q : Int) - 1074) - ((p : Int) - 1074)).toNat = 0 from by omega]
        rw [cut_exact _ _ _ (by simp), Nat.shiftLeft_eq]; simp
      · rw [Nat.mul_assoc, ← Nat.pow_add]; congr 2; omega
    · have hd : 2 ^ (q - p) ∣ mag := by
        by_cases hk' : k = 2 ^ 53
        · have hN : mag * 2 ^ p = 2 ^ (53 + v) := by rw [h, hk', Nat.pow_add]
          have hpv : p ≤ 53 + v := by omega
          have : mag = 2 ^ (53 + v - p) := by
            rw [pow_split hpv, Nat.mul_comm (2 ^ p)] at hN
            exact Nat.eq_of_mul_eq_mul_right (Nat.two_pow_pos p) hN
          rw [this]; exact Nat.pow_dvd_pow 2 (by omega)
        · have hk2 : k * 2 ^ v < 2 ^ (53 + v) := by rw [Nat.pow_add]; exact Nat.mul_lt_mul_of_pos_right (by omega) (Nat.two_pow_pos v)
          have hlt : L + p < 53 + v := (Nat.pow_lt_pow_iff_right (by omega)).1 (Nat.lt_of_le_of_lt hN1 hk2)
          have hpv : p ≤ v := by omega
          have : mag = k * 2 ^ (v - p) := by
            rw [pow_split hpv, Nat.mul_comm (2 ^ p), ← Nat.mul_assoc] at h
            exact Nat.eq_of_mul_eq_mul_right (Nat.two_pow_pos p) h
          rw [this]
          exact Nat.dvd_trans (Nat.pow_dvd_pow 2 (by omega)) (Nat.dvd_mul_left _ _)
      refine ⟨mag / 2 ^ (q - p), ?_, ?_⟩
      · rw [show ((p : Int) - 1074 - ((q : Int) - 1074)).toNat = 0 from by omega, show (((q : Int) - 1074) - ((p : Int) - 1074)).toNat = q - p from by omega]
        rw [Nat.shiftLeft_zero, cut_exact _ _ _ hd]
      · rw [pow_split (show p ≤ q by omega), Nat.mul_comm (2 ^ p), ← Nat.mul_assoc, Nat.div_mul_cancel hd]
  obtain ⟨kept, hcut, hkm⟩ := hkept
  have hkb : kept < 2 ^ 53 := by
    have : kept * 2 ^ q < 2 ^ (L + 1 + p) := by rw [hkm, h]; exact hN2
    have h3 : 2 ^ (L + 1 + p) ≤ 2 ^ (53 + q) := Nat.pow_le_pow_right (by omega) (by omega)
    have h4 : kept * 2 ^ q < 2 ^ 53 * 2 ^ q := by rw [← Nat.pow_add]; omega
    exact Nat.lt_of_mul_lt_mul_right h4
  have hkl : q ≠ 0 → 2 ^ 52 ≤ kept := by
    intro hq0
    have h3 : 2 ^ (L + p) ≤ kept * 2 ^ q := by rw [hkm, h]; exact hN1
    rw [show L + p = 52 + q from by omega, Nat.pow_add] at h3
    exact Nat.le_of_mul_le_mul_right h3 (Nat.two_pow_pos q)
  have hqle : q ≤ 2045 := by omega
  refine ⟨kept, q, ?_, by rw [hkm, h]⟩
  unfold Format.nearest
  rw [if_neg hm0]
  simp only [hlast]
  simp only [hcut, least_is, binade_is, inf_is]
  have hq2 : ((q : Int) - 1074 - -1074).toNat = q := by omega
  rw [hq2]
  have hr : q * 2 ^ 52 + kept < 2047 * 2 ^ 52 := by omega
  rw [Nat.min_eq_left (by omega), read_word neg _ hr]
  by_cases hz : q * 2 ^ 52 + kept < 2 ^ 52
  · rw [if_pos hz]
    have hq0 : q = 0 := by omega
    subst hq0
    simp
  · rw [if_neg hz]
    by_cases hq0 : q = 0
    · subst hq0
      have : kept = 2 ^ 52 + (kept - 2 ^ 52) := by omega
      have h1 : (0 * 2 ^ 52 + kept) % 2 ^ 52 = kept - 2 ^ 52 := by omega
      have h2 : (0 * 2 ^ 52 + kept) / 2 ^ 52 = 1 := by omega
      rw [h1, h2, show 2 ^ 52 + (kept - 2 ^ 52) = kept from by omega]
      rfl
    · have hk52 := hkl hq0
      have h1 : (q * 2 ^ 52 + kept) % 2 ^ 52 = kept - 2 ^ 52 := by omega
      have h2 : (q * 2 ^ 52 + kept) / 2 ^ 52 = q + 1 := by omega
      rw [h1, h2, show 2 ^ 52 + (kept - 2 ^ 52) = kept from by omega, show (-1074 : Int) + ((q + 1 - 1 : Nat) : Int) = (q : Int) - 1074 from by omega]

/-! ### words as numbers -/
def D (x : Nat) (n : Int) (v : Nat) : Prop := ∃ (s : Bool) (m q : Nat), FloatKind.f64.format.read x = .number s m ((q : Int) - 1074) ∧ signed s m q = n * 2 ^ v

theorem fmt_is : FloatKind.f64.format = Ieee.double := rfl

theorem signed_eq (s : Bool) (m q : Nat) : signed s m q = (if s then -((m : Int) * 2 ^ q) else (m : Int) * 2 ^ q) := by
  unfold signed; rw [Nat.shiftLeft_eq]; cases s <;> simp

theorem signed_mul (s : Bool) (m q r : Nat) : signed s m (q + r) = signed s m q * 2 ^ r := by
  rw [signed_eq, signed_eq, Int.pow_add]; cases s <;> simp [Int.mul_assoc, Int.neg_mul]

theorem D.scale {x : Nat} {n : Int} {v w : Nat} (h : D x n (v + w)) : D x (n * 2 ^ w) v := by
  obtain ⟨s, m, q, h1, h2⟩ := h
  exact ⟨s, m, q, h1, by rw [h2, Int.mul_assoc, ← Int.pow_add, Nat.add_comm]⟩

theorem D_write {s : Bool} {m : Nat} {p : Nat} {n : Int} {v : Nat} (h : signed s m p = n * 2 ^ v) (hn : n.natAbs ≤ 2 ^ 53) (hv : v ≤ 2044) : D (Ieee.double.write (.number s m ((p : Int) - 1074))) n v := by
  show D (Ieee.double.nearest s m ((p : Int) - 1074)) n v
  have hp : (0 : Int) < 2 ^ v := Int.pow_pos (by omega)
  by_cases hm : m = 0
  · subst hm
    have hn0 : n = 0 := by
      rw [signed_eq] at h
      have h' : n * 2 ^ v = 0 := by rw [← h]; cases s <;> simp
      rcases Int.mul_eq_zero.1 h' with h' | h'
      · exact h'
      · omega
    subst hn0
    have : Ieee.double.nearest s 0 ((p : Int) - 1074) = Ieee.double.word s 0 := by unfold Format.nearest; simp
    rw [this]
    refine ⟨s, 0, 0, ?_, ?_⟩
    · rw [fmt_is, read_word s 0 (by decide)]; simp
    · rw [signed_eq]; cases s <;> simp
  · have hmag : m * 2 ^ p = n.natAbs * 2 ^ v := by
      have := congrArg Int.natAbs h
      rw [signed_eq, Int.natAbs_mul, Int.natAbs_pow] at this
      rw [show (2 : Int).natAbs = 2 from rfl] at this
      rw [← this]
      cases s <;> simp [Int.natAbs_mul, Int.natAbs_pow, Int.natAbs_neg]
    obtain ⟨kept, q, h1, h2⟩ := near_read s m p n.natAbs v (by omega) hmag hn hv
    refine ⟨s, kept, q, h1, ?_⟩
    rw [← h, signed_eq, signed_eq]
    have : ((kept : Int)) * 2 ^ q = (m : Int) * 2 ^ p := by
      have := h2.trans hmag.symm
      exact_mod_cast this
    rw [this]

theorem D_num {x : Nat} {n : Int} {v : Nat} (h : D x n v) : fnan x = false := by
  obtain ⟨s, m, q, h1, h2⟩ := h
  unfold fnan FloatKind.decode
  rw [h1]; rfl

theorem signed_min (s : Bool) (m q b : Nat) (h : b ≤ q) : signed s m (q - b) * 2 ^ b = signed s m q := by
  rw [← signed_mul]; congr 1; omega

theorem D_order {x y : Nat} {a b : Int} {v : Nat} (hx : D x a v) (hy : D y b v) : FloatKind.f64.format.order x y = some (compare a b) := by
  obtain ⟨s, m, q, h1, h2⟩ := hx
  obtain ⟨s', m', q', h1', h2'⟩ := hy
  unfold Format.order
  rw [h1, h1']
  simp only [Datum.order]
  have hb : min ((q : Int) - 1074) ((q' : Int) - 1074) = ((min q q' : Nat) : Int) - 1074 := by omega
  rw [hb, show ((q : Int) - 1074 - (((min q q' : Nat) : Int) - 1074)).toNat = q - min q q' from by omega, show ((q' : Int) - 1074 - (((min q q' : Nat) : Int) - 1074)).toNat = q' - min q q' from by omega]
  obtain ⟨B, hB⟩ : ∃ B, min q q' = B := ⟨_, rfl⟩
  rw [hB]
  have e1 := signed_min s m q B (by omega)
  have e2 := signed_min s' m' q' B (by omega)
  rw [h2] at e1; rw [h2'] at e2
  have hB0 : (0 : Int) < 2 ^ B := Int.pow_pos (by omega)
  have hv0 : (0 : Int) < 2 ^ v := Int.pow_pos (by omega)
  congr 1
  have hlt : ∀ {c d e f : Int}, c * 2 ^ B = e * 2 ^ v → d * 2 ^ B = f * 2 ^ v → (c < d ↔ e < f) := by
    intro c d e f h1 h2
    constructor
    · intro h; have := Int.mul_lt_mul_of_pos_right h hB0; rw [h1, h2] at this; exact Int.lt_of_mul_lt_mul_right this (Int.le_of_lt hv0)
    · intro h; have := Int.mul_lt_mul_of_pos_right h hv0; rw [← h1, ← h2] at this; exact Int.lt_of_mul_lt_mul_right this (Int.le_of_lt hB0)
  rcases Int.lt_trichotomy a b with h | h | h
  · have := (hlt e1 e2).2 h
    rw [Int.compare_eq_lt.2 h, Int.compare_eq_lt.2 this]
  · subst h
    have : signed s m (q - B) = signed s' m' (q' - B) := Int.eq_of_mul_eq_mul_right (by omega) (e1.trans e2.symm)
    rw [this]; simp
  · have := (hlt e2 e1).2 h
    rw [Int.compare_eq_gt.2 h, Int.compare_eq_gt.2 this]

theorem D_neg {x : Nat} {a : Int} {v : Nat} (hx : D x a v) : ∃ s m q, FloatKind.f64.format.read x = .number s m ((q : Nat) - 1074 : Int) ∧ signed (!s) m q = -a * 2 ^ v := by
  obtain ⟨s, m, q, h1, h2⟩ := hx
  refine ⟨s, m, q, h1, ?_⟩
  rw [Int.neg_mul, ← h2, signed_eq, signed_eq]; cases s <;> simp

theorem D_sub {x y : Nat} {a b c : Int} {v : Nat} (hx : D x a v) (hy : D y b v) (hc : a - b = c) (hn : c.natAbs ≤ 2 ^ 53) (hv : v ≤ 2044) : ∃ z, fsub x y = some z ∧ D z c v := by
  subst hc
  obtain ⟨s, m, q, h1, h2⟩ := hx
  obtain ⟨s', m', q', h1', h2'⟩ := D_neg hy
  unfold fsub Format.sub
  rw [h1, h1']
  simp only [Datum.sum, Datum.opposite, Option.map_some]
  have hb : min ((q : Int) - 1074) ((q' : Int) - 1074) = ((min q q' : Nat) : Int) - 1074 := by omega
  rw [hb, show ((q : Int) - 1074 - (((min q q' : Nat) : Int) - 1074)).toNat = q - min q q' from by omega, show ((q' : Int) - 1074 - (((min q q' : Nat) : Int) - 1074)).toNat = q' - min q q' from by omega]
  obtain ⟨B, hB⟩ : ∃ B, min q q' = B := ⟨_, rfl⟩
  rw [hB]
  have e1 := signed_min s m q B (by omega)
  have e2 := signed_min (!s') m' q' B (by omega)
  obtain ⟨t, ht⟩ : ∃ t, signed s m (q - B) + signed (!s') m' (q' - B) = t := ⟨_, rfl⟩
  rw [ht]
  refine ⟨_, rfl, D_write ?_ hn hv⟩
  have hsum : t * 2 ^ B = (a - b) * 2 ^ v := by rw [← ht, Int.add_mul, e1, e2, h2, h2', Int.sub_mul, Int.neg_mul]; omega
  rw [← hsum, signed_eq]
  by_cases h0 : t = 0
  · subst h0; simp
  · rw [if_neg h0]
    by_cases hneg : t < 0
    · simp only [hneg, decide_true, if_true]
      rw [← Int.neg_mul]; congr 1; omega
    · simp only [hneg, decide_false, Bool.false_eq_true, if_false]
      congr 1; omega

theorem mag_lt {x : Nat} {s : Bool} {m : Nat} {i : Int} (h : Ieee.double.read x = .number s m i) : m < 2 ^ 53 := by
  unfold Format.read at h
  simp only [sign_is, binade_is, inf_is, least_is] at h
  split at h
  · simp only [Datum.number.injEq] at h; omega
  · split at h
    · simp only [Datum.number.injEq] at h; omega
    · split at h <;> cases h

theorem D_le {x y : Nat} {a b : Int} {v : Nat} (hx : D x a v) (hy : D y b v) : fle x y = decide (a ≤ b) := by
  unfold fle; rw [D_order hx hy]
  rcases Int.lt_trichotomy a b with h | h | h
  · rw [Int.compare_eq_lt.2 h]; simp; omega
  · subst h; simp
  · rw [Int.compare_eq_gt.2 h]; simp; omega
theorem D_eq {x y : Nat} {a b : Int} {v : Nat} (hx : D x a v) (hy : D y b v) : feq x y = decide (a = b) := by
  unfold feq; rw [D_order hx hy]
  rcases Int.lt_trichotomy a b with h | h | h
  · rw [Int.compare_eq_lt.2 h]; simp; omega
  · subst h; simp
  · rw [Int.compare_eq_gt.2 h]; simp; omega
theorem D_ne {x y : Nat} {a b : Int} {v : Nat} (hx : D x a v) (hy : D y b v) : fne x y = !decide (a = b) := by rw [fne_feq, D_eq hx hy]
end Go.Sx
