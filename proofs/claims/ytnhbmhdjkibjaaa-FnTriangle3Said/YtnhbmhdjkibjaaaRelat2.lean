/-
  Ranges of numbers, and differences. Ours; it knows no program.
-/
import Derived.Test.YtnhbmhdjkibjaaaHypot
namespace Go.Sx
open Ieee (signed)
set_option linter.unusedVariables false
set_option linter.unusedSimpArgs false
set_option maxRecDepth 100000

/-- V is nought, or its greatness is between two bounds -/
def Rg (lo hi V : Rat) : Prop := V = 0 ∨ (lo ≤ V ∧ V ≤ hi) ∨ (lo ≤ -V ∧ -V ≤ hi)
theorem rg_md {lo hi V : Rat} (h : Rg lo hi V) (h1 : 1 ≤ lo * BB) (h2 : hi ≤ BB) : Md V := by
  rcases h with h | ⟨h, h'⟩ | ⟨h, h'⟩
  · exact ⟨.inl h, by rw [h]; grind, by rw [h]; grind⟩
  · exact ⟨.inr (.inl (by grind)), by grind, by grind⟩
  · exact ⟨.inr (.inr (by grind)), by grind, by grind⟩
theorem rg_md2 {lo hi V : Rat} (h : Rg lo hi V) (h1 : 2 ≤ lo * BB) (h2 : 2 * hi ≤ BB) : Md2 V := by
  rcases h with h | ⟨h, h'⟩ | ⟨h, h'⟩
  · exact ⟨.inl h, by rw [h]; grind, by rw [h]; grind⟩
  · exact ⟨.inr (.inl (by grind)), by grind, by grind⟩
  · exact ⟨.inr (.inr (by grind)), by grind, by grind⟩
theorem rg_mul {lo hi lo' hi' a b : Rat} (h : Rg lo hi a) (h' : Rg lo' hi' b) (l0 : 0 ≤ lo) (l0' : 0 ≤ lo') : Rg (lo * lo') (hi * hi') (a * b) := by
  have key : ∀ x y : Rat, lo ≤ x → x ≤ hi → lo' ≤ y → y ≤ hi' → lo * lo' ≤ x * y ∧ x * y ≤ hi * hi' := by
    intro x y a1 a2 a3 a4
    have b1 := Rat.mul_nonneg (show 0 ≤ x - lo by grind) (show 0 ≤ y by grind)
    have b2 := Rat.mul_nonneg (show 0 ≤ y - lo' by grind) (show 0 ≤ lo by grind)
    have b3 := Rat.mul_nonneg (show 0 ≤ hi - x by grind) (show 0 ≤ y by grind)
    have b4 := Rat.mul_nonneg (show 0 ≤ hi' - y by grind) (show 0 ≤ hi by grind)
    constructor <;> grind
  rcases h with h | ⟨h1, h2⟩ | ⟨h1, h2⟩
  · left; rw [h]; grind
  · rcases h' with h' | ⟨h3, h4⟩ | ⟨h3, h4⟩
    · left; rw [h']; grind
    · right; left; exact key _ _ h1 h2 h3 h4
    · right; right; have := key _ _ h1 h2 h3 h4; constructor <;> grind
  · rcases h' with h' | ⟨h3, h4⟩ | ⟨h3, h4⟩
    · left; rw [h']; grind
    · right; right; have := key _ _ h1 h2 h3 h4; constructor <;> grind
    · right; left; have := key _ _ h1 h2 h3 h4; constructor <;> grind
theorem rg_inv {lo hi b : Rat} (h1 : lo ≤ b) (h2 : b ≤ hi) (l0 : 0 < lo) : Rg (1 / hi) (1 / lo) (1 / b) := by
  right; left
  have k : ∀ x y : Rat, 0 < x → x ≤ y → 1 / y ≤ 1 / x := by
    intro x y hx hxy
    have e : (1 / x - 1 / y) * (x * y) = y - x := by grind
    by_cases h : 1 / y ≤ 1 / x
    · exact h
    · have := Rat.mul_pos (show 0 < 1 / y - 1 / x by grind) (Rat.mul_pos hx (show 0 < y by grind))
      grind
  exact ⟨k _ _ (by grind) h2, k _ _ l0 h1⟩
theorem rg_err {lo hi V e : Rat} (h : Rg lo hi V) (he : Sm e (1 / 4)) (l0 : 0 ≤ lo) : Rg (lo / 2) (hi * 2) (V * (1 + e)) := by
  obtain ⟨e1, e2⟩ := he
  have key : ∀ x : Rat, lo ≤ x → x ≤ hi → lo / 2 ≤ x * (1 + e) ∧ x * (1 + e) ≤ hi * 2 := by
    intro x h1 h2
    have b1 := Rat.mul_nonneg (show 0 ≤ x by grind) (show 0 ≤ 1 / 2 + e by grind)
    have b2 := Rat.mul_nonneg (show 0 ≤ x by grind) (show 0 ≤ 1 - e by grind)
    constructor <;> grind
  rcases h with h | ⟨h1, h2⟩ | ⟨h1, h2⟩
  · left; rw [h]; grind
  · right; left; exact key _ h1 h2
  · right; right; have := key _ h1 h2; constructor <;> grind
theorem rg_mono {lo hi lo' hi' V : Rat} (h : Rg lo hi V) (h1 : lo' ≤ lo) (h2 : hi ≤ hi') : Rg lo' hi' V := by
  rcases h with h | ⟨h3, h4⟩ | ⟨h3, h4⟩
  · exact .inl h
  · exact .inr (.inl ⟨by grind, by grind⟩)
  · exact .inr (.inr ⟨by grind, by grind⟩)

/-- a difference is at most twice the exact one -/
theorem gsub_twice {x y : Nat} {a b : Rat} (hx : Q x a) (hy : Q y b) (h : -BB ≤ a - b ∧ a - b ≤ BB) :
    ∃ c, Q (gsub x y) c ∧ ((0 ≤ a - b ∧ 0 ≤ c ∧ c ≤ 2 * (a - b)) ∨ (a - b ≤ 0 ∧ c ≤ 0 ∧ -c ≤ -(2 * (a - b)))) := by
  obtain ⟨s, m, q, h1, h2⟩ := Q_read hx
  obtain ⟨s', m', q', h1', h2'⟩ := Q_read hy
  unfold gsub fsub Ieee.Format.sub
  rw [h1, h1']
  simp only [Ieee.Datum.sum, Ieee.Datum.opposite, Option.map_some, Option.getD_some]
  have hb' : min ((q : Int) - 1074) ((q' : Int) - 1074) = ((min q q' : Nat) : Int) - 1074 := by omega
  rw [hb', show ((q : Int) - 1074 - (((min q q' : Nat) : Int) - 1074)).toNat = q - min q q' from by omega, show ((q' : Int) - 1074 - (((min q q' : Nat) : Int) - 1074)).toNat = q' - min q q' from by omega]
  obtain ⟨c, hc⟩ : ∃ c, min q q' = c := ⟨_, rfl⟩
  rw [hc]
  have e1 := signed_min s m q c (by omega)
  have e2 := signed_min (!s') m' q' c (by omega)
  obtain ⟨t, ht⟩ : ∃ t, signed s m (q - c) + signed (!s') m' (q' - c) = t := ⟨_, rfl⟩
  rw [ht]
  have hU := Un_pos
  have hsum : ((t : Int) : Rat) * 2 ^ c = (a - b) * Un := by
    have h3 : t * 2 ^ c = signed s m q + signed (!s') m' q' := by rw [← ht, Int.add_mul, e1, e2]
    have h4 : ((t * 2 ^ c : Int) : Rat) = ((signed s m q + signed (!s') m' q' : Int) : Rat) := by rw [h3]
    rw [Rat.intCast_mul, castpowi, Rat.intCast_add, signed_rat, signed_rat, h2] at h4
    rw [h4]
    cases s' <;> simp only [Bool.false_eq_true, if_false, if_true, Bool.not_true, Bool.not_false] at h2' ⊢ <;> grind
  have e0 : ((c : Nat) : Int) - 1074 = (c : Int) - 1074 - ((0 : Nat) : Int) := by omega
  rw [e0]
  have hnat : ((t.natAbs * 2 ^ c : Nat) : Rat) ≤ BB * Un := by
    rw [Rat.natCast_mul, castpow]
    have hp := un_pos c
    by_cases hn : t < 0
    · have : ((t : Int) : Rat) = -((t.natAbs : Nat) : Rat) := by
        rw [← Rat.intCast_natCast, ← Rat.intCast_neg]; congr 1; omega
      rw [this] at hsum
      have := Rat.mul_nonneg (show 0 ≤ BB + (a - b) by grind) (Rat.le_of_lt hU)
      grind
    · have : ((t : Int) : Rat) = ((t.natAbs : Nat) : Rat) := by
        rw [← Rat.intCast_natCast]; congr 1; omega
      rw [this] at hsum
      have := Rat.mul_nonneg (show 0 ≤ BB - (a - b) by grind) (Rat.le_of_lt hU)
      grind
  have hbig : t.natAbs * 2 ^ c < 2 ^ (2096 + 0) := by
    apply Rat.natCast_lt_natCast.1
    rw [castpow (2096 + 0), top_pow]
    have hp0 : (2 : Rat) ^ 0 = 1 := by decide +kernel
    rw [hp0]
    have := Rat.mul_pos (show 0 < Top - BB by have := Top_big; grind) hU
    grind
  obtain ⟨N, g1, g2, g3⟩ := near_D (if t = 0 then s && !s' else decide (t < 0)) t.natAbs c 0 hbig
  have hN : N ≤ 2 * (t.natAbs * 2 ^ c) := by
    rcases Nat.eq_zero_or_pos (t.natAbs * 2 ^ c) with h0 | h0
    · have := g2 0 0 (by omega) (by rw [h0]; exact Nat.zero_le _)
      clear hbig
      omega
    · have h5 : t.natAbs * 2 ^ c < 2 ^ ((t.natAbs * 2 ^ c).log2 + 1) := Nat.lt_log2_self
      have h6 : 2 ^ (t.natAbs * 2 ^ c).log2 ≤ t.natAbs * 2 ^ c := Nat.log2_self_le (by clear hbig; omega)
      have h7 := g2 1 ((t.natAbs * 2 ^ c).log2 + 1) (by omega) (by rw [Nat.one_mul, Nat.add_zero]; exact Nat.le_of_lt h5)
      rw [Nat.pow_succ, Nat.one_mul] at h7
      clear hbig
      omega
  have hNr : (N : Rat) ≤ 2 * ((t.natAbs : Rat) * 2 ^ c) := by
    have : ((N : Nat) : Rat) ≤ ((2 * (t.natAbs * 2 ^ c) : Nat) : Rat) := Rat.natCast_le_natCast.2 hN
    rw [Rat.natCast_mul, Rat.natCast_mul, castpow] at this
    exact this
  have hN0 : (0 : Rat) ≤ (N : Rat) := by
    have : ((0 : Nat) : Rat) ≤ (N : Rat) := Rat.natCast_le_natCast.2 (Nat.zero_le _)
    simpa using this
  clear hbig g2 g3 hN hnat
  have hp := un_pos c
  have hdiv : ∀ z w : Rat, z ≤ w → z / Un ≤ w / Un := by
    intro z w hzw
    have := Rat.mul_nonneg (show 0 ≤ w - z by grind) (Rat.le_of_lt (Rat.inv_pos.2 hU))
    rw [Rat.div_def, Rat.div_def]; grind
  have hdiv0 : ∀ w : Rat, 0 ≤ w → 0 ≤ w / Un := by
    intro w hw
    rw [Rat.div_def]; exact Rat.mul_nonneg hw (Rat.le_of_lt (Rat.inv_pos.2 hU))
  have hQ : ∀ n : Int, D (Ieee.double.write (.number (if t = 0 then s && !s' else decide (t < 0)) t.natAbs ((c : Int) - 1074 - ((0 : Nat) : Int)))) n 0 → Q (Ieee.double.write (.number (if t = 0 then s && !s' else decide (t < 0)) t.natAbs ((c : Int) - 1074 - ((0 : Nat) : Int)))) ((n : Rat) / Un) := by
    intro n hn
    exact ⟨n, hn, by grind⟩
  refine ⟨_, hQ _ g1, ?_⟩
  by_cases hz : t = 0
  · subst hz
    have e3 : ((0 : Int) : Rat) = 0 := by simp
    rw [e3] at hsum
    have hab : a - b = 0 := by
      rcases Rat.mul_eq_zero.1 (show (a - b) * Un = 0 by grind) with h5 | h5
      · exact h5
      · grind
    have e4 : (((0 : Int).natAbs : Nat) : Rat) = 0 := by simp
    rw [e4] at hNr
    have hN00 : (N : Rat) = 0 := by grind
    have hN1 : N = 0 := by
      have : (N : Rat) = ((0 : Nat) : Rat) := by rw [hN00]; simp
      exact Rat.natCast_inj.1 this
    left
    rw [hab, hN1]
    have e5 : (((if (if (0 : Int) = 0 then s && !s' else decide ((0 : Int) < 0)) = true then -((0 : Nat) : Int) else ((0 : Nat) : Int) : Int)) : Rat) = 0 := by
      split <;> simp
    rw [e5]
    have : (0 : Rat) / Un = 0 := by grind
    rw [this]
    refine ⟨by grind, by grind, by grind⟩
  · simp only [if_neg hz]
    by_cases hn : t < 0
    · have : ((t : Int) : Rat) = -((t.natAbs : Nat) : Rat) := by
        rw [← Rat.intCast_natCast, ← Rat.intCast_neg]; congr 1; omega
      rw [this] at hsum
      right
      simp only [decide_eq_true hn, if_true]
      rw [Rat.intCast_neg, Rat.intCast_natCast]
      have h6 := hdiv _ _ hNr
      have h7 := hdiv0 _ hN0
      have h8 : 2 * ((t.natAbs : Rat) * 2 ^ c) / Un = -(2 * (a - b)) := by
        have : (t.natAbs : Rat) * 2 ^ c = -((a - b) * Un) := by grind
        rw [this]; grind
      rw [h8] at h6
      have h9 : -(N : Rat) / Un = -((N : Rat) / Un) := by grind
      rw [h9]
      refine ⟨by grind, by grind, by grind⟩
    · have : ((t : Int) : Rat) = ((t.natAbs : Nat) : Rat) := by
        rw [← Rat.intCast_natCast]; congr 1; omega
      rw [this] at hsum
      left
      simp only [decide_eq_false hn, Bool.false_eq_true, if_false]
      rw [Rat.intCast_natCast]
      have h6 := hdiv _ _ hNr
      have h7 := hdiv0 _ hN0
      have h8 : 2 * ((t.natAbs : Rat) * 2 ^ c) / Un = 2 * (a - b) := by rw [hsum]; grind
      rw [h8] at h6
      refine ⟨by grind, by grind, by grind⟩
end Go.Sx
