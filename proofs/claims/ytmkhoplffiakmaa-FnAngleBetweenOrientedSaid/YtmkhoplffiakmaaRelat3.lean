/-
  Sums and differences of any greatness: the word is the number itself times 1 + e. Ours; it knows no program.
-/
import Derived.Test.YtmkhoplffiakmaaRelat2
namespace Go.Sx
open Ieee (signed)
set_option linter.unusedVariables false
set_option linter.unusedSimpArgs false
set_option maxRecDepth 100000

theorem exact_small (s : Bool) (mag P : Nat) (hbig : mag * 2 ^ P < 2 ^ (2096 + 0)) (h : mag * 2 ^ P ≤ 2 ^ 52) : D (Ieee.double.write (.number s mag ((P : Int) - 1074 - ((0 : Nat) : Int)))) (if s then -((mag * 2 ^ P : Nat) : Int) else ((mag * 2 ^ P : Nat) : Int)) 0 := by
  obtain ⟨N, h1, h2, h3, h4⟩ := near_D2 s mag P 0 hbig
  obtain ⟨X, hX⟩ : ∃ X, mag * 2 ^ P = X := ⟨_, rfl⟩
  rw [hX] at h h2 h3 ⊢
  have h53 : X ≤ 2 ^ 53 := Nat.le_trans h (by decide)
  have k1 := h2 X 0 h53 (by rw [Nat.pow_zero, Nat.mul_one]; exact Nat.le_refl _)
  have k2 := h3 X 0 h53 (by rw [Nat.pow_zero, Nat.mul_one]; exact Nat.le_refl _)
  rw [Nat.pow_zero, Nat.mul_one] at k1 k2
  have : N = X := Nat.le_antisymm k1 k2
  rw [this] at h1; exact h1
theorem round0 (s : Bool) (mag P : Nat) (V : Rat) (hV : V = (if s then -1 else 1) * ((mag : Rat) * 2 ^ P / 2 ^ 0 / Un)) (h : -BB ≤ V ∧ V ≤ BB) :
    ∃ e : Rat, Q (Ieee.double.write (.number s mag ((P : Int) - 1074 - ((0 : Nat) : Int)))) (V * (1 + e)) ∧ Sm e uu := by
  have hU := Un_pos
  have hT := Top_big
  have hp0 : (2 : Rat) ^ 0 = 1 := by decide +kernel
  rw [hp0] at hV
  have hX0 : (0 : Rat) ≤ (mag : Rat) * 2 ^ P := by
    have h1 : (0 : Rat) ≤ (mag : Rat) := by
      have : ((0 : Nat) : Rat) ≤ (mag : Rat) := Rat.natCast_le_natCast.2 (Nat.zero_le _)
      simpa using this
    exact Rat.mul_nonneg h1 (Rat.le_of_lt (un_pos P))
  have hbig : mag * 2 ^ P < 2 ^ (2096 + 0) := by
    apply Rat.natCast_lt_natCast.1
    rw [castpow (2096 + 0), top_pow, hp0, Rat.natCast_mul, castpow]
    generalize (mag : Rat) * 2 ^ P = X at hV hX0 ⊢
    obtain ⟨h1, h2⟩ := h
    have hA : X / Un ≤ BB := by cases s <;> simp only [Bool.false_eq_true, if_false, if_true] at hV <;> grind
    have hA2 : X = X / Un * Un := by grind
    have := Rat.mul_pos (show 0 < Top - X / Un by grind) hU
    grind
  by_cases hs : mag * 2 ^ P ≤ 2 ^ 52
  · have h1 := exact_small s mag P hbig hs
    refine ⟨0, ⟨_, h1, ?_⟩, sm_zero uu_pos⟩
    have e1 : (((if s then -((mag * 2 ^ P : Nat) : Int) else ((mag * 2 ^ P : Nat) : Int) : Int)) : Rat) = (if s then -1 else 1) * ((mag : Rat) * 2 ^ P) := by
      cases s with
      | false => simp only [Bool.false_eq_true, if_false]; rw [Rat.intCast_natCast, Rat.natCast_mul, castpow]; grind
      | true => simp only [if_true]; rw [Rat.intCast_neg, Rat.intCast_natCast, Rat.natCast_mul, castpow]; grind
    rw [e1, hV]
    clear hbig hs h1
    generalize (mag : Rat) * 2 ^ P = X
    cases s <;> simp only [Bool.false_eq_true, if_false, if_true] <;> grind
  · obtain ⟨e, h1, h2⟩ := near_rat s mag P 0 hbig (.inr (by rw [Nat.add_zero]; exact Nat.le_of_lt (Nat.lt_of_not_le hs)))
    rw [hp0, ← hV] at h1
    exact ⟨e, h1, h2⟩
theorem gadd_full {x y : Nat} {a b : Rat} (hx : Q x a) (hy : Q y b) (h : -BB ≤ a + b ∧ a + b ≤ BB) : ∃ e, Q (gadd x y) ((a + b) * (1 + e)) ∧ Sm e uu := by
  obtain ⟨s, m, q, h1, h2⟩ := Q_read hx
  obtain ⟨s', m', q', h1', h2'⟩ := Q_read hy
  unfold gadd fadd Ieee.Format.add
  rw [h1, h1']
  simp only [Ieee.Datum.sum, Option.map_some, Option.getD_some]
  have hb' : min ((q : Int) - 1074) ((q' : Int) - 1074) = ((min q q' : Nat) : Int) - 1074 := by omega
  rw [hb', show ((q : Int) - 1074 - (((min q q' : Nat) : Int) - 1074)).toNat = q - min q q' from by omega, show ((q' : Int) - 1074 - (((min q q' : Nat) : Int) - 1074)).toNat = q' - min q q' from by omega]
  obtain ⟨c, hc⟩ : ∃ c, min q q' = c := ⟨_, rfl⟩
  rw [hc]
  have e1 := signed_min s m q c (by omega)
  have e2 := signed_min s' m' q' c (by omega)
  obtain ⟨t, ht⟩ : ∃ t, signed s m (q - c) + signed s' m' (q' - c) = t := ⟨_, rfl⟩
  rw [ht]
  have hsum : ((t : Int) : Rat) * 2 ^ c = (a + b) * Un := by
    have h3 : t * 2 ^ c = signed s m q + signed s' m' q' := by rw [← ht, Int.add_mul, e1, e2]
    have h4 : ((t * 2 ^ c : Int) : Rat) = ((signed s m q + signed s' m' q' : Int) : Rat) := by rw [h3]
    rw [Rat.intCast_mul, castpowi, Rat.intCast_add, signed_rat, signed_rat, h2, h2'] at h4
    rw [h4]; grind
  have hU := Un_pos
  have e0 : ((c : Nat) : Int) - 1074 = (c : Int) - 1074 - ((0 : Nat) : Int) := by omega
  rw [e0]
  refine round0 _ t.natAbs c (a + b) ?_ h
  have hp0 : (2 : Rat) ^ 0 = 1 := by decide +kernel
  rw [hp0]
  have hp := un_pos c
  generalize (2 : Rat) ^ c = A at hsum hp ⊢
  by_cases hz : t = 0
  · subst hz
    have : ((0 : Int) : Rat) = 0 := by simp
    rw [this] at hsum
    have : (((0 : Int).natAbs : Nat) : Rat) = 0 := by simp
    rw [this]
    grind
  · simp only [if_neg hz]
    by_cases hn : t < 0
    · have : ((t : Int) : Rat) = -((t.natAbs : Nat) : Rat) := by
        rw [← Rat.intCast_natCast, ← Rat.intCast_neg]; congr 1; omega
      rw [this] at hsum
      simp only [decide_eq_true hn, if_true]
      grind
    · have : ((t : Int) : Rat) = ((t.natAbs : Nat) : Rat) := by
        rw [← Rat.intCast_natCast]; congr 1; omega
      rw [this] at hsum
      simp only [decide_eq_false hn, Bool.false_eq_true, if_false]
      grind
theorem gsub_full {x y : Nat} {a b : Rat} (hx : Q x a) (hy : Q y b) (h : -BB ≤ a - b ∧ a - b ≤ BB) : ∃ e, Q (gsub x y) ((a - b) * (1 + e)) ∧ Sm e uu := by
  obtain ⟨s, m, q, h1, h2⟩ := Q_read hx
  obtain ⟨s', m', q', h1', h2'⟩ := Q_read hy
  unfold gsub fsub Ieee.Format.sub
  rw [h1, h1']
  simp only [Ieee.Datum.sum, Ieee.Datum.opposite, Option.map_some, Option.getD_some]
  have hb' : min ((q : Int) - 1074) ((q' : Int) - 1074) = ((min q q' : Nat) : Int) - 1074 := by omega
  rw [hb', show ((q : Int) - 1074 - (((min q q' : Nat) : Int) - 1074)).toNat = q - min q q' from by omega, show ((q' : Int) - 1074 - (((min q q' : Nat) : Int) - 1074)).toNat = q' - min q q' from by omega]
  obtain ⟨c, hc⟩ : ∃ c, min q q' = c := ⟨_, rfl⟩
  rw [hc]
  have e1 := signed_min s m q c (by omega)
  have e2 := signed_min (!s') m' q' c (by omega)
  obtain ⟨t, ht⟩ : ∃ t, signed s m (q - c) + signed (!s') m' (q' - c) = t := ⟨_, rfl⟩
  rw [ht]
  have hsum : ((t : Int) : Rat) * 2 ^ c = (a - b) * Un := by
    have h3 : t * 2 ^ c = signed s m q + signed (!s') m' q' := by rw [← ht, Int.add_mul, e1, e2]
    have h4 : ((t * 2 ^ c : Int) : Rat) = ((signed s m q + signed (!s') m' q' : Int) : Rat) := by rw [h3]
    rw [Rat.intCast_mul, castpowi, Rat.intCast_add, signed_rat, signed_rat, h2] at h4
    rw [h4]
    cases s' <;> simp only [Bool.false_eq_true, if_false, if_true, Bool.not_true, Bool.not_false] at h2' ⊢ <;> grind
  have hU := Un_pos
  have e0 : ((c : Nat) : Int) - 1074 = (c : Int) - 1074 - ((0 : Nat) : Int) := by omega
  rw [e0]
  refine round0 _ t.natAbs c (a - b) ?_ h
  have hp0 : (2 : Rat) ^ 0 = 1 := by decide +kernel
  rw [hp0]
  have hp := un_pos c
  generalize (2 : Rat) ^ c = A at hsum hp ⊢
  by_cases hz : t = 0
  · subst hz
    have : ((0 : Int) : Rat) = 0 := by simp
    rw [this] at hsum
    have : (((0 : Int).natAbs : Nat) : Rat) = 0 := by simp
    rw [this]
    grind
  · simp only [if_neg hz]
    by_cases hn : t < 0
    · have : ((t : Int) : Rat) = -((t.natAbs : Nat) : Rat) := by
        rw [← Rat.intCast_natCast, ← Rat.intCast_neg]; congr 1; omega
      rw [this] at hsum
      simp only [decide_eq_true hn, if_true]
      grind
    · have : ((t : Int) : Rat) = ((t.natAbs : Nat) : Rat) := by
        rw [← Rat.intCast_natCast]; congr 1; omega
      rw [this] at hsum
      simp only [decide_eq_false hn, Bool.false_eq_true, if_false]
      grind
theorem Q_fneg {x : Nat} {r : Rat} (hx : x < 2 ^ 64) (h : Q x r) : Q (fneg x) (-r) := by
  obtain ⟨n, h1, h2⟩ := h
  exact ⟨-n, D_fneg hx h1, by rw [Rat.intCast_neg, h2]; grind⟩
end Go.Sx
