/-
  Rounding in relative terms: the word of a sum, a product, a quotient, a root is the number itself times 1 + e. Ours; it knows no program.
-/
import Derived.Test.YthobbfpoooommaaGreatSxY
namespace Go.Sx
open Ieee (signed)
set_option linter.unusedVariables false
set_option linter.unusedSimpArgs false
set_option maxRecDepth 100000

def Sm (e d : Rat) : Prop := -d ≤ e ∧ e ≤ d
abbrev uu : Rat := 1 / 9007199254740992

theorem sm_mul {e f p q : Rat} (h : Sm e p) (h' : Sm f q) : Sm (e * f) (p * q) := by
  obtain ⟨h1, h2⟩ := h
  obtain ⟨h3, h4⟩ := h'
  have a1 := Rat.mul_nonneg (show 0 ≤ p - e by grind) (show 0 ≤ q + f by grind)
  have a2 := Rat.mul_nonneg (show 0 ≤ p + e by grind) (show 0 ≤ q - f by grind)
  have a3 := Rat.mul_nonneg (show 0 ≤ p - e by grind) (show 0 ≤ q - f by grind)
  have a4 := Rat.mul_nonneg (show 0 ≤ p + e by grind) (show 0 ≤ q + f by grind)
  constructor <;> grind
theorem sm_one {e f p q r : Rat} (h : Sm e p) (h' : Sm f q) (hr : p + q + p * q ≤ r) : ∃ g, (1 + e) * (1 + f) = 1 + g ∧ Sm g r := by
  have h3 := sm_mul h h'
  obtain ⟨h1, h2⟩ := h
  obtain ⟨h4, h5⟩ := h'
  obtain ⟨h6, h7⟩ := h3
  exact ⟨e + f + e * f, by grind, by grind, by grind⟩
theorem sm_mono {e p q : Rat} (h : Sm e p) (hq : p ≤ q) : Sm e q := by
  obtain ⟨h1, h2⟩ := h
  exact ⟨by grind, by grind⟩
theorem sm_zero {p : Rat} (h : 0 ≤ p) : Sm 0 p := ⟨by grind, h⟩

theorem uu_pos : 0 ≤ uu := by grind
theorem un_pos (e : Nat) : (0 : Rat) < 2 ^ e := Rat.pow_pos (by decide)
def Un : Rat := 2 ^ 1074
theorem Un_pos : 0 < Un := un_pos _
def Q (x : Nat) (r : Rat) : Prop := ∃ n : Int, D x n 0 ∧ (n : Rat) = r * Un
theorem castpow (e : Nat) : ((2 ^ e : Nat) : Rat) = (2 : Rat) ^ e := by push_cast; rfl
theorem ratpow_add (a b : Nat) : (2 : Rat) ^ (a + b) = 2 ^ a * 2 ^ b := by
  rw [← castpow, ← castpow, ← castpow, Nat.pow_add, Rat.natCast_mul]
theorem castpowi (e : Nat) : ((2 ^ e : Int) : Rat) = (2 : Rat) ^ e := by push_cast; rfl
theorem Q_of {x : Nat} {n : Int} {v : Nat} (h : D x n v) : Q x ((n : Rat) * 2 ^ v / Un) := by
  obtain ⟨s, m, q, h1, h2⟩ := h
  refine ⟨n * 2 ^ v, ⟨s, m, q, h1, by rw [h2]; simp⟩, ?_⟩
  have := Un_pos
  rw [Rat.intCast_mul, castpowi]
  grind
theorem Q_whole {x : Nat} {n : Int} (h : D x n 1074) : Q x (n : Rat) := by
  have h1 := Q_of h
  have h2 : (n : Rat) * 2 ^ 1074 / Un = n := by
    have := Un_pos
    show (n : Rat) * Un / Un = n
    grind
  rw [h2] at h1; exact h1
theorem Q_read {x : Nat} {r : Rat} (h : Q x r) : ∃ (s : Bool) (m q : Nat), FloatKind.f64.format.read x = .number s m ((q : Int) - 1074) ∧ ((if s then -1 else 1 : Rat)) * ((m : Rat) * 2 ^ q) = r * Un := by
  obtain ⟨n, ⟨s, m, q, h1, h2⟩, h3⟩ := h
  refine ⟨s, m, q, h1, ?_⟩
  rw [← h3]
  have h4 : ((signed s m q : Int) : Rat) = (n : Rat) := by rw [h2]; simp
  rw [← h4, signed_eq]
  cases s with
  | false => simp only [Bool.false_eq_true, if_false]; rw [Rat.intCast_mul, castpowi, Rat.intCast_natCast]; grind
  | true => simp only [if_true]; rw [Rat.intCast_neg, Rat.intCast_mul, castpowi, Rat.intCast_natCast]; grind
theorem near_rat (s : Bool) (mag P R : Nat) (hbig : mag * 2 ^ P < 2 ^ (2096 + R)) (hlo : mag = 0 ∨ 2 ^ (52 + R) ≤ mag * 2 ^ P) :
    ∃ e : Rat, Q (Ieee.double.write (.number s mag ((P : Int) - 1074 - R))) ((if s then -1 else 1) * ((mag : Rat) * 2 ^ P / 2 ^ R / Un) * (1 + e)) ∧ Sm e uu := by
  obtain ⟨N, h1, h2, h3, h4⟩ := near_D2 s mag P R hbig
  rcases hlo with hz | hlo
  · subst hz
    have hN : N = 0 := by
      have := h2 0 0 (by omega) (by rw [Nat.zero_mul, Nat.zero_mul]; exact Nat.le_refl 0)
      omega
    subst hN
    refine ⟨0, ?_, sm_zero uu_pos⟩
    refine ⟨_, h1, ?_⟩
    clear hbig h1 h2 h3 h4
    have := Un_pos
    have := un_pos R
    have e0 : ((if s then -((0 : Nat) : Int) else ((0 : Nat) : Int) : Int) : Rat) = 0 := by cases s <;> simp
    rw [e0]
    have e1 : (((0 : Nat) : Rat)) = 0 := by simp
    rw [e1]
    grind
  · obtain ⟨g1, g2⟩ := h4 hlo
    have k1 : (N : Rat) * 2 ^ R * 9007199254740992 ≤ (mag : Rat) * 2 ^ P * 9007199254740992 + (mag : Rat) * 2 ^ P := by
      have : ((N * 2 ^ R * 2 ^ 53 : Nat) : Rat) ≤ ((mag * 2 ^ P * 2 ^ 53 + mag * 2 ^ P : Nat) : Rat) := Rat.natCast_le_natCast.2 g1
      rw [Rat.natCast_mul, Rat.natCast_mul, Rat.natCast_add, Rat.natCast_mul, Rat.natCast_mul, castpow, castpow, castpow] at this
      exact this
    have k2 : (mag : Rat) * 2 ^ P * 9007199254740992 ≤ (N : Rat) * 2 ^ R * 9007199254740992 + (mag : Rat) * 2 ^ P := by
      have : ((mag * 2 ^ P * 2 ^ 53 : Nat) : Rat) ≤ ((N * 2 ^ R * 2 ^ 53 + mag * 2 ^ P : Nat) : Rat) := Rat.natCast_le_natCast.2 g2
      rw [Rat.natCast_mul, Rat.natCast_add, Rat.natCast_mul, Rat.natCast_mul, Rat.natCast_mul, castpow, castpow, castpow] at this
      exact this
    have hX : (0 : Rat) < (mag : Rat) * 2 ^ P := by
      have h5 : 0 < mag * 2 ^ P := Nat.lt_of_lt_of_le (Nat.two_pow_pos _) hlo
      have h6 : ((0 : Nat) : Rat) < ((mag * 2 ^ P : Nat) : Rat) := Rat.natCast_lt_natCast.2 h5
      rw [Rat.natCast_mul, castpow] at h6
      simpa using h6
    have hR := un_pos R
    have hU := Un_pos
    clear hbig hlo h2 h3 h4 g1 g2
    obtain ⟨X, hX'⟩ : ∃ X : Rat, (mag : Rat) * 2 ^ P = X := ⟨_, rfl⟩
    obtain ⟨W, hW⟩ : ∃ W : Rat, (2 : Rat) ^ R = W := ⟨_, rfl⟩
    rw [hX'] at k1 k2 hX ⊢
    rw [hW] at k1 k2 hR ⊢
    obtain ⟨M, hM⟩ : ∃ M : Rat, (N : Rat) = M := ⟨_, rfl⟩
    rw [hM] at k1 k2
    refine ⟨M * W / X - 1, ⟨_, h1, ?_⟩, ?_, ?_⟩
    · have : ((if s then -(N : Int) else (N : Int) : Int) : Rat) = (if s then -1 else 1) * M := by
        rw [← hM]
        cases s with
        | false => simp only [Bool.false_eq_true, if_false]; rw [Rat.intCast_natCast]; grind
        | true => simp only [if_true]; rw [Rat.intCast_neg, Rat.intCast_natCast]; grind
      rw [this]
      cases s <;> simp only [Bool.false_eq_true, if_false, if_true] <;> grind
    · have h6 : (M * W / X - 1 + 1) * X = M * W := by grind
      obtain ⟨e, he⟩ : ∃ e, M * W / X - 1 = e := ⟨_, rfl⟩
      rw [he] at h6 ⊢
      by_cases h7 : -uu ≤ e
      · exact h7
      · have := Rat.mul_pos (show 0 < -uu - e by grind) hX
        grind
    · have h6 : (M * W / X - 1 + 1) * X = M * W := by grind
      obtain ⟨e, he⟩ : ∃ e, M * W / X - 1 = e := ⟨_, rfl⟩
      rw [he] at h6 ⊢
      by_cases h7 : e ≤ uu
      · exact h7
      · have := Rat.mul_pos (show 0 < e - uu by grind) hX
        grind

/-! #### numbers of middling greatness -/
abbrev BB : Rat := 1606938044258990275541962092341162602522202993782792835301376
structure Md (V : Rat) : Prop where
  lo : V = 0 ∨ 1 ≤ V * BB ∨ 1 ≤ -V * BB
  hi : -BB ≤ V ∧ V ≤ BB
theorem BB_is : BB = 2 ^ 200 := by decide +kernel
theorem one_le_pow (e : Nat) : (1 : Rat) ≤ 2 ^ e := by
  have : ((1 : Nat) : Rat) ≤ ((2 ^ e : Nat) : Rat) := Rat.natCast_le_natCast.2 (Nat.two_pow_pos e)
  rw [castpow] at this; simpa using this
def Rest : Rat := 2 ^ 822
theorem Un_split : Un = BB * 4503599627370496 * Rest := by
  have e2 : (4503599627370496 : Rat) = 2 ^ 52 := by decide +kernel
  rw [BB_is, e2]
  unfold Rest Un
  rw [← ratpow_add, ← ratpow_add]
theorem Un_big : BB * 4503599627370496 ≤ Un := by
  have h1 : (1 : Rat) ≤ Rest := one_le_pow 822
  have h2 := Rat.mul_nonneg (show 0 ≤ BB * 4503599627370496 by grind) (show 0 ≤ Rest - 1 by grind)
  rw [Un_split]; grind
def Top : Rat := 2 ^ 1022
def Rest2 : Rat := 2 ^ 822
theorem Top_split : Top = BB * Rest := by
  rw [BB_is]; unfold Top Rest
  rw [← ratpow_add]
theorem Top_big : BB < Top := by
  have h1 : (2 : Rat) ≤ Rest := by
    have h0 : Rest = 2 * 2 ^ 821 := by
      unfold Rest
      rw [show (822 : Nat) = 1 + 821 from rfl, ratpow_add]; rfl
    have := one_le_pow 821
    rw [h0]
    generalize (2 : Rat) ^ 821 = z at this ⊢
    grind
  have h2 := Rat.mul_nonneg (show 0 ≤ BB by grind) (show 0 ≤ Rest - 2 by grind)
  rw [Top_split]; grind
theorem top_pow (R : Nat) : (2 : Rat) ^ (2096 + R) = Top * Un * 2 ^ R := by
  rw [ratpow_add]
  have : (2 : Rat) ^ 2096 = Top * Un := by
    unfold Top Un
    rw [← ratpow_add]
  rw [this]
theorem round (s : Bool) (mag P R : Nat) (V : Rat) (hV : V = (if s then -1 else 1) * ((mag : Rat) * 2 ^ P / 2 ^ R / Un)) (h : Md V) :
    ∃ e : Rat, Q (Ieee.double.write (.number s mag ((P : Int) - 1074 - R))) (V * (1 + e)) ∧ Sm e uu := by
  have hR := un_pos R
  have hU := Un_pos
  have hU2 := Un_big
  have hT := Top_big
  have key : ((mag * 2 ^ P : Nat) : Rat) < ((2 ^ (2096 + R) : Nat) : Rat) ∧ (mag = 0 ∨ ((2 ^ (52 + R) : Nat) : Rat) ≤ ((mag * 2 ^ P : Nat) : Rat)) := by
    rw [castpow (2096 + R), castpow (52 + R), Rat.natCast_mul, castpow, top_pow, ratpow_add]
    have e2 : (2 : Rat) ^ 52 = 4503599627370496 := by decide +kernel
    rw [e2]
    obtain ⟨X, hX⟩ : ∃ X, (mag : Rat) * 2 ^ P = X := ⟨_, rfl⟩
    obtain ⟨W, hW⟩ : ∃ W, (2 : Rat) ^ R = W := ⟨_, rfl⟩
    rw [hX, hW] at hV
    rw [hW] at hR
    rw [hX, hW]
    obtain ⟨lo, hi1, hi2⟩ := h
    have hX0 : 0 ≤ X := by
      rw [← hX]
      have h1 : (0 : Rat) ≤ (mag : Rat) := by
        have : ((0 : Nat) : Rat) ≤ (mag : Rat) := Rat.natCast_le_natCast.2 (Nat.zero_le _)
        simpa using this
      exact Rat.mul_nonneg h1 (Rat.le_of_lt (un_pos P))
    obtain ⟨A, hA⟩ : ∃ A, X / W / Un = A := ⟨_, rfl⟩
    have hA2 : X = A * (W * Un) := by grind
    have hWU : 0 < W * Un := Rat.mul_pos hR hU
    have hAB : A ≤ BB := by
      rw [hA] at hV
      cases s <;> simp only [Bool.false_eq_true, if_false, if_true] at hV <;> grind
    refine ⟨?_, ?_⟩
    · have h1 := Rat.mul_pos (show 0 < Top - A by grind) hWU
      grind
    · by_cases hm : mag = 0
      · exact Or.inl hm
      · right
        have hX1 : 0 < X := by
          rw [← hX]
          have h1 : (0 : Rat) < (mag : Rat) := by
            have : ((0 : Nat) : Rat) < (mag : Rat) := Rat.natCast_lt_natCast.2 (Nat.pos_of_ne_zero hm)
            simpa using this
          exact Rat.mul_pos h1 (un_pos P)
        have hA0 : A ≠ 0 := by
          intro h0; rw [h0] at hA2; grind
        have hlo : 1 ≤ A * BB := by
          rw [hA] at hV
          by_cases hA1 : 0 ≤ A
          · cases s <;> simp only [Bool.false_eq_true, if_false, if_true] at hV <;> rcases lo with h1 | h1 | h1 <;> grind
          · exfalso
            have := Rat.mul_pos (show 0 < -A by grind) hWU
            grind
        have h1 := Rat.mul_nonneg (show 0 ≤ A by grind) (show 0 ≤ Un - BB * 4503599627370496 by grind)
        have h2 : 4503599627370496 ≤ A * Un := by grind
        have h3 := Rat.mul_nonneg (show 0 ≤ A * Un - 4503599627370496 by grind) (Rat.le_of_lt hR)
        grind
  obtain ⟨k1, k2⟩ := key
  obtain ⟨e, h1, h2⟩ := near_rat s mag P R (Rat.natCast_lt_natCast.1 k1) (k2.imp id Rat.natCast_le_natCast.1)
  rw [← hV] at h1
  exact ⟨e, h1, h2⟩

/-! #### the operations -/
structure Md2 (V : Rat) : Prop where
  lo : V = 0 ∨ 2 ≤ V * BB ∨ 2 ≤ -V * BB
  hi : -BB ≤ 2 * V ∧ 2 * V ≤ BB
theorem div_core {w st m r n : Nat} (h1 : w * m + r = n) (h2 : r < m) (h3 : 2 ^ 53 * m ≤ n) (hst : (st = 0 ∧ r = 0) ∨ st = 1) (hm : 0 < m) :
    ∃ e0 : Rat, ((2 * w + st : Nat) : Rat) * m = 2 * n * (1 + e0) ∧ Sm e0 uu := by
  have k1 : (w : Rat) * m + r = n := by
    have : ((w * m + r : Nat) : Rat) = n := by rw [h1]
    rw [Rat.natCast_add, Rat.natCast_mul] at this; exact this
  have k2 : (r : Rat) ≤ m := Rat.natCast_le_natCast.2 (Nat.le_of_lt h2)
  have k0 : (0 : Rat) ≤ r := by
    have : ((0 : Nat) : Rat) ≤ (r : Rat) := Rat.natCast_le_natCast.2 (Nat.zero_le _)
    simpa using this
  have k3 : (9007199254740992 : Rat) * m ≤ n := by
    have : ((2 ^ 53 * m : Nat) : Rat) ≤ n := Rat.natCast_le_natCast.2 h3
    rw [Rat.natCast_mul] at this; exact this
  have k4 : (0 : Rat) < m := by
    have : ((0 : Nat) : Rat) < (m : Rat) := Rat.natCast_lt_natCast.2 hm
    simpa using this
  have k5 : ((2 * w + st : Nat) : Rat) = 2 * w + st := by rw [Rat.natCast_add, Rat.natCast_mul]; rfl
  rw [k5]
  clear h1 h2 h3 hm k5
  have k6 : (st : Rat) = 0 ∧ (r : Rat) = 0 ∨ (st : Rat) = 1 := by
    rcases hst with ⟨e1, e2⟩ | e1
    · left; rw [e1, e2]; simp
    · right; rw [e1]; simp
  generalize (w : Rat) = W at k1 ⊢
  generalize (st : Rat) = T at k6 ⊢
  generalize (r : Rat) = R at k0 k1 k2 k6
  generalize (n : Rat) = N at k1 k3 ⊢
  generalize (m : Rat) = M at k1 k2 k3 k4 ⊢
  have kN : 0 < N := by grind
  refine ⟨(2 * W + T) * M / (2 * N) - 1, by grind, ?_⟩
  obtain ⟨e, he⟩ : ∃ e, (2 * W + T) * M / (2 * N) - 1 = e := ⟨_, rfl⟩
  rw [he]
  have h6 : e * (2 * N) = (2 * W + T) * M - 2 * N := by grind
  have h7 : e * (2 * N) = T * M - 2 * R := by grind
  constructor
  · by_cases h8 : -uu ≤ e
    · exact h8
    · have := Rat.mul_pos (show 0 < -uu - e by grind) kN
      rcases k6 with ⟨a, b⟩ | a <;> subst a <;> grind
  · by_cases h8 : e ≤ uu
    · exact h8
    · have := Rat.mul_pos (show 0 < e - uu by grind) kN
      rcases k6 with ⟨a, b⟩ | a <;> subst a <;> grind
end Go.Sx
