/-
  Rounding in relative terms: the word of a sum, a product, a quotient, a root is the number itself times 1 + e. Ours; it knows no program.
-/
import Derived.Test.YtekppafmaoefaaaDoorSxY
namespace Go.Sx
open Ieee (signed)
set_option linter.unusedVariables false
set_option linter.unusedSimpArgs false
set_option maxRecDepth 100000

def Sm (e d : Rat) : Prop := -d ≤ e ∧ e ≤ d
abbrev uu : Rat := 1 / 9007199254740992

theorem sm_zero {p : Rat} (h : 0 ≤ p) : Sm 0 p := ⟨by grind, h⟩

theorem uu_pos : 0 ≤ uu := by grind
theorem un_pos (e : Nat) : (0 : Rat) < 2 ^ e := Rat.pow_pos (by decide)
def Un : Rat := 2 ^ 1074
theorem Un_pos : 0 < Un := un_pos _
def Q (x : Nat) (r : Rat) : Prop := ∃ n : Int, D x n 0 ∧ (n : Rat) = r * Un
theorem castpow (e : Nat) : ((2 ^ e : Nat) : Rat) = (2 : Rat) ^ e := by push_cast; rfl
theorem ratpow_add (a b : Nat) : (2 : Rat) ^ (a + b) = 2 ^ a * 2 ^ b := by
  rw [← castpow, ← castpow, ← castpow, Nat.pow_add, Rat.natCast_mul]
theorem castpowi (e : Nat) : ((2 ^ e : Int) : Rat) = (2 : Rat) ^ e := by push_cast; rfl
theorem Q_of {x : Nat} {n : Int} {v : Nat} (h : D x n v) : Q x ((n : Rat) * 2 ^ v / Un) := by
  obtain ⟨s, m, q, h1, h2⟩ := h
  refine ⟨n * 2 ^ v, ⟨s, m, q, h1, by rw [h2]; simp⟩, ?_⟩
  have := Un_pos
  rw [Rat.intCast_mul, castpowi]
  grind
theorem Q_whole {x : Nat} {n : Int} (h : D x n 1074) : Q x (n : Rat) := by
  have h1 := Q_of h
  have h2 : (n : Rat) * 2 ^ 1074 / Un = n := by
    have := Un_pos
    show (n : Rat) * Un / Un = n
    grind
  rw [h2] at h1; exact h1
theorem Q_read {x : Nat} {r : Rat} (h : Q x r) : ∃ (s : Bool) (m q : Nat), FloatKind.f64.format.read x = .number s m ((q : Int) - 1074) ∧ ((if s then -1 else 1 : Rat)) * ((m : Rat) * 2 ^ q) = r * Un := by
  obtain ⟨n, ⟨s, m, q, h1, h2⟩, h3⟩ := h
  refine ⟨s, m, q, h1, ?_⟩
  rw [← h3]
  have h4 : ((signed s m q : Int) : Rat) = (n : Rat) := by rw [h2]; simp
  rw [← h4, signed_eq]
  cases s with
  | false => simp only [Bool.false_eq_true, if_false]; rw [Rat.intCast_mul, castpowi, Rat.intCast_natCast]; grind
  | true => simp only [if_true]; rw [Rat.intCast_neg, Rat.intCast_mul, castpowi, Rat.intCast_natCast]; grind
theorem near_rat (s : Bool) (mag P R : Nat) (hbig : mag * 2 ^ P < 2 ^ (2096 + R)) (hlo : mag = 0 ∨ 2 ^ (52 + R) ≤ mag * 2 ^ P) :
    ∃ e : Rat, Q (Ieee.double.write (.number s mag ((P : Int) - 1074 - R))) ((if s then -1 else 1) * ((mag : Rat) * 2 ^ P / 2 ^ R / Un) * (1 + e)) ∧ Sm e uu := by
  obtain ⟨N, h1, h2, h3, h4⟩ := near_D2 s mag P R hbig
  rcases hlo with hz | hlo
  · subst hz
    have hN : N = 0 := by
      have := h2 0 0 (by omega) (by rw [Nat.zero_mul, Nat.zero_mul]; exact Nat.le_refl 0)
      omega
    subst hN
    refine ⟨0, ?_, sm_zero uu_pos⟩
    refine ⟨_, h1, ?_⟩
    clear hbig h1 h2 h3 h4
    have := Un_pos
    have := un_pos R
    have e0 : ((if s then -((0 : Nat) : Int) else ((0 : Nat) : Int) : Int) : Rat) = 0 := by cases s <;> simp
    rw [e0]
    have e1 : (((0 : Nat) : Rat)) = 0 := by simp
    rw [e1]
    grind
  · obtain ⟨g1, g2⟩ := h4 hlo
    have k1 : (N : Rat) * 2 ^ R * 9007199254740992 ≤ (mag : Rat) * 2 ^ P * 9007199254740992 + (mag : Rat) * 2 ^ P := by
      have : ((N * 2 ^ R * 2 ^ 53 : Nat) : Rat) ≤ ((mag * 2 ^ P * 2 ^ 53 + mag * 2 ^ P : Nat) : Rat) := Rat.natCast_le_natCast.2 g1
      rw [Rat.natCast_mul, Rat.natCast_mul, Rat.natCast_add, Rat.natCast_mul, Rat.natCast_mul, castpow, castpow, castpow] at this
      exact this
    have k2 : (mag : Rat) * 2 ^ P * 9007199254740992 ≤ (N : Rat) * 2 ^ R * 9007199254740992 + (mag : Rat) * 2 ^ P := by
      have : ((mag * 2 ^ P * 2 ^ 53 : Nat) : Rat) ≤ ((N * 2 ^ R * 2 ^ 53 + mag * 2 ^ P : Nat) : Rat) := Rat.natCast_le_natCast.2 g2
      rw [Rat.natCast_mul, Rat.natCast_add, Rat.natCast_mul, Rat.natCast_mul, Rat.natCast_mul, castpow, castpow, castpow] at this
      exact this
    have hX : (0 : Rat) < (mag : Rat) * 2 ^ P := by
      have h5 : 0 < mag * 2 ^ P := Nat.lt_of_lt_of_le (Nat.two_pow_pos _) hlo
      have h6 : ((0 : Nat) : Rat) < ((mag * 2 ^ P : Nat) : Rat) := Rat.natCast_lt_natCast.2 h5
      rw [Rat.natCast_mul, castpow] at h6
      simpa using h6
    have hR := un_pos R
    have hU := Un_pos
    clear hbig hlo h2 h3 h4 g1 g2
    obtain ⟨X, hX'⟩ : ∃ X : Rat, (mag : Rat) * 2 ^ P = X := ⟨_, rfl⟩
    obtain ⟨W, hW⟩ : ∃ W : Rat, (2 : Rat) ^ R = W := ⟨_, rfl⟩
    rw [hX'] at k1 k2 hX ⊢
    rw [hW] at k1 k2 hR ⊢
    obtain ⟨M, hM⟩ : ∃ M : Rat, (N : Rat) = M := ⟨_, rfl⟩
    rw [hM] at k1 k2
    refine ⟨M * W / X - 1, ⟨_, h1, ?_⟩, ?_, ?_⟩
    · have : ((if s then -(N : Int) else (N : Int) : Int) : Rat) = (if s then -1 else 1) * M := by
        rw [← hM]
        cases s with
        | false => simp only [Bool.false_eq_true, if_false]; rw [Rat.intCast_natCast]; grind
        | true => simp only [if_true]; rw [Rat.intCast_neg, Rat.intCast_natCast]; grind
      rw [this]
      cases s <;> simp only [Bool.false_eq_true, if_false, if_true] <;> grind
    · have h6 : (M * W / X - 1 + 1) * X = M * W := by grind
      obtain ⟨e, he⟩ : ∃ e, M * W / X - 1 = e := ⟨_, rfl⟩
      rw [he] at h6 ⊢
      by_cases h7 : -uu ≤ e
      · exact h7
      · have := Rat.mul_pos (show 0 < -uu - e by grind) hX
        grind
    · have h6 : (M * W / X - 1 + 1) * X = M * W := by grind
      obtain ⟨e, he⟩ : ∃ e, M * W / X - 1 = e := ⟨_, rfl⟩
      rw [he] at h6 ⊢
      by_cases h7 : e ≤ uu
      · exact h7
      · have := Rat.mul_pos (show 0 < e - uu by grind) hX
        grind

/-! #### numbers of middling greatness -/
abbrev BB : Rat := 1606938044258990275541962092341162602522202993782792835301376
structure Md (V : Rat) : Prop where
  lo : V = 0 ∨ 1 ≤ V * BB ∨ 1 ≤ -V * BB
  hi : -BB ≤ V ∧ V ≤ BB
theorem BB_is : BB = 2 ^ 200 := by decide +kernel
theorem one_le_pow (e : Nat) : (1 : Rat) ≤ 2 ^ e := by
  have : ((1 : Nat) : Rat) ≤ ((2 ^ e : Nat) : Rat) := Rat.natCast_le_natCast.2 (Nat.two_pow_pos e)
  rw [castpow] at this; simpa using this
def Rest : Rat := 2 ^ 822
theorem Un_split : Un = BB * 4503599627370496 * Rest := by
  have e2 : (4503599627370496 : Rat) = 2 ^ 52 := by decide +kernel
  rw [BB_is, e2]
  unfold Rest Un
  rw [← ratpow_add, ← ratpow_add]
theorem Un_big : BB * 4503599627370496 ≤ Un := by
  have h1 : (1 : Rat) ≤ Rest := one_le_pow 822
  have h2 := Rat.mul_nonneg (show 0 ≤ BB * 4503599627370496 by grind) (show 0 ≤ Rest - 1 by grind)
  rw [Un_split]; grind
def Top : Rat := 2 ^ 1022
def Rest2 : Rat := 2 ^ 822
theorem Top_split : Top = BB * Rest := by
  rw [BB_is]; unfold Top Rest
  rw [← ratpow_add]
theorem Top_big : BB < Top := by
  have h1 : (2 : Rat) ≤ Rest := by
    have h0 : Rest = 2 * 2 ^ 821 := by
      unfold Rest
      rw [show (822 : Nat) = 1 + 821 from rfl, ratpow_add]; rfl
    have := one_le_pow 821
    rw [h0]
    generalize (2 : Rat) ^ 821 = z at this ⊢
    grind
  have h2 := Rat.mul_nonneg (show 0 ≤ BB by grind) (show 0 ≤ Rest - 2 by grind)
  rw [Top_split]; grind
theorem top_pow (R : Nat) : (2 : Rat) ^ (2096 + R) = Top * Un * 2 ^ R := by
  rw [ratpow_add]
  have : (2 : Rat) ^ 2096 = Top * Un := by
    unfold Top Un
    rw [← ratpow_add]
  rw [this]
theorem round (s : Bool) (mag P R : Nat) (V : Rat) (hV : V = (if s then -1 else 1) * ((mag : Rat) * 2 ^ P / 2 ^ R / Un)) (h : Md V) :
    ∃ e : Rat, Q (Ieee.double.write (.number s mag ((P : Int) - 1074 - R))) (V * (1 + e)) ∧ Sm e uu := by
  have hR := un_pos R
  have hU := Un_pos
  have hU2 := Un_big
  have hT := Top_big
  have key : ((mag * 2 ^ P : Nat) : Rat) < ((2 ^ (2096 + R) : Nat) : Rat) ∧ (mag = 0 ∨ ((2 ^ (52 + R) : Nat) : Rat) ≤ ((mag * 2 ^ P : Nat) : Rat)) := by
    rw [castpow (2096 + R), castpow (52 + R), Rat.natCast_mul, castpow, top_pow, ratpow_add]
    have e2 : (2 : Rat) ^ 52 = 4503599627370496 := by decide +kernel
    rw [e2]
    obtain ⟨X, hX⟩ : ∃ X, (mag : Rat) * 2 ^ P = X := ⟨_, rfl⟩
    obtain ⟨W, hW⟩ : ∃ W, (2 : Rat) ^ R = W := ⟨_, rfl⟩
    rw [hX, hW] at hV
    rw [hW] at hR
    rw [hX, hW]
    obtain ⟨lo, hi1, hi2⟩ := h
    have hX0 : 0 ≤ X := by
      rw [← hX]
      have h1 : (0 : Rat) ≤ (mag : Rat) := by
        have : ((0 : Nat) : Rat) ≤ (mag : Rat) := Rat.natCast_le_natCast.2 (Nat.zero_le _)
        simpa using this
      exact Rat.mul_nonneg h1 (Rat.le_of_lt (un_pos P))
    obtain ⟨A, hA⟩ : ∃ A, X / W / Un = A := ⟨_, rfl⟩
    have hA2 : X = A * (W * Un) := by grind
    have hWU : 0 < W * Un := Rat.mul_pos hR hU
    have hAB : A ≤ BB := by
      rw [hA] at hV
      cases s <;> simp only [Bool.false_eq_true, if_false, if_true] at hV <;> grind
    refine ⟨?_, ?_⟩
    · have h1 := Rat.mul_pos (show 0 < Top - A by grind) hWU
      grind
    · by_cases hm : mag = 0
      · exact Or.inl hm
      · right
        have hX1 : 0 < X := by
          rw [← hX]
          have h1 : (0 : Rat) < (mag : Rat) := by
            have : ((0 : Nat) : Rat) < (mag : Rat) := Rat.natCast_lt_natCast.2 (Nat.pos_of_ne_zero hm)
            simpa using this
          exact Rat.mul_pos h1 (un_pos P)
        have hA0 : A ≠ 0 := by
          intro h0; rw [h0] at hA2; grind
        have hlo : 1 ≤ A * BB := by
          rw [hA] at hV
          by_cases hA1 : 0 ≤ A
          · cases s <;> simp only [Bool.false_eq_true, if_false, if_true] at hV <;> rcases lo with h1 | h1 | h1 <;> grind
          · exfalso
            have := Rat.mul_pos (show 0 < -A by grind) hWU
            grind
        have h1 := Rat.mul_nonneg (show 0 ≤ A by grind) (show 0 ≤ Un - BB * 4503599627370496 by grind)
        have h2 : 4503599627370496 ≤ A * Un := by grind
        have h3 := Rat.mul_nonneg (show 0 ≤ A * Un - 4503599627370496 by grind) (Rat.le_of_lt hR)
        grind
  obtain ⟨k1, k2⟩ := key
  obtain ⟨e, h1, h2⟩ := near_rat s mag P R (Rat.natCast_lt_natCast.1 k1) (k2.imp id Rat.natCast_le_natCast.1)
  rw [← hV] at h1
  exact ⟨e, h1, h2⟩

/-! #### the operations -/
theorem gmul_rel {x y : Nat} {a b : Rat} (hx : Q x a) (hy : Q y b) (h : Md (a * b)) : ∃ e, Q (gmul x y) (a * b * (1 + e)) ∧ Sm e uu := by
  obtain ⟨s, m, q, h1, h2⟩ := Q_read hx
  obtain ⟨s', m', q', h1', h2'⟩ := Q_read hy
  unfold gmul fmul Ieee.Format.mul
  rw [h1, h1']
  simp only [Ieee.Datum.product, Option.map_some, Option.getD_some]
  have e0 : (q : Int) - 1074 + ((q' : Int) - 1074) = ((q + q' : Nat) : Int) - 1074 - ((1074 : Nat) : Int) := by omega
  rw [e0]
  refine round (s ^^ s') (m * m') (q + q') 1074 (a * b) ?_ h
  rw [Rat.natCast_mul, ratpow_add]
  show a * b = (if (s ^^ s') = true then -1 else 1) * ((m : Rat) * m' * (2 ^ q * 2 ^ q') / Un / Un)
  have hU := Un_pos
  generalize (m : Rat) = M at h2 ⊢
  generalize (m' : Rat) = M' at h2' ⊢
  generalize (2 : Rat) ^ q = A at h2 ⊢
  generalize (2 : Rat) ^ q' = A' at h2' ⊢
  cases s <;> cases s' <;> simp only [Bool.false_eq_true, if_false, if_true, Bool.xor_false, Bool.false_xor, Bool.xor_true, Bool.not_true, Bool.not_false] at h2 h2' ⊢ <;> grind
theorem signed_rat (s : Bool) (m q : Nat) : ((signed s m q : Int) : Rat) = (if s then -1 else 1) * ((m : Rat) * 2 ^ q) := by
  rw [signed_eq]
  cases s with
  | false => simp only [Bool.false_eq_true, if_false]; rw [Rat.intCast_mul, castpowi, Rat.intCast_natCast]; grind
  | true => simp only [if_true]; rw [Rat.intCast_neg, Rat.intCast_mul, castpowi, Rat.intCast_natCast]; grind
structure Md2 (V : Rat) : Prop where
  lo : V = 0 ∨ 2 ≤ V * BB ∨ 2 ≤ -V * BB
  hi : -BB ≤ 2 * V ∧ 2 * V ≤ BB
end Go.Sx
