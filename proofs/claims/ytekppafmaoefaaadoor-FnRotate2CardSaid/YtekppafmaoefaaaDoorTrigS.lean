/-
  Sin, Cos and Sincos of an angle from -7 to 7: two numbers of at most 16, and both together are the two. Ours.
-/
import Derived.Test.YtekppafmaoefaaaDoorTrigR
namespace Go.Proofs.YtekppafmaoefaaaDoor
open Go.Sx
open Ieee (signed)
set_option linter.unusedVariables false
set_option linter.unusedSimpArgs false
set_option maxRecDepth 100000

theorem q_lt {m n : Int} {a b : Rat} (h2 : (m : Rat) = a * Un) (h4 : (n : Rat) = b * Un) : (m < n) ↔ a < b := by
  have hU := Un_pos
  rw [← Rat.intCast_lt_intCast, h2, h4]
  constructor
  · intro h
    by_cases h' : a < b
    · exact h'
    · have := Rat.mul_nonneg (show 0 ≤ a - b by grind) (Rat.le_of_lt hU); grind
  · intro h
    have := Rat.mul_pos (show 0 < b - a by grind) hU; grind
theorem q_eq {m n : Int} {a b : Rat} (h2 : (m : Rat) = a * Un) (h4 : (n : Rat) = b * Un) : (m = n) ↔ a = b := by
  have h1 := q_lt h2 h4
  have h3 := q_lt h4 h2
  constructor
  · intro h; subst h
    have e1 := fun h => Int.lt_irrefl m (h1.2 h)
    have e2 := fun h => Int.lt_irrefl m (h3.2 h)
    grind
  · intro h; subst h
    have e1 : ¬ m < n := fun h => by have := h1.1 h; grind
    have e2 : ¬ n < m := fun h => by have := h3.1 h; grind
    omega
theorem flt_q {x y : Nat} {a b : Rat} (hx : Q x a) (hy : Q y b) : flt x y = decide (a < b) := by
  obtain ⟨n, h1, h2⟩ := hx
  obtain ⟨m, h3, h4⟩ := hy
  rw [D_lt h1 h3]; exact decide_eq_decide.2 (q_lt h2 h4)
theorem fgt_q {x y : Nat} {a b : Rat} (hx : Q x a) (hy : Q y b) : fgt x y = decide (b < a) := by rw [fgt_flt]; exact flt_q hy hx
theorem fle_q {x y : Nat} {a b : Rat} (hx : Q x a) (hy : Q y b) : fle x y = decide (a ≤ b) := by
  obtain ⟨n, h1, h2⟩ := hx
  obtain ⟨m, h3, h4⟩ := hy
  rw [D_le h1 h3]
  refine decide_eq_decide.2 ?_
  have := q_lt h4 h2
  constructor
  · intro h; have : ¬ m < n := by omega
    grind
  · intro h
    have h5 : ¬ b < a := by grind
    have : ¬ m < n := fun h => h5 (this.1 h)
    omega
theorem fge_q {x y : Nat} {a b : Rat} (hx : Q x a) (hy : Q y b) : fge x y = decide (b ≤ a) := by rw [fge_fle]; exact fle_q hy hx
theorem feq_q {x y : Nat} {a b : Rat} (hx : Q x a) (hy : Q y b) : feq x y = decide (a = b) := by
  obtain ⟨n, h1, h2⟩ := hx
  obtain ⟨m, h3, h4⟩ := hy
  rw [D_eq h1 h3]; exact decide_eq_decide.2 (q_eq h2 h4)
theorem num_q {x : Nat} {r : Rat} (h : Q x r) : num x = some x := by
  obtain ⟨n, h1, _⟩ := h
  have : isn x = false := D_num h1
  unfold num; rw [this]; rfl
theorem q_zero : Q 0 0 := by
  have := Q_whole (D_zero 1074); exact this
theorem q_29 : Q 4737786807993761792 536870912 := Q_whole (D_two 29 (by decide))
theorem and_sign {x : Nat} (hx : x < 2 ^ 64) : iandn .u64 (x : Int) 9223372036854775808 = ((x % 2 ^ 63 : Nat) : Int) := by
  have h1 := bv_nat64 x (by omega)
  unfold iandn
  have e3 : (BitVec.ofInt IntKind.u64.bits (x : Int) &&& ~~~ BitVec.ofInt IntKind.u64.bits 9223372036854775808).toNat = x % 2 ^ 63 := by
    show (BitVec.ofInt 64 (x : Int) &&& ~~~ BitVec.ofInt 64 9223372036854775808).toNat = _
    rw [BitVec.toNat_and, h1, show (~~~ BitVec.ofInt 64 9223372036854775808).toNat = 2 ^ 63 - 1 from by decide, Nat.and_two_pow_sub_one_eq_mod]
  rw [e3]; exact wrap_u64_id (by omega) (by omega)
theorem abs_is (k x : Nat) (hx : x < 2 ^ 64) : math_Abs k x = some (x % 2 ^ 63) := by
  unfold math_Abs ffrom
  rw [show fbits x = (x : Int) from rfl, and_sign hx]; rfl
theorem isnan_is {k x : Nat} {r : Rat} (h : Q x r) : math_IsNaN k x = some false := by
  obtain ⟨n, h1, _⟩ := h
  unfold math_IsNaN
  rw [D_ne h1 h1]; simp
theorem greatest : ∃ g : Rat, Q 9218868437227405311 g ∧ 1000 ≤ g := by
  have h := Go.Sx.D_fields (E := 2046) (F := 4503599627370495) (by decide) (by decide) (by decide) (n := ((2 ^ 52 + 4503599627370495 : Nat) : Int)) (v := 2045) rfl
  have h1 := Q_of h
  refine ⟨_, h1, ?_⟩
  have hU := Un_pos
  have hs : (2 : Rat) ^ 2045 = 2 ^ 971 * Un := by
    unfold Un; rw [← ratpow_add]
  have h9 := one_le_pow 971
  have e1 : (((2 ^ 52 + 4503599627370495 : Nat) : Int) : Rat) = 9007199254740991 := rfl
  rw [e1, hs]
  generalize (2 : Rat) ^ 971 = z at *
  have e2 : (9007199254740991 : Rat) * (z * Un) / Un = 9007199254740991 * z := by grind
  rw [e2]; grind
theorem isinf_is {k x : Nat} {r : Rat} (hx : x < 2 ^ 64) (h : Q x r) (h1 : -100 ≤ r) (h2 : r ≤ 100) : math_IsInf k x 0 = some false := by
  obtain ⟨A, qA, A0, hA⟩ := Q_abs hx h
  obtain ⟨g, qg, hg⟩ := greatest
  unfold math_IsInf math_IsInf_j1
  rw [show decide ((0 : Int) = 0) = true from rfl, br_true, abs_is k x hx, sbind, fgt_q qA qg, decide_eq_false (by rcases hA with e | e <;> grind)]
/-- the word without its sign -/
theorem sign_word {x : Nat} {a : Rat} (hx : x < 2 ^ 64) (h : Q x a) : (a < 0 → fneg x = x % 2 ^ 63 ∧ Q (x % 2 ^ 63) (-a)) ∧ (0 < a → x % 2 ^ 63 = x) := by
  obtain ⟨s, m, q, h1, h2⟩ := Q_read h
  obtain ⟨hs, hf⟩ := read_fields hx h1
  have hm : (0 : Rat) ≤ (m : Rat) * 2 ^ q := by
    have h1 : (0 : Rat) ≤ (m : Rat) := by
      have : ((0 : Nat) : Rat) ≤ (m : Rat) := Rat.natCast_le_natCast.2 (Nat.zero_le _)
      simpa using this
    exact Rat.mul_nonneg h1 (Rat.le_of_lt (un_pos q))
  have hU := Un_pos
  generalize (m : Rat) * 2 ^ q = z at *
  constructor
  · intro ha
    have hs1 : s = true := by
      cases s
      · exfalso
        simp only [Bool.false_eq_true, if_false] at h2
        have := Rat.mul_pos (show 0 < -a by grind) hU
        grind
      · rfl
    rw [hs1] at hs
    have h63 : x / 2 ^ 63 = 1 := by simpa using hs.symm
    have e : fneg x = x % 2 ^ 63 := by
      have e0 : fneg x = x ^^^ 2 ^ 63 := rfl
      have hx2 : x = 2 ^ 63 * 1 + x % 2 ^ 63 := by omega
      have hl : x % 2 ^ 63 < 2 ^ 63 := Nat.mod_lt _ (Nat.two_pow_pos _)
      rw [e0]
      generalize x % 2 ^ 63 = y at *
      subst hx2
      apply Nat.eq_of_testBit_eq
      intro i
      rw [Nat.two_pow_add_eq_or_of_lt hl, Nat.testBit_xor, Nat.testBit_or, Nat.mul_one]
      by_cases hi : i = 63
      · subst hi; rw [Nat.testBit_lt_two_pow hl]; simp
      · rw [Nat.testBit_two_pow_of_ne (Ne.symm hi)]; simp
    exact ⟨e, by rw [← e]; exact Q_fneg hx h⟩
  · intro ha
    have hs1 : s = false := by
      cases s
      · rfl
      · exfalso
        simp only [if_true] at h2
        have := Rat.mul_pos ha hU
        grind
    rw [hs1] at hs
    have h63 : ¬ x / 2 ^ 63 = 1 := by
      intro h; rw [h] at hs; simp at hs
    have := Nat.div_add_mod x (2 ^ 63)
    omega

/-! #### the ends of the functions, by the octant -/
def sg (b : Bool) (x : Nat) : Nat := if b then fneg x else x
def sinT (t : Int) (s : Bool) (S C : Nat) : Nat := if t = 0 then sg s S else if t = 2 then sg s C else if t = 4 then sg (!s) S else sg (!s) C
def cosT (t : Int) (S C : Nat) : Nat := if t = 0 then C else if t = 2 then fneg S else if t = 4 then fneg C else S
theorem sin_end (k u y : Nat) (s : Bool) (J t : Int) (hJ : iand .u64 J 7 = t) (ht : t = 0 ∨ t = 2 ∨ t = 4 ∨ t = 6) :
    math_sin_j3 k u s J y = some (sinT t s (sinP (red u y) (gmul (red u y) (red u y))) (cosP (gmul (red u y) (red u y)))) := by
  unfold math_sin_j3
  simp only [sbind, hJ]
  have e : gsub (gsub (gsub u (gmul y 4605249456957292544)) (gmul y 4495793288086814720)) (gmul y 4388835458085048688) = red u y := rfl
  rw [e]
  rcases ht with rfl | rfl | rfl | rfl
  · cases s <;> rfl
  · cases s <;> rfl
  · cases s <;> rfl
  · cases s <;> rfl
theorem cos_end (k u y : Nat) (J t : Int) (hJ : iand .u64 J 7 = t) (ht : t = 0 ∨ t = 2 ∨ t = 4 ∨ t = 6) :
    math_cos_j2 k u J y = some (cosT t (sinP (red u y) (gmul (red u y) (red u y))) (cosP (gmul (red u y) (red u y)))) := by
  unfold math_cos_j2
  simp only [sbind, hJ]
  have e : gsub (gsub (gsub u (gmul y 4605249456957292544)) (gmul y 4495793288086814720)) (gmul y 4388835458085048688) = red u y := rfl
  rw [e]
  rcases ht with rfl | rfl | rfl | rfl <;> rfl
theorem sincos_end (k u y : Nat) (s : Bool) (J t : Int) (hJ : iand .u64 J 7 = t) (ht : t = 0 ∨ t = 2 ∨ t = 4 ∨ t = 6) :
    math_Sincos_j3 k u s J y = some (sinT t s (sinP (red u y) (gmul (red u y) (red u y))) (cosP (gmul (red u y) (red u y))), cosT t (sinP (red u y) (gmul (red u y) (red u y))) (cosP (gmul (red u y) (red u y)))) := by
  unfold math_Sincos_j3
  simp only [sbind, hJ]
  have e : gsub (gsub (gsub u (gmul y 4605249456957292544)) (gmul y 4495793288086814720)) (gmul y 4388835458085048688) = red u y := rfl
  rw [e]
  rcases ht with rfl | rfl | rfl | rfl
  · cases s <;> rfl
  · cases s <;> rfl
  · cases s <;> rfl
  · cases s <;> rfl
theorem sg_b {x : Nat} {C : Rat} (b : Bool) (hx : x < 2 ^ 64) (h : Wb x C) : Wb (sg b x) C := by
  unfold sg; split
  · exact neg_b hx h
  · exact h
theorem sinT_b {S C : Nat} (t : Int) (s : Bool) (hS : S < 2 ^ 64) (hC : C < 2 ^ 64) (bS : Wb S 16) (bC : Wb C 16) : Wb (sinT t s S C) 16 ∧ Wb (cosT t S C) 16 := by
  unfold sinT cosT
  constructor
  · repeat' split
    all_goals first | exact sg_b _ hS bS | exact sg_b _ hC bC
  · repeat' split
    all_goals first | exact bS | exact bC | exact neg_b hS bS | exact neg_b hC bC

/-- all three, at an angle that is not 0 -/
theorem trig_is (k : Nat) {x : Nat} {a : Rat} (hx : x < 2 ^ 64) (q : Q x a) (h0 : a ≠ 0) (h1 : -7 ≤ a) (h2 : a ≤ 7) : ∃ s c, math_Sin k x = some s ∧ math_Cos k x = some c ∧ math_Sincos k x = some (s, c) ∧ Wb s 16 ∧ Wb c 16 := by
  obtain ⟨w1, w2⟩ := sign_word hx q
  have f0 : feq x 0 = false := by rw [feq_q q q_zero, decide_eq_false h0]
  have hn := isnan_is (k := k) q
  have hi := isinf_is (k := k) hx q (by grind) (by grind)
  have hab := abs_is k x hx
  obtain ⟨u, hu⟩ : ∃ u, x % 2 ^ 63 = u := ⟨_, rfl⟩
  rw [hu] at w1 w2 hab
  obtain ⟨A, qu, hA0, hA7, hneg⟩ : ∃ A, Q u A ∧ 0 ≤ A ∧ A ≤ 7 ∧ (a < 0 → fneg x = u) ∧ (0 < a → u = x) := by
    by_cases hlt : a < 0
    · obtain ⟨e1, e2⟩ := w1 hlt
      exact ⟨-a, e2, by grind, by grind, fun _ => e1, fun h => by grind⟩
    · have hpos : 0 < a := by grind
      have := w2 hpos
      exact ⟨a, by rw [this]; exact q, by grind, h2, fun h => by grind, fun _ => this⟩
  obtain ⟨j, hj, n1, n2, n3⟩ := red_is qu hA0 hA7
  obtain ⟨J, y, t, J1, J2, J3, hy, ht, hJ7, hF⟩ := oct_is hj
  have hz := n3 J y J1 J2 J3 hy
  have hzz : Wb (gmul (red u y) (red u y)) (65 / 64) := mul_b hz hz (by decide +kernel) (by decide +kernel)
  have bS := sinP_b hz hzz
  have bC := cosP_b hzz
  have g29 : fge u 4737786807993761792 = false := by rw [fge_q qu q_29, decide_eq_false (by grind)]
  have sj : ∀ s, math_sin_j2 k u s = some (sinT t s (sinP (red u y) (gmul (red u y) (red u y))) (cosP (gmul (red u y) (red u y)))) := fun s => by
    unfold math_sin_j2
    rw [g29, br_false, sbind, n1, sbind, n2, sbind]
    rw [hF _ (fun J y => math_sin_j3 k u s J y), sin_end k u y s J t hJ7 ht]
  have scj : ∀ s, math_Sincos_j2 k u s = some (sinT t s (sinP (red u y) (gmul (red u y) (red u y))) (cosP (gmul (red u y) (red u y))), cosT t (sinP (red u y) (gmul (red u y) (red u y))) (cosP (gmul (red u y) (red u y)))) := fun s => by
    unfold math_Sincos_j2
    rw [g29, br_false, sbind, n1, sbind, n2, sbind]
    rw [hF _ (fun J y => math_Sincos_j3 k u s J y), sincos_end k u y s J t hJ7 ht]
  have cj : math_cos_j1 k x false = some (cosT t (sinP (red u y) (gmul (red u y) (red u y))) (cosP (gmul (red u y) (red u y)))) := by
    unfold math_cos_j1
    rw [br_false, hab, sbind, g29, br_false, sbind, n1, sbind, n2, sbind]
    rw [hF _ (fun J y => math_cos_j2 k u J y), cos_end k u y J t hJ7 ht]
  have lS : sinP (red u y) (gmul (red u y) (red u y)) < 2 ^ 64 := gadd_lt _ _
  have lC : cosP (gmul (red u y) (red u y)) < 2 ^ 64 := gadd_lt _ _
  generalize sinP (red u y) (gmul (red u y) (red u y)) = S at *
  generalize cosP (gmul (red u y) (red u y)) = C at *
  have hcos : math_Cos k x = some (cosT t S C) := by
    unfold math_Cos math_cos
    rw [hn, sbind, br_false, hi, sbind, cj, sbind]
  obtain ⟨hn1, hn2⟩ := hneg
  have sel : ∀ {α : Type} (F : Nat → Bool → Option α), br (flt x 0) (F (fneg x) true) (F x false) = F u (decide (a < 0)) := fun F => by
    rw [flt_q q q_zero]
    by_cases hlt : a < 0
    · rw [decide_eq_true hlt, br_true, hn1 hlt]
    · rw [decide_eq_false hlt, br_false, hn2 (by grind)]
  have hsin : math_Sin k x = some (sinT t (decide (a < 0)) S C) := by
    unfold math_Sin math_sin
    rw [f0, br_false, hn, sbind]
    unfold math_sin_j1
    rw [br_false, hi, sbind, br_false, sel (fun u s => math_sin_j2 k u s), sj, sbind]
  have hsc : math_Sincos k x = some (sinT t (decide (a < 0)) S C, cosT t S C) := by
    unfold math_Sincos
    rw [f0, br_false, hn, sbind, br_false, hi, sbind]
    unfold math_Sincos_j1
    rw [br_false, sel (fun u s => math_Sincos_j2 k u s), scj]
  obtain ⟨b1, b2⟩ := sinT_b t (decide (a < 0)) lS lC bS bC
  exact ⟨_, _, hsin, hcos, hsc, b1, b2⟩
/-- at 0 -/
theorem trig_zero (k : Nat) {x : Nat} (hx : x < 2 ^ 64) (q : Q x 0) : math_Sin k x = some x ∧ math_Cos k x = some 4607182418800017408 := by
  have f0 : feq x 0 = true := by rw [feq_q q q_zero, decide_eq_true rfl]
  have hn := isnan_is (k := k) q
  have hi := isinf_is (k := k) hx q (by grind) (by grind)
  constructor
  · unfold math_Sin math_sin
    rw [f0, br_true]; rfl
  · have h63 : x % 2 ^ 63 = 0 := by
      obtain ⟨s, m, q', h1, h2⟩ := Q_read q
      obtain ⟨hs, hf⟩ := read_fields hx h1
      have hm0 : m = 0 := by
        rcases Nat.eq_zero_or_pos m with h | h
        · exact h
        · exfalso
          have h3 : (0 : Rat) < (m : Rat) * 2 ^ q' := by
            have h4 : (0 : Rat) < (m : Rat) := by
              have : ((0 : Nat) : Rat) < (m : Rat) := Rat.natCast_lt_natCast.2 h
              simpa using this
            exact Rat.mul_pos h4 (un_pos q')
          generalize (m : Rat) * 2 ^ q' = z at *
          rw [Rat.zero_mul] at h2
          cases s <;> simp only [Bool.false_eq_true, if_false, if_true] at h2 <;> grind
      rcases hf with ⟨h4, h5, h6⟩ | ⟨h4, h5, h6, h7⟩
      · have e1 := Nat.div_add_mod (x % 2 ^ 63) (2 ^ 52)
        have e2 : x % 2 ^ 63 % 2 ^ 52 = x % 2 ^ 52 := by omega
        have e3 : x % 2 ^ 63 / 2 ^ 52 = x / 2 ^ 52 % 2048 := by omega
        omega
      · omega
    unfold math_Cos math_cos
    rw [hn, sbind, br_false, hi, sbind]
    unfold math_cos_j1
    rw [br_false, abs_is k x hx, h63, sbind]
    have e1 : fge 0 4737786807993761792 = false := by decide +kernel
    have e2 : gmul 0 4608412980311869571 = 0 := by decide +kernel
    have e3 : num 0 = some 0 := by decide +kernel
    have e4 : f2i .u64 0 = some 0 := by decide +kernel
    have e5 : decide (iand .u64 0 1 = 1) = false := by decide
    have e6 : i2f 0 = 0 := by decide +kernel
    rw [e1, br_false, sbind, e2, e3, sbind, e4, sbind, e5, br_false, e6, cos_end k 0 0 0 0 (by decide) (by decide)]
    have e7 : cosP (gmul (red 0 0) (red 0 0)) = 4607182418800017408 := by decide +kernel
    rw [e7]; rfl
end Go.Proofs.YtekppafmaoefaaaDoor
