/-
  The angle is brought near to 0; the sine, the cosine, and both together. Ours.
-/
import Derived.Test.YtekppafmaoefaaaDoorTrigB
namespace Go.Proofs.YtekppafmaoefaaaDoor
open Go.Sx
open Ieee (signed)
set_option linter.unusedVariables false
set_option linter.unusedSimpArgs false
set_option maxRecDepth 100000

theorem trunc_core (m q a b : Nat) (hab : q + b = 1074 + a) {r : Rat} (sg : Rat) (hv : sg * ((m : Rat) * 2 ^ q) = r * Un) : sg * ((m * 2 ^ a : Nat) : Rat) = r * ((2 ^ b : Nat) : Rat) := by
  have e1 : (2 : Rat) ^ q * 2 ^ b = Un * 2 ^ a := by unfold Un; rw [← ratpow_add, ← ratpow_add, hab]
  have hU := Un_pos
  rw [Rat.natCast_mul, castpow, castpow]
  generalize (m : Rat) = M at *
  generalize (2 : Rat) ^ q = A at *
  generalize (2 : Rat) ^ b = B at *
  generalize (2 : Rat) ^ a = C at *
  have h2 : (sg * (M * C) - r * B) * Un = 0 := by grind
  rcases Rat.mul_eq_zero.1 h2 with h | h <;> grind
theorem floor_rat {M P : Nat} {r : Rat} (hP : 0 < P) (h : ((M : Nat) : Rat) = r * ((P : Nat) : Rat)) : ((M / P : Nat) : Rat) ≤ r ∧ r < ((M / P : Nat) : Rat) + 1 := by
  have hp : (0 : Rat) < (P : Rat) := by
    have : ((0 : Nat) : Rat) < (P : Rat) := Rat.natCast_lt_natCast.2 hP
    simpa using this
  have h1 : M / P * P ≤ M := Nat.div_mul_le_self M P
  have h2 : M < (M / P + 1) * P := by
    have := Nat.lt_div_mul_add hP (a := M)
    rw [Nat.add_mul, Nat.one_mul]; exact this
  have k1 : ((M / P * P : Nat) : Rat) ≤ ((M : Nat) : Rat) := Rat.natCast_le_natCast.2 h1
  have k2 : ((M : Nat) : Rat) < (((M / P + 1) * P : Nat) : Rat) := Rat.natCast_lt_natCast.2 h2
  rw [Rat.natCast_mul] at k1 k2
  rw [Rat.natCast_add] at k2
  have o1 : ((1 : Nat) : Rat) = 1 := rfl
  rw [o1] at k2
  rw [h] at k1 k2
  generalize ((M / P : Nat) : Rat) = c at *
  generalize (P : Rat) = p at *
  constructor
  · by_cases h5 : c ≤ r
    · exact h5
    · have := Rat.mul_pos (show 0 < c - r by grind) hp
      grind
  · by_cases h5 : r < c + 1
    · exact h5
    · have := Rat.mul_nonneg (show 0 ≤ r - (c + 1) by grind) (Rat.le_of_lt hp)
      grind
theorem f2i_trunc {x : Nat} {r : Rat} (h : Q x r) (h0 : -1 < r) (h1 : r ≤ 1000000) : ∃ j : Nat, f2i .u64 x = some (j : Int) ∧ (j = 0 ∨ (j : Rat) ≤ r) ∧ r < (j : Rat) + 1 := by
  obtain ⟨s, m, q, hr, hv⟩ := Q_read h
  obtain ⟨a, ha⟩ : ∃ a, ((q : Int) - 1074).toNat = a := ⟨_, rfl⟩
  obtain ⟨b, hb⟩ : ∃ b, (-((q : Int) - 1074)).toNat = b := ⟨_, rfl⟩
  have hab : q + b = 1074 + a := by omega
  have key := trunc_core m q a b hab _ hv
  have hP := Nat.two_pow_pos b
  have hcut : Ieee.Toward.zero.cut s (m <<< ((q : Int) - 1074).toNat) (-((q : Int) - 1074)).toNat = m * 2 ^ a / 2 ^ b := by
    rw [cut_zero, Nat.shiftLeft_eq, ha, hb]
  obtain ⟨c, hc⟩ : ∃ c, m * 2 ^ a / 2 ^ b = c := ⟨_, rfl⟩
  rw [hc] at hcut
  have hmin : IntKind.min .u64 = 0 := by decide
  have hmax : IntKind.max .u64 = 18446744073709551615 := by decide
  have fin : c < 10000000 → (s = true → c = 0) → f2i .u64 x = some (c : Int) := by
    intro hc1 hs
    unfold f2i floatToIntVal FloatKind.decode Ieee.Datum.toInt
    rw [hr]
    simp only [Ieee.Datum.integral, hcut]
    rw [signed_eq, Int.pow_zero, Int.mul_one]
    have : (if s then -(c : Int) else (c : Int)) = (c : Int) := by
      cases s
      · simp
      · rw [hs rfl]; simp
    rw [this]
    simp only [hmin, hmax]
    rw [if_pos (by omega)]
  generalize m * 2 ^ a = M at *
  generalize 2 ^ b = P at *
  have hp : (0 : Rat) < (P : Rat) := by
    have : ((0 : Nat) : Rat) < (P : Rat) := Rat.natCast_lt_natCast.2 hP
    simpa using this
  cases s with
  | false =>
    have k : ((M : Nat) : Rat) = r * ((P : Nat) : Rat) := by simpa using key
    obtain ⟨g1, g2⟩ := floor_rat hP k
    rw [hc] at g1 g2
    refine ⟨c, fin ?_ (fun h => by cases h), .inr g1, g2⟩
    have : ((c : Nat) : Rat) ≤ ((1000000 : Nat) : Rat) := Rat.le_trans g1 h1
    have := Rat.natCast_le_natCast.1 this
    omega
  | true =>
    have k : ((M : Nat) : Rat) = -r * ((P : Nat) : Rat) := by
      simp only [if_true] at key; grind
    obtain ⟨g1, g2⟩ := floor_rat hP k
    rw [hc] at g1 g2
    have hc0 : c = 0 := by
      have : ((c : Nat) : Rat) < ((1 : Nat) : Rat) := by
        have o1 : ((1 : Nat) : Rat) = 1 := rfl
        rw [o1]; grind
      have := Rat.natCast_lt_natCast.1 this
      omega
    refine ⟨c, fin (by omega) (fun _ => hc0), .inl hc0, ?_⟩
    rw [hc0] at g1 ⊢
    have : ((0 : Nat) : Rat) = 0 := rfl
    rw [this] at g1 ⊢
    grind

/-! #### near values -/
abbrev ep : Rat := 1 / 1000000
theorem mul_n {x y : Nat} {a b : Rat} (hx : Q x a) (hy : Q y b) (h : -16 ≤ a * b ∧ a * b ≤ 16) : ∃ r, Q (gmul x y) r ∧ a * b - ep ≤ r ∧ r ≤ a * b + ep := by
  have hBB : (1073741824 : Rat) ≤ BB := by decide +kernel
  obtain ⟨e, d, q, he, hd⟩ := gmul_abs hx hy ⟨by grind, by grind⟩
  refine ⟨_, q, ?_⟩
  have h1 := bd_mul h he
  have hu : (16 : Rat) * uu + uu ≤ ep := by decide +kernel
  obtain ⟨d1, d2⟩ := hd
  generalize a * b = m at *
  generalize uu = u at *
  generalize ep = v at *
  grind
theorem sub_n {x y : Nat} {a b : Rat} (hx : Q x a) (hy : Q y b) (h : -16 ≤ a - b ∧ a - b ≤ 16) : ∃ r, Q (gsub x y) r ∧ a - b - ep ≤ r ∧ r ≤ a - b + ep := by
  have hBB : (1073741824 : Rat) ≤ BB := by decide +kernel
  obtain ⟨e, q, he⟩ := gsub_full hx hy ⟨by grind, by grind⟩
  refine ⟨_, q, ?_⟩
  have h1 := bd_mul h he
  have hu : (16 : Rat) * uu + uu ≤ ep := by decide +kernel
  have hu0 := uu_pos
  generalize uu = u at *
  generalize ep = v at *
  grind

def red (u y : Nat) : Nat := gsub (gsub (gsub u (gmul y 4605249456957292544)) (gmul y 4495793288086814720)) (gmul y 4388835458085048688)
theorem q_M : Q 4608412980311869571 (5734161139222659 / 4503599627370496) := by
  have := Q_word2 52 1023 1230561511852163 (by decide) (by decide) (by decide) (by decide)
  have e : ((2 ^ 52 + 1230561511852163 : Nat) : Rat) / 2 ^ 52 = 5734161139222659 / 4503599627370496 := by decide +kernel
  rw [e] at this; exact this
theorem q_A : Q 4605249456957292544 (7074237412016128 / 9007199254740992) := by
  have := Q_word2 53 1022 2570637784645632 (by decide) (by decide) (by decide) (by decide)
  have e : ((2 ^ 52 + 2570637784645632 : Nat) : Rat) / 2 ^ 53 = 7074237412016128 / 9007199254740992 := by decide +kernel
  rw [e] at this; exact this
theorem q_B : ∃ β, Q 4495793288086814720 β ∧ 0 ≤ β ∧ β ≤ 1 / 10000000 := by
  have := Q_word2 77 998 1200859971059712 (by decide) (by decide) (by decide) (by decide)
  exact ⟨_, this, by decide +kernel, by decide +kernel⟩
theorem q_C : ∃ β, Q 4388835458085048688 β ∧ 0 ≤ β ∧ β ≤ 1 / 10000000 := by
  have := Q_word2 101 974 2329421026185584 (by decide) (by decide) (by decide) (by decide)
  exact ⟨_, this, by decide +kernel, by decide +kernel⟩
/-- what is left of the angle -/
theorem red_is {u : Nat} {a : Rat} (qu : Q u a) (h0 : 0 ≤ a) (h7 : a ≤ 7) :
    ∃ j : Nat, j ≤ 8 ∧ num (gmul u 4608412980311869571) = some (gmul u 4608412980311869571) ∧ f2i .u64 (gmul u 4608412980311869571) = some (j : Int) ∧
      ∀ (J : Nat) (y : Nat), j ≤ J → J ≤ j + 1 → J ≤ 8 → D y (J : Int) 1074 → Wb (red u y) 1 := by
  obtain ⟨r, qr, r1, r2⟩ := mul_n qu q_M ⟨by grind, by grind⟩
  obtain ⟨j, f1, f2, f3⟩ := f2i_trunc qr (by grind) (by grind)
  have hj0 : (0 : Rat) ≤ (j : Rat) := by
    have : ((0 : Nat) : Rat) ≤ (j : Rat) := Rat.natCast_le_natCast.2 (Nat.zero_le _)
    simpa using this
  have hj1 : (j : Rat) ≤ a * (5734161139222659 / 4503599627370496) + ep := by
    rcases f2 with h | h
    · have e : (j : Rat) = 0 := by rw [h]; rfl
      rw [e]; grind
    · grind
  refine ⟨j, ?_, ?_, f1, ?_⟩
  · rcases Nat.lt_or_ge j 9 with h | h
    · omega
    · have : ((9 : Nat) : Rat) ≤ (j : Rat) := Rat.natCast_le_natCast.2 h
      have e : ((9 : Nat) : Rat) = 9 := rfl
      rw [e] at this
      grind
  · obtain ⟨n, hn, _⟩ := qr
    have : isn (gmul u 4608412980311869571) = false := D_num hn
    unfold num; rw [this]; rfl
  intro J y hJ1 hJ2 hJ8 hD
  have qy : Q y (J : Rat) := by
    have := Q_whole hD
    rwa [Rat.intCast_natCast] at this
  have k1 : (j : Rat) ≤ (J : Rat) := Rat.natCast_le_natCast.2 hJ1
  have k2 : (J : Rat) ≤ (j : Rat) + 1 := by
    have : (J : Rat) ≤ ((j + 1 : Nat) : Rat) := Rat.natCast_le_natCast.2 hJ2
    rw [Rat.natCast_add] at this; exact this
  have k3 : (J : Rat) ≤ 8 := Rat.natCast_le_natCast.2 hJ8
  generalize (J : Rat) = T at *
  generalize (j : Rat) = t at *
  obtain ⟨β, qβ, β0, β1⟩ := q_B
  obtain ⟨γ, qγ, γ0, γ1⟩ := q_C
  obtain ⟨p1, w1, a1, a2⟩ := mul_n qy q_A ⟨by grind, by grind⟩
  have hb : 0 ≤ T * β ∧ T * β ≤ 1 / 1000000 := by
    have := Rat.mul_nonneg (show 0 ≤ T by grind) β0
    have := Rat.mul_nonneg (show 0 ≤ T by grind) (show 0 ≤ 1 / 10000000 - β by grind)
    grind
  have hg : 0 ≤ T * γ ∧ T * γ ≤ 1 / 1000000 := by
    have := Rat.mul_nonneg (show 0 ≤ T by grind) γ0
    have := Rat.mul_nonneg (show 0 ≤ T by grind) (show 0 ≤ 1 / 10000000 - γ by grind)
    grind
  obtain ⟨p2, w2, b1, b2⟩ := mul_n qy qβ ⟨by grind, by grind⟩
  obtain ⟨p3, w3, c1, c2⟩ := mul_n qy qγ ⟨by grind, by grind⟩
  generalize T * β = tb at *
  generalize T * γ = tg at *
  have hx1 : -(4 / 5) ≤ a - T * (7074237412016128 / 9007199254740992) := by grind
  have hx2 : a - T * (7074237412016128 / 9007199254740992) ≤ 4 / 5 := by grind
  obtain ⟨z1, v1, d1, d2⟩ := sub_n qu w1 ⟨by grind, by grind⟩
  obtain ⟨z2, v2, e1, e2⟩ := sub_n v1 w2 ⟨by grind, by grind⟩
  obtain ⟨z3, v3, g1, g2⟩ := sub_n v2 w3 ⟨by grind, by grind⟩
  exact ⟨z3, v3, by grind, by grind⟩
/-- the octant -/
theorem oct_is {j : Nat} (h : j ≤ 8) : ∃ (J : Nat) (y : Nat) (t : Int), j ≤ J ∧ J ≤ j + 1 ∧ J ≤ 8 ∧ D y (J : Int) 1074 ∧ (t = 0 ∨ t = 2 ∨ t = 4 ∨ t = 6) ∧ iand .u64 (J : Int) 7 = t ∧
    ∀ (α : Type) (F : Int → Nat → Option α), (br (decide (iand .u64 (j : Int) 1 = 1)) ((some (gadd (i2f (j : Int)) 4607182418800017408)) >>= fun r => F (iadd .u64 (j : Int) 1) r) (F (j : Int) (i2f (j : Int)))) = F (J : Int) y := by
  have hd : D (i2f (j : Int)) (j : Int) 1074 := D_i2f (by omega)
  have h1 : D (gadd (i2f (j : Int)) 4607182418800017408) ((j + 1 : Nat) : Int) 1074 := gadd_D hd D_one (by omega) (by omega) (by decide)
  have hc : j = 0 ∨ j = 1 ∨ j = 2 ∨ j = 3 ∨ j = 4 ∨ j = 5 ∨ j = 6 ∨ j = 7 ∨ j = 8 := by omega
  have even : decide (iand .u64 (j : Int) 1 = 1) = false → j % 2 = 0 → ∀ t, (t = 0 ∨ t = 2 ∨ t = 4 ∨ t = 6) → iand .u64 (j : Int) 7 = t → ∃ (J : Nat) (y : Nat) (t : Int), j ≤ J ∧ J ≤ j + 1 ∧ J ≤ 8 ∧ D y (J : Int) 1074 ∧ (t = 0 ∨ t = 2 ∨ t = 4 ∨ t = 6) ∧ iand .u64 (J : Int) 7 = t ∧
    ∀ (α : Type) (F : Int → Nat → Option α), (br (decide (iand .u64 (j : Int) 1 = 1)) ((some (gadd (i2f (j : Int)) 4607182418800017408)) >>= fun r => F (iadd .u64 (j : Int) 1) r) (F (j : Int) (i2f (j : Int)))) = F (J : Int) y := by
    intro hb h2 t ht h7
    exact ⟨j, i2f (j : Int), t, Nat.le_refl _, by omega, h, hd, ht, h7, fun α F => by rw [hb, br_false]⟩
  have odd : decide (iand .u64 (j : Int) 1 = 1) = true → j % 2 = 1 → iadd .u64 (j : Int) 1 = ((j + 1 : Nat) : Int) → ∀ t, (t = 0 ∨ t = 2 ∨ t = 4 ∨ t = 6) → iand .u64 ((j + 1 : Nat) : Int) 7 = t → ∃ (J : Nat) (y : Nat) (t : Int), j ≤ J ∧ J ≤ j + 1 ∧ J ≤ 8 ∧ D y (J : Int) 1074 ∧ (t = 0 ∨ t = 2 ∨ t = 4 ∨ t = 6) ∧ iand .u64 (J : Int) 7 = t ∧
    ∀ (α : Type) (F : Int → Nat → Option α), (br (decide (iand .u64 (j : Int) 1 = 1)) ((some (gadd (i2f (j : Int)) 4607182418800017408)) >>= fun r => F (iadd .u64 (j : Int) 1) r) (F (j : Int) (i2f (j : Int)))) = F (J : Int) y := by
    intro hb h2 ha t ht h7
    exact ⟨j + 1, gadd (i2f (j : Int)) 4607182418800017408, t, by omega, by omega, by omega, h1, ht, h7, fun α F => by rw [hb, br_true, sbind, ha]⟩
  rcases hc with rfl | rfl | rfl | rfl | rfl | rfl | rfl | rfl | rfl
  · exact even (by decide) (by decide) 0 (by decide) (by decide)
  · exact odd (by decide) (by decide) (by decide) 2 (by decide) (by decide)
  · exact even (by decide) (by decide) 2 (by decide) (by decide)
  · exact odd (by decide) (by decide) (by decide) 4 (by decide) (by decide)
  · exact even (by decide) (by decide) 4 (by decide) (by decide)
  · exact odd (by decide) (by decide) (by decide) 6 (by decide) (by decide)
  · exact even (by decide) (by decide) 6 (by decide) (by decide)
  · exact odd (by decide) (by decide) (by decide) 0 (by decide) (by decide)
  · exact even (by decide) (by decide) 0 (by decide) (by decide)
end Go.Proofs.YtekppafmaoefaaaDoor
