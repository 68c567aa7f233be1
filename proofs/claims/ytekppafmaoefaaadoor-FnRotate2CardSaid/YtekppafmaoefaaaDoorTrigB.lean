/-
  Sines and cosines of small angles as the library computes them: the three functions agree, and what they tell is at most 16. Ours.
-/
import Derived.Test.YtekppafmaoefaaaDoorFun
import Derived.Test.YtekppafmaoefaaaDoorRelAbs
import Derived.Test.YtekppafmaoefaaaDoorSxW
import Derived.Test.YtekppafmaoefaaaDoorSxV
import Derived.Test.YtekppafmaoefaaaDoorSxL
namespace Go.Proofs.YtekppafmaoefaaaDoor
open Go.Sx
open Ieee (signed)
set_option linter.unusedVariables false
set_option linter.unusedSimpArgs false
set_option maxRecDepth 100000

/-! #### bounds -/
theorem bd_mul {a b A B : Rat} (ha : -A ≤ a ∧ a ≤ A) (hb : -B ≤ b ∧ b ≤ B) : -(A * B) ≤ a * b ∧ a * b ≤ A * B := by
  have h1 := Rat.mul_nonneg (show 0 ≤ A - a by grind) (show 0 ≤ B - b by grind)
  have h2 := Rat.mul_nonneg (show 0 ≤ A + a by grind) (show 0 ≤ B + b by grind)
  have h3 := Rat.mul_nonneg (show 0 ≤ A - a by grind) (show 0 ≤ B + b by grind)
  have h4 := Rat.mul_nonneg (show 0 ≤ A + a by grind) (show 0 ≤ B - b by grind)
  grind
/-- a word that stands for a number of at most so much -/
def Wb (x : Nat) (C : Rat) : Prop := ∃ r, Q x r ∧ -C ≤ r ∧ r ≤ C
theorem mul_b {x y : Nat} {A B C : Rat} (hx : Wb x A) (hy : Wb y B) (h : A * B + 1 / 1024 ≤ C) (hC : A * B ≤ 1073741824) : Wb (gmul x y) C := by
  obtain ⟨a, qa, ha⟩ := hx
  obtain ⟨b, qb, hb⟩ := hy
  have hm := bd_mul ha hb
  have hBB : (1073741824 : Rat) ≤ BB := by decide +kernel
  obtain ⟨e, d, q, he, hd⟩ := gmul_abs qa qb ⟨by grind, by grind⟩
  refine ⟨_, q, ?_⟩
  have h1 := bd_mul hm he
  have hu : (1073741824 : Rat) * uu + uu ≤ 1 / 1024 := by decide +kernel
  have h2 := Rat.mul_nonneg (show 0 ≤ 1073741824 - A * B by grind) uu_pos
  obtain ⟨d1, d2⟩ := hd
  generalize a * b = m at *
  generalize A * B = M at *
  grind
theorem add_b {x y : Nat} {A B C : Rat} (hx : Wb x A) (hy : Wb y B) (h : A + B + 1 / 1024 ≤ C) (hC : A + B ≤ 1073741824) : Wb (gadd x y) C := by
  obtain ⟨a, qa, ha⟩ := hx
  obtain ⟨b, qb, hb⟩ := hy
  have hBB : (1073741824 : Rat) ≤ BB := by decide +kernel
  obtain ⟨e, q, he⟩ := gadd_full qa qb ⟨by grind, by grind⟩
  refine ⟨_, q, ?_⟩
  have h1 := bd_mul (a := a + b) (A := A + B) ⟨by grind, by grind⟩ he
  have hu : (1073741824 : Rat) * uu + uu ≤ 1 / 1024 := by decide +kernel
  have h2 := Rat.mul_nonneg (show 0 ≤ 1073741824 - (A + B) by grind) uu_pos
  have hu0 := uu_pos
  generalize uu = u at *
  grind
theorem sub_b {x y : Nat} {A B C : Rat} (hx : Wb x A) (hy : Wb y B) (h : A + B + 1 / 1024 ≤ C) (hC : A + B ≤ 1073741824) : Wb (gsub x y) C := by
  obtain ⟨a, qa, ha⟩ := hx
  obtain ⟨b, qb, hb⟩ := hy
  have hBB : (1073741824 : Rat) ≤ BB := by decide +kernel
  obtain ⟨e, q, he⟩ := gsub_full qa qb ⟨by grind, by grind⟩
  refine ⟨_, q, ?_⟩
  have h1 := bd_mul (a := a - b) (A := A + B) ⟨by grind, by grind⟩ he
  have hu : (1073741824 : Rat) * uu + uu ≤ 1 / 1024 := by decide +kernel
  have h2 := Rat.mul_nonneg (show 0 ≤ 1073741824 - (A + B) by grind) uu_pos
  have hu0 := uu_pos
  generalize uu = u at *
  grind
theorem neg_b {x : Nat} {C : Rat} (hx : x < 2 ^ 64) (h : Wb x C) : Wb (fneg x) C := by
  obtain ⟨r, q, h1, h2⟩ := h
  exact ⟨-r, Q_fneg hx q, by grind, by grind⟩
theorem Q_word2 (e E F : Nat) (h0 : 0 < E) (h1 : E < 2047) (hF : F < 2 ^ 52) (hE : E - 1 + e = 1074) : Q (E * 2 ^ 52 + F) (((2 ^ 52 + F : Nat) : Rat) / 2 ^ e) := by
  have h := Go.Sx.D_fields h0 h1 hF (n := ((2 ^ 52 + F : Nat) : Int)) (v := E - 1) rfl
  have h1 := Q_of h
  have hU := Un_pos
  have hs : Un = 2 ^ (E - 1) * 2 ^ e := by unfold Un; rw [← ratpow_add, hE]
  have e1 : ((((2 ^ 52 + F : Nat) : Int) : Rat)) = ((2 ^ 52 + F : Nat) : Rat) := Rat.intCast_natCast _
  rw [e1, hs] at h1
  have a1 := un_pos (E - 1)
  have a2 := un_pos e
  have e2 : ((2 ^ 52 + F : Nat) : Rat) * 2 ^ (E - 1) / (2 ^ (E - 1) * 2 ^ e) = ((2 ^ 52 + F : Nat) : Rat) / 2 ^ e := by
    generalize (2 : Rat) ^ (E - 1) = z at *
    generalize (2 : Rat) ^ e = w at *
    generalize ((2 ^ 52 + F : Nat) : Rat) = m
    grind
  rw [e2] at h1; exact h1
/-- a constant below 1 -/
theorem const_b (e E F : Nat) (h0 : 0 < E) (h1 : E < 2047) (hF : F < 2 ^ 52) (hE : E - 1 + e = 1074) (he : 53 ≤ e) : Wb (E * 2 ^ 52 + F) 1 := by
  refine ⟨_, Q_word2 e E F h0 h1 hF hE, ?_⟩
  have h2 : ((2 ^ 52 + F : Nat) : Rat) ≤ ((2 ^ e : Nat) : Rat) := Rat.natCast_le_natCast.2 (Nat.le_trans (show 2 ^ 52 + F ≤ 2 ^ 53 by omega) (Nat.pow_le_pow_right (by decide) he))
  rw [castpow e] at h2
  have h3 : (0 : Rat) ≤ ((2 ^ 52 + F : Nat) : Rat) := by
    have : ((0 : Nat) : Rat) ≤ ((2 ^ 52 + F : Nat) : Rat) := Rat.natCast_le_natCast.2 (Nat.zero_le _)
    simpa using this
  have a2 := un_pos e
  generalize (2 : Rat) ^ e = w at *
  generalize ((2 ^ 52 + F : Nat) : Rat) = m at *
  obtain ⟨z, hz⟩ : ∃ z, m / w = z := ⟨_, rfl⟩
  have h4 : m = z * w := by grind
  rw [hz]
  constructor
  · by_cases h5 : -1 ≤ z
    · exact h5
    · have := Rat.mul_pos (show 0 < -1 - z by grind) a2
      grind
  · by_cases h5 : z ≤ 1
    · exact h5
    · have := Rat.mul_pos (show 0 < z - 1 by grind) a2
      grind
theorem constn_b (e E F : Nat) (h0 : 0 < E) (h1 : E < 2047) (hF : F < 2 ^ 52) (hE : E - 1 + e = 1074) (he : 53 ≤ e) {x : Nat} (hx : x = fneg (E * 2 ^ 52 + F)) : Wb x 1 := by
  subst hx; exact neg_b (by omega) (const_b e E F h0 h1 hF hE he)

/-! #### the two series -/
def sinP (z zz : Nat) : Nat := gadd z (gmul (gmul z zz) (gadd (gmul (gadd (gmul (gadd (gmul (gadd (gmul (gadd (gmul 4460209587652500685 zz) 13716528389658582877) zz) 4523617212962785441) zz) 13774824197404483331) zz) 4575957461383575504) zz) 13818544856648471880))
def cosP (zz : Nat) : Nat := gadd (gsub 4607182418800017408 (gmul 4602678819172646912 zz)) (gmul (gmul zz zz) (gadd (gmul (gadd (gmul (gadd (gmul (gadd (gmul (gadd (gmul 13666448263388469915 zz) 4477121864728985349) zz) 13732177093698800582) zz) 4537941361668146421) zz) 13787419979223748497) zz) 4586165620538955083))
theorem q_one : Q 4607182418800017408 1 := Q_whole D_one
theorem sinP_b {z zz : Nat} (hz : Wb z 1) (hzz : Wb zz (65 / 64)) : Wb (sinP z zz) 16 := by
  unfold sinP
  have c0 : Wb 4460209587652500685 1 := const_b 85 990 1645956555709645 (by decide) (by decide) (by decide) (by decide) (by decide)
  have c1 : Wb 13716528389658582877 1 := constn_b 78 997 3067524315422557 (by decide) (by decide) (by decide) (by decide) (by decide) (by decide +kernel)
  have c2 : Wb 4523617212962785441 1 := const_b 71 1004 2003187082807457 (by decide) (by decide) (by decide) (by decide) (by decide)
  have c3 : Wb 13774824197404483331 1 := constn_b 65 1010 2816536905506563 (by decide) (by decide) (by decide) (by decide) (by decide) (by decide +kernel)
  have c4 : Wb 4575957461383575504 1 := const_b 59 1016 300239975151568 (by decide) (by decide) (by decide) (by decide) (by decide)
  have c5 : Wb 13818544856648471880 1 := constn_b 55 1020 1501199875790152 (by decide) (by decide) (by decide) (by decide) (by decide) (by decide +kernel)
  have t1 := add_b (C := 33 / 16) (mul_b (C := 33 / 32) c0 hzz (by decide +kernel) (by decide +kernel)) c1 (by decide +kernel) (by decide +kernel)
  have t2 := add_b (C := 51 / 16) (mul_b (C := 34 / 16) t1 hzz (by decide +kernel) (by decide +kernel)) c2 (by decide +kernel) (by decide +kernel)
  have t3 := add_b (C := 70 / 16) (mul_b (C := 53 / 16) t2 hzz (by decide +kernel) (by decide +kernel)) c3 (by decide +kernel) (by decide +kernel)
  have t4 := add_b (C := 90 / 16) (mul_b (C := 73 / 16) t3 hzz (by decide +kernel) (by decide +kernel)) c4 (by decide +kernel) (by decide +kernel)
  have t5 := add_b (C := 110 / 16) (mul_b (C := 93 / 16) t4 hzz (by decide +kernel) (by decide +kernel)) c5 (by decide +kernel) (by decide +kernel)
  have t6 := mul_b (C := 34 / 32) hz hzz (by decide +kernel) (by decide +kernel)
  exact add_b hz (mul_b (C := 14) t6 t5 (by decide +kernel) (by decide +kernel)) (by decide +kernel) (by decide +kernel)
theorem cosP_b {zz : Nat} (hzz : Wb zz (65 / 64)) : Wb (cosP zz) 16 := by
  unfold cosP
  have c0 : Wb 13666448263388469915 1 := constn_b 89 986 2526993946385051 (by decide) (by decide) (by decide) (by decide) (by decide) (by decide +kernel)
  have c1 : Wb 4477121864728985349 1 := const_b 81 994 543835122712325 (by decide) (by decide) (by decide) (by decide) (by decide)
  have c2 : Wb 13732177093698800582 1 := constn_b 74 1001 701829846158278 (by decide) (by decide) (by decide) (by decide) (by decide) (by decide +kernel)
  have c3 : Wb 4537941361668146421 1 := const_b 68 1007 2816536906056949 (by decide) (by decide) (by decide) (by decide) (by decide)
  have c4 : Wb 13787419979223748497 1 := constn_b 62 1013 1901519842660241 (by decide) (by decide) (by decide) (by decide) (by decide) (by decide +kernel)
  have c5 : Wb 4586165620538955083 1 := const_b 57 1018 1501199875790155 (by decide) (by decide) (by decide) (by decide) (by decide)
  have ch : Wb 4602678819172646912 1 := const_b 53 1022 0 (by decide) (by decide) (by decide) (by decide) (by decide)
  have c1' : Wb 4607182418800017408 1 := ⟨1, q_one, by decide +kernel, by decide +kernel⟩
  have t1 := add_b (C := 33 / 16) (mul_b (C := 33 / 32) c0 hzz (by decide +kernel) (by decide +kernel)) c1 (by decide +kernel) (by decide +kernel)
  have t2 := add_b (C := 51 / 16) (mul_b (C := 34 / 16) t1 hzz (by decide +kernel) (by decide +kernel)) c2 (by decide +kernel) (by decide +kernel)
  have t3 := add_b (C := 70 / 16) (mul_b (C := 53 / 16) t2 hzz (by decide +kernel) (by decide +kernel)) c3 (by decide +kernel) (by decide +kernel)
  have t4 := add_b (C := 90 / 16) (mul_b (C := 73 / 16) t3 hzz (by decide +kernel) (by decide +kernel)) c4 (by decide +kernel) (by decide +kernel)
  have t5 := add_b (C := 110 / 16) (mul_b (C := 93 / 16) t4 hzz (by decide +kernel) (by decide +kernel)) c5 (by decide +kernel) (by decide +kernel)
  have t6 := mul_b (C := 34 / 32) hzz hzz (by decide +kernel) (by decide +kernel)
  exact add_b (A := 3) (sub_b c1' (mul_b (C := 34 / 32) ch hzz (by decide +kernel) (by decide +kernel)) (by decide +kernel) (by decide +kernel)) (mul_b (C := 12) t6 t5 (by decide +kernel) (by decide +kernel)) (by decide +kernel) (by decide +kernel)
end Go.Proofs.YtekppafmaoefaaaDoor
