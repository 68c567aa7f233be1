/-
  Where two lines of whole places cross, as the reference tells it, and how near a float is to it. Ours.
-/
import Derived.Test.YthobbfpoooommaaGreatLmGeo
import Derived.Test.YthobbfpoooommaaGreatQCmp
namespace Go.Proofs.YthobbfpoooommaaGreat
open Go.Sx
open Ieee (signed)
set_option linter.unusedVariables false
set_option linter.unusedSimpArgs false
set_option maxRecDepth 100000

/-- a fraction of whole numbers, the lower one above 0 -/
def Rz (s : Bool) (l : List Int) (e : Int) (s' : Bool) (l' : List Int) (e' : Int) (n d : Int) : Prop := Dz 3222 1000 s l e n ∧ Dz 2148 500 s' l' e' d
theorem dz_minus {k κ lm : Nat} {s : Bool} {l : List Int} {e n : Int} (h : Dz κ lm s l e n) : ∃ r, spec_Dyadic_Minus k s l e = some r ∧ Dz κ lm r.1 r.2.1 r.2.2 (-n) := by
  obtain ⟨s', m1, m2⟩ := dminus_is (k := k) h
  exact ⟨(s', l, e), m1, by unfold Dz; rw [Int.neg_mul]; exact m2⟩
theorem ratio_z {k : Nat} {s s' : Bool} {l l' : List Int} {e e' n d : Int} (h : Dz 3222 1000 s l e n) (h' : Dz 2148 500 s' l' e' d) (hd : d ≠ 0) :
    ∃ r n' d', spec_RatioOf k s l e s' l' e' = some r ∧ Rz r.1 r.2.1 r.2.2.1 r.2.2.2.1 r.2.2.2.2.1 r.2.2.2.2.2 n' d' ∧ 0 < d' ∧ ((n' = n ∧ d' = d) ∨ (n' = -n ∧ d' = -d)) := by
  unfold spec_RatioOf
  rw [dz_sign h', sbind]
  by_cases hn : d < 0
  · obtain ⟨r1, q1, w1⟩ := dz_minus (k := k) h
    obtain ⟨r2, q2, w2⟩ := dz_minus (k := k) h'
    rw [decide_eq_true (show sgn d < 0 by unfold sgn; rw [if_pos hn]; decide), br_true, q1, sbind, q2, sbind]
    exact ⟨_, -n, -d, rfl, ⟨w1, w2⟩, by omega, .inr ⟨rfl, rfl⟩⟩
  · rw [decide_eq_false (show ¬ sgn d < 0 by unfold sgn; rw [if_neg hn]; split <;> decide), br_false]
    exact ⟨_, n, d, rfl, ⟨h, h'⟩, by omega, .inl ⟨rfl, rfl⟩⟩
abbrev T13 := Bool × (List Int) × Int × Bool × (List Int) × Int × Bool × (List Int) × Int × Bool × (List Int) × Int × Bool
theorem crossing_z {k : Nat} {a b c d : T6} {A B C D : Int × Int} (hk : 10000 < k) (ha : Pz a A) (hb : Pz b B) (hc : Pz c C) (hd : Pz d D) :
    ∃ r : T13, spec_Crossing k a.1 a.2.1 a.2.2.1 a.2.2.2.1 a.2.2.2.2.1 a.2.2.2.2.2 b.1 b.2.1 b.2.2.1 b.2.2.2.1 b.2.2.2.2.1 b.2.2.2.2.2 c.1 c.2.1 c.2.2.1 c.2.2.2.1 c.2.2.2.2.1 c.2.2.2.2.2 d.1 d.2.1 d.2.2.1 d.2.2.2.1 d.2.2.2.2.1 d.2.2.2.2.2 = some r ∧
      ((dn A B C D = 0 ∧ r.2.2.2.2.2.2.2.2.2.2.2.2 = false) ∨ (dn A B C D ≠ 0 ∧ r.2.2.2.2.2.2.2.2.2.2.2.2 = true ∧ ∃ n m e, 0 < e ∧ Rz r.1 r.2.1 r.2.2.1 r.2.2.2.1 r.2.2.2.2.1 r.2.2.2.2.2.1 n e ∧
        Rz r.2.2.2.2.2.2.1 r.2.2.2.2.2.2.2.1 r.2.2.2.2.2.2.2.2.1 r.2.2.2.2.2.2.2.2.2.1 r.2.2.2.2.2.2.2.2.2.2.1 r.2.2.2.2.2.2.2.2.2.2.2.1 m e ∧
        ((e = dn A B C D ∧ n = A.1 * dn A B C D + orn C D A * (B.1 - A.1) ∧ m = A.2 * dn A B C D + orn C D A * (B.2 - A.2)) ∨
         (e = -dn A B C D ∧ n = -(A.1 * dn A B C D + orn C D A * (B.1 - A.1)) ∧ m = -(A.2 * dn A B C D + orn C D A * (B.2 - A.2)))))) := by
  obtain ⟨r21, q21, w21⟩ := dz_sub (k := k) hb.1 ha.1 (by omega) (by omega) (by omega)
  obtain ⟨r26, q26, w26⟩ := dz_sub (k := k) hb.2 ha.2 (by omega) (by omega) (by omega)
  obtain ⟨r31, q31, w31⟩ := dz_sub (k := k) hd.1 hc.1 (by omega) (by omega) (by omega)
  obtain ⟨r36, q36, w36⟩ := dz_sub (k := k) hd.2 hc.2 (by omega) (by omega) (by omega)
  obtain ⟨r39, q39, w39⟩ := dz_mul (k := k) w21 w36 (by omega) (by omega) (by omega) (by omega) (by omega)
  obtain ⟨r42, q42, w42⟩ := dz_mul (k := k) w26 w31 (by omega) (by omega) (by omega) (by omega) (by omega)
  obtain ⟨r43, q43, w43⟩ := dz_sub (k := k) w39 w42 (by omega) (by omega) (by omega)
  have w43' : Dz 2148 278 r43.1 r43.2.1 r43.2.2 (dn A B C D) := w43
  unfold spec_Crossing
  rw [q21, sbind, q26, sbind, q31, sbind, q36, sbind, q39, sbind, q42, sbind, q43, sbind, dz_sign w43', sbind]
  by_cases h0 : dn A B C D = 0
  · rw [decide_eq_true (sgn_zero.2 h0), br_true]
    exact ⟨_, rfl, .inl ⟨h0, rfl⟩⟩
  rw [decide_eq_false (fun h => h0 (sgn_zero.1 h)), br_false]
  obtain ⟨r53, q53, w53⟩ := dz_sub (k := k) hc.1 ha.1 (by omega) (by omega) (by omega)
  obtain ⟨r55, q55, w55⟩ := dz_mul (k := k) w53 w36 (by omega) (by omega) (by omega) (by omega) (by omega)
  obtain ⟨r60, q60, w60⟩ := dz_sub (k := k) hc.2 ha.2 (by omega) (by omega) (by omega)
  obtain ⟨r62, q62, w62⟩ := dz_mul (k := k) w60 w31 (by omega) (by omega) (by omega) (by omega) (by omega)
  obtain ⟨r63, q63, w63⟩ := dz_sub (k := k) w55 w62 (by omega) (by omega) (by omega)
  have e63 : (C.1 - A.1) * (D.2 - C.2) - (C.2 - A.2) * (D.1 - C.1) = orn C D A := by unfold orn; grind
  rw [e63] at w63
  obtain ⟨r67, q67, w67⟩ := dz_mul (k := k) ha.1 w43' (by omega) (by omega) (by omega) (by omega) (by omega)
  obtain ⟨r70, q70, w70⟩ := dz_mul (k := k) w63 w21 (by omega) (by omega) (by omega) (by omega) (by omega)
  obtain ⟨r71, q71, w71⟩ := dz_add (k := k) (w67.mono (κ' := 3222) (lm' := 400) (by omega) (by omega)) (w70.mono (κ' := 3222) (lm' := 400) (by omega) (by omega)) (by omega) (by omega) (by omega)
  obtain ⟨r73, n, e, q73, w73, p73, c73⟩ := ratio_z (k := k) (w71.mono (lm' := 1000) (Nat.le_refl _) (by omega)) (w43'.mono (lm' := 500) (Nat.le_refl _) (by omega)) h0
  obtain ⟨r77, q77, w77⟩ := dz_mul (k := k) ha.2 w43' (by omega) (by omega) (by omega) (by omega) (by omega)
  obtain ⟨r80, q80, w80⟩ := dz_mul (k := k) w63 w26 (by omega) (by omega) (by omega) (by omega) (by omega)
  obtain ⟨r81, q81, w81⟩ := dz_add (k := k) (w77.mono (κ' := 3222) (lm' := 400) (by omega) (by omega)) (w80.mono (κ' := 3222) (lm' := 400) (by omega) (by omega)) (by omega) (by omega) (by omega)
  obtain ⟨r83, m, e', q83, w83, p83, c83⟩ := ratio_z (k := k) (w81.mono (lm' := 1000) (Nat.le_refl _) (by omega)) (w43'.mono (lm' := 500) (Nat.le_refl _) (by omega)) h0
  rw [q53, sbind, q55, sbind, q60, sbind, q62, sbind, q63, sbind, q67, sbind, q70, sbind, q71, sbind, q73, sbind, q77, sbind, q80, sbind, q81, sbind, q83, sbind]
  have ee : e' = e := by rcases c73 with ⟨_, h⟩ | ⟨_, h⟩ <;> rcases c83 with ⟨_, h'⟩ | ⟨_, h'⟩ <;> omega
  subst ee
  refine ⟨_, rfl, .inr ⟨h0, rfl, n, m, e', p83, w73, w83, ?_⟩⟩
  rcases c73 with ⟨h1, h2⟩ | ⟨h1, h2⟩ <;> rcases c83 with ⟨h3, h4⟩ | ⟨h3, h4⟩
  · exact .inl ⟨h2, h1, h3⟩
  · omega
  · omega
  · exact .inr ⟨h2, h1, h3⟩
theorem dshift {B T : Int} {L : Nat} {s : Bool} {l : List Int} {e N : Int} (h : Dr B T L s l e N) (c : Nat) : Dr (B - c) T L s l (e - c) N := by
  obtain ⟨⟨z, h1, h2⟩, h3, h4, h5⟩ := h
  exact ⟨⟨z, h1, by rw [h2, show e - (c : Int) - (B - c) = e - B by omega]⟩, by omega, by omega, h5⟩
theorem dabs {k : Nat} {B T : Int} {L : Nat} {s : Bool} {l : List Int} {e N : Int} (h : Dr B T L s l e N) : ∃ r, spec_Dyadic_Abs k s l e = some r ∧ Dr B T L r.1 r.2.1 r.2.2 ((N.natAbs : Nat) : Int) := by
  unfold spec_Dyadic_Abs
  rw [dsign_is h, sbind]
  by_cases hn : N < 0
  · obtain ⟨s', m1, m2⟩ := dminus_is (k := k) h
    rw [decide_eq_true (show sgn N < 0 by unfold sgn; rw [if_pos hn]; decide), br_true, m1, sbind]
    exact ⟨_, rfl, by rw [show ((N.natAbs : Nat) : Int) = -N by omega]; exact m2⟩
  · rw [decide_eq_false (show ¬ sgn N < 0 by unfold sgn; rw [if_neg hn]; split <;> decide), br_false]
    exact ⟨_, rfl, by rw [show ((N.natAbs : Nat) : Int) = N by omega]; exact h⟩
theorem near_int (P Q R : Int) (hR : 0 < R) {M n d : Int} (h : ((M * d - n * P).natAbs : Int) < d * Q) : sgn (((((M * (d * R) - n * (P * R)).natAbs : Nat) : Int)) - d * R * Q) = -1 := by
  have e1 : M * (d * R) - n * (P * R) = (M * d - n * P) * R := by grind
  have e2 : (((M * (d * R) - n * (P * R)).natAbs : Nat) : Int) = ((M * d - n * P).natAbs : Int) * R := by
    rw [e1, Int.natAbs_mul, Int.natCast_mul]
    congr 1
    omega
  have e3 : d * R * Q = d * Q * R := by grind
  have := Int.mul_lt_mul_of_pos_right h hR
  rw [e2, e3]
  generalize ((M * d - n * P).natAbs : Int) * R = x at *
  generalize d * Q * R = y at *
  unfold sgn; rw [if_pos (by omega)]
theorem pow_add3 (a b c : Nat) (h : a + b = c) : (2 : Int) ^ a * 2 ^ b = 2 ^ c := by rw [← Int.pow_add, h]
theorem nearRatio_z {k x : Nat} {s s' : Bool} {l l' : List Int} {e e' n d M : Int} (hk : 10000 < k) (hx : x < 2 ^ 64) (hM : D x M 0) (h : Rz s l e s' l' e' n d) (hn : ((M * d - n * 2 ^ 1074).natAbs : Int) < d * 2 ^ 1054) :
    laws_nearRatio k x s l e s' l' e' (-20) = some true := by
  obtain ⟨sc, lc, ec, r1, w1⟩ := dyadicOf_is (k := k) hx hM (by omega)
  rw [Int.pow_zero, Int.mul_one] at w1
  obtain ⟨h1, h2⟩ := h
  obtain ⟨a, b, c, q1, v1⟩ := dmul_is (k := k) w1 h2 (by decide) (by decide) (by decide) (by decide) (by decide) (by decide) (by omega)
  have v1' : Dr (-3222) 3222 1000 a b c (M * (d * 2 ^ 2148)) := v1.mono (by decide) (by decide)
  have h1' : Dr (-3222) 3222 1000 s l e (n * 2 ^ 3222) := h1
  obtain ⟨a2, b2, c2, q2, v2⟩ := dsub_is (k := k) v1' h1' (by decide) (by decide) (by decide) (by decide) (by simp; omega)
  obtain ⟨r3, q3, v3⟩ := dabs (k := k) v2
  have v4 := (dshift h2 20).down (B' := -3222) (by decide)
  have e4 : (-((2148 : Nat) : Int) - ((20 : Nat) : Int) - -3222).toNat = 1054 := by decide
  rw [e4] at v4
  have hv3 := v3.len
  obtain ⟨a5, b5, c5, q5, v5⟩ := dsub_is (k := k) (v3.mono (T' := 3222) (L' := 2000) (by decide) (by decide)) (v4.mono (T' := 3222) (L' := 2000) (by decide) (by decide)) (by decide) (by decide) (by decide) (by decide) (by simp; omega)
  have hneg : sgn ((((M * (d * 2 ^ 2148) - n * 2 ^ 3222).natAbs : Nat) : Int) - d * 2 ^ 2148 * 2 ^ 1054) = -1 := by
    rw [← pow_add3 1074 2148 3222 rfl]
    exact near_int _ _ _ (Int.pow_pos (by decide)) hn
  have hfin : spec_Finite k x = some true := by
    unfold spec_Finite
    rw [sbind, D_eq (near_self hM) (D_zero 0)]; rfl
  have he : iadd .i64 e' (-20) = e' - ((20 : Nat) : Int) := by
    have := h2.lo
    have := h2.hi
    rw [iadd_i64 (by omega) (by omega)]; omega
  unfold laws_nearRatio
  rw [hfin, sbind, br_true, r1, sbind, q1, sbind, q2, sbind, q3, sbind]
  unfold spec_Dyadic_Shift
  rw [sbind, he]
  unfold spec_Dyadic_Cmp
  rw [q5, sbind, dsign_is v5, sbind, hneg]
  rfl
end Go.Proofs.YthobbfpoooommaaGreat
