/-
  The sign of a determinant of whole numbers is exact. Ours.
-/
import Derived.Test.YtnemkhcjmenfnaaFun
import Derived.Test.YtnemkhcjmenfnaaSxY
namespace Go.Proofs.Ytnemkhcjmenfnaa
open Go.Sx
open Ieee (signed)
set_option linter.unusedVariables false
set_option linter.unusedSimpArgs false
set_option maxRecDepth 100000

/-! #### the whole part of a quotient -/
theorem cut_down (s : Bool) (n d : Nat) (h : s = true → n = 0) : Ieee.Toward.down.cut s n d = n / 2 ^ d := by
  rw [← cut_zero s n d]
  unfold Ieee.Toward.cut
  cases s with
  | false => simp
  | true => rw [h rfl]; simp
theorem floor_is_u (e : Nat) (he : e = 1074) {z N q : Nat} (h : D z (N : Int) 0) (h1 : q * 2 ^ e ≤ N) (h2 : N < (q + 1) * 2 ^ e) (hq : q ≤ 2 ^ 53) : D (gint .down z) (q : Int) e := by
  obtain ⟨s, m, i, r1, r2⟩ := h
  have hm : m * 2 ^ i = N ∧ (s = true → m = 0) := by
    rw [signed_eq] at r2
    have hp : (0 : Int) < 2 ^ i := Int.pow_pos (by omega)
    have hn : (0 : Int) ≤ (m : Int) * 2 ^ i := Int.mul_nonneg (by omega) (Int.le_of_lt hp)
    cases s with
    | false =>
      simp only [Bool.false_eq_true, if_false, Int.pow_zero, Int.mul_one] at r2
      exact ⟨by exact_mod_cast r2, fun h => by cases h⟩
    | true =>
      simp only [if_true, Int.pow_zero, Int.mul_one] at r2
      have hz : (m : Int) * 2 ^ i = 0 := by omega
      have hN : N = 0 := by omega
      have hm0 : m = 0 := by
        rcases Int.mul_eq_zero.1 hz with h | h
        · exact_mod_cast h
        · omega
      exact ⟨by rw [hN, hm0, Nat.zero_mul], fun _ => hm0⟩
  obtain ⟨hm, hs⟩ := hm
  have hc : Ieee.Toward.down.cut s (m <<< ((i : Int) - 1074).toNat) (-((i : Int) - 1074)).toNat = q := by
    rw [cut_down _ _ _ (fun h => by rw [hs h]; simp), Nat.shiftLeft_eq]
    by_cases hi : e ≤ i
    · rw [show ((i : Int) - 1074).toNat = i - e from by omega, show (-((i : Int) - 1074)).toNat = 0 from by omega, Nat.pow_zero, Nat.div_one]
      rw [pow_split hi, Nat.mul_comm (2 ^ e), ← Nat.mul_assoc] at hm
      rw [← hm] at h1 h2
      have h3 := Nat.le_of_mul_le_mul_right h1 (Nat.two_pow_pos _)
      have h4 := Nat.lt_of_mul_lt_mul_right h2
      omega
    · rw [show ((i : Int) - 1074).toNat = 0 from by omega, show (-((i : Int) - 1074)).toNat = e - i from by omega, Nat.pow_zero, Nat.mul_one]
      rw [← hm, pow_split (show i ≤ e by omega), Nat.mul_comm (2 ^ i), ← Nat.mul_assoc] at h1 h2
      have h3 := Nat.le_of_mul_le_mul_right h1 (Nat.two_pow_pos _)
      have h4 := Nat.lt_of_mul_lt_mul_right h2
      have h5 : q ≤ m / 2 ^ (e - i) := (Nat.le_div_iff_mul_le (Nat.two_pow_pos _)).2 h3
      have h6 : m / 2 ^ (e - i) < q + 1 := (Nat.div_lt_iff_lt_mul (Nat.two_pow_pos _)).2 h4
      omega
  have hg : gint .down z = Ieee.double.write (.number s q (((1074 : Nat) : Int) - 1074)) := by
    unfold gint fint
    rw [show FloatKind.f64.decode z = FloatKind.f64.format.read z from rfl, r1]
    simp only [Ieee.Datum.integral, Option.getD_some]
    rw [hc]; rfl
  rw [hg, he]
  refine D_write ?_ (by rw [Int.natAbs_natCast]; exact hq) (by decide)
  rw [signed_eq]
  have hq0 : s = true → q = 0 := fun h => by
    rw [hs h, Nat.zero_mul] at hm
    rw [← hm] at h1
    rcases Nat.mul_eq_zero.1 (Nat.le_zero.1 h1) with h3 | h3
    · exact h3
    · exact absurd h3 (Nat.ne_of_gt (Nat.two_pow_pos e))
  cases s with
  | false => rfl
  | true => rw [hq0 rfl]; simp only [if_true]; rw [Int.natCast_zero, Int.zero_mul]; rfl
theorem up_bound (a b q P : Nat) (hb : b ≤ 67108864) (h : a + 1 ≤ (q + 1) * b) (h0 : 1 ≤ (q + 1)) : a * (P * 67108864) ≤ ((q + 1) * 67108864 - 1) * P * b := by
  have h1 : a * 67108864 ≤ ((q + 1) * 67108864 - 1) * b := by
    have h2 := Nat.mul_le_mul_right 67108864 h
    rw [Nat.sub_mul, Nat.one_mul]
    have : (q + 1) * 67108864 * b = (q + 1) * b * 67108864 := by grind
    rw [this]
    refine Nat.le_sub_of_add_le (Nat.le_trans ?_ h2)
    rw [Nat.add_mul, Nat.one_mul]
    exact Nat.add_le_add_left hb _
  have := Nat.mul_le_mul_right P h1
  have e1 : a * 67108864 * P = a * (P * 67108864) := by grind
  have e2 : ((q + 1) * 67108864 - 1) * b * P = ((q + 1) * 67108864 - 1) * P * b := by
    generalize ((q + 1) * 67108864 - 1) = z
    grind
  rw [e1, e2] at this
  exact this
theorem lt_e1000 (b e : Nat) (h : b ≤ 67108864) (he : 27 ≤ e) : b < 2 ^ e := by
  have h1 := pow_le2 27 e he
  have h2 : (2 : Nat) ^ 27 = 134217728 := by decide
  rw [h2] at h1
  exact Nat.lt_of_le_of_lt h (Nat.lt_of_lt_of_le (by decide) h1)
theorem quot_u (e1074 e1048 e1000 e5074 e4000 e5128 : Nat) (he : e1074 = 1074) (he2 : e1074 = e1048 + 26) (h3 : e1000 = 1000) (h4 : e5074 = 5074) (h5 : e4000 = 4000) (h6 : e5128 = 5128) {x y a b : Nat} (hx : D x (a : Int) e1074) (hy : D y (b : Int) e1074) (ha : a ≤ 67108864) (hb : 0 < b) (hb2 : b ≤ 67108864) :
    D (gint .down (gdiv x y)) ((a / b : Nat) : Int) e1074 ∧ num (gdiv x y) = some (gdiv x y) := by
  obtain ⟨N, _, h1, h2, h3⟩ := gdiv_near_u e1074 e1000 e5074 e4000 e5128 he h3 h4 h5 h6 hx hy (by rw [Int.natAbs_natCast]; omega) hb (lt_e1000 b e1000 hb2 (by omega))
  have hD := h1 (by omega)
  rw [Int.natAbs_natCast] at h2 h3
  have hnum : num (gdiv x y) = some (gdiv x y) := by
    have : isn (gdiv x y) = false := D_num hD
    unfold num; rw [this]; rfl
  refine ⟨?_, hnum⟩
  have hq : a / b ≤ 67108864 := Nat.le_trans (Nat.div_le_self a b) ha
  have hdm := Nat.div_add_mod a b
  have hml := Nat.mod_lt a hb
  have hq1 : a + 1 ≤ (a / b + 1) * b := by
    rw [Nat.add_mul, Nat.mul_comm (a / b)]; omega
  have hq2 : a / b * b ≤ a := Nat.div_mul_le_self a b
  have hq3 : a / b ≤ 2 ^ 53 := by omega
  have hq4 : (a / b + 1) * 67108864 - 1 ≤ 2 ^ 53 := by omega
  have hq5 : (a / b + 1) * 67108864 - 1 < (a / b + 1) * 67108864 := Nat.sub_lt (Nat.mul_pos (Nat.succ_pos _) (by decide)) Nat.one_pos
  have k1 := h3 (a / b) e1074 hq3 (by
    rw [Nat.mul_right_comm]
    exact Nat.mul_le_mul_right _ hq2)
  have hP : (2 : Nat) ^ e1074 = 2 ^ e1048 * 67108864 := by rw [he2, Nat.pow_add]
  have k2 := h2 ((a / b + 1) * 67108864 - 1) e1048 hq4 (by
    rw [hP]; exact up_bound a b (a / b) _ hb2 hq1 (Nat.le_add_left 1 _))
  refine floor_is_u e1074 he hD k1 ?_ hq3
  have hp := Nat.two_pow_pos e1048
  have h4 : ((a / b + 1) * 67108864 - 1) * 2 ^ e1048 < (a / b + 1) * 67108864 * 2 ^ e1048 := Nat.mul_lt_mul_of_pos_right hq5 hp
  rw [hP, Nat.mul_comm (2 ^ e1048), ← Nat.mul_assoc]
  exact Nat.lt_of_le_of_lt k2 h4
theorem quot_is {x y a b : Nat} (hx : D x (a : Int) 1074) (hy : D y (b : Int) 1074) (ha : a ≤ 67108864) (hb : 0 < b) (hb2 : b ≤ 67108864) :
    D (gint .down (gdiv x y)) ((a / b : Nat) : Int) 1074 ∧ num (gdiv x y) = some (gdiv x y) := quot_u 1074 1048 1000 5074 4000 5128 rfl rfl rfl rfl rfl rfl hx hy ha hb hb2

/-! #### signs -/
def sg (n : Int) : Int := if n < 0 then -1 else if n = 0 then 0 else 1
theorem sg_pos {n : Int} (h : 0 < n) : sg n = 1 := by unfold sg; rw [if_neg (by omega), if_neg (by omega)]
theorem sg_neg {n : Int} (h : n < 0) : sg n = -1 := by unfold sg; rw [if_pos h]
theorem sg_zero : sg 0 = 0 := rfl
theorem sg_opp (n : Int) : sg (-n) = -sg n := by
  unfold sg
  rcases Int.lt_trichotomy n 0 with h | h | h
  · rw [if_neg (by omega), if_neg (by omega), if_pos h]; rfl
  · subst h; rfl
  · rw [if_pos (by omega), if_neg (by omega), if_neg (by omega)]
def Sgn (s : Int) : Prop := s = 1 ∨ s = -1
theorem opp_is {s : Int} (h : Sgn s) : isub .i64 0 s = -s ∧ Sgn (-s) := by
  rcases h with rfl | rfl
  · exact ⟨by decide, .inr rfl⟩
  · exact ⟨by decide, .inl rfl⟩

/-- the second half of a round's end -/
theorem j41_is (k : Nat) (rec1 : (Nat × Nat × Nat × Nat × Int × Int) → Option Int) (xc xd xe xf : Nat) (cnt s : Int) (c d e f : Nat) (hc : D xc (c : Int) 1074) (hd : D xd (d : Int) 1074) (he : D xe (e : Int) 1074) (hf : D xf (f : Int) 1074) (hs : Sgn s)
    (c0 : 0 < c) (d0 : 0 < d)
    (hrec : 0 < e → 0 < f → ∀ cn, rec1 (xe, xf, xc, xd, cn, s) = some (s * sg ((e : Int) * d - (f : Int) * c))) :
    robustdeterminate_SignOfDet2x2_j41 k rec1 xc xd cnt xe xf s = some (s * sg ((e : Int) * d - (f : Int) * c)) := by
  unfold robustdeterminate_SignOfDet2x2_j41
  rw [D_eq hf (D_zero 1074), D_eq he (D_zero 1074)]
  by_cases hf0 : f = 0
  · subst hf0
    rw [show decide (((0 : Nat) : Int) = 0) = true from rfl, br_true]
    by_cases he0 : e = 0
    · subst he0
      rw [show decide (((0 : Nat) : Int) = 0) = true from rfl, br_true]
      simp [sg_zero]
    · rw [decide_eq_false (show ¬ ((e : Int) = 0) by omega), br_false]
      have : (0 : Int) < (e : Int) * d - ((0 : Nat) : Int) * c := by
        have := Int.mul_pos (show (0 : Int) < (e : Int) by omega) (show (0 : Int) < (d : Int) by omega)
        simpa using this
      rw [sg_pos this, Int.mul_one]
  · rw [decide_eq_false (show ¬ ((f : Int) = 0) by omega), br_false]
    by_cases he0 : e = 0
    · subst he0
      rw [show decide (((0 : Nat) : Int) = 0) = true from rfl, br_true]
      have : ((0 : Nat) : Int) * d - (f : Int) * c < 0 := by
        have := Int.mul_pos (show (0 : Int) < (f : Int) by omega) (show (0 : Int) < (c : Int) by omega)
        simp; omega
      rw [sg_neg this, (opp_is hs).1]; simp
    · rw [decide_eq_false (show ¬ ((e : Int) = 0) by omega), br_false]
      exact hrec (by omega) (by omega) _

/-- one half of a round, in whole numbers: a, b are the greater ones; e, f what is left of them -/
theorem half_det (a b c d q e : Int) (h : a = c * q + e) : a * d - b * c = e * d - (b - q * d) * c := by
  subst h; grind
theorem s_neg1 {e d f c : Int} (hc : 0 < c) (he0 : 0 ≤ e) (hd : 0 ≤ d) (hf : f < 0) : 0 < e * d - f * c := by
  have h1 := Int.mul_nonneg he0 hd
  have h2 := Int.mul_pos (show 0 < -f by omega) hc
  have h3 : -f * c = -(f * c) := by grind
  omega
theorem s_gt {e d f c : Int} (hc : 0 < c) (hec : e < c) (hd : 0 < d) (hf : d < f) : e * d - f * c < 0 := by
  have h1 := Int.mul_pos (show 0 < c - e by omega) hd
  have h2 := Int.mul_nonneg (show 0 ≤ f - d by omega) (show 0 ≤ c by omega)
  have h3 : (c - e) * d + (f - d) * c = -(e * d - f * c) := by grind
  omega
theorem s_half1 {e d f c : Int} (hc : 0 < c) (hd : 0 < d) (h1 : e + e < c) (h2 : d < f + f) : e * d - f * c < 0 := by
  have k1 := Int.mul_pos (show 0 < c - (e + e) by omega) hd
  have k2 := Int.mul_pos (show 0 < f + f - d by omega) hc
  have h3 : (c - (e + e)) * d + (f + f - d) * c = -2 * (e * d - f * c) := by grind
  omega
theorem s_half2 {e d f c : Int} (hc : 0 < c) (hd : 0 < d) (h1 : c ≤ e + e) (h2 : f + f < d) : 0 < e * d - f * c := by
  have k1 := Int.mul_nonneg (show 0 ≤ e + e - c by omega) (show 0 ≤ d by omega)
  have k2 := Int.mul_pos (show 0 < d - (f + f) by omega) hc
  have h3 : (e + e - c) * d + (d - (f + f)) * c = 2 * (e * d - f * c) := by grind
  omega

theorem prod_le {a b : Nat} (ha : a ≤ 67108864) (hb : b ≤ 67108864) : a * b ≤ 4503599627370496 := by
  have := Nat.mul_le_mul ha hb
  exact this

/-- the second half of a round -/
theorem j40_is (k : Nat) (rec1 : (Nat × Nat × Nat × Nat × Int × Int) → Option Int) (xa xb xc xd : Nat) (cnt s : Int) (a b c d : Nat) (ha : D xa (a : Int) 1074) (hb : D xb (b : Int) 1074) (hc : D xc (c : Int) 1074) (hd : D xd (d : Int) 1074) (hs : Sgn s)
    (a1 : a ≤ 67108864) (b1 : b ≤ 67108864) (c1 : c ≤ 67108864) (d1 : d ≤ 67108864) (a0 : 0 < a) (b0 : 0 < b)
    (hrec : ∀ (xe xf e f : Nat) (cn t : Int), D xe (e : Int) 1074 → D xf (f : Int) 1074 → Sgn t → 0 < e → 0 < f → e ≤ c → f ≤ d → rec1 (xe, xf, xc, xd, cn, t) = some (t * sg ((e : Int) * d - (f : Int) * c))) :
    robustdeterminate_SignOfDet2x2_j40 k xa xb rec1 cnt xc xd s = some (s * sg ((a : Int) * d - (b : Int) * c)) := by
  have ho := opp_is hs
  unfold robustdeterminate_SignOfDet2x2_j40
  rw [D_eq hd (D_zero 1074), D_eq hc (D_zero 1074)]
  by_cases d0 : d = 0
  · subst d0
    rw [show decide (((0 : Nat) : Int) = 0) = true from rfl, br_true]
    by_cases c0 : c = 0
    · subst c0
      rw [show decide (((0 : Nat) : Int) = 0) = true from rfl, br_true]
      simp [sg_zero]
    · rw [decide_eq_false (show ¬ ((c : Int) = 0) by omega), br_false]
      have : (a : Int) * ((0 : Nat) : Int) - (b : Int) * c < 0 := by
        have := Int.mul_pos (show (0 : Int) < (b : Int) by omega) (show (0 : Int) < (c : Int) by omega)
        simp; omega
      rw [sg_neg this, ho.1]; simp
  rw [decide_eq_false (show ¬ ((d : Int) = 0) by omega), br_false]
  by_cases c0 : c = 0
  · subst c0
    rw [show decide (((0 : Nat) : Int) = 0) = true from rfl, br_true]
    have : 0 < (a : Int) * d - (b : Int) * ((0 : Nat) : Int) := by
      have := Int.mul_pos (show (0 : Int) < (a : Int) by omega) (show (0 : Int) < (d : Int) by omega)
      simpa using this
    rw [sg_pos this, Int.mul_one]
  rw [decide_eq_false (show ¬ ((c : Int) = 0) by omega), br_false]
  obtain ⟨q1, q2⟩ := quot_is ha hc a1 (by omega) c1
  have hdm := Nat.div_add_mod a c
  have hml := Nat.mod_lt a (show 0 < c by omega)
  have hqM : a / c ≤ 67108864 := Nat.le_trans (Nat.div_le_self a c) a1
  obtain ⟨q, hq⟩ : ∃ q, a / c = q := ⟨_, rfl⟩
  obtain ⟨e, he⟩ : ∃ e, a % c = e := ⟨_, rfl⟩
  rw [hq] at q1 hdm hqM
  rw [he] at hdm hml
  have hqd := prod_le hqM d1
  have hcq : c * q ≤ 67108864 := by omega
  have m1 := gmul_D (u := 1074) q1 hc (c := ((c * q : Nat) : Int)) (by rw [Int.natCast_mul]; grind) rfl (by omega) (by rw [Int.natAbs_natCast]; omega) (by omega)
  have m2 := gsub_D ha m1 (c := (e : Int)) (by omega) (by omega) (by omega)
  have m3 := gmul_D (u := 1074) q1 hd (c := ((q * d : Nat) : Int)) (by rw [Int.natCast_mul]) rfl (by omega) (by rw [Int.natAbs_natCast]; omega) (by omega)
  obtain ⟨f, hf⟩ : ∃ f : Int, (b : Int) - ((q * d : Nat) : Int) = f := ⟨_, rfl⟩
  have m4 := gsub_D hb m3 hf (by omega) (by omega)
  have hdet : (a : Int) * d - (b : Int) * c = (e : Int) * d - f * c := by
    have := half_det (a : Int) b c d q e (by rw [← Int.natCast_mul]; omega)
    rw [this, ← hf, Int.natCast_mul]
  rw [hdet]
  have fl : ∀ z, math_Floor k z = some (gint .down z) := fun z => rfl
  rw [sbind, q2, sbind, fl, sbind, sbind, sbind, sbind, sbind, D_lt m4 (D_zero 1074)]
  have ci : (0 : Int) < (c : Int) := by omega
  have di : (0 : Int) < (d : Int) := by omega
  by_cases f0 : f < 0
  · rw [decide_eq_true f0, br_true, sg_pos (s_neg1 ci (by omega) (by omega) f0), Int.mul_one]
  rw [decide_eq_false f0, br_false, D_gt m4 hd]
  by_cases fd : (d : Int) < f
  · rw [decide_eq_true fd, br_true, sg_neg (s_gt ci (by omega) di fd), ho.1]; simp
  rw [decide_eq_false fd, br_false]
  obtain ⟨f', rfl⟩ := Int.eq_ofNat_of_zero_le (show 0 ≤ f by omega)
  have m5 := gadd_D m2 m2 (c := (e : Int) + e) rfl (by omega) (by omega)
  have m6 := gadd_D m4 m4 (c := (f' : Int) + f') rfl (by omega) (by omega)
  rw [sbind, D_gt hc m5]
  by_cases h1 : (e : Int) + e < c
  · rw [decide_eq_true h1, br_true, sbind, D_lt hd m6]
    by_cases h2 : (d : Int) < (f' : Int) + f'
    · rw [decide_eq_true h2, br_true, sg_neg (s_half1 ci di h1 h2), ho.1]; simp
    · rw [decide_eq_false h2, br_false]
      exact j41_is k rec1 xc xd _ _ cnt s c d e f' hc hd m2 m4 hs (by omega) (by omega) fun h3 h4 cn => hrec _ _ e f' cn s m2 m4 hs h3 h4 (by omega) (by omega)
  · rw [decide_eq_false h1, br_false, sbind, D_gt hd m6]
    by_cases h2 : (f' : Int) + f' < d
    · rw [decide_eq_true h2, br_true, sg_pos (s_half2 ci di (by omega) h2), Int.mul_one]
    · rw [decide_eq_false h2, br_false]
      have m7 := gsub_D hc m2 (c := ((c - e : Nat) : Int)) (by omega) (by omega) (by omega)
      have m8 := gsub_D hd m4 (c := ((d - f' : Nat) : Int)) (by omega) (by omega) (by omega)
      rw [sbind, sbind, ho.1]
      have hr : s * sg ((e : Int) * d - (f' : Int) * c) = -s * sg (((c - e : Nat) : Int) * d - ((d - f' : Nat) : Int) * c) := by
        have : ((c - e : Nat) : Int) * d - ((d - f' : Nat) : Int) * c = -((e : Int) * d - (f' : Int) * c) := by
          rw [Int.ofNat_sub (by omega), Int.ofNat_sub (by omega)]; grind
        rw [this, sg_opp]; grind
      rw [hr]
      exact j41_is k rec1 xc xd _ _ cnt (-s) c d (c - e) (d - f') hc hd m7 m8 ho.2 (by omega) (by omega) fun h3 h4 cn => hrec _ _ _ _ cn (-s) m7 m8 ho.2 h3 h4 (by omega) (by omega)

/-- all rounds -/
theorem loop_is : ∀ (n k : Nat) (xa xb xc xd : Nat) (cnt s : Int) (a b c d : Nat), D xa (a : Int) 1074 → D xb (b : Int) 1074 → D xc (c : Int) 1074 → D xd (d : Int) 1074 → Sgn s →
    a ≤ n → n < k → 0 < a → 0 < b → a ≤ c → b ≤ d → c ≤ 67108864 → d ≤ 67108864 →
    robustdeterminate_SignOfDet2x2_l1 k (xa, xb, xc, xd, cnt, s) = some (s * sg ((a : Int) * d - (b : Int) * c)) := by
  intro n
  induction n with
  | zero => intro k xa xb xc xd cnt s a b c d _ _ _ _ _ h1 h2 h3; omega
  | succ n ih =>
    intro k xa xb xc xd cnt s a b c d ha hb hc hd hs han hk a0 b0 ac bd c1 d1
    obtain ⟨k, rfl⟩ : ∃ j, k = j + 1 := ⟨k - 1, by omega⟩
    have ho := opp_is hs
    obtain ⟨q1, q2⟩ := quot_is hc ha c1 a0 (by omega)
    have hdm := Nat.div_add_mod c a
    have hml := Nat.mod_lt c a0
    have hqM : c / a ≤ 67108864 := Nat.le_trans (Nat.div_le_self c a) c1
    obtain ⟨q, hq⟩ : ∃ q, c / a = q := ⟨_, rfl⟩
    obtain ⟨e, he⟩ : ∃ e, c % a = e := ⟨_, rfl⟩
    rw [hq] at q1 hdm hqM
    rw [he] at hdm hml
    have hqb := prod_le hqM (show b ≤ 67108864 by omega)
    have hcq : a * q ≤ 67108864 := by omega
    have m1 := gmul_D (u := 1074) q1 ha (c := ((a * q : Nat) : Int)) (by rw [Int.natCast_mul]; grind) rfl (by omega) (by rw [Int.natAbs_natCast]; omega) (by omega)
    have m2 := gsub_D hc m1 (c := (e : Int)) (by omega) (by omega) (by omega)
    have m3 := gmul_D (u := 1074) q1 hb (c := ((q * b : Nat) : Int)) (by rw [Int.natCast_mul]) rfl (by omega) (by rw [Int.natAbs_natCast]; omega) (by omega)
    obtain ⟨f, hf⟩ : ∃ f : Int, (d : Int) - ((q * b : Nat) : Int) = f := ⟨_, rfl⟩
    have m4 := gsub_D hd m3 hf (by omega) (by omega)
    -- the determinant is that of the other two, turned about
    have hdet : (a : Int) * d - (b : Int) * c = -((e : Int) * b - f * a) := by
      have := half_det (c : Int) d a b q e (by rw [← Int.natCast_mul]; omega)
      have h2 : (a : Int) * d - (b : Int) * c = -((c : Int) * b - (d : Int) * a) := by grind
      rw [h2, this, ← hf, Int.natCast_mul]
    rw [hdet, sg_opp]
    have fl : ∀ z, math_Floor k z = some (gint .down z) := fun z => rfl
    have ai : (0 : Int) < (a : Int) := by omega
    have bi : (0 : Int) < (b : Int) := by omega
    have hsn : ∀ z : Int, s * -z = -s * z := fun z => by grind
    rw [robustdeterminate_SignOfDet2x2_l1]
    unfold robustdeterminate_SignOfDet2x2_l1s
    dsimp only
    rw [sbind, q2, sbind, fl, sbind, sbind, sbind, sbind, sbind, D_lt m4 (D_zero 1074)]
    by_cases f0 : f < 0
    · rw [decide_eq_true f0, br_true, sg_pos (s_neg1 ai (by omega) (by omega) f0), ho.1]; simp
    rw [decide_eq_false f0, br_false, D_gt m4 hb]
    by_cases fd : (b : Int) < f
    · rw [decide_eq_true fd, br_true, sg_neg (s_gt ai (by omega) bi fd)]; simp
    rw [decide_eq_false fd, br_false]
    obtain ⟨f', rfl⟩ := Int.eq_ofNat_of_zero_le (show 0 ≤ f by omega)
    have m5 := gadd_D m2 m2 (c := (e : Int) + e) rfl (by omega) (by omega)
    have m6 := gadd_D m4 m4 (c := (f' : Int) + f') rfl (by omega) (by omega)
    rw [sbind, D_gt ha m5]
    by_cases h1 : (e : Int) + e < a
    · rw [decide_eq_true h1, br_true, sbind, D_lt hb m6]
      by_cases h2 : (b : Int) < (f' : Int) + f'
      · rw [decide_eq_true h2, br_true, sg_neg (s_half1 ai bi h1 h2)]; simp
      · rw [decide_eq_false h2, br_false]
        have := j40_is k (robustdeterminate_SignOfDet2x2_l1 k) xa xb _ _ cnt s a b e f' ha hb m2 m4 hs (by omega) (by omega) (by omega) (by omega) a0 b0
          fun xe xf e2 f2 cn t g1 g2 g3 g4 g5 g6 g7 => ih k xe xf _ _ cn t e2 f2 e f' g1 g2 m2 m4 g3 (by omega) (by omega) g4 g5 g6 g7 (by omega) (by omega)
        rw [this]
        have h3 : (a : Int) * f' - (b : Int) * e = -((e : Int) * b - (f' : Int) * a) := by grind
        rw [h3, sg_opp]
    · rw [decide_eq_false h1, br_false, sbind, D_gt hb m6]
      by_cases h2 : (f' : Int) + f' < b
      · rw [decide_eq_true h2, br_true, sg_pos (s_half2 ai bi (by omega) h2), ho.1]; simp
      · rw [decide_eq_false h2, br_false]
        have m7 := gsub_D ha m2 (c := ((a - e : Nat) : Int)) (by omega) (by omega) (by omega)
        have m8 := gsub_D hb m4 (c := ((b - f' : Nat) : Int)) (by omega) (by omega) (by omega)
        rw [sbind, sbind, ho.1]
        have := j40_is k (robustdeterminate_SignOfDet2x2_l1 k) xa xb _ _ cnt (-s) a b (a - e) (b - f') ha hb m7 m8 ho.2 (by omega) (by omega) (by omega) (by omega) a0 b0
          fun xe xf e2 f2 cn t g1 g2 g3 g4 g5 g6 g7 => ih k xe xf _ _ cn t e2 f2 (a - e) (b - f') g1 g2 m7 m8 g3 (by omega) (by omega) g4 g5 g6 g7 (by omega) (by omega)
        rw [this]
        have h3 : (a : Int) * ((b - f' : Nat) : Int) - (b : Int) * ((a - e : Nat) : Int) = (e : Int) * b - (f' : Int) * a := by
          rw [Int.ofNat_sub (by omega), Int.ofNat_sub (by omega)]; grind
        rw [h3]; grind

theorem j5_is {k : Nat} {xa xb xc xd : Nat} {s : Int} {a b c d : Nat} (ha : D xa (a : Int) 1074) (hb : D xb (b : Int) 1074) (hc : D xc (c : Int) 1074) (hd : D xd (d : Int) 1074) (hs : Sgn s)
    (hk : 67108864 < k) (a0 : 0 < a) (b0 : 0 < b) (ac : a ≤ c) (bd : b ≤ d) (c1 : c ≤ 67108864) (d1 : d ≤ 67108864) :
    robustdeterminate_SignOfDet2x2_j5 k xb xd xa xc s = some (s * sg ((a : Int) * d - (b : Int) * c)) := by
  unfold robustdeterminate_SignOfDet2x2_j5
  rw [loop_is 67108864 k xa xb xc xd 0 s a b c d ha hb hc hd hs (by omega) hk a0 b0 ac bd c1 d1, sbind]
theorem fneg_lt {x : Nat} (h : x < 2 ^ 64) : fneg x < 2 ^ 64 := by
  have e : fneg x = x ^^^ 2 ^ 63 := rfl
  rw [e]; exact Nat.xor_lt_two_pow h (by decide)
theorem det_gt {a b c d : Int} (c0 : 0 < c) (h : c < a) (b0 : 0 < b) (h2 : b ≤ d) : 0 < a * d - b * c := by
  have h1 := Int.mul_pos (show 0 < a - c by omega) (show 0 < d by omega)
  have h3 := Int.mul_nonneg (show 0 ≤ d - b by omega) (show 0 ≤ c by omega)
  have h4 : (a - c) * d + (d - b) * c = a * d - b * c := by grind
  omega
theorem det_pn {a b c d : Int} (a0 : 0 < a) (c0 : c < 0) (b0 : 0 < b) (d0 : 0 < d) : 0 < a * d - b * c := by
  have h1 := Int.mul_pos a0 d0
  have h2 := Int.mul_pos b0 (show 0 < -c by omega)
  have h3 : b * -c = -(b * c) := by grind
  omega
theorem j4_is {k : Nat} {xa xb xc xd : Nat} {s a c : Int} {b d : Nat} (ha : D xa a 1074) (hb : D xb (b : Int) 1074) (hc : D xc c 1074) (hd : D xd (d : Int) 1074) (hs : Sgn s)
    (hk : 67108864 < k) (la : xa < 2 ^ 64) (lc : xc < 2 ^ 64) (a0 : a ≠ 0) (c0 : c ≠ 0) (b0 : 0 < b) (bd : b ≤ d) (a1 : a.natAbs ≤ 67108864) (c1 : c.natAbs ≤ 67108864) (d1 : d ≤ 67108864) :
    robustdeterminate_SignOfDet2x2_j4 k xa xb xc xd s = some (s * sg (a * d - b * c)) := by
  have ho := opp_is hs
  unfold robustdeterminate_SignOfDet2x2_j4
  rw [D_lt (D_zero 1074) ha, D_lt (D_zero 1074) hc, D_gt ha hc, D_ge ha hc]
  by_cases ap : 0 < a
  · rw [decide_eq_true ap, br_true]
    obtain ⟨a', rfl⟩ := Int.eq_ofNat_of_zero_le (show 0 ≤ a by omega)
    by_cases cp : 0 < c
    · obtain ⟨c', rfl⟩ := Int.eq_ofNat_of_zero_le (show 0 ≤ c by omega)
      rw [decide_eq_true cp, br_true]
      by_cases h : (c' : Int) < a'
      · rw [decide_eq_true h, br_true, sg_pos (det_gt cp h (by omega) (by omega)), Int.mul_one]
      · rw [decide_eq_false h, br_false]
        exact j5_is ha hb hc hd hs hk (by omega) b0 (by omega) bd (by omega) d1
    · rw [decide_eq_false cp, br_false, sg_pos (det_pn ap (by omega) (by omega) (by omega)), Int.mul_one]
  · rw [decide_eq_false ap, br_false]
    by_cases cp : 0 < c
    · have h1 := det_pn (a := -a) (b := b) (c := -c) (d := d) (by omega) (by omega) (by omega) (by omega)
      have h2 : -a * (d : Int) - b * -c = -(a * d - b * c) := by grind
      rw [decide_eq_true cp, br_true, sg_neg (by omega), ho.1]; simp
    · rw [decide_eq_false cp, br_false]
      by_cases h : c ≤ a
      · rw [decide_eq_true h, br_true, ho.1]
        have ha' := D_fneg la ha
        have hc' := D_fneg lc hc
        obtain ⟨a', e1⟩ := Int.eq_ofNat_of_zero_le (show 0 ≤ -a by omega)
        obtain ⟨c', e2⟩ := Int.eq_ofNat_of_zero_le (show 0 ≤ -c by omega)
        rw [e1] at ha'
        rw [e2] at hc'
        rw [j5_is ha' hb hc' hd ho.2 hk (by omega) b0 (by omega) bd (by omega) d1, ← e1, ← e2]
        have h2 : -a * (d : Int) - b * -c = -(a * d - b * c) := by grind
        rw [h2, sg_opp]
        congr 1; grind
      · have h1 := det_gt (a := -a) (b := b) (c := -c) (d := d) (by omega) (by omega) (by omega) (by omega)
        have h2 : -a * (d : Int) - b * -c = -(a * d - b * c) := by grind
        rw [decide_eq_false h, br_false, sg_neg (by omega), ho.1]; simp

/-- the sign of the determinant is exact -/
theorem det_is {k : Nat} {x1 y1 x2 y2 : Nat} {X1 Y1 X2 Y2 : Int} (h1 : D x1 X1 1074) (h2 : D y1 Y1 1074) (h3 : D x2 X2 1074) (h4 : D y2 Y2 1074) (l1 : x1 < 2 ^ 64) (l2 : y1 < 2 ^ 64) (l3 : x2 < 2 ^ 64) (l4 : y2 < 2 ^ 64)
    (b1 : X1.natAbs ≤ 67108864) (b2 : Y1.natAbs ≤ 67108864) (b3 : X2.natAbs ≤ 67108864) (b4 : Y2.natAbs ≤ 67108864) (hk : 67108864 < k) :
    robustdeterminate_SignOfDet2x2 k x1 y1 x2 y2 = some (sg (X1 * Y2 - Y1 * X2)) := by
  unfold robustdeterminate_SignOfDet2x2
  have hj : br (feq x1 0) (robustdeterminate_SignOfDet2x2_j1 k y1 x2 y2 x1 true) (robustdeterminate_SignOfDet2x2_j1 k y1 x2 y2 x1 (feq y2 0)) = robustdeterminate_SignOfDet2x2_j1 k y1 x2 y2 x1 (feq x1 0 || feq y2 0) := by
    cases feq x1 0 <;> rfl
  rw [hj]
  unfold robustdeterminate_SignOfDet2x2_j1
  have hj2 : br (feq y1 0) (robustdeterminate_SignOfDet2x2_j2 k y1 x2 true) (robustdeterminate_SignOfDet2x2_j2 k y1 x2 (feq x2 0)) = robustdeterminate_SignOfDet2x2_j2 k y1 x2 (feq y1 0 || feq x2 0) := by
    cases feq y1 0 <;> rfl
  have hj3 : br (feq y1 0) (robustdeterminate_SignOfDet2x2_j3 k y2 x1 y1 x2 true) (robustdeterminate_SignOfDet2x2_j3 k y2 x1 y1 x2 (feq x2 0)) = robustdeterminate_SignOfDet2x2_j3 k y2 x1 y1 x2 (feq y1 0 || feq x2 0) := by
    cases feq y1 0 <;> rfl
  rw [hj2, hj3, D_eq h1 (D_zero 1074), D_eq h2 (D_zero 1074), D_eq h3 (D_zero 1074), D_eq h4 (D_zero 1074)]
  by_cases c14 : X1 = 0 ∨ Y2 = 0
  · have e : (decide (X1 = 0) || decide (Y2 = 0)) = true := by simpa using c14
    have hz : X1 * Y2 = 0 := by rcases c14 with h | h <;> rw [h] <;> simp
    rw [e, br_true, hz, Int.zero_sub]
    unfold robustdeterminate_SignOfDet2x2_j2
    by_cases c23 : Y1 = 0 ∨ X2 = 0
    · have e : (decide (Y1 = 0) || decide (X2 = 0)) = true := by simpa using c23
      have hz : Y1 * X2 = 0 := by rcases c23 with h | h <;> rw [h] <;> simp
      rw [e, br_true, hz]; rfl
    · have e : (decide (Y1 = 0) || decide (X2 = 0)) = false := by simpa using c23
      rw [e, br_false, D_gt h2 (D_zero 1074), D_gt h3 (D_zero 1074)]
      by_cases p : 0 < Y1 <;> by_cases q : 0 < X2
      · have := Int.mul_pos p q
        rw [decide_eq_true p, decide_eq_true q, br_true, br_true, sg_neg (by omega)]
      · have := Int.mul_neg_of_pos_of_neg p (show X2 < 0 by omega)
        rw [decide_eq_true p, decide_eq_false q, br_true, br_false, sg_pos (by omega)]
      · have := Int.mul_neg_of_neg_of_pos (show Y1 < 0 by omega) q
        rw [decide_eq_false p, decide_eq_true q, br_false, br_true, sg_pos (by omega)]
      · have := Int.mul_pos_of_neg_of_neg (show Y1 < 0 by omega) (show X2 < 0 by omega)
        rw [decide_eq_false p, decide_eq_false q, br_false, br_false, sg_neg (by omega)]
  · have e : (decide (X1 = 0) || decide (Y2 = 0)) = false := by simpa using c14
    rw [e, br_false]
    unfold robustdeterminate_SignOfDet2x2_j3
    by_cases c23 : Y1 = 0 ∨ X2 = 0
    · have e : (decide (Y1 = 0) || decide (X2 = 0)) = true := by simpa using c23
      have hz : Y1 * X2 = 0 := by rcases c23 with h | h <;> rw [h] <;> simp
      rw [e, br_true, hz, Int.sub_zero, D_gt h4 (D_zero 1074), D_gt h1 (D_zero 1074)]
      by_cases p : 0 < Y2 <;> by_cases q : 0 < X1
      · have := Int.mul_pos q p
        rw [decide_eq_true p, decide_eq_true q, br_true, br_true, sg_pos (by omega)]
      · have := Int.mul_neg_of_neg_of_pos (show X1 < 0 by omega) p
        rw [decide_eq_true p, decide_eq_false q, br_true, br_false, sg_neg (by omega)]
      · have := Int.mul_neg_of_pos_of_neg q (show Y2 < 0 by omega)
        rw [decide_eq_false p, decide_eq_true q, br_false, br_true, sg_neg (by omega)]
      · have := Int.mul_pos_of_neg_of_neg (show X1 < 0 by omega) (show Y2 < 0 by omega)
        rw [decide_eq_false p, decide_eq_false q, br_false, br_false, sg_pos (by omega)]
    · have e : (decide (Y1 = 0) || decide (X2 = 0)) = false := by simpa using c23
      have n1 : X1 ≠ 0 := fun h => c14 (.inl h)
      have n4 : Y2 ≠ 0 := fun h => c14 (.inr h)
      have n2 : Y1 ≠ 0 := fun h => c23 (.inl h)
      have n3 : X2 ≠ 0 := fun h => c23 (.inr h)
      have o1 := D_fneg l1 h1
      have o2 := D_fneg l2 h2
      have o3 := D_fneg l3 h3
      have o4 := D_fneg l4 h4
      have m1 := fneg_lt l1
      have m3 := fneg_lt l3
      have key : ∀ {xa xb xc xd : Nat} {s a c B E : Int}, D xa a 1074 → D xb B 1074 → D xc c 1074 → D xd E 1074 → Sgn s → xa < 2 ^ 64 → xc < 2 ^ 64 → a ≠ 0 → c ≠ 0 → 0 < B → B ≤ E → a.natAbs ≤ 67108864 → c.natAbs ≤ 67108864 → E ≤ 67108864 →
          s * sg (a * E - B * c) = sg (X1 * Y2 - Y1 * X2) → robustdeterminate_SignOfDet2x2_j4 k xa xb xc xd s = some (sg (X1 * Y2 - Y1 * X2)) := by
        intro xa xb xc xd s a c B E ga gb gc gd gs ka kc na nc bp bE ab cb Eb hsg
        obtain ⟨b', rfl⟩ := Int.eq_ofNat_of_zero_le (show 0 ≤ B by omega)
        obtain ⟨d', rfl⟩ := Int.eq_ofNat_of_zero_le (show 0 ≤ E by omega)
        rw [j4_is ga gb gc gd gs hk ka kc na nc (by omega) (by omega) ab cb (by omega), hsg]
      have sp : Sgn 1 := .inl rfl
      have sm : Sgn (-1) := .inr rfl
      have neg1 : ∀ n : Int, -1 * sg n = sg (-n) := fun n => by rw [sg_opp]; grind
      rw [e, br_false, D_lt (D_zero 1074) h2, D_lt (D_zero 1074) h4, D_gt h2 h4, D_le h2 o4, D_le o2 h4, D_ge h2 h4]
      by_cases p : 0 < Y1 <;> by_cases q : 0 < Y2
      · rw [decide_eq_true p, decide_eq_true q, br_true, br_true]
        by_cases r : Y2 < Y1
        · rw [decide_eq_true r, br_true]
          exact key h3 h4 h1 h2 sm l3 l1 n3 n1 q (by omega) b3 b1 (by omega) (by rw [neg1]; congr 1; grind)
        · rw [decide_eq_false r, br_false]
          exact key h1 h2 h3 h4 sp l1 l3 n1 n3 p (by omega) b1 b3 (by omega) (by rw [Int.one_mul])
      · rw [decide_eq_true p, decide_eq_false q, br_true, br_false]
        by_cases r : Y1 ≤ -Y2
        · rw [decide_eq_true r, br_true]
          exact key h1 h2 o3 o4 sm l1 m3 n1 (by omega) p r b1 (by omega) (by omega) (by rw [neg1]; congr 1; grind)
        · rw [decide_eq_false r, br_false]
          exact key o3 o4 h1 h2 sp m3 l1 (by omega) n1 (by omega) (by omega) (by omega) b1 (by omega) (by rw [Int.one_mul]; congr 1; grind)
      · rw [decide_eq_false p, decide_eq_true q, br_false, br_true]
        by_cases r : -Y1 ≤ Y2
        · rw [decide_eq_true r, br_true]
          exact key o1 o2 h3 h4 sm m1 l3 (by omega) n3 (by omega) r (by omega) b3 (by omega) (by rw [neg1]; congr 1; grind)
        · rw [decide_eq_false r, br_false]
          exact key h3 h4 o1 o2 sp l3 m1 n3 (by omega) q (by omega) b3 (by omega) (by omega) (by rw [Int.one_mul]; congr 1; grind)
      · rw [decide_eq_false p, decide_eq_false q, br_false, br_false]
        by_cases r : Y2 ≤ Y1
        · rw [decide_eq_true r, br_true]
          exact key o1 o2 o3 o4 sp m1 m3 (by omega) (by omega) (by omega) (by omega) (by omega) (by omega) (by omega) (by rw [Int.one_mul]; congr 1; grind)
        · rw [decide_eq_false r, br_false]
          exact key o3 o4 o1 o2 sm m3 m1 (by omega) (by omega) (by omega) (by omega) (by omega) (by omega) (by omega) (by rw [neg1]; congr 1; grind)
end Go.Proofs.Ytnemkhcjmenfnaa
