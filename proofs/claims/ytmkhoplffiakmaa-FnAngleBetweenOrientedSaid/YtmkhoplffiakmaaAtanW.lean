/-
  The program's angle of a way of whole numbers. The angles of two ways and of the turn from one to the other. Between which numbers an angle lies. The sign of a turn: which whole turn lies between, and where the difference of the two angles lies. An angle brought between minus pi and pi: the two loops. Ours.
-/
import Derived.Test.YtmkhoplffiakmaaAtanG
import Derived.Test.YtmkhoplffiakmaaSignWord
namespace Go.Proofs.Ytmkhoplffiakmaa
open Go.Sx
open Ieee (signed)
set_option linter.unusedVariables false
set_option linter.unusedSimpArgs false
set_option maxRecDepth 100000

theorem div_ge3 {A N U : Rat} (hU : 0 < U) (h : N * U ≤ A) : N ≤ A / U := by
  obtain ⟨c, hc⟩ : ∃ c, c = A / U := ⟨_, rfl⟩
  have cu : c * U = A := by rw [hc]; grind
  rw [← hc]
  exact le_of_mul_le3 hU (by rw [cu]; exact h)
theorem div_le3 {A N U : Rat} (hU : 0 < U) (h : A ≤ N * U) : A / U ≤ N := by
  obtain ⟨c, hc⟩ : ∃ c, c = A / U := ⟨_, rfl⟩
  have cu : c * U = A := by rw [hc]; grind
  rw [← hc]
  exact le_of_mul_le3 hU (by rw [cu]; exact h)
theorem slope_pos {y x : Rat} (x1 : 1 ≤ x) (x2 : x ≤ 17592186044416) (y1 : 1 ≤ y ∨ y ≤ -1) (y2 : Bd y 17592186044416) : Bd (y / x) 17592186044416 ∧ (1 / 17592186044416 ≤ y / x ∨ y / x ≤ -(1 / 17592186044416)) := by
  have hx : 0 < x := by grind
  obtain ⟨y3, y4⟩ := y2
  refine ⟨⟨div_ge3 hx (by grind), div_le3 hx (by grind)⟩, ?_⟩
  rcases y1 with h | h
  · exact .inl (div_ge3 hx (by grind))
  · exact .inr (div_le3 hx (by grind))
theorem int_one {n : Int} (h : n ≠ 0) : 1 ≤ (n : Rat) ∨ (n : Rat) ≤ -1 := by
  rcases (show 1 ≤ n ∨ n ≤ -1 by omega) with h | h
  · left; have := Rat.intCast_le_intCast.2 h; exact this
  · right; have := Rat.intCast_le_intCast.2 h; exact this
theorem int_bd {n : Int} (h : n.natAbs ≤ 17592186044416) : Bd (n : Rat) 17592186044416 := by
  constructor
  · have := Rat.intCast_le_intCast.2 (show -17592186044416 ≤ n by omega); exact this
  · have := Rat.intCast_le_intCast.2 (show n ≤ 17592186044416 by omega); exact this
theorem slope_is {wy wx : Nat} {Y X : Int} (dy : D wy Y 1074) (dx : D wx X 1074) (bY : Y.natAbs ≤ 17592186044416) (bX : X.natAbs ≤ 17592186044416) (hY : Y ≠ 0) (hX : X ≠ 0) :
    ∃ f e : Rat, Q (gdiv wy wx) (f * (1 + e)) ∧ Sm e (4 * uu) ∧ f * (X : Rat) = (Y : Rat) ∧ f ≠ 0 ∧ Bd f 35184372088832 ∧ (1 ≤ f * 35184372088832 ∨ 1 ≤ -f * 35184372088832) := by
  have hBB : (1152921504606846976 * 1152921504606846976 : Rat) ≤ BB := by decide +kernel
  have x1 := int_one hX
  have y1 := int_one hY
  have x2 := int_bd bX
  have y2 := int_bd bY
  have qy := Q_whole dy
  have qx := Q_whole dx
  generalize (X : Rat) = x at *
  generalize (Y : Rat) = y at *
  have key : Bd (y / x) 17592186044416 ∧ (1 / 17592186044416 ≤ y / x ∨ y / x ≤ -(1 / 17592186044416)) := by
    rcases x1 with h | h
    · exact slope_pos h x2.2 y1 y2
    · have := slope_pos (y := -y) (x := -x) (by grind) (by have := x2.1; grind) (by rcases y1 with h | h; right; grind; left; grind) (bd_neg y2)
      have e : -y / -x = y / x := by grind
      rw [e] at this; exact this
  have hx0 : x ≠ 0 := by rcases x1 with h | h <;> grind
  obtain ⟨f, hf⟩ : ∃ f, f = y / x := ⟨_, rfl⟩
  have fx : f * x = y := by rw [hf]; grind
  rw [← hf] at key
  obtain ⟨⟨k1, k2⟩, k3⟩ := key
  have b0 : (0 : Rat) ≤ BB := by grind
  obtain ⟨e, q, he⟩ := gdiv_rel qy qx hx0 ⟨by
    rw [← hf]
    rcases k3 with h | h
    · right; left
      have h3 := Rat.mul_nonneg (show 0 ≤ f - 1 / 17592186044416 by grind) b0
      generalize BB = B at *
      grind
    · right; right
      have h3 := Rat.mul_nonneg (show 0 ≤ -f - 1 / 17592186044416 by grind) b0
      generalize BB = B at *
      grind, by rw [← hf]; grind⟩
  rw [← hf] at q
  have hu : (0 : Rat) ≤ uu := by decide +kernel
  refine ⟨f, e, q, ⟨by have := he.1; grind, by have := he.2; grind⟩, fx, by rcases k3 with h | h <;> grind, ⟨by grind, by grind⟩, by rcases k3 with h | h; left; grind; right; grind⟩
theorem rd_mid {z : Rat} (hz : Bd z cT) : Bd (RD z - 17 / 20) (1 / 5) := by
  obtain ⟨h1, h2⟩ := rd_eta hz
  have h0 := sq_nn_ z
  have hs := sq_le_ hz
  have hc : cT * cT ≤ 437 / 1000 := by decide +kernel
  have e : e48 ≤ 1 / 1000 := by decide +kernel
  constructor
  · by_cases h : -(1 / 5) ≤ RD z - 17 / 20
    · exact h
    · have := Rat.mul_pos (show 0 < 13 / 20 - RD z by grind) (show 0 < 1 + z * z by grind); grind
  · by_cases h : RD z - 17 / 20 ≤ 1 / 5
    · exact h
    · have := Rat.mul_pos (show 0 < RD z - 21 / 20 by grind) (show 0 < 1 + z * z by grind); grind
theorem rr_lin {t : Rat} (h0 : 0 ≤ t) (h1 : t ≤ cT) : Bd (RR t - 17 / 20 * t) (1 / 5 * t) := by
  obtain ⟨M, K, hM, hK, hs⟩ := rr_smo
  have hc : (0 : Rat) ≤ cT := by decide +kernel
  have := whole_step (f := fun x => RR x - 17 / 20 * x) (e := 1 / 5) (K := K) (a := 0) (b := t) h0 (by decide +kernel) hK (fun u v h2 h3 h4 => by
    have hu : Bd u cT := ⟨by grind, by grind⟩
    have hv : Bd v cT := ⟨by grind, by grind⟩
    have g1 := hs.err u v hu hv
    have g2 := bd_mul (a := v - u) (A := v - u) ⟨by grind, by grind⟩ (rd_mid hu)
    have g3 := bd_add g2 g1
    have e1 : (v - u) * (RD u - 17 / 20) + (RR v - RR u - (v - u) * RD u) = RR v - 17 / 20 * v - (RR u - 17 / 20 * u) := by grind
    rw [e1, show (v - u) * (1 / 5) + K * ((v - u) * (v - u)) = 1 / 5 * (v - u) + K * ((v - u) * (v - u)) by grind] at g3
    exact g3)
  have e2 : RR t - 17 / 20 * t - (RR 0 - 17 / 20 * 0) = RR t - 17 / 20 * t := by rw [rr_zero]; grind
  have e3 : (1 / 5 : Rat) * (t - 0) = 1 / 5 * t := by grind
  have h5 : Bd (RR t - 17 / 20 * t - (RR 0 - 17 / 20 * 0)) (1 / 5 * (t - 0)) := this
  rw [e2, e3] at h5; exact h5
/-- an arc tangent of a slope above 0 is not too small -/
theorem red_low {c : Int} {s t : Rat} (hs : 1 ≤ s * 35184372088832) (h : Red c s t) : 1 / 70368744177664 ≤ (c : Rat) * qpi + RR t := by
  have hq : (3 / 4 : Rat) ≤ qpi := by decide +kernel
  have hcT : (829 / 2000 : Rat) ≤ cT := by decide +kernel
  have hl : lp * (829 / 2000) ≤ 1 / 2 := by decide +kernel
  rcases h with ⟨rfl, rfl, h⟩ | ⟨rfl, h1, h⟩ | ⟨rfl, h1, h⟩
  · have z0' : ((0 : Int) : Rat) = 0 := rfl
    have l := (rr_lin (t := t) (by grind) h.2).1
    rw [z0']; grind
  · have l0 := rr_lip zero_bd (bd_mono h hcT) (d := 829 / 2000) (by rw [show t - 0 = t by grind]; exact h)
    rw [rr_zero, show RR t - 0 = RR t by grind] at l0
    have c1 : ((1 : Int) : Rat) = 1 := rfl
    have := l0.1
    rw [c1]; grind
  · have l0 := rr_lip zero_bd (bd_mono h hcT) (d := 829 / 2000) (by rw [show t - 0 = t by grind]; exact h)
    rw [rr_zero, show RR t - 0 = RR t by grind] at l0
    have c1 : ((2 : Int) : Rat) = 2 := rfl
    have := l0.1
    rw [c1]; grind
/-- what is told of an angle -/
def AngOf (y : Nat) (X Y : Rat) : Prop := ∃ (c : Int) (t : Rat), Dirn c t X Y ∧ Bd t cT ∧ (c % 4 = 0 ∨ Bd t (829 / 2000)) ∧ (-4 ≤ c ∧ c ≤ 4) ∧ (c = 4 → t ≤ 0) ∧ (c = -4 → 0 ≤ t) ∧ ∃ v, Q y v ∧ Bd (v - ((c : Rat) * qpi + RR t)) (1 / 70368744177664)
theorem red_facts {c : Int} {s t : Rat} (hs : 0 < s) (h : Red c s t) : (0 ≤ c ∧ c ≤ 2) ∧ Bd t cT ∧ (c = 0 ∨ Bd t (829 / 2000)) ∧ (c = 0 → 0 < t) := by
  have hcT : (829 / 2000 : Rat) ≤ cT := by decide +kernel
  rcases h with ⟨rfl, rfl, h⟩ | ⟨rfl, h1, h⟩ | ⟨rfl, h1, h⟩
  · exact ⟨by omega, h, .inl rfl, fun _ => hs⟩
  · exact ⟨by omega, bd_mono h hcT, .inr h, fun h => by omega⟩
  · exact ⟨by omega, bd_mono h hcT, .inr h, fun h => by omega⟩
theorem pi_is : (884279719003555 / 281474976710656 : Rat) = 4 * qpi := by decide +kernel
theorem neg_word {x : Nat} {a : Rat} (hx : x < 2 ^ 64) (h : Q x a) (ha : a < 0) : ¬ x < 2 ^ 63 := by
  intro h2
  have h3 := ((sign_word hx h).1 ha).2
  rw [Nat.mod_eq_of_lt h2] at h3
  have := Q_uniq h h3
  grind
theorem c4_is (X : Rat) (h : X < 0) : Dirn 4 0 X 0 := ⟨-X, by grind, by show X = -X * (-1 - 0 * 0); grind, by show (0 : Rat) = -X * (0 + 0 * -1); grind⟩
theorem cm4_is (X : Rat) (h : X < 0) : Dirn (-4) 0 X 0 := ⟨-X, by grind, by show X = -X * (-1 - 0 * 0); grind, by show (0 : Rat) = -X * (0 + 0 * -1); grind⟩
theorem c2_is (Y : Rat) (h : 0 < Y) : Dirn 2 0 0 Y := ⟨Y, h, by show (0 : Rat) = Y * (0 - 0 * 1); grind, by show Y = Y * (1 + 0 * 0); grind⟩
theorem cm2_is (Y : Rat) (h : Y < 0) : Dirn (-2) 0 0 Y := ⟨-Y, by grind, by show (0 : Rat) = -Y * (0 - 0 * -1); grind, by show Y = -Y * (-1 + 0 * 0); grind⟩
set_option maxHeartbeats 2000000 in
theorem atan2_is (k : Nat) {wy wx : Nat} {Y X : Int} (hy : wy < 2 ^ 64) (hx : wx < 2 ^ 64) (dy : D wy Y 1074) (dx : D wx X 1074) (bY : Y.natAbs ≤ 17592186044416) (bX : X.natAbs ≤ 17592186044416) (hne : ¬ (X = 0 ∧ Y = 0)) :
    ∃ y, math_Atan2 k wy wx = some y ∧ y < 2 ^ 64 ∧ AngOf y (X : Rat) (Y : Rat) := by
  have qy := Q_whole dy
  have qx := Q_whole dx
  have by_ := int_bd bY
  have bx_ := int_bd bX
  have z0' : ((0 : Int) : Rat) = 0 := rfl
  have hz : Bd (0 : Rat) (829 / 2000) := by constructor <;> decide +kernel
  unfold math_Atan2 math_atan2
  rw [isnan3 qy, sbind, br_false, isnan3 qx, sbind]
  unfold math_atan2_j1
  rw [br_false, feq_q qy q_zero]
  by_cases hY : Y = 0
  · subst hY
    rw [z0', decide_eq_true rfl, br_true, fge_q qx q_zero]
    unfold math_atan2_j2
    have hX : X ≠ 0 := fun h => hne ⟨h, rfl⟩
    rcases (show 0 < X ∨ X < 0 by omega) with h | h
    · have hp : (0 : Rat) < (X : Rat) := by have := Rat.intCast_lt_intCast.2 h; exact this
      rw [decide_eq_true (by grind), br_true, signbit3 k (pos_word hx qx hp), sbind, Bool.not_false, br_true, copysign_is k (by decide) hy, sbind, sbind]
      have q0 : Q (if wy < 2 ^ 63 then 0 else fneg 0) 0 := by
        split
        · exact q_zero
        · have := Q_fneg (by decide) q_zero; rw [show -(0 : Rat) = 0 by grind] at this; exact this
      refine ⟨_, rfl, by split; decide; exact fneg_lt3 (by decide), 0, 0, ⟨(X : Rat), hp, by show (X : Rat) = X * (1 - 0 * 0); grind, by show (0 : Rat) = X * (0 + 0 * 1); grind⟩, zero_bd, .inl rfl, by omega, fun h => by omega, fun h => by omega, 0, q0, ?_⟩
      rw [z0', rr_zero]; constructor <;> grind
    · have hp : (X : Rat) < 0 := by have := Rat.intCast_lt_intCast.2 h; exact this
      rw [decide_eq_false (by grind), br_false, br_false, copysign_is k (by decide) hy, sbind, sbind]
      by_cases hw : wy < 2 ^ 63
      · rw [if_pos hw]
        refine ⟨_, rfl, by decide, 4, 0, c4_is _ hp, zero_bd, .inl rfl, by omega, fun _ => by grind, fun h => by omega, _, c_pi, ?_⟩
        have c4 : ((4 : Int) : Rat) = 4 := rfl
        rw [c4, rr_zero, pi_is]; constructor <;> grind
      · rw [if_neg hw]
        refine ⟨_, rfl, fneg_lt3 (by decide), -4, 0, cm4_is _ hp, zero_bd, .inl rfl, by omega, fun h => by omega, fun _ => by grind, _, Q_fneg (by decide) c_pi, ?_⟩
        have c4 : ((-4 : Int) : Rat) = -4 := rfl
        rw [c4, rr_zero, pi_is]; constructor <;> grind
  have yz : (Y : Rat) ≠ 0 := by rcases int_one hY with h | h <;> grind
  rw [decide_eq_false yz, br_false, feq_q qx q_zero]
  by_cases hX : X = 0
  · subst hX
    rw [z0', decide_eq_true rfl, br_true, copysign_is k (by decide) hy, sbind, sbind]
    rcases (show 0 < Y ∨ Y < 0 by omega) with h | h
    · have hp : (0 : Rat) < (Y : Rat) := by have := Rat.intCast_lt_intCast.2 h; exact this
      rw [if_pos (pos_word hy qy hp)]
      refine ⟨_, rfl, by decide, 2, 0, c2_is _ hp, zero_bd, .inr hz, by omega, fun h => by omega, fun h => by omega, _, c_pi2, ?_⟩
      have c4 : ((2 : Int) : Rat) = 2 := rfl
      rw [c4, rr_zero, pi2_is]; constructor <;> grind
    · have hp : (Y : Rat) < 0 := by have := Rat.intCast_lt_intCast.2 h; exact this
      rw [if_neg (neg_word hy qy hp)]
      refine ⟨_, rfl, fneg_lt3 (by decide), -2, 0, cm2_is _ hp, zero_bd, .inr hz, by omega, fun h => by omega, fun h => by omega, _, Q_fneg (by decide) c_pi2, ?_⟩
      have c4 : ((-2 : Int) : Rat) = -2 := rfl
      rw [c4, rr_zero, pi2_is]; constructor <;> grind
  have xz : (X : Rat) ≠ 0 := by rcases int_one hX with h | h <;> grind
  obtain ⟨f, e, qf, he, fx, f0, fb, f1⟩ := slope_is dy dx bY bX hY hX
  have hl := gdiv_lt wy wx
  obtain ⟨y, c, t, y1, y2, y3⟩ := atan_is k hl qf he f0 fb f1
  rw [decide_eq_false xz, br_false, isinf3 hx qx (by have := bx_.1; grind) (by have := bx_.2; grind), sbind, br_false, isinf3 hy qy (by have := by_.1; grind) (by have := by_.2; grind), sbind, br_false, sbind, num_q qf, sbind, y1, sbind, flt_q qx q_zero]
  have hq0 : (3 / 4 : Rat) ≤ qpi ∧ qpi ≤ 4 / 5 := by constructor <;> decide +kernel
  rcases (show 0 < X ∨ X < 0 by omega) with h | h
  · have hp : (0 : Rat) < (X : Rat) := by have := Rat.intCast_lt_intCast.2 h; exact this
    rw [decide_eq_false (by grind), br_false]
    refine ⟨y, rfl, y2, ?_⟩
    rcases y3 with ⟨g1, g2, ⟨⟨v, qv, hv⟩, _⟩⟩ | ⟨g1, g2, ⟨⟨v, qv, hv⟩, _⟩⟩
    · obtain ⟨r1, r2, r3, r4⟩ := red_facts g1 g2
      refine ⟨c, t, dirn_red g2 hp g1 (by grind), r2, ?_, by omega, fun h => by omega, fun h => by omega, v, qv, bd_mono hv (by decide +kernel)⟩
      rcases r3 with h | h
      · left; omega
      · exact .inr h
    · obtain ⟨r1, r2, r3, r4⟩ := red_facts (show 0 < -f by grind) g2
      have d1 := dirn_conj (dirn_red (Y := -(Y : Rat)) g2 hp (by grind) (by grind))
      rw [show - -(Y : Rat) = Y by grind] at d1
      refine ⟨-c, -t, d1, bd_neg r2, ?_, by omega, fun h => by omega, fun h => by omega, v, qv, ?_⟩
      · rcases r3 with h | h
        · left; omega
        · exact .inr (bd_neg h)
      · rw [rr_neg, Rat.intCast_neg, show -(c : Rat) * qpi + -RR t = -((c : Rat) * qpi + RR t) by grind]
        exact bd_mono hv (by decide +kernel)
  · have hp : (X : Rat) < 0 := by have := Rat.intCast_lt_intCast.2 h; exact this
    rw [decide_eq_true (by grind), br_true]
    have hpi := nq_const c_pi (A := 16 / 5) (by constructor <;> decide +kernel)
    have c4 := pi_is
    rcases y3 with ⟨g1, g2, n1⟩ | ⟨g1, g2, n1⟩
    · have low := red_low (by rcases f1 with h | h; exact h; grind) g2
      obtain ⟨r1, r2, r3, r4⟩ := red_facts g1 g2
      have n2 := nq_sub (g := 1 / 70368744177664) (C := 6) n1 hpi (by decide +kernel) (by decide +kernel) (by decide +kernel)
      obtain ⟨⟨v, qv, hv⟩, _⟩ := n1
      rw [fle_q qv q_zero, decide_eq_false (by have := hv.1; grind), br_false, sbind]
      obtain ⟨⟨w, qw, hw⟩, _⟩ := n2
      have d1 := dirn_back (dirn_red (X := -(X : Rat)) (Y := -(Y : Rat)) g2 (by grind) g1 (by grind))
      rw [show - -(X : Rat) = X by grind, show - -(Y : Rat) = Y by grind] at d1
      have d2 : Dirn (c - 4) t X Y := dirn_per (by rw [show c - 4 + 8 = c + 4 by omega]; exact d1)
      refine ⟨_, rfl, gsub_lt _ _, c - 4, t, d2, r2, ?_, by omega, fun h => by omega, fun h => Rat.le_of_lt (r4 (by omega)), w, qw, ?_⟩
      · rcases r3 with h | h
        · left; omega
        · exact .inr h
      · have e4 : ((c - 4 : Int) : Rat) = (c : Rat) - 4 := by rw [Rat.intCast_sub]; rfl
        rw [e4]
        rw [c4] at hw
        have e5 : w - ((c : Rat) * qpi + RR t - 4 * qpi) = w - (((c : Rat) - 4) * qpi + RR t) := by grind
        rw [e5] at hw; exact hw
    · have low := red_low (by rcases f1 with h | h; grind; exact h) g2
      obtain ⟨r1, r2, r3, r4⟩ := red_facts (show 0 < -f by grind) g2
      have n2 := nq_add (g := 1 / 70368744177664) (C := 6) n1 hpi (by decide +kernel) (by decide +kernel) (by decide +kernel)
      obtain ⟨⟨v, qv, hv⟩, _⟩ := n1
      rw [fle_q qv q_zero, decide_eq_true (by have := hv.2; grind), br_true, sbind]
      obtain ⟨⟨w, qw, hw⟩, _⟩ := n2
      have d1 := dirn_conj (dirn_back (dirn_red (X := -(X : Rat)) (Y := (Y : Rat)) g2 (by grind) (by grind) (by grind)))
      rw [show - -(X : Rat) = X by grind, show - -(Y : Rat) = Y by grind] at d1
      have d2 : Dirn (4 - c) (-t) X Y := by
        have e8 : 4 - c = -(c + 4) + 8 := by omega
        obtain ⟨l, h0, h1, h2⟩ := d1
        obtain ⟨k1, k2⟩ := ux_per (-(c + 4))
        rw [e8]
        exact ⟨l, h0, by rw [k1, k2]; exact h1, by rw [k1, k2]; exact h2⟩
      refine ⟨_, rfl, gadd_lt _ _, 4 - c, -t, d2, bd_neg r2, ?_, by omega, fun h => by have := r4 (by omega); grind, fun h => by omega, w, qw, ?_⟩
      · rcases r3 with h | h
        · left; omega
        · exact .inr (bd_neg h)
      · have e4 : ((4 - c : Int) : Rat) = 4 - (c : Rat) := by rw [Rat.intCast_sub]; rfl
        rw [e4, rr_neg]
        rw [c4] at hw
        have e5 : w - (-((c : Rat) * qpi + RR t) + 4 * qpi) = w - ((4 - (c : Rat)) * qpi + -RR t) := by grind
        rw [e5] at hw; exact hw
end Go.Proofs.Ytmkhoplffiakmaa
namespace Go.Proofs.Ytmkhoplffiakmaa
open Go.Sx
set_option linter.unusedVariables false
set_option linter.unusedSimpArgs false
set_option maxRecDepth 100000

theorem res8 (c : Int) : c % 8 = 0 ∨ c % 8 = 1 ∨ c % 8 = 2 ∨ c % 8 = 3 ∨ c % 8 = 4 ∨ c % 8 = 5 ∨ c % 8 = 6 ∨ c % 8 = 7 := by omega
def U8 (n : Nat) : Int := if n = 0 ∨ n = 1 ∨ n = 7 then 1 else if n = 2 ∨ n = 6 then 0 else -1
def V8 (n : Nat) : Int := if n = 1 ∨ n = 2 ∨ n = 3 then 1 else if n = 0 ∨ n = 4 then 0 else -1
theorem u8_is (c : Int) : ∃ n : Nat, n < 8 ∧ c % 8 = (n : Int) ∧ ux c = ((U8 n : Int) : Rat) ∧ uy c = ((V8 n : Int) : Rat) := by
  refine ⟨(c % 8).toNat, by omega, by omega, ?_, ?_⟩
  · unfold ux
    rcases res8 c with h | h | h | h | h | h | h | h <;> rw [h] <;> decide +kernel
  · unfold uy
    rcases res8 c with h | h | h | h | h | h | h | h <;> rw [h] <;> decide +kernel
theorem mul8 : ∀ a, a < 8 → ∀ b, b < 8 → (U8 a * U8 b - V8 a * V8 b = U8 ((a + b) % 8) ∧ U8 a * V8 b + V8 a * U8 b = V8 ((a + b) % 8)) ∨ (U8 a * U8 b - V8 a * V8 b = 2 * U8 ((a + b) % 8) ∧ U8 a * V8 b + V8 a * U8 b = 2 * V8 ((a + b) % 8)) := by decide
theorem u_mul (a b : Int) : ∃ μ : Rat, 0 < μ ∧ ux a * ux b - uy a * uy b = μ * ux (a + b) ∧ ux a * uy b + uy a * ux b = μ * uy (a + b) := by
  obtain ⟨m, m1, m2, m3, m4⟩ := u8_is a
  obtain ⟨n, n1, n2, n3, n4⟩ := u8_is b
  obtain ⟨p, p1, p2, p3, p4⟩ := u8_is (a + b)
  have e : p = (m + n) % 8 := by omega
  rw [m3, m4, n3, n4, p3, p4, e]
  rcases mul8 m m1 n n1 with ⟨h1, h2⟩ | ⟨h1, h2⟩
  · have k1 := congrArg (fun z : Int => (z : Rat)) h1
    have k2 := congrArg (fun z : Int => (z : Rat)) h2
    simp only [Rat.intCast_sub, Rat.intCast_add, Rat.intCast_mul] at k1 k2
    exact ⟨1, by decide +kernel, by rw [k1]; grind, by rw [k2]; grind⟩
  · have k1 := congrArg (fun z : Int => (z : Rat)) h1
    have k2 := congrArg (fun z : Int => (z : Rat)) h2
    have c2 : ((2 : Int) : Rat) = 2 := rfl
    simp only [Rat.intCast_sub, Rat.intCast_add, Rat.intCast_mul, c2] at k1 k2
    exact ⟨2, by decide +kernel, k1, k2⟩
theorem u_norm (c : Int) : 0 < ux c * ux c + uy c * uy c := by
  obtain ⟨m, m1, m2, m3, m4⟩ := u8_is c
  have h : ∀ a, a < 8 → 1 ≤ U8 a * U8 a + V8 a * V8 a := by decide
  have k := Rat.intCast_le_intCast.2 (h m m1)
  simp only [Rat.intCast_add, Rat.intCast_mul] at k
  have c1 : ((1 : Int) : Rat) = 1 := rfl
  rw [c1] at k
  rw [m3, m4]; grind
/-- the product of the three ways that are left -/
theorem prod_dir {c1 c2 c3 : Int} {t1 t2 t3 X1 Y1 X2 Y2 : Rat} (h1 : Dirn c1 t1 X1 Y1) (h2 : Dirn c2 t2 X2 Y2) (h3 : Dirn c3 t3 (X1 * X2 + Y1 * Y2) (X1 * Y2 - Y1 * X2)) :
    ∃ ν : Rat, 0 < ν ∧ 1 + t1 * t2 + t3 * (t2 - t1) = ν * ux (c1 + c3 - c2) ∧ t2 - t1 - t3 * (1 + t1 * t2) = ν * uy (c1 + c3 - c2) := by
  obtain ⟨l1, l1p, x1, y1⟩ := h1
  obtain ⟨l2, l2p, x2, y2⟩ := h2
  obtain ⟨l3, l3p, x3, y3⟩ := h3
  obtain ⟨μ, μp, m1, m2⟩ := u_mul c1 c3
  obtain ⟨ρ, ρp, r1, r2⟩ := u_mul (c1 + c3) (-c2)
  obtain ⟨n1, n2⟩ := ux_neg c2
  rw [n1, n2, show c1 + c3 + -c2 = c1 + c3 - c2 by omega] at r1 r2
  have N1 := u_norm c1
  have N2 := u_norm c2
  rw [x1, x2, y1, y2] at x3 y3
  generalize ux (c1 + c3 - c2) = ex at *
  generalize uy (c1 + c3 - c2) = ey at *
  generalize ux (c1 + c3) = fx at *
  generalize uy (c1 + c3) = fy at *
  generalize ux c1 = a1 at *
  generalize uy c1 = b1 at *
  generalize ux c2 = a2 at *
  generalize uy c2 = b2 at *
  generalize ux c3 = a3 at *
  generalize uy c3 = b3 at *
  clear n1 n2 x1 x2 y1 y2
  obtain ⟨p, hp⟩ : ∃ p, p = 1 + t1 * t2 + t3 * (t2 - t1) := ⟨_, rfl⟩
  obtain ⟨q, hq⟩ : ∃ q, q = t2 - t1 - t3 * (1 + t1 * t2) := ⟨_, rfl⟩
  -- conj e1 * e2 * (p + i q) * l1 l2 = l3 (1 + t3 t3) e3
  have A1 : l1 * l2 * ((a1 * a2 + b1 * b2) * p - (a1 * b2 - b1 * a2) * q) = l3 * (1 + t3 * t3) * a3 := by
    have e : l1 * l2 * ((a1 * a2 + b1 * b2) * p - (a1 * b2 - b1 * a2) * q) = (l1 * (a1 - t1 * b1) * (l2 * (a2 - t2 * b2)) + l1 * (b1 + t1 * a1) * (l2 * (b2 + t2 * a2))) + t3 * (l1 * (a1 - t1 * b1) * (l2 * (b2 + t2 * a2)) - l1 * (b1 + t1 * a1) * (l2 * (a2 - t2 * b2))) := by rw [hp, hq]; grind
    rw [e, x3, y3]; grind
  have A2 : l1 * l2 * ((a1 * a2 + b1 * b2) * q + (a1 * b2 - b1 * a2) * p) = l3 * (1 + t3 * t3) * b3 := by
    have e : l1 * l2 * ((a1 * a2 + b1 * b2) * q + (a1 * b2 - b1 * a2) * p) = (l1 * (a1 - t1 * b1) * (l2 * (b2 + t2 * a2)) - l1 * (b1 + t1 * a1) * (l2 * (a2 - t2 * b2))) - t3 * (l1 * (a1 - t1 * b1) * (l2 * (a2 - t2 * b2)) + l1 * (b1 + t1 * a1) * (l2 * (b2 + t2 * a2))) := by rw [hp, hq]; grind
    rw [e, x3, y3]; grind
  -- times e1 conj e2
  obtain ⟨L, hL⟩ : ∃ L, L = l1 * l2 * ((a1 * a1 + b1 * b1) * (a2 * a2 + b2 * b2)) := ⟨_, rfl⟩
  have Lp : 0 < L := by rw [hL]; exact Rat.mul_pos (Rat.mul_pos l1p l2p) (Rat.mul_pos N1 N2)
  obtain ⟨G, hG⟩ : ∃ G, G = l3 * (1 + t3 * t3) := ⟨_, rfl⟩
  have Gp : 0 < G := by rw [hG]; exact Rat.mul_pos l3p (by have := sq_nn_ t3; grind)
  rw [← hG] at A1 A2
  have B1 : L * p = G * (μ * (ρ * ex)) := by
    have e : L * p = l1 * l2 * ((a1 * a2 + b1 * b2) * p - (a1 * b2 - b1 * a2) * q) * (a1 * a2 + b1 * b2) - l1 * l2 * ((a1 * a2 + b1 * b2) * q + (a1 * b2 - b1 * a2) * p) * (b1 * a2 - a1 * b2) := by rw [hL]; grind
    have e2 : μ * (ρ * ex) = (a1 * a3 - b1 * b3) * a2 + (a1 * b3 + b1 * a3) * b2 := by rw [← r1, m1, m2]; grind
    rw [e, A1, A2, e2]; grind
  have B2 : L * q = G * (μ * (ρ * ey)) := by
    have e : L * q = l1 * l2 * ((a1 * a2 + b1 * b2) * p - (a1 * b2 - b1 * a2) * q) * (b1 * a2 - a1 * b2) + l1 * l2 * ((a1 * a2 + b1 * b2) * q + (a1 * b2 - b1 * a2) * p) * (a1 * a2 + b1 * b2) := by rw [hL]; grind
    have e2 : μ * (ρ * ey) = (a1 * b3 + b1 * a3) * a2 - (a1 * a3 - b1 * b3) * b2 := by rw [← r2, m1, m2]; grind
    rw [e, A1, A2, e2]; grind
  obtain ⟨K, hK⟩ : ∃ K, K = 1 / L := ⟨_, rfl⟩
  have KL : K * L = 1 := by rw [hK]; grind
  have Kp : 0 < K := by rw [hK, Rat.div_def, Rat.one_mul]; exact Rat.inv_pos.2 Lp
  refine ⟨K * (G * (μ * ρ)), Rat.mul_pos Kp (Rat.mul_pos Gp (Rat.mul_pos μp ρp)), ?_, ?_⟩
  · rw [← hp]
    have : K * (G * (μ * ρ)) * ex = K * (L * p) := by rw [B1]; grind
    rw [this]
    have : K * (L * p) = K * L * p := by grind
    rw [this, KL]; grind
  · rw [← hq]
    have : K * (G * (μ * ρ)) * ey = K * (L * q) := by rw [B2]; grind
    rw [this]
    have : K * (L * q) = K * L * q := by grind
    rw [this, KL]; grind
theorem neg_arc {t1 t2 t3 : Rat} (h : Bd (RR (-t2) - RR (-t1) - RR (-t3) - qpi) (8 * e48)) : Bd (RR t2 - RR t1 - RR t3 + qpi) (8 * e48) := by
  rw [rr_neg, rr_neg, rr_neg] at h
  have := bd_neg h
  rw [show -(-RR t2 - -RR t1 - -RR t3 - qpi) = RR t2 - RR t1 - RR t3 + qpi by grind] at this; exact this
/-- one is 45 degrees more than the others -/
theorem arc_more {t1 t2 t3 : Rat} (h1 : Bd t1 cT) (h2 : Bd t2 cT) (h3 : Bd t3 cT) (h : t2 - t1 - t3 * (1 + t1 * t2) = 1 + t1 * t2 + t3 * (t2 - t1)) : Bd (RR t2 - RR t1 - RR t3 - qpi) (8 * e48) := by
  have hc : (cT : Rat) < 1 := by decide +kernel
  have g3 : 0 < 1 - t3 := by have := h3.2; grind
  have g4 : 0 < 1 + t3 := by have := h3.1; grind
  obtain ⟨d, hd⟩ : ∃ d, d = (1 + t3) / (1 - t3) := ⟨_, rfl⟩
  have dd : d * (1 - t3) = 1 + t3 := by rw [hd]; grind
  have d0 : 0 < d := by
    by_cases hh : 0 < d
    · exact hh
    · have := Rat.mul_nonneg (show 0 ≤ -d by grind) (Rat.le_of_lt g3); grind
  have he : d * (1 + t1 * t2) = t2 - t1 := by
    have e : (d * (1 + t1 * t2) - (t2 - t1)) * (1 - t3) = 0 := by
      have : (d * (1 + t1 * t2) - (t2 - t1)) * (1 - t3) = d * (1 - t3) * (1 + t1 * t2) - (t2 - t1) * (1 - t3) := by grind
      rw [this, dd]; grind
    rcases Rat.mul_eq_zero.1 e with h | h <;> grind
  refine arc_one h1 h2 h3 dd d0 he ?_
  rcases (show 0 ≤ t2 ∨ t2 < 0 by grind) with hh | hh
  · have := Rat.mul_nonneg hh (Rat.le_of_lt d0); grind
  · have p12 := pos_prod h1 h2
    have k1 : t1 < 0 := by
      have := Rat.mul_pos d0 p12
      grind
    have k2 := Rat.mul_pos (show 0 < -t1 by grind) (show 0 < -t2 by grind)
    have k3 := Rat.mul_nonneg (Rat.le_of_lt d0) (Rat.le_of_lt k2)
    have k4 : d ≤ cT := by have := h1.1; grind
    have k5 := bd_mul (a := d) (A := cT) ⟨by grind, k4⟩ h2
    have k6 : cT * cT < 1 := by decide +kernel
    have := k5.1
    rw [Rat.mul_comm t2 d]; grind
/-- what is told of an angle, with its value before rounding -/
def AngV (y : Nat) (X Y A : Rat) : Prop := ∃ (c : Int) (t : Rat), Dirn c t X Y ∧ Bd t cT ∧ (c % 4 = 0 ∨ Bd t (829 / 2000)) ∧ (-4 ≤ c ∧ c ≤ 4) ∧ (c = 4 → t ≤ 0) ∧ (c = -4 → 0 ≤ t) ∧ A = (c : Rat) * qpi + RR t ∧ ∃ v, Q y v ∧ Bd (v - A) (1 / 70368744177664)
/-- the turn's angle is the difference of the two, but for whole turns -/
theorem turn_sum {y1 y2 y3 : Nat} {X1 Y1 X2 Y2 : Rat} (h1 : AngOf y1 X1 Y1) (h2 : AngOf y2 X2 Y2) (h3 : AngOf y3 (X1 * X2 + Y1 * Y2) (X1 * Y2 - Y1 * X2)) :
    ∃ (k : Int) (A1 A2 A3 : Rat), AngV y1 X1 Y1 A1 ∧ AngV y2 X2 Y2 A2 ∧ AngV y3 (X1 * X2 + Y1 * Y2) (X1 * Y2 - Y1 * X2) A3 ∧ Bd (A2 - A1 - A3 - (k : Rat) * (8 * qpi)) (8 * e48) := by
  obtain ⟨c1, t1, d1, b1, r1, u1, w1, z1, e1⟩ := h1
  obtain ⟨c2, t2, d2, b2, r2, u2, w2, z2, e2⟩ := h2
  obtain ⟨c3, t3, d3, b3, r3, u3, w3, z3, e3⟩ := h3
  have a1 : AngV y1 X1 Y1 ((c1 : Rat) * qpi + RR t1) := ⟨c1, t1, d1, b1, r1, u1, w1, z1, rfl, e1⟩
  have a2 : AngV y2 X2 Y2 ((c2 : Rat) * qpi + RR t2) := ⟨c2, t2, d2, b2, r2, u2, w2, z2, rfl, e2⟩
  have a3 : AngV y3 (X1 * X2 + Y1 * Y2) (X1 * Y2 - Y1 * X2) ((c3 : Rat) * qpi + RR t3) := ⟨c3, t3, d3, b3, r3, u3, w3, z3, rfl, e3⟩
  obtain ⟨ν, ν0, hp, hq⟩ := prod_dir d1 d2 d3
  have p12 := pos_prod b1 b2
  -- the product's first number is above 0
  have pos : 0 < 1 + t1 * t2 + t3 * (t2 - t1) := by
    have big : ∀ {a b c : Rat}, Bd a (829 / 2000) → Bd b cT → Bd c cT → Bd (a * b) (829 / 2000 * cT) ∧ Bd (a * c) (829 / 2000 * cT) ∧ Bd (b * c) (cT * cT) := fun ha hb hc => ⟨bd_mul ha hb, bd_mul ha hc, bd_mul hb hc⟩
    have hn : 829 / 2000 * cT + 829 / 2000 * cT + cT * cT < 1 := by decide +kernel
    by_cases s1 : Bd t1 (829 / 2000)
    · obtain ⟨k1, k2, k3⟩ := big s1 b2 b3
      have := k1.1; have := k2.2; have := k3.1; grind
    by_cases s2 : Bd t2 (829 / 2000)
    · obtain ⟨k1, k2, k3⟩ := big s2 b1 b3
      have := k1.1; have := k2.1; have := k3.2; grind
    by_cases s3 : Bd t3 (829 / 2000)
    · obtain ⟨k1, k2, k3⟩ := big s3 b1 b2
      have := k1.2; have := k2.1; have := k3.1; grind
    · have g1 := r1.resolve_right s1
      have g2 := r2.resolve_right s2
      have g3 := r3.resolve_right s3
      have hy : uy (c1 + c3 - c2) = 0 := by
        obtain ⟨n, n1, n2, n3, n4⟩ := u8_is (c1 + c3 - c2)
        rw [n4]
        rcases (show n = 0 ∨ n = 4 by omega) with h | h <;> subst h <;> rfl
      rw [hy, Rat.mul_zero] at hq
      have k1 := sq_nn_ t3
      have k2 := Rat.mul_nonneg (Rat.le_of_lt p12) k1
      have e5 : t2 - t1 = t3 * (1 + t1 * t2) := by
        clear hp k1 k2 p12
        grind
      rw [e5]
      clear hp hq e5 hy
      generalize 1 + t1 * t2 = g at *
      have e6 : t3 * (t3 * g) = g * (t3 * t3) := by grind
      rw [e6]; grind
  obtain ⟨n, n1, n2, n3, n4⟩ := u8_is (c1 + c3 - c2)
  rw [n3] at hp
  rw [n4] at hq
  have hU : U8 n = 1 := by
    have hall : ∀ a, a < 8 → U8 a = 1 ∨ U8 a ≤ 0 := by decide
    rcases hall n n1 with h | h
    · exact h
    · exfalso
      have h5 := Rat.intCast_le_intCast.2 h
      have z0' : ((0 : Int) : Rat) = 0 := rfl
      rw [z0'] at h5
      have := Rat.mul_nonneg (Rat.le_of_lt ν0) (show 0 ≤ -((U8 n : Int) : Rat) by grind)
      grind
  have hn : n = 0 ∨ n = 1 ∨ n = 7 := by
    have hall : ∀ a, a < 8 → U8 a = 1 → a = 0 ∨ a = 1 ∨ a = 7 := by decide
    exact hall n n1 hU
  rw [hU] at hp
  have o1 : ((1 : Int) : Rat) = 1 := rfl
  have om1 : ((-1 : Int) : Rat) = -1 := rfl
  have z0' : ((0 : Int) : Rat) = 0 := rfl
  rw [o1, Rat.mul_one] at hp
  have main : ∃ r : Int, (c1 + c3 - c2 - r) % 8 = 0 ∧ Bd (RR t2 - RR t1 - RR t3 - (r : Rat) * qpi) (8 * e48) := by
    rcases hn with h | h | h
    · subst h
      have hV : V8 0 = 0 := rfl
      rw [hV, z0', Rat.mul_zero] at hq
      refine ⟨0, by omega, ?_⟩
      have := arc_zero b1 b2 b3 (by grind)
      rw [z0', show RR t2 - RR t1 - RR t3 - 0 * qpi = RR t2 - RR t1 - RR t3 by grind]
      exact bd_mono this (by decide +kernel)
    · subst h
      have hV : V8 1 = 1 := rfl
      rw [hV, o1, Rat.mul_one] at hq
      refine ⟨1, by omega, ?_⟩
      rw [o1, Rat.one_mul]
      exact arc_more b1 b2 b3 (by rw [hp, hq])
    · subst h
      have hV : V8 7 = -1 := rfl
      rw [hV, om1] at hq
      refine ⟨-1, by omega, ?_⟩
      rw [om1, show RR t2 - RR t1 - RR t3 - -1 * qpi = RR t2 - RR t1 - RR t3 + qpi by grind]
      exact neg_arc (arc_more (bd_neg b1) (bd_neg b2) (bd_neg b3) (by
        have e5 : -t2 - -t1 - -t3 * (1 + -t1 * -t2) = -(t2 - t1 - t3 * (1 + t1 * t2)) := by grind
        have e6 : 1 + -t1 * -t2 + -t3 * (-t2 - -t1) = 1 + t1 * t2 + t3 * (t2 - t1) := by grind
        rw [e5, e6, hp, hq]; grind))
  obtain ⟨r, hr, hb⟩ := main
  obtain ⟨k, hk⟩ : ∃ k : Int, c1 + c3 - c2 - r = -k * 8 := ⟨-((c1 + c3 - c2 - r) / 8), by omega⟩
  refine ⟨k, _, _, _, a1, a2, a3, ?_⟩
  have hkr := congrArg (fun z : Int => (z : Rat)) hk
  have o8 : ((8 : Int) : Rat) = 8 := rfl
  simp only [Rat.intCast_sub, Rat.intCast_add, Rat.intCast_mul, Rat.intCast_neg, o8] at hkr
  have e7 : (c2 : Rat) * qpi + RR t2 - ((c1 : Rat) * qpi + RR t1) - ((c3 : Rat) * qpi + RR t3) - (k : Rat) * (8 * qpi) = RR t2 - RR t1 - RR t3 - (r : Rat) * qpi := by
    have e8 : (k : Rat) * (8 * qpi) = -((c1 : Rat) + c3 - c2 - r) * qpi := by rw [hkr]; grind
    rw [e8]; grind
  rw [e7]; exact hb
end Go.Proofs.Ytmkhoplffiakmaa
namespace Go.Proofs.Ytmkhoplffiakmaa
open Go.Sx
set_option linter.unusedVariables false
set_option linter.unusedSimpArgs false
set_option maxRecDepth 100000

theorem rr_abs {t : Rat} (h : Bd t cT) : Bd (RR t) (7 / 10) := by
  have l := rr_lip zero_bd h (d := cT) (by rw [show t - 0 = t by grind]; exact h)
  rw [rr_zero, show RR t - 0 = RR t by grind] at l
  exact bd_mono l (by decide +kernel)
theorem rr_nn {t : Rat} (h0 : 0 ≤ t) (h1 : t ≤ cT) : 13 / 20 * t ≤ RR t := by have := (rr_lin h0 h1).1; grind
theorem qpi_bd : (39 / 50 : Rat) ≤ qpi ∧ qpi ≤ 4 / 5 := by constructor <;> decide +kernel
theorem angv_range {y : Nat} {X Y A : Rat} (h : AngV y X Y A) : Bd A (4 * qpi) := by
  obtain ⟨c, t, d, b, r, ⟨u1, u2⟩, w1, w2, rfl, _⟩ := h
  have ra := rr_abs b
  have q := qpi_bd
  obtain ⟨k1, k2⟩ := ra
  rcases (show c = 4 ∨ c = -4 ∨ (-3 ≤ c ∧ c ≤ 3) by omega) with h | h | ⟨h, h'⟩
  · subst h
    have c4 : ((4 : Int) : Rat) = 4 := rfl
    have t0 := w1 rfl
    have := rr_nn (t := -t) (by grind) (by have := b.1; grind)
    rw [rr_neg] at this
    rw [c4]; constructor <;> grind
  · subst h
    have c4 : ((-4 : Int) : Rat) = -4 := rfl
    have t0 := w2 rfl
    have := rr_nn t0 b.2
    rw [c4]; constructor <;> grind
  · have h1 := Rat.intCast_le_intCast.2 h
    have h2 := Rat.intCast_le_intCast.2 h'
    have c3 : ((3 : Int) : Rat) = 3 := rfl
    have cm3 : ((-3 : Int) : Rat) = -3 := rfl
    rw [cm3] at h1
    rw [c3] at h2
    have m1 := Rat.mul_nonneg (show 0 ≤ (c : Rat) + 3 by grind) (show 0 ≤ qpi by grind)
    have m2 := Rat.mul_nonneg (show 0 ≤ 3 - (c : Rat) by grind) (show 0 ≤ qpi by grind)
    constructor <;> grind
/-- a way that runs upwards -/
theorem angv_pos {y : Nat} {X Y A M : Rat} (h : AngV y X Y A) (hY : 1 ≤ Y) (hX : Bd X M) (hM : 1000 ≤ M) (m : Rat) (hm : m * M = 13 / 20) : m ≤ A ∧ A ≤ 4 * qpi - m := by
  obtain ⟨c, t, ⟨l, l0, x1, y1⟩, b, r, ⟨u1, u2⟩, w1, w2, rfl, _⟩ := h
  have ra := rr_abs b
  have q := qpi_bd
  obtain ⟨k1, k2⟩ := ra
  obtain ⟨b1, b2⟩ := b
  have hc : cT < 1 := by decide +kernel
  have m1 : m ≤ 1 / 1000 := by
    by_cases hh : m ≤ 1 / 1000
    · exact hh
    · have := Rat.mul_pos (show 0 < m - 1 / 1000 by grind) (show 0 < M by grind); grind
  have m0 : 0 < m := by
    by_cases hh : 0 < m
    · exact hh
    · have := Rat.mul_nonneg (show 0 ≤ -m by grind) (show 0 ≤ M by grind); grind
  -- the slope that is left, where it is small
  have slope : ∀ z : Rat, 0 < z → l * z = Y → l ≤ M → m ≤ 13 / 20 * z := by
    intro z z0 e lM
    by_cases hh : m ≤ 13 / 20 * z
    · exact hh
    · have k3 := Rat.mul_pos (show 0 < m - 13 / 20 * z by grind) (show 0 < M by grind)
      have k4 := Rat.mul_nonneg (show 0 ≤ M - l by grind) (Rat.le_of_lt z0)
      grind
  have cases_ : c = 0 ∨ c = 1 ∨ c = 2 ∨ c = 3 ∨ c = 4 ∨ c = -1 ∨ c = -2 ∨ c = -3 ∨ c = -4 := by omega
  rcases cases_ with rfl | rfl | rfl | rfl | rfl | rfl | rfl | rfl | rfl
  · have ex : X = l * (1 - t * 0) := x1
    have ey : Y = l * (0 + t * 1) := y1
    have t0 : 0 < t := by
      by_cases hh : 0 < t
      · exact hh
      · have := Rat.mul_nonneg (Rat.le_of_lt l0) (show 0 ≤ -t by grind); grind
    have s := slope t t0 (by grind) (by have := hX.2; grind)
    have n := rr_nn (Rat.le_of_lt t0) b2
    have c0 : ((0 : Int) : Rat) = 0 := rfl
    rw [c0]; constructor <;> grind
  · have c0 : ((1 : Int) : Rat) = 1 := rfl
    rw [c0]; constructor <;> grind
  · have c0 : ((2 : Int) : Rat) = 2 := rfl
    rw [c0]; constructor <;> grind
  · have c0 : ((3 : Int) : Rat) = 3 := rfl
    rw [c0]; constructor <;> grind
  · have ex : X = l * (-1 - t * 0) := x1
    have ey : Y = l * (0 + t * -1) := y1
    have t0 : 0 < -t := by
      by_cases hh : 0 < -t
      · exact hh
      · have := Rat.mul_nonneg (Rat.le_of_lt l0) (show 0 ≤ t by grind); grind
    have s := slope (-t) t0 (by grind) (by have := hX.1; grind)
    have n := rr_nn (Rat.le_of_lt t0) (by grind)
    rw [rr_neg] at n
    have c0 : ((4 : Int) : Rat) = 4 := rfl
    rw [c0]; constructor <;> grind
  · exfalso
    have ey : Y = l * (-1 + t * 1) := y1
    have := Rat.mul_pos l0 (show 0 < 1 - t by grind); grind
  · exfalso
    have ey : Y = l * (-1 + t * 0) := y1
    grind
  · exfalso
    have ey : Y = l * (-1 + t * -1) := y1
    have := Rat.mul_pos l0 (show 0 < 1 + t by grind); grind
  · exfalso
    have ey : Y = l * (0 + t * -1) := y1
    have := Rat.mul_nonneg (Rat.le_of_lt l0) (w2 rfl); grind
end Go.Proofs.Ytmkhoplffiakmaa
namespace Go.Proofs.Ytmkhoplffiakmaa
open Go.Sx
set_option linter.unusedVariables false
set_option linter.unusedSimpArgs false
set_option maxRecDepth 100000

abbrev eps : Rat := 1 / 100000000000000
theorem turn_cases {k : Int} {D A3 q e : Rat} (hq : 39 / 50 ≤ q) (he : e ≤ 1 / 1000) (h : Bd (D - A3 - (k : Rat) * (8 * q)) e) (bD : Bd D (8 * q)) (m0 : e < A3) (m1 : A3 ≤ 4 * q) : k = 0 ∨ k = -1 := by
  obtain ⟨h1, h2⟩ := h
  obtain ⟨b1, b2⟩ := bD
  have k0 : k ≤ 0 := by
    by_cases hk : k ≤ 0
    · exact hk
    · exfalso
      have h3 := Rat.intCast_le_intCast.2 (show (1 : Int) ≤ k by omega)
      have e1 : ((1 : Int) : Rat) = 1 := rfl
      rw [e1] at h3
      have := Rat.mul_nonneg (show 0 ≤ (k : Rat) - 1 by grind) (show (0 : Rat) ≤ 8 * q by grind)
      grind
  have k1 : -1 ≤ k := by
    by_cases hk : -1 ≤ k
    · exact hk
    · exfalso
      have h3 := Rat.intCast_le_intCast.2 (show k ≤ -2 by omega)
      have e1 : ((-2 : Int) : Rat) = -2 := rfl
      rw [e1] at h3
      have := Rat.mul_nonneg (show 0 ≤ -2 - (k : Rat) by grind) (show (0 : Rat) ≤ 8 * q by grind)
      grind
  omega
theorem turn_pos {k : Int} {A1 A2 A3 v1 v2 m : Rat} (h : Bd (A2 - A1 - A3 - (k : Rat) * (8 * qpi)) (8 * e48)) (b1 : Bd A1 (4 * qpi)) (b2 : Bd A2 (4 * qpi)) (m0 : m ≤ A3) (m1 : A3 ≤ 4 * qpi - m) (hm : 7 / 100000000000000 ≤ m)
    (d1 : Bd (v1 - A1) (1 / 70368744177664)) (d2 : Bd (v2 - A2) (1 / 70368744177664)) :
    (eps ≤ v2 - v1 ∧ v2 - v1 ≤ 4 * qpi - eps) ∨ (-(8 * qpi) + eps ≤ v2 - v1 ∧ v2 - v1 ≤ -(4 * qpi) - eps) := by
  have hq := qpi_bd.1
  have hn : (8 : Rat) * e48 ≤ 3 / 100000000000000 := by decide +kernel
  have hn2 : (2 : Rat) * (1 / 70368744177664) ≤ 3 / 100000000000000 := by decide +kernel
  generalize (1 / 70368744177664 : Rat) = z at *
  generalize (8 : Rat) * e48 = e at *
  generalize qpi = q at *
  have hd : Bd (A2 - A1) (8 * q) := by
    obtain ⟨x1, x2⟩ := b1
    obtain ⟨x3, x4⟩ := b2
    constructor <;> grind
  have hk := turn_cases hq (by grind) h hd (by grind) (by grind)
  obtain ⟨h1, h2⟩ := h
  obtain ⟨x1, x2⟩ := d1
  obtain ⟨x3, x4⟩ := d2
  rcases hk with hk | hk
  · left
    rw [hk] at h1 h2
    have e0 : ((0 : Int) : Rat) = 0 := rfl
    rw [e0] at h1 h2
    constructor <;> grind
  · right
    rw [hk] at h1 h2
    have e0 : ((-1 : Int) : Rat) = -1 := rfl
    rw [e0] at h1 h2
    constructor <;> grind
theorem turn_neg {k : Int} {A1 A2 A3 v1 v2 m : Rat} (h : Bd (A2 - A1 - A3 - (k : Rat) * (8 * qpi)) (8 * e48)) (b1 : Bd A1 (4 * qpi)) (b2 : Bd A2 (4 * qpi)) (m0 : A3 ≤ -m) (m1 : -(4 * qpi) + m ≤ A3) (hm : 7 / 100000000000000 ≤ m)
    (d1 : Bd (v1 - A1) (1 / 70368744177664)) (d2 : Bd (v2 - A2) (1 / 70368744177664)) :
    (v2 - v1 ≤ -eps ∧ -(4 * qpi) + eps ≤ v2 - v1) ∨ (v2 - v1 ≤ 8 * qpi - eps ∧ 4 * qpi + eps ≤ v2 - v1) := by
  have := turn_pos (k := -k) (A1 := A2) (A2 := A1) (A3 := -A3) (v1 := v2) (v2 := v1) (m := m) (by
    rw [Rat.intCast_neg]
    obtain ⟨h1, h2⟩ := h
    generalize (8 : Rat) * qpi = q at *
    generalize (8 : Rat) * e48 = e at *
    constructor <;> grind) b2 b1 (by grind) (by grind) hm d2 d1
  rcases this with ⟨h1, h2⟩ | ⟨h1, h2⟩
  · left; constructor <;> grind
  · right; constructor <;> grind
end Go.Proofs.Ytmkhoplffiakmaa
namespace Go.Proofs.Ytmkhoplffiakmaa
open Go.Sx
set_option linter.unusedVariables false
set_option linter.unusedSimpArgs false
set_option maxRecDepth 100000

abbrev pw : Rat := 884279719003555 / 281474976710656
theorem c_tau : Q 4618760256179416344 (2 * pw) := by
  have := Q_word3 50 1025 2570638124657944 (by decide) (by decide) (by decide) (by decide)
  have e : 2 * pw = ((2 ^ 52 + 2570638124657944 : Nat) : Rat) / 2 ^ 50 := by decide +kernel
  rw [e]; exact this
theorem c_npi : Q 13837628693406821656 (-pw) := Q_fneg (x := 4614256656552045848) (by decide) c_pi
/-- a sum's error -/
theorem rel_part {r e : Rat} (hr : Bd r 8) (he : Sm e uu) : ∃ z, r * (1 + e) = r + z ∧ Bd z (8 * uu) ∧ (0 ≤ r → 0 ≤ r + z) ∧ (r ≤ 0 → r + z ≤ 0) := by
  obtain ⟨h1, h2⟩ := hr
  obtain ⟨h3, h4⟩ := he
  have h5 := Rat.mul_nonneg (show 0 ≤ 8 - r by grind) (show 0 ≤ uu - e by grind)
  have h6 := Rat.mul_nonneg (show 0 ≤ 8 - r by grind) (show 0 ≤ uu + e by grind)
  have h7 := Rat.mul_nonneg (show 0 ≤ 8 + r by grind) (show 0 ≤ uu - e by grind)
  have h8 := Rat.mul_nonneg (show 0 ≤ 8 + r by grind) (show 0 ≤ uu + e by grind)
  refine ⟨r * e, by grind, ⟨by grind, by grind⟩, fun h => ?_, fun h => ?_⟩
  · have := Rat.mul_nonneg h (show 0 ≤ 1 + e by grind); grind
  · have := Rat.mul_nonneg (show 0 ≤ -r by grind) (show 0 ≤ 1 + e by grind); grind
theorem norm1 {k x : Nat} {r : Rat} (hq : Q x r) (hx : x < 2 ^ 64) (h : Bd r (63 / 10)) :
    ∃ y s, xy_Normalize_l1 (k + 2) x = some y ∧ Q y s ∧ y < 2 ^ 64 ∧ ((r ≤ pw ∧ s = r) ∨ (pw < r ∧ ∃ z, s = r - 2 * pw + z ∧ Bd z (8 * uu))) := by
  obtain ⟨h1, h2⟩ := h
  rw [xy_Normalize_l1]
  unfold xy_Normalize_l1s
  rw [fgt_q hq c_pi]
  by_cases hr : pw < r
  · rw [decide_eq_true hr, br_true, sbind, xy_Normalize_l1]
    obtain ⟨e, q1, s1⟩ := gsub_full hq c_tau (by constructor <;> grind)
    obtain ⟨z, z1, z2, z3, z4⟩ := rel_part (show Bd (r - 2 * pw) 8 by constructor <;> grind) s1
    rw [z1] at q1
    obtain ⟨z5, z6⟩ := z2
    unfold xy_Normalize_l1s
    rw [fgt_q q1 c_pi, decide_eq_false (by grind), br_false]
    exact ⟨_, _, rfl, q1, gsub_lt _ _, .inr ⟨hr, z, rfl, z5, z6⟩⟩
  · rw [decide_eq_false hr, br_false]
    exact ⟨x, r, rfl, hq, hx, .inl ⟨by grind, rfl⟩⟩
theorem norm2 {k x : Nat} {r : Rat} (hq : Q x r) (hx : x < 2 ^ 64) (h : Bd r (63 / 10)) :
    ∃ y s, xy_Normalize_l2 (k + 2) x = some y ∧ Q y s ∧ y < 2 ^ 64 ∧ ((-pw < r ∧ s = r) ∨ (r ≤ -pw ∧ ∃ z, s = r + 2 * pw + z ∧ Bd z (8 * uu))) := by
  obtain ⟨h1, h2⟩ := h
  rw [xy_Normalize_l2]
  unfold xy_Normalize_l2s
  rw [fle_q hq c_npi]
  by_cases hr : r ≤ -pw
  · rw [decide_eq_true hr, br_true, sbind, xy_Normalize_l2]
    obtain ⟨e, q1, s1⟩ := gadd_full hq c_tau (by constructor <;> grind)
    obtain ⟨z, z1, z2, z3, z4⟩ := rel_part (show Bd (r + 2 * pw) 8 by constructor <;> grind) s1
    rw [z1] at q1
    obtain ⟨z5, z6⟩ := z2
    unfold xy_Normalize_l2s
    rw [fle_q q1 c_npi, decide_eq_false (by grind), br_false]
    exact ⟨_, _, rfl, q1, gadd_lt _ _, .inr ⟨hr, z, rfl, z5, z6⟩⟩
  · rw [decide_eq_false hr, br_false]
    exact ⟨x, r, rfl, hq, hx, .inl ⟨by grind, rfl⟩⟩
theorem norm_is {k x : Nat} {r : Rat} (hk : 2 ≤ k) (hq : Q x r) (hx : x < 2 ^ 64) (h : Bd r (629 / 100)) :
    ∃ y s, ∃ J : Int, xy_Normalize k x = some y ∧ Q y s ∧ y < 2 ^ 64 ∧ Bd s (pw + 8 * uu) ∧ Bd (s - r - (J : Rat) * (2 * pw)) (16 * uu) ∧
      ((50 * uu ≤ r ∧ r ≤ pw - 50 * uu) ∨ (-(2 * pw) + 50 * uu ≤ r ∧ r ≤ -pw - 50 * uu) → 0 < s) ∧
      ((r ≤ -(50 * uu) ∧ -pw + 50 * uu ≤ r) ∨ (r ≤ 2 * pw - 50 * uu ∧ pw + 50 * uu ≤ r) → s < 0) := by
  obtain ⟨k, rfl⟩ : ∃ j, k = j + 2 := ⟨k - 2, by omega⟩
  obtain ⟨h1, h2⟩ := h
  obtain ⟨y1, s1, t1, t2, t3, t4⟩ := norm1 (k := k) hq hx (by constructor <;> grind)
  have hb : Bd s1 (63 / 10) := by
    rcases t4 with ⟨a1, a2⟩ | ⟨a1, z, a2, a3, a4⟩
    · constructor <;> grind
    · constructor <;> grind
  obtain ⟨y2, s2, u1, u2, u3, u4⟩ := norm2 (k := k) t2 t3 hb
  obtain ⟨hb1, hb2⟩ := hb
  have c0 : ((0 : Int) : Rat) = 0 := rfl
  have c1 : ((1 : Int) : Rat) = 1 := rfl
  have cm : ((-1 : Int) : Rat) = -1 := rfl
  have hrun : xy_Normalize (k + 2) x = some y2 := by unfold xy_Normalize; rw [t1, sbind, u1, sbind]
  rcases t4 with ⟨a1, a2⟩ | ⟨a1, z, a2, a3, a4⟩
  · rcases u4 with ⟨b1, b2⟩ | ⟨b1, w, b2, b3, b4⟩
    · exact ⟨y2, s2, 0, hrun, u2, u3, by constructor <;> grind, by rw [c0]; constructor <;> grind, by grind, by grind⟩
    · exact ⟨y2, s2, 1, hrun, u2, u3, by constructor <;> grind, by rw [c1]; constructor <;> grind, by grind, by grind⟩
  · rcases u4 with ⟨b1, b2⟩ | ⟨b1, w, b2, b3, b4⟩
    · exact ⟨y2, s2, -1, hrun, u2, u3, by constructor <;> grind, by rw [cm]; constructor <;> grind, by grind, by grind⟩
    · exact ⟨y2, s2, 0, hrun, u2, u3, by constructor <;> grind, by rw [c0]; constructor <;> grind, by grind, by grind⟩
end Go.Proofs.Ytmkhoplffiakmaa
