/-
  The program's arc tangent near 0, with its rounding. The program's arc tangent of a number above 0. The program's angle of a way of whole numbers: so many times 45 degrees, and the arc tangent of what is left. Ours.
-/
import Derived.Test.YtmkhoplffiakmaaFun
import Derived.Test.YtmkhoplffiakmaaDivAbs
import Derived.Test.YtmkhoplffiakmaaAtanArc
import Derived.Test.YtmkhoplffiakmaaQCmp
namespace Go.Proofs.Ytmkhoplffiakmaa
open Go.Sx
open Ieee (signed)
set_option linter.unusedVariables false
set_option linter.unusedSimpArgs false
set_option maxRecDepth 100000

theorem Q_word3 (e E F : Nat) (h0 : 0 < E) (h1 : E < 2047) (hF : F < 2 ^ 52) (hE : E - 1 + e = 1074) : Q (E * 2 ^ 52 + F) (((2 ^ 52 + F : Nat) : Rat) / 2 ^ e) := by
  have h := Go.Sx.D_fields h0 h1 hF (n := ((2 ^ 52 + F : Nat) : Int)) (v := E - 1) rfl
  have h1 := Q_of h
  have hU := Un_pos
  have hs : Un = 2 ^ (E - 1) * 2 ^ e := by unfold Un; rw [← ratpow_add, hE]
  have e1 : ((((2 ^ 52 + F : Nat) : Int) : Rat)) = ((2 ^ 52 + F : Nat) : Rat) := Rat.intCast_natCast _
  rw [e1, hs] at h1
  have a1 := un_pos (E - 1)
  have a2 := un_pos e
  have e2 : ((2 ^ 52 + F : Nat) : Rat) * 2 ^ (E - 1) / (2 ^ (E - 1) * 2 ^ e) = ((2 ^ 52 + F : Nat) : Rat) / 2 ^ e := by
    generalize (2 : Rat) ^ (E - 1) = z at *
    generalize (2 : Rat) ^ e = w at *
    generalize ((2 ^ 52 + F : Nat) : Rat) = m
    grind
  rw [e2] at h1; exact h1
theorem c_P0 : Q 13829429103926125972 (-(1970461881518437 / 2251799813685248 : Rat)) := by
  have h := Q_fneg (x := 4606057067071350164) (by decide) (r := (1970461881518437 / 2251799813685248 : Rat)) (by
    have h := Q_word3 53 1022 3378247898703252 (by decide) (by decide) (by decide) (by decide)
    have e : ((2 ^ 52 + 3378247898703252 : Nat) : Rat) / 2 ^ 53 = (1970461881518437 / 2251799813685248 : Rat) := by decide +kernel
    rw [e] at h; exact h)
  exact h
theorem c_P1 : Q 13848613196940411002 (-(2273971201753149 / 140737488355328 : Rat)) := by
  have h := Q_fneg (x := 4625241160085635194) (by decide) (r := (2273971201753149 / 140737488355328 : Rat)) (by
    have h := Q_word3 48 1027 44342776135802 (by decide) (by decide) (by decide) (by decide)
    have e : ((2 ^ 52 + 44342776135802 : Nat) : Rat) / 2 ^ 48 = (2273971201753149 / 140737488355328 : Rat) := by decide +kernel
    rw [e] at h; exact h)
  exact h
theorem c_P2 : Q 13858350711815275123 (-(5278258023629427 / 70368744177664 : Rat)) := by
  have h := Q_fneg (x := 4634978674960499315) (by decide) (r := (5278258023629427 / 70368744177664 : Rat)) (by
    have h := Q_word3 46 1029 774658396258931 (by decide) (by decide) (by decide) (by decide)
    have e : ((2 ^ 52 + 774658396258931 : Nat) : Rat) / 2 ^ 46 = (5278258023629427 / 70368744177664 : Rat) := by decide +kernel
    rw [e] at h; exact h)
  exact h
theorem c_P3 : Q 13861719834326579749 (-(8647380534934053 / 70368744177664 : Rat)) := by
  have h := Q_fneg (x := 4638347797471803941) (by decide) (r := (8647380534934053 / 70368744177664 : Rat)) (by
    have h := Q_word3 46 1029 4143780907563557 (by decide) (by decide) (by decide) (by decide)
    have e : ((2 ^ 52 + 4143780907563557 : Nat) : Rat) / 2 ^ 46 = (8647380534934053 / 70368744177664 : Rat) := by decide +kernel
    rw [e] at h; exact h)
  exact h
theorem c_P4 : Q 13857635882265799822 (-(2281714237077063 / 35184372088832 : Rat)) := by
  have h := Q_fneg (x := 4634263845411024014) (by decide) (r := (2281714237077063 / 35184372088832 : Rat)) (by
    have h := Q_word3 46 1029 59828846783630 (by decide) (by decide) (by decide) (by decide)
    have e : ((2 ^ 52 + 59828846783630 : Nat) : Rat) / 2 ^ 46 = (2281714237077063 / 35184372088832 : Rat) := by decide +kernel
    rw [e] at h; exact h)
  exact h
theorem c_Q0 : Q 4627690253511319612 (1749258957297679 / 70368744177664 : Rat) := by
  have h := Q_word3 48 1027 2493436201820220 (by decide) (by decide) (by decide) (by decide)
  have e : ((2 ^ 52 + 2493436201820220 : Nat) : Rat) / 2 ^ 48 = (1749258957297679 / 70368744177664 : Rat) := by decide +kernel
  rw [e] at h; exact h
theorem c_Q1 : Q 4640010388282866213 (5806371718625829 / 35184372088832 : Rat) := by
  have h := Q_word3 45 1030 1302772091255333 (by decide) (by decide) (by decide) (by decide)
  have e : ((2 ^ 52 + 1302772091255333 : Nat) : Rat) / 2 ^ 45 = (5806371718625829 / 35184372088832 : Rat) := by decide +kernel
  rw [e] at h; exact h
theorem c_Q2 : Q 4646322940342877755 (7615324151266875 / 17592186044416 : Rat) := by
  have h := Q_word3 44 1031 3111724523896379 (by decide) (by decide) (by decide) (by decide)
  have e : ((2 ^ 52 + 3111724523896379 : Nat) : Rat) / 2 ^ 44 = (7615324151266875 / 17592186044416 : Rat) := by decide +kernel
  rw [e] at h; exact h
theorem c_Q3 : Q 4647246694406179306 (4269539107284213 / 8796093022208 : Rat) := by
  have h := Q_word3 44 1031 4035478587197930 (by decide) (by decide) (by decide) (by decide)
  have e : ((2 ^ 52 + 4035478587197930 : Nat) : Rat) / 2 ^ 44 = (4269539107284213 / 8796093022208 : Rat) := by decide +kernel
  rw [e] at h; exact h
theorem c_Q4 : Q 4641049159275471596 (1711285677807803 / 8796093022208 : Rat) := by
  have h := Q_word3 45 1030 2341543083860716 (by decide) (by decide) (by decide) (by decide)
  have e : ((2 ^ 52 + 2341543083860716 : Nat) : Rat) / 2 ^ 45 = (1711285677807803 / 8796093022208 : Rat) := by decide +kernel
  rw [e] at h; exact h
theorem c_pi2 : Q 4609753056924675352 (884279719003555 / 562949953421312 : Rat) := by
  have h := Q_word3 52 1023 2570638124657944 (by decide) (by decide) (by decide) (by decide)
  have e : ((2 ^ 52 + 2570638124657944 : Nat) : Rat) / 2 ^ 52 = (884279719003555 / 562949953421312 : Rat) := by decide +kernel
  rw [e] at h; exact h
theorem c_pi4 : Q 4605249457297304856 (884279719003555 / 1125899906842624 : Rat) := by
  have h := Q_word3 53 1022 2570638124657944 (by decide) (by decide) (by decide) (by decide)
  have e : ((2 ^ 52 + 2570638124657944 : Nat) : Rat) / 2 ^ 53 = (884279719003555 / 1125899906842624 : Rat) := by decide +kernel
  rw [e] at h; exact h
theorem c_mb : Q 4364452196894661639 (4967757600021511 / 81129638414606681695789005144064 : Rat) := by
  have h := Q_word3 106 969 464157972651015 (by decide) (by decide) (by decide) (by decide)
  have e : ((2 ^ 52 + 464157972651015 : Nat) : Rat) / 2 ^ 106 = (4967757600021511 / 81129638414606681695789005144064 : Rat) := by decide +kernel
  rw [e] at h; exact h
theorem c_mb2 : Q 4359948597267291143 (4967757600021511 / 162259276829213363391578010288128 : Rat) := by
  have h := Q_word3 107 968 464157972651015 (by decide) (by decide) (by decide) (by decide)
  have e : ((2 ^ 52 + 464157972651015 : Nat) : Rat) / 2 ^ 107 = (4967757600021511 / 162259276829213363391578010288128 : Rat) := by decide +kernel
  rw [e] at h; exact h
theorem c_t66 : Q 4604119971053405471 (5944751508129055 / 9007199254740992 : Rat) := by
  have h := Q_word3 53 1022 1441151880758559 (by decide) (by decide) (by decide) (by decide)
  have e : ((2 ^ 52 + 1441151880758559 : Nat) : Rat) / 2 ^ 53 = (5944751508129055 / 9007199254740992 : Rat) := by decide +kernel
  rw [e] at h; exact h
theorem c_t241 : Q 4612618744449965542 (2718162824974067 / 1125899906842624 : Rat) := by
  have h := Q_word3 51 1024 932726022577638 (by decide) (by decide) (by decide) (by decide)
  have e : ((2 ^ 52 + 932726022577638 : Nat) : Rat) / 2 ^ 51 = (2718162824974067 / 1125899906842624 : Rat) := by decide +kernel
  rw [e] at h; exact h
theorem c_pi : Q 4614256656552045848 (884279719003555 / 281474976710656 : Rat) := by
  have h := Q_word3 51 1024 2570638124657944 (by decide) (by decide) (by decide) (by decide)
  have e : ((2 ^ 52 + 2570638124657944 : Nat) : Rat) / 2 ^ 51 = (884279719003555 / 281474976710656 : Rat) := by decide +kernel
  rw [e] at h; exact h
theorem le_of_mul_le3 {a b m : Rat} (hm : 0 < m) (h : a * m ≤ b * m) : a ≤ b := by
  by_cases h1 : a ≤ b
  · exact h1
  · have := Rat.mul_pos (show 0 < a - b by grind) hm; grind
/-- a float near a number that is not greater than A -/
structure Nq (x : Nat) (a A e : Rat) : Prop where
  ex : ∃ v, Q x v ∧ Bd (v - a) e
  bd : Bd a A
theorem nq_const {x : Nat} {a A : Rat} (h : Q x a) (hA : Bd a A) : Nq x a A 0 := ⟨⟨a, h, by constructor <;> grind⟩, hA⟩
theorem nq_mono {x : Nat} {a A A' e e' : Rat} (h : Nq x a A e) (hA : Bd a A') (he : e ≤ e') : Nq x a A' e' := by
  obtain ⟨⟨v, q, h1⟩, h2⟩ := h
  exact ⟨⟨v, q, bd_mono h1 he⟩, hA⟩
theorem nq_mul {x y : Nat} {a b A B e f g C : Rat} (hx : Nq x a A e) (hy : Nq y b B f) (hg : (A + e) * f + B * e + (A + e) * (B + f) * uu + uu ≤ g) (hC : A * B ≤ C) (hs : (A + e) * (B + f) ≤ 1048576) : Nq (gmul x y) (a * b) C g := by
  obtain ⟨⟨v, qv, v1⟩, a1⟩ := hx
  obtain ⟨⟨w, qw, w1⟩, b1⟩ := hy
  have hBB : (1099511627776 : Rat) ≤ BB := by decide +kernel
  have hv : Bd v (A + e) := by have := bd_add v1 a1; rw [show v - a + a = v by grind, show e + A = A + e by grind] at this; exact this
  have hw : Bd w (B + f) := by have := bd_add w1 b1; rw [show w - b + b = w by grind, show f + B = B + f by grind] at this; exact this
  have hvw := bd_mul hv hw
  obtain ⟨s, d, q, hs1, hd1⟩ := gmul_abs qv qw ⟨by have := hvw.1; grind, by have := hvw.2; grind⟩
  refine ⟨⟨_, q, ?_⟩, bd_mono (bd_mul a1 b1) hC⟩
  have e1 : v * w * (1 + s) + d - a * b = v * (w - b) + b * (v - a) + v * w * s + d := by grind
  rw [e1]
  have h1 := bd_add (bd_add (bd_add (bd_mul hv w1) (bd_mul b1 v1)) (bd_mul hvw hs1)) (show Bd d uu from hd1)
  exact bd_mono h1 hg
theorem nq_add {x y : Nat} {a b A B e f g C : Rat} (hx : Nq x a A e) (hy : Nq y b B f) (hg : e + f + (A + e + (B + f)) * uu ≤ g) (hC : A + B ≤ C) (hs : A + e + (B + f) ≤ 1048576) : Nq (gadd x y) (a + b) C g := by
  obtain ⟨⟨v, qv, v1⟩, a1⟩ := hx
  obtain ⟨⟨w, qw, w1⟩, b1⟩ := hy
  have hBB : (1099511627776 : Rat) ≤ BB := by decide +kernel
  have hv : Bd v (A + e) := by have := bd_add v1 a1; rw [show v - a + a = v by grind, show e + A = A + e by grind] at this; exact this
  have hw : Bd w (B + f) := by have := bd_add w1 b1; rw [show w - b + b = w by grind, show f + B = B + f by grind] at this; exact this
  have hvw := bd_add hv hw
  obtain ⟨s, q, hs1⟩ := gadd_full qv qw ⟨by have := hvw.1; grind, by have := hvw.2; grind⟩
  refine ⟨⟨_, q, ?_⟩, bd_mono (bd_add a1 b1) hC⟩
  have e1 : (v + w) * (1 + s) - (a + b) = v - a + (w - b) + (v + w) * s := by grind
  rw [e1]
  exact bd_mono (bd_add (bd_add v1 w1) (bd_mul hvw hs1)) hg
theorem nq_sub {x y : Nat} {a b A B e f g C : Rat} (hx : Nq x a A e) (hy : Nq y b B f) (hg : e + f + (A + e + (B + f)) * uu ≤ g) (hC : A + B ≤ C) (hs : A + e + (B + f) ≤ 1048576) : Nq (gsub x y) (a - b) C g := by
  obtain ⟨⟨v, qv, v1⟩, a1⟩ := hx
  obtain ⟨⟨w, qw, w1⟩, b1⟩ := hy
  have hBB : (1099511627776 : Rat) ≤ BB := by decide +kernel
  have hv : Bd v (A + e) := by have := bd_add v1 a1; rw [show v - a + a = v by grind, show e + A = A + e by grind] at this; exact this
  have hw : Bd w (B + f) := by have := bd_add w1 b1; rw [show w - b + b = w by grind, show f + B = B + f by grind] at this; exact this
  have hvw := bd_add hv (bd_neg hw)
  obtain ⟨s, q, hs1⟩ := gsub_full qv qw ⟨by have := hvw.1; grind, by have := hvw.2; grind⟩
  refine ⟨⟨_, q, ?_⟩, bd_mono (show Bd (a - b) (A + B) by have := bd_add a1 (bd_neg b1); rw [show a + -b = a - b by grind] at this; exact this) hC⟩
  have e1 : (v - w) * (1 + s) - (a - b) = v - a + -(w - b) + (v + -w) * s := by grind
  rw [e1]
  exact bd_mono (bd_add (bd_add v1 (bd_neg w1)) (bd_mul hvw hs1)) hg
/-- a quotient by a number that is at least m, as a float, too -/
theorem nq_div {x y : Nat} {a b A B e f g m C : Rat} (hx : Nq x a A e) (hy : Nq y b B f) (hm : 0 < m) (hb : m + f ≤ b) (hc1 : Bd (a / b) C)
    (hg : e + C * f + (C * m + (e + C * f)) * (3 * uu) + uu * m ≤ g * m) (hs : C * m + (e + C * f) ≤ 1048576 * m) : Nq (gdiv x y) (a / b) C g := by
  obtain ⟨⟨v, qv, v1⟩, a1⟩ := hx
  obtain ⟨⟨w, qw, w1⟩, b1⟩ := hy
  have hBB : (1099511627776 : Rat) ≤ BB := by decide +kernel
  have e0 := bd_nn v1
  have f0 := bd_nn w1
  have C0 := bd_nn hc1
  have hw : m ≤ w := by have := w1.1; grind
  have hwp : 0 < w := by grind
  have hbp : 0 < b := by grind
  obtain ⟨c, hc⟩ : ∃ c, c = a / b := ⟨_, rfl⟩
  have cb : c * b = a := by rw [hc]; grind
  rw [← hc] at hc1 ⊢
  obtain ⟨d, hd⟩ : ∃ d, d = v / w := ⟨_, rfl⟩
  have dw : d * w = v := by rw [hd]; grind
  obtain ⟨G, hG⟩ : ∃ G, G = (e + C * f) / m := ⟨_, rfl⟩
  have Gm : G * m = e + C * f := by rw [hG]; grind
  have k3 : 0 ≤ G := by
    by_cases h : 0 ≤ G
    · exact h
    · have := Rat.mul_pos (show 0 < -G by grind) hm
      have := Rat.mul_nonneg C0 f0
      grind
  have h1 : Bd (d - c) G := by
    have e1 : (d - c) * w = (v - a) + -(c * (w - b)) := by grind
    have h2 := bd_add v1 (bd_neg (bd_mul hc1 w1))
    rw [← e1] at h2
    have k2 := Rat.mul_nonneg k3 (show 0 ≤ w - m by grind)
    constructor
    · by_cases h : -G ≤ d - c
      · exact h
      · have k1 := Rat.mul_pos (show 0 < -G - (d - c) by grind) hwp
        have := h2.1
        grind
    · by_cases h : d - c ≤ G
      · exact h
      · have k1 := Rat.mul_pos (show 0 < d - c - G by grind) hwp
        have := h2.2
        grind
  have hd1 : Bd d (C + G) := by have := bd_add h1 hc1; rw [show d - c + c = d by grind, show G + C = C + G by grind] at this; exact this
  have hCG : C + G ≤ 1048576 := le_of_mul_le3 hm (by rw [← Gm] at hs; grind)
  obtain ⟨s, t, q, hs1, ht1⟩ := gdiv_abs qv qw (by grind) (by rw [← hd]; exact ⟨by have := hd1.1; grind, by have := hd1.2; grind⟩)
  rw [← hd] at q
  refine ⟨⟨_, q, ?_⟩, hc1⟩
  have e1 : d * (1 + s) + t - c = d - c + d * s + t := by grind
  rw [e1]
  refine bd_mono (bd_add (bd_add h1 (bd_mul hd1 hs1)) (show Bd t uu from ht1)) ?_
  exact le_of_mul_le3 hm (by rw [← Gm] at hg; grind)
theorem quo_bd {a b A C m : Rat} (ha : Bd a A) (hm : 0 < m) (hb : m ≤ b) (hC : A ≤ C * m) (hC0 : 0 ≤ C) : Bd (a / b) C := by
  have hbp : 0 < b := by grind
  obtain ⟨c, hc⟩ : ∃ c, c = a / b := ⟨_, rfl⟩
  have cb : c * b = a := by rw [hc]; grind
  rw [← hc]
  have k2 := Rat.mul_nonneg hC0 (show 0 ≤ b - m by grind)
  constructor
  · by_cases h : -C ≤ c
    · exact h
    · have k1 := Rat.mul_pos (show 0 < -C - c by grind) hbp
      have := ha.1
      grind
  · by_cases h : c ≤ C
    · exact h
    · have k1 := Rat.mul_pos (show 0 < c - C by grind) hbp
      have := ha.2
      grind
def atP : List Rat := [(-(2281714237077063 / 35184372088832 : Rat)), (-(8647380534934053 / 70368744177664 : Rat)), (-(5278258023629427 / 70368744177664 : Rat)), (-(2273971201753149 / 140737488355328 : Rat)), (-(1970461881518437 / 2251799813685248 : Rat))]
theorem atA_is : atA = addP atB (0 :: atP) := by decide +kernel
theorem atB_is : atB = [(1711285677807803 / 8796093022208 : Rat), (4269539107284213 / 8796093022208 : Rat), (7615324151266875 / 17592186044416 : Rat), (5806371718625829 / 35184372088832 : Rat), (1749258957297679 / 70368744177664 : Rat), 1] := by decide +kernel
theorem xatan_is (k : Nat) {x : Nat} {r : Rat} (h : Q x r) (hb : Bd r cT) : ∃ y, math_xatan k x = some y ∧ Nq y (RR r) 1 (1 / 562949953421312) ∧ y < 2 ^ 64 := by
  have hr := nq_const h hb
  have hz := nq_mul (g := (23 / 144115188075855872 : Rat)) (C := (7 / 16 : Rat)) hr hr (by decide +kernel) (by decide +kernel) (by decide +kernel)
  replace hz := nq_mono hz (A' := 2181 / 5000) (bd_mono (bd_mul hb hb) (by decide +kernel)) (Rat.le_refl)
  have kP0 := nq_const c_P0 (A := (1970461881518437 / 2251799813685248 : Rat)) (by constructor <;> decide +kernel)
  have kQ0 := nq_const c_Q0 (A := (1749258957297679 / 70368744177664 : Rat)) (by constructor <;> decide +kernel)
  have kP1 := nq_const c_P1 (A := (2273971201753149 / 140737488355328 : Rat)) (by constructor <;> decide +kernel)
  have kQ1 := nq_const c_Q1 (A := (5806371718625829 / 35184372088832 : Rat)) (by constructor <;> decide +kernel)
  have kP2 := nq_const c_P2 (A := (5278258023629427 / 70368744177664 : Rat)) (by constructor <;> decide +kernel)
  have kQ2 := nq_const c_Q2 (A := (7615324151266875 / 17592186044416 : Rat)) (by constructor <;> decide +kernel)
  have kP3 := nq_const c_P3 (A := (8647380534934053 / 70368744177664 : Rat)) (by constructor <;> decide +kernel)
  have kQ3 := nq_const c_Q3 (A := (4269539107284213 / 8796093022208 : Rat)) (by constructor <;> decide +kernel)
  have kP4 := nq_const c_P4 (A := (2281714237077063 / 35184372088832 : Rat)) (by constructor <;> decide +kernel)
  have kQ4 := nq_const c_Q4 (A := (1711285677807803 / 8796093022208 : Rat)) (by constructor <;> decide +kernel)
  have m0 := nq_mul (g := (169 / 576460752303423488 : Rat)) (C := (7 / 16 : Rat)) kP0 hz (by decide +kernel) (by decide +kernel) (by decide +kernel)
  have s0 := nq_add (g := (9849 / 4611686018427387904 : Rat)) (C := (133 / 8 : Rat)) m0 kP1 (by decide +kernel) (by decide +kernel) (by decide +kernel)
  have m1 := nq_mul (g := (10379 / 2305843009213693952 : Rat)) (C := (117 / 16 : Rat)) s0 hz (by decide +kernel) (by decide +kernel) (by decide +kernel)
  have s1 := nq_add (g := (62907 / 4611686018427387904 : Rat)) (C := (659 / 8 : Rat)) m1 kP2 (by decide +kernel) (by decide +kernel) (by decide +kernel)
  have m2 := nq_mul (g := (53489 / 2305843009213693952 : Rat)) (C := (575 / 16 : Rat)) s1 hz (by decide +kernel) (by decide +kernel) (by decide +kernel)
  have s2 := nq_add (g := (23537 / 576460752303423488 : Rat)) (C := (1271 / 8 : Rat)) m2 kP3 (by decide +kernel) (by decide +kernel) (by decide +kernel)
  have m3 := nq_mul (g := (235061 / 4611686018427387904 : Rat)) (C := (1109 / 16 : Rat)) s2 hz (by decide +kernel) (by decide +kernel) (by decide +kernel)
  have s3 := nq_add (g := (303753 / 4611686018427387904 : Rat)) (C := (2147 / 16 : Rat)) m3 kP4 (by decide +kernel) (by decide +kernel) (by decide +kernel)
  have np := nq_mul (g := (65435 / 1152921504606846976 : Rat)) (C := (937 / 16 : Rat)) hz s3 (by decide +kernel) (by decide +kernel) (by decide +kernel)
  have d0 := nq_add (g := (13687 / 4611686018427387904 : Rat)) (C := (405 / 16 : Rat)) hz kQ0 (by decide +kernel) (by decide +kernel) (by decide +kernel)
  have n1 := nq_mul (g := (15383 / 2305843009213693952 : Rat)) (C := (177 / 16 : Rat)) d0 hz (by decide +kernel) (by decide +kernel) (by decide +kernel)
  have d1 := nq_add (g := (30231 / 1152921504606846976 : Rat)) (C := (1409 / 8 : Rat)) n1 kQ1 (by decide +kernel) (by decide +kernel) (by decide +kernel)
  have n2 := nq_mul (g := (111111 / 2305843009213693952 : Rat)) (C := (615 / 8 : Rat)) d1 hz (by decide +kernel) (by decide +kernel) (by decide +kernel)
  have d2 := nq_add (g := (241609 / 2305843009213693952 : Rat)) (C := (8157 / 16 : Rat)) n2 kQ2 (by decide +kernel) (by decide +kernel) (by decide +kernel)
  have n3 := nq_mul (g := (700373 / 4611686018427387904 : Rat)) (C := (3559 / 16 : Rat)) d2 hz (by decide +kernel) (by decide +kernel) (by decide +kernel)
  have d3 := nq_add (g := (1062781 / 4611686018427387904 : Rat)) (C := (5663 / 8 : Rat)) n3 kQ3 (by decide +kernel) (by decide +kernel) (by decide +kernel)
  have n4 := nq_mul (g := (571593 / 2305843009213693952 : Rat)) (C := (4941 / 16 : Rat)) d3 hz (by decide +kernel) (by decide +kernel) (by decide +kernel)
  have d4 := nq_add (g := (350227 / 1152921504606846976 : Rat)) (C := (4027 / 8 : Rat)) n4 kQ4 (by decide +kernel) (by decide +kernel) (by decide +kernel)
  have hlow : (389 / 2 : Rat) ≤ ((((r * r + (1749258957297679 / 70368744177664 : Rat)) * (r * r) + (5806371718625829 / 35184372088832 : Rat)) * (r * r) + (7615324151266875 / 17592186044416 : Rat)) * (r * r) + (4269539107284213 / 8796093022208 : Rat)) * (r * r) + (1711285677807803 / 8796093022208 : Rat) := by
    have h1 := b_low2 (r * r) (sq_nn_ r)
    rw [atB_is] at h1
    simp only [pev] at h1
    grind
  have qt := nq_div (g := (2051 / 1152921504606846976 : Rat)) (C := (5 / 16 : Rat)) (m := 194) np d4 (by decide +kernel) (Rat.le_trans (by decide +kernel) hlow) (quo_bd np.bd (m := 194) (by decide +kernel) (Rat.le_trans (by decide +kernel) hlow) (by decide +kernel) (by decide +kernel)) (by decide +kernel) (by decide +kernel)
  have xr := nq_mul (g := (1509 / 1152921504606846976 : Rat)) (C := (1 / 4 : Rat)) hr qt (by decide +kernel) (by decide +kernel) (by decide +kernel)
  have fin := nq_add (g := (6503 / 4611686018427387904 : Rat)) (C := (15 / 16 : Rat)) xr hr (by decide +kernel) (by decide +kernel) (by decide +kernel)
  have hb1 : pev atB (r * r) = (((((r * r + (1749258957297679 / 70368744177664 : Rat)) * (r * r) + (5806371718625829 / 35184372088832 : Rat)) * (r * r) + (7615324151266875 / 17592186044416 : Rat)) * (r * r) + (4269539107284213 / 8796093022208 : Rat)) * (r * r) + (1711285677807803 / 8796093022208 : Rat)) := by rw [atB_is]; simp only [pev]; grind
  have hp1 : pev atP (r * r) = ((((-(1970461881518437 / 2251799813685248 : Rat) * (r * r) + -(2273971201753149 / 140737488355328 : Rat)) * (r * r) + -(5278258023629427 / 70368744177664 : Rat)) * (r * r) + -(8647380534934053 / 70368744177664 : Rat)) * (r * r) + -(2281714237077063 / 35184372088832 : Rat)) := by unfold atP; simp only [pev]; grind
  have er : RR r = r * (r * r * ((((-(1970461881518437 / 2251799813685248 : Rat) * (r * r) + -(2273971201753149 / 140737488355328 : Rat)) * (r * r) + -(5278258023629427 / 70368744177664 : Rat)) * (r * r) + -(8647380534934053 / 70368744177664 : Rat)) * (r * r) + -(2281714237077063 / 35184372088832 : Rat)) / (((((r * r + (1749258957297679 / 70368744177664 : Rat)) * (r * r) + (5806371718625829 / 35184372088832 : Rat)) * (r * r) + (7615324151266875 / 17592186044416 : Rat)) * (r * r) + (4269539107284213 / 8796093022208 : Rat)) * (r * r) + (1711285677807803 / 8796093022208 : Rat))) + r := by
    unfold RR
    rw [atA_is, pev_add, hb1]
    simp only [pev]
    rw [hp1]
    have hne : (0 : Rat) < (((((r * r + (1749258957297679 / 70368744177664 : Rat)) * (r * r) + (5806371718625829 / 35184372088832 : Rat)) * (r * r) + (7615324151266875 / 17592186044416 : Rat)) * (r * r) + (4269539107284213 / 8796093022208 : Rat)) * (r * r) + (1711285677807803 / 8796093022208 : Rat)) := by grind
    generalize (((((r * r + (1749258957297679 / 70368744177664 : Rat)) * (r * r) + (5806371718625829 / 35184372088832 : Rat)) * (r * r) + (7615324151266875 / 17592186044416 : Rat)) * (r * r) + (4269539107284213 / 8796093022208 : Rat)) * (r * r) + (1711285677807803 / 8796093022208 : Rat)) = B at *
    generalize ((((-(1970461881518437 / 2251799813685248 : Rat) * (r * r) + -(2273971201753149 / 140737488355328 : Rat)) * (r * r) + -(5278258023629427 / 70368744177664 : Rat)) * (r * r) + -(8647380534934053 / 70368744177664 : Rat)) * (r * r) + -(2281714237077063 / 35184372088832 : Rat)) = N at *
    have hi : B * (1 / B) = 1 := by grind
    have hd : r * r * N / B = r * r * N * (1 / B) := by grind
    rw [hd]
    generalize 1 / B = I at *
    grind
  refine ⟨_, rfl, ?_, gadd_lt _ _⟩
  rw [er]
  exact nq_mono fin (bd_mono fin.bd (by decide +kernel)) (by decide +kernel)
end Go.Proofs.Ytmkhoplffiakmaa
namespace Go.Proofs.Ytmkhoplffiakmaa
open Go.Sx
open Ieee (signed)
set_option linter.unusedVariables false
set_option linter.unusedSimpArgs false
set_option maxRecDepth 100000

abbrev lp : Rat := 1 + e48
theorem rd_bd {z : Rat} (hz : Bd z cT) : Bd (RD z) lp := by
  obtain ⟨h1, h2⟩ := rd_eta hz
  have h0 := sq_nn_ z
  have e : e48 ≤ 1 / 2 := by decide +kernel
  have e0 : 0 ≤ e48 := by decide +kernel
  have m0 := Rat.mul_nonneg e0 h0
  constructor
  · by_cases h : -lp ≤ RD z
    · exact h
    · have := Rat.mul_nonneg (show 0 ≤ -lp - RD z by grind) (show 0 ≤ 1 + z * z by grind); grind
  · by_cases h : RD z ≤ lp
    · exact h
    · have k := Rat.mul_pos (show 0 < RD z - lp by grind) (show 0 < 1 + z * z by grind)
      grind
theorem rr_lip {x y d : Rat} (hx : Bd x cT) (hy : Bd y cT) (hd : Bd (y - x) d) : Bd (RR y - RR x) (lp * d) := by
  obtain ⟨M, K, hM, hK, hs⟩ := rr_smo
  have main : ∀ a b : Rat, a ≤ b → Bd a cT → Bd b cT → Bd (RR b - RR a) (lp * (b - a)) := by
    intro a b hab ha hb
    refine whole_step (f := RR) (K := K) hab (by decide +kernel) hK fun u v h1 h2 h3 => ?_
    have hu : Bd u cT := ⟨by have := ha.1; grind, by have := hb.2; grind⟩
    have hv : Bd v cT := ⟨by have := ha.1; grind, by have := hb.2; grind⟩
    have g1 := hs.err u v hu hv
    have g2 := bd_mul (a := v - u) (A := v - u) ⟨by grind, by grind⟩ (rd_bd hu)
    have g3 := bd_add g2 g1
    have e1 : (v - u) * RD u + (RR v - RR u - (v - u) * RD u) = RR v - RR u := by grind
    rw [e1, show (v - u) * lp + K * ((v - u) * (v - u)) = lp * (v - u) + K * ((v - u) * (v - u)) by grind] at g3
    exact g3
  rcases (show x ≤ y ∨ y ≤ x by grind) with h | h
  · exact bd_mono (main x y h hx hy) (by have := Rat.mul_nonneg (show 0 ≤ lp by decide +kernel) (show 0 ≤ d - (y - x) by have := hd.2; grind); grind)
  · have := bd_neg (main y x h hy hx)
    rw [show -(RR x - RR y) = RR y - RR x by grind] at this
    exact bd_mono this (by have := Rat.mul_nonneg (show 0 ≤ lp by decide +kernel) (show 0 ≤ d - (x - y) by have := hd.1; grind); grind)
theorem c_one : Q 4607182418800017408 1 := by have := Q_whole D_one; simpa using this
theorem pi2_is : (884279719003555 / 562949953421312 : Rat) = 2 * qpi := by decide +kernel
/-- where a slope above 0 leads: how many times 45 degrees, and the slope that is left -/
def Red (c : Int) (s t : Rat) : Prop := (c = 0 ∧ t = s ∧ Bd t cT) ∨ (c = 1 ∧ t * (s + 1) = s - 1 ∧ Bd t (829 / 2000)) ∨ (c = 2 ∧ t * s = -1 ∧ Bd t (829 / 2000))
theorem satan_is (k : Nat) {x : Nat} {s e : Rat} (h : Q x (s * (1 + e))) (he : Sm e (4 * uu)) (hs : 0 < s) (hs2 : s ≤ 35184372088832) (hs3 : 1 ≤ s * 35184372088832) :
    ∃ y c t, math_satan k x = some y ∧ Red c s t ∧ Nq y ((c : Rat) * qpi + RR t) 2 (1 / 140737488355328) ∧ y < 2 ^ 64 := by
  have hu : 4 * uu ≤ 1 / 2251799813685248 := by decide +kernel
  obtain ⟨he1, he2⟩ := he
  have hcT : (829 / 2000 : Rat) ≤ cT := by decide +kernel
  unfold math_satan
  rw [fle_q h c_t66]
  by_cases h1 : s * (1 + e) ≤ 5944751508129055 / 9007199254740992
  · rw [decide_eq_true h1, br_true]
    have s1 : s ≤ 1 := by
      by_cases hh : s ≤ 1
      · exact hh
      · have := Rat.mul_nonneg (show 0 ≤ s - 1 by grind) (show 0 ≤ 1 + e by grind); grind
    have se := bd_mul (a := s) (A := 1) ⟨by grind, s1⟩ (b := e) (B := 4 * uu) ⟨he1, he2⟩
    have b1 : Bd (s * (1 + e)) cT := ⟨by have := Rat.mul_pos hs (show 0 < 1 + e by grind); have : (0 : Rat) < cT := by decide +kernel
                                         grind, Rat.le_trans h1 (by decide +kernel)⟩
    have b2 : Bd s cT := ⟨by have : (0 : Rat) < cT := by decide +kernel
                             grind, by have : (5944751508129055 / 9007199254740992 : Rat) + 1 * (4 * uu) ≤ cT := by decide +kernel
                                       have := se.1; grind⟩
    obtain ⟨y, y1, y2, y3⟩ := xatan_is k h b1
    rw [y1, sbind]
    refine ⟨y, 0, s, rfl, .inl ⟨rfl, rfl, b2⟩, ?_, y3⟩
    obtain ⟨⟨v, q, hv⟩, hb⟩ := y2
    have l := rr_lip b2 b1 (d := 1 * (4 * uu)) (by rw [show s * (1 + e) - s = s * e by grind]; exact se)
    have z0' : ((0 : Int) : Rat) = 0 := rfl
    have l0 := rr_lip zero_bd b2 (d := cT) (by rw [show s - 0 = s by grind]; exact b2)
    rw [rr_zero, show RR s - 0 = RR s by grind] at l0
    rw [z0', Rat.zero_mul, Rat.zero_add]
    refine ⟨⟨v, q, ?_⟩, bd_mono l0 (by decide +kernel)⟩
    have := bd_add hv l
    rw [show v - RR (s * (1 + e)) + (RR (s * (1 + e)) - RR s) = v - RR s by grind] at this
    exact bd_mono this (by decide +kernel)
  rw [decide_eq_false h1, br_false, fgt_q h c_t241]
  by_cases h2 : 2718162824974067 / 1125899906842624 < s * (1 + e)
  · rw [decide_eq_true h2, br_true]
    have s1 : 2414 / 1000 ≤ s := by
      by_cases hh : 2414 / 1000 ≤ s
      · exact hh
      · exfalso
        have := Rat.mul_nonneg (show 0 ≤ 2414 / 1000 - s by grind) (show 0 ≤ 1 + e by grind)
        have : (2414 / 1000 : Rat) * (1 + 1 / 2251799813685248) < 2718162824974067 / 1125899906842624 := by decide +kernel
        grind
    obtain ⟨I, hI⟩ : ∃ I, I = 1 / s := ⟨_, rfl⟩
    have Is : I * s = 1 := by rw [hI]; grind
    have I0 : 0 < I := by rw [hI, Rat.div_def, Rat.one_mul]; exact Rat.inv_pos.2 hs
    have I1 : I ≤ 829 / 2000 := by
      by_cases hh : I ≤ 829 / 2000
      · exact hh
      · have := Rat.mul_pos (show 0 < I - 829 / 2000 by grind) hs; grind
    have hne : 0 < s * (1 + e) := Rat.mul_pos hs (by grind)
    obtain ⟨J, hJ⟩ : ∃ J, J = 1 / (s * (1 + e)) := ⟨_, rfl⟩
    have Js : J * (1 + e) = I := by
      have h5 : J * (s * (1 + e)) = 1 := by rw [hJ]; grind
      have h6 : J * (1 + e) = J * (s * (1 + e)) * I := by
        have : J * (s * (1 + e)) * I = J * (1 + e) * (I * s) := by grind
        rw [this, Is]; grind
      rw [h6, h5]; grind
    have hu0 : 0 ≤ uu := by decide +kernel
    have J0 : 0 < J := by rw [hJ, Rat.div_def, Rat.one_mul]; exact Rat.inv_pos.2 hne
    have J1 : J ≤ 1 / 2 := by
      by_cases hh : J ≤ 1 / 2
      · exact hh
      · have := Rat.mul_pos (show 0 < J - 1 / 2 by grind) (show 0 < 1 + e by grind); grind
    have JI : Bd (J - I) (1 / 2 * (4 * uu)) := by
      have := bd_mul (a := J) (A := 1 / 2) ⟨by grind, J1⟩ (bd_neg (a := e) (A := 4 * uu) ⟨he1, he2⟩)
      rw [show J * -e = J - J * (1 + e) by grind, Js] at this; exact this
    have hBB : (1099511627776 : Rat) ≤ BB := by decide +kernel
    obtain ⟨p, r, q, hp, hr⟩ := gdiv_abs c_one h (by grind) (by rw [← hJ]; constructor <;> grind)
    rw [← hJ] at q
    obtain ⟨u, hu'⟩ : ∃ u, u = J * (1 + p) + r := ⟨_, rfl⟩
    rw [← hu'] at q
    have uI : Bd (u - I) (1 / 2 * (4 * uu) + 1 / 2 * (3 * uu) + uu) := by
      have := bd_add (bd_add JI (bd_mul (a := J) (A := 1 / 2) ⟨by grind, J1⟩ hp)) (show Bd r uu from hr)
      rw [show J - I + J * p + r = u - I by rw [hu']; grind] at this; exact this
    have bI : Bd I cT := ⟨by have : (0 : Rat) < cT := by decide +kernel
                             grind, Rat.le_trans I1 hcT⟩
    have bu : Bd u cT := by
      have e5 : (829 / 2000 : Rat) + (1 / 2 * (4 * uu) + 1 / 2 * (3 * uu) + uu) ≤ cT := by decide +kernel
      have := uI.1; have := uI.2
      constructor <;> grind
    obtain ⟨y, y1, y2, y3⟩ := xatan_is k q bu
    rw [sbind, num_q q, sbind, y1, sbind, sbind, sbind]
    have l := rr_lip bI bu uI
    have n1 : Nq y (RR I) 1 (1 / 562949953421312 + lp * (1 / 2 * (4 * uu) + 1 / 2 * (3 * uu) + uu)) := by
      obtain ⟨⟨v, qv, hv⟩, hb⟩ := y2
      have l0 := rr_lip zero_bd bI (d := cT) (by rw [show I - 0 = I by grind]; exact bI)
      rw [rr_zero, show RR I - 0 = RR I by grind] at l0
      refine ⟨⟨v, qv, ?_⟩, bd_mono l0 (by decide +kernel)⟩
      have := bd_add hv l
      rw [show v - RR u + (RR u - RR I) = v - RR I by grind] at this; exact this
    have n2 := nq_sub (g := 1 / 562949953421312 + 9 * uu) (C := 3) (nq_const c_pi2 (A := 8 / 5) (by constructor <;> decide +kernel)) n1 (by decide +kernel) (by decide +kernel) (by decide +kernel)
    have n3 := nq_add (g := 1 / 562949953421312 + 13 * uu) (C := 4) n2 (nq_const c_mb (A := 1 / 1000000) (by constructor <;> decide +kernel)) (by decide +kernel) (by decide +kernel) (by decide +kernel)
    refine ⟨_, 2, -I, rfl, .inr (.inr ⟨rfl, by grind, ⟨by grind, by grind⟩⟩), ?_, gadd_lt _ _⟩
    obtain ⟨⟨v, qv, hv⟩, hb⟩ := n3
    have c2 : ((2 : Int) : Rat) = 2 := rfl
    have pp := pi2_is
    have l0 := rr_lip zero_bd bI (d := I) (by rw [show I - 0 = I by grind]; constructor <;> grind)
    rw [rr_zero, show RR I - 0 = RR I by grind] at l0
    rw [c2, rr_neg]
    rw [pp] at hv
    have hmb : Bd (4967757600021511 / 81129638414606681695789005144064 : Rat) uu := by constructor <;> decide +kernel
    refine ⟨⟨v, qv, ?_⟩, ?_⟩
    · have := bd_add hv hmb
      rw [show v - (2 * qpi - RR I + 4967757600021511 / 81129638414606681695789005144064) + 4967757600021511 / 81129638414606681695789005144064 = v - (2 * qpi + -RR I) by grind] at this
      exact bd_mono this (by decide +kernel)
    · have hI2 : lp * I ≤ 1 / 2 := by
        have : lp * (829 / 2000) ≤ 1 / 2 := by decide +kernel
        have := Rat.mul_nonneg (show 0 ≤ lp by decide +kernel) (show 0 ≤ 829 / 2000 - I by grind)
        grind
      have hq : (2 : Rat) * qpi ≤ 8 / 5 := by decide +kernel
      have hq0 : (0 : Rat) ≤ 2 * qpi := by decide +kernel
      have := l0.1; have := l0.2
      constructor <;> grind
  · rw [decide_eq_false h2, br_false]
    have s0 : 6599 / 10000 ≤ s := by
      by_cases hh : 6599 / 10000 ≤ s
      · exact hh
      · exfalso
        have := Rat.mul_nonneg (show 0 ≤ 6599 / 10000 - s by grind) (show 0 ≤ 1 + e by grind)
        have : (6599 / 10000 : Rat) * (1 + 1 / 2251799813685248) < 5944751508129055 / 9007199254740992 := by decide +kernel
        grind
    have s1 : s ≤ 24143 / 10000 := by
      by_cases hh : s ≤ 24143 / 10000
      · exact hh
      · exfalso
        have := Rat.mul_pos (show 0 < s - 24143 / 10000 by grind) (show 0 < 1 + e by grind)
        have : (2718162824974067 / 1125899906842624 : Rat) < 24143 / 10000 * (1 - 1 / 2251799813685248) := by decide +kernel
        grind
    have hx : Nq x s (24143 / 10000) (24143 / 10000 * (4 * uu)) := by
      refine ⟨⟨_, h, ?_⟩, by constructor <;> grind⟩
      have := bd_mul (a := s) (A := 24143 / 10000) ⟨by grind, s1⟩ (b := e) (B := 4 * uu) ⟨he1, he2⟩
      rw [show s * (1 + e) - s = s * e by grind]; exact this
    have one := nq_const c_one (A := 1) (by constructor <;> decide +kernel)
    have n15 := nq_mono (nq_sub (g := 14 * uu) (C := 4) hx one (by decide +kernel) (by decide +kernel) (by decide +kernel)) (A' := 14143 / 10000) (by constructor <;> grind) Rat.le_refl
    have n17 := nq_add (g := 14 * uu) (C := 4) hx one (by decide +kernel) (by decide +kernel) (by decide +kernel)
    obtain ⟨t, ht⟩ : ∃ t, t = (s - 1) / (s + 1) := ⟨_, rfl⟩
    have ts : t * (s + 1) = s - 1 := by rw [ht]; grind
    have bt : Bd t (829 / 2000) := by
      constructor
      · by_cases hh : -(829 / 2000) ≤ t
        · exact hh
        · have := Rat.mul_pos (show 0 < -(829 / 2000) - t by grind) (show 0 < s + 1 by grind); grind
      · by_cases hh : t ≤ 829 / 2000
        · exact hh
        · have := Rat.mul_pos (show 0 < t - 829 / 2000 by grind) (show 0 < s + 1 by grind); grind
    have hf : (16598 / 10000 : Rat) + 14 * uu ≤ 16599 / 10000 := by decide +kernel
    have n18 := nq_div (g := 16 * uu) (C := 829 / 2000) (m := 16598 / 10000) n15 n17 (by decide +kernel) (by grind) (by rw [← ht]; exact bt) (by decide +kernel) (by decide +kernel)
    rw [← ht] at n18
    obtain ⟨⟨u, q, uI⟩, -⟩ := n18
    have bI : Bd t cT := bd_mono bt hcT
    have bu : Bd u cT := by
      have e5 : (829 / 2000 : Rat) + 16 * uu ≤ cT := by decide +kernel
      have := uI.1; have := uI.2; have := bt.1; have := bt.2
      constructor <;> grind
    obtain ⟨y, y1, y2, y3⟩ := xatan_is k q bu
    rw [sbind, sbind, sbind, num_q q, sbind, y1, sbind, sbind, sbind]
    have l := rr_lip bI bu uI
    have l0 := rr_lip zero_bd bI (d := 829 / 2000) (by rw [show t - 0 = t by grind]; exact bt)
    rw [rr_zero, show RR t - 0 = RR t by grind] at l0
    have n1 : Nq y (RR t) (1 / 2) (1 / 562949953421312 + lp * (16 * uu)) := by
      obtain ⟨⟨v, qv, hv⟩, hb⟩ := y2
      refine ⟨⟨v, qv, ?_⟩, bd_mono l0 (by decide +kernel)⟩
      have := bd_add hv l
      rw [show v - RR u + (RR u - RR t) = v - RR t by grind] at this; exact this
    have n2 := nq_add (g := 1 / 562949953421312 + 18 * uu) (C := 3) (nq_const c_pi4 (A := 4 / 5) (by constructor <;> decide +kernel)) n1 (by decide +kernel) (by decide +kernel) (by decide +kernel)
    have n3 := nq_add (g := 1 / 562949953421312 + 22 * uu) (C := 4) n2 (nq_const c_mb2 (A := 1 / 1000000) (by constructor <;> decide +kernel)) (by decide +kernel) (by decide +kernel) (by decide +kernel)
    refine ⟨_, 1, t, rfl, .inr (.inl ⟨rfl, ts, bt⟩), ?_, gadd_lt _ _⟩
    obtain ⟨⟨v, qv, hv⟩, hb⟩ := n3
    have c1 : ((1 : Int) : Rat) = 1 := rfl
    rw [c1, Rat.one_mul]
    have hmb : Bd (4967757600021511 / 162259276829213363391578010288128 : Rat) uu := by constructor <;> decide +kernel
    refine ⟨⟨v, qv, ?_⟩, ?_⟩
    · have := bd_add hv hmb
      rw [show v - (884279719003555 / 1125899906842624 + RR t + 4967757600021511 / 162259276829213363391578010288128) + 4967757600021511 / 162259276829213363391578010288128 = v - (qpi + RR t) by grind] at this
      exact bd_mono this (by decide +kernel)
    · have hq : qpi ≤ 4 / 5 := by decide +kernel
      have hq0 : (0 : Rat) ≤ qpi := by decide +kernel
      have hl : lp * (829 / 2000) ≤ 1 / 2 := by decide +kernel
      have := l0.1; have := l0.2
      constructor <;> grind
end Go.Proofs.Ytmkhoplffiakmaa
namespace Go.Proofs.Ytmkhoplffiakmaa
open Go.Sx
open Ieee (signed)
set_option linter.unusedVariables false
set_option linter.unusedSimpArgs false
set_option maxRecDepth 100000

/-- so many times 45 degrees: the way's X and Y -/
def ux (c : Int) : Rat := if c % 8 = 0 ∨ c % 8 = 1 ∨ c % 8 = 7 then 1 else if c % 8 = 2 ∨ c % 8 = 6 then 0 else -1
def uy (c : Int) : Rat := if c % 8 = 1 ∨ c % 8 = 2 ∨ c % 8 = 3 then 1 else if c % 8 = 0 ∨ c % 8 = 4 then 0 else -1
/-- the way (X, Y) runs at c times 45 degrees and the angle whose tangent is t -/
def Dirn (c : Int) (t X Y : Rat) : Prop := ∃ l : Rat, 0 < l ∧ X = l * (ux c - t * uy c) ∧ Y = l * (uy c + t * ux c)
theorem dirn_red {c : Int} {s t X Y : Rat} (h : Red c s t) (hX : 0 < X) (hs : 0 < s) (hY : Y = s * X) : Dirn c t X Y := by
  rcases h with ⟨rfl, rfl, _⟩ | ⟨rfl, h1, _⟩ | ⟨rfl, h1, _⟩
  · refine ⟨X, hX, ?_, ?_⟩
    · show X = X * (1 - t * 0); grind
    · show Y = X * (0 + t * 1); grind
  · refine ⟨X * (s + 1) / 2, ?_, ?_, ?_⟩
    · have := Rat.mul_pos hX (show 0 < s + 1 by grind); grind
    · show X = X * (s + 1) / 2 * (1 - t * 1); grind
    · show Y = X * (s + 1) / 2 * (1 + t * 1); grind
  · refine ⟨Y, by rw [hY]; exact Rat.mul_pos hs hX, ?_, ?_⟩
    · show X = Y * (0 - t * 1); rw [hY]; grind
    · show Y = Y * (1 + t * 0); grind
theorem ux_neg (c : Int) : ux (-c) = ux c ∧ uy (-c) = -uy c := by
  unfold ux uy
  have h : c % 8 = 0 ∨ c % 8 = 1 ∨ c % 8 = 2 ∨ c % 8 = 3 ∨ c % 8 = 4 ∨ c % 8 = 5 ∨ c % 8 = 6 ∨ c % 8 = 7 := by omega
  rcases h with h | h | h | h | h | h | h | h
  · have e : -c % 8 = 0 := by omega
    rw [h, e]; decide +kernel
  · have e : -c % 8 = 7 := by omega
    rw [h, e]; decide +kernel
  · have e : -c % 8 = 6 := by omega
    rw [h, e]; decide +kernel
  · have e : -c % 8 = 5 := by omega
    rw [h, e]; decide +kernel
  · have e : -c % 8 = 4 := by omega
    rw [h, e]; decide +kernel
  · have e : -c % 8 = 3 := by omega
    rw [h, e]; decide +kernel
  · have e : -c % 8 = 2 := by omega
    rw [h, e]; decide +kernel
  · have e : -c % 8 = 1 := by omega
    rw [h, e]; decide +kernel
theorem ux_four (c : Int) : ux (c + 4) = -ux c ∧ uy (c + 4) = -uy c := by
  unfold ux uy
  have h : c % 8 = 0 ∨ c % 8 = 1 ∨ c % 8 = 2 ∨ c % 8 = 3 ∨ c % 8 = 4 ∨ c % 8 = 5 ∨ c % 8 = 6 ∨ c % 8 = 7 := by omega
  rcases h with h | h | h | h | h | h | h | h
  · have e : (c + 4) % 8 = 4 := by omega
    rw [h, e]; decide +kernel
  · have e : (c + 4) % 8 = 5 := by omega
    rw [h, e]; decide +kernel
  · have e : (c + 4) % 8 = 6 := by omega
    rw [h, e]; decide +kernel
  · have e : (c + 4) % 8 = 7 := by omega
    rw [h, e]; decide +kernel
  · have e : (c + 4) % 8 = 0 := by omega
    rw [h, e]; decide +kernel
  · have e : (c + 4) % 8 = 1 := by omega
    rw [h, e]; decide +kernel
  · have e : (c + 4) % 8 = 2 := by omega
    rw [h, e]; decide +kernel
  · have e : (c + 4) % 8 = 3 := by omega
    rw [h, e]; decide +kernel
theorem ux_per (c : Int) : ux (c + 8) = ux c ∧ uy (c + 8) = uy c := by
  unfold ux uy
  have e : (c + 8) % 8 = c % 8 := by omega
  rw [e]; exact ⟨rfl, rfl⟩
/-- the other way about -/
theorem dirn_conj {c : Int} {t X Y : Rat} (h : Dirn c t X Y) : Dirn (-c) (-t) X (-Y) := by
  obtain ⟨l, h0, h1, h2⟩ := h
  obtain ⟨e1, e2⟩ := ux_neg c
  refine ⟨l, h0, ?_, ?_⟩ <;> rw [e1, e2]
  · rw [h1]; grind
  · rw [h2]; grind
theorem dirn_back {c : Int} {t X Y : Rat} (h : Dirn c t X Y) : Dirn (c + 4) t (-X) (-Y) := by
  obtain ⟨l, h0, h1, h2⟩ := h
  obtain ⟨e1, e2⟩ := ux_four c
  refine ⟨l, h0, ?_, ?_⟩ <;> rw [e1, e2]
  · rw [h1]; grind
  · rw [h2]; grind
theorem dirn_per {c : Int} {t X Y : Rat} (h : Dirn (c + 8) t X Y) : Dirn c t X Y := by
  obtain ⟨l, h0, h1, h2⟩ := h
  obtain ⟨e1, e2⟩ := ux_per c
  rw [e1, e2] at h1 h2
  exact ⟨l, h0, h1, h2⟩
theorem nq_neg {x : Nat} {a A e : Rat} (hx : x < 2 ^ 64) (h : Nq x a A e) : Nq (fneg x) (-a) A e := by
  obtain ⟨⟨v, q, h1⟩, h2⟩ := h
  refine ⟨⟨-v, Q_fneg hx q, ?_⟩, bd_neg h2⟩
  have := bd_neg h1
  rw [show -(v - a) = -v - -a by grind] at this; exact this
theorem fneg_lt3 {x : Nat} (h : x < 2 ^ 64) : fneg x < 2 ^ 64 := by
  have e : fneg x = x ^^^ 2 ^ 63 := rfl
  rw [e]; exact Nat.xor_lt_two_pow h (by decide)
/-- the arc tangent of a slope that is not 0 -/
theorem atan_is (k : Nat) {x : Nat} {f e : Rat} (hx : x < 2 ^ 64) (h : Q x (f * (1 + e))) (he : Sm e (4 * uu)) (hf : f ≠ 0) (h2 : Bd f 35184372088832) (h3 : 1 ≤ f * 35184372088832 ∨ 1 ≤ -f * 35184372088832) :
    ∃ y c t, math_Atan k x = some y ∧ y < 2 ^ 64 ∧ (0 < f ∧ Red c f t ∧ Nq y ((c : Rat) * qpi + RR t) 2 (1 / 140737488355328) ∨ f < 0 ∧ Red c (-f) t ∧ Nq y (-((c : Rat) * qpi + RR t)) 2 (1 / 140737488355328)) := by
  have hu : 4 * uu ≤ 1 / 2 := by decide +kernel
  obtain ⟨he1, he2⟩ := he
  have e0 : 0 < 1 + e := by grind
  unfold math_Atan math_atan
  rw [feq_q h q_zero, fgt_q h q_zero]
  rcases (show 0 < f ∨ f < 0 by grind) with hp | hp
  · have hv := Rat.mul_pos hp e0
    rw [decide_eq_false (by grind), br_false, decide_eq_true hv, br_true]
    obtain ⟨y, c, t, y1, y2, y3, y4⟩ := satan_is k h ⟨he1, he2⟩ hp h2.2 (by rcases h3 with h | h; exact h; grind)
    rw [y1, sbind, sbind]
    exact ⟨y, c, t, rfl, y4, .inl ⟨hp, y2, y3⟩⟩
  · have hv := Rat.mul_pos (show 0 < -f by grind) e0
    rw [decide_eq_false (by grind), br_false, decide_eq_false (by grind), br_false]
    have hn := Q_fneg hx h
    rw [show -(f * (1 + e)) = -f * (1 + e) by grind] at hn
    obtain ⟨y, c, t, y1, y2, y3, y4⟩ := satan_is k hn ⟨he1, he2⟩ (by grind) (by have := h2.1; grind) (by rcases h3 with h | h; grind; exact h)
    rw [y1, sbind, sbind]
    exact ⟨fneg y, c, t, rfl, fneg_lt3 y4, .inr ⟨hp, y2, nq_neg y4 y3⟩⟩
end Go.Proofs.Ytmkhoplffiakmaa
