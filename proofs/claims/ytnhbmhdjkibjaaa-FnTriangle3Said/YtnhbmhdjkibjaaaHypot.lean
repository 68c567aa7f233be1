/-
  The root of the sum of two squares, as the machine's hypot tells it. Ours; it knows no program.
-/
import Derived.Test.YtnhbmhdjkibjaaaRelat
namespace Go.Sx
open Ieee (signed)
set_option linter.unusedVariables false
set_option linter.unusedSimpArgs false
set_option maxRecDepth 100000

theorem Q_abs {x : Nat} {a : Rat} (hx : x < 2 ^ 64) (h : Q x a) : ∃ A, Q (x % 2 ^ 63) A ∧ 0 ≤ A ∧ (A = a ∨ A = -a) := by
  obtain ⟨n, h1, h2⟩ := h
  have h3 := D_absn hx h1
  have hU := Un_pos
  refine ⟨(n.natAbs : Nat) / Un, ⟨_, h3, ?_⟩, ?_, ?_⟩
  · rw [Rat.intCast_natCast]; grind
  · have : (0 : Rat) ≤ (n.natAbs : Rat) := by
      have : ((0 : Nat) : Rat) ≤ (n.natAbs : Rat) := Rat.natCast_le_natCast.2 (Nat.zero_le _)
      simpa using this
    rw [Rat.div_def]; exact Rat.mul_nonneg this (Rat.le_of_lt (Rat.inv_pos.2 hU))
  · rcases Int.natAbs_eq n with h4 | h4
    · left
      have : ((n : Int) : Rat) = ((n.natAbs : Nat) : Rat) := by rw [← Rat.intCast_natCast, ← h4]
      rw [← this, h2]; grind
    · right
      have : ((n : Int) : Rat) = -((n.natAbs : Nat) : Rat) := by rw [← Rat.intCast_natCast, ← Rat.intCast_neg, ← h4]
      have h5 : ((n.natAbs : Nat) : Rat) = -(a * Un) := by rw [← h2, this]; grind
      rw [h5]; grind
theorem Q_lt {x y : Nat} {a b : Rat} (hx : Q x a) (hy : Q y b) : (Extern.MathAsm.lt x y = true) ↔ a < b := by
  obtain ⟨m, h1, h2⟩ := hx
  obtain ⟨n, h3, h4⟩ := hy
  have hU := Un_pos
  unfold Extern.MathAsm.lt
  rw [D_order h1 h3]
  have e : (some (compare m n) == some Ordering.lt) = decide (m < n) := by
    by_cases h : m < n
    · rw [decide_eq_true h, Int.compare_eq_lt.2 h]; rfl
    · rw [decide_eq_false h]
      cases hc : compare m n with
      | lt => exact absurd (Int.compare_eq_lt.1 hc) h
      | eq => rfl
      | gt => rfl
  rw [e, decide_eq_true_eq]
  have k1 : (m < n) ↔ ((m : Rat) < (n : Rat)) := Rat.intCast_lt_intCast.symm
  rw [k1, h2, h4]
  constructor
  · intro h
    by_cases h5 : a < b
    · exact h5
    · exfalso
      have := Rat.mul_nonneg (show 0 ≤ a - b by grind) (Rat.le_of_lt hU)
      grind
  · intro h
    have := Rat.mul_pos (show 0 < b - a by grind) hU
    grind
/-- a word without sign that stands for a number -/
theorem Q_word {x : Nat} {a : Rat} (hx : x < 2 ^ 63) (h : Q x a) : x < Extern.MathAsm.posInf ∧ (a = 0 → x = 0) := by
  obtain ⟨s, m, q, h1, h2⟩ := Q_read h
  have hU := Un_pos
  have hinf : Extern.MathAsm.posInf = 2047 * 2 ^ 52 := by decide
  rw [hinf]
  rw [fmt_is] at h1
  unfold Ieee.Format.read at h1
  simp only [Go.Sx.sign_is, binade_is, inf_is, least_is] at h1
  have hmod : x % 2 ^ 63 = x := Nat.mod_eq_of_lt hx
  rw [hmod] at h1
  split at h1
  · rename_i h5
    simp only [Ieee.Datum.number.injEq] at h1
    refine ⟨by omega, fun h0 => ?_⟩
    obtain ⟨_, h6, h7⟩ := h1
    subst h0
    have hp := un_pos q
    have hz : (m : Rat) * 2 ^ q = 0 := by cases s <;> simp only [Bool.false_eq_true, if_false, if_true] at h2 <;> grind
    rcases Rat.mul_eq_zero.1 hz with h8 | h8
    · have h9 : m = 0 := by
        have : ((m : Nat) : Rat) = ((0 : Nat) : Rat) := by rw [h8]; simp
        exact Rat.natCast_inj.1 this
      omega
    · grind
  · rename_i h5
    split at h1
    · rename_i h6
      simp only [Ieee.Datum.number.injEq] at h1
      refine ⟨by omega, fun h0 => ?_⟩
      exfalso
      obtain ⟨_, h7, h8⟩ := h1
      subst h0
      have hp := un_pos q
      have hz : (m : Rat) * 2 ^ q = 0 := by cases s <;> simp only [Bool.false_eq_true, if_false, if_true] at h2 <;> grind
      rcases Rat.mul_eq_zero.1 hz with h8 | h8
      · have h9 : m = 0 := by
          have : ((m : Nat) : Rat) = ((0 : Nat) : Rat) := by rw [h8]; simp
          exact Rat.natCast_inj.1 this
        omega
      · grind
    · split at h1 <;> cases h1
theorem Q_qn {r : Rat} : ¬ Q qn r := by
  rintro ⟨n, h, _⟩
  have h1 := D_num h
  have h2 : fnan qn = true := by decide
  rw [h1] at h2; cases h2
theorem some_q {o : Option Nat} {r : Rat} (h : Q (o.getD qn) r) : o = some (o.getD qn) := by
  cases o with
  | none => exact absurd h Q_qn
  | some z => rfl
theorem fdiv_q {x y : Nat} {r : Rat} (h : Q (gdiv x y) r) : fdiv x y = some (gdiv x y) := some_q h
theorem fmul_q {x y : Nat} {r : Rat} (h : Q (gmul x y) r) : fmul x y = some (gmul x y) := some_q h
theorem fadd_q {x y : Nat} {r : Rat} (h : Q (gadd x y) r) : fadd x y = some (gadd x y) := some_q h
theorem fsqrt_q {x : Nat} {r : Rat} (h : Q (gsqrt x) r) : fsqrt x = some (gsqrt x) := some_q h

theorem sq_lo {r c : Rat} (h0 : 0 < r) (hc : 0 < c) (h : c * c ≤ r * r) : c ≤ r := by
  by_cases h1 : c ≤ r
  · exact h1
  · exfalso
    have a1 := Rat.mul_pos (show 0 < c - r by grind) (show 0 < c + r by grind)
    grind
theorem sq_hi {r c : Rat} (h0 : 0 < r) (hc : 0 < c) (h : r * r ≤ c * c) : r ≤ c := sq_lo hc h0 h

/-- the core: the greater is B, the lesser is S -/
theorem hyp_core {p q : Nat} {B S : Rat} (hp : Q p B) (hq : Q q S) (h0 : 0 ≤ S) (hSB : S ≤ B) (hB1 : 1 / 2 ≤ B) (hB2 : B ≤ 8388608) (hS : S = 0 ∨ 1 / 2 ≤ S) :
    ∃ z r e, ((fdiv q p).bind fun r => (fmul r r).bind fun m => (fadd m Extern.MathAsm.one).bind fun a => (fsqrt a).bind fun s => fmul s p) = some z ∧ Q z r ∧ 0 < r ∧ r * r = (S * S + B * B) * (1 + e) ∧ Sm e (13 * uu) ∧ z < 2 ^ 64 := by
  obtain ⟨t, ht⟩ : ∃ t, S / B = t := ⟨_, rfl⟩
  have htB : S = t * B := by grind
  have ht1 : t ≤ 1 := by
    by_cases h : t ≤ 1
    · exact h
    · have := Rat.mul_pos (show 0 < t - 1 by grind) (show 0 < B by grind)
      grind
  have ht0 : 0 ≤ t := by
    by_cases h : 0 ≤ t
    · exact h
    · have := Rat.mul_pos (show 0 < -t by grind) (show 0 < B by grind)
      grind
  have htl : t = 0 ∨ 1 / 16777216 ≤ t := by
    rcases hS with h | h
    · left
      rcases Rat.mul_eq_zero.1 (show t * B = 0 by grind) with h1 | h1
      · exact h1
      · grind
    · right
      by_cases h1 : 1 / 16777216 ≤ t
      · exact h1
      · have := Rat.mul_pos (show 0 < 1 / 16777216 - t by grind) (show 0 < B by grind)
        grind
  obtain ⟨e1, g1, s1⟩ := gdiv_rel hq hp (show B ≠ 0 by grind) ⟨by rw [ht]; rcases htl with h | h; exact .inl h; exact .inr (.inl (by grind)), by rw [ht]; grind, by rw [ht]; grind⟩
  rw [ht] at g1
  obtain ⟨a1, b1⟩ := s1
  -- the square
  obtain ⟨c, hc⟩ : ∃ c, t * (1 + e1) = c := ⟨_, rfl⟩
  rw [hc] at g1
  have c0 : 0 ≤ c := by rw [← hc]; exact Rat.mul_nonneg ht0 (by grind)
  have c2 : c ≤ 2 := by
    have := Rat.mul_nonneg ht0 (show 0 ≤ 1 - e1 by grind)
    grind
  have cl : c = 0 ∨ 1 / 33554432 ≤ c := by
    rcases htl with h | h
    · left; rw [← hc, h]; grind
    · right
      have := Rat.mul_nonneg (show 0 ≤ t - 1 / 16777216 by grind) (show 0 ≤ 1 + e1 by grind)
      grind
  have cc0 := Rat.mul_nonneg c0 c0
  have cc4 := Rat.mul_nonneg (show 0 ≤ 2 - c by grind) (show 0 ≤ 2 + c by grind)
  have ccl : c * c = 0 ∨ 1 / 1125899906842624 ≤ c * c := by
    rcases cl with h | h
    · left; rw [h]; grind
    · right
      have := Rat.mul_nonneg (show 0 ≤ c - 1 / 33554432 by grind) (show 0 ≤ c + 1 / 33554432 by grind)
      grind
  obtain ⟨e2, g2, s2⟩ := gmul_rel g1 g1 ⟨by rcases ccl with h | h; exact .inl h; exact .inr (.inl (by grind)), by grind, by grind⟩
  obtain ⟨m, hm⟩ : ∃ m, c * c * (1 + e2) = m := ⟨_, rfl⟩
  rw [hm] at g2
  obtain ⟨a2, b2⟩ := s2
  have m0 : 0 ≤ m := by rw [← hm]; exact Rat.mul_nonneg cc0 (by grind)
  have m8 : m ≤ 8 := by
    have := Rat.mul_nonneg cc0 (show 0 ≤ 1 - e2 by grind)
    grind
  -- one more
  have hone : Q Extern.MathAsm.one 1 := by
    have : D Extern.MathAsm.one 1 1074 := D_one
    have := Q_whole this
    simpa using this
  obtain ⟨e3, g3, s3⟩ := gadd_rel g2 hone ⟨.inr (.inl (by grind)), by grind, by grind⟩
  obtain ⟨w, hw⟩ : ∃ w, (m + 1) * (1 + e3) = w := ⟨_, rfl⟩
  rw [hw] at g3
  obtain ⟨a3, b3⟩ := s3
  have w1 : 1 / 2 ≤ w := by
    have := Rat.mul_nonneg m0 (show 0 ≤ 1 + e3 by grind)
    grind
  have w2 : w ≤ 18 := by
    have := Rat.mul_nonneg (show 0 ≤ m + 1 by grind) (show 0 ≤ 1 - e3 by grind)
    grind
  -- the root
  obtain ⟨rr, e4, g4, p4, q4, s4⟩ := gsqrt_rel g3 (by grind) (by grind)
  obtain ⟨a4, b4⟩ := s4
  have wr : 1 / 4 ≤ w * (1 + e4) ∧ w * (1 + e4) ≤ 36 := by
    have k1 := Rat.mul_nonneg (show 0 ≤ w - 1 / 2 by grind) (show 0 ≤ 1 + e4 by grind)
    have k2 := Rat.mul_nonneg (show 0 ≤ w by grind) (show 0 ≤ 1 - e4 by grind)
    constructor <;> grind
  have r1 : 1 / 2 ≤ rr := sq_lo p4 (by grind) (by grind)
  have r2 : rr ≤ 6 := sq_hi p4 (by grind) (by grind)
  -- times the greater
  have l5 := Rat.mul_nonneg (show 0 ≤ rr - 1 / 2 by grind) (show 0 ≤ B by grind)
  have h5 := Rat.mul_nonneg (show 0 ≤ 6 - rr by grind) (show 0 ≤ B by grind)
  obtain ⟨e5, g5, s5⟩ := gmul_rel g4 hp ⟨.inr (.inl (by grind)), by grind, by grind⟩
  -- the errors together
  have s1' : Sm e1 (3 * uu) := ⟨a1, b1⟩
  obtain ⟨f1, k1, t1⟩ := sm_one s1' s1' (r := 6 * uu + uu / 1000) (by grind)
  obtain ⟨f2, k2, t2⟩ := sm_one t1 (show Sm e2 uu from ⟨a2, b2⟩) (r := 7 * uu + uu / 500) (by grind)
  obtain ⟨d, hd⟩ : ∃ d, t * t / (1 + t * t) = d := ⟨_, rfl⟩
  have tt0 := Rat.mul_nonneg ht0 ht0
  have tt1 := Rat.mul_nonneg (show 0 ≤ 1 - t by grind) (show 0 ≤ 1 + t by grind)
  have hd' : d * (1 + t * t) = t * t := by grind
  have hds : Sm d (1 / 2) := by
    constructor
    · by_cases h : -(1 / 2) ≤ d
      · exact h
      · have := Rat.mul_pos (show 0 < -(1 / 2) - d by grind) (show 0 < 1 + t * t by grind)
        grind
    · by_cases h : d ≤ 1 / 2
      · exact h
      · have := Rat.mul_pos (show 0 < d - 1 / 2 by grind) (show 0 < 1 + t * t by grind)
        grind
  have t3 := sm_mul hds t2
  have k3 : m + 1 = (1 + t * t) * (1 + d * f2) := by
    have h1 : m = t * t * ((1 + e1) * (1 + e1) * (1 + e2)) := by rw [← hm, ← hc]; grind
    rw [h1, k1, k2]
    have h2 : (1 + t * t) * (1 + d * f2) = 1 + t * t + (d * (1 + t * t)) * f2 := by grind
    rw [h2, hd']; grind
  obtain ⟨f4, k4, t4⟩ := sm_one (sm_mono t3 (show 1 / 2 * (7 * uu + uu / 500) ≤ 4 * uu by grind)) (show Sm e3 uu from ⟨a3, b3⟩) (r := 5 * uu + uu / 1000) (by grind)
  obtain ⟨f5, k5, t5⟩ := sm_one t4 (show Sm e4 (5 * uu) from ⟨a4, b4⟩) (r := 10 * uu + uu / 500) (by grind)
  obtain ⟨f6, k6, t6⟩ := sm_one s5 s5 (r := 2 * uu + uu / 1000) (by grind)
  obtain ⟨f7, k7, t7⟩ := sm_one t5 t6 (r := 13 * uu) (by grind)
  refine ⟨gmul (gsqrt (gadd (gmul (gdiv q p) (gdiv q p)) Extern.MathAsm.one)) p, rr * B * (1 + e5), f7, ?_, g5, ?_, ?_, t7, gmul_lt _ _⟩
  · rw [fdiv_q g1, Option.bind_some, fmul_q g2, Option.bind_some, fadd_q g3, Option.bind_some, fsqrt_q g4, Option.bind_some, fmul_q g5]
  · obtain ⟨a5, b5⟩ := s5
    exact Rat.mul_pos (by grind) (by grind)
  · have h1 : rr * B * (1 + e5) * (rr * B * (1 + e5)) = rr * rr * (B * B) * ((1 + e5) * (1 + e5)) := by grind
    rw [h1, q4, ← hw, k3, k6, ← k7, ← k5, ← k4]
    have h2 : S * S + B * B = B * B * (1 + t * t) := by rw [htB]; grind
    rw [h2]; grind

/-- what hypot tells -/
theorem hyp_rel {x y : Nat} {a b : Rat} (hx : x < 2 ^ 64) (hy : y < 2 ^ 64) (qx : Q x a) (qy : Q y b) (ha : a = 0 ∨ 1 / 2 ≤ a ∨ a ≤ -(1 / 2)) (hb : b = 0 ∨ 1 / 2 ≤ b ∨ b ≤ -(1 / 2))
    (ha2 : -8388608 ≤ a ∧ a ≤ 8388608) (hb2 : -8388608 ≤ b ∧ b ≤ 8388608) :
    ∃ z r e, fhypot x y = some z ∧ Q z r ∧ 0 ≤ r ∧ r * r = (a * a + b * b) * (1 + e) ∧ Sm e (13 * uu) ∧ z < 2 ^ 64 := by
  obtain ⟨A, qA, A0, hA⟩ := Q_abs hx qx
  obtain ⟨B, qB, B0, hB⟩ := Q_abs hy qy
  have hAA : A * A = a * a := by rcases hA with h | h <;> rw [h] <;> grind
  have hBB : B * B = b * b := by rcases hB with h | h <;> rw [h] <;> grind
  have lA : A = 0 ∨ 1 / 2 ≤ A := by grind
  have lB : B = 0 ∨ 1 / 2 ≤ B := by grind
  have uA : A ≤ 8388608 := by grind
  have uB : B ≤ 8388608 := by grind
  have w1 := Q_word (Nat.mod_lt _ (Nat.two_pow_pos 63)) qA
  have w2 := Q_word (Nat.mod_lt _ (Nat.two_pow_pos 63)) qB
  have hl := Q_lt qA qB
  rw [← hAA, ← hBB]
  unfold fhypot
  generalize x % 2 ^ 63 = p at *
  generalize y % 2 ^ 63 = q at *
  rw [if_neg (by omega), if_neg (by omega)]
  by_cases h0 : p = 0 ∧ q = 0
  · rw [if_pos h0]
    obtain ⟨h1, h2⟩ := h0
    have z0 : Q 0 0 := by
      have : D 0 ((0 : Int)) 1074 := D_zero 1074
      have := Q_whole this
      simpa using this
    rw [h1] at qA
    rw [h2] at qB
    have e1 := Q_uniq qA z0
    have e2 := Q_uniq qB z0
    exact ⟨0, 0, 0, rfl, z0, by grind, by rw [e1, e2]; grind, sm_zero (by grind), by decide⟩
  · rw [if_neg h0]
    by_cases hlt : A < B
    · have e : Extern.MathAsm.lt p q = true := hl.2 hlt
      simp only [e, if_true]
      obtain ⟨z, r, e, c1, c2, c3, c4, c5, c6⟩ := hyp_core qB qA A0 (Rat.le_of_lt hlt) (by grind) uB lA
      exact ⟨z, r, e, c1, c2, Rat.le_of_lt c3, c4, c5, c6⟩
    · have e : Extern.MathAsm.lt p q = false := by
        cases h : Extern.MathAsm.lt p q with
        | false => rfl
        | true => exact absurd (hl.1 h) hlt
      simp only [e, Bool.false_eq_true, if_false]
      have hA0 : A ≠ 0 := by
        intro h
        have h3 := w1.2 h
        have h4 := w2.2 (by grind)
        exact h0 ⟨h3, h4⟩
      obtain ⟨z, r, e, c1, c2, c3, c4, c5, c6⟩ := hyp_core qA qB B0 (by grind) (by grind) uA lB
      exact ⟨z, r, e, c1, c2, Rat.le_of_lt c3, by rw [c4]; grind, c5, c6⟩
end Go.Sx
