/-
  The quotient of two sums is near; two numbers near a third are near each other; the root of a whole number. Ours.
-/
import Derived.Test.YtajpajggckappaaGreatRmStep
import Derived.Test.YtajpajggckappaaGreatQCmp
import Derived.Test.YtajpajggckappaaGreatPlaneTo
namespace Go.Proofs.YtajpajggckappaaGreat
open Go.Sx
open Ieee (signed)
set_option linter.unusedVariables false
set_option linter.unusedSimpArgs false
set_option maxRecDepth 100000

theorem le_of_mul {a l : Rat} (hl : 0 < l) (h : 0 ≤ a * l) : 0 ≤ a := by
  by_cases ha : 0 ≤ a
  · exact ha
  · have := Rat.mul_pos (show 0 < -a by grind) hl
    grind
theorem quot_near {c t : Nat} {a l X L J : Rat} (hc : Q c a) (ht : Q t l) (h1 : Nr a X (J * L)) (h2 : Nr l L (J * L)) (hX : Sm X (64 * L)) (hL : 1 / 2 ≤ L) (hL1 : L ≤ 1000000)
    (hJ0 : 0 ≤ J) (hJ : J ≤ 1 / 1073741824) : 0 < l ∧ ∃ q, Q (gdiv c t) q ∧ Nr q (X / L) (1 / 4194304) := by
  have hL0 : 0 < L := by grind
  have hJL : 0 ≤ (1 / 1073741824 - J) * L := Rat.mul_nonneg (by grind) (Rat.le_of_lt hL0)
  have hJL0 : 0 ≤ J * L := Rat.mul_nonneg hJ0 (Rat.le_of_lt hL0)
  obtain ⟨a1, a2⟩ := h1
  obtain ⟨b1, b2⟩ := h2
  obtain ⟨x1, x2⟩ := hX
  have hl : 0 < l := by grind
  have hlL : L ≤ 2 * l := by grind
  refine ⟨hl, ?_⟩
  obtain ⟨v, hv⟩ : ∃ v, X / L = v := ⟨_, rfl⟩
  obtain ⟨u, hu⟩ : ∃ u, a / l = u := ⟨_, rfl⟩
  have ev : v * L = X := by rw [← hv]; grind
  have eu : u * l = a := by rw [← hu]; grind
  have v1 : 0 ≤ 64 - v := le_of_mul hL0 (by grind)
  have v2 : 0 ≤ 64 + v := le_of_mul hL0 (by grind)
  have hvm := sm_mul (e := v) (f := l - L) (p := 64) (q := J * L) ⟨by grind, by grind⟩ ⟨by grind, by grind⟩
  obtain ⟨w1, w2⟩ := hvm
  have e1 : (u - v) * l = (a - X) - v * (l - L) := by grind
  have u1 : 0 ≤ 1 / 8000000 - (u - v) := le_of_mul hl (by
    have e : (1 / 8000000 - (u - v)) * l = 1 / 8000000 * l - ((a - X) - v * (l - L)) := by rw [← e1]; grind
    rw [e]; grind)
  have u2 : 0 ≤ 1 / 8000000 + (u - v) := le_of_mul hl (by
    have e : (1 / 8000000 + (u - v)) * l = 1 / 8000000 * l + ((a - X) - v * (l - L)) := by rw [← e1]; grind
    rw [e]; grind)
  obtain ⟨e, d, q1, q2, q3⟩ := gdiv_abs hc ht (by grind) (by rw [hu]; constructor <;> grind)
  rw [hu] at q1
  refine ⟨_, q1, ?_⟩
  rw [hv]
  have hue := sm_mul (e := u) (f := e) (p := 65) (q := 3 * uu) ⟨by grind, by grind⟩ q2
  obtain ⟨k1, k2⟩ := hue
  obtain ⟨k3, k4⟩ := q3
  have e2 : u * (1 + e) + d - v = (u - v) + u * e + d := by grind
  unfold Nr
  rw [e2]
  constructor <;> grind

theorem nearTo_is {k a b : Nat} {p q v : Rat} (ha : Q a p) (hb : Q b q) (h1 : Nr p v (1 / 4194304)) (h2 : Nr q v (1 / 4194304)) : laws_nearTo k a b = some true := by
  obtain ⟨a1, a2⟩ := h1
  obtain ⟨b1, b2⟩ := h2
  obtain ⟨e, g1, g2⟩ := gsub_full ha hb ⟨by grind, by grind⟩
  have hs := sm_mul (e := p - q) (f := e) (p := 1 / 2097152) (q := uu) ⟨by grind, by grind⟩ g2
  obtain ⟨s1, s2⟩ := hs
  obtain ⟨A, t1, t2, t3⟩ := Q_abs (gsub_lt a b) g1
  have e1 : (p - q) * (1 + e) = (p - q) + (p - q) * e := by grind
  have hA : A < 1 / 1048576 := by
    rw [e1] at t3
    generalize (p - q) * e = w at *
    rcases t3 with h | h <;> rw [h] <;> grind
  have q20 : Q 4517110426252607488 (1 / 1048576) := by
    have h := Go.Sx.D_fields (E := 1003) (F := 0) (by omega) (by omega) (by omega) (n := 1) (v := 1054) (by
      rw [Int.one_mul, show (1054 : Nat) = 52 + (1003 - 1) from rfl, Int.pow_add]; rfl)
    have h1 := Q_of h
    have hU := Un_pos
    have e : (2 : Rat) ^ 1054 * 1048576 = Un := by
      have : (1048576 : Rat) = 2 ^ 20 := by decide +kernel
      rw [this, ← ratpow_add]; rfl
    have e1 : ((1 : Int) : Rat) = 1 := by simp
    rw [e1] at h1
    have e2 : 1 * (2 : Rat) ^ 1054 / Un = 1 / 1048576 := by
      generalize (2 : Rat) ^ 1054 = z at e ⊢
      rw [← e] at hU ⊢
      grind
    rw [e2] at h1; exact h1
  unfold laws_nearTo
  simp only [Option.bind_eq_bind, Option.bind_some, num_q g1, abs_is _ _ (gsub_lt a b), flt_q t1 q20, decide_eq_true hA]

theorem cast_le {a b : Nat} (h : a ≤ b) : (a : Rat) ≤ (b : Rat) := Rat.natCast_le_natCast.2 h
theorem root_ex (S : Nat) (hS : S ≤ 39000) : ∃ r : Rat, (r = 0 ∨ 1 / 2 ≤ r) ∧ r ≤ 200 ∧ ∀ w, D w (S : Int) 1074 → Q (gsqrt w) r := by
  have hSi : D (i2f (S : Int)) (S : Int) 1074 := D_i2f (by omega)
  by_cases h0 : S = 0
  · subst h0
    refine ⟨0, .inl rfl, by grind, fun w hw => ?_⟩
    apply gsqrt_q0
    have := Q_whole hw
    simpa using this
  · have hq := Q_whole hSi
    rw [Rat.intCast_natCast] at hq
    have l1 := cast_le (show 1 ≤ S by omega)
    have l2 := cast_le hS
    have e1 : ((1 : Nat) : Rat) = 1 := by simp
    have e2 : ((39000 : Nat) : Rat) = 39000 := by simp
    rw [e1] at l1
    rw [e2] at l2
    generalize (S : Rat) = s at *
    obtain ⟨r, e, r1, r2, r3, r4⟩ := gsqrt_rel hq (by grind) (by grind)
    have h1 := sm_mul (e := s) (f := e) (p := 39000) (q := 5 * uu) ⟨by grind, by grind⟩ r4
    obtain ⟨c1, c2⟩ := h1
    obtain ⟨d1, d2⟩ := r4
    have e3 : r * r = s + s * e := by rw [r3]; grind
    refine ⟨r, .inr (sq_lo r2 (by grind) ?_), ?_, fun w hw => ?_⟩
    · have := Rat.mul_nonneg (show 0 ≤ s - 1 by grind) (show 0 ≤ 1 + e by grind)
      grind
    · exact sq_hi r2 (by grind) (by grind)
    · rw [gsqrt_read (D_read hw hSi (by omega))]; exact r1
end Go.Proofs.YtajpajggckappaaGreat
