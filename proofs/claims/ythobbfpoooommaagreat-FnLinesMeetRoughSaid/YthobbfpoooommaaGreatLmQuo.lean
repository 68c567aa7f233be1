/-
  A quotient of two whole numbers as a float: below 0, above 1. Ours.
-/
import Derived.Test.YthobbfpoooommaaGreatQCmp
import Derived.Test.YthobbfpoooommaaGreatDivAbs
namespace Go.Proofs.YthobbfpoooommaaGreat
open Go.Sx
open Ieee (signed)
set_option linter.unusedVariables false
set_option linter.unusedSimpArgs false
set_option maxRecDepth 100000

theorem read_neg {x : Nat} {s : Bool} {m : Nat} {i : Int} (h1 : FloatKind.f64.format.read x = .number s m i) : FloatKind.f64.format.read (fneg x) = .number (!s) m i := by
  rw [fmt_is] at h1 ⊢
  have hr := neg_rung x
  have hb : (fneg x / 2 ^ 63 % 2 == 1) = !(x / 2 ^ 63 % 2 == 1) := by
    have e : fneg x = x ^^^ 2 ^ 63 := rfl
    have t1 : (x ^^^ 2 ^ 63).testBit 63 = !(x.testBit 63) := by rw [Nat.testBit_xor, Nat.testBit_two_pow_self]; simp
    rw [Nat.testBit_eq_decide_div_mod_eq, Nat.testBit_eq_decide_div_mod_eq] at t1
    rw [e]; exact t1
  unfold Ieee.Format.read at h1 ⊢
  simp only [Go.Sx.sign_is, hr, hb] at h1 ⊢
  split
  · rename_i c
    rw [if_pos c] at h1
    simp only [Ieee.Datum.number.injEq] at h1 ⊢
    exact ⟨by rw [h1.1], h1.2⟩
  · rename_i c
    rw [if_neg c] at h1
    split
    · rename_i c2
      rw [if_pos c2] at h1
      simp only [Ieee.Datum.number.injEq] at h1 ⊢
      exact ⟨by rw [h1.1], h1.2⟩
    · rename_i c2
      rw [if_neg c2] at h1
      split at h1 <;> cases h1
theorem gdiv_flip {x y : Nat} {a b : Int} {v w : Nat} (hx : D x a v) (hy : D y b w) : gdiv (fneg x) (fneg y) = gdiv x y := by
  obtain ⟨s, m, q, h1, _⟩ := hx
  obtain ⟨t, n, r, h2, _⟩ := hy
  unfold gdiv fdiv Ieee.Format.div
  rw [read_neg h1, read_neg h2, h1, h2]
  simp only [Ieee.Datum.quotient]
  have e : (!s ^^ !t) = (s ^^ t) := by cases s <;> cases t <;> rfl
  rw [e]
theorem fdiv_ok {x y : Nat} {f : Rat} (h : Q (gdiv x y) f) : fdiv x y = some (gdiv x y) := by
  cases hd : fdiv x y with
  | some z => unfold gdiv; rw [hd]; rfl
  | none =>
    have e : gdiv x y = qn := by unfold gdiv; rw [hd]; rfl
    rw [e] at h
    have := num_q h
    exact absurd this (by decide)
theorem one_lt_q (e : Nat) (he : Un = (2 : Rat) ^ e) {f : Rat} {M : Int} (h : (M : Rat) = f * Un) : (1 < f ↔ ((2 ^ e : Nat) : Int) < M) ∧ (f < 0 ↔ M < 0) := by
  have hU := Un_pos
  have e1 : ((((2 ^ e : Nat) : Int)) : Rat) = 1 * Un := by
    rw [Rat.one_mul, Rat.intCast_natCast, castpow, he]
  exact ⟨(q_lt e1 h).symm, (q_lt (m := M) (n := 0) (a := f) (b := 0) h (by rw [Rat.zero_mul]; rfl)).symm⟩
theorem div_un (M : Int) : (M : Rat) = (M : Rat) / Un * Un := by
  have := Un_pos
  grind
theorem pow_split (e f : Nat) (h : e = 16 + f) : (2 : Nat) ^ e = 65536 * 2 ^ f := by subst h; rw [Nat.pow_add]
theorem quo_pos {x y : Nat} {p : Int} {b : Nat} (dx : D x p 1074) (dy : D y (b : Int) 1074) (hb : 0 < b) (hb2 : b ≤ 65536) (hp : p.natAbs ≤ 65536) :
    ∃ f : Rat, Q (gdiv x y) f ∧ (f < 0 ↔ p < 0) ∧ (1 < f ↔ (b : Int) < p) := by
  obtain ⟨N, n1, n2, n3, n4⟩ := gdiv_near dx dy (Nat.le_trans hp (by decide)) hb (Nat.lt_of_le_of_lt hb2 (Nat.lt_of_lt_of_le (show 65536 < 2 ^ 17 by decide) (pow_le2 17 1000 (by omega))))
  have hP : (2 : Nat) ^ 1074 = 65536 * 2 ^ 1058 := pow_split 1074 1058 rfl
  have hPpos := Nat.two_pow_pos 1058
  have m1 := n4 1 1058 (by decide)
  have m2 := n3 1 1074 (by decide)
  have m3 := n4 65537 1058 (by decide)
  have hex : ∃ M : Int, D (gdiv x y) M 0 ∧ ((p < 0 ∧ M = -(N : Int)) ∨ (0 ≤ p ∧ M = N)) := by
    by_cases h : p < 0
    · exact ⟨_, n1 h, .inl ⟨h, rfl⟩⟩
    · exact ⟨_, n2 (Int.not_lt.1 h), .inr ⟨Int.not_lt.1 h, rfl⟩⟩
  obtain ⟨M, hM, hc⟩ := hex
  have hU := Un_pos
  refine ⟨(M : Rat) / Un, ⟨M, hM, div_un M⟩, ?_⟩
  obtain ⟨k1, k2⟩ := one_lt_q 1074 rfl (f := (M : Rat) / Un) (M := M) (div_un M)
  rw [k1, k2]
  rw [hP] at m1 m2 m3 ⊢
  clear n1 n2 n3 n4 k1 k2 hM hP
  generalize (2 : Nat) ^ 1058 = P at *
  constructor
  · rcases hc with ⟨h, rfl⟩ | ⟨h, rfl⟩
    · have : 1 * P * b ≤ p.natAbs * (65536 * P) := by
        have h1 : b ≤ p.natAbs * 65536 := by omega
        have := Nat.mul_le_mul_right P h1
        rw [Nat.one_mul, Nat.mul_comm P b]
        rw [Nat.mul_assoc] at this; exact this
      have := m1 this
      omega
    · omega
  · rcases hc with ⟨h, rfl⟩ | ⟨h, rfl⟩
    · omega
    · constructor
      · intro h1
        apply Classical.byContradiction
        intro h2
        have : p.natAbs * (65536 * P) ≤ 1 * (65536 * P) * b := by
          have h3 : p.natAbs ≤ b := by omega
          have := Nat.mul_le_mul_right (65536 * P) h3
          rw [Nat.one_mul, Nat.mul_comm (65536 * P) b]; exact this
        have := m2 this
        omega
      · intro h1
        have : 65537 * P * b ≤ p.natAbs * (65536 * P) := by
          have h3 : 65537 * b ≤ p.natAbs * 65536 := by omega
          have := Nat.mul_le_mul_right P h3
          rw [Nat.mul_assoc, Nat.mul_comm P b, ← Nat.mul_assoc]
          rw [Nat.mul_assoc p.natAbs] at this; exact this
        have := m3 this
        omega
theorem quo_cmp {x y : Nat} {p q : Int} (hx : x < 2 ^ 64) (hy : y < 2 ^ 64) (dx : D x p 1074) (dy : D y q 1074) (hq0 : q ≠ 0) (hq : q.natAbs ≤ 65536) (hp : p.natAbs ≤ 65536) :
    ∃ f : Rat, Q (gdiv x y) f ∧ (f < 0 ↔ p * q < 0) ∧ (1 < f ↔ q * q < p * q) := by
  have pos : ∀ {r a : Int}, 0 < r → (a * r < 0 ↔ a < 0) ∧ (r * r < a * r ↔ r < a) := by
    intro r a hr
    constructor
    · constructor
      · intro h
        apply Classical.byContradiction
        intro h'
        have := Int.mul_nonneg (Int.not_lt.1 h') (Int.le_of_lt hr)
        omega
      · exact fun h => Int.mul_neg_of_neg_of_pos h hr
    · constructor
      · intro h
        exact Int.lt_of_mul_lt_mul_right h (Int.le_of_lt hr)
      · exact fun h => Int.mul_lt_mul_of_pos_right h hr
  rcases Int.lt_or_lt_of_ne hq0 with h | h
  · have h2 : D (fneg y) ((q.natAbs : Nat) : Int) 1074 := by
      have := D_fneg hy dy
      rwa [show -q = ((q.natAbs : Nat) : Int) by omega] at this
    obtain ⟨f, f1, f2, f3⟩ := quo_pos (D_fneg hx dx) h2 (by omega) hq (by omega)
    rw [gdiv_flip dx dy] at f1
    have e1 : p * q = -p * ((q.natAbs : Nat) : Int) := by rw [show ((q.natAbs : Nat) : Int) = -q by omega]; grind
    have e2 : q * q = ((q.natAbs : Nat) : Int) * ((q.natAbs : Nat) : Int) := by rw [show ((q.natAbs : Nat) : Int) = -q by omega]; grind
    obtain ⟨g1, g2⟩ := pos (r := ((q.natAbs : Nat) : Int)) (a := -p) (by omega)
    exact ⟨f, f1, by rw [f2, e1, g1], by rw [f3, e1, e2, g2]⟩
  · have h2 : D y ((q.natAbs : Nat) : Int) 1074 := by rwa [show ((q.natAbs : Nat) : Int) = q by omega]
    obtain ⟨f, f1, f2, f3⟩ := quo_pos dx h2 (by omega) hq (by omega)
    rw [show ((q.natAbs : Nat) : Int) = q by omega] at f3
    obtain ⟨g1, g2⟩ := pos (r := q) (a := p) h
    exact ⟨f, f1, by rw [f2, g1], by rw [f3, g2]⟩
end Go.Proofs.YthobbfpoooommaaGreat
