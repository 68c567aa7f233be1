/-
  Floats that are whole numbers: what a test tells of them. Ours; it knows no program.
-/
import Derived.Test.YtjgpiealnfbkcaaSxW
import Derived.Test.YtjgpiealnfbkcaaSxQ
namespace Go.Sx
open Ieee (signed)
set_option linter.unusedVariables false
set_option linter.unusedSimpArgs false
set_option maxRecDepth 100000

theorem powcast (c n : Nat) : (c : Int) ^ n = ((c ^ n : Nat) : Int) := by simp

theorem powcast2 (n : Nat) : (2 : Int) ^ n = ((2 ^ n : Nat) : Int) := powcast 2 n

/-! ### how many bits -/

theorem read_of_fields {E F : Nat} (h0 : 0 < E) (h1 : E < 2047) (hF : F < 2 ^ 52) : FloatKind.f64.format.read (E * 2 ^ 52 + F) = .number false (2 ^ 52 + F) (((E - 1 : Nat) : Int) - 1074) := by
  have hw : E * 2 ^ 52 + F = Ieee.double.word false (E * 2 ^ 52 + F) := by unfold Ieee.Format.word; simp
  rw [fmt_is, hw, read_word false _ (by omega), if_neg (by omega)]
  have e1 : (E * 2 ^ 52 + F) % 2 ^ 52 = F := by omega
  have e2 : (E * 2 ^ 52 + F) / 2 ^ 52 = E := by omega
  rw [e1, e2]
  congr 1

theorem D_fields {E F : Nat} (h0 : 0 < E) (h1 : E < 2047) (hF : F < 2 ^ 52) {n : Int} {v : Nat} (h : ((2 ^ 52 + F : Nat) : Int) * 2 ^ (E - 1) = n * 2 ^ v) : D (E * 2 ^ 52 + F) n v :=
  ⟨false, 2 ^ 52 + F, E - 1, read_of_fields h0 h1 hF, by rw [signed_eq]; simpa using h⟩

theorem D_zero (v : Nat) : D 0 0 v := ⟨false, 0, 0, by decide, by rw [signed_eq]; simp⟩

theorem D_fneg {x : Nat} {a : Int} {v : Nat} (hx : x < 2 ^ 64) (h : D x a v) : D (fneg x) (-a) v := by
  obtain ⟨s, m, q, h1, h2⟩ := h
  refine ⟨!s, m, q, ?_, ?_⟩
  · rw [fmt_is] at h1 ⊢
    have hr := neg_rung x
    have hb : (fneg x / 2 ^ 63 % 2 == 1) = !(x / 2 ^ 63 % 2 == 1) := by
      have e : fneg x = x ^^^ 2 ^ 63 := rfl
      have t1 : (x ^^^ 2 ^ 63).testBit 63 = !(x.testBit 63) := by rw [Nat.testBit_xor, Nat.testBit_two_pow_self]; simp
      rw [Nat.testBit_eq_decide_div_mod_eq, Nat.testBit_eq_decide_div_mod_eq] at t1
      rw [e]; exact t1
    unfold Ieee.Format.read at h1 ⊢
    simp only [Go.Sx.sign_is, hr, hb] at h1 ⊢
    split
    · rename_i c
      rw [if_pos c] at h1
      simp only [Ieee.Datum.number.injEq] at h1 ⊢
      exact ⟨by rw [h1.1], h1.2⟩
    · rename_i c
      rw [if_neg c] at h1
      split
      · rename_i c2
        rw [if_pos c2] at h1
        simp only [Ieee.Datum.number.injEq] at h1 ⊢
        exact ⟨by rw [h1.1], h1.2⟩
      · rename_i c2
        rw [if_neg c2] at h1
        split at h1 <;> cases h1
  · rw [Int.neg_mul, ← h2, signed_eq, signed_eq]; cases s <;> simp

theorem signed_ite (s : Bool) (m q : Nat) : signed s m q = (if s then -(m : Int) else m) * 2 ^ q := by
  rw [signed_eq]; cases s <;> simp [Int.neg_mul]

theorem cut_zero (s : Bool) (n drop : Nat) : Ieee.Toward.zero.cut s n drop = n / 2 ^ drop := by
  unfold Ieee.Toward.cut
  simp only [Nat.shiftLeft_eq, Nat.one_mul, Bool.toNat_false, Nat.add_zero]
  by_cases h : drop ≤ n.log2 + 2
  · rw [Nat.min_eq_left h]
  · rw [Nat.min_eq_right (by omega)]
    have h1 : n < 2 ^ (n.log2 + 1) := Nat.lt_log2_self
    have h2 : (2 : Nat) ^ (n.log2 + 1) ≤ 2 ^ (n.log2 + 2) := Nat.pow_le_pow_right (by omega) (by omega)
    have h3 : (2 : Nat) ^ (n.log2 + 2) ≤ 2 ^ drop := Nat.pow_le_pow_right (by omega) (by omega)
    rw [Nat.div_eq_of_lt (by omega), Nat.div_eq_of_lt (by omega)]

theorem fle_read {x w : Nat} {b : Int} {v : Nat} (hw : D w b v) (h : fle x w = true) : (∃ s m i, FloatKind.f64.format.read x = .number s m i) ∨ FloatKind.f64.format.read x = .infinity true := by
  obtain ⟨sw, mw, qw, hw1, hw2⟩ := hw
  unfold fle Ieee.Format.order at h
  rw [hw1] at h
  cases hr : FloatKind.f64.format.read x with
  | nan s t => rw [hr] at h; cases h
  | infinity s => cases s with
    | true => exact .inr rfl
    | false => rw [hr] at h; simp [Ieee.Datum.order] at h
  | number s m i => exact .inl ⟨s, m, i, rfl⟩
theorem fge_read {x w : Nat} {b : Int} {v : Nat} (hw : D w b v) (h : fge x w = true) : (∃ s m i, FloatKind.f64.format.read x = .number s m i) ∨ FloatKind.f64.format.read x = .infinity false := by
  obtain ⟨sw, mw, qw, hw1, hw2⟩ := hw
  unfold fge Ieee.Format.order at h
  rw [hw1] at h
  cases hr : FloatKind.f64.format.read x with
  | nan s t => rw [hr] at h; cases h
  | infinity s => cases s with
    | false => exact .inr rfl
    | true => rw [hr] at h; simp [Ieee.Datum.order] at h
  | number s m i => exact .inl ⟨s, m, i, rfl⟩
theorem whole_num {x : Nat} {s : Bool} {m : Nat} {i : Int} (hx : x < 2 ^ 64) (hr : FloatKind.f64.format.read x = .number s m i) (h1 : fne x (gint .zero x) = false) : ∃ n : Int, D x n 1074 := by
  have hq : ∃ q : Nat, i = (q : Int) - 1074 := by
    rw [fmt_is] at hr
    unfold Ieee.Format.read at hr
    simp only [Go.Sx.sign_is, binade_is, inf_is, least_is] at hr
    split at hr
    · simp only [Ieee.Datum.number.injEq] at hr; exact ⟨0, by omega⟩
    · split at hr
      · simp only [Ieee.Datum.number.injEq] at hr
        exact ⟨_, by rw [← hr.2.2, Int.add_comm, ← Int.sub_eq_add_neg]⟩
      · split at hr <;> cases hr
  obtain ⟨q, rfl⟩ := hq
  have hm := mag_lt (x := x) (s := s) (m := m) (i := (q : Int) - 1074) hr
  have hDx : D x (if s then -(m : Int) else m) q := ⟨s, m, q, hr, by rw [signed_eq]; cases s <;> simp [Int.neg_mul]⟩
  by_cases hqle : 1074 ≤ q
  · obtain ⟨d, rfl⟩ : ∃ d, q = 1074 + d := ⟨q - 1074, by omega⟩
    exact ⟨_, hDx.scale⟩
  · obtain ⟨d, hd⟩ : ∃ d, 1074 = q + d := ⟨1074 - q, by omega⟩
    obtain ⟨t, ht⟩ : ∃ t, m / 2 ^ d = t := ⟨_, rfl⟩
    have htl : t < 2 ^ 53 := by rw [← ht]; exact Nat.lt_of_le_of_lt (Nat.div_le_self _ _) hm
    have hg : gint .zero x = Ieee.double.write (.number s t (((1074 : Nat) : Int) - 1074)) := by
      unfold gint fint FloatKind.decode
      rw [hr]
      simp only [Option.getD_some, Ieee.Datum.integral]
      have e1 : ((q : Int) - 1074).toNat = 0 := by omega
      have e2 : (-((q : Int) - 1074)).toNat = d := by omega
      rw [e1, e2, Nat.shiftLeft_zero, cut_zero, ht]
      have e0 : ((1074 : Nat) : Int) - 1074 = 0 := by omega
      rw [e0]; rfl
    have hDg : D (gint .zero x) (if s then -(t : Int) else t) 1074 := by
      rw [hg]
      exact D_write (signed_ite s t 1074) (by cases s <;> simp <;> omega) (by omega)
    have hDg' : D (gint .zero x) ((if s then -(t : Int) else t) * 2 ^ d) q := D.scale (v := q) (w := d) (by rw [← hd]; exact hDg)
    rw [D_ne hDx hDg'] at h1
    have heq : (if s then -(m : Int) else m) = (if s then -(t : Int) else t) * 2 ^ d := by simpa using h1
    refine ⟨if s then -(t : Int) else t, ?_⟩
    obtain ⟨s', m', q', a1, a2⟩ := hDx
    refine ⟨s', m', q', a1, ?_⟩
    rw [a2, heq, Int.mul_assoc, ← Int.pow_add, hd, Nat.add_comm]
theorem D_ge {x y : Nat} {a b : Int} {v : Nat} (hx : D x a v) (hy : D y b v) : fge x y = decide (b ≤ a) := by rw [fge_fle]; exact D_le hy hx
theorem grid_one {x w : Nat} {b : Nat} (hx : x < 2 ^ 64) (hwl : w < 2 ^ 64) (hw : D w (b : Int) 1074) (h1 : fge x (fneg w) = true) (h2 : fle x w = true) (h3 : fne x (gint .zero x) = false) : ∃ n : Int, D x n 1074 ∧ n.natAbs ≤ b := by
  have hw' := D_fneg hwl hw
  have hfin : ∃ s m i, FloatKind.f64.format.read x = .number s m i := by
    rcases fle_read hw h2 with h | h
    · exact h
    · rcases fge_read hw' h1 with h' | h'
      · exact h'
      · rw [h] at h'; cases h'
  obtain ⟨s, m, i, hr⟩ := hfin
  obtain ⟨n, hn⟩ := whole_num hx hr h3
  refine ⟨n, hn, ?_⟩
  rw [D_le hn hw] at h2
  rw [D_ge hn hw'] at h1
  simp only [decide_eq_true_eq] at h1 h2
  omega
theorem D_two (k : Nat) (h : k ≤ 900) : D ((1023 + k) * 2 ^ 52) (((2 ^ k : Nat) : Int)) 1074 := by
  have := D_fields (E := 1023 + k) (F := 0) (by omega) (by omega) (by omega) (n := ((2 ^ k : Nat) : Int)) (v := 1074) (by
    rw [← powcast2 k, ← Int.pow_add, show ((2 ^ 52 + 0 : Nat) : Int) = 2 ^ 52 from rfl, ← Int.pow_add]
    congr 1; omega)
  simpa using this

/-! #### a half -/
end Go.Sx
