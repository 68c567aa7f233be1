/-
  Floats that are whole numbers: what a test tells of them. Ours; it knows no program.
-/
import Derived.Test.YthobbfpoooommaaGreatSxW
import Derived.Test.YthobbfpoooommaaGreatSxQ
namespace Go.Sx
open Ieee (signed)
set_option linter.unusedVariables false
set_option linter.unusedSimpArgs false
set_option maxRecDepth 100000

theorem powcast (c n : Nat) : (c : Int) ^ n = ((c ^ n : Nat) : Int) := by simp

theorem powcast2 (n : Nat) : (2 : Int) ^ n = ((2 ^ n : Nat) : Int) := powcast 2 n

/-! ### how many bits -/

theorem iand_mask {a : Nat} {t : Nat} (ha : a < 2 ^ 64) (ht : t < 64) : iand .u64 (a : Int) ((2 ^ t - 1 : Nat) : Int) = ((a % 2 ^ t : Nat) : Int) := by
  have h1 := bv_nat64 a ha
  have hp : 2 ^ t < 2 ^ 64 := Nat.pow_lt_pow_right (by omega) ht
  have h2 := bv_nat64 (2 ^ t - 1) (by omega)
  unfold iand
  have e3 : (BitVec.ofInt IntKind.u64.bits (a : Int) &&& BitVec.ofInt IntKind.u64.bits ((2 ^ t - 1 : Nat) : Int)).toNat = a % 2 ^ t := by
    show (BitVec.ofInt 64 (a : Int) &&& BitVec.ofInt 64 ((2 ^ t - 1 : Nat) : Int)).toNat = _
    rw [BitVec.toNat_and, h1, h2, Nat.and_two_pow_sub_one_eq_mod]
  rw [e3]
  have h4 : a % 2 ^ t < 2 ^ t := Nat.mod_lt _ (Nat.two_pow_pos t)
  have h5 : a % 2 ^ t < 18446744073709551616 := by
    have : (2 : Nat) ^ 64 = 18446744073709551616 := by decide
    omega
  exact wrap_u64_id (by omega) (by omega)

theorem read_fields {x : Nat} (hx : x < 2 ^ 64) {s : Bool} {m : Nat} {q : Nat} (h : FloatKind.f64.format.read x = .number s m ((q : Int) - 1074)) :
    s = decide (x / 2 ^ 63 = 1) ∧ ((x / 2 ^ 52 % 2048 = 0 ∧ m = x % 2 ^ 52 ∧ q = 0) ∨ (0 < x / 2 ^ 52 % 2048 ∧ x / 2 ^ 52 % 2048 < 2047 ∧ m = 2 ^ 52 + x % 2 ^ 52 ∧ q + 1 = x / 2 ^ 52 % 2048)) := by
  rw [fmt_is] at h
  unfold Ieee.Format.read at h
  simp only [Go.Sx.sign_is, binade_is, inf_is, least_is] at h
  have hs : (x / 2 ^ 63 % 2 == 1) = decide (x / 2 ^ 63 = 1) := by
    have : x / 2 ^ 63 < 2 := by omega
    have e : x / 2 ^ 63 % 2 = x / 2 ^ 63 := by omega
    rw [e]; rfl
  rw [hs] at h
  split at h
  · rename_i h1
    simp only [Ieee.Datum.number.injEq] at h
    obtain ⟨h3, h4, h5⟩ := h
    refine ⟨h3.symm, .inl ⟨by omega, by omega, by omega⟩⟩
  · rename_i h1
    split at h
    · rename_i h2
      simp only [Ieee.Datum.number.injEq] at h
      obtain ⟨h3, h4, h5⟩ := h
      refine ⟨h3.symm, .inr ⟨by omega, by omega, by omega, by omega⟩⟩
    · split at h <;> cases h

theorem read_of_fields {E F : Nat} (h0 : 0 < E) (h1 : E < 2047) (hF : F < 2 ^ 52) : FloatKind.f64.format.read (E * 2 ^ 52 + F) = .number false (2 ^ 52 + F) (((E - 1 : Nat) : Int) - 1074) := by
  have hw : E * 2 ^ 52 + F = Ieee.double.word false (E * 2 ^ 52 + F) := by unfold Ieee.Format.word; simp
  rw [fmt_is, hw, read_word false _ (by omega), if_neg (by omega)]
  have e1 : (E * 2 ^ 52 + F) % 2 ^ 52 = F := by omega
  have e2 : (E * 2 ^ 52 + F) / 2 ^ 52 = E := by omega
  rw [e1, e2]
  congr 1

theorem D_fields {E F : Nat} (h0 : 0 < E) (h1 : E < 2047) (hF : F < 2 ^ 52) {n : Int} {v : Nat} (h : ((2 ^ 52 + F : Nat) : Int) * 2 ^ (E - 1) = n * 2 ^ v) : D (E * 2 ^ 52 + F) n v :=
  ⟨false, 2 ^ 52 + F, E - 1, read_of_fields h0 h1 hF, by rw [signed_eq]; simpa using h⟩

theorem D_zero (v : Nat) : D 0 0 v := ⟨false, 0, 0, by decide, by rw [signed_eq]; simp⟩

theorem D_one : D 4607182418800017408 1 1074 := by
  have := D_fields (E := 1023) (F := 0) (by omega) (by omega) (by omega) (n := 1) (v := 1074) (by
    rw [Int.one_mul, show (1074 : Nat) = 52 + (1023 - 1) from rfl, Int.pow_add]; rfl)
  exact this

theorem D_fneg {x : Nat} {a : Int} {v : Nat} (hx : x < 2 ^ 64) (h : D x a v) : D (fneg x) (-a) v := by
  obtain ⟨s, m, q, h1, h2⟩ := h
  refine ⟨!s, m, q, ?_, ?_⟩
  · rw [fmt_is] at h1 ⊢
    have hr := neg_rung x
    have hb : (fneg x / 2 ^ 63 % 2 == 1) = !(x / 2 ^ 63 % 2 == 1) := by
      have e : fneg x = x ^^^ 2 ^ 63 := rfl
      have t1 : (x ^^^ 2 ^ 63).testBit 63 = !(x.testBit 63) := by rw [Nat.testBit_xor, Nat.testBit_two_pow_self]; simp
      rw [Nat.testBit_eq_decide_div_mod_eq, Nat.testBit_eq_decide_div_mod_eq] at t1
      rw [e]; exact t1
    unfold Ieee.Format.read at h1 ⊢
    simp only [Go.Sx.sign_is, hr, hb] at h1 ⊢
    split
    · rename_i c
      rw [if_pos c] at h1
      simp only [Ieee.Datum.number.injEq] at h1 ⊢
      exact ⟨by rw [h1.1], h1.2⟩
    · rename_i c
      rw [if_neg c] at h1
      split
      · rename_i c2
        rw [if_pos c2] at h1
        simp only [Ieee.Datum.number.injEq] at h1 ⊢
        exact ⟨by rw [h1.1], h1.2⟩
      · rename_i c2
        rw [if_neg c2] at h1
        split at h1 <;> cases h1
  · rw [Int.neg_mul, ← h2, signed_eq, signed_eq]; cases s <;> simp

theorem signed_ite (s : Bool) (m q : Nat) : signed s m q = (if s then -(m : Int) else m) * 2 ^ q := by
  rw [signed_eq]; cases s <;> simp [Int.neg_mul]

theorem cut_zero (s : Bool) (n drop : Nat) : Ieee.Toward.zero.cut s n drop = n / 2 ^ drop := by
  unfold Ieee.Toward.cut
  simp only [Nat.shiftLeft_eq, Nat.one_mul, Bool.toNat_false, Nat.add_zero]
  by_cases h : drop ≤ n.log2 + 2
  · rw [Nat.min_eq_left h]
  · rw [Nat.min_eq_right (by omega)]
    have h1 : n < 2 ^ (n.log2 + 1) := Nat.lt_log2_self
    have h2 : (2 : Nat) ^ (n.log2 + 1) ≤ 2 ^ (n.log2 + 2) := Nat.pow_le_pow_right (by omega) (by omega)
    have h3 : (2 : Nat) ^ (n.log2 + 2) ≤ 2 ^ drop := Nat.pow_le_pow_right (by omega) (by omega)
    rw [Nat.div_eq_of_lt (by omega), Nat.div_eq_of_lt (by omega)]

theorem D_abs {x : Nat} (hx : x < 2 ^ 64) {s : Bool} {m q : Nat} (h : FloatKind.f64.format.read x = .number s m ((q : Int) - 1074)) : D (x % 2 ^ 63) (m : Int) q := by
  refine ⟨false, m, q, ?_, by rw [signed_eq]; simp⟩
  rw [fmt_is] at h ⊢
  unfold Ieee.Format.read at h ⊢
  simp only [Go.Sx.sign_is] at h ⊢
  have e1 : x % 2 ^ 63 % 2 ^ 63 = x % 2 ^ 63 := by omega
  have e2 : (x % 2 ^ 63 / 2 ^ 63 % 2 == 1) = false := by
    have : x % 2 ^ 63 / 2 ^ 63 = 0 := by omega
    rw [this]; rfl
  rw [e1, e2]
  split
  · rename_i c
    rw [if_pos c] at h
    simp only [Ieee.Datum.number.injEq] at h ⊢
    exact ⟨trivial, h.2⟩
  · rename_i c
    rw [if_neg c] at h
    split
    · rename_i c2
      rw [if_pos c2] at h
      simp only [Ieee.Datum.number.injEq] at h ⊢
      exact ⟨trivial, h.2⟩
    · rename_i c2
      rw [if_neg c2] at h
      split at h <;> cases h

theorem whole_one {x w : Nat} {b : Nat} (hx : x < 2 ^ 64) (hw : D w (b : Int) 1074) (h1 : fne x (gint .zero x) = false) (h2 : fgt (x % 2 ^ 63) w = false) (hb : b < 2 ^ 53) :
    ∃ n : Int, D x n 1074 ∧ n.natAbs ≤ b := by
  rw [fgt_flt] at h2
  cases hr : FloatKind.f64.format.read x with
  | nan s t =>
    exfalso
    have : FloatKind.f64.format.order x (gint .zero x) = none := order_nan (.inl (isn_datum.2 ⟨s, t, hr⟩))
    unfold fne at h1; rw [this] at h1; cases h1
  | infinity s =>
    exfalso
    obtain ⟨sw, mw, qw, hw1, hw2⟩ := hw
    have hinf : FloatKind.f64.format.read (x % 2 ^ 63) = .infinity false := by
      rw [fmt_is] at hr ⊢
      unfold Ieee.Format.read at hr ⊢
      simp only [Go.Sx.sign_is] at hr ⊢
      have e1 : x % 2 ^ 63 % 2 ^ 63 = x % 2 ^ 63 := by omega
      have e2 : (x % 2 ^ 63 / 2 ^ 63 % 2 == 1) = false := by
        have : x % 2 ^ 63 / 2 ^ 63 = 0 := by omega
        rw [this]; rfl
      rw [e1, e2]
      split
      · rename_i c; rw [if_pos c] at hr; cases hr
      · rename_i c
        rw [if_neg c] at hr
        split
        · rename_i c2; rw [if_pos c2] at hr; cases hr
        · rename_i c2
          rw [if_neg c2] at hr
          split
          · rfl
          · rename_i c3; rw [if_neg c3] at hr; cases hr
    unfold flt Ieee.Format.order at h2
    rw [hw1, hinf] at h2
    simp [Ieee.Datum.order] at h2
  | number s m i =>
    have hq : ∃ q : Nat, i = (q : Int) - 1074 := by
      rw [fmt_is] at hr
      unfold Ieee.Format.read at hr
      simp only [Go.Sx.sign_is, binade_is, inf_is, least_is] at hr
      split at hr
      · simp only [Ieee.Datum.number.injEq] at hr; exact ⟨0, by omega⟩
      · split at hr
        · simp only [Ieee.Datum.number.injEq] at hr
          exact ⟨_, by rw [← hr.2.2, Int.add_comm, ← Int.sub_eq_add_neg]⟩
        · split at hr <;> cases hr
    obtain ⟨q, rfl⟩ := hq
    have hm := mag_lt (x := x) (s := s) (m := m) (i := (q : Int) - 1074) hr
    have hDx : D x (if s then -(m : Int) else m) q := ⟨s, m, q, hr, by rw [signed_eq]; cases s <;> simp [Int.neg_mul]⟩
    have hDa := D_abs hx hr
    have hq2 : q ≤ 2045 := by
      obtain ⟨_, hf⟩ := read_fields hx hr
      rcases hf with ⟨_, _, c⟩ | ⟨_, a, _, c⟩ <;> omega
    by_cases hqle : 1074 ≤ q
    · obtain ⟨d, rfl⟩ : ∃ d, q = 1074 + d := ⟨q - 1074, by omega⟩
      have hDx' := hDx.scale
      have hDa' := hDa.scale
      rw [D_lt hw hDa'] at h2
      simp only [decide_eq_false_iff_not, Int.not_lt] at h2
      refine ⟨_, hDx', ?_⟩
      have : ((if s then -(m : Int) else m) * 2 ^ d).natAbs = ((m : Int) * 2 ^ d).natAbs := by cases s <;> simp [Int.natAbs_mul]
      have hP : 0 ≤ (m : Int) * 2 ^ d := Int.mul_nonneg (by omega) (Int.le_of_lt (Int.pow_pos (by omega)))
      rw [this]
      generalize (m : Int) * 2 ^ d = P at h2 hP ⊢
      omega
    · -- below the point there is nothing
      obtain ⟨d, hd⟩ : ∃ d, 1074 = q + d := ⟨1074 - q, by omega⟩
      obtain ⟨t, ht⟩ : ∃ t, m / 2 ^ d = t := ⟨_, rfl⟩
      have htl : t < 2 ^ 53 := by rw [← ht]; exact Nat.lt_of_le_of_lt (Nat.div_le_self _ _) hm
      have hg : gint .zero x = Ieee.double.write (.number s t (((1074 : Nat) : Int) - 1074)) := by
        unfold gint fint FloatKind.decode
        rw [hr]
        simp only [Option.getD_some, Ieee.Datum.integral]
        have e1 : ((q : Int) - 1074).toNat = 0 := by omega
        have e2 : (-((q : Int) - 1074)).toNat = d := by omega
        rw [e1, e2, Nat.shiftLeft_zero, cut_zero, ht]
        have e0 : ((1074 : Nat) : Int) - 1074 = 0 := by omega
        rw [e0]; rfl
      have hDg : D (gint .zero x) (if s then -(t : Int) else t) 1074 := by
        rw [hg]
        exact D_write (signed_ite s t 1074) (by cases s <;> simp <;> omega) (by omega)
      have hDg' : D (gint .zero x) ((if s then -(t : Int) else t) * 2 ^ d) q := by
        have := D.scale (v := q) (w := d) (by rw [← hd]; exact hDg)
        exact this
      rw [D_ne hDx hDg'] at h1
      have heq : (if s then -(m : Int) else m) = (if s then -(t : Int) else t) * 2 ^ d := by simpa using h1
      have hDx1 : D x (if s then -(t : Int) else t) 1074 := by
        obtain ⟨s', m', q', a1, a2⟩ := hDx
        refine ⟨s', m', q', a1, ?_⟩
        rw [a2, heq, Int.mul_assoc, ← Int.pow_add, hd, Nat.add_comm]
      refine ⟨_, hDx1, ?_⟩
      have hmt : (m : Int) = (t : Int) * 2 ^ d := by cases s <;> simp [Int.neg_mul] at heq ⊢ <;> omega
      have hDa1 : D (x % 2 ^ 63) (t : Int) 1074 := by
        obtain ⟨s', m', q', a1, a2⟩ := hDa
        refine ⟨s', m', q', a1, ?_⟩
        rw [a2, hmt, Int.mul_assoc, ← Int.pow_add, hd, Nat.add_comm]
      rw [D_lt hw hDa1] at h2
      simp only [decide_eq_false_iff_not, Int.not_lt] at h2
      cases s <;> simp <;> omega

/-! #### a whole number from -b to b, by three comparisons -/
theorem D_gt {x y : Nat} {a b : Int} {v : Nat} (hx : D x a v) (hy : D y b v) : fgt x y = decide (b < a) := by rw [fgt_flt]; exact D_lt hy hx
theorem gsub_D {x y : Nat} {a b c : Int} {v : Nat} (hx : D x a v) (hy : D y b v) (hc : a - b = c) (hn : c.natAbs ≤ 2 ^ 53) (hv : v ≤ 2044) : D (gsub x y) c v := by
  obtain ⟨z, h1, h2⟩ := D_sub hx hy hc hn hv; unfold gsub; rw [h1]; exact h2
theorem gmul_D {x y : Nat} {a b c : Int} {v w u : Nat} (hx : D x a v) (hy : D y b w) (hc : a * b = c) (hu : v + w = u + 1074) (hu2 : 104 ≤ u) (hn : c.natAbs ≤ 2 ^ 53) (hv : u ≤ 2044) : D (gmul x y) c u := by
  obtain ⟨z, h1, h2⟩ := D_mul hx hy hc hu hu2 hn hv; unfold gmul; rw [h1]; exact h2
theorem D_two (k : Nat) (h : k ≤ 900) : D ((1023 + k) * 2 ^ 52) (((2 ^ k : Nat) : Int)) 1074 := by
  have := D_fields (E := 1023 + k) (F := 0) (by omega) (by omega) (by omega) (n := ((2 ^ k : Nat) : Int)) (v := 1074) (by
    rw [← powcast2 k, ← Int.pow_add, show ((2 ^ 52 + 0 : Nat) : Int) = 2 ^ 52 from rfl, ← Int.pow_add]
    congr 1; omega)
  simpa using this

/-! #### a half -/
theorem gdiv_lt (x y : Nat) : gdiv x y < 2 ^ 64 := by
  unfold gdiv fdiv Ieee.Format.div
  cases hq : (FloatKind.f64.format.read x).quotient (FloatKind.f64.format.fractionBits + 2) (FloatKind.f64.format.read y) with
  | none => show qn < _; unfold qn; omega
  | some d =>
    show FloatKind.f64.format.write d < _
    rcases write_lt d with h | h
    · exact h
    · exfalso
      revert hq h
      unfold Ieee.Datum.quotient
      intro hq h
      have key : ∀ e : Option Ieee.Datum, e = some d → (∀ d', e = some d' → d'.isNaN = false) → False := fun e he hk => by
        have := hk d he
        rw [h] at this; cases this
      refine key _ hq fun d' hd' => ?_
      split at hd'
      all_goals first
        | (cases hd'; done)
        | (cases hd'; rfl)
        | (split at hd'
           · split at hd'
             · cases hd'
             · cases hd'; rfl
           · cases hd'; rfl)

end Go.Sx
