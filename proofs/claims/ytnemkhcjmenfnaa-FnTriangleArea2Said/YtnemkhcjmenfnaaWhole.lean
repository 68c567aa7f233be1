/-
  What the laws ask of their numbers: whole, and not above a bound. Ours.
-/
import Derived.Test.YtnemkhcjmenfnaaExact6
namespace Go.Proofs.Ytnemkhcjmenfnaa
open Go.Sx
open Ieee (signed)
set_option linter.unusedVariables false
set_option linter.unusedSimpArgs false
set_option maxRecDepth 100000

theorem signed_ite (s : Bool) (m q : Nat) : signed s m q = (if s then -(m : Int) else m) * 2 ^ q := by
  rw [signed_eq]; cases s <;> simp [Int.neg_mul]

theorem cut_zero (s : Bool) (n drop : Nat) : Ieee.Toward.zero.cut s n drop = n / 2 ^ drop := by
  unfold Ieee.Toward.cut
  simp only [Nat.shiftLeft_eq, Nat.one_mul, Bool.toNat_false, Nat.add_zero]
  by_cases h : drop ≤ n.log2 + 2
  · rw [Nat.min_eq_left h]
  · rw [Nat.min_eq_right (by omega)]
    have h1 : n < 2 ^ (n.log2 + 1) := Nat.lt_log2_self
    have h2 : (2 : Nat) ^ (n.log2 + 1) ≤ 2 ^ (n.log2 + 2) := Nat.pow_le_pow_right (by omega) (by omega)
    have h3 : (2 : Nat) ^ (n.log2 + 2) ≤ 2 ^ drop := Nat.pow_le_pow_right (by omega) (by omega)
    rw [Nat.div_eq_of_lt (by omega), Nat.div_eq_of_lt (by omega)]

/-- the greatest one that is asked, as a word: a whole number -/
theorem abs_is (k x : Nat) (hx : x < 2 ^ 64) : math_Abs k x = some (x % 2 ^ 63) := by
  have h1 := bv_nat64 x hx
  have e : iandn .u64 (x : Int) 9223372036854775808 = ((x % 2 ^ 63 : Nat) : Int) := by
    unfold iandn
    have e3 : (BitVec.ofInt IntKind.u64.bits (x : Int) &&& ~~~ BitVec.ofInt IntKind.u64.bits 9223372036854775808).toNat = x % 2 ^ 63 := by
      show (BitVec.ofInt 64 (x : Int) &&& ~~~ BitVec.ofInt 64 9223372036854775808).toNat = _
      rw [BitVec.toNat_and, h1, show (~~~ BitVec.ofInt 64 9223372036854775808).toNat = 2 ^ 63 - 1 from by decide, Nat.and_two_pow_sub_one_eq_mod]
    rw [e3]; exact wrap_u64_id (by omega) (by omega)
  unfold math_Abs ffrom
  rw [show fbits x = (x : Int) from rfl, e, Int.toNat_natCast]

theorem D_abs {x : Nat} (hx : x < 2 ^ 64) {s : Bool} {m q : Nat} (h : FloatKind.f64.format.read x = .number s m ((q : Int) - 1074)) : D (x % 2 ^ 63) (m : Int) q := by
  refine ⟨false, m, q, ?_, by rw [signed_eq]; simp⟩
  rw [fmt_is] at h ⊢
  unfold Ieee.Format.read at h ⊢
  simp only [Go.Sx.sign_is] at h ⊢
  have e1 : x % 2 ^ 63 % 2 ^ 63 = x % 2 ^ 63 := by omega
  have e2 : (x % 2 ^ 63 / 2 ^ 63 % 2 == 1) = false := by
    have : x % 2 ^ 63 / 2 ^ 63 = 0 := by omega
    rw [this]; rfl
  rw [e1, e2]
  split
  · rename_i c
    rw [if_pos c] at h
    simp only [Ieee.Datum.number.injEq] at h ⊢
    exact ⟨trivial, h.2⟩
  · rename_i c
    rw [if_neg c] at h
    split
    · rename_i c2
      rw [if_pos c2] at h
      simp only [Ieee.Datum.number.injEq] at h ⊢
      exact ⟨trivial, h.2⟩
    · rename_i c2
      rw [if_neg c2] at h
      split at h <;> cases h

/-- a number that is whole and not above the bound b (a word of the bound: w) -/
theorem whole_one {x w : Nat} {b : Nat} (hx : x < 2 ^ 64) (hw : D w (b : Int) 1074) (h1 : fne x (gint .zero x) = false) (h2 : fgt (x % 2 ^ 63) w = false) (hb : b < 2 ^ 53) :
    ∃ n : Int, D x n 1074 ∧ n.natAbs ≤ b := by
  rw [fgt_flt] at h2
  cases hr : FloatKind.f64.format.read x with
  | nan s t =>
    exfalso
    have : FloatKind.f64.format.order x (gint .zero x) = none := order_nan (.inl (isn_datum.2 ⟨s, t, hr⟩))
    unfold fne at h1; rw [this] at h1; cases h1
  | infinity s =>
    exfalso
    obtain ⟨sw, mw, qw, hw1, hw2⟩ := hw
    have hinf : FloatKind.f64.format.read (x % 2 ^ 63) = .infinity false := by
      rw [fmt_is] at hr ⊢
      unfold Ieee.Format.read at hr ⊢
      simp only [Go.Sx.sign_is] at hr ⊢
      have e1 : x % 2 ^ 63 % 2 ^ 63 = x % 2 ^ 63 := by omega
      have e2 : (x % 2 ^ 63 / 2 ^ 63 % 2 == 1) = false := by
        have : x % 2 ^ 63 / 2 ^ 63 = 0 := by omega
        rw [this]; rfl
      rw [e1, e2]
      split
      · rename_i c; rw [if_pos c] at hr; cases hr
      · rename_i c
        rw [if_neg c] at hr
        split
        · rename_i c2; rw [if_pos c2] at hr; cases hr
        · rename_i c2
          rw [if_neg c2] at hr
          split
          · rfl
          · rename_i c3; rw [if_neg c3] at hr; cases hr
    unfold flt Ieee.Format.order at h2
    rw [hw1, hinf] at h2
    simp [Ieee.Datum.order] at h2
  | number s m i =>
    have hq : ∃ q : Nat, i = (q : Int) - 1074 := by
      rw [fmt_is] at hr
      unfold Ieee.Format.read at hr
      simp only [Go.Sx.sign_is, binade_is, inf_is, least_is] at hr
      split at hr
      · simp only [Ieee.Datum.number.injEq] at hr; exact ⟨0, by omega⟩
      · split at hr
        · simp only [Ieee.Datum.number.injEq] at hr
          exact ⟨_, by rw [← hr.2.2, Int.add_comm, ← Int.sub_eq_add_neg]⟩
        · split at hr <;> cases hr
    obtain ⟨q, rfl⟩ := hq
    have hm := mag_lt (x := x) (s := s) (m := m) (i := (q : Int) - 1074) hr
    have hDx : D x (if s then -(m : Int) else m) q := ⟨s, m, q, hr, by rw [signed_eq]; cases s <;> simp [Int.neg_mul]⟩
    have hDa := D_abs hx hr
    have hq2 : q ≤ 2045 := by
      obtain ⟨_, hf⟩ := read_fields hx hr
      rcases hf with ⟨_, _, c⟩ | ⟨_, a, _, c⟩ <;> omega
    by_cases hqle : 1074 ≤ q
    · obtain ⟨d, rfl⟩ : ∃ d, q = 1074 + d := ⟨q - 1074, by omega⟩
      have hDx' := hDx.scale
      have hDa' := hDa.scale
      rw [D_lt hw hDa'] at h2
      simp only [decide_eq_false_iff_not, Int.not_lt] at h2
      refine ⟨_, hDx', ?_⟩
      have : ((if s then -(m : Int) else m) * 2 ^ d).natAbs = ((m : Int) * 2 ^ d).natAbs := by cases s <;> simp [Int.natAbs_mul]
      have hP : 0 ≤ (m : Int) * 2 ^ d := Int.mul_nonneg (by omega) (Int.le_of_lt (Int.pow_pos (by omega)))
      rw [this]
      generalize (m : Int) * 2 ^ d = P at h2 hP ⊢
      omega
    · -- below the point there is nothing
      obtain ⟨d, hd⟩ : ∃ d, 1074 = q + d := ⟨1074 - q, by omega⟩
      obtain ⟨t, ht⟩ : ∃ t, m / 2 ^ d = t := ⟨_, rfl⟩
      have htl : t < 2 ^ 53 := by rw [← ht]; exact Nat.lt_of_le_of_lt (Nat.div_le_self _ _) hm
      have hg : gint .zero x = Ieee.double.write (.number s t (((1074 : Nat) : Int) - 1074)) := by
        unfold gint fint FloatKind.decode
        rw [hr]
        simp only [Option.getD_some, Ieee.Datum.integral]
        have e1 : ((q : Int) - 1074).toNat = 0 := by omega
        have e2 : (-((q : Int) - 1074)).toNat = d := by omega
        rw [e1, e2, Nat.shiftLeft_zero, cut_zero, ht]
        have e0 : ((1074 : Nat) : Int) - 1074 = 0 := by omega
        rw [e0]; rfl
      have hDg : D (gint .zero x) (if s then -(t : Int) else t) 1074 := by
        rw [hg]
        exact D_write (signed_ite s t 1074) (by cases s <;> simp <;> omega) (by omega)
      have hDg' : D (gint .zero x) ((if s then -(t : Int) else t) * 2 ^ d) q := by
        have := D.scale (v := q) (w := d) (by rw [← hd]; exact hDg)
        exact this
      rw [D_ne hDx hDg'] at h1
      have heq : (if s then -(m : Int) else m) = (if s then -(t : Int) else t) * 2 ^ d := by simpa using h1
      have hDx1 : D x (if s then -(t : Int) else t) 1074 := by
        obtain ⟨s', m', q', a1, a2⟩ := hDx
        refine ⟨s', m', q', a1, ?_⟩
        rw [a2, heq, Int.mul_assoc, ← Int.pow_add, hd, Nat.add_comm]
      refine ⟨_, hDx1, ?_⟩
      have hmt : (m : Int) = (t : Int) * 2 ^ d := by cases s <;> simp [Int.neg_mul] at heq ⊢ <;> omega
      have hDa1 : D (x % 2 ^ 63) (t : Int) 1074 := by
        obtain ⟨s', m', q', a1, a2⟩ := hDa
        refine ⟨s', m', q', a1, ?_⟩
        rw [a2, hmt, Int.mul_assoc, ← Int.pow_add, hd, Nat.add_comm]
      rw [D_lt hw hDa1] at h2
      simp only [decide_eq_false_iff_not, Int.not_lt] at h2
      cases s <;> simp <;> omega

/-- laws.wholeTo: it always answers; where it says yes, all are whole and not above the bound -/
theorem wholeTo_loop (w : Nat) (b : Nat) (hw : D w (b : Int) 1074) (hb : b < 2 ^ 53) (xs : List Nat) (hx : ∀ x ∈ xs, x < 2 ^ 64) (hl : xs.length < 1000000) : ∀ (n k i : Nat), xs.length - i = n → n < k → i ≤ xs.length →
    ∃ y, laws_wholeTo_l1 xs w k (i : Int) = some y ∧ (y = .inr () → ∀ j x, i ≤ j → xs[j]? = some x → ∃ n : Int, D x n 1074 ∧ n.natAbs ≤ b) := by
  intro n
  induction n with
  | zero =>
    intro k i hn hk hi
    obtain ⟨k, rfl⟩ : ∃ j, k = j + 1 := ⟨k - 1, by omega⟩
    have : decide ((i : Int) < (xs.length : Int)) = false := by simp only [decide_eq_false_iff_not]; omega
    exact ⟨.inr (), by simp only [laws_wholeTo_l1, laws_wholeTo_l1s, this, br_false], fun _ j x hj h => by
      rw [List.getElem?_eq_none (by omega)] at h; cases h⟩
  | succ n ih =>
    intro k i hn hk hi
    obtain ⟨k, rfl⟩ : ∃ j, k = j + 1 := ⟨k - 1, by omega⟩
    have hlt : i < xs.length := by omega
    have hd : decide ((i : Int) < (xs.length : Int)) = true := by simp only [decide_eq_true_eq]; omega
    have hadd1 : iadd .i64 (i : Int) 1 = ((i + 1 : Nat) : Int) := by rw [iadd_i64 (by omega) (by omega)]; omega
    have hxl := hx _ (List.getElem_mem hlt)
    have htr : math_Trunc k xs[i] = some (gint .zero xs[i]) := rfl
    obtain ⟨y, y1, y2⟩ := ih k (i + 1) (by omega) (by omega) (by omega)
    by_cases h1 : fne xs[i] (gint .zero xs[i]) = true
    · refine ⟨.inl (), ?_, fun h => by cases h⟩
      simp only [laws_wholeTo_l1, laws_wholeTo_l1s, hd, br_true, idx_get hlt, Option.bind_eq_bind, Option.bind_some, htr, h1, laws_wholeTo_j1]
    · have h1' : fne xs[i] (gint .zero xs[i]) = false := by simpa using h1
      by_cases h2 : fgt (xs[i] % 2 ^ 63) w = true
      · refine ⟨.inl (), ?_, fun h => by cases h⟩
        simp only [laws_wholeTo_l1, laws_wholeTo_l1s, hd, br_true, br_false, idx_get hlt, Option.bind_eq_bind, Option.bind_some, htr, h1', abs_is k _ hxl, h2, laws_wholeTo_j1]
      · have h2' : fgt (xs[i] % 2 ^ 63) w = false := by simpa using h2
        refine ⟨y, ?_, fun h j x hj hjx => ?_⟩
        · simp only [laws_wholeTo_l1, laws_wholeTo_l1s, hd, br_true, br_false, idx_get hlt, Option.bind_eq_bind, Option.bind_some, htr, h1', abs_is k _ hxl, h2', laws_wholeTo_j1, hadd1, y1]
        · by_cases hji : j = i
          · subst hji
            rw [List.getElem?_eq_getElem hlt] at hjx
            cases hjx
            exact whole_one hxl hw h1' h2' hb
          · exact y2 h j x (by omega) hjx
theorem wholeTo_is {k : Nat} (w : Nat) (b : Nat) (hw : D w (b : Int) 1074) (hb : b < 2 ^ 53) (xs : List Nat) (hx : ∀ x ∈ xs, x < 2 ^ 64) (hl : xs.length < k) (hl' : xs.length < 1000000) :
    ∃ r, laws_wholeTo k w xs = some r ∧ (r = true → ∀ x ∈ xs, ∃ n : Int, D x n 1074 ∧ n.natAbs ≤ b) := by
  obtain ⟨y, y1, y2⟩ := wholeTo_loop w b hw hb xs hx hl' xs.length k 0 (by omega) hl (by omega)
  have y1' : laws_wholeTo_l1 xs w k 0 = some y := y1
  unfold laws_wholeTo
  rw [y1']
  cases y with
  | inl u => exact ⟨false, rfl, fun h => by cases h⟩
  | inr u =>
    refine ⟨true, rfl, fun _ x hxm => ?_⟩
    obtain ⟨j, hj⟩ := List.mem_iff_getElem?.1 hxm
    exact y2 rfl j x (by omega) hj
end Go.Proofs.Ytnemkhcjmenfnaa
