/-
  The nearest float of a dyadic number that is a whole number a float can hold. Ours.
-/
import Derived.Test.YtmkhoplffiakmaaExact3
namespace Go.Proofs.Ytmkhoplffiakmaa
open Go.Sx
open Ieee (signed)
set_option linter.unusedVariables false
set_option linter.unusedSimpArgs false
set_option maxRecDepth 100000

theorem powcast (c n : Nat) : (c : Int) ^ n = ((c ^ n : Nat) : Int) := by simp

theorem powcast2 (n : Nat) : (2 : Int) ^ n = ((2 ^ n : Nat) : Int) := powcast 2 n

/-! ### how many bits -/
theorem top_loop : ∀ (n k : Nat) (c : Int) (x : Nat), 0 < x → x < 4294967296 → 31 - x.log2 = n → n < k → (n : Int) - 1000000000 < c → c < 1000000000 → spec_Whole_top_l1 k (c, (x : Int)) = some (c - (31 - x.log2 : Nat)) := by
  intro n
  induction n with
  | zero =>
    intro k c x h0 h1 hn hk hc0 hc1
    obtain ⟨k, rfl⟩ : ∃ j, k = j + 1 := ⟨k - 1, by omega⟩
    have hx : ¬ ((x : Int) < 2147483648) := by
      intro h
      have : x < 2 ^ 31 := by omega
      have := (Nat.log2_lt (by omega)).2 this
      omega
    simp only [spec_Whole_top_l1, spec_Whole_top_l1s, hx, decide_false, br_false, hn]
    simp
  | succ n ih =>
    intro k c x h0 h1 hn hk hc0 hc1
    obtain ⟨k, rfl⟩ : ∃ j, k = j + 1 := ⟨k - 1, by omega⟩
    have hl : x.log2 < 31 := by omega
    have hx2 : x < 2 ^ 31 := (Nat.log2_lt (by omega)).1 hl
    have hx : (x : Int) < 2147483648 := by omega
    have hshl : ishl .u32 (x : Int) 1 = some ((2 * x : Nat) : Int) := by
      have hw : IntKind.wrap .u32 ((x : Int) * 2 ^ 1) = ((2 * x : Nat) : Int) := by rw [wrap_u32_id (by omega) (by omega)]; omega
      unfold ishl
      rw [if_neg (by omega)]
      exact congrArg some hw
    have hlog : (2 * x).log2 = x.log2 + 1 := Nat.log2_two_mul (by omega)
    have hsub : isub .i64 c 1 = c - 1 := isub_i64 (by omega) (by omega)
    have := ih k (c - 1) (2 * x) (by omega) (by omega) (by omega) (by omega) (by omega) (by omega)
    simp only [spec_Whole_top_l1, spec_Whole_top_l1s, hx, decide_true, br_true, hshl, Option.bind_eq_bind, Option.bind_some, hsub, this, hlog]
    congr 1; omega

theorem lv_log {l : List Int} {Z : Nat} (h : Lb l (Z : Int)) (hne : l ≠ []) : ∃ x : Nat, l.getLast hne = (x : Int) ∧ 0 < x ∧ x < 4294967296 ∧ Z.log2 = 32 * (l.length - 1) + x.log2 := by
  have hm := h.lim _ (List.getLast_mem hne)
  have hz : l.getLast hne ≠ 0 := h.nrm _ (List.getLast?_eq_some_getLast hne)
  obtain ⟨x, hx⟩ := Int.eq_ofNat_of_zero_le hm.1
  refine ⟨x, hx, by omega, by omega, ?_⟩
  have hv : (Z : Int) = lv l.dropLast + 4294967296 ^ (l.length - 1) * (x : Int) := by
    rw [← h.val]
    conv => lhs; rw [← List.dropLast_concat_getLast hne, lv_app, hx]
    simp [lv]
  have hdl : Lim l.dropLast := fun y hy => h.lim y (List.dropLast_subset _ hy)
  have h1 := lv_nonneg hdl
  have h2 := lv_lt hdl
  rw [List.length_dropLast] at h2
  obtain ⟨d, hd⟩ := Int.eq_ofNat_of_zero_le h1
  have hp : (4294967296 : Int) ^ (l.length - 1) = ((2 ^ (32 * (l.length - 1)) : Nat) : Int) := by
    rw [Nat.pow_mul, show (2 : Nat) ^ 32 = 4294967296 from rfl]
    exact powcast 4294967296 _
  rw [hp, hd] at hv h2
  generalize 32 * (l.length - 1) = t at *
  have hv' : Z = d + 2 ^ t * x := by exact_mod_cast hv
  have hd' : d < 2 ^ t := by exact_mod_cast h2
  have hx1 : 2 ^ x.log2 ≤ x := Nat.log2_self_le (by omega)
  have hx2 : x < 2 ^ (x.log2 + 1) := Nat.lt_log2_self
  refine log2_eq ?_ ?_
  · rw [Nat.pow_add, hv']
    have := Nat.mul_le_mul_left (2 ^ t) hx1
    omega
  · rw [show t + x.log2 + 1 = t + (x.log2 + 1) from by omega, Nat.pow_add, hv']
    have : 2 ^ t * (x + 1) ≤ 2 ^ t * 2 ^ (x.log2 + 1) := Nat.mul_le_mul_left _ hx2
    rw [Nat.mul_add, Nat.mul_one] at this
    omega

theorem top_is {k : Nat} {s : Bool} {l : List Int} {z : Int} (h : Wh s l z) (hz : z ≠ 0) (hk : 32 < k) (hl : l.length < 1000000) : spec_Whole_top k s l = some ((z.natAbs.log2 + 1 : Nat) : Int) := by
  have hne : l ≠ [] := fun e => hz ((wh_zero h).2 e)
  have hpos := List.length_pos_iff.2 hne
  obtain ⟨x, hx, hx0, hx1, hlog⟩ := lv_log h.lb hne
  have hd : decide ((l.length : Int) = 0) = false := by simp only [decide_eq_false_iff_not]; omega
  have hsub : isub .i64 (l.length : Int) 1 = ((l.length - 1 : Nat) : Int) := by rw [isub_i64 (by omega) (by omega)]; omega
  have hidx : idx l ((l.length - 1 : Nat) : Int) = some (x : Int) := by
    rw [idx_get (by omega), ← hx, List.getLast_eq_getElem]
  have hmul : imul .i64 32 (l.length : Int) = ((32 * l.length : Nat) : Int) := by rw [imul_i64 (by omega) (by omega)]; omega
  have hxl : x.log2 ≤ 31 := by
    have := (Nat.log2_lt (n := x) (k := 32) (by omega)).2 (by omega)
    omega
  have := top_loop (31 - x.log2) k ((32 * l.length : Nat) : Int) x hx0 hx1 rfl (by omega) (by omega) (by omega)
  simp only [spec_Whole_top, hd, br_false, hsub, hidx, Option.bind_eq_bind, Option.bind_some, hmul, this]
  congr 1
  omega

/-! ### one bit -/
theorem lv_shift {l : List Int} (h : Lim l) {i : Nat} (hi : i < l.length) : lv l / 4294967296 ^ i = l[i] + 4294967296 * lv (l.drop (i + 1)) := by
  have h3 : lv (l.take i) < 4294967296 ^ (l.take i).length := lv_lt (lim_take h i)
  rw [List.length_take, Nat.min_eq_left (by omega)] at h3
  have h4 := lv_nonneg (lim_take h i)
  have hv : lv l = lv (l.take i) + 4294967296 ^ i * (l[i] + 4294967296 * lv (l.drop (i + 1))) := by
    conv => lhs; rw [← List.take_append_drop i l, lv_app, List.drop_eq_getElem_cons hi]
    rw [List.length_take, Nat.min_eq_left (by omega)]; rfl
  have hp : (0 : Int) < 4294967296 ^ i := Int.pow_pos (by omega)
  rw [hv, Int.add_mul_ediv_left _ _ (by omega), Int.ediv_eq_zero_of_lt h4 h3, Int.zero_add]

/-- bit n of Z -/
def bitZ (Z : Nat) (n : Int) : Bool := decide (0 ≤ n) && Z.testBit n.toNat

theorem iand_one {a : Nat} (ha : a < 2 ^ 32) : iand .u32 (a : Int) 1 = ((a % 2 : Nat) : Int) := by
  have h1 := bv_nat a ha
  unfold iand
  have e3 : (BitVec.ofInt IntKind.u32.bits (a : Int) &&& BitVec.ofInt IntKind.u32.bits 1).toNat = a % 2 := by
    show (BitVec.ofInt 32 (a : Int) &&& BitVec.ofInt 32 1).toNat = _
    rw [BitVec.toNat_and, h1, show (BitVec.ofInt 32 1).toNat = 1 from rfl, Nat.and_one_is_mod]
  rw [e3]
  exact wrap_u32_id (by omega) (by omega)

theorem bit_is {k : Nat} {s : Bool} {l : List Int} {z : Int} {n : Int} (h : Wh s l z) (h0 : -1000000000 < n) (h1 : n < 1000000000) (hl : l.length < 1000000) : spec_Whole_bit k s l n = some (bitZ z.natAbs n) := by
  unfold spec_Whole_bit bitZ
  by_cases hn : 0 ≤ n
  · obtain ⟨m, rfl⟩ := Int.eq_ofNat_of_zero_le hn
    have hd : decide ((0 : Int) ≤ (m : Int)) = true := by simp
    have hq : iquo .i64 (m : Int) 32 = some ((m / 32 : Nat) : Int) := by
      unfold iquo
      rw [if_neg (by omega)]
      have : (m : Int).tdiv 32 = ((m / 32 : Nat) : Int) := by rw [Int.tdiv_eq_ediv_of_nonneg (by omega)]; omega
      rw [this, wrap_i64 (by omega) (by omega)]
    have hr : irem (m : Int) 32 = some ((m % 32 : Nat) : Int) := by
      unfold irem
      rw [if_neg (by omega)]
      have : (m : Int).tmod 32 = ((m % 32 : Nat) : Int) := by rw [Int.tmod_eq_emod_of_nonneg (by omega)]; omega
      rw [this]
    rw [hd, br_true, hq]
    simp only [Option.bind_eq_bind, Option.bind_some, Bool.true_and, Int.toNat_natCast]
    have hB : ∀ i : Nat, (4294967296 : Int) ^ i = ((2 ^ (32 * i) : Nat) : Int) := by
      intro i
      rw [Nat.pow_mul, show (2 : Nat) ^ 32 = 4294967296 from rfl]
      exact powcast 4294967296 _
    by_cases hi : m / 32 < l.length
    · have hd2 : decide (((m / 32 : Nat) : Int) < (l.length : Int)) = true := by simp only [decide_eq_true_eq]; omega
      have hx := lim_get h.lb.lim (List.getElem?_eq_getElem hi)
      obtain ⟨x, hxe⟩ := Int.eq_ofNat_of_zero_le hx.1
      have hsh := lv_shift h.lb.lim hi
      obtain ⟨R, hR⟩ := Int.eq_ofNat_of_zero_le (lv_nonneg (lim_drop h.lb.lim (m / 32 + 1)))
      rw [h.lb.val, hB, hxe, hR] at hsh
      have hsh' : z.natAbs / 2 ^ (32 * (m / 32)) = x + 4294967296 * R := by
        rw [← Int.natCast_ediv] at hsh
        omega
      have hshr : ishr .u32 (x : Int) ((m % 32 : Nat) : Int) = some ((x / 2 ^ (m % 32) : Nat) : Int) := by
        rw [ishr_u32 (by omega) (by omega) (by omega)]
        congr 1
      have hbit : z.natAbs.testBit m = decide (x / 2 ^ (m % 32) % 2 = 1) := by
        rw [Nat.testBit_eq_decide_div_mod_eq]
        congr 1
        have e1 : z.natAbs / 2 ^ m = (x + 4294967296 * R) / 2 ^ (m % 32) := by
          rw [← hsh', Nat.div_div_eq_div_mul, ← Nat.pow_add]
          congr 2; omega
        have hr32 : m % 32 < 32 := Nat.mod_lt _ (by omega)
        have e2 : (4294967296 : Nat) * R = 2 ^ (m % 32) * (2 ^ (32 - m % 32) * R) := by
          rw [← Nat.mul_assoc, ← Nat.pow_add, show m % 32 + (32 - m % 32) = 32 from by omega]
        have e3 : (2 : Nat) ^ (32 - m % 32) * R = 2 * (2 ^ (31 - m % 32) * R) := by
          rw [← Nat.mul_assoc, ← Nat.pow_succ', show (31 - m % 32).succ = 32 - m % 32 from by omega]
        rw [e1, e2, Nat.add_mul_div_left _ _ (Nat.two_pow_pos _), e3, Nat.add_mul_mod_self_left]
      have hxlt : x / 2 ^ (m % 32) < 2 ^ 32 := by
        have := Nat.div_le_self x (2 ^ (m % 32))
        omega
      unfold spec_Whole_bit_j1 spec_Whole_bit_j2
      rw [hd2, br_true, hq, hr]
      simp only [Option.bind_eq_bind, Option.bind_some, idx_get hi, hxe, hshr, iand_one hxlt, hbit]
      congr 1
      apply decide_eq_decide.2
      omega
    · have hd2 : decide (((m / 32 : Nat) : Int) < (l.length : Int)) = false := by simp only [decide_eq_false_iff_not]; omega
      rw [hd2]
      unfold spec_Whole_bit_j1 spec_Whole_bit_j2
      rw [br_false]
      congr 1
      have hlt := lv_lt h.lb.lim
      rw [h.lb.val, hB] at hlt
      have hlt' : z.natAbs < 2 ^ (32 * l.length) := by exact_mod_cast hlt
      have : 2 ^ (32 * l.length) ≤ 2 ^ m := Nat.pow_le_pow_right (by omega) (by omega)
      exact (Nat.testBit_lt_two_pow (by omega)).symm
  · have hd : decide ((0 : Int) ≤ n) = false := by simp only [decide_eq_false_iff_not]; omega
    rw [hd, br_false]; rfl
end Go.Proofs.Ytmkhoplffiakmaa
