/-
  What the laws ask of places: whole coordinates, not above a bound. Ours.
-/
import Derived.Test.YthobbfpoooommaaGreatFun
import Derived.Test.YthobbfpoooommaaGreatSxV
import Derived.Test.YthobbfpoooommaaGreatSxL
namespace Go.Proofs.YthobbfpoooommaaGreat
open Go.Sx
open Ieee (signed)
set_option linter.unusedVariables false
set_option linter.unusedSimpArgs false
set_option maxRecDepth 100000

/-- the greatest one that is asked, as a word: a whole number -/
theorem abs_is (k x : Nat) (hx : x < 2 ^ 64) : math_Abs k x = some (x % 2 ^ 63) := by
  have h1 := bv_nat64 x hx
  have e : iandn .u64 (x : Int) 9223372036854775808 = ((x % 2 ^ 63 : Nat) : Int) := by
    unfold iandn
    have e3 : (BitVec.ofInt IntKind.u64.bits (x : Int) &&& ~~~ BitVec.ofInt IntKind.u64.bits 9223372036854775808).toNat = x % 2 ^ 63 := by
      show (BitVec.ofInt 64 (x : Int) &&& ~~~ BitVec.ofInt 64 9223372036854775808).toNat = _
      rw [BitVec.toNat_and, h1, show (~~~ BitVec.ofInt 64 9223372036854775808).toNat = 2 ^ 63 - 1 from by decide, Nat.and_two_pow_sub_one_eq_mod]
    rw [e3]; exact wrap_u64_id (by omega) (by omega)
  unfold math_Abs ffrom
  rw [show fbits x = (x : Int) from rfl, e, Int.toNat_natCast]

/-- laws.wholeTo: it always answers; where it says yes, all are whole and not above the bound -/
theorem wholeTo_loop (w : Nat) (b : Nat) (hw : D w (b : Int) 1074) (hb : b < 2 ^ 53) (xs : List Nat) (hx : ∀ x ∈ xs, x < 2 ^ 64) (hl : xs.length < 1000000) : ∀ (n k i : Nat), xs.length - i = n → n < k → i ≤ xs.length →
    ∃ y, laws_wholeTo_l1 xs w k (i : Int) = some y ∧ (y = .inr () → ∀ j x, i ≤ j → xs[j]? = some x → ∃ n : Int, D x n 1074 ∧ n.natAbs ≤ b) := by
  intro n
  induction n with
  | zero =>
    intro k i hn hk hi
    obtain ⟨k, rfl⟩ : ∃ j, k = j + 1 := ⟨k - 1, by omega⟩
    have : decide ((i : Int) < (xs.length : Int)) = false := by simp only [decide_eq_false_iff_not]; omega
    exact ⟨.inr (), by simp only [laws_wholeTo_l1, laws_wholeTo_l1s, this, br_false], fun _ j x hj h => by
      rw [List.getElem?_eq_none (by omega)] at h; cases h⟩
  | succ n ih =>
    intro k i hn hk hi
    obtain ⟨k, rfl⟩ : ∃ j, k = j + 1 := ⟨k - 1, by omega⟩
    have hlt : i < xs.length := by omega
    have hd : decide ((i : Int) < (xs.length : Int)) = true := by simp only [decide_eq_true_eq]; omega
    have hadd1 : iadd .i64 (i : Int) 1 = ((i + 1 : Nat) : Int) := by rw [iadd_i64 (by omega) (by omega)]; omega
    have hxl := hx _ (List.getElem_mem hlt)
    have htr : math_Trunc k xs[i] = some (gint .zero xs[i]) := rfl
    obtain ⟨y, y1, y2⟩ := ih k (i + 1) (by omega) (by omega) (by omega)
    by_cases h1 : fne xs[i] (gint .zero xs[i]) = true
    · refine ⟨.inl (), ?_, fun h => by cases h⟩
      simp only [laws_wholeTo_l1, laws_wholeTo_l1s, hd, br_true, idx_get hlt, Option.bind_eq_bind, Option.bind_some, htr, h1, laws_wholeTo_j2]
    · have h1' : fne xs[i] (gint .zero xs[i]) = false := by simpa using h1
      by_cases h2 : fgt (xs[i] % 2 ^ 63) w = true
      · refine ⟨.inl (), ?_, fun h => by cases h⟩
        simp only [laws_wholeTo_l1, laws_wholeTo_l1s, hd, br_true, br_false, idx_get hlt, Option.bind_eq_bind, Option.bind_some, htr, h1', abs_is k _ hxl, h2, laws_wholeTo_j2]
      · have h2' : fgt (xs[i] % 2 ^ 63) w = false := by simpa using h2
        refine ⟨y, ?_, fun h j x hj hjx => ?_⟩
        · simp only [laws_wholeTo_l1, laws_wholeTo_l1s, hd, br_true, br_false, idx_get hlt, Option.bind_eq_bind, Option.bind_some, htr, h1', abs_is k _ hxl, h2', laws_wholeTo_j2, hadd1, y1]
        · by_cases hji : j = i
          · subst hji
            rw [List.getElem?_eq_getElem hlt] at hjx
            cases hjx
            exact whole_one hxl hw h1' h2' hb
          · exact y2 h j x (by omega) hjx

theorem wholeTo_is {k : Nat} (w : Nat) (b : Nat) (hw : D w (b : Int) 1074) (hb : b < 2 ^ 53) (xs : List Nat) (hx : ∀ x ∈ xs, x < 2 ^ 64) (hl : xs.length < k) (hl' : xs.length < 1000000) :
    ∃ r, laws_wholeTo k w xs = some r ∧ (r = true → ∀ x ∈ xs, ∃ n : Int, D x n 1074 ∧ n.natAbs ≤ b) := by
  obtain ⟨y, y1, y2⟩ := wholeTo_loop w b hw hb xs hx hl' xs.length k 0 (by omega) hl (by omega)
  have y1' : laws_wholeTo_l1 xs w k 0 = some y := y1
  unfold laws_wholeTo
  rw [y1']
  cases y with
  | inl u => exact ⟨false, rfl, fun h => by cases h⟩
  | inr u =>
    refine ⟨true, rfl, fun _ x hxm => ?_⟩
    obtain ⟨j, hj⟩ := List.mem_iff_getElem?.1 hxm
    exact y2 rfl j x (by omega) hj

theorem planeTo_loop (w : Nat) (b : Nat) (hw : D w (b : Int) 1074) (hb : b < 2 ^ 53) (xs : List (Nat × Nat)) (hx : ∀ x ∈ xs, x.1 < 2 ^ 64 ∧ x.2 < 2 ^ 64) (hl : xs.length < 1000000) : ∀ (n k i : Nat), xs.length - i = n → n + 3 < k → i ≤ xs.length →
    ∃ y, laws_planeTo_l1 xs w k (i : Int) = some y ∧ (y = .inr () → ∀ j x, i ≤ j → xs[j]? = some x → ∃ m n : Int, D x.1 m 1074 ∧ m.natAbs ≤ b ∧ D x.2 n 1074 ∧ n.natAbs ≤ b) := by
  intro n
  induction n with
  | zero =>
    intro k i hn hk hi
    obtain ⟨k, rfl⟩ : ∃ j, k = j + 1 := ⟨k - 1, by omega⟩
    have : decide ((i : Int) < (xs.length : Int)) = false := by simp only [decide_eq_false_iff_not]; omega
    exact ⟨.inr (), by simp only [laws_planeTo_l1, laws_planeTo_l1s, this, br_false], fun _ j x hj h => by
      rw [List.getElem?_eq_none (by omega)] at h; cases h⟩
  | succ n ih =>
    intro k i hn hk hi
    obtain ⟨k, rfl⟩ : ∃ j, k = j + 1 := ⟨k - 1, by omega⟩
    have hlt : i < xs.length := by omega
    have hd : decide ((i : Int) < (xs.length : Int)) = true := by simp only [decide_eq_true_eq]; omega
    have hadd1 : iadd .i64 (i : Int) 1 = ((i + 1 : Nat) : Int) := by rw [iadd_i64 (by omega) (by omega)]; omega
    have hxl := hx _ (List.getElem_mem hlt)
    obtain ⟨r, r1, r2⟩ := wholeTo_is (k := k) w b hw hb [xs[i].1, xs[i].2] (fun x hxm => by
      simp at hxm
      rcases hxm with rfl | rfl
      · exact hxl.1
      · exact hxl.2) (by simp; omega) (by simp)
    obtain ⟨y, y1, y2⟩ := ih k (i + 1) (by omega) (by omega) (by omega)
    cases r with
    | false =>
      refine ⟨.inl (), ?_, fun h => by cases h⟩
      simp only [laws_planeTo_l1, laws_planeTo_l1s, hd, br_true, idx_get hlt, Option.bind_eq_bind, Option.bind_some, r1, Bool.not_false]
    | true =>
      refine ⟨y, ?_, fun h j x hj hjx => ?_⟩
      · simp only [laws_planeTo_l1, laws_planeTo_l1s, hd, br_true, br_false, idx_get hlt, Option.bind_eq_bind, Option.bind_some, r1, Bool.not_true, hadd1, y1]
      · by_cases hji : j = i
        · subst hji
          rw [List.getElem?_eq_getElem hlt] at hjx
          cases hjx
          obtain ⟨m, m1, m2⟩ := r2 rfl xs[j].1 (by simp)
          obtain ⟨n', n1, n2⟩ := r2 rfl xs[j].2 (by simp)
          exact ⟨m, n', m1, m2, n1, n2⟩
        · exact y2 h j x (by omega) hjx

theorem planeTo_is {k : Nat} (w : Nat) (b : Nat) (hw : D w (b : Int) 1074) (hb : b < 2 ^ 53) (xs : List (Nat × Nat)) (hx : ∀ x ∈ xs, x.1 < 2 ^ 64 ∧ x.2 < 2 ^ 64) (hl : xs.length + 3 < k) (hl' : xs.length < 1000000) :
    ∃ r, laws_planeTo k w xs = some r ∧ (r = true → ∀ x ∈ xs, ∃ m n : Int, D x.1 m 1074 ∧ m.natAbs ≤ b ∧ D x.2 n 1074 ∧ n.natAbs ≤ b) := by
  obtain ⟨y, y1, y2⟩ := planeTo_loop w b hw hb xs hx hl' xs.length k 0 (by omega) hl (by omega)
  have y1' : laws_planeTo_l1 xs w k 0 = some y := y1
  unfold laws_planeTo
  rw [y1']
  cases y with
  | inl u => exact ⟨false, rfl, fun h => by cases h⟩
  | inr u =>
    refine ⟨true, rfl, fun _ x hxm => ?_⟩
    obtain ⟨j, hj⟩ := List.mem_iff_getElem?.1 hxm
    exact y2 rfl j x (by omega) hj

end Go.Proofs.YthobbfpoooommaaGreat
