/-
  The length of a row of whole places is the sum of the roots: the plain statement. Ours.
-/
import Derived.Test.YtkeaodoibflhnaaFun
import Derived.Test.YtkeaodoibflhnaaSxY
import Derived.Test.YtkeaodoibflhnaaSxL
namespace Go.Proofs.Ytkeaodoibflhnaa
open Go.Sx
open Ieee (signed)
set_option linter.unusedVariables false
set_option linter.unusedSimpArgs false
set_option maxRecDepth 100000

theorem D_thousand : D 4652007308841189376 ((1000 : Nat) : Int) 1074 := by
  have := D_fields (E := 1032) (F := 4292493394837504) (by omega) (by omega) (by omega) (n := ((1000 : Nat) : Int)) (v := 1074) (by
    rw [show (1074 : Nat) = 43 + (1032 - 1) from rfl, Int.pow_add, ← Int.mul_assoc]; congr 1)
  exact this
theorem D_tiny : D 4517110426252607488 1 1054 := by
  have := D_fields (E := 1003) (F := 0) (by omega) (by omega) (by omega) (n := 1) (v := 1054) (by
    rw [Int.one_mul, show (1054 : Nat) = 52 + (1003 - 1) from rfl, Int.pow_add]; rfl)
  exact this

theorem abs_is (k x : Nat) (hx : x < 2 ^ 64) : math_Abs k x = some (x % 2 ^ 63) := by
  have h1 := bv_nat64 x hx
  have e : iandn .u64 (x : Int) 9223372036854775808 = ((x % 2 ^ 63 : Nat) : Int) := by
    unfold iandn
    have e3 : (BitVec.ofInt IntKind.u64.bits (x : Int) &&& ~~~ BitVec.ofInt IntKind.u64.bits 9223372036854775808).toNat = x % 2 ^ 63 := by
      show (BitVec.ofInt 64 (x : Int) &&& ~~~ BitVec.ofInt 64 9223372036854775808).toNat = _
      rw [BitVec.toNat_and, h1, show (~~~ BitVec.ofInt 64 9223372036854775808).toNat = 2 ^ 63 - 1 from by decide, Nat.and_two_pow_sub_one_eq_mod]
    rw [e3]; exact wrap_u64_id (by omega) (by omega)
  unfold math_Abs ffrom
  rw [show fbits x = (x : Int) from rfl, e, Int.toNat_natCast]

theorem each_one (k x : Nat) (hx : x < 2 ^ 64) : ∃ b, laws_FnFlatLengthNear_1 k x = some b ∧ (b = true → ∃ n : Int, D x n 1074 ∧ n.natAbs ≤ 1000) := by
  have hw : laws_gWhole k x = some (fge x 13920626448202203136 && fle x 4697254411347427328 && feq x (gint .zero x)) := by
    unfold laws_gWhole laws_gWhole_j1 laws_gWhole_j2 math_Trunc
    cases fge x 13920626448202203136 <;> cases fle x 4697254411347427328 <;> rfl
  unfold laws_FnFlatLengthNear_1 laws_FnFlatLengthNear_1_j1 laws_FnFlatLengthNear_1_j2
  rw [hw, sbind]
  cases h1 : (fge x 13920626448202203136 && fle x 4697254411347427328 && feq x (gint .zero x)) with
  | false => rw [br_false]; exact ⟨_, rfl, fun h => by cases h⟩
  | true =>
    rw [br_true]
    cases h2 : fge x 13875379345695965184 with
    | false => rw [br_false]; exact ⟨_, rfl, fun h => by cases h⟩
    | true =>
      rw [br_true]
      refine ⟨_, rfl, fun h3 => ?_⟩
      simp only [Bool.and_eq_true] at h1
      exact grid_one hx (by omega) D_thousand h2 h3 (by rw [fne_feq, h1.2]; rfl)

theorem each_is (xs : List Nat) (hx : ∀ x ∈ xs, x < 2 ^ 64) (hl : xs.length < 1000000) : ∀ (n k i : Nat), xs.length - i = n → n < k → i ≤ xs.length →
    ∃ y, laws_gEach_l1 xs k (i : Int) = some y ∧ (y = .inr () → ∀ j x, i ≤ j → xs[j]? = some x → ∃ n : Int, D x n 1074 ∧ n.natAbs ≤ 1000) := by
  intro n
  induction n with
  | zero =>
    intro k i hn hk hi
    obtain ⟨k, rfl⟩ : ∃ j, k = j + 1 := ⟨k - 1, by omega⟩
    exact ⟨.inr (), by simp only [laws_gEach_l1, laws_gEach_l1s, lt_false (show ¬ i < xs.length by omega), br_false], fun _ j x hj h => by
      rw [List.getElem?_eq_none (by omega)] at h; cases h⟩
  | succ n ih =>
    intro k i hn hk hi
    obtain ⟨k, rfl⟩ : ∃ j, k = j + 1 := ⟨k - 1, by omega⟩
    have hlt : i < xs.length := by omega
    obtain ⟨b, h1, h2⟩ := each_one k xs[i] (hx _ (List.getElem_mem hlt))
    obtain ⟨y, y1, y2⟩ := ih k (i + 1) (by omega) (by omega) (by omega)
    cases b with
    | false =>
      refine ⟨.inl (), ?_, fun h => by cases h⟩
      simp only [laws_gEach_l1, laws_gEach_l1s, lt_true hlt, br_true, idx_get hlt, Option.bind_eq_bind, Option.bind_some, h1, Bool.not_false]
    | true =>
      refine ⟨y, ?_, fun h j x hj hjx => ?_⟩
      · simp only [laws_gEach_l1, laws_gEach_l1s, lt_true hlt, br_true, br_false, idx_get hlt, Option.bind_eq_bind, Option.bind_some, h1, Bool.not_true, iadd_one (show i < 9223372036854775807 by omega), y1]
      · by_cases hji : j = i
        · subst hji
          rw [List.getElem?_eq_getElem hlt] at hjx
          cases hjx
          exact h2 rfl
        · exact y2 h j x (by omega) hjx

def stri (a : Int) : Int := if a < 1 then 0 else if a = 1 then 2 else if a = 2 ∨ a = 3 then 3 else a
theorem stride_is (k : Nat) (a : Int) : spec_Stride k a = some (stri a) := by
  unfold spec_Stride spec_Stride_j1 stri
  by_cases h1 : a < 1
  · rw [decide_eq_true h1, if_pos h1]; rfl
  by_cases h2 : a = 1
  · subst h2; rfl
  by_cases h3 : a = 2
  · subst h3; rfl
  by_cases h4 : a = 3
  · subst h4; rfl
  rw [decide_eq_false h1, decide_eq_false h2, decide_eq_false h3, decide_eq_false h4, if_neg h1, if_neg h2, if_neg (by omega)]; rfl

theorem gGood_is (k : Nat) (L : Int) (a0 : List Nat) (h : a0.length ≤ 2147483647) (hL : 1 ≤ L) (hL9 : L ≤ 9) :
    ∃ b, laws_gGood (k + 9) [T27.mk 8 L 0 a0 [] [] []] = some b ∧ (b = true → a0.length < 2000 ∧ (a0.length : Int).tmod (stri L) = 0) := by
  have hs : stri L ≠ 0 := by unfold stri; rw [if_neg (by omega)]; split; omega; split <;> omega
  have hW : ∀ j, spec_Weight (j + 3) 8 L 0 a0 [] [] [] 2000 = some ((a0.length : Int) + 1) := fun j => by
    show spec_Weight_b (spec_Weight (j + 2)) (j + 2) 8 L 0 a0 [] [] [] 2000 = _
    unfold spec_Weight_b
    have e1 : iadd .i64 1 (a0.length : Int) = (a0.length : Int) + 1 := by rw [iadd_i64 (by omega) (by omega)]; omega
    have e2 : iadd .i64 ((a0.length : Int) + 1) (([] : List Int).length : Int) = (a0.length : Int) + 1 := by rw [iadd_i64 (by simp; omega) (by simp; omega)]; simp
    rw [e1, e2]
    rfl
  have hY : ∀ j, laws_gLayouts (j + 3) 8 L 0 a0 [] [] [] 9 = some true := fun j => by
    show laws_gLayouts_b (laws_gLayouts (j + 2)) (j + 2) 8 L 0 a0 [] [] [] 9 = _
    unfold laws_gLayouts_b
    rw [decide_eq_true hL9, decide_eq_true hL]
    rfl
  have hG : ∀ j, ∃ b, spec_Good (j + 3) 8 L 0 a0 [] [] [] = some b ∧ (b = true → (a0.length : Int).tmod (stri L) = 0) := fun j => by
    show ∃ b, spec_Good_b (spec_Good (j + 2)) (j + 2) 8 L 0 a0 [] [] [] = some b ∧ _
    unfold spec_Good_b
    rw [stride_is, sbind, decide_eq_false (show ¬ ((8 : Int) = 7) by decide), br_false, decide_eq_false hs, br_false]
    have : irem (a0.length : Int) (stri L) = some ((a0.length : Int).tmod (stri L)) := by unfold irem; rw [if_neg hs]
    rw [this, sbind]
    by_cases h0 : (a0.length : Int).tmod (stri L) = 0
    · rw [decide_eq_true h0]; exact ⟨true, rfl, fun _ => h0⟩
    · rw [decide_eq_false h0]; exact ⟨false, rfl, fun h => by cases h⟩
  unfold laws_gGood laws_gSmall
  have hS : laws_gSmall_l1 [T27.mk 8 L 0 a0 [] [] []] (k + 9) (2000, 0) = some (if a0.length < 2000 then .inr () else .inl ()) := by
    show laws_gSmall_l1s _ (k + 8) (laws_gSmall_l1 _ (k + 8)) 2000 0 = _
    unfold laws_gSmall_l1s
    rw [show decide ((0 : Int) < (([T27.mk 8 L 0 a0 [] [] []] : List T27).length : Int)) = true from by simp, br_true, show idx [T27.mk 8 L 0 a0 [] [] []] 0 = some (T27.mk 8 L 0 a0 [] [] []) from rfl, sbind]
    simp only [T27.f0, T27.f1, T27.f2, T27.f3, T27.f4, T27.f5, T27.f6]
    rw [hW (k + 5), sbind, isub_i64 (by omega) (by omega)]
    by_cases hb : a0.length < 2000
    · rw [if_pos hb, decide_eq_false (by omega), br_false, hY (k + 5), sbind]
      rfl
    · rw [if_neg hb, decide_eq_true (by omega), br_true]
      rfl
  rw [hS, sbind]
  by_cases hb : a0.length < 2000
  · rw [if_pos hb]
    simp only [sbind, Bool.not_true, br_false]
    obtain ⟨b, g1, g2⟩ := hG (k + 5)
    have hl : laws_gGood_l1 [T27.mk 8 L 0 a0 [] [] []] (k + 9) 0 = some (if b = true then .inr () else .inl ()) := by
      show laws_gGood_l1s _ (k + 8) (laws_gGood_l1 _ (k + 8)) 0 = _
      unfold laws_gGood_l1s
      rw [show decide ((0 : Int) < (([T27.mk 8 L 0 a0 [] [] []] : List T27).length : Int)) = true from by simp, br_true, show idx [T27.mk 8 L 0 a0 [] [] []] 0 = some (T27.mk 8 L 0 a0 [] [] []) from rfl, sbind]
      simp only [T27.f0, T27.f1, T27.f2, T27.f3, T27.f4, T27.f5, T27.f6]
      rw [g1, sbind]
      cases b <;> rfl
    rw [hl, sbind]
    cases b with
    | false => exact ⟨false, rfl, fun h => by cases h⟩
    | true => exact ⟨true, rfl, fun _ => ⟨hb, g2 rfl⟩⟩
  · rw [if_neg hb]
    exact ⟨false, rfl, fun h => by cases h⟩

theorem fRow_is (k : Nat) (a0 : List Nat) (a1 : Int) (h : a0.length ≤ 2147483647) :
    ∃ x0 x1 x2 xs b, laws_fRow (k + 9) a0 a1 = some (x0, x1, x2, xs, b) ∧ (b = true → xs = a0 ∧ 2 ≤ a1 ∧ a1 ≤ 9 ∧ a0.length < 2000 ∧ (a0.length : Int).tmod a1 = 0) := by
  unfold laws_fRow laws_fStride laws_fStride_j1
  by_cases h2 : 2 ≤ a1
  · rw [decide_eq_true h2, br_true, sbind]
    by_cases h9 : a1 ≤ 9
    · rw [decide_eq_true h9]
      simp only [Bool.not_true, br_false]
      have hL : ∃ L, laws_fLayout (k + 9) a1 = some L ∧ stri L = a1 ∧ 1 ≤ L ∧ L ≤ 9 := by
        unfold laws_fLayout
        by_cases e2 : a1 = 2
        · subst e2; exact ⟨1, rfl, rfl, by decide, by decide⟩
        by_cases e3 : a1 = 3
        · subst e3; exact ⟨2, rfl, rfl, by decide, by decide⟩
        refine ⟨a1, ?_, ?_, by omega, h9⟩
        · rw [decide_eq_false e2, br_false, decide_eq_false e3, br_false]
        · unfold stri; rw [if_neg (by omega), if_neg (by omega), if_neg (by omega)]
      obtain ⟨L, l1, l2, l3, l4⟩ := hL
      obtain ⟨b, b1, b2⟩ := gGood_is k L a0 h l3 l4
      rw [l1, sbind, b1, sbind]
      exact ⟨_, _, _, _, b, rfl, fun hb => ⟨rfl, h2, h9, (b2 hb).1, by rw [← l2]; exact (b2 hb).2⟩⟩
    · rw [decide_eq_false h9]
      exact ⟨_, _, _, _, _, rfl, fun h => by cases h⟩
  · rw [decide_eq_false h2, br_false, sbind]
    exact ⟨_, _, _, _, _, rfl, fun h => by cases h⟩

/-! #### both sums -/
theorem sq_bound {a b : Int} (ha : a.natAbs ≤ 1000) (hb : b.natAbs ≤ 1000) : ∃ q : Nat, (a - b) * (a - b) = (q : Int) ∧ q ≤ 4000000 := by
  have h1 : (a - b).natAbs ≤ 2000 := by omega
  refine ⟨(a - b).natAbs * (a - b).natAbs, by rw [Int.natCast_mul]; exact (Int.natAbs_mul_self' _).symm, ?_⟩
  have := Nat.mul_le_mul h1 h1
  omega

theorem loop_same (a0 : List Nat) (s T : Nat) (hs : 2 ≤ s ∧ s ≤ 9) (hl : a0.length < 2000) (hT : a0.length = T * s) (hw : ∀ x ∈ a0, ∃ n : Int, D x n 1074 ∧ n.natAbs ≤ 1000) :
    ∀ (m t k x A : Nat), T - t = m → 1 ≤ t → m < k → D x (A : Int) 0 → A ≤ t * 2 ^ 1086 →
    ∃ y Y, gogeom_length1_l1 (a0.length : Int) a0 (s : Int) k (x, ((t * s : Nat) : Int)) = some y ∧ laws_FnFlatLengthNear_l1 a0 (s : Int) k (x, ((t * s : Nat) : Int)) = some y ∧ D y Y 0 := by
  intro m
  induction m with
  | zero =>
    intro t k x A hm ht hk hD hA
    obtain ⟨k, rfl⟩ : ∃ j, k = j + 1 := ⟨k - 1, by omega⟩
    have hge : ¬ t * s < a0.length := by rw [hT]; have := Nat.mul_le_mul_right s (show T ≤ t by omega); omega
    refine ⟨x, A, ?_, ?_, hD⟩
    · simp only [gogeom_length1_l1, gogeom_length1_l1s, lt_false hge, br_false]
    · simp only [laws_FnFlatLengthNear_l1, laws_FnFlatLengthNear_l1s, lt_false hge, br_false]
  | succ m ih =>
    intro t k x A hm ht hk hD hA
    obtain ⟨k, rfl⟩ : ∃ j, k = j + 1 := ⟨k - 1, by omega⟩
    obtain ⟨i, hi⟩ : ∃ i, t * s = i := ⟨_, rfl⟩
    have hi2 : i + s ≤ a0.length := by
      have := Nat.mul_le_mul_right s (show t + 1 ≤ T by omega)
      rw [Nat.add_mul, Nat.one_mul] at this; omega
    have hi1 : s ≤ i := by have := Nat.mul_le_mul_right s ht; omega
    have hnx : ((i + s : Nat) : Int) = (((t + 1) * s : Nat) : Int) := by rw [Nat.add_mul, Nat.one_mul, hi]
    have j1 : i < a0.length := by omega
    have j2 : i - s < a0.length := by omega
    have j3 : i + 1 < a0.length := by omega
    have j4 : i - s + 1 < a0.length := by omega
    have e2 : isub .i64 (i : Int) (s : Int) = ((i - s : Nat) : Int) := by rw [isub_i64 (by omega) (by omega)]; omega
    have e3 : iadd .i64 (i : Int) 1 = ((i + 1 : Nat) : Int) := iadd_one (by omega)
    have e4 : isub .i64 ((i + 1 : Nat) : Int) (s : Int) = ((i - s + 1 : Nat) : Int) := by rw [isub_i64 (by omega) (by omega)]; omega
    have e5 : iadd .i64 ((i - s : Nat) : Int) 1 = ((i - s + 1 : Nat) : Int) := iadd_one (by omega)
    have e6 : iadd .i64 (i : Int) (s : Int) = ((i + s : Nat) : Int) := by rw [iadd_i64 (by omega) (by omega)]; omega
    obtain ⟨n1, d1, b1⟩ := hw _ (List.getElem_mem j1)
    obtain ⟨n2, d2, b2⟩ := hw _ (List.getElem_mem j2)
    obtain ⟨n3, d3, b3⟩ := hw _ (List.getElem_mem j3)
    obtain ⟨n4, d4, b4⟩ := hw _ (List.getElem_mem j4)
    obtain ⟨u, hu, du⟩ := D_sub d1 d2 rfl (by omega) (by omega)
    obtain ⟨v, hv, dv⟩ := D_sub d3 d4 rfl (by omega) (by omega)
    obtain ⟨p, hp, hpb⟩ := sq_bound b1 b2
    obtain ⟨q, hq, hqb⟩ := sq_bound b3 b4
    have du2 := gmul_D (u := 1074) du du hp rfl (by omega) (by omega) (by omega)
    have dv2 := gmul_D (u := 1074) dv dv hq rfl (by omega) (by omega) (by omega)
    have dc := gadd_D du2 dv2 (c := ((p + q : Nat) : Int)) (by omega) (by omega) (by omega)
    have hnum : num (gadd (gmul u u) (gmul v v)) = some (gadd (gmul u u) (gmul v v)) := by unfold num; rw [isn_D dc]; rfl
    obtain ⟨N, dN, N1, N2⟩ := gsqrt_near dc (Nat.lt_of_lt_of_le (show p + q < 2 ^ 23 by omega) (pow_le2 23 1000 (by omega)))
    have hN : N ≤ 1 * 2 ^ 1086 := N1 1 1086 (by omega) (sq_bound2 (p + q) 24 2148 1086 0 (by omega) rfl)
    have hsmall : (t + 1) * 2 ^ 1086 < 2 ^ 2096 := by
      have h2 : t * 1 ≤ t * s := Nat.mul_le_mul_left _ (by omega)
      exact mul_pow_lt2 (t + 1) 11 1086 2096 (by omega) (by omega)
    have hAN : A + N ≤ (t + 1) * 2 ^ 1086 := add_step A N t 1086 hA hN
    obtain ⟨M, dM, M1, M2⟩ := gadd_near hD dN (by omega)
    have hM : M ≤ (t + 1) * 2 ^ 1086 := M1 (t + 1) 1086 (by
      have h2 : t * 1 ≤ t * s := Nat.mul_le_mul_left _ (by omega)
      omega) hAN
    obtain ⟨y, Y, y1, y2, y3⟩ := ih (t + 1) k _ M (by omega) (by omega) (by omega) dM hM
    rw [← hnx] at y1 y2
    refine ⟨y, Y, ?_, ?_, y3⟩
    · rw [hi]
      simp only [gogeom_length1_l1, gogeom_length1_l1s, lt_true j1, br_true, e2, e3, e4, e6, idx_get j1, idx_get j2, idx_get j3, idx_get j4, hu, hv, hnum, math_Sqrt, Option.bind_eq_bind, Option.bind_some]
      exact y1
    · rw [hi]
      simp only [laws_FnFlatLengthNear_l1, laws_FnFlatLengthNear_l1s, lt_true j1, br_true, e2, e3, e5, e6, idx_get j1, idx_get j2, idx_get j3, idx_get j4, hu, hv, hnum, math_Sqrt, Option.bind_eq_bind, Option.bind_some]
      exact y2

theorem fact_FnFlatLengthNear (a0 : List Nat) (a1 : Int) {p : Prop} (g0 : a0.length ≤ maxLen ∧ ∀ x ∈ a0, x < 18446744073709551616) (g1 : p) : laws_FnFlatLengthNear 3000 a0 a1 = some true := by
  unfold laws_FnFlatLengthNear
  by_cases h1 : 2147483647 < (a0.length : Int)
  · rw [decide_eq_true h1, br_true]
  rw [decide_eq_false h1, br_false]
  obtain ⟨x0, x1, x2, xs, b, hr, hb⟩ := fRow_is 2991 a0 a1 (by omega)
  rw [hr, sbind]
  cases b with
  | false => rfl
  | true =>
    obtain ⟨rfl, h2, h9, hlen, hmod⟩ := hb rfl
    simp only [Bool.not_true, br_false]
    obtain ⟨y, y1, y2⟩ := each_is xs (fun x hx => by have := g0.2 x hx; omega) (by omega) xs.length 3000 0 (by omega) (by omega) (by omega)
    have y1' : laws_gEach_l1 xs 3000 0 = some y := y1
    unfold laws_gEach
    rw [y1', sbind]
    cases y with
    | inl u => rfl
    | inr u =>
      simp only [sbind, Bool.not_true]
      unfold laws_FnFlatLengthNear_j1
      rw [br_false]
      have hw : ∀ x ∈ xs, ∃ n : Int, D x n 1074 ∧ n.natAbs ≤ 1000 := fun x hx => by
        obtain ⟨j, hj⟩ := List.mem_iff_getElem?.1 hx
        exact y2 rfl j x (by omega) hj
      obtain ⟨s, rfl⟩ := Int.eq_ofNat_of_zero_le (show 0 ≤ a1 by omega)
      have hm : xs.length % s = 0 := by
        rw [Int.tmod_eq_emod_of_nonneg (by omega)] at hmod
        exact_mod_cast hmod
      have hT : xs.length = xs.length / s * s := (Nat.div_mul_cancel (Nat.dvd_of_mod_eq_zero hm)).symm
      have hTl : xs.length / s ≤ xs.length := Nat.div_le_self _ _
      obtain ⟨y, Y, k1, k2, k3⟩ := loop_same xs s (xs.length / s) ⟨by omega, by omega⟩ hlen hT hw (xs.length / s - 1) 1 3000 0 0 rfl (by omega) (by omega) (D_zero 0) (by omega)
      rw [Nat.one_mul] at k1 k2
      have e0 : iadd .i64 0 (s : Int) = (s : Int) := by rw [iadd_i64 (by omega) (by omega)]; omega
      rw [k2, sbind]
      unfold impl_FlatLength1 gogeom_DoorLength1 gogeom_length1
      rw [e0, k1]
      simp only [sbind, br_true]
      have dz : D (gsub y y) 0 0 := gsub_D k3 k3 (by omega) (by omega) (by omega)
      have hz64 := gsub_lt y y
      have hnum : num (gsub y y) = some (gsub y y) := by unfold num; rw [isn_D dz]; rfl
      rw [hnum]
      simp only [sbind]
      rw [abs_is _ _ hz64]
      simp only [sbind]
      have da : D (gsub y y % 2 ^ 63) 0 1054 := D_nought hz64 dz 1054
      unfold laws_FnFlatLengthNear_j2
      rw [D_lt da D_tiny]
      rfl
end Go.Proofs.Ytkeaodoibflhnaa
