/-
  Twice the area of rings in a row with ends is the sum over the rings: the plain statement. Ours.
-/
import Derived.Test.YtkeaodoibflhnaaFun
import Derived.Test.YtkeaodoibflhnaaSxY
import Derived.Test.YtkeaodoibflhnaaSxL
namespace Go.Proofs.Ytkeaodoibflhnaa
open Go.Sx
open Ieee (signed)
set_option linter.unusedVariables false
set_option linter.unusedSimpArgs false
set_option maxRecDepth 100000

def stri (a : Int) : Int := if a < 1 then 0 else if a = 1 then 2 else if a = 2 ∨ a = 3 then 3 else a
theorem stride_is (k : Nat) (a : Int) : spec_Stride k a = some (stri a) := by
  unfold spec_Stride spec_Stride_j1 stri
  by_cases h1 : a < 1
  · rw [decide_eq_true h1, if_pos h1]; rfl
  by_cases h2 : a = 1
  · subst h2; rfl
  by_cases h3 : a = 2
  · subst h3; rfl
  by_cases h4 : a = 3
  · subst h4; rfl
  rw [decide_eq_false h1, decide_eq_false h2, decide_eq_false h3, decide_eq_false h4, if_neg h1, if_neg h2, if_neg (by omega)]; rfl


/-! #### ends that ascend by whole places -/
/-- the place where ring i begins (in numbers) -/
def PP (a : List Int) (i : Nat) : Nat := if i = 0 then 0 else (a.getD (i - 1) 0).toNat
theorem PP_succ (a : List Int) (i : Nat) : PP a (i + 1) = (a.getD i 0).toNat := by simp [PP]

theorem ends_loop (a0 : List Int) (a2 : Int) (h2 : 2 ≤ a2) (h9 : a2 ≤ 9) (hl : a0.length < 3000) (hr : ∀ x ∈ a0, IntKind.min .i64 ≤ x ∧ x ≤ IntKind.max .i64) : ∀ (n i k : Nat) (x : Int), a0.length - i = n → n < k → i ≤ a0.length → 0 ≤ x → x ≤ 9223372036854775807 →
    ∃ y, spec_goodEnds_l1 a0 false a2 k (x, (i : Int)) = some y ∧ ∀ z, y = .inr z → (x = (PP a0 i : Int)) → z = (PP a0 a0.length : Int) ∧ ∀ j, i ≤ j → j < a0.length → a0.getD j 0 = (PP a0 (j + 1) : Int) ∧ PP a0 j ≤ PP a0 (j + 1) ∧ ((PP a0 (j + 1) - PP a0 j : Nat) : Int).tmod a2 = 0 := by
  intro n
  induction n with
  | zero =>
    intro i k x hn hk hi hx hx2
    obtain ⟨k, rfl⟩ : ∃ j, k = j + 1 := ⟨k - 1, by omega⟩
    refine ⟨.inr x, by simp only [spec_goodEnds_l1, spec_goodEnds_l1s, lt_false (show ¬ i < a0.length by omega), br_false], fun z hz hP => ?_⟩
    cases hz
    have : i = a0.length := by omega
    subst this
    exact ⟨hP, fun j h1 h2 => by omega⟩
  | succ n ih =>
    intro i k x hn hk hi hx hx2
    obtain ⟨k, rfl⟩ : ∃ j, k = j + 1 := ⟨k - 1, by omega⟩
    have hlt : i < a0.length := by omega
    have hri := hr _ (List.getElem_mem hlt)
    have hmin : IntKind.min .i64 = -9223372036854775808 := by decide
    have hmax : IntKind.max .i64 = 9223372036854775807 := by decide
    rw [hmin, hmax] at hri
    have hg : a0.getD i 0 = a0[i] := by simp [List.getD, List.getElem?_eq_getElem hlt]
    by_cases hlx : a0[i] < x
    · refine ⟨.inl x, ?_, fun z hz => by cases hz⟩
      simp only [spec_goodEnds_l1, spec_goodEnds_l1s, lt_true hlt, br_true, idx_get hlt, Option.bind_eq_bind, Option.bind_some, decide_eq_true hlx, spec_goodEnds_j4, spec_goodEnds_j6]
    · have hsub : isub .i64 a0[i] x = a0[i] - x := isub_i64 (by omega) (by omega)
      have hrem : irem (a0[i] - x) a2 = some ((a0[i] - x).tmod a2) := by unfold irem; rw [if_neg (by omega)]
      by_cases hm : (a0[i] - x).tmod a2 = 0
      · obtain ⟨y, y1, y2⟩ := ih (i + 1) k a0[i] (by omega) (by omega) (by omega) (by omega) (by omega)
        refine ⟨y, ?_, fun z hz hP => ?_⟩
        · simp only [spec_goodEnds_l1, spec_goodEnds_l1s, lt_true hlt, br_true, br_false, idx_get hlt, Option.bind_eq_bind, Option.bind_some, decide_eq_false hlx, hsub, hrem, decide_eq_true hm, Bool.not_true, spec_goodEnds_j4, spec_goodEnds_j5, spec_goodEnds_j6, iadd_one (show i < 9223372036854775807 by omega), y1]
        · have hPi : a0[i] = (PP a0 (i + 1) : Int) := by rw [PP_succ, hg]; omega
          obtain ⟨z1, z2⟩ := y2 z hz hPi
          refine ⟨z1, fun j h1 h2 => ?_⟩
          by_cases hj : j = i
          · subst hj
            rw [hP] at hm hlx
            rw [hPi] at hm hlx
            refine ⟨by rw [hg]; exact hPi, by omega, ?_⟩
            have e : ((PP a0 (j + 1) - PP a0 j : Nat) : Int) = (PP a0 (j + 1) : Int) - (PP a0 j : Int) := by omega
            rw [e]; exact hm
          · exact z2 j (by omega) h2
      · refine ⟨.inl x, ?_, fun z hz => by cases hz⟩
        simp only [spec_goodEnds_l1, spec_goodEnds_l1s, lt_true hlt, br_true, br_false, idx_get hlt, Option.bind_eq_bind, Option.bind_some, decide_eq_false hlx, hsub, hrem, decide_eq_false hm, Bool.not_false, spec_goodEnds_j4, spec_goodEnds_j6]

/-- good ends -/
def Ends (a : List Int) (s len : Nat) : Prop := PP a a.length = len ∧ ∀ j, j < a.length → a.getD j 0 = (PP a (j + 1) : Int) ∧ PP a j ≤ PP a (j + 1) ∧ (PP a (j + 1) - PP a j) % s = 0
theorem ends_is (k : Nat) (a0 : List Int) (s : Nat) (h2 : 2 ≤ s) (h9 : s ≤ 9) (hl : a0.length < 3000) (hr : ∀ x ∈ a0, IntKind.min .i64 ≤ x ∧ x ≤ IntKind.max .i64) (hk : a0.length < k) :
    ∃ z b, spec_goodEnds k a0 0 (s : Int) false = some (z, b) ∧ ∀ len : Nat, b = true → z = (len : Int) → Ends a0 s len := by
  obtain ⟨y, y1, y2⟩ := ends_loop a0 (s : Int) (by omega) (by omega) hl hr a0.length 0 k 0 (by omega) hk (by omega) (by omega) (by omega)
  have y1' : spec_goodEnds_l1 a0 false (s : Int) k (0, 0) = some y := y1
  unfold spec_goodEnds
  rw [y1', sbind]
  cases y with
  | inl z => exact ⟨z, false, rfl, fun _ h => by cases h⟩
  | inr z =>
    refine ⟨z, true, rfl, fun len _ hz => ?_⟩
    obtain ⟨z1, z2⟩ := y2 z rfl (by simp [PP])
    refine ⟨by omega, fun j hj => ?_⟩
    obtain ⟨q1, q2, q3⟩ := z2 j (by omega) hj
    refine ⟨q1, q2, ?_⟩
    rw [Int.tmod_eq_emod_of_nonneg (by omega)] at q3
    exact_mod_cast q3
theorem PP_le {a : List Int} {s len : Nat} (h : Ends a s len) : ∀ n i, a.length - i = n → i ≤ a.length → PP a i ≤ len := by
  intro n
  induction n with
  | zero => intro i hn hi; have : i = a.length := by omega
            subst this; rw [h.1]; exact Nat.le_refl _
  | succ n ih => intro i hn hi
                 have h1 := (h.2 i (by omega)).2.1
                 have h2 := ih (i + 1) (by omega) (by omega)
                 omega

theorem gGood_is (k : Nat) (L : Int) (s : Nat) (hs : stri L = (s : Int)) (hs2 : 2 ≤ s) (hs9 : s ≤ 9) (a0 : List Nat) (a1 : List Int) (h : a0.length ≤ 2147483647) (h1 : a1.length ≤ 2147483647) (hL : 1 ≤ L) (hL9 : L ≤ 9) (hr : ∀ x ∈ a1, IntKind.min .i64 ≤ x ∧ x ≤ IntKind.max .i64) :
    ∃ b, laws_gGood (k + 3009) [T27.mk 3 L 0 a0 a1 [] []] = some b ∧ (b = true → a0.length + a1.length < 2000 ∧ Ends a1 s a0.length) := by
  have hs0 : stri L ≠ 0 := by omega
  have hW : ∀ j, spec_Weight (j + 3) 3 L 0 a0 a1 [] [] 2000 = some ((a0.length : Int) + a1.length + 1) := fun j => by
    show spec_Weight_b (spec_Weight (j + 2)) (j + 2) 3 L 0 a0 a1 [] [] 2000 = _
    unfold spec_Weight_b
    have e1 : iadd .i64 1 (a0.length : Int) = (a0.length : Int) + 1 := by rw [iadd_i64 (by omega) (by omega)]; omega
    have e2 : iadd .i64 ((a0.length : Int) + 1) (a1.length : Int) = (a0.length : Int) + a1.length + 1 := by rw [iadd_i64 (by omega) (by omega)]; omega
    rw [e1, e2]
    rfl
  have hY : ∀ j, laws_gLayouts (j + 3) 3 L 0 a0 a1 [] [] 9 = some true := fun j => by
    show laws_gLayouts_b (laws_gLayouts (j + 2)) (j + 2) 3 L 0 a0 a1 [] [] 9 = _
    unfold laws_gLayouts_b
    rw [decide_eq_true hL9, decide_eq_true hL]
    rfl
  have hG : a1.length < 3000 → ∀ j, ∃ b, spec_Good (j + 3003) 3 L 0 a0 a1 [] [] = some b ∧ (b = true → Ends a1 s a0.length) := fun h3 j => by
    show ∃ b, spec_Good_b (spec_Good (j + 3002)) (j + 3002) 3 L 0 a0 a1 [] [] = some b ∧ _
    unfold spec_Good_b
    rw [stride_is, sbind, decide_eq_false (show ¬ ((3 : Int) = 7) by decide), br_false, decide_eq_false hs0, br_false]
    have : irem (a0.length : Int) (stri L) = some ((a0.length : Int).tmod (stri L)) := by unfold irem; rw [if_neg hs0]
    rw [this, sbind]
    obtain ⟨z, b, g1, g2⟩ := ends_is (j + 3002) a1 s hs2 hs9 h3 hr (by omega)
    have key : ∃ b', spec_Good_j2 (j + 3002) 3 a1 a0 (stri L) [] [] false = some b' ∧ (b' = true → Ends a1 s a0.length) := by
      unfold spec_Good_j2
      rw [br_false, show decide (0 < ((([] : List T27)).length : Int)) = false from rfl]
      unfold spec_Good_j3
      rw [br_false, show decide (0 < ((([] : List (List Int))).length : Int)) = false from rfl, br_false]
      unfold spec_Good_j4 spec_Good_j5
      rw [br_false, show decide ((3 : Int) = 1) = false from rfl, br_false, show decide ((3 : Int) = 2) = false from rfl, br_false, show decide ((3 : Int) = 8) = false from rfl]
      unfold spec_Good_j7
      rw [br_false, show decide ((3 : Int) = 3) = true from rfl, br_true]
      unfold spec_Good_j8
      rw [br_true, show decide ((3 : Int) = 4) = false from rfl, hs, g1, sbind]
      cases b with
      | false => exact ⟨false, rfl, fun h => by cases h⟩
      | true =>
        simp only [br_true]
        exact ⟨_, rfl, fun h => g2 a0.length rfl (by simpa using h)⟩
    by_cases h0 : (a0.length : Int).tmod (stri L) = 0
    · rw [decide_eq_true h0]; exact key
    · rw [decide_eq_false h0]; exact ⟨false, rfl, fun h => by cases h⟩
  unfold laws_gGood laws_gSmall
  have hS : laws_gSmall_l1 [T27.mk 3 L 0 a0 a1 [] []] (k + 3009) (2000, 0) = some (if a0.length + a1.length < 2000 then .inr () else .inl ()) := by
    show laws_gSmall_l1s _ (k + 3008) (laws_gSmall_l1 _ (k + 3008)) 2000 0 = _
    unfold laws_gSmall_l1s
    rw [show decide ((0 : Int) < (([T27.mk 3 L 0 a0 a1 [] []] : List T27).length : Int)) = true from by simp, br_true, show idx [T27.mk 3 L 0 a0 a1 [] []] 0 = some (T27.mk 3 L 0 a0 a1 [] []) from rfl, sbind]
    simp only [T27.f0, T27.f1, T27.f2, T27.f3, T27.f4, T27.f5, T27.f6]
    rw [hW (k + 3005), sbind, isub_i64 (by omega) (by omega)]
    by_cases hb : a0.length + a1.length < 2000
    · rw [if_pos hb, decide_eq_false (by omega), br_false, hY (k + 3005), sbind]
      rfl
    · rw [if_neg hb, decide_eq_true (by omega), br_true]
      rfl
  rw [hS, sbind]
  by_cases hb : a0.length + a1.length < 2000
  · rw [if_pos hb]
    simp only [sbind, Bool.not_true, br_false]
    obtain ⟨b, g1, g2⟩ := hG (by omega) (k + 5)
    have hl : laws_gGood_l1 [T27.mk 3 L 0 a0 a1 [] []] (k + 3009) 0 = some (if b = true then .inr () else .inl ()) := by
      show laws_gGood_l1s _ (k + 3008) (laws_gGood_l1 _ (k + 3008)) 0 = _
      unfold laws_gGood_l1s
      rw [show decide ((0 : Int) < (([T27.mk 3 L 0 a0 a1 [] []] : List T27).length : Int)) = true from by simp, br_true, show idx [T27.mk 3 L 0 a0 a1 [] []] 0 = some (T27.mk 3 L 0 a0 a1 [] []) from rfl, sbind]
      simp only [T27.f0, T27.f1, T27.f2, T27.f3, T27.f4, T27.f5, T27.f6]
      rw [show k + 3008 = (k + 5) + 3003 from by omega, g1, sbind]
      cases b <;> rfl
    rw [hl, sbind]
    cases b with
    | false => exact ⟨false, rfl, fun h => by cases h⟩
    | true => exact ⟨true, rfl, fun _ => ⟨hb, g2 rfl⟩⟩
  · rw [if_neg hb]
    exact ⟨false, rfl, fun h => by cases h⟩

theorem fRows_is (k : Nat) (a0 : List Nat) (a1 : List Int) (a2 : Int) (h : a0.length ≤ 2147483647) (h1 : a1.length ≤ 2147483647) (hr : ∀ x ∈ a1, IntKind.min .i64 ≤ x ∧ x ≤ IntKind.max .i64) :
    ∃ x0 x1 x2 xs es b, laws_fRows (k + 3009) a0 a1 a2 = some (x0, x1, x2, xs, es, b) ∧ (b = true → x0 = 3 ∧ x2 = 0 ∧ xs = a0 ∧ es = a1 ∧ ∃ s : Nat, a2 = (s : Int) ∧ stri x1 = (s : Int) ∧ 2 ≤ s ∧ s ≤ 9 ∧ a0.length + a1.length < 2000 ∧ Ends a1 s a0.length) := by
  unfold laws_fRows laws_fStride laws_fStride_j1
  by_cases h2 : 2 ≤ a2
  · rw [decide_eq_true h2, br_true, sbind]
    by_cases h9 : a2 ≤ 9
    · rw [decide_eq_true h9]
      simp only [Bool.not_true, br_false]
      obtain ⟨s, rfl⟩ := Int.eq_ofNat_of_zero_le (show 0 ≤ a2 by omega)
      have hL : ∃ L, laws_fLayout (k + 3009) (s : Int) = some L ∧ stri L = (s : Int) ∧ 1 ≤ L ∧ L ≤ 9 := by
        unfold laws_fLayout
        by_cases e2 : (s : Int) = 2
        · exact ⟨1, by rw [decide_eq_true e2, br_true], by rw [e2]; rfl, by decide, by decide⟩
        by_cases e3 : (s : Int) = 3
        · exact ⟨2, by rw [decide_eq_false e2, br_false, decide_eq_true e3, br_true], by rw [e3]; rfl, by decide, by decide⟩
        refine ⟨(s : Int), ?_, ?_, by omega, h9⟩
        · rw [decide_eq_false e2, br_false, decide_eq_false e3, br_false]
        · unfold stri; rw [if_neg (by omega), if_neg (by omega), if_neg (by omega)]
      obtain ⟨L, l1, l2, l3, l4⟩ := hL
      obtain ⟨b, b1, b2⟩ := gGood_is k L s l2 (by omega) (by omega) a0 a1 h h1 l3 l4 hr
      rw [l1, sbind, b1, sbind]
      exact ⟨_, _, _, _, _, b, rfl, fun hb => ⟨rfl, rfl, rfl, rfl, s, rfl, l2, by omega, by omega, (b2 hb).1, (b2 hb).2⟩⟩
    · rw [decide_eq_false h9]
      exact ⟨_, _, _, _, _, _, rfl, fun h => by cases h⟩
  · rw [decide_eq_false h2, br_false, sbind]
    exact ⟨_, _, _, _, _, _, rfl, fun h => by cases h⟩

/-! #### whole numbers -/
theorem each_one (k x : Nat) (hx : x < 2 ^ 64) : ∃ b, laws_gWhole k x = some b ∧ (b = true → ∃ n : Int, D x n 1074 ∧ n.natAbs ≤ 1048576) := by
  have hw : laws_gWhole k x = some (fge x 13920626448202203136 && fle x 4697254411347427328 && feq x (gint .zero x)) := by
    unfold laws_gWhole laws_gWhole_j1 laws_gWhole_j2 math_Trunc
    cases fge x 13920626448202203136 <;> cases fle x 4697254411347427328 <;> rfl
  refine ⟨_, hw, fun h => ?_⟩
  simp only [Bool.and_eq_true] at h
  exact grid_one (w := 4697254411347427328) (b := 1048576) hx (by omega) (D_two 20 (by omega)) h.1.1 h.1.2 (by rw [fne_feq, h.2]; rfl)

theorem each_is (xs : List Nat) (hx : ∀ x ∈ xs, x < 2 ^ 64) (hl : xs.length < 1000000) : ∀ (n k i : Nat), xs.length - i = n → n < k → i ≤ xs.length →
    ∃ y, laws_gEach_l1 xs k (i : Int) = some y ∧ (y = .inr () → ∀ j x, i ≤ j → xs[j]? = some x → ∃ n : Int, D x n 1074 ∧ n.natAbs ≤ 1048576) := by
  intro n
  induction n with
  | zero =>
    intro k i hn hk hi
    obtain ⟨k, rfl⟩ : ∃ j, k = j + 1 := ⟨k - 1, by omega⟩
    exact ⟨.inr (), by simp only [laws_gEach_l1, laws_gEach_l1s, lt_false (show ¬ i < xs.length by omega), br_false], fun _ j x hj h => by
      rw [List.getElem?_eq_none (by omega)] at h; cases h⟩
  | succ n ih =>
    intro k i hn hk hi
    obtain ⟨k, rfl⟩ : ∃ j, k = j + 1 := ⟨k - 1, by omega⟩
    have hlt : i < xs.length := by omega
    obtain ⟨b, h1, h2⟩ := each_one k xs[i] (hx _ (List.getElem_mem hlt))
    obtain ⟨y, y1, y2⟩ := ih k (i + 1) (by omega) (by omega) (by omega)
    cases b with
    | false =>
      refine ⟨.inl (), ?_, fun h => by cases h⟩
      simp only [laws_gEach_l1, laws_gEach_l1s, lt_true hlt, br_true, idx_get hlt, Option.bind_eq_bind, Option.bind_some, h1, Bool.not_false]
    | true =>
      refine ⟨y, ?_, fun h j x hj hjx => ?_⟩
      · simp only [laws_gEach_l1, laws_gEach_l1s, lt_true hlt, br_true, br_false, idx_get hlt, Option.bind_eq_bind, Option.bind_some, h1, Bool.not_true, iadd_one (show i < 9223372036854775807 by omega), y1]
      · by_cases hji : j = i
        · subst hji
          rw [List.getElem?_eq_getElem hlt] at hjx
          cases hjx
          exact h2 rfl
        · exact y2 h j x (by omega) hjx

/-! #### the area of a ring -/
def Val (a : List Nat) (v : Nat → Int) : Prop := ∀ i (h : i < a.length), D a[i] (v i) 1074 ∧ (v i).natAbs ≤ 1048576
def RS (v : Nat → Int) (s i : Nat) : Nat → Int
  | 0 => 0
  | n + 1 => (v (i + 1) - v (i + 1 - s)) * (v i + v (i - s)) + RS v s (i + s) n
theorem term_bound {a b c d : Int} (ha : a.natAbs ≤ 1048576) (hb : b.natAbs ≤ 1048576) (hc : c.natAbs ≤ 1048576) (hd : d.natAbs ≤ 1048576) : ((a - b) * (c + d)).natAbs ≤ 4398046511104 := by
  rw [Int.natAbs_mul]
  exact Nat.mul_le_mul (show (a - b).natAbs ≤ 2097152 by omega) (show (c + d).natAbs ≤ 2097152 by omega)
theorem RS_bound (a : List Nat) (v : Nat → Int) (hv : Val a v) (s : Nat) (hs : 2 ≤ s) : ∀ n i, s ≤ i → (n = 0 ∨ i + n * s ≤ a.length) → (RS v s i n).natAbs ≤ n * 4398046511104
  | 0, _, _, _ => by simp [RS]
  | n + 1, i, h1, h2 => by
    have h3 : i + (n + 1) * s ≤ a.length := by rcases h2 with h | h; omega; exact h
    rw [Nat.add_mul, Nat.one_mul] at h3
    have ih := RS_bound a v hv s hs n (i + s) (by omega) (.inr (by omega))
    have := term_bound (hv (i + 1) (by omega)).2 (hv (i + 1 - s) (by omega)).2 (hv i (by omega)).2 (hv (i - s) (by omega)).2
    simp only [RS]; omega

theorem area_loop (a : List Nat) (v : Nat → Int) (hv : Val a v) (s : Nat) (hs : 2 ≤ s ∧ s ≤ 9) (hl : a.length < 2000) (b : Nat) (hb : b ≤ a.length) : ∀ (n i k x : Nat) (X : Int), ((n = 0 ∧ b ≤ i) ∨ b = i + n * s) → s ≤ i → i < 4000 → n < k → D x X 1074 → X.natAbs + n * 4398046511104 ≤ 9007199254740992 →
    ∃ y, gogeom_doubleArea1_l1 (b : Int) a (s : Int) k (x, (i : Int)) = some y ∧ D y (X + RS v s i n) 1074 := by
  intro n
  induction n with
  | zero =>
    intro i k x X h1 h2 hi4 hk hx hX
    obtain ⟨k, rfl⟩ : ∃ j, k = j + 1 := ⟨k - 1, by omega⟩
    refine ⟨x, ?_, by simpa [RS] using hx⟩
    simp only [gogeom_doubleArea1_l1, gogeom_doubleArea1_l1s, lt_false (show ¬ i < b by omega), br_false]
  | succ n ih =>
    intro i k x X h1 h2 hi4 hk hx hX
    obtain ⟨k, rfl⟩ : ∃ j, k = j + 1 := ⟨k - 1, by omega⟩
    have hbi : b = i + s + n * s := by
      rcases h1 with h | h
      · omega
      · rw [Nat.add_mul, Nat.one_mul] at h; omega
    have j1 : i < a.length := by omega
    have j2 : i - s < a.length := by omega
    have j3 : i + 1 < a.length := by omega
    have j4 : i + 1 - s < a.length := by omega
    have e2 : isub .i64 (i : Int) (s : Int) = ((i - s : Nat) : Int) := by rw [isub_i64 (by omega) (by omega)]; omega
    have e3 : iadd .i64 (i : Int) 1 = ((i + 1 : Nat) : Int) := iadd_one (by omega)
    have e4 : isub .i64 ((i + 1 : Nat) : Int) (s : Int) = ((i + 1 - s : Nat) : Int) := by rw [isub_i64 (by omega) (by omega)]; omega
    have e6 : iadd .i64 (i : Int) (s : Int) = ((i + s : Nat) : Int) := by rw [iadd_i64 (by omega) (by omega)]; omega
    obtain ⟨d1, b1⟩ := hv i j1
    obtain ⟨d2, b2⟩ := hv (i - s) j2
    obtain ⟨d3, b3⟩ := hv (i + 1) j3
    obtain ⟨d4, b4⟩ := hv (i + 1 - s) j4
    have tb := term_bound b3 b4 b1 b2
    obtain ⟨u, u1, u2⟩ := D_sub d3 d4 rfl (by omega) (by omega)
    obtain ⟨w, w1, w2⟩ := D_sum d1 d2 rfl (by omega) (by omega)
    obtain ⟨p, p1, p2⟩ := D_mul (u := 1074) u2 w2 rfl (by omega) (by omega) (by omega) (by omega)
    obtain ⟨r, r1, r2⟩ := D_sum hx p2 rfl (by omega) (by omega)
    obtain ⟨y, y1, y2⟩ := ih (i + s) k r _ (.inr hbi) (by omega) (by omega) (by omega) r2 (by omega)
    refine ⟨y, ?_, by simp only [RS]; rw [← Int.add_assoc]; exact y2⟩
    simp only [gogeom_doubleArea1_l1, gogeom_doubleArea1_l1s, lt_true (show i < b by omega), br_true, e2, e3, e4, e6, idx_get j1, idx_get j2, idx_get j3, idx_get j4, Option.bind_eq_bind, Option.bind_some, u1, w1, p1, r1]
    exact y1

/-- the law's own sum over a ring that is cut out -/
theorem twice_loop (a : List Nat) (v : Nat → Int) (hv : Val a v) (s : Nat) (hs : 2 ≤ s ∧ s ≤ 9) (hl : a.length < 2000) (f b : Nat) (hf : f ≤ b) (hb : b ≤ a.length) (p : List Nat) (hp : p = (a.take b).drop f) : ∀ (n i k : Nat) (X : Int), ((n = 0 ∧ b ≤ f + i) ∨ b = f + i + n * s) → s ≤ i → i < 4000 → n < k → X.natAbs + n * 4398046511104 ≤ 9007199254740992 →
    laws_gTwice_v2_l1 p (s : Int) k (X, (i : Int)) = some (X + RS v s (f + i) n) := by
  have hpl : p.length = b - f := by rw [hp, List.length_drop, List.length_take]; omega
  have hpg : ∀ j (h : j < p.length), p[j] = a[f + j]'(by omega) := fun j h => by subst hp; simp
  intro n
  induction n with
  | zero =>
    intro i k X h1 h2 hi4 hk hX
    obtain ⟨k, rfl⟩ : ∃ j, k = j + 1 := ⟨k - 1, by omega⟩
    simp only [laws_gTwice_v2_l1, laws_gTwice_v2_l1s, lt_false (show ¬ i < p.length by omega), br_false, RS, Int.add_zero]
  | succ n ih =>
    intro i k X h1 h2 hi4 hk hX
    obtain ⟨k, rfl⟩ : ∃ j, k = j + 1 := ⟨k - 1, by omega⟩
    have hbi : b = f + (i + s) + n * s := by
      rcases h1 with h | h
      · omega
      · rw [Nat.add_mul, Nat.one_mul] at h; omega
    have j1 : i < p.length := by omega
    have j2 : i - s < p.length := by omega
    have j3 : i + 1 < p.length := by omega
    have j4 : i - s + 1 < p.length := by omega
    have e2 : isub .i64 (i : Int) (s : Int) = ((i - s : Nat) : Int) := by rw [isub_i64 (by omega) (by omega)]; omega
    have e3 : iadd .i64 (i : Int) 1 = ((i + 1 : Nat) : Int) := iadd_one (by omega)
    have e4 : iadd .i64 ((i - s : Nat) : Int) 1 = ((i - s + 1 : Nat) : Int) := iadd_one (by omega)
    have e6 : iadd .i64 (i : Int) (s : Int) = ((i + s : Nat) : Int) := by rw [iadd_i64 (by omega) (by omega)]; omega
    obtain ⟨d1, b1⟩ := hv (f + i) (by omega)
    obtain ⟨d2, b2⟩ := hv (f + (i - s)) (by omega)
    obtain ⟨d3, b3⟩ := hv (f + (i + 1)) (by omega)
    obtain ⟨d4, b4⟩ := hv (f + (i - s + 1)) (by omega)
    have tb := term_bound b3 b4 b1 b2
    have q1 := f2i_D d1 (by omega); have q2 := f2i_D d2 (by omega); have q3 := f2i_D d3 (by omega); have q4 := f2i_D d4 (by omega)
    rw [← hpg i j1] at q1; rw [← hpg (i - s) j2] at q2; rw [← hpg (i + 1) j3] at q3; rw [← hpg (i - s + 1) j4] at q4
    have s1 : isub .i64 (v (f + (i + 1))) (v (f + (i - s + 1))) = v (f + (i + 1)) - v (f + (i - s + 1)) := isub_i64 (by omega) (by omega)
    have s2 : iadd .i64 (v (f + i)) (v (f + (i - s))) = v (f + i) + v (f + (i - s)) := iadd_i64 (by omega) (by omega)
    obtain ⟨t, ht⟩ : ∃ t, (v (f + (i + 1)) - v (f + (i - s + 1))) * (v (f + i) + v (f + (i - s))) = t := ⟨_, rfl⟩
    rw [ht] at tb
    have s3 : imul .i64 (v (f + (i + 1)) - v (f + (i - s + 1))) (v (f + i) + v (f + (i - s))) = t := by rw [imul_i64 (by rw [ht]; omega) (by rw [ht]; omega), ht]
    have s4 : iadd .i64 X t = X + t := iadd_i64 (by omega) (by omega)
    have := ih (i + s) k (X + t) (.inr hbi) (by omega) (by omega) (by omega) (by omega)
    simp only [laws_gTwice_v2_l1, laws_gTwice_v2_l1s, lt_true j1, br_true, e2, e3, e4, e6, idx_get j1, idx_get j2, idx_get j3, idx_get j4, Option.bind_eq_bind, Option.bind_some, q1, q2, q3, q4, s1, s2, s3, s4]
    rw [this]
    simp only [RS]
    rw [show f + (i + s) = f + i + s from by omega, show f + i + 1 - s = f + (i - s + 1) from by omega, show f + i - s = f + (i - s) from by omega, show f + i + 1 = f + (i + 1) from by omega, ht, ← Int.add_assoc]

/-! #### all rings -/
def cnt (a : List Int) (s j : Nat) : Nat := (PP a (j + 1) - PP a j) / s - 1
def TOT (v : Nat → Int) (a : List Int) (s : Nat) : Nat → Int
  | 0 => 0
  | j + 1 => TOT v a s j + RS v s (PP a j + s) (cnt a s j)
theorem cnt_is {a : List Int} {s len : Nat} (hs : 2 ≤ s) (h : Ends a s len) (j : Nat) (hj : j < a.length) : (cnt a s j = 0 ∧ PP a (j + 1) ≤ PP a j + s) ∨ PP a (j + 1) = PP a j + s + cnt a s j * s := by
  obtain ⟨_, h2, h3⟩ := h.2 j hj
  unfold cnt
  obtain ⟨d, hd⟩ : ∃ d, PP a (j + 1) - PP a j = d := ⟨_, rfl⟩
  rw [hd] at h3 ⊢
  have hq : d / s * s = d := Nat.div_mul_cancel (Nat.dvd_of_mod_eq_zero h3)
  obtain ⟨q, hq'⟩ : ∃ q, d / s = q := ⟨_, rfl⟩
  rw [hq'] at hq ⊢
  rcases Nat.eq_zero_or_pos q with h0 | h0
  · subst h0; left; omega
  · right
    have : q = (q - 1) + 1 := by omega
    rw [this, Nat.add_mul, Nat.one_mul] at hq
    omega
theorem cnt_le {a : List Int} {s len : Nat} (hs : 2 ≤ s) (h : Ends a s len) (j : Nat) (hj : j < a.length) : cnt a s j ≤ PP a (j + 1) - PP a j := by
  unfold cnt
  have := Nat.div_le_self (PP a (j + 1) - PP a j) s
  omega
theorem ring_bound (a0 : List Nat) (v : Nat → Int) (hv : Val a0 v) {a : List Int} {s : Nat} (hs : 2 ≤ s) (h : Ends a s a0.length) (j : Nat) (hj : j < a.length) : (RS v s (PP a j + s) (cnt a s j)).natAbs ≤ (PP a (j + 1) - PP a j) * 4398046511104 := by
  have h1 := cnt_is hs h j hj
  have h2 := PP_le h (a.length - (j + 1)) (j + 1) rfl (by omega)
  have h3 := RS_bound a0 v hv s hs (cnt a s j) (PP a j + s) (by omega) (by
    rcases h1 with h | h
    · exact .inl h.1
    · exact .inr (by omega))
  have h4 := Nat.mul_le_mul_right 4398046511104 (cnt_le hs h j hj)
  exact Nat.le_trans h3 h4
theorem TOT_bound (a0 : List Nat) (v : Nat → Int) (hv : Val a0 v) {a : List Int} {s : Nat} (hs : 2 ≤ s) (h : Ends a s a0.length) : ∀ j, j ≤ a.length → (TOT v a s j).natAbs ≤ PP a j * 4398046511104
  | 0, _ => by simp [TOT]
  | j + 1, hj => by
    have ih := TOT_bound a0 v hv hs h j (by omega)
    have h1 := ring_bound a0 v hv hs h j (by omega)
    have h2 := (h.2 j (by omega)).2.1
    simp only [TOT]
    have e : PP a (j + 1) * 4398046511104 = PP a j * 4398046511104 + (PP a (j + 1) - PP a j) * 4398046511104 := by rw [← Nat.add_mul]; congr 1; omega
    omega

theorem pack_loop (a0 : List Nat) (v : Nat → Int) (hv : Val a0 v) (a : List Int) (s : Nat) (hs : 2 ≤ s ∧ s ≤ 9) (hl : a0.length + a.length < 2000) (h : Ends a s a0.length) : ∀ (n j k x : Nat), a.length - j = n → n + 2100 < k → j ≤ a.length → D x (TOT v a s j) 1074 →
    ∃ y, gogeom_doubleArea2_l1 a a0 (s : Int) k ((PP a j : Int), x, (j : Int)) = some y ∧ D y (TOT v a s a.length) 1074 := by
  intro n
  induction n with
  | zero =>
    intro j k x hn hk hj hx
    obtain ⟨k, rfl⟩ : ∃ j, k = j + 1 := ⟨k - 1, by omega⟩
    have : j = a.length := by omega
    subst this
    exact ⟨x, by simp only [gogeom_doubleArea2_l1, gogeom_doubleArea2_l1s, lt_false (Nat.lt_irrefl _), br_false], hx⟩
  | succ n ih =>
    intro j k x hn hk hj hx
    obtain ⟨k, rfl⟩ : ∃ j, k = j + 1 := ⟨k - 1, by omega⟩
    have hlt : j < a.length := by omega
    obtain ⟨h1, h2, h3⟩ := h.2 j hlt
    have hg : a.getD j 0 = a[j] := by simp [List.getD, List.getElem?_eq_getElem hlt]
    rw [hg] at h1
    have hP := PP_le h (a.length - (j + 1)) (j + 1) rfl (by omega)
    have hc := cnt_is hs.1 h j hlt
    have hcl := cnt_le hs.1 h j hlt
    have hcb : cnt a s j * 4398046511104 ≤ 2000 * 4398046511104 := Nat.mul_le_mul_right _ (by omega)
    obtain ⟨y, y1, y2⟩ := area_loop a0 v hv s hs (by omega) (PP a (j + 1)) hP (cnt a s j) (PP a j + s) k 0 0 hc (by omega) (by omega) (by omega) (D_zero 1074) (by simp; omega)
    rw [Int.zero_add] at y2
    have tb := TOT_bound a0 v hv hs.1 h (j + 1) (by omega)
    have tb2 : PP a (j + 1) * 4398046511104 ≤ 2000 * 4398046511104 := Nat.mul_le_mul_right _ (by omega)
    have da := gadd_D hx y2 (c := TOT v a s (j + 1)) rfl (by omega) (by omega)
    obtain ⟨z, z1, z2⟩ := ih (j + 1) k _ (by omega) (by omega) (by omega) da
    refine ⟨z, ?_, z2⟩
    have e0 : iadd .i64 (PP a j : Int) (s : Int) = ((PP a j + s : Nat) : Int) := by rw [iadd_i64 (by omega) (by omega)]; omega
    simp only [gogeom_doubleArea2_l1, gogeom_doubleArea2_l1s, lt_true hlt, br_true, idx_get hlt, Option.bind_eq_bind, Option.bind_some, h1, gogeom_doubleArea1, e0, y1, iadd_one (show j < 9223372036854775807 by omega)]
    exact z1

/-- a ring as a geometry -/
def part (a0 : List Nat) (a : List Int) (L : Int) (j : Nat) : T27 := T27.mk 8 L 0 ((a0.take (PP a (j + 1))).drop (PP a j)) [] [] []
theorem parts_loop (a0 : List Nat) (a : List Int) (L : Int) (s : Nat) (hl : a0.length + a.length < 2000) (h : Ends a s a0.length) : ∀ (n j k : Nat) (xs : List T27), a.length - j = n → n < k → j ≤ a.length → xs.length = j →
    spec_Parts_l1 (a.length : Int) 3 L 0 a0 a k (xs, (j : Int)) = some (xs ++ (List.range' j n).map (part a0 a L)) := by
  intro n
  induction n with
  | zero =>
    intro j k xs hn hk hj hx
    obtain ⟨k, rfl⟩ : ∃ j, k = j + 1 := ⟨k - 1, by omega⟩
    simp only [spec_Parts_l1, spec_Parts_l1s, lt_false (show ¬ j < a.length by omega), br_false, List.range'_zero, List.map_nil, List.append_nil]
  | succ n ih =>
    intro j k xs hn hk hj hx
    obtain ⟨k, rfl⟩ : ∃ j, k = j + 1 := ⟨k - 1, by omega⟩
    have hlt : j < a.length := by omega
    obtain ⟨h1, h2, h3⟩ := h.2 j hlt
    have hg : a.getD j 0 = a[j] := by simp [List.getD, List.getElem?_eq_getElem hlt]
    rw [hg] at h1
    have hP := PP_le h (a.length - (j + 1)) (j + 1) rfl (by omega)
    have hj4 : ∀ k', spec_Part_j4 k' a (j : Int) a0 (PP a j : Int) L 8 = some (8, L, 0, (a0.take (PP a (j + 1))).drop (PP a j)) := fun k' => by
      unfold spec_Part_j4
      rw [idx_get hlt, sbind, h1, cut_some (by omega) (by omega) (by omega), sbind, apd_some (by simp; omega) (by simp; omega)]
      simp
    have hpart : ∀ k', spec_Part k' 3 L 0 a0 a (j : Int) = some (8, L, 0, (a0.take (PP a (j + 1))).drop (PP a j)) := fun k' => by
      unfold spec_Part
      rw [show decide ((3 : Int) = 7) = false from rfl, br_false, show decide ((3 : Int) = 6) = false from rfl, br_false]
      unfold spec_Part_j3
      simp only [show (!decide ((3 : Int) = 3)) = false from rfl, br_false]
      rcases Nat.eq_zero_or_pos j with h0 | h0
      · subst h0
        rw [show decide ((0 : Int) < ((0 : Nat) : Int)) = false from rfl, br_false]
        have := hj4 k'
        rw [show PP a 0 = 0 from rfl] at this ⊢
        exact this
      · rw [decide_eq_true (show (0 : Int) < (j : Int) by omega), br_true, isub_i64 (by omega) (by omega), show (j : Int) - 1 = ((j - 1 : Nat) : Int) from by omega, idx_get (show j - 1 < a.length by omega), sbind]
        obtain ⟨q1, _, _⟩ := h.2 (j - 1) (by omega)
        rw [show a.getD (j - 1) 0 = a[j - 1] from by simp [List.getD, List.getElem?_eq_getElem (show j - 1 < a.length by omega)], show j - 1 + 1 = j from by omega] at q1
        rw [q1]
        exact hj4 k'
    have ha : apd 120 xs [T27.mk 8 L 0 ((a0.take (PP a (j + 1))).drop (PP a j)) [] [] []] = some (xs ++ [part a0 a L j]) := apd_some (by simp; omega) (by simp; omega)
    have := ih (j + 1) k (xs ++ [part a0 a L j]) (by omega) (by omega) (by omega) (by simp [hx])
    simp only [spec_Parts_l1, spec_Parts_l1s, lt_true hlt, br_true, hpart, Option.bind_eq_bind, Option.bind_some, ha, iadd_one (show j < 9223372036854775807 by omega), this]
    rw [List.range'_succ, List.map_cons, List.append_assoc]; rfl

theorem sum_loop (a0 : List Nat) (v : Nat → Int) (hv : Val a0 v) (a : List Int) (L : Int) (s : Nat) (hL : stri L = (s : Int)) (hs : 2 ≤ s ∧ s ≤ 9) (hl : a0.length + a.length < 2000) (h : Ends a s a0.length) (ps : List T27) (hps : ps.length = a.length) (hpj : ∀ j (hj : j < ps.length), ps[j] = part a0 a L j) : ∀ (n j k : Nat), a.length - j = n → n + 2100 < k → j ≤ a.length →
    laws_gTwice_l2 ps k (TOT v a s j, (j : Int)) = some (TOT v a s a.length) := by
  intro n
  induction n with
  | zero =>
    intro j k hn hk hj
    obtain ⟨k, rfl⟩ : ∃ j, k = j + 1 := ⟨k - 1, by omega⟩
    have : j = a.length := by omega
    subst this
    simp only [laws_gTwice_l2, laws_gTwice_l2s, lt_false (show ¬ a.length < ps.length by omega), br_false]
  | succ n ih =>
    intro j k hn hk hj
    obtain ⟨k, rfl⟩ : ∃ j, k = j + 1 := ⟨k - 1, by omega⟩
    have hlt : j < a.length := by omega
    have hlt' : j < ps.length := by omega
    obtain ⟨h1, h2, h3⟩ := h.2 j hlt
    have hP := PP_le h (a.length - (j + 1)) (j + 1) rfl (by omega)
    have hc := cnt_is hs.1 h j hlt
    have hcl := cnt_le hs.1 h j hlt
    have hcb : cnt a s j * 4398046511104 ≤ 2000 * 4398046511104 := Nat.mul_le_mul_right _ (by omega)
    have htw : laws_gTwice_v2 k (part a0 a L j).f0 (part a0 a L j).f1 (part a0 a L j).f2 (part a0 a L j).f3 (part a0 a L j).f4 (part a0 a L j).f5 (part a0 a L j).f6 = some (RS v s (PP a j + s) (cnt a s j)) := by
      obtain ⟨k, rfl⟩ : ∃ j, k = j + 1 := ⟨k - 1, by omega⟩
      show laws_gTwice_v2_b (laws_gTwice_v2 k) k 8 L 0 ((a0.take (PP a (j + 1))).drop (PP a j)) [] [] [] = _
      unfold laws_gTwice_v2_b
      rw [show decide ((8 : Int) = 8) = true from rfl, br_true, stride_is, sbind, hL]
      have := twice_loop a0 v hv s hs (by omega) (PP a j) (PP a (j + 1)) h2 hP _ rfl (cnt a s j) s k 0 hc (by omega) (by omega) (by omega) (by simp; omega)
      rw [this, sbind, Int.zero_add]
      rfl
    have tb := TOT_bound a0 v hv hs.1 h (j + 1) (by omega)
    have tb1 := TOT_bound a0 v hv hs.1 h j (by omega)
    have tb2 : PP a (j + 1) * 4398046511104 ≤ 2000 * 4398046511104 := Nat.mul_le_mul_right _ (by omega)
    have e : iadd .i64 (TOT v a s j) (RS v s (PP a j + s) (cnt a s j)) = TOT v a s (j + 1) := by
      rw [iadd_i64 (by simp only [TOT] at tb; omega) (by simp only [TOT] at tb; omega)]; rfl
    have := ih (j + 1) k (by omega) (by omega) (by omega)
    simp only [laws_gTwice_l2, laws_gTwice_l2s, lt_true hlt', br_true, idx_get hlt', hpj j hlt', Option.bind_eq_bind, Option.bind_some, htw, e, iadd_one (show j < 9223372036854775807 by omega)]
    exact this

theorem fact_FnDoubleArea2 (a0 : List Nat) (a1 : List Int) (a2 : Int) {p : Prop} (g0 : a0.length ≤ maxLen ∧ ∀ x ∈ a0, x < 18446744073709551616) (g1 : a1.length ≤ maxLen ∧ ∀ x ∈ a1, IntKind.min .i64 ≤ x ∧ x ≤ IntKind.max .i64) (g2 : p) : laws_FnDoubleArea2 9000 a0 a1 a2 = some true := by
  have key : a0.length ≤ 2147483647 → a1.length ≤ 2147483647 → laws_FnDoubleArea2_j1 9000 a0 a1 a2 false = some true := by
    intro h0 h1
    unfold laws_FnDoubleArea2_j1
    rw [br_false]
    obtain ⟨x0, x1, x2, xs, es, b, r1, r2⟩ := fRows_is 5991 a0 a1 a2 h0 h1 g1.2
    rw [r1, sbind]
    cases b with
    | false => rfl
    | true =>
      obtain ⟨rfl, rfl, rfl, rfl, s, rfl, hL, hs2, hs9, hlen, hE⟩ := r2 rfl
      simp only [Bool.not_true, br_false]
      obtain ⟨y, y1, y2⟩ := each_is xs (fun x hx => by have := g0.2 x hx; omega) (by omega) xs.length 9000 0 (by omega) (by omega) (by omega)
      have y1' : laws_gEach_l1 xs 9000 0 = some y := y1
      unfold laws_gEach
      rw [y1', sbind]
      cases y with
      | inl u => rfl
      | inr u =>
        simp only [sbind, Bool.not_true]
        have hex : ∀ i (hi : i < xs.length), ∃ n : Int, D xs[i] n 1074 ∧ n.natAbs ≤ 1048576 := fun i hi => y2 rfl i _ (by omega) (List.getElem?_eq_getElem hi)
        obtain ⟨v, hv⟩ : ∃ v, Val xs v := ⟨fun i => if hi : i < xs.length then Classical.choose (hex i hi) else 0, fun i hi => by simp only [hi, dif_pos]; exact Classical.choose_spec (hex i hi)⟩
        unfold laws_FnDoubleArea2_j2
        rw [br_false]
        obtain ⟨z, z1, z2⟩ := pack_loop xs v hv es s ⟨hs2, hs9⟩ hlen hE es.length 0 9000 0 (by omega) (by omega) (by omega) (D_zero 1074)
        have z1' : gogeom_doubleArea2_l1 es xs (s : Int) 9000 (0, 0, 0) = some z := z1
        have hp := parts_loop xs es x1 s hlen hE es.length 0 9000 [] (by omega) (by omega) (by omega) rfl
        have hp' : spec_Parts_l1 (es.length : Int) 3 x1 0 xs es 9000 ([], 0) = some ((List.range' 0 es.length).map (part xs es x1)) := by
          simpa using hp
        have hsum := sum_loop xs v hv es x1 s hL ⟨hs2, hs9⟩ hlen hE ((List.range' 0 es.length).map (part xs es x1)) (by simp) (fun j hj => by simp) es.length 0 9000 (by omega) (by omega) (by omega)
        have hsum' : laws_gTwice_l2 ((List.range' 0 es.length).map (part xs es x1)) 9000 (0, 0) = some (TOT v es s es.length) := hsum
        have tb := TOT_bound xs v hv hs2 hE es.length (by omega)
        rw [hE.1] at tb
        have tb2 : xs.length * 4398046511104 ≤ 2000 * 4398046511104 := Nat.mul_le_mul_right _ (by omega)
        unfold impl_DoubleArea2 gogeom_DoorDoubleArea2 gogeom_doubleArea2
        rw [z1']
        simp only [sbind, br_true]
        unfold laws_gTwice
        rw [show decide ((3 : Int) = 8) = false from rfl, br_false, show decide ((3 : Int) = 3) = true from rfl, br_true]
        unfold laws_gTwice_j1 spec_Parts spec_NumParts spec_NumParts_j1
        rw [br_true, show decide ((3 : Int) = 3) = true from rfl, br_true, br_true, sbind, hp']
        simp only [sbind, hsum', laws_gTwice_j2, laws_FnDoubleArea2_j3]
        rw [D_eq z2 (D_i2f (by omega))]
        simp
  unfold laws_FnDoubleArea2
  by_cases h0 : 2147483647 < (a0.length : Int)
  · rw [decide_eq_true h0, br_true]; rfl
  rw [decide_eq_false h0, br_false]
  by_cases h1 : 2147483647 < (a1.length : Int)
  · rw [decide_eq_true h1]; rfl
  rw [decide_eq_false h1]
  exact key (by omega) (by omega)
end Go.Proofs.Ytkeaodoibflhnaa
