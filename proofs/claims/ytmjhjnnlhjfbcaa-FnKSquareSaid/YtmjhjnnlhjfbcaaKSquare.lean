/-
  The square of the distance of two points is the sum of the squares of their differences, exactly: the plain statement. Ours.
-/
import Derived.Test.YtmjhjnnlhjfbcaaFun
import Derived.Test.YtmjhjnnlhjfbcaaSxV
import Derived.Test.YtmjhjnnlhjfbcaaSxL
namespace Go.Proofs.Ytmjhjnnlhjfbcaa
open Go.Sx
set_option linter.unusedVariables false
set_option linter.unusedSimpArgs false

/-- a test of the grid on one number -/
def offGrid (w x : Nat) : Bool := !(fge x (fneg w) && fle x w && !fne x (gint .zero x))
theorem grid_l1_is (r : List Nat) (w : Nat) (hr : r.length < 9223372036854775807) (k : Nat) (hk : r.length < k) :
    spec_Grid_l1 r w k 0 = some (if (List.range' 0 r.length).any (fun i => offGrid w (r.getD i 0)) = true then .inl () else .inr ()) := by
  refine loop_any (F := spec_Grid_l1 r w) 0 r.length (fun i => offGrid w (r.getD i 0)) (.inl ()) (.inr ()) (fun k i _ hi => ?_) (fun k => by simp only [spec_Grid_l1, spec_Grid_l1s, lt_false (Nat.lt_irrefl _), br_false]) r.length 0 k (by omega) (by omega)
  have e : r.getD i 0 = r[i] := by simp [List.getD, List.getElem?_eq_getElem hi]
  simp only [spec_Grid_l1, spec_Grid_l1s, lt_true hi, br_true, idx_get hi, Option.bind_eq_bind, Option.bind_some, offGrid, e, iadd_one (show i < 9223372036854775807 from by omega)]
  cases h1 : fge r[i] (fneg w) <;> cases h2 : fle r[i] w <;> cases h3 : fne r[i] (gint .zero r[i]) <;> simp [br, spec_Grid_j1, spec_Grid_j2, math_Trunc, h3, iadd_one (show i < 9223372036854775807 from by omega)]
theorem grid_one_row (k : Nat) (r : List Nat) (n : Nat) (w : Nat) (hr : r.length < 9223372036854775807) (hk : n + 2 < k) (hk1 : 2 < k) :
    ∃ b, spec_Grid k [r] (n : Int) w = some b ∧ (b = true → r.length = n ∧ ∀ i, i < r.length → offGrid w (r.getD i 0) = false) := by
  obtain ⟨k, rfl⟩ : ∃ j, k = j + 2 := ⟨k - 2, by omega⟩
  unfold spec_Grid
  have h0 : decide ((0 : Int) < ([r].length : Int)) = true := by simp
  have h1 : decide (iadd .i64 0 1 < ([r].length : Int)) = false := by rw [show iadd .i64 0 1 = 1 from by decide]; simp
  have hi : idx [r] 0 = some r := rfl
  simp only [spec_Grid_l2, spec_Grid_l2s, h0, br_true, hi, Option.bind_eq_bind, Option.bind_some]
  by_cases hl : (r.length : Int) = (n : Int)
  · rw [decide_eq_true hl, Bool.not_true, br_false, grid_l1_is r w hr (k + 1) (by omega)]
    cases ha : (List.range' 0 r.length).any (fun i => offGrid w (r.getD i 0)) with
    | true => exact ⟨false, by simp, by simp⟩
    | false =>
      simp only [Bool.false_eq_true, if_false, Option.bind_some, h1, br_false]
      exact ⟨_, rfl, fun _ => ⟨by omega, fun i hi => not_any ha hi⟩⟩
  · rw [decide_eq_false hl, Bool.not_false, br_true]
    exact ⟨false, rfl, by simp⟩
theorem offGrid_num {x : Nat} (hx : x < 2 ^ 64) (h : offGrid 4697254411347427328 x = false) : ∃ n : Int, D x n 1074 ∧ n.natAbs ≤ 1048576 := by
  unfold offGrid at h
  simp only [Bool.not_eq_false', Bool.and_eq_true, Bool.not_eq_true'] at h
  have hw := D_two 20 (by omega)
  exact grid_one (w := 4697254411347427328) (b := 1048576) hx (by omega) hw h.1.1 h.1.2 h.2

/-- the sums of both, side by side -/
theorem sums_is (a b : List Nat) (hl : a.length = b.length) (hn : a.length ≤ 6) (ha : ∀ i, i < a.length → ∃ n : Int, D (a.getD i 0) n 1074 ∧ n.natAbs ≤ 1048576) (hb : ∀ i, i < a.length → ∃ n : Int, D (b.getD i 0) n 1074 ∧ n.natAbs ≤ 1048576) :
    ∀ (d i k : Nat) (x y : Nat) (s : Int), i + d = a.length → d < k → D x s 1074 → D y s 1074 → s.natAbs ≤ i * 4398046511104 →
    ∃ u v t, kdtree_Point_Distance_l1 a b k (x, (i : Int)) = some u ∧ spec_SquareN_l1 a b k (y, (i : Int)) = some v ∧ D u t 1074 ∧ D v t 1074 := by
  intro d
  induction d with
  | zero =>
    intro i k x y s hi hk hx hy hs
    obtain ⟨k, rfl⟩ : ∃ j, k = j + 1 := ⟨k - 1, by omega⟩
    obtain rfl : i = a.length := by omega
    exact ⟨x, y, s, by simp only [kdtree_Point_Distance_l1, kdtree_Point_Distance_l1s, lt_false (Nat.lt_irrefl _), br_false], by simp only [spec_SquareN_l1, spec_SquareN_l1s, lt_false (Nat.lt_irrefl _), br_false], hx, hy⟩
  | succ d ih =>
    intro i k x y s hi hk hx hy hs
    obtain ⟨k, rfl⟩ : ∃ j, k = j + 1 := ⟨k - 1, by omega⟩
    have hia : i < a.length := by omega
    have hib : i < b.length := by omega
    obtain ⟨m, hm, hmb⟩ := ha i hia
    obtain ⟨n, hn', hnb⟩ := hb i hia
    have ea : a.getD i 0 = a[i] := by simp [List.getD, List.getElem?_eq_getElem hia]
    have eb : b.getD i 0 = b[i] := by simp [List.getD, List.getElem?_eq_getElem hib]
    rw [ea] at hm; rw [eb] at hn'
    have hp : ((m - n) * (m - n)).natAbs ≤ 4398046511104 := by
      rw [Int.natAbs_mul]
      have q : (m - n).natAbs ≤ 2097152 := by omega
      have := Nat.mul_le_mul q q; omega
    have d1 := gsub_D hm hn' rfl (by omega) (by omega)
    have d2 := gmul_D (u := 1074) d1 d1 rfl (by omega) (by omega) (by omega) (by omega)
    have hi6 : i * 4398046511104 ≤ 6 * 4398046511104 := Nat.mul_le_mul_right _ (by omega)
    have d3 := gadd_D hx d2 rfl (by omega) (by omega)
    obtain ⟨u1, e1, v1⟩ := D_sub hm hn' rfl (by omega) (by omega)
    obtain ⟨u2, e2, v2⟩ := D_mul (u := 1074) v1 v1 rfl (by omega) (by omega) (by omega) (by omega)
    obtain ⟨u3, e3, v3⟩ := D_sum hy v2 rfl (by omega) (by omega)
    obtain ⟨u, v, t, r1, r2, r3, r4⟩ := ih (i + 1) k _ _ _ (by omega) (by omega) d3 v3 (by omega)
    refine ⟨u, v, t, ?_, ?_, r3, r4⟩
    · simp only [kdtree_Point_Distance_l1, kdtree_Point_Distance_l1s, lt_true hia, br_true, idx_get hia, idx_get hib, Option.bind_eq_bind, Option.bind_some, iadd_one (show i < 9223372036854775807 from by omega)]
      exact r1
    · simp only [spec_SquareN_l1, spec_SquareN_l1s, lt_true hia, br_true, idx_get hia, idx_get hib, Option.bind_eq_bind, Option.bind_some, iadd_one (show i < 9223372036854775807 from by omega), e1, e2, e3]
      exact r2

theorem fact_FnKSquare (x0 x1 : List Nat) (g0 : x0.length ≤ maxLen ∧ ∀ x ∈ x0, x < 18446744073709551616) (g1 : x1.length ≤ maxLen ∧ ∀ x ∈ x1, x < 18446744073709551616) : laws_FnKSquare 100 x0 x1 = some true := by
  have key : x0.length ≤ 2147483647 → x1.length ≤ 2147483647 → laws_FnKSquare_j1 100 x0 x1 false = some true := by
    intro hmax0 hmax1
    unfold laws_FnKSquare_j1
    rw [br_false]
    have hs : ∃ b, laws_some 100 [x0] x1 = some b ∧ (b = true → x0.length = x1.length ∧ x1.length ≤ 6 ∧ (∀ i, i < x0.length → offGrid 4697254411347427328 (x0.getD i 0) = false) ∧ (∀ i, i < x1.length → offGrid 4697254411347427328 (x1.getD i 0) = false)) := by
      unfold laws_some
      have e1 : decide ((0 : Int) < ([x0].length : Int)) = true := by simp
      have e2 : decide (([x0].length : Int) ≤ 100) = true := by simp
      rw [e1, e2, br_true]
      unfold laws_some_j1
      rw [br_true]
      by_cases h1 : (0 : Int) < (x1.length : Int)
      · rw [decide_eq_true h1]
        unfold laws_some_j2
        rw [br_true]
        by_cases h2 : (x1.length : Int) ≤ 6
        · rw [decide_eq_true h2]
          unfold laws_some_j3
          rw [br_true]
          obtain ⟨b, hb, hb'⟩ := grid_one_row 100 x0 x1.length 4697254411347427328 (by omega) (by omega) (by omega)
          rw [hb]
          simp only [Option.bind_eq_bind, Option.bind_some]
          unfold laws_some_j4
          cases b with
          | false => exact ⟨false, rfl, by simp⟩
          | true =>
            obtain ⟨c, hc, hc'⟩ := grid_one_row 100 x1 x1.length 4697254411347427328 (by omega) (by omega) (by omega)
            rw [br_true, hc]
            refine ⟨c, rfl, fun h => ?_⟩
            obtain ⟨q1, q2⟩ := hb' rfl
            obtain ⟨q3, q4⟩ := hc' h
            exact ⟨q1, by omega, q2, q4⟩
        · rw [decide_eq_false h2]; exact ⟨false, rfl, by simp⟩
      · rw [decide_eq_false h1]; exact ⟨false, rfl, by simp⟩
    obtain ⟨b, hb, hb'⟩ := hs
    rw [hb]
    simp only [Option.bind_eq_bind, Option.bind_some]
    cases b with
    | false => rfl
    | true =>
      rw [Bool.not_true, br_false]
      obtain ⟨q1, q2, q3, q4⟩ := hb' rfl
      have hmem : ∀ (l : List Nat), (∀ x ∈ l, x < 18446744073709551616) → ∀ i, i < l.length → l.getD i 0 < 2 ^ 64 := fun l hl i hi => by
        rw [show l.getD i 0 = l[i] from by simp [List.getD, List.getElem?_eq_getElem hi]]
        exact hl _ (List.getElem_mem hi)
      obtain ⟨u, v, t, r1, r2, r3, r4⟩ := sums_is x0 x1 q1 (by omega) (fun i hi => offGrid_num (hmem x0 g0.2 i hi) (q3 i hi)) (fun i hi => offGrid_num (hmem x1 g1.2 i (by omega)) (q4 i (by omega))) x0.length 0 100 0 0 0 (by omega) (by omega) (D_zero _) (D_zero _) (by simp)
      have r1' : kdtree_Point_Distance_l1 x0 x1 100 (0, 0) = some u := r1
      have r2' : spec_SquareN_l1 x0 x1 100 (0, 0) = some v := r2
      simp only [impl_KSquare, kdtree_Point_Distance, r1', Option.bind_eq_bind, Option.bind_some, br_true, spec_SquareN, r2', laws_FnKSquare_j2, D_eq r3 r4, decide_true]
  have keyt : laws_FnKSquare_j1 100 x0 x1 true = some true := rfl
  unfold laws_FnKSquare
  by_cases h0 : 2147483647 < (x0.length : Int)
  · rw [decide_eq_true h0, br_true, keyt]
  · rw [decide_eq_false h0, br_false]
    by_cases h1 : 2147483647 < (x1.length : Int)
    · rw [decide_eq_true h1]; exact keyt
    · rw [decide_eq_false h1]; exact key (by omega) (by omega)
end Go.Proofs.Ytmjhjnnlhjfbcaa
