/-
  What the grid's test says of rows. Ours.
-/
import Derived.Test.YtjgpiealnfbkcaaFun
import Derived.Test.YtjgpiealnfbkcaaSxY
import Derived.Test.YtjgpiealnfbkcaaSxL
namespace Go.Proofs.Ytjgpiealnfbkcaa
open Go.Sx
set_option linter.unusedVariables false
set_option linter.unusedSimpArgs false
set_option maxRecDepth 100000

/-! #### the grid -/
def offGrid (w x : Nat) : Bool := !(fge x (fneg w) && fle x w && !fne x (gint .zero x))
theorem grid_l2_is (r : List Nat) (w : Nat) (hr : r.length < 9223372036854775807) (k : Nat) (hk : r.length < k) :
    spec_Grid_l2 r w k 0 = some (if (List.range' 0 r.length).any (fun i => offGrid w (r.getD i 0)) = true then .inl () else .inr ()) := by
  refine loop_any (F := spec_Grid_l2 r w) 0 r.length (fun i => offGrid w (r.getD i 0)) (.inl ()) (.inr ()) (fun k i _ hi => ?_) (fun k => by simp only [spec_Grid_l2, spec_Grid_l2s, lt_false (Nat.lt_irrefl _), br_false]) r.length 0 k (by omega) (by omega)
  have e : r.getD i 0 = r[i] := by simp [List.getD, List.getElem?_eq_getElem hi]
  simp only [spec_Grid_l2, spec_Grid_l2s, lt_true hi, br_true, idx_get hi, Option.bind_eq_bind, Option.bind_some, offGrid, e, iadd_one (show i < 9223372036854775807 from by omega)]
  cases h1 : fge r[i] (fneg w) <;> cases h2 : fle r[i] w <;> cases h3 : fne r[i] (gint .zero r[i]) <;> simp [br, spec_Grid_j7, spec_Grid_j8, math_Trunc, h3, iadd_one (show i < 9223372036854775807 from by omega)]
theorem grid_loop (rows : List (List Nat)) (n : Nat) (hn : n < 1000000) (w : Nat) (hl : rows.length < 1000000) : ∀ (d k i : Nat), rows.length - i = d → n + d + 1 < k → i ≤ rows.length →
    ∃ y, spec_Grid_l3 rows (n : Int) w k (i : Int) = some y ∧ (y = .inr () → ∀ j r, i ≤ j → rows[j]? = some r → r.length = n ∧ ∀ m, m < r.length → offGrid w (r.getD m 0) = false) := by
  intro d
  induction d with
  | zero =>
    intro k i hd hk hi
    obtain ⟨k, rfl⟩ : ∃ j, k = j + 1 := ⟨k - 1, by omega⟩
    exact ⟨.inr (), by simp only [spec_Grid_l3, spec_Grid_l3s, lt_false (show ¬ i < rows.length by omega), br_false], fun _ j x hj h => by
      rw [List.getElem?_eq_none (by omega)] at h; cases h⟩
  | succ d ih =>
    intro k i hd hk hi
    obtain ⟨k, rfl⟩ : ∃ j, k = j + 1 := ⟨k - 1, by omega⟩
    have hlt : i < rows.length := by omega
    obtain ⟨y, y1, y2⟩ := ih k (i + 1) (by omega) (by omega) (by omega)
    by_cases hr : (rows[i].length : Int) = (n : Int)
    · have hg := grid_l2_is rows[i] w (by omega) k (by omega)
      cases ha : (List.range' 0 rows[i].length).any (fun m => offGrid w (rows[i].getD m 0)) with
      | true =>
        rw [ha] at hg
        refine ⟨.inl (), ?_, fun h => by cases h⟩
        simp only [spec_Grid_l3, spec_Grid_l3s, lt_true hlt, br_true, br_false, idx_get hlt, Option.bind_eq_bind, Option.bind_some, decide_eq_true hr, Bool.not_true, hg, if_true]
      | false =>
        rw [ha] at hg
        refine ⟨y, ?_, fun h j r hj hjr => ?_⟩
        · simp only [spec_Grid_l3, spec_Grid_l3s, lt_true hlt, br_true, br_false, idx_get hlt, Option.bind_eq_bind, Option.bind_some, decide_eq_true hr, Bool.not_true, hg, Bool.false_eq_true, if_false, iadd_one (show i < 9223372036854775807 by omega), y1]
        · by_cases hji : j = i
          · subst hji
            rw [List.getElem?_eq_getElem hlt] at hjr
            cases hjr
            exact ⟨by omega, fun m hm => not_any ha hm⟩
          · exact y2 h j r (by omega) hjr
    · refine ⟨.inl (), ?_, fun h => by cases h⟩
      simp only [spec_Grid_l3, spec_Grid_l3s, lt_true hlt, br_true, idx_get hlt, Option.bind_eq_bind, Option.bind_some, decide_eq_false hr, Bool.not_false]
theorem grid_rows (k : Nat) (rows : List (List Nat)) (n : Nat) (hn : n < 1000000) (w : Nat) (hl : rows.length < 1000000) (hk : n + rows.length + 1 < k) :
    ∃ b, spec_Grid k rows (n : Int) w = some b ∧ (b = true → ∀ r ∈ rows, r.length = n ∧ ∀ m, m < r.length → offGrid w (r.getD m 0) = false) := by
  obtain ⟨y, y1, y2⟩ := grid_loop rows n hn w hl rows.length k 0 (by omega) (by omega) (by omega)
  have y1' : spec_Grid_l3 rows (n : Int) w k 0 = some y := y1
  unfold spec_Grid
  rw [y1', sbind]
  cases y with
  | inl u => exact ⟨false, rfl, fun h => by cases h⟩
  | inr u =>
    refine ⟨_, rfl, fun _ r hr => ?_⟩
    obtain ⟨j, hj⟩ := List.mem_iff_getElem?.1 hr
    exact y2 rfl j r (by omega) hj
theorem offGrid_num20 {x : Nat} (hx : x < 2 ^ 64) (h : offGrid 4697254411347427328 x = false) : ∃ n : Int, D x n 1074 ∧ n.natAbs ≤ 1048576 := by
  unfold offGrid at h
  simp only [Bool.not_eq_false', Bool.and_eq_true, Bool.not_eq_true'] at h
  have hw := D_two 20 (by omega)
  exact grid_one (w := 4697254411347427328) (b := 1048576) hx (by omega) hw h.1.1 h.1.2 h.2
end Go.Proofs.Ytjgpiealnfbkcaa
