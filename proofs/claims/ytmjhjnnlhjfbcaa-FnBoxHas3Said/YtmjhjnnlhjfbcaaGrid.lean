/-
  The grid of whole numbers, as the reference asks for it: it answers, whatever the numbers are. Ours.
-/
import Derived.Test.YtmjhjnnlhjfbcaaFun
import Derived.Test.YtmjhjnnlhjfbcaaSxP
namespace Go.Proofs.Ytmjhjnnlhjfbcaa
open Go.Sx
set_option linter.unusedVariables false
set_option linter.unusedSimpArgs false

/-- a whole number from -most to most -/
def Wh (most x : Nat) : Bool := fge x (fneg most) && fle x most && (match fint .zero x with | some t => !fne x t | none => false)

theorem grid_round (most : Nat) (r : List Nat) (k : Nat) (x : Nat) (rec1 : Int → Option (Unit ⊕ Unit)) (i : Int) :
    (br (fge x (fneg most)) (spec_Grid_j1 k rec1 i x (fle x most)) (spec_Grid_j1 k rec1 i x false)) = if Wh most x = true then rec1 (iadd .i64 i 1) else some (.inl ()) := by
  have hj2 : ∀ b, spec_Grid_j2 k rec1 i b = if b = true then some (.inl ()) else rec1 (iadd .i64 i 1) := fun b => by cases b <;> rfl
  unfold Wh
  cases h1 : fge x (fneg most) with
  | false => simp [br, spec_Grid_j1, hj2]
  | true =>
    cases h2 : fle x most with
    | false => simp [br, spec_Grid_j1, hj2]
    | true =>
      have hn := (num_of_fle h2).1
      simp only [br, spec_Grid_j1, Bool.not_true, math_Trunc, fint_some hn, hj2, Option.bind_eq_bind, Option.bind_some, Bool.true_and]
      cases fne x _ <;> simp

theorem grid_l1 (most : Nat) (r : List Nat) (hr : r.length < 9223372036854775807) : ∀ (d i k : Nat), i + d = r.length → d < k →
    spec_Grid_l1 r most k (i : Int) = some (if (r.drop i).all (Wh most) = true then .inr () else .inl ()) := by
  intro d
  induction d with
  | zero =>
    intro i k hi hk
    obtain ⟨k, rfl⟩ : ∃ m, k = m + 1 := ⟨k - 1, by omega⟩
    have : decide ((i : Int) < (r.length : Int)) = false := by simp; omega
    simp only [spec_Grid_l1, spec_Grid_l1s, this, br]
    rw [List.drop_of_length_le (by omega)]; simp
  | succ d ih =>
    intro i k hi hk
    obtain ⟨k, rfl⟩ : ∃ m, k = m + 1 := ⟨k - 1, by omega⟩
    have hlt : i < r.length := by omega
    have : decide ((i : Int) < (r.length : Int)) = true := by simp; omega
    simp only [spec_Grid_l1, spec_Grid_l1s, this, br_true, idx_get hlt, Option.bind_eq_bind, Option.bind_some]
    rw [grid_round most r]
    rw [iadd_i64 (by omega) (by omega), show (i : Int) + 1 = ((i + 1 : Nat) : Int) from by omega, ih (i + 1) k (by omega) (by omega)]
    rw [List.drop_eq_getElem_cons hlt, List.all_cons]
    cases Wh most r[i] <;> simp

theorem grid_l2 (most : Nat) (l : List (List Nat)) (dims : Int) (hl : l.length < 9223372036854775807) (hr : ∀ r ∈ l, r.length < 9223372036854775807) : ∀ (d i k : Nat), i + d = l.length → d < k → (∀ r ∈ l, r.length < k - d) →
    spec_Grid_l2 l dims most k (i : Int) = some (if (l.drop i).all (fun r => decide ((r.length : Int) = dims) && r.all (Wh most)) = true then .inr () else .inl ()) := by
  intro d
  induction d with
  | zero =>
    intro i k hi hk _
    obtain ⟨k, rfl⟩ : ∃ m, k = m + 1 := ⟨k - 1, by omega⟩
    have : decide ((i : Int) < (l.length : Int)) = false := by simp; omega
    simp only [spec_Grid_l2, spec_Grid_l2s, this, br]
    rw [List.drop_of_length_le (by omega)]; simp
  | succ d ih =>
    intro i k hi hk hkr
    obtain ⟨k, rfl⟩ : ∃ m, k = m + 1 := ⟨k - 1, by omega⟩
    have hlt : i < l.length := by omega
    have : decide ((i : Int) < (l.length : Int)) = true := by simp; omega
    simp only [spec_Grid_l2, spec_Grid_l2s, this, br_true, idx_get hlt, Option.bind_eq_bind, Option.bind_some]
    have hm : l[i] ∈ l := List.getElem_mem hlt
    rw [List.drop_eq_getElem_cons hlt, List.all_cons]
    cases hd : decide (((l[i]).length : Int) = dims) with
    | false => simp [br]
    | true =>
      have h1 := grid_l1 most l[i] (hr _ hm) (l[i]).length 0 k (by simp) (by have := hkr _ hm; omega)
      simp only [Bool.not_true, br_false, Bool.true_and]
      rw [show ((0 : Nat) : Int) = 0 from rfl] at h1
      rw [h1]
      simp only [List.drop_zero, Option.bind_some]
      rw [iadd_i64 (by omega) (by omega), show (i : Int) + 1 = ((i + 1 : Nat) : Int) from by omega, ih (i + 1) k (by omega) (by omega) (fun r h => by have := hkr r h; omega)]
      cases (l[i]).all (Wh most) <;> simp

/-- what Grid answers -/
def grid (l : List (List Nat)) (dims : Int) (most : Nat) : Bool := l.all (fun r => decide ((r.length : Int) = dims) && r.all (Wh most)) && decide (0 < dims)
theorem grid_is (l : List (List Nat)) (dims : Int) (most k : Nat) (hl : l.length < 9223372036854775807) (hr : ∀ r ∈ l, r.length < 9223372036854775807) (hk : ∀ r ∈ l, r.length + l.length < k) (hk0 : l.length < k) :
    spec_Grid k l dims most = some (grid l dims most) := by
  have h := grid_l2 most l dims hl hr l.length 0 k (by simp) hk0 (fun r h => by have := hk r h; omega)
  unfold spec_Grid grid
  rw [show ((0 : Nat) : Int) = 0 from rfl] at h
  rw [h]
  simp only [List.drop_zero, Option.bind_eq_bind, Option.bind_some]
  cases l.all _ <;> simp
end Go.Proofs.Ytmjhjnnlhjfbcaa
