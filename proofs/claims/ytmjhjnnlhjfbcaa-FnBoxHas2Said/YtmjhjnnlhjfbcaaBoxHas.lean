/-
  Boxes that have places: the plain statements. Ours.
-/
import Derived.Test.YtmjhjnnlhjfbcaaGrid
namespace Go.Proofs.Ytmjhjnnlhjfbcaa
open Go.Sx
set_option linter.unusedVariables false
set_option linter.unusedSimpArgs false

theorem whole2_is (a b c : Nat × Nat) : ∃ r, laws_whole2 9 [a, b, c] = some r := by
  have hg : ∀ (k : Nat) (x y : Nat), 4 ≤ k → spec_Grid k [[x, y]] 2 4697254411347427328 = some (grid [[x, y]] 2 4697254411347427328) := fun k x y hk =>
    grid_is _ _ _ _ (by simp) (by simp) (by simp; omega) (by simp; omega)
  have i0 : iadd .i64 0 1 = 1 := by decide
  have i1 : iadd .i64 1 1 = 2 := by decide
  have i2 : iadd .i64 2 1 = 3 := by decide
  simp only [laws_whole2, laws_whole2_l1, laws_whole2_l1s, laws_off2, hg _ _ _ (by omega : 4 ≤ 8), hg _ _ _ (by omega : 4 ≤ 7), hg _ _ _ (by omega : 4 ≤ 6), Option.bind_eq_bind, Option.bind_some, idx, List.length_cons, List.length_nil, i0, i1, i2]
  cases h1 : grid [[a.1, a.2]] 2 4697254411347427328 <;> cases h2 : grid [[b.1, b.2]] 2 4697254411347427328 <;> cases h3 : grid [[c.1, c.2]] 2 4697254411347427328 <;> simp [br, h1, h2, h3]

theorem whole3_is (a b c : Nat × Nat × Nat) : ∃ r, laws_whole3 9 [a, b, c] = some r := by
  have hg : ∀ (k : Nat) (x y z : Nat), 5 ≤ k → spec_Grid k [[x, y, z]] 3 4697254411347427328 = some (grid [[x, y, z]] 3 4697254411347427328) := fun k x y z hk =>
    grid_is _ _ _ _ (by simp) (by simp) (by simp; omega) (by simp; omega)
  have i0 : iadd .i64 0 1 = 1 := by decide
  have i1 : iadd .i64 1 1 = 2 := by decide
  have i2 : iadd .i64 2 1 = 3 := by decide
  simp only [laws_whole3, laws_whole3_l1, laws_whole3_l1s, laws_off3, hg _ _ _ _ (by omega : 5 ≤ 8), hg _ _ _ _ (by omega : 5 ≤ 7), hg _ _ _ _ (by omega : 5 ≤ 6), Option.bind_eq_bind, Option.bind_some, idx, List.length_cons, List.length_nil, i0, i1, i2]
  cases h1 : grid [[a.1, a.2.1, a.2.2]] 3 4697254411347427328 <;> cases h2 : grid [[b.1, b.2.1, b.2.2]] 3 4697254411347427328 <;> cases h3 : grid [[c.1, c.2.1, c.2.2]] 3 4697254411347427328 <;> simp [br, h1, h2, h3]

theorem pure_FnBoxHas2 (a0 a1 b0 b1 c0 c1 : Nat) : laws_FnBoxHas2 9 a0 a1 b0 b1 c0 c1 = some true := by
  obtain ⟨r, hr⟩ := whole2_is (a0, a1) (b0, b1) (c0, c1)
  unfold laws_FnBoxHas2
  rw [hr]
  cases r with
  | false => rfl
  | true =>
    simp only [Option.bind_eq_bind, Option.bind_some, Bool.not_true, br_false, laws_FnBoxHas2_j1, laws_FnBoxHas2_j2, laws_FnBoxHas2_j3, laws_FnBoxHas2_j4, laws_FnBoxHas2_j5, laws_FnBoxHas2_j6, laws_box2, impl_Contains2,
      impl_vec2, r2_Box_Contains, r2_Box_Contains_j1, r2_Box_Contains_j2, r2_Box_Contains_j3, r2_Box_Contains_j4, r2_Box_Empty, r2_Box_Empty_j1, fge_fle]
    cases fle b0 a0 <;> cases fle b1 a1 <;> cases fle a0 c0 <;> cases fle c0 b0 <;> cases fle a1 c1 <;> cases fle c1 b1 <;> cases feq c0 a0 <;> cases feq c1 a1 <;> cases feq c0 b0 <;> cases feq c1 b1 <;> rfl

theorem pure_FnBoxHas3 (a0 a1 a2 b0 b1 b2 c0 c1 c2 : Nat) : laws_FnBoxHas3 9 a0 a1 a2 b0 b1 b2 c0 c1 c2 = some true := by
  obtain ⟨r, hr⟩ := whole3_is (a0, a1, a2) (b0, b1, b2) (c0, c1, c2)
  unfold laws_FnBoxHas3
  rw [hr]
  cases r with
  | false => rfl
  | true =>
    simp only [Option.bind_eq_bind, Option.bind_some, Bool.not_true, br_false, laws_FnBoxHas3_j1, laws_FnBoxHas3_j2, laws_FnBoxHas3_j3, laws_FnBoxHas3_j4, laws_FnBoxHas3_j5, laws_FnBoxHas3_j6, laws_FnBoxHas3_j7, laws_FnBoxHas3_j8, laws_FnBoxHas3_j9,
      laws_box3, impl_Contains3, impl_vec3, r3_Box_Contains, r3_Box_Contains_j1, r3_Box_Contains_j2, r3_Box_Contains_j3, r3_Box_Contains_j4, r3_Box_Contains_j5, r3_Box_Contains_j6, r3_Box_Empty, r3_Box_Empty_j1, r3_Box_Empty_j2, fge_fle,
      br_some, br_and, br_or, Bool.true_and, Bool.false_and, Bool.and_false, Bool.and_true]
    cases fle b0 a0 <;> cases fle b1 a1 <;> cases fle b2 a2 <;> simp only [br_some, br_and, br_or, br_true, br_false, Bool.true_and, Bool.false_and, Bool.and_false, Bool.and_true, Bool.or_true, Bool.true_or, Bool.or_false, Bool.false_or, Option.bind_some, Bool.and_assoc] <;>
      (try simp only [br_same]) <;>
      first
        | (cases feq c0 a0 <;> cases feq c1 a1 <;> cases feq c2 a2 <;> cases feq c0 b0 <;> cases feq c1 b1 <;> cases feq c2 b2 <;> rfl)
        | (cases fle a0 c0 <;> cases fle c0 b0 <;> cases fle a1 c1 <;> cases fle c1 b1 <;> cases fle a2 c2 <;> cases fle c2 b2 <;> rfl)
end Go.Proofs.Ytmjhjnnlhjfbcaa
