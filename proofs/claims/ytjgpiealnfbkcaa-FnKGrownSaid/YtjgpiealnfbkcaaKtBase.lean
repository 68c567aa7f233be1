/-
  Points by one coordinate; trees along the coordinates in turn. Plain; ours.
-/
import Derived.Test.YtjgpiealnfbkcaaFun
import Derived.Test.YtjgpiealnfbkcaaSxY
namespace Go.Proofs.Ytjgpiealnfbkcaa
open Go.Sx
set_option linter.unusedVariables false
set_option linter.unusedSimpArgs false
set_option maxRecDepth 100000

/-- the number of a word of the grid -/
noncomputable def cv (x : Nat) : Int := open Classical in if h : ∃ n, D x n 1074 then h.choose else 0
theorem cv_is {x : Nat} (h : ∃ n, D x n 1074) : D x (cv x) 1074 := by
  unfold cv; rw [dif_pos h]; exact h.choose_spec
/-- a point of m numbers of the grid -/
def Pg (m : Nat) (p : List Nat) : Prop := p.length = m ∧ ∀ x ∈ p, ∃ n, D x n 1074
noncomputable def ky (d : Nat) (p : List Nat) : Int := cv (p.getD d 0)
theorem ky_at {m d : Nat} {p : List Nat} (hp : Pg m p) (hd : d < m) : idx p (d : Int) = some (p.getD d 0) ∧ D (p.getD d 0) (ky d p) 1074 := by
  have h : d < p.length := by rw [hp.1]; exact hd
  have e : p.getD d 0 = p[d] := by simp [List.getD, List.getElem?_eq_getElem h]
  refine ⟨by rw [idx_get h, e], cv_is ?_⟩
  rw [e]; exact hp.2 _ (List.getElem_mem h)

def pts : G66 → List (List Nat)
  | .c0 => []
  | .c1 (.c0 p) _ a b _ => pts a ++ p :: pts b
/-- a box of m numbers, or none -/
def Eb (m : Nat) : G118 → Prop
  | .c0 => True
  | .c1 (.c0 u) (.c0 v) => u.length = m ∧ v.length = m
/-- a tree along the dimensions in turn -/
def Kg (m : Nat) : G66 → Nat → Prop
  | .c0, _ => True
  | .c1 (.c0 p) pl a b e, q => pl = (q : Int) ∧ q < m ∧ Pg m p ∧ (∀ x ∈ pts a, ky q x ≤ ky q p) ∧ (∀ x ∈ pts b, ky q p < ky q x) ∧ Kg m a ((q + 1) % m) ∧ Kg m b ((q + 1) % m) ∧ Eb m e

theorem apd_row {p : List Nat} (h : p.length ≤ 1000) : apd 8 [] p = some p := by rw [apd_some (by simp; omega) (by simp; omega)]; rfl
theorem next_is {q m : Nat} (hm : 0 < m) (hq : q < 1000) : irem (iadd .i64 (q : Int) 1) (m : Int) = some (((q + 1) % m : Nat) : Int) := by
  unfold irem
  rw [if_neg (by omega), iadd_one (by omega), Int.tmod_eq_emod_of_nonneg (by omega)]
  rfl

end Go.Proofs.Ytjgpiealnfbkcaa
