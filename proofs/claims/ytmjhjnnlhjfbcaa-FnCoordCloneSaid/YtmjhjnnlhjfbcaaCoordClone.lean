/-
  A copy of a place has the same numbers: the plain statement. Ours.
-/
import Derived.Test.YtmjhjnnlhjfbcaaFun
import Derived.Test.YtmjhjnnlhjfbcaaSxV
import Derived.Test.YtmjhjnnlhjfbcaaSxL
namespace Go.Proofs.Ytmjhjnnlhjfbcaa
open Go.Sx
set_option linter.unusedVariables false
set_option linter.unusedSimpArgs false

theorem sameFloats_self {k : Nat} (xs : List Nat) (h : xs.length < k) (h2 : xs.length < 9223372036854775807) : spec_SameFloats k xs xs = some true := by
  have key := loop_any (F := spec_SameFloats_l1 xs xs) 0 xs.length (fun _ => false) (.inl ()) (.inr ()) (fun k i _ hi => by
    simp only [spec_SameFloats_l1, spec_SameFloats_l1s, lt_true hi, br_true, idx_get hi, Option.bind_eq_bind, Option.bind_some, decide_true, Bool.not_true, br_false, Bool.false_eq_true, if_false]
    rw [iadd_one (by omega)]) (fun k => by simp only [spec_SameFloats_l1, spec_SameFloats_l1s, lt_false (Nat.lt_irrefl _), br_false]) xs.length 0 k (by omega) (by omega)
  have e : (List.range' 0 xs.length).any (fun _ => false) = false := any_false fun _ _ => rfl
  rw [e] at key
  unfold spec_SameFloats
  have : (!decide ((xs.length : Int) = (xs.length : Int))) = false := by simp
  rw [this, br_false]
  rw [show (0 : Int) = ((0 : Nat) : Int) from rfl, key]
  rfl

theorem fact_FnCoordClone (x0 : List Nat) (g0 : x0.length ≤ maxLen ∧ ∀ x ∈ x0, x < 18446744073709551616) : laws_FnCoordClone 200 x0 = some true := by
  unfold laws_FnCoordClone
  by_cases h1 : 2147483647 < (x0.length : Int)
  · rw [decide_eq_true h1, br_true]
  rw [decide_eq_false h1, br_false]
  by_cases h2 : (x0.length : Int) = 0
  · rw [decide_eq_true h2, br_true]; rfl
  rw [decide_eq_false h2, br_false]
  unfold laws_FnCoordClone_j1
  by_cases h3 : 100 < (x0.length : Int)
  · rw [decide_eq_true h3, br_true]; rfl
  rw [decide_eq_false h3, br_false]
  have hs : some1 x0 = some () := by cases x0 with
    | nil => simp at h2
    | cons _ _ => rfl
  have hm : mk 8 0 (x0.length : Int) (x0.length : Int) = some (List.replicate x0.length 0) := by
    rw [mk_some (by omega) (by omega) (by omega) (by omega)]; simp
  have hc : cpy (List.replicate x0.length 0) x0 = x0 := by unfold cpy; simp
  have ha : apd 8 [] x0 = some x0 := by rw [apd_some (by simp; omega) (by simp; omega)]; simp
  simp only [impl_CoordClone, gogeom_Coord_Clone, gogeom_deriveCloneCoord, gogeom_deriveDeepCopy, impl_floats, hs, hm, hc, ha, Option.bind_eq_bind, Option.bind_some, sameFloats_self x0 (k := 200) (by omega) (by omega)]
  rfl
end Go.Proofs.Ytmjhjnnlhjfbcaa
