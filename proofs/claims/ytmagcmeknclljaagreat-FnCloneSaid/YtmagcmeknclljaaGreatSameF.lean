/-
  Lists of numbers that are held against themselves are the same. Ours.
-/
import Derived.Test.YtmagcmeknclljaaGreatFun
import Derived.Test.YtmagcmeknclljaaGreatSxV
import Derived.Test.YtmagcmeknclljaaGreatSxL
namespace Go.Proofs.YtmagcmeknclljaaGreat
open Go.Sx
set_option linter.unusedVariables false
set_option linter.unusedSimpArgs false

theorem sameFloats_self {k : Nat} (xs : List Nat) (h : xs.length < k) (h2 : xs.length < 9223372036854775807) : spec_SameFloats k xs xs = some true := by
  have key := loop_any (F := spec_SameFloats_l1 xs xs) 0 xs.length (fun _ => false) (.inl ()) (.inr ()) (fun k i _ hi => by
    simp only [spec_SameFloats_l1, spec_SameFloats_l1s, lt_true hi, br_true, idx_get hi, Option.bind_eq_bind, Option.bind_some, decide_true, Bool.not_true, br_false, Bool.false_eq_true, if_false]
    rw [iadd_one (by omega)]) (fun k => by simp only [spec_SameFloats_l1, spec_SameFloats_l1s, lt_false (Nat.lt_irrefl _), br_false]) xs.length 0 k (by omega) (by omega)
  have e : (List.range' 0 xs.length).any (fun _ => false) = false := any_false fun _ _ => rfl
  rw [e] at key
  unfold spec_SameFloats
  have : (!decide ((xs.length : Int) = (xs.length : Int))) = false := by simp
  rw [this, br_false]
  rw [show (0 : Int) = ((0 : Nat) : Int) from rfl, key]
  rfl

end Go.Proofs.YtmagcmeknclljaaGreat
