/-
  A geometry that is held against itself is the same. Ours.
-/
import Derived.Test.YtmagcmeknclljaaGreatSameF
import Derived.Test.YtmagcmeknclljaaGreatGeomGood
namespace Go.Proofs.YtmagcmeknclljaaGreat
open Go.Sx
set_option linter.unusedVariables false
set_option linter.unusedSimpArgs false

theorem sameInts_self {k : Nat} (xs : List Int) (h : xs.length < k) (h2 : xs.length < 9223372036854775807) : spec_sameInts k xs xs = some true := by
  have key := loop_any (F := spec_sameInts_l1 xs xs) 0 xs.length (fun _ => false) (.inl ()) (.inr ()) (fun k i _ hi => by
    simp only [spec_sameInts_l1, spec_sameInts_l1s, lt_true hi, br_true, idx_get hi, Option.bind_eq_bind, Option.bind_some, decide_true, Bool.not_true, br_false, Bool.false_eq_true, if_false]
    rw [iadd_one (by omega)]) (fun k => by simp only [spec_sameInts_l1, spec_sameInts_l1s, lt_false (Nat.lt_irrefl _), br_false]) xs.length 0 k (by omega) (by omega)
  have e : (List.range' 0 xs.length).any (fun _ => false) = false := any_false fun _ _ => rfl
  rw [e] at key
  unfold spec_sameInts
  have : (!decide ((xs.length : Int) = (xs.length : Int))) = false := by simp
  rw [this, br_false]
  rw [show (0 : Int) = ((0 : Nat) : Int) from rfl, key]
  rfl
theorem sameGeom_self (k : Nat) (a b c : Int) (fl : List Nat) (en : List Int) (es : List (List Int)) (h1 : fl.length ≤ 2147483647) (h2 : en.length ≤ 2147483647) (h3 : es.length ≤ 2147483647) (h4 : ∀ x ∈ es, x.length ≤ 2147483647) (hk : 10000000000 < k) :
    spec_SameGeom k a b c fl en es a b c fl en es [] = some true := by
  have key := loop_any (F := spec_SameGeom_l1 es es) 3000000000 es.length (fun _ => false) (.inl ()) (.inr ()) (fun k i hkm hi => by
    have := h4 _ (List.getElem_mem hi)
    simp only [spec_SameGeom_l1, spec_SameGeom_l1s, lt_true hi, br_true, idx_get hi, sameInts_self es[i] (k := k) (by omega) (by omega), Option.bind_eq_bind, Option.bind_some, decide_true, Bool.not_true, br_false, Bool.false_eq_true, if_false]
    rw [iadd_one (by omega)]) (fun k => by simp only [spec_SameGeom_l1, spec_SameGeom_l1s, lt_false (Nat.lt_irrefl _), br_false]) es.length 0 k (by omega) (by omega)
  have e : (List.range' 0 es.length).any (fun _ => false) = false := any_false fun _ _ => rfl
  rw [e] at key
  have key' : spec_SameGeom_l1 es es k 0 = some (.inr ()) := key
  simp only [spec_SameGeom, spec_SameGeom_j1, spec_SameGeom_j2, spec_SameGeom_j3, spec_SameGeom_j4, spec_SameGeom_j5, spec_SameGeom_j6, decide_true, Bool.not_true, br_false, sameFloats_self fl (k := k) (by omega) (by omega), sameInts_self en (k := k) (by omega) (by omega), sbind, List.length_nil, key']
end Go.Proofs.YtmagcmeknclljaaGreat
