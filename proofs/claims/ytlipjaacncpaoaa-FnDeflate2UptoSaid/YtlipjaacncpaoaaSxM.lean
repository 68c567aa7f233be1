/-
  Steps of a walk over the symbolic state: make, copy, cuts, deferred closures that have nothing to catch, rows that are frozen where a cell holds them. Ours; it knows no program.
-/
import Derived.Test.YtlipjaacncpaoaaSxK
namespace Go.Sx
set_option linter.unusedVariables false
set_option linter.unusedSectionVars false
set_option linter.unusedSimpArgs false
variable [Gv]

section
variable {E : Env} {P : Program} {s : St} {dst : Option Tmp} {ty : TypeId} {pos : String} {af : Array Edge} {g : Option (Nat × Bool)}

/-! #### make -/
def mk {α : Type} (b : Nat) (z : α) (n c : Int) : Option (List α) := if 0 ≤ n ∧ n ≤ c ∧ (b : Int) * c ≤ 281474976710656 ∧ c ≤ 4611686018427387904 then some (List.replicate n.toNat z) else none

def cut {α : Type} (xs : List α) (lo hi : Int) : Option (List α) := if 0 ≤ lo ∧ lo ≤ hi ∧ hi ≤ xs.length then some ((xs.take hi.toNat).drop lo.toNat) else none

def cpy {α : Type} (xs ys : List α) : List α := ys.take xs.length ++ xs.drop ys.length

end
end Go.Sx
