/-
  Words of so many bits: what the plain operations are where nothing overflows. Ours; it knows no program.
-/
import Derived.Test.YtjgpiealnfbkcaaSxR
import Derived.Test.YtjgpiealnfbkcaaSxN
namespace Go.Sx
set_option linter.unusedVariables false
set_option linter.unusedSimpArgs false
set_option maxRecDepth 100000

theorem apd_some {α : Type} {b : Nat} {xs ys : List α} (h : (xs.length + ys.length) * b ≤ 140737488355328) (h' : xs.length + ys.length ≤ 4611686018427387904) : apd b xs ys = some (xs ++ ys) := by
  unfold apd; rw [if_pos ⟨h, h'⟩]
theorem mk_some {α : Type} {b : Nat} {z : α} {n c : Int} (h0 : 0 ≤ n) (h1 : n ≤ c) (h2 : (b : Int) * c ≤ 281474976710656) (h3 : c ≤ 4611686018427387904) : mk b z n c = some (List.replicate n.toNat z) := by
  unfold mk; rw [if_pos ⟨h0, h1, h2, h3⟩]
def lv : List Int → Int
  | [] => 0
  | x :: r => x + 4294967296 * lv r
def Lim (l : List Int) : Prop := ∀ x ∈ l, 0 ≤ x ∧ x < 4294967296
def Nrm (l : List Int) : Prop := ∀ x, l.getLast? = some x → x ≠ 0
structure Lb (l : List Int) (n : Int) : Prop where
  lim : Lim l
  nrm : Nrm l
  val : lv l = n

end Go.Sx
