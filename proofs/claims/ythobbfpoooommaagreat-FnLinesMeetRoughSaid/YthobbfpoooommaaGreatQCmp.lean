/-
  Comparisons of words that stand for rational numbers. Ours; it knows no program.
-/
import Derived.Test.YthobbfpoooommaaGreatFun
import Derived.Test.YthobbfpoooommaaGreatRelAbs
import Derived.Test.YthobbfpoooommaaGreatSxV
import Derived.Test.YthobbfpoooommaaGreatSxP
namespace Go.Proofs.YthobbfpoooommaaGreat
open Go.Sx
open Ieee (signed)
set_option linter.unusedVariables false
set_option linter.unusedSimpArgs false
set_option maxRecDepth 100000

theorem q_lt {m n : Int} {a b : Rat} (h2 : (m : Rat) = a * Un) (h4 : (n : Rat) = b * Un) : (m < n) ↔ a < b := by
  have hU := Un_pos
  rw [← Rat.intCast_lt_intCast, h2, h4]
  constructor
  · intro h
    by_cases h' : a < b
    · exact h'
    · have := Rat.mul_nonneg (show 0 ≤ a - b by grind) (Rat.le_of_lt hU); grind
  · intro h
    have := Rat.mul_pos (show 0 < b - a by grind) hU; grind
theorem flt_q {x y : Nat} {a b : Rat} (hx : Q x a) (hy : Q y b) : flt x y = decide (a < b) := by
  obtain ⟨n, h1, h2⟩ := hx
  obtain ⟨m, h3, h4⟩ := hy
  rw [D_lt h1 h3]; exact decide_eq_decide.2 (q_lt h2 h4)
theorem fgt_q {x y : Nat} {a b : Rat} (hx : Q x a) (hy : Q y b) : fgt x y = decide (b < a) := by rw [fgt_flt]; exact flt_q hy hx
theorem num_q {x : Nat} {r : Rat} (h : Q x r) : num x = some x := by
  obtain ⟨n, h1, _⟩ := h
  have : isn x = false := D_num h1
  unfold num; rw [this]; rfl
theorem q_zero : Q 0 0 := by
  have := Q_whole (D_zero 1074); exact this
end Go.Proofs.YthobbfpoooommaaGreat
