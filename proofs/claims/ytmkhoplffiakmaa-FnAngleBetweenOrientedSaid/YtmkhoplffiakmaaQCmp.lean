/-
  Comparisons of words that stand for rational numbers. Ours; it knows no program.
-/
import Derived.Test.YtmkhoplffiakmaaFun
import Derived.Test.YtmkhoplffiakmaaRelAbs
import Derived.Test.YtmkhoplffiakmaaSxV
import Derived.Test.YtmkhoplffiakmaaSxP
namespace Go.Proofs.Ytmkhoplffiakmaa
open Go.Sx
open Ieee (signed)
set_option linter.unusedVariables false
set_option linter.unusedSimpArgs false
set_option maxRecDepth 100000

theorem q_lt {m n : Int} {a b : Rat} (h2 : (m : Rat) = a * Un) (h4 : (n : Rat) = b * Un) : (m < n) ↔ a < b := by
  have hU := Un_pos
  rw [← Rat.intCast_lt_intCast, h2, h4]
  constructor
  · intro h
    by_cases h' : a < b
    · exact h'
    · have := Rat.mul_nonneg (show 0 ≤ a - b by grind) (Rat.le_of_lt hU); grind
  · intro h
    have := Rat.mul_pos (show 0 < b - a by grind) hU; grind
theorem q_eq {m n : Int} {a b : Rat} (h2 : (m : Rat) = a * Un) (h4 : (n : Rat) = b * Un) : (m = n) ↔ a = b := by
  have h1 := q_lt h2 h4
  have h3 := q_lt h4 h2
  constructor
  · intro h; subst h
    have e1 := fun h => Int.lt_irrefl m (h1.2 h)
    have e2 := fun h => Int.lt_irrefl m (h3.2 h)
    grind
  · intro h; subst h
    have e1 : ¬ m < n := fun h => by have := h1.1 h; grind
    have e2 : ¬ n < m := fun h => by have := h3.1 h; grind
    omega
theorem flt_q {x y : Nat} {a b : Rat} (hx : Q x a) (hy : Q y b) : flt x y = decide (a < b) := by
  obtain ⟨n, h1, h2⟩ := hx
  obtain ⟨m, h3, h4⟩ := hy
  rw [D_lt h1 h3]; exact decide_eq_decide.2 (q_lt h2 h4)
theorem fgt_q {x y : Nat} {a b : Rat} (hx : Q x a) (hy : Q y b) : fgt x y = decide (b < a) := by rw [fgt_flt]; exact flt_q hy hx
theorem fle_q {x y : Nat} {a b : Rat} (hx : Q x a) (hy : Q y b) : fle x y = decide (a ≤ b) := by
  obtain ⟨n, h1, h2⟩ := hx
  obtain ⟨m, h3, h4⟩ := hy
  rw [D_le h1 h3]
  refine decide_eq_decide.2 ?_
  have := q_lt h4 h2
  constructor
  · intro h; have : ¬ m < n := by omega
    grind
  · intro h
    have h5 : ¬ b < a := by grind
    have : ¬ m < n := fun h => h5 (this.1 h)
    omega
theorem fge_q {x y : Nat} {a b : Rat} (hx : Q x a) (hy : Q y b) : fge x y = decide (b ≤ a) := by rw [fge_fle]; exact fle_q hy hx
theorem feq_q {x y : Nat} {a b : Rat} (hx : Q x a) (hy : Q y b) : feq x y = decide (a = b) := by
  obtain ⟨n, h1, h2⟩ := hx
  obtain ⟨m, h3, h4⟩ := hy
  rw [D_eq h1 h3]; exact decide_eq_decide.2 (q_eq h2 h4)
theorem num_q {x : Nat} {r : Rat} (h : Q x r) : num x = some x := by
  obtain ⟨n, h1, _⟩ := h
  have : isn x = false := D_num h1
  unfold num; rw [this]; rfl
theorem q_zero : Q 0 0 := by
  have := Q_whole (D_zero 1074); exact this
end Go.Proofs.Ytmkhoplffiakmaa
