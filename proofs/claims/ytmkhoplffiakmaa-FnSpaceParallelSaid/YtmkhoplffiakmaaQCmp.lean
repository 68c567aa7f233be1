/-
  Comparisons of words that stand for rational numbers. Ours; it knows no program.
-/
import Derived.Test.YtmkhoplffiakmaaFun
import Derived.Test.YtmkhoplffiakmaaRelAbs
import Derived.Test.YtmkhoplffiakmaaSxV
import Derived.Test.YtmkhoplffiakmaaSxP
namespace Go.Proofs.Ytmkhoplffiakmaa
open Go.Sx
open Ieee (signed)
set_option linter.unusedVariables false
set_option linter.unusedSimpArgs false
set_option maxRecDepth 100000

theorem q_lt {m n : Int} {a b : Rat} (h2 : (m : Rat) = a * Un) (h4 : (n : Rat) = b * Un) : (m < n) ↔ a < b := by
  have hU := Un_pos
  rw [← Rat.intCast_lt_intCast, h2, h4]
  constructor
  · intro h
    by_cases h' : a < b
    · exact h'
    · have := Rat.mul_nonneg (show 0 ≤ a - b by grind) (Rat.le_of_lt hU); grind
  · intro h
    have := Rat.mul_pos (show 0 < b - a by grind) hU; grind
theorem flt_q {x y : Nat} {a b : Rat} (hx : Q x a) (hy : Q y b) : flt x y = decide (a < b) := by
  obtain ⟨n, h1, h2⟩ := hx
  obtain ⟨m, h3, h4⟩ := hy
  rw [D_lt h1 h3]; exact decide_eq_decide.2 (q_lt h2 h4)
theorem fgt_q {x y : Nat} {a b : Rat} (hx : Q x a) (hy : Q y b) : fgt x y = decide (b < a) := by rw [fgt_flt]; exact flt_q hy hx
theorem fle_q {x y : Nat} {a b : Rat} (hx : Q x a) (hy : Q y b) : fle x y = decide (a ≤ b) := by
  obtain ⟨n, h1, h2⟩ := hx
  obtain ⟨m, h3, h4⟩ := hy
  rw [D_le h1 h3]
  refine decide_eq_decide.2 ?_
  have := q_lt h4 h2
  constructor
  · intro h; have : ¬ m < n := by omega
    grind
  · intro h
    have h5 : ¬ b < a := by grind
    have : ¬ m < n := fun h => h5 (this.1 h)
    omega
theorem fge_q {x y : Nat} {a b : Rat} (hx : Q x a) (hy : Q y b) : fge x y = decide (b ≤ a) := by rw [fge_fle]; exact fle_q hy hx
theorem num_q {x : Nat} {r : Rat} (h : Q x r) : num x = some x := by
  obtain ⟨n, h1, _⟩ := h
  have : isn x = false := D_num h1
  unfold num; rw [this]; rfl
theorem q_zero : Q 0 0 := by
  have := Q_whole (D_zero 1074); exact this
theorem q_nat {x : Nat} {r : Rat} (h : Q x r) (h0 : 0 ≤ r) : ∃ n : Nat, D x (n : Int) 0 ∧ ((n : Int) : Rat) = r * Un := by
  obtain ⟨n, h1, h2⟩ := h
  have h3 : (0 : Rat) ≤ n := by rw [h2]; exact Rat.mul_nonneg h0 (Rat.le_of_lt Un_pos)
  have h4 : 0 ≤ n := Rat.intCast_le_intCast.1 h3
  obtain ⟨m, rfl⟩ : ∃ m : Nat, n = m := ⟨n.toNat, by omega⟩
  exact ⟨m, h1, h2⟩
theorem fdiv_q {x y : Nat} {a b : Rat} (hx : Q x a) (hy : Q y b) (hb : 0 < b) : fdiv x y = some (gdiv x y) := by
  obtain ⟨n, h1, h2⟩ := hx
  obtain ⟨m, h3, h4⟩ := q_nat hy (Rat.le_of_lt hb)
  have h5 : (0 : Rat) < ((m : Int) : Rat) := by rw [h4]; exact Rat.mul_pos hb Un_pos
  have h6 : 0 < (m : Int) := Rat.intCast_lt_intCast.1 h5
  exact fdiv_some h1 h3 (by omega)
theorem gsqrt_z (e1074 e1000 e2148 e10148 e8000 e5574 e4000 : Nat) (he1 : e1074 = 1074) (he2 : e1000 = 1000) (he3 : e2148 = 2148) (he4 : e10148 = 10148) (he5 : e8000 = 8000) (he6 : e5574 = 5574) (he7 : e4000 = 4000) {x : Nat} (hx : D x ((0 : Nat) : Int) e1074) : ∃ N : Nat, D (gsqrt x) N 0 ∧ N = 0 := by
  obtain ⟨N, n1, n2, n3⟩ := gsqrt_near_u e1074 e1000 e2148 e10148 e8000 e5574 e4000 he1 he2 he3 he4 he5 he6 he7 hx (Nat.two_pow_pos _)
  refine ⟨N, n1, ?_⟩
  have := n2 0 0 (by omega) (by simp)
  omega
theorem gsqrt_q0 {x : Nat} (hx : Q x 0) : Q (gsqrt x) 0 := by
  obtain ⟨n, h1, h2⟩ := hx
  have hn : n = 0 := by
    have h3 : (n : Rat) = ((0 : Int) : Rat) := by rw [h2]; grind
    exact Rat.intCast_inj.1 h3
  subst hn
  obtain ⟨s, m, q, r1, r2⟩ := h1
  have h0 : D x ((0 : Nat) : Int) 1074 := ⟨s, m, q, r1, by rw [r2, Int.zero_mul]; exact (Int.zero_mul _).symm⟩
  obtain ⟨N, n1, n2⟩ := gsqrt_z 1074 1000 2148 10148 8000 5574 4000 rfl rfl rfl rfl rfl rfl rfl h0
  subst n2
  exact ⟨0, n1, by grind⟩
end Go.Proofs.Ytmkhoplffiakmaa
