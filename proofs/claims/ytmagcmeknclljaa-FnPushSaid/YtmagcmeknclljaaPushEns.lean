/-
  What good data say of the ends. Ours.
-/
import Derived.Test.YtmagcmeknclljaaPushGood
namespace Go.Proofs.Ytmagcmeknclljaa
open Go.Sx
set_option linter.unusedVariables false
set_option linter.unusedSimpArgs false
set_option maxRecDepth 100000

theorem good_rows3 {x0 x1 x2 : Int} {x3 : List Nat} {x4 : List Int} {j s : Nat} (h0 : x0 = 3 ∨ x0 = 4 ∨ x0 = 5) (hs : stri x1 = (s : Int)) (hs2 : 2 ≤ s) (h : spec_Good (j + 1) x0 x1 x2 x3 x4 [] [] = some true) :
    x3.length % s = 0 ∧ spec_goodEnds j x4 0 (s : Int) (decide (x0 = 4)) = some ((x3.length : Int), true) := by
  have hb : spec_Good_b (spec_Good j) j x0 x1 x2 x3 x4 [] [] = some true := h
  have h7 : x0 ≠ 7 := by omega
  unfold spec_Good_b at hb
  have hrem : irem (x3.length : Int) (s : Int) = some ((x3.length : Int).tmod (s : Int)) := by unfold irem; rw [if_neg (by omega)]
  rw [stride_is, sbind, decide_eq_false h7, br_false, hs, decide_eq_false (show ¬ (s : Int) = 0 by omega), br_false, hrem, sbind] at hb
  by_cases hm : (x3.length : Int).tmod (s : Int) = 0
  · rw [decide_eq_true hm] at hb
    have hj2 : spec_Good_j2 j x0 x4 x3 (s : Int) [] [] false = spec_Good_j5 j x0 x4 x3 (s : Int) [] false := rfl
    rw [show (!true) = false from rfl, hj2] at hb
    unfold spec_Good_j5 at hb
    rw [br_false, decide_eq_false (show ¬ x0 = 1 by omega), br_false, decide_eq_false (show ¬ x0 = 2 by omega), br_false, decide_eq_false (show ¬ x0 = 8 by omega)] at hb
    have h8 : spec_Good_j8 j x4 (s : Int) x0 x3 [] true = some true := by
      unfold spec_Good_j7 at hb
      rw [br_false] at hb
      rcases h0 with rfl | rfl | rfl
      · exact hb
      · exact hb
      · exact hb
    unfold spec_Good_j8 at h8
    rw [br_true] at h8
    refine ⟨by rw [Int.tmod_eq_emod_of_nonneg (by omega)] at hm; exact_mod_cast hm, ?_⟩
    cases hy : spec_goodEnds j x4 0 (s : Int) (decide (x0 = 4)) with
    | none => rw [hy] at h8; cases h8
    | some y =>
      obtain ⟨z, b⟩ := y
      rw [hy, sbind] at h8
      cases b with
      | false => cases h8
      | true =>
        have : some (decide (z = (x3.length : Int))) = some true := h8
        simp only [Option.some.injEq, decide_eq_true_eq] at this
        rw [this]
  · rw [decide_eq_false hm] at hb; cases hb
theorem ens_good {x0 x1 x2 : Int} {x3 : List Nat} {x4 : List Int} {j : Nat} (h0 : x0 = 3 ∨ x0 = 4 ∨ x0 = 5) (hl : x4.length ≤ 2147483647) (h1 : 1 ≤ x1) (h : spec_Good (j + 1) x0 x1 x2 x3 x4 [] [] = some true) : Ens x4 x3.length := by
  have hs2 : 2 ≤ stri x1 := by
    unfold stri
    rw [if_neg (by omega)]
    split
    · omega
    · split <;> omega
  obtain ⟨s, hs⟩ : ∃ s : Nat, stri x1 = (s : Int) := ⟨(stri x1).toNat, by omega⟩
  exact ens_of hl (good_rows3 h0 hs (by omega) h).2
theorem en6_good {x1 x2 : Int} {x3 : List Nat} {x4 : List Int} {x5 : List (List Int)} {j : Nat} (h1 : 1 ≤ x1) (h3 : x3.length ≤ 2147483647) (h5 : x5.length ≤ 2147483647) (h5' : ∀ x ∈ x5, x.length ≤ 2147483647) (hr : ∀ es ∈ x5, ∀ x ∈ es, IntKind.min .i64 ≤ x ∧ x ≤ IntKind.max .i64)
    (h : spec_Good (j + 1) 6 x1 x2 x3 x4 x5 [] = some true) : ∃ s, En6 x5 s x3.length := by
  have hs2 : 2 ≤ stri x1 := by
    unfold stri
    rw [if_neg (by omega)]
    split
    · omega
    · split <;> omega
  obtain ⟨s, hs⟩ : ∃ s : Nat, stri x1 = (s : Int) := ⟨(stri x1).toNat, by omega⟩
  have hg := (good_polys hs (by omega) h).2
  obtain ⟨_, h2⟩ := good6_inv x5 s (by omega) hr h5' h5 j 0 0 _ true hg (by omega)
  obtain ⟨e1, e2⟩ := h2 rfl (by omega)
  exact ⟨s, ⟨fun j hj m hm => e2 j (by omega) hj m hm, by omega, h3, h5, h5'⟩⟩
end Go.Proofs.Ytmagcmeknclljaa
