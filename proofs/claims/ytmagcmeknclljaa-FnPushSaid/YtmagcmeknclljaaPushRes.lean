/-
  The law's end, and the results' data. Ours.
-/
import Derived.Test.YtmagcmeknclljaaPushEns
namespace Go.Proofs.Ytmagcmeknclljaa
open Go.Sx
set_option linter.unusedVariables false
set_option linter.unusedSimpArgs false
set_option maxRecDepth 100000

theorem j5_is {k : Nat} {a0 a1 a2 c0 c1 c2 d0 d1 d2 x5 x6 : Int} {a3 c3 d3 x7 : List Nat} {a4 c4 d4 x8 : List Int} {a5 c5 d5 x9 : List (List Int)} {a6 c6 d6 x10 : List T27} {c : Prop} [Decidable c]
    (h1 : impl_Push k a0 a1 a2 a3 a4 a5 a6 c0 c1 c2 c3 c4 c5 c6 = some (if c then (d0, d1, d2, d3, d4, d5, d6, true) else (0, 0, 0, [], [], [], [], false)))
    (h2 : ∃ r, impl_Push k 3 1 0 [] [] [] [] 8 1 0 [4607182418800017408, 4611686018427387904] [] [] [] = some r ∧ r.2.2.2.2.2.2.2 = true)
    (hs : spec_SameGeom k d0 d1 d2 d3 d4 d5 d6 x5 x6 a2 x7 x8 x9 x10 = some true) :
    laws_FnPush_j5 k a0 a1 a2 a3 a4 a5 a6 c0 c1 c2 c3 c4 c5 c6 x5 x6 x7 x8 x9 x10 (decide c) = some true := by
  obtain ⟨r, hr, hr2⟩ := h2
  unfold laws_FnPush_j5
  rw [h1, sbind, hr, sbind, hr2, br_true]
  unfold laws_FnPush_j6
  by_cases hc : c
  · simp only [if_pos hc, decide_eq_true hc, beq_self_eq_true, br_true, Bool.not_true, br_false]
    rw [hs, sbind]; rfl
  · simp only [if_neg hc, decide_eq_false hc, beq_self_eq_true, br_true, Bool.not_false]; rfl
theorem const_ok (j : Nat) (hj : 0 < j) : ∃ r, impl_Push (j + 1) 3 1 0 [] [] [] [] 8 1 0 [4607182418800017408, 4611686018427387904] [] [] [] = some r ∧ r.2.2.2.2.2.2.2 = true := by
  have h := push_rows j 3 1 0 1 0 [] [4607182418800017408, 4611686018427387904] [] [] [] [] (by omega) (by omega) (by omega) (by simp) (by simp) (by simp) hj (by simp)
  rw [if_pos rfl] at h
  exact ⟨_, h, rfl⟩
theorem okw_rows {K ly sr : Int} {fl fl' : List Nat} {es : List Int} (g : (T27.mk K ly sr fl es [] []).OkW) (h : ∀ y ∈ fl', y < 18446744073709551616) (h1 : fl.length ≤ 2147483647) (h2 : fl'.length ≤ 2147483647) (h3 : es.length ≤ 2147483647) :
    (T27.mk K ly sr (fl ++ fl') (es ++ [((fl ++ fl').length : Int)]) [] []).OkW := by
  cases g with
  | mk g0 g1 g2 g3 g4 g5 g6 gk =>
    refine T27.OkW.mk g0 g1 g2 ⟨by simp; omega, fun y hy => ?_⟩ ⟨by simp; omega, fun y hy => ?_⟩ g5 g6 gk
    · rcases List.mem_append.1 hy with hh | hh
      · exact g3.2 y hh
      · exact h y hh
    · rcases List.mem_append.1 hy with hh | hh
      · exact g4.2 y hh
      · rw [List.mem_singleton.1 hh, kmin, kmax, List.length_append]; omega
theorem iadd_range (a b : Int) : IntKind.min .i64 ≤ iadd .i64 a b ∧ iadd .i64 a b ≤ IntKind.max .i64 := by
  rw [kmin, kmax]
  unfold iadd
  simp only [IntKind.wrap, IntKind.signed, IntKind.bits]
  have h0 := Int.emod_nonneg (a + b) (show (2 ^ 64 : Int) ≠ 0 by decide)
  have h1 := Int.emod_lt_of_pos (a + b) (show (0 : Int) < 2 ^ 64 by decide)
  simp only [Bool.true_and, decide_eq_true_eq]
  by_cases hc : (a + b) % 2 ^ 64 ≥ 2 ^ (64 - 1)
  · simp only [hc, decide_true, if_true]; omega
  · simp only [hc, decide_false, Bool.false_eq_true, if_false]; omega
theorem okw_polys {ly sr : Int} {fl fl' : List Nat} {es' : List Int} {xs : List (List Int)} (g : (T27.mk 6 ly sr fl [] xs []).OkW) (h : ∀ y ∈ fl', y < 18446744073709551616) (h1 : fl.length ≤ 2147483647) (h2 : fl'.length ≤ 2147483647) (h3 : xs.length ≤ 2147483647) (h4 : es'.length ≤ 2147483647) :
    (T27.mk 6 ly sr (fl ++ fl') [] (xs ++ [mv fl.length es']) []).OkW := by
  cases g with
  | mk g0 g1 g2 g3 g4 g5 g6 gk =>
    refine T27.OkW.mk g0 g1 g2 ⟨by simp; omega, fun y hy => ?_⟩ g4 ⟨by simp; omega, fun x hx => ?_⟩ g6 gk
    · rcases List.mem_append.1 hy with hh | hh
      · exact g3.2 y hh
      · exact h y hh
    · rcases List.mem_append.1 hx with hh | hh
      · exact g5.2 x hh
      · rw [List.mem_singleton.1 hh]
        unfold mv
        refine ⟨by simp; omega, fun y hy => ?_⟩
        obtain ⟨e, _, rfl⟩ := List.mem_map.1 hy
        exact iadd_range _ _
theorem okw_col {ly sr : Int} {kids : List T27} {p : T27} (g : (T27.mk 7 ly sr [] [] [] kids).OkW) (h : p.OkW) (h1 : kids.length ≤ 2147483647) : (T27.mk 7 ly sr [] [] [] (kids ++ [p])).OkW := by
  cases g with
  | mk g0 g1 g2 g3 g4 g5 g6 gk =>
    refine T27.OkW.mk g0 g1 g2 g3 g4 g5 (by simp; omega) fun y hy => ?_
    rcases List.mem_append.1 hy with hh | hh
    · exact gk y hh
    · rw [List.mem_singleton.1 hh]; exact h
end Go.Proofs.Ytmagcmeknclljaa
