/-
  As many coordinates as the numbers make places: the plain statement. Ours.
-/
import Derived.Test.YtohopkpjccpckaaGeomGood
namespace Go.Proofs.Ytohopkpjccpckaa
open Go.Sx
set_option linter.unusedVariables false
set_option linter.unusedSimpArgs false

theorem numCoords_is (j : Nat) (a0 a1 a2 : Int) (a3 : List Nat) (a4 : List Int) (a5 : List (List Int)) (a6 : List T27) (q : Int) (h0 : a0 = 2 ∨ a0 = 3 ∨ a0 = 5 ∨ a0 = 6 ∨ a0 = 8) (h1 : 1 ≤ a1)
    (h3 : a3.length ≤ 2147483647) (h4 : a4.length ≤ 2147483647) (h5 : a5.length ≤ 2147483647) (h5' : ∀ x ∈ a5, x.length ≤ 2147483647) (hq : iquo .i64 (a3.length : Int) (stri a1) = some q) (hk : a5.length < j) :
    impl_NumCoords (j + 1) a0 a1 a2 a3 a4 a5 a6 = some (q, true) := by
  have hf := floats_is j a3 h3
  have hi := ints_is j a4 h4
  have hii := intss_is j a5 h5 h5' hk
  have hs := lstride_is j a1 h1
  unfold impl_NumCoords
  have hg : impl_geometry (j + 1) a0 a1 a2 a3 a4 a5 a6 = impl_geometry_b (impl_geometry j) j a0 a1 a2 a3 a4 a5 a6 := rfl
  rw [hg]
  unfold impl_geometry_b
  rw [hf, sbind]
  rcases h0 with rfl | rfl | rfl | rfl | rfl
  · rw [decide_eq_false (by decide), br_false, decide_eq_true (by decide), br_true]
    simp only [gogeom_NewLineStringFlat, gogeom_LineString_SetSRID, hs, sbind, gogeom_geom1_NumCoords, hq]
  · rw [decide_eq_false (by decide), br_false, decide_eq_false (by decide), br_false, decide_eq_false (by decide), br_false, decide_eq_true (by decide), br_true]
    simp only [hi, gogeom_NewPolygonFlat, gogeom_Polygon_SetSRID, hs, sbind, gogeom_geom1_NumCoords_v3, hq]
  · rw [decide_eq_false (by decide), br_false, decide_eq_false (by decide), br_false, decide_eq_false (by decide), br_false, decide_eq_false (by decide), br_false, decide_eq_false (by decide), br_false, decide_eq_true (by decide), br_true]
    simp only [hi, gogeom_NewMultiLineStringFlat, gogeom_MultiLineString_SetSRID, hs, sbind, gogeom_geom1_NumCoords_v4, hq]
  · rw [decide_eq_false (by decide), br_false, decide_eq_false (by decide), br_false, decide_eq_false (by decide), br_false, decide_eq_false (by decide), br_false, decide_eq_false (by decide), br_false, decide_eq_false (by decide), br_false, decide_eq_true (by decide), br_true]
    simp only [hii, gogeom_NewMultiPolygonFlat, gogeom_MultiPolygon_SetSRID, hs, sbind, gogeom_geom1_NumCoords_v5, hq]
  · rw [decide_eq_false (by decide), br_false, decide_eq_false (by decide), br_false, decide_eq_true (by decide), br_true]
    simp only [gogeom_NewLinearRingFlat, gogeom_LinearRing_SetSRID, hs, sbind, gogeom_geom1_NumCoords_v2, hq]

theorem fact_FnNumCoords (a0 a1 a2 : Int) (a3 : List Nat) (a4 : List Int) (a5 : List (List Int)) (a6 : List T27)
    (g : (IntKind.min .i64 ≤ a0 ∧ a0 ≤ IntKind.max .i64) ∧ (IntKind.min .i64 ≤ a1 ∧ a1 ≤ IntKind.max .i64) ∧ (IntKind.min .i64 ≤ a2 ∧ a2 ≤ IntKind.max .i64) ∧ (a3.length ≤ maxLen ∧ ∀ y ∈ a3, y < 18446744073709551616) ∧ (a4.length ≤ maxLen ∧ ∀ y ∈ a4, IntKind.min .i64 ≤ y ∧ y ≤ IntKind.max .i64) ∧ (a5.length ≤ maxLen ∧ ∀ x ∈ a5, x.length ≤ maxLen ∧ ∀ y ∈ x, IntKind.min .i64 ≤ y ∧ y ≤ IntKind.max .i64) ∧ (a6.length ≤ maxLen ∧ ∀ y ∈ a6, T27.Ok y)) :
    ∃ k, laws_FnNumCoords k a0 a1 a2 a3 a4 a5 a6 = some true := by
  obtain ⟨g0, g1, g2, g3, g4, g5, g6, gk⟩ := g
  obtain ⟨K, hK⟩ := gPlain_is (T27.Ok.mk g0 g1 g2 g3 g4 g5 g6 gk)
  refine ⟨K + a5.length + 2, ?_⟩
  obtain ⟨b, hb, hbt⟩ := fits2_is (K + a5.length + 2) a0 a1 a2 a3 a4 a5 a6 g5.1 (by omega)
  unfold laws_FnNumCoords
  rw [hb, sbind]
  cases b
  · rfl
  obtain ⟨h3, h4, h5, h5', h6⟩ := hbt rfl
  rw [Bool.not_true, br_false]
  obtain ⟨p, hp, hpt⟩ := hK (K + a5.length + 2) (by omega)
  rw [hp, sbind]
  cases p
  · rfl
  obtain ⟨hk, hs⟩ := hpt rfl
  rw [Bool.not_true, br_false]
  unfold laws_FnNumCoords_j1
  by_cases e1 : a0 = 1
  · rw [decide_eq_true e1]; rfl
  rw [decide_eq_false e1, br_false]
  by_cases e4 : a0 = 4
  · rw [decide_eq_true e4]; rfl
  rw [decide_eq_false e4]
  unfold laws_FnNumCoords_j2
  rw [br_false]
  obtain ⟨q, hq⟩ : ∃ q, iquo .i64 (a3.length : Int) (stri a1) = some q := by unfold iquo; rw [if_neg hs]; exact ⟨_, rfl⟩
  rw [numCoords_is (K + a5.length + 1) a0 a1 a2 a3 a4 a5 a6 q (by omega) (stri_pos hs) h3 h4 h5 h5' hq (by omega), sbind]
  simp only [br_true]
  rw [stride_is, sbind, hq, sbind]
  unfold laws_FnNumCoords_j3
  rw [decide_eq_true rfl]
end Go.Proofs.Ytohopkpjccpckaa
