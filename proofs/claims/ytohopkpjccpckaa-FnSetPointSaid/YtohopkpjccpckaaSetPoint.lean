/-
  A point takes a place just if it has as many numbers as the layout says: the plain statement. Ours.
-/
import Derived.Test.YtohopkpjccpckaaSameF
namespace Go.Proofs.Ytohopkpjccpckaa
open Go.Sx
set_option linter.unusedVariables false
set_option linter.unusedSimpArgs false

theorem stride_of (k : Nat) (a : Int) (h1 : 1 ≤ a) (h9 : a ≤ 9) : ∃ s : Nat, spec_Stride k a = some (s : Int) ∧ gogeom_Layout_Stride k a = some (s : Int) ∧ s ≤ 9 := by
  unfold spec_Stride gogeom_Layout_Stride
  by_cases h2 : a = 1
  · subst h2; exact ⟨2, rfl, rfl, by omega⟩
  by_cases h3 : a = 2
  · subst h3; exact ⟨3, rfl, rfl, by omega⟩
  by_cases h4 : a = 3
  · subst h4; exact ⟨3, rfl, rfl, by omega⟩
  have h0 : ¬ a = 0 := by omega
  have h1' : ¬ a < 1 := by omega
  refine ⟨a.toNat, ?_, ?_, by omega⟩
  · rw [decide_eq_false h1', br_false, decide_eq_false h2, br_false, decide_eq_false h3, br_false, decide_eq_false h4]
    show some a = _
    rw [Int.toNat_of_nonneg (by omega)]
  · rw [decide_eq_false h0, br_false, decide_eq_false h2, br_false, decide_eq_false h3, br_false, decide_eq_false h4, br_false, Int.toNat_of_nonneg (by omega)]
    by_cases h5 : a = 4
    · rw [decide_eq_true h5, h5]; rfl
    · rw [decide_eq_false h5]; rfl
theorem floats_small (k : Nat) (a : List Nat) (h : a.length ≤ 1000) : apd 8 [] a = some a := by
  rw [apd_some (by simp; omega) (by simp; omega)]; rfl
theorem setPoint_is (k : Nat) (a : Int) (l : List Nat) (h1 : 1 ≤ a) (h9 : a ≤ 9) (hl : l.length ≤ 20) (hk : 100 < k) (s : Nat) (hs : gogeom_Layout_Stride k a = some (s : Int)) (hs9 : s ≤ 9) :
    impl_SetPoint k a l = some (if l.length = s then (1, a, 0, l, [], true) else (0, 0, 0, [], [], false)) := by
  obtain ⟨k, rfl⟩ : ∃ j, k = j + 1 := ⟨k - 1, by omega⟩
  have hf := floats_small (k + 1) l (by omega)
  have hm : mk 8 0 (s : Int) (s : Int) = some (List.replicate s 0) := by rw [mk_some (by omega) (by omega) (by omega) (by omega)]; simp
  simp only [impl_SetPoint, gogeom_NewPoint, gogeom_NewPointFlat, hs, hm, Option.bind_eq_bind, Option.bind_some, impl_floats, hf, gogeom_Point_SetCoords, gogeom_geom0_setCoords, gogeom_deflate0]
  by_cases e : l.length = s
  · rw [if_pos e, decide_eq_true (by omega), Bool.not_true, br_false]
    have h0 : apd 8 ([] : List Int) [] = some [] := by rw [apd_some (by simp) (by simp)]; rfl
    simp only [h0, Option.bind_some, impl_plain, gogeom_geom0_SRID, gogeom_geom0_Layout, gogeom_geom0_FlatCoords, gogeom_geom0_Ends, gogeom_geom0_Endss, impl_floats, hf, impl_ints, impl_intss, impl_intss_l1, impl_intss_l1s, Option.bind_eq_bind]
  · rw [if_neg e, decide_eq_false (by omega), Bool.not_false, br_true]
    rfl

theorem fact_FnSetPoint {p q : Prop} (x0 : Int) (x1 : List Nat) (g0 : p) (g1 : q) : laws_FnSetPoint 200 x0 x1 = some true := by
  unfold laws_FnSetPoint
  by_cases h1 : 2147483647 < (x1.length : Int)
  · rw [decide_eq_true h1, br_true]
  rw [decide_eq_false h1, br_false]
  by_cases h2 : x0 < 1
  · rw [decide_eq_true h2]; rfl
  rw [decide_eq_false h2, br_false]
  by_cases h3 : 9 < x0
  · rw [decide_eq_true h3]; rfl
  rw [decide_eq_false h3]
  unfold laws_FnSetPoint_j1
  rw [br_false]
  by_cases h4 : 20 < (x1.length : Int)
  · rw [decide_eq_true h4]; rfl
  rw [decide_eq_false h4]
  unfold laws_FnSetPoint_j2
  rw [br_false]
  obtain ⟨s, hs, hs', hs9⟩ := stride_of 200 x0 (by omega) (by omega)
  rw [setPoint_is 200 x0 x1 (by omega) (by omega) (by omega) (by omega) s hs' hs9, Option.bind_eq_bind, Option.bind_some]
  have hv : impl_SetPoint_v2 200 1 [4607182418800017408, 4611686018427387904] = some (1, 1, 0, [4607182418800017408, 4611686018427387904], [], true) := by
    have := setPoint_is 200 1 [4607182418800017408, 4611686018427387904] (by omega) (by omega) (by simp) (by omega) 2 rfl (by omega)
    exact this
  rw [hv, Option.bind_some, br_true, hs, sbind]
  by_cases e : x1.length = s
  · rw [if_pos e, decide_eq_true (show (x1.length : Int) = (s : Int) by omega)]
    unfold laws_FnSetPoint_j3
    have hsame : spec_SameGeom 200 1 x0 0 x1 [] 1 x0 0 x1 = some true := by
      simp only [spec_SameGeom, spec_SameGeom_j1, spec_SameGeom_j2, spec_SameGeom_j3, spec_SameGeom_j4, spec_SameGeom_j5, spec_SameGeom_j6, decide_true, Bool.not_true, br_false, sameFloats_self x1 (k := 200) (by omega) (by omega), Option.bind_eq_bind, Option.bind_some]
      rfl
    simp only [beq_self_eq_true, br_true, Bool.not_true, br_false, hsame, Option.bind_some]
    rfl
  · rw [if_neg e, decide_eq_false (show ¬ (x1.length : Int) = (s : Int) by omega)]
    rfl
end Go.Proofs.Ytohopkpjccpckaa
