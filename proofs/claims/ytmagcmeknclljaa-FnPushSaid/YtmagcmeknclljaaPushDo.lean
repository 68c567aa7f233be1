/-
  What the program's push does: polygons, multi points, multi line strings. Ours.
-/
import Derived.Test.YtmagcmeknclljaaPushOf6
import Derived.Test.YtmagcmeknclljaaPushBack
namespace Go.Proofs.Ytmagcmeknclljaa
open Go.Sx
set_option linter.unusedVariables false
set_option linter.unusedSimpArgs false
set_option maxRecDepth 100000

/-- the kind of the parts -/
def kdOfP (K : Int) : Int := if K = 3 then 8 else if K = 4 then 1 else 2
theorem push_rows (j : Nat) (K lay srid lay' srid' : Int) (fl fl' : List Nat) (es es' : List Int) (kids kids' : List T27) (hK : K = 3 ∨ K = 4 ∨ K = 5) (h1 : 1 ≤ lay) (h1' : 1 ≤ lay')
    (h3 : fl.length ≤ 2147483647) (h4 : es.length ≤ 2147483647) (h3' : fl'.length ≤ 2147483647) (hj : 0 < j) (f3 : K = 4 → es = [] → fl = []) :
    impl_Push (j + 1) K lay srid fl es [] kids (kdOfP K) lay' srid' fl' [] [] kids' = some (if lay' = lay then (K, lay, srid, fl ++ fl', es ++ [((fl ++ fl').length : Int)], [], [], true) else (0, 0, 0, [], [], [], [], false)) := by
  have hg := geom_flat j K lay srid fl es [] kids (by omega) h1 (by omega) (by omega) (by simp) (by simp) (by simpa using hj) f3
  have hg' := geom_flat j (kdOfP K) lay' srid' fl' [] [] kids' (by unfold kdOfP; rcases hK with rfl | rfl | rfl <;> simp) h1' (by omega) (by simp) (by simp) (by simp) (by simpa using hj) (by unfold kdOfP; rcases hK with rfl | rfl | rfl <;> simp)
  have hpf : apd 8 ([] : List Nat) (fl ++ fl') = some (fl ++ fl') := by rw [apd_some (by simp; omega) (by simp; omega), List.nil_append]
  have hpe : apd 8 ([] : List Int) (es ++ [((fl ++ fl').length : Int)]) = some (es ++ [((fl ++ fl').length : Int)]) := by rw [apd_some (by simp; omega) (by simp; omega), List.nil_append]
  have ha : apd 8 fl fl' = some (fl ++ fl') := apd_some (by omega) (by omega)
  have hb : apd 8 es [((fl ++ fl').length : Int)] = some (es ++ [((fl ++ fl').length : Int)]) := apd_some (by simp; omega) (by simp; omega)
  unfold impl_Push
  rw [hg, sbind, hg']
  rcases hK with rfl | rfl | rfl
  · show (gogeom_Polygon_Push (j + 1) lay (stri lay) fl srid es lay' (stri lay') fl' srid' >>= _) = _
    unfold gogeom_Polygon_Push
    by_cases hl : lay' = lay
    · rw [decide_eq_true hl, Bool.not_true, br_false, ha, sbind, hb, sbind, if_pos hl]
      show impl_Push_j1b _ _ _ _ _ _ = _
      simp only [impl_Push_j1b, gogeom_geom0_SRID, gogeom_geom0_SRID_v2, gogeom_geom0_SRID_v3, gogeom_geom0_Layout_v4, gogeom_geom0_Layout_v5, gogeom_geom0_Layout_v6, gogeom_geom0_FlatCoords, gogeom_geom0_FlatCoords_v2, gogeom_geom0_FlatCoords_v3, gogeom_geom2_Ends, gogeom_geom2_Ends_v2, gogeom_geom2_Ends_v3, gogeom_geom0_Endss, gogeom_geom0_Endss_v2, gogeom_geom0_Endss_v3, impl_floats_v2, impl_ints_v2, impl_intss_v2, impl_plain, impl_plain_v2, impl_plain_v3, hpf, hpe, sbind]
    · rw [decide_eq_false hl, Bool.not_false, br_true, if_neg hl]; rfl
  · show (gogeom_MultiPoint_Push (j + 1) lay (stri lay) fl srid es lay' (stri lay') fl' srid' >>= _) = _
    unfold gogeom_MultiPoint_Push
    by_cases hl : lay' = lay
    · rw [decide_eq_true hl, Bool.not_true, br_false, if_pos hl]
      have key : ∀ F : List Nat, F = fl ++ fl' → (gogeom_MultiPoint_Push_j1 (j + 1) es lay (stri lay) srid F lay' (stri lay') fl' srid' >>= fun r34 => match r34 with
          | .inl y34 => impl_Push_j2a (j + 1) y34.2.2.2.2.2.1 y34.1 y34.2.1 y34.2.2.1 y34.2.2.2.1 y34.2.2.2.2.1
          | .inr y34 => impl_Push_j2b (j + 1) y34.1 y34.2.1 y34.2.2.1 y34.2.2.2.1 y34.2.2.2.2.1) = some (4, lay, srid, fl ++ fl', es ++ [((fl ++ fl').length : Int)], [], [], true) := by
        rintro F rfl
        unfold gogeom_MultiPoint_Push_j1
        rw [hb, sbind]
        show impl_Push_j2b _ _ _ _ _ _ = _
        simp only [impl_Push_j2b, gogeom_geom0_SRID, gogeom_geom0_SRID_v2, gogeom_geom0_SRID_v3, gogeom_geom0_Layout_v4, gogeom_geom0_Layout_v5, gogeom_geom0_Layout_v6, gogeom_geom0_FlatCoords, gogeom_geom0_FlatCoords_v2, gogeom_geom0_FlatCoords_v3, gogeom_geom2_Ends, gogeom_geom2_Ends_v2, gogeom_geom2_Ends_v3, gogeom_geom0_Endss, gogeom_geom0_Endss_v2, gogeom_geom0_Endss_v3, impl_floats_v2, impl_ints_v2, impl_intss_v2, impl_plain, impl_plain_v2, impl_plain_v3, hpf, hpe, sbind]
      simp only [gogeom_geom0_Empty, sbind]
      by_cases h0 : fl' = []
      · subst h0
        rw [show decide (((([] : List Nat).length : Nat) : Int) = 0) = true from rfl, Bool.not_true, br_false]
        exact key _ (by simp)
      · rw [decide_eq_false (show ¬ ((fl'.length : Nat) : Int) = 0 by intro h; exact h0 (List.length_eq_zero_iff.1 (by omega))), Bool.not_false, br_true, ha, sbind]
        exact key _ rfl
    · rw [decide_eq_false hl, Bool.not_false, br_true, if_neg hl]; rfl
  · show (gogeom_MultiLineString_Push (j + 1) lay (stri lay) fl srid es lay' (stri lay') fl' srid' >>= _) = _
    unfold gogeom_MultiLineString_Push
    by_cases hl : lay' = lay
    · rw [decide_eq_true hl, Bool.not_true, br_false, ha, sbind, hb, sbind, if_pos hl]
      show impl_Push_j3b _ _ _ _ _ _ = _
      simp only [impl_Push_j3b, gogeom_geom0_SRID, gogeom_geom0_SRID_v2, gogeom_geom0_SRID_v3, gogeom_geom0_Layout_v4, gogeom_geom0_Layout_v5, gogeom_geom0_Layout_v6, gogeom_geom0_FlatCoords, gogeom_geom0_FlatCoords_v2, gogeom_geom0_FlatCoords_v3, gogeom_geom2_Ends, gogeom_geom2_Ends_v2, gogeom_geom2_Ends_v3, gogeom_geom0_Endss, gogeom_geom0_Endss_v2, gogeom_geom0_Endss_v3, impl_floats_v2, impl_ints_v2, impl_intss_v2, impl_plain, impl_plain_v2, impl_plain_v3, hpf, hpe, sbind]
    · rw [decide_eq_false hl, Bool.not_false, br_true, if_neg hl]; rfl
end Go.Proofs.Ytmagcmeknclljaa
