/-
  Geometries that are no collection, built out of their plain form (impl.geometry, values of the interface told apart). Ours.
-/
import Derived.Test.YtmagcmeknclljaaGeomTot
namespace Go.Proofs.Ytmagcmeknclljaa
open Go.Sx
set_option linter.unusedVariables false
set_option linter.unusedSimpArgs false
set_option maxRecDepth 100000

/-! #### the sizes tell the lengths -/
theorem okw_ok {x : T27} (h : x.OkW) : x.Ok := by
  induction h with
  | mk g0 g1 g2 g3 g4 g5 g6 gk ih =>
    have hm : (140737488351232 : Nat) ≤ maxLen := by decide
    exact .mk g0 g1 g2 ⟨by omega, g3.2⟩ ⟨by omega, g4.2⟩ ⟨by omega, fun y hy => ⟨by have := (g5.2 y hy).1; omega, (g5.2 y hy).2⟩⟩ (by omega) ih
theorem lstride_is (k : Nat) (a : Int) (h : 1 ≤ a) : gogeom_Layout_Stride k a = some (stri a) := by
  unfold gogeom_Layout_Stride stri
  rw [decide_eq_false (by omega), br_false, if_neg (by omega)]
  by_cases h1 : a = 1
  · subst h1; rfl
  · rw [decide_eq_false h1, br_false, if_neg h1]
    by_cases h2 : a = 2
    · subst h2; rfl
    · rw [decide_eq_false h2, br_false]
      by_cases h3 : a = 3
      · subst h3; rfl
      · rw [decide_eq_false h3, br_false, if_neg (by omega)]
        by_cases h4 : a = 4
        · subst h4; rfl
        · rw [decide_eq_false h4, br_false]
theorem floatsW (k : Nat) (a : List Nat) (h : a.length * 8 ≤ 140737488351232) : impl_floats k a = some a := by
  unfold impl_floats
  rw [apd_some (by simp; omega) (by simp; omega)]; rfl
theorem ints_nil (k : Nat) : impl_ints k [] = some (.inl ()) := rfl
theorem intsW (k : Nat) (a : List Int) (h : a.length * 8 ≤ 140737488351232) (hn : a ≠ []) : impl_ints k a = some (.inr a) := by
  unfold impl_ints
  have : a.isEmpty = false := by cases a with | nil => exact absurd rfl hn | cons x r => rfl
  rw [this, br_false, apd_some (by simp; omega) (by simp; omega)]; rfl
theorem intssW (k : Nat) (xs : List (List Int)) (h : xs.length * 24 ≤ 140737488351232) (h' : ∀ x ∈ xs, x.length * 8 ≤ 140737488351232) (hk : xs.length < k) : impl_intss k xs = some xs := by
  unfold impl_intss
  obtain ⟨y, hy, rfl⟩ := loop_inv (F := impl_intss_l1 xs) 0 (fun m p => p.2 = ((xs.length - m : Nat) : Int) ∧ m ≤ xs.length ∧ p.1 = xs.take (xs.length - m)) (fun y => y = xs) (by
    intro k m p _ hI
    obtain ⟨l, i⟩ := p
    obtain ⟨hi, hm, hl⟩ := hI
    simp only at hi hl
    subst hi hl
    have hs : impl_intss_l1 xs (k + 1) (xs.take (xs.length - m), ((xs.length - m : Nat) : Int)) = impl_intss_l1s xs k (impl_intss_l1 xs k) (xs.take (xs.length - m)) ((xs.length - m : Nat) : Int) := rfl
    rw [hs]
    unfold impl_intss_l1s
    by_cases e : m = 0
    · subst e
      rw [decide_eq_false (by omega), br_false]
      exact .inl ⟨_, rfl, by simp⟩
    · have hi : xs.length - m < xs.length := by omega
      have hl := h' _ (List.getElem_mem hi)
      have ht : xs.take (xs.length - m) ++ [xs[xs.length - m]] = xs.take (xs.length - (m - 1)) := by
        rw [show xs.length - (m - 1) = xs.length - m + 1 by omega, List.take_add_one, List.getElem?_eq_getElem hi]; rfl
      have hx : (((xs.length - m + 1 : Nat) : Int)) = ((xs.length - (m - 1) : Nat) : Int) := by congr 1; omega
      rw [decide_eq_true (by omega), br_true, idx_get hi, sbind]
      by_cases he : xs[xs.length - m] = []
      · rw [he] at ht ⊢
        rw [ints_nil, sbind]
        simp only
        rw [apd_some (by simp; omega) (by simp; omega), sbind, iadd_one (by omega), ht]
        exact .inr ⟨m - 1, _, by omega, ⟨hx, by omega, rfl⟩, rfl⟩
      · rw [intsW _ _ hl he, sbind]
        simp only
        rw [apd_some (by simp; omega) (by simp; omega), sbind, iadd_one (by omega), ht]
        exact .inr ⟨m - 1, _, by omega, ⟨hx, by omega, rfl⟩, rfl⟩) xs.length ([], 0) k ⟨by simp, Nat.le_refl _, by simp⟩ (by omega)
  rw [hy, sbind]
theorem some1_cons {a : List Int} (h : a ≠ []) : some1 a = some () := by
  cases a with
  | nil => exact absurd rfl h
  | cons x r => rfl

/-! #### what is built -/
abbrev Out := (Int × Int × (List Nat) × Int) ⊕ ((Int × Int × (List Nat) × Int) ⊕ ((Int × Int × (List Nat) × Int) ⊕ ((Int × Int × (List Nat) × Int × (List Int)) ⊕ ((Int × Int × (List Nat) × Int × (List Int)) ⊕ ((Int × Int × (List Nat) × Int × (List Int)) ⊕ ((Int × Int × (List Nat) × Int × (List (List Int))) ⊕ (Int × (List G53) × Int)))))))
def toG : Out → G53
  | .inl y => .c0 y.1 y.2.1 y.2.2.1 y.2.2.2
  | .inr (.inl y) => .c1 y.1 y.2.1 y.2.2.1 y.2.2.2
  | .inr (.inr (.inl y)) => .c2 y.1 y.2.1 y.2.2.1 y.2.2.2
  | .inr (.inr (.inr (.inl y))) => .c3 y.1 y.2.1 y.2.2.1 y.2.2.2.1 y.2.2.2.2
  | .inr (.inr (.inr (.inr (.inl y)))) => .c4 y.1 y.2.1 y.2.2.1 y.2.2.2.1 y.2.2.2.2
  | .inr (.inr (.inr (.inr (.inr (.inl y))))) => .c5 y.1 y.2.1 y.2.2.1 y.2.2.2.1 y.2.2.2.2
  | .inr (.inr (.inr (.inr (.inr (.inr (.inl y)))))) => .c6 y.1 y.2.1 y.2.2.1 y.2.2.2.1 y.2.2.2.2
  | .inr (.inr (.inr (.inr (.inr (.inr (.inr y)))))) => .c7 y.1 y.2.1 y.2.2
/-- what a plain geometry that is no collection becomes -/
def flatOut (a0 a1 a2 : Int) (a3 : List Nat) (a4 : List Int) (a5 : List (List Int)) : Out :=
  if a0 = 1 then .inl (a1, stri a1, a3, a2) else if a0 = 2 then .inr (.inl (a1, stri a1, a3, a2)) else if a0 = 8 then .inr (.inr (.inl (a1, stri a1, a3, a2)))
  else if a0 = 3 then .inr (.inr (.inr (.inl (a1, stri a1, a3, a2, a4)))) else if a0 = 4 then .inr (.inr (.inr (.inr (.inl (a1, stri a1, a3, a2, a4)))))
  else if a0 = 5 then .inr (.inr (.inr (.inr (.inr (.inl (a1, stri a1, a3, a2, a4)))))) else .inr (.inr (.inr (.inr (.inr (.inr (.inl (a1, stri a1, a3, a2, a5)))))))
theorem geom_flat (j : Nat) (a0 a1 a2 : Int) (a3 : List Nat) (a4 : List Int) (a5 : List (List Int)) (a6 : List T27) (h0 : a0 = 1 ∨ a0 = 2 ∨ a0 = 3 ∨ a0 = 4 ∨ a0 = 5 ∨ a0 = 6 ∨ a0 = 8) (h1 : 1 ≤ a1)
    (h3 : a3.length * 8 ≤ 140737488351232) (h4 : a4.length * 8 ≤ 140737488351232) (h5 : a5.length * 24 ≤ 140737488351232) (h5' : ∀ x ∈ a5, x.length * 8 ≤ 140737488351232) (hk : a5.length < j) (f3 : a0 = 4 → a4 = [] → a3 = []) :
    impl_geometry (j + 1) a0 a1 a2 a3 a4 a5 a6 = some (flatOut a0 a1 a2 a3 a4 a5) := by
  have hf := floatsW j a3 h3
  have hs := lstride_is j a1 h1
  have hg : impl_geometry (j + 1) a0 a1 a2 a3 a4 a5 a6 = impl_geometry_b (impl_geometry j) j a0 a1 a2 a3 a4 a5 a6 := rfl
  rw [hg]
  unfold impl_geometry_b
  rw [hf, sbind]
  rcases h0 with rfl | rfl | rfl | rfl | rfl | rfl | rfl
  · rw [decide_eq_true (by decide), br_true]
    simp only [gogeom_NewPointFlat, gogeom_Point_SetSRID, hs, sbind]
    rfl
  · rw [decide_eq_false (by decide), br_false, decide_eq_true (by decide), br_true]
    simp only [gogeom_NewLineStringFlat, gogeom_LineString_SetSRID, hs, sbind]
    rfl
  · rw [decide_eq_false (by decide), br_false, decide_eq_false (by decide), br_false, decide_eq_false (by decide), br_false, decide_eq_true (by decide), br_true]
    by_cases he : a4 = []
    · subst he
      simp only [ints_nil, gogeom_NewPolygonFlat, gogeom_Polygon_SetSRID, hs, sbind]
      rfl
    · simp only [intsW j a4 h4 he, gogeom_NewPolygonFlat_v2, gogeom_Polygon_SetSRID_v2, hs, sbind]
      rfl
  · rw [decide_eq_false (by decide), br_false, decide_eq_false (by decide), br_false, decide_eq_false (by decide), br_false, decide_eq_false (by decide), br_false, decide_eq_true (by decide), br_true]
    by_cases he : a4 = []
    · subst he
      obtain rfl := f3 rfl rfl
      simp only [ints_nil, gogeom_NewMultiPointFlatOptionWithEnds, gogeom_NewMultiPointFlat, gogeom_NewMultiPointFlatOptionWithEnds_1, gogeom_NewMultiPointFlat_j2, gogeom_MultiPoint_SetSRID, hs, sbind]
      rfl
    · simp only [intsW j a4 h4 he, gogeom_NewMultiPointFlatOptionWithEnds_v2, gogeom_NewMultiPointFlat_v2, gogeom_NewMultiPointFlatOptionWithEnds_1_v2, hs, sbind, some1_cons he]
      rfl
  · rw [decide_eq_false (by decide), br_false, decide_eq_false (by decide), br_false, decide_eq_false (by decide), br_false, decide_eq_false (by decide), br_false, decide_eq_false (by decide), br_false, decide_eq_true (by decide), br_true]
    by_cases he : a4 = []
    · subst he
      simp only [ints_nil, gogeom_NewMultiLineStringFlat, gogeom_MultiLineString_SetSRID, hs, sbind]
      rfl
    · simp only [intsW j a4 h4 he, gogeom_NewMultiLineStringFlat_v2, gogeom_MultiLineString_SetSRID_v2, hs, sbind]
      rfl
  · rw [decide_eq_false (by decide), br_false, decide_eq_false (by decide), br_false, decide_eq_false (by decide), br_false, decide_eq_false (by decide), br_false, decide_eq_false (by decide), br_false, decide_eq_false (by decide), br_false, decide_eq_true (by decide), br_true]
    simp only [intssW j a5 h5 h5' hk, gogeom_NewMultiPolygonFlat, gogeom_MultiPolygon_SetSRID, hs, sbind]
    rfl
  · rw [decide_eq_false (by decide), br_false, decide_eq_false (by decide), br_false, decide_eq_true (by decide), br_true]
    simp only [gogeom_NewLinearRingFlat, gogeom_LinearRing_SetSRID, hs, sbind]
    rfl
end Go.Proofs.Ytmagcmeknclljaa
