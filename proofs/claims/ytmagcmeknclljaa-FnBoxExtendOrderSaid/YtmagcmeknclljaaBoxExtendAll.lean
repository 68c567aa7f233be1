/-
  A box that is extended by two geometries is the same in either order: the plain statement. Ours.
-/
import Derived.Test.YtmagcmeknclljaaBoxExtend
namespace Go.Proofs.Ytmagcmeknclljaa
open Go.Sx
set_option linter.unusedVariables false
set_option linter.unusedSimpArgs false
set_option maxRecDepth 100000

theorem some1_cons {a : List Int} (h : a ≠ []) : some1 a = some () := by
  cases a with
  | nil => exact absurd rfl h
  | cons x r => rfl
/-- good data of a kind -/
structure GX (x0 g : Int) (F : List Nat) (a4 : List Int) (a5 : List (List Int)) : Prop where
  kind : x0 = 1 ∨ x0 = 2 ∨ x0 = 3 ∨ x0 = 4 ∨ x0 = 5 ∨ x0 = 6 ∨ x0 = 8
  lo : 1 ≤ g
  hi : g ≤ 4
  h3 : F.length ≤ 2147483647
  h4 : a4.length ≤ 2147483647
  h5 : a5.length ≤ 2147483647
  h5' : ∀ x ∈ a5, x.length ≤ 2147483647
  f5 : x0 = 6 ∨ a5 = []
  f4 : (x0 = 3 ∨ x0 = 4 ∨ x0 = 5) ∨ a4 = []
  f3 : x0 = 4 → a4 = [] → F = []
  nu : Nu F
  md : (F.length : Int) % stri g = 0

theorem boxExtend_eq (j : Nat) (L : Int) (mn mx : List Nat) (x0 g b : Int) (a3 : List Nat) (a4 : List Int) (a5 : List (List Int)) (gx : GX x0 g a3 a4 a5) (hk : a5.length < j) (m1 : mn.length ≤ 2147483647) (m2 : mx.length ≤ 2147483647)
    {L' : Int} {mn' mx' : List Nat} (he : extc (j + 1) L mn mx g a3 (stri g) = some (L', mn', mx')) (m1' : mn'.length ≤ 2147483647) (m2' : mx'.length ≤ 2147483647) :
    impl_BoxExtend (j + 1) L mn mx x0 g b a3 a4 a5 [] = some (L', mn', mx', true) := by
  obtain ⟨h0, h1, h1', h3, h4, h5, h5', f5, f4, f3, nu, md⟩ := gx
  have hf := fun k => bfloats_is k a3 h3
  have hii := fun k (hk : a5.length < k) => intss_is k a5 h5 h5' hk
  have hs := fun k => lstride_is k g h1
  have hb := fun k => (boxes_is k L mn mx m1 m2).1
  have hp := fun k => (boxes_is k L' mn' mx' m1' m2').2
  have hn : apd 8 ([] : List Int) [] = some [] := by rw [apd_some (by simp) (by simp)]; rfl
  have h51 : a5.length < j + 1 := by omega
  unfold impl_BoxExtend
  rw [hb, sbind]
  have hg : impl_geometry (j + 1) x0 g b a3 a4 a5 [] = impl_geometry_b (impl_geometry j) j x0 g b a3 a4 a5 [] := rfl
  rw [hg]
  unfold impl_geometry_b
  rw [hf, sbind]
  rcases h0 with rfl | rfl | rfl | rfl | rfl | rfl | rfl
  · obtain rfl : a5 = [] := f5.resolve_left (by decide)
    obtain rfl : a4 = [] := f4.resolve_left (by decide)
    rw [decide_eq_true (by decide), br_true]
    simp only [ext1, ext2, ext3, ext4, ext5, ext6, ext7, he, hp, hf, hs, hn, sbind, Option.map_some, Option.bind_eq_bind, Option.bind_some, gogeom_NewPointFlat, gogeom_Point_SetSRID, gogeom_NewLineStringFlat, gogeom_LineString_SetSRID, gogeom_NewLinearRingFlat, gogeom_LinearRing_SetSRID, gogeom_NewPolygonFlat, gogeom_Polygon_SetSRID, gogeom_NewPolygonFlat_v2, gogeom_Polygon_SetSRID_v2, gogeom_NewMultiPointFlatOptionWithEnds, gogeom_NewMultiPointFlatOptionWithEnds_1, gogeom_NewMultiPointFlat, gogeom_NewMultiPointFlat_j2, gogeom_MultiPoint_SetSRID, gogeom_NewMultiPointFlatOptionWithEnds_v2, gogeom_NewMultiPointFlatOptionWithEnds_1_v2, gogeom_NewMultiPointFlat_v2, gogeom_MultiPoint_SetSRID_v2, gogeom_NewMultiLineStringFlat, gogeom_MultiLineString_SetSRID, gogeom_NewMultiLineStringFlat_v2, gogeom_MultiLineString_SetSRID_v2, gogeom_NewMultiPolygonFlat, gogeom_MultiPolygon_SetSRID]
  · obtain rfl : a5 = [] := f5.resolve_left (by decide)
    obtain rfl : a4 = [] := f4.resolve_left (by decide)
    rw [decide_eq_false (by decide), br_false]
    rw [decide_eq_true (by decide), br_true]
    simp only [ext1, ext2, ext3, ext4, ext5, ext6, ext7, he, hp, hf, hs, hn, sbind, Option.map_some, Option.bind_eq_bind, Option.bind_some, gogeom_NewPointFlat, gogeom_Point_SetSRID, gogeom_NewLineStringFlat, gogeom_LineString_SetSRID, gogeom_NewLinearRingFlat, gogeom_LinearRing_SetSRID, gogeom_NewPolygonFlat, gogeom_Polygon_SetSRID, gogeom_NewPolygonFlat_v2, gogeom_Polygon_SetSRID_v2, gogeom_NewMultiPointFlatOptionWithEnds, gogeom_NewMultiPointFlatOptionWithEnds_1, gogeom_NewMultiPointFlat, gogeom_NewMultiPointFlat_j2, gogeom_MultiPoint_SetSRID, gogeom_NewMultiPointFlatOptionWithEnds_v2, gogeom_NewMultiPointFlatOptionWithEnds_1_v2, gogeom_NewMultiPointFlat_v2, gogeom_MultiPoint_SetSRID_v2, gogeom_NewMultiLineStringFlat, gogeom_MultiLineString_SetSRID, gogeom_NewMultiLineStringFlat_v2, gogeom_MultiLineString_SetSRID_v2, gogeom_NewMultiPolygonFlat, gogeom_MultiPolygon_SetSRID]
  · obtain rfl : a5 = [] := f5.resolve_left (by decide)
    rw [decide_eq_false (by decide), br_false]
    rw [decide_eq_false (by decide), br_false]
    rw [decide_eq_false (by decide), br_false]
    rw [decide_eq_true (by decide), br_true]
    by_cases he0 : a4 = []
    · subst he0
      simp only [ints_nil, ext1, ext2, ext3, ext4, ext5, ext6, ext7, he, hp, hf, hs, hn, sbind, Option.map_some, Option.bind_eq_bind, Option.bind_some, gogeom_NewPointFlat, gogeom_Point_SetSRID, gogeom_NewLineStringFlat, gogeom_LineString_SetSRID, gogeom_NewLinearRingFlat, gogeom_LinearRing_SetSRID, gogeom_NewPolygonFlat, gogeom_Polygon_SetSRID, gogeom_NewPolygonFlat_v2, gogeom_Polygon_SetSRID_v2, gogeom_NewMultiPointFlatOptionWithEnds, gogeom_NewMultiPointFlatOptionWithEnds_1, gogeom_NewMultiPointFlat, gogeom_NewMultiPointFlat_j2, gogeom_MultiPoint_SetSRID, gogeom_NewMultiPointFlatOptionWithEnds_v2, gogeom_NewMultiPointFlatOptionWithEnds_1_v2, gogeom_NewMultiPointFlat_v2, gogeom_MultiPoint_SetSRID_v2, gogeom_NewMultiLineStringFlat, gogeom_MultiLineString_SetSRID, gogeom_NewMultiLineStringFlat_v2, gogeom_MultiLineString_SetSRID_v2, gogeom_NewMultiPolygonFlat, gogeom_MultiPolygon_SetSRID]
    · simp only [fun k => ints_cons k a4 h4 he0, ext1, ext2, ext3, ext4, ext5, ext6, ext7, he, hp, hf, hs, hn, sbind, Option.map_some, Option.bind_eq_bind, Option.bind_some, gogeom_NewPointFlat, gogeom_Point_SetSRID, gogeom_NewLineStringFlat, gogeom_LineString_SetSRID, gogeom_NewLinearRingFlat, gogeom_LinearRing_SetSRID, gogeom_NewPolygonFlat, gogeom_Polygon_SetSRID, gogeom_NewPolygonFlat_v2, gogeom_Polygon_SetSRID_v2, gogeom_NewMultiPointFlatOptionWithEnds, gogeom_NewMultiPointFlatOptionWithEnds_1, gogeom_NewMultiPointFlat, gogeom_NewMultiPointFlat_j2, gogeom_MultiPoint_SetSRID, gogeom_NewMultiPointFlatOptionWithEnds_v2, gogeom_NewMultiPointFlatOptionWithEnds_1_v2, gogeom_NewMultiPointFlat_v2, gogeom_MultiPoint_SetSRID_v2, gogeom_NewMultiLineStringFlat, gogeom_MultiLineString_SetSRID, gogeom_NewMultiLineStringFlat_v2, gogeom_MultiLineString_SetSRID_v2, gogeom_NewMultiPolygonFlat, gogeom_MultiPolygon_SetSRID]
  · obtain rfl : a5 = [] := f5.resolve_left (by decide)
    rw [decide_eq_false (by decide), br_false]
    rw [decide_eq_false (by decide), br_false]
    rw [decide_eq_false (by decide), br_false]
    rw [decide_eq_false (by decide), br_false]
    rw [decide_eq_true (by decide), br_true]
    by_cases he0 : a4 = []
    · subst he0
      obtain rfl : a3 = [] := f3 rfl rfl
      simp only [ints_nil, show decide ((0 : Int) < (([] : List Nat).length : Int)) = false from rfl, br_false, ext1, ext2, ext3, ext4, ext5, ext6, ext7, he, hp, hf, hs, hn, sbind, Option.map_some, Option.bind_eq_bind, Option.bind_some, gogeom_NewPointFlat, gogeom_Point_SetSRID, gogeom_NewLineStringFlat, gogeom_LineString_SetSRID, gogeom_NewLinearRingFlat, gogeom_LinearRing_SetSRID, gogeom_NewPolygonFlat, gogeom_Polygon_SetSRID, gogeom_NewPolygonFlat_v2, gogeom_Polygon_SetSRID_v2, gogeom_NewMultiPointFlatOptionWithEnds, gogeom_NewMultiPointFlatOptionWithEnds_1, gogeom_NewMultiPointFlat, gogeom_NewMultiPointFlat_j2, gogeom_MultiPoint_SetSRID, gogeom_NewMultiPointFlatOptionWithEnds_v2, gogeom_NewMultiPointFlatOptionWithEnds_1_v2, gogeom_NewMultiPointFlat_v2, gogeom_MultiPoint_SetSRID_v2, gogeom_NewMultiLineStringFlat, gogeom_MultiLineString_SetSRID, gogeom_NewMultiLineStringFlat_v2, gogeom_MultiLineString_SetSRID_v2, gogeom_NewMultiPolygonFlat, gogeom_MultiPolygon_SetSRID]
    · simp only [fun k => ints_cons k a4 h4 he0, some1_cons he0, ext1, ext2, ext3, ext4, ext5, ext6, ext7, he, hp, hf, hs, hn, sbind, Option.map_some, Option.bind_eq_bind, Option.bind_some, gogeom_NewPointFlat, gogeom_Point_SetSRID, gogeom_NewLineStringFlat, gogeom_LineString_SetSRID, gogeom_NewLinearRingFlat, gogeom_LinearRing_SetSRID, gogeom_NewPolygonFlat, gogeom_Polygon_SetSRID, gogeom_NewPolygonFlat_v2, gogeom_Polygon_SetSRID_v2, gogeom_NewMultiPointFlatOptionWithEnds, gogeom_NewMultiPointFlatOptionWithEnds_1, gogeom_NewMultiPointFlat, gogeom_NewMultiPointFlat_j2, gogeom_MultiPoint_SetSRID, gogeom_NewMultiPointFlatOptionWithEnds_v2, gogeom_NewMultiPointFlatOptionWithEnds_1_v2, gogeom_NewMultiPointFlat_v2, gogeom_MultiPoint_SetSRID_v2, gogeom_NewMultiLineStringFlat, gogeom_MultiLineString_SetSRID, gogeom_NewMultiLineStringFlat_v2, gogeom_MultiLineString_SetSRID_v2, gogeom_NewMultiPolygonFlat, gogeom_MultiPolygon_SetSRID]
  · obtain rfl : a5 = [] := f5.resolve_left (by decide)
    rw [decide_eq_false (by decide), br_false]
    rw [decide_eq_false (by decide), br_false]
    rw [decide_eq_false (by decide), br_false]
    rw [decide_eq_false (by decide), br_false]
    rw [decide_eq_false (by decide), br_false]
    rw [decide_eq_true (by decide), br_true]
    by_cases he0 : a4 = []
    · subst he0
      simp only [ints_nil, ext1, ext2, ext3, ext4, ext5, ext6, ext7, he, hp, hf, hs, hn, sbind, Option.map_some, Option.bind_eq_bind, Option.bind_some, gogeom_NewPointFlat, gogeom_Point_SetSRID, gogeom_NewLineStringFlat, gogeom_LineString_SetSRID, gogeom_NewLinearRingFlat, gogeom_LinearRing_SetSRID, gogeom_NewPolygonFlat, gogeom_Polygon_SetSRID, gogeom_NewPolygonFlat_v2, gogeom_Polygon_SetSRID_v2, gogeom_NewMultiPointFlatOptionWithEnds, gogeom_NewMultiPointFlatOptionWithEnds_1, gogeom_NewMultiPointFlat, gogeom_NewMultiPointFlat_j2, gogeom_MultiPoint_SetSRID, gogeom_NewMultiPointFlatOptionWithEnds_v2, gogeom_NewMultiPointFlatOptionWithEnds_1_v2, gogeom_NewMultiPointFlat_v2, gogeom_MultiPoint_SetSRID_v2, gogeom_NewMultiLineStringFlat, gogeom_MultiLineString_SetSRID, gogeom_NewMultiLineStringFlat_v2, gogeom_MultiLineString_SetSRID_v2, gogeom_NewMultiPolygonFlat, gogeom_MultiPolygon_SetSRID]
    · simp only [fun k => ints_cons k a4 h4 he0, ext1, ext2, ext3, ext4, ext5, ext6, ext7, he, hp, hf, hs, hn, sbind, Option.map_some, Option.bind_eq_bind, Option.bind_some, gogeom_NewPointFlat, gogeom_Point_SetSRID, gogeom_NewLineStringFlat, gogeom_LineString_SetSRID, gogeom_NewLinearRingFlat, gogeom_LinearRing_SetSRID, gogeom_NewPolygonFlat, gogeom_Polygon_SetSRID, gogeom_NewPolygonFlat_v2, gogeom_Polygon_SetSRID_v2, gogeom_NewMultiPointFlatOptionWithEnds, gogeom_NewMultiPointFlatOptionWithEnds_1, gogeom_NewMultiPointFlat, gogeom_NewMultiPointFlat_j2, gogeom_MultiPoint_SetSRID, gogeom_NewMultiPointFlatOptionWithEnds_v2, gogeom_NewMultiPointFlatOptionWithEnds_1_v2, gogeom_NewMultiPointFlat_v2, gogeom_MultiPoint_SetSRID_v2, gogeom_NewMultiLineStringFlat, gogeom_MultiLineString_SetSRID, gogeom_NewMultiLineStringFlat_v2, gogeom_MultiLineString_SetSRID_v2, gogeom_NewMultiPolygonFlat, gogeom_MultiPolygon_SetSRID]
  · obtain rfl : a4 = [] := f4.resolve_left (by decide)
    rw [decide_eq_false (by decide), br_false]
    rw [decide_eq_false (by decide), br_false]
    rw [decide_eq_false (by decide), br_false]
    rw [decide_eq_false (by decide), br_false]
    rw [decide_eq_false (by decide), br_false]
    rw [decide_eq_false (by decide), br_false]
    rw [decide_eq_true (by decide), br_true]
    simp only [hii j hk, hii (j + 1) h51, ext1, ext2, ext3, ext4, ext5, ext6, ext7, he, hp, hf, hs, hn, sbind, Option.map_some, Option.bind_eq_bind, Option.bind_some, gogeom_NewPointFlat, gogeom_Point_SetSRID, gogeom_NewLineStringFlat, gogeom_LineString_SetSRID, gogeom_NewLinearRingFlat, gogeom_LinearRing_SetSRID, gogeom_NewPolygonFlat, gogeom_Polygon_SetSRID, gogeom_NewPolygonFlat_v2, gogeom_Polygon_SetSRID_v2, gogeom_NewMultiPointFlatOptionWithEnds, gogeom_NewMultiPointFlatOptionWithEnds_1, gogeom_NewMultiPointFlat, gogeom_NewMultiPointFlat_j2, gogeom_MultiPoint_SetSRID, gogeom_NewMultiPointFlatOptionWithEnds_v2, gogeom_NewMultiPointFlatOptionWithEnds_1_v2, gogeom_NewMultiPointFlat_v2, gogeom_MultiPoint_SetSRID_v2, gogeom_NewMultiLineStringFlat, gogeom_MultiLineString_SetSRID, gogeom_NewMultiLineStringFlat_v2, gogeom_MultiLineString_SetSRID_v2, gogeom_NewMultiPolygonFlat, gogeom_MultiPolygon_SetSRID]
  · obtain rfl : a5 = [] := f5.resolve_left (by decide)
    obtain rfl : a4 = [] := f4.resolve_left (by decide)
    rw [decide_eq_false (by decide), br_false]
    rw [decide_eq_false (by decide), br_false]
    rw [decide_eq_true (by decide), br_true]
    simp only [ext1, ext2, ext3, ext4, ext5, ext6, ext7, he, hp, hf, hs, hn, sbind, Option.map_some, Option.bind_eq_bind, Option.bind_some, gogeom_NewPointFlat, gogeom_Point_SetSRID, gogeom_NewLineStringFlat, gogeom_LineString_SetSRID, gogeom_NewLinearRingFlat, gogeom_LinearRing_SetSRID, gogeom_NewPolygonFlat, gogeom_Polygon_SetSRID, gogeom_NewPolygonFlat_v2, gogeom_Polygon_SetSRID_v2, gogeom_NewMultiPointFlatOptionWithEnds, gogeom_NewMultiPointFlatOptionWithEnds_1, gogeom_NewMultiPointFlat, gogeom_NewMultiPointFlat_j2, gogeom_MultiPoint_SetSRID, gogeom_NewMultiPointFlatOptionWithEnds_v2, gogeom_NewMultiPointFlatOptionWithEnds_1_v2, gogeom_NewMultiPointFlat_v2, gogeom_MultiPoint_SetSRID_v2, gogeom_NewMultiLineStringFlat, gogeom_MultiLineString_SetSRID, gogeom_NewMultiLineStringFlat_v2, gogeom_MultiLineString_SetSRID_v2, gogeom_NewMultiPolygonFlat, gogeom_MultiPolygon_SetSRID]

theorem boxExtend_is (j : Nat) {L : Int} {mn mx : List Nat} (h : BX L mn mx) (x0 g b : Int) (F : List Nat) (a4 : List Int) (a5 : List (List Int)) (gx : GX x0 g F a4 a5) (hk : a5.length + F.length + 30 < j) :
    ∃ mn' mx', impl_BoxExtend (j + 1) L mn mx x0 g b F a4 a5 [] = some (cov L g, mn', mx', true) ∧ BX (cov L g) mn' mx' ∧ (∀ a, ax (cov L g) mn' (1, 0) a = (crd g F a).foldl lmin (ax L mn (1, 0) a)) ∧ ∀ a, ax (cov L g) mx' (-1, 0) a = (crd g F a).foldl lmax (ax L mx (-1, 0) a) := by
  obtain ⟨mn', mx', e1, b1, x1, x2⟩ := extend_is h gx.lo gx.hi gx.nu gx.h3 gx.md (j + 1) (by omega)
  have small : ∀ {L : Int} {mn mx : List Nat}, BX L mn mx → mn.length ≤ 2147483647 ∧ mx.length ≤ 2147483647 := fun {L mn mx} h => by
    have := h.lo; have := h.hi; have := h.len1; have := h.len2
    have : stri L ≤ 4 := by
      rcases (show L = 0 ∨ L = 1 ∨ L = 2 ∨ L = 3 ∨ L = 4 by omega) with rfl | rfl | rfl | rfl | rfl <;> decide
    omega
  obtain ⟨s1, s2⟩ := small h
  obtain ⟨s3, s4⟩ := small b1
  exact ⟨mn', mx', boxExtend_eq j L mn mx x0 g b F a4 a5 gx (by omega) s1 s2 e1 s3 s4, b1, x1, x2⟩

theorem cov_comm {L g h : Int} (l0 : 0 ≤ L) (l4 : L ≤ 4) (g1 : 1 ≤ g) (g4 : g ≤ 4) (h1 : 1 ≤ h) (h4 : h ≤ 4) : cov (cov L g) h = cov (cov L h) g := by
  rcases (show L = 0 ∨ L = 1 ∨ L = 2 ∨ L = 3 ∨ L = 4 by omega) with rfl | rfl | rfl | rfl | rfl <;> rcases (show g = 1 ∨ g = 2 ∨ g = 3 ∨ g = 4 by omega) with rfl | rfl | rfl | rfl <;> rcases (show h = 1 ∨ h = 2 ∨ h = 3 ∨ h = 4 by omega) with rfl | rfl | rfl | rfl <;> decide
theorem pos_at {L : Int} (l0 : 0 ≤ L) (l4 : L ≤ 4) (p : Nat) (hp : (p : Int) < stri L) : ∃ a, pos L a = some p := by
  rcases (show L = 0 ∨ L = 1 ∨ L = 2 ∨ L = 3 ∨ L = 4 by omega) with rfl | rfl | rfl | rfl | rfl
  · have : stri 0 = 0 := rfl; omega
  · have : stri 1 = 2 := rfl; exact ⟨p, by unfold pos; simp; omega⟩
  · have : stri 2 = 3 := rfl; exact ⟨p, by unfold pos; simp; omega⟩
  · have : stri 3 = 3 := rfl
    rcases (show p = 0 ∨ p = 1 ∨ p = 2 by omega) with rfl | rfl | rfl
    · exact ⟨0, rfl⟩
    · exact ⟨1, rfl⟩
    · exact ⟨3, rfl⟩
  · have : stri 4 = 4 := rfl; exact ⟨p, by unfold pos; simp; omega⟩

theorem sameBox_is {L : Int} {a b c d : List Nat} (h1 : BX L a b) (h2 : BX L c d) (e1 : ∀ x, ax L a (1, 0) x = ax L c (1, 0) x) (e2 : ∀ x, ax L b (-1, 0) x = ax L d (-1, 0) x) (k : Nat) (hk : 10 < k) : spec_SameBox k L a b L c d = some true := by
  have l1 := h1.len1; have l2 := h1.len2; have l3 := h2.len1; have l4 := h2.len2
  have s4 : stri L ≤ 4 := by
    have := h1.lo; have := h1.hi
    rcases (show L = 0 ∨ L = 1 ∨ L = 2 ∨ L = 3 ∨ L = 4 by omega) with rfl | rfl | rfl | rfl | rfl <;> decide
  have same : ∀ p : Nat, (p : Int) < stri L → vv (a.getD p 0) = vv (c.getD p 0) ∧ vv (b.getD p 0) = vv (d.getD p 0) := fun p hp => by
    obtain ⟨x, hx⟩ := pos_at h1.lo h1.hi p hp
    have q1 := e1 x
    have q2 := e2 x
    unfold ax at q1 q2
    rw [hx] at q1 q2
    exact ⟨q1, q2⟩
  unfold spec_SameBox spec_SameBox_j1 spec_SameBox_j2 spec_SameBox_j3
  rw [decide_eq_true rfl, Bool.not_true, br_false, decide_eq_true (show (a.length : Int) = c.length by omega), Bool.not_true, br_false, decide_eq_true (show (b.length : Int) = d.length by omega), Bool.not_true, br_false, decide_eq_true (show (a.length : Int) = b.length by omega), Bool.not_true, br_false]
  obtain ⟨y, w1, w2⟩ := loop_inv (F := spec_SameBox_l1 a c b d) 0 (fun m v => ∃ i : Nat, v = (i : Int) ∧ i + m = a.length) (fun y => y = .inr ()) (fun k m v _ hI => by
    obtain ⟨i, v1, v2⟩ := hI
    subst v1
    by_cases hi : i < a.length
    · have hc : i < c.length := by omega
      have hb : i < b.length := by omega
      have hd : i < d.length := by omega
      obtain ⟨q1, q2⟩ := same i (by omega)
      have na := h1.num1 i hi; have nb := h1.num2 i hb; have nc := h2.num1 i hc; have nd := h2.num2 i hd
      rw [getD_at' hi, getD_at' hc] at q1
      rw [getD_at' hb, getD_at' hd] at q2
      rw [getD_at' hi] at na; rw [getD_at' hb] at nb; rw [getD_at' hc] at nc; rw [getD_at' hd] at nd
      have f1 : fne a[i] c[i] = false := by rw [fne_feq, feq_vv na nc, decide_eq_true q1]; rfl
      have f2 : fne b[i] d[i] = false := by rw [fne_feq, feq_vv nb nd, decide_eq_true q2]; rfl
      exact .inr ⟨m - 1, ((i + 1 : Nat) : Int), by omega, ⟨i + 1, rfl, by omega⟩, by simp only [spec_SameBox_l1, spec_SameBox_l1s, lt_true hi, br_true, br_false, idx_get hi, idx_get hc, idx_get hb, idx_get hd, Option.bind_eq_bind, Option.bind_some, f1, f2, spec_SameBox_j5, iadd_one (show i < 9223372036854775807 by omega)]⟩
    · exact .inl ⟨.inr (), by simp only [spec_SameBox_l1, spec_SameBox_l1s, lt_false hi, br_false], rfl⟩) a.length 0 k ⟨0, rfl, by omega⟩ (by omega)
  rw [w1, w2]; rfl

/-! #### what is asked of the geometries -/
theorem good_mod {x0 x1 x2 : Int} {x3 : List Nat} {x4 : List Int} {x5 : List (List Int)} {x6 : List T27} {j : Nat} (h : spec_Good (j + 1) x0 x1 x2 x3 x4 x5 x6 = some true) (h7 : x0 ≠ 7) (hs : stri x1 ≠ 0) : (x3.length : Int).tmod (stri x1) = 0 := by
  have hb : spec_Good_b (spec_Good j) j x0 x1 x2 x3 x4 x5 x6 = some true := h
  unfold spec_Good_b at hb
  have : irem (x3.length : Int) (stri x1) = some ((x3.length : Int).tmod (stri x1)) := by unfold irem; rw [if_neg hs]
  rw [stride_is, sbind, decide_eq_false h7, br_false, decide_eq_false hs, br_false, this, sbind] at hb
  by_cases hm : (x3.length : Int).tmod (stri x1) = 0
  · exact hm
  · rw [decide_eq_false hm, Bool.not_false] at hb
    cases (show some false = some true from hb)
theorem each_is (F : List Nat) (hl : F.length ≤ 2147483647) (j : Nat) (hk : F.length + 3 < j) (x0 x1 x2 : Int) (x4 : List Int) (x5 : List (List Int)) : ∃ b, laws_gEach j x0 x1 x2 F x4 x5 [] = some b ∧ (b = true → Nu F) := by
  obtain ⟨j, rfl⟩ : ∃ i, j = i + 1 := ⟨j - 1, by omega⟩
  show ∃ b, laws_gEach_b (laws_gEach j) j x0 x1 x2 F x4 x5 [] = some b ∧ _
  unfold laws_gEach_b
  obtain ⟨y, w1, w2⟩ := loop_inv (F := laws_gEach_l1 F) 0 (fun m v => ∃ i : Nat, v = (i : Int) ∧ i + m = F.length ∧ ∀ p, p < i → isn (F.getD p 0) = false) (fun y => y = .inr () → Nu F) (fun k m v _ hI => by
    obtain ⟨i, v1, v2, v3⟩ := hI
    subst v1
    by_cases hi : i < F.length
    · cases hn : feq F[i] F[i] with
      | false => exact .inl ⟨.inl (), by simp only [laws_gEach_l1, laws_gEach_l1s, lt_true hi, br_true, idx_get hi, Option.bind_eq_bind, Option.bind_some, laws_gNumber, hn, Bool.not_false], fun h => by cases h⟩
      | true =>
        refine .inr ⟨m - 1, ((i + 1 : Nat) : Int), by omega, ⟨i + 1, rfl, by omega, fun p hp => ?_⟩, by simp only [laws_gEach_l1, laws_gEach_l1s, lt_true hi, br_true, br_false, idx_get hi, Option.bind_eq_bind, Option.bind_some, laws_gNumber, hn, Bool.not_true, iadd_one (show i < 9223372036854775807 by omega)]⟩
        by_cases hp2 : p = i
        · subst hp2
          rw [getD_at' hi]
          cases hq : isn F[p] with
          | false => rfl
          | true =>
            exfalso
            have := order_nan (x := F[p]) (y := F[p]) (.inl hq)
            unfold feq at hn
            rw [this] at hn
            cases hn
        · exact v3 p (by omega)
    · exact .inl ⟨.inr (), by simp only [laws_gEach_l1, laws_gEach_l1s, lt_false hi, br_false], fun _ p hp => v3 p (by omega)⟩) F.length 0 j ⟨0, rfl, by omega, fun p hp => absurd hp (by omega)⟩ (by omega)
  rw [w1, sbind]
  cases y with
  | inl u => exact ⟨false, rfl, fun h => by cases h⟩
  | inr u =>
    obtain ⟨j, rfl⟩ : ∃ i, j = i + 1 := ⟨j - 1, by omega⟩
    exact ⟨true, rfl, fun _ => w2 rfl⟩
theorem layouts_is (j : Nat) (x0 x1 x2 : Int) (x3 : List Nat) (x4 : List Int) (x5 : List (List Int)) (h7 : x0 ≠ 7) : ∃ b, laws_gLayouts (j + 2) x0 x1 x2 x3 x4 x5 [] 4 = some b ∧ (b = true → 1 ≤ x1 ∧ x1 ≤ 4) := by
  show ∃ b, laws_gLayouts_b (laws_gLayouts (j + 1)) (j + 1) x0 x1 x2 x3 x4 x5 [] 4 = some b ∧ _
  unfold laws_gLayouts_b
  have e : laws_gLayouts_l1 [] (laws_gLayouts (j + 1)) 4 (j + 1) 0 = some (.inr ()) := rfl
  rw [e, sbind]
  by_cases h1 : x1 ≤ 4
  · rw [decide_eq_true h1]
    by_cases h2 : 1 ≤ x1
    · rw [decide_eq_true h2]; exact ⟨true, rfl, fun _ => ⟨h2, h1⟩⟩
    · rw [decide_eq_false h2, decide_eq_false h7]; exact ⟨false, rfl, fun h => by cases h⟩
  · rw [decide_eq_false h1]; exact ⟨false, rfl, fun h => by cases h⟩
end Go.Proofs.Ytmagcmeknclljaa
