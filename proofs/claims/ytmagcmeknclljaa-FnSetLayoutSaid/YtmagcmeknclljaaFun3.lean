/-
  Plain functions for the Go functions that this law reaches, and that each call does what its plain function says. Printed by a program of ours.
-/
import Derived.Test.YtmagcmeknclljaaProg
import Derived.Test.YtmagcmeknclljaaSxX
import Derived.Test.YtmagcmeknclljaaFun2
namespace Go.Proofs.Ytmagcmeknclljaa
open Go.Sx
set_option linter.unusedVariables false
set_option maxRecDepth 100000

def impl_geometry_l1s (a0_6 : List T27) (recf : Int → Int → Int → (List Nat) → (List Int) → (List (List Int)) → (List T27) → Option ((Int × Int × (List Nat) × Int) ⊕ ((Int × Int × (List Nat) × Int) ⊕ ((Int × Int × (List Nat) × Int) ⊕ ((Int × Int × (List Nat) × Int × (List Int)) ⊕ ((Int × Int × (List Nat) × Int × (List Int)) ⊕ ((Int × Int × (List Nat) × Int × (List Int)) ⊕ ((Int × Int × (List Nat) × Int × (List (List Int))) ⊕ (Int × (List G53) × Int))))))))) (k : Nat) (rec1 : (Int × (List G53) × Int × Int) → Option (Int × (List G53) × Int)) (x35 : Int) (x36 : List G53) (x37 : Int) (x38 : Int) : Option (Int × (List G53) × Int) :=
 br (decide (x38 < (a0_6.length : Int)))
  ((idx a0_6 x38) >>= fun r103 =>
  (recf r103.f0 r103.f1 r103.f2 r103.f3 r103.f4 r103.f5 r103.f6) >>= fun r107 =>
  match r107 with
   | (.inl y24) =>
    ((gogeom_GeometryCollection_MustPush_v2 k x35 x36 x37 ([(G53.c0 y24.1 y24.2.1 y24.2.2.1 y24.2.2.2)])) >>= fun r109 =>
    rec1 (r109.1, r109.2.1, r109.2.2, (iadd .i64 x38 1)))
   | (.inr (.inl y24)) =>
    ((gogeom_GeometryCollection_MustPush_v2 k x35 x36 x37 ([(G53.c1 y24.1 y24.2.1 y24.2.2.1 y24.2.2.2)])) >>= fun r109 =>
    rec1 (r109.1, r109.2.1, r109.2.2, (iadd .i64 x38 1)))
   | (.inr (.inr (.inl y24))) =>
    ((gogeom_GeometryCollection_MustPush_v2 k x35 x36 x37 ([(G53.c2 y24.1 y24.2.1 y24.2.2.1 y24.2.2.2)])) >>= fun r109 =>
    rec1 (r109.1, r109.2.1, r109.2.2, (iadd .i64 x38 1)))
   | (.inr (.inr (.inr (.inl y24)))) =>
    ((gogeom_GeometryCollection_MustPush_v2 k x35 x36 x37 ([(G53.c3 y24.1 y24.2.1 y24.2.2.1 y24.2.2.2.1 y24.2.2.2.2)])) >>= fun r109 =>
    rec1 (r109.1, r109.2.1, r109.2.2, (iadd .i64 x38 1)))
   | (.inr (.inr (.inr (.inr (.inl y24))))) =>
    ((gogeom_GeometryCollection_MustPush_v2 k x35 x36 x37 ([(G53.c4 y24.1 y24.2.1 y24.2.2.1 y24.2.2.2.1 y24.2.2.2.2)])) >>= fun r109 =>
    rec1 (r109.1, r109.2.1, r109.2.2, (iadd .i64 x38 1)))
   | (.inr (.inr (.inr (.inr (.inr (.inl y24)))))) =>
    ((gogeom_GeometryCollection_MustPush_v2 k x35 x36 x37 ([(G53.c5 y24.1 y24.2.1 y24.2.2.1 y24.2.2.2.1 y24.2.2.2.2)])) >>= fun r109 =>
    rec1 (r109.1, r109.2.1, r109.2.2, (iadd .i64 x38 1)))
   | (.inr (.inr (.inr (.inr (.inr (.inr (.inl y24))))))) =>
    ((gogeom_GeometryCollection_MustPush_v2 k x35 x36 x37 ([(G53.c6 y24.1 y24.2.1 y24.2.2.1 y24.2.2.2.1 y24.2.2.2.2)])) >>= fun r109 =>
    rec1 (r109.1, r109.2.1, r109.2.2, (iadd .i64 x38 1)))
   | (.inr (.inr (.inr (.inr (.inr (.inr (.inr y24))))))) =>
    ((gogeom_GeometryCollection_MustPush_v2 k x35 x36 x37 ([(G53.c7 y24.1 y24.2.1 y24.2.2)])) >>= fun r109 =>
    rec1 (r109.1, r109.2.1, r109.2.2, (iadd .i64 x38 1))))
  (some (x35, x36, x37))
def impl_geometry_l1 (a0_6 : List T27) (recf : Int → Int → Int → (List Nat) → (List Int) → (List (List Int)) → (List T27) → Option ((Int × Int × (List Nat) × Int) ⊕ ((Int × Int × (List Nat) × Int) ⊕ ((Int × Int × (List Nat) × Int) ⊕ ((Int × Int × (List Nat) × Int × (List Int)) ⊕ ((Int × Int × (List Nat) × Int × (List Int)) ⊕ ((Int × Int × (List Nat) × Int × (List Int)) ⊕ ((Int × Int × (List Nat) × Int × (List (List Int))) ⊕ (Int × (List G53) × Int))))))))) : Nat → (Int × (List G53) × Int × Int) → Option (Int × (List G53) × Int)
 | 0, _ => none
 | k + 1, v => impl_geometry_l1s a0_6 recf k (impl_geometry_l1 a0_6 recf k) v.1 v.2.1 v.2.2.1 v.2.2.2
def impl_geometry_b (recf : Int → Int → Int → (List Nat) → (List Int) → (List (List Int)) → (List T27) → Option ((Int × Int × (List Nat) × Int) ⊕ ((Int × Int × (List Nat) × Int) ⊕ ((Int × Int × (List Nat) × Int) ⊕ ((Int × Int × (List Nat) × Int × (List Int)) ⊕ ((Int × Int × (List Nat) × Int × (List Int)) ⊕ ((Int × Int × (List Nat) × Int × (List Int)) ⊕ ((Int × Int × (List Nat) × Int × (List (List Int))) ⊕ (Int × (List G53) × Int))))))))) (k : Nat) (a0_0 : Int) (a0_1 : Int) (a0_2 : Int) (a0_3 : List Nat) (a0_4 : List Int) (a0_5 : List (List Int)) (a0_6 : List T27) : Option ((Int × Int × (List Nat) × Int) ⊕ ((Int × Int × (List Nat) × Int) ⊕ ((Int × Int × (List Nat) × Int) ⊕ ((Int × Int × (List Nat) × Int × (List Int)) ⊕ ((Int × Int × (List Nat) × Int × (List Int)) ⊕ ((Int × Int × (List Nat) × Int × (List Int)) ⊕ ((Int × Int × (List Nat) × Int × (List (List Int))) ⊕ (Int × (List G53) × Int)))))))) :=
 (impl_floats k a0_3) >>= fun r12 =>
 br (decide (a0_0 = 1))
  ((gogeom_NewPointFlat k a0_1 r12) >>= fun r19 =>
  (gogeom_Point_SetSRID k r19.1 r19.2.1 r19.2.2.1 r19.2.2.2 a0_2) >>= fun r22 =>
  some (.inl (r22.1, r22.2.1, r22.2.2.1, r22.2.2.2)))
  (br (decide (a0_0 = 2))
   ((gogeom_NewLineStringFlat k a0_1 r12) >>= fun r28 =>
   (gogeom_LineString_SetSRID k r28.1 r28.2.1 r28.2.2.1 r28.2.2.2 a0_2) >>= fun r31 =>
   some (.inr (.inl (r31.1, r31.2.1, r31.2.2.1, r31.2.2.2))))
   (br (decide (a0_0 = 8))
    ((gogeom_NewLinearRingFlat k a0_1 r12) >>= fun r37 =>
    (gogeom_LinearRing_SetSRID k r37.1 r37.2.1 r37.2.2.1 r37.2.2.2 a0_2) >>= fun r40 =>
    some (.inr (.inr (.inl (r40.1, r40.2.1, r40.2.2.1, r40.2.2.2)))))
    (br (decide (a0_0 = 3))
     ((impl_ints k a0_4) >>= fun r48 =>
     match r48 with
      | (.inl y4) =>
       ((gogeom_NewPolygonFlat k a0_1 r12) >>= fun r49 =>
       (gogeom_Polygon_SetSRID k r49.1 r49.2.1 r49.2.2.1 r49.2.2.2 a0_2) >>= fun r52 =>
       some (.inr (.inr (.inr (.inl (r52.1, r52.2.1, r52.2.2.1, r52.2.2.2, []))))))
      | (.inr y4) =>
       ((gogeom_NewPolygonFlat_v2 k a0_1 r12 y4) >>= fun r49 =>
       (gogeom_Polygon_SetSRID_v2 k r49.1 r49.2.1 r49.2.2.1 r49.2.2.2.1 r49.2.2.2.2 a0_2) >>= fun r52 =>
       some (.inr (.inr (.inr (.inl (r52.1, r52.2.1, r52.2.2.1, r52.2.2.2.1, r52.2.2.2.2)))))))
     (br (decide (a0_0 = 4))
      ((impl_ints k a0_4) >>= fun r60 =>
      match r60 with
       | (.inl y6) =>
        ((gogeom_NewMultiPointFlatOptionWithEnds k) >>= fun r61 =>
        (gogeom_NewMultiPointFlat k a0_1 r12) >>= fun r63 =>
        (gogeom_MultiPoint_SetSRID k r63.1 r63.2.1 r63.2.2.1 r63.2.2.2.1 r63.2.2.2.2 a0_2) >>= fun r66 =>
        some (.inr (.inr (.inr (.inr (.inl (r66.1, r66.2.1, r66.2.2.1, r66.2.2.2.1, r66.2.2.2.2)))))))
       | (.inr y6) =>
        ((gogeom_NewMultiPointFlatOptionWithEnds_v2 k y6) >>= fun r61 =>
        (gogeom_NewMultiPointFlat_v2 k a0_1 r12 r61) >>= fun r63 =>
        (gogeom_MultiPoint_SetSRID_v2 k r63.2.1 r63.2.2.1 r63.2.2.2.1 r63.2.2.2.2 r63.1 a0_2) >>= fun r66 =>
        some (.inr (.inr (.inr (.inr (.inl (r66.1, r66.2.1, r66.2.2.1, r66.2.2.2.1, r66.2.2.2.2))))))))
      (br (decide (a0_0 = 5))
       ((impl_ints k a0_4) >>= fun r74 =>
       match r74 with
        | (.inl y10) =>
         ((gogeom_NewMultiLineStringFlat k a0_1 r12) >>= fun r75 =>
         (gogeom_MultiLineString_SetSRID k r75.1 r75.2.1 r75.2.2.1 r75.2.2.2 a0_2) >>= fun r78 =>
         some (.inr (.inr (.inr (.inr (.inr (.inl (r78.1, r78.2.1, r78.2.2.1, r78.2.2.2, []))))))))
        | (.inr y10) =>
         ((gogeom_NewMultiLineStringFlat_v2 k a0_1 r12 y10) >>= fun r75 =>
         (gogeom_MultiLineString_SetSRID_v2 k r75.1 r75.2.1 r75.2.2.1 r75.2.2.2.1 r75.2.2.2.2 a0_2) >>= fun r78 =>
         some (.inr (.inr (.inr (.inr (.inr (.inl (r78.1, r78.2.1, r78.2.2.1, r78.2.2.2.1, r78.2.2.2.2)))))))))
       (br (decide (a0_0 = 6))
        ((impl_intss k a0_5) >>= fun r86 =>
        (gogeom_NewMultiPolygonFlat k a0_1 r12 r86) >>= fun r87 =>
        (gogeom_MultiPolygon_SetSRID k r87.1 r87.2.1 r87.2.2.1 r87.2.2.2.1 r87.2.2.2.2 a0_2) >>= fun r90 =>
        some (.inr (.inr (.inr (.inr (.inr (.inr (.inl (r90.1, r90.2.1, r90.2.2.1, r90.2.2.2.1, r90.2.2.2.2)))))))))
        (br (decide (a0_0 = 7))
         ((gogeom_NewGeometryCollection k) >>= fun r94 =>
         (gogeom_GeometryCollection_SetSRID k r94 r94 a0_2) >>= fun r97 =>
         (impl_geometry_l1 a0_6 recf k (r97.1, [], r97.2, 0)) >>= fun v10 =>
         (gogeom_GeometryCollection_MustSetLayout_v2 k v10.1 v10.2.1 v10.2.2 a0_1) >>= fun r113 =>
         some (.inr (.inr (.inr (.inr (.inr (.inr (.inr (r113.1, r113.2.1, r113.2.2)))))))))
         (none))))))))
def impl_geometry : Nat → Int → Int → Int → (List Nat) → (List Int) → (List (List Int)) → (List T27) → Option ((Int × Int × (List Nat) × Int) ⊕ ((Int × Int × (List Nat) × Int) ⊕ ((Int × Int × (List Nat) × Int) ⊕ ((Int × Int × (List Nat) × Int × (List Int)) ⊕ ((Int × Int × (List Nat) × Int × (List Int)) ⊕ ((Int × Int × (List Nat) × Int × (List Int)) ⊕ ((Int × Int × (List Nat) × Int × (List (List Int))) ⊕ (Int × (List G53) × Int))))))))
 | 0 => fun _ _ _ _ _ _ _ => none
 | k + 1 => fun a0_0 a0_1 a0_2 a0_3 a0_4 a0_5 a0_6 => impl_geometry_b (impl_geometry k) k a0_0 a0_1 a0_2 a0_3 a0_4 a0_5 a0_6
def impl_geometry_r  (a0_0 : Int) (a0_1 : Int) (a0_2 : Int) (a0_3 : List Nat) (a0_4 : List Int) (a0_5 : List (List Int)) (a0_6 : List T27) (out : (Int × Int × (List Nat) × Int) ⊕ ((Int × Int × (List Nat) × Int) ⊕ ((Int × Int × (List Nat) × Int) ⊕ ((Int × Int × (List Nat) × Int × (List Int)) ⊕ ((Int × Int × (List Nat) × Int × (List Int)) ⊕ ((Int × Int × (List Nat) × Int × (List Int)) ⊕ ((Int × Int × (List Nat) × Int × (List (List Int))) ⊕ (Int × (List G53) × Int)))))))) (w : Addr × Gs) : SV := match out with
 | (.inl y) => (If 72 (Vp w.1))
 | (.inr (.inl y)) => (If 75 (Vp w.1))
 | (.inr (.inr (.inl y))) => (If 69 (Vp w.1))
 | (.inr (.inr (.inr (.inl y)))) => (If 67 (Vp w.1))
 | (.inr (.inr (.inr (.inr (.inl y))))) => (If 70 (Vp w.1))
 | (.inr (.inr (.inr (.inr (.inr (.inl y)))))) => (If 73 (Vp w.1))
 | (.inr (.inr (.inr (.inr (.inr (.inr (.inl y))))))) => (If 76 (Vp w.1))
 | (.inr (.inr (.inr (.inr (.inr (.inr (.inr y))))))) => (If 57 (Vp w.1))
def impl_geometry_h  (a0_0 : Int) (a0_1 : Int) (a0_2 : Int) (a0_3 : List Nat) (a0_4 : List Int) (a0_5 : List (List Int)) (a0_6 : List T27) (out : (Int × Int × (List Nat) × Int) ⊕ ((Int × Int × (List Nat) × Int) ⊕ ((Int × Int × (List Nat) × Int) ⊕ ((Int × Int × (List Nat) × Int × (List Int)) ⊕ ((Int × Int × (List Nat) × Int × (List Int)) ⊕ ((Int × Int × (List Nat) × Int × (List Int)) ⊕ ((Int × Int × (List Nat) × Int × (List (List Int))) ⊕ (Int × (List G53) × Int)))))))) (w : Addr × Gs) : List Res := match out with
 | (.inl y) => [⟨.pointer (some w.1), [(Vi y.1), (Vi y.2.1), (Sl Kf y.2.2.1), (Vi y.2.2.2)], 135, none⟩]
 | (.inr (.inl y)) => [⟨.pointer (some w.1), [(Vi y.1), (Vi y.2.1), (Sl Kf y.2.2.1), (Vi y.2.2.2)], 138, none⟩]
 | (.inr (.inr (.inl y))) => [⟨.pointer (some w.1), [(Vi y.1), (Vi y.2.1), (Sl Kf y.2.2.1), (Vi y.2.2.2)], 128, none⟩]
 | (.inr (.inr (.inr (.inl y)))) => [⟨.pointer (some w.1), [(Vi y.1), (Vi y.2.1), (Sl Kf y.2.2.1), (Vi y.2.2.2.1), (Sl (Ki .i64) y.2.2.2.2)], 132, none⟩]
 | (.inr (.inr (.inr (.inr (.inl y))))) => [⟨.pointer (some w.1), [(Vi y.1), (Vi y.2.1), (Sl Kf y.2.2.1), (Vi y.2.2.2.1), (Sl (Ki .i64) y.2.2.2.2)], 136, none⟩]
 | (.inr (.inr (.inr (.inr (.inr (.inl y)))))) => [⟨.pointer (some w.1), [(Vi y.1), (Vi y.2.1), (Sl Kf y.2.2.1), (Vi y.2.2.2.1), (Sl (Ki .i64) y.2.2.2.2)], 139, none⟩]
 | (.inr (.inr (.inr (.inr (.inr (.inr (.inl y))))))) => [⟨.pointer (some w.1), [(Vi y.1), (Vi y.2.1), (Sl Kf y.2.2.1), (Vi y.2.2.2.1), (Sl (Kl (Ki .i64)) y.2.2.2.2)], 143, none⟩]
 | (.inr (.inr (.inr (.inr (.inr (.inr (.inr y))))))) => [⟨.pointer (some w.1), [(Vi y.1), (Vl (Vs w.2)), (Vi y.2.2)], 114, none⟩, (Rw KG53 53 (Vs w.2) y.2.1)]

theorem impl_geometry_b_sim {recf : Int → Int → Int → (List Nat) → (List Int) → (List (List Int)) → (List T27) → Option ((Int × Int × (List Nat) × Int) ⊕ ((Int × Int × (List Nat) × Int) ⊕ ((Int × Int × (List Nat) × Int) ⊕ ((Int × Int × (List Nat) × Int × (List Int)) ⊕ ((Int × Int × (List Nat) × Int × (List Int)) ⊕ ((Int × Int × (List Nat) × Int × (List Int)) ⊕ ((Int × Int × (List Nat) × Int × (List (List Int))) ⊕ (Int × (List G53) × Int))))))))} (hrec : ∀  (a0_0 : Int) (a0_1 : Int) (a0_2 : Int) (a0_3 : List Nat) (a0_4 : List Int) (a0_5 : List (List Int)) (a0_6 : List T27) (out : (Int × Int × (List Nat) × Int) ⊕ ((Int × Int × (List Nat) × Int) ⊕ ((Int × Int × (List Nat) × Int) ⊕ ((Int × Int × (List Nat) × Int × (List Int)) ⊕ ((Int × Int × (List Nat) × Int × (List Int)) ⊕ ((Int × Int × (List Nat) × Int × (List Int)) ⊕ ((Int × Int × (List Nat) × Int × (List (List Int))) ⊕ (Int × (List G53) × Int)))))))), recf a0_0 a0_1 a0_2 a0_3 a0_4 a0_5 a0_6 = some out → Sx.Fn Try.prog 30 [(Ag [(Vi a0_0), (Vi a0_1), (Vi a0_2), (Sl Kf a0_3), (Sl (Ki .i64) a0_4), (Sl (Kl (Ki .i64)) a0_5), (Sl KT27 a0_6)])] [] (fun w => impl_geometry_r a0_0 a0_1 a0_2 a0_3 a0_4 a0_5 a0_6 out w) (fun w => impl_geometry_h a0_0 a0_1 a0_2 a0_3 a0_4 a0_5 a0_6 out w)) {k : Nat}  (a0_0 : Int) (a0_1 : Int) (a0_2 : Int) (a0_3 : List Nat) (a0_4 : List Int) (a0_5 : List (List Int)) (a0_6 : List T27) {out : (Int × Int × (List Nat) × Int) ⊕ ((Int × Int × (List Nat) × Int) ⊕ ((Int × Int × (List Nat) × Int) ⊕ ((Int × Int × (List Nat) × Int × (List Int)) ⊕ ((Int × Int × (List Nat) × Int × (List Int)) ⊕ ((Int × Int × (List Nat) × Int × (List Int)) ⊕ ((Int × Int × (List Nat) × Int × (List (List Int))) ⊕ (Int × (List G53) × Int)))))))} (hp : impl_geometry_b recf k a0_0 a0_1 a0_2 a0_3 a0_4 a0_5 a0_6 = some out) : Sx.Fn Try.prog 30 [(Ag [(Vi a0_0), (Vi a0_1), (Vi a0_2), (Sl Kf a0_3), (Sl (Ki .i64) a0_4), (Sl (Kl (Ki .i64)) a0_5), (Sl KT27 a0_6)])] [] (fun w => impl_geometry_r a0_0 a0_1 a0_2 a0_3 a0_4 a0_5 a0_6 out w) (fun w => impl_geometry_h a0_0 a0_1 a0_2 a0_3 a0_4 a0_5 a0_6 out w) := by
 unfold impl_geometry_b at hp
 refine fn_of Try.func30 rfl Try.ntmps30 rfl fun E hM => ?_
 refine cr fun K1 hK1 => ?_
 refine sx_ox' (ox_box' rfl (lv_ag _) rfl rfl) (wt_none' rfl) fun q1 => ?_
 refine s0 (rd_assign' rfl) ?_
 refine nk hK1 ?_
 refine cx_seq' fun K2 hK2 => ?_
 refine cx_plan' [] [] [(0, 1), (1, 1), (2, 1), (3, 1), (4, 0), (5, 1), (6, 1)] mixed (by kernel_rfl) ?_
 refine px_rd' rfl (rd_field' (off := 1) rfl Try.underlying27 rfl info3 rfl) rfl rfl (wt_none' rfl) ?_
 refine px_rd' rfl (rd_load' (i := 0) (o := 1) rfl ⟨rfl, rfl, rfl, rfl⟩ rfl flat3) rfl rfl (wt_none' rfl) ?_
 refine px_rd' rfl (rd_field' (off := 3) rfl Try.underlying27 rfl info22 rfl) rfl rfl (wt_none' rfl) ?_
 refine px_rd' rfl (rd_load' (i := 0) (o := 3) rfl ⟨rfl, rfl, rfl, rfl⟩ rfl flat22) rfl rfl (wt_none' rfl) ?_
 obtain ⟨r12, hr12, hp⟩ := bind_some hp
 refine px_ox' rfl (ox_calln' (ent_fn' Try.func59 isn59 rfl rfl) (impl_floats_sim _ hr12 : Sx.Fn Try.prog 59 [(Sl Kf a0_3)] [] (fun x : Unit => (Sl Kf r12)) (fun x => [])) (Hn := fun x : Unit => [⟨.pointer (some q1), [(Vi a0_0), (Vi a0_1), (Vi a0_2), (Sl Kf a0_3), (Sl (Ki .i64) a0_4), (Sl (Kl (Ki .i64)) a0_5), (Sl KT27 a0_6)], 27, none⟩]) (fun _ => rfl) rfl rfl) rfl bs_nil (wt_none' rfl) fun ⟨⟩ => ?_
 refine px_rd' rfl (rd_assign' rfl) rfl rfl (wt_none' rfl) ?_
 refine px_rd' rfl (rd_assign' rfl) rfl rfl (wt_none' rfl) ?_
 refine px_nil' ?_
 show TX E K2 _
 refine tx_k' hK2 ?_
 refine cx_seq' fun K3 hK3 => ?_
 refine cr fun K4 hK4 => ?_
 refine s0 (rd_field0' rfl Try.underlying27 rfl info3 rfl) ?_
 refine s0 (rd_load' (i := 0) (o := 0) rfl ⟨rfl, rfl, rfl, rfl⟩ rfl flat3) ?_
 refine nk hK4 ?_
 refine cx_block' ?_
 refine cr fun K5 hK5 => ?_
 refine s0 (rd_bin' rfl rfl eg_int ru_eql) ?_
 refine s0 (rd_assign' rfl) ?_
 refine nk hK5 ?_
 refine cx_cond' rfl (fun h1 => ?_) (fun h1 => ?_)
 ·replace hp := (br_t h1).symm.trans hp
  refine cx_seq' fun K6 hK6 => ?_
  refine cx_plan' [] [(5, 1)] [(0, 1), (1, 1), (3, 1), (4, 1), (2, 0), (5, 0), (6, 1), (7, 1)] mixed (by kernel_rfl) ?_
  refine px_rd' rfl (rd_move' rfl) rfl rfl (wt_none' rfl) ?_
  refine px_rd' rfl (rd_move' rfl) rfl rfl (wt_none' rfl) ?_
  refine px_rd' rfl (rd_field' (off := 2) rfl Try.underlying27 rfl info3 rfl) rfl rfl (wt_none' rfl) ?_
  refine px_rd' rfl (rd_load' (i := 0) (o := 2) rfl ⟨rfl, rfl, rfl, rfl⟩ rfl flat3) rfl rfl (wt_none' rfl) ?_
  obtain ⟨r19, hr19, hp⟩ := bind_some hp
  refine px_ox' rfl (ox_calln' (ent_fn' Try.func60 isn60 rfl rfl) (gogeom_NewPointFlat_sim _ _ hr19 : Sx.Fn Try.prog 60 [(Vi a0_1), (Sl Kf r12)] [] (fun x : Addr => (Vp x)) (fun x => [⟨.pointer (some x), [(Vi r19.1), (Vi r19.2.1), (Sl Kf r19.2.2.1), (Vi r19.2.2.2)], 135, none⟩])) (Hn := fun x : Addr => [⟨.pointer (some x), [(Vi r19.1), (Vi r19.2.1), (Sl Kf r19.2.2.1), (Vi r19.2.2.2)], 135, none⟩, ⟨.pointer (some q1), [(Vi a0_0), (Vi a0_1), (Vi a0_2), (Sl Kf a0_3), (Sl (Ki .i64) a0_4), (Sl (Kl (Ki .i64)) a0_5), (Sl KT27 a0_6)], 27, none⟩]) (fun _ => rfl) rfl rfl) rfl bs_nil (wt_none' rfl) fun q19 => ?_
  obtain ⟨r22, hr22, hp⟩ := bind_some hp
  refine px_oxb' (is := [0]) rfl (oxb_callg (ent_fn' Try.func61 isn61 rfl rfl) (gogeom_Point_SetSRID_sim _ _ _ _ _ hr22 : Sx.Fn Try.prog 61 [(Vp q19), (Vi a0_2)] [⟨.pointer (some q19), [(Vi r19.1), (Vi r19.2.1), (Sl Kf r19.2.2.1), (Vi r19.2.2.2)], 135, none⟩] (fun x : Unit => (Vp q19)) (fun x => [⟨.pointer (some q19), [(Vi r22.1), (Vi r22.2.1), (Sl Kf r22.2.2.1), (Vi r22.2.2.2)], 135, none⟩])) [0] [1] (by decide) (pick_cons rfl pick_nil) (pick_cons rfl pick_nil) (Hn := fun x : Unit => [⟨.pointer (some q19), [(Vi r22.1), (Vi r22.2.1), (Sl Kf r22.2.2.1), (Vi r22.2.2.2)], 135, none⟩, ⟨.pointer (some q1), [(Vi a0_0), (Vi a0_1), (Vi a0_2), (Sl Kf a0_3), (Sl (Ki .i64) a0_4), (Sl (Kl (Ki .i64)) a0_5), (Sl KT27 a0_6)], 27, none⟩]) (fun _ => rfl) rfl rfl) (pick_cons rfl pick_nil) rfl bl_nil (wt_none' rfl) fun ⟨⟩ => ?_
  refine px_rd' rfl (rd_iface' rfl ⟨_, Try.underlying72, fun _ h => (nomatch h)⟩) rfl rfl (wt_none' rfl) ?_
  refine px_rd' rfl (rd_assign' rfl) rfl rfl (wt_none' rfl) ?_
  refine px_nil' ?_
  show TX E K6 _
  refine tx_k' hK6 ?_
  refine cx_retc' ?_
  replace hp := Option.some.inj hp
  subst hp
  refine tx_pick' (L' := [(2, (If 72 (Vp q19)))]) (H' := [⟨.pointer (some q19), [(Vi r22.1), (Vi r22.2.1), (Sl Kf r22.2.2.1), (Vi r22.2.2.2)], 135, none⟩]) [0] (sub_cons rfl sub_nil) (by decide) (pick_cons rfl pick_nil) ?_
  exact tx_ret1' Try.results30 rfl (q19, (none, 0, 0)) (rv_tmp' rfl) (List.Sublist.refl _)
 replace hp := (br_f h1).symm.trans hp
 refine cr fun K7 hK7 => ?_
 refine s0 (rd_bin' rfl rfl eg_int ru_eql) ?_
 refine s0 (rd_assign' rfl) ?_
 refine nk hK7 ?_
 refine cx_cond' rfl (fun h2 => ?_) (fun h2 => ?_)
 ·replace hp := (br_t h2).symm.trans hp
  refine cx_seq' fun K8 hK8 => ?_
  refine cx_plan' [] [(5, 1)] [(0, 1), (1, 1), (3, 1), (4, 1), (2, 0), (5, 0), (6, 1), (7, 1)] mixed (by kernel_rfl) ?_
  refine px_rd' rfl (rd_move' rfl) rfl rfl (wt_none' rfl) ?_
  refine px_rd' rfl (rd_move' rfl) rfl rfl (wt_none' rfl) ?_
  refine px_rd' rfl (rd_field' (off := 2) rfl Try.underlying27 rfl info3 rfl) rfl rfl (wt_none' rfl) ?_
  refine px_rd' rfl (rd_load' (i := 0) (o := 2) rfl ⟨rfl, rfl, rfl, rfl⟩ rfl flat3) rfl rfl (wt_none' rfl) ?_
  obtain ⟨r28, hr28, hp⟩ := bind_some hp
  refine px_ox' rfl (ox_calln' (ent_fn' Try.func62 isn62 rfl rfl) (gogeom_NewLineStringFlat_sim _ _ hr28 : Sx.Fn Try.prog 62 [(Vi a0_1), (Sl Kf r12)] [] (fun x : Addr => (Vp x)) (fun x => [⟨.pointer (some x), [(Vi r28.1), (Vi r28.2.1), (Sl Kf r28.2.2.1), (Vi r28.2.2.2)], 138, none⟩])) (Hn := fun x : Addr => [⟨.pointer (some x), [(Vi r28.1), (Vi r28.2.1), (Sl Kf r28.2.2.1), (Vi r28.2.2.2)], 138, none⟩, ⟨.pointer (some q1), [(Vi a0_0), (Vi a0_1), (Vi a0_2), (Sl Kf a0_3), (Sl (Ki .i64) a0_4), (Sl (Kl (Ki .i64)) a0_5), (Sl KT27 a0_6)], 27, none⟩]) (fun _ => rfl) rfl rfl) rfl bs_nil (wt_none' rfl) fun q28 => ?_
  obtain ⟨r31, hr31, hp⟩ := bind_some hp
  refine px_oxb' (is := [0]) rfl (oxb_callg (ent_fn' Try.func63 isn63 rfl rfl) (gogeom_LineString_SetSRID_sim _ _ _ _ _ hr31 : Sx.Fn Try.prog 63 [(Vp q28), (Vi a0_2)] [⟨.pointer (some q28), [(Vi r28.1), (Vi r28.2.1), (Sl Kf r28.2.2.1), (Vi r28.2.2.2)], 138, none⟩] (fun x : Unit => (Vp q28)) (fun x => [⟨.pointer (some q28), [(Vi r31.1), (Vi r31.2.1), (Sl Kf r31.2.2.1), (Vi r31.2.2.2)], 138, none⟩])) [0] [1] (by decide) (pick_cons rfl pick_nil) (pick_cons rfl pick_nil) (Hn := fun x : Unit => [⟨.pointer (some q28), [(Vi r31.1), (Vi r31.2.1), (Sl Kf r31.2.2.1), (Vi r31.2.2.2)], 138, none⟩, ⟨.pointer (some q1), [(Vi a0_0), (Vi a0_1), (Vi a0_2), (Sl Kf a0_3), (Sl (Ki .i64) a0_4), (Sl (Kl (Ki .i64)) a0_5), (Sl KT27 a0_6)], 27, none⟩]) (fun _ => rfl) rfl rfl) (pick_cons rfl pick_nil) rfl bl_nil (wt_none' rfl) fun ⟨⟩ => ?_
  refine px_rd' rfl (rd_iface' rfl ⟨_, Try.underlying75, fun _ h => (nomatch h)⟩) rfl rfl (wt_none' rfl) ?_
  refine px_rd' rfl (rd_assign' rfl) rfl rfl (wt_none' rfl) ?_
  refine px_nil' ?_
  show TX E K8 _
  refine tx_k' hK8 ?_
  refine cx_retc' ?_
  replace hp := Option.some.inj hp
  subst hp
  refine tx_pick' (L' := [(2, (If 75 (Vp q28)))]) (H' := [⟨.pointer (some q28), [(Vi r31.1), (Vi r31.2.1), (Sl Kf r31.2.2.1), (Vi r31.2.2.2)], 138, none⟩]) [0] (sub_cons rfl sub_nil) (by decide) (pick_cons rfl pick_nil) ?_
  exact tx_ret1' Try.results30 rfl (q28, (none, 0, 0)) (rv_tmp' rfl) (List.Sublist.refl _)
 replace hp := (br_f h2).symm.trans hp
 refine cr fun K9 hK9 => ?_
 refine s0 (rd_bin' rfl rfl eg_int ru_eql) ?_
 refine s0 (rd_assign' rfl) ?_
 refine nk hK9 ?_
 refine cx_cond' rfl (fun h3 => ?_) (fun h3 => ?_)
 ·replace hp := (br_t h3).symm.trans hp
  refine cx_seq' fun K10 hK10 => ?_
  refine cx_plan' [] [(5, 1)] [(0, 1), (1, 1), (3, 1), (4, 1), (2, 0), (5, 0), (6, 1), (7, 1)] mixed (by kernel_rfl) ?_
  refine px_rd' rfl (rd_move' rfl) rfl rfl (wt_none' rfl) ?_
  refine px_rd' rfl (rd_move' rfl) rfl rfl (wt_none' rfl) ?_
  refine px_rd' rfl (rd_field' (off := 2) rfl Try.underlying27 rfl info3 rfl) rfl rfl (wt_none' rfl) ?_
  refine px_rd' rfl (rd_load' (i := 0) (o := 2) rfl ⟨rfl, rfl, rfl, rfl⟩ rfl flat3) rfl rfl (wt_none' rfl) ?_
  obtain ⟨r37, hr37, hp⟩ := bind_some hp
  refine px_ox' rfl (ox_calln' (ent_fn' Try.func64 isn64 rfl rfl) (gogeom_NewLinearRingFlat_sim _ _ hr37 : Sx.Fn Try.prog 64 [(Vi a0_1), (Sl Kf r12)] [] (fun x : Addr => (Vp x)) (fun x => [⟨.pointer (some x), [(Vi r37.1), (Vi r37.2.1), (Sl Kf r37.2.2.1), (Vi r37.2.2.2)], 128, none⟩])) (Hn := fun x : Addr => [⟨.pointer (some x), [(Vi r37.1), (Vi r37.2.1), (Sl Kf r37.2.2.1), (Vi r37.2.2.2)], 128, none⟩, ⟨.pointer (some q1), [(Vi a0_0), (Vi a0_1), (Vi a0_2), (Sl Kf a0_3), (Sl (Ki .i64) a0_4), (Sl (Kl (Ki .i64)) a0_5), (Sl KT27 a0_6)], 27, none⟩]) (fun _ => rfl) rfl rfl) rfl bs_nil (wt_none' rfl) fun q37 => ?_
  obtain ⟨r40, hr40, hp⟩ := bind_some hp
  refine px_oxb' (is := [0]) rfl (oxb_callg (ent_fn' Try.func65 isn65 rfl rfl) (gogeom_LinearRing_SetSRID_sim _ _ _ _ _ hr40 : Sx.Fn Try.prog 65 [(Vp q37), (Vi a0_2)] [⟨.pointer (some q37), [(Vi r37.1), (Vi r37.2.1), (Sl Kf r37.2.2.1), (Vi r37.2.2.2)], 128, none⟩] (fun x : Unit => (Vp q37)) (fun x => [⟨.pointer (some q37), [(Vi r40.1), (Vi r40.2.1), (Sl Kf r40.2.2.1), (Vi r40.2.2.2)], 128, none⟩])) [0] [1] (by decide) (pick_cons rfl pick_nil) (pick_cons rfl pick_nil) (Hn := fun x : Unit => [⟨.pointer (some q37), [(Vi r40.1), (Vi r40.2.1), (Sl Kf r40.2.2.1), (Vi r40.2.2.2)], 128, none⟩, ⟨.pointer (some q1), [(Vi a0_0), (Vi a0_1), (Vi a0_2), (Sl Kf a0_3), (Sl (Ki .i64) a0_4), (Sl (Kl (Ki .i64)) a0_5), (Sl KT27 a0_6)], 27, none⟩]) (fun _ => rfl) rfl rfl) (pick_cons rfl pick_nil) rfl bl_nil (wt_none' rfl) fun ⟨⟩ => ?_
  refine px_rd' rfl (rd_iface' rfl ⟨_, Try.underlying69, fun _ h => (nomatch h)⟩) rfl rfl (wt_none' rfl) ?_
  refine px_rd' rfl (rd_assign' rfl) rfl rfl (wt_none' rfl) ?_
  refine px_nil' ?_
  show TX E K10 _
  refine tx_k' hK10 ?_
  refine cx_retc' ?_
  replace hp := Option.some.inj hp
  subst hp
  refine tx_pick' (L' := [(2, (If 69 (Vp q37)))]) (H' := [⟨.pointer (some q37), [(Vi r40.1), (Vi r40.2.1), (Sl Kf r40.2.2.1), (Vi r40.2.2.2)], 128, none⟩]) [0] (sub_cons rfl sub_nil) (by decide) (pick_cons rfl pick_nil) ?_
  exact tx_ret1' Try.results30 rfl (q37, (none, 0, 0)) (rv_tmp' rfl) (List.Sublist.refl _)
 replace hp := (br_f h3).symm.trans hp
 refine cr fun K11 hK11 => ?_
 refine s0 (rd_bin' rfl rfl eg_int ru_eql) ?_
 refine s0 (rd_assign' rfl) ?_
 refine nk hK11 ?_
 refine cx_cond' rfl (fun h4 => ?_) (fun h4 => ?_)
 ·replace hp := (br_t h4).symm.trans hp
  refine cx_seq' fun K12 hK12 => ?_
  refine cx_plan' [] [(8, 1)] [(0, 1), (1, 1), (2, 1), (3, 1), (6, 1), (7, 1), (4, 0), (5, 0), (8, 0), (9, 1), (10, 1)] mixed (by kernel_rfl) ?_
  refine px_rd' rfl (rd_move' rfl) rfl rfl (wt_none' rfl) ?_
  refine px_rd' rfl (rd_move' rfl) rfl rfl (wt_none' rfl) ?_
  refine px_rd' rfl (rd_field' (off := 4) rfl Try.underlying27 rfl info23 rfl) rfl rfl (wt_none' rfl) ?_
  refine px_rd' rfl (rd_load' (i := 0) (o := 4) rfl ⟨rfl, rfl, rfl, rfl⟩ rfl flat23) rfl rfl (wt_none' rfl) ?_
  refine px_rd' rfl (rd_field' (off := 2) rfl Try.underlying27 rfl info3 rfl) rfl rfl (wt_none' rfl) ?_
  refine px_rd' rfl (rd_load' (i := 0) (o := 2) rfl ⟨rfl, rfl, rfl, rfl⟩ rfl flat3) rfl rfl (wt_none' rfl) ?_
  obtain ⟨r48, hr48, hp⟩ := bind_some hp
  rcases r48 with y4 | y4
  ·dsimp only at hp
   refine px_ox' rfl (ox_calln' (ent_fn' Try.func58 isn58 rfl rfl) (impl_ints_sim _ hr48 : Sx.Fn Try.prog 58 [(Sl (Ki .i64) a0_4)] [] (fun x : Unit => Vn) (fun x => [])) (Hn := fun x : Unit => [⟨.pointer (some q1), [(Vi a0_0), (Vi a0_1), (Vi a0_2), (Sl Kf a0_3), (Sl (Ki .i64) a0_4), (Sl (Kl (Ki .i64)) a0_5), (Sl KT27 a0_6)], 27, none⟩]) (fun _ => rfl) rfl rfl) rfl bs_nil (wt_none' rfl) fun ⟨⟩ => ?_
   obtain ⟨r49, hr49, hp⟩ := bind_some hp
   refine px_ox' rfl (ox_calln' (ent_fn' Try.func66 isn66 rfl rfl) (gogeom_NewPolygonFlat_sim _ _ hr49 : Sx.Fn Try.prog 66 [(Vi a0_1), (Sl Kf r12), Vn] [] (fun x : Addr => (Vp x)) (fun x => [⟨.pointer (some x), [(Vi r49.1), (Vi r49.2.1), (Sl Kf r49.2.2.1), (Vi r49.2.2.2), Vn], 132, none⟩])) (Hn := fun x : Addr => [⟨.pointer (some x), [(Vi r49.1), (Vi r49.2.1), (Sl Kf r49.2.2.1), (Vi r49.2.2.2), Vn], 132, none⟩, ⟨.pointer (some q1), [(Vi a0_0), (Vi a0_1), (Vi a0_2), (Sl Kf a0_3), (Sl (Ki .i64) a0_4), (Sl (Kl (Ki .i64)) a0_5), (Sl KT27 a0_6)], 27, none⟩]) (fun _ => rfl) rfl rfl) rfl bs_nil (wt_none' rfl) fun q49 => ?_
   obtain ⟨r52, hr52, hp⟩ := bind_some hp
   refine px_oxb' (is := [0]) rfl (oxb_callg (ent_fn' Try.func67 isn67 rfl rfl) (gogeom_Polygon_SetSRID_sim _ _ _ _ _ hr52 : Sx.Fn Try.prog 67 [(Vp q49), (Vi a0_2)] [⟨.pointer (some q49), [(Vi r49.1), (Vi r49.2.1), (Sl Kf r49.2.2.1), (Vi r49.2.2.2), Vn], 132, none⟩] (fun x : Unit => (Vp q49)) (fun x => [⟨.pointer (some q49), [(Vi r52.1), (Vi r52.2.1), (Sl Kf r52.2.2.1), (Vi r52.2.2.2), Vn], 132, none⟩])) [0] [1] (by decide) (pick_cons rfl pick_nil) (pick_cons rfl pick_nil) (Hn := fun x : Unit => [⟨.pointer (some q49), [(Vi r52.1), (Vi r52.2.1), (Sl Kf r52.2.2.1), (Vi r52.2.2.2), Vn], 132, none⟩, ⟨.pointer (some q1), [(Vi a0_0), (Vi a0_1), (Vi a0_2), (Sl Kf a0_3), (Sl (Ki .i64) a0_4), (Sl (Kl (Ki .i64)) a0_5), (Sl KT27 a0_6)], 27, none⟩]) (fun _ => rfl) rfl rfl) (pick_cons rfl pick_nil) rfl bl_nil (wt_none' rfl) fun ⟨⟩ => ?_
   refine px_rd' rfl (rd_iface' rfl ⟨_, Try.underlying67, fun _ h => (nomatch h)⟩) rfl rfl (wt_none' rfl) ?_
   refine px_rd' rfl (rd_assign' rfl) rfl rfl (wt_none' rfl) ?_
   refine px_nil' ?_
   show TX E K12 _
   refine tx_k' hK12 ?_
   refine cx_retc' ?_
   replace hp := Option.some.inj hp
   subst hp
   refine tx_cell' 0 4 (y := (Sl (Ki .i64) [])) rfl rfl imp_nil (H' := [⟨.pointer (some q49), [(Vi r52.1), (Vi r52.2.1), (Sl Kf r52.2.2.1), (Vi r52.2.2.2), (Sl (Ki .i64) [])], 132, none⟩, ⟨.pointer (some q1), [(Vi a0_0), (Vi a0_1), (Vi a0_2), (Sl Kf a0_3), (Sl (Ki .i64) a0_4), (Sl (Kl (Ki .i64)) a0_5), (Sl KT27 a0_6)], 27, none⟩]) rfl ?_
   refine tx_pick' (L' := [(2, (If 67 (Vp q49)))]) (H' := [⟨.pointer (some q49), [(Vi r52.1), (Vi r52.2.1), (Sl Kf r52.2.2.1), (Vi r52.2.2.2), (Sl (Ki .i64) [])], 132, none⟩]) [0] (sub_cons rfl sub_nil) (by decide) (pick_cons rfl pick_nil) ?_
   exact tx_ret1' Try.results30 rfl (q49, (none, 0, 0)) (rv_tmp' rfl) (List.Sublist.refl _)
  dsimp only at hp
  refine px_ox' rfl (ox_calln' (ent_fn' Try.func58 isn58 rfl rfl) (impl_ints_sim _ hr48 : Sx.Fn Try.prog 58 [(Sl (Ki .i64) a0_4)] [] (fun x : Unit => (Sl (Ki .i64) y4)) (fun x => [])) (Hn := fun x : Unit => [⟨.pointer (some q1), [(Vi a0_0), (Vi a0_1), (Vi a0_2), (Sl Kf a0_3), (Sl (Ki .i64) a0_4), (Sl (Kl (Ki .i64)) a0_5), (Sl KT27 a0_6)], 27, none⟩]) (fun _ => rfl) rfl rfl) rfl bs_nil (wt_none' rfl) fun ⟨⟩ => ?_
  obtain ⟨r49, hr49, hp⟩ := bind_some hp
  refine px_ox' rfl (ox_calln' (ent_fn' Try.func66 isn66 rfl rfl) (gogeom_NewPolygonFlat_v2_sim _ _ _ hr49 : Sx.Fn Try.prog 66 [(Vi a0_1), (Sl Kf r12), (Sl (Ki .i64) y4)] [] (fun x : Addr => (Vp x)) (fun x => [⟨.pointer (some x), [(Vi r49.1), (Vi r49.2.1), (Sl Kf r49.2.2.1), (Vi r49.2.2.2.1), (Sl (Ki .i64) r49.2.2.2.2)], 132, none⟩])) (Hn := fun x : Addr => [⟨.pointer (some x), [(Vi r49.1), (Vi r49.2.1), (Sl Kf r49.2.2.1), (Vi r49.2.2.2.1), (Sl (Ki .i64) r49.2.2.2.2)], 132, none⟩, ⟨.pointer (some q1), [(Vi a0_0), (Vi a0_1), (Vi a0_2), (Sl Kf a0_3), (Sl (Ki .i64) a0_4), (Sl (Kl (Ki .i64)) a0_5), (Sl KT27 a0_6)], 27, none⟩]) (fun _ => rfl) rfl rfl) rfl bs_nil (wt_none' rfl) fun q49 => ?_
  obtain ⟨r52, hr52, hp⟩ := bind_some hp
  refine px_oxb' (is := [0]) rfl (oxb_callg (ent_fn' Try.func67 isn67 rfl rfl) (gogeom_Polygon_SetSRID_v2_sim _ _ _ _ _ _ hr52 : Sx.Fn Try.prog 67 [(Vp q49), (Vi a0_2)] [⟨.pointer (some q49), [(Vi r49.1), (Vi r49.2.1), (Sl Kf r49.2.2.1), (Vi r49.2.2.2.1), (Sl (Ki .i64) r49.2.2.2.2)], 132, none⟩] (fun x : Unit => (Vp q49)) (fun x => [⟨.pointer (some q49), [(Vi r52.1), (Vi r52.2.1), (Sl Kf r52.2.2.1), (Vi r52.2.2.2.1), (Sl (Ki .i64) r52.2.2.2.2)], 132, none⟩])) [0] [1] (by decide) (pick_cons rfl pick_nil) (pick_cons rfl pick_nil) (Hn := fun x : Unit => [⟨.pointer (some q49), [(Vi r52.1), (Vi r52.2.1), (Sl Kf r52.2.2.1), (Vi r52.2.2.2.1), (Sl (Ki .i64) r52.2.2.2.2)], 132, none⟩, ⟨.pointer (some q1), [(Vi a0_0), (Vi a0_1), (Vi a0_2), (Sl Kf a0_3), (Sl (Ki .i64) a0_4), (Sl (Kl (Ki .i64)) a0_5), (Sl KT27 a0_6)], 27, none⟩]) (fun _ => rfl) rfl rfl) (pick_cons rfl pick_nil) rfl bl_nil (wt_none' rfl) fun ⟨⟩ => ?_
  refine px_rd' rfl (rd_iface' rfl ⟨_, Try.underlying67, fun _ h => (nomatch h)⟩) rfl rfl (wt_none' rfl) ?_
  refine px_rd' rfl (rd_assign' rfl) rfl rfl (wt_none' rfl) ?_
  refine px_nil' ?_
  show TX E K12 _
  refine tx_k' hK12 ?_
  refine cx_retc' ?_
  replace hp := Option.some.inj hp
  subst hp
  refine tx_pick' (L' := [(2, (If 67 (Vp q49)))]) (H' := [⟨.pointer (some q49), [(Vi r52.1), (Vi r52.2.1), (Sl Kf r52.2.2.1), (Vi r52.2.2.2.1), (Sl (Ki .i64) r52.2.2.2.2)], 132, none⟩]) [0] (sub_cons rfl sub_nil) (by decide) (pick_cons rfl pick_nil) ?_
  exact tx_ret1' Try.results30 rfl (q49, (none, 0, 0)) (rv_tmp' rfl) (List.Sublist.refl _)
 replace hp := (br_f h4).symm.trans hp
 refine cr fun K13 hK13 => ?_
 refine s0 (rd_bin' rfl rfl eg_int ru_eql) ?_
 refine s0 (rd_assign' rfl) ?_
 refine nk hK13 ?_
 refine cx_cond' rfl (fun h5 => ?_) (fun h5 => ?_)
 ·replace hp := (br_t h5).symm.trans hp
  refine cx_seq' fun K14 hK14 => ?_
  refine cx_plan' [q1.block] [(7, 1), (10, 1)] [(0, 1), (1, 1), (2, 1), (3, 1), (8, 2), (9, 2), (4, 0), (5, 0), (6, 0), (7, 0), (10, 0), (11, 1), (12, 1)] mixed (by kernel_rfl) ?_
  refine px_rd' rfl (rd_move' rfl) rfl rfl (wt_none' rfl) ?_
  refine px_rd' rfl (rd_move' rfl) rfl rfl (wt_none' rfl) ?_
  refine px_rd' rfl (rd_field' (off := 4) rfl Try.underlying27 rfl info23 rfl) rfl rfl (wt_none' rfl) ?_
  refine px_rd' rfl (rd_load' (i := 0) (o := 4) rfl ⟨rfl, rfl, rfl, rfl⟩ rfl flat23) rfl rfl (wt_none' rfl) ?_
  refine px_rb' rfl (rb_field' (off := 2) rfl Try.underlying27 rfl info3 rfl) rfl rfl (wt_none' rfl) ?_
  refine px_rb' rfl (rb_load' (i := 0) (o := 2) rfl ⟨rfl, rfl, rfl, rfl⟩ rfl flat3 (by simp)) rfl rfl (wt_none' rfl) ?_
  obtain ⟨r60, hr60, hp⟩ := bind_some hp
  rcases r60 with y6 | y6
  ·dsimp only at hp
   refine px_ox' rfl (ox_calln' (ent_fn' Try.func58 isn58 rfl rfl) (impl_ints_sim _ hr60 : Sx.Fn Try.prog 58 [(Sl (Ki .i64) a0_4)] [] (fun x : Unit => Vn) (fun x => [])) (Hn := fun x : Unit => [⟨.pointer (some q1), [(Vi a0_0), (Vi a0_1), (Vi a0_2), (Sl Kf a0_3), (Sl (Ki .i64) a0_4), (Sl (Kl (Ki .i64)) a0_5), (Sl KT27 a0_6)], 27, none⟩]) (fun _ => rfl) rfl rfl) rfl (bs_cons (m := 0) rfl rfl rfl bs_nil) (wt_none' rfl) fun ⟨⟩ => ?_
   obtain ⟨r61, hr61, hp⟩ := bind_some hp
   refine px_ox' rfl (ox_calln' (ent_fn' Try.func69 isn69 rfl rfl) (gogeom_NewMultiPointFlatOptionWithEnds_sim hr61 : Sx.Fn Try.prog 69 [Vn] [] (fun x : Addr => (Vl (.func (.func 90) #[] ⟨[.pointer (some x)]⟩))) (fun x => [⟨.pointer (some x), [Vn], 23, none⟩])) (Hn := fun x : Addr => [⟨.pointer (some x), [Vn], 23, none⟩, ⟨.pointer (some q1), [(Vi a0_0), (Vi a0_1), (Vi a0_2), (Sl Kf a0_3), (Sl (Ki .i64) a0_4), (Sl (Kl (Ki .i64)) a0_5), (Sl KT27 a0_6)], 27, none⟩]) (fun _ => rfl) rfl rfl) rfl (bs_cons (m := 0) rfl rfl rfl bs_nil) (wt_none' rfl) fun q61 => ?_
   refine px_ox' rfl (ox_srow' (es := 1) (r := [(Vl (.func (.func 90) #[] ⟨[.pointer (some q61)]⟩))]) (qs := [(0, [(Vl (.func (.func 90) #[] ⟨[.pointer (some q61)]⟩))])]) ⟨rfl, ⟨_, rfl, (lv_vl rfl rfl)⟩, trivial⟩ Try.underlying153 info101 rfl rfl rfl rfl rfl rfl rfl rfl rfl) rfl (bs_cons (m := 1) rfl rfl rfl bs_nil) (wt_none' rfl) fun q62 => ?_
   obtain ⟨r63, hr63, hp⟩ := bind_some hp
   refine px_oxb' (is := [0, 1]) rfl (oxb_callg (ent_fn' Try.func68 isn68 rfl rfl) (gogeom_NewMultiPointFlat_sim _ _ hr63 : Sx.Fn Try.prog 68 [(Vi a0_1), (Sl Kf r12), (Vl (.slice (some q62) 1 1))] [⟨.slice (some q62) 1 1, [(Vl (.func (.func 90) #[] ⟨[.pointer (some q61)]⟩))], 101, some 1⟩, ⟨.pointer (some q61), [Vn], 23, none⟩] (fun x : Addr × Gs => (Vp x.1)) (fun x => [⟨.pointer (some q61), [Vn], 23, none⟩, ⟨.pointer (some x.1), [(Vi r63.1), (Vi r63.2.1), (Sl Kf r63.2.2.1), (Vi r63.2.2.2.1), (Vl (Vs x.2))], 136, none⟩, (Rw (Ki .i64) 3 (Vs x.2) r63.2.2.2.2)])) [0, 1] [2] (by decide) (pick_cons rfl (pick_cons rfl pick_nil)) (pick_cons rfl pick_nil) (Hn := fun x : Addr × Gs => [⟨.pointer (some q61), [Vn], 23, none⟩, ⟨.pointer (some x.1), [(Vi r63.1), (Vi r63.2.1), (Sl Kf r63.2.2.1), (Vi r63.2.2.2.1), (Vl (Vs x.2))], 136, none⟩, (Rw (Ki .i64) 3 (Vs x.2) r63.2.2.2.2), ⟨.pointer (some q1), [(Vi a0_0), (Vi a0_1), (Vi a0_2), (Sl Kf a0_3), (Sl (Ki .i64) a0_4), (Sl (Kl (Ki .i64)) a0_5), (Sl KT27 a0_6)], 27, none⟩]) (fun _ => rfl) rfl rfl) (pick_cons rfl (pick_cons rfl pick_nil)) rfl (bl_cons (m := 2) (by decide) rfl rfl bl_nil) (wt_none' rfl) fun ⟨q63, g63⟩ => ?_
   obtain ⟨r66, hr66, hp⟩ := bind_some hp
   refine px_oxb' (is := [1, 2]) rfl (oxb_callg (ent_fn' Try.func70 isn70 rfl rfl) (gogeom_MultiPoint_SetSRID_sim _ _ _ _ _ _ hr66 : Sx.Fn Try.prog 70 [(Vp q63), (Vi a0_2)] [⟨.pointer (some q63), [(Vi r63.1), (Vi r63.2.1), (Sl Kf r63.2.2.1), (Vi r63.2.2.2.1), (Vl (Vs g63))], 136, none⟩, (Rw (Ki .i64) 3 (Vs g63) r63.2.2.2.2)] (fun x : Unit => (Vp q63)) (fun x => [⟨.pointer (some q63), [(Vi r66.1), (Vi r66.2.1), (Sl Kf r66.2.2.1), (Vi r66.2.2.2.1), (Vl (Vs g63))], 136, none⟩, (Rw (Ki .i64) 3 (Vs g63) r66.2.2.2.2)])) [1, 2] [0, 3] (by decide) (pick_cons rfl (pick_cons rfl pick_nil)) (pick_cons rfl (pick_cons rfl pick_nil)) (Hn := fun x : Unit => [⟨.pointer (some q63), [(Vi r66.1), (Vi r66.2.1), (Sl Kf r66.2.2.1), (Vi r66.2.2.2.1), (Vl (Vs g63))], 136, none⟩, (Rw (Ki .i64) 3 (Vs g63) r66.2.2.2.2), ⟨.pointer (some q61), [Vn], 23, none⟩, ⟨.pointer (some q1), [(Vi a0_0), (Vi a0_1), (Vi a0_2), (Sl Kf a0_3), (Sl (Ki .i64) a0_4), (Sl (Kl (Ki .i64)) a0_5), (Sl KT27 a0_6)], 27, none⟩]) (fun _ => rfl) rfl rfl) (pick_cons rfl (pick_cons rfl pick_nil)) rfl (bl_cons (m := 3) (by decide) rfl rfl bl_nil) (wt_none' rfl) fun ⟨⟩ => ?_
   refine px_rd' rfl (rd_iface' rfl ⟨_, Try.underlying70, fun _ h => (nomatch h)⟩) rfl rfl (wt_none' rfl) ?_
   refine px_rd' rfl (rd_assign' rfl) rfl rfl (wt_none' rfl) ?_
   refine px_nil' ?_
   show TX E K14 _
   refine tx_k' hK14 ?_
   refine cx_retc' ?_
   refine tx_fz' (frz_row 1 [] (K := (Ki .i64)) (xs := r66.2.2.2.2) (by decide) rfl trivial (H' := [⟨.pointer (some q63), [(Vi r66.1), (Vi r66.2.1), (Sl Kf r66.2.2.1), (Vi r66.2.2.2.1), (Sl (Ki .i64) r66.2.2.2.2)], 136, none⟩, ⟨.pointer (some q61), [Vn], 23, none⟩, ⟨.pointer (some q1), [(Vi a0_0), (Vi a0_1), (Vi a0_2), (Sl Kf a0_3), (Sl (Ki .i64) a0_4), (Sl (Kl (Ki .i64)) a0_5), (Sl KT27 a0_6)], 27, none⟩]) (frzH_cons rfl rfl rfl (frzL_cons frz_same (frzL_cons frz_same (frzL_cons frz_same (frzL_cons frz_same (frzL_cons frz_it frzL_refl))))) (frzH_cons rfl rfl rfl frzL_refl (frzH_cons rfl rfl rfl frzL_refl frzH_refl)))) ?_
   replace hp := Option.some.inj hp
   subst hp
   refine tx_pick' (L' := [(2, (If 70 (Vp q63)))]) (H' := [⟨.pointer (some q63), [(Vi r66.1), (Vi r66.2.1), (Sl Kf r66.2.2.1), (Vi r66.2.2.2.1), (Sl (Ki .i64) r66.2.2.2.2)], 136, none⟩]) [0] (sub_cons rfl sub_nil) (by decide) (pick_cons rfl pick_nil) ?_
   exact tx_ret1' Try.results30 rfl (q63, (none, 0, 0)) (rv_tmp' rfl) (List.Sublist.refl _)
  dsimp only at hp
  refine px_ox' rfl (ox_calln' (ent_fn' Try.func58 isn58 rfl rfl) (impl_ints_sim _ hr60 : Sx.Fn Try.prog 58 [(Sl (Ki .i64) a0_4)] [] (fun x : Unit => (Sl (Ki .i64) y6)) (fun x => [])) (Hn := fun x : Unit => [⟨.pointer (some q1), [(Vi a0_0), (Vi a0_1), (Vi a0_2), (Sl Kf a0_3), (Sl (Ki .i64) a0_4), (Sl (Kl (Ki .i64)) a0_5), (Sl KT27 a0_6)], 27, none⟩]) (fun _ => rfl) rfl rfl) rfl (bs_cons (m := 0) rfl rfl rfl bs_nil) (wt_none' rfl) fun ⟨⟩ => ?_
  obtain ⟨r61, hr61, hp⟩ := bind_some hp
  refine px_ox' rfl (ox_calln' (ent_fn' Try.func69 isn69 rfl rfl) (gogeom_NewMultiPointFlatOptionWithEnds_v2_sim _ hr61 : Sx.Fn Try.prog 69 [(Sl (Ki .i64) y6)] [] (fun x : Addr => (Vl (.func (.func 90) #[] ⟨[.pointer (some x)]⟩))) (fun x => [⟨.pointer (some x), [(Sl (Ki .i64) r61)], 23, none⟩])) (Hn := fun x : Addr => [⟨.pointer (some x), [(Sl (Ki .i64) r61)], 23, none⟩, ⟨.pointer (some q1), [(Vi a0_0), (Vi a0_1), (Vi a0_2), (Sl Kf a0_3), (Sl (Ki .i64) a0_4), (Sl (Kl (Ki .i64)) a0_5), (Sl KT27 a0_6)], 27, none⟩]) (fun _ => rfl) rfl rfl) rfl (bs_cons (m := 0) rfl rfl rfl bs_nil) (wt_none' rfl) fun q61 => ?_
  refine px_ox' rfl (ox_srow' (es := 1) (r := [(Vl (.func (.func 90) #[] ⟨[.pointer (some q61)]⟩))]) (qs := [(0, [(Vl (.func (.func 90) #[] ⟨[.pointer (some q61)]⟩))])]) ⟨rfl, ⟨_, rfl, (lv_vl rfl rfl)⟩, trivial⟩ Try.underlying153 info101 rfl rfl rfl rfl rfl rfl rfl rfl rfl) rfl (bs_cons (m := 1) rfl rfl rfl bs_nil) (wt_none' rfl) fun q62 => ?_
  obtain ⟨r63, hr63, hp⟩ := bind_some hp
  refine px_oxb' (is := [0, 1]) rfl (oxb_callg (ent_fn' Try.func68 isn68 rfl rfl) (gogeom_NewMultiPointFlat_v2_sim _ _ _ hr63 : Sx.Fn Try.prog 68 [(Vi a0_1), (Sl Kf r12), (Vl (.slice (some q62) 1 1))] [⟨.slice (some q62) 1 1, [(Vl (.func (.func 90) #[] ⟨[.pointer (some q61)]⟩))], 101, some 1⟩, ⟨.pointer (some q61), [(Sl (Ki .i64) r61)], 23, none⟩] (fun x : Addr => (Vp x)) (fun x => [⟨.pointer (some q61), [(Sl (Ki .i64) r63.1)], 23, none⟩, ⟨.pointer (some x), [(Vi r63.2.1), (Vi r63.2.2.1), (Sl Kf r63.2.2.2.1), (Vi r63.2.2.2.2), (Sl (Ki .i64) r63.1)], 136, none⟩])) [0, 1] [2] (by decide) (pick_cons rfl (pick_cons rfl pick_nil)) (pick_cons rfl pick_nil) (Hn := fun x : Addr => [⟨.pointer (some q61), [(Sl (Ki .i64) r63.1)], 23, none⟩, ⟨.pointer (some x), [(Vi r63.2.1), (Vi r63.2.2.1), (Sl Kf r63.2.2.2.1), (Vi r63.2.2.2.2), (Sl (Ki .i64) r63.1)], 136, none⟩, ⟨.pointer (some q1), [(Vi a0_0), (Vi a0_1), (Vi a0_2), (Sl Kf a0_3), (Sl (Ki .i64) a0_4), (Sl (Kl (Ki .i64)) a0_5), (Sl KT27 a0_6)], 27, none⟩]) (fun _ => rfl) rfl rfl) (pick_cons rfl (pick_cons rfl pick_nil)) rfl (bl_cons (m := 2) (by decide) rfl rfl bl_nil) (wt_none' rfl) fun q63 => ?_
  obtain ⟨r66, hr66, hp⟩ := bind_some hp
  refine px_oxb' (is := [1]) rfl (oxb_callg (ent_fn' Try.func70 isn70 rfl rfl) (gogeom_MultiPoint_SetSRID_v2_sim _ _ _ _ _ _ hr66 : Sx.Fn Try.prog 70 [(Vp q63), (Vi a0_2)] [⟨.pointer (some q63), [(Vi r63.2.1), (Vi r63.2.2.1), (Sl Kf r63.2.2.2.1), (Vi r63.2.2.2.2), (Sl (Ki .i64) r63.1)], 136, none⟩] (fun x : Unit => (Vp q63)) (fun x => [⟨.pointer (some q63), [(Vi r66.1), (Vi r66.2.1), (Sl Kf r66.2.2.1), (Vi r66.2.2.2.1), (Sl (Ki .i64) r66.2.2.2.2)], 136, none⟩])) [1] [0, 2] (by decide) (pick_cons rfl pick_nil) (pick_cons rfl (pick_cons rfl pick_nil)) (Hn := fun x : Unit => [⟨.pointer (some q63), [(Vi r66.1), (Vi r66.2.1), (Sl Kf r66.2.2.1), (Vi r66.2.2.2.1), (Sl (Ki .i64) r66.2.2.2.2)], 136, none⟩, ⟨.pointer (some q61), [(Sl (Ki .i64) r63.1)], 23, none⟩, ⟨.pointer (some q1), [(Vi a0_0), (Vi a0_1), (Vi a0_2), (Sl Kf a0_3), (Sl (Ki .i64) a0_4), (Sl (Kl (Ki .i64)) a0_5), (Sl KT27 a0_6)], 27, none⟩]) (fun _ => rfl) rfl rfl) (pick_cons rfl pick_nil) rfl (bl_cons (m := 2) (by decide) rfl rfl bl_nil) (wt_none' rfl) fun ⟨⟩ => ?_
  refine px_rd' rfl (rd_iface' rfl ⟨_, Try.underlying70, fun _ h => (nomatch h)⟩) rfl rfl (wt_none' rfl) ?_
  refine px_rd' rfl (rd_assign' rfl) rfl rfl (wt_none' rfl) ?_
  refine px_nil' ?_
  show TX E K14 _
  refine tx_k' hK14 ?_
  refine cx_retc' ?_
  replace hp := Option.some.inj hp
  subst hp
  refine tx_pick' (L' := [(2, (If 70 (Vp q63)))]) (H' := [⟨.pointer (some q63), [(Vi r66.1), (Vi r66.2.1), (Sl Kf r66.2.2.1), (Vi r66.2.2.2.1), (Sl (Ki .i64) r66.2.2.2.2)], 136, none⟩]) [0] (sub_cons rfl sub_nil) (by decide) (pick_cons rfl pick_nil) ?_
  exact tx_ret1' Try.results30 rfl (q63, (none, 0, 0)) (rv_tmp' rfl) (List.Sublist.refl _)
 replace hp := (br_f h5).symm.trans hp
 refine cr fun K15 hK15 => ?_
 refine s0 (rd_bin' rfl rfl eg_int ru_eql) ?_
 refine s0 (rd_assign' rfl) ?_
 refine nk hK15 ?_
 refine cx_cond' rfl (fun h6 => ?_) (fun h6 => ?_)
 ·replace hp := (br_t h6).symm.trans hp
  refine cx_seq' fun K16 hK16 => ?_
  refine cx_plan' [] [(8, 1)] [(0, 1), (1, 1), (2, 1), (3, 1), (6, 1), (7, 1), (4, 0), (5, 0), (8, 0), (9, 1), (10, 1)] mixed (by kernel_rfl) ?_
  refine px_rd' rfl (rd_move' rfl) rfl rfl (wt_none' rfl) ?_
  refine px_rd' rfl (rd_move' rfl) rfl rfl (wt_none' rfl) ?_
  refine px_rd' rfl (rd_field' (off := 4) rfl Try.underlying27 rfl info23 rfl) rfl rfl (wt_none' rfl) ?_
  refine px_rd' rfl (rd_load' (i := 0) (o := 4) rfl ⟨rfl, rfl, rfl, rfl⟩ rfl flat23) rfl rfl (wt_none' rfl) ?_
  refine px_rd' rfl (rd_field' (off := 2) rfl Try.underlying27 rfl info3 rfl) rfl rfl (wt_none' rfl) ?_
  refine px_rd' rfl (rd_load' (i := 0) (o := 2) rfl ⟨rfl, rfl, rfl, rfl⟩ rfl flat3) rfl rfl (wt_none' rfl) ?_
  obtain ⟨r74, hr74, hp⟩ := bind_some hp
  rcases r74 with y10 | y10
  ·dsimp only at hp
   refine px_ox' rfl (ox_calln' (ent_fn' Try.func58 isn58 rfl rfl) (impl_ints_sim _ hr74 : Sx.Fn Try.prog 58 [(Sl (Ki .i64) a0_4)] [] (fun x : Unit => Vn) (fun x => [])) (Hn := fun x : Unit => [⟨.pointer (some q1), [(Vi a0_0), (Vi a0_1), (Vi a0_2), (Sl Kf a0_3), (Sl (Ki .i64) a0_4), (Sl (Kl (Ki .i64)) a0_5), (Sl KT27 a0_6)], 27, none⟩]) (fun _ => rfl) rfl rfl) rfl bs_nil (wt_none' rfl) fun ⟨⟩ => ?_
   obtain ⟨r75, hr75, hp⟩ := bind_some hp
   refine px_ox' rfl (ox_calln' (ent_fn' Try.func71 isn71 rfl rfl) (gogeom_NewMultiLineStringFlat_sim _ _ hr75 : Sx.Fn Try.prog 71 [(Vi a0_1), (Sl Kf r12), Vn] [] (fun x : Addr => (Vp x)) (fun x => [⟨.pointer (some x), [(Vi r75.1), (Vi r75.2.1), (Sl Kf r75.2.2.1), (Vi r75.2.2.2), Vn], 139, none⟩])) (Hn := fun x : Addr => [⟨.pointer (some x), [(Vi r75.1), (Vi r75.2.1), (Sl Kf r75.2.2.1), (Vi r75.2.2.2), Vn], 139, none⟩, ⟨.pointer (some q1), [(Vi a0_0), (Vi a0_1), (Vi a0_2), (Sl Kf a0_3), (Sl (Ki .i64) a0_4), (Sl (Kl (Ki .i64)) a0_5), (Sl KT27 a0_6)], 27, none⟩]) (fun _ => rfl) rfl rfl) rfl bs_nil (wt_none' rfl) fun q75 => ?_
   obtain ⟨r78, hr78, hp⟩ := bind_some hp
   refine px_oxb' (is := [0]) rfl (oxb_callg (ent_fn' Try.func72 isn72 rfl rfl) (gogeom_MultiLineString_SetSRID_sim _ _ _ _ _ hr78 : Sx.Fn Try.prog 72 [(Vp q75), (Vi a0_2)] [⟨.pointer (some q75), [(Vi r75.1), (Vi r75.2.1), (Sl Kf r75.2.2.1), (Vi r75.2.2.2), Vn], 139, none⟩] (fun x : Unit => (Vp q75)) (fun x => [⟨.pointer (some q75), [(Vi r78.1), (Vi r78.2.1), (Sl Kf r78.2.2.1), (Vi r78.2.2.2), Vn], 139, none⟩])) [0] [1] (by decide) (pick_cons rfl pick_nil) (pick_cons rfl pick_nil) (Hn := fun x : Unit => [⟨.pointer (some q75), [(Vi r78.1), (Vi r78.2.1), (Sl Kf r78.2.2.1), (Vi r78.2.2.2), Vn], 139, none⟩, ⟨.pointer (some q1), [(Vi a0_0), (Vi a0_1), (Vi a0_2), (Sl Kf a0_3), (Sl (Ki .i64) a0_4), (Sl (Kl (Ki .i64)) a0_5), (Sl KT27 a0_6)], 27, none⟩]) (fun _ => rfl) rfl rfl) (pick_cons rfl pick_nil) rfl bl_nil (wt_none' rfl) fun ⟨⟩ => ?_
   refine px_rd' rfl (rd_iface' rfl ⟨_, Try.underlying73, fun _ h => (nomatch h)⟩) rfl rfl (wt_none' rfl) ?_
   refine px_rd' rfl (rd_assign' rfl) rfl rfl (wt_none' rfl) ?_
   refine px_nil' ?_
   show TX E K16 _
   refine tx_k' hK16 ?_
   refine cx_retc' ?_
   replace hp := Option.some.inj hp
   subst hp
   refine tx_cell' 0 4 (y := (Sl (Ki .i64) [])) rfl rfl imp_nil (H' := [⟨.pointer (some q75), [(Vi r78.1), (Vi r78.2.1), (Sl Kf r78.2.2.1), (Vi r78.2.2.2), (Sl (Ki .i64) [])], 139, none⟩, ⟨.pointer (some q1), [(Vi a0_0), (Vi a0_1), (Vi a0_2), (Sl Kf a0_3), (Sl (Ki .i64) a0_4), (Sl (Kl (Ki .i64)) a0_5), (Sl KT27 a0_6)], 27, none⟩]) rfl ?_
   refine tx_pick' (L' := [(2, (If 73 (Vp q75)))]) (H' := [⟨.pointer (some q75), [(Vi r78.1), (Vi r78.2.1), (Sl Kf r78.2.2.1), (Vi r78.2.2.2), (Sl (Ki .i64) [])], 139, none⟩]) [0] (sub_cons rfl sub_nil) (by decide) (pick_cons rfl pick_nil) ?_
   exact tx_ret1' Try.results30 rfl (q75, (none, 0, 0)) (rv_tmp' rfl) (List.Sublist.refl _)
  dsimp only at hp
  refine px_ox' rfl (ox_calln' (ent_fn' Try.func58 isn58 rfl rfl) (impl_ints_sim _ hr74 : Sx.Fn Try.prog 58 [(Sl (Ki .i64) a0_4)] [] (fun x : Unit => (Sl (Ki .i64) y10)) (fun x => [])) (Hn := fun x : Unit => [⟨.pointer (some q1), [(Vi a0_0), (Vi a0_1), (Vi a0_2), (Sl Kf a0_3), (Sl (Ki .i64) a0_4), (Sl (Kl (Ki .i64)) a0_5), (Sl KT27 a0_6)], 27, none⟩]) (fun _ => rfl) rfl rfl) rfl bs_nil (wt_none' rfl) fun ⟨⟩ => ?_
  obtain ⟨r75, hr75, hp⟩ := bind_some hp
  refine px_ox' rfl (ox_calln' (ent_fn' Try.func71 isn71 rfl rfl) (gogeom_NewMultiLineStringFlat_v2_sim _ _ _ hr75 : Sx.Fn Try.prog 71 [(Vi a0_1), (Sl Kf r12), (Sl (Ki .i64) y10)] [] (fun x : Addr => (Vp x)) (fun x => [⟨.pointer (some x), [(Vi r75.1), (Vi r75.2.1), (Sl Kf r75.2.2.1), (Vi r75.2.2.2.1), (Sl (Ki .i64) r75.2.2.2.2)], 139, none⟩])) (Hn := fun x : Addr => [⟨.pointer (some x), [(Vi r75.1), (Vi r75.2.1), (Sl Kf r75.2.2.1), (Vi r75.2.2.2.1), (Sl (Ki .i64) r75.2.2.2.2)], 139, none⟩, ⟨.pointer (some q1), [(Vi a0_0), (Vi a0_1), (Vi a0_2), (Sl Kf a0_3), (Sl (Ki .i64) a0_4), (Sl (Kl (Ki .i64)) a0_5), (Sl KT27 a0_6)], 27, none⟩]) (fun _ => rfl) rfl rfl) rfl bs_nil (wt_none' rfl) fun q75 => ?_
  obtain ⟨r78, hr78, hp⟩ := bind_some hp
  refine px_oxb' (is := [0]) rfl (oxb_callg (ent_fn' Try.func72 isn72 rfl rfl) (gogeom_MultiLineString_SetSRID_v2_sim _ _ _ _ _ _ hr78 : Sx.Fn Try.prog 72 [(Vp q75), (Vi a0_2)] [⟨.pointer (some q75), [(Vi r75.1), (Vi r75.2.1), (Sl Kf r75.2.2.1), (Vi r75.2.2.2.1), (Sl (Ki .i64) r75.2.2.2.2)], 139, none⟩] (fun x : Unit => (Vp q75)) (fun x => [⟨.pointer (some q75), [(Vi r78.1), (Vi r78.2.1), (Sl Kf r78.2.2.1), (Vi r78.2.2.2.1), (Sl (Ki .i64) r78.2.2.2.2)], 139, none⟩])) [0] [1] (by decide) (pick_cons rfl pick_nil) (pick_cons rfl pick_nil) (Hn := fun x : Unit => [⟨.pointer (some q75), [(Vi r78.1), (Vi r78.2.1), (Sl Kf r78.2.2.1), (Vi r78.2.2.2.1), (Sl (Ki .i64) r78.2.2.2.2)], 139, none⟩, ⟨.pointer (some q1), [(Vi a0_0), (Vi a0_1), (Vi a0_2), (Sl Kf a0_3), (Sl (Ki .i64) a0_4), (Sl (Kl (Ki .i64)) a0_5), (Sl KT27 a0_6)], 27, none⟩]) (fun _ => rfl) rfl rfl) (pick_cons rfl pick_nil) rfl bl_nil (wt_none' rfl) fun ⟨⟩ => ?_
  refine px_rd' rfl (rd_iface' rfl ⟨_, Try.underlying73, fun _ h => (nomatch h)⟩) rfl rfl (wt_none' rfl) ?_
  refine px_rd' rfl (rd_assign' rfl) rfl rfl (wt_none' rfl) ?_
  refine px_nil' ?_
  show TX E K16 _
  refine tx_k' hK16 ?_
  refine cx_retc' ?_
  replace hp := Option.some.inj hp
  subst hp
  refine tx_pick' (L' := [(2, (If 73 (Vp q75)))]) (H' := [⟨.pointer (some q75), [(Vi r78.1), (Vi r78.2.1), (Sl Kf r78.2.2.1), (Vi r78.2.2.2.1), (Sl (Ki .i64) r78.2.2.2.2)], 139, none⟩]) [0] (sub_cons rfl sub_nil) (by decide) (pick_cons rfl pick_nil) ?_
  exact tx_ret1' Try.results30 rfl (q75, (none, 0, 0)) (rv_tmp' rfl) (List.Sublist.refl _)
 replace hp := (br_f h6).symm.trans hp
 refine cr fun K17 hK17 => ?_
 refine s0 (rd_bin' rfl rfl eg_int ru_eql) ?_
 refine s0 (rd_assign' rfl) ?_
 refine nk hK17 ?_
 refine cx_cond' rfl (fun h7 => ?_) (fun h7 => ?_)
 ·replace hp := (br_t h7).symm.trans hp
  refine cx_seq' fun K18 hK18 => ?_
  refine cx_plan' [] [(8, 1)] [(0, 1), (1, 1), (2, 1), (3, 1), (6, 1), (7, 1), (4, 0), (5, 0), (8, 0), (9, 1), (10, 1)] mixed (by kernel_rfl) ?_
  refine px_rd' rfl (rd_move' rfl) rfl rfl (wt_none' rfl) ?_
  refine px_rd' rfl (rd_move' rfl) rfl rfl (wt_none' rfl) ?_
  refine px_rd' rfl (rd_field' (off := 5) rfl Try.underlying27 rfl info24 rfl) rfl rfl (wt_none' rfl) ?_
  refine px_rd' rfl (rd_load' (i := 0) (o := 5) rfl ⟨rfl, rfl, rfl, rfl⟩ rfl flat24) rfl rfl (wt_none' rfl) ?_
  refine px_rd' rfl (rd_field' (off := 2) rfl Try.underlying27 rfl info3 rfl) rfl rfl (wt_none' rfl) ?_
  refine px_rd' rfl (rd_load' (i := 0) (o := 2) rfl ⟨rfl, rfl, rfl, rfl⟩ rfl flat3) rfl rfl (wt_none' rfl) ?_
  obtain ⟨r86, hr86, hp⟩ := bind_some hp
  refine px_ox' rfl (ox_calln' (ent_fn' Try.func29 isn29 rfl rfl) (impl_intss_sim _ hr86 : Sx.Fn Try.prog 29 [(Sl (Kl (Ki .i64)) a0_5)] [] (fun x : Unit => (Sl (Kl (Ki .i64)) r86)) (fun x => [])) (Hn := fun x : Unit => [⟨.pointer (some q1), [(Vi a0_0), (Vi a0_1), (Vi a0_2), (Sl Kf a0_3), (Sl (Ki .i64) a0_4), (Sl (Kl (Ki .i64)) a0_5), (Sl KT27 a0_6)], 27, none⟩]) (fun _ => rfl) rfl rfl) rfl bs_nil (wt_none' rfl) fun ⟨⟩ => ?_
  obtain ⟨r87, hr87, hp⟩ := bind_some hp
  refine px_ox' rfl (ox_calln' (ent_fn' Try.func73 isn73 rfl rfl) (gogeom_NewMultiPolygonFlat_sim _ _ _ hr87 : Sx.Fn Try.prog 73 [(Vi a0_1), (Sl Kf r12), (Sl (Kl (Ki .i64)) r86)] [] (fun x : Addr => (Vp x)) (fun x => [⟨.pointer (some x), [(Vi r87.1), (Vi r87.2.1), (Sl Kf r87.2.2.1), (Vi r87.2.2.2.1), (Sl (Kl (Ki .i64)) r87.2.2.2.2)], 143, none⟩])) (Hn := fun x : Addr => [⟨.pointer (some x), [(Vi r87.1), (Vi r87.2.1), (Sl Kf r87.2.2.1), (Vi r87.2.2.2.1), (Sl (Kl (Ki .i64)) r87.2.2.2.2)], 143, none⟩, ⟨.pointer (some q1), [(Vi a0_0), (Vi a0_1), (Vi a0_2), (Sl Kf a0_3), (Sl (Ki .i64) a0_4), (Sl (Kl (Ki .i64)) a0_5), (Sl KT27 a0_6)], 27, none⟩]) (fun _ => rfl) rfl rfl) rfl bs_nil (wt_none' rfl) fun q87 => ?_
  obtain ⟨r90, hr90, hp⟩ := bind_some hp
  refine px_oxb' (is := [0]) rfl (oxb_callg (ent_fn' Try.func74 isn74 rfl rfl) (gogeom_MultiPolygon_SetSRID_sim _ _ _ _ _ _ hr90 : Sx.Fn Try.prog 74 [(Vp q87), (Vi a0_2)] [⟨.pointer (some q87), [(Vi r87.1), (Vi r87.2.1), (Sl Kf r87.2.2.1), (Vi r87.2.2.2.1), (Sl (Kl (Ki .i64)) r87.2.2.2.2)], 143, none⟩] (fun x : Unit => (Vp q87)) (fun x => [⟨.pointer (some q87), [(Vi r90.1), (Vi r90.2.1), (Sl Kf r90.2.2.1), (Vi r90.2.2.2.1), (Sl (Kl (Ki .i64)) r90.2.2.2.2)], 143, none⟩])) [0] [1] (by decide) (pick_cons rfl pick_nil) (pick_cons rfl pick_nil) (Hn := fun x : Unit => [⟨.pointer (some q87), [(Vi r90.1), (Vi r90.2.1), (Sl Kf r90.2.2.1), (Vi r90.2.2.2.1), (Sl (Kl (Ki .i64)) r90.2.2.2.2)], 143, none⟩, ⟨.pointer (some q1), [(Vi a0_0), (Vi a0_1), (Vi a0_2), (Sl Kf a0_3), (Sl (Ki .i64) a0_4), (Sl (Kl (Ki .i64)) a0_5), (Sl KT27 a0_6)], 27, none⟩]) (fun _ => rfl) rfl rfl) (pick_cons rfl pick_nil) rfl bl_nil (wt_none' rfl) fun ⟨⟩ => ?_
  refine px_rd' rfl (rd_iface' rfl ⟨_, Try.underlying76, fun _ h => (nomatch h)⟩) rfl rfl (wt_none' rfl) ?_
  refine px_rd' rfl (rd_assign' rfl) rfl rfl (wt_none' rfl) ?_
  refine px_nil' ?_
  show TX E K18 _
  refine tx_k' hK18 ?_
  refine cx_retc' ?_
  replace hp := Option.some.inj hp
  subst hp
  refine tx_pick' (L' := [(2, (If 76 (Vp q87)))]) (H' := [⟨.pointer (some q87), [(Vi r90.1), (Vi r90.2.1), (Sl Kf r90.2.2.1), (Vi r90.2.2.2.1), (Sl (Kl (Ki .i64)) r90.2.2.2.2)], 143, none⟩]) [0] (sub_cons rfl sub_nil) (by decide) (pick_cons rfl pick_nil) ?_
  exact tx_ret1' Try.results30 rfl (q87, (none, 0, 0)) (rv_tmp' rfl) (List.Sublist.refl _)
 replace hp := (br_f h7).symm.trans hp
 refine cr fun K19 hK19 => ?_
 refine s0 (rd_bin' rfl rfl eg_int ru_eql) ?_
 refine s0 (rd_assign' rfl) ?_
 refine nk hK19 ?_
 refine cx_cond' rfl (fun h8 => ?_) (fun h8 => ?_)
 ·replace hp := (br_t h8).symm.trans hp
  refine cx_seq' fun K20 hK20 => ?_
  refine cx_plan' [] [(3, 1)] [(1, 1), (2, 1), (0, 0), (3, 0), (4, 1)] mixed (by kernel_rfl) ?_
  refine px_rd' rfl (rd_field' (off := 2) rfl Try.underlying27 rfl info3 rfl) rfl rfl (wt_none' rfl) ?_
  refine px_rd' rfl (rd_load' (i := 0) (o := 2) rfl ⟨rfl, rfl, rfl, rfl⟩ rfl flat3) rfl rfl (wt_none' rfl) ?_
  obtain ⟨r94, hr94, hp⟩ := bind_some hp
  refine px_ox' rfl (ox_calln' (ent_fn' Try.func75 isn75 rfl rfl) (gogeom_NewGeometryCollection_sim hr94 : Sx.Fn Try.prog 75 [] [] (fun x : Addr => (Vp x)) (fun x => [⟨.pointer (some x), [(Vi r94), Vn, (Vi r94)], 114, none⟩])) (Hn := fun x : Addr => [⟨.pointer (some x), [(Vi r94), Vn, (Vi r94)], 114, none⟩, ⟨.pointer (some q1), [(Vi a0_0), (Vi a0_1), (Vi a0_2), (Sl Kf a0_3), (Sl (Ki .i64) a0_4), (Sl (Kl (Ki .i64)) a0_5), (Sl KT27 a0_6)], 27, none⟩]) (fun _ => rfl) rfl rfl) rfl bs_nil (wt_none' rfl) fun q94 => ?_
  obtain ⟨r97, hr97, hp⟩ := bind_some hp
  refine px_oxb' (is := [0]) rfl (oxb_callg (ent_fn' Try.func76 isn76 rfl rfl) (gogeom_GeometryCollection_SetSRID_sim _ _ _ hr97 : Sx.Fn Try.prog 76 [(Vp q94), (Vi a0_2)] [⟨.pointer (some q94), [(Vi r94), Vn, (Vi r94)], 114, none⟩] (fun x : Unit => (Vp q94)) (fun x => [⟨.pointer (some q94), [(Vi r97.1), Vn, (Vi r97.2)], 114, none⟩])) [0] [1] (by decide) (pick_cons rfl pick_nil) (pick_cons rfl pick_nil) (Hn := fun x : Unit => [⟨.pointer (some q94), [(Vi r97.1), Vn, (Vi r97.2)], 114, none⟩, ⟨.pointer (some q1), [(Vi a0_0), (Vi a0_1), (Vi a0_2), (Sl Kf a0_3), (Sl (Ki .i64) a0_4), (Sl (Kl (Ki .i64)) a0_5), (Sl KT27 a0_6)], 27, none⟩]) (fun _ => rfl) rfl rfl) (pick_cons rfl pick_nil) rfl bl_nil (wt_none' rfl) fun ⟨⟩ => ?_
  refine px_rd' rfl (rd_assign' rfl) rfl rfl (wt_none' rfl) ?_
  refine px_nil' ?_
  show TX E K20 _
  refine tx_k' hK20 ?_
  refine cx_seq' fun K21 hK21 => ?_
  refine cr fun K22 hK22 => ?_
  refine s0 (rd_field' (off := 6) rfl Try.underlying27 rfl info25 rfl) ?_
  refine s0 (rd_load' (i := 1) (o := 6) rfl ⟨rfl, rfl, rfl, rfl⟩ rfl flat25) ?_
  refine s0 (rd_len' rfl Try.underlying25) ?_
  refine s0 (rd_move' rfl) ?_
  refine nk hK22 ?_
  refine cx_block' ?_
  obtain ⟨v10, hy1, hp⟩ := bind_some hp
  refine tx_nilrow' KG53 53 ?_
  refine cx_loopg' (F := impl_geometry_l1 a0_6 recf) (G := fun k R v => impl_geometry_l1s a0_6 recf k R v.1 v.2.1 v.2.2.1 v.2.2.2) (x := (r97.1, [], r97.2, 0)) (gh := (none, 0, 0)) (fun (v9 : Int × (List G53) × Int × Int) (w9 : Gs) => (⟨116, [], [(3, (Vi a0_1)), (5, (Vp q94)), (99, (Sl KT27 a0_6)), (100, (Vi (a0_6.length : Int))), (101, (Vi v9.2.2.2))], [⟨.pointer (some q94), [(Vi v9.1), (Vl (Vs w9)), (Vi v9.2.2.1)], 114, none⟩, (Rw KG53 53 (Vs w9) v9.2.1)]⟩ : St)) (fun (v10 : Int × (List G53) × Int) => Zg E (Exit.exit 1) (fun (w10 : Gs) => (⟨116, [], [(3, (Vi a0_1)), (5, (Vp q94))], [⟨.pointer (some q94), [(Vi v10.1), (Vl (Vs w10)), (Vi v10.2.2)], 114, none⟩, (Rw KG53 53 (Vs w10) v10.2.1)]⟩ : St))) (fun _ => rfl) (fun _ _ => rfl) ?_ hy1 (tx_to' rfl [1, 0] (sub_cons rfl (sub_cons rfl (sub_cons rfl (sub_cons rfl (sub_cons rfl sub_nil))))) (by decide) (pick_cons rfl (pick_cons rfl pick_nil))) ?_
  ·clear hp hy1
   clear v10
   intro k rec1 KY1 ih1
   rintro ⟨x35, x36, x37, x38⟩ g901 y34 hp
   replace hp : impl_geometry_l1s a0_6 recf k rec1 x35 x36 x37 x38 = some y34 := hp
   unfold impl_geometry_l1s at hp
   refine cr fun K28 hK28 => ?_
   refine s0 (rd_bin' rfl rfl eg_int ru_lss) ?_
   refine nk hK28 ?_
   refine cx_seq' fun K29 hK29 => ?_
   refine cx_cond' rfl (fun h11 => ?_) (fun h11 => ?_)
   ·replace hp := (br_t h11).symm.trans hp
    refine cx_skip' ?_
    show TX E K29 _
    refine tx_k' hK29 ?_
    refine cx_seq' fun K30 hK30 => ?_
    refine cx_block' ?_
    refine cr fun K31 hK31 => ?_
    obtain ⟨r103, hr103, hp⟩ := bind_some hp
    refine s0 (rd_eq' (congrArg Pt (KT27_enc r103)) (rd_at' (K := KT27) rfl rfl hr103 Try.underlying25 info27)) ?_
    refine s0 (rd_load_pt_agg' (nn := 7) rfl rfl agg27 (l' := [(Vi r103.f0), (Vi r103.f1), (Vi r103.f2), (Sl Kf r103.f3), (Sl (Ki .i64) r103.f4), (Sl (Kl (Ki .i64)) r103.f5), (Sl KT27 r103.f6)]) rfl) ?_
    refine sx_ox' (ox_alloc' info27 rfl rfl rfl rfl (l := [(Vi 0), (Vi 0), (Vi 0), Vn, Vn, Vn, Vn]) rfl) (wt_none' rfl) fun q7 => ?_
    refine sx_ox' (ox_store' (i := 0) (o := 0) rfl rfl (lv_ag _) ⟨rfl, rfl, rfl, rfl⟩ rfl info27 rfl (H' := [⟨.pointer (some q7), [(Vi r103.f0), (Vi r103.f1), (Vi r103.f2), (Sl Kf r103.f3), (Sl (Ki .i64) r103.f4), (Sl (Kl (Ki .i64)) r103.f5), (Sl KT27 r103.f6)], 27, none⟩, ⟨.pointer (some q94), [(Vi x35), (Vl (Vs g901)), (Vi x37)], 114, none⟩, (Rw KG53 53 (Vs g901) x36)]) rfl) (wt_none' rfl) fun _ => ?_
    refine nk hK31 ?_
    refine cx_region' ?_
    refine s0 (rd_move' rfl) ?_
    refine s0 (rd_load_agg' (i := 0) (o := 0) (nn := 7) rfl ⟨rfl, rfl, rfl, rfl⟩ rfl agg27 (l' := [(Vi r103.f0), (Vi r103.f1), (Vi r103.f2), (Sl Kf r103.f3), (Sl (Ki .i64) r103.f4), (Sl (Kl (Ki .i64)) r103.f5), (Sl KT27 r103.f6)]) rfl) ?_
    obtain ⟨r107, hr107, hp⟩ := bind_some hp
    rcases r107 with y24 | y24 | y24 | y24 | y24 | y24 | y24 | y24
    ·dsimp only at hp
     refine sx_ox' (ox_calln' (ent_fn' Try.func30 isn30 rfl rfl) (hrec _ _ _ _ _ _ _ _ hr107 : Sx.Fn Try.prog 30 [(Ag [(Vi r103.f0), (Vi r103.f1), (Vi r103.f2), (Sl Kf r103.f3), (Sl (Ki .i64) r103.f4), (Sl (Kl (Ki .i64)) r103.f5), (Sl KT27 r103.f6)])] [] (fun x : Addr × Gs => (If 72 (Vp x.1))) (fun x => [⟨.pointer (some x.1), [(Vi y24.1), (Vi y24.2.1), (Sl Kf y24.2.2.1), (Vi y24.2.2.2)], 135, none⟩])) (Hn := fun x : Addr × Gs => [⟨.pointer (some x.1), [(Vi y24.1), (Vi y24.2.1), (Sl Kf y24.2.2.1), (Vi y24.2.2.2)], 135, none⟩, ⟨.pointer (some q7), [(Vi r103.f0), (Vi r103.f1), (Vi r103.f2), (Sl Kf r103.f3), (Sl (Ki .i64) r103.f4), (Sl (Kl (Ki .i64)) r103.f5), (Sl KT27 r103.f6)], 27, none⟩, ⟨.pointer (some q94), [(Vi x35), (Vl (Vs g901)), (Vi x37)], 114, none⟩, (Rw KG53 53 (Vs g901) x36)]) (fun _ => rfl) rfl rfl) (wt_none' rfl) fun ⟨q107, g107⟩ => ?_
     refine tx_fz' (frz_var 0 [(107, (If 72 (Vp q107)), (If 72 (Pt [(Vi y24.1), (Vi y24.2.1), (Sl Kf y24.2.2.1), (Vi y24.2.2.2)])))] rfl ⟨⟨rfl, frz_if⟩, trivial⟩ (H' := [⟨.pointer (some q7), [(Vi r103.f0), (Vi r103.f1), (Vi r103.f2), (Sl Kf r103.f3), (Sl (Ki .i64) r103.f4), (Sl (Kl (Ki .i64)) r103.f5), (Sl KT27 r103.f6)], 27, none⟩, ⟨.pointer (some q94), [(Vi x35), (Vl (Vs g901)), (Vi x37)], 114, none⟩, (Rw KG53 53 (Vs g901) x36)]) frzH_refl) ?_
     refine tx_slot' 107 (y := (SG53 (G53.c0 y24.1 y24.2.1 y24.2.2.1 y24.2.2.2))) rfl (imp_eq (SG53_c0 y24.1 y24.2.1 y24.2.2.1 y24.2.2.2).symm) ?_
     refine sx_ox' (ox_rowlit' (K := KG53) (xs := [(G53.c0 y24.1 y24.2.1 y24.2.2.1 y24.2.2.2)]) (qs := [(0, [(SG53 (G53.c0 y24.1 y24.2.1 y24.2.2.1 y24.2.2.2))])]) ⟨rfl, ⟨_, rfl, (SG53_lv (G53.c0 y24.1 y24.2.1 y24.2.2.1 y24.2.2.2))⟩, trivial⟩ Try.underlying112 info53 rfl rfl rfl rfl rfl (by kernel_rfl) rfl rfl rfl) (wt_none' rfl) fun g108 => ?_
     refine tx_fz' (frz_row 0 [(108, (Vl (Vs g108)), (Sl KG53 ([(G53.c0 y24.1 y24.2.1 y24.2.2.1 y24.2.2.2)])))] (K := KG53) (xs := [(G53.c0 y24.1 y24.2.1 y24.2.2.1 y24.2.2.2)]) (by decide) rfl ⟨⟨rfl, frz_it⟩, trivial⟩ (H' := [⟨.pointer (some q7), [(Vi r103.f0), (Vi r103.f1), (Vi r103.f2), (Sl Kf r103.f3), (Sl (Ki .i64) r103.f4), (Sl (Kl (Ki .i64)) r103.f5), (Sl KT27 r103.f6)], 27, none⟩, ⟨.pointer (some q94), [(Vi x35), (Vl (Vs g901)), (Vi x37)], 114, none⟩, (Rw KG53 53 (Vs g901) x36)]) frzH_refl) ?_
     obtain ⟨r109, hr109, hp⟩ := bind_some hp
     refine sx_ox' (ox_callg' (ent_fn' Try.func77 isn77 rfl rfl) (gogeom_GeometryCollection_MustPush_v2_sim _ _ _ _ hr109 : Sx.Fn Try.prog 77 [(Vp q94), (Sl KG53 ([(G53.c0 y24.1 y24.2.1 y24.2.2.1 y24.2.2.2)]))] [⟨.pointer (some q94), [(Vi x35), (Vl (Vs g901)), (Vi x37)], 114, none⟩, (Rw KG53 53 (Vs g901) x36)] (fun x : Gs => (Vp q94)) (fun x => [⟨.pointer (some q94), [(Vi r109.1), (Vl (Vs x)), (Vi r109.2.2)], 114, none⟩, (Rw KG53 53 (Vs x) r109.2.1)])) [1, 2] [0] (by decide) (pick_cons rfl (pick_cons rfl pick_nil)) (pick_cons rfl pick_nil) (Hn := fun x : Gs => [⟨.pointer (some q94), [(Vi r109.1), (Vl (Vs x)), (Vi r109.2.2)], 114, none⟩, (Rw KG53 53 (Vs x) r109.2.1), ⟨.pointer (some q7), [(Vi r103.f0), (Vi r103.f1), (Vi r103.f2), (Sl Kf r103.f3), (Sl (Ki .i64) r103.f4), (Sl (Kl (Ki .i64)) r103.f5), (Sl KT27 r103.f6)], 27, none⟩]) (fun _ => rfl) rfl rfl) (wt_none' rfl) fun g109 => ?_
     refine nk hK30 ?_
     refine cx_region' ?_
     refine s0 (rd_bin' rfl rfl eg_int ru_add) ?_
     refine s0 (rd_move' rfl) ?_
     refine sx_nil' ?_
     show TX E (KY1 _) _
     exact tx_pick' [0, 1] (sub_cons rfl (sub_cons rfl (sub_cons rfl (sub_cons rfl (sub_cons rfl sub_nil))))) (by decide) (pick_cons rfl (pick_cons rfl pick_nil)) (ih1 (r109.1, r109.2.1, r109.2.2, (iadd .i64 x38 1)) g109 _ hp)
    ·dsimp only at hp
     refine sx_ox' (ox_calln' (ent_fn' Try.func30 isn30 rfl rfl) (hrec _ _ _ _ _ _ _ _ hr107 : Sx.Fn Try.prog 30 [(Ag [(Vi r103.f0), (Vi r103.f1), (Vi r103.f2), (Sl Kf r103.f3), (Sl (Ki .i64) r103.f4), (Sl (Kl (Ki .i64)) r103.f5), (Sl KT27 r103.f6)])] [] (fun x : Addr × Gs => (If 75 (Vp x.1))) (fun x => [⟨.pointer (some x.1), [(Vi y24.1), (Vi y24.2.1), (Sl Kf y24.2.2.1), (Vi y24.2.2.2)], 138, none⟩])) (Hn := fun x : Addr × Gs => [⟨.pointer (some x.1), [(Vi y24.1), (Vi y24.2.1), (Sl Kf y24.2.2.1), (Vi y24.2.2.2)], 138, none⟩, ⟨.pointer (some q7), [(Vi r103.f0), (Vi r103.f1), (Vi r103.f2), (Sl Kf r103.f3), (Sl (Ki .i64) r103.f4), (Sl (Kl (Ki .i64)) r103.f5), (Sl KT27 r103.f6)], 27, none⟩, ⟨.pointer (some q94), [(Vi x35), (Vl (Vs g901)), (Vi x37)], 114, none⟩, (Rw KG53 53 (Vs g901) x36)]) (fun _ => rfl) rfl rfl) (wt_none' rfl) fun ⟨q107, g107⟩ => ?_
     refine tx_fz' (frz_var 0 [(107, (If 75 (Vp q107)), (If 75 (Pt [(Vi y24.1), (Vi y24.2.1), (Sl Kf y24.2.2.1), (Vi y24.2.2.2)])))] rfl ⟨⟨rfl, frz_if⟩, trivial⟩ (H' := [⟨.pointer (some q7), [(Vi r103.f0), (Vi r103.f1), (Vi r103.f2), (Sl Kf r103.f3), (Sl (Ki .i64) r103.f4), (Sl (Kl (Ki .i64)) r103.f5), (Sl KT27 r103.f6)], 27, none⟩, ⟨.pointer (some q94), [(Vi x35), (Vl (Vs g901)), (Vi x37)], 114, none⟩, (Rw KG53 53 (Vs g901) x36)]) frzH_refl) ?_
     refine tx_slot' 107 (y := (SG53 (G53.c1 y24.1 y24.2.1 y24.2.2.1 y24.2.2.2))) rfl (imp_eq (SG53_c1 y24.1 y24.2.1 y24.2.2.1 y24.2.2.2).symm) ?_
     refine sx_ox' (ox_rowlit' (K := KG53) (xs := [(G53.c1 y24.1 y24.2.1 y24.2.2.1 y24.2.2.2)]) (qs := [(0, [(SG53 (G53.c1 y24.1 y24.2.1 y24.2.2.1 y24.2.2.2))])]) ⟨rfl, ⟨_, rfl, (SG53_lv (G53.c1 y24.1 y24.2.1 y24.2.2.1 y24.2.2.2))⟩, trivial⟩ Try.underlying112 info53 rfl rfl rfl rfl rfl (by kernel_rfl) rfl rfl rfl) (wt_none' rfl) fun g108 => ?_
     refine tx_fz' (frz_row 0 [(108, (Vl (Vs g108)), (Sl KG53 ([(G53.c1 y24.1 y24.2.1 y24.2.2.1 y24.2.2.2)])))] (K := KG53) (xs := [(G53.c1 y24.1 y24.2.1 y24.2.2.1 y24.2.2.2)]) (by decide) rfl ⟨⟨rfl, frz_it⟩, trivial⟩ (H' := [⟨.pointer (some q7), [(Vi r103.f0), (Vi r103.f1), (Vi r103.f2), (Sl Kf r103.f3), (Sl (Ki .i64) r103.f4), (Sl (Kl (Ki .i64)) r103.f5), (Sl KT27 r103.f6)], 27, none⟩, ⟨.pointer (some q94), [(Vi x35), (Vl (Vs g901)), (Vi x37)], 114, none⟩, (Rw KG53 53 (Vs g901) x36)]) frzH_refl) ?_
     obtain ⟨r109, hr109, hp⟩ := bind_some hp
     refine sx_ox' (ox_callg' (ent_fn' Try.func77 isn77 rfl rfl) (gogeom_GeometryCollection_MustPush_v2_sim _ _ _ _ hr109 : Sx.Fn Try.prog 77 [(Vp q94), (Sl KG53 ([(G53.c1 y24.1 y24.2.1 y24.2.2.1 y24.2.2.2)]))] [⟨.pointer (some q94), [(Vi x35), (Vl (Vs g901)), (Vi x37)], 114, none⟩, (Rw KG53 53 (Vs g901) x36)] (fun x : Gs => (Vp q94)) (fun x => [⟨.pointer (some q94), [(Vi r109.1), (Vl (Vs x)), (Vi r109.2.2)], 114, none⟩, (Rw KG53 53 (Vs x) r109.2.1)])) [1, 2] [0] (by decide) (pick_cons rfl (pick_cons rfl pick_nil)) (pick_cons rfl pick_nil) (Hn := fun x : Gs => [⟨.pointer (some q94), [(Vi r109.1), (Vl (Vs x)), (Vi r109.2.2)], 114, none⟩, (Rw KG53 53 (Vs x) r109.2.1), ⟨.pointer (some q7), [(Vi r103.f0), (Vi r103.f1), (Vi r103.f2), (Sl Kf r103.f3), (Sl (Ki .i64) r103.f4), (Sl (Kl (Ki .i64)) r103.f5), (Sl KT27 r103.f6)], 27, none⟩]) (fun _ => rfl) rfl rfl) (wt_none' rfl) fun g109 => ?_
     refine nk hK30 ?_
     refine cx_region' ?_
     refine s0 (rd_bin' rfl rfl eg_int ru_add) ?_
     refine s0 (rd_move' rfl) ?_
     refine sx_nil' ?_
     show TX E (KY1 _) _
     exact tx_pick' [0, 1] (sub_cons rfl (sub_cons rfl (sub_cons rfl (sub_cons rfl (sub_cons rfl sub_nil))))) (by decide) (pick_cons rfl (pick_cons rfl pick_nil)) (ih1 (r109.1, r109.2.1, r109.2.2, (iadd .i64 x38 1)) g109 _ hp)
    ·dsimp only at hp
     refine sx_ox' (ox_calln' (ent_fn' Try.func30 isn30 rfl rfl) (hrec _ _ _ _ _ _ _ _ hr107 : Sx.Fn Try.prog 30 [(Ag [(Vi r103.f0), (Vi r103.f1), (Vi r103.f2), (Sl Kf r103.f3), (Sl (Ki .i64) r103.f4), (Sl (Kl (Ki .i64)) r103.f5), (Sl KT27 r103.f6)])] [] (fun x : Addr × Gs => (If 69 (Vp x.1))) (fun x => [⟨.pointer (some x.1), [(Vi y24.1), (Vi y24.2.1), (Sl Kf y24.2.2.1), (Vi y24.2.2.2)], 128, none⟩])) (Hn := fun x : Addr × Gs => [⟨.pointer (some x.1), [(Vi y24.1), (Vi y24.2.1), (Sl Kf y24.2.2.1), (Vi y24.2.2.2)], 128, none⟩, ⟨.pointer (some q7), [(Vi r103.f0), (Vi r103.f1), (Vi r103.f2), (Sl Kf r103.f3), (Sl (Ki .i64) r103.f4), (Sl (Kl (Ki .i64)) r103.f5), (Sl KT27 r103.f6)], 27, none⟩, ⟨.pointer (some q94), [(Vi x35), (Vl (Vs g901)), (Vi x37)], 114, none⟩, (Rw KG53 53 (Vs g901) x36)]) (fun _ => rfl) rfl rfl) (wt_none' rfl) fun ⟨q107, g107⟩ => ?_
     refine tx_fz' (frz_var 0 [(107, (If 69 (Vp q107)), (If 69 (Pt [(Vi y24.1), (Vi y24.2.1), (Sl Kf y24.2.2.1), (Vi y24.2.2.2)])))] rfl ⟨⟨rfl, frz_if⟩, trivial⟩ (H' := [⟨.pointer (some q7), [(Vi r103.f0), (Vi r103.f1), (Vi r103.f2), (Sl Kf r103.f3), (Sl (Ki .i64) r103.f4), (Sl (Kl (Ki .i64)) r103.f5), (Sl KT27 r103.f6)], 27, none⟩, ⟨.pointer (some q94), [(Vi x35), (Vl (Vs g901)), (Vi x37)], 114, none⟩, (Rw KG53 53 (Vs g901) x36)]) frzH_refl) ?_
     refine tx_slot' 107 (y := (SG53 (G53.c2 y24.1 y24.2.1 y24.2.2.1 y24.2.2.2))) rfl (imp_eq (SG53_c2 y24.1 y24.2.1 y24.2.2.1 y24.2.2.2).symm) ?_
     refine sx_ox' (ox_rowlit' (K := KG53) (xs := [(G53.c2 y24.1 y24.2.1 y24.2.2.1 y24.2.2.2)]) (qs := [(0, [(SG53 (G53.c2 y24.1 y24.2.1 y24.2.2.1 y24.2.2.2))])]) ⟨rfl, ⟨_, rfl, (SG53_lv (G53.c2 y24.1 y24.2.1 y24.2.2.1 y24.2.2.2))⟩, trivial⟩ Try.underlying112 info53 rfl rfl rfl rfl rfl (by kernel_rfl) rfl rfl rfl) (wt_none' rfl) fun g108 => ?_
     refine tx_fz' (frz_row 0 [(108, (Vl (Vs g108)), (Sl KG53 ([(G53.c2 y24.1 y24.2.1 y24.2.2.1 y24.2.2.2)])))] (K := KG53) (xs := [(G53.c2 y24.1 y24.2.1 y24.2.2.1 y24.2.2.2)]) (by decide) rfl ⟨⟨rfl, frz_it⟩, trivial⟩ (H' := [⟨.pointer (some q7), [(Vi r103.f0), (Vi r103.f1), (Vi r103.f2), (Sl Kf r103.f3), (Sl (Ki .i64) r103.f4), (Sl (Kl (Ki .i64)) r103.f5), (Sl KT27 r103.f6)], 27, none⟩, ⟨.pointer (some q94), [(Vi x35), (Vl (Vs g901)), (Vi x37)], 114, none⟩, (Rw KG53 53 (Vs g901) x36)]) frzH_refl) ?_
     obtain ⟨r109, hr109, hp⟩ := bind_some hp
     refine sx_ox' (ox_callg' (ent_fn' Try.func77 isn77 rfl rfl) (gogeom_GeometryCollection_MustPush_v2_sim _ _ _ _ hr109 : Sx.Fn Try.prog 77 [(Vp q94), (Sl KG53 ([(G53.c2 y24.1 y24.2.1 y24.2.2.1 y24.2.2.2)]))] [⟨.pointer (some q94), [(Vi x35), (Vl (Vs g901)), (Vi x37)], 114, none⟩, (Rw KG53 53 (Vs g901) x36)] (fun x : Gs => (Vp q94)) (fun x => [⟨.pointer (some q94), [(Vi r109.1), (Vl (Vs x)), (Vi r109.2.2)], 114, none⟩, (Rw KG53 53 (Vs x) r109.2.1)])) [1, 2] [0] (by decide) (pick_cons rfl (pick_cons rfl pick_nil)) (pick_cons rfl pick_nil) (Hn := fun x : Gs => [⟨.pointer (some q94), [(Vi r109.1), (Vl (Vs x)), (Vi r109.2.2)], 114, none⟩, (Rw KG53 53 (Vs x) r109.2.1), ⟨.pointer (some q7), [(Vi r103.f0), (Vi r103.f1), (Vi r103.f2), (Sl Kf r103.f3), (Sl (Ki .i64) r103.f4), (Sl (Kl (Ki .i64)) r103.f5), (Sl KT27 r103.f6)], 27, none⟩]) (fun _ => rfl) rfl rfl) (wt_none' rfl) fun g109 => ?_
     refine nk hK30 ?_
     refine cx_region' ?_
     refine s0 (rd_bin' rfl rfl eg_int ru_add) ?_
     refine s0 (rd_move' rfl) ?_
     refine sx_nil' ?_
     show TX E (KY1 _) _
     exact tx_pick' [0, 1] (sub_cons rfl (sub_cons rfl (sub_cons rfl (sub_cons rfl (sub_cons rfl sub_nil))))) (by decide) (pick_cons rfl (pick_cons rfl pick_nil)) (ih1 (r109.1, r109.2.1, r109.2.2, (iadd .i64 x38 1)) g109 _ hp)
    ·dsimp only at hp
     refine sx_ox' (ox_calln' (ent_fn' Try.func30 isn30 rfl rfl) (hrec _ _ _ _ _ _ _ _ hr107 : Sx.Fn Try.prog 30 [(Ag [(Vi r103.f0), (Vi r103.f1), (Vi r103.f2), (Sl Kf r103.f3), (Sl (Ki .i64) r103.f4), (Sl (Kl (Ki .i64)) r103.f5), (Sl KT27 r103.f6)])] [] (fun x : Addr × Gs => (If 67 (Vp x.1))) (fun x => [⟨.pointer (some x.1), [(Vi y24.1), (Vi y24.2.1), (Sl Kf y24.2.2.1), (Vi y24.2.2.2.1), (Sl (Ki .i64) y24.2.2.2.2)], 132, none⟩])) (Hn := fun x : Addr × Gs => [⟨.pointer (some x.1), [(Vi y24.1), (Vi y24.2.1), (Sl Kf y24.2.2.1), (Vi y24.2.2.2.1), (Sl (Ki .i64) y24.2.2.2.2)], 132, none⟩, ⟨.pointer (some q7), [(Vi r103.f0), (Vi r103.f1), (Vi r103.f2), (Sl Kf r103.f3), (Sl (Ki .i64) r103.f4), (Sl (Kl (Ki .i64)) r103.f5), (Sl KT27 r103.f6)], 27, none⟩, ⟨.pointer (some q94), [(Vi x35), (Vl (Vs g901)), (Vi x37)], 114, none⟩, (Rw KG53 53 (Vs g901) x36)]) (fun _ => rfl) rfl rfl) (wt_none' rfl) fun ⟨q107, g107⟩ => ?_
     refine tx_fz' (frz_var 0 [(107, (If 67 (Vp q107)), (If 67 (Pt [(Vi y24.1), (Vi y24.2.1), (Sl Kf y24.2.2.1), (Vi y24.2.2.2.1), (Sl (Ki .i64) y24.2.2.2.2)])))] rfl ⟨⟨rfl, frz_if⟩, trivial⟩ (H' := [⟨.pointer (some q7), [(Vi r103.f0), (Vi r103.f1), (Vi r103.f2), (Sl Kf r103.f3), (Sl (Ki .i64) r103.f4), (Sl (Kl (Ki .i64)) r103.f5), (Sl KT27 r103.f6)], 27, none⟩, ⟨.pointer (some q94), [(Vi x35), (Vl (Vs g901)), (Vi x37)], 114, none⟩, (Rw KG53 53 (Vs g901) x36)]) frzH_refl) ?_
     refine tx_slot' 107 (y := (SG53 (G53.c3 y24.1 y24.2.1 y24.2.2.1 y24.2.2.2.1 y24.2.2.2.2))) rfl (imp_eq (SG53_c3 y24.1 y24.2.1 y24.2.2.1 y24.2.2.2.1 y24.2.2.2.2).symm) ?_
     refine sx_ox' (ox_rowlit' (K := KG53) (xs := [(G53.c3 y24.1 y24.2.1 y24.2.2.1 y24.2.2.2.1 y24.2.2.2.2)]) (qs := [(0, [(SG53 (G53.c3 y24.1 y24.2.1 y24.2.2.1 y24.2.2.2.1 y24.2.2.2.2))])]) ⟨rfl, ⟨_, rfl, (SG53_lv (G53.c3 y24.1 y24.2.1 y24.2.2.1 y24.2.2.2.1 y24.2.2.2.2))⟩, trivial⟩ Try.underlying112 info53 rfl rfl rfl rfl rfl (by kernel_rfl) rfl rfl rfl) (wt_none' rfl) fun g108 => ?_
     refine tx_fz' (frz_row 0 [(108, (Vl (Vs g108)), (Sl KG53 ([(G53.c3 y24.1 y24.2.1 y24.2.2.1 y24.2.2.2.1 y24.2.2.2.2)])))] (K := KG53) (xs := [(G53.c3 y24.1 y24.2.1 y24.2.2.1 y24.2.2.2.1 y24.2.2.2.2)]) (by decide) rfl ⟨⟨rfl, frz_it⟩, trivial⟩ (H' := [⟨.pointer (some q7), [(Vi r103.f0), (Vi r103.f1), (Vi r103.f2), (Sl Kf r103.f3), (Sl (Ki .i64) r103.f4), (Sl (Kl (Ki .i64)) r103.f5), (Sl KT27 r103.f6)], 27, none⟩, ⟨.pointer (some q94), [(Vi x35), (Vl (Vs g901)), (Vi x37)], 114, none⟩, (Rw KG53 53 (Vs g901) x36)]) frzH_refl) ?_
     obtain ⟨r109, hr109, hp⟩ := bind_some hp
     refine sx_ox' (ox_callg' (ent_fn' Try.func77 isn77 rfl rfl) (gogeom_GeometryCollection_MustPush_v2_sim _ _ _ _ hr109 : Sx.Fn Try.prog 77 [(Vp q94), (Sl KG53 ([(G53.c3 y24.1 y24.2.1 y24.2.2.1 y24.2.2.2.1 y24.2.2.2.2)]))] [⟨.pointer (some q94), [(Vi x35), (Vl (Vs g901)), (Vi x37)], 114, none⟩, (Rw KG53 53 (Vs g901) x36)] (fun x : Gs => (Vp q94)) (fun x => [⟨.pointer (some q94), [(Vi r109.1), (Vl (Vs x)), (Vi r109.2.2)], 114, none⟩, (Rw KG53 53 (Vs x) r109.2.1)])) [1, 2] [0] (by decide) (pick_cons rfl (pick_cons rfl pick_nil)) (pick_cons rfl pick_nil) (Hn := fun x : Gs => [⟨.pointer (some q94), [(Vi r109.1), (Vl (Vs x)), (Vi r109.2.2)], 114, none⟩, (Rw KG53 53 (Vs x) r109.2.1), ⟨.pointer (some q7), [(Vi r103.f0), (Vi r103.f1), (Vi r103.f2), (Sl Kf r103.f3), (Sl (Ki .i64) r103.f4), (Sl (Kl (Ki .i64)) r103.f5), (Sl KT27 r103.f6)], 27, none⟩]) (fun _ => rfl) rfl rfl) (wt_none' rfl) fun g109 => ?_
     refine nk hK30 ?_
     refine cx_region' ?_
     refine s0 (rd_bin' rfl rfl eg_int ru_add) ?_
     refine s0 (rd_move' rfl) ?_
     refine sx_nil' ?_
     show TX E (KY1 _) _
     exact tx_pick' [0, 1] (sub_cons rfl (sub_cons rfl (sub_cons rfl (sub_cons rfl (sub_cons rfl sub_nil))))) (by decide) (pick_cons rfl (pick_cons rfl pick_nil)) (ih1 (r109.1, r109.2.1, r109.2.2, (iadd .i64 x38 1)) g109 _ hp)
    ·dsimp only at hp
     refine sx_ox' (ox_calln' (ent_fn' Try.func30 isn30 rfl rfl) (hrec _ _ _ _ _ _ _ _ hr107 : Sx.Fn Try.prog 30 [(Ag [(Vi r103.f0), (Vi r103.f1), (Vi r103.f2), (Sl Kf r103.f3), (Sl (Ki .i64) r103.f4), (Sl (Kl (Ki .i64)) r103.f5), (Sl KT27 r103.f6)])] [] (fun x : Addr × Gs => (If 70 (Vp x.1))) (fun x => [⟨.pointer (some x.1), [(Vi y24.1), (Vi y24.2.1), (Sl Kf y24.2.2.1), (Vi y24.2.2.2.1), (Sl (Ki .i64) y24.2.2.2.2)], 136, none⟩])) (Hn := fun x : Addr × Gs => [⟨.pointer (some x.1), [(Vi y24.1), (Vi y24.2.1), (Sl Kf y24.2.2.1), (Vi y24.2.2.2.1), (Sl (Ki .i64) y24.2.2.2.2)], 136, none⟩, ⟨.pointer (some q7), [(Vi r103.f0), (Vi r103.f1), (Vi r103.f2), (Sl Kf r103.f3), (Sl (Ki .i64) r103.f4), (Sl (Kl (Ki .i64)) r103.f5), (Sl KT27 r103.f6)], 27, none⟩, ⟨.pointer (some q94), [(Vi x35), (Vl (Vs g901)), (Vi x37)], 114, none⟩, (Rw KG53 53 (Vs g901) x36)]) (fun _ => rfl) rfl rfl) (wt_none' rfl) fun ⟨q107, g107⟩ => ?_
     refine tx_fz' (frz_var 0 [(107, (If 70 (Vp q107)), (If 70 (Pt [(Vi y24.1), (Vi y24.2.1), (Sl Kf y24.2.2.1), (Vi y24.2.2.2.1), (Sl (Ki .i64) y24.2.2.2.2)])))] rfl ⟨⟨rfl, frz_if⟩, trivial⟩ (H' := [⟨.pointer (some q7), [(Vi r103.f0), (Vi r103.f1), (Vi r103.f2), (Sl Kf r103.f3), (Sl (Ki .i64) r103.f4), (Sl (Kl (Ki .i64)) r103.f5), (Sl KT27 r103.f6)], 27, none⟩, ⟨.pointer (some q94), [(Vi x35), (Vl (Vs g901)), (Vi x37)], 114, none⟩, (Rw KG53 53 (Vs g901) x36)]) frzH_refl) ?_
     refine tx_slot' 107 (y := (SG53 (G53.c4 y24.1 y24.2.1 y24.2.2.1 y24.2.2.2.1 y24.2.2.2.2))) rfl (imp_eq (SG53_c4 y24.1 y24.2.1 y24.2.2.1 y24.2.2.2.1 y24.2.2.2.2).symm) ?_
     refine sx_ox' (ox_rowlit' (K := KG53) (xs := [(G53.c4 y24.1 y24.2.1 y24.2.2.1 y24.2.2.2.1 y24.2.2.2.2)]) (qs := [(0, [(SG53 (G53.c4 y24.1 y24.2.1 y24.2.2.1 y24.2.2.2.1 y24.2.2.2.2))])]) ⟨rfl, ⟨_, rfl, (SG53_lv (G53.c4 y24.1 y24.2.1 y24.2.2.1 y24.2.2.2.1 y24.2.2.2.2))⟩, trivial⟩ Try.underlying112 info53 rfl rfl rfl rfl rfl (by kernel_rfl) rfl rfl rfl) (wt_none' rfl) fun g108 => ?_
     refine tx_fz' (frz_row 0 [(108, (Vl (Vs g108)), (Sl KG53 ([(G53.c4 y24.1 y24.2.1 y24.2.2.1 y24.2.2.2.1 y24.2.2.2.2)])))] (K := KG53) (xs := [(G53.c4 y24.1 y24.2.1 y24.2.2.1 y24.2.2.2.1 y24.2.2.2.2)]) (by decide) rfl ⟨⟨rfl, frz_it⟩, trivial⟩ (H' := [⟨.pointer (some q7), [(Vi r103.f0), (Vi r103.f1), (Vi r103.f2), (Sl Kf r103.f3), (Sl (Ki .i64) r103.f4), (Sl (Kl (Ki .i64)) r103.f5), (Sl KT27 r103.f6)], 27, none⟩, ⟨.pointer (some q94), [(Vi x35), (Vl (Vs g901)), (Vi x37)], 114, none⟩, (Rw KG53 53 (Vs g901) x36)]) frzH_refl) ?_
     obtain ⟨r109, hr109, hp⟩ := bind_some hp
     refine sx_ox' (ox_callg' (ent_fn' Try.func77 isn77 rfl rfl) (gogeom_GeometryCollection_MustPush_v2_sim _ _ _ _ hr109 : Sx.Fn Try.prog 77 [(Vp q94), (Sl KG53 ([(G53.c4 y24.1 y24.2.1 y24.2.2.1 y24.2.2.2.1 y24.2.2.2.2)]))] [⟨.pointer (some q94), [(Vi x35), (Vl (Vs g901)), (Vi x37)], 114, none⟩, (Rw KG53 53 (Vs g901) x36)] (fun x : Gs => (Vp q94)) (fun x => [⟨.pointer (some q94), [(Vi r109.1), (Vl (Vs x)), (Vi r109.2.2)], 114, none⟩, (Rw KG53 53 (Vs x) r109.2.1)])) [1, 2] [0] (by decide) (pick_cons rfl (pick_cons rfl pick_nil)) (pick_cons rfl pick_nil) (Hn := fun x : Gs => [⟨.pointer (some q94), [(Vi r109.1), (Vl (Vs x)), (Vi r109.2.2)], 114, none⟩, (Rw KG53 53 (Vs x) r109.2.1), ⟨.pointer (some q7), [(Vi r103.f0), (Vi r103.f1), (Vi r103.f2), (Sl Kf r103.f3), (Sl (Ki .i64) r103.f4), (Sl (Kl (Ki .i64)) r103.f5), (Sl KT27 r103.f6)], 27, none⟩]) (fun _ => rfl) rfl rfl) (wt_none' rfl) fun g109 => ?_
     refine nk hK30 ?_
     refine cx_region' ?_
     refine s0 (rd_bin' rfl rfl eg_int ru_add) ?_
     refine s0 (rd_move' rfl) ?_
     refine sx_nil' ?_
     show TX E (KY1 _) _
     exact tx_pick' [0, 1] (sub_cons rfl (sub_cons rfl (sub_cons rfl (sub_cons rfl (sub_cons rfl sub_nil))))) (by decide) (pick_cons rfl (pick_cons rfl pick_nil)) (ih1 (r109.1, r109.2.1, r109.2.2, (iadd .i64 x38 1)) g109 _ hp)
    ·dsimp only at hp
     refine sx_ox' (ox_calln' (ent_fn' Try.func30 isn30 rfl rfl) (hrec _ _ _ _ _ _ _ _ hr107 : Sx.Fn Try.prog 30 [(Ag [(Vi r103.f0), (Vi r103.f1), (Vi r103.f2), (Sl Kf r103.f3), (Sl (Ki .i64) r103.f4), (Sl (Kl (Ki .i64)) r103.f5), (Sl KT27 r103.f6)])] [] (fun x : Addr × Gs => (If 73 (Vp x.1))) (fun x => [⟨.pointer (some x.1), [(Vi y24.1), (Vi y24.2.1), (Sl Kf y24.2.2.1), (Vi y24.2.2.2.1), (Sl (Ki .i64) y24.2.2.2.2)], 139, none⟩])) (Hn := fun x : Addr × Gs => [⟨.pointer (some x.1), [(Vi y24.1), (Vi y24.2.1), (Sl Kf y24.2.2.1), (Vi y24.2.2.2.1), (Sl (Ki .i64) y24.2.2.2.2)], 139, none⟩, ⟨.pointer (some q7), [(Vi r103.f0), (Vi r103.f1), (Vi r103.f2), (Sl Kf r103.f3), (Sl (Ki .i64) r103.f4), (Sl (Kl (Ki .i64)) r103.f5), (Sl KT27 r103.f6)], 27, none⟩, ⟨.pointer (some q94), [(Vi x35), (Vl (Vs g901)), (Vi x37)], 114, none⟩, (Rw KG53 53 (Vs g901) x36)]) (fun _ => rfl) rfl rfl) (wt_none' rfl) fun ⟨q107, g107⟩ => ?_
     refine tx_fz' (frz_var 0 [(107, (If 73 (Vp q107)), (If 73 (Pt [(Vi y24.1), (Vi y24.2.1), (Sl Kf y24.2.2.1), (Vi y24.2.2.2.1), (Sl (Ki .i64) y24.2.2.2.2)])))] rfl ⟨⟨rfl, frz_if⟩, trivial⟩ (H' := [⟨.pointer (some q7), [(Vi r103.f0), (Vi r103.f1), (Vi r103.f2), (Sl Kf r103.f3), (Sl (Ki .i64) r103.f4), (Sl (Kl (Ki .i64)) r103.f5), (Sl KT27 r103.f6)], 27, none⟩, ⟨.pointer (some q94), [(Vi x35), (Vl (Vs g901)), (Vi x37)], 114, none⟩, (Rw KG53 53 (Vs g901) x36)]) frzH_refl) ?_
     refine tx_slot' 107 (y := (SG53 (G53.c5 y24.1 y24.2.1 y24.2.2.1 y24.2.2.2.1 y24.2.2.2.2))) rfl (imp_eq (SG53_c5 y24.1 y24.2.1 y24.2.2.1 y24.2.2.2.1 y24.2.2.2.2).symm) ?_
     refine sx_ox' (ox_rowlit' (K := KG53) (xs := [(G53.c5 y24.1 y24.2.1 y24.2.2.1 y24.2.2.2.1 y24.2.2.2.2)]) (qs := [(0, [(SG53 (G53.c5 y24.1 y24.2.1 y24.2.2.1 y24.2.2.2.1 y24.2.2.2.2))])]) ⟨rfl, ⟨_, rfl, (SG53_lv (G53.c5 y24.1 y24.2.1 y24.2.2.1 y24.2.2.2.1 y24.2.2.2.2))⟩, trivial⟩ Try.underlying112 info53 rfl rfl rfl rfl rfl (by kernel_rfl) rfl rfl rfl) (wt_none' rfl) fun g108 => ?_
     refine tx_fz' (frz_row 0 [(108, (Vl (Vs g108)), (Sl KG53 ([(G53.c5 y24.1 y24.2.1 y24.2.2.1 y24.2.2.2.1 y24.2.2.2.2)])))] (K := KG53) (xs := [(G53.c5 y24.1 y24.2.1 y24.2.2.1 y24.2.2.2.1 y24.2.2.2.2)]) (by decide) rfl ⟨⟨rfl, frz_it⟩, trivial⟩ (H' := [⟨.pointer (some q7), [(Vi r103.f0), (Vi r103.f1), (Vi r103.f2), (Sl Kf r103.f3), (Sl (Ki .i64) r103.f4), (Sl (Kl (Ki .i64)) r103.f5), (Sl KT27 r103.f6)], 27, none⟩, ⟨.pointer (some q94), [(Vi x35), (Vl (Vs g901)), (Vi x37)], 114, none⟩, (Rw KG53 53 (Vs g901) x36)]) frzH_refl) ?_
     obtain ⟨r109, hr109, hp⟩ := bind_some hp
     refine sx_ox' (ox_callg' (ent_fn' Try.func77 isn77 rfl rfl) (gogeom_GeometryCollection_MustPush_v2_sim _ _ _ _ hr109 : Sx.Fn Try.prog 77 [(Vp q94), (Sl KG53 ([(G53.c5 y24.1 y24.2.1 y24.2.2.1 y24.2.2.2.1 y24.2.2.2.2)]))] [⟨.pointer (some q94), [(Vi x35), (Vl (Vs g901)), (Vi x37)], 114, none⟩, (Rw KG53 53 (Vs g901) x36)] (fun x : Gs => (Vp q94)) (fun x => [⟨.pointer (some q94), [(Vi r109.1), (Vl (Vs x)), (Vi r109.2.2)], 114, none⟩, (Rw KG53 53 (Vs x) r109.2.1)])) [1, 2] [0] (by decide) (pick_cons rfl (pick_cons rfl pick_nil)) (pick_cons rfl pick_nil) (Hn := fun x : Gs => [⟨.pointer (some q94), [(Vi r109.1), (Vl (Vs x)), (Vi r109.2.2)], 114, none⟩, (Rw KG53 53 (Vs x) r109.2.1), ⟨.pointer (some q7), [(Vi r103.f0), (Vi r103.f1), (Vi r103.f2), (Sl Kf r103.f3), (Sl (Ki .i64) r103.f4), (Sl (Kl (Ki .i64)) r103.f5), (Sl KT27 r103.f6)], 27, none⟩]) (fun _ => rfl) rfl rfl) (wt_none' rfl) fun g109 => ?_
     refine nk hK30 ?_
     refine cx_region' ?_
     refine s0 (rd_bin' rfl rfl eg_int ru_add) ?_
     refine s0 (rd_move' rfl) ?_
     refine sx_nil' ?_
     show TX E (KY1 _) _
     exact tx_pick' [0, 1] (sub_cons rfl (sub_cons rfl (sub_cons rfl (sub_cons rfl (sub_cons rfl sub_nil))))) (by decide) (pick_cons rfl (pick_cons rfl pick_nil)) (ih1 (r109.1, r109.2.1, r109.2.2, (iadd .i64 x38 1)) g109 _ hp)
    ·dsimp only at hp
     refine sx_ox' (ox_calln' (ent_fn' Try.func30 isn30 rfl rfl) (hrec _ _ _ _ _ _ _ _ hr107 : Sx.Fn Try.prog 30 [(Ag [(Vi r103.f0), (Vi r103.f1), (Vi r103.f2), (Sl Kf r103.f3), (Sl (Ki .i64) r103.f4), (Sl (Kl (Ki .i64)) r103.f5), (Sl KT27 r103.f6)])] [] (fun x : Addr × Gs => (If 76 (Vp x.1))) (fun x => [⟨.pointer (some x.1), [(Vi y24.1), (Vi y24.2.1), (Sl Kf y24.2.2.1), (Vi y24.2.2.2.1), (Sl (Kl (Ki .i64)) y24.2.2.2.2)], 143, none⟩])) (Hn := fun x : Addr × Gs => [⟨.pointer (some x.1), [(Vi y24.1), (Vi y24.2.1), (Sl Kf y24.2.2.1), (Vi y24.2.2.2.1), (Sl (Kl (Ki .i64)) y24.2.2.2.2)], 143, none⟩, ⟨.pointer (some q7), [(Vi r103.f0), (Vi r103.f1), (Vi r103.f2), (Sl Kf r103.f3), (Sl (Ki .i64) r103.f4), (Sl (Kl (Ki .i64)) r103.f5), (Sl KT27 r103.f6)], 27, none⟩, ⟨.pointer (some q94), [(Vi x35), (Vl (Vs g901)), (Vi x37)], 114, none⟩, (Rw KG53 53 (Vs g901) x36)]) (fun _ => rfl) rfl rfl) (wt_none' rfl) fun ⟨q107, g107⟩ => ?_
     refine tx_fz' (frz_var 0 [(107, (If 76 (Vp q107)), (If 76 (Pt [(Vi y24.1), (Vi y24.2.1), (Sl Kf y24.2.2.1), (Vi y24.2.2.2.1), (Sl (Kl (Ki .i64)) y24.2.2.2.2)])))] rfl ⟨⟨rfl, frz_if⟩, trivial⟩ (H' := [⟨.pointer (some q7), [(Vi r103.f0), (Vi r103.f1), (Vi r103.f2), (Sl Kf r103.f3), (Sl (Ki .i64) r103.f4), (Sl (Kl (Ki .i64)) r103.f5), (Sl KT27 r103.f6)], 27, none⟩, ⟨.pointer (some q94), [(Vi x35), (Vl (Vs g901)), (Vi x37)], 114, none⟩, (Rw KG53 53 (Vs g901) x36)]) frzH_refl) ?_
     refine tx_slot' 107 (y := (SG53 (G53.c6 y24.1 y24.2.1 y24.2.2.1 y24.2.2.2.1 y24.2.2.2.2))) rfl (imp_eq (SG53_c6 y24.1 y24.2.1 y24.2.2.1 y24.2.2.2.1 y24.2.2.2.2).symm) ?_
     refine sx_ox' (ox_rowlit' (K := KG53) (xs := [(G53.c6 y24.1 y24.2.1 y24.2.2.1 y24.2.2.2.1 y24.2.2.2.2)]) (qs := [(0, [(SG53 (G53.c6 y24.1 y24.2.1 y24.2.2.1 y24.2.2.2.1 y24.2.2.2.2))])]) ⟨rfl, ⟨_, rfl, (SG53_lv (G53.c6 y24.1 y24.2.1 y24.2.2.1 y24.2.2.2.1 y24.2.2.2.2))⟩, trivial⟩ Try.underlying112 info53 rfl rfl rfl rfl rfl (by kernel_rfl) rfl rfl rfl) (wt_none' rfl) fun g108 => ?_
     refine tx_fz' (frz_row 0 [(108, (Vl (Vs g108)), (Sl KG53 ([(G53.c6 y24.1 y24.2.1 y24.2.2.1 y24.2.2.2.1 y24.2.2.2.2)])))] (K := KG53) (xs := [(G53.c6 y24.1 y24.2.1 y24.2.2.1 y24.2.2.2.1 y24.2.2.2.2)]) (by decide) rfl ⟨⟨rfl, frz_it⟩, trivial⟩ (H' := [⟨.pointer (some q7), [(Vi r103.f0), (Vi r103.f1), (Vi r103.f2), (Sl Kf r103.f3), (Sl (Ki .i64) r103.f4), (Sl (Kl (Ki .i64)) r103.f5), (Sl KT27 r103.f6)], 27, none⟩, ⟨.pointer (some q94), [(Vi x35), (Vl (Vs g901)), (Vi x37)], 114, none⟩, (Rw KG53 53 (Vs g901) x36)]) frzH_refl) ?_
     obtain ⟨r109, hr109, hp⟩ := bind_some hp
     refine sx_ox' (ox_callg' (ent_fn' Try.func77 isn77 rfl rfl) (gogeom_GeometryCollection_MustPush_v2_sim _ _ _ _ hr109 : Sx.Fn Try.prog 77 [(Vp q94), (Sl KG53 ([(G53.c6 y24.1 y24.2.1 y24.2.2.1 y24.2.2.2.1 y24.2.2.2.2)]))] [⟨.pointer (some q94), [(Vi x35), (Vl (Vs g901)), (Vi x37)], 114, none⟩, (Rw KG53 53 (Vs g901) x36)] (fun x : Gs => (Vp q94)) (fun x => [⟨.pointer (some q94), [(Vi r109.1), (Vl (Vs x)), (Vi r109.2.2)], 114, none⟩, (Rw KG53 53 (Vs x) r109.2.1)])) [1, 2] [0] (by decide) (pick_cons rfl (pick_cons rfl pick_nil)) (pick_cons rfl pick_nil) (Hn := fun x : Gs => [⟨.pointer (some q94), [(Vi r109.1), (Vl (Vs x)), (Vi r109.2.2)], 114, none⟩, (Rw KG53 53 (Vs x) r109.2.1), ⟨.pointer (some q7), [(Vi r103.f0), (Vi r103.f1), (Vi r103.f2), (Sl Kf r103.f3), (Sl (Ki .i64) r103.f4), (Sl (Kl (Ki .i64)) r103.f5), (Sl KT27 r103.f6)], 27, none⟩]) (fun _ => rfl) rfl rfl) (wt_none' rfl) fun g109 => ?_
     refine nk hK30 ?_
     refine cx_region' ?_
     refine s0 (rd_bin' rfl rfl eg_int ru_add) ?_
     refine s0 (rd_move' rfl) ?_
     refine sx_nil' ?_
     show TX E (KY1 _) _
     exact tx_pick' [0, 1] (sub_cons rfl (sub_cons rfl (sub_cons rfl (sub_cons rfl (sub_cons rfl sub_nil))))) (by decide) (pick_cons rfl (pick_cons rfl pick_nil)) (ih1 (r109.1, r109.2.1, r109.2.2, (iadd .i64 x38 1)) g109 _ hp)
    dsimp only at hp
    refine sx_ox' (ox_calln' (ent_fn' Try.func30 isn30 rfl rfl) (hrec _ _ _ _ _ _ _ _ hr107 : Sx.Fn Try.prog 30 [(Ag [(Vi r103.f0), (Vi r103.f1), (Vi r103.f2), (Sl Kf r103.f3), (Sl (Ki .i64) r103.f4), (Sl (Kl (Ki .i64)) r103.f5), (Sl KT27 r103.f6)])] [] (fun x : Addr × Gs => (If 57 (Vp x.1))) (fun x => [⟨.pointer (some x.1), [(Vi y24.1), (Vl (Vs x.2)), (Vi y24.2.2)], 114, none⟩, (Rw KG53 53 (Vs x.2) y24.2.1)])) (Hn := fun x : Addr × Gs => [⟨.pointer (some x.1), [(Vi y24.1), (Vl (Vs x.2)), (Vi y24.2.2)], 114, none⟩, (Rw KG53 53 (Vs x.2) y24.2.1), ⟨.pointer (some q7), [(Vi r103.f0), (Vi r103.f1), (Vi r103.f2), (Sl Kf r103.f3), (Sl (Ki .i64) r103.f4), (Sl (Kl (Ki .i64)) r103.f5), (Sl KT27 r103.f6)], 27, none⟩, ⟨.pointer (some q94), [(Vi x35), (Vl (Vs g901)), (Vi x37)], 114, none⟩, (Rw KG53 53 (Vs g901) x36)]) (fun _ => rfl) rfl rfl) (wt_none' rfl) fun ⟨q107, g107⟩ => ?_
    refine tx_fz' (frz_row 1 [] (K := KG53) (xs := y24.2.1) (by decide) rfl trivial (H' := [⟨.pointer (some q107), [(Vi y24.1), (Sl KG53 y24.2.1), (Vi y24.2.2)], 114, none⟩, ⟨.pointer (some q7), [(Vi r103.f0), (Vi r103.f1), (Vi r103.f2), (Sl Kf r103.f3), (Sl (Ki .i64) r103.f4), (Sl (Kl (Ki .i64)) r103.f5), (Sl KT27 r103.f6)], 27, none⟩, ⟨.pointer (some q94), [(Vi x35), (Vl (Vs g901)), (Vi x37)], 114, none⟩, (Rw KG53 53 (Vs g901) x36)]) (frzH_cons rfl rfl rfl (frzL_cons frz_same (frzL_cons frz_it (frzL_cons frz_same frzL_refl))) (frzH_cons rfl rfl rfl frzL_refl (frzH_cons rfl rfl rfl frzL_refl (frzH_cons rfl rfl rfl frzL_refl frzH_refl))))) ?_
    refine tx_fz' (frz_var 0 [(107, (If 57 (Vp q107)), (If 57 (Pt [(Vi y24.1), (Sl KG53 y24.2.1), (Vi y24.2.2)])))] rfl ⟨⟨rfl, frz_if⟩, trivial⟩ (H' := [⟨.pointer (some q7), [(Vi r103.f0), (Vi r103.f1), (Vi r103.f2), (Sl Kf r103.f3), (Sl (Ki .i64) r103.f4), (Sl (Kl (Ki .i64)) r103.f5), (Sl KT27 r103.f6)], 27, none⟩, ⟨.pointer (some q94), [(Vi x35), (Vl (Vs g901)), (Vi x37)], 114, none⟩, (Rw KG53 53 (Vs g901) x36)]) frzH_refl) ?_
    refine tx_slot' 107 (y := (SG53 (G53.c7 y24.1 y24.2.1 y24.2.2))) rfl (imp_eq (SG53_c7 y24.1 y24.2.1 y24.2.2).symm) ?_
    refine sx_ox' (ox_rowlit' (K := KG53) (xs := [(G53.c7 y24.1 y24.2.1 y24.2.2)]) (qs := [(0, [(SG53 (G53.c7 y24.1 y24.2.1 y24.2.2))])]) ⟨rfl, ⟨_, rfl, (SG53_lv (G53.c7 y24.1 y24.2.1 y24.2.2))⟩, trivial⟩ Try.underlying112 info53 rfl rfl rfl rfl rfl (by kernel_rfl) rfl rfl rfl) (wt_none' rfl) fun g108 => ?_
    refine tx_fz' (frz_row 0 [(108, (Vl (Vs g108)), (Sl KG53 ([(G53.c7 y24.1 y24.2.1 y24.2.2)])))] (K := KG53) (xs := [(G53.c7 y24.1 y24.2.1 y24.2.2)]) (by decide) rfl ⟨⟨rfl, frz_it⟩, trivial⟩ (H' := [⟨.pointer (some q7), [(Vi r103.f0), (Vi r103.f1), (Vi r103.f2), (Sl Kf r103.f3), (Sl (Ki .i64) r103.f4), (Sl (Kl (Ki .i64)) r103.f5), (Sl KT27 r103.f6)], 27, none⟩, ⟨.pointer (some q94), [(Vi x35), (Vl (Vs g901)), (Vi x37)], 114, none⟩, (Rw KG53 53 (Vs g901) x36)]) frzH_refl) ?_
    obtain ⟨r109, hr109, hp⟩ := bind_some hp
    refine sx_ox' (ox_callg' (ent_fn' Try.func77 isn77 rfl rfl) (gogeom_GeometryCollection_MustPush_v2_sim _ _ _ _ hr109 : Sx.Fn Try.prog 77 [(Vp q94), (Sl KG53 ([(G53.c7 y24.1 y24.2.1 y24.2.2)]))] [⟨.pointer (some q94), [(Vi x35), (Vl (Vs g901)), (Vi x37)], 114, none⟩, (Rw KG53 53 (Vs g901) x36)] (fun x : Gs => (Vp q94)) (fun x => [⟨.pointer (some q94), [(Vi r109.1), (Vl (Vs x)), (Vi r109.2.2)], 114, none⟩, (Rw KG53 53 (Vs x) r109.2.1)])) [1, 2] [0] (by decide) (pick_cons rfl (pick_cons rfl pick_nil)) (pick_cons rfl pick_nil) (Hn := fun x : Gs => [⟨.pointer (some q94), [(Vi r109.1), (Vl (Vs x)), (Vi r109.2.2)], 114, none⟩, (Rw KG53 53 (Vs x) r109.2.1), ⟨.pointer (some q7), [(Vi r103.f0), (Vi r103.f1), (Vi r103.f2), (Sl Kf r103.f3), (Sl (Ki .i64) r103.f4), (Sl (Kl (Ki .i64)) r103.f5), (Sl KT27 r103.f6)], 27, none⟩]) (fun _ => rfl) rfl rfl) (wt_none' rfl) fun g109 => ?_
    refine nk hK30 ?_
    refine cx_region' ?_
    refine s0 (rd_bin' rfl rfl eg_int ru_add) ?_
    refine s0 (rd_move' rfl) ?_
    refine sx_nil' ?_
    show TX E (KY1 _) _
    exact tx_pick' [0, 1] (sub_cons rfl (sub_cons rfl (sub_cons rfl (sub_cons rfl (sub_cons rfl sub_nil))))) (by decide) (pick_cons rfl (pick_cons rfl pick_nil)) (ih1 (r109.1, r109.2.1, r109.2.2, (iadd .i64 x38 1)) g109 _ hp)
   replace hp := (br_f h11).symm.trans hp
   refine cx_exit' ?_
   replace hp := Option.some.inj hp
   subst hp
   show TX E (Zg E (Exit.exit 1) _ (Exit.exit 1)) _
   exact tx_zend' g901 rfl [0, 1] (sub_cons rfl (sub_cons rfl sub_nil)) (by decide) (pick_cons rfl (pick_cons rfl pick_nil))
  refine zg_out fun w10 => ?_
  show TX E K21 _
  refine tx_k' hK21 ?_
  refine cr fun K27 hK27 => ?_
  refine s0 (rd_move' rfl) ?_
  refine s0 (rd_move' rfl) ?_
  obtain ⟨r113, hr113, hp⟩ := bind_some hp
  refine sx_ox' (ox_callg' (ent_fn' Try.func78 isn78 rfl rfl) (gogeom_GeometryCollection_MustSetLayout_v2_sim _ _ _ _ hr113 : Sx.Fn Try.prog 78 [(Vp q94), (Vi a0_1)] [⟨.pointer (some q94), [(Vi v10.1), (Vl (Vs w10)), (Vi v10.2.2)], 114, none⟩, (Rw KG53 53 (Vs w10) v10.2.1)] (fun x : Unit => (Vp q94)) (fun x => [⟨.pointer (some q94), [(Vi r113.1), (Vl (Vs w10)), (Vi r113.2.2)], 114, none⟩, (Rw KG53 53 (Vs w10) r113.2.1)])) [0, 1] [] (by decide) (pick_cons rfl (pick_cons rfl pick_nil)) pick_nil (Hn := fun x : Unit => [⟨.pointer (some q94), [(Vi r113.1), (Vl (Vs w10)), (Vi r113.2.2)], 114, none⟩, (Rw KG53 53 (Vs w10) r113.2.1)]) (fun _ => rfl) rfl rfl) (wt_none' rfl) fun ⟨⟩ => ?_
  refine s0 (rd_iface' rfl ⟨_, Try.underlying57, fun _ h => (nomatch h)⟩) ?_
  refine s0 (rd_assign' rfl) ?_
  refine nk hK27 ?_
  refine cx_retc' ?_
  replace hp := Option.some.inj hp
  subst hp
  refine tx_pick' (L' := [(2, (If 57 (Vp q94)))]) (H' := [⟨.pointer (some q94), [(Vi r113.1), (Vl (Vs w10)), (Vi r113.2.2)], 114, none⟩, (Rw KG53 53 (Vs w10) r113.2.1)]) [0, 1] (sub_cons rfl sub_nil) (by decide) (pick_cons rfl (pick_cons rfl pick_nil)) ?_
  exact tx_ret1' Try.results30 rfl (q94, w10) (rv_tmp' rfl) (List.Sublist.refl _)
 replace hp := (br_f h8).symm.trans hp
 refine cx_skip' ?_
 show TX E K3 _
 refine tx_k' hK3 ?_
 refine cx_region' ?_
 refine s0 (rd_iface' rfl ⟨_, Try.underlying9, fun _ h => (nomatch h)⟩) ?_
 cases hp
theorem impl_geometry_simA : ∀ (k : Nat)  (a0_0 : Int) (a0_1 : Int) (a0_2 : Int) (a0_3 : List Nat) (a0_4 : List Int) (a0_5 : List (List Int)) (a0_6 : List T27) (out : (Int × Int × (List Nat) × Int) ⊕ ((Int × Int × (List Nat) × Int) ⊕ ((Int × Int × (List Nat) × Int) ⊕ ((Int × Int × (List Nat) × Int × (List Int)) ⊕ ((Int × Int × (List Nat) × Int × (List Int)) ⊕ ((Int × Int × (List Nat) × Int × (List Int)) ⊕ ((Int × Int × (List Nat) × Int × (List (List Int))) ⊕ (Int × (List G53) × Int)))))))), impl_geometry k a0_0 a0_1 a0_2 a0_3 a0_4 a0_5 a0_6 = some out → Sx.Fn Try.prog 30 [(Ag [(Vi a0_0), (Vi a0_1), (Vi a0_2), (Sl Kf a0_3), (Sl (Ki .i64) a0_4), (Sl (Kl (Ki .i64)) a0_5), (Sl KT27 a0_6)])] [] (fun w => impl_geometry_r a0_0 a0_1 a0_2 a0_3 a0_4 a0_5 a0_6 out w) (fun w => impl_geometry_h a0_0 a0_1 a0_2 a0_3 a0_4 a0_5 a0_6 out w) := by
 intro k
 induction k with
 | zero => intro a0_0 a0_1 a0_2 a0_3 a0_4 a0_5 a0_6 out hp; cases hp
 | succ k ih => intro a0_0 a0_1 a0_2 a0_3 a0_4 a0_5 a0_6 out hp; exact impl_geometry_b_sim ih a0_0 a0_1 a0_2 a0_3 a0_4 a0_5 a0_6 hp
theorem impl_geometry_sim {k : Nat}  (a0_0 : Int) (a0_1 : Int) (a0_2 : Int) (a0_3 : List Nat) (a0_4 : List Int) (a0_5 : List (List Int)) (a0_6 : List T27) {out : (Int × Int × (List Nat) × Int) ⊕ ((Int × Int × (List Nat) × Int) ⊕ ((Int × Int × (List Nat) × Int) ⊕ ((Int × Int × (List Nat) × Int × (List Int)) ⊕ ((Int × Int × (List Nat) × Int × (List Int)) ⊕ ((Int × Int × (List Nat) × Int × (List Int)) ⊕ ((Int × Int × (List Nat) × Int × (List (List Int))) ⊕ (Int × (List G53) × Int)))))))} (hp : impl_geometry k a0_0 a0_1 a0_2 a0_3 a0_4 a0_5 a0_6 = some out) : Sx.Fn Try.prog 30 [(Ag [(Vi a0_0), (Vi a0_1), (Vi a0_2), (Sl Kf a0_3), (Sl (Ki .i64) a0_4), (Sl (Kl (Ki .i64)) a0_5), (Sl KT27 a0_6)])] [] (fun w => impl_geometry_r a0_0 a0_1 a0_2 a0_3 a0_4 a0_5 a0_6 out w) (fun w => impl_geometry_h a0_0 a0_1 a0_2 a0_3 a0_4 a0_5 a0_6 out w) := impl_geometry_simA k a0_0 a0_1 a0_2 a0_3 a0_4 a0_5 a0_6 out hp

def impl_SetLayout_1 (k : Nat) (a0_0 : Int) (a0_1 : Int) (a0_2 : Int) (a1_0 : Bool) : Option (Int × Bool) :=
 some (0, false)

theorem impl_SetLayout_1_sim {k : Nat} {wa0 : Addr} {wa1 : Addr} (a0_0 : Int) (a0_1 : Int) (a0_2 : Int) (a1_0 : Bool) {out : Int × Bool} (hp : impl_SetLayout_1 k a0_0 a0_1 a0_2 a1_0 = some out) : Go.Sx.Catch Try.prog 32 [(Vp wa0), (Vp wa1)] [⟨.pointer (some wa0), [(Vi a0_0), (Vi a0_1), (Vi a0_2), Vn, Vn, Vn, Vn], 27, none⟩, ⟨.pointer (some wa1), [(Vb a1_0)], 4, none⟩] [⟨.pointer (some wa0), [(Vi out.1), (Vi out.1), (Vi out.1), Vn, Vn, Vn, Vn], 27, none⟩, ⟨.pointer (some wa1), [(Vb out.2)], 4, none⟩] := by
 unfold impl_SetLayout_1 at hp
 refine catch_of Try.func32 rfl Try.ntmps32 rfl rfl rfl ifne20 fun E hM => ?_
 refine cx_region' ?_
 refine s0 (rd_build' (pls := [(0, 1), (1, 1), (2, 1), (3, 1), (4, 1), (5, 1), (6, 1)]) (qs := []) (r := [(Vi 0), (Vi 0), (Vi 0), Vn, Vn, Vn, Vn]) trivial Try.underlying27 has27 places27 info27 rfl rfl rfl) ?_
 refine sx_ox' (ox_store' (i := 0) (o := 0) rfl rfl (lv_ag _) ⟨rfl, rfl, rfl, rfl⟩ rfl info27 rfl (H' := [⟨.pointer (some wa0), [(Vi 0), (Vi 0), (Vi 0), Vn, Vn, Vn, Vn], 27, none⟩, ⟨.pointer (some wa1), [(Vb a1_0)], 4, none⟩]) rfl) (wt_none' rfl) fun _ => ?_
 refine sx_ox' (ox_store' (i := 1) (o := 0) rfl rfl (lv_vl rfl rfl) ⟨rfl, rfl, rfl, rfl⟩ rfl info4 rfl (H' := [⟨.pointer (some wa0), [(Vi 0), (Vi 0), (Vi 0), Vn, Vn, Vn, Vn], 27, none⟩, ⟨.pointer (some wa1), [(Vb false)], 4, none⟩]) rfl) (wt_none' rfl) fun _ => ?_
 refine sx_nil' ?_
 replace hp := Option.some.inj hp
 subst hp
 refine tx_pick' (L' := []) (H' := [⟨.pointer (some wa0), [(Vi 0), (Vi 0), (Vi 0), Vn, Vn, Vn, Vn], 27, none⟩, ⟨.pointer (some wa1), [(Vb false)], 4, none⟩]) [0, 1] sub_nil (by decide) (pick_cons rfl (pick_cons rfl pick_nil)) ?_
 exact tx_end0' Try.results32 rfl () rfl (List.Sublist.refl _)

def gogeom_GeometryCollection_SRID (k : Nat) (a0_0 : Int) (a0_1 : List G53) (a0_2 : Int) : Option (Int × (List G53) × Int) :=
 some (a0_0, a0_1, a0_2)

theorem gogeom_GeometryCollection_SRID_sim {k : Nat} {wa0 : Addr} {wa0_1 : Gs} (a0_0 : Int) (a0_1 : List G53) (a0_2 : Int) {out : Int × (List G53) × Int} (hp : gogeom_GeometryCollection_SRID k a0_0 a0_1 a0_2 = some out) : Sx.Fn Try.prog 126 [(Vp wa0)] [⟨.pointer (some wa0), [(Vi a0_0), (Vl (Vs wa0_1)), (Vi a0_2)], 114, none⟩, (Rw KG53 53 (Vs wa0_1) a0_1)] (fun w : Unit => (Vi out.2.2)) (fun w => [⟨.pointer (some wa0), [(Vi out.1), (Vl (Vs wa0_1)), (Vi out.2.2)], 114, none⟩, (Rw KG53 53 (Vs wa0_1) out.2.1)]) := by
 unfold gogeom_GeometryCollection_SRID at hp
 refine fn_of Try.func126 rfl Try.ntmps126 rfl fun E hM => ?_
 refine cr fun K1 hK1 => ?_
 refine s0 (rd_assign' rfl) ?_
 refine nk hK1 ?_
 refine cr fun K2 hK2 => ?_
 refine s0 (rd_move' rfl) ?_
 refine s0 (rd_nilck' rfl) ?_
 refine s0 (rd_field' (off := 2) rfl Try.underlying114 rfl info3 rfl) ?_
 refine s0 (rd_load' (i := 0) (o := 2) rfl ⟨rfl, rfl, rfl, rfl⟩ rfl flat3) ?_
 refine s0 (rd_assign' rfl) ?_
 refine nk hK2 ?_
 refine cx_retc' ?_
 replace hp := Option.some.inj hp
 subst hp
 refine tx_pick' (L' := [(2, (Vi a0_2))]) (H' := [⟨.pointer (some wa0), [(Vi a0_0), (Vl (Vs wa0_1)), (Vi a0_2)], 114, none⟩, (Rw KG53 53 (Vs wa0_1) a0_1)]) [0, 1] (sub_cons rfl sub_nil) (by decide) (pick_cons rfl (pick_cons rfl pick_nil)) ?_
 exact tx_ret1' Try.results126 rfl () (rv_tmp' rfl) (List.Sublist.refl _)

def gogeom_DoorLayout (k : Nat) (a0_0 : Int) (a0_1 : List G53) (a0_2 : Int) : Option (Int × (List G53) × Int) :=
 some (a0_0, a0_1, a0_2)

theorem gogeom_DoorLayout_sim {k : Nat} {wa0 : Addr} {wa0_1 : Gs} (a0_0 : Int) (a0_1 : List G53) (a0_2 : Int) {out : Int × (List G53) × Int} (hp : gogeom_DoorLayout k a0_0 a0_1 a0_2 = some out) : Sx.Fn Try.prog 80 [(Vp wa0)] [⟨.pointer (some wa0), [(Vi a0_0), (Vl (Vs wa0_1)), (Vi a0_2)], 114, none⟩, (Rw KG53 53 (Vs wa0_1) a0_1)] (fun w : Unit => (Vi out.1)) (fun w => [⟨.pointer (some wa0), [(Vi out.1), (Vl (Vs wa0_1)), (Vi out.2.2)], 114, none⟩, (Rw KG53 53 (Vs wa0_1) out.2.1)]) := by
 unfold gogeom_DoorLayout at hp
 refine fn_of Try.func80 rfl Try.ntmps80 rfl fun E hM => ?_
 refine cr fun K1 hK1 => ?_
 refine s0 (rd_assign' rfl) ?_
 refine nk hK1 ?_
 refine cr fun K2 hK2 => ?_
 refine s0 (rd_move' rfl) ?_
 refine s0 (rd_nilck' rfl) ?_
 refine s0 (rd_field0' rfl Try.underlying114 rfl info61 rfl) ?_
 refine s0 (rd_load' (i := 0) (o := 0) rfl ⟨rfl, rfl, rfl, rfl⟩ rfl flat61) ?_
 refine s0 (rd_assign' rfl) ?_
 refine nk hK2 ?_
 refine cx_retc' ?_
 replace hp := Option.some.inj hp
 subst hp
 refine tx_pick' (L' := [(2, (Vi a0_0))]) (H' := [⟨.pointer (some wa0), [(Vi a0_0), (Vl (Vs wa0_1)), (Vi a0_2)], 114, none⟩, (Rw KG53 53 (Vs wa0_1) a0_1)]) [0, 1] (sub_cons rfl sub_nil) (by decide) (pick_cons rfl (pick_cons rfl pick_nil)) ?_
 exact tx_ret1' Try.results80 rfl () (rv_tmp' rfl) (List.Sublist.refl _)

def gogeom_GeometryCollection_Geoms (k : Nat) (a0_0 : Int) (a0_1 : List G53) (a0_2 : Int) : Option (Int × (List G53) × Int) :=
 some (a0_0, a0_1, a0_2)

theorem gogeom_GeometryCollection_Geoms_sim {k : Nat} {wa0 : Addr} {wa0_1 : Gs} (a0_0 : Int) (a0_1 : List G53) (a0_2 : Int) {out : Int × (List G53) × Int} (hp : gogeom_GeometryCollection_Geoms k a0_0 a0_1 a0_2 = some out) : Sx.Fn Try.prog 81 [(Vp wa0)] [⟨.pointer (some wa0), [(Vi a0_0), (Vl (Vs wa0_1)), (Vi a0_2)], 114, none⟩, (Rw KG53 53 (Vs wa0_1) a0_1)] (fun w : Unit => (Sl KG53 out.2.1)) (fun w => [⟨.pointer (some wa0), [(Vi out.1), (Sl KG53 out.2.1), (Vi out.2.2)], 114, none⟩]) := by
 unfold gogeom_GeometryCollection_Geoms at hp
 refine fn_of Try.func81 rfl Try.ntmps81 rfl fun E hM => ?_
 refine cr fun K1 hK1 => ?_
 refine s0 (rd_assign' rfl) ?_
 refine nk hK1 ?_
 refine cr fun K2 hK2 => ?_
 refine s0 (rd_move' rfl) ?_
 refine s0 (rd_nilck' rfl) ?_
 refine s0 (rd_field' (off := 1) rfl Try.underlying114 rfl info112 rfl) ?_
 refine s0 (rd_load' (i := 0) (o := 1) rfl ⟨rfl, rfl, rfl, rfl⟩ rfl flat112) ?_
 refine s0 (rd_assign' rfl) ?_
 refine nk hK2 ?_
 refine cx_retc' ?_
 replace hp := Option.some.inj hp
 subst hp
 refine tx_fz' (frz_row 1 [(2, (Vl (Vs wa0_1)), (Sl KG53 a0_1)), (6, (Vl (Vs wa0_1)), (Sl KG53 a0_1))] (K := KG53) (xs := a0_1) (by decide) rfl ⟨⟨rfl, frz_it⟩, ⟨rfl, frz_it⟩, trivial⟩ (H' := [⟨.pointer (some wa0), [(Vi a0_0), (Sl KG53 a0_1), (Vi a0_2)], 114, none⟩]) (frzH_cons rfl rfl rfl (frzL_cons frz_same (frzL_cons frz_it (frzL_cons frz_same frzL_refl))) frzH_refl)) ?_
 refine tx_pick' (L' := [(2, (Sl KG53 a0_1))]) (H' := [⟨.pointer (some wa0), [(Vi a0_0), (Sl KG53 a0_1), (Vi a0_2)], 114, none⟩]) [0] (sub_cons rfl sub_nil) (by decide) (pick_cons rfl pick_nil) ?_
 exact tx_ret1' Try.results81 rfl () (rv_tmp' rfl) (List.Sublist.refl _)

def gogeom_geom0_SRID (k : Nat) (a0_0 : Int) (a0_1 : Int) (a0_2 : List Nat) (a0_3 : Int) : Option (Int) :=
 some a0_3

theorem gogeom_geom0_SRID_sim {k : Nat}  (a0_0 : Int) (a0_1 : Int) (a0_2 : List Nat) (a0_3 : Int) {out : Int} (hp : gogeom_geom0_SRID k a0_0 a0_1 a0_2 a0_3 = some out) : Sx.Fn Try.prog 136 [(Pt [(Vi a0_0), (Vi a0_1), (Sl Kf a0_2), (Vi a0_3)])] [] (fun w : Unit => (Vi out)) (fun w => []) := by
 unfold gogeom_geom0_SRID at hp
 refine fn_of Try.func136 rfl Try.ntmps136 rfl fun E hM => ?_
 refine cr fun K1 hK1 => ?_
 refine s0 (rd_assign' rfl) ?_
 refine nk hK1 ?_
 refine cr fun K2 hK2 => ?_
 refine s0 (rd_move' rfl) ?_
 refine s0 (rd_nilck_pt' rfl) ?_
 refine s0 (rd_field_pt' (off := 3) rfl Try.underlying124 rfl info3 rfl (l' := [(Vi a0_3)]) rfl) ?_
 refine s0 (rd_load_pt' rfl rfl flat3) ?_
 refine s0 (rd_assign' rfl) ?_
 refine nk hK2 ?_
 refine cx_retc' ?_
 replace hp := Option.some.inj hp
 subst hp
 refine tx_pick' (L' := [(2, (Vi a0_3))]) (H' := []) [] (sub_cons rfl sub_nil) (by decide) pick_nil ?_
 exact tx_ret1' Try.results136 rfl () (rv_tmp' rfl) (List.Sublist.refl _)

def gogeom_geom0_FlatCoords (k : Nat) (a0_0 : Int) (a0_1 : Int) (a0_2 : List Nat) (a0_3 : Int) : Option ((List Nat)) :=
 some a0_2

theorem gogeom_geom0_FlatCoords_sim {k : Nat}  (a0_0 : Int) (a0_1 : Int) (a0_2 : List Nat) (a0_3 : Int) {out : (List Nat)} (hp : gogeom_geom0_FlatCoords k a0_0 a0_1 a0_2 a0_3 = some out) : Sx.Fn Try.prog 133 [(Pt [(Vi a0_0), (Vi a0_1), (Sl Kf a0_2), (Vi a0_3)])] [] (fun w : Unit => (Sl Kf out)) (fun w => []) := by
 unfold gogeom_geom0_FlatCoords at hp
 refine fn_of Try.func133 rfl Try.ntmps133 rfl fun E hM => ?_
 refine cr fun K1 hK1 => ?_
 refine s0 (rd_assign' rfl) ?_
 refine nk hK1 ?_
 refine cr fun K2 hK2 => ?_
 refine s0 (rd_move' rfl) ?_
 refine s0 (rd_nilck_pt' rfl) ?_
 refine s0 (rd_field_pt' (off := 2) rfl Try.underlying124 rfl info22 rfl (l' := [(Sl Kf a0_2), (Vi a0_3)]) rfl) ?_
 refine s0 (rd_load_pt' rfl rfl flat22) ?_
 refine s0 (rd_assign' rfl) ?_
 refine nk hK2 ?_
 refine cx_retc' ?_
 replace hp := Option.some.inj hp
 subst hp
 refine tx_pick' (L' := [(2, (Sl Kf a0_2))]) (H' := []) [] (sub_cons rfl sub_nil) (by decide) pick_nil ?_
 exact tx_ret1' Try.results133 rfl () (rv_tmp' rfl) (List.Sublist.refl _)

def gogeom_geom0_Ends (k : Nat) (a0_0 : Int) (a0_1 : Int) (a0_2 : List Nat) (a0_3 : Int) : Option (Unit) :=
 some ()

theorem gogeom_geom0_Ends_sim {k : Nat}  (a0_0 : Int) (a0_1 : Int) (a0_2 : List Nat) (a0_3 : Int) {out : Unit} (hp : gogeom_geom0_Ends k a0_0 a0_1 a0_2 a0_3 = some out) : Sx.Fn Try.prog 138 [(Pt [(Vi a0_0), (Vi a0_1), (Sl Kf a0_2), (Vi a0_3)])] [] (fun w : Unit => Vn) (fun w => []) := by
 unfold gogeom_geom0_Ends at hp
 refine fn_of Try.func138 rfl Try.ntmps138 rfl fun E hM => ?_
 refine cr fun K1 hK1 => ?_
 refine s0 (rd_assign' rfl) ?_
 refine nk hK1 ?_
 refine cr fun K2 hK2 => ?_
 refine s0 (rd_assign' rfl) ?_
 refine nk hK2 ?_
 refine cx_retc' ?_
 replace hp := Option.some.inj hp
 subst hp
 refine tx_pick' (L' := [(2, Vn)]) (H' := []) [] (sub_cons rfl sub_nil) (by decide) pick_nil ?_
 exact tx_ret1' Try.results138 rfl () (rv_tmp' rfl) (List.Sublist.refl _)

def impl_ints_v2 (k : Nat)  : Option ((List Int)) :=
 (apd 8 [] []) >>= fun r4 =>
 some r4

theorem impl_ints_v2_sim {k : Nat}   {out : (List Int)} (hp : impl_ints_v2 k = some out) : Sx.Fn Try.prog 58 [Vn] [] (fun w : Unit => (Sl (Ki .i64) out)) (fun w => []) := by
 unfold impl_ints_v2 at hp
 refine fn_of Try.func58 rfl Try.ntmps58 rfl fun E hM => ?_
 refine cr fun K1 hK1 => ?_
 refine s0 (rd_assign' rfl) ?_
 refine nk hK1 ?_
 refine cr fun K2 hK2 => ?_
 refine s0 (rd_move' rfl) ?_
 refine tx_nilrow' (Ki .i64) 3 ?_
 obtain ⟨r4, hr4, hp⟩ := bind_some hp
 refine sx_ox' (ox_append' (K := (Ki .i64)) (i := 0) (xs := []) (ys := []) rfl rfl rfl (sr_nil' rfl Try.underlying23) hr4 Try.underlying23 info3 rfl rfl rfl (H' := []) rfl) (wt_none' rfl) fun g4 => ?_
 refine s0 (rd_assign' rfl) ?_
 refine nk hK2 ?_
 refine cx_retc' ?_
 replace hp := Option.some.inj hp
 subst hp
 refine tx_fz' (frz_row 0 [(2, (Vl (Vs g4)), (Sl (Ki .i64) r4)), (4, (Vl (Vs g4)), (Sl (Ki .i64) r4))] (K := (Ki .i64)) (xs := r4) (by decide) rfl ⟨⟨rfl, frz_it⟩, ⟨rfl, frz_it⟩, trivial⟩ (H' := []) frzH_refl) ?_
 refine tx_pick' (L' := [(2, (Sl (Ki .i64) r4))]) (H' := []) [] (sub_cons rfl sub_nil) (by decide) pick_nil ?_
 exact tx_ret1' Try.results58 rfl () (rv_tmp' rfl) (List.Sublist.refl _)

def gogeom_geom0_Endss (k : Nat) (a0_0 : Int) (a0_1 : Int) (a0_2 : List Nat) (a0_3 : Int) : Option (Unit) :=
 some ()

theorem gogeom_geom0_Endss_sim {k : Nat}  (a0_0 : Int) (a0_1 : Int) (a0_2 : List Nat) (a0_3 : Int) {out : Unit} (hp : gogeom_geom0_Endss k a0_0 a0_1 a0_2 a0_3 = some out) : Sx.Fn Try.prog 132 [(Pt [(Vi a0_0), (Vi a0_1), (Sl Kf a0_2), (Vi a0_3)])] [] (fun w : Unit => Vn) (fun w => []) := by
 unfold gogeom_geom0_Endss at hp
 refine fn_of Try.func132 rfl Try.ntmps132 rfl fun E hM => ?_
 refine cr fun K1 hK1 => ?_
 refine s0 (rd_assign' rfl) ?_
 refine nk hK1 ?_
 refine cr fun K2 hK2 => ?_
 refine s0 (rd_assign' rfl) ?_
 refine nk hK2 ?_
 refine cx_retc' ?_
 replace hp := Option.some.inj hp
 subst hp
 refine tx_pick' (L' := [(2, Vn)]) (H' := []) [] (sub_cons rfl sub_nil) (by decide) pick_nil ?_
 exact tx_ret1' Try.results132 rfl () (rv_tmp' rfl) (List.Sublist.refl _)

def impl_intss_v2 (k : Nat)  : Option (Unit) :=
 some ()

theorem impl_intss_v2_sim {k : Nat}   {out : Unit} (hp : impl_intss_v2 k = some out) : Sx.Fn Try.prog 29 [Vn] [] (fun w : Unit => Vn) (fun w => []) := by
 unfold impl_intss_v2 at hp
 refine fn_of Try.func29 rfl Try.ntmps29 rfl fun E hM => ?_
 refine cr fun K1 hK1 => ?_
 refine s0 (rd_assign' rfl) ?_
 refine nk hK1 ?_
 refine cr fun K2 hK2 => ?_
 refine s0 (rd_assign' rfl) ?_
 refine nk hK2 ?_
 refine cx_seq' fun K3 hK3 => ?_
 refine cr fun K4 hK4 => ?_
 refine s0 (rd_move' rfl) ?_
 refine s0 (rd_lenv' rfl Try.underlying24) ?_
 refine s0 (rd_move' rfl) ?_
 refine nk hK4 ?_
 refine cx_block' ?_
 refine tx_loop' ?_
 refine tx_round' ?_
 refine cr fun K5 hK5 => ?_
 refine s0 (rd_bin' rfl rfl eg_int ru_lss) ?_
 refine nk hK5 ?_
 refine cx_seq' fun K6 hK6 => ?_
 refine cx_cond_f' rfl rfl ?_
 refine cx_exit' ?_
 show TX E K3 _
 refine tx_k' hK3 ?_
 refine cr fun K7 hK7 => ?_
 refine s0 (rd_move' rfl) ?_
 refine s0 (rd_assign' rfl) ?_
 refine nk hK7 ?_
 refine cx_retc' ?_
 replace hp := Option.some.inj hp
 subst hp
 refine tx_pick' (L' := [(2, Vn)]) (H' := []) [] (sub_cons rfl sub_nil) (by decide) pick_nil ?_
 exact tx_ret1' Try.results29 rfl () (rv_tmp' rfl) (List.Sublist.refl _)

def gogeom_geom0_SRID_v2 (k : Nat) (a0_0 : Int) (a0_1 : Int) (a0_2 : List Nat) (a0_3 : Int) (a0_4 : List Int) : Option (Int) :=
 some a0_3

theorem gogeom_geom0_SRID_v2_sim {k : Nat}  (a0_0 : Int) (a0_1 : Int) (a0_2 : List Nat) (a0_3 : Int) (a0_4 : List Int) {out : Int} (hp : gogeom_geom0_SRID_v2 k a0_0 a0_1 a0_2 a0_3 a0_4 = some out) : Sx.Fn Try.prog 136 [(Pt [(Vi a0_0), (Vi a0_1), (Sl Kf a0_2), (Vi a0_3), (Sl (Ki .i64) a0_4)])] [] (fun w : Unit => (Vi out)) (fun w => []) := by
 unfold gogeom_geom0_SRID_v2 at hp
 refine fn_of Try.func136 rfl Try.ntmps136 rfl fun E hM => ?_
 refine cr fun K1 hK1 => ?_
 refine s0 (rd_assign' rfl) ?_
 refine nk hK1 ?_
 refine cr fun K2 hK2 => ?_
 refine s0 (rd_move' rfl) ?_
 refine s0 (rd_nilck_pt' rfl) ?_
 refine s0 (rd_field_pt' (off := 3) rfl Try.underlying124 rfl info3 rfl (l' := [(Vi a0_3), (Sl (Ki .i64) a0_4)]) rfl) ?_
 refine s0 (rd_load_pt' rfl rfl flat3) ?_
 refine s0 (rd_assign' rfl) ?_
 refine nk hK2 ?_
 refine cx_retc' ?_
 replace hp := Option.some.inj hp
 subst hp
 refine tx_pick' (L' := [(2, (Vi a0_3))]) (H' := []) [] (sub_cons rfl sub_nil) (by decide) pick_nil ?_
 exact tx_ret1' Try.results136 rfl () (rv_tmp' rfl) (List.Sublist.refl _)

def gogeom_geom0_FlatCoords_v2 (k : Nat) (a0_0 : Int) (a0_1 : Int) (a0_2 : List Nat) (a0_3 : Int) (a0_4 : List Int) : Option ((List Nat)) :=
 some a0_2

theorem gogeom_geom0_FlatCoords_v2_sim {k : Nat}  (a0_0 : Int) (a0_1 : Int) (a0_2 : List Nat) (a0_3 : Int) (a0_4 : List Int) {out : (List Nat)} (hp : gogeom_geom0_FlatCoords_v2 k a0_0 a0_1 a0_2 a0_3 a0_4 = some out) : Sx.Fn Try.prog 133 [(Pt [(Vi a0_0), (Vi a0_1), (Sl Kf a0_2), (Vi a0_3), (Sl (Ki .i64) a0_4)])] [] (fun w : Unit => (Sl Kf out)) (fun w => []) := by
 unfold gogeom_geom0_FlatCoords_v2 at hp
 refine fn_of Try.func133 rfl Try.ntmps133 rfl fun E hM => ?_
 refine cr fun K1 hK1 => ?_
 refine s0 (rd_assign' rfl) ?_
 refine nk hK1 ?_
 refine cr fun K2 hK2 => ?_
 refine s0 (rd_move' rfl) ?_
 refine s0 (rd_nilck_pt' rfl) ?_
 refine s0 (rd_field_pt' (off := 2) rfl Try.underlying124 rfl info22 rfl (l' := [(Sl Kf a0_2), (Vi a0_3), (Sl (Ki .i64) a0_4)]) rfl) ?_
 refine s0 (rd_load_pt' rfl rfl flat22) ?_
 refine s0 (rd_assign' rfl) ?_
 refine nk hK2 ?_
 refine cx_retc' ?_
 replace hp := Option.some.inj hp
 subst hp
 refine tx_pick' (L' := [(2, (Sl Kf a0_2))]) (H' := []) [] (sub_cons rfl sub_nil) (by decide) pick_nil ?_
 exact tx_ret1' Try.results133 rfl () (rv_tmp' rfl) (List.Sublist.refl _)

def gogeom_geom2_Ends (k : Nat) (a0_0 : Int) (a0_1 : Int) (a0_2 : List Nat) (a0_3 : Int) (a0_4 : List Int) : Option ((List Int)) :=
 some a0_4

theorem gogeom_geom2_Ends_sim {k : Nat}  (a0_0 : Int) (a0_1 : Int) (a0_2 : List Nat) (a0_3 : Int) (a0_4 : List Int) {out : (List Int)} (hp : gogeom_geom2_Ends k a0_0 a0_1 a0_2 a0_3 a0_4 = some out) : Sx.Fn Try.prog 131 [(Pt [(Vi a0_0), (Vi a0_1), (Sl Kf a0_2), (Vi a0_3), (Sl (Ki .i64) a0_4)])] [] (fun w : Unit => (Sl (Ki .i64) out)) (fun w => []) := by
 unfold gogeom_geom2_Ends at hp
 refine fn_of Try.func131 rfl Try.ntmps131 rfl fun E hM => ?_
 refine cr fun K1 hK1 => ?_
 refine s0 (rd_assign' rfl) ?_
 refine nk hK1 ?_
 refine cr fun K2 hK2 => ?_
 refine s0 (rd_move' rfl) ?_
 refine s0 (rd_nilck_pt' rfl) ?_
 refine s0 (rd_field_pt' (off := 4) rfl Try.underlying130 rfl info23 rfl (l' := [(Sl (Ki .i64) a0_4)]) rfl) ?_
 refine s0 (rd_load_pt' rfl rfl flat23) ?_
 refine s0 (rd_assign' rfl) ?_
 refine nk hK2 ?_
 refine cx_retc' ?_
 replace hp := Option.some.inj hp
 subst hp
 refine tx_pick' (L' := [(2, (Sl (Ki .i64) a0_4))]) (H' := []) [] (sub_cons rfl sub_nil) (by decide) pick_nil ?_
 exact tx_ret1' Try.results131 rfl () (rv_tmp' rfl) (List.Sublist.refl _)

def gogeom_geom0_Endss_v2 (k : Nat) (a0_0 : Int) (a0_1 : Int) (a0_2 : List Nat) (a0_3 : Int) (a0_4 : List Int) : Option (Unit) :=
 some ()

theorem gogeom_geom0_Endss_v2_sim {k : Nat}  (a0_0 : Int) (a0_1 : Int) (a0_2 : List Nat) (a0_3 : Int) (a0_4 : List Int) {out : Unit} (hp : gogeom_geom0_Endss_v2 k a0_0 a0_1 a0_2 a0_3 a0_4 = some out) : Sx.Fn Try.prog 132 [(Pt [(Vi a0_0), (Vi a0_1), (Sl Kf a0_2), (Vi a0_3), (Sl (Ki .i64) a0_4)])] [] (fun w : Unit => Vn) (fun w => []) := by
 unfold gogeom_geom0_Endss_v2 at hp
 refine fn_of Try.func132 rfl Try.ntmps132 rfl fun E hM => ?_
 refine cr fun K1 hK1 => ?_
 refine s0 (rd_assign' rfl) ?_
 refine nk hK1 ?_
 refine cr fun K2 hK2 => ?_
 refine s0 (rd_assign' rfl) ?_
 refine nk hK2 ?_
 refine cx_retc' ?_
 replace hp := Option.some.inj hp
 subst hp
 refine tx_pick' (L' := [(2, Vn)]) (H' := []) [] (sub_cons rfl sub_nil) (by decide) pick_nil ?_
 exact tx_ret1' Try.results132 rfl () (rv_tmp' rfl) (List.Sublist.refl _)

def gogeom_geom0_SRID_v3 (k : Nat) (a0_0 : Int) (a0_1 : Int) (a0_2 : List Nat) (a0_3 : Int) (a0_4 : List (List Int)) : Option (Int) :=
 some a0_3

theorem gogeom_geom0_SRID_v3_sim {k : Nat}  (a0_0 : Int) (a0_1 : Int) (a0_2 : List Nat) (a0_3 : Int) (a0_4 : List (List Int)) {out : Int} (hp : gogeom_geom0_SRID_v3 k a0_0 a0_1 a0_2 a0_3 a0_4 = some out) : Sx.Fn Try.prog 136 [(Pt [(Vi a0_0), (Vi a0_1), (Sl Kf a0_2), (Vi a0_3), (Sl (Kl (Ki .i64)) a0_4)])] [] (fun w : Unit => (Vi out)) (fun w => []) := by
 unfold gogeom_geom0_SRID_v3 at hp
 refine fn_of Try.func136 rfl Try.ntmps136 rfl fun E hM => ?_
 refine cr fun K1 hK1 => ?_
 refine s0 (rd_assign' rfl) ?_
 refine nk hK1 ?_
 refine cr fun K2 hK2 => ?_
 refine s0 (rd_move' rfl) ?_
 refine s0 (rd_nilck_pt' rfl) ?_
 refine s0 (rd_field_pt' (off := 3) rfl Try.underlying124 rfl info3 rfl (l' := [(Vi a0_3), (Sl (Kl (Ki .i64)) a0_4)]) rfl) ?_
 refine s0 (rd_load_pt' rfl rfl flat3) ?_
 refine s0 (rd_assign' rfl) ?_
 refine nk hK2 ?_
 refine cx_retc' ?_
 replace hp := Option.some.inj hp
 subst hp
 refine tx_pick' (L' := [(2, (Vi a0_3))]) (H' := []) [] (sub_cons rfl sub_nil) (by decide) pick_nil ?_
 exact tx_ret1' Try.results136 rfl () (rv_tmp' rfl) (List.Sublist.refl _)

def gogeom_geom0_FlatCoords_v3 (k : Nat) (a0_0 : Int) (a0_1 : Int) (a0_2 : List Nat) (a0_3 : Int) (a0_4 : List (List Int)) : Option ((List Nat)) :=
 some a0_2

theorem gogeom_geom0_FlatCoords_v3_sim {k : Nat}  (a0_0 : Int) (a0_1 : Int) (a0_2 : List Nat) (a0_3 : Int) (a0_4 : List (List Int)) {out : (List Nat)} (hp : gogeom_geom0_FlatCoords_v3 k a0_0 a0_1 a0_2 a0_3 a0_4 = some out) : Sx.Fn Try.prog 133 [(Pt [(Vi a0_0), (Vi a0_1), (Sl Kf a0_2), (Vi a0_3), (Sl (Kl (Ki .i64)) a0_4)])] [] (fun w : Unit => (Sl Kf out)) (fun w => []) := by
 unfold gogeom_geom0_FlatCoords_v3 at hp
 refine fn_of Try.func133 rfl Try.ntmps133 rfl fun E hM => ?_
 refine cr fun K1 hK1 => ?_
 refine s0 (rd_assign' rfl) ?_
 refine nk hK1 ?_
 refine cr fun K2 hK2 => ?_
 refine s0 (rd_move' rfl) ?_
 refine s0 (rd_nilck_pt' rfl) ?_
 refine s0 (rd_field_pt' (off := 2) rfl Try.underlying124 rfl info22 rfl (l' := [(Sl Kf a0_2), (Vi a0_3), (Sl (Kl (Ki .i64)) a0_4)]) rfl) ?_
 refine s0 (rd_load_pt' rfl rfl flat22) ?_
 refine s0 (rd_assign' rfl) ?_
 refine nk hK2 ?_
 refine cx_retc' ?_
 replace hp := Option.some.inj hp
 subst hp
 refine tx_pick' (L' := [(2, (Sl Kf a0_2))]) (H' := []) [] (sub_cons rfl sub_nil) (by decide) pick_nil ?_
 exact tx_ret1' Try.results133 rfl () (rv_tmp' rfl) (List.Sublist.refl _)

def gogeom_geom0_Ends_v2 (k : Nat) (a0_0 : Int) (a0_1 : Int) (a0_2 : List Nat) (a0_3 : Int) (a0_4 : List (List Int)) : Option (Unit) :=
 some ()

theorem gogeom_geom0_Ends_v2_sim {k : Nat}  (a0_0 : Int) (a0_1 : Int) (a0_2 : List Nat) (a0_3 : Int) (a0_4 : List (List Int)) {out : Unit} (hp : gogeom_geom0_Ends_v2 k a0_0 a0_1 a0_2 a0_3 a0_4 = some out) : Sx.Fn Try.prog 138 [(Pt [(Vi a0_0), (Vi a0_1), (Sl Kf a0_2), (Vi a0_3), (Sl (Kl (Ki .i64)) a0_4)])] [] (fun w : Unit => Vn) (fun w => []) := by
 unfold gogeom_geom0_Ends_v2 at hp
 refine fn_of Try.func138 rfl Try.ntmps138 rfl fun E hM => ?_
 refine cr fun K1 hK1 => ?_
 refine s0 (rd_assign' rfl) ?_
 refine nk hK1 ?_
 refine cr fun K2 hK2 => ?_
 refine s0 (rd_assign' rfl) ?_
 refine nk hK2 ?_
 refine cx_retc' ?_
 replace hp := Option.some.inj hp
 subst hp
 refine tx_pick' (L' := [(2, Vn)]) (H' := []) [] (sub_cons rfl sub_nil) (by decide) pick_nil ?_
 exact tx_ret1' Try.results138 rfl () (rv_tmp' rfl) (List.Sublist.refl _)

def gogeom_geom3_Endss (k : Nat) (a0_0 : Int) (a0_1 : Int) (a0_2 : List Nat) (a0_3 : Int) (a0_4 : List (List Int)) : Option ((List (List Int))) :=
 some a0_4

theorem gogeom_geom3_Endss_sim {k : Nat}  (a0_0 : Int) (a0_1 : Int) (a0_2 : List Nat) (a0_3 : Int) (a0_4 : List (List Int)) {out : (List (List Int))} (hp : gogeom_geom3_Endss k a0_0 a0_1 a0_2 a0_3 a0_4 = some out) : Sx.Fn Try.prog 141 [(Pt [(Vi a0_0), (Vi a0_1), (Sl Kf a0_2), (Vi a0_3), (Sl (Kl (Ki .i64)) a0_4)])] [] (fun w : Unit => (Sl (Kl (Ki .i64)) out)) (fun w => []) := by
 unfold gogeom_geom3_Endss at hp
 refine fn_of Try.func141 rfl Try.ntmps141 rfl fun E hM => ?_
 refine cr fun K1 hK1 => ?_
 refine s0 (rd_assign' rfl) ?_
 refine nk hK1 ?_
 refine cr fun K2 hK2 => ?_
 refine s0 (rd_move' rfl) ?_
 refine s0 (rd_nilck_pt' rfl) ?_
 refine s0 (rd_field_pt' (off := 4) rfl Try.underlying141 rfl info24 rfl (l' := [(Sl (Kl (Ki .i64)) a0_4)]) rfl) ?_
 refine s0 (rd_load_pt' rfl rfl flat24) ?_
 refine s0 (rd_assign' rfl) ?_
 refine nk hK2 ?_
 refine cx_retc' ?_
 replace hp := Option.some.inj hp
 subst hp
 refine tx_pick' (L' := [(2, (Sl (Kl (Ki .i64)) a0_4))]) (H' := []) [] (sub_cons rfl sub_nil) (by decide) pick_nil ?_
 exact tx_ret1' Try.results141 rfl () (rv_tmp' rfl) (List.Sublist.refl _)

def gogeom_GeometryCollection_SRID_v2 (k : Nat) (a0_0 : Int) (a0_1 : List G53) (a0_2 : Int) : Option (Int) :=
 some a0_2

theorem gogeom_GeometryCollection_SRID_v2_sim {k : Nat}  (a0_0 : Int) (a0_1 : List G53) (a0_2 : Int) {out : Int} (hp : gogeom_GeometryCollection_SRID_v2 k a0_0 a0_1 a0_2 = some out) : Sx.Fn Try.prog 126 [(Pt [(Vi a0_0), (Sl KG53 a0_1), (Vi a0_2)])] [] (fun w : Unit => (Vi out)) (fun w => []) := by
 unfold gogeom_GeometryCollection_SRID_v2 at hp
 refine fn_of Try.func126 rfl Try.ntmps126 rfl fun E hM => ?_
 refine cr fun K1 hK1 => ?_
 refine s0 (rd_assign' rfl) ?_
 refine nk hK1 ?_
 refine cr fun K2 hK2 => ?_
 refine s0 (rd_move' rfl) ?_
 refine s0 (rd_nilck_pt' rfl) ?_
 refine s0 (rd_field_pt' (off := 2) rfl Try.underlying114 rfl info3 rfl (l' := [(Vi a0_2)]) rfl) ?_
 refine s0 (rd_load_pt' rfl rfl flat3) ?_
 refine s0 (rd_assign' rfl) ?_
 refine nk hK2 ?_
 refine cx_retc' ?_
 replace hp := Option.some.inj hp
 subst hp
 refine tx_pick' (L' := [(2, (Vi a0_2))]) (H' := []) [] (sub_cons rfl sub_nil) (by decide) pick_nil ?_
 exact tx_ret1' Try.results126 rfl () (rv_tmp' rfl) (List.Sublist.refl _)

def gogeom_DoorLayout_v2 (k : Nat) (a0_0 : Int) (a0_1 : List G53) (a0_2 : Int) : Option (Int) :=
 some a0_0

theorem gogeom_DoorLayout_v2_sim {k : Nat}  (a0_0 : Int) (a0_1 : List G53) (a0_2 : Int) {out : Int} (hp : gogeom_DoorLayout_v2 k a0_0 a0_1 a0_2 = some out) : Sx.Fn Try.prog 80 [(Pt [(Vi a0_0), (Sl KG53 a0_1), (Vi a0_2)])] [] (fun w : Unit => (Vi out)) (fun w => []) := by
 unfold gogeom_DoorLayout_v2 at hp
 refine fn_of Try.func80 rfl Try.ntmps80 rfl fun E hM => ?_
 refine cr fun K1 hK1 => ?_
 refine s0 (rd_assign' rfl) ?_
 refine nk hK1 ?_
 refine cr fun K2 hK2 => ?_
 refine s0 (rd_move' rfl) ?_
 refine s0 (rd_nilck_pt' rfl) ?_
 refine s0 (rd_field_pt' (off := 0) rfl Try.underlying114 rfl info61 rfl (l' := [(Vi a0_0), (Sl KG53 a0_1), (Vi a0_2)]) rfl) ?_
 refine s0 (rd_load_pt' rfl rfl flat61) ?_
 refine s0 (rd_assign' rfl) ?_
 refine nk hK2 ?_
 refine cx_retc' ?_
 replace hp := Option.some.inj hp
 subst hp
 refine tx_pick' (L' := [(2, (Vi a0_0))]) (H' := []) [] (sub_cons rfl sub_nil) (by decide) pick_nil ?_
 exact tx_ret1' Try.results80 rfl () (rv_tmp' rfl) (List.Sublist.refl _)

def gogeom_GeometryCollection_Geoms_v2 (k : Nat) (a0_0 : Int) (a0_1 : List G53) (a0_2 : Int) : Option ((List G53)) :=
 some a0_1

theorem gogeom_GeometryCollection_Geoms_v2_sim {k : Nat}  (a0_0 : Int) (a0_1 : List G53) (a0_2 : Int) {out : (List G53)} (hp : gogeom_GeometryCollection_Geoms_v2 k a0_0 a0_1 a0_2 = some out) : Sx.Fn Try.prog 81 [(Pt [(Vi a0_0), (Sl KG53 a0_1), (Vi a0_2)])] [] (fun w : Unit => (Sl KG53 out)) (fun w => []) := by
 unfold gogeom_GeometryCollection_Geoms_v2 at hp
 refine fn_of Try.func81 rfl Try.ntmps81 rfl fun E hM => ?_
 refine cr fun K1 hK1 => ?_
 refine s0 (rd_assign' rfl) ?_
 refine nk hK1 ?_
 refine cr fun K2 hK2 => ?_
 refine s0 (rd_move' rfl) ?_
 refine s0 (rd_nilck_pt' rfl) ?_
 refine s0 (rd_field_pt' (off := 1) rfl Try.underlying114 rfl info112 rfl (l' := [(Sl KG53 a0_1), (Vi a0_2)]) rfl) ?_
 refine s0 (rd_load_pt' rfl rfl flat112) ?_
 refine s0 (rd_assign' rfl) ?_
 refine nk hK2 ?_
 refine cx_retc' ?_
 replace hp := Option.some.inj hp
 subst hp
 refine tx_pick' (L' := [(2, (Sl KG53 a0_1))]) (H' := []) [] (sub_cons rfl sub_nil) (by decide) pick_nil ?_
 exact tx_ret1' Try.results81 rfl () (rv_tmp' rfl) (List.Sublist.refl _)

def impl_plain_v2_l1s (r54 : (List G53)) (recf : G53 → Option (Int × Int × Int × (List Nat) × (List Int) × (List (List Int)) × (List T27))) (k : Nat) (rec1 : ((List T27) × Int) → Option ((List T27))) (x7 : List T27) (x8 : Int) : Option ((List T27)) :=
 br (decide (x8 < (r54.length : Int)))
  ((idx r54 x8) >>= fun r58 =>
  (recf r58) >>= fun r63 =>
  (apd 120 x7 ([(T27.mk r63.1 r63.2.1 r63.2.2.1 r63.2.2.2.1 r63.2.2.2.2.1 r63.2.2.2.2.2.1 r63.2.2.2.2.2.2)])) >>= fun r65 =>
  rec1 (r65, (iadd .i64 x8 1)))
  (some x7)
def impl_plain_v2_l1 (r54 : (List G53)) (recf : G53 → Option (Int × Int × Int × (List Nat) × (List Int) × (List (List Int)) × (List T27))) : Nat → ((List T27) × Int) → Option ((List T27))
 | 0, _ => none
 | k + 1, v => impl_plain_v2_l1s r54 recf k (impl_plain_v2_l1 r54 recf k) v.1 v.2
def impl_plain_v2_b (recf : G53 → Option (Int × Int × Int × (List Nat) × (List Int) × (List (List Int)) × (List T27))) (k : Nat) (a0 : G53) : Option (Int × Int × Int × (List Nat) × (List Int) × (List (List Int)) × (List T27)) :=
 match a0 with
  | .c0 a0_0a a0_0b a0_0c a0_0d =>
   ((gogeom_geom0_SRID k a0_0a a0_0b a0_0c a0_0d) >>= fun r15 =>
   (gogeom_geom0_Layout k a0_0a a0_0b a0_0c a0_0d) >>= fun r70 =>
   (gogeom_geom0_FlatCoords k a0_0a a0_0b a0_0c a0_0d) >>= fun r72 =>
   (impl_floats k r72) >>= fun r73 =>
   (gogeom_geom0_Ends k a0_0a a0_0b a0_0c a0_0d) >>= fun r75 =>
   (impl_ints_v2 k) >>= fun r76 =>
   (gogeom_geom0_Endss k a0_0a a0_0b a0_0c a0_0d) >>= fun r78 =>
   (impl_intss_v2 k) >>= fun r79 =>
   some (1, r70, r15, r73, r76, [], []))
  | .c1 a0_1a a0_1b a0_1c a0_1d =>
   ((gogeom_geom0_SRID k a0_1a a0_1b a0_1c a0_1d) >>= fun r15 =>
   (gogeom_geom0_Layout k a0_1a a0_1b a0_1c a0_1d) >>= fun r70 =>
   (gogeom_geom0_FlatCoords k a0_1a a0_1b a0_1c a0_1d) >>= fun r72 =>
   (impl_floats k r72) >>= fun r73 =>
   (gogeom_geom0_Ends k a0_1a a0_1b a0_1c a0_1d) >>= fun r75 =>
   (impl_ints_v2 k) >>= fun r76 =>
   (gogeom_geom0_Endss k a0_1a a0_1b a0_1c a0_1d) >>= fun r78 =>
   (impl_intss_v2 k) >>= fun r79 =>
   some (2, r70, r15, r73, r76, [], []))
  | .c2 a0_2a a0_2b a0_2c a0_2d =>
   ((gogeom_geom0_SRID k a0_2a a0_2b a0_2c a0_2d) >>= fun r15 =>
   (gogeom_geom0_Layout k a0_2a a0_2b a0_2c a0_2d) >>= fun r70 =>
   (gogeom_geom0_FlatCoords k a0_2a a0_2b a0_2c a0_2d) >>= fun r72 =>
   (impl_floats k r72) >>= fun r73 =>
   (gogeom_geom0_Ends k a0_2a a0_2b a0_2c a0_2d) >>= fun r75 =>
   (impl_ints_v2 k) >>= fun r76 =>
   (gogeom_geom0_Endss k a0_2a a0_2b a0_2c a0_2d) >>= fun r78 =>
   (impl_intss_v2 k) >>= fun r79 =>
   some (8, r70, r15, r73, r76, [], []))
  | .c3 a0_3a a0_3b a0_3c a0_3d a0_3e =>
   ((gogeom_geom0_SRID_v2 k a0_3a a0_3b a0_3c a0_3d a0_3e) >>= fun r15 =>
   (gogeom_geom0_Layout_v2 k a0_3a a0_3b a0_3c a0_3d a0_3e) >>= fun r70 =>
   (gogeom_geom0_FlatCoords_v2 k a0_3a a0_3b a0_3c a0_3d a0_3e) >>= fun r72 =>
   (impl_floats k r72) >>= fun r73 =>
   (gogeom_geom2_Ends k a0_3a a0_3b a0_3c a0_3d a0_3e) >>= fun r75 =>
   (impl_ints k r75) >>= fun r76 =>
   match r76 with
    | (.inl y1) =>
     ((gogeom_geom0_Endss_v2 k a0_3a a0_3b a0_3c a0_3d a0_3e) >>= fun r78 =>
     (impl_intss_v2 k) >>= fun r79 =>
     some (3, r70, r15, r73, [], [], []))
    | (.inr y1) =>
     ((gogeom_geom0_Endss_v2 k a0_3a a0_3b a0_3c a0_3d a0_3e) >>= fun r78 =>
     (impl_intss_v2 k) >>= fun r79 =>
     some (3, r70, r15, r73, y1, [], [])))
  | .c4 a0_4a a0_4b a0_4c a0_4d a0_4e =>
   ((gogeom_geom0_SRID_v2 k a0_4a a0_4b a0_4c a0_4d a0_4e) >>= fun r15 =>
   (gogeom_geom0_Layout_v2 k a0_4a a0_4b a0_4c a0_4d a0_4e) >>= fun r70 =>
   (gogeom_geom0_FlatCoords_v2 k a0_4a a0_4b a0_4c a0_4d a0_4e) >>= fun r72 =>
   (impl_floats k r72) >>= fun r73 =>
   (gogeom_geom2_Ends k a0_4a a0_4b a0_4c a0_4d a0_4e) >>= fun r75 =>
   (impl_ints k r75) >>= fun r76 =>
   match r76 with
    | (.inl y1) =>
     ((gogeom_geom0_Endss_v2 k a0_4a a0_4b a0_4c a0_4d a0_4e) >>= fun r78 =>
     (impl_intss_v2 k) >>= fun r79 =>
     some (4, r70, r15, r73, [], [], []))
    | (.inr y1) =>
     ((gogeom_geom0_Endss_v2 k a0_4a a0_4b a0_4c a0_4d a0_4e) >>= fun r78 =>
     (impl_intss_v2 k) >>= fun r79 =>
     some (4, r70, r15, r73, y1, [], [])))
  | .c5 a0_5a a0_5b a0_5c a0_5d a0_5e =>
   ((gogeom_geom0_SRID_v2 k a0_5a a0_5b a0_5c a0_5d a0_5e) >>= fun r15 =>
   (gogeom_geom0_Layout_v2 k a0_5a a0_5b a0_5c a0_5d a0_5e) >>= fun r70 =>
   (gogeom_geom0_FlatCoords_v2 k a0_5a a0_5b a0_5c a0_5d a0_5e) >>= fun r72 =>
   (impl_floats k r72) >>= fun r73 =>
   (gogeom_geom2_Ends k a0_5a a0_5b a0_5c a0_5d a0_5e) >>= fun r75 =>
   (impl_ints k r75) >>= fun r76 =>
   match r76 with
    | (.inl y1) =>
     ((gogeom_geom0_Endss_v2 k a0_5a a0_5b a0_5c a0_5d a0_5e) >>= fun r78 =>
     (impl_intss_v2 k) >>= fun r79 =>
     some (5, r70, r15, r73, [], [], []))
    | (.inr y1) =>
     ((gogeom_geom0_Endss_v2 k a0_5a a0_5b a0_5c a0_5d a0_5e) >>= fun r78 =>
     (impl_intss_v2 k) >>= fun r79 =>
     some (5, r70, r15, r73, y1, [], [])))
  | .c6 a0_6a a0_6b a0_6c a0_6d a0_6e =>
   ((gogeom_geom0_SRID_v3 k a0_6a a0_6b a0_6c a0_6d a0_6e) >>= fun r15 =>
   (gogeom_geom0_Layout_v3 k a0_6a a0_6b a0_6c a0_6d a0_6e) >>= fun r70 =>
   (gogeom_geom0_FlatCoords_v3 k a0_6a a0_6b a0_6c a0_6d a0_6e) >>= fun r72 =>
   (impl_floats k r72) >>= fun r73 =>
   (gogeom_geom0_Ends_v2 k a0_6a a0_6b a0_6c a0_6d a0_6e) >>= fun r75 =>
   (impl_ints_v2 k) >>= fun r76 =>
   (gogeom_geom3_Endss k a0_6a a0_6b a0_6c a0_6d a0_6e) >>= fun r78 =>
   (impl_intss k r78) >>= fun r79 =>
   some (6, r70, r15, r73, r76, r79, []))
  | .c7 a0_7a a0_7b a0_7c =>
   ((gogeom_GeometryCollection_SRID_v2 k a0_7a a0_7b a0_7c) >>= fun r15 =>
   (gogeom_DoorLayout_v2 k a0_7a a0_7b a0_7c) >>= fun r50 =>
   (gogeom_GeometryCollection_Geoms_v2 k a0_7a a0_7b a0_7c) >>= fun r54 =>
   (impl_plain_v2_l1 r54 recf k ([], 0)) >>= fun v3 =>
   some (7, r50, r15, [], [], [], v3))
def impl_plain_v2 : Nat → G53 → Option (Int × Int × Int × (List Nat) × (List Int) × (List (List Int)) × (List T27))
 | 0 => fun _ => none
 | k + 1 => fun a0 => impl_plain_v2_b (impl_plain_v2 k) k a0

theorem impl_plain_v2_b_sim {recf : G53 → Option (Int × Int × Int × (List Nat) × (List Int) × (List (List Int)) × (List T27))} (hrec : ∀  (a0 : G53) (out : Int × Int × Int × (List Nat) × (List Int) × (List (List Int)) × (List T27)), recf a0 = some out → Sx.Fn Try.prog 34 [(SG53 a0)] [] (fun w : Unit => (Ag [(Vi out.1), (Vi out.2.1), (Vi out.2.2.1), (Sl Kf out.2.2.2.1), (Sl (Ki .i64) out.2.2.2.2.1), (Sl (Kl (Ki .i64)) out.2.2.2.2.2.1), (Sl KT27 out.2.2.2.2.2.2)])) (fun w => [])) {k : Nat}  (a0 : G53) {out : Int × Int × Int × (List Nat) × (List Int) × (List (List Int)) × (List T27)} (hp : impl_plain_v2_b recf k a0 = some out) : Sx.Fn Try.prog 34 [(SG53 a0)] [] (fun w : Unit => (Ag [(Vi out.1), (Vi out.2.1), (Vi out.2.2.1), (Sl Kf out.2.2.2.1), (Sl (Ki .i64) out.2.2.2.2.1), (Sl (Kl (Ki .i64)) out.2.2.2.2.2.1), (Sl KT27 out.2.2.2.2.2.2)])) (fun w => []) := by
 unfold impl_plain_v2_b at hp
 refine fn_of Try.func34 rfl Try.ntmps34 rfl fun E hM => ?_
 refine cr fun K1 hK1 => ?_
 refine sx_ox' (ox_alloc' info27 rfl rfl rfl rfl (l := [(Vi 0), (Vi 0), (Vi 0), Vn, Vn, Vn, Vn]) rfl) (wt_none' rfl) fun q2 => ?_
 refine nk hK1 ?_
 refine cr fun K2 hK2 => ?_
 refine s0 (rd_move' rfl) ?_
 rcases a0 with ⟨a0_0a, a0_0b, a0_0c, a0_0d⟩ | ⟨a0_1a, a0_1b, a0_1c, a0_1d⟩ | ⟨a0_2a, a0_2b, a0_2c, a0_2d⟩ | ⟨a0_3a, a0_3b, a0_3c, a0_3d, a0_3e⟩ | ⟨a0_4a, a0_4b, a0_4c, a0_4d, a0_4e⟩ | ⟨a0_5a, a0_5b, a0_5c, a0_5d, a0_5e⟩ | ⟨a0_6a, a0_6b, a0_6c, a0_6d, a0_6e⟩ | ⟨a0_7a, a0_7b, a0_7c⟩
 ·dsimp only at hp
  refine tx_slot' 0 (y := (If 72 (Pt [(Vi a0_0a), (Vi a0_0b), (Sl Kf a0_0c), (Vi a0_0d)]))) rfl (imp_eq (SG53_c0 a0_0a a0_0b a0_0c a0_0d)) ?_
  refine tx_slot' 14 (y := (If 72 (Pt [(Vi a0_0a), (Vi a0_0b), (Sl Kf a0_0c), (Vi a0_0d)]))) rfl (imp_eq (SG53_c0 a0_0a a0_0b a0_0c a0_0d)) ?_
  obtain ⟨r15, hr15, hp⟩ := bind_some hp
  refine sx_ox' (ox_calln' (ent_inv' rfl rfl (inv_pt0 inv72_SRID)) (gogeom_geom0_SRID_sim _ _ _ _ hr15 : Sx.Fn Try.prog 136 [(Pt [(Vi a0_0a), (Vi a0_0b), (Sl Kf a0_0c), (Vi a0_0d)])] [] (fun x : Unit => (Vi r15)) (fun x => [])) (Hn := fun x : Unit => [⟨.pointer (some q2), [(Vi 0), (Vi 0), (Vi 0), Vn, Vn, Vn, Vn], 27, none⟩]) (fun _ => rfl) rfl rfl) (wt_none' rfl) fun ⟨⟩ => ?_
  refine s0 (rd_build' (pls := [(0, 1), (1, 1), (2, 1), (3, 1), (4, 1), (5, 1), (6, 1)]) (qs := [(2, [(Vi r15)])]) (r := [(Vi 0), (Vi 0), (Vi r15), Vn, Vn, Vn, Vn]) ⟨rfl, ⟨_, rfl, (lv_vl rfl rfl)⟩, trivial⟩ Try.underlying27 has27 places27 info27 rfl rfl rfl) ?_
  refine sx_ox' (ox_alloc' info27 rfl rfl rfl rfl (l := [(Vi 0), (Vi 0), (Vi 0), Vn, Vn, Vn, Vn]) rfl) (wt_none' rfl) fun q3 => ?_
  refine sx_ox' (ox_store' (i := 0) (o := 0) rfl rfl (lv_ag _) ⟨rfl, rfl, rfl, rfl⟩ rfl info27 rfl (H' := [⟨.pointer (some q3), [(Vi 0), (Vi 0), (Vi r15), Vn, Vn, Vn, Vn], 27, none⟩, ⟨.pointer (some q2), [(Vi 0), (Vi 0), (Vi 0), Vn, Vn, Vn, Vn], 27, none⟩]) rfl) (wt_none' rfl) fun _ => ?_
  refine nk hK2 ?_
  refine cx_seq' fun K3 hK3 => ?_
  refine cr fun K4 hK4 => ?_
  refine s0 (rd_move' rfl) ?_
  refine nk hK4 ?_
  refine cx_block' ?_
  refine cr fun K5 hK5 => ?_
  refine s0 (rd_assert' rfl (F := fun v => .tuple #[v, .bool true]) as72_53_72k as_ok) ?_
  refine s0 (rd_extract' rfl rfl) ?_
  refine s0 (rd_extract' rfl rfl) ?_
  refine nk hK5 ?_
  refine cx_cond_t' rfl rfl ?_
  refine cr fun K6 hK6 => ?_
  refine s0 (rd_assign' rfl) ?_
  refine nk hK6 ?_
  refine cx_region' ?_
  refine s0 (rd_field0' rfl Try.underlying27 rfl info3 rfl) ?_
  refine sx_ox' (ox_store' (i := 0) (o := 0) rfl rfl (lv_vl rfl rfl) ⟨rfl, rfl, rfl, rfl⟩ rfl info3 rfl (H' := [⟨.pointer (some q3), [(Vi 1), (Vi 0), (Vi r15), Vn, Vn, Vn, Vn], 27, none⟩, ⟨.pointer (some q2), [(Vi 0), (Vi 0), (Vi 0), Vn, Vn, Vn, Vn], 27, none⟩]) rfl) (wt_none' rfl) fun _ => ?_
  refine nk hK3 ?_
  refine cr fun K7 hK7 => ?_
  refine s0 (rd_move' rfl) ?_
  obtain ⟨r70, hr70, hp⟩ := bind_some hp
  refine sx_ox' (ox_calln' (ent_inv' rfl rfl (inv_pt0 inv72_Layout)) (gogeom_geom0_Layout_sim _ _ _ _ hr70 : Sx.Fn Try.prog 134 [(Pt [(Vi a0_0a), (Vi a0_0b), (Sl Kf a0_0c), (Vi a0_0d)])] [] (fun x : Unit => (Vi r70)) (fun x => [])) (Hn := fun x : Unit => [⟨.pointer (some q3), [(Vi 1), (Vi 0), (Vi r15), Vn, Vn, Vn, Vn], 27, none⟩, ⟨.pointer (some q2), [(Vi 0), (Vi 0), (Vi 0), Vn, Vn, Vn, Vn], 27, none⟩]) (fun _ => rfl) rfl rfl) (wt_none' rfl) fun ⟨⟩ => ?_
  refine s0 (rd_move' rfl) ?_
  obtain ⟨r72, hr72, hp⟩ := bind_some hp
  refine sx_ox' (ox_calln' (ent_inv' rfl rfl (inv_pt0 inv72_FlatCoords)) (gogeom_geom0_FlatCoords_sim _ _ _ _ hr72 : Sx.Fn Try.prog 133 [(Pt [(Vi a0_0a), (Vi a0_0b), (Sl Kf a0_0c), (Vi a0_0d)])] [] (fun x : Unit => (Sl Kf r72)) (fun x => [])) (Hn := fun x : Unit => [⟨.pointer (some q3), [(Vi 1), (Vi 0), (Vi r15), Vn, Vn, Vn, Vn], 27, none⟩, ⟨.pointer (some q2), [(Vi 0), (Vi 0), (Vi 0), Vn, Vn, Vn, Vn], 27, none⟩]) (fun _ => rfl) rfl rfl) (wt_none' rfl) fun ⟨⟩ => ?_
  obtain ⟨r73, hr73, hp⟩ := bind_some hp
  refine sx_ox' (ox_calln' (ent_fn' Try.func59 isn59 rfl rfl) (impl_floats_sim _ hr73 : Sx.Fn Try.prog 59 [(Sl Kf r72)] [] (fun x : Unit => (Sl Kf r73)) (fun x => [])) (Hn := fun x : Unit => [⟨.pointer (some q3), [(Vi 1), (Vi 0), (Vi r15), Vn, Vn, Vn, Vn], 27, none⟩, ⟨.pointer (some q2), [(Vi 0), (Vi 0), (Vi 0), Vn, Vn, Vn, Vn], 27, none⟩]) (fun _ => rfl) rfl rfl) (wt_none' rfl) fun ⟨⟩ => ?_
  refine s0 (rd_move' rfl) ?_
  obtain ⟨r75, hr75, hp⟩ := bind_some hp
  refine sx_ox' (ox_calln' (ent_inv' rfl rfl (inv_pt0 inv72_Ends)) (gogeom_geom0_Ends_sim _ _ _ _ hr75 : Sx.Fn Try.prog 138 [(Pt [(Vi a0_0a), (Vi a0_0b), (Sl Kf a0_0c), (Vi a0_0d)])] [] (fun x : Unit => Vn) (fun x => [])) (Hn := fun x : Unit => [⟨.pointer (some q3), [(Vi 1), (Vi 0), (Vi r15), Vn, Vn, Vn, Vn], 27, none⟩, ⟨.pointer (some q2), [(Vi 0), (Vi 0), (Vi 0), Vn, Vn, Vn, Vn], 27, none⟩]) (fun _ => rfl) rfl rfl) (wt_none' rfl) fun ⟨⟩ => ?_
  obtain ⟨r76, hr76, hp⟩ := bind_some hp
  refine sx_ox' (ox_calln' (ent_fn' Try.func58 isn58 rfl rfl) (impl_ints_v2_sim hr76 : Sx.Fn Try.prog 58 [Vn] [] (fun x : Unit => (Sl (Ki .i64) r76)) (fun x => [])) (Hn := fun x : Unit => [⟨.pointer (some q3), [(Vi 1), (Vi 0), (Vi r15), Vn, Vn, Vn, Vn], 27, none⟩, ⟨.pointer (some q2), [(Vi 0), (Vi 0), (Vi 0), Vn, Vn, Vn, Vn], 27, none⟩]) (fun _ => rfl) rfl rfl) (wt_none' rfl) fun ⟨⟩ => ?_
  refine s0 (rd_move' rfl) ?_
  obtain ⟨r78, hr78, hp⟩ := bind_some hp
  refine sx_ox' (ox_calln' (ent_inv' rfl rfl (inv_pt0 inv72_Endss)) (gogeom_geom0_Endss_sim _ _ _ _ hr78 : Sx.Fn Try.prog 132 [(Pt [(Vi a0_0a), (Vi a0_0b), (Sl Kf a0_0c), (Vi a0_0d)])] [] (fun x : Unit => Vn) (fun x => [])) (Hn := fun x : Unit => [⟨.pointer (some q3), [(Vi 1), (Vi 0), (Vi r15), Vn, Vn, Vn, Vn], 27, none⟩, ⟨.pointer (some q2), [(Vi 0), (Vi 0), (Vi 0), Vn, Vn, Vn, Vn], 27, none⟩]) (fun _ => rfl) rfl rfl) (wt_none' rfl) fun ⟨⟩ => ?_
  obtain ⟨r79, hr79, hp⟩ := bind_some hp
  refine sx_ox' (ox_calln' (ent_fn' Try.func29 isn29 rfl rfl) (impl_intss_v2_sim hr79 : Sx.Fn Try.prog 29 [Vn] [] (fun x : Unit => Vn) (fun x => [])) (Hn := fun x : Unit => [⟨.pointer (some q3), [(Vi 1), (Vi 0), (Vi r15), Vn, Vn, Vn, Vn], 27, none⟩, ⟨.pointer (some q2), [(Vi 0), (Vi 0), (Vi 0), Vn, Vn, Vn, Vn], 27, none⟩]) (fun _ => rfl) rfl rfl) (wt_none' rfl) fun ⟨⟩ => ?_
  refine s0 (rd_field' (off := 1) rfl Try.underlying27 rfl info3 rfl) ?_
  refine sx_ox' (ox_store' (i := 0) (o := 1) rfl rfl (lv_vl rfl rfl) ⟨rfl, rfl, rfl, rfl⟩ rfl info3 rfl (H' := [⟨.pointer (some q3), [(Vi 1), (Vi r70), (Vi r15), Vn, Vn, Vn, Vn], 27, none⟩, ⟨.pointer (some q2), [(Vi 0), (Vi 0), (Vi 0), Vn, Vn, Vn, Vn], 27, none⟩]) rfl) (wt_none' rfl) fun _ => ?_
  refine s0 (rd_field' (off := 3) rfl Try.underlying27 rfl info22 rfl) ?_
  refine sx_ox' (ox_store' (i := 0) (o := 3) rfl rfl (lv_sl _ _) ⟨rfl, rfl, rfl, rfl⟩ rfl info22 rfl (H' := [⟨.pointer (some q3), [(Vi 1), (Vi r70), (Vi r15), (Sl Kf r73), Vn, Vn, Vn], 27, none⟩, ⟨.pointer (some q2), [(Vi 0), (Vi 0), (Vi 0), Vn, Vn, Vn, Vn], 27, none⟩]) rfl) (wt_none' rfl) fun _ => ?_
  refine s0 (rd_field' (off := 4) rfl Try.underlying27 rfl info23 rfl) ?_
  refine sx_ox' (ox_store' (i := 0) (o := 4) rfl rfl (lv_sl _ _) ⟨rfl, rfl, rfl, rfl⟩ rfl info23 rfl (H' := [⟨.pointer (some q3), [(Vi 1), (Vi r70), (Vi r15), (Sl Kf r73), (Sl (Ki .i64) r76), Vn, Vn], 27, none⟩, ⟨.pointer (some q2), [(Vi 0), (Vi 0), (Vi 0), Vn, Vn, Vn, Vn], 27, none⟩]) rfl) (wt_none' rfl) fun _ => ?_
  refine s0 (rd_field' (off := 5) rfl Try.underlying27 rfl info24 rfl) ?_
  refine sx_ox' (ox_store' (i := 0) (o := 5) rfl rfl (lv_vl rfl rfl) ⟨rfl, rfl, rfl, rfl⟩ rfl info24 rfl (H' := [⟨.pointer (some q3), [(Vi 1), (Vi r70), (Vi r15), (Sl Kf r73), (Sl (Ki .i64) r76), Vn, Vn], 27, none⟩, ⟨.pointer (some q2), [(Vi 0), (Vi 0), (Vi 0), Vn, Vn, Vn, Vn], 27, none⟩]) rfl) (wt_none' rfl) fun _ => ?_
  refine nk hK7 ?_
  refine cr fun K8 hK8 => ?_
  refine s0 (rd_load_agg' (i := 0) (o := 0) (nn := 7) rfl ⟨rfl, rfl, rfl, rfl⟩ rfl agg27 (l' := [(Vi 1), (Vi r70), (Vi r15), (Sl Kf r73), (Sl (Ki .i64) r76), Vn, Vn]) rfl) ?_
  refine sx_ox' (ox_store' (i := 1) (o := 0) rfl rfl (lv_ag _) ⟨rfl, rfl, rfl, rfl⟩ rfl info27 rfl (H' := [⟨.pointer (some q3), [(Vi 1), (Vi r70), (Vi r15), (Sl Kf r73), (Sl (Ki .i64) r76), Vn, Vn], 27, none⟩, ⟨.pointer (some q2), [(Vi 1), (Vi r70), (Vi r15), (Sl Kf r73), (Sl (Ki .i64) r76), Vn, Vn], 27, none⟩]) rfl) (wt_none' rfl) fun _ => ?_
  refine nk hK8 ?_
  refine cx_retc' ?_
  replace hp := Option.some.inj hp
  subst hp
  refine tx_pick' (L' := [(2, (Vp q2))]) (H' := [⟨.pointer (some q2), [(Vi 1), (Vi r70), (Vi r15), (Sl Kf r73), (Sl (Ki .i64) r76), Vn, Vn], 27, none⟩]) [1] (sub_cons rfl sub_nil) (by decide) (pick_cons rfl pick_nil) ?_
  exact tx_ret1' Try.results34 rfl () (rv_imp' (x := (Ag [(Vi 1), (Vi r70), (Vi r15), (Sl Kf r73), (Sl (Ki .i64) r76), Vn, Vn])) (y := (Ag [(Vi 1), (Vi r70), (Vi r15), (Sl Kf r73), (Sl (Ki .i64) r76), (Sl (Kl (Ki .i64)) []), (Sl KT27 [])])) (rv_cell_agg' (i := 0) (o := 0) (nn := 7) rfl ⟨rfl, rfl, rfl, rfl⟩ rfl agg27 rfl) (imp_ag ⟨imp_refl, imp_refl, imp_refl, imp_refl, imp_refl, imp_nil, imp_nil, trivial⟩)) (List.nil_sublist _)
 ·dsimp only at hp
  refine tx_slot' 0 (y := (If 75 (Pt [(Vi a0_1a), (Vi a0_1b), (Sl Kf a0_1c), (Vi a0_1d)]))) rfl (imp_eq (SG53_c1 a0_1a a0_1b a0_1c a0_1d)) ?_
  refine tx_slot' 14 (y := (If 75 (Pt [(Vi a0_1a), (Vi a0_1b), (Sl Kf a0_1c), (Vi a0_1d)]))) rfl (imp_eq (SG53_c1 a0_1a a0_1b a0_1c a0_1d)) ?_
  obtain ⟨r15, hr15, hp⟩ := bind_some hp
  refine sx_ox' (ox_calln' (ent_inv' rfl rfl (inv_pt0 inv75_SRID)) (gogeom_geom0_SRID_sim _ _ _ _ hr15 : Sx.Fn Try.prog 136 [(Pt [(Vi a0_1a), (Vi a0_1b), (Sl Kf a0_1c), (Vi a0_1d)])] [] (fun x : Unit => (Vi r15)) (fun x => [])) (Hn := fun x : Unit => [⟨.pointer (some q2), [(Vi 0), (Vi 0), (Vi 0), Vn, Vn, Vn, Vn], 27, none⟩]) (fun _ => rfl) rfl rfl) (wt_none' rfl) fun ⟨⟩ => ?_
  refine s0 (rd_build' (pls := [(0, 1), (1, 1), (2, 1), (3, 1), (4, 1), (5, 1), (6, 1)]) (qs := [(2, [(Vi r15)])]) (r := [(Vi 0), (Vi 0), (Vi r15), Vn, Vn, Vn, Vn]) ⟨rfl, ⟨_, rfl, (lv_vl rfl rfl)⟩, trivial⟩ Try.underlying27 has27 places27 info27 rfl rfl rfl) ?_
  refine sx_ox' (ox_alloc' info27 rfl rfl rfl rfl (l := [(Vi 0), (Vi 0), (Vi 0), Vn, Vn, Vn, Vn]) rfl) (wt_none' rfl) fun q3 => ?_
  refine sx_ox' (ox_store' (i := 0) (o := 0) rfl rfl (lv_ag _) ⟨rfl, rfl, rfl, rfl⟩ rfl info27 rfl (H' := [⟨.pointer (some q3), [(Vi 0), (Vi 0), (Vi r15), Vn, Vn, Vn, Vn], 27, none⟩, ⟨.pointer (some q2), [(Vi 0), (Vi 0), (Vi 0), Vn, Vn, Vn, Vn], 27, none⟩]) rfl) (wt_none' rfl) fun _ => ?_
  refine nk hK2 ?_
  refine cx_seq' fun K3 hK3 => ?_
  refine cr fun K4 hK4 => ?_
  refine s0 (rd_move' rfl) ?_
  refine nk hK4 ?_
  refine cx_block' ?_
  refine cr fun K5 hK5 => ?_
  refine s0 (rd_assert' rfl (F := fun _ => .tuple #[.pointer none, .bool false]) as75_53_72 as_no) ?_
  refine s0 (rd_extract' rfl rfl) ?_
  refine s0 (rd_extract' rfl rfl) ?_
  refine nk hK5 ?_
  refine cx_cond_f' rfl rfl ?_
  refine cr fun K9 hK9 => ?_
  refine s0 (rd_assert' rfl (F := fun v => .tuple #[v, .bool true]) as75_53_75k as_ok) ?_
  refine s0 (rd_extract' rfl rfl) ?_
  refine s0 (rd_extract' rfl rfl) ?_
  refine nk hK9 ?_
  refine cx_cond_t' rfl rfl ?_
  refine cr fun K10 hK10 => ?_
  refine s0 (rd_assign' rfl) ?_
  refine nk hK10 ?_
  refine cx_region' ?_
  refine s0 (rd_field0' rfl Try.underlying27 rfl info3 rfl) ?_
  refine sx_ox' (ox_store' (i := 0) (o := 0) rfl rfl (lv_vl rfl rfl) ⟨rfl, rfl, rfl, rfl⟩ rfl info3 rfl (H' := [⟨.pointer (some q3), [(Vi 2), (Vi 0), (Vi r15), Vn, Vn, Vn, Vn], 27, none⟩, ⟨.pointer (some q2), [(Vi 0), (Vi 0), (Vi 0), Vn, Vn, Vn, Vn], 27, none⟩]) rfl) (wt_none' rfl) fun _ => ?_
  refine nk hK3 ?_
  refine cr fun K7 hK7 => ?_
  refine s0 (rd_move' rfl) ?_
  obtain ⟨r70, hr70, hp⟩ := bind_some hp
  refine sx_ox' (ox_calln' (ent_inv' rfl rfl (inv_pt0 inv75_Layout)) (gogeom_geom0_Layout_sim _ _ _ _ hr70 : Sx.Fn Try.prog 134 [(Pt [(Vi a0_1a), (Vi a0_1b), (Sl Kf a0_1c), (Vi a0_1d)])] [] (fun x : Unit => (Vi r70)) (fun x => [])) (Hn := fun x : Unit => [⟨.pointer (some q3), [(Vi 2), (Vi 0), (Vi r15), Vn, Vn, Vn, Vn], 27, none⟩, ⟨.pointer (some q2), [(Vi 0), (Vi 0), (Vi 0), Vn, Vn, Vn, Vn], 27, none⟩]) (fun _ => rfl) rfl rfl) (wt_none' rfl) fun ⟨⟩ => ?_
  refine s0 (rd_move' rfl) ?_
  obtain ⟨r72, hr72, hp⟩ := bind_some hp
  refine sx_ox' (ox_calln' (ent_inv' rfl rfl (inv_pt0 inv75_FlatCoords)) (gogeom_geom0_FlatCoords_sim _ _ _ _ hr72 : Sx.Fn Try.prog 133 [(Pt [(Vi a0_1a), (Vi a0_1b), (Sl Kf a0_1c), (Vi a0_1d)])] [] (fun x : Unit => (Sl Kf r72)) (fun x => [])) (Hn := fun x : Unit => [⟨.pointer (some q3), [(Vi 2), (Vi 0), (Vi r15), Vn, Vn, Vn, Vn], 27, none⟩, ⟨.pointer (some q2), [(Vi 0), (Vi 0), (Vi 0), Vn, Vn, Vn, Vn], 27, none⟩]) (fun _ => rfl) rfl rfl) (wt_none' rfl) fun ⟨⟩ => ?_
  obtain ⟨r73, hr73, hp⟩ := bind_some hp
  refine sx_ox' (ox_calln' (ent_fn' Try.func59 isn59 rfl rfl) (impl_floats_sim _ hr73 : Sx.Fn Try.prog 59 [(Sl Kf r72)] [] (fun x : Unit => (Sl Kf r73)) (fun x => [])) (Hn := fun x : Unit => [⟨.pointer (some q3), [(Vi 2), (Vi 0), (Vi r15), Vn, Vn, Vn, Vn], 27, none⟩, ⟨.pointer (some q2), [(Vi 0), (Vi 0), (Vi 0), Vn, Vn, Vn, Vn], 27, none⟩]) (fun _ => rfl) rfl rfl) (wt_none' rfl) fun ⟨⟩ => ?_
  refine s0 (rd_move' rfl) ?_
  obtain ⟨r75, hr75, hp⟩ := bind_some hp
  refine sx_ox' (ox_calln' (ent_inv' rfl rfl (inv_pt0 inv75_Ends)) (gogeom_geom0_Ends_sim _ _ _ _ hr75 : Sx.Fn Try.prog 138 [(Pt [(Vi a0_1a), (Vi a0_1b), (Sl Kf a0_1c), (Vi a0_1d)])] [] (fun x : Unit => Vn) (fun x => [])) (Hn := fun x : Unit => [⟨.pointer (some q3), [(Vi 2), (Vi 0), (Vi r15), Vn, Vn, Vn, Vn], 27, none⟩, ⟨.pointer (some q2), [(Vi 0), (Vi 0), (Vi 0), Vn, Vn, Vn, Vn], 27, none⟩]) (fun _ => rfl) rfl rfl) (wt_none' rfl) fun ⟨⟩ => ?_
  obtain ⟨r76, hr76, hp⟩ := bind_some hp
  refine sx_ox' (ox_calln' (ent_fn' Try.func58 isn58 rfl rfl) (impl_ints_v2_sim hr76 : Sx.Fn Try.prog 58 [Vn] [] (fun x : Unit => (Sl (Ki .i64) r76)) (fun x => [])) (Hn := fun x : Unit => [⟨.pointer (some q3), [(Vi 2), (Vi 0), (Vi r15), Vn, Vn, Vn, Vn], 27, none⟩, ⟨.pointer (some q2), [(Vi 0), (Vi 0), (Vi 0), Vn, Vn, Vn, Vn], 27, none⟩]) (fun _ => rfl) rfl rfl) (wt_none' rfl) fun ⟨⟩ => ?_
  refine s0 (rd_move' rfl) ?_
  obtain ⟨r78, hr78, hp⟩ := bind_some hp
  refine sx_ox' (ox_calln' (ent_inv' rfl rfl (inv_pt0 inv75_Endss)) (gogeom_geom0_Endss_sim _ _ _ _ hr78 : Sx.Fn Try.prog 132 [(Pt [(Vi a0_1a), (Vi a0_1b), (Sl Kf a0_1c), (Vi a0_1d)])] [] (fun x : Unit => Vn) (fun x => [])) (Hn := fun x : Unit => [⟨.pointer (some q3), [(Vi 2), (Vi 0), (Vi r15), Vn, Vn, Vn, Vn], 27, none⟩, ⟨.pointer (some q2), [(Vi 0), (Vi 0), (Vi 0), Vn, Vn, Vn, Vn], 27, none⟩]) (fun _ => rfl) rfl rfl) (wt_none' rfl) fun ⟨⟩ => ?_
  obtain ⟨r79, hr79, hp⟩ := bind_some hp
  refine sx_ox' (ox_calln' (ent_fn' Try.func29 isn29 rfl rfl) (impl_intss_v2_sim hr79 : Sx.Fn Try.prog 29 [Vn] [] (fun x : Unit => Vn) (fun x => [])) (Hn := fun x : Unit => [⟨.pointer (some q3), [(Vi 2), (Vi 0), (Vi r15), Vn, Vn, Vn, Vn], 27, none⟩, ⟨.pointer (some q2), [(Vi 0), (Vi 0), (Vi 0), Vn, Vn, Vn, Vn], 27, none⟩]) (fun _ => rfl) rfl rfl) (wt_none' rfl) fun ⟨⟩ => ?_
  refine s0 (rd_field' (off := 1) rfl Try.underlying27 rfl info3 rfl) ?_
  refine sx_ox' (ox_store' (i := 0) (o := 1) rfl rfl (lv_vl rfl rfl) ⟨rfl, rfl, rfl, rfl⟩ rfl info3 rfl (H' := [⟨.pointer (some q3), [(Vi 2), (Vi r70), (Vi r15), Vn, Vn, Vn, Vn], 27, none⟩, ⟨.pointer (some q2), [(Vi 0), (Vi 0), (Vi 0), Vn, Vn, Vn, Vn], 27, none⟩]) rfl) (wt_none' rfl) fun _ => ?_
  refine s0 (rd_field' (off := 3) rfl Try.underlying27 rfl info22 rfl) ?_
  refine sx_ox' (ox_store' (i := 0) (o := 3) rfl rfl (lv_sl _ _) ⟨rfl, rfl, rfl, rfl⟩ rfl info22 rfl (H' := [⟨.pointer (some q3), [(Vi 2), (Vi r70), (Vi r15), (Sl Kf r73), Vn, Vn, Vn], 27, none⟩, ⟨.pointer (some q2), [(Vi 0), (Vi 0), (Vi 0), Vn, Vn, Vn, Vn], 27, none⟩]) rfl) (wt_none' rfl) fun _ => ?_
  refine s0 (rd_field' (off := 4) rfl Try.underlying27 rfl info23 rfl) ?_
  refine sx_ox' (ox_store' (i := 0) (o := 4) rfl rfl (lv_sl _ _) ⟨rfl, rfl, rfl, rfl⟩ rfl info23 rfl (H' := [⟨.pointer (some q3), [(Vi 2), (Vi r70), (Vi r15), (Sl Kf r73), (Sl (Ki .i64) r76), Vn, Vn], 27, none⟩, ⟨.pointer (some q2), [(Vi 0), (Vi 0), (Vi 0), Vn, Vn, Vn, Vn], 27, none⟩]) rfl) (wt_none' rfl) fun _ => ?_
  refine s0 (rd_field' (off := 5) rfl Try.underlying27 rfl info24 rfl) ?_
  refine sx_ox' (ox_store' (i := 0) (o := 5) rfl rfl (lv_vl rfl rfl) ⟨rfl, rfl, rfl, rfl⟩ rfl info24 rfl (H' := [⟨.pointer (some q3), [(Vi 2), (Vi r70), (Vi r15), (Sl Kf r73), (Sl (Ki .i64) r76), Vn, Vn], 27, none⟩, ⟨.pointer (some q2), [(Vi 0), (Vi 0), (Vi 0), Vn, Vn, Vn, Vn], 27, none⟩]) rfl) (wt_none' rfl) fun _ => ?_
  refine nk hK7 ?_
  refine cr fun K8 hK8 => ?_
  refine s0 (rd_load_agg' (i := 0) (o := 0) (nn := 7) rfl ⟨rfl, rfl, rfl, rfl⟩ rfl agg27 (l' := [(Vi 2), (Vi r70), (Vi r15), (Sl Kf r73), (Sl (Ki .i64) r76), Vn, Vn]) rfl) ?_
  refine sx_ox' (ox_store' (i := 1) (o := 0) rfl rfl (lv_ag _) ⟨rfl, rfl, rfl, rfl⟩ rfl info27 rfl (H' := [⟨.pointer (some q3), [(Vi 2), (Vi r70), (Vi r15), (Sl Kf r73), (Sl (Ki .i64) r76), Vn, Vn], 27, none⟩, ⟨.pointer (some q2), [(Vi 2), (Vi r70), (Vi r15), (Sl Kf r73), (Sl (Ki .i64) r76), Vn, Vn], 27, none⟩]) rfl) (wt_none' rfl) fun _ => ?_
  refine nk hK8 ?_
  refine cx_retc' ?_
  replace hp := Option.some.inj hp
  subst hp
  refine tx_pick' (L' := [(2, (Vp q2))]) (H' := [⟨.pointer (some q2), [(Vi 2), (Vi r70), (Vi r15), (Sl Kf r73), (Sl (Ki .i64) r76), Vn, Vn], 27, none⟩]) [1] (sub_cons rfl sub_nil) (by decide) (pick_cons rfl pick_nil) ?_
  exact tx_ret1' Try.results34 rfl () (rv_imp' (x := (Ag [(Vi 2), (Vi r70), (Vi r15), (Sl Kf r73), (Sl (Ki .i64) r76), Vn, Vn])) (y := (Ag [(Vi 2), (Vi r70), (Vi r15), (Sl Kf r73), (Sl (Ki .i64) r76), (Sl (Kl (Ki .i64)) []), (Sl KT27 [])])) (rv_cell_agg' (i := 0) (o := 0) (nn := 7) rfl ⟨rfl, rfl, rfl, rfl⟩ rfl agg27 rfl) (imp_ag ⟨imp_refl, imp_refl, imp_refl, imp_refl, imp_refl, imp_nil, imp_nil, trivial⟩)) (List.nil_sublist _)
 ·dsimp only at hp
  refine tx_slot' 0 (y := (If 69 (Pt [(Vi a0_2a), (Vi a0_2b), (Sl Kf a0_2c), (Vi a0_2d)]))) rfl (imp_eq (SG53_c2 a0_2a a0_2b a0_2c a0_2d)) ?_
  refine tx_slot' 14 (y := (If 69 (Pt [(Vi a0_2a), (Vi a0_2b), (Sl Kf a0_2c), (Vi a0_2d)]))) rfl (imp_eq (SG53_c2 a0_2a a0_2b a0_2c a0_2d)) ?_
  obtain ⟨r15, hr15, hp⟩ := bind_some hp
  refine sx_ox' (ox_calln' (ent_inv' rfl rfl (inv_pt0 inv69_SRID)) (gogeom_geom0_SRID_sim _ _ _ _ hr15 : Sx.Fn Try.prog 136 [(Pt [(Vi a0_2a), (Vi a0_2b), (Sl Kf a0_2c), (Vi a0_2d)])] [] (fun x : Unit => (Vi r15)) (fun x => [])) (Hn := fun x : Unit => [⟨.pointer (some q2), [(Vi 0), (Vi 0), (Vi 0), Vn, Vn, Vn, Vn], 27, none⟩]) (fun _ => rfl) rfl rfl) (wt_none' rfl) fun ⟨⟩ => ?_
  refine s0 (rd_build' (pls := [(0, 1), (1, 1), (2, 1), (3, 1), (4, 1), (5, 1), (6, 1)]) (qs := [(2, [(Vi r15)])]) (r := [(Vi 0), (Vi 0), (Vi r15), Vn, Vn, Vn, Vn]) ⟨rfl, ⟨_, rfl, (lv_vl rfl rfl)⟩, trivial⟩ Try.underlying27 has27 places27 info27 rfl rfl rfl) ?_
  refine sx_ox' (ox_alloc' info27 rfl rfl rfl rfl (l := [(Vi 0), (Vi 0), (Vi 0), Vn, Vn, Vn, Vn]) rfl) (wt_none' rfl) fun q3 => ?_
  refine sx_ox' (ox_store' (i := 0) (o := 0) rfl rfl (lv_ag _) ⟨rfl, rfl, rfl, rfl⟩ rfl info27 rfl (H' := [⟨.pointer (some q3), [(Vi 0), (Vi 0), (Vi r15), Vn, Vn, Vn, Vn], 27, none⟩, ⟨.pointer (some q2), [(Vi 0), (Vi 0), (Vi 0), Vn, Vn, Vn, Vn], 27, none⟩]) rfl) (wt_none' rfl) fun _ => ?_
  refine nk hK2 ?_
  refine cx_seq' fun K3 hK3 => ?_
  refine cr fun K4 hK4 => ?_
  refine s0 (rd_move' rfl) ?_
  refine nk hK4 ?_
  refine cx_block' ?_
  refine cr fun K5 hK5 => ?_
  refine s0 (rd_assert' rfl (F := fun _ => .tuple #[.pointer none, .bool false]) as69_53_72 as_no) ?_
  refine s0 (rd_extract' rfl rfl) ?_
  refine s0 (rd_extract' rfl rfl) ?_
  refine nk hK5 ?_
  refine cx_cond_f' rfl rfl ?_
  refine cr fun K9 hK9 => ?_
  refine s0 (rd_assert' rfl (F := fun _ => .tuple #[.pointer none, .bool false]) as69_53_75 as_no) ?_
  refine s0 (rd_extract' rfl rfl) ?_
  refine s0 (rd_extract' rfl rfl) ?_
  refine nk hK9 ?_
  refine cx_cond_f' rfl rfl ?_
  refine cr fun K11 hK11 => ?_
  refine s0 (rd_assert' rfl (F := fun v => .tuple #[v, .bool true]) as69_53_69k as_ok) ?_
  refine s0 (rd_extract' rfl rfl) ?_
  refine s0 (rd_extract' rfl rfl) ?_
  refine nk hK11 ?_
  refine cx_cond_t' rfl rfl ?_
  refine cr fun K12 hK12 => ?_
  refine s0 (rd_assign' rfl) ?_
  refine nk hK12 ?_
  refine cx_region' ?_
  refine s0 (rd_field0' rfl Try.underlying27 rfl info3 rfl) ?_
  refine sx_ox' (ox_store' (i := 0) (o := 0) rfl rfl (lv_vl rfl rfl) ⟨rfl, rfl, rfl, rfl⟩ rfl info3 rfl (H' := [⟨.pointer (some q3), [(Vi 8), (Vi 0), (Vi r15), Vn, Vn, Vn, Vn], 27, none⟩, ⟨.pointer (some q2), [(Vi 0), (Vi 0), (Vi 0), Vn, Vn, Vn, Vn], 27, none⟩]) rfl) (wt_none' rfl) fun _ => ?_
  refine nk hK3 ?_
  refine cr fun K7 hK7 => ?_
  refine s0 (rd_move' rfl) ?_
  obtain ⟨r70, hr70, hp⟩ := bind_some hp
  refine sx_ox' (ox_calln' (ent_inv' rfl rfl (inv_pt0 inv69_Layout)) (gogeom_geom0_Layout_sim _ _ _ _ hr70 : Sx.Fn Try.prog 134 [(Pt [(Vi a0_2a), (Vi a0_2b), (Sl Kf a0_2c), (Vi a0_2d)])] [] (fun x : Unit => (Vi r70)) (fun x => [])) (Hn := fun x : Unit => [⟨.pointer (some q3), [(Vi 8), (Vi 0), (Vi r15), Vn, Vn, Vn, Vn], 27, none⟩, ⟨.pointer (some q2), [(Vi 0), (Vi 0), (Vi 0), Vn, Vn, Vn, Vn], 27, none⟩]) (fun _ => rfl) rfl rfl) (wt_none' rfl) fun ⟨⟩ => ?_
  refine s0 (rd_move' rfl) ?_
  obtain ⟨r72, hr72, hp⟩ := bind_some hp
  refine sx_ox' (ox_calln' (ent_inv' rfl rfl (inv_pt0 inv69_FlatCoords)) (gogeom_geom0_FlatCoords_sim _ _ _ _ hr72 : Sx.Fn Try.prog 133 [(Pt [(Vi a0_2a), (Vi a0_2b), (Sl Kf a0_2c), (Vi a0_2d)])] [] (fun x : Unit => (Sl Kf r72)) (fun x => [])) (Hn := fun x : Unit => [⟨.pointer (some q3), [(Vi 8), (Vi 0), (Vi r15), Vn, Vn, Vn, Vn], 27, none⟩, ⟨.pointer (some q2), [(Vi 0), (Vi 0), (Vi 0), Vn, Vn, Vn, Vn], 27, none⟩]) (fun _ => rfl) rfl rfl) (wt_none' rfl) fun ⟨⟩ => ?_
  obtain ⟨r73, hr73, hp⟩ := bind_some hp
  refine sx_ox' (ox_calln' (ent_fn' Try.func59 isn59 rfl rfl) (impl_floats_sim _ hr73 : Sx.Fn Try.prog 59 [(Sl Kf r72)] [] (fun x : Unit => (Sl Kf r73)) (fun x => [])) (Hn := fun x : Unit => [⟨.pointer (some q3), [(Vi 8), (Vi 0), (Vi r15), Vn, Vn, Vn, Vn], 27, none⟩, ⟨.pointer (some q2), [(Vi 0), (Vi 0), (Vi 0), Vn, Vn, Vn, Vn], 27, none⟩]) (fun _ => rfl) rfl rfl) (wt_none' rfl) fun ⟨⟩ => ?_
  refine s0 (rd_move' rfl) ?_
  obtain ⟨r75, hr75, hp⟩ := bind_some hp
  refine sx_ox' (ox_calln' (ent_inv' rfl rfl (inv_pt0 inv69_Ends)) (gogeom_geom0_Ends_sim _ _ _ _ hr75 : Sx.Fn Try.prog 138 [(Pt [(Vi a0_2a), (Vi a0_2b), (Sl Kf a0_2c), (Vi a0_2d)])] [] (fun x : Unit => Vn) (fun x => [])) (Hn := fun x : Unit => [⟨.pointer (some q3), [(Vi 8), (Vi 0), (Vi r15), Vn, Vn, Vn, Vn], 27, none⟩, ⟨.pointer (some q2), [(Vi 0), (Vi 0), (Vi 0), Vn, Vn, Vn, Vn], 27, none⟩]) (fun _ => rfl) rfl rfl) (wt_none' rfl) fun ⟨⟩ => ?_
  obtain ⟨r76, hr76, hp⟩ := bind_some hp
  refine sx_ox' (ox_calln' (ent_fn' Try.func58 isn58 rfl rfl) (impl_ints_v2_sim hr76 : Sx.Fn Try.prog 58 [Vn] [] (fun x : Unit => (Sl (Ki .i64) r76)) (fun x => [])) (Hn := fun x : Unit => [⟨.pointer (some q3), [(Vi 8), (Vi 0), (Vi r15), Vn, Vn, Vn, Vn], 27, none⟩, ⟨.pointer (some q2), [(Vi 0), (Vi 0), (Vi 0), Vn, Vn, Vn, Vn], 27, none⟩]) (fun _ => rfl) rfl rfl) (wt_none' rfl) fun ⟨⟩ => ?_
  refine s0 (rd_move' rfl) ?_
  obtain ⟨r78, hr78, hp⟩ := bind_some hp
  refine sx_ox' (ox_calln' (ent_inv' rfl rfl (inv_pt0 inv69_Endss)) (gogeom_geom0_Endss_sim _ _ _ _ hr78 : Sx.Fn Try.prog 132 [(Pt [(Vi a0_2a), (Vi a0_2b), (Sl Kf a0_2c), (Vi a0_2d)])] [] (fun x : Unit => Vn) (fun x => [])) (Hn := fun x : Unit => [⟨.pointer (some q3), [(Vi 8), (Vi 0), (Vi r15), Vn, Vn, Vn, Vn], 27, none⟩, ⟨.pointer (some q2), [(Vi 0), (Vi 0), (Vi 0), Vn, Vn, Vn, Vn], 27, none⟩]) (fun _ => rfl) rfl rfl) (wt_none' rfl) fun ⟨⟩ => ?_
  obtain ⟨r79, hr79, hp⟩ := bind_some hp
  refine sx_ox' (ox_calln' (ent_fn' Try.func29 isn29 rfl rfl) (impl_intss_v2_sim hr79 : Sx.Fn Try.prog 29 [Vn] [] (fun x : Unit => Vn) (fun x => [])) (Hn := fun x : Unit => [⟨.pointer (some q3), [(Vi 8), (Vi 0), (Vi r15), Vn, Vn, Vn, Vn], 27, none⟩, ⟨.pointer (some q2), [(Vi 0), (Vi 0), (Vi 0), Vn, Vn, Vn, Vn], 27, none⟩]) (fun _ => rfl) rfl rfl) (wt_none' rfl) fun ⟨⟩ => ?_
  refine s0 (rd_field' (off := 1) rfl Try.underlying27 rfl info3 rfl) ?_
  refine sx_ox' (ox_store' (i := 0) (o := 1) rfl rfl (lv_vl rfl rfl) ⟨rfl, rfl, rfl, rfl⟩ rfl info3 rfl (H' := [⟨.pointer (some q3), [(Vi 8), (Vi r70), (Vi r15), Vn, Vn, Vn, Vn], 27, none⟩, ⟨.pointer (some q2), [(Vi 0), (Vi 0), (Vi 0), Vn, Vn, Vn, Vn], 27, none⟩]) rfl) (wt_none' rfl) fun _ => ?_
  refine s0 (rd_field' (off := 3) rfl Try.underlying27 rfl info22 rfl) ?_
  refine sx_ox' (ox_store' (i := 0) (o := 3) rfl rfl (lv_sl _ _) ⟨rfl, rfl, rfl, rfl⟩ rfl info22 rfl (H' := [⟨.pointer (some q3), [(Vi 8), (Vi r70), (Vi r15), (Sl Kf r73), Vn, Vn, Vn], 27, none⟩, ⟨.pointer (some q2), [(Vi 0), (Vi 0), (Vi 0), Vn, Vn, Vn, Vn], 27, none⟩]) rfl) (wt_none' rfl) fun _ => ?_
  refine s0 (rd_field' (off := 4) rfl Try.underlying27 rfl info23 rfl) ?_
  refine sx_ox' (ox_store' (i := 0) (o := 4) rfl rfl (lv_sl _ _) ⟨rfl, rfl, rfl, rfl⟩ rfl info23 rfl (H' := [⟨.pointer (some q3), [(Vi 8), (Vi r70), (Vi r15), (Sl Kf r73), (Sl (Ki .i64) r76), Vn, Vn], 27, none⟩, ⟨.pointer (some q2), [(Vi 0), (Vi 0), (Vi 0), Vn, Vn, Vn, Vn], 27, none⟩]) rfl) (wt_none' rfl) fun _ => ?_
  refine s0 (rd_field' (off := 5) rfl Try.underlying27 rfl info24 rfl) ?_
  refine sx_ox' (ox_store' (i := 0) (o := 5) rfl rfl (lv_vl rfl rfl) ⟨rfl, rfl, rfl, rfl⟩ rfl info24 rfl (H' := [⟨.pointer (some q3), [(Vi 8), (Vi r70), (Vi r15), (Sl Kf r73), (Sl (Ki .i64) r76), Vn, Vn], 27, none⟩, ⟨.pointer (some q2), [(Vi 0), (Vi 0), (Vi 0), Vn, Vn, Vn, Vn], 27, none⟩]) rfl) (wt_none' rfl) fun _ => ?_
  refine nk hK7 ?_
  refine cr fun K8 hK8 => ?_
  refine s0 (rd_load_agg' (i := 0) (o := 0) (nn := 7) rfl ⟨rfl, rfl, rfl, rfl⟩ rfl agg27 (l' := [(Vi 8), (Vi r70), (Vi r15), (Sl Kf r73), (Sl (Ki .i64) r76), Vn, Vn]) rfl) ?_
  refine sx_ox' (ox_store' (i := 1) (o := 0) rfl rfl (lv_ag _) ⟨rfl, rfl, rfl, rfl⟩ rfl info27 rfl (H' := [⟨.pointer (some q3), [(Vi 8), (Vi r70), (Vi r15), (Sl Kf r73), (Sl (Ki .i64) r76), Vn, Vn], 27, none⟩, ⟨.pointer (some q2), [(Vi 8), (Vi r70), (Vi r15), (Sl Kf r73), (Sl (Ki .i64) r76), Vn, Vn], 27, none⟩]) rfl) (wt_none' rfl) fun _ => ?_
  refine nk hK8 ?_
  refine cx_retc' ?_
  replace hp := Option.some.inj hp
  subst hp
  refine tx_pick' (L' := [(2, (Vp q2))]) (H' := [⟨.pointer (some q2), [(Vi 8), (Vi r70), (Vi r15), (Sl Kf r73), (Sl (Ki .i64) r76), Vn, Vn], 27, none⟩]) [1] (sub_cons rfl sub_nil) (by decide) (pick_cons rfl pick_nil) ?_
  exact tx_ret1' Try.results34 rfl () (rv_imp' (x := (Ag [(Vi 8), (Vi r70), (Vi r15), (Sl Kf r73), (Sl (Ki .i64) r76), Vn, Vn])) (y := (Ag [(Vi 8), (Vi r70), (Vi r15), (Sl Kf r73), (Sl (Ki .i64) r76), (Sl (Kl (Ki .i64)) []), (Sl KT27 [])])) (rv_cell_agg' (i := 0) (o := 0) (nn := 7) rfl ⟨rfl, rfl, rfl, rfl⟩ rfl agg27 rfl) (imp_ag ⟨imp_refl, imp_refl, imp_refl, imp_refl, imp_refl, imp_nil, imp_nil, trivial⟩)) (List.nil_sublist _)
 ·dsimp only at hp
  refine tx_slot' 0 (y := (If 67 (Pt [(Vi a0_3a), (Vi a0_3b), (Sl Kf a0_3c), (Vi a0_3d), (Sl (Ki .i64) a0_3e)]))) rfl (imp_eq (SG53_c3 a0_3a a0_3b a0_3c a0_3d a0_3e)) ?_
  refine tx_slot' 14 (y := (If 67 (Pt [(Vi a0_3a), (Vi a0_3b), (Sl Kf a0_3c), (Vi a0_3d), (Sl (Ki .i64) a0_3e)]))) rfl (imp_eq (SG53_c3 a0_3a a0_3b a0_3c a0_3d a0_3e)) ?_
  obtain ⟨r15, hr15, hp⟩ := bind_some hp
  refine sx_ox' (ox_calln' (ent_inv' rfl rfl (inv_pt0 inv67_SRID)) (gogeom_geom0_SRID_v2_sim _ _ _ _ _ hr15 : Sx.Fn Try.prog 136 [(Pt [(Vi a0_3a), (Vi a0_3b), (Sl Kf a0_3c), (Vi a0_3d), (Sl (Ki .i64) a0_3e)])] [] (fun x : Unit => (Vi r15)) (fun x => [])) (Hn := fun x : Unit => [⟨.pointer (some q2), [(Vi 0), (Vi 0), (Vi 0), Vn, Vn, Vn, Vn], 27, none⟩]) (fun _ => rfl) rfl rfl) (wt_none' rfl) fun ⟨⟩ => ?_
  refine s0 (rd_build' (pls := [(0, 1), (1, 1), (2, 1), (3, 1), (4, 1), (5, 1), (6, 1)]) (qs := [(2, [(Vi r15)])]) (r := [(Vi 0), (Vi 0), (Vi r15), Vn, Vn, Vn, Vn]) ⟨rfl, ⟨_, rfl, (lv_vl rfl rfl)⟩, trivial⟩ Try.underlying27 has27 places27 info27 rfl rfl rfl) ?_
  refine sx_ox' (ox_alloc' info27 rfl rfl rfl rfl (l := [(Vi 0), (Vi 0), (Vi 0), Vn, Vn, Vn, Vn]) rfl) (wt_none' rfl) fun q3 => ?_
  refine sx_ox' (ox_store' (i := 0) (o := 0) rfl rfl (lv_ag _) ⟨rfl, rfl, rfl, rfl⟩ rfl info27 rfl (H' := [⟨.pointer (some q3), [(Vi 0), (Vi 0), (Vi r15), Vn, Vn, Vn, Vn], 27, none⟩, ⟨.pointer (some q2), [(Vi 0), (Vi 0), (Vi 0), Vn, Vn, Vn, Vn], 27, none⟩]) rfl) (wt_none' rfl) fun _ => ?_
  refine nk hK2 ?_
  refine cx_seq' fun K3 hK3 => ?_
  refine cr fun K4 hK4 => ?_
  refine s0 (rd_move' rfl) ?_
  refine nk hK4 ?_
  refine cx_block' ?_
  refine cr fun K5 hK5 => ?_
  refine s0 (rd_assert' rfl (F := fun _ => .tuple #[.pointer none, .bool false]) as67_53_72 as_no) ?_
  refine s0 (rd_extract' rfl rfl) ?_
  refine s0 (rd_extract' rfl rfl) ?_
  refine nk hK5 ?_
  refine cx_cond_f' rfl rfl ?_
  refine cr fun K9 hK9 => ?_
  refine s0 (rd_assert' rfl (F := fun _ => .tuple #[.pointer none, .bool false]) as67_53_75 as_no) ?_
  refine s0 (rd_extract' rfl rfl) ?_
  refine s0 (rd_extract' rfl rfl) ?_
  refine nk hK9 ?_
  refine cx_cond_f' rfl rfl ?_
  refine cr fun K11 hK11 => ?_
  refine s0 (rd_assert' rfl (F := fun _ => .tuple #[.pointer none, .bool false]) as67_53_69 as_no) ?_
  refine s0 (rd_extract' rfl rfl) ?_
  refine s0 (rd_extract' rfl rfl) ?_
  refine nk hK11 ?_
  refine cx_cond_f' rfl rfl ?_
  refine cr fun K13 hK13 => ?_
  refine s0 (rd_assert' rfl (F := fun v => .tuple #[v, .bool true]) as67_53_67k as_ok) ?_
  refine s0 (rd_extract' rfl rfl) ?_
  refine s0 (rd_extract' rfl rfl) ?_
  refine nk hK13 ?_
  refine cx_cond_t' rfl rfl ?_
  refine cr fun K14 hK14 => ?_
  refine s0 (rd_assign' rfl) ?_
  refine nk hK14 ?_
  refine cx_region' ?_
  refine s0 (rd_field0' rfl Try.underlying27 rfl info3 rfl) ?_
  refine sx_ox' (ox_store' (i := 0) (o := 0) rfl rfl (lv_vl rfl rfl) ⟨rfl, rfl, rfl, rfl⟩ rfl info3 rfl (H' := [⟨.pointer (some q3), [(Vi 3), (Vi 0), (Vi r15), Vn, Vn, Vn, Vn], 27, none⟩, ⟨.pointer (some q2), [(Vi 0), (Vi 0), (Vi 0), Vn, Vn, Vn, Vn], 27, none⟩]) rfl) (wt_none' rfl) fun _ => ?_
  refine nk hK3 ?_
  refine cr fun K7 hK7 => ?_
  refine s0 (rd_move' rfl) ?_
  obtain ⟨r70, hr70, hp⟩ := bind_some hp
  refine sx_ox' (ox_calln' (ent_inv' rfl rfl (inv_pt0 inv67_Layout)) (gogeom_geom0_Layout_v2_sim _ _ _ _ _ hr70 : Sx.Fn Try.prog 134 [(Pt [(Vi a0_3a), (Vi a0_3b), (Sl Kf a0_3c), (Vi a0_3d), (Sl (Ki .i64) a0_3e)])] [] (fun x : Unit => (Vi r70)) (fun x => [])) (Hn := fun x : Unit => [⟨.pointer (some q3), [(Vi 3), (Vi 0), (Vi r15), Vn, Vn, Vn, Vn], 27, none⟩, ⟨.pointer (some q2), [(Vi 0), (Vi 0), (Vi 0), Vn, Vn, Vn, Vn], 27, none⟩]) (fun _ => rfl) rfl rfl) (wt_none' rfl) fun ⟨⟩ => ?_
  refine s0 (rd_move' rfl) ?_
  obtain ⟨r72, hr72, hp⟩ := bind_some hp
  refine sx_ox' (ox_calln' (ent_inv' rfl rfl (inv_pt0 inv67_FlatCoords)) (gogeom_geom0_FlatCoords_v2_sim _ _ _ _ _ hr72 : Sx.Fn Try.prog 133 [(Pt [(Vi a0_3a), (Vi a0_3b), (Sl Kf a0_3c), (Vi a0_3d), (Sl (Ki .i64) a0_3e)])] [] (fun x : Unit => (Sl Kf r72)) (fun x => [])) (Hn := fun x : Unit => [⟨.pointer (some q3), [(Vi 3), (Vi 0), (Vi r15), Vn, Vn, Vn, Vn], 27, none⟩, ⟨.pointer (some q2), [(Vi 0), (Vi 0), (Vi 0), Vn, Vn, Vn, Vn], 27, none⟩]) (fun _ => rfl) rfl rfl) (wt_none' rfl) fun ⟨⟩ => ?_
  obtain ⟨r73, hr73, hp⟩ := bind_some hp
  refine sx_ox' (ox_calln' (ent_fn' Try.func59 isn59 rfl rfl) (impl_floats_sim _ hr73 : Sx.Fn Try.prog 59 [(Sl Kf r72)] [] (fun x : Unit => (Sl Kf r73)) (fun x => [])) (Hn := fun x : Unit => [⟨.pointer (some q3), [(Vi 3), (Vi 0), (Vi r15), Vn, Vn, Vn, Vn], 27, none⟩, ⟨.pointer (some q2), [(Vi 0), (Vi 0), (Vi 0), Vn, Vn, Vn, Vn], 27, none⟩]) (fun _ => rfl) rfl rfl) (wt_none' rfl) fun ⟨⟩ => ?_
  refine s0 (rd_move' rfl) ?_
  obtain ⟨r75, hr75, hp⟩ := bind_some hp
  refine sx_ox' (ox_calln' (ent_inv' rfl rfl (inv_pt0 inv67_Ends)) (gogeom_geom2_Ends_sim _ _ _ _ _ hr75 : Sx.Fn Try.prog 131 [(Pt [(Vi a0_3a), (Vi a0_3b), (Sl Kf a0_3c), (Vi a0_3d), (Sl (Ki .i64) a0_3e)])] [] (fun x : Unit => (Sl (Ki .i64) r75)) (fun x => [])) (Hn := fun x : Unit => [⟨.pointer (some q3), [(Vi 3), (Vi 0), (Vi r15), Vn, Vn, Vn, Vn], 27, none⟩, ⟨.pointer (some q2), [(Vi 0), (Vi 0), (Vi 0), Vn, Vn, Vn, Vn], 27, none⟩]) (fun _ => rfl) rfl rfl) (wt_none' rfl) fun ⟨⟩ => ?_
  obtain ⟨r76, hr76, hp⟩ := bind_some hp
  rcases r76 with y1 | y1
  ·dsimp only at hp
   refine sx_ox' (ox_calln' (ent_fn' Try.func58 isn58 rfl rfl) (impl_ints_sim _ hr76 : Sx.Fn Try.prog 58 [(Sl (Ki .i64) r75)] [] (fun x : Unit => Vn) (fun x => [])) (Hn := fun x : Unit => [⟨.pointer (some q3), [(Vi 3), (Vi 0), (Vi r15), Vn, Vn, Vn, Vn], 27, none⟩, ⟨.pointer (some q2), [(Vi 0), (Vi 0), (Vi 0), Vn, Vn, Vn, Vn], 27, none⟩]) (fun _ => rfl) rfl rfl) (wt_none' rfl) fun ⟨⟩ => ?_
   refine s0 (rd_move' rfl) ?_
   obtain ⟨r78, hr78, hp⟩ := bind_some hp
   refine sx_ox' (ox_calln' (ent_inv' rfl rfl (inv_pt0 inv67_Endss)) (gogeom_geom0_Endss_v2_sim _ _ _ _ _ hr78 : Sx.Fn Try.prog 132 [(Pt [(Vi a0_3a), (Vi a0_3b), (Sl Kf a0_3c), (Vi a0_3d), (Sl (Ki .i64) a0_3e)])] [] (fun x : Unit => Vn) (fun x => [])) (Hn := fun x : Unit => [⟨.pointer (some q3), [(Vi 3), (Vi 0), (Vi r15), Vn, Vn, Vn, Vn], 27, none⟩, ⟨.pointer (some q2), [(Vi 0), (Vi 0), (Vi 0), Vn, Vn, Vn, Vn], 27, none⟩]) (fun _ => rfl) rfl rfl) (wt_none' rfl) fun ⟨⟩ => ?_
   obtain ⟨r79, hr79, hp⟩ := bind_some hp
   refine sx_ox' (ox_calln' (ent_fn' Try.func29 isn29 rfl rfl) (impl_intss_v2_sim hr79 : Sx.Fn Try.prog 29 [Vn] [] (fun x : Unit => Vn) (fun x => [])) (Hn := fun x : Unit => [⟨.pointer (some q3), [(Vi 3), (Vi 0), (Vi r15), Vn, Vn, Vn, Vn], 27, none⟩, ⟨.pointer (some q2), [(Vi 0), (Vi 0), (Vi 0), Vn, Vn, Vn, Vn], 27, none⟩]) (fun _ => rfl) rfl rfl) (wt_none' rfl) fun ⟨⟩ => ?_
   refine s0 (rd_field' (off := 1) rfl Try.underlying27 rfl info3 rfl) ?_
   refine sx_ox' (ox_store' (i := 0) (o := 1) rfl rfl (lv_vl rfl rfl) ⟨rfl, rfl, rfl, rfl⟩ rfl info3 rfl (H' := [⟨.pointer (some q3), [(Vi 3), (Vi r70), (Vi r15), Vn, Vn, Vn, Vn], 27, none⟩, ⟨.pointer (some q2), [(Vi 0), (Vi 0), (Vi 0), Vn, Vn, Vn, Vn], 27, none⟩]) rfl) (wt_none' rfl) fun _ => ?_
   refine s0 (rd_field' (off := 3) rfl Try.underlying27 rfl info22 rfl) ?_
   refine sx_ox' (ox_store' (i := 0) (o := 3) rfl rfl (lv_sl _ _) ⟨rfl, rfl, rfl, rfl⟩ rfl info22 rfl (H' := [⟨.pointer (some q3), [(Vi 3), (Vi r70), (Vi r15), (Sl Kf r73), Vn, Vn, Vn], 27, none⟩, ⟨.pointer (some q2), [(Vi 0), (Vi 0), (Vi 0), Vn, Vn, Vn, Vn], 27, none⟩]) rfl) (wt_none' rfl) fun _ => ?_
   refine s0 (rd_field' (off := 4) rfl Try.underlying27 rfl info23 rfl) ?_
   refine sx_ox' (ox_store' (i := 0) (o := 4) rfl rfl (lv_vl rfl rfl) ⟨rfl, rfl, rfl, rfl⟩ rfl info23 rfl (H' := [⟨.pointer (some q3), [(Vi 3), (Vi r70), (Vi r15), (Sl Kf r73), Vn, Vn, Vn], 27, none⟩, ⟨.pointer (some q2), [(Vi 0), (Vi 0), (Vi 0), Vn, Vn, Vn, Vn], 27, none⟩]) rfl) (wt_none' rfl) fun _ => ?_
   refine s0 (rd_field' (off := 5) rfl Try.underlying27 rfl info24 rfl) ?_
   refine sx_ox' (ox_store' (i := 0) (o := 5) rfl rfl (lv_vl rfl rfl) ⟨rfl, rfl, rfl, rfl⟩ rfl info24 rfl (H' := [⟨.pointer (some q3), [(Vi 3), (Vi r70), (Vi r15), (Sl Kf r73), Vn, Vn, Vn], 27, none⟩, ⟨.pointer (some q2), [(Vi 0), (Vi 0), (Vi 0), Vn, Vn, Vn, Vn], 27, none⟩]) rfl) (wt_none' rfl) fun _ => ?_
   refine nk hK7 ?_
   refine cr fun K8 hK8 => ?_
   refine s0 (rd_load_agg' (i := 0) (o := 0) (nn := 7) rfl ⟨rfl, rfl, rfl, rfl⟩ rfl agg27 (l' := [(Vi 3), (Vi r70), (Vi r15), (Sl Kf r73), Vn, Vn, Vn]) rfl) ?_
   refine sx_ox' (ox_store' (i := 1) (o := 0) rfl rfl (lv_ag _) ⟨rfl, rfl, rfl, rfl⟩ rfl info27 rfl (H' := [⟨.pointer (some q3), [(Vi 3), (Vi r70), (Vi r15), (Sl Kf r73), Vn, Vn, Vn], 27, none⟩, ⟨.pointer (some q2), [(Vi 3), (Vi r70), (Vi r15), (Sl Kf r73), Vn, Vn, Vn], 27, none⟩]) rfl) (wt_none' rfl) fun _ => ?_
   refine nk hK8 ?_
   refine cx_retc' ?_
   replace hp := Option.some.inj hp
   subst hp
   refine tx_pick' (L' := [(2, (Vp q2))]) (H' := [⟨.pointer (some q2), [(Vi 3), (Vi r70), (Vi r15), (Sl Kf r73), Vn, Vn, Vn], 27, none⟩]) [1] (sub_cons rfl sub_nil) (by decide) (pick_cons rfl pick_nil) ?_
   exact tx_ret1' Try.results34 rfl () (rv_imp' (x := (Ag [(Vi 3), (Vi r70), (Vi r15), (Sl Kf r73), Vn, Vn, Vn])) (y := (Ag [(Vi 3), (Vi r70), (Vi r15), (Sl Kf r73), (Sl (Ki .i64) []), (Sl (Kl (Ki .i64)) []), (Sl KT27 [])])) (rv_cell_agg' (i := 0) (o := 0) (nn := 7) rfl ⟨rfl, rfl, rfl, rfl⟩ rfl agg27 rfl) (imp_ag ⟨imp_refl, imp_refl, imp_refl, imp_refl, imp_nil, imp_nil, imp_nil, trivial⟩)) (List.nil_sublist _)
  dsimp only at hp
  refine sx_ox' (ox_calln' (ent_fn' Try.func58 isn58 rfl rfl) (impl_ints_sim _ hr76 : Sx.Fn Try.prog 58 [(Sl (Ki .i64) r75)] [] (fun x : Unit => (Sl (Ki .i64) y1)) (fun x => [])) (Hn := fun x : Unit => [⟨.pointer (some q3), [(Vi 3), (Vi 0), (Vi r15), Vn, Vn, Vn, Vn], 27, none⟩, ⟨.pointer (some q2), [(Vi 0), (Vi 0), (Vi 0), Vn, Vn, Vn, Vn], 27, none⟩]) (fun _ => rfl) rfl rfl) (wt_none' rfl) fun ⟨⟩ => ?_
  refine s0 (rd_move' rfl) ?_
  obtain ⟨r78, hr78, hp⟩ := bind_some hp
  refine sx_ox' (ox_calln' (ent_inv' rfl rfl (inv_pt0 inv67_Endss)) (gogeom_geom0_Endss_v2_sim _ _ _ _ _ hr78 : Sx.Fn Try.prog 132 [(Pt [(Vi a0_3a), (Vi a0_3b), (Sl Kf a0_3c), (Vi a0_3d), (Sl (Ki .i64) a0_3e)])] [] (fun x : Unit => Vn) (fun x => [])) (Hn := fun x : Unit => [⟨.pointer (some q3), [(Vi 3), (Vi 0), (Vi r15), Vn, Vn, Vn, Vn], 27, none⟩, ⟨.pointer (some q2), [(Vi 0), (Vi 0), (Vi 0), Vn, Vn, Vn, Vn], 27, none⟩]) (fun _ => rfl) rfl rfl) (wt_none' rfl) fun ⟨⟩ => ?_
  obtain ⟨r79, hr79, hp⟩ := bind_some hp
  refine sx_ox' (ox_calln' (ent_fn' Try.func29 isn29 rfl rfl) (impl_intss_v2_sim hr79 : Sx.Fn Try.prog 29 [Vn] [] (fun x : Unit => Vn) (fun x => [])) (Hn := fun x : Unit => [⟨.pointer (some q3), [(Vi 3), (Vi 0), (Vi r15), Vn, Vn, Vn, Vn], 27, none⟩, ⟨.pointer (some q2), [(Vi 0), (Vi 0), (Vi 0), Vn, Vn, Vn, Vn], 27, none⟩]) (fun _ => rfl) rfl rfl) (wt_none' rfl) fun ⟨⟩ => ?_
  refine s0 (rd_field' (off := 1) rfl Try.underlying27 rfl info3 rfl) ?_
  refine sx_ox' (ox_store' (i := 0) (o := 1) rfl rfl (lv_vl rfl rfl) ⟨rfl, rfl, rfl, rfl⟩ rfl info3 rfl (H' := [⟨.pointer (some q3), [(Vi 3), (Vi r70), (Vi r15), Vn, Vn, Vn, Vn], 27, none⟩, ⟨.pointer (some q2), [(Vi 0), (Vi 0), (Vi 0), Vn, Vn, Vn, Vn], 27, none⟩]) rfl) (wt_none' rfl) fun _ => ?_
  refine s0 (rd_field' (off := 3) rfl Try.underlying27 rfl info22 rfl) ?_
  refine sx_ox' (ox_store' (i := 0) (o := 3) rfl rfl (lv_sl _ _) ⟨rfl, rfl, rfl, rfl⟩ rfl info22 rfl (H' := [⟨.pointer (some q3), [(Vi 3), (Vi r70), (Vi r15), (Sl Kf r73), Vn, Vn, Vn], 27, none⟩, ⟨.pointer (some q2), [(Vi 0), (Vi 0), (Vi 0), Vn, Vn, Vn, Vn], 27, none⟩]) rfl) (wt_none' rfl) fun _ => ?_
  refine s0 (rd_field' (off := 4) rfl Try.underlying27 rfl info23 rfl) ?_
  refine sx_ox' (ox_store' (i := 0) (o := 4) rfl rfl (lv_sl _ _) ⟨rfl, rfl, rfl, rfl⟩ rfl info23 rfl (H' := [⟨.pointer (some q3), [(Vi 3), (Vi r70), (Vi r15), (Sl Kf r73), (Sl (Ki .i64) y1), Vn, Vn], 27, none⟩, ⟨.pointer (some q2), [(Vi 0), (Vi 0), (Vi 0), Vn, Vn, Vn, Vn], 27, none⟩]) rfl) (wt_none' rfl) fun _ => ?_
  refine s0 (rd_field' (off := 5) rfl Try.underlying27 rfl info24 rfl) ?_
  refine sx_ox' (ox_store' (i := 0) (o := 5) rfl rfl (lv_vl rfl rfl) ⟨rfl, rfl, rfl, rfl⟩ rfl info24 rfl (H' := [⟨.pointer (some q3), [(Vi 3), (Vi r70), (Vi r15), (Sl Kf r73), (Sl (Ki .i64) y1), Vn, Vn], 27, none⟩, ⟨.pointer (some q2), [(Vi 0), (Vi 0), (Vi 0), Vn, Vn, Vn, Vn], 27, none⟩]) rfl) (wt_none' rfl) fun _ => ?_
  refine nk hK7 ?_
  refine cr fun K8 hK8 => ?_
  refine s0 (rd_load_agg' (i := 0) (o := 0) (nn := 7) rfl ⟨rfl, rfl, rfl, rfl⟩ rfl agg27 (l' := [(Vi 3), (Vi r70), (Vi r15), (Sl Kf r73), (Sl (Ki .i64) y1), Vn, Vn]) rfl) ?_
  refine sx_ox' (ox_store' (i := 1) (o := 0) rfl rfl (lv_ag _) ⟨rfl, rfl, rfl, rfl⟩ rfl info27 rfl (H' := [⟨.pointer (some q3), [(Vi 3), (Vi r70), (Vi r15), (Sl Kf r73), (Sl (Ki .i64) y1), Vn, Vn], 27, none⟩, ⟨.pointer (some q2), [(Vi 3), (Vi r70), (Vi r15), (Sl Kf r73), (Sl (Ki .i64) y1), Vn, Vn], 27, none⟩]) rfl) (wt_none' rfl) fun _ => ?_
  refine nk hK8 ?_
  refine cx_retc' ?_
  replace hp := Option.some.inj hp
  subst hp
  refine tx_pick' (L' := [(2, (Vp q2))]) (H' := [⟨.pointer (some q2), [(Vi 3), (Vi r70), (Vi r15), (Sl Kf r73), (Sl (Ki .i64) y1), Vn, Vn], 27, none⟩]) [1] (sub_cons rfl sub_nil) (by decide) (pick_cons rfl pick_nil) ?_
  exact tx_ret1' Try.results34 rfl () (rv_imp' (x := (Ag [(Vi 3), (Vi r70), (Vi r15), (Sl Kf r73), (Sl (Ki .i64) y1), Vn, Vn])) (y := (Ag [(Vi 3), (Vi r70), (Vi r15), (Sl Kf r73), (Sl (Ki .i64) y1), (Sl (Kl (Ki .i64)) []), (Sl KT27 [])])) (rv_cell_agg' (i := 0) (o := 0) (nn := 7) rfl ⟨rfl, rfl, rfl, rfl⟩ rfl agg27 rfl) (imp_ag ⟨imp_refl, imp_refl, imp_refl, imp_refl, imp_refl, imp_nil, imp_nil, trivial⟩)) (List.nil_sublist _)
 ·dsimp only at hp
  refine tx_slot' 0 (y := (If 70 (Pt [(Vi a0_4a), (Vi a0_4b), (Sl Kf a0_4c), (Vi a0_4d), (Sl (Ki .i64) a0_4e)]))) rfl (imp_eq (SG53_c4 a0_4a a0_4b a0_4c a0_4d a0_4e)) ?_
  refine tx_slot' 14 (y := (If 70 (Pt [(Vi a0_4a), (Vi a0_4b), (Sl Kf a0_4c), (Vi a0_4d), (Sl (Ki .i64) a0_4e)]))) rfl (imp_eq (SG53_c4 a0_4a a0_4b a0_4c a0_4d a0_4e)) ?_
  obtain ⟨r15, hr15, hp⟩ := bind_some hp
  refine sx_ox' (ox_calln' (ent_inv' rfl rfl (inv_pt0 inv70_SRID)) (gogeom_geom0_SRID_v2_sim _ _ _ _ _ hr15 : Sx.Fn Try.prog 136 [(Pt [(Vi a0_4a), (Vi a0_4b), (Sl Kf a0_4c), (Vi a0_4d), (Sl (Ki .i64) a0_4e)])] [] (fun x : Unit => (Vi r15)) (fun x => [])) (Hn := fun x : Unit => [⟨.pointer (some q2), [(Vi 0), (Vi 0), (Vi 0), Vn, Vn, Vn, Vn], 27, none⟩]) (fun _ => rfl) rfl rfl) (wt_none' rfl) fun ⟨⟩ => ?_
  refine s0 (rd_build' (pls := [(0, 1), (1, 1), (2, 1), (3, 1), (4, 1), (5, 1), (6, 1)]) (qs := [(2, [(Vi r15)])]) (r := [(Vi 0), (Vi 0), (Vi r15), Vn, Vn, Vn, Vn]) ⟨rfl, ⟨_, rfl, (lv_vl rfl rfl)⟩, trivial⟩ Try.underlying27 has27 places27 info27 rfl rfl rfl) ?_
  refine sx_ox' (ox_alloc' info27 rfl rfl rfl rfl (l := [(Vi 0), (Vi 0), (Vi 0), Vn, Vn, Vn, Vn]) rfl) (wt_none' rfl) fun q3 => ?_
  refine sx_ox' (ox_store' (i := 0) (o := 0) rfl rfl (lv_ag _) ⟨rfl, rfl, rfl, rfl⟩ rfl info27 rfl (H' := [⟨.pointer (some q3), [(Vi 0), (Vi 0), (Vi r15), Vn, Vn, Vn, Vn], 27, none⟩, ⟨.pointer (some q2), [(Vi 0), (Vi 0), (Vi 0), Vn, Vn, Vn, Vn], 27, none⟩]) rfl) (wt_none' rfl) fun _ => ?_
  refine nk hK2 ?_
  refine cx_seq' fun K3 hK3 => ?_
  refine cr fun K4 hK4 => ?_
  refine s0 (rd_move' rfl) ?_
  refine nk hK4 ?_
  refine cx_block' ?_
  refine cr fun K5 hK5 => ?_
  refine s0 (rd_assert' rfl (F := fun _ => .tuple #[.pointer none, .bool false]) as70_53_72 as_no) ?_
  refine s0 (rd_extract' rfl rfl) ?_
  refine s0 (rd_extract' rfl rfl) ?_
  refine nk hK5 ?_
  refine cx_cond_f' rfl rfl ?_
  refine cr fun K9 hK9 => ?_
  refine s0 (rd_assert' rfl (F := fun _ => .tuple #[.pointer none, .bool false]) as70_53_75 as_no) ?_
  refine s0 (rd_extract' rfl rfl) ?_
  refine s0 (rd_extract' rfl rfl) ?_
  refine nk hK9 ?_
  refine cx_cond_f' rfl rfl ?_
  refine cr fun K11 hK11 => ?_
  refine s0 (rd_assert' rfl (F := fun _ => .tuple #[.pointer none, .bool false]) as70_53_69 as_no) ?_
  refine s0 (rd_extract' rfl rfl) ?_
  refine s0 (rd_extract' rfl rfl) ?_
  refine nk hK11 ?_
  refine cx_cond_f' rfl rfl ?_
  refine cr fun K13 hK13 => ?_
  refine s0 (rd_assert' rfl (F := fun _ => .tuple #[.pointer none, .bool false]) as70_53_67 as_no) ?_
  refine s0 (rd_extract' rfl rfl) ?_
  refine s0 (rd_extract' rfl rfl) ?_
  refine nk hK13 ?_
  refine cx_cond_f' rfl rfl ?_
  refine cr fun K15 hK15 => ?_
  refine s0 (rd_assert' rfl (F := fun v => .tuple #[v, .bool true]) as70_53_70k as_ok) ?_
  refine s0 (rd_extract' rfl rfl) ?_
  refine s0 (rd_extract' rfl rfl) ?_
  refine nk hK15 ?_
  refine cx_cond_t' rfl rfl ?_
  refine cr fun K16 hK16 => ?_
  refine s0 (rd_assign' rfl) ?_
  refine nk hK16 ?_
  refine cx_region' ?_
  refine s0 (rd_field0' rfl Try.underlying27 rfl info3 rfl) ?_
  refine sx_ox' (ox_store' (i := 0) (o := 0) rfl rfl (lv_vl rfl rfl) ⟨rfl, rfl, rfl, rfl⟩ rfl info3 rfl (H' := [⟨.pointer (some q3), [(Vi 4), (Vi 0), (Vi r15), Vn, Vn, Vn, Vn], 27, none⟩, ⟨.pointer (some q2), [(Vi 0), (Vi 0), (Vi 0), Vn, Vn, Vn, Vn], 27, none⟩]) rfl) (wt_none' rfl) fun _ => ?_
  refine nk hK3 ?_
  refine cr fun K7 hK7 => ?_
  refine s0 (rd_move' rfl) ?_
  obtain ⟨r70, hr70, hp⟩ := bind_some hp
  refine sx_ox' (ox_calln' (ent_inv' rfl rfl (inv_pt0 inv70_Layout)) (gogeom_geom0_Layout_v2_sim _ _ _ _ _ hr70 : Sx.Fn Try.prog 134 [(Pt [(Vi a0_4a), (Vi a0_4b), (Sl Kf a0_4c), (Vi a0_4d), (Sl (Ki .i64) a0_4e)])] [] (fun x : Unit => (Vi r70)) (fun x => [])) (Hn := fun x : Unit => [⟨.pointer (some q3), [(Vi 4), (Vi 0), (Vi r15), Vn, Vn, Vn, Vn], 27, none⟩, ⟨.pointer (some q2), [(Vi 0), (Vi 0), (Vi 0), Vn, Vn, Vn, Vn], 27, none⟩]) (fun _ => rfl) rfl rfl) (wt_none' rfl) fun ⟨⟩ => ?_
  refine s0 (rd_move' rfl) ?_
  obtain ⟨r72, hr72, hp⟩ := bind_some hp
  refine sx_ox' (ox_calln' (ent_inv' rfl rfl (inv_pt0 inv70_FlatCoords)) (gogeom_geom0_FlatCoords_v2_sim _ _ _ _ _ hr72 : Sx.Fn Try.prog 133 [(Pt [(Vi a0_4a), (Vi a0_4b), (Sl Kf a0_4c), (Vi a0_4d), (Sl (Ki .i64) a0_4e)])] [] (fun x : Unit => (Sl Kf r72)) (fun x => [])) (Hn := fun x : Unit => [⟨.pointer (some q3), [(Vi 4), (Vi 0), (Vi r15), Vn, Vn, Vn, Vn], 27, none⟩, ⟨.pointer (some q2), [(Vi 0), (Vi 0), (Vi 0), Vn, Vn, Vn, Vn], 27, none⟩]) (fun _ => rfl) rfl rfl) (wt_none' rfl) fun ⟨⟩ => ?_
  obtain ⟨r73, hr73, hp⟩ := bind_some hp
  refine sx_ox' (ox_calln' (ent_fn' Try.func59 isn59 rfl rfl) (impl_floats_sim _ hr73 : Sx.Fn Try.prog 59 [(Sl Kf r72)] [] (fun x : Unit => (Sl Kf r73)) (fun x => [])) (Hn := fun x : Unit => [⟨.pointer (some q3), [(Vi 4), (Vi 0), (Vi r15), Vn, Vn, Vn, Vn], 27, none⟩, ⟨.pointer (some q2), [(Vi 0), (Vi 0), (Vi 0), Vn, Vn, Vn, Vn], 27, none⟩]) (fun _ => rfl) rfl rfl) (wt_none' rfl) fun ⟨⟩ => ?_
  refine s0 (rd_move' rfl) ?_
  obtain ⟨r75, hr75, hp⟩ := bind_some hp
  refine sx_ox' (ox_calln' (ent_inv' rfl rfl (inv_pt0 inv70_Ends)) (gogeom_geom2_Ends_sim _ _ _ _ _ hr75 : Sx.Fn Try.prog 131 [(Pt [(Vi a0_4a), (Vi a0_4b), (Sl Kf a0_4c), (Vi a0_4d), (Sl (Ki .i64) a0_4e)])] [] (fun x : Unit => (Sl (Ki .i64) r75)) (fun x => [])) (Hn := fun x : Unit => [⟨.pointer (some q3), [(Vi 4), (Vi 0), (Vi r15), Vn, Vn, Vn, Vn], 27, none⟩, ⟨.pointer (some q2), [(Vi 0), (Vi 0), (Vi 0), Vn, Vn, Vn, Vn], 27, none⟩]) (fun _ => rfl) rfl rfl) (wt_none' rfl) fun ⟨⟩ => ?_
  obtain ⟨r76, hr76, hp⟩ := bind_some hp
  rcases r76 with y1 | y1
  ·dsimp only at hp
   refine sx_ox' (ox_calln' (ent_fn' Try.func58 isn58 rfl rfl) (impl_ints_sim _ hr76 : Sx.Fn Try.prog 58 [(Sl (Ki .i64) r75)] [] (fun x : Unit => Vn) (fun x => [])) (Hn := fun x : Unit => [⟨.pointer (some q3), [(Vi 4), (Vi 0), (Vi r15), Vn, Vn, Vn, Vn], 27, none⟩, ⟨.pointer (some q2), [(Vi 0), (Vi 0), (Vi 0), Vn, Vn, Vn, Vn], 27, none⟩]) (fun _ => rfl) rfl rfl) (wt_none' rfl) fun ⟨⟩ => ?_
   refine s0 (rd_move' rfl) ?_
   obtain ⟨r78, hr78, hp⟩ := bind_some hp
   refine sx_ox' (ox_calln' (ent_inv' rfl rfl (inv_pt0 inv70_Endss)) (gogeom_geom0_Endss_v2_sim _ _ _ _ _ hr78 : Sx.Fn Try.prog 132 [(Pt [(Vi a0_4a), (Vi a0_4b), (Sl Kf a0_4c), (Vi a0_4d), (Sl (Ki .i64) a0_4e)])] [] (fun x : Unit => Vn) (fun x => [])) (Hn := fun x : Unit => [⟨.pointer (some q3), [(Vi 4), (Vi 0), (Vi r15), Vn, Vn, Vn, Vn], 27, none⟩, ⟨.pointer (some q2), [(Vi 0), (Vi 0), (Vi 0), Vn, Vn, Vn, Vn], 27, none⟩]) (fun _ => rfl) rfl rfl) (wt_none' rfl) fun ⟨⟩ => ?_
   obtain ⟨r79, hr79, hp⟩ := bind_some hp
   refine sx_ox' (ox_calln' (ent_fn' Try.func29 isn29 rfl rfl) (impl_intss_v2_sim hr79 : Sx.Fn Try.prog 29 [Vn] [] (fun x : Unit => Vn) (fun x => [])) (Hn := fun x : Unit => [⟨.pointer (some q3), [(Vi 4), (Vi 0), (Vi r15), Vn, Vn, Vn, Vn], 27, none⟩, ⟨.pointer (some q2), [(Vi 0), (Vi 0), (Vi 0), Vn, Vn, Vn, Vn], 27, none⟩]) (fun _ => rfl) rfl rfl) (wt_none' rfl) fun ⟨⟩ => ?_
   refine s0 (rd_field' (off := 1) rfl Try.underlying27 rfl info3 rfl) ?_
   refine sx_ox' (ox_store' (i := 0) (o := 1) rfl rfl (lv_vl rfl rfl) ⟨rfl, rfl, rfl, rfl⟩ rfl info3 rfl (H' := [⟨.pointer (some q3), [(Vi 4), (Vi r70), (Vi r15), Vn, Vn, Vn, Vn], 27, none⟩, ⟨.pointer (some q2), [(Vi 0), (Vi 0), (Vi 0), Vn, Vn, Vn, Vn], 27, none⟩]) rfl) (wt_none' rfl) fun _ => ?_
   refine s0 (rd_field' (off := 3) rfl Try.underlying27 rfl info22 rfl) ?_
   refine sx_ox' (ox_store' (i := 0) (o := 3) rfl rfl (lv_sl _ _) ⟨rfl, rfl, rfl, rfl⟩ rfl info22 rfl (H' := [⟨.pointer (some q3), [(Vi 4), (Vi r70), (Vi r15), (Sl Kf r73), Vn, Vn, Vn], 27, none⟩, ⟨.pointer (some q2), [(Vi 0), (Vi 0), (Vi 0), Vn, Vn, Vn, Vn], 27, none⟩]) rfl) (wt_none' rfl) fun _ => ?_
   refine s0 (rd_field' (off := 4) rfl Try.underlying27 rfl info23 rfl) ?_
   refine sx_ox' (ox_store' (i := 0) (o := 4) rfl rfl (lv_vl rfl rfl) ⟨rfl, rfl, rfl, rfl⟩ rfl info23 rfl (H' := [⟨.pointer (some q3), [(Vi 4), (Vi r70), (Vi r15), (Sl Kf r73), Vn, Vn, Vn], 27, none⟩, ⟨.pointer (some q2), [(Vi 0), (Vi 0), (Vi 0), Vn, Vn, Vn, Vn], 27, none⟩]) rfl) (wt_none' rfl) fun _ => ?_
   refine s0 (rd_field' (off := 5) rfl Try.underlying27 rfl info24 rfl) ?_
   refine sx_ox' (ox_store' (i := 0) (o := 5) rfl rfl (lv_vl rfl rfl) ⟨rfl, rfl, rfl, rfl⟩ rfl info24 rfl (H' := [⟨.pointer (some q3), [(Vi 4), (Vi r70), (Vi r15), (Sl Kf r73), Vn, Vn, Vn], 27, none⟩, ⟨.pointer (some q2), [(Vi 0), (Vi 0), (Vi 0), Vn, Vn, Vn, Vn], 27, none⟩]) rfl) (wt_none' rfl) fun _ => ?_
   refine nk hK7 ?_
   refine cr fun K8 hK8 => ?_
   refine s0 (rd_load_agg' (i := 0) (o := 0) (nn := 7) rfl ⟨rfl, rfl, rfl, rfl⟩ rfl agg27 (l' := [(Vi 4), (Vi r70), (Vi r15), (Sl Kf r73), Vn, Vn, Vn]) rfl) ?_
   refine sx_ox' (ox_store' (i := 1) (o := 0) rfl rfl (lv_ag _) ⟨rfl, rfl, rfl, rfl⟩ rfl info27 rfl (H' := [⟨.pointer (some q3), [(Vi 4), (Vi r70), (Vi r15), (Sl Kf r73), Vn, Vn, Vn], 27, none⟩, ⟨.pointer (some q2), [(Vi 4), (Vi r70), (Vi r15), (Sl Kf r73), Vn, Vn, Vn], 27, none⟩]) rfl) (wt_none' rfl) fun _ => ?_
   refine nk hK8 ?_
   refine cx_retc' ?_
   replace hp := Option.some.inj hp
   subst hp
   refine tx_pick' (L' := [(2, (Vp q2))]) (H' := [⟨.pointer (some q2), [(Vi 4), (Vi r70), (Vi r15), (Sl Kf r73), Vn, Vn, Vn], 27, none⟩]) [1] (sub_cons rfl sub_nil) (by decide) (pick_cons rfl pick_nil) ?_
   exact tx_ret1' Try.results34 rfl () (rv_imp' (x := (Ag [(Vi 4), (Vi r70), (Vi r15), (Sl Kf r73), Vn, Vn, Vn])) (y := (Ag [(Vi 4), (Vi r70), (Vi r15), (Sl Kf r73), (Sl (Ki .i64) []), (Sl (Kl (Ki .i64)) []), (Sl KT27 [])])) (rv_cell_agg' (i := 0) (o := 0) (nn := 7) rfl ⟨rfl, rfl, rfl, rfl⟩ rfl agg27 rfl) (imp_ag ⟨imp_refl, imp_refl, imp_refl, imp_refl, imp_nil, imp_nil, imp_nil, trivial⟩)) (List.nil_sublist _)
  dsimp only at hp
  refine sx_ox' (ox_calln' (ent_fn' Try.func58 isn58 rfl rfl) (impl_ints_sim _ hr76 : Sx.Fn Try.prog 58 [(Sl (Ki .i64) r75)] [] (fun x : Unit => (Sl (Ki .i64) y1)) (fun x => [])) (Hn := fun x : Unit => [⟨.pointer (some q3), [(Vi 4), (Vi 0), (Vi r15), Vn, Vn, Vn, Vn], 27, none⟩, ⟨.pointer (some q2), [(Vi 0), (Vi 0), (Vi 0), Vn, Vn, Vn, Vn], 27, none⟩]) (fun _ => rfl) rfl rfl) (wt_none' rfl) fun ⟨⟩ => ?_
  refine s0 (rd_move' rfl) ?_
  obtain ⟨r78, hr78, hp⟩ := bind_some hp
  refine sx_ox' (ox_calln' (ent_inv' rfl rfl (inv_pt0 inv70_Endss)) (gogeom_geom0_Endss_v2_sim _ _ _ _ _ hr78 : Sx.Fn Try.prog 132 [(Pt [(Vi a0_4a), (Vi a0_4b), (Sl Kf a0_4c), (Vi a0_4d), (Sl (Ki .i64) a0_4e)])] [] (fun x : Unit => Vn) (fun x => [])) (Hn := fun x : Unit => [⟨.pointer (some q3), [(Vi 4), (Vi 0), (Vi r15), Vn, Vn, Vn, Vn], 27, none⟩, ⟨.pointer (some q2), [(Vi 0), (Vi 0), (Vi 0), Vn, Vn, Vn, Vn], 27, none⟩]) (fun _ => rfl) rfl rfl) (wt_none' rfl) fun ⟨⟩ => ?_
  obtain ⟨r79, hr79, hp⟩ := bind_some hp
  refine sx_ox' (ox_calln' (ent_fn' Try.func29 isn29 rfl rfl) (impl_intss_v2_sim hr79 : Sx.Fn Try.prog 29 [Vn] [] (fun x : Unit => Vn) (fun x => [])) (Hn := fun x : Unit => [⟨.pointer (some q3), [(Vi 4), (Vi 0), (Vi r15), Vn, Vn, Vn, Vn], 27, none⟩, ⟨.pointer (some q2), [(Vi 0), (Vi 0), (Vi 0), Vn, Vn, Vn, Vn], 27, none⟩]) (fun _ => rfl) rfl rfl) (wt_none' rfl) fun ⟨⟩ => ?_
  refine s0 (rd_field' (off := 1) rfl Try.underlying27 rfl info3 rfl) ?_
  refine sx_ox' (ox_store' (i := 0) (o := 1) rfl rfl (lv_vl rfl rfl) ⟨rfl, rfl, rfl, rfl⟩ rfl info3 rfl (H' := [⟨.pointer (some q3), [(Vi 4), (Vi r70), (Vi r15), Vn, Vn, Vn, Vn], 27, none⟩, ⟨.pointer (some q2), [(Vi 0), (Vi 0), (Vi 0), Vn, Vn, Vn, Vn], 27, none⟩]) rfl) (wt_none' rfl) fun _ => ?_
  refine s0 (rd_field' (off := 3) rfl Try.underlying27 rfl info22 rfl) ?_
  refine sx_ox' (ox_store' (i := 0) (o := 3) rfl rfl (lv_sl _ _) ⟨rfl, rfl, rfl, rfl⟩ rfl info22 rfl (H' := [⟨.pointer (some q3), [(Vi 4), (Vi r70), (Vi r15), (Sl Kf r73), Vn, Vn, Vn], 27, none⟩, ⟨.pointer (some q2), [(Vi 0), (Vi 0), (Vi 0), Vn, Vn, Vn, Vn], 27, none⟩]) rfl) (wt_none' rfl) fun _ => ?_
  refine s0 (rd_field' (off := 4) rfl Try.underlying27 rfl info23 rfl) ?_
  refine sx_ox' (ox_store' (i := 0) (o := 4) rfl rfl (lv_sl _ _) ⟨rfl, rfl, rfl, rfl⟩ rfl info23 rfl (H' := [⟨.pointer (some q3), [(Vi 4), (Vi r70), (Vi r15), (Sl Kf r73), (Sl (Ki .i64) y1), Vn, Vn], 27, none⟩, ⟨.pointer (some q2), [(Vi 0), (Vi 0), (Vi 0), Vn, Vn, Vn, Vn], 27, none⟩]) rfl) (wt_none' rfl) fun _ => ?_
  refine s0 (rd_field' (off := 5) rfl Try.underlying27 rfl info24 rfl) ?_
  refine sx_ox' (ox_store' (i := 0) (o := 5) rfl rfl (lv_vl rfl rfl) ⟨rfl, rfl, rfl, rfl⟩ rfl info24 rfl (H' := [⟨.pointer (some q3), [(Vi 4), (Vi r70), (Vi r15), (Sl Kf r73), (Sl (Ki .i64) y1), Vn, Vn], 27, none⟩, ⟨.pointer (some q2), [(Vi 0), (Vi 0), (Vi 0), Vn, Vn, Vn, Vn], 27, none⟩]) rfl) (wt_none' rfl) fun _ => ?_
  refine nk hK7 ?_
  refine cr fun K8 hK8 => ?_
  refine s0 (rd_load_agg' (i := 0) (o := 0) (nn := 7) rfl ⟨rfl, rfl, rfl, rfl⟩ rfl agg27 (l' := [(Vi 4), (Vi r70), (Vi r15), (Sl Kf r73), (Sl (Ki .i64) y1), Vn, Vn]) rfl) ?_
  refine sx_ox' (ox_store' (i := 1) (o := 0) rfl rfl (lv_ag _) ⟨rfl, rfl, rfl, rfl⟩ rfl info27 rfl (H' := [⟨.pointer (some q3), [(Vi 4), (Vi r70), (Vi r15), (Sl Kf r73), (Sl (Ki .i64) y1), Vn, Vn], 27, none⟩, ⟨.pointer (some q2), [(Vi 4), (Vi r70), (Vi r15), (Sl Kf r73), (Sl (Ki .i64) y1), Vn, Vn], 27, none⟩]) rfl) (wt_none' rfl) fun _ => ?_
  refine nk hK8 ?_
  refine cx_retc' ?_
  replace hp := Option.some.inj hp
  subst hp
  refine tx_pick' (L' := [(2, (Vp q2))]) (H' := [⟨.pointer (some q2), [(Vi 4), (Vi r70), (Vi r15), (Sl Kf r73), (Sl (Ki .i64) y1), Vn, Vn], 27, none⟩]) [1] (sub_cons rfl sub_nil) (by decide) (pick_cons rfl pick_nil) ?_
  exact tx_ret1' Try.results34 rfl () (rv_imp' (x := (Ag [(Vi 4), (Vi r70), (Vi r15), (Sl Kf r73), (Sl (Ki .i64) y1), Vn, Vn])) (y := (Ag [(Vi 4), (Vi r70), (Vi r15), (Sl Kf r73), (Sl (Ki .i64) y1), (Sl (Kl (Ki .i64)) []), (Sl KT27 [])])) (rv_cell_agg' (i := 0) (o := 0) (nn := 7) rfl ⟨rfl, rfl, rfl, rfl⟩ rfl agg27 rfl) (imp_ag ⟨imp_refl, imp_refl, imp_refl, imp_refl, imp_refl, imp_nil, imp_nil, trivial⟩)) (List.nil_sublist _)
 ·dsimp only at hp
  refine tx_slot' 0 (y := (If 73 (Pt [(Vi a0_5a), (Vi a0_5b), (Sl Kf a0_5c), (Vi a0_5d), (Sl (Ki .i64) a0_5e)]))) rfl (imp_eq (SG53_c5 a0_5a a0_5b a0_5c a0_5d a0_5e)) ?_
  refine tx_slot' 14 (y := (If 73 (Pt [(Vi a0_5a), (Vi a0_5b), (Sl Kf a0_5c), (Vi a0_5d), (Sl (Ki .i64) a0_5e)]))) rfl (imp_eq (SG53_c5 a0_5a a0_5b a0_5c a0_5d a0_5e)) ?_
  obtain ⟨r15, hr15, hp⟩ := bind_some hp
  refine sx_ox' (ox_calln' (ent_inv' rfl rfl (inv_pt0 inv73_SRID)) (gogeom_geom0_SRID_v2_sim _ _ _ _ _ hr15 : Sx.Fn Try.prog 136 [(Pt [(Vi a0_5a), (Vi a0_5b), (Sl Kf a0_5c), (Vi a0_5d), (Sl (Ki .i64) a0_5e)])] [] (fun x : Unit => (Vi r15)) (fun x => [])) (Hn := fun x : Unit => [⟨.pointer (some q2), [(Vi 0), (Vi 0), (Vi 0), Vn, Vn, Vn, Vn], 27, none⟩]) (fun _ => rfl) rfl rfl) (wt_none' rfl) fun ⟨⟩ => ?_
  refine s0 (rd_build' (pls := [(0, 1), (1, 1), (2, 1), (3, 1), (4, 1), (5, 1), (6, 1)]) (qs := [(2, [(Vi r15)])]) (r := [(Vi 0), (Vi 0), (Vi r15), Vn, Vn, Vn, Vn]) ⟨rfl, ⟨_, rfl, (lv_vl rfl rfl)⟩, trivial⟩ Try.underlying27 has27 places27 info27 rfl rfl rfl) ?_
  refine sx_ox' (ox_alloc' info27 rfl rfl rfl rfl (l := [(Vi 0), (Vi 0), (Vi 0), Vn, Vn, Vn, Vn]) rfl) (wt_none' rfl) fun q3 => ?_
  refine sx_ox' (ox_store' (i := 0) (o := 0) rfl rfl (lv_ag _) ⟨rfl, rfl, rfl, rfl⟩ rfl info27 rfl (H' := [⟨.pointer (some q3), [(Vi 0), (Vi 0), (Vi r15), Vn, Vn, Vn, Vn], 27, none⟩, ⟨.pointer (some q2), [(Vi 0), (Vi 0), (Vi 0), Vn, Vn, Vn, Vn], 27, none⟩]) rfl) (wt_none' rfl) fun _ => ?_
  refine nk hK2 ?_
  refine cx_seq' fun K3 hK3 => ?_
  refine cr fun K4 hK4 => ?_
  refine s0 (rd_move' rfl) ?_
  refine nk hK4 ?_
  refine cx_block' ?_
  refine cr fun K5 hK5 => ?_
  refine s0 (rd_assert' rfl (F := fun _ => .tuple #[.pointer none, .bool false]) as73_53_72 as_no) ?_
  refine s0 (rd_extract' rfl rfl) ?_
  refine s0 (rd_extract' rfl rfl) ?_
  refine nk hK5 ?_
  refine cx_cond_f' rfl rfl ?_
  refine cr fun K9 hK9 => ?_
  refine s0 (rd_assert' rfl (F := fun _ => .tuple #[.pointer none, .bool false]) as73_53_75 as_no) ?_
  refine s0 (rd_extract' rfl rfl) ?_
  refine s0 (rd_extract' rfl rfl) ?_
  refine nk hK9 ?_
  refine cx_cond_f' rfl rfl ?_
  refine cr fun K11 hK11 => ?_
  refine s0 (rd_assert' rfl (F := fun _ => .tuple #[.pointer none, .bool false]) as73_53_69 as_no) ?_
  refine s0 (rd_extract' rfl rfl) ?_
  refine s0 (rd_extract' rfl rfl) ?_
  refine nk hK11 ?_
  refine cx_cond_f' rfl rfl ?_
  refine cr fun K13 hK13 => ?_
  refine s0 (rd_assert' rfl (F := fun _ => .tuple #[.pointer none, .bool false]) as73_53_67 as_no) ?_
  refine s0 (rd_extract' rfl rfl) ?_
  refine s0 (rd_extract' rfl rfl) ?_
  refine nk hK13 ?_
  refine cx_cond_f' rfl rfl ?_
  refine cr fun K15 hK15 => ?_
  refine s0 (rd_assert' rfl (F := fun _ => .tuple #[.pointer none, .bool false]) as73_53_70 as_no) ?_
  refine s0 (rd_extract' rfl rfl) ?_
  refine s0 (rd_extract' rfl rfl) ?_
  refine nk hK15 ?_
  refine cx_cond_f' rfl rfl ?_
  refine cr fun K17 hK17 => ?_
  refine s0 (rd_assert' rfl (F := fun v => .tuple #[v, .bool true]) as73_53_73k as_ok) ?_
  refine s0 (rd_extract' rfl rfl) ?_
  refine s0 (rd_extract' rfl rfl) ?_
  refine nk hK17 ?_
  refine cx_cond_t' rfl rfl ?_
  refine cr fun K18 hK18 => ?_
  refine s0 (rd_assign' rfl) ?_
  refine nk hK18 ?_
  refine cx_region' ?_
  refine s0 (rd_field0' rfl Try.underlying27 rfl info3 rfl) ?_
  refine sx_ox' (ox_store' (i := 0) (o := 0) rfl rfl (lv_vl rfl rfl) ⟨rfl, rfl, rfl, rfl⟩ rfl info3 rfl (H' := [⟨.pointer (some q3), [(Vi 5), (Vi 0), (Vi r15), Vn, Vn, Vn, Vn], 27, none⟩, ⟨.pointer (some q2), [(Vi 0), (Vi 0), (Vi 0), Vn, Vn, Vn, Vn], 27, none⟩]) rfl) (wt_none' rfl) fun _ => ?_
  refine nk hK3 ?_
  refine cr fun K7 hK7 => ?_
  refine s0 (rd_move' rfl) ?_
  obtain ⟨r70, hr70, hp⟩ := bind_some hp
  refine sx_ox' (ox_calln' (ent_inv' rfl rfl (inv_pt0 inv73_Layout)) (gogeom_geom0_Layout_v2_sim _ _ _ _ _ hr70 : Sx.Fn Try.prog 134 [(Pt [(Vi a0_5a), (Vi a0_5b), (Sl Kf a0_5c), (Vi a0_5d), (Sl (Ki .i64) a0_5e)])] [] (fun x : Unit => (Vi r70)) (fun x => [])) (Hn := fun x : Unit => [⟨.pointer (some q3), [(Vi 5), (Vi 0), (Vi r15), Vn, Vn, Vn, Vn], 27, none⟩, ⟨.pointer (some q2), [(Vi 0), (Vi 0), (Vi 0), Vn, Vn, Vn, Vn], 27, none⟩]) (fun _ => rfl) rfl rfl) (wt_none' rfl) fun ⟨⟩ => ?_
  refine s0 (rd_move' rfl) ?_
  obtain ⟨r72, hr72, hp⟩ := bind_some hp
  refine sx_ox' (ox_calln' (ent_inv' rfl rfl (inv_pt0 inv73_FlatCoords)) (gogeom_geom0_FlatCoords_v2_sim _ _ _ _ _ hr72 : Sx.Fn Try.prog 133 [(Pt [(Vi a0_5a), (Vi a0_5b), (Sl Kf a0_5c), (Vi a0_5d), (Sl (Ki .i64) a0_5e)])] [] (fun x : Unit => (Sl Kf r72)) (fun x => [])) (Hn := fun x : Unit => [⟨.pointer (some q3), [(Vi 5), (Vi 0), (Vi r15), Vn, Vn, Vn, Vn], 27, none⟩, ⟨.pointer (some q2), [(Vi 0), (Vi 0), (Vi 0), Vn, Vn, Vn, Vn], 27, none⟩]) (fun _ => rfl) rfl rfl) (wt_none' rfl) fun ⟨⟩ => ?_
  obtain ⟨r73, hr73, hp⟩ := bind_some hp
  refine sx_ox' (ox_calln' (ent_fn' Try.func59 isn59 rfl rfl) (impl_floats_sim _ hr73 : Sx.Fn Try.prog 59 [(Sl Kf r72)] [] (fun x : Unit => (Sl Kf r73)) (fun x => [])) (Hn := fun x : Unit => [⟨.pointer (some q3), [(Vi 5), (Vi 0), (Vi r15), Vn, Vn, Vn, Vn], 27, none⟩, ⟨.pointer (some q2), [(Vi 0), (Vi 0), (Vi 0), Vn, Vn, Vn, Vn], 27, none⟩]) (fun _ => rfl) rfl rfl) (wt_none' rfl) fun ⟨⟩ => ?_
  refine s0 (rd_move' rfl) ?_
  obtain ⟨r75, hr75, hp⟩ := bind_some hp
  refine sx_ox' (ox_calln' (ent_inv' rfl rfl (inv_pt0 inv73_Ends)) (gogeom_geom2_Ends_sim _ _ _ _ _ hr75 : Sx.Fn Try.prog 131 [(Pt [(Vi a0_5a), (Vi a0_5b), (Sl Kf a0_5c), (Vi a0_5d), (Sl (Ki .i64) a0_5e)])] [] (fun x : Unit => (Sl (Ki .i64) r75)) (fun x => [])) (Hn := fun x : Unit => [⟨.pointer (some q3), [(Vi 5), (Vi 0), (Vi r15), Vn, Vn, Vn, Vn], 27, none⟩, ⟨.pointer (some q2), [(Vi 0), (Vi 0), (Vi 0), Vn, Vn, Vn, Vn], 27, none⟩]) (fun _ => rfl) rfl rfl) (wt_none' rfl) fun ⟨⟩ => ?_
  obtain ⟨r76, hr76, hp⟩ := bind_some hp
  rcases r76 with y1 | y1
  ·dsimp only at hp
   refine sx_ox' (ox_calln' (ent_fn' Try.func58 isn58 rfl rfl) (impl_ints_sim _ hr76 : Sx.Fn Try.prog 58 [(Sl (Ki .i64) r75)] [] (fun x : Unit => Vn) (fun x => [])) (Hn := fun x : Unit => [⟨.pointer (some q3), [(Vi 5), (Vi 0), (Vi r15), Vn, Vn, Vn, Vn], 27, none⟩, ⟨.pointer (some q2), [(Vi 0), (Vi 0), (Vi 0), Vn, Vn, Vn, Vn], 27, none⟩]) (fun _ => rfl) rfl rfl) (wt_none' rfl) fun ⟨⟩ => ?_
   refine s0 (rd_move' rfl) ?_
   obtain ⟨r78, hr78, hp⟩ := bind_some hp
   refine sx_ox' (ox_calln' (ent_inv' rfl rfl (inv_pt0 inv73_Endss)) (gogeom_geom0_Endss_v2_sim _ _ _ _ _ hr78 : Sx.Fn Try.prog 132 [(Pt [(Vi a0_5a), (Vi a0_5b), (Sl Kf a0_5c), (Vi a0_5d), (Sl (Ki .i64) a0_5e)])] [] (fun x : Unit => Vn) (fun x => [])) (Hn := fun x : Unit => [⟨.pointer (some q3), [(Vi 5), (Vi 0), (Vi r15), Vn, Vn, Vn, Vn], 27, none⟩, ⟨.pointer (some q2), [(Vi 0), (Vi 0), (Vi 0), Vn, Vn, Vn, Vn], 27, none⟩]) (fun _ => rfl) rfl rfl) (wt_none' rfl) fun ⟨⟩ => ?_
   obtain ⟨r79, hr79, hp⟩ := bind_some hp
   refine sx_ox' (ox_calln' (ent_fn' Try.func29 isn29 rfl rfl) (impl_intss_v2_sim hr79 : Sx.Fn Try.prog 29 [Vn] [] (fun x : Unit => Vn) (fun x => [])) (Hn := fun x : Unit => [⟨.pointer (some q3), [(Vi 5), (Vi 0), (Vi r15), Vn, Vn, Vn, Vn], 27, none⟩, ⟨.pointer (some q2), [(Vi 0), (Vi 0), (Vi 0), Vn, Vn, Vn, Vn], 27, none⟩]) (fun _ => rfl) rfl rfl) (wt_none' rfl) fun ⟨⟩ => ?_
   refine s0 (rd_field' (off := 1) rfl Try.underlying27 rfl info3 rfl) ?_
   refine sx_ox' (ox_store' (i := 0) (o := 1) rfl rfl (lv_vl rfl rfl) ⟨rfl, rfl, rfl, rfl⟩ rfl info3 rfl (H' := [⟨.pointer (some q3), [(Vi 5), (Vi r70), (Vi r15), Vn, Vn, Vn, Vn], 27, none⟩, ⟨.pointer (some q2), [(Vi 0), (Vi 0), (Vi 0), Vn, Vn, Vn, Vn], 27, none⟩]) rfl) (wt_none' rfl) fun _ => ?_
   refine s0 (rd_field' (off := 3) rfl Try.underlying27 rfl info22 rfl) ?_
   refine sx_ox' (ox_store' (i := 0) (o := 3) rfl rfl (lv_sl _ _) ⟨rfl, rfl, rfl, rfl⟩ rfl info22 rfl (H' := [⟨.pointer (some q3), [(Vi 5), (Vi r70), (Vi r15), (Sl Kf r73), Vn, Vn, Vn], 27, none⟩, ⟨.pointer (some q2), [(Vi 0), (Vi 0), (Vi 0), Vn, Vn, Vn, Vn], 27, none⟩]) rfl) (wt_none' rfl) fun _ => ?_
   refine s0 (rd_field' (off := 4) rfl Try.underlying27 rfl info23 rfl) ?_
   refine sx_ox' (ox_store' (i := 0) (o := 4) rfl rfl (lv_vl rfl rfl) ⟨rfl, rfl, rfl, rfl⟩ rfl info23 rfl (H' := [⟨.pointer (some q3), [(Vi 5), (Vi r70), (Vi r15), (Sl Kf r73), Vn, Vn, Vn], 27, none⟩, ⟨.pointer (some q2), [(Vi 0), (Vi 0), (Vi 0), Vn, Vn, Vn, Vn], 27, none⟩]) rfl) (wt_none' rfl) fun _ => ?_
   refine s0 (rd_field' (off := 5) rfl Try.underlying27 rfl info24 rfl) ?_
   refine sx_ox' (ox_store' (i := 0) (o := 5) rfl rfl (lv_vl rfl rfl) ⟨rfl, rfl, rfl, rfl⟩ rfl info24 rfl (H' := [⟨.pointer (some q3), [(Vi 5), (Vi r70), (Vi r15), (Sl Kf r73), Vn, Vn, Vn], 27, none⟩, ⟨.pointer (some q2), [(Vi 0), (Vi 0), (Vi 0), Vn, Vn, Vn, Vn], 27, none⟩]) rfl) (wt_none' rfl) fun _ => ?_
   refine nk hK7 ?_
   refine cr fun K8 hK8 => ?_
   refine s0 (rd_load_agg' (i := 0) (o := 0) (nn := 7) rfl ⟨rfl, rfl, rfl, rfl⟩ rfl agg27 (l' := [(Vi 5), (Vi r70), (Vi r15), (Sl Kf r73), Vn, Vn, Vn]) rfl) ?_
   refine sx_ox' (ox_store' (i := 1) (o := 0) rfl rfl (lv_ag _) ⟨rfl, rfl, rfl, rfl⟩ rfl info27 rfl (H' := [⟨.pointer (some q3), [(Vi 5), (Vi r70), (Vi r15), (Sl Kf r73), Vn, Vn, Vn], 27, none⟩, ⟨.pointer (some q2), [(Vi 5), (Vi r70), (Vi r15), (Sl Kf r73), Vn, Vn, Vn], 27, none⟩]) rfl) (wt_none' rfl) fun _ => ?_
   refine nk hK8 ?_
   refine cx_retc' ?_
   replace hp := Option.some.inj hp
   subst hp
   refine tx_pick' (L' := [(2, (Vp q2))]) (H' := [⟨.pointer (some q2), [(Vi 5), (Vi r70), (Vi r15), (Sl Kf r73), Vn, Vn, Vn], 27, none⟩]) [1] (sub_cons rfl sub_nil) (by decide) (pick_cons rfl pick_nil) ?_
   exact tx_ret1' Try.results34 rfl () (rv_imp' (x := (Ag [(Vi 5), (Vi r70), (Vi r15), (Sl Kf r73), Vn, Vn, Vn])) (y := (Ag [(Vi 5), (Vi r70), (Vi r15), (Sl Kf r73), (Sl (Ki .i64) []), (Sl (Kl (Ki .i64)) []), (Sl KT27 [])])) (rv_cell_agg' (i := 0) (o := 0) (nn := 7) rfl ⟨rfl, rfl, rfl, rfl⟩ rfl agg27 rfl) (imp_ag ⟨imp_refl, imp_refl, imp_refl, imp_refl, imp_nil, imp_nil, imp_nil, trivial⟩)) (List.nil_sublist _)
  dsimp only at hp
  refine sx_ox' (ox_calln' (ent_fn' Try.func58 isn58 rfl rfl) (impl_ints_sim _ hr76 : Sx.Fn Try.prog 58 [(Sl (Ki .i64) r75)] [] (fun x : Unit => (Sl (Ki .i64) y1)) (fun x => [])) (Hn := fun x : Unit => [⟨.pointer (some q3), [(Vi 5), (Vi 0), (Vi r15), Vn, Vn, Vn, Vn], 27, none⟩, ⟨.pointer (some q2), [(Vi 0), (Vi 0), (Vi 0), Vn, Vn, Vn, Vn], 27, none⟩]) (fun _ => rfl) rfl rfl) (wt_none' rfl) fun ⟨⟩ => ?_
  refine s0 (rd_move' rfl) ?_
  obtain ⟨r78, hr78, hp⟩ := bind_some hp
  refine sx_ox' (ox_calln' (ent_inv' rfl rfl (inv_pt0 inv73_Endss)) (gogeom_geom0_Endss_v2_sim _ _ _ _ _ hr78 : Sx.Fn Try.prog 132 [(Pt [(Vi a0_5a), (Vi a0_5b), (Sl Kf a0_5c), (Vi a0_5d), (Sl (Ki .i64) a0_5e)])] [] (fun x : Unit => Vn) (fun x => [])) (Hn := fun x : Unit => [⟨.pointer (some q3), [(Vi 5), (Vi 0), (Vi r15), Vn, Vn, Vn, Vn], 27, none⟩, ⟨.pointer (some q2), [(Vi 0), (Vi 0), (Vi 0), Vn, Vn, Vn, Vn], 27, none⟩]) (fun _ => rfl) rfl rfl) (wt_none' rfl) fun ⟨⟩ => ?_
  obtain ⟨r79, hr79, hp⟩ := bind_some hp
  refine sx_ox' (ox_calln' (ent_fn' Try.func29 isn29 rfl rfl) (impl_intss_v2_sim hr79 : Sx.Fn Try.prog 29 [Vn] [] (fun x : Unit => Vn) (fun x => [])) (Hn := fun x : Unit => [⟨.pointer (some q3), [(Vi 5), (Vi 0), (Vi r15), Vn, Vn, Vn, Vn], 27, none⟩, ⟨.pointer (some q2), [(Vi 0), (Vi 0), (Vi 0), Vn, Vn, Vn, Vn], 27, none⟩]) (fun _ => rfl) rfl rfl) (wt_none' rfl) fun ⟨⟩ => ?_
  refine s0 (rd_field' (off := 1) rfl Try.underlying27 rfl info3 rfl) ?_
  refine sx_ox' (ox_store' (i := 0) (o := 1) rfl rfl (lv_vl rfl rfl) ⟨rfl, rfl, rfl, rfl⟩ rfl info3 rfl (H' := [⟨.pointer (some q3), [(Vi 5), (Vi r70), (Vi r15), Vn, Vn, Vn, Vn], 27, none⟩, ⟨.pointer (some q2), [(Vi 0), (Vi 0), (Vi 0), Vn, Vn, Vn, Vn], 27, none⟩]) rfl) (wt_none' rfl) fun _ => ?_
  refine s0 (rd_field' (off := 3) rfl Try.underlying27 rfl info22 rfl) ?_
  refine sx_ox' (ox_store' (i := 0) (o := 3) rfl rfl (lv_sl _ _) ⟨rfl, rfl, rfl, rfl⟩ rfl info22 rfl (H' := [⟨.pointer (some q3), [(Vi 5), (Vi r70), (Vi r15), (Sl Kf r73), Vn, Vn, Vn], 27, none⟩, ⟨.pointer (some q2), [(Vi 0), (Vi 0), (Vi 0), Vn, Vn, Vn, Vn], 27, none⟩]) rfl) (wt_none' rfl) fun _ => ?_
  refine s0 (rd_field' (off := 4) rfl Try.underlying27 rfl info23 rfl) ?_
  refine sx_ox' (ox_store' (i := 0) (o := 4) rfl rfl (lv_sl _ _) ⟨rfl, rfl, rfl, rfl⟩ rfl info23 rfl (H' := [⟨.pointer (some q3), [(Vi 5), (Vi r70), (Vi r15), (Sl Kf r73), (Sl (Ki .i64) y1), Vn, Vn], 27, none⟩, ⟨.pointer (some q2), [(Vi 0), (Vi 0), (Vi 0), Vn, Vn, Vn, Vn], 27, none⟩]) rfl) (wt_none' rfl) fun _ => ?_
  refine s0 (rd_field' (off := 5) rfl Try.underlying27 rfl info24 rfl) ?_
  refine sx_ox' (ox_store' (i := 0) (o := 5) rfl rfl (lv_vl rfl rfl) ⟨rfl, rfl, rfl, rfl⟩ rfl info24 rfl (H' := [⟨.pointer (some q3), [(Vi 5), (Vi r70), (Vi r15), (Sl Kf r73), (Sl (Ki .i64) y1), Vn, Vn], 27, none⟩, ⟨.pointer (some q2), [(Vi 0), (Vi 0), (Vi 0), Vn, Vn, Vn, Vn], 27, none⟩]) rfl) (wt_none' rfl) fun _ => ?_
  refine nk hK7 ?_
  refine cr fun K8 hK8 => ?_
  refine s0 (rd_load_agg' (i := 0) (o := 0) (nn := 7) rfl ⟨rfl, rfl, rfl, rfl⟩ rfl agg27 (l' := [(Vi 5), (Vi r70), (Vi r15), (Sl Kf r73), (Sl (Ki .i64) y1), Vn, Vn]) rfl) ?_
  refine sx_ox' (ox_store' (i := 1) (o := 0) rfl rfl (lv_ag _) ⟨rfl, rfl, rfl, rfl⟩ rfl info27 rfl (H' := [⟨.pointer (some q3), [(Vi 5), (Vi r70), (Vi r15), (Sl Kf r73), (Sl (Ki .i64) y1), Vn, Vn], 27, none⟩, ⟨.pointer (some q2), [(Vi 5), (Vi r70), (Vi r15), (Sl Kf r73), (Sl (Ki .i64) y1), Vn, Vn], 27, none⟩]) rfl) (wt_none' rfl) fun _ => ?_
  refine nk hK8 ?_
  refine cx_retc' ?_
  replace hp := Option.some.inj hp
  subst hp
  refine tx_pick' (L' := [(2, (Vp q2))]) (H' := [⟨.pointer (some q2), [(Vi 5), (Vi r70), (Vi r15), (Sl Kf r73), (Sl (Ki .i64) y1), Vn, Vn], 27, none⟩]) [1] (sub_cons rfl sub_nil) (by decide) (pick_cons rfl pick_nil) ?_
  exact tx_ret1' Try.results34 rfl () (rv_imp' (x := (Ag [(Vi 5), (Vi r70), (Vi r15), (Sl Kf r73), (Sl (Ki .i64) y1), Vn, Vn])) (y := (Ag [(Vi 5), (Vi r70), (Vi r15), (Sl Kf r73), (Sl (Ki .i64) y1), (Sl (Kl (Ki .i64)) []), (Sl KT27 [])])) (rv_cell_agg' (i := 0) (o := 0) (nn := 7) rfl ⟨rfl, rfl, rfl, rfl⟩ rfl agg27 rfl) (imp_ag ⟨imp_refl, imp_refl, imp_refl, imp_refl, imp_refl, imp_nil, imp_nil, trivial⟩)) (List.nil_sublist _)
 ·dsimp only at hp
  refine tx_slot' 0 (y := (If 76 (Pt [(Vi a0_6a), (Vi a0_6b), (Sl Kf a0_6c), (Vi a0_6d), (Sl (Kl (Ki .i64)) a0_6e)]))) rfl (imp_eq (SG53_c6 a0_6a a0_6b a0_6c a0_6d a0_6e)) ?_
  refine tx_slot' 14 (y := (If 76 (Pt [(Vi a0_6a), (Vi a0_6b), (Sl Kf a0_6c), (Vi a0_6d), (Sl (Kl (Ki .i64)) a0_6e)]))) rfl (imp_eq (SG53_c6 a0_6a a0_6b a0_6c a0_6d a0_6e)) ?_
  obtain ⟨r15, hr15, hp⟩ := bind_some hp
  refine sx_ox' (ox_calln' (ent_inv' rfl rfl (inv_pt0 inv76_SRID)) (gogeom_geom0_SRID_v3_sim _ _ _ _ _ hr15 : Sx.Fn Try.prog 136 [(Pt [(Vi a0_6a), (Vi a0_6b), (Sl Kf a0_6c), (Vi a0_6d), (Sl (Kl (Ki .i64)) a0_6e)])] [] (fun x : Unit => (Vi r15)) (fun x => [])) (Hn := fun x : Unit => [⟨.pointer (some q2), [(Vi 0), (Vi 0), (Vi 0), Vn, Vn, Vn, Vn], 27, none⟩]) (fun _ => rfl) rfl rfl) (wt_none' rfl) fun ⟨⟩ => ?_
  refine s0 (rd_build' (pls := [(0, 1), (1, 1), (2, 1), (3, 1), (4, 1), (5, 1), (6, 1)]) (qs := [(2, [(Vi r15)])]) (r := [(Vi 0), (Vi 0), (Vi r15), Vn, Vn, Vn, Vn]) ⟨rfl, ⟨_, rfl, (lv_vl rfl rfl)⟩, trivial⟩ Try.underlying27 has27 places27 info27 rfl rfl rfl) ?_
  refine sx_ox' (ox_alloc' info27 rfl rfl rfl rfl (l := [(Vi 0), (Vi 0), (Vi 0), Vn, Vn, Vn, Vn]) rfl) (wt_none' rfl) fun q3 => ?_
  refine sx_ox' (ox_store' (i := 0) (o := 0) rfl rfl (lv_ag _) ⟨rfl, rfl, rfl, rfl⟩ rfl info27 rfl (H' := [⟨.pointer (some q3), [(Vi 0), (Vi 0), (Vi r15), Vn, Vn, Vn, Vn], 27, none⟩, ⟨.pointer (some q2), [(Vi 0), (Vi 0), (Vi 0), Vn, Vn, Vn, Vn], 27, none⟩]) rfl) (wt_none' rfl) fun _ => ?_
  refine nk hK2 ?_
  refine cx_seq' fun K3 hK3 => ?_
  refine cr fun K4 hK4 => ?_
  refine s0 (rd_move' rfl) ?_
  refine nk hK4 ?_
  refine cx_block' ?_
  refine cr fun K5 hK5 => ?_
  refine s0 (rd_assert' rfl (F := fun _ => .tuple #[.pointer none, .bool false]) as76_53_72 as_no) ?_
  refine s0 (rd_extract' rfl rfl) ?_
  refine s0 (rd_extract' rfl rfl) ?_
  refine nk hK5 ?_
  refine cx_cond_f' rfl rfl ?_
  refine cr fun K9 hK9 => ?_
  refine s0 (rd_assert' rfl (F := fun _ => .tuple #[.pointer none, .bool false]) as76_53_75 as_no) ?_
  refine s0 (rd_extract' rfl rfl) ?_
  refine s0 (rd_extract' rfl rfl) ?_
  refine nk hK9 ?_
  refine cx_cond_f' rfl rfl ?_
  refine cr fun K11 hK11 => ?_
  refine s0 (rd_assert' rfl (F := fun _ => .tuple #[.pointer none, .bool false]) as76_53_69 as_no) ?_
  refine s0 (rd_extract' rfl rfl) ?_
  refine s0 (rd_extract' rfl rfl) ?_
  refine nk hK11 ?_
  refine cx_cond_f' rfl rfl ?_
  refine cr fun K13 hK13 => ?_
  refine s0 (rd_assert' rfl (F := fun _ => .tuple #[.pointer none, .bool false]) as76_53_67 as_no) ?_
  refine s0 (rd_extract' rfl rfl) ?_
  refine s0 (rd_extract' rfl rfl) ?_
  refine nk hK13 ?_
  refine cx_cond_f' rfl rfl ?_
  refine cr fun K15 hK15 => ?_
  refine s0 (rd_assert' rfl (F := fun _ => .tuple #[.pointer none, .bool false]) as76_53_70 as_no) ?_
  refine s0 (rd_extract' rfl rfl) ?_
  refine s0 (rd_extract' rfl rfl) ?_
  refine nk hK15 ?_
  refine cx_cond_f' rfl rfl ?_
  refine cr fun K17 hK17 => ?_
  refine s0 (rd_assert' rfl (F := fun _ => .tuple #[.pointer none, .bool false]) as76_53_73 as_no) ?_
  refine s0 (rd_extract' rfl rfl) ?_
  refine s0 (rd_extract' rfl rfl) ?_
  refine nk hK17 ?_
  refine cx_cond_f' rfl rfl ?_
  refine cr fun K19 hK19 => ?_
  refine s0 (rd_assert' rfl (F := fun v => .tuple #[v, .bool true]) as76_53_76k as_ok) ?_
  refine s0 (rd_extract' rfl rfl) ?_
  refine s0 (rd_extract' rfl rfl) ?_
  refine nk hK19 ?_
  refine cx_cond_t' rfl rfl ?_
  refine cr fun K20 hK20 => ?_
  refine s0 (rd_assign' rfl) ?_
  refine nk hK20 ?_
  refine cx_region' ?_
  refine s0 (rd_field0' rfl Try.underlying27 rfl info3 rfl) ?_
  refine sx_ox' (ox_store' (i := 0) (o := 0) rfl rfl (lv_vl rfl rfl) ⟨rfl, rfl, rfl, rfl⟩ rfl info3 rfl (H' := [⟨.pointer (some q3), [(Vi 6), (Vi 0), (Vi r15), Vn, Vn, Vn, Vn], 27, none⟩, ⟨.pointer (some q2), [(Vi 0), (Vi 0), (Vi 0), Vn, Vn, Vn, Vn], 27, none⟩]) rfl) (wt_none' rfl) fun _ => ?_
  refine nk hK3 ?_
  refine cr fun K7 hK7 => ?_
  refine s0 (rd_move' rfl) ?_
  obtain ⟨r70, hr70, hp⟩ := bind_some hp
  refine sx_ox' (ox_calln' (ent_inv' rfl rfl (inv_pt0 inv76_Layout)) (gogeom_geom0_Layout_v3_sim _ _ _ _ _ hr70 : Sx.Fn Try.prog 134 [(Pt [(Vi a0_6a), (Vi a0_6b), (Sl Kf a0_6c), (Vi a0_6d), (Sl (Kl (Ki .i64)) a0_6e)])] [] (fun x : Unit => (Vi r70)) (fun x => [])) (Hn := fun x : Unit => [⟨.pointer (some q3), [(Vi 6), (Vi 0), (Vi r15), Vn, Vn, Vn, Vn], 27, none⟩, ⟨.pointer (some q2), [(Vi 0), (Vi 0), (Vi 0), Vn, Vn, Vn, Vn], 27, none⟩]) (fun _ => rfl) rfl rfl) (wt_none' rfl) fun ⟨⟩ => ?_
  refine s0 (rd_move' rfl) ?_
  obtain ⟨r72, hr72, hp⟩ := bind_some hp
  refine sx_ox' (ox_calln' (ent_inv' rfl rfl (inv_pt0 inv76_FlatCoords)) (gogeom_geom0_FlatCoords_v3_sim _ _ _ _ _ hr72 : Sx.Fn Try.prog 133 [(Pt [(Vi a0_6a), (Vi a0_6b), (Sl Kf a0_6c), (Vi a0_6d), (Sl (Kl (Ki .i64)) a0_6e)])] [] (fun x : Unit => (Sl Kf r72)) (fun x => [])) (Hn := fun x : Unit => [⟨.pointer (some q3), [(Vi 6), (Vi 0), (Vi r15), Vn, Vn, Vn, Vn], 27, none⟩, ⟨.pointer (some q2), [(Vi 0), (Vi 0), (Vi 0), Vn, Vn, Vn, Vn], 27, none⟩]) (fun _ => rfl) rfl rfl) (wt_none' rfl) fun ⟨⟩ => ?_
  obtain ⟨r73, hr73, hp⟩ := bind_some hp
  refine sx_ox' (ox_calln' (ent_fn' Try.func59 isn59 rfl rfl) (impl_floats_sim _ hr73 : Sx.Fn Try.prog 59 [(Sl Kf r72)] [] (fun x : Unit => (Sl Kf r73)) (fun x => [])) (Hn := fun x : Unit => [⟨.pointer (some q3), [(Vi 6), (Vi 0), (Vi r15), Vn, Vn, Vn, Vn], 27, none⟩, ⟨.pointer (some q2), [(Vi 0), (Vi 0), (Vi 0), Vn, Vn, Vn, Vn], 27, none⟩]) (fun _ => rfl) rfl rfl) (wt_none' rfl) fun ⟨⟩ => ?_
  refine s0 (rd_move' rfl) ?_
  obtain ⟨r75, hr75, hp⟩ := bind_some hp
  refine sx_ox' (ox_calln' (ent_inv' rfl rfl (inv_pt0 inv76_Ends)) (gogeom_geom0_Ends_v2_sim _ _ _ _ _ hr75 : Sx.Fn Try.prog 138 [(Pt [(Vi a0_6a), (Vi a0_6b), (Sl Kf a0_6c), (Vi a0_6d), (Sl (Kl (Ki .i64)) a0_6e)])] [] (fun x : Unit => Vn) (fun x => [])) (Hn := fun x : Unit => [⟨.pointer (some q3), [(Vi 6), (Vi 0), (Vi r15), Vn, Vn, Vn, Vn], 27, none⟩, ⟨.pointer (some q2), [(Vi 0), (Vi 0), (Vi 0), Vn, Vn, Vn, Vn], 27, none⟩]) (fun _ => rfl) rfl rfl) (wt_none' rfl) fun ⟨⟩ => ?_
  obtain ⟨r76, hr76, hp⟩ := bind_some hp
  refine sx_ox' (ox_calln' (ent_fn' Try.func58 isn58 rfl rfl) (impl_ints_v2_sim hr76 : Sx.Fn Try.prog 58 [Vn] [] (fun x : Unit => (Sl (Ki .i64) r76)) (fun x => [])) (Hn := fun x : Unit => [⟨.pointer (some q3), [(Vi 6), (Vi 0), (Vi r15), Vn, Vn, Vn, Vn], 27, none⟩, ⟨.pointer (some q2), [(Vi 0), (Vi 0), (Vi 0), Vn, Vn, Vn, Vn], 27, none⟩]) (fun _ => rfl) rfl rfl) (wt_none' rfl) fun ⟨⟩ => ?_
  refine s0 (rd_move' rfl) ?_
  obtain ⟨r78, hr78, hp⟩ := bind_some hp
  refine sx_ox' (ox_calln' (ent_inv' rfl rfl (inv_pt0 inv76_Endss)) (gogeom_geom3_Endss_sim _ _ _ _ _ hr78 : Sx.Fn Try.prog 141 [(Pt [(Vi a0_6a), (Vi a0_6b), (Sl Kf a0_6c), (Vi a0_6d), (Sl (Kl (Ki .i64)) a0_6e)])] [] (fun x : Unit => (Sl (Kl (Ki .i64)) r78)) (fun x => [])) (Hn := fun x : Unit => [⟨.pointer (some q3), [(Vi 6), (Vi 0), (Vi r15), Vn, Vn, Vn, Vn], 27, none⟩, ⟨.pointer (some q2), [(Vi 0), (Vi 0), (Vi 0), Vn, Vn, Vn, Vn], 27, none⟩]) (fun _ => rfl) rfl rfl) (wt_none' rfl) fun ⟨⟩ => ?_
  obtain ⟨r79, hr79, hp⟩ := bind_some hp
  refine sx_ox' (ox_calln' (ent_fn' Try.func29 isn29 rfl rfl) (impl_intss_sim _ hr79 : Sx.Fn Try.prog 29 [(Sl (Kl (Ki .i64)) r78)] [] (fun x : Unit => (Sl (Kl (Ki .i64)) r79)) (fun x => [])) (Hn := fun x : Unit => [⟨.pointer (some q3), [(Vi 6), (Vi 0), (Vi r15), Vn, Vn, Vn, Vn], 27, none⟩, ⟨.pointer (some q2), [(Vi 0), (Vi 0), (Vi 0), Vn, Vn, Vn, Vn], 27, none⟩]) (fun _ => rfl) rfl rfl) (wt_none' rfl) fun ⟨⟩ => ?_
  refine s0 (rd_field' (off := 1) rfl Try.underlying27 rfl info3 rfl) ?_
  refine sx_ox' (ox_store' (i := 0) (o := 1) rfl rfl (lv_vl rfl rfl) ⟨rfl, rfl, rfl, rfl⟩ rfl info3 rfl (H' := [⟨.pointer (some q3), [(Vi 6), (Vi r70), (Vi r15), Vn, Vn, Vn, Vn], 27, none⟩, ⟨.pointer (some q2), [(Vi 0), (Vi 0), (Vi 0), Vn, Vn, Vn, Vn], 27, none⟩]) rfl) (wt_none' rfl) fun _ => ?_
  refine s0 (rd_field' (off := 3) rfl Try.underlying27 rfl info22 rfl) ?_
  refine sx_ox' (ox_store' (i := 0) (o := 3) rfl rfl (lv_sl _ _) ⟨rfl, rfl, rfl, rfl⟩ rfl info22 rfl (H' := [⟨.pointer (some q3), [(Vi 6), (Vi r70), (Vi r15), (Sl Kf r73), Vn, Vn, Vn], 27, none⟩, ⟨.pointer (some q2), [(Vi 0), (Vi 0), (Vi 0), Vn, Vn, Vn, Vn], 27, none⟩]) rfl) (wt_none' rfl) fun _ => ?_
  refine s0 (rd_field' (off := 4) rfl Try.underlying27 rfl info23 rfl) ?_
  refine sx_ox' (ox_store' (i := 0) (o := 4) rfl rfl (lv_sl _ _) ⟨rfl, rfl, rfl, rfl⟩ rfl info23 rfl (H' := [⟨.pointer (some q3), [(Vi 6), (Vi r70), (Vi r15), (Sl Kf r73), (Sl (Ki .i64) r76), Vn, Vn], 27, none⟩, ⟨.pointer (some q2), [(Vi 0), (Vi 0), (Vi 0), Vn, Vn, Vn, Vn], 27, none⟩]) rfl) (wt_none' rfl) fun _ => ?_
  refine s0 (rd_field' (off := 5) rfl Try.underlying27 rfl info24 rfl) ?_
  refine sx_ox' (ox_store' (i := 0) (o := 5) rfl rfl (lv_sl _ _) ⟨rfl, rfl, rfl, rfl⟩ rfl info24 rfl (H' := [⟨.pointer (some q3), [(Vi 6), (Vi r70), (Vi r15), (Sl Kf r73), (Sl (Ki .i64) r76), (Sl (Kl (Ki .i64)) r79), Vn], 27, none⟩, ⟨.pointer (some q2), [(Vi 0), (Vi 0), (Vi 0), Vn, Vn, Vn, Vn], 27, none⟩]) rfl) (wt_none' rfl) fun _ => ?_
  refine nk hK7 ?_
  refine cr fun K8 hK8 => ?_
  refine s0 (rd_load_agg' (i := 0) (o := 0) (nn := 7) rfl ⟨rfl, rfl, rfl, rfl⟩ rfl agg27 (l' := [(Vi 6), (Vi r70), (Vi r15), (Sl Kf r73), (Sl (Ki .i64) r76), (Sl (Kl (Ki .i64)) r79), Vn]) rfl) ?_
  refine sx_ox' (ox_store' (i := 1) (o := 0) rfl rfl (lv_ag _) ⟨rfl, rfl, rfl, rfl⟩ rfl info27 rfl (H' := [⟨.pointer (some q3), [(Vi 6), (Vi r70), (Vi r15), (Sl Kf r73), (Sl (Ki .i64) r76), (Sl (Kl (Ki .i64)) r79), Vn], 27, none⟩, ⟨.pointer (some q2), [(Vi 6), (Vi r70), (Vi r15), (Sl Kf r73), (Sl (Ki .i64) r76), (Sl (Kl (Ki .i64)) r79), Vn], 27, none⟩]) rfl) (wt_none' rfl) fun _ => ?_
  refine nk hK8 ?_
  refine cx_retc' ?_
  replace hp := Option.some.inj hp
  subst hp
  refine tx_pick' (L' := [(2, (Vp q2))]) (H' := [⟨.pointer (some q2), [(Vi 6), (Vi r70), (Vi r15), (Sl Kf r73), (Sl (Ki .i64) r76), (Sl (Kl (Ki .i64)) r79), Vn], 27, none⟩]) [1] (sub_cons rfl sub_nil) (by decide) (pick_cons rfl pick_nil) ?_
  exact tx_ret1' Try.results34 rfl () (rv_imp' (x := (Ag [(Vi 6), (Vi r70), (Vi r15), (Sl Kf r73), (Sl (Ki .i64) r76), (Sl (Kl (Ki .i64)) r79), Vn])) (y := (Ag [(Vi 6), (Vi r70), (Vi r15), (Sl Kf r73), (Sl (Ki .i64) r76), (Sl (Kl (Ki .i64)) r79), (Sl KT27 [])])) (rv_cell_agg' (i := 0) (o := 0) (nn := 7) rfl ⟨rfl, rfl, rfl, rfl⟩ rfl agg27 rfl) (imp_ag ⟨imp_refl, imp_refl, imp_refl, imp_refl, imp_refl, imp_refl, imp_nil, trivial⟩)) (List.nil_sublist _)
 dsimp only at hp
 refine tx_slot' 0 (y := (If 57 (Pt [(Vi a0_7a), (Sl KG53 a0_7b), (Vi a0_7c)]))) rfl (imp_eq (SG53_c7 a0_7a a0_7b a0_7c)) ?_
 refine tx_slot' 14 (y := (If 57 (Pt [(Vi a0_7a), (Sl KG53 a0_7b), (Vi a0_7c)]))) rfl (imp_eq (SG53_c7 a0_7a a0_7b a0_7c)) ?_
 obtain ⟨r15, hr15, hp⟩ := bind_some hp
 refine sx_ox' (ox_calln' (ent_inv' rfl rfl (inv_any0 inv57_SRID)) (gogeom_GeometryCollection_SRID_v2_sim _ _ _ hr15 : Sx.Fn Try.prog 126 [(Pt [(Vi a0_7a), (Sl KG53 a0_7b), (Vi a0_7c)])] [] (fun x : Unit => (Vi r15)) (fun x => [])) (Hn := fun x : Unit => [⟨.pointer (some q2), [(Vi 0), (Vi 0), (Vi 0), Vn, Vn, Vn, Vn], 27, none⟩]) (fun _ => rfl) rfl rfl) (wt_none' rfl) fun ⟨⟩ => ?_
 refine s0 (rd_build' (pls := [(0, 1), (1, 1), (2, 1), (3, 1), (4, 1), (5, 1), (6, 1)]) (qs := [(2, [(Vi r15)])]) (r := [(Vi 0), (Vi 0), (Vi r15), Vn, Vn, Vn, Vn]) ⟨rfl, ⟨_, rfl, (lv_vl rfl rfl)⟩, trivial⟩ Try.underlying27 has27 places27 info27 rfl rfl rfl) ?_
 refine sx_ox' (ox_alloc' info27 rfl rfl rfl rfl (l := [(Vi 0), (Vi 0), (Vi 0), Vn, Vn, Vn, Vn]) rfl) (wt_none' rfl) fun q3 => ?_
 refine sx_ox' (ox_store' (i := 0) (o := 0) rfl rfl (lv_ag _) ⟨rfl, rfl, rfl, rfl⟩ rfl info27 rfl (H' := [⟨.pointer (some q3), [(Vi 0), (Vi 0), (Vi r15), Vn, Vn, Vn, Vn], 27, none⟩, ⟨.pointer (some q2), [(Vi 0), (Vi 0), (Vi 0), Vn, Vn, Vn, Vn], 27, none⟩]) rfl) (wt_none' rfl) fun _ => ?_
 refine nk hK2 ?_
 refine cx_seq' fun K3 hK3 => ?_
 refine cr fun K4 hK4 => ?_
 refine s0 (rd_move' rfl) ?_
 refine nk hK4 ?_
 refine cx_block' ?_
 refine cr fun K5 hK5 => ?_
 refine s0 (rd_assert' rfl (F := fun _ => .tuple #[.pointer none, .bool false]) as57_53_72 as_no) ?_
 refine s0 (rd_extract' rfl rfl) ?_
 refine s0 (rd_extract' rfl rfl) ?_
 refine nk hK5 ?_
 refine cx_cond_f' rfl rfl ?_
 refine cr fun K9 hK9 => ?_
 refine s0 (rd_assert' rfl (F := fun _ => .tuple #[.pointer none, .bool false]) as57_53_75 as_no) ?_
 refine s0 (rd_extract' rfl rfl) ?_
 refine s0 (rd_extract' rfl rfl) ?_
 refine nk hK9 ?_
 refine cx_cond_f' rfl rfl ?_
 refine cr fun K11 hK11 => ?_
 refine s0 (rd_assert' rfl (F := fun _ => .tuple #[.pointer none, .bool false]) as57_53_69 as_no) ?_
 refine s0 (rd_extract' rfl rfl) ?_
 refine s0 (rd_extract' rfl rfl) ?_
 refine nk hK11 ?_
 refine cx_cond_f' rfl rfl ?_
 refine cr fun K13 hK13 => ?_
 refine s0 (rd_assert' rfl (F := fun _ => .tuple #[.pointer none, .bool false]) as57_53_67 as_no) ?_
 refine s0 (rd_extract' rfl rfl) ?_
 refine s0 (rd_extract' rfl rfl) ?_
 refine nk hK13 ?_
 refine cx_cond_f' rfl rfl ?_
 refine cr fun K15 hK15 => ?_
 refine s0 (rd_assert' rfl (F := fun _ => .tuple #[.pointer none, .bool false]) as57_53_70 as_no) ?_
 refine s0 (rd_extract' rfl rfl) ?_
 refine s0 (rd_extract' rfl rfl) ?_
 refine nk hK15 ?_
 refine cx_cond_f' rfl rfl ?_
 refine cr fun K17 hK17 => ?_
 refine s0 (rd_assert' rfl (F := fun _ => .tuple #[.pointer none, .bool false]) as57_53_73 as_no) ?_
 refine s0 (rd_extract' rfl rfl) ?_
 refine s0 (rd_extract' rfl rfl) ?_
 refine nk hK17 ?_
 refine cx_cond_f' rfl rfl ?_
 refine cr fun K19 hK19 => ?_
 refine s0 (rd_assert' rfl (F := fun _ => .tuple #[.pointer none, .bool false]) as57_53_76 as_no) ?_
 refine s0 (rd_extract' rfl rfl) ?_
 refine s0 (rd_extract' rfl rfl) ?_
 refine nk hK19 ?_
 refine cx_cond_f' rfl rfl ?_
 refine cr fun K21 hK21 => ?_
 refine s0 (rd_assert' rfl (F := fun v => .tuple #[v, .bool true]) as57_53_57k as_ok) ?_
 refine s0 (rd_extract' rfl rfl) ?_
 refine s0 (rd_extract' rfl rfl) ?_
 refine nk hK21 ?_
 refine cx_cond_t' rfl rfl ?_
 refine cr fun K22 hK22 => ?_
 refine s0 (rd_assign' rfl) ?_
 refine nk hK22 ?_
 refine cr fun K23 hK23 => ?_
 refine s0 (rd_move' rfl) ?_
 obtain ⟨r50, hr50, hp⟩ := bind_some hp
 refine sx_ox' (ox_calln' (ent_fn' Try.func80 isn80 rfl rfl) (gogeom_DoorLayout_v2_sim _ _ _ hr50 : Sx.Fn Try.prog 80 [(Pt [(Vi a0_7a), (Sl KG53 a0_7b), (Vi a0_7c)])] [] (fun x : Unit => (Vi r50)) (fun x => [])) (Hn := fun x : Unit => [⟨.pointer (some q3), [(Vi 0), (Vi 0), (Vi r15), Vn, Vn, Vn, Vn], 27, none⟩, ⟨.pointer (some q2), [(Vi 0), (Vi 0), (Vi 0), Vn, Vn, Vn, Vn], 27, none⟩]) (fun _ => rfl) rfl rfl) (wt_none' rfl) fun ⟨⟩ => ?_
 refine s0 (rd_field0' rfl Try.underlying27 rfl info3 rfl) ?_
 refine sx_ox' (ox_store' (i := 0) (o := 0) rfl rfl (lv_vl rfl rfl) ⟨rfl, rfl, rfl, rfl⟩ rfl info3 rfl (H' := [⟨.pointer (some q3), [(Vi 7), (Vi 0), (Vi r15), Vn, Vn, Vn, Vn], 27, none⟩, ⟨.pointer (some q2), [(Vi 0), (Vi 0), (Vi 0), Vn, Vn, Vn, Vn], 27, none⟩]) rfl) (wt_none' rfl) fun _ => ?_
 refine s0 (rd_field' (off := 1) rfl Try.underlying27 rfl info3 rfl) ?_
 refine sx_ox' (ox_store' (i := 0) (o := 1) rfl rfl (lv_vl rfl rfl) ⟨rfl, rfl, rfl, rfl⟩ rfl info3 rfl (H' := [⟨.pointer (some q3), [(Vi 7), (Vi r50), (Vi r15), Vn, Vn, Vn, Vn], 27, none⟩, ⟨.pointer (some q2), [(Vi 0), (Vi 0), (Vi 0), Vn, Vn, Vn, Vn], 27, none⟩]) rfl) (wt_none' rfl) fun _ => ?_
 refine nk hK23 ?_
 refine cx_seq' fun K24 hK24 => ?_
 refine cr fun K25 hK25 => ?_
 refine s0 (rd_move' rfl) ?_
 obtain ⟨r54, hr54, hp⟩ := bind_some hp
 refine sx_ox' (ox_calln' (ent_fn' Try.func81 isn81 rfl rfl) (gogeom_GeometryCollection_Geoms_v2_sim _ _ _ hr54 : Sx.Fn Try.prog 81 [(Pt [(Vi a0_7a), (Sl KG53 a0_7b), (Vi a0_7c)])] [] (fun x : Unit => (Sl KG53 r54)) (fun x => [])) (Hn := fun x : Unit => [⟨.pointer (some q3), [(Vi 7), (Vi r50), (Vi r15), Vn, Vn, Vn, Vn], 27, none⟩, ⟨.pointer (some q2), [(Vi 0), (Vi 0), (Vi 0), Vn, Vn, Vn, Vn], 27, none⟩]) (fun _ => rfl) rfl rfl) (wt_none' rfl) fun ⟨⟩ => ?_
 refine s0 (rd_len' rfl Try.underlying112) ?_
 refine s0 (rd_move' rfl) ?_
 refine nk hK25 ?_
 refine cx_block' ?_
 obtain ⟨v3, hy1, hp⟩ := bind_some hp
 refine tx_nilrow' KT27 27 ?_
 refine cx_loopg' (F := impl_plain_v2_l1 r54 recf) (G := fun k R v => impl_plain_v2_l1s r54 recf k R v.1 v.2) (x := ([], 0)) (gh := (none, 0, 0)) (fun (v2 : (List T27) × Int) (w2 : Gs) => (⟨85, [], [(2, (Vp q2)), (3, (Vp q3)), (54, (Sl KG53 r54)), (55, (Vi (r54.length : Int))), (56, (Vi v2.2))], [⟨.pointer (some q2), [(Vi 0), (Vi 0), (Vi 0), Vn, Vn, Vn, Vn], 27, none⟩, ⟨.pointer (some q3), [(Vi 7), (Vi r50), (Vi r15), Vn, Vn, Vn, (Vl (Vs w2))], 27, none⟩, (Rw KT27 27 (Vs w2) v2.1)]⟩ : St)) (fun (v3 : (List T27)) => Zg E (Exit.exit 1) (fun (w3 : Gs) => (⟨85, [], [(2, (Vp q2)), (3, (Vp q3))], [⟨.pointer (some q2), [(Vi 0), (Vi 0), (Vi 0), Vn, Vn, Vn, Vn], 27, none⟩, ⟨.pointer (some q3), [(Vi 7), (Vi r50), (Vi r15), Vn, Vn, Vn, (Vl (Vs w3))], 27, none⟩, (Rw KT27 27 (Vs w3) v3)]⟩ : St))) (fun _ => rfl) (fun _ _ => rfl) ?_ hy1 (tx_to' rfl [2, 1, 0] (sub_cons rfl (sub_cons rfl (sub_cons rfl (sub_cons rfl (sub_cons rfl sub_nil))))) (by decide) (pick_cons rfl (pick_cons rfl (pick_cons rfl pick_nil)))) ?_
 ·clear hp hy1
  clear v3
  intro k rec1 KY1 ih1
  rintro ⟨x7, x8⟩ g901 y2 hp
  replace hp : impl_plain_v2_l1s r54 recf k rec1 x7 x8 = some y2 := hp
  unfold impl_plain_v2_l1s at hp
  refine cr fun K31 hK31 => ?_
  refine s0 (rd_bin' rfl rfl eg_int ru_lss) ?_
  refine nk hK31 ?_
  refine cx_seq' fun K32 hK32 => ?_
  refine cx_cond' rfl (fun h3 => ?_) (fun h3 => ?_)
  ·replace hp := (br_t h3).symm.trans hp
   refine cx_skip' ?_
   show TX E K32 _
   refine tx_k' hK32 ?_
   refine cx_seq' fun K33 hK33 => ?_
   refine cx_block' ?_
   refine cr fun K34 hK34 => ?_
   obtain ⟨r58, hr58, hp⟩ := bind_some hp
   refine s0 (rd_at' (K := KG53) rfl rfl hr58 Try.underlying112 info53) ?_
   refine s0 (rd_load_pt' rfl rfl flat53) ?_
   refine s0 (rd_assign' rfl) ?_
   refine nk hK34 ?_
   refine cx_plan' [] [(5, 1), (7, 1)] [(0, 1), (1, 1), (2, 1), (3, 0), (4, 0), (5, 0), (6, 1), (7, 0)] mixed (by kernel_rfl) ?_
   refine px_rd' rfl (rd_field' (off := 6) rfl Try.underlying27 rfl info25 rfl) rfl rfl (wt_none' rfl) ?_
   refine px_rd' rfl (rd_load' (i := 1) (o := 6) rfl ⟨rfl, rfl, rfl, rfl⟩ rfl flat25) rfl rfl (wt_none' rfl) ?_
   refine px_rd' rfl (rd_move' rfl) rfl rfl (wt_none' rfl) ?_
   obtain ⟨r63, hr63, hp⟩ := bind_some hp
   refine px_ox' rfl (ox_calln' (ent_fn' Try.func34 isn34 rfl rfl) (hrec _ _ hr63 : Sx.Fn Try.prog 34 [(SG53 r58)] [] (fun x : Unit => (Ag [(Vi r63.1), (Vi r63.2.1), (Vi r63.2.2.1), (Sl Kf r63.2.2.2.1), (Sl (Ki .i64) r63.2.2.2.2.1), (Sl (Kl (Ki .i64)) r63.2.2.2.2.2.1), (Sl KT27 r63.2.2.2.2.2.2)])) (fun x => [])) (Hn := fun x : Unit => [⟨.pointer (some q2), [(Vi 0), (Vi 0), (Vi 0), Vn, Vn, Vn, Vn], 27, none⟩, ⟨.pointer (some q3), [(Vi 7), (Vi r50), (Vi r15), Vn, Vn, Vn, (Vl (Vs g901))], 27, none⟩, (Rw KT27 27 (Vs g901) x7)]) (fun _ => rfl) rfl rfl) rfl bs_nil (wt_none' rfl) fun ⟨⟩ => ?_
   refine px_ox' rfl (ox_rowlit' (K := KT27) (xs := [(T27.mk r63.1 r63.2.1 r63.2.2.1 r63.2.2.2.1 r63.2.2.2.2.1 r63.2.2.2.2.2.1 r63.2.2.2.2.2.2)]) (qs := [(0, [(Vi r63.1), (Vi r63.2.1), (Vi r63.2.2.1), (Sl Kf r63.2.2.2.1), (Sl (Ki .i64) r63.2.2.2.2.1), (Sl (Kl (Ki .i64)) r63.2.2.2.2.2.1), (Sl KT27 r63.2.2.2.2.2.2)])]) ⟨rfl, ⟨_, rfl, (lv_ag _)⟩, trivial⟩ Try.underlying25 info27 rfl rfl rfl rfl rfl (by simp only [List.flatMap_cons, List.flatMap_nil, KT27_enc, List.append_nil]; kernel_rfl) rfl rfl rfl) rfl bs_nil (wt_none' rfl) fun g64 => ?_
   obtain ⟨r65, hr65, hp⟩ := bind_some hp
   refine px_ox' rfl (ox_append' (K := KT27) (i := 3) (xs := x7) (ys := ([(T27.mk r63.1 r63.2.1 r63.2.2.1 r63.2.2.2.1 r63.2.2.2.2.1 r63.2.2.2.2.2.1 r63.2.2.2.2.2.2)])) rfl rfl rfl (sr_row' (j := 0) rfl rfl rfl Try.underlying25) hr65 Try.underlying25 info27 rfl rfl rfl (H' := [(Rw KT27 27 (Vs g64) ([(T27.mk r63.1 r63.2.1 r63.2.2.1 r63.2.2.2.1 r63.2.2.2.2.1 r63.2.2.2.2.2.1 r63.2.2.2.2.2.2)])), ⟨.pointer (some q2), [(Vi 0), (Vi 0), (Vi 0), Vn, Vn, Vn, Vn], 27, none⟩, ⟨.pointer (some q3), [(Vi 7), (Vi r50), (Vi r15), Vn, Vn, Vn, (Vl (Vs g901))], 27, none⟩]) rfl) rfl bs_nil (wt_none' rfl) fun g65 => ?_
   refine px_rd' rfl (rd_field' (off := 6) rfl Try.underlying27 rfl info25 rfl) rfl rfl (wt_none' rfl) ?_
   refine px_oxv' rfl (oxv_store (i := 3) (o := 6) rfl rfl (lv_vl rfl rfl) ⟨rfl, rfl, rfl, rfl⟩ rfl info25 rfl (H' := [(Rw KT27 27 (Vs g65) r65), (Rw KT27 27 (Vs g64) ([(T27.mk r63.1 r63.2.1 r63.2.2.1 r63.2.2.2.1 r63.2.2.2.2.1 r63.2.2.2.2.2.1 r63.2.2.2.2.2.2)])), ⟨.pointer (some q2), [(Vi 0), (Vi 0), (Vi 0), Vn, Vn, Vn, Vn], 27, none⟩, ⟨.pointer (some q3), [(Vi 7), (Vi r50), (Vi r15), Vn, Vn, Vn, (Vl (Vs g65))], 27, none⟩]) rfl) rfl rfl bo_nil (wt_none' rfl) fun _ => ?_
   refine px_nil' ?_
   show TX E K33 _
   refine tx_k' hK33 ?_
   refine cx_region' ?_
   refine s0 (rd_bin' rfl rfl eg_int ru_add) ?_
   refine s0 (rd_move' rfl) ?_
   refine sx_nil' ?_
   show TX E (KY1 _) _
   exact tx_pick' [2, 3, 0] (sub_cons rfl (sub_cons rfl (sub_cons rfl (sub_cons rfl (sub_cons rfl sub_nil))))) (by decide) (pick_cons rfl (pick_cons rfl (pick_cons rfl pick_nil))) (ih1 (r65, (iadd .i64 x8 1)) g65 _ hp)
  replace hp := (br_f h3).symm.trans hp
  refine cx_exit' ?_
  replace hp := Option.some.inj hp
  subst hp
  show TX E (Zg E (Exit.exit 1) _ (Exit.exit 1)) _
  exact tx_zend' g901 rfl [0, 1, 2] (sub_cons rfl (sub_cons rfl sub_nil)) (by decide) (pick_cons rfl (pick_cons rfl (pick_cons rfl pick_nil)))
 refine zg_out fun w3 => ?_
 show TX E K24 _
 refine tx_k' hK24 ?_
 refine cr fun K30 hK30 => ?_
 refine s0 (rd_load_agg' (i := 1) (o := 0) (nn := 7) rfl ⟨rfl, rfl, rfl, rfl⟩ rfl agg27 (l' := [(Vi 7), (Vi r50), (Vi r15), Vn, Vn, Vn, (Vl (Vs w3))]) rfl) ?_
 refine sx_ox' (ox_store' (i := 0) (o := 0) rfl rfl (lv_ag _) ⟨rfl, rfl, rfl, rfl⟩ rfl info27 rfl (H' := [⟨.pointer (some q2), [(Vi 7), (Vi r50), (Vi r15), Vn, Vn, Vn, (Vl (Vs w3))], 27, none⟩, ⟨.pointer (some q3), [(Vi 7), (Vi r50), (Vi r15), Vn, Vn, Vn, (Vl (Vs w3))], 27, none⟩, (Rw KT27 27 (Vs w3) v3)]) rfl) (wt_none' rfl) fun _ => ?_
 refine nk hK30 ?_
 refine cx_retc' ?_
 replace hp := Option.some.inj hp
 subst hp
 refine tx_fz' (frz_row 2 [(68, (Ag [(Vi 7), (Vi r50), (Vi r15), Vn, Vn, Vn, (Vl (Vs w3))]), (Ag [(Vi 7), (Vi r50), (Vi r15), Vn, Vn, Vn, (Sl KT27 v3)]))] (K := KT27) (xs := v3) (by decide) rfl ⟨⟨rfl, fz_ag (fz0_cons fz0_same (fz0_cons fz0_same (fz0_cons fz0_same (fz0_cons fz0_same (fz0_cons fz0_same (fz0_cons fz0_same (fz0_cons fz0_it fz0_nil)))))))⟩, trivial⟩ (H' := [⟨.pointer (some q2), [(Vi 7), (Vi r50), (Vi r15), Vn, Vn, Vn, (Sl KT27 v3)], 27, none⟩, ⟨.pointer (some q3), [(Vi 7), (Vi r50), (Vi r15), Vn, Vn, Vn, (Sl KT27 v3)], 27, none⟩]) (frzH_cons rfl rfl rfl (frzL_cons frz_same (frzL_cons frz_same (frzL_cons frz_same (frzL_cons frz_same (frzL_cons frz_same (frzL_cons frz_same (frzL_cons frz_it frzL_refl))))))) (frzH_cons rfl rfl rfl (frzL_cons frz_same (frzL_cons frz_same (frzL_cons frz_same (frzL_cons frz_same (frzL_cons frz_same (frzL_cons frz_same (frzL_cons frz_it frzL_refl))))))) frzH_refl))) ?_
 refine tx_pick' (L' := [(2, (Vp q2))]) (H' := [⟨.pointer (some q2), [(Vi 7), (Vi r50), (Vi r15), Vn, Vn, Vn, (Sl KT27 v3)], 27, none⟩]) [0] (sub_cons rfl sub_nil) (by decide) (pick_cons rfl pick_nil) ?_
 exact tx_ret1' Try.results34 rfl () (rv_imp' (x := (Ag [(Vi 7), (Vi r50), (Vi r15), Vn, Vn, Vn, (Sl KT27 v3)])) (y := (Ag [(Vi 7), (Vi r50), (Vi r15), (Sl Kf []), (Sl (Ki .i64) []), (Sl (Kl (Ki .i64)) []), (Sl KT27 v3)])) (rv_cell_agg' (i := 0) (o := 0) (nn := 7) rfl ⟨rfl, rfl, rfl, rfl⟩ rfl agg27 rfl) (imp_ag ⟨imp_refl, imp_refl, imp_refl, imp_nil, imp_nil, imp_nil, imp_refl, trivial⟩)) (List.nil_sublist _)
theorem impl_plain_v2_simA : ∀ (k : Nat)  (a0 : G53) (out : Int × Int × Int × (List Nat) × (List Int) × (List (List Int)) × (List T27)), impl_plain_v2 k a0 = some out → Sx.Fn Try.prog 34 [(SG53 a0)] [] (fun w : Unit => (Ag [(Vi out.1), (Vi out.2.1), (Vi out.2.2.1), (Sl Kf out.2.2.2.1), (Sl (Ki .i64) out.2.2.2.2.1), (Sl (Kl (Ki .i64)) out.2.2.2.2.2.1), (Sl KT27 out.2.2.2.2.2.2)])) (fun w => []) := by
 intro k
 induction k with
 | zero => intro a0 out hp; cases hp
 | succ k ih => intro a0 out hp; exact impl_plain_v2_b_sim ih a0 hp
theorem impl_plain_v2_sim {k : Nat}  (a0 : G53) {out : Int × Int × Int × (List Nat) × (List Int) × (List (List Int)) × (List T27)} (hp : impl_plain_v2 k a0 = some out) : Sx.Fn Try.prog 34 [(SG53 a0)] [] (fun w : Unit => (Ag [(Vi out.1), (Vi out.2.1), (Vi out.2.2.1), (Sl Kf out.2.2.2.1), (Sl (Ki .i64) out.2.2.2.2.1), (Sl (Kl (Ki .i64)) out.2.2.2.2.2.1), (Sl KT27 out.2.2.2.2.2.2)])) (fun w => []) := impl_plain_v2_simA k a0 out hp

def impl_plain_l1s (r54 : Int × (List G53) × Int) (k : Nat) (rec1 : ((List T27) × Int) → Option ((List T27))) (x1 : List T27) (x2 : Int) : Option ((List T27)) :=
 br (decide (x2 < (r54.2.1.length : Int)))
  ((idx r54.2.1 x2) >>= fun r58 =>
  (impl_plain_v2 k r58) >>= fun r63 =>
  (apd 120 x1 ([(T27.mk r63.1 r63.2.1 r63.2.2.1 r63.2.2.2.1 r63.2.2.2.2.1 r63.2.2.2.2.2.1 r63.2.2.2.2.2.2)])) >>= fun r65 =>
  rec1 (r65, (iadd .i64 x2 1)))
  (some x1)
def impl_plain_l1 (r54 : Int × (List G53) × Int) : Nat → ((List T27) × Int) → Option ((List T27))
 | 0, _ => none
 | k + 1, v => impl_plain_l1s r54 k (impl_plain_l1 r54 k) v.1 v.2
def impl_plain (k : Nat) (a0_0 : Int) (a0_1 : List G53) (a0_2 : Int) : Option (Int × (List G53) × Int × Int × Int × Int × (List T27)) :=
 (gogeom_GeometryCollection_SRID k a0_0 a0_1 a0_2) >>= fun r15 =>
 (gogeom_DoorLayout k r15.1 r15.2.1 r15.2.2) >>= fun r50 =>
 (gogeom_GeometryCollection_Geoms k r50.1 r50.2.1 r50.2.2) >>= fun r54 =>
 (impl_plain_l1 r54 k ([], 0)) >>= fun v2 =>
 some (r54.1, r54.2.1, r54.2.2, 7, r50.1, r15.2.2, v2)

theorem impl_plain_sim {k : Nat} {wa0 : Addr} {wa0_1 : Gs} (a0_0 : Int) (a0_1 : List G53) (a0_2 : Int) {out : Int × (List G53) × Int × Int × Int × Int × (List T27)} (hp : impl_plain k a0_0 a0_1 a0_2 = some out) : Sx.Fn Try.prog 34 [(If 57 (Vp wa0))] [⟨.pointer (some wa0), [(Vi a0_0), (Vl (Vs wa0_1)), (Vi a0_2)], 114, none⟩, (Rw KG53 53 (Vs wa0_1) a0_1)] (fun w : Unit => (Ag [(Vi out.2.2.2.1), (Vi out.2.2.2.2.1), (Vi out.2.2.2.2.2.1), Vn, Vn, Vn, (Sl KT27 out.2.2.2.2.2.2)])) (fun w => [⟨.pointer (some wa0), [(Vi out.1), (Sl KG53 out.2.1), (Vi out.2.2.1)], 114, none⟩]) := by
 unfold impl_plain at hp
 refine fn_of Try.func34 rfl Try.ntmps34 rfl fun E hM => ?_
 refine cr fun K1 hK1 => ?_
 refine sx_ox' (ox_alloc' info27 rfl rfl rfl rfl (l := [(Vi 0), (Vi 0), (Vi 0), Vn, Vn, Vn, Vn]) rfl) (wt_none' rfl) fun q2 => ?_
 refine nk hK1 ?_
 refine cr fun K2 hK2 => ?_
 refine s0 (rd_move' rfl) ?_
 obtain ⟨r15, hr15, hp⟩ := bind_some hp
 refine sx_ox' (ox_callg' (ent_inv' rfl rfl (inv_any0 inv57_SRID)) (gogeom_GeometryCollection_SRID_sim _ _ _ hr15 : Sx.Fn Try.prog 126 [(Vp wa0)] [⟨.pointer (some wa0), [(Vi a0_0), (Vl (Vs wa0_1)), (Vi a0_2)], 114, none⟩, (Rw KG53 53 (Vs wa0_1) a0_1)] (fun x : Unit => (Vi r15.2.2)) (fun x => [⟨.pointer (some wa0), [(Vi r15.1), (Vl (Vs wa0_1)), (Vi r15.2.2)], 114, none⟩, (Rw KG53 53 (Vs wa0_1) r15.2.1)])) [1, 2] [0] (by decide) (pick_cons rfl (pick_cons rfl pick_nil)) (pick_cons rfl pick_nil) (Hn := fun x : Unit => [⟨.pointer (some wa0), [(Vi r15.1), (Vl (Vs wa0_1)), (Vi r15.2.2)], 114, none⟩, (Rw KG53 53 (Vs wa0_1) r15.2.1), ⟨.pointer (some q2), [(Vi 0), (Vi 0), (Vi 0), Vn, Vn, Vn, Vn], 27, none⟩]) (fun _ => rfl) rfl rfl) (wt_none' rfl) fun ⟨⟩ => ?_
 refine s0 (rd_build' (pls := [(0, 1), (1, 1), (2, 1), (3, 1), (4, 1), (5, 1), (6, 1)]) (qs := [(2, [(Vi r15.2.2)])]) (r := [(Vi 0), (Vi 0), (Vi r15.2.2), Vn, Vn, Vn, Vn]) ⟨rfl, ⟨_, rfl, (lv_vl rfl rfl)⟩, trivial⟩ Try.underlying27 has27 places27 info27 rfl rfl rfl) ?_
 refine sx_ox' (ox_alloc' info27 rfl rfl rfl rfl (l := [(Vi 0), (Vi 0), (Vi 0), Vn, Vn, Vn, Vn]) rfl) (wt_none' rfl) fun q3 => ?_
 refine sx_ox' (ox_store' (i := 0) (o := 0) rfl rfl (lv_ag _) ⟨rfl, rfl, rfl, rfl⟩ rfl info27 rfl (H' := [⟨.pointer (some q3), [(Vi 0), (Vi 0), (Vi r15.2.2), Vn, Vn, Vn, Vn], 27, none⟩, ⟨.pointer (some wa0), [(Vi r15.1), (Vl (Vs wa0_1)), (Vi r15.2.2)], 114, none⟩, (Rw KG53 53 (Vs wa0_1) r15.2.1), ⟨.pointer (some q2), [(Vi 0), (Vi 0), (Vi 0), Vn, Vn, Vn, Vn], 27, none⟩]) rfl) (wt_none' rfl) fun _ => ?_
 refine nk hK2 ?_
 refine cx_seq' fun K3 hK3 => ?_
 refine cr fun K4 hK4 => ?_
 refine s0 (rd_move' rfl) ?_
 refine nk hK4 ?_
 refine cx_block' ?_
 refine cr fun K5 hK5 => ?_
 refine s0 (rd_assert' rfl (F := fun _ => .tuple #[.pointer none, .bool false]) as57_53_72 as_no) ?_
 refine s0 (rd_extract' rfl rfl) ?_
 refine s0 (rd_extract' rfl rfl) ?_
 refine nk hK5 ?_
 refine cx_cond_f' rfl rfl ?_
 refine cr fun K6 hK6 => ?_
 refine s0 (rd_assert' rfl (F := fun _ => .tuple #[.pointer none, .bool false]) as57_53_75 as_no) ?_
 refine s0 (rd_extract' rfl rfl) ?_
 refine s0 (rd_extract' rfl rfl) ?_
 refine nk hK6 ?_
 refine cx_cond_f' rfl rfl ?_
 refine cr fun K7 hK7 => ?_
 refine s0 (rd_assert' rfl (F := fun _ => .tuple #[.pointer none, .bool false]) as57_53_69 as_no) ?_
 refine s0 (rd_extract' rfl rfl) ?_
 refine s0 (rd_extract' rfl rfl) ?_
 refine nk hK7 ?_
 refine cx_cond_f' rfl rfl ?_
 refine cr fun K8 hK8 => ?_
 refine s0 (rd_assert' rfl (F := fun _ => .tuple #[.pointer none, .bool false]) as57_53_67 as_no) ?_
 refine s0 (rd_extract' rfl rfl) ?_
 refine s0 (rd_extract' rfl rfl) ?_
 refine nk hK8 ?_
 refine cx_cond_f' rfl rfl ?_
 refine cr fun K9 hK9 => ?_
 refine s0 (rd_assert' rfl (F := fun _ => .tuple #[.pointer none, .bool false]) as57_53_70 as_no) ?_
 refine s0 (rd_extract' rfl rfl) ?_
 refine s0 (rd_extract' rfl rfl) ?_
 refine nk hK9 ?_
 refine cx_cond_f' rfl rfl ?_
 refine cr fun K10 hK10 => ?_
 refine s0 (rd_assert' rfl (F := fun _ => .tuple #[.pointer none, .bool false]) as57_53_73 as_no) ?_
 refine s0 (rd_extract' rfl rfl) ?_
 refine s0 (rd_extract' rfl rfl) ?_
 refine nk hK10 ?_
 refine cx_cond_f' rfl rfl ?_
 refine cr fun K11 hK11 => ?_
 refine s0 (rd_assert' rfl (F := fun _ => .tuple #[.pointer none, .bool false]) as57_53_76 as_no) ?_
 refine s0 (rd_extract' rfl rfl) ?_
 refine s0 (rd_extract' rfl rfl) ?_
 refine nk hK11 ?_
 refine cx_cond_f' rfl rfl ?_
 refine cr fun K12 hK12 => ?_
 refine s0 (rd_assert' rfl (F := fun v => .tuple #[v, .bool true]) as57_53_57k as_ok) ?_
 refine s0 (rd_extract' rfl rfl) ?_
 refine s0 (rd_extract' rfl rfl) ?_
 refine nk hK12 ?_
 refine cx_cond_t' rfl rfl ?_
 refine cr fun K13 hK13 => ?_
 refine s0 (rd_assign' rfl) ?_
 refine nk hK13 ?_
 refine cr fun K14 hK14 => ?_
 refine s0 (rd_move' rfl) ?_
 obtain ⟨r50, hr50, hp⟩ := bind_some hp
 refine sx_ox' (ox_callg' (ent_fn' Try.func80 isn80 rfl rfl) (gogeom_DoorLayout_sim _ _ _ hr50 : Sx.Fn Try.prog 80 [(Vp wa0)] [⟨.pointer (some wa0), [(Vi r15.1), (Vl (Vs wa0_1)), (Vi r15.2.2)], 114, none⟩, (Rw KG53 53 (Vs wa0_1) r15.2.1)] (fun x : Unit => (Vi r50.1)) (fun x => [⟨.pointer (some wa0), [(Vi r50.1), (Vl (Vs wa0_1)), (Vi r50.2.2)], 114, none⟩, (Rw KG53 53 (Vs wa0_1) r50.2.1)])) [1, 2] [0, 3] (by decide) (pick_cons rfl (pick_cons rfl pick_nil)) (pick_cons rfl (pick_cons rfl pick_nil)) (Hn := fun x : Unit => [⟨.pointer (some wa0), [(Vi r50.1), (Vl (Vs wa0_1)), (Vi r50.2.2)], 114, none⟩, (Rw KG53 53 (Vs wa0_1) r50.2.1), ⟨.pointer (some q3), [(Vi 0), (Vi 0), (Vi r15.2.2), Vn, Vn, Vn, Vn], 27, none⟩, ⟨.pointer (some q2), [(Vi 0), (Vi 0), (Vi 0), Vn, Vn, Vn, Vn], 27, none⟩]) (fun _ => rfl) rfl rfl) (wt_none' rfl) fun ⟨⟩ => ?_
 refine s0 (rd_field0' rfl Try.underlying27 rfl info3 rfl) ?_
 refine sx_ox' (ox_store' (i := 2) (o := 0) rfl rfl (lv_vl rfl rfl) ⟨rfl, rfl, rfl, rfl⟩ rfl info3 rfl (H' := [⟨.pointer (some wa0), [(Vi r50.1), (Vl (Vs wa0_1)), (Vi r50.2.2)], 114, none⟩, (Rw KG53 53 (Vs wa0_1) r50.2.1), ⟨.pointer (some q3), [(Vi 7), (Vi 0), (Vi r15.2.2), Vn, Vn, Vn, Vn], 27, none⟩, ⟨.pointer (some q2), [(Vi 0), (Vi 0), (Vi 0), Vn, Vn, Vn, Vn], 27, none⟩]) rfl) (wt_none' rfl) fun _ => ?_
 refine s0 (rd_field' (off := 1) rfl Try.underlying27 rfl info3 rfl) ?_
 refine sx_ox' (ox_store' (i := 2) (o := 1) rfl rfl (lv_vl rfl rfl) ⟨rfl, rfl, rfl, rfl⟩ rfl info3 rfl (H' := [⟨.pointer (some wa0), [(Vi r50.1), (Vl (Vs wa0_1)), (Vi r50.2.2)], 114, none⟩, (Rw KG53 53 (Vs wa0_1) r50.2.1), ⟨.pointer (some q3), [(Vi 7), (Vi r50.1), (Vi r15.2.2), Vn, Vn, Vn, Vn], 27, none⟩, ⟨.pointer (some q2), [(Vi 0), (Vi 0), (Vi 0), Vn, Vn, Vn, Vn], 27, none⟩]) rfl) (wt_none' rfl) fun _ => ?_
 refine nk hK14 ?_
 refine cx_seq' fun K15 hK15 => ?_
 refine cr fun K16 hK16 => ?_
 refine s0 (rd_move' rfl) ?_
 obtain ⟨r54, hr54, hp⟩ := bind_some hp
 refine sx_ox' (ox_callg' (ent_fn' Try.func81 isn81 rfl rfl) (gogeom_GeometryCollection_Geoms_sim _ _ _ hr54 : Sx.Fn Try.prog 81 [(Vp wa0)] [⟨.pointer (some wa0), [(Vi r50.1), (Vl (Vs wa0_1)), (Vi r50.2.2)], 114, none⟩, (Rw KG53 53 (Vs wa0_1) r50.2.1)] (fun x : Unit => (Sl KG53 r54.2.1)) (fun x => [⟨.pointer (some wa0), [(Vi r54.1), (Sl KG53 r54.2.1), (Vi r54.2.2)], 114, none⟩])) [0, 1] [2, 3] (by decide) (pick_cons rfl (pick_cons rfl pick_nil)) (pick_cons rfl (pick_cons rfl pick_nil)) (Hn := fun x : Unit => [⟨.pointer (some wa0), [(Vi r54.1), (Sl KG53 r54.2.1), (Vi r54.2.2)], 114, none⟩, ⟨.pointer (some q3), [(Vi 7), (Vi r50.1), (Vi r15.2.2), Vn, Vn, Vn, Vn], 27, none⟩, ⟨.pointer (some q2), [(Vi 0), (Vi 0), (Vi 0), Vn, Vn, Vn, Vn], 27, none⟩]) (fun _ => rfl) rfl rfl) (wt_none' rfl) fun ⟨⟩ => ?_
 refine s0 (rd_len' rfl Try.underlying112) ?_
 refine s0 (rd_move' rfl) ?_
 refine nk hK16 ?_
 refine cx_block' ?_
 obtain ⟨v2, hy1, hp⟩ := bind_some hp
 refine tx_nilrow' KT27 27 ?_
 refine cx_loopg' (F := impl_plain_l1 r54) (G := fun k R v => impl_plain_l1s r54 k R v.1 v.2) (x := ([], 0)) (gh := (none, 0, 0)) (fun (v1 : (List T27) × Int) (w1 : Gs) => (⟨85, [], [(2, (Vp q2)), (3, (Vp q3)), (54, (Sl KG53 r54.2.1)), (55, (Vi (r54.2.1.length : Int))), (56, (Vi v1.2))], [⟨.pointer (some q2), [(Vi 0), (Vi 0), (Vi 0), Vn, Vn, Vn, Vn], 27, none⟩, ⟨.pointer (some q3), [(Vi 7), (Vi r50.1), (Vi r15.2.2), Vn, Vn, Vn, (Vl (Vs w1))], 27, none⟩, (Rw KT27 27 (Vs w1) v1.1), ⟨.pointer (some wa0), [(Vi r54.1), (Sl KG53 r54.2.1), (Vi r54.2.2)], 114, none⟩]⟩ : St)) (fun (v2 : (List T27)) => Zg E (Exit.exit 1) (fun (w2 : Gs) => (⟨85, [], [(2, (Vp q2)), (3, (Vp q3))], [⟨.pointer (some q2), [(Vi 0), (Vi 0), (Vi 0), Vn, Vn, Vn, Vn], 27, none⟩, ⟨.pointer (some q3), [(Vi 7), (Vi r50.1), (Vi r15.2.2), Vn, Vn, Vn, (Vl (Vs w2))], 27, none⟩, (Rw KT27 27 (Vs w2) v2), ⟨.pointer (some wa0), [(Vi r54.1), (Sl KG53 r54.2.1), (Vi r54.2.2)], 114, none⟩]⟩ : St))) (fun _ => rfl) (fun _ _ => rfl) ?_ hy1 (tx_to' rfl [3, 2, 0, 1] (sub_cons rfl (sub_cons rfl (sub_cons rfl (sub_cons rfl (sub_cons rfl sub_nil))))) (by decide) (pick_cons rfl (pick_cons rfl (pick_cons rfl (pick_cons rfl pick_nil))))) ?_
 ·clear hp hy1
  clear v2
  intro k rec1 KY1 ih1
  rintro ⟨x1, x2⟩ g901 y1 hp
  replace hp : impl_plain_l1s r54 k rec1 x1 x2 = some y1 := hp
  unfold impl_plain_l1s at hp
  refine cr fun K21 hK21 => ?_
  refine s0 (rd_bin' rfl rfl eg_int ru_lss) ?_
  refine nk hK21 ?_
  refine cx_seq' fun K22 hK22 => ?_
  refine cx_cond' rfl (fun h3 => ?_) (fun h3 => ?_)
  ·replace hp := (br_t h3).symm.trans hp
   refine cx_skip' ?_
   show TX E K22 _
   refine tx_k' hK22 ?_
   refine cx_seq' fun K23 hK23 => ?_
   refine cx_block' ?_
   refine cr fun K24 hK24 => ?_
   obtain ⟨r58, hr58, hp⟩ := bind_some hp
   refine s0 (rd_at' (K := KG53) rfl rfl hr58 Try.underlying112 info53) ?_
   refine s0 (rd_load_pt' rfl rfl flat53) ?_
   refine s0 (rd_assign' rfl) ?_
   refine nk hK24 ?_
   refine cx_plan' [] [(5, 1), (7, 1)] [(0, 1), (1, 1), (2, 1), (3, 0), (4, 0), (5, 0), (6, 1), (7, 0)] mixed (by kernel_rfl) ?_
   refine px_rd' rfl (rd_field' (off := 6) rfl Try.underlying27 rfl info25 rfl) rfl rfl (wt_none' rfl) ?_
   refine px_rd' rfl (rd_load' (i := 1) (o := 6) rfl ⟨rfl, rfl, rfl, rfl⟩ rfl flat25) rfl rfl (wt_none' rfl) ?_
   refine px_rd' rfl (rd_move' rfl) rfl rfl (wt_none' rfl) ?_
   obtain ⟨r63, hr63, hp⟩ := bind_some hp
   refine px_ox' rfl (ox_calln' (ent_fn' Try.func34 isn34 rfl rfl) (impl_plain_v2_sim _ hr63 : Sx.Fn Try.prog 34 [(SG53 r58)] [] (fun x : Unit => (Ag [(Vi r63.1), (Vi r63.2.1), (Vi r63.2.2.1), (Sl Kf r63.2.2.2.1), (Sl (Ki .i64) r63.2.2.2.2.1), (Sl (Kl (Ki .i64)) r63.2.2.2.2.2.1), (Sl KT27 r63.2.2.2.2.2.2)])) (fun x => [])) (Hn := fun x : Unit => [⟨.pointer (some q2), [(Vi 0), (Vi 0), (Vi 0), Vn, Vn, Vn, Vn], 27, none⟩, ⟨.pointer (some q3), [(Vi 7), (Vi r50.1), (Vi r15.2.2), Vn, Vn, Vn, (Vl (Vs g901))], 27, none⟩, (Rw KT27 27 (Vs g901) x1), ⟨.pointer (some wa0), [(Vi r54.1), (Sl KG53 r54.2.1), (Vi r54.2.2)], 114, none⟩]) (fun _ => rfl) rfl rfl) rfl bs_nil (wt_none' rfl) fun ⟨⟩ => ?_
   refine px_ox' rfl (ox_rowlit' (K := KT27) (xs := [(T27.mk r63.1 r63.2.1 r63.2.2.1 r63.2.2.2.1 r63.2.2.2.2.1 r63.2.2.2.2.2.1 r63.2.2.2.2.2.2)]) (qs := [(0, [(Vi r63.1), (Vi r63.2.1), (Vi r63.2.2.1), (Sl Kf r63.2.2.2.1), (Sl (Ki .i64) r63.2.2.2.2.1), (Sl (Kl (Ki .i64)) r63.2.2.2.2.2.1), (Sl KT27 r63.2.2.2.2.2.2)])]) ⟨rfl, ⟨_, rfl, (lv_ag _)⟩, trivial⟩ Try.underlying25 info27 rfl rfl rfl rfl rfl (by simp only [List.flatMap_cons, List.flatMap_nil, KT27_enc, List.append_nil]; kernel_rfl) rfl rfl rfl) rfl bs_nil (wt_none' rfl) fun g64 => ?_
   obtain ⟨r65, hr65, hp⟩ := bind_some hp
   refine px_ox' rfl (ox_append' (K := KT27) (i := 3) (xs := x1) (ys := ([(T27.mk r63.1 r63.2.1 r63.2.2.1 r63.2.2.2.1 r63.2.2.2.2.1 r63.2.2.2.2.2.1 r63.2.2.2.2.2.2)])) rfl rfl rfl (sr_row' (j := 0) rfl rfl rfl Try.underlying25) hr65 Try.underlying25 info27 rfl rfl rfl (H' := [(Rw KT27 27 (Vs g64) ([(T27.mk r63.1 r63.2.1 r63.2.2.1 r63.2.2.2.1 r63.2.2.2.2.1 r63.2.2.2.2.2.1 r63.2.2.2.2.2.2)])), ⟨.pointer (some q2), [(Vi 0), (Vi 0), (Vi 0), Vn, Vn, Vn, Vn], 27, none⟩, ⟨.pointer (some q3), [(Vi 7), (Vi r50.1), (Vi r15.2.2), Vn, Vn, Vn, (Vl (Vs g901))], 27, none⟩, ⟨.pointer (some wa0), [(Vi r54.1), (Sl KG53 r54.2.1), (Vi r54.2.2)], 114, none⟩]) rfl) rfl bs_nil (wt_none' rfl) fun g65 => ?_
   refine px_rd' rfl (rd_field' (off := 6) rfl Try.underlying27 rfl info25 rfl) rfl rfl (wt_none' rfl) ?_
   refine px_oxv' rfl (oxv_store (i := 3) (o := 6) rfl rfl (lv_vl rfl rfl) ⟨rfl, rfl, rfl, rfl⟩ rfl info25 rfl (H' := [(Rw KT27 27 (Vs g65) r65), (Rw KT27 27 (Vs g64) ([(T27.mk r63.1 r63.2.1 r63.2.2.1 r63.2.2.2.1 r63.2.2.2.2.1 r63.2.2.2.2.2.1 r63.2.2.2.2.2.2)])), ⟨.pointer (some q2), [(Vi 0), (Vi 0), (Vi 0), Vn, Vn, Vn, Vn], 27, none⟩, ⟨.pointer (some q3), [(Vi 7), (Vi r50.1), (Vi r15.2.2), Vn, Vn, Vn, (Vl (Vs g65))], 27, none⟩, ⟨.pointer (some wa0), [(Vi r54.1), (Sl KG53 r54.2.1), (Vi r54.2.2)], 114, none⟩]) rfl) rfl rfl bo_nil (wt_none' rfl) fun _ => ?_
   refine px_nil' ?_
   show TX E K23 _
   refine tx_k' hK23 ?_
   refine cx_region' ?_
   refine s0 (rd_bin' rfl rfl eg_int ru_add) ?_
   refine s0 (rd_move' rfl) ?_
   refine sx_nil' ?_
   show TX E (KY1 _) _
   exact tx_pick' [2, 3, 0, 4] (sub_cons rfl (sub_cons rfl (sub_cons rfl (sub_cons rfl (sub_cons rfl sub_nil))))) (by decide) (pick_cons rfl (pick_cons rfl (pick_cons rfl (pick_cons rfl pick_nil)))) (ih1 (r65, (iadd .i64 x2 1)) g65 _ hp)
  replace hp := (br_f h3).symm.trans hp
  refine cx_exit' ?_
  replace hp := Option.some.inj hp
  subst hp
  show TX E (Zg E (Exit.exit 1) _ (Exit.exit 1)) _
  exact tx_zend' g901 rfl [0, 1, 2, 3] (sub_cons rfl (sub_cons rfl sub_nil)) (by decide) (pick_cons rfl (pick_cons rfl (pick_cons rfl (pick_cons rfl pick_nil))))
 refine zg_out fun w2 => ?_
 show TX E K15 _
 refine tx_k' hK15 ?_
 refine cr fun K25 hK25 => ?_
 refine s0 (rd_load_agg' (i := 1) (o := 0) (nn := 7) rfl ⟨rfl, rfl, rfl, rfl⟩ rfl agg27 (l' := [(Vi 7), (Vi r50.1), (Vi r15.2.2), Vn, Vn, Vn, (Vl (Vs w2))]) rfl) ?_
 refine sx_ox' (ox_store' (i := 0) (o := 0) rfl rfl (lv_ag _) ⟨rfl, rfl, rfl, rfl⟩ rfl info27 rfl (H' := [⟨.pointer (some q2), [(Vi 7), (Vi r50.1), (Vi r15.2.2), Vn, Vn, Vn, (Vl (Vs w2))], 27, none⟩, ⟨.pointer (some q3), [(Vi 7), (Vi r50.1), (Vi r15.2.2), Vn, Vn, Vn, (Vl (Vs w2))], 27, none⟩, (Rw KT27 27 (Vs w2) v2), ⟨.pointer (some wa0), [(Vi r54.1), (Sl KG53 r54.2.1), (Vi r54.2.2)], 114, none⟩]) rfl) (wt_none' rfl) fun _ => ?_
 refine nk hK25 ?_
 refine cx_retc' ?_
 replace hp := Option.some.inj hp
 subst hp
 refine tx_fz' (frz_row 2 [(68, (Ag [(Vi 7), (Vi r50.1), (Vi r15.2.2), Vn, Vn, Vn, (Vl (Vs w2))]), (Ag [(Vi 7), (Vi r50.1), (Vi r15.2.2), Vn, Vn, Vn, (Sl KT27 v2)]))] (K := KT27) (xs := v2) (by decide) rfl ⟨⟨rfl, fz_ag (fz0_cons fz0_same (fz0_cons fz0_same (fz0_cons fz0_same (fz0_cons fz0_same (fz0_cons fz0_same (fz0_cons fz0_same (fz0_cons fz0_it fz0_nil)))))))⟩, trivial⟩ (H' := [⟨.pointer (some q2), [(Vi 7), (Vi r50.1), (Vi r15.2.2), Vn, Vn, Vn, (Sl KT27 v2)], 27, none⟩, ⟨.pointer (some q3), [(Vi 7), (Vi r50.1), (Vi r15.2.2), Vn, Vn, Vn, (Sl KT27 v2)], 27, none⟩, ⟨.pointer (some wa0), [(Vi r54.1), (Sl KG53 r54.2.1), (Vi r54.2.2)], 114, none⟩]) (frzH_cons rfl rfl rfl (frzL_cons frz_same (frzL_cons frz_same (frzL_cons frz_same (frzL_cons frz_same (frzL_cons frz_same (frzL_cons frz_same (frzL_cons frz_it frzL_refl))))))) (frzH_cons rfl rfl rfl (frzL_cons frz_same (frzL_cons frz_same (frzL_cons frz_same (frzL_cons frz_same (frzL_cons frz_same (frzL_cons frz_same (frzL_cons frz_it frzL_refl))))))) (frzH_cons rfl rfl rfl frzL_refl frzH_refl)))) ?_
 refine tx_pick' (L' := [(2, (Vp q2))]) (H' := [⟨.pointer (some wa0), [(Vi r54.1), (Sl KG53 r54.2.1), (Vi r54.2.2)], 114, none⟩, ⟨.pointer (some q2), [(Vi 7), (Vi r50.1), (Vi r15.2.2), Vn, Vn, Vn, (Sl KT27 v2)], 27, none⟩]) [2, 0] (sub_cons rfl sub_nil) (by decide) (pick_cons rfl (pick_cons rfl pick_nil)) ?_
 exact tx_ret1' Try.results34 rfl () (rv_cell_agg' (i := 1) (o := 0) (nn := 7) rfl ⟨rfl, rfl, rfl, rfl⟩ rfl agg27 rfl) (List.Sublist.cons_cons _ (List.nil_sublist _))

def impl_SetLayout (k : Nat) (a0_0 : Int) (a0_1 : Int) (a0_2 : Int) (a0_3 : List Nat) (a0_4 : List Int) (a0_5 : List (List Int)) (a0_6 : List T27) (a1 : Int) : Option (Int × Int × Int × (List T27) × Bool) :=
 (impl_geometry k a0_0 a0_1 a0_2 a0_3 a0_4 a0_5 a0_6) >>= fun r9 =>
 match r9 with
  | (.inl y1) =>
   ((impl_SetLayout_1 k 0 0 0 false) >>= fun r951 =>
   some (r951.1, r951.1, r951.1, [], r951.2))
  | (.inr (.inl y1)) =>
   ((impl_SetLayout_1 k 0 0 0 false) >>= fun r951 =>
   some (r951.1, r951.1, r951.1, [], r951.2))
  | (.inr (.inr (.inl y1))) =>
   ((impl_SetLayout_1 k 0 0 0 false) >>= fun r951 =>
   some (r951.1, r951.1, r951.1, [], r951.2))
  | (.inr (.inr (.inr (.inl y1)))) =>
   ((impl_SetLayout_1 k 0 0 0 false) >>= fun r951 =>
   some (r951.1, r951.1, r951.1, [], r951.2))
  | (.inr (.inr (.inr (.inr (.inl y1))))) =>
   ((impl_SetLayout_1 k 0 0 0 false) >>= fun r951 =>
   some (r951.1, r951.1, r951.1, [], r951.2))
  | (.inr (.inr (.inr (.inr (.inr (.inl y1)))))) =>
   ((impl_SetLayout_1 k 0 0 0 false) >>= fun r951 =>
   some (r951.1, r951.1, r951.1, [], r951.2))
  | (.inr (.inr (.inr (.inr (.inr (.inr (.inl y1))))))) =>
   ((impl_SetLayout_1 k 0 0 0 false) >>= fun r951 =>
   some (r951.1, r951.1, r951.1, [], r951.2))
  | (.inr (.inr (.inr (.inr (.inr (.inr (.inr y1))))))) =>
   ((gogeom_GeometryCollection_SetLayout_v2 k y1.1 y1.2.1 y1.2.2 a1) >>= fun r13 =>
   match r13 with
    | (.inl y11) =>
     ((impl_plain k y11.1 y11.2.1 y11.2.2) >>= fun r18 =>
     some (r18.2.2.2.1, r18.2.2.2.2.1, r18.2.2.2.2.2.1, r18.2.2.2.2.2.2, true))
    | (.inr y11) =>
     (some (0, 0, 0, [], false)))

theorem impl_SetLayout_sim {k : Nat}  (a0_0 : Int) (a0_1 : Int) (a0_2 : Int) (a0_3 : List Nat) (a0_4 : List Int) (a0_5 : List (List Int)) (a0_6 : List T27) (a1 : Int) {out : Int × Int × Int × (List T27) × Bool} (hp : impl_SetLayout k a0_0 a0_1 a0_2 a0_3 a0_4 a0_5 a0_6 a1 = some out) : Sx.Fn Try.prog 11 [(Ag [(Vi a0_0), (Vi a0_1), (Vi a0_2), (Sl Kf a0_3), (Sl (Ki .i64) a0_4), (Sl (Kl (Ki .i64)) a0_5), (Sl KT27 a0_6)]), (Vi a1)] [] (fun w : Unit => (Tu [(Ag [(Vi out.1), (Vi out.2.1), (Vi out.2.2.1), Vn, Vn, Vn, (Sl KT27 out.2.2.2.1)]), (Vb out.2.2.2.2)])) (fun w => []) := by
 unfold impl_SetLayout at hp
 refine fnD_of Try.func11 rfl Try.ntmps11 rfl fun E hM => ?_
 refine cr fun K1 hK1 => ?_
 refine sx_ox' (ox_box' rfl (lv_ag _) rfl rfl) (wt_none' rfl) fun q2 => ?_
 refine sx_ox' (ox_alloc' info27 rfl rfl rfl rfl (l := [(Vi 0), (Vi 0), (Vi 0), Vn, Vn, Vn, Vn]) rfl) (wt_none' rfl) fun q4 => ?_
 refine sx_ox' (ox_alloc' info4 rfl rfl rfl rfl (l := [(Vb false)]) rfl) (wt_none' rfl) fun q5 => ?_
 refine nk hK1 ?_
 refine cr fun K2 hK2 => ?_
 refine s0 (rd_mkfunc' (us := [.pointer (some q4), .pointer (some q5)]) rfl) ?_
 refine sx_ox' (ox_defer' rfl rfl) (wt_none' rfl) fun _ => ?_
 refine nk hK2 ?_
 refine cr fun K3 hK3 => ?_
 refine s0 (rd_load_agg' (i := 2) (o := 0) (nn := 7) rfl ⟨rfl, rfl, rfl, rfl⟩ rfl agg27 (l' := [(Vi a0_0), (Vi a0_1), (Vi a0_2), (Sl Kf a0_3), (Sl (Ki .i64) a0_4), (Sl (Kl (Ki .i64)) a0_5), (Sl KT27 a0_6)]) rfl) ?_
 obtain ⟨r9, hr9, hp⟩ := bind_some hp
 rcases r9 with y1 | y1 | y1 | y1 | y1 | y1 | y1 | y1
 ·dsimp only at hp
  refine sx_ox' (ox_calln' (ent_fn' Try.func30 isn30 rfl rfl) (impl_geometry_sim _ _ _ _ _ _ _ hr9 : Sx.Fn Try.prog 30 [(Ag [(Vi a0_0), (Vi a0_1), (Vi a0_2), (Sl Kf a0_3), (Sl (Ki .i64) a0_4), (Sl (Kl (Ki .i64)) a0_5), (Sl KT27 a0_6)])] [] (fun x : Addr × Gs => (If 72 (Vp x.1))) (fun x => [⟨.pointer (some x.1), [(Vi y1.1), (Vi y1.2.1), (Sl Kf y1.2.2.1), (Vi y1.2.2.2)], 135, none⟩])) (Hn := fun x : Addr × Gs => [⟨.pointer (some x.1), [(Vi y1.1), (Vi y1.2.1), (Sl Kf y1.2.2.1), (Vi y1.2.2.2)], 135, none⟩, ⟨.pointer (some q5), [(Vb false)], 4, none⟩, ⟨.pointer (some q4), [(Vi 0), (Vi 0), (Vi 0), Vn, Vn, Vn, Vn], 27, none⟩, ⟨.pointer (some q2), [(Vi a0_0), (Vi a0_1), (Vi a0_2), (Sl Kf a0_3), (Sl (Ki .i64) a0_4), (Sl (Kl (Ki .i64)) a0_5), (Sl KT27 a0_6)], 27, none⟩]) (fun _ => rfl) rfl rfl) (wt_none' rfl) fun ⟨q9, g9⟩ => ?_
  obtain ⟨r951, hr951, hp⟩ := bind_some hp
  refine sx_panic' (pan_assert' rfl Try.underlying57 (fun _ h => nomatch h) (by decide) rtta) (wt_none' rfl) ?_
  show PanQ E (bodyPostD _ _ (PostE E _ _)) _
  refine tx_caught' rfl (impl_SetLayout_1_sim _ _ _ _ hr951 : Go.Sx.Catch Try.prog 32 ([.pointer (some q4), .pointer (some q5)].map Vl) [⟨.pointer (some q4), [(Vi 0), (Vi 0), (Vi 0), Vn, Vn, Vn, Vn], 27, none⟩, ⟨.pointer (some q5), [(Vb false)], 4, none⟩] [⟨.pointer (some q4), [(Vi r951.1), (Vi r951.1), (Vi r951.1), Vn, Vn, Vn, Vn], 27, none⟩, ⟨.pointer (some q5), [(Vb r951.2)], 4, none⟩]) Try.func32 isn32 rfl [2, 1] [0, 3] (by decide) (pick_cons rfl (pick_cons rfl pick_nil)) (pick_cons rfl (pick_cons rfl pick_nil)) ?_
  replace hp := Option.some.inj hp
  subst hp
  refine tx_pick' (L' := [(4, (Vp q4)), (5, (Vp q5))]) (H' := [⟨.pointer (some q4), [(Vi r951.1), (Vi r951.1), (Vi r951.1), Vn, Vn, Vn, Vn], 27, none⟩, ⟨.pointer (some q5), [(Vb r951.2)], 4, none⟩]) [0, 1] (sub_cons rfl (sub_cons rfl sub_nil)) (by decide) (pick_cons rfl (pick_cons rfl pick_nil)) ?_
  exact tx_ret2' Try.results11 rfl () (rv_imp' (x := (Ag [(Vi r951.1), (Vi r951.1), (Vi r951.1), Vn, Vn, Vn, Vn])) (y := (Ag [(Vi r951.1), (Vi r951.1), (Vi r951.1), Vn, Vn, Vn, (Sl KT27 [])])) (rv_cell_agg' (i := 0) (o := 0) (nn := 7) rfl ⟨rfl, rfl, rfl, rfl⟩ rfl agg27 rfl) (imp_ag ⟨imp_refl, imp_refl, imp_refl, imp_refl, imp_refl, imp_refl, imp_nil, trivial⟩)) (rv_cell' (i := 1) (o := 0) rfl ⟨rfl, rfl, rfl, rfl⟩ rfl flat4) rfl (List.nil_sublist _)
 ·dsimp only at hp
  refine sx_ox' (ox_calln' (ent_fn' Try.func30 isn30 rfl rfl) (impl_geometry_sim _ _ _ _ _ _ _ hr9 : Sx.Fn Try.prog 30 [(Ag [(Vi a0_0), (Vi a0_1), (Vi a0_2), (Sl Kf a0_3), (Sl (Ki .i64) a0_4), (Sl (Kl (Ki .i64)) a0_5), (Sl KT27 a0_6)])] [] (fun x : Addr × Gs => (If 75 (Vp x.1))) (fun x => [⟨.pointer (some x.1), [(Vi y1.1), (Vi y1.2.1), (Sl Kf y1.2.2.1), (Vi y1.2.2.2)], 138, none⟩])) (Hn := fun x : Addr × Gs => [⟨.pointer (some x.1), [(Vi y1.1), (Vi y1.2.1), (Sl Kf y1.2.2.1), (Vi y1.2.2.2)], 138, none⟩, ⟨.pointer (some q5), [(Vb false)], 4, none⟩, ⟨.pointer (some q4), [(Vi 0), (Vi 0), (Vi 0), Vn, Vn, Vn, Vn], 27, none⟩, ⟨.pointer (some q2), [(Vi a0_0), (Vi a0_1), (Vi a0_2), (Sl Kf a0_3), (Sl (Ki .i64) a0_4), (Sl (Kl (Ki .i64)) a0_5), (Sl KT27 a0_6)], 27, none⟩]) (fun _ => rfl) rfl rfl) (wt_none' rfl) fun ⟨q9, g9⟩ => ?_
  obtain ⟨r951, hr951, hp⟩ := bind_some hp
  refine sx_panic' (pan_assert' rfl Try.underlying57 (fun _ h => nomatch h) (by decide) rtta) (wt_none' rfl) ?_
  show PanQ E (bodyPostD _ _ (PostE E _ _)) _
  refine tx_caught' rfl (impl_SetLayout_1_sim _ _ _ _ hr951 : Go.Sx.Catch Try.prog 32 ([.pointer (some q4), .pointer (some q5)].map Vl) [⟨.pointer (some q4), [(Vi 0), (Vi 0), (Vi 0), Vn, Vn, Vn, Vn], 27, none⟩, ⟨.pointer (some q5), [(Vb false)], 4, none⟩] [⟨.pointer (some q4), [(Vi r951.1), (Vi r951.1), (Vi r951.1), Vn, Vn, Vn, Vn], 27, none⟩, ⟨.pointer (some q5), [(Vb r951.2)], 4, none⟩]) Try.func32 isn32 rfl [2, 1] [0, 3] (by decide) (pick_cons rfl (pick_cons rfl pick_nil)) (pick_cons rfl (pick_cons rfl pick_nil)) ?_
  replace hp := Option.some.inj hp
  subst hp
  refine tx_pick' (L' := [(4, (Vp q4)), (5, (Vp q5))]) (H' := [⟨.pointer (some q4), [(Vi r951.1), (Vi r951.1), (Vi r951.1), Vn, Vn, Vn, Vn], 27, none⟩, ⟨.pointer (some q5), [(Vb r951.2)], 4, none⟩]) [0, 1] (sub_cons rfl (sub_cons rfl sub_nil)) (by decide) (pick_cons rfl (pick_cons rfl pick_nil)) ?_
  exact tx_ret2' Try.results11 rfl () (rv_imp' (x := (Ag [(Vi r951.1), (Vi r951.1), (Vi r951.1), Vn, Vn, Vn, Vn])) (y := (Ag [(Vi r951.1), (Vi r951.1), (Vi r951.1), Vn, Vn, Vn, (Sl KT27 [])])) (rv_cell_agg' (i := 0) (o := 0) (nn := 7) rfl ⟨rfl, rfl, rfl, rfl⟩ rfl agg27 rfl) (imp_ag ⟨imp_refl, imp_refl, imp_refl, imp_refl, imp_refl, imp_refl, imp_nil, trivial⟩)) (rv_cell' (i := 1) (o := 0) rfl ⟨rfl, rfl, rfl, rfl⟩ rfl flat4) rfl (List.nil_sublist _)
 ·dsimp only at hp
  refine sx_ox' (ox_calln' (ent_fn' Try.func30 isn30 rfl rfl) (impl_geometry_sim _ _ _ _ _ _ _ hr9 : Sx.Fn Try.prog 30 [(Ag [(Vi a0_0), (Vi a0_1), (Vi a0_2), (Sl Kf a0_3), (Sl (Ki .i64) a0_4), (Sl (Kl (Ki .i64)) a0_5), (Sl KT27 a0_6)])] [] (fun x : Addr × Gs => (If 69 (Vp x.1))) (fun x => [⟨.pointer (some x.1), [(Vi y1.1), (Vi y1.2.1), (Sl Kf y1.2.2.1), (Vi y1.2.2.2)], 128, none⟩])) (Hn := fun x : Addr × Gs => [⟨.pointer (some x.1), [(Vi y1.1), (Vi y1.2.1), (Sl Kf y1.2.2.1), (Vi y1.2.2.2)], 128, none⟩, ⟨.pointer (some q5), [(Vb false)], 4, none⟩, ⟨.pointer (some q4), [(Vi 0), (Vi 0), (Vi 0), Vn, Vn, Vn, Vn], 27, none⟩, ⟨.pointer (some q2), [(Vi a0_0), (Vi a0_1), (Vi a0_2), (Sl Kf a0_3), (Sl (Ki .i64) a0_4), (Sl (Kl (Ki .i64)) a0_5), (Sl KT27 a0_6)], 27, none⟩]) (fun _ => rfl) rfl rfl) (wt_none' rfl) fun ⟨q9, g9⟩ => ?_
  obtain ⟨r951, hr951, hp⟩ := bind_some hp
  refine sx_panic' (pan_assert' rfl Try.underlying57 (fun _ h => nomatch h) (by decide) rtta) (wt_none' rfl) ?_
  show PanQ E (bodyPostD _ _ (PostE E _ _)) _
  refine tx_caught' rfl (impl_SetLayout_1_sim _ _ _ _ hr951 : Go.Sx.Catch Try.prog 32 ([.pointer (some q4), .pointer (some q5)].map Vl) [⟨.pointer (some q4), [(Vi 0), (Vi 0), (Vi 0), Vn, Vn, Vn, Vn], 27, none⟩, ⟨.pointer (some q5), [(Vb false)], 4, none⟩] [⟨.pointer (some q4), [(Vi r951.1), (Vi r951.1), (Vi r951.1), Vn, Vn, Vn, Vn], 27, none⟩, ⟨.pointer (some q5), [(Vb r951.2)], 4, none⟩]) Try.func32 isn32 rfl [2, 1] [0, 3] (by decide) (pick_cons rfl (pick_cons rfl pick_nil)) (pick_cons rfl (pick_cons rfl pick_nil)) ?_
  replace hp := Option.some.inj hp
  subst hp
  refine tx_pick' (L' := [(4, (Vp q4)), (5, (Vp q5))]) (H' := [⟨.pointer (some q4), [(Vi r951.1), (Vi r951.1), (Vi r951.1), Vn, Vn, Vn, Vn], 27, none⟩, ⟨.pointer (some q5), [(Vb r951.2)], 4, none⟩]) [0, 1] (sub_cons rfl (sub_cons rfl sub_nil)) (by decide) (pick_cons rfl (pick_cons rfl pick_nil)) ?_
  exact tx_ret2' Try.results11 rfl () (rv_imp' (x := (Ag [(Vi r951.1), (Vi r951.1), (Vi r951.1), Vn, Vn, Vn, Vn])) (y := (Ag [(Vi r951.1), (Vi r951.1), (Vi r951.1), Vn, Vn, Vn, (Sl KT27 [])])) (rv_cell_agg' (i := 0) (o := 0) (nn := 7) rfl ⟨rfl, rfl, rfl, rfl⟩ rfl agg27 rfl) (imp_ag ⟨imp_refl, imp_refl, imp_refl, imp_refl, imp_refl, imp_refl, imp_nil, trivial⟩)) (rv_cell' (i := 1) (o := 0) rfl ⟨rfl, rfl, rfl, rfl⟩ rfl flat4) rfl (List.nil_sublist _)
 ·dsimp only at hp
  refine sx_ox' (ox_calln' (ent_fn' Try.func30 isn30 rfl rfl) (impl_geometry_sim _ _ _ _ _ _ _ hr9 : Sx.Fn Try.prog 30 [(Ag [(Vi a0_0), (Vi a0_1), (Vi a0_2), (Sl Kf a0_3), (Sl (Ki .i64) a0_4), (Sl (Kl (Ki .i64)) a0_5), (Sl KT27 a0_6)])] [] (fun x : Addr × Gs => (If 67 (Vp x.1))) (fun x => [⟨.pointer (some x.1), [(Vi y1.1), (Vi y1.2.1), (Sl Kf y1.2.2.1), (Vi y1.2.2.2.1), (Sl (Ki .i64) y1.2.2.2.2)], 132, none⟩])) (Hn := fun x : Addr × Gs => [⟨.pointer (some x.1), [(Vi y1.1), (Vi y1.2.1), (Sl Kf y1.2.2.1), (Vi y1.2.2.2.1), (Sl (Ki .i64) y1.2.2.2.2)], 132, none⟩, ⟨.pointer (some q5), [(Vb false)], 4, none⟩, ⟨.pointer (some q4), [(Vi 0), (Vi 0), (Vi 0), Vn, Vn, Vn, Vn], 27, none⟩, ⟨.pointer (some q2), [(Vi a0_0), (Vi a0_1), (Vi a0_2), (Sl Kf a0_3), (Sl (Ki .i64) a0_4), (Sl (Kl (Ki .i64)) a0_5), (Sl KT27 a0_6)], 27, none⟩]) (fun _ => rfl) rfl rfl) (wt_none' rfl) fun ⟨q9, g9⟩ => ?_
  obtain ⟨r951, hr951, hp⟩ := bind_some hp
  refine sx_panic' (pan_assert' rfl Try.underlying57 (fun _ h => nomatch h) (by decide) rtta) (wt_none' rfl) ?_
  show PanQ E (bodyPostD _ _ (PostE E _ _)) _
  refine tx_caught' rfl (impl_SetLayout_1_sim _ _ _ _ hr951 : Go.Sx.Catch Try.prog 32 ([.pointer (some q4), .pointer (some q5)].map Vl) [⟨.pointer (some q4), [(Vi 0), (Vi 0), (Vi 0), Vn, Vn, Vn, Vn], 27, none⟩, ⟨.pointer (some q5), [(Vb false)], 4, none⟩] [⟨.pointer (some q4), [(Vi r951.1), (Vi r951.1), (Vi r951.1), Vn, Vn, Vn, Vn], 27, none⟩, ⟨.pointer (some q5), [(Vb r951.2)], 4, none⟩]) Try.func32 isn32 rfl [2, 1] [0, 3] (by decide) (pick_cons rfl (pick_cons rfl pick_nil)) (pick_cons rfl (pick_cons rfl pick_nil)) ?_
  replace hp := Option.some.inj hp
  subst hp
  refine tx_pick' (L' := [(4, (Vp q4)), (5, (Vp q5))]) (H' := [⟨.pointer (some q4), [(Vi r951.1), (Vi r951.1), (Vi r951.1), Vn, Vn, Vn, Vn], 27, none⟩, ⟨.pointer (some q5), [(Vb r951.2)], 4, none⟩]) [0, 1] (sub_cons rfl (sub_cons rfl sub_nil)) (by decide) (pick_cons rfl (pick_cons rfl pick_nil)) ?_
  exact tx_ret2' Try.results11 rfl () (rv_imp' (x := (Ag [(Vi r951.1), (Vi r951.1), (Vi r951.1), Vn, Vn, Vn, Vn])) (y := (Ag [(Vi r951.1), (Vi r951.1), (Vi r951.1), Vn, Vn, Vn, (Sl KT27 [])])) (rv_cell_agg' (i := 0) (o := 0) (nn := 7) rfl ⟨rfl, rfl, rfl, rfl⟩ rfl agg27 rfl) (imp_ag ⟨imp_refl, imp_refl, imp_refl, imp_refl, imp_refl, imp_refl, imp_nil, trivial⟩)) (rv_cell' (i := 1) (o := 0) rfl ⟨rfl, rfl, rfl, rfl⟩ rfl flat4) rfl (List.nil_sublist _)
 ·dsimp only at hp
  refine sx_ox' (ox_calln' (ent_fn' Try.func30 isn30 rfl rfl) (impl_geometry_sim _ _ _ _ _ _ _ hr9 : Sx.Fn Try.prog 30 [(Ag [(Vi a0_0), (Vi a0_1), (Vi a0_2), (Sl Kf a0_3), (Sl (Ki .i64) a0_4), (Sl (Kl (Ki .i64)) a0_5), (Sl KT27 a0_6)])] [] (fun x : Addr × Gs => (If 70 (Vp x.1))) (fun x => [⟨.pointer (some x.1), [(Vi y1.1), (Vi y1.2.1), (Sl Kf y1.2.2.1), (Vi y1.2.2.2.1), (Sl (Ki .i64) y1.2.2.2.2)], 136, none⟩])) (Hn := fun x : Addr × Gs => [⟨.pointer (some x.1), [(Vi y1.1), (Vi y1.2.1), (Sl Kf y1.2.2.1), (Vi y1.2.2.2.1), (Sl (Ki .i64) y1.2.2.2.2)], 136, none⟩, ⟨.pointer (some q5), [(Vb false)], 4, none⟩, ⟨.pointer (some q4), [(Vi 0), (Vi 0), (Vi 0), Vn, Vn, Vn, Vn], 27, none⟩, ⟨.pointer (some q2), [(Vi a0_0), (Vi a0_1), (Vi a0_2), (Sl Kf a0_3), (Sl (Ki .i64) a0_4), (Sl (Kl (Ki .i64)) a0_5), (Sl KT27 a0_6)], 27, none⟩]) (fun _ => rfl) rfl rfl) (wt_none' rfl) fun ⟨q9, g9⟩ => ?_
  obtain ⟨r951, hr951, hp⟩ := bind_some hp
  refine sx_panic' (pan_assert' rfl Try.underlying57 (fun _ h => nomatch h) (by decide) rtta) (wt_none' rfl) ?_
  show PanQ E (bodyPostD _ _ (PostE E _ _)) _
  refine tx_caught' rfl (impl_SetLayout_1_sim _ _ _ _ hr951 : Go.Sx.Catch Try.prog 32 ([.pointer (some q4), .pointer (some q5)].map Vl) [⟨.pointer (some q4), [(Vi 0), (Vi 0), (Vi 0), Vn, Vn, Vn, Vn], 27, none⟩, ⟨.pointer (some q5), [(Vb false)], 4, none⟩] [⟨.pointer (some q4), [(Vi r951.1), (Vi r951.1), (Vi r951.1), Vn, Vn, Vn, Vn], 27, none⟩, ⟨.pointer (some q5), [(Vb r951.2)], 4, none⟩]) Try.func32 isn32 rfl [2, 1] [0, 3] (by decide) (pick_cons rfl (pick_cons rfl pick_nil)) (pick_cons rfl (pick_cons rfl pick_nil)) ?_
  replace hp := Option.some.inj hp
  subst hp
  refine tx_pick' (L' := [(4, (Vp q4)), (5, (Vp q5))]) (H' := [⟨.pointer (some q4), [(Vi r951.1), (Vi r951.1), (Vi r951.1), Vn, Vn, Vn, Vn], 27, none⟩, ⟨.pointer (some q5), [(Vb r951.2)], 4, none⟩]) [0, 1] (sub_cons rfl (sub_cons rfl sub_nil)) (by decide) (pick_cons rfl (pick_cons rfl pick_nil)) ?_
  exact tx_ret2' Try.results11 rfl () (rv_imp' (x := (Ag [(Vi r951.1), (Vi r951.1), (Vi r951.1), Vn, Vn, Vn, Vn])) (y := (Ag [(Vi r951.1), (Vi r951.1), (Vi r951.1), Vn, Vn, Vn, (Sl KT27 [])])) (rv_cell_agg' (i := 0) (o := 0) (nn := 7) rfl ⟨rfl, rfl, rfl, rfl⟩ rfl agg27 rfl) (imp_ag ⟨imp_refl, imp_refl, imp_refl, imp_refl, imp_refl, imp_refl, imp_nil, trivial⟩)) (rv_cell' (i := 1) (o := 0) rfl ⟨rfl, rfl, rfl, rfl⟩ rfl flat4) rfl (List.nil_sublist _)
 ·dsimp only at hp
  refine sx_ox' (ox_calln' (ent_fn' Try.func30 isn30 rfl rfl) (impl_geometry_sim _ _ _ _ _ _ _ hr9 : Sx.Fn Try.prog 30 [(Ag [(Vi a0_0), (Vi a0_1), (Vi a0_2), (Sl Kf a0_3), (Sl (Ki .i64) a0_4), (Sl (Kl (Ki .i64)) a0_5), (Sl KT27 a0_6)])] [] (fun x : Addr × Gs => (If 73 (Vp x.1))) (fun x => [⟨.pointer (some x.1), [(Vi y1.1), (Vi y1.2.1), (Sl Kf y1.2.2.1), (Vi y1.2.2.2.1), (Sl (Ki .i64) y1.2.2.2.2)], 139, none⟩])) (Hn := fun x : Addr × Gs => [⟨.pointer (some x.1), [(Vi y1.1), (Vi y1.2.1), (Sl Kf y1.2.2.1), (Vi y1.2.2.2.1), (Sl (Ki .i64) y1.2.2.2.2)], 139, none⟩, ⟨.pointer (some q5), [(Vb false)], 4, none⟩, ⟨.pointer (some q4), [(Vi 0), (Vi 0), (Vi 0), Vn, Vn, Vn, Vn], 27, none⟩, ⟨.pointer (some q2), [(Vi a0_0), (Vi a0_1), (Vi a0_2), (Sl Kf a0_3), (Sl (Ki .i64) a0_4), (Sl (Kl (Ki .i64)) a0_5), (Sl KT27 a0_6)], 27, none⟩]) (fun _ => rfl) rfl rfl) (wt_none' rfl) fun ⟨q9, g9⟩ => ?_
  obtain ⟨r951, hr951, hp⟩ := bind_some hp
  refine sx_panic' (pan_assert' rfl Try.underlying57 (fun _ h => nomatch h) (by decide) rtta) (wt_none' rfl) ?_
  show PanQ E (bodyPostD _ _ (PostE E _ _)) _
  refine tx_caught' rfl (impl_SetLayout_1_sim _ _ _ _ hr951 : Go.Sx.Catch Try.prog 32 ([.pointer (some q4), .pointer (some q5)].map Vl) [⟨.pointer (some q4), [(Vi 0), (Vi 0), (Vi 0), Vn, Vn, Vn, Vn], 27, none⟩, ⟨.pointer (some q5), [(Vb false)], 4, none⟩] [⟨.pointer (some q4), [(Vi r951.1), (Vi r951.1), (Vi r951.1), Vn, Vn, Vn, Vn], 27, none⟩, ⟨.pointer (some q5), [(Vb r951.2)], 4, none⟩]) Try.func32 isn32 rfl [2, 1] [0, 3] (by decide) (pick_cons rfl (pick_cons rfl pick_nil)) (pick_cons rfl (pick_cons rfl pick_nil)) ?_
  replace hp := Option.some.inj hp
  subst hp
  refine tx_pick' (L' := [(4, (Vp q4)), (5, (Vp q5))]) (H' := [⟨.pointer (some q4), [(Vi r951.1), (Vi r951.1), (Vi r951.1), Vn, Vn, Vn, Vn], 27, none⟩, ⟨.pointer (some q5), [(Vb r951.2)], 4, none⟩]) [0, 1] (sub_cons rfl (sub_cons rfl sub_nil)) (by decide) (pick_cons rfl (pick_cons rfl pick_nil)) ?_
  exact tx_ret2' Try.results11 rfl () (rv_imp' (x := (Ag [(Vi r951.1), (Vi r951.1), (Vi r951.1), Vn, Vn, Vn, Vn])) (y := (Ag [(Vi r951.1), (Vi r951.1), (Vi r951.1), Vn, Vn, Vn, (Sl KT27 [])])) (rv_cell_agg' (i := 0) (o := 0) (nn := 7) rfl ⟨rfl, rfl, rfl, rfl⟩ rfl agg27 rfl) (imp_ag ⟨imp_refl, imp_refl, imp_refl, imp_refl, imp_refl, imp_refl, imp_nil, trivial⟩)) (rv_cell' (i := 1) (o := 0) rfl ⟨rfl, rfl, rfl, rfl⟩ rfl flat4) rfl (List.nil_sublist _)
 ·dsimp only at hp
  refine sx_ox' (ox_calln' (ent_fn' Try.func30 isn30 rfl rfl) (impl_geometry_sim _ _ _ _ _ _ _ hr9 : Sx.Fn Try.prog 30 [(Ag [(Vi a0_0), (Vi a0_1), (Vi a0_2), (Sl Kf a0_3), (Sl (Ki .i64) a0_4), (Sl (Kl (Ki .i64)) a0_5), (Sl KT27 a0_6)])] [] (fun x : Addr × Gs => (If 76 (Vp x.1))) (fun x => [⟨.pointer (some x.1), [(Vi y1.1), (Vi y1.2.1), (Sl Kf y1.2.2.1), (Vi y1.2.2.2.1), (Sl (Kl (Ki .i64)) y1.2.2.2.2)], 143, none⟩])) (Hn := fun x : Addr × Gs => [⟨.pointer (some x.1), [(Vi y1.1), (Vi y1.2.1), (Sl Kf y1.2.2.1), (Vi y1.2.2.2.1), (Sl (Kl (Ki .i64)) y1.2.2.2.2)], 143, none⟩, ⟨.pointer (some q5), [(Vb false)], 4, none⟩, ⟨.pointer (some q4), [(Vi 0), (Vi 0), (Vi 0), Vn, Vn, Vn, Vn], 27, none⟩, ⟨.pointer (some q2), [(Vi a0_0), (Vi a0_1), (Vi a0_2), (Sl Kf a0_3), (Sl (Ki .i64) a0_4), (Sl (Kl (Ki .i64)) a0_5), (Sl KT27 a0_6)], 27, none⟩]) (fun _ => rfl) rfl rfl) (wt_none' rfl) fun ⟨q9, g9⟩ => ?_
  obtain ⟨r951, hr951, hp⟩ := bind_some hp
  refine sx_panic' (pan_assert' rfl Try.underlying57 (fun _ h => nomatch h) (by decide) rtta) (wt_none' rfl) ?_
  show PanQ E (bodyPostD _ _ (PostE E _ _)) _
  refine tx_caught' rfl (impl_SetLayout_1_sim _ _ _ _ hr951 : Go.Sx.Catch Try.prog 32 ([.pointer (some q4), .pointer (some q5)].map Vl) [⟨.pointer (some q4), [(Vi 0), (Vi 0), (Vi 0), Vn, Vn, Vn, Vn], 27, none⟩, ⟨.pointer (some q5), [(Vb false)], 4, none⟩] [⟨.pointer (some q4), [(Vi r951.1), (Vi r951.1), (Vi r951.1), Vn, Vn, Vn, Vn], 27, none⟩, ⟨.pointer (some q5), [(Vb r951.2)], 4, none⟩]) Try.func32 isn32 rfl [2, 1] [0, 3] (by decide) (pick_cons rfl (pick_cons rfl pick_nil)) (pick_cons rfl (pick_cons rfl pick_nil)) ?_
  replace hp := Option.some.inj hp
  subst hp
  refine tx_pick' (L' := [(4, (Vp q4)), (5, (Vp q5))]) (H' := [⟨.pointer (some q4), [(Vi r951.1), (Vi r951.1), (Vi r951.1), Vn, Vn, Vn, Vn], 27, none⟩, ⟨.pointer (some q5), [(Vb r951.2)], 4, none⟩]) [0, 1] (sub_cons rfl (sub_cons rfl sub_nil)) (by decide) (pick_cons rfl (pick_cons rfl pick_nil)) ?_
  exact tx_ret2' Try.results11 rfl () (rv_imp' (x := (Ag [(Vi r951.1), (Vi r951.1), (Vi r951.1), Vn, Vn, Vn, Vn])) (y := (Ag [(Vi r951.1), (Vi r951.1), (Vi r951.1), Vn, Vn, Vn, (Sl KT27 [])])) (rv_cell_agg' (i := 0) (o := 0) (nn := 7) rfl ⟨rfl, rfl, rfl, rfl⟩ rfl agg27 rfl) (imp_ag ⟨imp_refl, imp_refl, imp_refl, imp_refl, imp_refl, imp_refl, imp_nil, trivial⟩)) (rv_cell' (i := 1) (o := 0) rfl ⟨rfl, rfl, rfl, rfl⟩ rfl flat4) rfl (List.nil_sublist _)
 dsimp only at hp
 refine sx_ox' (ox_calln' (ent_fn' Try.func30 isn30 rfl rfl) (impl_geometry_sim _ _ _ _ _ _ _ hr9 : Sx.Fn Try.prog 30 [(Ag [(Vi a0_0), (Vi a0_1), (Vi a0_2), (Sl Kf a0_3), (Sl (Ki .i64) a0_4), (Sl (Kl (Ki .i64)) a0_5), (Sl KT27 a0_6)])] [] (fun x : Addr × Gs => (If 57 (Vp x.1))) (fun x => [⟨.pointer (some x.1), [(Vi y1.1), (Vl (Vs x.2)), (Vi y1.2.2)], 114, none⟩, (Rw KG53 53 (Vs x.2) y1.2.1)])) (Hn := fun x : Addr × Gs => [⟨.pointer (some x.1), [(Vi y1.1), (Vl (Vs x.2)), (Vi y1.2.2)], 114, none⟩, (Rw KG53 53 (Vs x.2) y1.2.1), ⟨.pointer (some q5), [(Vb false)], 4, none⟩, ⟨.pointer (some q4), [(Vi 0), (Vi 0), (Vi 0), Vn, Vn, Vn, Vn], 27, none⟩, ⟨.pointer (some q2), [(Vi a0_0), (Vi a0_1), (Vi a0_2), (Sl Kf a0_3), (Sl (Ki .i64) a0_4), (Sl (Kl (Ki .i64)) a0_5), (Sl KT27 a0_6)], 27, none⟩]) (fun _ => rfl) rfl rfl) (wt_none' rfl) fun ⟨q9, g9⟩ => ?_
 refine s0 (rd_assert' rfl (F := fun v => v) as57_53_57 as_id) ?_
 refine s0 (rd_assign' rfl) ?_
 refine nk hK3 ?_
 refine cx_seq' fun K4 hK4 => ?_
 refine cr fun K5 hK5 => ?_
 refine s0 (rd_move' rfl) ?_
 refine s0 (rd_move' rfl) ?_
 obtain ⟨r13, hr13, hp⟩ := bind_some hp
 rcases r13 with y11 | y11
 ·dsimp only at hp
  refine sx_ox' (ox_callg' (ent_fn' Try.func33 isn33 rfl rfl) (gogeom_GeometryCollection_SetLayout_v2_sim _ _ _ _ hr13 : Sx.Fn Try.prog 33 [(Vp q9), (Vi a1)] [⟨.pointer (some q9), [(Vi y1.1), (Vl (Vs g9)), (Vi y1.2.2)], 114, none⟩, (Rw KG53 53 (Vs g9) y1.2.1)] (fun x : Unit => Ve) (fun x => [⟨.pointer (some q9), [(Vi y11.1), (Vl (Vs g9)), (Vi y11.2.2)], 114, none⟩, (Rw KG53 53 (Vs g9) y11.2.1)])) [0, 1] [2, 3, 4] (by decide) (pick_cons rfl (pick_cons rfl pick_nil)) (pick_cons rfl (pick_cons rfl (pick_cons rfl pick_nil))) (Hn := fun x : Unit => [⟨.pointer (some q9), [(Vi y11.1), (Vl (Vs g9)), (Vi y11.2.2)], 114, none⟩, (Rw KG53 53 (Vs g9) y11.2.1), ⟨.pointer (some q5), [(Vb false)], 4, none⟩, ⟨.pointer (some q4), [(Vi 0), (Vi 0), (Vi 0), Vn, Vn, Vn, Vn], 27, none⟩, ⟨.pointer (some q2), [(Vi a0_0), (Vi a0_1), (Vi a0_2), (Sl Kf a0_3), (Sl (Ki .i64) a0_4), (Sl (Kl (Ki .i64)) a0_5), (Sl KT27 a0_6)], 27, none⟩]) (fun _ => rfl) rfl rfl) (wt_none' rfl) fun ⟨⟩ => ?_
  refine s0 (rd_binf' rfl rfl (bf_vl (fun _ => by kernel_rfl) nil_neq59_nilif)) ?_
  refine nk hK5 ?_
  refine cx_cond_f' rfl rfl ?_
  refine cx_skip' ?_
  show TX E K4 _
  refine tx_k' hK4 ?_
  refine cr fun K6 hK6 => ?_
  refine s0 (rd_move' rfl) ?_
  refine s0 (rd_iface' rfl ⟨_, Try.underlying57, fun _ h => (nomatch h)⟩) ?_
  obtain ⟨r18, hr18, hp⟩ := bind_some hp
  refine sx_ox' (ox_callg' (ent_fn' Try.func34 isn34 rfl rfl) (impl_plain_sim _ _ _ hr18 : Sx.Fn Try.prog 34 [(If 57 (Vp q9))] [⟨.pointer (some q9), [(Vi y11.1), (Vl (Vs g9)), (Vi y11.2.2)], 114, none⟩, (Rw KG53 53 (Vs g9) y11.2.1)] (fun x : Unit => (Ag [(Vi r18.2.2.2.1), (Vi r18.2.2.2.2.1), (Vi r18.2.2.2.2.2.1), Vn, Vn, Vn, (Sl KT27 r18.2.2.2.2.2.2)])) (fun x => [⟨.pointer (some q9), [(Vi r18.1), (Sl KG53 r18.2.1), (Vi r18.2.2.1)], 114, none⟩])) [0, 1] [2, 3, 4] (by decide) (pick_cons rfl (pick_cons rfl pick_nil)) (pick_cons rfl (pick_cons rfl (pick_cons rfl pick_nil))) (Hn := fun x : Unit => [⟨.pointer (some q9), [(Vi r18.1), (Sl KG53 r18.2.1), (Vi r18.2.2.1)], 114, none⟩, ⟨.pointer (some q5), [(Vb false)], 4, none⟩, ⟨.pointer (some q4), [(Vi 0), (Vi 0), (Vi 0), Vn, Vn, Vn, Vn], 27, none⟩, ⟨.pointer (some q2), [(Vi a0_0), (Vi a0_1), (Vi a0_2), (Sl Kf a0_3), (Sl (Ki .i64) a0_4), (Sl (Kl (Ki .i64)) a0_5), (Sl KT27 a0_6)], 27, none⟩]) (fun _ => rfl) rfl rfl) (wt_none' rfl) fun ⟨⟩ => ?_
  refine sx_ox' (ox_store' (i := 2) (o := 0) rfl rfl (lv_ag _) ⟨rfl, rfl, rfl, rfl⟩ rfl info27 rfl (H' := [⟨.pointer (some q9), [(Vi r18.1), (Sl KG53 r18.2.1), (Vi r18.2.2.1)], 114, none⟩, ⟨.pointer (some q5), [(Vb false)], 4, none⟩, ⟨.pointer (some q4), [(Vi r18.2.2.2.1), (Vi r18.2.2.2.2.1), (Vi r18.2.2.2.2.2.1), Vn, Vn, Vn, (Sl KT27 r18.2.2.2.2.2.2)], 27, none⟩, ⟨.pointer (some q2), [(Vi a0_0), (Vi a0_1), (Vi a0_2), (Sl Kf a0_3), (Sl (Ki .i64) a0_4), (Sl (Kl (Ki .i64)) a0_5), (Sl KT27 a0_6)], 27, none⟩]) rfl) (wt_none' rfl) fun _ => ?_
  refine sx_ox' (ox_store' (i := 1) (o := 0) rfl rfl (lv_vl rfl rfl) ⟨rfl, rfl, rfl, rfl⟩ rfl info4 rfl (H' := [⟨.pointer (some q9), [(Vi r18.1), (Sl KG53 r18.2.1), (Vi r18.2.2.1)], 114, none⟩, ⟨.pointer (some q5), [(Vb true)], 4, none⟩, ⟨.pointer (some q4), [(Vi r18.2.2.2.1), (Vi r18.2.2.2.2.1), (Vi r18.2.2.2.2.2.1), Vn, Vn, Vn, (Sl KT27 r18.2.2.2.2.2.2)], 27, none⟩, ⟨.pointer (some q2), [(Vi a0_0), (Vi a0_1), (Vi a0_2), (Sl Kf a0_3), (Sl (Ki .i64) a0_4), (Sl (Kl (Ki .i64)) a0_5), (Sl KT27 a0_6)], 27, none⟩]) rfl) (wt_none' rfl) fun _ => ?_
  refine nk hK6 ?_
  refine cx_retc' ?_
  replace hp := Option.some.inj hp
  subst hp
  refine tx_leave' (.inl rfl) rfl idle32 rfl Try.func32 isn32 rfl ?_
  refine tx_pick' (L' := [(4, (Vp q4)), (5, (Vp q5))]) (H' := [⟨.pointer (some q4), [(Vi r18.2.2.2.1), (Vi r18.2.2.2.2.1), (Vi r18.2.2.2.2.2.1), Vn, Vn, Vn, (Sl KT27 r18.2.2.2.2.2.2)], 27, none⟩, ⟨.pointer (some q5), [(Vb true)], 4, none⟩]) [2, 1] (sub_cons rfl (sub_cons rfl sub_nil)) (by decide) (pick_cons rfl (pick_cons rfl pick_nil)) ?_
  exact tx_ret2' Try.results11 rfl () (rv_cell_agg' (i := 0) (o := 0) (nn := 7) rfl ⟨rfl, rfl, rfl, rfl⟩ rfl agg27 rfl) (rv_cell' (i := 1) (o := 0) rfl ⟨rfl, rfl, rfl, rfl⟩ rfl flat4) rfl (List.nil_sublist _)
 dsimp only at hp
 refine sx_ox' (ox_callg' (ent_fn' Try.func33 isn33 rfl rfl) (gogeom_GeometryCollection_SetLayout_v2_sim _ _ _ _ hr13 : Sx.Fn Try.prog 33 [(Vp q9), (Vi a1)] [⟨.pointer (some q9), [(Vi y1.1), (Vl (Vs g9)), (Vi y1.2.2)], 114, none⟩, (Rw KG53 53 (Vs g9) y1.2.1)] (fun x : Unit => (If 134 (Ag [(Vi y11.2.2.2.1), (Vi y11.2.2.2.2)]))) (fun x => [⟨.pointer (some q9), [(Vi y11.1), (Vl (Vs g9)), (Vi y11.2.2.1)], 114, none⟩, (Rw KG53 53 (Vs g9) y11.2.1)])) [0, 1] [2, 3, 4] (by decide) (pick_cons rfl (pick_cons rfl pick_nil)) (pick_cons rfl (pick_cons rfl (pick_cons rfl pick_nil))) (Hn := fun x : Unit => [⟨.pointer (some q9), [(Vi y11.1), (Vl (Vs g9)), (Vi y11.2.2.1)], 114, none⟩, (Rw KG53 53 (Vs g9) y11.2.1), ⟨.pointer (some q5), [(Vb false)], 4, none⟩, ⟨.pointer (some q4), [(Vi 0), (Vi 0), (Vi 0), Vn, Vn, Vn, Vn], 27, none⟩, ⟨.pointer (some q2), [(Vi a0_0), (Vi a0_1), (Vi a0_2), (Sl Kf a0_3), (Sl (Ki .i64) a0_4), (Sl (Kl (Ki .i64)) a0_5), (Sl KT27 a0_6)], 27, none⟩]) (fun _ => rfl) rfl rfl) (wt_none' rfl) fun ⟨⟩ => ?_
 refine s0 (rd_binf' rfl rfl (bf_if (fun _ _ => by kernel_rfl) nil_neq59_if134)) ?_
 refine nk hK5 ?_
 refine cx_cond_t' rfl rfl ?_
 refine cr fun K7 hK7 => ?_
 refine s0 (rd_build' (pls := [(0, 1), (1, 1), (2, 1), (3, 1), (4, 1), (5, 1), (6, 1)]) (qs := []) (r := [(Vi 0), (Vi 0), (Vi 0), Vn, Vn, Vn, Vn]) trivial Try.underlying27 has27 places27 info27 rfl rfl rfl) ?_
 refine sx_ox' (ox_store' (i := 3) (o := 0) rfl rfl (lv_ag _) ⟨rfl, rfl, rfl, rfl⟩ rfl info27 rfl (H' := [⟨.pointer (some q9), [(Vi y11.1), (Vl (Vs g9)), (Vi y11.2.2.1)], 114, none⟩, (Rw KG53 53 (Vs g9) y11.2.1), ⟨.pointer (some q5), [(Vb false)], 4, none⟩, ⟨.pointer (some q4), [(Vi 0), (Vi 0), (Vi 0), Vn, Vn, Vn, Vn], 27, none⟩, ⟨.pointer (some q2), [(Vi a0_0), (Vi a0_1), (Vi a0_2), (Sl Kf a0_3), (Sl (Ki .i64) a0_4), (Sl (Kl (Ki .i64)) a0_5), (Sl KT27 a0_6)], 27, none⟩]) rfl) (wt_none' rfl) fun _ => ?_
 refine sx_ox' (ox_store' (i := 2) (o := 0) rfl rfl (lv_vl rfl rfl) ⟨rfl, rfl, rfl, rfl⟩ rfl info4 rfl (H' := [⟨.pointer (some q9), [(Vi y11.1), (Vl (Vs g9)), (Vi y11.2.2.1)], 114, none⟩, (Rw KG53 53 (Vs g9) y11.2.1), ⟨.pointer (some q5), [(Vb false)], 4, none⟩, ⟨.pointer (some q4), [(Vi 0), (Vi 0), (Vi 0), Vn, Vn, Vn, Vn], 27, none⟩, ⟨.pointer (some q2), [(Vi a0_0), (Vi a0_1), (Vi a0_2), (Sl Kf a0_3), (Sl (Ki .i64) a0_4), (Sl (Kl (Ki .i64)) a0_5), (Sl KT27 a0_6)], 27, none⟩]) rfl) (wt_none' rfl) fun _ => ?_
 refine nk hK7 ?_
 refine cx_retc' ?_
 replace hp := Option.some.inj hp
 subst hp
 refine tx_leave' (.inl rfl) rfl idle32 rfl Try.func32 isn32 rfl ?_
 refine tx_pick' (L' := [(4, (Vp q4)), (5, (Vp q5))]) (H' := [⟨.pointer (some q4), [(Vi 0), (Vi 0), (Vi 0), Vn, Vn, Vn, Vn], 27, none⟩, ⟨.pointer (some q5), [(Vb false)], 4, none⟩]) [3, 2] (sub_cons rfl (sub_cons rfl sub_nil)) (by decide) (pick_cons rfl (pick_cons rfl pick_nil)) ?_
 exact tx_ret2' Try.results11 rfl () (rv_imp' (x := (Ag [(Vi 0), (Vi 0), (Vi 0), Vn, Vn, Vn, Vn])) (y := (Ag [(Vi 0), (Vi 0), (Vi 0), Vn, Vn, Vn, (Sl KT27 [])])) (rv_cell_agg' (i := 0) (o := 0) (nn := 7) rfl ⟨rfl, rfl, rfl, rfl⟩ rfl agg27 rfl) (imp_ag ⟨imp_refl, imp_refl, imp_refl, imp_refl, imp_refl, imp_refl, imp_nil, trivial⟩)) (rv_cell' (i := 1) (o := 0) rfl ⟨rfl, rfl, rfl, rfl⟩ rfl flat4) rfl (List.nil_sublist _)

def impl_floats_v2 (k : Nat)  : Option ((List Nat)) :=
 (apd 8 [] []) >>= fun r4 =>
 some r4

theorem impl_floats_v2_sim {k : Nat}   {out : (List Nat)} (hp : impl_floats_v2 k = some out) : Sx.Fn Try.prog 59 [Vn] [] (fun w : Unit => (Sl Kf out)) (fun w => []) := by
 unfold impl_floats_v2 at hp
 refine fn_of Try.func59 rfl Try.ntmps59 rfl fun E hM => ?_
 refine cr fun K1 hK1 => ?_
 refine s0 (rd_assign' rfl) ?_
 refine nk hK1 ?_
 refine cr fun K2 hK2 => ?_
 refine s0 (rd_move' rfl) ?_
 refine tx_nilrow' Kf 32 ?_
 obtain ⟨r4, hr4, hp⟩ := bind_some hp
 refine sx_ox' (ox_append' (K := Kf) (i := 0) (xs := []) (ys := []) rfl rfl rfl (sr_nil' rfl Try.underlying22) hr4 Try.underlying22 info32 rfl rfl rfl (H' := []) rfl) (wt_none' rfl) fun g4 => ?_
 refine s0 (rd_assign' rfl) ?_
 refine nk hK2 ?_
 refine cx_retc' ?_
 replace hp := Option.some.inj hp
 subst hp
 refine tx_fz' (frz_row 0 [(2, (Vl (Vs g4)), (Sl Kf r4)), (4, (Vl (Vs g4)), (Sl Kf r4))] (K := Kf) (xs := r4) (by decide) rfl ⟨⟨rfl, frz_it⟩, ⟨rfl, frz_it⟩, trivial⟩ (H' := []) frzH_refl) ?_
 refine tx_pick' (L' := [(2, (Sl Kf r4))]) (H' := []) [] (sub_cons rfl sub_nil) (by decide) pick_nil ?_
 exact tx_ret1' Try.results59 rfl () (rv_tmp' rfl) (List.Sublist.refl _)

def gogeom_NewMultiPolygonFlat_v2 (k : Nat) (a0 : Int) (a1 : List Nat) : Option (Int × Int × (List Nat) × Int) :=
 (gogeom_Layout_Stride k a0) >>= fun r18 =>
 some (a0, r18, a1, 0)

theorem gogeom_NewMultiPolygonFlat_v2_sim {k : Nat}  (a0 : Int) (a1 : List Nat) {out : Int × Int × (List Nat) × Int} (hp : gogeom_NewMultiPolygonFlat_v2 k a0 a1 = some out) : Sx.Fn Try.prog 73 [(Vi a0), (Sl Kf a1), Vn] [] (fun w : Addr => (Vp w)) (fun w => [⟨.pointer (some w), [(Vi out.1), (Vi out.2.1), (Sl Kf out.2.2.1), (Vi out.2.2.2), Vn], 143, none⟩]) := by
 unfold gogeom_NewMultiPolygonFlat_v2 at hp
 refine fn_of Try.func73 rfl Try.ntmps73 rfl fun E hM => ?_
 refine cr fun K1 hK1 => ?_
 refine s0 (rd_assign' rfl) ?_
 refine nk hK1 ?_
 refine cr fun K2 hK2 => ?_
 refine sx_ox' (ox_alloc' info143 rfl rfl rfl rfl (l := [(Vi 0), (Vi 0), Vn, (Vi 0), Vn]) rfl) (wt_none' rfl) fun q8 => ?_
 refine s0 (rd_assign' rfl) ?_
 refine nk hK2 ?_
 refine cr fun K3 hK3 => ?_
 refine s0 (rd_move' rfl) ?_
 refine s0 (rd_move' rfl) ?_
 refine s0 (rd_nilck' rfl) ?_
 refine s0 (rd_field0' rfl Try.underlying143 rfl info141 rfl) ?_
 refine s0 (rd_field0' rfl Try.underlying141 rfl info126 rfl) ?_
 refine s0 (rd_field0' rfl Try.underlying126 rfl info124 rfl) ?_
 refine s0 (rd_field0' rfl Try.underlying124 rfl info61 rfl) ?_
 refine sx_ox' (ox_store' (i := 0) (o := 0) rfl rfl (lv_vl rfl rfl) ⟨rfl, rfl, rfl, rfl⟩ rfl info61 rfl (H' := [⟨.pointer (some q8), [(Vi a0), (Vi 0), Vn, (Vi 0), Vn], 143, none⟩]) rfl) (wt_none' rfl) fun _ => ?_
 refine nk hK3 ?_
 refine cr fun K4 hK4 => ?_
 refine s0 (rd_move' rfl) ?_
 refine s0 (rd_move' rfl) ?_
 obtain ⟨r18, hr18, hp⟩ := bind_some hp
 refine sx_ox' (ox_calln' (ent_fn' Try.func89 isn89 rfl rfl) (gogeom_Layout_Stride_sim _ hr18 : Sx.Fn Try.prog 89 [(Vi a0)] [] (fun x : Unit => (Vi r18)) (fun x => [])) (Hn := fun x : Unit => [⟨.pointer (some q8), [(Vi a0), (Vi 0), Vn, (Vi 0), Vn], 143, none⟩]) (fun _ => rfl) rfl rfl) (wt_none' rfl) fun ⟨⟩ => ?_
 refine s0 (rd_nilck' rfl) ?_
 refine s0 (rd_field0' rfl Try.underlying143 rfl info141 rfl) ?_
 refine s0 (rd_field0' rfl Try.underlying141 rfl info126 rfl) ?_
 refine s0 (rd_field0' rfl Try.underlying126 rfl info124 rfl) ?_
 refine s0 (rd_field' (off := 1) rfl Try.underlying124 rfl info3 rfl) ?_
 refine sx_ox' (ox_store' (i := 0) (o := 1) rfl rfl (lv_vl rfl rfl) ⟨rfl, rfl, rfl, rfl⟩ rfl info3 rfl (H' := [⟨.pointer (some q8), [(Vi a0), (Vi r18), Vn, (Vi 0), Vn], 143, none⟩]) rfl) (wt_none' rfl) fun _ => ?_
 refine nk hK4 ?_
 refine cr fun K5 hK5 => ?_
 refine s0 (rd_move' rfl) ?_
 refine s0 (rd_move' rfl) ?_
 refine s0 (rd_nilck' rfl) ?_
 refine s0 (rd_field0' rfl Try.underlying143 rfl info141 rfl) ?_
 refine s0 (rd_field0' rfl Try.underlying141 rfl info126 rfl) ?_
 refine s0 (rd_field0' rfl Try.underlying126 rfl info124 rfl) ?_
 refine s0 (rd_field' (off := 2) rfl Try.underlying124 rfl info22 rfl) ?_
 refine sx_ox' (ox_store' (i := 0) (o := 2) rfl rfl (lv_sl _ _) ⟨rfl, rfl, rfl, rfl⟩ rfl info22 rfl (H' := [⟨.pointer (some q8), [(Vi a0), (Vi r18), (Sl Kf a1), (Vi 0), Vn], 143, none⟩]) rfl) (wt_none' rfl) fun _ => ?_
 refine nk hK5 ?_
 refine cr fun K6 hK6 => ?_
 refine s0 (rd_move' rfl) ?_
 refine s0 (rd_move' rfl) ?_
 refine s0 (rd_nilck' rfl) ?_
 refine s0 (rd_field0' rfl Try.underlying143 rfl info141 rfl) ?_
 refine s0 (rd_field' (off := 4) rfl Try.underlying141 rfl info24 rfl) ?_
 refine sx_ox' (ox_store' (i := 0) (o := 4) rfl rfl (lv_vl rfl rfl) ⟨rfl, rfl, rfl, rfl⟩ rfl info24 rfl (H' := [⟨.pointer (some q8), [(Vi a0), (Vi r18), (Sl Kf a1), (Vi 0), Vn], 143, none⟩]) rfl) (wt_none' rfl) fun _ => ?_
 refine nk hK6 ?_
 refine cr fun K7 hK7 => ?_
 refine s0 (rd_move' rfl) ?_
 refine s0 (rd_assign' rfl) ?_
 refine nk hK7 ?_
 refine cx_retc' ?_
 replace hp := Option.some.inj hp
 subst hp
 refine tx_pick' (L' := [(6, (Vp q8))]) (H' := [⟨.pointer (some q8), [(Vi a0), (Vi r18), (Sl Kf a1), (Vi 0), Vn], 143, none⟩]) [0] (sub_cons rfl sub_nil) (by decide) (pick_cons rfl pick_nil) ?_
 exact tx_ret1' Try.results73 rfl q8 (rv_tmp' rfl) (List.Sublist.refl _)

end Go.Proofs.Ytmagcmeknclljaa
