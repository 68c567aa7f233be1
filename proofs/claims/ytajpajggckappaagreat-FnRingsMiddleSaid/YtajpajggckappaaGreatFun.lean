/-
  Plain functions for the Go functions that this law reaches, and that each call does what its plain function says. Printed by a program of ours.
-/
import Derived.Test.YtajpajggckappaaGreatProg
import Derived.Test.YtajpajggckappaaGreatSxX
import Derived.Test.YtajpajggckappaaGreatFun2
namespace Go.Proofs.YtajpajggckappaaGreat
open Go.Sx
set_option linter.unusedVariables false
set_option maxRecDepth 100000

def impl_geometry_b (recf : Int → Int → Int → (List Nat) → (List Int) → (List (List Int)) → (List T38) → Option ((Int × Int × (List Nat) × Int) ⊕ ((Int × Int × (List Nat) × Int) ⊕ ((Int × Int × (List Nat) × Int) ⊕ ((Int × Int × (List Nat) × Int × (List Int)) ⊕ ((Int × Int × (List Nat) × Int × (List Int)) ⊕ ((Int × Int × (List Nat) × Int × (List Int)) ⊕ ((Int × Int × (List Nat) × Int × (List (List Int))) ⊕ (Int × Int))))))))) (k : Nat) (a0_0 : Int) (a0_1 : Int) (a0_2 : Int) (a0_3 : List Nat) (a0_4 : List Int) (a0_5 : List (List Int)) (a0_6 : List T38) : Option ((Int × Int × (List Nat) × Int) ⊕ ((Int × Int × (List Nat) × Int) ⊕ ((Int × Int × (List Nat) × Int) ⊕ ((Int × Int × (List Nat) × Int × (List Int)) ⊕ ((Int × Int × (List Nat) × Int × (List Int)) ⊕ ((Int × Int × (List Nat) × Int × (List Int)) ⊕ ((Int × Int × (List Nat) × Int × (List (List Int))) ⊕ (Int × Int)))))))) :=
 (impl_floats k a0_3) >>= fun r12 =>
 br (decide (a0_0 = 1))
  ((gogeom_NewPointFlat k a0_1 r12) >>= fun r19 =>
  (gogeom_Point_SetSRID k r19.1 r19.2.1 r19.2.2.1 r19.2.2.2 a0_2) >>= fun r22 =>
  some (.inl (r22.1, r22.2.1, r22.2.2.1, r22.2.2.2)))
  (br (decide (a0_0 = 2))
   ((gogeom_NewLineStringFlat k a0_1 r12) >>= fun r28 =>
   (gogeom_LineString_SetSRID k r28.1 r28.2.1 r28.2.2.1 r28.2.2.2 a0_2) >>= fun r31 =>
   some (.inr (.inl (r31.1, r31.2.1, r31.2.2.1, r31.2.2.2))))
   (br (decide (a0_0 = 8))
    ((gogeom_NewLinearRingFlat k a0_1 r12) >>= fun r37 =>
    (gogeom_LinearRing_SetSRID k r37.1 r37.2.1 r37.2.2.1 r37.2.2.2 a0_2) >>= fun r40 =>
    some (.inr (.inr (.inl (r40.1, r40.2.1, r40.2.2.1, r40.2.2.2)))))
    (br (decide (a0_0 = 3))
     ((impl_ints k a0_4) >>= fun r48 =>
     match r48 with
      | (.inl y4) =>
       ((gogeom_NewPolygonFlat k a0_1 r12) >>= fun r49 =>
       (gogeom_Polygon_SetSRID k r49.1 r49.2.1 r49.2.2.1 r49.2.2.2 a0_2) >>= fun r52 =>
       some (.inr (.inr (.inr (.inl (r52.1, r52.2.1, r52.2.2.1, r52.2.2.2, []))))))
      | (.inr y4) =>
       ((gogeom_NewPolygonFlat_v2 k a0_1 r12 y4) >>= fun r49 =>
       (gogeom_Polygon_SetSRID_v2 k r49.1 r49.2.1 r49.2.2.1 r49.2.2.2.1 r49.2.2.2.2 a0_2) >>= fun r52 =>
       some (.inr (.inr (.inr (.inl (r52.1, r52.2.1, r52.2.2.1, r52.2.2.2.1, r52.2.2.2.2)))))))
     (br (decide (a0_0 = 4))
      ((impl_ints k a0_4) >>= fun r60 =>
      match r60 with
       | (.inl y6) =>
        ((gogeom_NewMultiPointFlatOptionWithEnds k) >>= fun r61 =>
        (gogeom_NewMultiPointFlat k a0_1 r12) >>= fun r63 =>
        (gogeom_MultiPoint_SetSRID k r63.1 r63.2.1 r63.2.2.1 r63.2.2.2.1 r63.2.2.2.2 a0_2) >>= fun r66 =>
        some (.inr (.inr (.inr (.inr (.inl (r66.1, r66.2.1, r66.2.2.1, r66.2.2.2.1, r66.2.2.2.2)))))))
       | (.inr y6) =>
        ((gogeom_NewMultiPointFlatOptionWithEnds_v2 k y6) >>= fun r61 =>
        (gogeom_NewMultiPointFlat_v2 k a0_1 r12 r61) >>= fun r63 =>
        (gogeom_MultiPoint_SetSRID_v2 k r63.2.1 r63.2.2.1 r63.2.2.2.1 r63.2.2.2.2 r63.1 a0_2) >>= fun r66 =>
        some (.inr (.inr (.inr (.inr (.inl (r66.1, r66.2.1, r66.2.2.1, r66.2.2.2.1, r66.2.2.2.2))))))))
      (br (decide (a0_0 = 5))
       ((impl_ints k a0_4) >>= fun r74 =>
       match r74 with
        | (.inl y10) =>
         ((gogeom_NewMultiLineStringFlat k a0_1 r12) >>= fun r75 =>
         (gogeom_MultiLineString_SetSRID k r75.1 r75.2.1 r75.2.2.1 r75.2.2.2 a0_2) >>= fun r78 =>
         some (.inr (.inr (.inr (.inr (.inr (.inl (r78.1, r78.2.1, r78.2.2.1, r78.2.2.2, []))))))))
        | (.inr y10) =>
         ((gogeom_NewMultiLineStringFlat_v2 k a0_1 r12 y10) >>= fun r75 =>
         (gogeom_MultiLineString_SetSRID_v2 k r75.1 r75.2.1 r75.2.2.1 r75.2.2.2.1 r75.2.2.2.2 a0_2) >>= fun r78 =>
         some (.inr (.inr (.inr (.inr (.inr (.inl (r78.1, r78.2.1, r78.2.2.1, r78.2.2.2.1, r78.2.2.2.2)))))))))
       (br (decide (a0_0 = 6))
        ((impl_intss k a0_5) >>= fun r86 =>
        (gogeom_NewMultiPolygonFlat k a0_1 r12 r86) >>= fun r87 =>
        (gogeom_MultiPolygon_SetSRID k r87.1 r87.2.1 r87.2.2.1 r87.2.2.2.1 r87.2.2.2.2 a0_2) >>= fun r90 =>
        some (.inr (.inr (.inr (.inr (.inr (.inr (.inl (r90.1, r90.2.1, r90.2.2.1, r90.2.2.2.1, r90.2.2.2.2)))))))))
        (br (decide (a0_0 = 7))
         ((gogeom_NewGeometryCollection k) >>= fun r94 =>
         (gogeom_GeometryCollection_SetSRID k r94 r94 a0_2) >>= fun r97 =>
         br (decide (0 < (a0_6.length : Int)))
          (none)
          ((gogeom_GeometryCollection_MustSetLayout k r97.1 r97.2 a0_1) >>= fun r113 =>
          some (.inr (.inr (.inr (.inr (.inr (.inr (.inr (r113.1, r113.2))))))))))
         (none))))))))
def impl_geometry : Nat → Int → Int → Int → (List Nat) → (List Int) → (List (List Int)) → (List T38) → Option ((Int × Int × (List Nat) × Int) ⊕ ((Int × Int × (List Nat) × Int) ⊕ ((Int × Int × (List Nat) × Int) ⊕ ((Int × Int × (List Nat) × Int × (List Int)) ⊕ ((Int × Int × (List Nat) × Int × (List Int)) ⊕ ((Int × Int × (List Nat) × Int × (List Int)) ⊕ ((Int × Int × (List Nat) × Int × (List (List Int))) ⊕ (Int × Int))))))))
 | 0 => fun _ _ _ _ _ _ _ => none
 | k + 1 => fun a0_0 a0_1 a0_2 a0_3 a0_4 a0_5 a0_6 => impl_geometry_b (impl_geometry k) k a0_0 a0_1 a0_2 a0_3 a0_4 a0_5 a0_6
def impl_geometry_r  (a0_0 : Int) (a0_1 : Int) (a0_2 : Int) (a0_3 : List Nat) (a0_4 : List Int) (a0_5 : List (List Int)) (a0_6 : List T38) (out : (Int × Int × (List Nat) × Int) ⊕ ((Int × Int × (List Nat) × Int) ⊕ ((Int × Int × (List Nat) × Int) ⊕ ((Int × Int × (List Nat) × Int × (List Int)) ⊕ ((Int × Int × (List Nat) × Int × (List Int)) ⊕ ((Int × Int × (List Nat) × Int × (List Int)) ⊕ ((Int × Int × (List Nat) × Int × (List (List Int))) ⊕ (Int × Int)))))))) (w : Addr) : SV := match out with
 | (.inl y) => (If 93 (Vp w))
 | (.inr (.inl y)) => (If 96 (Vp w))
 | (.inr (.inr (.inl y))) => (If 60 (Vp w))
 | (.inr (.inr (.inr (.inl y)))) => (If 101 (Vp w))
 | (.inr (.inr (.inr (.inr (.inl y))))) => (If 105 (Vp w))
 | (.inr (.inr (.inr (.inr (.inr (.inl y)))))) => (If 111 (Vp w))
 | (.inr (.inr (.inr (.inr (.inr (.inr (.inl y))))))) => (If 114 (Vp w))
 | (.inr (.inr (.inr (.inr (.inr (.inr (.inr y))))))) => (If 118 (Vp w))
def impl_geometry_h  (a0_0 : Int) (a0_1 : Int) (a0_2 : Int) (a0_3 : List Nat) (a0_4 : List Int) (a0_5 : List (List Int)) (a0_6 : List T38) (out : (Int × Int × (List Nat) × Int) ⊕ ((Int × Int × (List Nat) × Int) ⊕ ((Int × Int × (List Nat) × Int) ⊕ ((Int × Int × (List Nat) × Int × (List Int)) ⊕ ((Int × Int × (List Nat) × Int × (List Int)) ⊕ ((Int × Int × (List Nat) × Int × (List Int)) ⊕ ((Int × Int × (List Nat) × Int × (List (List Int))) ⊕ (Int × Int)))))))) (w : Addr) : List Res := match out with
 | (.inl y) => [⟨.pointer (some w), [(Vi y.1), (Vi y.2.1), (Sl Kf y.2.2.1), (Vi y.2.2.2)], 132, none⟩]
 | (.inr (.inl y)) => [⟨.pointer (some w), [(Vi y.1), (Vi y.2.1), (Sl Kf y.2.2.1), (Vi y.2.2.2)], 133, none⟩]
 | (.inr (.inr (.inl y))) => [⟨.pointer (some w), [(Vi y.1), (Vi y.2.1), (Sl Kf y.2.2.1), (Vi y.2.2.2)], 91, none⟩]
 | (.inr (.inr (.inr (.inl y)))) => [⟨.pointer (some w), [(Vi y.1), (Vi y.2.1), (Sl Kf y.2.2.1), (Vi y.2.2.2.1), (Sl (Ki .i64) y.2.2.2.2)], 137, none⟩]
 | (.inr (.inr (.inr (.inr (.inl y))))) => [⟨.pointer (some w), [(Vi y.1), (Vi y.2.1), (Sl Kf y.2.2.1), (Vi y.2.2.2.1), (Sl (Ki .i64) y.2.2.2.2)], 139, none⟩]
 | (.inr (.inr (.inr (.inr (.inr (.inl y)))))) => [⟨.pointer (some w), [(Vi y.1), (Vi y.2.1), (Sl Kf y.2.2.1), (Vi y.2.2.2.1), (Sl (Ki .i64) y.2.2.2.2)], 140, none⟩]
 | (.inr (.inr (.inr (.inr (.inr (.inr (.inl y))))))) => [⟨.pointer (some w), [(Vi y.1), (Vi y.2.1), (Sl Kf y.2.2.1), (Vi y.2.2.2.1), (Sl (Kl (Ki .i64)) y.2.2.2.2)], 144, none⟩]
 | (.inr (.inr (.inr (.inr (.inr (.inr (.inr y))))))) => [⟨.pointer (some w), [(Vi y.1), Vn, (Vi y.2)], 147, none⟩]

theorem impl_geometry_b_sim {recf : Int → Int → Int → (List Nat) → (List Int) → (List (List Int)) → (List T38) → Option ((Int × Int × (List Nat) × Int) ⊕ ((Int × Int × (List Nat) × Int) ⊕ ((Int × Int × (List Nat) × Int) ⊕ ((Int × Int × (List Nat) × Int × (List Int)) ⊕ ((Int × Int × (List Nat) × Int × (List Int)) ⊕ ((Int × Int × (List Nat) × Int × (List Int)) ⊕ ((Int × Int × (List Nat) × Int × (List (List Int))) ⊕ (Int × Int))))))))} (hrec : ∀  (a0_0 : Int) (a0_1 : Int) (a0_2 : Int) (a0_3 : List Nat) (a0_4 : List Int) (a0_5 : List (List Int)) (a0_6 : List T38) (out : (Int × Int × (List Nat) × Int) ⊕ ((Int × Int × (List Nat) × Int) ⊕ ((Int × Int × (List Nat) × Int) ⊕ ((Int × Int × (List Nat) × Int × (List Int)) ⊕ ((Int × Int × (List Nat) × Int × (List Int)) ⊕ ((Int × Int × (List Nat) × Int × (List Int)) ⊕ ((Int × Int × (List Nat) × Int × (List (List Int))) ⊕ (Int × Int)))))))), recf a0_0 a0_1 a0_2 a0_3 a0_4 a0_5 a0_6 = some out → Sx.Fn Tryz.prog 19 [(Ag [(Vi a0_0), (Vi a0_1), (Vi a0_2), (Sl Kf a0_3), (Sl (Ki .i64) a0_4), (Sl (Kl (Ki .i64)) a0_5), (Sl KT38 a0_6)])] [] (fun w => impl_geometry_r a0_0 a0_1 a0_2 a0_3 a0_4 a0_5 a0_6 out w) (fun w => impl_geometry_h a0_0 a0_1 a0_2 a0_3 a0_4 a0_5 a0_6 out w)) {k : Nat}  (a0_0 : Int) (a0_1 : Int) (a0_2 : Int) (a0_3 : List Nat) (a0_4 : List Int) (a0_5 : List (List Int)) (a0_6 : List T38) {out : (Int × Int × (List Nat) × Int) ⊕ ((Int × Int × (List Nat) × Int) ⊕ ((Int × Int × (List Nat) × Int) ⊕ ((Int × Int × (List Nat) × Int × (List Int)) ⊕ ((Int × Int × (List Nat) × Int × (List Int)) ⊕ ((Int × Int × (List Nat) × Int × (List Int)) ⊕ ((Int × Int × (List Nat) × Int × (List (List Int))) ⊕ (Int × Int)))))))} (hp : impl_geometry_b recf k a0_0 a0_1 a0_2 a0_3 a0_4 a0_5 a0_6 = some out) : Sx.Fn Tryz.prog 19 [(Ag [(Vi a0_0), (Vi a0_1), (Vi a0_2), (Sl Kf a0_3), (Sl (Ki .i64) a0_4), (Sl (Kl (Ki .i64)) a0_5), (Sl KT38 a0_6)])] [] (fun w => impl_geometry_r a0_0 a0_1 a0_2 a0_3 a0_4 a0_5 a0_6 out w) (fun w => impl_geometry_h a0_0 a0_1 a0_2 a0_3 a0_4 a0_5 a0_6 out w) := by
 unfold impl_geometry_b at hp
 refine fn_of Tryz.func19 rfl Tryz.ntmps19 rfl fun E hM => ?_
 refine cr fun K1 hK1 => ?_
 refine sx_ox' (ox_box' rfl (lv_ag _) rfl rfl) (wt_none' rfl) fun q1 => ?_
 refine s0 (rd_assign' rfl) ?_
 refine nk hK1 ?_
 refine cx_seq' fun K2 hK2 => ?_
 refine cx_plan' [] [] [(0, 1), (1, 1), (2, 1), (3, 1), (4, 0), (5, 1), (6, 1)] mixed (by kernel_rfl) ?_
 refine px_rd' rfl (rd_field' (off := 1) rfl Tryz.underlying38 rfl info3 rfl) rfl rfl (wt_none' rfl) ?_
 refine px_rd' rfl (rd_load' (i := 0) (o := 1) rfl ⟨rfl, rfl, rfl, rfl⟩ rfl flat3) rfl rfl (wt_none' rfl) ?_
 refine px_rd' rfl (rd_field' (off := 3) rfl Tryz.underlying38 rfl info29 rfl) rfl rfl (wt_none' rfl) ?_
 refine px_rd' rfl (rd_load' (i := 0) (o := 3) rfl ⟨rfl, rfl, rfl, rfl⟩ rfl flat29) rfl rfl (wt_none' rfl) ?_
 obtain ⟨r12, hr12, hp⟩ := bind_some hp
 refine px_ox' rfl (ox_calln' (ent_fn' Tryz.func20 isn20 rfl rfl) (impl_floats_sim _ hr12 : Sx.Fn Tryz.prog 20 [(Sl Kf a0_3)] [] (fun x : Unit => (Sl Kf r12)) (fun x => [])) (Hn := fun x : Unit => [⟨.pointer (some q1), [(Vi a0_0), (Vi a0_1), (Vi a0_2), (Sl Kf a0_3), (Sl (Ki .i64) a0_4), (Sl (Kl (Ki .i64)) a0_5), (Sl KT38 a0_6)], 38, none⟩]) (fun _ => rfl) rfl rfl) rfl bs_nil (wt_none' rfl) fun ⟨⟩ => ?_
 refine px_rd' rfl (rd_assign' rfl) rfl rfl (wt_none' rfl) ?_
 refine px_rd' rfl (rd_assign' rfl) rfl rfl (wt_none' rfl) ?_
 refine px_nil' ?_
 show TX E K2 _
 refine tx_k' hK2 ?_
 refine cx_seq' fun K3 hK3 => ?_
 refine cr fun K4 hK4 => ?_
 refine s0 (rd_field0' rfl Tryz.underlying38 rfl info3 rfl) ?_
 refine s0 (rd_load' (i := 0) (o := 0) rfl ⟨rfl, rfl, rfl, rfl⟩ rfl flat3) ?_
 refine nk hK4 ?_
 refine cx_block' ?_
 refine cr fun K5 hK5 => ?_
 refine s0 (rd_bin' rfl rfl eg_int ru_eql) ?_
 refine s0 (rd_assign' rfl) ?_
 refine nk hK5 ?_
 refine cx_cond' rfl (fun h1 => ?_) (fun h1 => ?_)
 ·replace hp := (br_t h1).symm.trans hp
  refine cx_seq' fun K6 hK6 => ?_
  refine cx_plan' [] [(5, 1)] [(0, 1), (1, 1), (3, 1), (4, 1), (2, 0), (5, 0), (6, 1), (7, 1)] mixed (by kernel_rfl) ?_
  refine px_rd' rfl (rd_move' rfl) rfl rfl (wt_none' rfl) ?_
  refine px_rd' rfl (rd_move' rfl) rfl rfl (wt_none' rfl) ?_
  refine px_rd' rfl (rd_field' (off := 2) rfl Tryz.underlying38 rfl info3 rfl) rfl rfl (wt_none' rfl) ?_
  refine px_rd' rfl (rd_load' (i := 0) (o := 2) rfl ⟨rfl, rfl, rfl, rfl⟩ rfl flat3) rfl rfl (wt_none' rfl) ?_
  obtain ⟨r19, hr19, hp⟩ := bind_some hp
  refine px_ox' rfl (ox_calln' (ent_fn' Tryz.func39 isn39 rfl rfl) (gogeom_NewPointFlat_sim _ _ hr19 : Sx.Fn Tryz.prog 39 [(Vi a0_1), (Sl Kf r12)] [] (fun x : Addr => (Vp x)) (fun x => [⟨.pointer (some x), [(Vi r19.1), (Vi r19.2.1), (Sl Kf r19.2.2.1), (Vi r19.2.2.2)], 132, none⟩])) (Hn := fun x : Addr => [⟨.pointer (some x), [(Vi r19.1), (Vi r19.2.1), (Sl Kf r19.2.2.1), (Vi r19.2.2.2)], 132, none⟩, ⟨.pointer (some q1), [(Vi a0_0), (Vi a0_1), (Vi a0_2), (Sl Kf a0_3), (Sl (Ki .i64) a0_4), (Sl (Kl (Ki .i64)) a0_5), (Sl KT38 a0_6)], 38, none⟩]) (fun _ => rfl) rfl rfl) rfl bs_nil (wt_none' rfl) fun q19 => ?_
  obtain ⟨r22, hr22, hp⟩ := bind_some hp
  refine px_oxb' (is := [0]) rfl (oxb_callg (ent_fn' Tryz.func40 isn40 rfl rfl) (gogeom_Point_SetSRID_sim _ _ _ _ _ hr22 : Sx.Fn Tryz.prog 40 [(Vp q19), (Vi a0_2)] [⟨.pointer (some q19), [(Vi r19.1), (Vi r19.2.1), (Sl Kf r19.2.2.1), (Vi r19.2.2.2)], 132, none⟩] (fun x : Unit => (Vp q19)) (fun x => [⟨.pointer (some q19), [(Vi r22.1), (Vi r22.2.1), (Sl Kf r22.2.2.1), (Vi r22.2.2.2)], 132, none⟩])) [0] [1] (by decide) (pick_cons rfl pick_nil) (pick_cons rfl pick_nil) (Hn := fun x : Unit => [⟨.pointer (some q19), [(Vi r22.1), (Vi r22.2.1), (Sl Kf r22.2.2.1), (Vi r22.2.2.2)], 132, none⟩, ⟨.pointer (some q1), [(Vi a0_0), (Vi a0_1), (Vi a0_2), (Sl Kf a0_3), (Sl (Ki .i64) a0_4), (Sl (Kl (Ki .i64)) a0_5), (Sl KT38 a0_6)], 38, none⟩]) (fun _ => rfl) rfl rfl) (pick_cons rfl pick_nil) rfl bl_nil (wt_none' rfl) fun ⟨⟩ => ?_
  refine px_rd' rfl (rd_iface' rfl ⟨_, Tryz.underlying93, fun _ h => (nomatch h)⟩) rfl rfl (wt_none' rfl) ?_
  refine px_rd' rfl (rd_assign' rfl) rfl rfl (wt_none' rfl) ?_
  refine px_nil' ?_
  show TX E K6 _
  refine tx_k' hK6 ?_
  refine cx_retc' ?_
  replace hp := Option.some.inj hp
  subst hp
  refine tx_pick' (L' := [(2, (If 93 (Vp q19)))]) (H' := [⟨.pointer (some q19), [(Vi r22.1), (Vi r22.2.1), (Sl Kf r22.2.2.1), (Vi r22.2.2.2)], 132, none⟩]) [0] (sub_cons rfl sub_nil) (by decide) (pick_cons rfl pick_nil) ?_
  exact tx_ret1' Tryz.results19 rfl q19 (rv_tmp' rfl) (List.Sublist.refl _)
 replace hp := (br_f h1).symm.trans hp
 refine cr fun K7 hK7 => ?_
 refine s0 (rd_bin' rfl rfl eg_int ru_eql) ?_
 refine s0 (rd_assign' rfl) ?_
 refine nk hK7 ?_
 refine cx_cond' rfl (fun h2 => ?_) (fun h2 => ?_)
 ·replace hp := (br_t h2).symm.trans hp
  refine cx_seq' fun K8 hK8 => ?_
  refine cx_plan' [] [(5, 1)] [(0, 1), (1, 1), (3, 1), (4, 1), (2, 0), (5, 0), (6, 1), (7, 1)] mixed (by kernel_rfl) ?_
  refine px_rd' rfl (rd_move' rfl) rfl rfl (wt_none' rfl) ?_
  refine px_rd' rfl (rd_move' rfl) rfl rfl (wt_none' rfl) ?_
  refine px_rd' rfl (rd_field' (off := 2) rfl Tryz.underlying38 rfl info3 rfl) rfl rfl (wt_none' rfl) ?_
  refine px_rd' rfl (rd_load' (i := 0) (o := 2) rfl ⟨rfl, rfl, rfl, rfl⟩ rfl flat3) rfl rfl (wt_none' rfl) ?_
  obtain ⟨r28, hr28, hp⟩ := bind_some hp
  refine px_ox' rfl (ox_calln' (ent_fn' Tryz.func41 isn41 rfl rfl) (gogeom_NewLineStringFlat_sim _ _ hr28 : Sx.Fn Tryz.prog 41 [(Vi a0_1), (Sl Kf r12)] [] (fun x : Addr => (Vp x)) (fun x => [⟨.pointer (some x), [(Vi r28.1), (Vi r28.2.1), (Sl Kf r28.2.2.1), (Vi r28.2.2.2)], 133, none⟩])) (Hn := fun x : Addr => [⟨.pointer (some x), [(Vi r28.1), (Vi r28.2.1), (Sl Kf r28.2.2.1), (Vi r28.2.2.2)], 133, none⟩, ⟨.pointer (some q1), [(Vi a0_0), (Vi a0_1), (Vi a0_2), (Sl Kf a0_3), (Sl (Ki .i64) a0_4), (Sl (Kl (Ki .i64)) a0_5), (Sl KT38 a0_6)], 38, none⟩]) (fun _ => rfl) rfl rfl) rfl bs_nil (wt_none' rfl) fun q28 => ?_
  obtain ⟨r31, hr31, hp⟩ := bind_some hp
  refine px_oxb' (is := [0]) rfl (oxb_callg (ent_fn' Tryz.func42 isn42 rfl rfl) (gogeom_LineString_SetSRID_sim _ _ _ _ _ hr31 : Sx.Fn Tryz.prog 42 [(Vp q28), (Vi a0_2)] [⟨.pointer (some q28), [(Vi r28.1), (Vi r28.2.1), (Sl Kf r28.2.2.1), (Vi r28.2.2.2)], 133, none⟩] (fun x : Unit => (Vp q28)) (fun x => [⟨.pointer (some q28), [(Vi r31.1), (Vi r31.2.1), (Sl Kf r31.2.2.1), (Vi r31.2.2.2)], 133, none⟩])) [0] [1] (by decide) (pick_cons rfl pick_nil) (pick_cons rfl pick_nil) (Hn := fun x : Unit => [⟨.pointer (some q28), [(Vi r31.1), (Vi r31.2.1), (Sl Kf r31.2.2.1), (Vi r31.2.2.2)], 133, none⟩, ⟨.pointer (some q1), [(Vi a0_0), (Vi a0_1), (Vi a0_2), (Sl Kf a0_3), (Sl (Ki .i64) a0_4), (Sl (Kl (Ki .i64)) a0_5), (Sl KT38 a0_6)], 38, none⟩]) (fun _ => rfl) rfl rfl) (pick_cons rfl pick_nil) rfl bl_nil (wt_none' rfl) fun ⟨⟩ => ?_
  refine px_rd' rfl (rd_iface' rfl ⟨_, Tryz.underlying96, fun _ h => (nomatch h)⟩) rfl rfl (wt_none' rfl) ?_
  refine px_rd' rfl (rd_assign' rfl) rfl rfl (wt_none' rfl) ?_
  refine px_nil' ?_
  show TX E K8 _
  refine tx_k' hK8 ?_
  refine cx_retc' ?_
  replace hp := Option.some.inj hp
  subst hp
  refine tx_pick' (L' := [(2, (If 96 (Vp q28)))]) (H' := [⟨.pointer (some q28), [(Vi r31.1), (Vi r31.2.1), (Sl Kf r31.2.2.1), (Vi r31.2.2.2)], 133, none⟩]) [0] (sub_cons rfl sub_nil) (by decide) (pick_cons rfl pick_nil) ?_
  exact tx_ret1' Tryz.results19 rfl q28 (rv_tmp' rfl) (List.Sublist.refl _)
 replace hp := (br_f h2).symm.trans hp
 refine cr fun K9 hK9 => ?_
 refine s0 (rd_bin' rfl rfl eg_int ru_eql) ?_
 refine s0 (rd_assign' rfl) ?_
 refine nk hK9 ?_
 refine cx_cond' rfl (fun h3 => ?_) (fun h3 => ?_)
 ·replace hp := (br_t h3).symm.trans hp
  refine cx_seq' fun K10 hK10 => ?_
  refine cx_plan' [] [(5, 1)] [(0, 1), (1, 1), (3, 1), (4, 1), (2, 0), (5, 0), (6, 1), (7, 1)] mixed (by kernel_rfl) ?_
  refine px_rd' rfl (rd_move' rfl) rfl rfl (wt_none' rfl) ?_
  refine px_rd' rfl (rd_move' rfl) rfl rfl (wt_none' rfl) ?_
  refine px_rd' rfl (rd_field' (off := 2) rfl Tryz.underlying38 rfl info3 rfl) rfl rfl (wt_none' rfl) ?_
  refine px_rd' rfl (rd_load' (i := 0) (o := 2) rfl ⟨rfl, rfl, rfl, rfl⟩ rfl flat3) rfl rfl (wt_none' rfl) ?_
  obtain ⟨r37, hr37, hp⟩ := bind_some hp
  refine px_ox' rfl (ox_calln' (ent_fn' Tryz.func43 isn43 rfl rfl) (gogeom_NewLinearRingFlat_sim _ _ hr37 : Sx.Fn Tryz.prog 43 [(Vi a0_1), (Sl Kf r12)] [] (fun x : Addr => (Vp x)) (fun x => [⟨.pointer (some x), [(Vi r37.1), (Vi r37.2.1), (Sl Kf r37.2.2.1), (Vi r37.2.2.2)], 91, none⟩])) (Hn := fun x : Addr => [⟨.pointer (some x), [(Vi r37.1), (Vi r37.2.1), (Sl Kf r37.2.2.1), (Vi r37.2.2.2)], 91, none⟩, ⟨.pointer (some q1), [(Vi a0_0), (Vi a0_1), (Vi a0_2), (Sl Kf a0_3), (Sl (Ki .i64) a0_4), (Sl (Kl (Ki .i64)) a0_5), (Sl KT38 a0_6)], 38, none⟩]) (fun _ => rfl) rfl rfl) rfl bs_nil (wt_none' rfl) fun q37 => ?_
  obtain ⟨r40, hr40, hp⟩ := bind_some hp
  refine px_oxb' (is := [0]) rfl (oxb_callg (ent_fn' Tryz.func44 isn44 rfl rfl) (gogeom_LinearRing_SetSRID_sim _ _ _ _ _ hr40 : Sx.Fn Tryz.prog 44 [(Vp q37), (Vi a0_2)] [⟨.pointer (some q37), [(Vi r37.1), (Vi r37.2.1), (Sl Kf r37.2.2.1), (Vi r37.2.2.2)], 91, none⟩] (fun x : Unit => (Vp q37)) (fun x => [⟨.pointer (some q37), [(Vi r40.1), (Vi r40.2.1), (Sl Kf r40.2.2.1), (Vi r40.2.2.2)], 91, none⟩])) [0] [1] (by decide) (pick_cons rfl pick_nil) (pick_cons rfl pick_nil) (Hn := fun x : Unit => [⟨.pointer (some q37), [(Vi r40.1), (Vi r40.2.1), (Sl Kf r40.2.2.1), (Vi r40.2.2.2)], 91, none⟩, ⟨.pointer (some q1), [(Vi a0_0), (Vi a0_1), (Vi a0_2), (Sl Kf a0_3), (Sl (Ki .i64) a0_4), (Sl (Kl (Ki .i64)) a0_5), (Sl KT38 a0_6)], 38, none⟩]) (fun _ => rfl) rfl rfl) (pick_cons rfl pick_nil) rfl bl_nil (wt_none' rfl) fun ⟨⟩ => ?_
  refine px_rd' rfl (rd_iface' rfl ⟨_, Tryz.underlying60, fun _ h => (nomatch h)⟩) rfl rfl (wt_none' rfl) ?_
  refine px_rd' rfl (rd_assign' rfl) rfl rfl (wt_none' rfl) ?_
  refine px_nil' ?_
  show TX E K10 _
  refine tx_k' hK10 ?_
  refine cx_retc' ?_
  replace hp := Option.some.inj hp
  subst hp
  refine tx_pick' (L' := [(2, (If 60 (Vp q37)))]) (H' := [⟨.pointer (some q37), [(Vi r40.1), (Vi r40.2.1), (Sl Kf r40.2.2.1), (Vi r40.2.2.2)], 91, none⟩]) [0] (sub_cons rfl sub_nil) (by decide) (pick_cons rfl pick_nil) ?_
  exact tx_ret1' Tryz.results19 rfl q37 (rv_tmp' rfl) (List.Sublist.refl _)
 replace hp := (br_f h3).symm.trans hp
 refine cr fun K11 hK11 => ?_
 refine s0 (rd_bin' rfl rfl eg_int ru_eql) ?_
 refine s0 (rd_assign' rfl) ?_
 refine nk hK11 ?_
 refine cx_cond' rfl (fun h4 => ?_) (fun h4 => ?_)
 ·replace hp := (br_t h4).symm.trans hp
  refine cx_seq' fun K12 hK12 => ?_
  refine cx_plan' [] [(8, 1)] [(0, 1), (1, 1), (2, 1), (3, 1), (6, 1), (7, 1), (4, 0), (5, 0), (8, 0), (9, 1), (10, 1)] mixed (by kernel_rfl) ?_
  refine px_rd' rfl (rd_move' rfl) rfl rfl (wt_none' rfl) ?_
  refine px_rd' rfl (rd_move' rfl) rfl rfl (wt_none' rfl) ?_
  refine px_rd' rfl (rd_field' (off := 4) rfl Tryz.underlying38 rfl info35 rfl) rfl rfl (wt_none' rfl) ?_
  refine px_rd' rfl (rd_load' (i := 0) (o := 4) rfl ⟨rfl, rfl, rfl, rfl⟩ rfl flat35) rfl rfl (wt_none' rfl) ?_
  refine px_rd' rfl (rd_field' (off := 2) rfl Tryz.underlying38 rfl info3 rfl) rfl rfl (wt_none' rfl) ?_
  refine px_rd' rfl (rd_load' (i := 0) (o := 2) rfl ⟨rfl, rfl, rfl, rfl⟩ rfl flat3) rfl rfl (wt_none' rfl) ?_
  obtain ⟨r48, hr48, hp⟩ := bind_some hp
  rcases r48 with y4 | y4
  ·dsimp only at hp
   refine px_ox' rfl (ox_calln' (ent_fn' Tryz.func46 isn46 rfl rfl) (impl_ints_sim _ hr48 : Sx.Fn Tryz.prog 46 [(Sl (Ki .i64) a0_4)] [] (fun x : Unit => Vn) (fun x => [])) (Hn := fun x : Unit => [⟨.pointer (some q1), [(Vi a0_0), (Vi a0_1), (Vi a0_2), (Sl Kf a0_3), (Sl (Ki .i64) a0_4), (Sl (Kl (Ki .i64)) a0_5), (Sl KT38 a0_6)], 38, none⟩]) (fun _ => rfl) rfl rfl) rfl bs_nil (wt_none' rfl) fun ⟨⟩ => ?_
   obtain ⟨r49, hr49, hp⟩ := bind_some hp
   refine px_ox' rfl (ox_calln' (ent_fn' Tryz.func45 isn45 rfl rfl) (gogeom_NewPolygonFlat_sim _ _ hr49 : Sx.Fn Tryz.prog 45 [(Vi a0_1), (Sl Kf r12), Vn] [] (fun x : Addr => (Vp x)) (fun x => [⟨.pointer (some x), [(Vi r49.1), (Vi r49.2.1), (Sl Kf r49.2.2.1), (Vi r49.2.2.2), Vn], 137, none⟩])) (Hn := fun x : Addr => [⟨.pointer (some x), [(Vi r49.1), (Vi r49.2.1), (Sl Kf r49.2.2.1), (Vi r49.2.2.2), Vn], 137, none⟩, ⟨.pointer (some q1), [(Vi a0_0), (Vi a0_1), (Vi a0_2), (Sl Kf a0_3), (Sl (Ki .i64) a0_4), (Sl (Kl (Ki .i64)) a0_5), (Sl KT38 a0_6)], 38, none⟩]) (fun _ => rfl) rfl rfl) rfl bs_nil (wt_none' rfl) fun q49 => ?_
   obtain ⟨r52, hr52, hp⟩ := bind_some hp
   refine px_oxb' (is := [0]) rfl (oxb_callg (ent_fn' Tryz.func47 isn47 rfl rfl) (gogeom_Polygon_SetSRID_sim _ _ _ _ _ hr52 : Sx.Fn Tryz.prog 47 [(Vp q49), (Vi a0_2)] [⟨.pointer (some q49), [(Vi r49.1), (Vi r49.2.1), (Sl Kf r49.2.2.1), (Vi r49.2.2.2), Vn], 137, none⟩] (fun x : Unit => (Vp q49)) (fun x => [⟨.pointer (some q49), [(Vi r52.1), (Vi r52.2.1), (Sl Kf r52.2.2.1), (Vi r52.2.2.2), Vn], 137, none⟩])) [0] [1] (by decide) (pick_cons rfl pick_nil) (pick_cons rfl pick_nil) (Hn := fun x : Unit => [⟨.pointer (some q49), [(Vi r52.1), (Vi r52.2.1), (Sl Kf r52.2.2.1), (Vi r52.2.2.2), Vn], 137, none⟩, ⟨.pointer (some q1), [(Vi a0_0), (Vi a0_1), (Vi a0_2), (Sl Kf a0_3), (Sl (Ki .i64) a0_4), (Sl (Kl (Ki .i64)) a0_5), (Sl KT38 a0_6)], 38, none⟩]) (fun _ => rfl) rfl rfl) (pick_cons rfl pick_nil) rfl bl_nil (wt_none' rfl) fun ⟨⟩ => ?_
   refine px_rd' rfl (rd_iface' rfl ⟨_, Tryz.underlying101, fun _ h => (nomatch h)⟩) rfl rfl (wt_none' rfl) ?_
   refine px_rd' rfl (rd_assign' rfl) rfl rfl (wt_none' rfl) ?_
   refine px_nil' ?_
   show TX E K12 _
   refine tx_k' hK12 ?_
   refine cx_retc' ?_
   replace hp := Option.some.inj hp
   subst hp
   refine tx_cell' 0 4 (y := (Sl (Ki .i64) [])) rfl rfl imp_nil (H' := [⟨.pointer (some q49), [(Vi r52.1), (Vi r52.2.1), (Sl Kf r52.2.2.1), (Vi r52.2.2.2), (Sl (Ki .i64) [])], 137, none⟩, ⟨.pointer (some q1), [(Vi a0_0), (Vi a0_1), (Vi a0_2), (Sl Kf a0_3), (Sl (Ki .i64) a0_4), (Sl (Kl (Ki .i64)) a0_5), (Sl KT38 a0_6)], 38, none⟩]) rfl ?_
   refine tx_pick' (L' := [(2, (If 101 (Vp q49)))]) (H' := [⟨.pointer (some q49), [(Vi r52.1), (Vi r52.2.1), (Sl Kf r52.2.2.1), (Vi r52.2.2.2), (Sl (Ki .i64) [])], 137, none⟩]) [0] (sub_cons rfl sub_nil) (by decide) (pick_cons rfl pick_nil) ?_
   exact tx_ret1' Tryz.results19 rfl q49 (rv_tmp' rfl) (List.Sublist.refl _)
  dsimp only at hp
  refine px_ox' rfl (ox_calln' (ent_fn' Tryz.func46 isn46 rfl rfl) (impl_ints_sim _ hr48 : Sx.Fn Tryz.prog 46 [(Sl (Ki .i64) a0_4)] [] (fun x : Unit => (Sl (Ki .i64) y4)) (fun x => [])) (Hn := fun x : Unit => [⟨.pointer (some q1), [(Vi a0_0), (Vi a0_1), (Vi a0_2), (Sl Kf a0_3), (Sl (Ki .i64) a0_4), (Sl (Kl (Ki .i64)) a0_5), (Sl KT38 a0_6)], 38, none⟩]) (fun _ => rfl) rfl rfl) rfl bs_nil (wt_none' rfl) fun ⟨⟩ => ?_
  obtain ⟨r49, hr49, hp⟩ := bind_some hp
  refine px_ox' rfl (ox_calln' (ent_fn' Tryz.func45 isn45 rfl rfl) (gogeom_NewPolygonFlat_v2_sim _ _ _ hr49 : Sx.Fn Tryz.prog 45 [(Vi a0_1), (Sl Kf r12), (Sl (Ki .i64) y4)] [] (fun x : Addr => (Vp x)) (fun x => [⟨.pointer (some x), [(Vi r49.1), (Vi r49.2.1), (Sl Kf r49.2.2.1), (Vi r49.2.2.2.1), (Sl (Ki .i64) r49.2.2.2.2)], 137, none⟩])) (Hn := fun x : Addr => [⟨.pointer (some x), [(Vi r49.1), (Vi r49.2.1), (Sl Kf r49.2.2.1), (Vi r49.2.2.2.1), (Sl (Ki .i64) r49.2.2.2.2)], 137, none⟩, ⟨.pointer (some q1), [(Vi a0_0), (Vi a0_1), (Vi a0_2), (Sl Kf a0_3), (Sl (Ki .i64) a0_4), (Sl (Kl (Ki .i64)) a0_5), (Sl KT38 a0_6)], 38, none⟩]) (fun _ => rfl) rfl rfl) rfl bs_nil (wt_none' rfl) fun q49 => ?_
  obtain ⟨r52, hr52, hp⟩ := bind_some hp
  refine px_oxb' (is := [0]) rfl (oxb_callg (ent_fn' Tryz.func47 isn47 rfl rfl) (gogeom_Polygon_SetSRID_v2_sim _ _ _ _ _ _ hr52 : Sx.Fn Tryz.prog 47 [(Vp q49), (Vi a0_2)] [⟨.pointer (some q49), [(Vi r49.1), (Vi r49.2.1), (Sl Kf r49.2.2.1), (Vi r49.2.2.2.1), (Sl (Ki .i64) r49.2.2.2.2)], 137, none⟩] (fun x : Unit => (Vp q49)) (fun x => [⟨.pointer (some q49), [(Vi r52.1), (Vi r52.2.1), (Sl Kf r52.2.2.1), (Vi r52.2.2.2.1), (Sl (Ki .i64) r52.2.2.2.2)], 137, none⟩])) [0] [1] (by decide) (pick_cons rfl pick_nil) (pick_cons rfl pick_nil) (Hn := fun x : Unit => [⟨.pointer (some q49), [(Vi r52.1), (Vi r52.2.1), (Sl Kf r52.2.2.1), (Vi r52.2.2.2.1), (Sl (Ki .i64) r52.2.2.2.2)], 137, none⟩, ⟨.pointer (some q1), [(Vi a0_0), (Vi a0_1), (Vi a0_2), (Sl Kf a0_3), (Sl (Ki .i64) a0_4), (Sl (Kl (Ki .i64)) a0_5), (Sl KT38 a0_6)], 38, none⟩]) (fun _ => rfl) rfl rfl) (pick_cons rfl pick_nil) rfl bl_nil (wt_none' rfl) fun ⟨⟩ => ?_
  refine px_rd' rfl (rd_iface' rfl ⟨_, Tryz.underlying101, fun _ h => (nomatch h)⟩) rfl rfl (wt_none' rfl) ?_
  refine px_rd' rfl (rd_assign' rfl) rfl rfl (wt_none' rfl) ?_
  refine px_nil' ?_
  show TX E K12 _
  refine tx_k' hK12 ?_
  refine cx_retc' ?_
  replace hp := Option.some.inj hp
  subst hp
  refine tx_pick' (L' := [(2, (If 101 (Vp q49)))]) (H' := [⟨.pointer (some q49), [(Vi r52.1), (Vi r52.2.1), (Sl Kf r52.2.2.1), (Vi r52.2.2.2.1), (Sl (Ki .i64) r52.2.2.2.2)], 137, none⟩]) [0] (sub_cons rfl sub_nil) (by decide) (pick_cons rfl pick_nil) ?_
  exact tx_ret1' Tryz.results19 rfl q49 (rv_tmp' rfl) (List.Sublist.refl _)
 replace hp := (br_f h4).symm.trans hp
 refine cr fun K13 hK13 => ?_
 refine s0 (rd_bin' rfl rfl eg_int ru_eql) ?_
 refine s0 (rd_assign' rfl) ?_
 refine nk hK13 ?_
 refine cx_cond' rfl (fun h5 => ?_) (fun h5 => ?_)
 ·replace hp := (br_t h5).symm.trans hp
  refine cx_seq' fun K14 hK14 => ?_
  refine cx_plan' [q1.block] [(7, 1), (10, 1)] [(0, 1), (1, 1), (2, 1), (3, 1), (8, 2), (9, 2), (4, 0), (5, 0), (6, 0), (7, 0), (10, 0), (11, 1), (12, 1)] mixed (by kernel_rfl) ?_
  refine px_rd' rfl (rd_move' rfl) rfl rfl (wt_none' rfl) ?_
  refine px_rd' rfl (rd_move' rfl) rfl rfl (wt_none' rfl) ?_
  refine px_rd' rfl (rd_field' (off := 4) rfl Tryz.underlying38 rfl info35 rfl) rfl rfl (wt_none' rfl) ?_
  refine px_rd' rfl (rd_load' (i := 0) (o := 4) rfl ⟨rfl, rfl, rfl, rfl⟩ rfl flat35) rfl rfl (wt_none' rfl) ?_
  refine px_rb' rfl (rb_field' (off := 2) rfl Tryz.underlying38 rfl info3 rfl) rfl rfl (wt_none' rfl) ?_
  refine px_rb' rfl (rb_load' (i := 0) (o := 2) rfl ⟨rfl, rfl, rfl, rfl⟩ rfl flat3 (by simp)) rfl rfl (wt_none' rfl) ?_
  obtain ⟨r60, hr60, hp⟩ := bind_some hp
  rcases r60 with y6 | y6
  ·dsimp only at hp
   refine px_ox' rfl (ox_calln' (ent_fn' Tryz.func46 isn46 rfl rfl) (impl_ints_sim _ hr60 : Sx.Fn Tryz.prog 46 [(Sl (Ki .i64) a0_4)] [] (fun x : Unit => Vn) (fun x => [])) (Hn := fun x : Unit => [⟨.pointer (some q1), [(Vi a0_0), (Vi a0_1), (Vi a0_2), (Sl Kf a0_3), (Sl (Ki .i64) a0_4), (Sl (Kl (Ki .i64)) a0_5), (Sl KT38 a0_6)], 38, none⟩]) (fun _ => rfl) rfl rfl) rfl (bs_cons (m := 0) rfl rfl rfl bs_nil) (wt_none' rfl) fun ⟨⟩ => ?_
   obtain ⟨r61, hr61, hp⟩ := bind_some hp
   refine px_ox' rfl (ox_calln' (ent_fn' Tryz.func49 isn49 rfl rfl) (gogeom_NewMultiPointFlatOptionWithEnds_sim hr61 : Sx.Fn Tryz.prog 49 [Vn] [] (fun x : Addr => (Vl (.func (.func 74) #[] ⟨[.pointer (some x)]⟩))) (fun x => [⟨.pointer (some x), [Vn], 35, none⟩])) (Hn := fun x : Addr => [⟨.pointer (some x), [Vn], 35, none⟩, ⟨.pointer (some q1), [(Vi a0_0), (Vi a0_1), (Vi a0_2), (Sl Kf a0_3), (Sl (Ki .i64) a0_4), (Sl (Kl (Ki .i64)) a0_5), (Sl KT38 a0_6)], 38, none⟩]) (fun _ => rfl) rfl rfl) rfl (bs_cons (m := 0) rfl rfl rfl bs_nil) (wt_none' rfl) fun q61 => ?_
   refine px_ox' rfl (ox_srow' (es := 1) (r := [(Vl (.func (.func 74) #[] ⟨[.pointer (some q61)]⟩))]) (qs := [(0, [(Vl (.func (.func 74) #[] ⟨[.pointer (some q61)]⟩))])]) ⟨rfl, ⟨_, rfl, (lv_vl rfl rfl)⟩, trivial⟩ Tryz.underlying138 info108 rfl rfl rfl rfl rfl rfl rfl rfl rfl) rfl (bs_cons (m := 1) rfl rfl rfl bs_nil) (wt_none' rfl) fun q62 => ?_
   obtain ⟨r63, hr63, hp⟩ := bind_some hp
   refine px_oxb' (is := [0, 1]) rfl (oxb_callg (ent_fn' Tryz.func48 isn48 rfl rfl) (gogeom_NewMultiPointFlat_sim _ _ hr63 : Sx.Fn Tryz.prog 48 [(Vi a0_1), (Sl Kf r12), (Vl (.slice (some q62) 1 1))] [⟨.slice (some q62) 1 1, [(Vl (.func (.func 74) #[] ⟨[.pointer (some q61)]⟩))], 108, some 1⟩, ⟨.pointer (some q61), [Vn], 35, none⟩] (fun x : Addr × Gs => (Vp x.1)) (fun x => [⟨.pointer (some q61), [Vn], 35, none⟩, ⟨.pointer (some x.1), [(Vi r63.1), (Vi r63.2.1), (Sl Kf r63.2.2.1), (Vi r63.2.2.2.1), (Vl (Vs x.2))], 139, none⟩, (Rw (Ki .i64) 3 (Vs x.2) r63.2.2.2.2)])) [0, 1] [2] (by decide) (pick_cons rfl (pick_cons rfl pick_nil)) (pick_cons rfl pick_nil) (Hn := fun x : Addr × Gs => [⟨.pointer (some q61), [Vn], 35, none⟩, ⟨.pointer (some x.1), [(Vi r63.1), (Vi r63.2.1), (Sl Kf r63.2.2.1), (Vi r63.2.2.2.1), (Vl (Vs x.2))], 139, none⟩, (Rw (Ki .i64) 3 (Vs x.2) r63.2.2.2.2), ⟨.pointer (some q1), [(Vi a0_0), (Vi a0_1), (Vi a0_2), (Sl Kf a0_3), (Sl (Ki .i64) a0_4), (Sl (Kl (Ki .i64)) a0_5), (Sl KT38 a0_6)], 38, none⟩]) (fun _ => rfl) rfl rfl) (pick_cons rfl (pick_cons rfl pick_nil)) rfl (bl_cons (m := 2) (by decide) rfl rfl bl_nil) (wt_none' rfl) fun ⟨q63, g63⟩ => ?_
   obtain ⟨r66, hr66, hp⟩ := bind_some hp
   refine px_oxb' (is := [1, 2]) rfl (oxb_callg (ent_fn' Tryz.func50 isn50 rfl rfl) (gogeom_MultiPoint_SetSRID_sim _ _ _ _ _ _ hr66 : Sx.Fn Tryz.prog 50 [(Vp q63), (Vi a0_2)] [⟨.pointer (some q63), [(Vi r63.1), (Vi r63.2.1), (Sl Kf r63.2.2.1), (Vi r63.2.2.2.1), (Vl (Vs g63))], 139, none⟩, (Rw (Ki .i64) 3 (Vs g63) r63.2.2.2.2)] (fun x : Unit => (Vp q63)) (fun x => [⟨.pointer (some q63), [(Vi r66.1), (Vi r66.2.1), (Sl Kf r66.2.2.1), (Vi r66.2.2.2.1), (Vl (Vs g63))], 139, none⟩, (Rw (Ki .i64) 3 (Vs g63) r66.2.2.2.2)])) [1, 2] [0, 3] (by decide) (pick_cons rfl (pick_cons rfl pick_nil)) (pick_cons rfl (pick_cons rfl pick_nil)) (Hn := fun x : Unit => [⟨.pointer (some q63), [(Vi r66.1), (Vi r66.2.1), (Sl Kf r66.2.2.1), (Vi r66.2.2.2.1), (Vl (Vs g63))], 139, none⟩, (Rw (Ki .i64) 3 (Vs g63) r66.2.2.2.2), ⟨.pointer (some q61), [Vn], 35, none⟩, ⟨.pointer (some q1), [(Vi a0_0), (Vi a0_1), (Vi a0_2), (Sl Kf a0_3), (Sl (Ki .i64) a0_4), (Sl (Kl (Ki .i64)) a0_5), (Sl KT38 a0_6)], 38, none⟩]) (fun _ => rfl) rfl rfl) (pick_cons rfl (pick_cons rfl pick_nil)) rfl (bl_cons (m := 3) (by decide) rfl rfl bl_nil) (wt_none' rfl) fun ⟨⟩ => ?_
   refine px_rd' rfl (rd_iface' rfl ⟨_, Tryz.underlying105, fun _ h => (nomatch h)⟩) rfl rfl (wt_none' rfl) ?_
   refine px_rd' rfl (rd_assign' rfl) rfl rfl (wt_none' rfl) ?_
   refine px_nil' ?_
   show TX E K14 _
   refine tx_k' hK14 ?_
   refine cx_retc' ?_
   refine tx_fz' (frz_row 1 [] (K := (Ki .i64)) (xs := r66.2.2.2.2) (by decide) rfl trivial (H' := [⟨.pointer (some q63), [(Vi r66.1), (Vi r66.2.1), (Sl Kf r66.2.2.1), (Vi r66.2.2.2.1), (Sl (Ki .i64) r66.2.2.2.2)], 139, none⟩, ⟨.pointer (some q61), [Vn], 35, none⟩, ⟨.pointer (some q1), [(Vi a0_0), (Vi a0_1), (Vi a0_2), (Sl Kf a0_3), (Sl (Ki .i64) a0_4), (Sl (Kl (Ki .i64)) a0_5), (Sl KT38 a0_6)], 38, none⟩]) (frzH_cons rfl rfl rfl (frzL_cons frz_same (frzL_cons frz_same (frzL_cons frz_same (frzL_cons frz_same (frzL_cons frz_it frzL_refl))))) (frzH_cons rfl rfl rfl frzL_refl (frzH_cons rfl rfl rfl frzL_refl frzH_refl)))) ?_
   replace hp := Option.some.inj hp
   subst hp
   refine tx_pick' (L' := [(2, (If 105 (Vp q63)))]) (H' := [⟨.pointer (some q63), [(Vi r66.1), (Vi r66.2.1), (Sl Kf r66.2.2.1), (Vi r66.2.2.2.1), (Sl (Ki .i64) r66.2.2.2.2)], 139, none⟩]) [0] (sub_cons rfl sub_nil) (by decide) (pick_cons rfl pick_nil) ?_
   exact tx_ret1' Tryz.results19 rfl q63 (rv_tmp' rfl) (List.Sublist.refl _)
  dsimp only at hp
  refine px_ox' rfl (ox_calln' (ent_fn' Tryz.func46 isn46 rfl rfl) (impl_ints_sim _ hr60 : Sx.Fn Tryz.prog 46 [(Sl (Ki .i64) a0_4)] [] (fun x : Unit => (Sl (Ki .i64) y6)) (fun x => [])) (Hn := fun x : Unit => [⟨.pointer (some q1), [(Vi a0_0), (Vi a0_1), (Vi a0_2), (Sl Kf a0_3), (Sl (Ki .i64) a0_4), (Sl (Kl (Ki .i64)) a0_5), (Sl KT38 a0_6)], 38, none⟩]) (fun _ => rfl) rfl rfl) rfl (bs_cons (m := 0) rfl rfl rfl bs_nil) (wt_none' rfl) fun ⟨⟩ => ?_
  obtain ⟨r61, hr61, hp⟩ := bind_some hp
  refine px_ox' rfl (ox_calln' (ent_fn' Tryz.func49 isn49 rfl rfl) (gogeom_NewMultiPointFlatOptionWithEnds_v2_sim _ hr61 : Sx.Fn Tryz.prog 49 [(Sl (Ki .i64) y6)] [] (fun x : Addr => (Vl (.func (.func 74) #[] ⟨[.pointer (some x)]⟩))) (fun x => [⟨.pointer (some x), [(Sl (Ki .i64) r61)], 35, none⟩])) (Hn := fun x : Addr => [⟨.pointer (some x), [(Sl (Ki .i64) r61)], 35, none⟩, ⟨.pointer (some q1), [(Vi a0_0), (Vi a0_1), (Vi a0_2), (Sl Kf a0_3), (Sl (Ki .i64) a0_4), (Sl (Kl (Ki .i64)) a0_5), (Sl KT38 a0_6)], 38, none⟩]) (fun _ => rfl) rfl rfl) rfl (bs_cons (m := 0) rfl rfl rfl bs_nil) (wt_none' rfl) fun q61 => ?_
  refine px_ox' rfl (ox_srow' (es := 1) (r := [(Vl (.func (.func 74) #[] ⟨[.pointer (some q61)]⟩))]) (qs := [(0, [(Vl (.func (.func 74) #[] ⟨[.pointer (some q61)]⟩))])]) ⟨rfl, ⟨_, rfl, (lv_vl rfl rfl)⟩, trivial⟩ Tryz.underlying138 info108 rfl rfl rfl rfl rfl rfl rfl rfl rfl) rfl (bs_cons (m := 1) rfl rfl rfl bs_nil) (wt_none' rfl) fun q62 => ?_
  obtain ⟨r63, hr63, hp⟩ := bind_some hp
  refine px_oxb' (is := [0, 1]) rfl (oxb_callg (ent_fn' Tryz.func48 isn48 rfl rfl) (gogeom_NewMultiPointFlat_v2_sim _ _ _ hr63 : Sx.Fn Tryz.prog 48 [(Vi a0_1), (Sl Kf r12), (Vl (.slice (some q62) 1 1))] [⟨.slice (some q62) 1 1, [(Vl (.func (.func 74) #[] ⟨[.pointer (some q61)]⟩))], 108, some 1⟩, ⟨.pointer (some q61), [(Sl (Ki .i64) r61)], 35, none⟩] (fun x : Addr => (Vp x)) (fun x => [⟨.pointer (some q61), [(Sl (Ki .i64) r63.1)], 35, none⟩, ⟨.pointer (some x), [(Vi r63.2.1), (Vi r63.2.2.1), (Sl Kf r63.2.2.2.1), (Vi r63.2.2.2.2), (Sl (Ki .i64) r63.1)], 139, none⟩])) [0, 1] [2] (by decide) (pick_cons rfl (pick_cons rfl pick_nil)) (pick_cons rfl pick_nil) (Hn := fun x : Addr => [⟨.pointer (some q61), [(Sl (Ki .i64) r63.1)], 35, none⟩, ⟨.pointer (some x), [(Vi r63.2.1), (Vi r63.2.2.1), (Sl Kf r63.2.2.2.1), (Vi r63.2.2.2.2), (Sl (Ki .i64) r63.1)], 139, none⟩, ⟨.pointer (some q1), [(Vi a0_0), (Vi a0_1), (Vi a0_2), (Sl Kf a0_3), (Sl (Ki .i64) a0_4), (Sl (Kl (Ki .i64)) a0_5), (Sl KT38 a0_6)], 38, none⟩]) (fun _ => rfl) rfl rfl) (pick_cons rfl (pick_cons rfl pick_nil)) rfl (bl_cons (m := 2) (by decide) rfl rfl bl_nil) (wt_none' rfl) fun q63 => ?_
  obtain ⟨r66, hr66, hp⟩ := bind_some hp
  refine px_oxb' (is := [1]) rfl (oxb_callg (ent_fn' Tryz.func50 isn50 rfl rfl) (gogeom_MultiPoint_SetSRID_v2_sim _ _ _ _ _ _ hr66 : Sx.Fn Tryz.prog 50 [(Vp q63), (Vi a0_2)] [⟨.pointer (some q63), [(Vi r63.2.1), (Vi r63.2.2.1), (Sl Kf r63.2.2.2.1), (Vi r63.2.2.2.2), (Sl (Ki .i64) r63.1)], 139, none⟩] (fun x : Unit => (Vp q63)) (fun x => [⟨.pointer (some q63), [(Vi r66.1), (Vi r66.2.1), (Sl Kf r66.2.2.1), (Vi r66.2.2.2.1), (Sl (Ki .i64) r66.2.2.2.2)], 139, none⟩])) [1] [0, 2] (by decide) (pick_cons rfl pick_nil) (pick_cons rfl (pick_cons rfl pick_nil)) (Hn := fun x : Unit => [⟨.pointer (some q63), [(Vi r66.1), (Vi r66.2.1), (Sl Kf r66.2.2.1), (Vi r66.2.2.2.1), (Sl (Ki .i64) r66.2.2.2.2)], 139, none⟩, ⟨.pointer (some q61), [(Sl (Ki .i64) r63.1)], 35, none⟩, ⟨.pointer (some q1), [(Vi a0_0), (Vi a0_1), (Vi a0_2), (Sl Kf a0_3), (Sl (Ki .i64) a0_4), (Sl (Kl (Ki .i64)) a0_5), (Sl KT38 a0_6)], 38, none⟩]) (fun _ => rfl) rfl rfl) (pick_cons rfl pick_nil) rfl (bl_cons (m := 2) (by decide) rfl rfl bl_nil) (wt_none' rfl) fun ⟨⟩ => ?_
  refine px_rd' rfl (rd_iface' rfl ⟨_, Tryz.underlying105, fun _ h => (nomatch h)⟩) rfl rfl (wt_none' rfl) ?_
  refine px_rd' rfl (rd_assign' rfl) rfl rfl (wt_none' rfl) ?_
  refine px_nil' ?_
  show TX E K14 _
  refine tx_k' hK14 ?_
  refine cx_retc' ?_
  replace hp := Option.some.inj hp
  subst hp
  refine tx_pick' (L' := [(2, (If 105 (Vp q63)))]) (H' := [⟨.pointer (some q63), [(Vi r66.1), (Vi r66.2.1), (Sl Kf r66.2.2.1), (Vi r66.2.2.2.1), (Sl (Ki .i64) r66.2.2.2.2)], 139, none⟩]) [0] (sub_cons rfl sub_nil) (by decide) (pick_cons rfl pick_nil) ?_
  exact tx_ret1' Tryz.results19 rfl q63 (rv_tmp' rfl) (List.Sublist.refl _)
 replace hp := (br_f h5).symm.trans hp
 refine cr fun K15 hK15 => ?_
 refine s0 (rd_bin' rfl rfl eg_int ru_eql) ?_
 refine s0 (rd_assign' rfl) ?_
 refine nk hK15 ?_
 refine cx_cond' rfl (fun h6 => ?_) (fun h6 => ?_)
 ·replace hp := (br_t h6).symm.trans hp
  refine cx_seq' fun K16 hK16 => ?_
  refine cx_plan' [] [(8, 1)] [(0, 1), (1, 1), (2, 1), (3, 1), (6, 1), (7, 1), (4, 0), (5, 0), (8, 0), (9, 1), (10, 1)] mixed (by kernel_rfl) ?_
  refine px_rd' rfl (rd_move' rfl) rfl rfl (wt_none' rfl) ?_
  refine px_rd' rfl (rd_move' rfl) rfl rfl (wt_none' rfl) ?_
  refine px_rd' rfl (rd_field' (off := 4) rfl Tryz.underlying38 rfl info35 rfl) rfl rfl (wt_none' rfl) ?_
  refine px_rd' rfl (rd_load' (i := 0) (o := 4) rfl ⟨rfl, rfl, rfl, rfl⟩ rfl flat35) rfl rfl (wt_none' rfl) ?_
  refine px_rd' rfl (rd_field' (off := 2) rfl Tryz.underlying38 rfl info3 rfl) rfl rfl (wt_none' rfl) ?_
  refine px_rd' rfl (rd_load' (i := 0) (o := 2) rfl ⟨rfl, rfl, rfl, rfl⟩ rfl flat3) rfl rfl (wt_none' rfl) ?_
  obtain ⟨r74, hr74, hp⟩ := bind_some hp
  rcases r74 with y10 | y10
  ·dsimp only at hp
   refine px_ox' rfl (ox_calln' (ent_fn' Tryz.func46 isn46 rfl rfl) (impl_ints_sim _ hr74 : Sx.Fn Tryz.prog 46 [(Sl (Ki .i64) a0_4)] [] (fun x : Unit => Vn) (fun x => [])) (Hn := fun x : Unit => [⟨.pointer (some q1), [(Vi a0_0), (Vi a0_1), (Vi a0_2), (Sl Kf a0_3), (Sl (Ki .i64) a0_4), (Sl (Kl (Ki .i64)) a0_5), (Sl KT38 a0_6)], 38, none⟩]) (fun _ => rfl) rfl rfl) rfl bs_nil (wt_none' rfl) fun ⟨⟩ => ?_
   obtain ⟨r75, hr75, hp⟩ := bind_some hp
   refine px_ox' rfl (ox_calln' (ent_fn' Tryz.func51 isn51 rfl rfl) (gogeom_NewMultiLineStringFlat_sim _ _ hr75 : Sx.Fn Tryz.prog 51 [(Vi a0_1), (Sl Kf r12), Vn] [] (fun x : Addr => (Vp x)) (fun x => [⟨.pointer (some x), [(Vi r75.1), (Vi r75.2.1), (Sl Kf r75.2.2.1), (Vi r75.2.2.2), Vn], 140, none⟩])) (Hn := fun x : Addr => [⟨.pointer (some x), [(Vi r75.1), (Vi r75.2.1), (Sl Kf r75.2.2.1), (Vi r75.2.2.2), Vn], 140, none⟩, ⟨.pointer (some q1), [(Vi a0_0), (Vi a0_1), (Vi a0_2), (Sl Kf a0_3), (Sl (Ki .i64) a0_4), (Sl (Kl (Ki .i64)) a0_5), (Sl KT38 a0_6)], 38, none⟩]) (fun _ => rfl) rfl rfl) rfl bs_nil (wt_none' rfl) fun q75 => ?_
   obtain ⟨r78, hr78, hp⟩ := bind_some hp
   refine px_oxb' (is := [0]) rfl (oxb_callg (ent_fn' Tryz.func52 isn52 rfl rfl) (gogeom_MultiLineString_SetSRID_sim _ _ _ _ _ hr78 : Sx.Fn Tryz.prog 52 [(Vp q75), (Vi a0_2)] [⟨.pointer (some q75), [(Vi r75.1), (Vi r75.2.1), (Sl Kf r75.2.2.1), (Vi r75.2.2.2), Vn], 140, none⟩] (fun x : Unit => (Vp q75)) (fun x => [⟨.pointer (some q75), [(Vi r78.1), (Vi r78.2.1), (Sl Kf r78.2.2.1), (Vi r78.2.2.2), Vn], 140, none⟩])) [0] [1] (by decide) (pick_cons rfl pick_nil) (pick_cons rfl pick_nil) (Hn := fun x : Unit => [⟨.pointer (some q75), [(Vi r78.1), (Vi r78.2.1), (Sl Kf r78.2.2.1), (Vi r78.2.2.2), Vn], 140, none⟩, ⟨.pointer (some q1), [(Vi a0_0), (Vi a0_1), (Vi a0_2), (Sl Kf a0_3), (Sl (Ki .i64) a0_4), (Sl (Kl (Ki .i64)) a0_5), (Sl KT38 a0_6)], 38, none⟩]) (fun _ => rfl) rfl rfl) (pick_cons rfl pick_nil) rfl bl_nil (wt_none' rfl) fun ⟨⟩ => ?_
   refine px_rd' rfl (rd_iface' rfl ⟨_, Tryz.underlying111, fun _ h => (nomatch h)⟩) rfl rfl (wt_none' rfl) ?_
   refine px_rd' rfl (rd_assign' rfl) rfl rfl (wt_none' rfl) ?_
   refine px_nil' ?_
   show TX E K16 _
   refine tx_k' hK16 ?_
   refine cx_retc' ?_
   replace hp := Option.some.inj hp
   subst hp
   refine tx_cell' 0 4 (y := (Sl (Ki .i64) [])) rfl rfl imp_nil (H' := [⟨.pointer (some q75), [(Vi r78.1), (Vi r78.2.1), (Sl Kf r78.2.2.1), (Vi r78.2.2.2), (Sl (Ki .i64) [])], 140, none⟩, ⟨.pointer (some q1), [(Vi a0_0), (Vi a0_1), (Vi a0_2), (Sl Kf a0_3), (Sl (Ki .i64) a0_4), (Sl (Kl (Ki .i64)) a0_5), (Sl KT38 a0_6)], 38, none⟩]) rfl ?_
   refine tx_pick' (L' := [(2, (If 111 (Vp q75)))]) (H' := [⟨.pointer (some q75), [(Vi r78.1), (Vi r78.2.1), (Sl Kf r78.2.2.1), (Vi r78.2.2.2), (Sl (Ki .i64) [])], 140, none⟩]) [0] (sub_cons rfl sub_nil) (by decide) (pick_cons rfl pick_nil) ?_
   exact tx_ret1' Tryz.results19 rfl q75 (rv_tmp' rfl) (List.Sublist.refl _)
  dsimp only at hp
  refine px_ox' rfl (ox_calln' (ent_fn' Tryz.func46 isn46 rfl rfl) (impl_ints_sim _ hr74 : Sx.Fn Tryz.prog 46 [(Sl (Ki .i64) a0_4)] [] (fun x : Unit => (Sl (Ki .i64) y10)) (fun x => [])) (Hn := fun x : Unit => [⟨.pointer (some q1), [(Vi a0_0), (Vi a0_1), (Vi a0_2), (Sl Kf a0_3), (Sl (Ki .i64) a0_4), (Sl (Kl (Ki .i64)) a0_5), (Sl KT38 a0_6)], 38, none⟩]) (fun _ => rfl) rfl rfl) rfl bs_nil (wt_none' rfl) fun ⟨⟩ => ?_
  obtain ⟨r75, hr75, hp⟩ := bind_some hp
  refine px_ox' rfl (ox_calln' (ent_fn' Tryz.func51 isn51 rfl rfl) (gogeom_NewMultiLineStringFlat_v2_sim _ _ _ hr75 : Sx.Fn Tryz.prog 51 [(Vi a0_1), (Sl Kf r12), (Sl (Ki .i64) y10)] [] (fun x : Addr => (Vp x)) (fun x => [⟨.pointer (some x), [(Vi r75.1), (Vi r75.2.1), (Sl Kf r75.2.2.1), (Vi r75.2.2.2.1), (Sl (Ki .i64) r75.2.2.2.2)], 140, none⟩])) (Hn := fun x : Addr => [⟨.pointer (some x), [(Vi r75.1), (Vi r75.2.1), (Sl Kf r75.2.2.1), (Vi r75.2.2.2.1), (Sl (Ki .i64) r75.2.2.2.2)], 140, none⟩, ⟨.pointer (some q1), [(Vi a0_0), (Vi a0_1), (Vi a0_2), (Sl Kf a0_3), (Sl (Ki .i64) a0_4), (Sl (Kl (Ki .i64)) a0_5), (Sl KT38 a0_6)], 38, none⟩]) (fun _ => rfl) rfl rfl) rfl bs_nil (wt_none' rfl) fun q75 => ?_
  obtain ⟨r78, hr78, hp⟩ := bind_some hp
  refine px_oxb' (is := [0]) rfl (oxb_callg (ent_fn' Tryz.func52 isn52 rfl rfl) (gogeom_MultiLineString_SetSRID_v2_sim _ _ _ _ _ _ hr78 : Sx.Fn Tryz.prog 52 [(Vp q75), (Vi a0_2)] [⟨.pointer (some q75), [(Vi r75.1), (Vi r75.2.1), (Sl Kf r75.2.2.1), (Vi r75.2.2.2.1), (Sl (Ki .i64) r75.2.2.2.2)], 140, none⟩] (fun x : Unit => (Vp q75)) (fun x => [⟨.pointer (some q75), [(Vi r78.1), (Vi r78.2.1), (Sl Kf r78.2.2.1), (Vi r78.2.2.2.1), (Sl (Ki .i64) r78.2.2.2.2)], 140, none⟩])) [0] [1] (by decide) (pick_cons rfl pick_nil) (pick_cons rfl pick_nil) (Hn := fun x : Unit => [⟨.pointer (some q75), [(Vi r78.1), (Vi r78.2.1), (Sl Kf r78.2.2.1), (Vi r78.2.2.2.1), (Sl (Ki .i64) r78.2.2.2.2)], 140, none⟩, ⟨.pointer (some q1), [(Vi a0_0), (Vi a0_1), (Vi a0_2), (Sl Kf a0_3), (Sl (Ki .i64) a0_4), (Sl (Kl (Ki .i64)) a0_5), (Sl KT38 a0_6)], 38, none⟩]) (fun _ => rfl) rfl rfl) (pick_cons rfl pick_nil) rfl bl_nil (wt_none' rfl) fun ⟨⟩ => ?_
  refine px_rd' rfl (rd_iface' rfl ⟨_, Tryz.underlying111, fun _ h => (nomatch h)⟩) rfl rfl (wt_none' rfl) ?_
  refine px_rd' rfl (rd_assign' rfl) rfl rfl (wt_none' rfl) ?_
  refine px_nil' ?_
  show TX E K16 _
  refine tx_k' hK16 ?_
  refine cx_retc' ?_
  replace hp := Option.some.inj hp
  subst hp
  refine tx_pick' (L' := [(2, (If 111 (Vp q75)))]) (H' := [⟨.pointer (some q75), [(Vi r78.1), (Vi r78.2.1), (Sl Kf r78.2.2.1), (Vi r78.2.2.2.1), (Sl (Ki .i64) r78.2.2.2.2)], 140, none⟩]) [0] (sub_cons rfl sub_nil) (by decide) (pick_cons rfl pick_nil) ?_
  exact tx_ret1' Tryz.results19 rfl q75 (rv_tmp' rfl) (List.Sublist.refl _)
 replace hp := (br_f h6).symm.trans hp
 refine cr fun K17 hK17 => ?_
 refine s0 (rd_bin' rfl rfl eg_int ru_eql) ?_
 refine s0 (rd_assign' rfl) ?_
 refine nk hK17 ?_
 refine cx_cond' rfl (fun h7 => ?_) (fun h7 => ?_)
 ·replace hp := (br_t h7).symm.trans hp
  refine cx_seq' fun K18 hK18 => ?_
  refine cx_plan' [] [(8, 1)] [(0, 1), (1, 1), (2, 1), (3, 1), (6, 1), (7, 1), (4, 0), (5, 0), (8, 0), (9, 1), (10, 1)] mixed (by kernel_rfl) ?_
  refine px_rd' rfl (rd_move' rfl) rfl rfl (wt_none' rfl) ?_
  refine px_rd' rfl (rd_move' rfl) rfl rfl (wt_none' rfl) ?_
  refine px_rd' rfl (rd_field' (off := 5) rfl Tryz.underlying38 rfl info36 rfl) rfl rfl (wt_none' rfl) ?_
  refine px_rd' rfl (rd_load' (i := 0) (o := 5) rfl ⟨rfl, rfl, rfl, rfl⟩ rfl flat36) rfl rfl (wt_none' rfl) ?_
  refine px_rd' rfl (rd_field' (off := 2) rfl Tryz.underlying38 rfl info3 rfl) rfl rfl (wt_none' rfl) ?_
  refine px_rd' rfl (rd_load' (i := 0) (o := 2) rfl ⟨rfl, rfl, rfl, rfl⟩ rfl flat3) rfl rfl (wt_none' rfl) ?_
  obtain ⟨r86, hr86, hp⟩ := bind_some hp
  refine px_ox' rfl (ox_calln' (ent_fn' Tryz.func54 isn54 rfl rfl) (impl_intss_sim _ hr86 : Sx.Fn Tryz.prog 54 [(Sl (Kl (Ki .i64)) a0_5)] [] (fun x : Unit => (Sl (Kl (Ki .i64)) r86)) (fun x => [])) (Hn := fun x : Unit => [⟨.pointer (some q1), [(Vi a0_0), (Vi a0_1), (Vi a0_2), (Sl Kf a0_3), (Sl (Ki .i64) a0_4), (Sl (Kl (Ki .i64)) a0_5), (Sl KT38 a0_6)], 38, none⟩]) (fun _ => rfl) rfl rfl) rfl bs_nil (wt_none' rfl) fun ⟨⟩ => ?_
  obtain ⟨r87, hr87, hp⟩ := bind_some hp
  refine px_ox' rfl (ox_calln' (ent_fn' Tryz.func53 isn53 rfl rfl) (gogeom_NewMultiPolygonFlat_sim _ _ _ hr87 : Sx.Fn Tryz.prog 53 [(Vi a0_1), (Sl Kf r12), (Sl (Kl (Ki .i64)) r86)] [] (fun x : Addr => (Vp x)) (fun x => [⟨.pointer (some x), [(Vi r87.1), (Vi r87.2.1), (Sl Kf r87.2.2.1), (Vi r87.2.2.2.1), (Sl (Kl (Ki .i64)) r87.2.2.2.2)], 144, none⟩])) (Hn := fun x : Addr => [⟨.pointer (some x), [(Vi r87.1), (Vi r87.2.1), (Sl Kf r87.2.2.1), (Vi r87.2.2.2.1), (Sl (Kl (Ki .i64)) r87.2.2.2.2)], 144, none⟩, ⟨.pointer (some q1), [(Vi a0_0), (Vi a0_1), (Vi a0_2), (Sl Kf a0_3), (Sl (Ki .i64) a0_4), (Sl (Kl (Ki .i64)) a0_5), (Sl KT38 a0_6)], 38, none⟩]) (fun _ => rfl) rfl rfl) rfl bs_nil (wt_none' rfl) fun q87 => ?_
  obtain ⟨r90, hr90, hp⟩ := bind_some hp
  refine px_oxb' (is := [0]) rfl (oxb_callg (ent_fn' Tryz.func55 isn55 rfl rfl) (gogeom_MultiPolygon_SetSRID_sim _ _ _ _ _ _ hr90 : Sx.Fn Tryz.prog 55 [(Vp q87), (Vi a0_2)] [⟨.pointer (some q87), [(Vi r87.1), (Vi r87.2.1), (Sl Kf r87.2.2.1), (Vi r87.2.2.2.1), (Sl (Kl (Ki .i64)) r87.2.2.2.2)], 144, none⟩] (fun x : Unit => (Vp q87)) (fun x => [⟨.pointer (some q87), [(Vi r90.1), (Vi r90.2.1), (Sl Kf r90.2.2.1), (Vi r90.2.2.2.1), (Sl (Kl (Ki .i64)) r90.2.2.2.2)], 144, none⟩])) [0] [1] (by decide) (pick_cons rfl pick_nil) (pick_cons rfl pick_nil) (Hn := fun x : Unit => [⟨.pointer (some q87), [(Vi r90.1), (Vi r90.2.1), (Sl Kf r90.2.2.1), (Vi r90.2.2.2.1), (Sl (Kl (Ki .i64)) r90.2.2.2.2)], 144, none⟩, ⟨.pointer (some q1), [(Vi a0_0), (Vi a0_1), (Vi a0_2), (Sl Kf a0_3), (Sl (Ki .i64) a0_4), (Sl (Kl (Ki .i64)) a0_5), (Sl KT38 a0_6)], 38, none⟩]) (fun _ => rfl) rfl rfl) (pick_cons rfl pick_nil) rfl bl_nil (wt_none' rfl) fun ⟨⟩ => ?_
  refine px_rd' rfl (rd_iface' rfl ⟨_, Tryz.underlying114, fun _ h => (nomatch h)⟩) rfl rfl (wt_none' rfl) ?_
  refine px_rd' rfl (rd_assign' rfl) rfl rfl (wt_none' rfl) ?_
  refine px_nil' ?_
  show TX E K18 _
  refine tx_k' hK18 ?_
  refine cx_retc' ?_
  replace hp := Option.some.inj hp
  subst hp
  refine tx_pick' (L' := [(2, (If 114 (Vp q87)))]) (H' := [⟨.pointer (some q87), [(Vi r90.1), (Vi r90.2.1), (Sl Kf r90.2.2.1), (Vi r90.2.2.2.1), (Sl (Kl (Ki .i64)) r90.2.2.2.2)], 144, none⟩]) [0] (sub_cons rfl sub_nil) (by decide) (pick_cons rfl pick_nil) ?_
  exact tx_ret1' Tryz.results19 rfl q87 (rv_tmp' rfl) (List.Sublist.refl _)
 replace hp := (br_f h7).symm.trans hp
 refine cr fun K19 hK19 => ?_
 refine s0 (rd_bin' rfl rfl eg_int ru_eql) ?_
 refine s0 (rd_assign' rfl) ?_
 refine nk hK19 ?_
 refine cx_cond' rfl (fun h8 => ?_) (fun h8 => ?_)
 ·replace hp := (br_t h8).symm.trans hp
  refine cx_seq' fun K20 hK20 => ?_
  refine cx_plan' [] [(3, 1)] [(1, 1), (2, 1), (0, 0), (3, 0), (4, 1)] mixed (by kernel_rfl) ?_
  refine px_rd' rfl (rd_field' (off := 2) rfl Tryz.underlying38 rfl info3 rfl) rfl rfl (wt_none' rfl) ?_
  refine px_rd' rfl (rd_load' (i := 0) (o := 2) rfl ⟨rfl, rfl, rfl, rfl⟩ rfl flat3) rfl rfl (wt_none' rfl) ?_
  obtain ⟨r94, hr94, hp⟩ := bind_some hp
  refine px_ox' rfl (ox_calln' (ent_fn' Tryz.func56 isn56 rfl rfl) (gogeom_NewGeometryCollection_sim hr94 : Sx.Fn Tryz.prog 56 [] [] (fun x : Addr => (Vp x)) (fun x => [⟨.pointer (some x), [(Vi r94), Vn, (Vi r94)], 147, none⟩])) (Hn := fun x : Addr => [⟨.pointer (some x), [(Vi r94), Vn, (Vi r94)], 147, none⟩, ⟨.pointer (some q1), [(Vi a0_0), (Vi a0_1), (Vi a0_2), (Sl Kf a0_3), (Sl (Ki .i64) a0_4), (Sl (Kl (Ki .i64)) a0_5), (Sl KT38 a0_6)], 38, none⟩]) (fun _ => rfl) rfl rfl) rfl bs_nil (wt_none' rfl) fun q94 => ?_
  obtain ⟨r97, hr97, hp⟩ := bind_some hp
  refine px_oxb' (is := [0]) rfl (oxb_callg (ent_fn' Tryz.func57 isn57 rfl rfl) (gogeom_GeometryCollection_SetSRID_sim _ _ _ hr97 : Sx.Fn Tryz.prog 57 [(Vp q94), (Vi a0_2)] [⟨.pointer (some q94), [(Vi r94), Vn, (Vi r94)], 147, none⟩] (fun x : Unit => (Vp q94)) (fun x => [⟨.pointer (some q94), [(Vi r97.1), Vn, (Vi r97.2)], 147, none⟩])) [0] [1] (by decide) (pick_cons rfl pick_nil) (pick_cons rfl pick_nil) (Hn := fun x : Unit => [⟨.pointer (some q94), [(Vi r97.1), Vn, (Vi r97.2)], 147, none⟩, ⟨.pointer (some q1), [(Vi a0_0), (Vi a0_1), (Vi a0_2), (Sl Kf a0_3), (Sl (Ki .i64) a0_4), (Sl (Kl (Ki .i64)) a0_5), (Sl KT38 a0_6)], 38, none⟩]) (fun _ => rfl) rfl rfl) (pick_cons rfl pick_nil) rfl bl_nil (wt_none' rfl) fun ⟨⟩ => ?_
  refine px_rd' rfl (rd_assign' rfl) rfl rfl (wt_none' rfl) ?_
  refine px_nil' ?_
  show TX E K20 _
  refine tx_k' hK20 ?_
  refine cx_seq' fun K21 hK21 => ?_
  refine cr fun K22 hK22 => ?_
  refine s0 (rd_field' (off := 6) rfl Tryz.underlying38 rfl info22 rfl) ?_
  refine s0 (rd_load' (i := 1) (o := 6) rfl ⟨rfl, rfl, rfl, rfl⟩ rfl flat22) ?_
  refine s0 (rd_len' rfl Tryz.underlying22) ?_
  refine s0 (rd_move' rfl) ?_
  refine nk hK22 ?_
  refine cx_block' ?_
  refine tx_loop' ?_
  refine tx_round' ?_
  refine cr fun K23 hK23 => ?_
  refine s0 (rd_bin' rfl rfl eg_int ru_lss) ?_
  refine nk hK23 ?_
  refine cx_seq' fun K24 hK24 => ?_
  refine cx_cond' rfl (fun h9 => ?_) (fun h9 => ?_)
  ·replace hp := (br_t h9).symm.trans hp
   cases hp
  replace hp := (br_f h9).symm.trans hp
  refine cx_exit' ?_
  show TX E K21 _
  refine tx_k' hK21 ?_
  refine cr fun K27 hK27 => ?_
  refine s0 (rd_move' rfl) ?_
  refine s0 (rd_move' rfl) ?_
  obtain ⟨r113, hr113, hp⟩ := bind_some hp
  refine sx_ox' (ox_callg' (ent_fn' Tryz.func59 isn59 rfl rfl) (gogeom_GeometryCollection_MustSetLayout_sim _ _ _ hr113 : Sx.Fn Tryz.prog 59 [(Vp q94), (Vi a0_1)] [⟨.pointer (some q94), [(Vi r97.1), Vn, (Vi r97.2)], 147, none⟩] (fun x : Unit => (Vp q94)) (fun x => [⟨.pointer (some q94), [(Vi r113.1), Vn, (Vi r113.2)], 147, none⟩])) [0] [1] (by decide) (pick_cons rfl pick_nil) (pick_cons rfl pick_nil) (Hn := fun x : Unit => [⟨.pointer (some q94), [(Vi r113.1), Vn, (Vi r113.2)], 147, none⟩, ⟨.pointer (some q1), [(Vi a0_0), (Vi a0_1), (Vi a0_2), (Sl Kf a0_3), (Sl (Ki .i64) a0_4), (Sl (Kl (Ki .i64)) a0_5), (Sl KT38 a0_6)], 38, none⟩]) (fun _ => rfl) rfl rfl) (wt_none' rfl) fun ⟨⟩ => ?_
  refine s0 (rd_iface' rfl ⟨_, Tryz.underlying118, fun _ h => (nomatch h)⟩) ?_
  refine s0 (rd_assign' rfl) ?_
  refine nk hK27 ?_
  refine cx_retc' ?_
  replace hp := Option.some.inj hp
  subst hp
  refine tx_pick' (L' := [(2, (If 118 (Vp q94)))]) (H' := [⟨.pointer (some q94), [(Vi r113.1), Vn, (Vi r113.2)], 147, none⟩]) [0] (sub_cons rfl sub_nil) (by decide) (pick_cons rfl pick_nil) ?_
  exact tx_ret1' Tryz.results19 rfl q94 (rv_tmp' rfl) (List.Sublist.refl _)
 replace hp := (br_f h8).symm.trans hp
 refine cx_skip' ?_
 show TX E K3 _
 refine tx_k' hK3 ?_
 refine cx_region' ?_
 refine s0 (rd_iface' rfl ⟨_, Tryz.underlying9, fun _ h => (nomatch h)⟩) ?_
 cases hp
theorem impl_geometry_simA : ∀ (k : Nat)  (a0_0 : Int) (a0_1 : Int) (a0_2 : Int) (a0_3 : List Nat) (a0_4 : List Int) (a0_5 : List (List Int)) (a0_6 : List T38) (out : (Int × Int × (List Nat) × Int) ⊕ ((Int × Int × (List Nat) × Int) ⊕ ((Int × Int × (List Nat) × Int) ⊕ ((Int × Int × (List Nat) × Int × (List Int)) ⊕ ((Int × Int × (List Nat) × Int × (List Int)) ⊕ ((Int × Int × (List Nat) × Int × (List Int)) ⊕ ((Int × Int × (List Nat) × Int × (List (List Int))) ⊕ (Int × Int)))))))), impl_geometry k a0_0 a0_1 a0_2 a0_3 a0_4 a0_5 a0_6 = some out → Sx.Fn Tryz.prog 19 [(Ag [(Vi a0_0), (Vi a0_1), (Vi a0_2), (Sl Kf a0_3), (Sl (Ki .i64) a0_4), (Sl (Kl (Ki .i64)) a0_5), (Sl KT38 a0_6)])] [] (fun w => impl_geometry_r a0_0 a0_1 a0_2 a0_3 a0_4 a0_5 a0_6 out w) (fun w => impl_geometry_h a0_0 a0_1 a0_2 a0_3 a0_4 a0_5 a0_6 out w) := by
 intro k
 induction k with
 | zero => intro a0_0 a0_1 a0_2 a0_3 a0_4 a0_5 a0_6 out hp; cases hp
 | succ k ih => intro a0_0 a0_1 a0_2 a0_3 a0_4 a0_5 a0_6 out hp; exact impl_geometry_b_sim ih a0_0 a0_1 a0_2 a0_3 a0_4 a0_5 a0_6 hp
theorem impl_geometry_sim {k : Nat}  (a0_0 : Int) (a0_1 : Int) (a0_2 : Int) (a0_3 : List Nat) (a0_4 : List Int) (a0_5 : List (List Int)) (a0_6 : List T38) {out : (Int × Int × (List Nat) × Int) ⊕ ((Int × Int × (List Nat) × Int) ⊕ ((Int × Int × (List Nat) × Int) ⊕ ((Int × Int × (List Nat) × Int × (List Int)) ⊕ ((Int × Int × (List Nat) × Int × (List Int)) ⊕ ((Int × Int × (List Nat) × Int × (List Int)) ⊕ ((Int × Int × (List Nat) × Int × (List (List Int))) ⊕ (Int × Int)))))))} (hp : impl_geometry k a0_0 a0_1 a0_2 a0_3 a0_4 a0_5 a0_6 = some out) : Sx.Fn Tryz.prog 19 [(Ag [(Vi a0_0), (Vi a0_1), (Vi a0_2), (Sl Kf a0_3), (Sl (Ki .i64) a0_4), (Sl (Kl (Ki .i64)) a0_5), (Sl KT38 a0_6)])] [] (fun w => impl_geometry_r a0_0 a0_1 a0_2 a0_3 a0_4 a0_5 a0_6 out w) (fun w => impl_geometry_h a0_0 a0_1 a0_2 a0_3 a0_4 a0_5 a0_6 out w) := impl_geometry_simA k a0_0 a0_1 a0_2 a0_3 a0_4 a0_5 a0_6 out hp

def gogeom_geom0_FlatCoords (k : Nat) (a0_0 : Int) (a0_1 : Int) (a0_2 : List Nat) (a0_3 : Int) : Option (Int × Int × (List Nat) × Int) :=
 some (a0_0, a0_1, a0_2, a0_3)

theorem gogeom_geom0_FlatCoords_sim {k : Nat} {wa0 : Addr} (a0_0 : Int) (a0_1 : Int) (a0_2 : List Nat) (a0_3 : Int) {out : Int × Int × (List Nat) × Int} (hp : gogeom_geom0_FlatCoords k a0_0 a0_1 a0_2 a0_3 = some out) : Sx.Fn Tryz.prog 37 [(Vp wa0)] [⟨.pointer (some wa0), [(Vi a0_0), (Vi a0_1), (Sl Kf a0_2), (Vi a0_3)], 91, none⟩] (fun w : Unit => (Sl Kf out.2.2.1)) (fun w => [⟨.pointer (some wa0), [(Vi out.1), (Vi out.2.1), (Sl Kf out.2.2.1), (Vi out.2.2.2)], 91, none⟩]) := by
 unfold gogeom_geom0_FlatCoords at hp
 refine fn_of Tryz.func37 rfl Tryz.ntmps37 rfl fun E hM => ?_
 refine cr fun K1 hK1 => ?_
 refine s0 (rd_assign' rfl) ?_
 refine nk hK1 ?_
 refine cr fun K2 hK2 => ?_
 refine s0 (rd_move' rfl) ?_
 refine s0 (rd_nilck' rfl) ?_
 refine s0 (rd_field' (off := 2) rfl Tryz.underlying87 rfl info29 rfl) ?_
 refine s0 (rd_load' (i := 0) (o := 2) rfl ⟨rfl, rfl, rfl, rfl⟩ rfl flat29) ?_
 refine s0 (rd_assign' rfl) ?_
 refine nk hK2 ?_
 refine cx_retc' ?_
 replace hp := Option.some.inj hp
 subst hp
 refine tx_pick' (L' := [(2, (Sl Kf a0_2))]) (H' := [⟨.pointer (some wa0), [(Vi a0_0), (Vi a0_1), (Sl Kf a0_2), (Vi a0_3)], 91, none⟩]) [0] (sub_cons rfl sub_nil) (by decide) (pick_cons rfl pick_nil) ?_
 exact tx_ret1' Tryz.results37 rfl () (rv_tmp' rfl) (List.Sublist.refl _)

def inner_Distance2D (k : Nat) (a0 : List Nat) (a1 : List Nat) : Option (Nat) :=
 (idx a0 0) >>= fun r8 =>
 (idx a1 0) >>= fun r11 =>
 (fsub r8 r11) >>= fun r13 =>
 (idx a0 1) >>= fun r15 =>
 (idx a1 1) >>= fun r18 =>
 (fsub r15 r18) >>= fun r20 =>
 (some (gmul r13 r13)) >>= fun r23 =>
 (some (gmul r20 r20)) >>= fun r26 =>
 (some (gadd r23 r26)) >>= fun r27 =>
 (num r27) >>= fun u1 =>
 (math_Sqrt k r27) >>= fun r28 =>
 some r28

theorem inner_Distance2D_sim {k : Nat}  (a0 : List Nat) (a1 : List Nat) {out : Nat} (hp : inner_Distance2D k a0 a1 = some out) : Sx.Fn Tryz.prog 73 [(Sl Kf a0), (Sl Kf a1)] [] (fun w : Unit => (Fl out)) (fun w => []) := by
 unfold inner_Distance2D at hp
 refine fn_of Tryz.func73 rfl Tryz.ntmps73 rfl fun E hM => ?_
 refine cr fun K1 hK1 => ?_
 refine s0 (rd_assign' rfl) ?_
 refine nk hK1 ?_
 refine cx_seq' fun K2 hK2 => ?_
 refine cx_draw' mixed (by kernel_rfl) ?_
 refine qx_rd' (rd_move' rfl) rfl rfl (wt_none' rfl) ?_
 obtain ⟨r8, hr8, hp⟩ := bind_some hp
 refine qx_rd' (rd_at' (K := Kf) rfl rfl hr8 Tryz.underlying65 info26) rfl rfl (wt_none' rfl) ?_
 refine qx_rd' (rd_load_pt' rfl rfl flat26) rfl rfl (wt_none' rfl) ?_
 refine qx_rd' (rd_move' rfl) rfl rfl (wt_none' rfl) ?_
 obtain ⟨r11, hr11, hp⟩ := bind_some hp
 refine qx_rd' (rd_at' (K := Kf) rfl rfl hr11 Tryz.underlying65 info26) rfl rfl (wt_none' rfl) ?_
 refine qx_rd' (rd_load_pt' rfl rfl flat26) rfl rfl (wt_none' rfl) ?_
 obtain ⟨r13, hr13, hp⟩ := bind_some hp
 refine qx_rd' (rd_bin' rfl rfl eg_flt (ru_fsub hr13)) rfl rfl (wt_none' rfl) ?_
 refine qx_rd' (rd_assign' rfl) rfl rfl (wt_none' rfl) ?_
 refine qx_nil' ?_
 show TX E K2 _
 refine tx_k' hK2 ?_
 refine cx_seq' fun K3 hK3 => ?_
 refine cx_draw' mixed (by kernel_rfl) ?_
 refine qx_rd' (rd_move' rfl) rfl rfl (wt_none' rfl) ?_
 obtain ⟨r15, hr15, hp⟩ := bind_some hp
 refine qx_rd' (rd_at' (K := Kf) rfl rfl hr15 Tryz.underlying65 info26) rfl rfl (wt_none' rfl) ?_
 refine qx_rd' (rd_load_pt' rfl rfl flat26) rfl rfl (wt_none' rfl) ?_
 refine qx_rd' (rd_move' rfl) rfl rfl (wt_none' rfl) ?_
 obtain ⟨r18, hr18, hp⟩ := bind_some hp
 refine qx_rd' (rd_at' (K := Kf) rfl rfl hr18 Tryz.underlying65 info26) rfl rfl (wt_none' rfl) ?_
 refine qx_rd' (rd_load_pt' rfl rfl flat26) rfl rfl (wt_none' rfl) ?_
 obtain ⟨r20, hr20, hp⟩ := bind_some hp
 refine qx_rd' (rd_bin' rfl rfl eg_flt (ru_fsub hr20)) rfl rfl (wt_none' rfl) ?_
 refine qx_rd' (rd_assign' rfl) rfl rfl (wt_none' rfl) ?_
 refine qx_nil' ?_
 show TX E K3 _
 refine tx_k' hK3 ?_
 refine cr fun K4 hK4 => ?_
 refine s0 (rd_move' rfl) ?_
 refine s0 (rd_move' rfl) ?_
 obtain ⟨r23, hr23, hp⟩ := bind_some hp
 refine sx_ox' (ox_fop' (.inr (.inr (.inl rfl))) (fl_v rfl) (fl_v rfl) (Option.some.inj hr23) rfl rfl) (wt_none' rfl) fun _ => ?_
 refine s0 (rd_move' rfl) ?_
 refine s0 (rd_move' rfl) ?_
 obtain ⟨r26, hr26, hp⟩ := bind_some hp
 refine sx_ox' (ox_fop' (.inr (.inr (.inl rfl))) (fl_v rfl) (fl_v rfl) (Option.some.inj hr26) rfl rfl) (wt_none' rfl) fun _ => ?_
 obtain ⟨r27, hr27, hp⟩ := bind_some hp
 refine sx_ox' (ox_fop' (.inl rfl) (fl_f rfl) (fl_f rfl) (Option.some.inj hr27) rfl rfl) (wt_none' rfl) fun _ => ?_
 obtain ⟨u1, hu1, hp⟩ := bind_some hp
 refine tx_slot' 27 (y := (Vg r27)) rfl (imp_num (num_some hu1).2) ?_
 obtain ⟨r28, hr28, hp⟩ := bind_some hp
 refine sx_ox' (ox_calln' (ent_fn' Tryz.func12 isn12 rfl rfl) (math_Sqrt_sim _ hr28 : Sx.Fn Tryz.prog 12 [(Vg r27)] [] (fun x : Unit => (Fl r28)) (fun x => [])) (Hn := fun x : Unit => []) (fun _ => rfl) rfl rfl) (wt_none' rfl) fun ⟨⟩ => ?_
 refine s0 (rd_assign' rfl) ?_
 refine nk hK4 ?_
 refine cx_retc' ?_
 replace hp := Option.some.inj hp
 subst hp
 refine tx_pick' (L' := [(4, (Fl r28))]) (H' := []) [] (sub_cons rfl sub_nil) (by decide) pick_nil ?_
 exact tx_ret1' Tryz.results73 rfl () (rv_tmp' rfl) (List.Sublist.refl _)

def xy_LineCentroidCalculator_addLine_l1s (a3 : Int) (a0_1 : Int) (a1 : List Nat) (k : Nat) (rec1 : ((List Nat) × Nat × Int) → Option ((List Nat) × Nat)) (x1 : List Nat) (x2 : Nat) (x3 : Int) : Option ((List Nat) × Nat) :=
 br (decide (x3 < (isub .i64 a3 a0_1)))
  ((cut a1 x3 (iadd .i64 x3 2)) >>= fun r33 =>
  (cut a1 (iadd .i64 x3 a0_1) (iadd .i64 (iadd .i64 x3 a0_1) 2)) >>= fun r48 =>
  (inner_Distance2D k r33 r48) >>= fun r49 =>
  (some (gadd x2 r49)) >>= fun r55 =>
  (idx a1 x3) >>= fun r60 =>
  (idx a1 (iadd .i64 x3 a0_1)) >>= fun r69 =>
  (fadd r60 r69) >>= fun r71 =>
  (fdiv r71 4611686018427387904) >>= fun r72 =>
  (idx x1 0) >>= fun r77 =>
  (some (gmul r49 r72)) >>= fun r81 =>
  (some (gadd r77 r81)) >>= fun r82 =>
  (idx x1 0) >>= fun r83 =>
  (num r82) >>= fun u3 =>
  (idx a1 (iadd .i64 x3 1)) >>= fun r87 =>
  (idx a1 (iadd .i64 (iadd .i64 x3 a0_1) 1)) >>= fun r97 =>
  (fadd r87 r97) >>= fun r99 =>
  (fdiv r99 4611686018427387904) >>= fun r100 =>
  (idx (x1.set (0 : Int).toNat r82) 1) >>= fun r105 =>
  (some (gmul r49 r100)) >>= fun r109 =>
  (some (gadd r105 r109)) >>= fun r110 =>
  (idx (x1.set (0 : Int).toNat r82) 1) >>= fun r111 =>
  (num r110) >>= fun u4 =>
  rec1 (((x1.set (0 : Int).toNat r82).set (1 : Int).toNat r110), r55, (iadd .i64 x3 a0_1)))
  (some (x1, x2))
def xy_LineCentroidCalculator_addLine_l1 (a3 : Int) (a0_1 : Int) (a1 : List Nat) : Nat → ((List Nat) × Nat × Int) → Option ((List Nat) × Nat)
 | 0, _ => none
 | k + 1, v => xy_LineCentroidCalculator_addLine_l1s a3 a0_1 a1 k (xy_LineCentroidCalculator_addLine_l1 a3 a0_1 a1 k) v.1 v.2.1 v.2.2
def xy_LineCentroidCalculator_addLine (k : Nat) (a0_0 : Int) (a0_1 : Int) (a0_2 : List Nat) (a0_3 : Nat) (a1 : List Nat) (a2 : Int) (a3 : Int) : Option (Int × Int × (List Nat) × Nat) :=
 (xy_LineCentroidCalculator_addLine_l1 a3 a0_1 a1 k (a0_2, a0_3, a2)) >>= fun v2 =>
 some (a0_0, a0_1, v2.1, v2.2)

def xy_LineCentroidCalculator_AddLinearRing (k : Nat) (a0_0 : Int) (a0_1 : Int) (a0_2 : List Nat) (a0_3 : Nat) (a1_0 : Int) (a1_1 : Int) (a1_2 : List Nat) (a1_3 : Int) : Option (Int × Int × (List Nat) × Nat × Int × Int × (List Nat) × Int) :=
 (gogeom_geom0_FlatCoords k a1_0 a1_1 a1_2 a1_3) >>= fun r10 =>
 (xy_LineCentroidCalculator_addLine k a0_0 a0_1 a0_2 a0_3 r10.2.2.1 0 (r10.2.2.1.length : Int)) >>= fun r15 =>
 some (r15.1, r15.2.1, r15.2.2.1, r15.2.2.2, r10.1, r10.2.1, r10.2.2.1, r10.2.2.2)

def xy_LineCentroidCalculator_addLine_v2_l1s (a3 : Int) (a0_1 : Int) (a1 : List Nat) (k : Nat) (rec1 : ((List Nat) × Nat × Int) → Option ((List Nat) × Nat)) (x1 : List Nat) (x2 : Nat) (x3 : Int) : Option ((List Nat) × Nat) :=
 br (decide (x3 < (isub .i64 a3 a0_1)))
  ((cut a1 x3 (iadd .i64 x3 2)) >>= fun r33 =>
  (cut a1 (iadd .i64 x3 a0_1) (iadd .i64 (iadd .i64 x3 a0_1) 2)) >>= fun r48 =>
  (inner_Distance2D k r33 r48) >>= fun r49 =>
  (some (gadd x2 r49)) >>= fun r55 =>
  (idx a1 x3) >>= fun r60 =>
  (idx a1 (iadd .i64 x3 a0_1)) >>= fun r69 =>
  (fadd r60 r69) >>= fun r71 =>
  (fdiv r71 4611686018427387904) >>= fun r72 =>
  (idx x1 0) >>= fun r77 =>
  (some (gmul r49 r72)) >>= fun r81 =>
  (some (gadd r77 r81)) >>= fun r82 =>
  (idx x1 0) >>= fun r83 =>
  (num r82) >>= fun u3 =>
  (idx a1 (iadd .i64 x3 1)) >>= fun r87 =>
  (idx a1 (iadd .i64 (iadd .i64 x3 a0_1) 1)) >>= fun r97 =>
  (fadd r87 r97) >>= fun r99 =>
  (fdiv r99 4611686018427387904) >>= fun r100 =>
  (idx (x1.set (0 : Int).toNat r82) 1) >>= fun r105 =>
  (some (gmul r49 r100)) >>= fun r109 =>
  (some (gadd r105 r109)) >>= fun r110 =>
  (idx (x1.set (0 : Int).toNat r82) 1) >>= fun r111 =>
  (num r110) >>= fun u4 =>
  rec1 (((x1.set (0 : Int).toNat r82).set (1 : Int).toNat r110), r55, (iadd .i64 x3 a0_1)))
  (some (x1, x2))
def xy_LineCentroidCalculator_addLine_v2_l1 (a3 : Int) (a0_1 : Int) (a1 : List Nat) : Nat → ((List Nat) × Nat × Int) → Option ((List Nat) × Nat)
 | 0, _ => none
 | k + 1, v => xy_LineCentroidCalculator_addLine_v2_l1s a3 a0_1 a1 k (xy_LineCentroidCalculator_addLine_v2_l1 a3 a0_1 a1 k) v.1 v.2.1 v.2.2
def xy_LineCentroidCalculator_addLine_v2 (k : Nat) (a0_0 : Int) (a0_1 : Int) (a0_2 : List Nat) (a0_3 : Nat) (a1 : List Nat) (a2 : Int) (a3 : Int) : Option (Int × Int × (List Nat) × Nat) :=
 (xy_LineCentroidCalculator_addLine_v2_l1 a3 a0_1 a1 k (a0_2, a0_3, a2)) >>= fun v2 =>
 some (a0_0, a0_1, v2.1, v2.2)

theorem xy_LineCentroidCalculator_addLine_v2_sim {k : Nat} {wa0 : Addr} {wa0_2 : Gs} (a0_0 : Int) (a0_1 : Int) (a0_2 : List Nat) (a0_3 : Nat) (a1 : List Nat) (a2 : Int) (a3 : Int) {out : Int × Int × (List Nat) × Nat} (hp : xy_LineCentroidCalculator_addLine_v2 k a0_0 a0_1 a0_2 a0_3 a1 a2 a3 = some out) : Sx.Fn Tryz.prog 38 [(Vp wa0), (Sl Kf a1), (Vi a2), (Vi a3)] [⟨.pointer (some wa0), [(Vi a0_0), (Vi a0_1), (Vl (Vs wa0_2)), (Fl a0_3)], 84, none⟩, (Rw Kf 26 (Vs wa0_2) a0_2)] (fun w : Unit => (Vl (.tuple #[]))) (fun w => [⟨.pointer (some wa0), [(Vi out.1), (Vi out.2.1), (Vl (Vs wa0_2)), (Fl out.2.2.2)], 84, none⟩, (Rw Kf 26 (Vs wa0_2) out.2.2.1)]) := by
 unfold xy_LineCentroidCalculator_addLine_v2 at hp
 refine fn_of Tryz.func38 rfl Tryz.ntmps38 rfl fun E hM => ?_
 refine cr fun K1 hK1 => ?_
 refine s0 (rd_move' rfl) ?_
 refine s0 (rd_move' rfl) ?_
 refine s0 (rd_nilck' rfl) ?_
 refine s0 (rd_field' (off := 1) rfl Tryz.underlying84 rfl info3 rfl) ?_
 refine s0 (rd_load' (i := 0) (o := 1) rfl ⟨rfl, rfl, rfl, rfl⟩ rfl flat3) ?_
 refine s0 (rd_bin' rfl rfl eg_int ru_sub) ?_
 refine s0 (rd_assign' rfl) ?_
 refine nk hK1 ?_
 refine cr fun K2 hK2 => ?_
 refine s0 (rd_move' rfl) ?_
 refine s0 (rd_assign' rfl) ?_
 refine nk hK2 ?_
 refine cx_block' ?_
 obtain ⟨v2, hy1, hp⟩ := bind_some hp
 refine cx_loopg' (F := xy_LineCentroidCalculator_addLine_v2_l1 a3 a0_1 a1) (G := fun k R v => xy_LineCentroidCalculator_addLine_v2_l1s a3 a0_1 a1 k R v.1 v.2.1 v.2.2) (x := (a0_2, a0_3, a2)) (gh := ()) (fun (v1 : (List Nat) × Nat × Int) (w1 : Unit) => (⟨112, [], [(0, (Vp wa0)), (1, (Sl Kf a1)), (8, (Vi (isub .i64 a3 a0_1))), (9, (Vi v1.2.2))], [⟨.pointer (some wa0), [(Vi a0_0), (Vi a0_1), (Vl (Vs wa0_2)), (Fl v1.2.1)], 84, none⟩, (Rw Kf 26 (Vs wa0_2) v1.1)]⟩ : St)) (fun (v2 : (List Nat) × Nat) => Zg E (Exit.exit 0) (fun (w2 : Unit) => (⟨112, [], [], [⟨.pointer (some wa0), [(Vi a0_0), (Vi a0_1), (Vl (Vs wa0_2)), (Fl v2.2)], 84, none⟩, (Rw Kf 26 (Vs wa0_2) v2.1)]⟩ : St))) (fun _ => rfl) (fun _ _ => rfl) ?_ hy1 (tx_to' rfl [0, 1] (sub_cons rfl (sub_cons rfl (sub_cons rfl (sub_cons rfl sub_nil)))) (by decide) (pick_cons rfl (pick_cons rfl pick_nil))) ?_
 ·clear hp hy1
  clear v2
  intro k rec1 KY1 ih1
  rintro ⟨x1, x2, x3⟩ ⟨⟩ y1 hp
  replace hp : xy_LineCentroidCalculator_addLine_v2_l1s a3 a0_1 a1 k rec1 x1 x2 x3 = some y1 := hp
  unfold xy_LineCentroidCalculator_addLine_v2_l1s at hp
  refine cx_seq' fun K11 hK11 => ?_
  refine cr fun K12 hK12 => ?_
  refine s0 (rd_move' rfl) ?_
  refine s0 (rd_move' rfl) ?_
  refine s0 (rd_bin' rfl rfl eg_int ru_lss) ?_
  refine nk hK12 ?_
  refine cx_cond' rfl (fun h3 => ?_) (fun h3 => ?_)
  ·replace hp := (br_t h3).symm.trans hp
   refine cx_skip' ?_
   show TX E K11 _
   refine tx_k' hK11 ?_
   refine cx_seq' fun K13 hK13 => ?_
   refine cx_block' ?_
   refine cx_seq' fun K14 hK14 => ?_
   refine cx_plan' [] [] [(0, 1), (1, 1), (2, 1), (3, 1), (4, 1), (5, 1), (6, 1), (7, 1), (8, 1), (9, 1), (10, 1), (11, 1), (12, 1), (13, 1), (14, 1), (15, 1), (16, 1), (17, 1), (18, 1), (19, 1), (20, 0), (21, 1)] mixed (by kernel_rfl) ?_
   refine px_rd' rfl (rd_move' rfl) rfl rfl (wt_none' rfl) ?_
   refine px_rd' rfl (rd_move' rfl) rfl rfl (wt_none' rfl) ?_
   refine px_rd' rfl (rd_move' rfl) rfl rfl (wt_none' rfl) ?_
   refine px_rd' rfl (rd_bin' rfl rfl eg_int ru_add) rfl rfl (wt_none' rfl) ?_
   obtain ⟨r33, hr33, hp⟩ := bind_some hp
   refine px_rd' rfl (rd_cut_lh' rfl rfl rfl hr33 Tryz.underlying29 info26) rfl rfl (wt_none' rfl) ?_
   refine px_rd' rfl (rd_move' rfl) rfl rfl (wt_none' rfl) ?_
   refine px_rd' rfl (rd_move' rfl) rfl rfl (wt_none' rfl) ?_
   refine px_rd' rfl (rd_move' rfl) rfl rfl (wt_none' rfl) ?_
   refine px_rd' rfl (rd_nilck' rfl) rfl rfl (wt_none' rfl) ?_
   refine px_rd' rfl (rd_field' (off := 1) rfl Tryz.underlying84 rfl info3 rfl) rfl rfl (wt_none' rfl) ?_
   refine px_rd' rfl (rd_load' (i := 0) (o := 1) rfl ⟨rfl, rfl, rfl, rfl⟩ rfl flat3) rfl rfl (wt_none' rfl) ?_
   refine px_rd' rfl (rd_bin' rfl rfl eg_int ru_add) rfl rfl (wt_none' rfl) ?_
   refine px_rd' rfl (rd_move' rfl) rfl rfl (wt_none' rfl) ?_
   refine px_rd' rfl (rd_move' rfl) rfl rfl (wt_none' rfl) ?_
   refine px_rd' rfl (rd_nilck' rfl) rfl rfl (wt_none' rfl) ?_
   refine px_rd' rfl (rd_field' (off := 1) rfl Tryz.underlying84 rfl info3 rfl) rfl rfl (wt_none' rfl) ?_
   refine px_rd' rfl (rd_load' (i := 0) (o := 1) rfl ⟨rfl, rfl, rfl, rfl⟩ rfl flat3) rfl rfl (wt_none' rfl) ?_
   refine px_rd' rfl (rd_bin' rfl rfl eg_int ru_add) rfl rfl (wt_none' rfl) ?_
   refine px_rd' rfl (rd_bin' rfl rfl eg_int ru_add) rfl rfl (wt_none' rfl) ?_
   obtain ⟨r48, hr48, hp⟩ := bind_some hp
   refine px_rd' rfl (rd_cut_lh' rfl rfl rfl hr48 Tryz.underlying29 info26) rfl rfl (wt_none' rfl) ?_
   obtain ⟨r49, hr49, hp⟩ := bind_some hp
   refine px_ox' rfl (ox_calln' (ent_fn' Tryz.func73 isn73 rfl rfl) (inner_Distance2D_sim _ _ hr49 : Sx.Fn Tryz.prog 73 [(Sl Kf r33), (Sl Kf r48)] [] (fun x : Unit => (Fl r49)) (fun x => [])) (Hn := fun x : Unit => [⟨.pointer (some wa0), [(Vi a0_0), (Vi a0_1), (Vl (Vs wa0_2)), (Fl x2)], 84, none⟩, (Rw Kf 26 (Vs wa0_2) x1)]) (fun _ => rfl) rfl rfl) rfl bs_nil (wt_none' rfl) fun ⟨⟩ => ?_
   refine px_rd' rfl (rd_assign' rfl) rfl rfl (wt_none' rfl) ?_
   refine px_nil' ?_
   show TX E K14 _
   refine tx_k' hK14 ?_
   refine cr fun K15 hK15 => ?_
   refine s0 (rd_move' rfl) ?_
   refine s0 (rd_nilck' rfl) ?_
   refine s0 (rd_field' (off := 3) rfl Tryz.underlying84 rfl info26 rfl) ?_
   refine s0 (rd_load' (i := 0) (o := 3) rfl ⟨rfl, rfl, rfl, rfl⟩ rfl flat26) ?_
   refine s0 (rd_move' rfl) ?_
   obtain ⟨r55, hr55, hp⟩ := bind_some hp
   refine sx_ox' (ox_fop' (.inl rfl) (fl_f rfl) (fl_f rfl) (Option.some.inj hr55) rfl rfl) (wt_none' rfl) fun _ => ?_
   refine s0 (rd_nilck' rfl) ?_
   refine s0 (rd_field' (off := 3) rfl Tryz.underlying84 rfl info26 rfl) ?_
   refine sx_ox' (ox_store' (i := 0) (o := 3) rfl rfl (lv_fl _) ⟨rfl, rfl, rfl, rfl⟩ rfl info26 rfl (H' := [⟨.pointer (some wa0), [(Vi a0_0), (Vi a0_1), (Vl (Vs wa0_2)), (Fl r55)], 84, none⟩, (Rw Kf 26 (Vs wa0_2) x1)]) rfl) (wt_none' rfl) fun _ => ?_
   refine nk hK15 ?_
   refine cx_seq' fun K16 hK16 => ?_
   refine cx_draw' mixed (by kernel_rfl) ?_
   refine qx_rd' (rd_move' rfl) rfl rfl (wt_none' rfl) ?_
   refine qx_rd' (rd_move' rfl) rfl rfl (wt_none' rfl) ?_
   obtain ⟨r60, hr60, hp⟩ := bind_some hp
   refine qx_rd' (rd_at' (K := Kf) rfl rfl hr60 Tryz.underlying29 info26) rfl rfl (wt_none' rfl) ?_
   refine qx_rd' (rd_load_pt' rfl rfl flat26) rfl rfl (wt_none' rfl) ?_
   refine qx_rd' (rd_move' rfl) rfl rfl (wt_none' rfl) ?_
   refine qx_rd' (rd_move' rfl) rfl rfl (wt_none' rfl) ?_
   refine qx_rd' (rd_move' rfl) rfl rfl (wt_none' rfl) ?_
   refine qx_rd' (rd_nilck' rfl) rfl rfl (wt_none' rfl) ?_
   refine qx_rd' (rd_field' (off := 1) rfl Tryz.underlying84 rfl info3 rfl) rfl rfl (wt_none' rfl) ?_
   refine qx_rd' (rd_load' (i := 0) (o := 1) rfl ⟨rfl, rfl, rfl, rfl⟩ rfl flat3) rfl rfl (wt_none' rfl) ?_
   refine qx_rd' (rd_bin' rfl rfl eg_int ru_add) rfl rfl (wt_none' rfl) ?_
   obtain ⟨r69, hr69, hp⟩ := bind_some hp
   refine qx_rd' (rd_at' (K := Kf) rfl rfl hr69 Tryz.underlying29 info26) rfl rfl (wt_none' rfl) ?_
   refine qx_rd' (rd_load_pt' rfl rfl flat26) rfl rfl (wt_none' rfl) ?_
   obtain ⟨r71, hr71, hp⟩ := bind_some hp
   refine qx_rd' (rd_bin' rfl rfl eg_flt (ru_fadd hr71)) rfl rfl (wt_none' rfl) ?_
   obtain ⟨r72, hr72, hp⟩ := bind_some hp
   refine qx_rd' (rd_bin' rfl rfl eg_flt (ru_fdiv hr72)) rfl rfl (wt_none' rfl) ?_
   refine qx_rd' (rd_assign' rfl) rfl rfl (wt_none' rfl) ?_
   refine qx_nil' ?_
   show TX E K16 _
   refine tx_k' hK16 ?_
   refine cr fun K17 hK17 => ?_
   refine s0 (rd_move' rfl) ?_
   refine s0 (rd_nilck' rfl) ?_
   refine s0 (rd_field' (off := 2) rfl Tryz.underlying84 rfl info65 rfl) ?_
   refine s0 (rd_load' (i := 0) (o := 2) rfl ⟨rfl, rfl, rfl, rfl⟩ rfl flat65) ?_
   obtain ⟨r77, hr77, hp⟩ := bind_some hp
   refine s0 (rd_atr' (m := 1) rfl rfl rfl rfl hr77 Tryz.underlying65 info26) ?_
   refine s0 (rd_loadr' rfl (m := 1) (i := 0) (j := 0) rfl rfl hr77 rfl rfl flat26) ?_
   refine s0 (rd_move' rfl) ?_
   refine s0 (rd_move' rfl) ?_
   obtain ⟨r81, hr81, hp⟩ := bind_some hp
   refine sx_ox' (ox_fop' (.inr (.inr (.inl rfl))) (fl_f rfl) (fl_v rfl) (Option.some.inj hr81) rfl rfl) (wt_none' rfl) fun _ => ?_
   obtain ⟨r82, hr82, hp⟩ := bind_some hp
   refine sx_ox' (ox_fop' (.inl rfl) (fl_v rfl) (fl_f rfl) (Option.some.inj hr82) rfl rfl) (wt_none' rfl) fun _ => ?_
   obtain ⟨r83, hr83, hp⟩ := bind_some hp
   refine s0 (rd_atr' (m := 1) rfl rfl rfl rfl hr83 Tryz.underlying65 info26) ?_
   obtain ⟨u3, hu3, hp⟩ := bind_some hp
   refine tx_slot' 82 (y := (Vg r82)) rfl (imp_num (num_some hu3).2) ?_
   refine sx_ox' (ox_storer' (m := 1) (i := 0) (j := 0) (x' := r82) rfl rfl (lv_vl rfl rfl) rfl rfl hr83 rfl rfl rfl info26 rfl (H' := [⟨.pointer (some wa0), [(Vi a0_0), (Vi a0_1), (Vl (Vs wa0_2)), (Fl r55)], 84, none⟩, (Rw Kf 26 (Vs wa0_2) (x1.set (0 : Int).toNat r82))]) rfl) (wt_none' rfl) fun _ => ?_
   refine nk hK17 ?_
   refine cx_seq' fun K18 hK18 => ?_
   refine cx_draw' mixed (by kernel_rfl) ?_
   refine qx_rd' (rd_move' rfl) rfl rfl (wt_none' rfl) ?_
   refine qx_rd' (rd_move' rfl) rfl rfl (wt_none' rfl) ?_
   refine qx_rd' (rd_bin' rfl rfl eg_int ru_add) rfl rfl (wt_none' rfl) ?_
   obtain ⟨r87, hr87, hp⟩ := bind_some hp
   refine qx_rd' (rd_at' (K := Kf) rfl rfl hr87 Tryz.underlying29 info26) rfl rfl (wt_none' rfl) ?_
   refine qx_rd' (rd_load_pt' rfl rfl flat26) rfl rfl (wt_none' rfl) ?_
   refine qx_rd' (rd_move' rfl) rfl rfl (wt_none' rfl) ?_
   refine qx_rd' (rd_move' rfl) rfl rfl (wt_none' rfl) ?_
   refine qx_rd' (rd_move' rfl) rfl rfl (wt_none' rfl) ?_
   refine qx_rd' (rd_nilck' rfl) rfl rfl (wt_none' rfl) ?_
   refine qx_rd' (rd_field' (off := 1) rfl Tryz.underlying84 rfl info3 rfl) rfl rfl (wt_none' rfl) ?_
   refine qx_rd' (rd_load' (i := 0) (o := 1) rfl ⟨rfl, rfl, rfl, rfl⟩ rfl flat3) rfl rfl (wt_none' rfl) ?_
   refine qx_rd' (rd_bin' rfl rfl eg_int ru_add) rfl rfl (wt_none' rfl) ?_
   refine qx_rd' (rd_bin' rfl rfl eg_int ru_add) rfl rfl (wt_none' rfl) ?_
   obtain ⟨r97, hr97, hp⟩ := bind_some hp
   refine qx_rd' (rd_at' (K := Kf) rfl rfl hr97 Tryz.underlying29 info26) rfl rfl (wt_none' rfl) ?_
   refine qx_rd' (rd_load_pt' rfl rfl flat26) rfl rfl (wt_none' rfl) ?_
   obtain ⟨r99, hr99, hp⟩ := bind_some hp
   refine qx_rd' (rd_bin' rfl rfl eg_flt (ru_fadd hr99)) rfl rfl (wt_none' rfl) ?_
   obtain ⟨r100, hr100, hp⟩ := bind_some hp
   refine qx_rd' (rd_bin' rfl rfl eg_flt (ru_fdiv hr100)) rfl rfl (wt_none' rfl) ?_
   refine qx_rd' (rd_assign' rfl) rfl rfl (wt_none' rfl) ?_
   refine qx_nil' ?_
   show TX E K18 _
   refine tx_k' hK18 ?_
   refine cx_region' ?_
   refine s0 (rd_move' rfl) ?_
   refine s0 (rd_nilck' rfl) ?_
   refine s0 (rd_field' (off := 2) rfl Tryz.underlying84 rfl info65 rfl) ?_
   refine s0 (rd_load' (i := 0) (o := 2) rfl ⟨rfl, rfl, rfl, rfl⟩ rfl flat65) ?_
   obtain ⟨r105, hr105, hp⟩ := bind_some hp
   refine s0 (rd_atr' (m := 1) rfl rfl rfl rfl hr105 Tryz.underlying65 info26) ?_
   refine s0 (rd_loadr' rfl (m := 1) (i := 1) (j := 0) rfl rfl hr105 rfl rfl flat26) ?_
   refine s0 (rd_move' rfl) ?_
   refine s0 (rd_move' rfl) ?_
   obtain ⟨r109, hr109, hp⟩ := bind_some hp
   refine sx_ox' (ox_fop' (.inr (.inr (.inl rfl))) (fl_f rfl) (fl_v rfl) (Option.some.inj hr109) rfl rfl) (wt_none' rfl) fun _ => ?_
   obtain ⟨r110, hr110, hp⟩ := bind_some hp
   refine sx_ox' (ox_fop' (.inl rfl) (fl_v rfl) (fl_f rfl) (Option.some.inj hr110) rfl rfl) (wt_none' rfl) fun _ => ?_
   obtain ⟨r111, hr111, hp⟩ := bind_some hp
   refine s0 (rd_atr' (m := 1) rfl rfl rfl rfl hr111 Tryz.underlying65 info26) ?_
   obtain ⟨u4, hu4, hp⟩ := bind_some hp
   refine tx_slot' 110 (y := (Vg r110)) rfl (imp_num (num_some hu4).2) ?_
   refine sx_ox' (ox_storer' (m := 1) (i := 1) (j := 0) (x' := r110) rfl rfl (lv_vl rfl rfl) rfl rfl hr111 rfl rfl rfl info26 rfl (H' := [⟨.pointer (some wa0), [(Vi a0_0), (Vi a0_1), (Vl (Vs wa0_2)), (Fl r55)], 84, none⟩, (Rw Kf 26 (Vs wa0_2) ((x1.set (0 : Int).toNat r82).set (1 : Int).toNat r110))]) rfl) (wt_none' rfl) fun _ => ?_
   refine nk hK13 ?_
   refine cx_region' ?_
   refine s0 (rd_move' rfl) ?_
   refine s0 (rd_move' rfl) ?_
   refine s0 (rd_nilck' rfl) ?_
   refine s0 (rd_field' (off := 1) rfl Tryz.underlying84 rfl info3 rfl) ?_
   refine s0 (rd_load' (i := 0) (o := 1) rfl ⟨rfl, rfl, rfl, rfl⟩ rfl flat3) ?_
   refine s0 (rd_bin' rfl rfl eg_int ru_add) ?_
   refine s0 (rd_assign' rfl) ?_
   refine sx_nil' ?_
   show TX E (KY1 _) _
   exact tx_pick' [0, 1] (sub_cons rfl (sub_cons rfl (sub_cons rfl (sub_cons rfl sub_nil)))) (by decide) (pick_cons rfl (pick_cons rfl pick_nil)) (ih1 (((x1.set (0 : Int).toNat r82).set (1 : Int).toNat r110), r55, (iadd .i64 x3 a0_1)) () _ hp)
  replace hp := (br_f h3).symm.trans hp
  refine cx_exit' ?_
  replace hp := Option.some.inj hp
  subst hp
  show TX E (Zg E (Exit.exit 0) _ (Exit.exit 0)) _
  exact tx_zend' () rfl [0, 1] sub_nil (by decide) (pick_cons rfl (pick_cons rfl pick_nil))
 refine zg_out fun w2 => ?_
 replace hp := Option.some.inj hp
 subst hp
 refine tx_pick' (L' := []) (H' := [⟨.pointer (some wa0), [(Vi a0_0), (Vi a0_1), (Vl (Vs wa0_2)), (Fl v2.2)], 84, none⟩, (Rw Kf 26 (Vs wa0_2) v2.1)]) [0, 1] sub_nil (by decide) (pick_cons rfl (pick_cons rfl pick_nil)) ?_
 exact tx_end0' Tryz.results38 rfl () rfl (List.Sublist.refl _)

def xy_LineCentroidCalculator_AddLinearRing_v2 (k : Nat) (a0_0 : Int) (a0_1 : Int) (a0_2 : List Nat) (a0_3 : Nat) (a1_0 : Int) (a1_1 : Int) (a1_2 : List Nat) (a1_3 : Int) : Option (Int × Int × (List Nat) × Nat × Int × Int × (List Nat) × Int) :=
 (gogeom_geom0_FlatCoords k a1_0 a1_1 a1_2 a1_3) >>= fun r10 =>
 (xy_LineCentroidCalculator_addLine_v2 k a0_0 a0_1 a0_2 a0_3 r10.2.2.1 0 (r10.2.2.1.length : Int)) >>= fun r15 =>
 some (r15.1, r15.2.1, r15.2.2.1, r15.2.2.2, r10.1, r10.2.1, r10.2.2.1, r10.2.2.2)

theorem xy_LineCentroidCalculator_AddLinearRing_v2_sim {k : Nat} {wa0 : Addr} {wa0_2 : Gs} {wa1 : Addr} (a0_0 : Int) (a0_1 : Int) (a0_2 : List Nat) (a0_3 : Nat) (a1_0 : Int) (a1_1 : Int) (a1_2 : List Nat) (a1_3 : Int) {out : Int × Int × (List Nat) × Nat × Int × Int × (List Nat) × Int} (hp : xy_LineCentroidCalculator_AddLinearRing_v2 k a0_0 a0_1 a0_2 a0_3 a1_0 a1_1 a1_2 a1_3 = some out) : Sx.Fn Tryz.prog 18 [(Vp wa0), (Vp wa1)] [⟨.pointer (some wa0), [(Vi a0_0), (Vi a0_1), (Vl (Vs wa0_2)), (Fl a0_3)], 84, none⟩, (Rw Kf 26 (Vs wa0_2) a0_2), ⟨.pointer (some wa1), [(Vi a1_0), (Vi a1_1), (Sl Kf a1_2), (Vi a1_3)], 91, none⟩] (fun w : Unit => (Vp wa0)) (fun w => [⟨.pointer (some wa0), [(Vi out.1), (Vi out.2.1), (Vl (Vs wa0_2)), (Fl out.2.2.2.1)], 84, none⟩, (Rw Kf 26 (Vs wa0_2) out.2.2.1), ⟨.pointer (some wa1), [(Vi out.2.2.2.2.1), (Vi out.2.2.2.2.2.1), (Sl Kf out.2.2.2.2.2.2.1), (Vi out.2.2.2.2.2.2.2)], 91, none⟩]) := by
 unfold xy_LineCentroidCalculator_AddLinearRing_v2 at hp
 refine fn_of Tryz.func18 rfl Tryz.ntmps18 rfl fun E hM => ?_
 refine cr fun K1 hK1 => ?_
 refine s0 (rd_assign' rfl) ?_
 refine nk hK1 ?_
 refine cr fun K2 hK2 => ?_
 refine s0 (rd_move' rfl) ?_
 refine s0 (rd_nilck' rfl) ?_
 refine s0 (rd_field0' rfl Tryz.underlying91 rfl info89 rfl) ?_
 refine s0 (rd_field0' rfl Tryz.underlying89 rfl info87 rfl) ?_
 obtain ⟨r10, hr10, hp⟩ := bind_some hp
 refine sx_ox' (ox_callg' (ent_fn' Tryz.func37 isn37 rfl rfl) (gogeom_geom0_FlatCoords_sim _ _ _ _ hr10 : Sx.Fn Tryz.prog 37 [(Vp wa1)] [⟨.pointer (some wa1), [(Vi a1_0), (Vi a1_1), (Sl Kf a1_2), (Vi a1_3)], 91, none⟩] (fun x : Unit => (Sl Kf r10.2.2.1)) (fun x => [⟨.pointer (some wa1), [(Vi r10.1), (Vi r10.2.1), (Sl Kf r10.2.2.1), (Vi r10.2.2.2)], 91, none⟩])) [2] [0, 1] (by decide) (pick_cons rfl pick_nil) (pick_cons rfl (pick_cons rfl pick_nil)) (Hn := fun x : Unit => [⟨.pointer (some wa1), [(Vi r10.1), (Vi r10.2.1), (Sl Kf r10.2.2.1), (Vi r10.2.2.2)], 91, none⟩, ⟨.pointer (some wa0), [(Vi a0_0), (Vi a0_1), (Vl (Vs wa0_2)), (Fl a0_3)], 84, none⟩, (Rw Kf 26 (Vs wa0_2) a0_2)]) (fun _ => rfl) rfl rfl) (wt_none' rfl) fun ⟨⟩ => ?_
 refine s0 (rd_assign' rfl) ?_
 refine nk hK2 ?_
 refine cr fun K3 hK3 => ?_
 refine s0 (rd_move' rfl) ?_
 refine s0 (rd_move' rfl) ?_
 refine s0 (rd_move' rfl) ?_
 refine s0 (rd_len' rfl Tryz.underlying29) ?_
 obtain ⟨r15, hr15, hp⟩ := bind_some hp
 refine sx_ox' (ox_callg' (ent_fn' Tryz.func38 isn38 rfl rfl) (xy_LineCentroidCalculator_addLine_v2_sim _ _ _ _ _ _ _ hr15 : Sx.Fn Tryz.prog 38 [(Vp wa0), (Sl Kf r10.2.2.1), (Vi 0), (Vi (r10.2.2.1.length : Int))] [⟨.pointer (some wa0), [(Vi a0_0), (Vi a0_1), (Vl (Vs wa0_2)), (Fl a0_3)], 84, none⟩, (Rw Kf 26 (Vs wa0_2) a0_2)] (fun x : Unit => (Vl (.tuple #[]))) (fun x => [⟨.pointer (some wa0), [(Vi r15.1), (Vi r15.2.1), (Vl (Vs wa0_2)), (Fl r15.2.2.2)], 84, none⟩, (Rw Kf 26 (Vs wa0_2) r15.2.2.1)])) [1, 2] [0] (by decide) (pick_cons rfl (pick_cons rfl pick_nil)) (pick_cons rfl pick_nil) (Hn := fun x : Unit => [⟨.pointer (some wa0), [(Vi r15.1), (Vi r15.2.1), (Vl (Vs wa0_2)), (Fl r15.2.2.2)], 84, none⟩, (Rw Kf 26 (Vs wa0_2) r15.2.2.1), ⟨.pointer (some wa1), [(Vi r10.1), (Vi r10.2.1), (Sl Kf r10.2.2.1), (Vi r10.2.2.2)], 91, none⟩]) (fun _ => rfl) rfl rfl) (wt_none' rfl) fun ⟨⟩ => ?_
 refine nk hK3 ?_
 refine cr fun K4 hK4 => ?_
 refine s0 (rd_move' rfl) ?_
 refine s0 (rd_assign' rfl) ?_
 refine nk hK4 ?_
 refine cx_retc' ?_
 replace hp := Option.some.inj hp
 subst hp
 refine tx_pick' (L' := [(4, (Vp wa0))]) (H' := [⟨.pointer (some wa0), [(Vi r15.1), (Vi r15.2.1), (Vl (Vs wa0_2)), (Fl r15.2.2.2)], 84, none⟩, (Rw Kf 26 (Vs wa0_2) r15.2.2.1), ⟨.pointer (some wa1), [(Vi r10.1), (Vi r10.2.1), (Sl Kf r10.2.2.1), (Vi r10.2.2.2)], 91, none⟩]) [0, 1, 2] (sub_cons rfl sub_nil) (by decide) (pick_cons rfl (pick_cons rfl (pick_cons rfl pick_nil))) ?_
 exact tx_ret1' Tryz.results18 rfl () (rv_tmp' rfl) (List.Sublist.refl _)

def xy_LineCentroidCalculator_GetCentroid (k : Nat) (a0_0 : Int) (a0_1 : Int) (a0_2 : List Nat) (a0_3 : Nat) : Option (Int × Int × (List Nat) × Nat × (List Nat)) :=
 (gogeom_Layout_Stride k a0_0) >>= fun r8 =>
 (mk 8 0 r8 r8) >>= fun r9 =>
 (idx a0_2 0) >>= fun r15 =>
 (num a0_3) >>= fun u1 =>
 (fdiv r15 a0_3) >>= fun r21 =>
 (idx r9 0) >>= fun r22 =>
 (idx a0_2 1) >>= fun r28 =>
 (num a0_3) >>= fun u2 =>
 (fdiv r28 a0_3) >>= fun r34 =>
 (idx (r9.set (0 : Int).toNat r21) 1) >>= fun r35 =>
 some (a0_0, a0_1, a0_2, a0_3, (r9.set (0 : Int).toNat r21).set (1 : Int).toNat r34)

theorem xy_LineCentroidCalculator_GetCentroid_sim {k : Nat} {wa0 : Addr} {wa0_2 : Gs} (a0_0 : Int) (a0_1 : Int) (a0_2 : List Nat) (a0_3 : Nat) {out : Int × Int × (List Nat) × Nat × (List Nat)} (hp : xy_LineCentroidCalculator_GetCentroid k a0_0 a0_1 a0_2 a0_3 = some out) : Sx.Fn Tryz.prog 21 [(Vp wa0)] [⟨.pointer (some wa0), [(Vi a0_0), (Vi a0_1), (Vl (Vs wa0_2)), (Fl a0_3)], 84, none⟩, (Rw Kf 26 (Vs wa0_2) a0_2)] (fun w : Unit => (Sl Kf out.2.2.2.2)) (fun w => [⟨.pointer (some wa0), [(Vi out.1), (Vi out.2.1), (Vl (Vs wa0_2)), (Fl out.2.2.2.1)], 84, none⟩, (Rw Kf 26 (Vs wa0_2) out.2.2.1)]) := by
 unfold xy_LineCentroidCalculator_GetCentroid at hp
 refine fn_of Tryz.func21 rfl Tryz.ntmps21 rfl fun E hM => ?_
 refine cr fun K1 hK1 => ?_
 refine s0 (rd_assign' rfl) ?_
 refine nk hK1 ?_
 refine cr fun K2 hK2 => ?_
 refine s0 (rd_move' rfl) ?_
 refine s0 (rd_nilck' rfl) ?_
 refine s0 (rd_field0' rfl Tryz.underlying84 rfl info58 rfl) ?_
 refine s0 (rd_load' (i := 0) (o := 0) rfl ⟨rfl, rfl, rfl, rfl⟩ rfl flat58) ?_
 obtain ⟨r8, hr8, hp⟩ := bind_some hp
 refine sx_ox' (ox_calln' (ent_fn' Tryz.func36 isn36 rfl rfl) (gogeom_Layout_Stride_sim _ hr8 : Sx.Fn Tryz.prog 36 [(Vi a0_0)] [] (fun x : Unit => (Vi r8)) (fun x => [])) (Hn := fun x : Unit => [⟨.pointer (some wa0), [(Vi a0_0), (Vi a0_1), (Vl (Vs wa0_2)), (Fl a0_3)], 84, none⟩, (Rw Kf 26 (Vs wa0_2) a0_2)]) (fun _ => rfl) rfl rfl) (wt_none' rfl) fun ⟨⟩ => ?_
 obtain ⟨r9, hr9, hp⟩ := bind_some hp
 refine sx_ox' (ox_make' (K := Kf) rfl rfl hr9 rfl Tryz.underlying29 info26 rfl rfl rfl rfl rfl) (wt_none' rfl) fun g9 => ?_
 refine s0 (rd_assign' rfl) ?_
 refine nk hK2 ?_
 refine cx_seq' fun K3 hK3 => ?_
 refine cx_plan' [] [(13, 1)] [(0, 1), (1, 1), (2, 1), (3, 1), (4, 1), (5, 1), (6, 1), (7, 1), (8, 1), (9, 1), (10, 1), (11, 1), (12, 1), (13, 0)] mixed (by kernel_rfl) ?_
 refine px_rd' rfl (rd_move' rfl) rfl rfl (wt_none' rfl) ?_
 refine px_rd' rfl (rd_move' rfl) rfl rfl (wt_none' rfl) ?_
 refine px_rd' rfl (rd_nilck' rfl) rfl rfl (wt_none' rfl) ?_
 refine px_rd' rfl (rd_field' (off := 2) rfl Tryz.underlying84 rfl info65 rfl) rfl rfl (wt_none' rfl) ?_
 refine px_rd' rfl (rd_load' (i := 1) (o := 2) rfl ⟨rfl, rfl, rfl, rfl⟩ rfl flat65) rfl rfl (wt_none' rfl) ?_
 obtain ⟨r15, hr15, hp⟩ := bind_some hp
 refine px_rd' rfl (rd_atr' (m := 2) rfl rfl rfl rfl hr15 Tryz.underlying65 info26) rfl rfl (wt_none' rfl) ?_
 refine px_rd' rfl (rd_loadr' rfl (m := 2) (i := 0) (j := 0) rfl rfl hr15 rfl rfl flat26) rfl rfl (wt_none' rfl) ?_
 refine px_rd' rfl (rd_move' rfl) rfl rfl (wt_none' rfl) ?_
 refine px_rd' rfl (rd_nilck' rfl) rfl rfl (wt_none' rfl) ?_
 refine px_rd' rfl (rd_field' (off := 3) rfl Tryz.underlying84 rfl info26 rfl) rfl rfl (wt_none' rfl) ?_
 refine px_rd' rfl (rd_load' (i := 1) (o := 3) rfl ⟨rfl, rfl, rfl, rfl⟩ rfl flat26) rfl rfl (wt_none' rfl) ?_
 obtain ⟨u1, hu1, hp⟩ := bind_some hp
 refine tx_slot' 20 (y := (Vg a0_3)) rfl (imp_num (num_some hu1).2) ?_
 obtain ⟨r21, hr21, hp⟩ := bind_some hp
 refine px_rd' rfl (rd_bin' rfl rfl eg_flt (ru_fdiv hr21)) rfl rfl (wt_none' rfl) ?_
 obtain ⟨r22, hr22, hp⟩ := bind_some hp
 refine px_rd' rfl (rd_atr' (m := 0) rfl rfl rfl rfl hr22 Tryz.underlying65 info26) rfl rfl (wt_none' rfl) ?_
 refine px_ox' rfl (ox_storer' (m := 0) (i := 0) (j := 0) (x' := r21) rfl rfl (lv_vl rfl rfl) rfl rfl hr22 rfl rfl rfl info26 rfl (H' := [(Rw Kf 26 (Vs g9) (r9.set (0 : Int).toNat r21)), ⟨.pointer (some wa0), [(Vi a0_0), (Vi a0_1), (Vl (Vs wa0_2)), (Fl a0_3)], 84, none⟩, (Rw Kf 26 (Vs wa0_2) a0_2)]) rfl) rfl bs_nil (wt_none' rfl) fun _ => ?_
 refine px_nil' ?_
 show TX E K3 _
 refine tx_k' hK3 ?_
 refine cx_seq' fun K4 hK4 => ?_
 refine cx_plan' [] [(13, 1)] [(0, 1), (1, 1), (2, 1), (3, 1), (4, 1), (5, 1), (6, 1), (7, 1), (8, 1), (9, 1), (10, 1), (11, 1), (12, 1), (13, 0)] mixed (by kernel_rfl) ?_
 refine px_rd' rfl (rd_move' rfl) rfl rfl (wt_none' rfl) ?_
 refine px_rd' rfl (rd_move' rfl) rfl rfl (wt_none' rfl) ?_
 refine px_rd' rfl (rd_nilck' rfl) rfl rfl (wt_none' rfl) ?_
 refine px_rd' rfl (rd_field' (off := 2) rfl Tryz.underlying84 rfl info65 rfl) rfl rfl (wt_none' rfl) ?_
 refine px_rd' rfl (rd_load' (i := 1) (o := 2) rfl ⟨rfl, rfl, rfl, rfl⟩ rfl flat65) rfl rfl (wt_none' rfl) ?_
 obtain ⟨r28, hr28, hp⟩ := bind_some hp
 refine px_rd' rfl (rd_atr' (m := 2) rfl rfl rfl rfl hr28 Tryz.underlying65 info26) rfl rfl (wt_none' rfl) ?_
 refine px_rd' rfl (rd_loadr' rfl (m := 2) (i := 1) (j := 0) rfl rfl hr28 rfl rfl flat26) rfl rfl (wt_none' rfl) ?_
 refine px_rd' rfl (rd_move' rfl) rfl rfl (wt_none' rfl) ?_
 refine px_rd' rfl (rd_nilck' rfl) rfl rfl (wt_none' rfl) ?_
 refine px_rd' rfl (rd_field' (off := 3) rfl Tryz.underlying84 rfl info26 rfl) rfl rfl (wt_none' rfl) ?_
 refine px_rd' rfl (rd_load' (i := 1) (o := 3) rfl ⟨rfl, rfl, rfl, rfl⟩ rfl flat26) rfl rfl (wt_none' rfl) ?_
 obtain ⟨u2, hu2, hp⟩ := bind_some hp
 refine tx_slot' 33 (y := (Vg a0_3)) rfl (imp_num (num_some hu2).2) ?_
 obtain ⟨r34, hr34, hp⟩ := bind_some hp
 refine px_rd' rfl (rd_bin' rfl rfl eg_flt (ru_fdiv hr34)) rfl rfl (wt_none' rfl) ?_
 obtain ⟨r35, hr35, hp⟩ := bind_some hp
 refine px_rd' rfl (rd_atr' (m := 0) rfl rfl rfl rfl hr35 Tryz.underlying65 info26) rfl rfl (wt_none' rfl) ?_
 refine px_ox' rfl (ox_storer' (m := 0) (i := 1) (j := 0) (x' := r34) rfl rfl (lv_vl rfl rfl) rfl rfl hr35 rfl rfl rfl info26 rfl (H' := [(Rw Kf 26 (Vs g9) ((r9.set (0 : Int).toNat r21).set (1 : Int).toNat r34)), ⟨.pointer (some wa0), [(Vi a0_0), (Vi a0_1), (Vl (Vs wa0_2)), (Fl a0_3)], 84, none⟩, (Rw Kf 26 (Vs wa0_2) a0_2)]) rfl) rfl bs_nil (wt_none' rfl) fun _ => ?_
 refine px_nil' ?_
 show TX E K4 _
 refine tx_k' hK4 ?_
 refine cr fun K5 hK5 => ?_
 refine s0 (rd_move' rfl) ?_
 refine s0 (rd_assign' rfl) ?_
 refine nk hK5 ?_
 refine cx_retc' ?_
 replace hp := Option.some.inj hp
 subst hp
 refine tx_fz' (frz_row 0 [(2, (Vl (Vs g9)), (Sl Kf ((r9.set (0 : Int).toNat r21).set (1 : Int).toNat r34))), (9, (Vl (Vs g9)), (Sl Kf ((r9.set (0 : Int).toNat r21).set (1 : Int).toNat r34))), (3, (Vl (Vs g9)), (Sl Kf ((r9.set (0 : Int).toNat r21).set (1 : Int).toNat r34))), (10, (Vl (Vs g9)), (Sl Kf ((r9.set (0 : Int).toNat r21).set (1 : Int).toNat r34))), (23, (Vl (Vs g9)), (Sl Kf ((r9.set (0 : Int).toNat r21).set (1 : Int).toNat r34))), (36, (Vl (Vs g9)), (Sl Kf ((r9.set (0 : Int).toNat r21).set (1 : Int).toNat r34)))] (K := Kf) (xs := (r9.set (0 : Int).toNat r21).set (1 : Int).toNat r34) (by decide) rfl ⟨⟨rfl, frz_it⟩, ⟨rfl, frz_it⟩, ⟨rfl, frz_it⟩, ⟨rfl, frz_it⟩, ⟨rfl, frz_it⟩, ⟨rfl, frz_it⟩, trivial⟩ (H' := [⟨.pointer (some wa0), [(Vi a0_0), (Vi a0_1), (Vl (Vs wa0_2)), (Fl a0_3)], 84, none⟩, (Rw Kf 26 (Vs wa0_2) a0_2)]) frzH_refl) ?_
 refine tx_pick' (L' := [(2, (Sl Kf ((r9.set (0 : Int).toNat r21).set (1 : Int).toNat r34)))]) (H' := [⟨.pointer (some wa0), [(Vi a0_0), (Vi a0_1), (Vl (Vs wa0_2)), (Fl a0_3)], 84, none⟩, (Rw Kf 26 (Vs wa0_2) a0_2)]) [0, 1] (sub_cons rfl sub_nil) (by decide) (pick_cons rfl (pick_cons rfl pick_nil)) ?_
 exact tx_ret1' Tryz.results21 rfl () (rv_tmp' rfl) (List.Sublist.refl _)

def impl_RingsCentroid_l1s (a1 : List T38) (k : Nat) (rec1 : (Int × Int × (List Nat) × Nat × Int) → Option (Int × Int × (List Nat) × Nat)) (x1 : Int) (x2 : Int) (x3 : List Nat) (x4 : Nat) (x5 : Int) : Option (Int × Int × (List Nat) × Nat) :=
 br (decide (x5 < (a1.length : Int)))
  ((idx a1 x5) >>= fun r16 =>
  (impl_geometry k r16.f0 r16.f1 r16.f2 r16.f3 r16.f4 r16.f5 r16.f6) >>= fun r20 =>
  match r20 with
   | (.inl y12) =>
    (none)
   | (.inr (.inl y12)) =>
    (none)
   | (.inr (.inr (.inl y12))) =>
    ((xy_LineCentroidCalculator_AddLinearRing_v2 k x1 x2 x3 x4 y12.1 y12.2.1 y12.2.2.1 y12.2.2.2) >>= fun r22 =>
    rec1 (r22.1, r22.2.1, r22.2.2.1, r22.2.2.2.1, (iadd .i64 x5 1)))
   | (.inr (.inr (.inr (.inl y12)))) =>
    (none)
   | (.inr (.inr (.inr (.inr (.inl y12))))) =>
    (none)
   | (.inr (.inr (.inr (.inr (.inr (.inl y12)))))) =>
    (none)
   | (.inr (.inr (.inr (.inr (.inr (.inr (.inl y12))))))) =>
    (none)
   | (.inr (.inr (.inr (.inr (.inr (.inr (.inr y12))))))) =>
    (none))
  (some (x1, x2, x3, x4))
def impl_RingsCentroid_l1 (a1 : List T38) : Nat → (Int × Int × (List Nat) × Nat × Int) → Option (Int × Int × (List Nat) × Nat)
 | 0, _ => none
 | k + 1, v => impl_RingsCentroid_l1s a1 k (impl_RingsCentroid_l1 a1 k) v.1 v.2.1 v.2.2.1 v.2.2.2.1 v.2.2.2.2
def impl_RingsCentroid (k : Nat) (a0 : Int) (a1 : List T38) : Option ((List Nat) × Bool) :=
 (xy_NewLineCentroidCalculator k a0) >>= fun r11 =>
 (impl_RingsCentroid_l1 a1 k (r11.1, r11.2.1, r11.2.2.1, r11.2.2.2, 0)) >>= fun v2 =>
 (xy_LineCentroidCalculator_GetCentroid k v2.1 v2.2.1 v2.2.2.1 v2.2.2.2) >>= fun r25 =>
 (impl_floats k r25.2.2.2.2) >>= fun r26 =>
 some (r26, true)

theorem impl_RingsCentroid_sim {k : Nat}  (a0 : Int) (a1 : List T38) {out : (List Nat) × Bool} (hp : impl_RingsCentroid k a0 a1 = some out) : Sx.Fn Tryz.prog 6 [(Vi a0), (Sl KT38 a1)] [] (fun w : Unit => (Tu [(Sl Kf out.1), (Vb out.2)])) (fun w => []) := by
 unfold impl_RingsCentroid at hp
 refine fnD_of Tryz.func6 rfl Tryz.ntmps6 rfl fun E hM => ?_
 refine cr fun K1 hK1 => ?_
 refine sx_ox' (ox_alloc' info29 rfl rfl rfl rfl (l := [Vn]) rfl) (wt_none' rfl) fun q4 => ?_
 refine sx_ox' (ox_alloc' info4 rfl rfl rfl rfl (l := [(Vb false)]) rfl) (wt_none' rfl) fun q5 => ?_
 refine nk hK1 ?_
 refine cr fun K2 hK2 => ?_
 refine s0 (rd_mkfunc' (us := [.pointer (some q4), .pointer (some q5)]) rfl) ?_
 refine sx_ox' (ox_defer' rfl rfl) (wt_none' rfl) fun _ => ?_
 refine nk hK2 ?_
 refine cr fun K3 hK3 => ?_
 refine s0 (rd_move' rfl) ?_
 obtain ⟨r11, hr11, hp⟩ := bind_some hp
 refine sx_ox' (ox_calln' (ent_fn' Tryz.func17 isn17 rfl rfl) (xy_NewLineCentroidCalculator_sim _ hr11 : Sx.Fn Tryz.prog 17 [(Vi a0)] [] (fun x : Addr × Gs => (Vp x.1)) (fun x => [⟨.pointer (some x.1), [(Vi r11.1), (Vi r11.2.1), (Vl (Vs x.2)), (Vg r11.2.2.2)], 84, none⟩, (Rw Kf 26 (Vs x.2) r11.2.2.1)])) (Hn := fun x : Addr × Gs => [⟨.pointer (some x.1), [(Vi r11.1), (Vi r11.2.1), (Vl (Vs x.2)), (Vg r11.2.2.2)], 84, none⟩, (Rw Kf 26 (Vs x.2) r11.2.2.1), ⟨.pointer (some q5), [(Vb false)], 4, none⟩, ⟨.pointer (some q4), [Vn], 29, none⟩]) (fun _ => rfl) rfl rfl) (wt_none' rfl) fun ⟨q11, g11⟩ => ?_
 refine s0 (rd_assign' rfl) ?_
 refine nk hK3 ?_
 refine cx_seq' fun K4 hK4 => ?_
 refine cr fun K5 hK5 => ?_
 refine s0 (rd_move' rfl) ?_
 refine s0 (rd_len' rfl Tryz.underlying22) ?_
 refine s0 (rd_move' rfl) ?_
 refine nk hK5 ?_
 refine cx_block' ?_
 obtain ⟨v2, hy1, hp⟩ := bind_some hp
 refine tx_cell' 0 3 (y := (Fl r11.2.2.2)) rfl rfl imp_vf (H' := [⟨.pointer (some q11), [(Vi r11.1), (Vi r11.2.1), (Vl (Vs g11)), (Fl r11.2.2.2)], 84, none⟩, (Rw Kf 26 (Vs g11) r11.2.2.1), ⟨.pointer (some q5), [(Vb false)], 4, none⟩, ⟨.pointer (some q4), [Vn], 29, none⟩]) rfl ?_
 refine cx_loopg' (F := impl_RingsCentroid_l1 a1) (G := fun k R v => impl_RingsCentroid_l1s a1 k R v.1 v.2.1 v.2.2.1 v.2.2.2.1 v.2.2.2.2) (x := (r11.1, r11.2.1, r11.2.2.1, r11.2.2.2, 0)) (gh := ()) (fun (v1 : Int × Int × (List Nat) × Nat × Int) (w1 : Unit) => (⟨27, [⟨.fn (.func 16) ⟨[.pointer (some q4), .pointer (some q5)]⟩, #[]⟩], [(4, (Vp q4)), (5, (Vp q5)), (6, (Vp q11)), (12, (Sl KT38 a1)), (13, (Vi (a1.length : Int))), (14, (Vi v1.2.2.2.2))], [⟨.pointer (some q4), [Vn], 29, none⟩, ⟨.pointer (some q5), [(Vb false)], 4, none⟩, ⟨.pointer (some q11), [(Vi v1.1), (Vi v1.2.1), (Vl (Vs g11)), (Fl v1.2.2.2.1)], 84, none⟩, (Rw Kf 26 (Vs g11) v1.2.2.1)]⟩ : St)) (fun (v2 : Int × Int × (List Nat) × Nat) => Zg E (Exit.exit 0) (fun (w2 : Unit) => (⟨27, [⟨.fn (.func 16) ⟨[.pointer (some q4), .pointer (some q5)]⟩, #[]⟩], [(4, (Vp q4)), (5, (Vp q5)), (6, (Vp q11))], [⟨.pointer (some q4), [Vn], 29, none⟩, ⟨.pointer (some q5), [(Vb false)], 4, none⟩, ⟨.pointer (some q11), [(Vi v2.1), (Vi v2.2.1), (Vl (Vs g11)), (Fl v2.2.2.2)], 84, none⟩, (Rw Kf 26 (Vs g11) v2.2.2.1)]⟩ : St))) (fun _ => rfl) (fun _ _ => rfl) ?_ hy1 (tx_to' rfl [3, 2, 0, 1] (sub_cons rfl (sub_cons rfl (sub_cons rfl (sub_cons rfl (sub_cons rfl (sub_cons rfl sub_nil)))))) (by decide) (pick_cons rfl (pick_cons rfl (pick_cons rfl (pick_cons rfl pick_nil))))) ?_
 ·clear hp hy1
  clear v2
  intro k rec1 KY1 ih1
  rintro ⟨x1, x2, x3, x4, x5⟩ ⟨⟩ y21 hp
  replace hp : impl_RingsCentroid_l1s a1 k rec1 x1 x2 x3 x4 x5 = some y21 := hp
  unfold impl_RingsCentroid_l1s at hp
  refine cr fun K10 hK10 => ?_
  refine s0 (rd_bin' rfl rfl eg_int ru_lss) ?_
  refine nk hK10 ?_
  refine cx_seq' fun K11 hK11 => ?_
  refine cx_cond' rfl (fun h3 => ?_) (fun h3 => ?_)
  ·replace hp := (br_t h3).symm.trans hp
   refine cx_skip' ?_
   show TX E K11 _
   refine tx_k' hK11 ?_
   refine cx_seq' fun K12 hK12 => ?_
   refine cx_block' ?_
   refine cr fun K13 hK13 => ?_
   obtain ⟨r16, hr16, hp⟩ := bind_some hp
   refine s0 (rd_eq' (congrArg Pt (KT38_enc r16)) (rd_at' (K := KT38) rfl rfl hr16 Tryz.underlying22 info38)) ?_
   refine s0 (rd_load_pt_agg' (nn := 7) rfl rfl agg38 (l' := [(Vi r16.f0), (Vi r16.f1), (Vi r16.f2), (Sl Kf r16.f3), (Sl (Ki .i64) r16.f4), (Sl (Kl (Ki .i64)) r16.f5), (Sl KT38 r16.f6)]) rfl) ?_
   refine sx_ox' (ox_alloc' info38 rfl rfl rfl rfl (l := [(Vi 0), (Vi 0), (Vi 0), Vn, Vn, Vn, Vn]) rfl) (wt_none' rfl) fun q8 => ?_
   refine sx_ox' (ox_store' (i := 0) (o := 0) rfl rfl (lv_ag _) ⟨rfl, rfl, rfl, rfl⟩ rfl info38 rfl (H' := [⟨.pointer (some q8), [(Vi r16.f0), (Vi r16.f1), (Vi r16.f2), (Sl Kf r16.f3), (Sl (Ki .i64) r16.f4), (Sl (Kl (Ki .i64)) r16.f5), (Sl KT38 r16.f6)], 38, none⟩, ⟨.pointer (some q4), [Vn], 29, none⟩, ⟨.pointer (some q5), [(Vb false)], 4, none⟩, ⟨.pointer (some q11), [(Vi x1), (Vi x2), (Vl (Vs g11)), (Fl x4)], 84, none⟩, (Rw Kf 26 (Vs g11) x3)]) rfl) (wt_none' rfl) fun _ => ?_
   refine nk hK13 ?_
   refine cx_region' ?_
   refine s0 (rd_move' rfl) ?_
   refine s0 (rd_load_agg' (i := 0) (o := 0) (nn := 7) rfl ⟨rfl, rfl, rfl, rfl⟩ rfl agg38 (l' := [(Vi r16.f0), (Vi r16.f1), (Vi r16.f2), (Sl Kf r16.f3), (Sl (Ki .i64) r16.f4), (Sl (Kl (Ki .i64)) r16.f5), (Sl KT38 r16.f6)]) rfl) ?_
   obtain ⟨r20, hr20, hp⟩ := bind_some hp
   rcases r20 with y12 | y12 | y12 | y12 | y12 | y12 | y12 | y12
   ·dsimp only at hp
    cases hp
   ·dsimp only at hp
    cases hp
   ·dsimp only at hp
    refine sx_ox' (ox_calln' (ent_fn' Tryz.func19 isn19 rfl rfl) (impl_geometry_sim _ _ _ _ _ _ _ hr20 : Sx.Fn Tryz.prog 19 [(Ag [(Vi r16.f0), (Vi r16.f1), (Vi r16.f2), (Sl Kf r16.f3), (Sl (Ki .i64) r16.f4), (Sl (Kl (Ki .i64)) r16.f5), (Sl KT38 r16.f6)])] [] (fun x : Addr => (If 60 (Vp x))) (fun x => [⟨.pointer (some x), [(Vi y12.1), (Vi y12.2.1), (Sl Kf y12.2.2.1), (Vi y12.2.2.2)], 91, none⟩])) (Hn := fun x : Addr => [⟨.pointer (some x), [(Vi y12.1), (Vi y12.2.1), (Sl Kf y12.2.2.1), (Vi y12.2.2.2)], 91, none⟩, ⟨.pointer (some q8), [(Vi r16.f0), (Vi r16.f1), (Vi r16.f2), (Sl Kf r16.f3), (Sl (Ki .i64) r16.f4), (Sl (Kl (Ki .i64)) r16.f5), (Sl KT38 r16.f6)], 38, none⟩, ⟨.pointer (some q4), [Vn], 29, none⟩, ⟨.pointer (some q5), [(Vb false)], 4, none⟩, ⟨.pointer (some q11), [(Vi x1), (Vi x2), (Vl (Vs g11)), (Fl x4)], 84, none⟩, (Rw Kf 26 (Vs g11) x3)]) (fun _ => rfl) rfl rfl) (wt_none' rfl) fun q20 => ?_
    refine s0 (rd_assert' rfl (F := fun v => v) as60_62_60 as_id) ?_
    obtain ⟨r22, hr22, hp⟩ := bind_some hp
    refine sx_ox' (ox_callg' (ent_fn' Tryz.func18 isn18 rfl rfl) (xy_LineCentroidCalculator_AddLinearRing_v2_sim _ _ _ _ _ _ _ _ hr22 : Sx.Fn Tryz.prog 18 [(Vp q11), (Vp q20)] [⟨.pointer (some q11), [(Vi x1), (Vi x2), (Vl (Vs g11)), (Fl x4)], 84, none⟩, (Rw Kf 26 (Vs g11) x3), ⟨.pointer (some q20), [(Vi y12.1), (Vi y12.2.1), (Sl Kf y12.2.2.1), (Vi y12.2.2.2)], 91, none⟩] (fun x : Unit => (Vp q11)) (fun x => [⟨.pointer (some q11), [(Vi r22.1), (Vi r22.2.1), (Vl (Vs g11)), (Fl r22.2.2.2.1)], 84, none⟩, (Rw Kf 26 (Vs g11) r22.2.2.1), ⟨.pointer (some q20), [(Vi r22.2.2.2.2.1), (Vi r22.2.2.2.2.2.1), (Sl Kf r22.2.2.2.2.2.2.1), (Vi r22.2.2.2.2.2.2.2)], 91, none⟩])) [4, 5, 0] [1, 2, 3] (by decide) (pick_cons rfl (pick_cons rfl (pick_cons rfl pick_nil))) (pick_cons rfl (pick_cons rfl (pick_cons rfl pick_nil))) (Hn := fun x : Unit => [⟨.pointer (some q11), [(Vi r22.1), (Vi r22.2.1), (Vl (Vs g11)), (Fl r22.2.2.2.1)], 84, none⟩, (Rw Kf 26 (Vs g11) r22.2.2.1), ⟨.pointer (some q20), [(Vi r22.2.2.2.2.1), (Vi r22.2.2.2.2.2.1), (Sl Kf r22.2.2.2.2.2.2.1), (Vi r22.2.2.2.2.2.2.2)], 91, none⟩, ⟨.pointer (some q8), [(Vi r16.f0), (Vi r16.f1), (Vi r16.f2), (Sl Kf r16.f3), (Sl (Ki .i64) r16.f4), (Sl (Kl (Ki .i64)) r16.f5), (Sl KT38 r16.f6)], 38, none⟩, ⟨.pointer (some q4), [Vn], 29, none⟩, ⟨.pointer (some q5), [(Vb false)], 4, none⟩]) (fun _ => rfl) rfl rfl) (wt_none' rfl) fun ⟨⟩ => ?_
    refine nk hK12 ?_
    refine cx_region' ?_
    refine s0 (rd_bin' rfl rfl eg_int ru_add) ?_
    refine s0 (rd_move' rfl) ?_
    refine sx_nil' ?_
    show TX E (KY1 _) _
    exact tx_pick' [4, 5, 0, 1] (sub_cons rfl (sub_cons rfl (sub_cons rfl (sub_cons rfl (sub_cons rfl (sub_cons rfl sub_nil)))))) (by decide) (pick_cons rfl (pick_cons rfl (pick_cons rfl (pick_cons rfl pick_nil)))) (ih1 (r22.1, r22.2.1, r22.2.2.1, r22.2.2.2.1, (iadd .i64 x5 1)) () _ hp)
   ·dsimp only at hp
    cases hp
   ·dsimp only at hp
    cases hp
   ·dsimp only at hp
    cases hp
   ·dsimp only at hp
    cases hp
   dsimp only at hp
   cases hp
  replace hp := (br_f h3).symm.trans hp
  refine cx_exit' ?_
  replace hp := Option.some.inj hp
  subst hp
  show TX E (Zg E (Exit.exit 0) _ (Exit.exit 0)) _
  exact tx_zend' () rfl [0, 1, 2, 3] (sub_cons rfl (sub_cons rfl (sub_cons rfl sub_nil))) (by decide) (pick_cons rfl (pick_cons rfl (pick_cons rfl (pick_cons rfl pick_nil))))
 refine zg_out fun w2 => ?_
 show TX E K4 _
 refine tx_k' hK4 ?_
 refine cr fun K14 hK14 => ?_
 refine s0 (rd_move' rfl) ?_
 obtain ⟨r25, hr25, hp⟩ := bind_some hp
 refine sx_ox' (ox_callg' (ent_fn' Tryz.func21 isn21 rfl rfl) (xy_LineCentroidCalculator_GetCentroid_sim _ _ _ _ hr25 : Sx.Fn Tryz.prog 21 [(Vp q11)] [⟨.pointer (some q11), [(Vi v2.1), (Vi v2.2.1), (Vl (Vs g11)), (Fl v2.2.2.2)], 84, none⟩, (Rw Kf 26 (Vs g11) v2.2.2.1)] (fun x : Unit => (Sl Kf r25.2.2.2.2)) (fun x => [⟨.pointer (some q11), [(Vi r25.1), (Vi r25.2.1), (Vl (Vs g11)), (Fl r25.2.2.2.1)], 84, none⟩, (Rw Kf 26 (Vs g11) r25.2.2.1)])) [2, 3] [0, 1] (by decide) (pick_cons rfl (pick_cons rfl pick_nil)) (pick_cons rfl (pick_cons rfl pick_nil)) (Hn := fun x : Unit => [⟨.pointer (some q11), [(Vi r25.1), (Vi r25.2.1), (Vl (Vs g11)), (Fl r25.2.2.2.1)], 84, none⟩, (Rw Kf 26 (Vs g11) r25.2.2.1), ⟨.pointer (some q4), [Vn], 29, none⟩, ⟨.pointer (some q5), [(Vb false)], 4, none⟩]) (fun _ => rfl) rfl rfl) (wt_none' rfl) fun ⟨⟩ => ?_
 obtain ⟨r26, hr26, hp⟩ := bind_some hp
 refine sx_ox' (ox_calln' (ent_fn' Tryz.func20 isn20 rfl rfl) (impl_floats_sim _ hr26 : Sx.Fn Tryz.prog 20 [(Sl Kf r25.2.2.2.2)] [] (fun x : Unit => (Sl Kf r26)) (fun x => [])) (Hn := fun x : Unit => [⟨.pointer (some q11), [(Vi r25.1), (Vi r25.2.1), (Vl (Vs g11)), (Fl r25.2.2.2.1)], 84, none⟩, (Rw Kf 26 (Vs g11) r25.2.2.1), ⟨.pointer (some q4), [Vn], 29, none⟩, ⟨.pointer (some q5), [(Vb false)], 4, none⟩]) (fun _ => rfl) rfl rfl) (wt_none' rfl) fun ⟨⟩ => ?_
 refine sx_ox' (ox_store' (i := 2) (o := 0) rfl rfl (lv_sl _ _) ⟨rfl, rfl, rfl, rfl⟩ rfl info29 rfl (H' := [⟨.pointer (some q11), [(Vi r25.1), (Vi r25.2.1), (Vl (Vs g11)), (Fl r25.2.2.2.1)], 84, none⟩, (Rw Kf 26 (Vs g11) r25.2.2.1), ⟨.pointer (some q4), [(Sl Kf r26)], 29, none⟩, ⟨.pointer (some q5), [(Vb false)], 4, none⟩]) rfl) (wt_none' rfl) fun _ => ?_
 refine sx_ox' (ox_store' (i := 3) (o := 0) rfl rfl (lv_vl rfl rfl) ⟨rfl, rfl, rfl, rfl⟩ rfl info4 rfl (H' := [⟨.pointer (some q11), [(Vi r25.1), (Vi r25.2.1), (Vl (Vs g11)), (Fl r25.2.2.2.1)], 84, none⟩, (Rw Kf 26 (Vs g11) r25.2.2.1), ⟨.pointer (some q4), [(Sl Kf r26)], 29, none⟩, ⟨.pointer (some q5), [(Vb true)], 4, none⟩]) rfl) (wt_none' rfl) fun _ => ?_
 refine nk hK14 ?_
 refine cx_retc' ?_
 replace hp := Option.some.inj hp
 subst hp
 refine tx_leave' (.inl rfl) rfl idle16 rfl Tryz.func16 isn16 rfl ?_
 refine tx_pick' (L' := [(4, (Vp q4)), (5, (Vp q5))]) (H' := [⟨.pointer (some q4), [(Sl Kf r26)], 29, none⟩, ⟨.pointer (some q5), [(Vb true)], 4, none⟩]) [2, 3] (sub_cons rfl (sub_cons rfl sub_nil)) (by decide) (pick_cons rfl (pick_cons rfl pick_nil)) ?_
 exact tx_ret2' Tryz.results6 rfl () (rv_cell' (i := 0) (o := 0) rfl ⟨rfl, rfl, rfl, rfl⟩ rfl flat29) (rv_cell' (i := 1) (o := 0) rfl ⟨rfl, rfl, rfl, rfl⟩ rfl flat4) rfl (List.nil_sublist _)

def laws_nearTo (k : Nat) (a0 : Nat) (a1 : Nat) : Option (Bool) :=
 (some (gsub a0 a1)) >>= fun r7 =>
 (num r7) >>= fun u1 =>
 (math_Abs k r7) >>= fun r8 =>
 some (flt r8 4517110426252607488)

theorem laws_nearTo_sim {k : Nat}  (a0 : Nat) (a1 : Nat) {out : Bool} (hp : laws_nearTo k a0 a1 = some out) : Sx.Fn Tryz.prog 22 [(Vg a0), (Vg a1)] [] (fun w : Unit => (Vb out)) (fun w => []) := by
 unfold laws_nearTo at hp
 refine fn_of Tryz.func22 rfl Tryz.ntmps22 rfl fun E hM => ?_
 refine cr fun K1 hK1 => ?_
 refine s0 (rd_assign' rfl) ?_
 refine nk hK1 ?_
 refine cr fun K2 hK2 => ?_
 refine s0 (rd_move' rfl) ?_
 refine s0 (rd_move' rfl) ?_
 obtain ⟨r7, hr7, hp⟩ := bind_some hp
 refine sx_ox' (ox_fop' (.inr (.inl rfl)) (fl_v rfl) (fl_v rfl) (Option.some.inj hr7) rfl rfl) (wt_none' rfl) fun _ => ?_
 obtain ⟨u1, hu1, hp⟩ := bind_some hp
 refine tx_slot' 7 (y := (Vg r7)) rfl (imp_num (num_some hu1).2) ?_
 obtain ⟨r8, hr8, hp⟩ := bind_some hp
 refine sx_ox' (ox_calln' (ent_fn' Tryz.func60 isn60 rfl rfl) (math_Abs_sim _ hr8 : Sx.Fn Tryz.prog 60 [(Vg r7)] [] (fun x : Unit => (Vg r8)) (fun x => [])) (Hn := fun x : Unit => []) (fun _ => rfl) rfl rfl) (wt_none' rfl) fun ⟨⟩ => ?_
 refine s0 (rd_bin' rfl rfl eg_flt ru_flt) ?_
 refine s0 (rd_assign' rfl) ?_
 refine nk hK2 ?_
 refine cx_retc' ?_
 replace hp := Option.some.inj hp
 subst hp
 refine tx_pick' (L' := [(4, (Vb (flt r8 4517110426252607488)))]) (H' := []) [] (sub_cons rfl sub_nil) (by decide) pick_nil ?_
 exact tx_ret1' Tryz.results22 rfl () (rv_tmp' rfl) (List.Sublist.refl _)

def laws_atMiddle_l1s (r36 : List Nat) (k : Nat) (rec1 : Int → Option (Unit ⊕ Unit)) (x4 : Int) : Option (Unit ⊕ Unit) :=
 br (decide (x4 < (r36.length : Int)))
  ((idx r36 x4) >>= fun r40 =>
  br (fne r40 0)
   (some (.inl ()))
   (rec1 (iadd .i64 x4 1)))
  (some (.inr ()))
def laws_atMiddle_l1 (r36 : List Nat) : Nat → Int → Option (Unit ⊕ Unit)
 | 0, _ => none
 | k + 1, v => laws_atMiddle_l1s r36 k (laws_atMiddle_l1 r36 k) v
def laws_atMiddle_j3 (k : Nat) (a0 : List Nat) (x3 : Bool) : Option (Bool) :=
 br x3
  (some false)
  ((cut a0 2 (a0.length : Int)) >>= fun r36 =>
  (laws_atMiddle_l1 r36 k 0) >>= fun y1 => match y1 with
   | (.inl v5) =>
    (some false)
   | (.inr v6) =>
    (some true))
def laws_atMiddle_j2 (k : Nat) (a0 : List Nat) (a2 : Nat) (x2 : Bool) : Option (Bool) :=
 br x2
  (laws_atMiddle_j3 k a0 true)
  ((idx a0 1) >>= fun r29 =>
  (laws_nearTo k r29 a2) >>= fun r32 =>
  laws_atMiddle_j3 k a0 (!r32))
def laws_atMiddle_j1 (k : Nat) (a0 : List Nat) (a2 : Nat) (a1 : Nat) (x1 : Bool) : Option (Bool) :=
 br x1
  (laws_atMiddle_j2 k a0 a2 true)
  ((idx a0 0) >>= fun r21 =>
  (laws_nearTo k r21 a1) >>= fun r24 =>
  laws_atMiddle_j2 k a0 a2 (!r24))
def laws_atMiddle (k : Nat) (a0 : List Nat) (a1 : Nat) (a2 : Nat) (a3 : Int) : Option (Bool) :=
 br (!decide ((a0.length : Int) = a3))
  (laws_atMiddle_j1 k a0 a2 a1 true)
  (laws_atMiddle_j1 k a0 a2 a1 (decide (a3 < 2)))

theorem laws_atMiddle_sim {k : Nat}  (a0 : List Nat) (a1 : Nat) (a2 : Nat) (a3 : Int) {out : Bool} (hp : laws_atMiddle k a0 a1 a2 a3 = some out) : Sx.Fn Tryz.prog 7 [(Sl Kf a0), (Vg a1), (Vg a2), (Vi a3)] [] (fun w : Unit => (Vb out)) (fun w => []) := by
 unfold laws_atMiddle at hp
 refine fn_of Tryz.func7 rfl Tryz.ntmps7 rfl fun E hM => ?_
 refine cr fun K1 hK1 => ?_
 refine s0 (rd_assign' rfl) ?_
 refine nk hK1 ?_
 refine cx_seq' fun K2 hK2 => ?_
 refine cr fun K3 hK3 => ?_
 refine s0 (rd_move' rfl) ?_
 refine s0 (rd_len' rfl Tryz.underlying29) ?_
 refine s0 (rd_move' rfl) ?_
 refine s0 (rd_bin' rfl rfl eg_int ru_neq) ?_
 refine s0 (rd_move' rfl) ?_
 refine sx_cutn' 3 (fun (v1 : Bool) => (⟨45, [], [(0, (Sl Kf a0)), (1, (Vg a1)), (2, (Vg a2)), (18, (Vb v1))], []⟩ : St)) (fun (v1 : Bool) => laws_atMiddle_j1 k a0 a2 a1 v1 = some out) ?_ ?_
 ·rintro x1 hp
  replace hp : laws_atMiddle_j1 k a0 a2 a1 x1 = some out := hp
  unfold laws_atMiddle_j1 at hp
  refine s0 (rd_move' rfl) ?_
  refine sx_cutn' 7 (fun (v2 : Bool) => (⟨45, [], [(0, (Sl Kf a0)), (2, (Vg a2)), (26, (Vb v2))], []⟩ : St)) (fun (v2 : Bool) => laws_atMiddle_j2 k a0 a2 v2 = some out) ?_ ?_
  ·rintro x2 hp
   replace hp : laws_atMiddle_j2 k a0 a2 x2 = some out := hp
   unfold laws_atMiddle_j2 at hp
   refine s0 (rd_move' rfl) ?_
   refine sx_cutn' 7 (fun (v3 : Bool) => (⟨45, [], [(0, (Sl Kf a0)), (34, (Vb v3))], []⟩ : St)) (fun (v3 : Bool) => laws_atMiddle_j3 k a0 v3 = some out) ?_ ?_
   ·rintro x3 hp
    replace hp : laws_atMiddle_j3 k a0 x3 = some out := hp
    unfold laws_atMiddle_j3 at hp
    refine nk hK3 ?_
    refine cx_cond' rfl (fun h4 => ?_) (fun h4 => ?_)
    ·replace hp := (br_t h4).symm.trans hp
     refine cr fun K7 hK7 => ?_
     refine s0 (rd_assign' rfl) ?_
     refine nk hK7 ?_
     refine cx_retc' ?_
     replace hp := Option.some.inj hp
     subst hp
     refine tx_pick' (L' := [(8, (Vb false))]) (H' := []) [] (sub_cons rfl sub_nil) (by decide) pick_nil ?_
     exact tx_ret1' Tryz.results7 rfl () (rv_tmp' rfl) (List.Sublist.refl _)
    replace hp := (br_f h4).symm.trans hp
    refine cx_skip' ?_
    show TX E K2 _
    refine tx_k' hK2 ?_
    refine cx_seq' fun K8 hK8 => ?_
    refine cr fun K9 hK9 => ?_
    refine s0 (rd_move' rfl) ?_
    obtain ⟨r36, hr36, hp⟩ := bind_some hp
    refine s0 (rd_cut_l' rfl rfl hr36 Tryz.underlying29 info26) ?_
    refine s0 (rd_len' rfl Tryz.underlying29) ?_
    refine s0 (rd_move' rfl) ?_
    refine nk hK9 ?_
    refine cx_block' ?_
    obtain ⟨y1, hy1, hp⟩ := bind_some hp
    refine cx_loopg' (F := laws_atMiddle_l1 r36) (G := fun k R v => laws_atMiddle_l1s r36 k R v) (x := 0) (gh := ()) (fun (v4 : Int) (w4 : Unit) => (⟨45, [], [(36, (Sl Kf r36)), (37, (Vi (r36.length : Int))), (38, (Vi v4))], []⟩ : St)) (fun (y : Unit ⊕ Unit) => match y with | (.inl v5) => Zg E Exit.ret (fun (w5 : Unit) => (⟨45, [], [(8, (Vb false))], []⟩ : St)) | (.inr v6) => Zg E (Exit.exit 0) (fun (w6 : Unit) => (⟨45, [], [], []⟩ : St))) (fun _ => rfl) (fun _ _ => rfl) ?_ hy1 (tx_to' rfl [] (sub_cons rfl (sub_cons rfl (sub_cons rfl sub_nil))) (by decide) pick_nil) ?_
    ·clear hp hy1
     clear y1
     intro k rec1 KY1 ih1
     rintro x4 ⟨⟩ y1 hp
     replace hp : laws_atMiddle_l1s r36 k rec1 x4 = some y1 := hp
     unfold laws_atMiddle_l1s at hp
     refine cr fun K16 hK16 => ?_
     refine s0 (rd_bin' rfl rfl eg_int ru_lss) ?_
     refine nk hK16 ?_
     refine cx_seq' fun K17 hK17 => ?_
     refine cx_cond' rfl (fun h8 => ?_) (fun h8 => ?_)
     ·replace hp := (br_t h8).symm.trans hp
      refine cx_skip' ?_
      show TX E K17 _
      refine tx_k' hK17 ?_
      refine cx_seq' fun K18 hK18 => ?_
      refine cx_block' ?_
      refine cr fun K19 hK19 => ?_
      obtain ⟨r40, hr40, hp⟩ := bind_some hp
      refine s0 (rd_at' (K := Kf) rfl rfl hr40 Tryz.underlying29 info26) ?_
      refine s0 (rd_load_pt' rfl rfl flat26) ?_
      refine s0 (rd_assign' rfl) ?_
      refine nk hK19 ?_
      refine cr fun K20 hK20 => ?_
      refine s0 (rd_move' rfl) ?_
      refine s0 (rd_bin' rfl rfl eg_flt ru_fne) ?_
      refine nk hK20 ?_
      refine cx_cond' rfl (fun h9 => ?_) (fun h9 => ?_)
      ·replace hp := (br_t h9).symm.trans hp
       refine cr fun K21 hK21 => ?_
       refine s0 (rd_assign' rfl) ?_
       refine nk hK21 ?_
       refine cx_retc' ?_
       replace hp := Option.some.inj hp
       subst hp
       show TX E (Zg E Exit.ret _ Exit.ret) _
       exact tx_zend' () rfl [] (sub_cons rfl sub_nil) (by decide) pick_nil
      replace hp := (br_f h9).symm.trans hp
      refine cx_skip' ?_
      show TX E K18 _
      refine tx_k' hK18 ?_
      refine cx_region' ?_
      refine s0 (rd_bin' rfl rfl eg_int ru_add) ?_
      refine s0 (rd_move' rfl) ?_
      refine sx_nil' ?_
      show TX E (KY1 _) _
      exact tx_pick' [] (sub_cons rfl (sub_cons rfl (sub_cons rfl sub_nil))) (by decide) pick_nil (ih1 (iadd .i64 x4 1) () _ hp)
     replace hp := (br_f h8).symm.trans hp
     refine cx_exit' ?_
     replace hp := Option.some.inj hp
     subst hp
     show TX E (Zg E (Exit.exit 0) _ (Exit.exit 0)) _
     exact tx_zend' () rfl [] sub_nil (by decide) pick_nil
    rcases y1 with v5 | v6
    ·dsimp only at hp
     refine zg_out fun w5 => ?_
     replace hp := Option.some.inj hp
     subst hp
     refine tx_pick' (L' := [(8, (Vb false))]) (H' := []) [] (sub_cons rfl sub_nil) (by decide) pick_nil ?_
     exact tx_ret1' Tryz.results7 rfl () (rv_tmp' rfl) (List.Sublist.refl _)
    dsimp only at hp
    refine zg_out fun w6 => ?_
    show TX E K8 _
    refine tx_k' hK8 ?_
    refine cr fun K22 hK22 => ?_
    refine s0 (rd_assign' rfl) ?_
    refine nk hK22 ?_
    refine cx_retc' ?_
    replace hp := Option.some.inj hp
    subst hp
    refine tx_pick' (L' := [(8, (Vb true))]) (H' := []) [] (sub_cons rfl sub_nil) (by decide) pick_nil ?_
    exact tx_ret1' Tryz.results7 rfl () (rv_tmp' rfl) (List.Sublist.refl _)
   intro K6 hK6
   rcases br_cases hp with ⟨h3, hp⟩ | ⟨h3, hp⟩
   ·refine sx_skip' rfl rfl (wt_is' (wt_guard' rfl rfl rfl) (beq_tf h3)) ?_
    refine sx_skip' rfl rfl (wt_is' (wt_guard' rfl rfl rfl) (beq_tf h3)) ?_
    refine sx_skip' rfl rfl (wt_is' (wt_guard' rfl rfl rfl) (beq_tf h3)) ?_
    refine sx_skip' rfl rfl (wt_is' (wt_guard' rfl rfl rfl) (beq_tf h3)) ?_
    refine sx_skip' rfl rfl (wt_is' (wt_guard' rfl rfl rfl) (beq_tf h3)) ?_
    refine sx_skip' rfl rfl (wt_is' (wt_guard' rfl rfl rfl) (beq_tf h3)) ?_
    refine s0 (rd_pick_true' rfl h3 rfl) ?_
    refine sx_nil' ?_
    show TX E K6 _
    exact tx_pick' [] (sub_cons rfl (sub_cons rfl sub_nil)) (by decide) pick_nil (hK6 true hp)
   refine sx_rd' (rd_move' rfl) rfl rfl (wt_is' (wt_guard' rfl rfl rfl) (beq_ff h3)) ?_
   obtain ⟨r29, hr29, hp⟩ := bind_some hp
   refine sx_rd' (rd_at' (K := Kf) rfl rfl hr29 Tryz.underlying29 info26) rfl rfl (wt_is' (wt_guard' rfl rfl rfl) (beq_ff h3)) ?_
   refine sx_rd' (rd_load_pt' rfl rfl flat26) rfl rfl (wt_is' (wt_guard' rfl rfl rfl) (beq_ff h3)) ?_
   refine sx_rd' (rd_move' rfl) rfl rfl (wt_is' (wt_guard' rfl rfl rfl) (beq_ff h3)) ?_
   obtain ⟨r32, hr32, hp⟩ := bind_some hp
   refine sx_ox' (ox_calln' (ent_fn' Tryz.func22 isn22 rfl rfl) (laws_nearTo_sim _ _ hr32 : Sx.Fn Tryz.prog 22 [(Vg r29), (Vg a2)] [] (fun x : Unit => (Vb r32)) (fun x => [])) (Hn := fun x : Unit => []) (fun _ => rfl) rfl rfl) (wt_is' (wt_guard' rfl rfl rfl) (beq_ff h3)) fun ⟨⟩ => ?_
   refine sx_rd' (rd_un' rfl ru_not) rfl rfl (wt_is' (wt_guard' rfl rfl rfl) (beq_ff h3)) ?_
   refine s0 (rd_pick_false' rfl h3 rfl) ?_
   refine sx_nil' ?_
   show TX E K6 _
   exact tx_pick' [] (sub_cons rfl (sub_cons rfl sub_nil)) (by decide) pick_nil (hK6 (!r32) hp)
  intro K5 hK5
  rcases br_cases hp with ⟨h2, hp⟩ | ⟨h2, hp⟩
  ·refine sx_skip' rfl rfl (wt_is' (wt_guard' rfl rfl rfl) (beq_tf h2)) ?_
   refine sx_skip' rfl rfl (wt_is' (wt_guard' rfl rfl rfl) (beq_tf h2)) ?_
   refine sx_skip' rfl rfl (wt_is' (wt_guard' rfl rfl rfl) (beq_tf h2)) ?_
   refine sx_skip' rfl rfl (wt_is' (wt_guard' rfl rfl rfl) (beq_tf h2)) ?_
   refine sx_skip' rfl rfl (wt_is' (wt_guard' rfl rfl rfl) (beq_tf h2)) ?_
   refine sx_skip' rfl rfl (wt_is' (wt_guard' rfl rfl rfl) (beq_tf h2)) ?_
   refine s0 (rd_pick_true' rfl h2 rfl) ?_
   refine sx_nil' ?_
   show TX E K5 _
   exact tx_pick' [] (sub_cons rfl (sub_cons rfl (sub_cons rfl sub_nil))) (by decide) pick_nil (hK5 true hp)
  refine sx_rd' (rd_move' rfl) rfl rfl (wt_is' (wt_guard' rfl rfl rfl) (beq_ff h2)) ?_
  obtain ⟨r21, hr21, hp⟩ := bind_some hp
  refine sx_rd' (rd_at' (K := Kf) rfl rfl hr21 Tryz.underlying29 info26) rfl rfl (wt_is' (wt_guard' rfl rfl rfl) (beq_ff h2)) ?_
  refine sx_rd' (rd_load_pt' rfl rfl flat26) rfl rfl (wt_is' (wt_guard' rfl rfl rfl) (beq_ff h2)) ?_
  refine sx_rd' (rd_move' rfl) rfl rfl (wt_is' (wt_guard' rfl rfl rfl) (beq_ff h2)) ?_
  obtain ⟨r24, hr24, hp⟩ := bind_some hp
  refine sx_ox' (ox_calln' (ent_fn' Tryz.func22 isn22 rfl rfl) (laws_nearTo_sim _ _ hr24 : Sx.Fn Tryz.prog 22 [(Vg r21), (Vg a1)] [] (fun x : Unit => (Vb r24)) (fun x => [])) (Hn := fun x : Unit => []) (fun _ => rfl) rfl rfl) (wt_is' (wt_guard' rfl rfl rfl) (beq_ff h2)) fun ⟨⟩ => ?_
  refine sx_rd' (rd_un' rfl ru_not) rfl rfl (wt_is' (wt_guard' rfl rfl rfl) (beq_ff h2)) ?_
  refine s0 (rd_pick_false' rfl h2 rfl) ?_
  refine sx_nil' ?_
  show TX E K5 _
  exact tx_pick' [] (sub_cons rfl (sub_cons rfl (sub_cons rfl sub_nil))) (by decide) pick_nil (hK5 (!r24) hp)
 intro K4 hK4
 rcases br_cases hp with ⟨h1, hp⟩ | ⟨h1, hp⟩
 ·refine sx_skip' rfl rfl (wt_is' (wt_guard' rfl rfl rfl) (beq_tf h1)) ?_
  refine sx_skip' rfl rfl (wt_is' (wt_guard' rfl rfl rfl) (beq_tf h1)) ?_
  refine s0 (rd_pick_true' rfl h1 rfl) ?_
  refine sx_nil' ?_
  show TX E K4 _
  exact tx_pick' [] (sub_cons rfl (sub_cons rfl (sub_cons rfl (sub_cons rfl sub_nil)))) (by decide) pick_nil (hK4 true hp)
 refine sx_rd' (rd_move' rfl) rfl rfl (wt_is' (wt_guard' rfl rfl rfl) (beq_ff h1)) ?_
 refine sx_rd' (rd_bin' rfl rfl eg_int ru_lss) rfl rfl (wt_is' (wt_guard' rfl rfl rfl) (beq_ff h1)) ?_
 refine s0 (rd_pick_false' rfl h1 rfl) ?_
 refine sx_nil' ?_
 show TX E K4 _
 exact tx_pick' [] (sub_cons rfl (sub_cons rfl (sub_cons rfl (sub_cons rfl sub_nil)))) (by decide) pick_nil (hK4 (decide (a3 < 2)) hp)

def laws_FnRingsMiddle_j2 (k : Nat) (x2 : Bool) : Option (Bool) :=
 some x2
def laws_FnRingsMiddle_j1 (k : Nat) (a0 : Int) (a1 : List T38) (r23 : Nat × Nat × Bool) (x1 : Bool) : Option (Bool) :=
 br x1
  (some true)
  ((impl_RingsCentroid k a0 a1) >>= fun r36 =>
  br r36.2
   ((spec_Stride k a0) >>= fun r45 =>
   (num r23.1) >>= fun u1 =>
   (num r23.2.1) >>= fun u2 =>
   (laws_atMiddle k r36.1 r23.1 r23.2.1 r45) >>= fun r46 =>
   laws_FnRingsMiddle_j2 k r46)
   (laws_FnRingsMiddle_j2 k false))
def laws_FnRingsMiddle (k : Nat) (a0 : Int) (a1 : List T38) : Option (Bool) :=
 br (decide (2147483647 < (a1.length : Int)))
  (some true)
  ((laws_kindred k 8 a0 a1) >>= fun r18 =>
  (laws_middles k r18.1) >>= fun r23 =>
  br (!r18.2)
   (laws_FnRingsMiddle_j1 k a0 a1 r23 true)
   (laws_FnRingsMiddle_j1 k a0 a1 r23 (!r23.2.2)))

theorem laws_FnRingsMiddle_sim {k : Nat}  (a0 : Int) (a1 : List T38) {out : Bool} (hp : laws_FnRingsMiddle k a0 a1 = some out) : Sx.Fn Tryz.prog 3 [(Vi a0), (Sl KT38 a1)] [] (fun w : Unit => (Vb out)) (fun w => []) := by
 unfold laws_FnRingsMiddle at hp
 refine fn_of Tryz.func3 rfl Tryz.ntmps3 rfl fun E hM => ?_
 refine cr fun K1 hK1 => ?_
 refine s0 (rd_assign' rfl) ?_
 refine nk hK1 ?_
 refine cx_seq' fun K2 hK2 => ?_
 refine cr fun K3 hK3 => ?_
 refine s0 (rd_move' rfl) ?_
 refine s0 (rd_len' rfl Tryz.underlying22) ?_
 refine s0 (rd_bin' rfl rfl eg_int ru_gtr) ?_
 refine nk hK3 ?_
 refine cx_cond' rfl (fun h1 => ?_) (fun h1 => ?_)
 ·replace hp := (br_t h1).symm.trans hp
  refine cr fun K4 hK4 => ?_
  refine s0 (rd_assign' rfl) ?_
  refine nk hK4 ?_
  refine cx_retc' ?_
  replace hp := Option.some.inj hp
  subst hp
  refine tx_pick' (L' := [(4, (Vb true))]) (H' := []) [] (sub_cons rfl sub_nil) (by decide) pick_nil ?_
  exact tx_ret1' Tryz.results3 rfl () (rv_tmp' rfl) (List.Sublist.refl _)
 replace hp := (br_f h1).symm.trans hp
 refine cx_skip' ?_
 show TX E K2 _
 refine tx_k' hK2 ?_
 refine cr fun K5 hK5 => ?_
 refine s0 (rd_move' rfl) ?_
 refine s0 (rd_move' rfl) ?_
 obtain ⟨r18, hr18, hp⟩ := bind_some hp
 refine sx_ox' (ox_calln' (ent_fn' Tryz.func4 isn4 rfl rfl) (laws_kindred_sim _ _ _ hr18 : Sx.Fn Tryz.prog 4 [(Vi 8), (Vi a0), (Sl KT38 a1)] [] (fun x : Unit => (Tu [(Sl (Kl KT53) r18.1), (Vb r18.2)])) (fun x => [])) (Hn := fun x : Unit => []) (fun _ => rfl) rfl rfl) (wt_none' rfl) fun ⟨⟩ => ?_
 refine s0 (rd_move' rfl) ?_
 refine s0 (rd_extract' rfl rfl) ?_
 refine s0 (rd_extract' rfl rfl) ?_
 refine s0 (rd_assign' rfl) ?_
 refine s0 (rd_assign' rfl) ?_
 refine nk hK5 ?_
 refine cr fun K6 hK6 => ?_
 refine s0 (rd_move' rfl) ?_
 obtain ⟨r23, hr23, hp⟩ := bind_some hp
 refine sx_ox' (ox_calln' (ent_fn' Tryz.func5 isn5 rfl rfl) (laws_middles_sim _ hr23 : Sx.Fn Tryz.prog 5 [(Sl (Kl KT53) r18.1)] [] (fun x : Unit => (Tu [(Fl r23.1), (Fl r23.2.1), (Vb r23.2.2)])) (fun x => [])) (Hn := fun x : Unit => []) (fun _ => rfl) rfl rfl) (wt_none' rfl) fun ⟨⟩ => ?_
 refine s0 (rd_move' rfl) ?_
 refine s0 (rd_extract' rfl rfl) ?_
 refine s0 (rd_extract' rfl rfl) ?_
 refine s0 (rd_extract' rfl rfl) ?_
 refine s0 (rd_assign' rfl) ?_
 refine s0 (rd_assign' rfl) ?_
 refine s0 (rd_assign' rfl) ?_
 refine nk hK6 ?_
 refine cx_seq' fun K7 hK7 => ?_
 refine cr fun K8 hK8 => ?_
 refine s0 (rd_move' rfl) ?_
 refine s0 (rd_un' rfl ru_not) ?_
 refine s0 (rd_move' rfl) ?_
 refine sx_cutn' 3 (fun (v1 : Bool) => (⟨48, [], [(0, (Vi a0)), (1, (Sl KT38 a1)), (7, (Fl r23.1)), (8, (Fl r23.2.1)), (32, (Vb v1))], []⟩ : St)) (fun (v1 : Bool) => laws_FnRingsMiddle_j1 k a0 a1 r23 v1 = some out) ?_ ?_
 ·rintro x1 hp
  replace hp : laws_FnRingsMiddle_j1 k a0 a1 r23 x1 = some out := hp
  unfold laws_FnRingsMiddle_j1 at hp
  refine nk hK8 ?_
  refine cx_cond' rfl (fun h3 => ?_) (fun h3 => ?_)
  ·replace hp := (br_t h3).symm.trans hp
   refine cr fun K10 hK10 => ?_
   refine s0 (rd_assign' rfl) ?_
   refine nk hK10 ?_
   refine cx_retc' ?_
   replace hp := Option.some.inj hp
   subst hp
   refine tx_pick' (L' := [(4, (Vb true))]) (H' := []) [] (sub_cons rfl sub_nil) (by decide) pick_nil ?_
   exact tx_ret1' Tryz.results3 rfl () (rv_tmp' rfl) (List.Sublist.refl _)
  replace hp := (br_f h3).symm.trans hp
  refine cx_skip' ?_
  show TX E K7 _
  refine tx_k' hK7 ?_
  refine cr fun K11 hK11 => ?_
  refine s0 (rd_move' rfl) ?_
  refine s0 (rd_move' rfl) ?_
  obtain ⟨r36, hr36, hp⟩ := bind_some hp
  refine sx_ox' (ox_calln' (ent_fn' Tryz.func6 isn6 rfl rfl) (impl_RingsCentroid_sim _ _ hr36 : Sx.Fn Tryz.prog 6 [(Vi a0), (Sl KT38 a1)] [] (fun x : Unit => (Tu [(Sl Kf r36.1), (Vb r36.2)])) (fun x => [])) (Hn := fun x : Unit => []) (fun _ => rfl) rfl rfl) (wt_none' rfl) fun ⟨⟩ => ?_
  refine s0 (rd_move' rfl) ?_
  refine s0 (rd_extract' rfl rfl) ?_
  refine s0 (rd_extract' rfl rfl) ?_
  refine s0 (rd_assign' rfl) ?_
  refine s0 (rd_assign' rfl) ?_
  refine nk hK11 ?_
  refine cr fun K12 hK12 => ?_
  refine s0 (rd_move' rfl) ?_
  refine s0 (rd_move' rfl) ?_
  refine sx_cutn' 7 (fun (v2 : Bool) => (⟨48, [], [(47, (Vb v2))], []⟩ : St)) (fun (v2 : Bool) => laws_FnRingsMiddle_j2 k v2 = some out) ?_ ?_
  ·rintro x2 hp
   replace hp : laws_FnRingsMiddle_j2 k x2 = some out := hp
   unfold laws_FnRingsMiddle_j2 at hp
   refine s0 (rd_assign' rfl) ?_
   refine nk hK12 ?_
   refine cx_retc' ?_
   replace hp := Option.some.inj hp
   subst hp
   refine tx_pick' (L' := [(4, (Vb x2))]) (H' := []) [] (sub_cons rfl sub_nil) (by decide) pick_nil ?_
   exact tx_ret1' Tryz.results3 rfl () (rv_tmp' rfl) (List.Sublist.refl _)
  intro K13 hK13
  rcases br_cases hp with ⟨h4, hp⟩ | ⟨h4, hp⟩
  ·refine sx_rd' (rd_move' rfl) rfl rfl (wt_is' (wt_guard' rfl rfl rfl) (beq_tt h4)) ?_
   refine sx_rd' (rd_move' rfl) rfl rfl (wt_is' (wt_guard' rfl rfl rfl) (beq_tt h4)) ?_
   refine sx_rd' (rd_move' rfl) rfl rfl (wt_is' (wt_guard' rfl rfl rfl) (beq_tt h4)) ?_
   refine sx_rd' (rd_move' rfl) rfl rfl (wt_is' (wt_guard' rfl rfl rfl) (beq_tt h4)) ?_
   obtain ⟨r45, hr45, hp⟩ := bind_some hp
   refine sx_ox' (ox_calln' (ent_fn' Tryz.func8 isn8 rfl rfl) (spec_Stride_sim _ hr45 : Sx.Fn Tryz.prog 8 [(Vi a0)] [] (fun x : Unit => (Vi r45)) (fun x => [])) (Hn := fun x : Unit => []) (fun _ => rfl) rfl rfl) (wt_is' (wt_guard' rfl rfl rfl) (beq_tt h4)) fun ⟨⟩ => ?_
   obtain ⟨u1, hu1, hp⟩ := bind_some hp
   refine tx_slot' 42 (y := (Vg r23.1)) rfl (imp_num (num_some hu1).2) ?_
   obtain ⟨u2, hu2, hp⟩ := bind_some hp
   refine tx_slot' 43 (y := (Vg r23.2.1)) rfl (imp_num (num_some hu2).2) ?_
   obtain ⟨r46, hr46, hp⟩ := bind_some hp
   refine sx_ox' (ox_calln' (ent_fn' Tryz.func7 isn7 rfl rfl) (laws_atMiddle_sim _ _ _ _ hr46 : Sx.Fn Tryz.prog 7 [(Sl Kf r36.1), (Vg r23.1), (Vg r23.2.1), (Vi r45)] [] (fun x : Unit => (Vb r46)) (fun x => [])) (Hn := fun x : Unit => []) (fun _ => rfl) rfl rfl) (wt_is' (wt_guard' rfl rfl rfl) (beq_tt h4)) fun ⟨⟩ => ?_
   refine s0 (rd_pick_true' rfl h4 rfl) ?_
   refine sx_nil' ?_
   show TX E K13 _
   exact tx_pick' [] (sub_cons rfl sub_nil) (by decide) pick_nil (hK13 r46 hp)
  refine sx_skip' rfl rfl (wt_is' (wt_guard' rfl rfl rfl) (beq_ft h4)) ?_
  refine sx_skip' rfl rfl (wt_is' (wt_guard' rfl rfl rfl) (beq_ft h4)) ?_
  refine sx_skip' rfl rfl (wt_is' (wt_guard' rfl rfl rfl) (beq_ft h4)) ?_
  refine sx_skip' rfl rfl (wt_is' (wt_guard' rfl rfl rfl) (beq_ft h4)) ?_
  refine sx_skip' rfl rfl (wt_is' (wt_guard' rfl rfl rfl) (beq_ft h4)) ?_
  refine sx_skip' rfl rfl (wt_is' (wt_guard' rfl rfl rfl) (beq_ft h4)) ?_
  refine s0 (rd_pick_false' rfl h4 rfl) ?_
  refine sx_nil' ?_
  show TX E K13 _
  exact tx_pick' [] (sub_cons rfl sub_nil) (by decide) pick_nil (hK13 false hp)
 intro K9 hK9
 rcases br_cases hp with ⟨h2, hp⟩ | ⟨h2, hp⟩
 ·refine sx_skip' rfl rfl (wt_is' (wt_guard' rfl rfl rfl) (beq_tf h2)) ?_
  refine sx_skip' rfl rfl (wt_is' (wt_guard' rfl rfl rfl) (beq_tf h2)) ?_
  refine s0 (rd_pick_true' rfl h2 rfl) ?_
  refine sx_nil' ?_
  show TX E K9 _
  exact tx_pick' [] (sub_cons rfl (sub_cons rfl (sub_cons rfl (sub_cons rfl (sub_cons rfl sub_nil))))) (by decide) pick_nil (hK9 true hp)
 refine sx_rd' (rd_move' rfl) rfl rfl (wt_is' (wt_guard' rfl rfl rfl) (beq_ff h2)) ?_
 refine sx_rd' (rd_un' rfl ru_not) rfl rfl (wt_is' (wt_guard' rfl rfl rfl) (beq_ff h2)) ?_
 refine s0 (rd_pick_false' rfl h2 rfl) ?_
 refine sx_nil' ?_
 show TX E K9 _
 exact tx_pick' [] (sub_cons rfl (sub_cons rfl (sub_cons rfl (sub_cons rfl (sub_cons rfl sub_nil))))) (by decide) pick_nil (hK9 (!r23.2.2) hp)

end Go.Proofs.YtajpajggckappaaGreat
