/-
  Plain functions for the Go functions that this law reaches, and that each call does what its plain function says. Printed by a program of ours.
-/
import Derived.Test.YtmagcmeknclljaaProg
import Derived.Test.YtmagcmeknclljaaSxX
import Derived.Test.YtmagcmeknclljaaFun3
namespace Go.Proofs.Ytmagcmeknclljaa
open Go.Sx
set_option linter.unusedVariables false
set_option maxRecDepth 100000

def gogeom_MultiPolygon_SetSRID_v2 (k : Nat) (a0_0 : Int) (a0_1 : Int) (a0_2 : List Nat) (a0_3 : Int) (a1 : Int) : Option (Int × Int × (List Nat) × Int) :=
 some (a0_0, a0_1, a0_2, a1)

theorem gogeom_MultiPolygon_SetSRID_v2_sim {k : Nat} {wa0 : Addr} (a0_0 : Int) (a0_1 : Int) (a0_2 : List Nat) (a0_3 : Int) (a1 : Int) {out : Int × Int × (List Nat) × Int} (hp : gogeom_MultiPolygon_SetSRID_v2 k a0_0 a0_1 a0_2 a0_3 a1 = some out) : Sx.Fn Try.prog 74 [(Vp wa0), (Vi a1)] [⟨.pointer (some wa0), [(Vi a0_0), (Vi a0_1), (Sl Kf a0_2), (Vi a0_3), Vn], 143, none⟩] (fun w : Unit => (Vp wa0)) (fun w => [⟨.pointer (some wa0), [(Vi out.1), (Vi out.2.1), (Sl Kf out.2.2.1), (Vi out.2.2.2), Vn], 143, none⟩]) := by
 unfold gogeom_MultiPolygon_SetSRID_v2 at hp
 refine fn_of Try.func74 rfl Try.ntmps74 rfl fun E hM => ?_
 refine cr fun K1 hK1 => ?_
 refine s0 (rd_assign' rfl) ?_
 refine nk hK1 ?_
 refine cr fun K2 hK2 => ?_
 refine s0 (rd_move' rfl) ?_
 refine s0 (rd_move' rfl) ?_
 refine s0 (rd_nilck' rfl) ?_
 refine s0 (rd_field0' rfl Try.underlying143 rfl info141 rfl) ?_
 refine s0 (rd_field0' rfl Try.underlying141 rfl info126 rfl) ?_
 refine s0 (rd_field0' rfl Try.underlying126 rfl info124 rfl) ?_
 refine s0 (rd_field' (off := 3) rfl Try.underlying124 rfl info3 rfl) ?_
 refine sx_ox' (ox_store' (i := 0) (o := 3) rfl rfl (lv_vl rfl rfl) ⟨rfl, rfl, rfl, rfl⟩ rfl info3 rfl (H' := [⟨.pointer (some wa0), [(Vi a0_0), (Vi a0_1), (Sl Kf a0_2), (Vi a1), Vn], 143, none⟩]) rfl) (wt_none' rfl) fun _ => ?_
 refine nk hK2 ?_
 refine cr fun K3 hK3 => ?_
 refine s0 (rd_move' rfl) ?_
 refine s0 (rd_assign' rfl) ?_
 refine nk hK3 ?_
 refine cx_retc' ?_
 replace hp := Option.some.inj hp
 subst hp
 refine tx_pick' (L' := [(4, (Vp wa0))]) (H' := [⟨.pointer (some wa0), [(Vi a0_0), (Vi a0_1), (Sl Kf a0_2), (Vi a1), Vn], 143, none⟩]) [0] (sub_cons rfl sub_nil) (by decide) (pick_cons rfl pick_nil) ?_
 exact tx_ret1' Try.results74 rfl () (rv_tmp' rfl) (List.Sublist.refl _)

def impl_geometry_v2 (k : Nat) (a0_0 : Int) (a0_1 : Int) (a0_2 : Int) : Option ((Int × Int × (List Nat) × Int) ⊕ ((Int × Int × (List Nat) × Int) ⊕ ((Int × Int × (List Nat) × Int) ⊕ ((Int × Int × (List Nat) × Int × (List Int)) ⊕ ((Int × Int × (List Nat) × Int × (List Int)) ⊕ ((Int × Int × (List Nat) × Int × (List Int)) ⊕ ((Int × Int × (List Nat) × Int) ⊕ (Int × Int)))))))) :=
 (impl_floats_v2 k) >>= fun r12 =>
 br (decide (a0_0 = 1))
  ((gogeom_NewPointFlat k a0_1 r12) >>= fun r19 =>
  (gogeom_Point_SetSRID k r19.1 r19.2.1 r19.2.2.1 r19.2.2.2 a0_2) >>= fun r22 =>
  some (.inl (r22.1, r22.2.1, r22.2.2.1, r22.2.2.2)))
  (br (decide (a0_0 = 2))
   ((gogeom_NewLineStringFlat k a0_1 r12) >>= fun r28 =>
   (gogeom_LineString_SetSRID k r28.1 r28.2.1 r28.2.2.1 r28.2.2.2 a0_2) >>= fun r31 =>
   some (.inr (.inl (r31.1, r31.2.1, r31.2.2.1, r31.2.2.2))))
   (br (decide (a0_0 = 8))
    ((gogeom_NewLinearRingFlat k a0_1 r12) >>= fun r37 =>
    (gogeom_LinearRing_SetSRID k r37.1 r37.2.1 r37.2.2.1 r37.2.2.2 a0_2) >>= fun r40 =>
    some (.inr (.inr (.inl (r40.1, r40.2.1, r40.2.2.1, r40.2.2.2)))))
    (br (decide (a0_0 = 3))
     ((impl_ints_v2 k) >>= fun r48 =>
     (gogeom_NewPolygonFlat_v2 k a0_1 r12 r48) >>= fun r49 =>
     (gogeom_Polygon_SetSRID_v2 k r49.1 r49.2.1 r49.2.2.1 r49.2.2.2.1 r49.2.2.2.2 a0_2) >>= fun r52 =>
     some (.inr (.inr (.inr (.inl (r52.1, r52.2.1, r52.2.2.1, r52.2.2.2.1, r52.2.2.2.2))))))
     (br (decide (a0_0 = 4))
      ((impl_ints_v2 k) >>= fun r60 =>
      (gogeom_NewMultiPointFlatOptionWithEnds_v2 k r60) >>= fun r61 =>
      (gogeom_NewMultiPointFlat_v2 k a0_1 r12 r61) >>= fun r63 =>
      (gogeom_MultiPoint_SetSRID_v2 k r63.2.1 r63.2.2.1 r63.2.2.2.1 r63.2.2.2.2 r63.1 a0_2) >>= fun r66 =>
      some (.inr (.inr (.inr (.inr (.inl (r66.1, r66.2.1, r66.2.2.1, r66.2.2.2.1, r66.2.2.2.2)))))))
      (br (decide (a0_0 = 5))
       ((impl_ints_v2 k) >>= fun r74 =>
       (gogeom_NewMultiLineStringFlat_v2 k a0_1 r12 r74) >>= fun r75 =>
       (gogeom_MultiLineString_SetSRID_v2 k r75.1 r75.2.1 r75.2.2.1 r75.2.2.2.1 r75.2.2.2.2 a0_2) >>= fun r78 =>
       some (.inr (.inr (.inr (.inr (.inr (.inl (r78.1, r78.2.1, r78.2.2.1, r78.2.2.2.1, r78.2.2.2.2))))))))
       (br (decide (a0_0 = 6))
        ((impl_intss_v2 k) >>= fun r86 =>
        (gogeom_NewMultiPolygonFlat_v2 k a0_1 r12) >>= fun r87 =>
        (gogeom_MultiPolygon_SetSRID_v2 k r87.1 r87.2.1 r87.2.2.1 r87.2.2.2 a0_2) >>= fun r90 =>
        some (.inr (.inr (.inr (.inr (.inr (.inr (.inl (r90.1, r90.2.1, r90.2.2.1, r90.2.2.2)))))))))
        (br (decide (a0_0 = 7))
         ((gogeom_NewGeometryCollection k) >>= fun r94 =>
         (gogeom_GeometryCollection_SetSRID k r94 r94 a0_2) >>= fun r97 =>
         (gogeom_GeometryCollection_MustSetLayout k r97.1 r97.2 a0_1) >>= fun r113 =>
         some (.inr (.inr (.inr (.inr (.inr (.inr (.inr (r113.1, r113.2)))))))))
         (none))))))))
def impl_geometry_v2_r  (a0_0 : Int) (a0_1 : Int) (a0_2 : Int) (out : (Int × Int × (List Nat) × Int) ⊕ ((Int × Int × (List Nat) × Int) ⊕ ((Int × Int × (List Nat) × Int) ⊕ ((Int × Int × (List Nat) × Int × (List Int)) ⊕ ((Int × Int × (List Nat) × Int × (List Int)) ⊕ ((Int × Int × (List Nat) × Int × (List Int)) ⊕ ((Int × Int × (List Nat) × Int) ⊕ (Int × Int)))))))) (w : Addr) : SV := match out with
 | (.inl y) => (If 72 (Vp w))
 | (.inr (.inl y)) => (If 75 (Vp w))
 | (.inr (.inr (.inl y))) => (If 69 (Vp w))
 | (.inr (.inr (.inr (.inl y)))) => (If 67 (Vp w))
 | (.inr (.inr (.inr (.inr (.inl y))))) => (If 70 (Vp w))
 | (.inr (.inr (.inr (.inr (.inr (.inl y)))))) => (If 73 (Vp w))
 | (.inr (.inr (.inr (.inr (.inr (.inr (.inl y))))))) => (If 76 (Vp w))
 | (.inr (.inr (.inr (.inr (.inr (.inr (.inr y))))))) => (If 57 (Vp w))
def impl_geometry_v2_h  (a0_0 : Int) (a0_1 : Int) (a0_2 : Int) (out : (Int × Int × (List Nat) × Int) ⊕ ((Int × Int × (List Nat) × Int) ⊕ ((Int × Int × (List Nat) × Int) ⊕ ((Int × Int × (List Nat) × Int × (List Int)) ⊕ ((Int × Int × (List Nat) × Int × (List Int)) ⊕ ((Int × Int × (List Nat) × Int × (List Int)) ⊕ ((Int × Int × (List Nat) × Int) ⊕ (Int × Int)))))))) (w : Addr) : List Res := match out with
 | (.inl y) => [⟨.pointer (some w), [(Vi y.1), (Vi y.2.1), (Sl Kf y.2.2.1), (Vi y.2.2.2)], 135, none⟩]
 | (.inr (.inl y)) => [⟨.pointer (some w), [(Vi y.1), (Vi y.2.1), (Sl Kf y.2.2.1), (Vi y.2.2.2)], 138, none⟩]
 | (.inr (.inr (.inl y))) => [⟨.pointer (some w), [(Vi y.1), (Vi y.2.1), (Sl Kf y.2.2.1), (Vi y.2.2.2)], 128, none⟩]
 | (.inr (.inr (.inr (.inl y)))) => [⟨.pointer (some w), [(Vi y.1), (Vi y.2.1), (Sl Kf y.2.2.1), (Vi y.2.2.2.1), (Sl (Ki .i64) y.2.2.2.2)], 132, none⟩]
 | (.inr (.inr (.inr (.inr (.inl y))))) => [⟨.pointer (some w), [(Vi y.1), (Vi y.2.1), (Sl Kf y.2.2.1), (Vi y.2.2.2.1), (Sl (Ki .i64) y.2.2.2.2)], 136, none⟩]
 | (.inr (.inr (.inr (.inr (.inr (.inl y)))))) => [⟨.pointer (some w), [(Vi y.1), (Vi y.2.1), (Sl Kf y.2.2.1), (Vi y.2.2.2.1), (Sl (Ki .i64) y.2.2.2.2)], 139, none⟩]
 | (.inr (.inr (.inr (.inr (.inr (.inr (.inl y))))))) => [⟨.pointer (some w), [(Vi y.1), (Vi y.2.1), (Sl Kf y.2.2.1), (Vi y.2.2.2), Vn], 143, none⟩]
 | (.inr (.inr (.inr (.inr (.inr (.inr (.inr y))))))) => [⟨.pointer (some w), [(Vi y.1), Vn, (Vi y.2)], 114, none⟩]

theorem impl_geometry_v2_sim {k : Nat}  (a0_0 : Int) (a0_1 : Int) (a0_2 : Int) {out : (Int × Int × (List Nat) × Int) ⊕ ((Int × Int × (List Nat) × Int) ⊕ ((Int × Int × (List Nat) × Int) ⊕ ((Int × Int × (List Nat) × Int × (List Int)) ⊕ ((Int × Int × (List Nat) × Int × (List Int)) ⊕ ((Int × Int × (List Nat) × Int × (List Int)) ⊕ ((Int × Int × (List Nat) × Int) ⊕ (Int × Int)))))))} (hp : impl_geometry_v2 k a0_0 a0_1 a0_2 = some out) : Sx.Fn Try.prog 30 [(Ag [(Vi a0_0), (Vi a0_1), (Vi a0_2), Vn, Vn, Vn, Vn])] [] (fun w => impl_geometry_v2_r a0_0 a0_1 a0_2 out w) (fun w => impl_geometry_v2_h a0_0 a0_1 a0_2 out w) := by
 unfold impl_geometry_v2 at hp
 refine fn_of Try.func30 rfl Try.ntmps30 rfl fun E hM => ?_
 refine cr fun K1 hK1 => ?_
 refine sx_ox' (ox_box' rfl (lv_ag _) rfl rfl) (wt_none' rfl) fun q1 => ?_
 refine s0 (rd_assign' rfl) ?_
 refine nk hK1 ?_
 refine cx_seq' fun K2 hK2 => ?_
 refine cx_plan' [] [] [(0, 1), (1, 1), (2, 1), (3, 1), (4, 0), (5, 1), (6, 1)] mixed (by kernel_rfl) ?_
 refine px_rd' rfl (rd_field' (off := 1) rfl Try.underlying27 rfl info3 rfl) rfl rfl (wt_none' rfl) ?_
 refine px_rd' rfl (rd_load' (i := 0) (o := 1) rfl ⟨rfl, rfl, rfl, rfl⟩ rfl flat3) rfl rfl (wt_none' rfl) ?_
 refine px_rd' rfl (rd_field' (off := 3) rfl Try.underlying27 rfl info22 rfl) rfl rfl (wt_none' rfl) ?_
 refine px_rd' rfl (rd_load' (i := 0) (o := 3) rfl ⟨rfl, rfl, rfl, rfl⟩ rfl flat22) rfl rfl (wt_none' rfl) ?_
 obtain ⟨r12, hr12, hp⟩ := bind_some hp
 refine px_ox' rfl (ox_calln' (ent_fn' Try.func59 isn59 rfl rfl) (impl_floats_v2_sim hr12 : Sx.Fn Try.prog 59 [Vn] [] (fun x : Unit => (Sl Kf r12)) (fun x => [])) (Hn := fun x : Unit => [⟨.pointer (some q1), [(Vi a0_0), (Vi a0_1), (Vi a0_2), Vn, Vn, Vn, Vn], 27, none⟩]) (fun _ => rfl) rfl rfl) rfl bs_nil (wt_none' rfl) fun ⟨⟩ => ?_
 refine px_rd' rfl (rd_assign' rfl) rfl rfl (wt_none' rfl) ?_
 refine px_rd' rfl (rd_assign' rfl) rfl rfl (wt_none' rfl) ?_
 refine px_nil' ?_
 show TX E K2 _
 refine tx_k' hK2 ?_
 refine cx_seq' fun K3 hK3 => ?_
 refine cr fun K4 hK4 => ?_
 refine s0 (rd_field0' rfl Try.underlying27 rfl info3 rfl) ?_
 refine s0 (rd_load' (i := 0) (o := 0) rfl ⟨rfl, rfl, rfl, rfl⟩ rfl flat3) ?_
 refine nk hK4 ?_
 refine cx_block' ?_
 refine cr fun K5 hK5 => ?_
 refine s0 (rd_bin' rfl rfl eg_int ru_eql) ?_
 refine s0 (rd_assign' rfl) ?_
 refine nk hK5 ?_
 refine cx_cond' rfl (fun h1 => ?_) (fun h1 => ?_)
 ·replace hp := (br_t h1).symm.trans hp
  refine cx_seq' fun K6 hK6 => ?_
  refine cx_plan' [] [(5, 1)] [(0, 1), (1, 1), (3, 1), (4, 1), (2, 0), (5, 0), (6, 1), (7, 1)] mixed (by kernel_rfl) ?_
  refine px_rd' rfl (rd_move' rfl) rfl rfl (wt_none' rfl) ?_
  refine px_rd' rfl (rd_move' rfl) rfl rfl (wt_none' rfl) ?_
  refine px_rd' rfl (rd_field' (off := 2) rfl Try.underlying27 rfl info3 rfl) rfl rfl (wt_none' rfl) ?_
  refine px_rd' rfl (rd_load' (i := 0) (o := 2) rfl ⟨rfl, rfl, rfl, rfl⟩ rfl flat3) rfl rfl (wt_none' rfl) ?_
  obtain ⟨r19, hr19, hp⟩ := bind_some hp
  refine px_ox' rfl (ox_calln' (ent_fn' Try.func60 isn60 rfl rfl) (gogeom_NewPointFlat_sim _ _ hr19 : Sx.Fn Try.prog 60 [(Vi a0_1), (Sl Kf r12)] [] (fun x : Addr => (Vp x)) (fun x => [⟨.pointer (some x), [(Vi r19.1), (Vi r19.2.1), (Sl Kf r19.2.2.1), (Vi r19.2.2.2)], 135, none⟩])) (Hn := fun x : Addr => [⟨.pointer (some x), [(Vi r19.1), (Vi r19.2.1), (Sl Kf r19.2.2.1), (Vi r19.2.2.2)], 135, none⟩, ⟨.pointer (some q1), [(Vi a0_0), (Vi a0_1), (Vi a0_2), Vn, Vn, Vn, Vn], 27, none⟩]) (fun _ => rfl) rfl rfl) rfl bs_nil (wt_none' rfl) fun q19 => ?_
  obtain ⟨r22, hr22, hp⟩ := bind_some hp
  refine px_oxb' (is := [0]) rfl (oxb_callg (ent_fn' Try.func61 isn61 rfl rfl) (gogeom_Point_SetSRID_sim _ _ _ _ _ hr22 : Sx.Fn Try.prog 61 [(Vp q19), (Vi a0_2)] [⟨.pointer (some q19), [(Vi r19.1), (Vi r19.2.1), (Sl Kf r19.2.2.1), (Vi r19.2.2.2)], 135, none⟩] (fun x : Unit => (Vp q19)) (fun x => [⟨.pointer (some q19), [(Vi r22.1), (Vi r22.2.1), (Sl Kf r22.2.2.1), (Vi r22.2.2.2)], 135, none⟩])) [0] [1] (by decide) (pick_cons rfl pick_nil) (pick_cons rfl pick_nil) (Hn := fun x : Unit => [⟨.pointer (some q19), [(Vi r22.1), (Vi r22.2.1), (Sl Kf r22.2.2.1), (Vi r22.2.2.2)], 135, none⟩, ⟨.pointer (some q1), [(Vi a0_0), (Vi a0_1), (Vi a0_2), Vn, Vn, Vn, Vn], 27, none⟩]) (fun _ => rfl) rfl rfl) (pick_cons rfl pick_nil) rfl bl_nil (wt_none' rfl) fun ⟨⟩ => ?_
  refine px_rd' rfl (rd_iface' rfl ⟨_, Try.underlying72, fun _ h => (nomatch h)⟩) rfl rfl (wt_none' rfl) ?_
  refine px_rd' rfl (rd_assign' rfl) rfl rfl (wt_none' rfl) ?_
  refine px_nil' ?_
  show TX E K6 _
  refine tx_k' hK6 ?_
  refine cx_retc' ?_
  replace hp := Option.some.inj hp
  subst hp
  refine tx_pick' (L' := [(2, (If 72 (Vp q19)))]) (H' := [⟨.pointer (some q19), [(Vi r22.1), (Vi r22.2.1), (Sl Kf r22.2.2.1), (Vi r22.2.2.2)], 135, none⟩]) [0] (sub_cons rfl sub_nil) (by decide) (pick_cons rfl pick_nil) ?_
  exact tx_ret1' Try.results30 rfl q19 (rv_tmp' rfl) (List.Sublist.refl _)
 replace hp := (br_f h1).symm.trans hp
 refine cr fun K7 hK7 => ?_
 refine s0 (rd_bin' rfl rfl eg_int ru_eql) ?_
 refine s0 (rd_assign' rfl) ?_
 refine nk hK7 ?_
 refine cx_cond' rfl (fun h2 => ?_) (fun h2 => ?_)
 ·replace hp := (br_t h2).symm.trans hp
  refine cx_seq' fun K8 hK8 => ?_
  refine cx_plan' [] [(5, 1)] [(0, 1), (1, 1), (3, 1), (4, 1), (2, 0), (5, 0), (6, 1), (7, 1)] mixed (by kernel_rfl) ?_
  refine px_rd' rfl (rd_move' rfl) rfl rfl (wt_none' rfl) ?_
  refine px_rd' rfl (rd_move' rfl) rfl rfl (wt_none' rfl) ?_
  refine px_rd' rfl (rd_field' (off := 2) rfl Try.underlying27 rfl info3 rfl) rfl rfl (wt_none' rfl) ?_
  refine px_rd' rfl (rd_load' (i := 0) (o := 2) rfl ⟨rfl, rfl, rfl, rfl⟩ rfl flat3) rfl rfl (wt_none' rfl) ?_
  obtain ⟨r28, hr28, hp⟩ := bind_some hp
  refine px_ox' rfl (ox_calln' (ent_fn' Try.func62 isn62 rfl rfl) (gogeom_NewLineStringFlat_sim _ _ hr28 : Sx.Fn Try.prog 62 [(Vi a0_1), (Sl Kf r12)] [] (fun x : Addr => (Vp x)) (fun x => [⟨.pointer (some x), [(Vi r28.1), (Vi r28.2.1), (Sl Kf r28.2.2.1), (Vi r28.2.2.2)], 138, none⟩])) (Hn := fun x : Addr => [⟨.pointer (some x), [(Vi r28.1), (Vi r28.2.1), (Sl Kf r28.2.2.1), (Vi r28.2.2.2)], 138, none⟩, ⟨.pointer (some q1), [(Vi a0_0), (Vi a0_1), (Vi a0_2), Vn, Vn, Vn, Vn], 27, none⟩]) (fun _ => rfl) rfl rfl) rfl bs_nil (wt_none' rfl) fun q28 => ?_
  obtain ⟨r31, hr31, hp⟩ := bind_some hp
  refine px_oxb' (is := [0]) rfl (oxb_callg (ent_fn' Try.func63 isn63 rfl rfl) (gogeom_LineString_SetSRID_sim _ _ _ _ _ hr31 : Sx.Fn Try.prog 63 [(Vp q28), (Vi a0_2)] [⟨.pointer (some q28), [(Vi r28.1), (Vi r28.2.1), (Sl Kf r28.2.2.1), (Vi r28.2.2.2)], 138, none⟩] (fun x : Unit => (Vp q28)) (fun x => [⟨.pointer (some q28), [(Vi r31.1), (Vi r31.2.1), (Sl Kf r31.2.2.1), (Vi r31.2.2.2)], 138, none⟩])) [0] [1] (by decide) (pick_cons rfl pick_nil) (pick_cons rfl pick_nil) (Hn := fun x : Unit => [⟨.pointer (some q28), [(Vi r31.1), (Vi r31.2.1), (Sl Kf r31.2.2.1), (Vi r31.2.2.2)], 138, none⟩, ⟨.pointer (some q1), [(Vi a0_0), (Vi a0_1), (Vi a0_2), Vn, Vn, Vn, Vn], 27, none⟩]) (fun _ => rfl) rfl rfl) (pick_cons rfl pick_nil) rfl bl_nil (wt_none' rfl) fun ⟨⟩ => ?_
  refine px_rd' rfl (rd_iface' rfl ⟨_, Try.underlying75, fun _ h => (nomatch h)⟩) rfl rfl (wt_none' rfl) ?_
  refine px_rd' rfl (rd_assign' rfl) rfl rfl (wt_none' rfl) ?_
  refine px_nil' ?_
  show TX E K8 _
  refine tx_k' hK8 ?_
  refine cx_retc' ?_
  replace hp := Option.some.inj hp
  subst hp
  refine tx_pick' (L' := [(2, (If 75 (Vp q28)))]) (H' := [⟨.pointer (some q28), [(Vi r31.1), (Vi r31.2.1), (Sl Kf r31.2.2.1), (Vi r31.2.2.2)], 138, none⟩]) [0] (sub_cons rfl sub_nil) (by decide) (pick_cons rfl pick_nil) ?_
  exact tx_ret1' Try.results30 rfl q28 (rv_tmp' rfl) (List.Sublist.refl _)
 replace hp := (br_f h2).symm.trans hp
 refine cr fun K9 hK9 => ?_
 refine s0 (rd_bin' rfl rfl eg_int ru_eql) ?_
 refine s0 (rd_assign' rfl) ?_
 refine nk hK9 ?_
 refine cx_cond' rfl (fun h3 => ?_) (fun h3 => ?_)
 ·replace hp := (br_t h3).symm.trans hp
  refine cx_seq' fun K10 hK10 => ?_
  refine cx_plan' [] [(5, 1)] [(0, 1), (1, 1), (3, 1), (4, 1), (2, 0), (5, 0), (6, 1), (7, 1)] mixed (by kernel_rfl) ?_
  refine px_rd' rfl (rd_move' rfl) rfl rfl (wt_none' rfl) ?_
  refine px_rd' rfl (rd_move' rfl) rfl rfl (wt_none' rfl) ?_
  refine px_rd' rfl (rd_field' (off := 2) rfl Try.underlying27 rfl info3 rfl) rfl rfl (wt_none' rfl) ?_
  refine px_rd' rfl (rd_load' (i := 0) (o := 2) rfl ⟨rfl, rfl, rfl, rfl⟩ rfl flat3) rfl rfl (wt_none' rfl) ?_
  obtain ⟨r37, hr37, hp⟩ := bind_some hp
  refine px_ox' rfl (ox_calln' (ent_fn' Try.func64 isn64 rfl rfl) (gogeom_NewLinearRingFlat_sim _ _ hr37 : Sx.Fn Try.prog 64 [(Vi a0_1), (Sl Kf r12)] [] (fun x : Addr => (Vp x)) (fun x => [⟨.pointer (some x), [(Vi r37.1), (Vi r37.2.1), (Sl Kf r37.2.2.1), (Vi r37.2.2.2)], 128, none⟩])) (Hn := fun x : Addr => [⟨.pointer (some x), [(Vi r37.1), (Vi r37.2.1), (Sl Kf r37.2.2.1), (Vi r37.2.2.2)], 128, none⟩, ⟨.pointer (some q1), [(Vi a0_0), (Vi a0_1), (Vi a0_2), Vn, Vn, Vn, Vn], 27, none⟩]) (fun _ => rfl) rfl rfl) rfl bs_nil (wt_none' rfl) fun q37 => ?_
  obtain ⟨r40, hr40, hp⟩ := bind_some hp
  refine px_oxb' (is := [0]) rfl (oxb_callg (ent_fn' Try.func65 isn65 rfl rfl) (gogeom_LinearRing_SetSRID_sim _ _ _ _ _ hr40 : Sx.Fn Try.prog 65 [(Vp q37), (Vi a0_2)] [⟨.pointer (some q37), [(Vi r37.1), (Vi r37.2.1), (Sl Kf r37.2.2.1), (Vi r37.2.2.2)], 128, none⟩] (fun x : Unit => (Vp q37)) (fun x => [⟨.pointer (some q37), [(Vi r40.1), (Vi r40.2.1), (Sl Kf r40.2.2.1), (Vi r40.2.2.2)], 128, none⟩])) [0] [1] (by decide) (pick_cons rfl pick_nil) (pick_cons rfl pick_nil) (Hn := fun x : Unit => [⟨.pointer (some q37), [(Vi r40.1), (Vi r40.2.1), (Sl Kf r40.2.2.1), (Vi r40.2.2.2)], 128, none⟩, ⟨.pointer (some q1), [(Vi a0_0), (Vi a0_1), (Vi a0_2), Vn, Vn, Vn, Vn], 27, none⟩]) (fun _ => rfl) rfl rfl) (pick_cons rfl pick_nil) rfl bl_nil (wt_none' rfl) fun ⟨⟩ => ?_
  refine px_rd' rfl (rd_iface' rfl ⟨_, Try.underlying69, fun _ h => (nomatch h)⟩) rfl rfl (wt_none' rfl) ?_
  refine px_rd' rfl (rd_assign' rfl) rfl rfl (wt_none' rfl) ?_
  refine px_nil' ?_
  show TX E K10 _
  refine tx_k' hK10 ?_
  refine cx_retc' ?_
  replace hp := Option.some.inj hp
  subst hp
  refine tx_pick' (L' := [(2, (If 69 (Vp q37)))]) (H' := [⟨.pointer (some q37), [(Vi r40.1), (Vi r40.2.1), (Sl Kf r40.2.2.1), (Vi r40.2.2.2)], 128, none⟩]) [0] (sub_cons rfl sub_nil) (by decide) (pick_cons rfl pick_nil) ?_
  exact tx_ret1' Try.results30 rfl q37 (rv_tmp' rfl) (List.Sublist.refl _)
 replace hp := (br_f h3).symm.trans hp
 refine cr fun K11 hK11 => ?_
 refine s0 (rd_bin' rfl rfl eg_int ru_eql) ?_
 refine s0 (rd_assign' rfl) ?_
 refine nk hK11 ?_
 refine cx_cond' rfl (fun h4 => ?_) (fun h4 => ?_)
 ·replace hp := (br_t h4).symm.trans hp
  refine cx_seq' fun K12 hK12 => ?_
  refine cx_plan' [] [(8, 1)] [(0, 1), (1, 1), (2, 1), (3, 1), (6, 1), (7, 1), (4, 0), (5, 0), (8, 0), (9, 1), (10, 1)] mixed (by kernel_rfl) ?_
  refine px_rd' rfl (rd_move' rfl) rfl rfl (wt_none' rfl) ?_
  refine px_rd' rfl (rd_move' rfl) rfl rfl (wt_none' rfl) ?_
  refine px_rd' rfl (rd_field' (off := 4) rfl Try.underlying27 rfl info23 rfl) rfl rfl (wt_none' rfl) ?_
  refine px_rd' rfl (rd_load' (i := 0) (o := 4) rfl ⟨rfl, rfl, rfl, rfl⟩ rfl flat23) rfl rfl (wt_none' rfl) ?_
  refine px_rd' rfl (rd_field' (off := 2) rfl Try.underlying27 rfl info3 rfl) rfl rfl (wt_none' rfl) ?_
  refine px_rd' rfl (rd_load' (i := 0) (o := 2) rfl ⟨rfl, rfl, rfl, rfl⟩ rfl flat3) rfl rfl (wt_none' rfl) ?_
  obtain ⟨r48, hr48, hp⟩ := bind_some hp
  refine px_ox' rfl (ox_calln' (ent_fn' Try.func58 isn58 rfl rfl) (impl_ints_v2_sim hr48 : Sx.Fn Try.prog 58 [Vn] [] (fun x : Unit => (Sl (Ki .i64) r48)) (fun x => [])) (Hn := fun x : Unit => [⟨.pointer (some q1), [(Vi a0_0), (Vi a0_1), (Vi a0_2), Vn, Vn, Vn, Vn], 27, none⟩]) (fun _ => rfl) rfl rfl) rfl bs_nil (wt_none' rfl) fun ⟨⟩ => ?_
  obtain ⟨r49, hr49, hp⟩ := bind_some hp
  refine px_ox' rfl (ox_calln' (ent_fn' Try.func66 isn66 rfl rfl) (gogeom_NewPolygonFlat_v2_sim _ _ _ hr49 : Sx.Fn Try.prog 66 [(Vi a0_1), (Sl Kf r12), (Sl (Ki .i64) r48)] [] (fun x : Addr => (Vp x)) (fun x => [⟨.pointer (some x), [(Vi r49.1), (Vi r49.2.1), (Sl Kf r49.2.2.1), (Vi r49.2.2.2.1), (Sl (Ki .i64) r49.2.2.2.2)], 132, none⟩])) (Hn := fun x : Addr => [⟨.pointer (some x), [(Vi r49.1), (Vi r49.2.1), (Sl Kf r49.2.2.1), (Vi r49.2.2.2.1), (Sl (Ki .i64) r49.2.2.2.2)], 132, none⟩, ⟨.pointer (some q1), [(Vi a0_0), (Vi a0_1), (Vi a0_2), Vn, Vn, Vn, Vn], 27, none⟩]) (fun _ => rfl) rfl rfl) rfl bs_nil (wt_none' rfl) fun q49 => ?_
  obtain ⟨r52, hr52, hp⟩ := bind_some hp
  refine px_oxb' (is := [0]) rfl (oxb_callg (ent_fn' Try.func67 isn67 rfl rfl) (gogeom_Polygon_SetSRID_v2_sim _ _ _ _ _ _ hr52 : Sx.Fn Try.prog 67 [(Vp q49), (Vi a0_2)] [⟨.pointer (some q49), [(Vi r49.1), (Vi r49.2.1), (Sl Kf r49.2.2.1), (Vi r49.2.2.2.1), (Sl (Ki .i64) r49.2.2.2.2)], 132, none⟩] (fun x : Unit => (Vp q49)) (fun x => [⟨.pointer (some q49), [(Vi r52.1), (Vi r52.2.1), (Sl Kf r52.2.2.1), (Vi r52.2.2.2.1), (Sl (Ki .i64) r52.2.2.2.2)], 132, none⟩])) [0] [1] (by decide) (pick_cons rfl pick_nil) (pick_cons rfl pick_nil) (Hn := fun x : Unit => [⟨.pointer (some q49), [(Vi r52.1), (Vi r52.2.1), (Sl Kf r52.2.2.1), (Vi r52.2.2.2.1), (Sl (Ki .i64) r52.2.2.2.2)], 132, none⟩, ⟨.pointer (some q1), [(Vi a0_0), (Vi a0_1), (Vi a0_2), Vn, Vn, Vn, Vn], 27, none⟩]) (fun _ => rfl) rfl rfl) (pick_cons rfl pick_nil) rfl bl_nil (wt_none' rfl) fun ⟨⟩ => ?_
  refine px_rd' rfl (rd_iface' rfl ⟨_, Try.underlying67, fun _ h => (nomatch h)⟩) rfl rfl (wt_none' rfl) ?_
  refine px_rd' rfl (rd_assign' rfl) rfl rfl (wt_none' rfl) ?_
  refine px_nil' ?_
  show TX E K12 _
  refine tx_k' hK12 ?_
  refine cx_retc' ?_
  replace hp := Option.some.inj hp
  subst hp
  refine tx_pick' (L' := [(2, (If 67 (Vp q49)))]) (H' := [⟨.pointer (some q49), [(Vi r52.1), (Vi r52.2.1), (Sl Kf r52.2.2.1), (Vi r52.2.2.2.1), (Sl (Ki .i64) r52.2.2.2.2)], 132, none⟩]) [0] (sub_cons rfl sub_nil) (by decide) (pick_cons rfl pick_nil) ?_
  exact tx_ret1' Try.results30 rfl q49 (rv_tmp' rfl) (List.Sublist.refl _)
 replace hp := (br_f h4).symm.trans hp
 refine cr fun K13 hK13 => ?_
 refine s0 (rd_bin' rfl rfl eg_int ru_eql) ?_
 refine s0 (rd_assign' rfl) ?_
 refine nk hK13 ?_
 refine cx_cond' rfl (fun h5 => ?_) (fun h5 => ?_)
 ·replace hp := (br_t h5).symm.trans hp
  refine cx_seq' fun K14 hK14 => ?_
  refine cx_plan' [q1.block] [(7, 1), (10, 1)] [(0, 1), (1, 1), (2, 1), (3, 1), (8, 2), (9, 2), (4, 0), (5, 0), (6, 0), (7, 0), (10, 0), (11, 1), (12, 1)] mixed (by kernel_rfl) ?_
  refine px_rd' rfl (rd_move' rfl) rfl rfl (wt_none' rfl) ?_
  refine px_rd' rfl (rd_move' rfl) rfl rfl (wt_none' rfl) ?_
  refine px_rd' rfl (rd_field' (off := 4) rfl Try.underlying27 rfl info23 rfl) rfl rfl (wt_none' rfl) ?_
  refine px_rd' rfl (rd_load' (i := 0) (o := 4) rfl ⟨rfl, rfl, rfl, rfl⟩ rfl flat23) rfl rfl (wt_none' rfl) ?_
  refine px_rb' rfl (rb_field' (off := 2) rfl Try.underlying27 rfl info3 rfl) rfl rfl (wt_none' rfl) ?_
  refine px_rb' rfl (rb_load' (i := 0) (o := 2) rfl ⟨rfl, rfl, rfl, rfl⟩ rfl flat3 (by simp)) rfl rfl (wt_none' rfl) ?_
  obtain ⟨r60, hr60, hp⟩ := bind_some hp
  refine px_ox' rfl (ox_calln' (ent_fn' Try.func58 isn58 rfl rfl) (impl_ints_v2_sim hr60 : Sx.Fn Try.prog 58 [Vn] [] (fun x : Unit => (Sl (Ki .i64) r60)) (fun x => [])) (Hn := fun x : Unit => [⟨.pointer (some q1), [(Vi a0_0), (Vi a0_1), (Vi a0_2), Vn, Vn, Vn, Vn], 27, none⟩]) (fun _ => rfl) rfl rfl) rfl (bs_cons (m := 0) rfl rfl rfl bs_nil) (wt_none' rfl) fun ⟨⟩ => ?_
  obtain ⟨r61, hr61, hp⟩ := bind_some hp
  refine px_ox' rfl (ox_calln' (ent_fn' Try.func69 isn69 rfl rfl) (gogeom_NewMultiPointFlatOptionWithEnds_v2_sim _ hr61 : Sx.Fn Try.prog 69 [(Sl (Ki .i64) r60)] [] (fun x : Addr => (Vl (.func (.func 90) #[] ⟨[.pointer (some x)]⟩))) (fun x => [⟨.pointer (some x), [(Sl (Ki .i64) r61)], 23, none⟩])) (Hn := fun x : Addr => [⟨.pointer (some x), [(Sl (Ki .i64) r61)], 23, none⟩, ⟨.pointer (some q1), [(Vi a0_0), (Vi a0_1), (Vi a0_2), Vn, Vn, Vn, Vn], 27, none⟩]) (fun _ => rfl) rfl rfl) rfl (bs_cons (m := 0) rfl rfl rfl bs_nil) (wt_none' rfl) fun q61 => ?_
  refine px_ox' rfl (ox_srow' (es := 1) (r := [(Vl (.func (.func 90) #[] ⟨[.pointer (some q61)]⟩))]) (qs := [(0, [(Vl (.func (.func 90) #[] ⟨[.pointer (some q61)]⟩))])]) ⟨rfl, ⟨_, rfl, (lv_vl rfl rfl)⟩, trivial⟩ Try.underlying153 info101 rfl rfl rfl rfl rfl rfl rfl rfl rfl) rfl (bs_cons (m := 1) rfl rfl rfl bs_nil) (wt_none' rfl) fun q62 => ?_
  obtain ⟨r63, hr63, hp⟩ := bind_some hp
  refine px_oxb' (is := [0, 1]) rfl (oxb_callg (ent_fn' Try.func68 isn68 rfl rfl) (gogeom_NewMultiPointFlat_v2_sim _ _ _ hr63 : Sx.Fn Try.prog 68 [(Vi a0_1), (Sl Kf r12), (Vl (.slice (some q62) 1 1))] [⟨.slice (some q62) 1 1, [(Vl (.func (.func 90) #[] ⟨[.pointer (some q61)]⟩))], 101, some 1⟩, ⟨.pointer (some q61), [(Sl (Ki .i64) r61)], 23, none⟩] (fun x : Addr => (Vp x)) (fun x => [⟨.pointer (some q61), [(Sl (Ki .i64) r63.1)], 23, none⟩, ⟨.pointer (some x), [(Vi r63.2.1), (Vi r63.2.2.1), (Sl Kf r63.2.2.2.1), (Vi r63.2.2.2.2), (Sl (Ki .i64) r63.1)], 136, none⟩])) [0, 1] [2] (by decide) (pick_cons rfl (pick_cons rfl pick_nil)) (pick_cons rfl pick_nil) (Hn := fun x : Addr => [⟨.pointer (some q61), [(Sl (Ki .i64) r63.1)], 23, none⟩, ⟨.pointer (some x), [(Vi r63.2.1), (Vi r63.2.2.1), (Sl Kf r63.2.2.2.1), (Vi r63.2.2.2.2), (Sl (Ki .i64) r63.1)], 136, none⟩, ⟨.pointer (some q1), [(Vi a0_0), (Vi a0_1), (Vi a0_2), Vn, Vn, Vn, Vn], 27, none⟩]) (fun _ => rfl) rfl rfl) (pick_cons rfl (pick_cons rfl pick_nil)) rfl (bl_cons (m := 2) (by decide) rfl rfl bl_nil) (wt_none' rfl) fun q63 => ?_
  obtain ⟨r66, hr66, hp⟩ := bind_some hp
  refine px_oxb' (is := [1]) rfl (oxb_callg (ent_fn' Try.func70 isn70 rfl rfl) (gogeom_MultiPoint_SetSRID_v2_sim _ _ _ _ _ _ hr66 : Sx.Fn Try.prog 70 [(Vp q63), (Vi a0_2)] [⟨.pointer (some q63), [(Vi r63.2.1), (Vi r63.2.2.1), (Sl Kf r63.2.2.2.1), (Vi r63.2.2.2.2), (Sl (Ki .i64) r63.1)], 136, none⟩] (fun x : Unit => (Vp q63)) (fun x => [⟨.pointer (some q63), [(Vi r66.1), (Vi r66.2.1), (Sl Kf r66.2.2.1), (Vi r66.2.2.2.1), (Sl (Ki .i64) r66.2.2.2.2)], 136, none⟩])) [1] [0, 2] (by decide) (pick_cons rfl pick_nil) (pick_cons rfl (pick_cons rfl pick_nil)) (Hn := fun x : Unit => [⟨.pointer (some q63), [(Vi r66.1), (Vi r66.2.1), (Sl Kf r66.2.2.1), (Vi r66.2.2.2.1), (Sl (Ki .i64) r66.2.2.2.2)], 136, none⟩, ⟨.pointer (some q61), [(Sl (Ki .i64) r63.1)], 23, none⟩, ⟨.pointer (some q1), [(Vi a0_0), (Vi a0_1), (Vi a0_2), Vn, Vn, Vn, Vn], 27, none⟩]) (fun _ => rfl) rfl rfl) (pick_cons rfl pick_nil) rfl (bl_cons (m := 2) (by decide) rfl rfl bl_nil) (wt_none' rfl) fun ⟨⟩ => ?_
  refine px_rd' rfl (rd_iface' rfl ⟨_, Try.underlying70, fun _ h => (nomatch h)⟩) rfl rfl (wt_none' rfl) ?_
  refine px_rd' rfl (rd_assign' rfl) rfl rfl (wt_none' rfl) ?_
  refine px_nil' ?_
  show TX E K14 _
  refine tx_k' hK14 ?_
  refine cx_retc' ?_
  replace hp := Option.some.inj hp
  subst hp
  refine tx_pick' (L' := [(2, (If 70 (Vp q63)))]) (H' := [⟨.pointer (some q63), [(Vi r66.1), (Vi r66.2.1), (Sl Kf r66.2.2.1), (Vi r66.2.2.2.1), (Sl (Ki .i64) r66.2.2.2.2)], 136, none⟩]) [0] (sub_cons rfl sub_nil) (by decide) (pick_cons rfl pick_nil) ?_
  exact tx_ret1' Try.results30 rfl q63 (rv_tmp' rfl) (List.Sublist.refl _)
 replace hp := (br_f h5).symm.trans hp
 refine cr fun K15 hK15 => ?_
 refine s0 (rd_bin' rfl rfl eg_int ru_eql) ?_
 refine s0 (rd_assign' rfl) ?_
 refine nk hK15 ?_
 refine cx_cond' rfl (fun h6 => ?_) (fun h6 => ?_)
 ·replace hp := (br_t h6).symm.trans hp
  refine cx_seq' fun K16 hK16 => ?_
  refine cx_plan' [] [(8, 1)] [(0, 1), (1, 1), (2, 1), (3, 1), (6, 1), (7, 1), (4, 0), (5, 0), (8, 0), (9, 1), (10, 1)] mixed (by kernel_rfl) ?_
  refine px_rd' rfl (rd_move' rfl) rfl rfl (wt_none' rfl) ?_
  refine px_rd' rfl (rd_move' rfl) rfl rfl (wt_none' rfl) ?_
  refine px_rd' rfl (rd_field' (off := 4) rfl Try.underlying27 rfl info23 rfl) rfl rfl (wt_none' rfl) ?_
  refine px_rd' rfl (rd_load' (i := 0) (o := 4) rfl ⟨rfl, rfl, rfl, rfl⟩ rfl flat23) rfl rfl (wt_none' rfl) ?_
  refine px_rd' rfl (rd_field' (off := 2) rfl Try.underlying27 rfl info3 rfl) rfl rfl (wt_none' rfl) ?_
  refine px_rd' rfl (rd_load' (i := 0) (o := 2) rfl ⟨rfl, rfl, rfl, rfl⟩ rfl flat3) rfl rfl (wt_none' rfl) ?_
  obtain ⟨r74, hr74, hp⟩ := bind_some hp
  refine px_ox' rfl (ox_calln' (ent_fn' Try.func58 isn58 rfl rfl) (impl_ints_v2_sim hr74 : Sx.Fn Try.prog 58 [Vn] [] (fun x : Unit => (Sl (Ki .i64) r74)) (fun x => [])) (Hn := fun x : Unit => [⟨.pointer (some q1), [(Vi a0_0), (Vi a0_1), (Vi a0_2), Vn, Vn, Vn, Vn], 27, none⟩]) (fun _ => rfl) rfl rfl) rfl bs_nil (wt_none' rfl) fun ⟨⟩ => ?_
  obtain ⟨r75, hr75, hp⟩ := bind_some hp
  refine px_ox' rfl (ox_calln' (ent_fn' Try.func71 isn71 rfl rfl) (gogeom_NewMultiLineStringFlat_v2_sim _ _ _ hr75 : Sx.Fn Try.prog 71 [(Vi a0_1), (Sl Kf r12), (Sl (Ki .i64) r74)] [] (fun x : Addr => (Vp x)) (fun x => [⟨.pointer (some x), [(Vi r75.1), (Vi r75.2.1), (Sl Kf r75.2.2.1), (Vi r75.2.2.2.1), (Sl (Ki .i64) r75.2.2.2.2)], 139, none⟩])) (Hn := fun x : Addr => [⟨.pointer (some x), [(Vi r75.1), (Vi r75.2.1), (Sl Kf r75.2.2.1), (Vi r75.2.2.2.1), (Sl (Ki .i64) r75.2.2.2.2)], 139, none⟩, ⟨.pointer (some q1), [(Vi a0_0), (Vi a0_1), (Vi a0_2), Vn, Vn, Vn, Vn], 27, none⟩]) (fun _ => rfl) rfl rfl) rfl bs_nil (wt_none' rfl) fun q75 => ?_
  obtain ⟨r78, hr78, hp⟩ := bind_some hp
  refine px_oxb' (is := [0]) rfl (oxb_callg (ent_fn' Try.func72 isn72 rfl rfl) (gogeom_MultiLineString_SetSRID_v2_sim _ _ _ _ _ _ hr78 : Sx.Fn Try.prog 72 [(Vp q75), (Vi a0_2)] [⟨.pointer (some q75), [(Vi r75.1), (Vi r75.2.1), (Sl Kf r75.2.2.1), (Vi r75.2.2.2.1), (Sl (Ki .i64) r75.2.2.2.2)], 139, none⟩] (fun x : Unit => (Vp q75)) (fun x => [⟨.pointer (some q75), [(Vi r78.1), (Vi r78.2.1), (Sl Kf r78.2.2.1), (Vi r78.2.2.2.1), (Sl (Ki .i64) r78.2.2.2.2)], 139, none⟩])) [0] [1] (by decide) (pick_cons rfl pick_nil) (pick_cons rfl pick_nil) (Hn := fun x : Unit => [⟨.pointer (some q75), [(Vi r78.1), (Vi r78.2.1), (Sl Kf r78.2.2.1), (Vi r78.2.2.2.1), (Sl (Ki .i64) r78.2.2.2.2)], 139, none⟩, ⟨.pointer (some q1), [(Vi a0_0), (Vi a0_1), (Vi a0_2), Vn, Vn, Vn, Vn], 27, none⟩]) (fun _ => rfl) rfl rfl) (pick_cons rfl pick_nil) rfl bl_nil (wt_none' rfl) fun ⟨⟩ => ?_
  refine px_rd' rfl (rd_iface' rfl ⟨_, Try.underlying73, fun _ h => (nomatch h)⟩) rfl rfl (wt_none' rfl) ?_
  refine px_rd' rfl (rd_assign' rfl) rfl rfl (wt_none' rfl) ?_
  refine px_nil' ?_
  show TX E K16 _
  refine tx_k' hK16 ?_
  refine cx_retc' ?_
  replace hp := Option.some.inj hp
  subst hp
  refine tx_pick' (L' := [(2, (If 73 (Vp q75)))]) (H' := [⟨.pointer (some q75), [(Vi r78.1), (Vi r78.2.1), (Sl Kf r78.2.2.1), (Vi r78.2.2.2.1), (Sl (Ki .i64) r78.2.2.2.2)], 139, none⟩]) [0] (sub_cons rfl sub_nil) (by decide) (pick_cons rfl pick_nil) ?_
  exact tx_ret1' Try.results30 rfl q75 (rv_tmp' rfl) (List.Sublist.refl _)
 replace hp := (br_f h6).symm.trans hp
 refine cr fun K17 hK17 => ?_
 refine s0 (rd_bin' rfl rfl eg_int ru_eql) ?_
 refine s0 (rd_assign' rfl) ?_
 refine nk hK17 ?_
 refine cx_cond' rfl (fun h7 => ?_) (fun h7 => ?_)
 ·replace hp := (br_t h7).symm.trans hp
  refine cx_seq' fun K18 hK18 => ?_
  refine cx_plan' [] [(8, 1)] [(0, 1), (1, 1), (2, 1), (3, 1), (6, 1), (7, 1), (4, 0), (5, 0), (8, 0), (9, 1), (10, 1)] mixed (by kernel_rfl) ?_
  refine px_rd' rfl (rd_move' rfl) rfl rfl (wt_none' rfl) ?_
  refine px_rd' rfl (rd_move' rfl) rfl rfl (wt_none' rfl) ?_
  refine px_rd' rfl (rd_field' (off := 5) rfl Try.underlying27 rfl info24 rfl) rfl rfl (wt_none' rfl) ?_
  refine px_rd' rfl (rd_load' (i := 0) (o := 5) rfl ⟨rfl, rfl, rfl, rfl⟩ rfl flat24) rfl rfl (wt_none' rfl) ?_
  refine px_rd' rfl (rd_field' (off := 2) rfl Try.underlying27 rfl info3 rfl) rfl rfl (wt_none' rfl) ?_
  refine px_rd' rfl (rd_load' (i := 0) (o := 2) rfl ⟨rfl, rfl, rfl, rfl⟩ rfl flat3) rfl rfl (wt_none' rfl) ?_
  obtain ⟨r86, hr86, hp⟩ := bind_some hp
  refine px_ox' rfl (ox_calln' (ent_fn' Try.func29 isn29 rfl rfl) (impl_intss_v2_sim hr86 : Sx.Fn Try.prog 29 [Vn] [] (fun x : Unit => Vn) (fun x => [])) (Hn := fun x : Unit => [⟨.pointer (some q1), [(Vi a0_0), (Vi a0_1), (Vi a0_2), Vn, Vn, Vn, Vn], 27, none⟩]) (fun _ => rfl) rfl rfl) rfl bs_nil (wt_none' rfl) fun ⟨⟩ => ?_
  obtain ⟨r87, hr87, hp⟩ := bind_some hp
  refine px_ox' rfl (ox_calln' (ent_fn' Try.func73 isn73 rfl rfl) (gogeom_NewMultiPolygonFlat_v2_sim _ _ hr87 : Sx.Fn Try.prog 73 [(Vi a0_1), (Sl Kf r12), Vn] [] (fun x : Addr => (Vp x)) (fun x => [⟨.pointer (some x), [(Vi r87.1), (Vi r87.2.1), (Sl Kf r87.2.2.1), (Vi r87.2.2.2), Vn], 143, none⟩])) (Hn := fun x : Addr => [⟨.pointer (some x), [(Vi r87.1), (Vi r87.2.1), (Sl Kf r87.2.2.1), (Vi r87.2.2.2), Vn], 143, none⟩, ⟨.pointer (some q1), [(Vi a0_0), (Vi a0_1), (Vi a0_2), Vn, Vn, Vn, Vn], 27, none⟩]) (fun _ => rfl) rfl rfl) rfl bs_nil (wt_none' rfl) fun q87 => ?_
  obtain ⟨r90, hr90, hp⟩ := bind_some hp
  refine px_oxb' (is := [0]) rfl (oxb_callg (ent_fn' Try.func74 isn74 rfl rfl) (gogeom_MultiPolygon_SetSRID_v2_sim _ _ _ _ _ hr90 : Sx.Fn Try.prog 74 [(Vp q87), (Vi a0_2)] [⟨.pointer (some q87), [(Vi r87.1), (Vi r87.2.1), (Sl Kf r87.2.2.1), (Vi r87.2.2.2), Vn], 143, none⟩] (fun x : Unit => (Vp q87)) (fun x => [⟨.pointer (some q87), [(Vi r90.1), (Vi r90.2.1), (Sl Kf r90.2.2.1), (Vi r90.2.2.2), Vn], 143, none⟩])) [0] [1] (by decide) (pick_cons rfl pick_nil) (pick_cons rfl pick_nil) (Hn := fun x : Unit => [⟨.pointer (some q87), [(Vi r90.1), (Vi r90.2.1), (Sl Kf r90.2.2.1), (Vi r90.2.2.2), Vn], 143, none⟩, ⟨.pointer (some q1), [(Vi a0_0), (Vi a0_1), (Vi a0_2), Vn, Vn, Vn, Vn], 27, none⟩]) (fun _ => rfl) rfl rfl) (pick_cons rfl pick_nil) rfl bl_nil (wt_none' rfl) fun ⟨⟩ => ?_
  refine px_rd' rfl (rd_iface' rfl ⟨_, Try.underlying76, fun _ h => (nomatch h)⟩) rfl rfl (wt_none' rfl) ?_
  refine px_rd' rfl (rd_assign' rfl) rfl rfl (wt_none' rfl) ?_
  refine px_nil' ?_
  show TX E K18 _
  refine tx_k' hK18 ?_
  refine cx_retc' ?_
  replace hp := Option.some.inj hp
  subst hp
  refine tx_pick' (L' := [(2, (If 76 (Vp q87)))]) (H' := [⟨.pointer (some q87), [(Vi r90.1), (Vi r90.2.1), (Sl Kf r90.2.2.1), (Vi r90.2.2.2), Vn], 143, none⟩]) [0] (sub_cons rfl sub_nil) (by decide) (pick_cons rfl pick_nil) ?_
  exact tx_ret1' Try.results30 rfl q87 (rv_tmp' rfl) (List.Sublist.refl _)
 replace hp := (br_f h7).symm.trans hp
 refine cr fun K19 hK19 => ?_
 refine s0 (rd_bin' rfl rfl eg_int ru_eql) ?_
 refine s0 (rd_assign' rfl) ?_
 refine nk hK19 ?_
 refine cx_cond' rfl (fun h8 => ?_) (fun h8 => ?_)
 ·replace hp := (br_t h8).symm.trans hp
  refine cx_seq' fun K20 hK20 => ?_
  refine cx_plan' [] [(3, 1)] [(1, 1), (2, 1), (0, 0), (3, 0), (4, 1)] mixed (by kernel_rfl) ?_
  refine px_rd' rfl (rd_field' (off := 2) rfl Try.underlying27 rfl info3 rfl) rfl rfl (wt_none' rfl) ?_
  refine px_rd' rfl (rd_load' (i := 0) (o := 2) rfl ⟨rfl, rfl, rfl, rfl⟩ rfl flat3) rfl rfl (wt_none' rfl) ?_
  obtain ⟨r94, hr94, hp⟩ := bind_some hp
  refine px_ox' rfl (ox_calln' (ent_fn' Try.func75 isn75 rfl rfl) (gogeom_NewGeometryCollection_sim hr94 : Sx.Fn Try.prog 75 [] [] (fun x : Addr => (Vp x)) (fun x => [⟨.pointer (some x), [(Vi r94), Vn, (Vi r94)], 114, none⟩])) (Hn := fun x : Addr => [⟨.pointer (some x), [(Vi r94), Vn, (Vi r94)], 114, none⟩, ⟨.pointer (some q1), [(Vi a0_0), (Vi a0_1), (Vi a0_2), Vn, Vn, Vn, Vn], 27, none⟩]) (fun _ => rfl) rfl rfl) rfl bs_nil (wt_none' rfl) fun q94 => ?_
  obtain ⟨r97, hr97, hp⟩ := bind_some hp
  refine px_oxb' (is := [0]) rfl (oxb_callg (ent_fn' Try.func76 isn76 rfl rfl) (gogeom_GeometryCollection_SetSRID_sim _ _ _ hr97 : Sx.Fn Try.prog 76 [(Vp q94), (Vi a0_2)] [⟨.pointer (some q94), [(Vi r94), Vn, (Vi r94)], 114, none⟩] (fun x : Unit => (Vp q94)) (fun x => [⟨.pointer (some q94), [(Vi r97.1), Vn, (Vi r97.2)], 114, none⟩])) [0] [1] (by decide) (pick_cons rfl pick_nil) (pick_cons rfl pick_nil) (Hn := fun x : Unit => [⟨.pointer (some q94), [(Vi r97.1), Vn, (Vi r97.2)], 114, none⟩, ⟨.pointer (some q1), [(Vi a0_0), (Vi a0_1), (Vi a0_2), Vn, Vn, Vn, Vn], 27, none⟩]) (fun _ => rfl) rfl rfl) (pick_cons rfl pick_nil) rfl bl_nil (wt_none' rfl) fun ⟨⟩ => ?_
  refine px_rd' rfl (rd_assign' rfl) rfl rfl (wt_none' rfl) ?_
  refine px_nil' ?_
  show TX E K20 _
  refine tx_k' hK20 ?_
  refine cx_seq' fun K21 hK21 => ?_
  refine cr fun K22 hK22 => ?_
  refine s0 (rd_field' (off := 6) rfl Try.underlying27 rfl info25 rfl) ?_
  refine s0 (rd_load' (i := 1) (o := 6) rfl ⟨rfl, rfl, rfl, rfl⟩ rfl flat25) ?_
  refine s0 (rd_lenv' rfl Try.underlying25) ?_
  refine s0 (rd_move' rfl) ?_
  refine nk hK22 ?_
  refine cx_block' ?_
  refine tx_loop' ?_
  refine tx_round' ?_
  refine cr fun K23 hK23 => ?_
  refine s0 (rd_bin' rfl rfl eg_int ru_lss) ?_
  refine nk hK23 ?_
  refine cx_seq' fun K24 hK24 => ?_
  refine cx_cond_f' rfl rfl ?_
  refine cx_exit' ?_
  show TX E K21 _
  refine tx_k' hK21 ?_
  refine cr fun K25 hK25 => ?_
  refine s0 (rd_move' rfl) ?_
  refine s0 (rd_move' rfl) ?_
  obtain ⟨r113, hr113, hp⟩ := bind_some hp
  refine sx_ox' (ox_callg' (ent_fn' Try.func78 isn78 rfl rfl) (gogeom_GeometryCollection_MustSetLayout_sim _ _ _ hr113 : Sx.Fn Try.prog 78 [(Vp q94), (Vi a0_1)] [⟨.pointer (some q94), [(Vi r97.1), Vn, (Vi r97.2)], 114, none⟩] (fun x : Unit => (Vp q94)) (fun x => [⟨.pointer (some q94), [(Vi r113.1), Vn, (Vi r113.2)], 114, none⟩])) [0] [1] (by decide) (pick_cons rfl pick_nil) (pick_cons rfl pick_nil) (Hn := fun x : Unit => [⟨.pointer (some q94), [(Vi r113.1), Vn, (Vi r113.2)], 114, none⟩, ⟨.pointer (some q1), [(Vi a0_0), (Vi a0_1), (Vi a0_2), Vn, Vn, Vn, Vn], 27, none⟩]) (fun _ => rfl) rfl rfl) (wt_none' rfl) fun ⟨⟩ => ?_
  refine s0 (rd_iface' rfl ⟨_, Try.underlying57, fun _ h => (nomatch h)⟩) ?_
  refine s0 (rd_assign' rfl) ?_
  refine nk hK25 ?_
  refine cx_retc' ?_
  replace hp := Option.some.inj hp
  subst hp
  refine tx_pick' (L' := [(2, (If 57 (Vp q94)))]) (H' := [⟨.pointer (some q94), [(Vi r113.1), Vn, (Vi r113.2)], 114, none⟩]) [0] (sub_cons rfl sub_nil) (by decide) (pick_cons rfl pick_nil) ?_
  exact tx_ret1' Try.results30 rfl q94 (rv_tmp' rfl) (List.Sublist.refl _)
 replace hp := (br_f h8).symm.trans hp
 refine cx_skip' ?_
 show TX E K3 _
 refine tx_k' hK3 ?_
 refine cx_region' ?_
 refine s0 (rd_iface' rfl ⟨_, Try.underlying9, fun _ h => (nomatch h)⟩) ?_
 cases hp

def gogeom_GeometryCollection_SRID_v3 (k : Nat) (a0_0 : Int) (a0_2 : Int) : Option (Int × Int) :=
 some (a0_0, a0_2)

theorem gogeom_GeometryCollection_SRID_v3_sim {k : Nat} {wa0 : Addr} (a0_0 : Int) (a0_2 : Int) {out : Int × Int} (hp : gogeom_GeometryCollection_SRID_v3 k a0_0 a0_2 = some out) : Sx.Fn Try.prog 126 [(Vp wa0)] [⟨.pointer (some wa0), [(Vi a0_0), Vn, (Vi a0_2)], 114, none⟩] (fun w : Unit => (Vi out.2)) (fun w => [⟨.pointer (some wa0), [(Vi out.1), Vn, (Vi out.2)], 114, none⟩]) := by
 unfold gogeom_GeometryCollection_SRID_v3 at hp
 refine fn_of Try.func126 rfl Try.ntmps126 rfl fun E hM => ?_
 refine cr fun K1 hK1 => ?_
 refine s0 (rd_assign' rfl) ?_
 refine nk hK1 ?_
 refine cr fun K2 hK2 => ?_
 refine s0 (rd_move' rfl) ?_
 refine s0 (rd_nilck' rfl) ?_
 refine s0 (rd_field' (off := 2) rfl Try.underlying114 rfl info3 rfl) ?_
 refine s0 (rd_load' (i := 0) (o := 2) rfl ⟨rfl, rfl, rfl, rfl⟩ rfl flat3) ?_
 refine s0 (rd_assign' rfl) ?_
 refine nk hK2 ?_
 refine cx_retc' ?_
 replace hp := Option.some.inj hp
 subst hp
 refine tx_pick' (L' := [(2, (Vi a0_2))]) (H' := [⟨.pointer (some wa0), [(Vi a0_0), Vn, (Vi a0_2)], 114, none⟩]) [0] (sub_cons rfl sub_nil) (by decide) (pick_cons rfl pick_nil) ?_
 exact tx_ret1' Try.results126 rfl () (rv_tmp' rfl) (List.Sublist.refl _)

def gogeom_DoorLayout_v3 (k : Nat) (a0_0 : Int) (a0_2 : Int) : Option (Int × Int) :=
 some (a0_0, a0_2)

theorem gogeom_DoorLayout_v3_sim {k : Nat} {wa0 : Addr} (a0_0 : Int) (a0_2 : Int) {out : Int × Int} (hp : gogeom_DoorLayout_v3 k a0_0 a0_2 = some out) : Sx.Fn Try.prog 80 [(Vp wa0)] [⟨.pointer (some wa0), [(Vi a0_0), Vn, (Vi a0_2)], 114, none⟩] (fun w : Unit => (Vi out.1)) (fun w => [⟨.pointer (some wa0), [(Vi out.1), Vn, (Vi out.2)], 114, none⟩]) := by
 unfold gogeom_DoorLayout_v3 at hp
 refine fn_of Try.func80 rfl Try.ntmps80 rfl fun E hM => ?_
 refine cr fun K1 hK1 => ?_
 refine s0 (rd_assign' rfl) ?_
 refine nk hK1 ?_
 refine cr fun K2 hK2 => ?_
 refine s0 (rd_move' rfl) ?_
 refine s0 (rd_nilck' rfl) ?_
 refine s0 (rd_field0' rfl Try.underlying114 rfl info61 rfl) ?_
 refine s0 (rd_load' (i := 0) (o := 0) rfl ⟨rfl, rfl, rfl, rfl⟩ rfl flat61) ?_
 refine s0 (rd_assign' rfl) ?_
 refine nk hK2 ?_
 refine cx_retc' ?_
 replace hp := Option.some.inj hp
 subst hp
 refine tx_pick' (L' := [(2, (Vi a0_0))]) (H' := [⟨.pointer (some wa0), [(Vi a0_0), Vn, (Vi a0_2)], 114, none⟩]) [0] (sub_cons rfl sub_nil) (by decide) (pick_cons rfl pick_nil) ?_
 exact tx_ret1' Try.results80 rfl () (rv_tmp' rfl) (List.Sublist.refl _)

def gogeom_GeometryCollection_Geoms_v3 (k : Nat) (a0_0 : Int) (a0_2 : Int) : Option (Int × Int) :=
 some (a0_0, a0_2)

theorem gogeom_GeometryCollection_Geoms_v3_sim {k : Nat} {wa0 : Addr} (a0_0 : Int) (a0_2 : Int) {out : Int × Int} (hp : gogeom_GeometryCollection_Geoms_v3 k a0_0 a0_2 = some out) : Sx.Fn Try.prog 81 [(Vp wa0)] [⟨.pointer (some wa0), [(Vi a0_0), Vn, (Vi a0_2)], 114, none⟩] (fun w : Unit => Vn) (fun w => [⟨.pointer (some wa0), [(Vi out.1), Vn, (Vi out.2)], 114, none⟩]) := by
 unfold gogeom_GeometryCollection_Geoms_v3 at hp
 refine fn_of Try.func81 rfl Try.ntmps81 rfl fun E hM => ?_
 refine cr fun K1 hK1 => ?_
 refine s0 (rd_assign' rfl) ?_
 refine nk hK1 ?_
 refine cr fun K2 hK2 => ?_
 refine s0 (rd_move' rfl) ?_
 refine s0 (rd_nilck' rfl) ?_
 refine s0 (rd_field' (off := 1) rfl Try.underlying114 rfl info112 rfl) ?_
 refine s0 (rd_load' (i := 0) (o := 1) rfl ⟨rfl, rfl, rfl, rfl⟩ rfl flat112) ?_
 refine s0 (rd_assign' rfl) ?_
 refine nk hK2 ?_
 refine cx_retc' ?_
 replace hp := Option.some.inj hp
 subst hp
 refine tx_pick' (L' := [(2, Vn)]) (H' := [⟨.pointer (some wa0), [(Vi a0_0), Vn, (Vi a0_2)], 114, none⟩]) [0] (sub_cons rfl sub_nil) (by decide) (pick_cons rfl pick_nil) ?_
 exact tx_ret1' Try.results81 rfl () (rv_tmp' rfl) (List.Sublist.refl _)

def impl_plain_v3 (k : Nat) (a0_0 : Int) (a0_2 : Int) : Option (Int × Int × Int × Int × Int) :=
 (gogeom_GeometryCollection_SRID_v3 k a0_0 a0_2) >>= fun r15 =>
 (gogeom_DoorLayout_v3 k r15.1 r15.2) >>= fun r50 =>
 (gogeom_GeometryCollection_Geoms_v3 k r50.1 r50.2) >>= fun r54 =>
 some (r54.1, r54.2, 7, r50.1, r15.2)

theorem impl_plain_v3_sim {k : Nat} {wa0 : Addr} (a0_0 : Int) (a0_2 : Int) {out : Int × Int × Int × Int × Int} (hp : impl_plain_v3 k a0_0 a0_2 = some out) : Sx.Fn Try.prog 34 [(If 57 (Vp wa0))] [⟨.pointer (some wa0), [(Vi a0_0), Vn, (Vi a0_2)], 114, none⟩] (fun w : Unit => (Ag [(Vi out.2.2.1), (Vi out.2.2.2.1), (Vi out.2.2.2.2), Vn, Vn, Vn, Vn])) (fun w => [⟨.pointer (some wa0), [(Vi out.1), Vn, (Vi out.2.1)], 114, none⟩]) := by
 unfold impl_plain_v3 at hp
 refine fn_of Try.func34 rfl Try.ntmps34 rfl fun E hM => ?_
 refine cr fun K1 hK1 => ?_
 refine sx_ox' (ox_alloc' info27 rfl rfl rfl rfl (l := [(Vi 0), (Vi 0), (Vi 0), Vn, Vn, Vn, Vn]) rfl) (wt_none' rfl) fun q2 => ?_
 refine nk hK1 ?_
 refine cr fun K2 hK2 => ?_
 refine s0 (rd_move' rfl) ?_
 obtain ⟨r15, hr15, hp⟩ := bind_some hp
 refine sx_ox' (ox_callg' (ent_inv' rfl rfl (inv_any0 inv57_SRID)) (gogeom_GeometryCollection_SRID_v3_sim _ _ hr15 : Sx.Fn Try.prog 126 [(Vp wa0)] [⟨.pointer (some wa0), [(Vi a0_0), Vn, (Vi a0_2)], 114, none⟩] (fun x : Unit => (Vi r15.2)) (fun x => [⟨.pointer (some wa0), [(Vi r15.1), Vn, (Vi r15.2)], 114, none⟩])) [1] [0] (by decide) (pick_cons rfl pick_nil) (pick_cons rfl pick_nil) (Hn := fun x : Unit => [⟨.pointer (some wa0), [(Vi r15.1), Vn, (Vi r15.2)], 114, none⟩, ⟨.pointer (some q2), [(Vi 0), (Vi 0), (Vi 0), Vn, Vn, Vn, Vn], 27, none⟩]) (fun _ => rfl) rfl rfl) (wt_none' rfl) fun ⟨⟩ => ?_
 refine s0 (rd_build' (pls := [(0, 1), (1, 1), (2, 1), (3, 1), (4, 1), (5, 1), (6, 1)]) (qs := [(2, [(Vi r15.2)])]) (r := [(Vi 0), (Vi 0), (Vi r15.2), Vn, Vn, Vn, Vn]) ⟨rfl, ⟨_, rfl, (lv_vl rfl rfl)⟩, trivial⟩ Try.underlying27 has27 places27 info27 rfl rfl rfl) ?_
 refine sx_ox' (ox_alloc' info27 rfl rfl rfl rfl (l := [(Vi 0), (Vi 0), (Vi 0), Vn, Vn, Vn, Vn]) rfl) (wt_none' rfl) fun q3 => ?_
 refine sx_ox' (ox_store' (i := 0) (o := 0) rfl rfl (lv_ag _) ⟨rfl, rfl, rfl, rfl⟩ rfl info27 rfl (H' := [⟨.pointer (some q3), [(Vi 0), (Vi 0), (Vi r15.2), Vn, Vn, Vn, Vn], 27, none⟩, ⟨.pointer (some wa0), [(Vi r15.1), Vn, (Vi r15.2)], 114, none⟩, ⟨.pointer (some q2), [(Vi 0), (Vi 0), (Vi 0), Vn, Vn, Vn, Vn], 27, none⟩]) rfl) (wt_none' rfl) fun _ => ?_
 refine nk hK2 ?_
 refine cx_seq' fun K3 hK3 => ?_
 refine cr fun K4 hK4 => ?_
 refine s0 (rd_move' rfl) ?_
 refine nk hK4 ?_
 refine cx_block' ?_
 refine cr fun K5 hK5 => ?_
 refine s0 (rd_assert' rfl (F := fun _ => .tuple #[.pointer none, .bool false]) as57_53_72 as_no) ?_
 refine s0 (rd_extract' rfl rfl) ?_
 refine s0 (rd_extract' rfl rfl) ?_
 refine nk hK5 ?_
 refine cx_cond_f' rfl rfl ?_
 refine cr fun K6 hK6 => ?_
 refine s0 (rd_assert' rfl (F := fun _ => .tuple #[.pointer none, .bool false]) as57_53_75 as_no) ?_
 refine s0 (rd_extract' rfl rfl) ?_
 refine s0 (rd_extract' rfl rfl) ?_
 refine nk hK6 ?_
 refine cx_cond_f' rfl rfl ?_
 refine cr fun K7 hK7 => ?_
 refine s0 (rd_assert' rfl (F := fun _ => .tuple #[.pointer none, .bool false]) as57_53_69 as_no) ?_
 refine s0 (rd_extract' rfl rfl) ?_
 refine s0 (rd_extract' rfl rfl) ?_
 refine nk hK7 ?_
 refine cx_cond_f' rfl rfl ?_
 refine cr fun K8 hK8 => ?_
 refine s0 (rd_assert' rfl (F := fun _ => .tuple #[.pointer none, .bool false]) as57_53_67 as_no) ?_
 refine s0 (rd_extract' rfl rfl) ?_
 refine s0 (rd_extract' rfl rfl) ?_
 refine nk hK8 ?_
 refine cx_cond_f' rfl rfl ?_
 refine cr fun K9 hK9 => ?_
 refine s0 (rd_assert' rfl (F := fun _ => .tuple #[.pointer none, .bool false]) as57_53_70 as_no) ?_
 refine s0 (rd_extract' rfl rfl) ?_
 refine s0 (rd_extract' rfl rfl) ?_
 refine nk hK9 ?_
 refine cx_cond_f' rfl rfl ?_
 refine cr fun K10 hK10 => ?_
 refine s0 (rd_assert' rfl (F := fun _ => .tuple #[.pointer none, .bool false]) as57_53_73 as_no) ?_
 refine s0 (rd_extract' rfl rfl) ?_
 refine s0 (rd_extract' rfl rfl) ?_
 refine nk hK10 ?_
 refine cx_cond_f' rfl rfl ?_
 refine cr fun K11 hK11 => ?_
 refine s0 (rd_assert' rfl (F := fun _ => .tuple #[.pointer none, .bool false]) as57_53_76 as_no) ?_
 refine s0 (rd_extract' rfl rfl) ?_
 refine s0 (rd_extract' rfl rfl) ?_
 refine nk hK11 ?_
 refine cx_cond_f' rfl rfl ?_
 refine cr fun K12 hK12 => ?_
 refine s0 (rd_assert' rfl (F := fun v => .tuple #[v, .bool true]) as57_53_57k as_ok) ?_
 refine s0 (rd_extract' rfl rfl) ?_
 refine s0 (rd_extract' rfl rfl) ?_
 refine nk hK12 ?_
 refine cx_cond_t' rfl rfl ?_
 refine cr fun K13 hK13 => ?_
 refine s0 (rd_assign' rfl) ?_
 refine nk hK13 ?_
 refine cr fun K14 hK14 => ?_
 refine s0 (rd_move' rfl) ?_
 obtain ⟨r50, hr50, hp⟩ := bind_some hp
 refine sx_ox' (ox_callg' (ent_fn' Try.func80 isn80 rfl rfl) (gogeom_DoorLayout_v3_sim _ _ hr50 : Sx.Fn Try.prog 80 [(Vp wa0)] [⟨.pointer (some wa0), [(Vi r15.1), Vn, (Vi r15.2)], 114, none⟩] (fun x : Unit => (Vi r50.1)) (fun x => [⟨.pointer (some wa0), [(Vi r50.1), Vn, (Vi r50.2)], 114, none⟩])) [1] [0, 2] (by decide) (pick_cons rfl pick_nil) (pick_cons rfl (pick_cons rfl pick_nil)) (Hn := fun x : Unit => [⟨.pointer (some wa0), [(Vi r50.1), Vn, (Vi r50.2)], 114, none⟩, ⟨.pointer (some q3), [(Vi 0), (Vi 0), (Vi r15.2), Vn, Vn, Vn, Vn], 27, none⟩, ⟨.pointer (some q2), [(Vi 0), (Vi 0), (Vi 0), Vn, Vn, Vn, Vn], 27, none⟩]) (fun _ => rfl) rfl rfl) (wt_none' rfl) fun ⟨⟩ => ?_
 refine s0 (rd_field0' rfl Try.underlying27 rfl info3 rfl) ?_
 refine sx_ox' (ox_store' (i := 1) (o := 0) rfl rfl (lv_vl rfl rfl) ⟨rfl, rfl, rfl, rfl⟩ rfl info3 rfl (H' := [⟨.pointer (some wa0), [(Vi r50.1), Vn, (Vi r50.2)], 114, none⟩, ⟨.pointer (some q3), [(Vi 7), (Vi 0), (Vi r15.2), Vn, Vn, Vn, Vn], 27, none⟩, ⟨.pointer (some q2), [(Vi 0), (Vi 0), (Vi 0), Vn, Vn, Vn, Vn], 27, none⟩]) rfl) (wt_none' rfl) fun _ => ?_
 refine s0 (rd_field' (off := 1) rfl Try.underlying27 rfl info3 rfl) ?_
 refine sx_ox' (ox_store' (i := 1) (o := 1) rfl rfl (lv_vl rfl rfl) ⟨rfl, rfl, rfl, rfl⟩ rfl info3 rfl (H' := [⟨.pointer (some wa0), [(Vi r50.1), Vn, (Vi r50.2)], 114, none⟩, ⟨.pointer (some q3), [(Vi 7), (Vi r50.1), (Vi r15.2), Vn, Vn, Vn, Vn], 27, none⟩, ⟨.pointer (some q2), [(Vi 0), (Vi 0), (Vi 0), Vn, Vn, Vn, Vn], 27, none⟩]) rfl) (wt_none' rfl) fun _ => ?_
 refine nk hK14 ?_
 refine cx_seq' fun K15 hK15 => ?_
 refine cr fun K16 hK16 => ?_
 refine s0 (rd_move' rfl) ?_
 obtain ⟨r54, hr54, hp⟩ := bind_some hp
 refine sx_ox' (ox_callg' (ent_fn' Try.func81 isn81 rfl rfl) (gogeom_GeometryCollection_Geoms_v3_sim _ _ hr54 : Sx.Fn Try.prog 81 [(Vp wa0)] [⟨.pointer (some wa0), [(Vi r50.1), Vn, (Vi r50.2)], 114, none⟩] (fun x : Unit => Vn) (fun x => [⟨.pointer (some wa0), [(Vi r54.1), Vn, (Vi r54.2)], 114, none⟩])) [0] [1, 2] (by decide) (pick_cons rfl pick_nil) (pick_cons rfl (pick_cons rfl pick_nil)) (Hn := fun x : Unit => [⟨.pointer (some wa0), [(Vi r54.1), Vn, (Vi r54.2)], 114, none⟩, ⟨.pointer (some q3), [(Vi 7), (Vi r50.1), (Vi r15.2), Vn, Vn, Vn, Vn], 27, none⟩, ⟨.pointer (some q2), [(Vi 0), (Vi 0), (Vi 0), Vn, Vn, Vn, Vn], 27, none⟩]) (fun _ => rfl) rfl rfl) (wt_none' rfl) fun ⟨⟩ => ?_
 refine s0 (rd_lenv' rfl Try.underlying112) ?_
 refine s0 (rd_move' rfl) ?_
 refine nk hK16 ?_
 refine cx_block' ?_
 refine tx_loop' ?_
 refine tx_round' ?_
 refine cr fun K17 hK17 => ?_
 refine s0 (rd_bin' rfl rfl eg_int ru_lss) ?_
 refine nk hK17 ?_
 refine cx_seq' fun K18 hK18 => ?_
 refine cx_cond_f' rfl rfl ?_
 refine cx_exit' ?_
 show TX E K15 _
 refine tx_k' hK15 ?_
 refine cr fun K19 hK19 => ?_
 refine s0 (rd_load_agg' (i := 1) (o := 0) (nn := 7) rfl ⟨rfl, rfl, rfl, rfl⟩ rfl agg27 (l' := [(Vi 7), (Vi r50.1), (Vi r15.2), Vn, Vn, Vn, Vn]) rfl) ?_
 refine sx_ox' (ox_store' (i := 2) (o := 0) rfl rfl (lv_ag _) ⟨rfl, rfl, rfl, rfl⟩ rfl info27 rfl (H' := [⟨.pointer (some wa0), [(Vi r54.1), Vn, (Vi r54.2)], 114, none⟩, ⟨.pointer (some q3), [(Vi 7), (Vi r50.1), (Vi r15.2), Vn, Vn, Vn, Vn], 27, none⟩, ⟨.pointer (some q2), [(Vi 7), (Vi r50.1), (Vi r15.2), Vn, Vn, Vn, Vn], 27, none⟩]) rfl) (wt_none' rfl) fun _ => ?_
 refine nk hK19 ?_
 refine cx_retc' ?_
 replace hp := Option.some.inj hp
 subst hp
 refine tx_pick' (L' := [(2, (Vp q2))]) (H' := [⟨.pointer (some wa0), [(Vi r54.1), Vn, (Vi r54.2)], 114, none⟩, ⟨.pointer (some q2), [(Vi 7), (Vi r50.1), (Vi r15.2), Vn, Vn, Vn, Vn], 27, none⟩]) [0, 2] (sub_cons rfl sub_nil) (by decide) (pick_cons rfl (pick_cons rfl pick_nil)) ?_
 exact tx_ret1' Try.results34 rfl () (rv_cell_agg' (i := 1) (o := 0) (nn := 7) rfl ⟨rfl, rfl, rfl, rfl⟩ rfl agg27 rfl) (List.Sublist.cons_cons _ (List.nil_sublist _))

def impl_SetLayout_v2 (k : Nat) (a0_0 : Int) (a0_1 : Int) (a0_2 : Int) (a1 : Int) : Option (Int × Int × Int × Bool) :=
 (impl_geometry_v2 k a0_0 a0_1 a0_2) >>= fun r9 =>
 match r9 with
  | (.inl y1) =>
   ((impl_SetLayout_1 k 0 0 0 false) >>= fun r951 =>
   some (r951.1, r951.1, r951.1, r951.2))
  | (.inr (.inl y1)) =>
   ((impl_SetLayout_1 k 0 0 0 false) >>= fun r951 =>
   some (r951.1, r951.1, r951.1, r951.2))
  | (.inr (.inr (.inl y1))) =>
   ((impl_SetLayout_1 k 0 0 0 false) >>= fun r951 =>
   some (r951.1, r951.1, r951.1, r951.2))
  | (.inr (.inr (.inr (.inl y1)))) =>
   ((impl_SetLayout_1 k 0 0 0 false) >>= fun r951 =>
   some (r951.1, r951.1, r951.1, r951.2))
  | (.inr (.inr (.inr (.inr (.inl y1))))) =>
   ((impl_SetLayout_1 k 0 0 0 false) >>= fun r951 =>
   some (r951.1, r951.1, r951.1, r951.2))
  | (.inr (.inr (.inr (.inr (.inr (.inl y1)))))) =>
   ((impl_SetLayout_1 k 0 0 0 false) >>= fun r951 =>
   some (r951.1, r951.1, r951.1, r951.2))
  | (.inr (.inr (.inr (.inr (.inr (.inr (.inl y1))))))) =>
   ((impl_SetLayout_1 k 0 0 0 false) >>= fun r951 =>
   some (r951.1, r951.1, r951.1, r951.2))
  | (.inr (.inr (.inr (.inr (.inr (.inr (.inr y1))))))) =>
   ((gogeom_GeometryCollection_SetLayout k y1.1 y1.2 a1) >>= fun r13 =>
   (impl_plain_v3 k r13.1 r13.2) >>= fun r18 =>
   some (r18.2.2.1, r18.2.2.2.1, r18.2.2.2.2, true))

theorem impl_SetLayout_v2_sim {k : Nat}  (a0_0 : Int) (a0_1 : Int) (a0_2 : Int) (a1 : Int) {out : Int × Int × Int × Bool} (hp : impl_SetLayout_v2 k a0_0 a0_1 a0_2 a1 = some out) : Sx.Fn Try.prog 11 [(Ag [(Vi a0_0), (Vi a0_1), (Vi a0_2), Vn, Vn, Vn, Vn]), (Vi a1)] [] (fun w : Unit => (Tu [(Ag [(Vi out.1), (Vi out.2.1), (Vi out.2.2.1), Vn, Vn, Vn, Vn]), (Vb out.2.2.2)])) (fun w => []) := by
 unfold impl_SetLayout_v2 at hp
 refine fnD_of Try.func11 rfl Try.ntmps11 rfl fun E hM => ?_
 refine cr fun K1 hK1 => ?_
 refine sx_ox' (ox_box' rfl (lv_ag _) rfl rfl) (wt_none' rfl) fun q2 => ?_
 refine sx_ox' (ox_alloc' info27 rfl rfl rfl rfl (l := [(Vi 0), (Vi 0), (Vi 0), Vn, Vn, Vn, Vn]) rfl) (wt_none' rfl) fun q4 => ?_
 refine sx_ox' (ox_alloc' info4 rfl rfl rfl rfl (l := [(Vb false)]) rfl) (wt_none' rfl) fun q5 => ?_
 refine nk hK1 ?_
 refine cr fun K2 hK2 => ?_
 refine s0 (rd_mkfunc' (us := [.pointer (some q4), .pointer (some q5)]) rfl) ?_
 refine sx_ox' (ox_defer' rfl rfl) (wt_none' rfl) fun _ => ?_
 refine nk hK2 ?_
 refine cr fun K3 hK3 => ?_
 refine s0 (rd_load_agg' (i := 2) (o := 0) (nn := 7) rfl ⟨rfl, rfl, rfl, rfl⟩ rfl agg27 (l' := [(Vi a0_0), (Vi a0_1), (Vi a0_2), Vn, Vn, Vn, Vn]) rfl) ?_
 obtain ⟨r9, hr9, hp⟩ := bind_some hp
 rcases r9 with y1 | y1 | y1 | y1 | y1 | y1 | y1 | y1
 ·dsimp only at hp
  refine sx_ox' (ox_calln' (ent_fn' Try.func30 isn30 rfl rfl) (impl_geometry_v2_sim _ _ _ hr9 : Sx.Fn Try.prog 30 [(Ag [(Vi a0_0), (Vi a0_1), (Vi a0_2), Vn, Vn, Vn, Vn])] [] (fun x : Addr => (If 72 (Vp x))) (fun x => [⟨.pointer (some x), [(Vi y1.1), (Vi y1.2.1), (Sl Kf y1.2.2.1), (Vi y1.2.2.2)], 135, none⟩])) (Hn := fun x : Addr => [⟨.pointer (some x), [(Vi y1.1), (Vi y1.2.1), (Sl Kf y1.2.2.1), (Vi y1.2.2.2)], 135, none⟩, ⟨.pointer (some q5), [(Vb false)], 4, none⟩, ⟨.pointer (some q4), [(Vi 0), (Vi 0), (Vi 0), Vn, Vn, Vn, Vn], 27, none⟩, ⟨.pointer (some q2), [(Vi a0_0), (Vi a0_1), (Vi a0_2), Vn, Vn, Vn, Vn], 27, none⟩]) (fun _ => rfl) rfl rfl) (wt_none' rfl) fun q9 => ?_
  obtain ⟨r951, hr951, hp⟩ := bind_some hp
  refine sx_panic' (pan_assert' rfl Try.underlying57 (fun _ h => nomatch h) (by decide) rtta) (wt_none' rfl) ?_
  show PanQ E (bodyPostD _ _ (PostE E _ _)) _
  refine tx_caught' rfl (impl_SetLayout_1_sim _ _ _ _ hr951 : Go.Sx.Catch Try.prog 32 ([.pointer (some q4), .pointer (some q5)].map Vl) [⟨.pointer (some q4), [(Vi 0), (Vi 0), (Vi 0), Vn, Vn, Vn, Vn], 27, none⟩, ⟨.pointer (some q5), [(Vb false)], 4, none⟩] [⟨.pointer (some q4), [(Vi r951.1), (Vi r951.1), (Vi r951.1), Vn, Vn, Vn, Vn], 27, none⟩, ⟨.pointer (some q5), [(Vb r951.2)], 4, none⟩]) Try.func32 isn32 rfl [2, 1] [0, 3] (by decide) (pick_cons rfl (pick_cons rfl pick_nil)) (pick_cons rfl (pick_cons rfl pick_nil)) ?_
  replace hp := Option.some.inj hp
  subst hp
  refine tx_pick' (L' := [(4, (Vp q4)), (5, (Vp q5))]) (H' := [⟨.pointer (some q4), [(Vi r951.1), (Vi r951.1), (Vi r951.1), Vn, Vn, Vn, Vn], 27, none⟩, ⟨.pointer (some q5), [(Vb r951.2)], 4, none⟩]) [0, 1] (sub_cons rfl (sub_cons rfl sub_nil)) (by decide) (pick_cons rfl (pick_cons rfl pick_nil)) ?_
  exact tx_ret2' Try.results11 rfl () (rv_cell_agg' (i := 0) (o := 0) (nn := 7) rfl ⟨rfl, rfl, rfl, rfl⟩ rfl agg27 rfl) (rv_cell' (i := 1) (o := 0) rfl ⟨rfl, rfl, rfl, rfl⟩ rfl flat4) rfl (List.nil_sublist _)
 ·dsimp only at hp
  refine sx_ox' (ox_calln' (ent_fn' Try.func30 isn30 rfl rfl) (impl_geometry_v2_sim _ _ _ hr9 : Sx.Fn Try.prog 30 [(Ag [(Vi a0_0), (Vi a0_1), (Vi a0_2), Vn, Vn, Vn, Vn])] [] (fun x : Addr => (If 75 (Vp x))) (fun x => [⟨.pointer (some x), [(Vi y1.1), (Vi y1.2.1), (Sl Kf y1.2.2.1), (Vi y1.2.2.2)], 138, none⟩])) (Hn := fun x : Addr => [⟨.pointer (some x), [(Vi y1.1), (Vi y1.2.1), (Sl Kf y1.2.2.1), (Vi y1.2.2.2)], 138, none⟩, ⟨.pointer (some q5), [(Vb false)], 4, none⟩, ⟨.pointer (some q4), [(Vi 0), (Vi 0), (Vi 0), Vn, Vn, Vn, Vn], 27, none⟩, ⟨.pointer (some q2), [(Vi a0_0), (Vi a0_1), (Vi a0_2), Vn, Vn, Vn, Vn], 27, none⟩]) (fun _ => rfl) rfl rfl) (wt_none' rfl) fun q9 => ?_
  obtain ⟨r951, hr951, hp⟩ := bind_some hp
  refine sx_panic' (pan_assert' rfl Try.underlying57 (fun _ h => nomatch h) (by decide) rtta) (wt_none' rfl) ?_
  show PanQ E (bodyPostD _ _ (PostE E _ _)) _
  refine tx_caught' rfl (impl_SetLayout_1_sim _ _ _ _ hr951 : Go.Sx.Catch Try.prog 32 ([.pointer (some q4), .pointer (some q5)].map Vl) [⟨.pointer (some q4), [(Vi 0), (Vi 0), (Vi 0), Vn, Vn, Vn, Vn], 27, none⟩, ⟨.pointer (some q5), [(Vb false)], 4, none⟩] [⟨.pointer (some q4), [(Vi r951.1), (Vi r951.1), (Vi r951.1), Vn, Vn, Vn, Vn], 27, none⟩, ⟨.pointer (some q5), [(Vb r951.2)], 4, none⟩]) Try.func32 isn32 rfl [2, 1] [0, 3] (by decide) (pick_cons rfl (pick_cons rfl pick_nil)) (pick_cons rfl (pick_cons rfl pick_nil)) ?_
  replace hp := Option.some.inj hp
  subst hp
  refine tx_pick' (L' := [(4, (Vp q4)), (5, (Vp q5))]) (H' := [⟨.pointer (some q4), [(Vi r951.1), (Vi r951.1), (Vi r951.1), Vn, Vn, Vn, Vn], 27, none⟩, ⟨.pointer (some q5), [(Vb r951.2)], 4, none⟩]) [0, 1] (sub_cons rfl (sub_cons rfl sub_nil)) (by decide) (pick_cons rfl (pick_cons rfl pick_nil)) ?_
  exact tx_ret2' Try.results11 rfl () (rv_cell_agg' (i := 0) (o := 0) (nn := 7) rfl ⟨rfl, rfl, rfl, rfl⟩ rfl agg27 rfl) (rv_cell' (i := 1) (o := 0) rfl ⟨rfl, rfl, rfl, rfl⟩ rfl flat4) rfl (List.nil_sublist _)
 ·dsimp only at hp
  refine sx_ox' (ox_calln' (ent_fn' Try.func30 isn30 rfl rfl) (impl_geometry_v2_sim _ _ _ hr9 : Sx.Fn Try.prog 30 [(Ag [(Vi a0_0), (Vi a0_1), (Vi a0_2), Vn, Vn, Vn, Vn])] [] (fun x : Addr => (If 69 (Vp x))) (fun x => [⟨.pointer (some x), [(Vi y1.1), (Vi y1.2.1), (Sl Kf y1.2.2.1), (Vi y1.2.2.2)], 128, none⟩])) (Hn := fun x : Addr => [⟨.pointer (some x), [(Vi y1.1), (Vi y1.2.1), (Sl Kf y1.2.2.1), (Vi y1.2.2.2)], 128, none⟩, ⟨.pointer (some q5), [(Vb false)], 4, none⟩, ⟨.pointer (some q4), [(Vi 0), (Vi 0), (Vi 0), Vn, Vn, Vn, Vn], 27, none⟩, ⟨.pointer (some q2), [(Vi a0_0), (Vi a0_1), (Vi a0_2), Vn, Vn, Vn, Vn], 27, none⟩]) (fun _ => rfl) rfl rfl) (wt_none' rfl) fun q9 => ?_
  obtain ⟨r951, hr951, hp⟩ := bind_some hp
  refine sx_panic' (pan_assert' rfl Try.underlying57 (fun _ h => nomatch h) (by decide) rtta) (wt_none' rfl) ?_
  show PanQ E (bodyPostD _ _ (PostE E _ _)) _
  refine tx_caught' rfl (impl_SetLayout_1_sim _ _ _ _ hr951 : Go.Sx.Catch Try.prog 32 ([.pointer (some q4), .pointer (some q5)].map Vl) [⟨.pointer (some q4), [(Vi 0), (Vi 0), (Vi 0), Vn, Vn, Vn, Vn], 27, none⟩, ⟨.pointer (some q5), [(Vb false)], 4, none⟩] [⟨.pointer (some q4), [(Vi r951.1), (Vi r951.1), (Vi r951.1), Vn, Vn, Vn, Vn], 27, none⟩, ⟨.pointer (some q5), [(Vb r951.2)], 4, none⟩]) Try.func32 isn32 rfl [2, 1] [0, 3] (by decide) (pick_cons rfl (pick_cons rfl pick_nil)) (pick_cons rfl (pick_cons rfl pick_nil)) ?_
  replace hp := Option.some.inj hp
  subst hp
  refine tx_pick' (L' := [(4, (Vp q4)), (5, (Vp q5))]) (H' := [⟨.pointer (some q4), [(Vi r951.1), (Vi r951.1), (Vi r951.1), Vn, Vn, Vn, Vn], 27, none⟩, ⟨.pointer (some q5), [(Vb r951.2)], 4, none⟩]) [0, 1] (sub_cons rfl (sub_cons rfl sub_nil)) (by decide) (pick_cons rfl (pick_cons rfl pick_nil)) ?_
  exact tx_ret2' Try.results11 rfl () (rv_cell_agg' (i := 0) (o := 0) (nn := 7) rfl ⟨rfl, rfl, rfl, rfl⟩ rfl agg27 rfl) (rv_cell' (i := 1) (o := 0) rfl ⟨rfl, rfl, rfl, rfl⟩ rfl flat4) rfl (List.nil_sublist _)
 ·dsimp only at hp
  refine sx_ox' (ox_calln' (ent_fn' Try.func30 isn30 rfl rfl) (impl_geometry_v2_sim _ _ _ hr9 : Sx.Fn Try.prog 30 [(Ag [(Vi a0_0), (Vi a0_1), (Vi a0_2), Vn, Vn, Vn, Vn])] [] (fun x : Addr => (If 67 (Vp x))) (fun x => [⟨.pointer (some x), [(Vi y1.1), (Vi y1.2.1), (Sl Kf y1.2.2.1), (Vi y1.2.2.2.1), (Sl (Ki .i64) y1.2.2.2.2)], 132, none⟩])) (Hn := fun x : Addr => [⟨.pointer (some x), [(Vi y1.1), (Vi y1.2.1), (Sl Kf y1.2.2.1), (Vi y1.2.2.2.1), (Sl (Ki .i64) y1.2.2.2.2)], 132, none⟩, ⟨.pointer (some q5), [(Vb false)], 4, none⟩, ⟨.pointer (some q4), [(Vi 0), (Vi 0), (Vi 0), Vn, Vn, Vn, Vn], 27, none⟩, ⟨.pointer (some q2), [(Vi a0_0), (Vi a0_1), (Vi a0_2), Vn, Vn, Vn, Vn], 27, none⟩]) (fun _ => rfl) rfl rfl) (wt_none' rfl) fun q9 => ?_
  obtain ⟨r951, hr951, hp⟩ := bind_some hp
  refine sx_panic' (pan_assert' rfl Try.underlying57 (fun _ h => nomatch h) (by decide) rtta) (wt_none' rfl) ?_
  show PanQ E (bodyPostD _ _ (PostE E _ _)) _
  refine tx_caught' rfl (impl_SetLayout_1_sim _ _ _ _ hr951 : Go.Sx.Catch Try.prog 32 ([.pointer (some q4), .pointer (some q5)].map Vl) [⟨.pointer (some q4), [(Vi 0), (Vi 0), (Vi 0), Vn, Vn, Vn, Vn], 27, none⟩, ⟨.pointer (some q5), [(Vb false)], 4, none⟩] [⟨.pointer (some q4), [(Vi r951.1), (Vi r951.1), (Vi r951.1), Vn, Vn, Vn, Vn], 27, none⟩, ⟨.pointer (some q5), [(Vb r951.2)], 4, none⟩]) Try.func32 isn32 rfl [2, 1] [0, 3] (by decide) (pick_cons rfl (pick_cons rfl pick_nil)) (pick_cons rfl (pick_cons rfl pick_nil)) ?_
  replace hp := Option.some.inj hp
  subst hp
  refine tx_pick' (L' := [(4, (Vp q4)), (5, (Vp q5))]) (H' := [⟨.pointer (some q4), [(Vi r951.1), (Vi r951.1), (Vi r951.1), Vn, Vn, Vn, Vn], 27, none⟩, ⟨.pointer (some q5), [(Vb r951.2)], 4, none⟩]) [0, 1] (sub_cons rfl (sub_cons rfl sub_nil)) (by decide) (pick_cons rfl (pick_cons rfl pick_nil)) ?_
  exact tx_ret2' Try.results11 rfl () (rv_cell_agg' (i := 0) (o := 0) (nn := 7) rfl ⟨rfl, rfl, rfl, rfl⟩ rfl agg27 rfl) (rv_cell' (i := 1) (o := 0) rfl ⟨rfl, rfl, rfl, rfl⟩ rfl flat4) rfl (List.nil_sublist _)
 ·dsimp only at hp
  refine sx_ox' (ox_calln' (ent_fn' Try.func30 isn30 rfl rfl) (impl_geometry_v2_sim _ _ _ hr9 : Sx.Fn Try.prog 30 [(Ag [(Vi a0_0), (Vi a0_1), (Vi a0_2), Vn, Vn, Vn, Vn])] [] (fun x : Addr => (If 70 (Vp x))) (fun x => [⟨.pointer (some x), [(Vi y1.1), (Vi y1.2.1), (Sl Kf y1.2.2.1), (Vi y1.2.2.2.1), (Sl (Ki .i64) y1.2.2.2.2)], 136, none⟩])) (Hn := fun x : Addr => [⟨.pointer (some x), [(Vi y1.1), (Vi y1.2.1), (Sl Kf y1.2.2.1), (Vi y1.2.2.2.1), (Sl (Ki .i64) y1.2.2.2.2)], 136, none⟩, ⟨.pointer (some q5), [(Vb false)], 4, none⟩, ⟨.pointer (some q4), [(Vi 0), (Vi 0), (Vi 0), Vn, Vn, Vn, Vn], 27, none⟩, ⟨.pointer (some q2), [(Vi a0_0), (Vi a0_1), (Vi a0_2), Vn, Vn, Vn, Vn], 27, none⟩]) (fun _ => rfl) rfl rfl) (wt_none' rfl) fun q9 => ?_
  obtain ⟨r951, hr951, hp⟩ := bind_some hp
  refine sx_panic' (pan_assert' rfl Try.underlying57 (fun _ h => nomatch h) (by decide) rtta) (wt_none' rfl) ?_
  show PanQ E (bodyPostD _ _ (PostE E _ _)) _
  refine tx_caught' rfl (impl_SetLayout_1_sim _ _ _ _ hr951 : Go.Sx.Catch Try.prog 32 ([.pointer (some q4), .pointer (some q5)].map Vl) [⟨.pointer (some q4), [(Vi 0), (Vi 0), (Vi 0), Vn, Vn, Vn, Vn], 27, none⟩, ⟨.pointer (some q5), [(Vb false)], 4, none⟩] [⟨.pointer (some q4), [(Vi r951.1), (Vi r951.1), (Vi r951.1), Vn, Vn, Vn, Vn], 27, none⟩, ⟨.pointer (some q5), [(Vb r951.2)], 4, none⟩]) Try.func32 isn32 rfl [2, 1] [0, 3] (by decide) (pick_cons rfl (pick_cons rfl pick_nil)) (pick_cons rfl (pick_cons rfl pick_nil)) ?_
  replace hp := Option.some.inj hp
  subst hp
  refine tx_pick' (L' := [(4, (Vp q4)), (5, (Vp q5))]) (H' := [⟨.pointer (some q4), [(Vi r951.1), (Vi r951.1), (Vi r951.1), Vn, Vn, Vn, Vn], 27, none⟩, ⟨.pointer (some q5), [(Vb r951.2)], 4, none⟩]) [0, 1] (sub_cons rfl (sub_cons rfl sub_nil)) (by decide) (pick_cons rfl (pick_cons rfl pick_nil)) ?_
  exact tx_ret2' Try.results11 rfl () (rv_cell_agg' (i := 0) (o := 0) (nn := 7) rfl ⟨rfl, rfl, rfl, rfl⟩ rfl agg27 rfl) (rv_cell' (i := 1) (o := 0) rfl ⟨rfl, rfl, rfl, rfl⟩ rfl flat4) rfl (List.nil_sublist _)
 ·dsimp only at hp
  refine sx_ox' (ox_calln' (ent_fn' Try.func30 isn30 rfl rfl) (impl_geometry_v2_sim _ _ _ hr9 : Sx.Fn Try.prog 30 [(Ag [(Vi a0_0), (Vi a0_1), (Vi a0_2), Vn, Vn, Vn, Vn])] [] (fun x : Addr => (If 73 (Vp x))) (fun x => [⟨.pointer (some x), [(Vi y1.1), (Vi y1.2.1), (Sl Kf y1.2.2.1), (Vi y1.2.2.2.1), (Sl (Ki .i64) y1.2.2.2.2)], 139, none⟩])) (Hn := fun x : Addr => [⟨.pointer (some x), [(Vi y1.1), (Vi y1.2.1), (Sl Kf y1.2.2.1), (Vi y1.2.2.2.1), (Sl (Ki .i64) y1.2.2.2.2)], 139, none⟩, ⟨.pointer (some q5), [(Vb false)], 4, none⟩, ⟨.pointer (some q4), [(Vi 0), (Vi 0), (Vi 0), Vn, Vn, Vn, Vn], 27, none⟩, ⟨.pointer (some q2), [(Vi a0_0), (Vi a0_1), (Vi a0_2), Vn, Vn, Vn, Vn], 27, none⟩]) (fun _ => rfl) rfl rfl) (wt_none' rfl) fun q9 => ?_
  obtain ⟨r951, hr951, hp⟩ := bind_some hp
  refine sx_panic' (pan_assert' rfl Try.underlying57 (fun _ h => nomatch h) (by decide) rtta) (wt_none' rfl) ?_
  show PanQ E (bodyPostD _ _ (PostE E _ _)) _
  refine tx_caught' rfl (impl_SetLayout_1_sim _ _ _ _ hr951 : Go.Sx.Catch Try.prog 32 ([.pointer (some q4), .pointer (some q5)].map Vl) [⟨.pointer (some q4), [(Vi 0), (Vi 0), (Vi 0), Vn, Vn, Vn, Vn], 27, none⟩, ⟨.pointer (some q5), [(Vb false)], 4, none⟩] [⟨.pointer (some q4), [(Vi r951.1), (Vi r951.1), (Vi r951.1), Vn, Vn, Vn, Vn], 27, none⟩, ⟨.pointer (some q5), [(Vb r951.2)], 4, none⟩]) Try.func32 isn32 rfl [2, 1] [0, 3] (by decide) (pick_cons rfl (pick_cons rfl pick_nil)) (pick_cons rfl (pick_cons rfl pick_nil)) ?_
  replace hp := Option.some.inj hp
  subst hp
  refine tx_pick' (L' := [(4, (Vp q4)), (5, (Vp q5))]) (H' := [⟨.pointer (some q4), [(Vi r951.1), (Vi r951.1), (Vi r951.1), Vn, Vn, Vn, Vn], 27, none⟩, ⟨.pointer (some q5), [(Vb r951.2)], 4, none⟩]) [0, 1] (sub_cons rfl (sub_cons rfl sub_nil)) (by decide) (pick_cons rfl (pick_cons rfl pick_nil)) ?_
  exact tx_ret2' Try.results11 rfl () (rv_cell_agg' (i := 0) (o := 0) (nn := 7) rfl ⟨rfl, rfl, rfl, rfl⟩ rfl agg27 rfl) (rv_cell' (i := 1) (o := 0) rfl ⟨rfl, rfl, rfl, rfl⟩ rfl flat4) rfl (List.nil_sublist _)
 ·dsimp only at hp
  refine sx_ox' (ox_calln' (ent_fn' Try.func30 isn30 rfl rfl) (impl_geometry_v2_sim _ _ _ hr9 : Sx.Fn Try.prog 30 [(Ag [(Vi a0_0), (Vi a0_1), (Vi a0_2), Vn, Vn, Vn, Vn])] [] (fun x : Addr => (If 76 (Vp x))) (fun x => [⟨.pointer (some x), [(Vi y1.1), (Vi y1.2.1), (Sl Kf y1.2.2.1), (Vi y1.2.2.2), Vn], 143, none⟩])) (Hn := fun x : Addr => [⟨.pointer (some x), [(Vi y1.1), (Vi y1.2.1), (Sl Kf y1.2.2.1), (Vi y1.2.2.2), Vn], 143, none⟩, ⟨.pointer (some q5), [(Vb false)], 4, none⟩, ⟨.pointer (some q4), [(Vi 0), (Vi 0), (Vi 0), Vn, Vn, Vn, Vn], 27, none⟩, ⟨.pointer (some q2), [(Vi a0_0), (Vi a0_1), (Vi a0_2), Vn, Vn, Vn, Vn], 27, none⟩]) (fun _ => rfl) rfl rfl) (wt_none' rfl) fun q9 => ?_
  obtain ⟨r951, hr951, hp⟩ := bind_some hp
  refine sx_panic' (pan_assert' rfl Try.underlying57 (fun _ h => nomatch h) (by decide) rtta) (wt_none' rfl) ?_
  show PanQ E (bodyPostD _ _ (PostE E _ _)) _
  refine tx_caught' rfl (impl_SetLayout_1_sim _ _ _ _ hr951 : Go.Sx.Catch Try.prog 32 ([.pointer (some q4), .pointer (some q5)].map Vl) [⟨.pointer (some q4), [(Vi 0), (Vi 0), (Vi 0), Vn, Vn, Vn, Vn], 27, none⟩, ⟨.pointer (some q5), [(Vb false)], 4, none⟩] [⟨.pointer (some q4), [(Vi r951.1), (Vi r951.1), (Vi r951.1), Vn, Vn, Vn, Vn], 27, none⟩, ⟨.pointer (some q5), [(Vb r951.2)], 4, none⟩]) Try.func32 isn32 rfl [2, 1] [0, 3] (by decide) (pick_cons rfl (pick_cons rfl pick_nil)) (pick_cons rfl (pick_cons rfl pick_nil)) ?_
  replace hp := Option.some.inj hp
  subst hp
  refine tx_pick' (L' := [(4, (Vp q4)), (5, (Vp q5))]) (H' := [⟨.pointer (some q4), [(Vi r951.1), (Vi r951.1), (Vi r951.1), Vn, Vn, Vn, Vn], 27, none⟩, ⟨.pointer (some q5), [(Vb r951.2)], 4, none⟩]) [0, 1] (sub_cons rfl (sub_cons rfl sub_nil)) (by decide) (pick_cons rfl (pick_cons rfl pick_nil)) ?_
  exact tx_ret2' Try.results11 rfl () (rv_cell_agg' (i := 0) (o := 0) (nn := 7) rfl ⟨rfl, rfl, rfl, rfl⟩ rfl agg27 rfl) (rv_cell' (i := 1) (o := 0) rfl ⟨rfl, rfl, rfl, rfl⟩ rfl flat4) rfl (List.nil_sublist _)
 dsimp only at hp
 refine sx_ox' (ox_calln' (ent_fn' Try.func30 isn30 rfl rfl) (impl_geometry_v2_sim _ _ _ hr9 : Sx.Fn Try.prog 30 [(Ag [(Vi a0_0), (Vi a0_1), (Vi a0_2), Vn, Vn, Vn, Vn])] [] (fun x : Addr => (If 57 (Vp x))) (fun x => [⟨.pointer (some x), [(Vi y1.1), Vn, (Vi y1.2)], 114, none⟩])) (Hn := fun x : Addr => [⟨.pointer (some x), [(Vi y1.1), Vn, (Vi y1.2)], 114, none⟩, ⟨.pointer (some q5), [(Vb false)], 4, none⟩, ⟨.pointer (some q4), [(Vi 0), (Vi 0), (Vi 0), Vn, Vn, Vn, Vn], 27, none⟩, ⟨.pointer (some q2), [(Vi a0_0), (Vi a0_1), (Vi a0_2), Vn, Vn, Vn, Vn], 27, none⟩]) (fun _ => rfl) rfl rfl) (wt_none' rfl) fun q9 => ?_
 refine s0 (rd_assert' rfl (F := fun v => v) as57_53_57 as_id) ?_
 refine s0 (rd_assign' rfl) ?_
 refine nk hK3 ?_
 refine cx_seq' fun K4 hK4 => ?_
 refine cr fun K5 hK5 => ?_
 refine s0 (rd_move' rfl) ?_
 refine s0 (rd_move' rfl) ?_
 obtain ⟨r13, hr13, hp⟩ := bind_some hp
 refine sx_ox' (ox_callg' (ent_fn' Try.func33 isn33 rfl rfl) (gogeom_GeometryCollection_SetLayout_sim _ _ _ hr13 : Sx.Fn Try.prog 33 [(Vp q9), (Vi a1)] [⟨.pointer (some q9), [(Vi y1.1), Vn, (Vi y1.2)], 114, none⟩] (fun x : Unit => Ve) (fun x => [⟨.pointer (some q9), [(Vi r13.1), Vn, (Vi r13.2)], 114, none⟩])) [0] [1, 2, 3] (by decide) (pick_cons rfl pick_nil) (pick_cons rfl (pick_cons rfl (pick_cons rfl pick_nil))) (Hn := fun x : Unit => [⟨.pointer (some q9), [(Vi r13.1), Vn, (Vi r13.2)], 114, none⟩, ⟨.pointer (some q5), [(Vb false)], 4, none⟩, ⟨.pointer (some q4), [(Vi 0), (Vi 0), (Vi 0), Vn, Vn, Vn, Vn], 27, none⟩, ⟨.pointer (some q2), [(Vi a0_0), (Vi a0_1), (Vi a0_2), Vn, Vn, Vn, Vn], 27, none⟩]) (fun _ => rfl) rfl rfl) (wt_none' rfl) fun ⟨⟩ => ?_
 refine s0 (rd_binf' rfl rfl (bf_vl (fun _ => by kernel_rfl) nil_neq59_nilif)) ?_
 refine nk hK5 ?_
 refine cx_cond_f' rfl rfl ?_
 refine cx_skip' ?_
 show TX E K4 _
 refine tx_k' hK4 ?_
 refine cr fun K6 hK6 => ?_
 refine s0 (rd_move' rfl) ?_
 refine s0 (rd_iface' rfl ⟨_, Try.underlying57, fun _ h => (nomatch h)⟩) ?_
 obtain ⟨r18, hr18, hp⟩ := bind_some hp
 refine sx_ox' (ox_callg' (ent_fn' Try.func34 isn34 rfl rfl) (impl_plain_v3_sim _ _ hr18 : Sx.Fn Try.prog 34 [(If 57 (Vp q9))] [⟨.pointer (some q9), [(Vi r13.1), Vn, (Vi r13.2)], 114, none⟩] (fun x : Unit => (Ag [(Vi r18.2.2.1), (Vi r18.2.2.2.1), (Vi r18.2.2.2.2), Vn, Vn, Vn, Vn])) (fun x => [⟨.pointer (some q9), [(Vi r18.1), Vn, (Vi r18.2.1)], 114, none⟩])) [0] [1, 2, 3] (by decide) (pick_cons rfl pick_nil) (pick_cons rfl (pick_cons rfl (pick_cons rfl pick_nil))) (Hn := fun x : Unit => [⟨.pointer (some q9), [(Vi r18.1), Vn, (Vi r18.2.1)], 114, none⟩, ⟨.pointer (some q5), [(Vb false)], 4, none⟩, ⟨.pointer (some q4), [(Vi 0), (Vi 0), (Vi 0), Vn, Vn, Vn, Vn], 27, none⟩, ⟨.pointer (some q2), [(Vi a0_0), (Vi a0_1), (Vi a0_2), Vn, Vn, Vn, Vn], 27, none⟩]) (fun _ => rfl) rfl rfl) (wt_none' rfl) fun ⟨⟩ => ?_
 refine sx_ox' (ox_store' (i := 2) (o := 0) rfl rfl (lv_ag _) ⟨rfl, rfl, rfl, rfl⟩ rfl info27 rfl (H' := [⟨.pointer (some q9), [(Vi r18.1), Vn, (Vi r18.2.1)], 114, none⟩, ⟨.pointer (some q5), [(Vb false)], 4, none⟩, ⟨.pointer (some q4), [(Vi r18.2.2.1), (Vi r18.2.2.2.1), (Vi r18.2.2.2.2), Vn, Vn, Vn, Vn], 27, none⟩, ⟨.pointer (some q2), [(Vi a0_0), (Vi a0_1), (Vi a0_2), Vn, Vn, Vn, Vn], 27, none⟩]) rfl) (wt_none' rfl) fun _ => ?_
 refine sx_ox' (ox_store' (i := 1) (o := 0) rfl rfl (lv_vl rfl rfl) ⟨rfl, rfl, rfl, rfl⟩ rfl info4 rfl (H' := [⟨.pointer (some q9), [(Vi r18.1), Vn, (Vi r18.2.1)], 114, none⟩, ⟨.pointer (some q5), [(Vb true)], 4, none⟩, ⟨.pointer (some q4), [(Vi r18.2.2.1), (Vi r18.2.2.2.1), (Vi r18.2.2.2.2), Vn, Vn, Vn, Vn], 27, none⟩, ⟨.pointer (some q2), [(Vi a0_0), (Vi a0_1), (Vi a0_2), Vn, Vn, Vn, Vn], 27, none⟩]) rfl) (wt_none' rfl) fun _ => ?_
 refine nk hK6 ?_
 refine cx_retc' ?_
 replace hp := Option.some.inj hp
 subst hp
 refine tx_leave' (.inl rfl) rfl idle32 rfl Try.func32 isn32 rfl ?_
 refine tx_pick' (L' := [(4, (Vp q4)), (5, (Vp q5))]) (H' := [⟨.pointer (some q4), [(Vi r18.2.2.1), (Vi r18.2.2.2.1), (Vi r18.2.2.2.2), Vn, Vn, Vn, Vn], 27, none⟩, ⟨.pointer (some q5), [(Vb true)], 4, none⟩]) [2, 1] (sub_cons rfl (sub_cons rfl sub_nil)) (by decide) (pick_cons rfl (pick_cons rfl pick_nil)) ?_
 exact tx_ret2' Try.results11 rfl () (rv_cell_agg' (i := 0) (o := 0) (nn := 7) rfl ⟨rfl, rfl, rfl, rfl⟩ rfl agg27 rfl) (rv_cell' (i := 1) (o := 0) rfl ⟨rfl, rfl, rfl, rfl⟩ rfl flat4) rfl (List.nil_sublist _)

def laws_gKidsOf_l1s (a0_6 : List T27) (a1 : Int) (k : Nat) (rec1 : Int → Option (Unit ⊕ Unit)) (x1 : Int) : Option (Unit ⊕ Unit) :=
 br (decide (x1 < (a0_6.length : Int)))
  ((idx a0_6 x1) >>= fun r12 =>
  (spec_LayoutOf k r12.f0 r12.f1 r12.f2 r12.f3 r12.f4 r12.f5 r12.f6) >>= fun r15 =>
  br (!decide (r15 = a1))
   (some (.inl ()))
   (rec1 (iadd .i64 x1 1)))
  (some (.inr ()))
def laws_gKidsOf_l1 (a0_6 : List T27) (a1 : Int) : Nat → Int → Option (Unit ⊕ Unit)
 | 0, _ => none
 | k + 1, v => laws_gKidsOf_l1s a0_6 a1 k (laws_gKidsOf_l1 a0_6 a1 k) v
def laws_gKidsOf (k : Nat) (a0_0 : Int) (a0_1 : Int) (a0_2 : Int) (a0_3 : List Nat) (a0_4 : List Int) (a0_5 : List (List Int)) (a0_6 : List T27) (a1 : Int) : Option (Bool) :=
 (laws_gKidsOf_l1 a0_6 a1 k 0) >>= fun y1 => match y1 with
  | (.inl v2) =>
   (some false)
  | (.inr v3) =>
   (some true)

theorem laws_gKidsOf_sim {k : Nat}  (a0_0 : Int) (a0_1 : Int) (a0_2 : Int) (a0_3 : List Nat) (a0_4 : List Int) (a0_5 : List (List Int)) (a0_6 : List T27) (a1 : Int) {out : Bool} (hp : laws_gKidsOf k a0_0 a0_1 a0_2 a0_3 a0_4 a0_5 a0_6 a1 = some out) : Sx.Fn Try.prog 12 [(Ag [(Vi a0_0), (Vi a0_1), (Vi a0_2), (Sl Kf a0_3), (Sl (Ki .i64) a0_4), (Sl (Kl (Ki .i64)) a0_5), (Sl KT27 a0_6)]), (Vi a1)] [] (fun w : Unit => (Vb out)) (fun w => []) := by
 unfold laws_gKidsOf at hp
 refine fn_of Try.func12 rfl Try.ntmps12 rfl fun E hM => ?_
 refine cr fun K1 hK1 => ?_
 refine sx_ox' (ox_box' rfl (lv_ag _) rfl rfl) (wt_none' rfl) fun q2 => ?_
 refine s0 (rd_assign' rfl) ?_
 refine nk hK1 ?_
 refine cx_seq' fun K2 hK2 => ?_
 refine cr fun K3 hK3 => ?_
 refine s0 (rd_field' (off := 6) rfl Try.underlying27 rfl info25 rfl) ?_
 refine s0 (rd_load' (i := 0) (o := 6) rfl ⟨rfl, rfl, rfl, rfl⟩ rfl flat25) ?_
 refine s0 (rd_len' rfl Try.underlying25) ?_
 refine s0 (rd_move' rfl) ?_
 refine nk hK3 ?_
 refine cx_block' ?_
 obtain ⟨y1, hy1, hp⟩ := bind_some hp
 refine cx_loopg' (F := laws_gKidsOf_l1 a0_6 a1) (G := fun k R v => laws_gKidsOf_l1s a0_6 a1 k R v) (x := 0) (gh := ()) (fun (v1 : Int) (w1 : Unit) => (⟨19, [], [(1, (Vi a1)), (8, (Sl KT27 a0_6)), (9, (Vi (a0_6.length : Int))), (10, (Vi v1))], []⟩ : St)) (fun (y : Unit ⊕ Unit) => match y with | (.inl v2) => Zg E Exit.ret (fun (w2 : Unit) => (⟨19, [], [(4, (Vb false))], []⟩ : St)) | (.inr v3) => Zg E (Exit.exit 0) (fun (w3 : Unit) => (⟨19, [], [], []⟩ : St))) (fun _ => rfl) (fun _ _ => rfl) ?_ hy1 (tx_to' rfl [] (sub_cons rfl (sub_cons rfl (sub_cons rfl (sub_cons rfl sub_nil)))) (by decide) pick_nil) ?_
 ·clear hp hy1
  clear y1
  intro k rec1 KY1 ih1
  rintro x1 ⟨⟩ y1 hp
  replace hp : laws_gKidsOf_l1s a0_6 a1 k rec1 x1 = some y1 := hp
  unfold laws_gKidsOf_l1s at hp
  refine cr fun K10 hK10 => ?_
  refine s0 (rd_bin' rfl rfl eg_int ru_lss) ?_
  refine nk hK10 ?_
  refine cx_seq' fun K11 hK11 => ?_
  refine cx_cond' rfl (fun h4 => ?_) (fun h4 => ?_)
  ·replace hp := (br_t h4).symm.trans hp
   refine cx_skip' ?_
   show TX E K11 _
   refine tx_k' hK11 ?_
   refine cx_seq' fun K12 hK12 => ?_
   refine cx_block' ?_
   refine cr fun K13 hK13 => ?_
   obtain ⟨r12, hr12, hp⟩ := bind_some hp
   refine s0 (rd_eq' (congrArg Pt (KT27_enc r12)) (rd_at' (K := KT27) rfl rfl hr12 Try.underlying25 info27)) ?_
   refine s0 (rd_load_pt_agg' (nn := 7) rfl rfl agg27 (l' := [(Vi r12.f0), (Vi r12.f1), (Vi r12.f2), (Sl Kf r12.f3), (Sl (Ki .i64) r12.f4), (Sl (Kl (Ki .i64)) r12.f5), (Sl KT27 r12.f6)]) rfl) ?_
   refine sx_ox' (ox_alloc' info27 rfl rfl rfl rfl (l := [(Vi 0), (Vi 0), (Vi 0), Vn, Vn, Vn, Vn]) rfl) (wt_none' rfl) fun q6 => ?_
   refine sx_ox' (ox_store' (i := 0) (o := 0) rfl rfl (lv_ag _) ⟨rfl, rfl, rfl, rfl⟩ rfl info27 rfl (H' := [⟨.pointer (some q6), [(Vi r12.f0), (Vi r12.f1), (Vi r12.f2), (Sl Kf r12.f3), (Sl (Ki .i64) r12.f4), (Sl (Kl (Ki .i64)) r12.f5), (Sl KT27 r12.f6)], 27, none⟩]) rfl) (wt_none' rfl) fun _ => ?_
   refine nk hK13 ?_
   refine cr fun K14 hK14 => ?_
   refine s0 (rd_load_agg' (i := 0) (o := 0) (nn := 7) rfl ⟨rfl, rfl, rfl, rfl⟩ rfl agg27 (l' := [(Vi r12.f0), (Vi r12.f1), (Vi r12.f2), (Sl Kf r12.f3), (Sl (Ki .i64) r12.f4), (Sl (Kl (Ki .i64)) r12.f5), (Sl KT27 r12.f6)]) rfl) ?_
   obtain ⟨r15, hr15, hp⟩ := bind_some hp
   refine sx_ox' (ox_calln' (ent_fn' Try.func16 isn16 rfl rfl) (spec_LayoutOf_sim _ _ _ _ _ _ _ hr15 : Sx.Fn Try.prog 16 [(Ag [(Vi r12.f0), (Vi r12.f1), (Vi r12.f2), (Sl Kf r12.f3), (Sl (Ki .i64) r12.f4), (Sl (Kl (Ki .i64)) r12.f5), (Sl KT27 r12.f6)])] [] (fun x : Unit => (Vi r15)) (fun x => [])) (Hn := fun x : Unit => [⟨.pointer (some q6), [(Vi r12.f0), (Vi r12.f1), (Vi r12.f2), (Sl Kf r12.f3), (Sl (Ki .i64) r12.f4), (Sl (Kl (Ki .i64)) r12.f5), (Sl KT27 r12.f6)], 27, none⟩]) (fun _ => rfl) rfl rfl) (wt_none' rfl) fun ⟨⟩ => ?_
   refine s0 (rd_move' rfl) ?_
   refine s0 (rd_bin' rfl rfl eg_int ru_neq) ?_
   refine nk hK14 ?_
   refine cx_cond' rfl (fun h5 => ?_) (fun h5 => ?_)
   ·replace hp := (br_t h5).symm.trans hp
    refine cr fun K15 hK15 => ?_
    refine s0 (rd_assign' rfl) ?_
    refine nk hK15 ?_
    refine cx_retc' ?_
    replace hp := Option.some.inj hp
    subst hp
    show TX E (Zg E Exit.ret _ Exit.ret) _
    exact tx_zend' () rfl [] (sub_cons rfl sub_nil) (by decide) pick_nil
   replace hp := (br_f h5).symm.trans hp
   refine cx_skip' ?_
   show TX E K12 _
   refine tx_k' hK12 ?_
   refine cx_region' ?_
   refine s0 (rd_bin' rfl rfl eg_int ru_add) ?_
   refine s0 (rd_move' rfl) ?_
   refine sx_nil' ?_
   show TX E (KY1 _) _
   exact tx_pick' [] (sub_cons rfl (sub_cons rfl (sub_cons rfl (sub_cons rfl sub_nil)))) (by decide) pick_nil (ih1 (iadd .i64 x1 1) () _ hp)
  replace hp := (br_f h4).symm.trans hp
  refine cx_exit' ?_
  replace hp := Option.some.inj hp
  subst hp
  show TX E (Zg E (Exit.exit 0) _ (Exit.exit 0)) _
  exact tx_zend' () rfl [] sub_nil (by decide) pick_nil
 rcases y1 with v2 | v3
 ·dsimp only at hp
  refine zg_out fun w2 => ?_
  replace hp := Option.some.inj hp
  subst hp
  refine tx_pick' (L' := [(4, (Vb false))]) (H' := []) [] (sub_cons rfl sub_nil) (by decide) pick_nil ?_
  exact tx_ret1' Try.results12 rfl () (rv_tmp' rfl) (List.Sublist.refl _)
 dsimp only at hp
 refine zg_out fun w3 => ?_
 show TX E K2 _
 refine tx_k' hK2 ?_
 refine cr fun K16 hK16 => ?_
 refine s0 (rd_assign' rfl) ?_
 refine nk hK16 ?_
 refine cx_retc' ?_
 replace hp := Option.some.inj hp
 subst hp
 refine tx_pick' (L' := [(4, (Vb true))]) (H' := []) [] (sub_cons rfl sub_nil) (by decide) pick_nil ?_
 exact tx_ret1' Try.results12 rfl () (rv_tmp' rfl) (List.Sublist.refl _)

def spec_SameFloats (k : Nat) (a1 : List Nat) : Option (Bool) :=
 br (!decide (((0 : Nat) : Int) = (a1.length : Int)))
  (some false)
  (some true)

theorem spec_SameFloats_sim {k : Nat}  (a1 : List Nat) {out : Bool} (hp : spec_SameFloats k a1 = some out) : Sx.Fn Try.prog 35 [Vn, (Sl Kf a1)] [] (fun w : Unit => (Vb out)) (fun w => []) := by
 unfold spec_SameFloats at hp
 refine fn_of Try.func35 rfl Try.ntmps35 rfl fun E hM => ?_
 refine cr fun K1 hK1 => ?_
 refine s0 (rd_assign' rfl) ?_
 refine nk hK1 ?_
 refine cx_seq' fun K2 hK2 => ?_
 refine cr fun K3 hK3 => ?_
 refine s0 (rd_move' rfl) ?_
 refine s0 (rd_lenv' rfl Try.underlying22) ?_
 refine s0 (rd_move' rfl) ?_
 refine s0 (rd_len' rfl Try.underlying22) ?_
 refine s0 (rd_bin' rfl rfl eg_int ru_neq) ?_
 refine nk hK3 ?_
 refine cx_cond' rfl (fun h1 => ?_) (fun h1 => ?_)
 ·replace hp := (br_t h1).symm.trans hp
  refine cr fun K4 hK4 => ?_
  refine s0 (rd_assign' rfl) ?_
  refine nk hK4 ?_
  refine cx_retc' ?_
  replace hp := Option.some.inj hp
  subst hp
  refine tx_pick' (L' := [(4, (Vb false))]) (H' := []) [] (sub_cons rfl sub_nil) (by decide) pick_nil ?_
  exact tx_ret1' Try.results35 rfl () (rv_tmp' rfl) (List.Sublist.refl _)
 replace hp := (br_f h1).symm.trans hp
 refine cx_skip' ?_
 show TX E K2 _
 refine tx_k' hK2 ?_
 refine cx_seq' fun K5 hK5 => ?_
 refine cr fun K6 hK6 => ?_
 refine s0 (rd_move' rfl) ?_
 refine s0 (rd_lenv' rfl Try.underlying22) ?_
 refine s0 (rd_move' rfl) ?_
 refine nk hK6 ?_
 refine cx_block' ?_
 refine tx_loop' ?_
 refine tx_round' ?_
 refine cr fun K7 hK7 => ?_
 refine s0 (rd_bin' rfl rfl eg_int ru_lss) ?_
 refine nk hK7 ?_
 refine cx_seq' fun K8 hK8 => ?_
 refine cx_cond_f' rfl rfl ?_
 refine cx_exit' ?_
 show TX E K5 _
 refine tx_k' hK5 ?_
 refine cr fun K9 hK9 => ?_
 refine s0 (rd_assign' rfl) ?_
 refine nk hK9 ?_
 refine cx_retc' ?_
 replace hp := Option.some.inj hp
 subst hp
 refine tx_pick' (L' := [(4, (Vb true))]) (H' := []) [] (sub_cons rfl sub_nil) (by decide) pick_nil ?_
 exact tx_ret1' Try.results35 rfl () (rv_tmp' rfl) (List.Sublist.refl _)

def spec_sameInts (k : Nat) (a1 : List Int) : Option (Bool) :=
 br (!decide (((0 : Nat) : Int) = (a1.length : Int)))
  (some false)
  (some true)

theorem spec_sameInts_sim {k : Nat}  (a1 : List Int) {out : Bool} (hp : spec_sameInts k a1 = some out) : Sx.Fn Try.prog 36 [Vn, (Sl (Ki .i64) a1)] [] (fun w : Unit => (Vb out)) (fun w => []) := by
 unfold spec_sameInts at hp
 refine fn_of Try.func36 rfl Try.ntmps36 rfl fun E hM => ?_
 refine cr fun K1 hK1 => ?_
 refine s0 (rd_assign' rfl) ?_
 refine nk hK1 ?_
 refine cx_seq' fun K2 hK2 => ?_
 refine cr fun K3 hK3 => ?_
 refine s0 (rd_move' rfl) ?_
 refine s0 (rd_lenv' rfl Try.underlying23) ?_
 refine s0 (rd_move' rfl) ?_
 refine s0 (rd_len' rfl Try.underlying23) ?_
 refine s0 (rd_bin' rfl rfl eg_int ru_neq) ?_
 refine nk hK3 ?_
 refine cx_cond' rfl (fun h1 => ?_) (fun h1 => ?_)
 ·replace hp := (br_t h1).symm.trans hp
  refine cr fun K4 hK4 => ?_
  refine s0 (rd_assign' rfl) ?_
  refine nk hK4 ?_
  refine cx_retc' ?_
  replace hp := Option.some.inj hp
  subst hp
  refine tx_pick' (L' := [(4, (Vb false))]) (H' := []) [] (sub_cons rfl sub_nil) (by decide) pick_nil ?_
  exact tx_ret1' Try.results36 rfl () (rv_tmp' rfl) (List.Sublist.refl _)
 replace hp := (br_f h1).symm.trans hp
 refine cx_skip' ?_
 show TX E K2 _
 refine tx_k' hK2 ?_
 refine cx_seq' fun K5 hK5 => ?_
 refine cr fun K6 hK6 => ?_
 refine s0 (rd_move' rfl) ?_
 refine s0 (rd_lenv' rfl Try.underlying23) ?_
 refine s0 (rd_move' rfl) ?_
 refine nk hK6 ?_
 refine cx_block' ?_
 refine tx_loop' ?_
 refine tx_round' ?_
 refine cr fun K7 hK7 => ?_
 refine s0 (rd_bin' rfl rfl eg_int ru_lss) ?_
 refine nk hK7 ?_
 refine cx_seq' fun K8 hK8 => ?_
 refine cx_cond_f' rfl rfl ?_
 refine cx_exit' ?_
 show TX E K5 _
 refine tx_k' hK5 ?_
 refine cr fun K9 hK9 => ?_
 refine s0 (rd_assign' rfl) ?_
 refine nk hK9 ?_
 refine cx_retc' ?_
 replace hp := Option.some.inj hp
 subst hp
 refine tx_pick' (L' := [(4, (Vb true))]) (H' := []) [] (sub_cons rfl sub_nil) (by decide) pick_nil ?_
 exact tx_ret1' Try.results36 rfl () (rv_tmp' rfl) (List.Sublist.refl _)

def spec_SameFloats_v2_l1s (a0 : List Nat) (a1 : List Nat) (k : Nat) (rec1 : Int → Option (Unit ⊕ Unit)) (x1 : Int) : Option (Unit ⊕ Unit) :=
 br (decide (x1 < (a0.length : Int)))
  ((idx a0 x1) >>= fun r17 =>
  (idx a1 x1) >>= fun r23 =>
  br (!decide ((fbits r17) = (fbits r23)))
   (some (.inl ()))
   (rec1 (iadd .i64 x1 1)))
  (some (.inr ()))
def spec_SameFloats_v2_l1 (a0 : List Nat) (a1 : List Nat) : Nat → Int → Option (Unit ⊕ Unit)
 | 0, _ => none
 | k + 1, v => spec_SameFloats_v2_l1s a0 a1 k (spec_SameFloats_v2_l1 a0 a1 k) v
def spec_SameFloats_v2 (k : Nat) (a0 : List Nat) (a1 : List Nat) : Option (Bool) :=
 br (!decide ((a0.length : Int) = (a1.length : Int)))
  (some false)
  ((spec_SameFloats_v2_l1 a0 a1 k 0) >>= fun y1 => match y1 with
   | (.inl v2) =>
    (some false)
   | (.inr v3) =>
    (some true))

theorem spec_SameFloats_v2_sim {k : Nat}  (a0 : List Nat) (a1 : List Nat) {out : Bool} (hp : spec_SameFloats_v2 k a0 a1 = some out) : Sx.Fn Try.prog 35 [(Sl Kf a0), (Sl Kf a1)] [] (fun w : Unit => (Vb out)) (fun w => []) := by
 unfold spec_SameFloats_v2 at hp
 refine fn_of Try.func35 rfl Try.ntmps35 rfl fun E hM => ?_
 refine cr fun K1 hK1 => ?_
 refine s0 (rd_assign' rfl) ?_
 refine nk hK1 ?_
 refine cx_seq' fun K2 hK2 => ?_
 refine cr fun K3 hK3 => ?_
 refine s0 (rd_move' rfl) ?_
 refine s0 (rd_len' rfl Try.underlying22) ?_
 refine s0 (rd_move' rfl) ?_
 refine s0 (rd_len' rfl Try.underlying22) ?_
 refine s0 (rd_bin' rfl rfl eg_int ru_neq) ?_
 refine nk hK3 ?_
 refine cx_cond' rfl (fun h1 => ?_) (fun h1 => ?_)
 ·replace hp := (br_t h1).symm.trans hp
  refine cr fun K4 hK4 => ?_
  refine s0 (rd_assign' rfl) ?_
  refine nk hK4 ?_
  refine cx_retc' ?_
  replace hp := Option.some.inj hp
  subst hp
  refine tx_pick' (L' := [(4, (Vb false))]) (H' := []) [] (sub_cons rfl sub_nil) (by decide) pick_nil ?_
  exact tx_ret1' Try.results35 rfl () (rv_tmp' rfl) (List.Sublist.refl _)
 replace hp := (br_f h1).symm.trans hp
 refine cx_skip' ?_
 show TX E K2 _
 refine tx_k' hK2 ?_
 refine cx_seq' fun K5 hK5 => ?_
 refine cr fun K6 hK6 => ?_
 refine s0 (rd_move' rfl) ?_
 refine s0 (rd_len' rfl Try.underlying22) ?_
 refine s0 (rd_move' rfl) ?_
 refine nk hK6 ?_
 refine cx_block' ?_
 obtain ⟨y1, hy1, hp⟩ := bind_some hp
 refine cx_loopg' (F := spec_SameFloats_v2_l1 a0 a1) (G := fun k R v => spec_SameFloats_v2_l1s a0 a1 k R v) (x := 0) (gh := ()) (fun (v1 : Int) (w1 : Unit) => (⟨28, [], [(1, (Sl Kf a1)), (12, (Sl Kf a0)), (13, (Vi (a0.length : Int))), (14, (Vi v1))], []⟩ : St)) (fun (y : Unit ⊕ Unit) => match y with | (.inl v2) => Zg E Exit.ret (fun (w2 : Unit) => (⟨28, [], [(4, (Vb false))], []⟩ : St)) | (.inr v3) => Zg E (Exit.exit 0) (fun (w3 : Unit) => (⟨28, [], [], []⟩ : St))) (fun _ => rfl) (fun _ _ => rfl) ?_ hy1 (tx_to' rfl [] (sub_cons rfl (sub_cons rfl (sub_cons rfl (sub_cons rfl sub_nil)))) (by decide) pick_nil) ?_
 ·clear hp hy1
  clear y1
  intro k rec1 KY1 ih1
  rintro x1 ⟨⟩ y1 hp
  replace hp : spec_SameFloats_v2_l1s a0 a1 k rec1 x1 = some y1 := hp
  unfold spec_SameFloats_v2_l1s at hp
  refine cr fun K13 hK13 => ?_
  refine s0 (rd_bin' rfl rfl eg_int ru_lss) ?_
  refine nk hK13 ?_
  refine cx_seq' fun K14 hK14 => ?_
  refine cx_cond' rfl (fun h5 => ?_) (fun h5 => ?_)
  ·replace hp := (br_t h5).symm.trans hp
   refine cx_skip' ?_
   show TX E K14 _
   refine tx_k' hK14 ?_
   refine cx_seq' fun K15 hK15 => ?_
   refine cx_block' ?_
   refine cr fun K16 hK16 => ?_
   refine s0 (rd_move' rfl) ?_
   obtain ⟨r17, hr17, hp⟩ := bind_some hp
   refine s0 (rd_at' (K := Kf) rfl rfl hr17 Try.underlying22 info32) ?_
   refine s0 (rd_load_pt' rfl rfl flat32) ?_
   refine s0 (rd_assign' rfl) ?_
   refine s0 (rd_assign' rfl) ?_
   refine nk hK16 ?_
   refine cx_seq' fun K17 hK17 => ?_
   refine cx_draw' mixed (by kernel_rfl) ?_
   refine qx_rd' (rd_move' rfl) rfl rfl (wt_none' rfl) ?_
   refine qx_rd' (rd_ext' (us := [.float .f64 r17]) rfl (ext82 ex_bits)) rfl rfl (wt_none' rfl) ?_
   refine qx_rd' (rd_move' rfl) rfl rfl (wt_none' rfl) ?_
   refine qx_rd' (rd_move' rfl) rfl rfl (wt_none' rfl) ?_
   obtain ⟨r23, hr23, hp⟩ := bind_some hp
   refine qx_rd' (rd_at' (K := Kf) rfl rfl hr23 Try.underlying22 info32) rfl rfl (wt_none' rfl) ?_
   refine qx_rd' (rd_load_pt' rfl rfl flat32) rfl rfl (wt_none' rfl) ?_
   refine qx_rd' (rd_ext' (us := [.float .f64 r23]) rfl (ext82 ex_bits)) rfl rfl (wt_none' rfl) ?_
   refine qx_rd' (rd_bin' rfl rfl eg_int ru_neq) rfl rfl (wt_none' rfl) ?_
   refine qx_nil' ?_
   show TX E K17 _
   refine tx_k' hK17 ?_
   refine cx_cond' rfl (fun h6 => ?_) (fun h6 => ?_)
   ·replace hp := (br_t h6).symm.trans hp
    refine cr fun K18 hK18 => ?_
    refine s0 (rd_assign' rfl) ?_
    refine nk hK18 ?_
    refine cx_retc' ?_
    replace hp := Option.some.inj hp
    subst hp
    show TX E (Zg E Exit.ret _ Exit.ret) _
    exact tx_zend' () rfl [] (sub_cons rfl sub_nil) (by decide) pick_nil
   replace hp := (br_f h6).symm.trans hp
   refine cx_skip' ?_
   show TX E K15 _
   refine tx_k' hK15 ?_
   refine cx_region' ?_
   refine s0 (rd_bin' rfl rfl eg_int ru_add) ?_
   refine s0 (rd_move' rfl) ?_
   refine sx_nil' ?_
   show TX E (KY1 _) _
   exact tx_pick' [] (sub_cons rfl (sub_cons rfl (sub_cons rfl (sub_cons rfl sub_nil)))) (by decide) pick_nil (ih1 (iadd .i64 x1 1) () _ hp)
  replace hp := (br_f h5).symm.trans hp
  refine cx_exit' ?_
  replace hp := Option.some.inj hp
  subst hp
  show TX E (Zg E (Exit.exit 0) _ (Exit.exit 0)) _
  exact tx_zend' () rfl [] sub_nil (by decide) pick_nil
 rcases y1 with v2 | v3
 ·dsimp only at hp
  refine zg_out fun w2 => ?_
  replace hp := Option.some.inj hp
  subst hp
  refine tx_pick' (L' := [(4, (Vb false))]) (H' := []) [] (sub_cons rfl sub_nil) (by decide) pick_nil ?_
  exact tx_ret1' Try.results35 rfl () (rv_tmp' rfl) (List.Sublist.refl _)
 dsimp only at hp
 refine zg_out fun w3 => ?_
 show TX E K5 _
 refine tx_k' hK5 ?_
 refine cr fun K19 hK19 => ?_
 refine s0 (rd_assign' rfl) ?_
 refine nk hK19 ?_
 refine cx_retc' ?_
 replace hp := Option.some.inj hp
 subst hp
 refine tx_pick' (L' := [(4, (Vb true))]) (H' := []) [] (sub_cons rfl sub_nil) (by decide) pick_nil ?_
 exact tx_ret1' Try.results35 rfl () (rv_tmp' rfl) (List.Sublist.refl _)

def spec_sameInts_v2_l1s (a0 : List Int) (a1 : List Int) (k : Nat) (rec1 : Int → Option (Unit ⊕ Unit)) (x1 : Int) : Option (Unit ⊕ Unit) :=
 br (decide (x1 < (a0.length : Int)))
  ((idx a0 x1) >>= fun r17 =>
  (idx a1 x1) >>= fun r22 =>
  br (!decide (r17 = r22))
   (some (.inl ()))
   (rec1 (iadd .i64 x1 1)))
  (some (.inr ()))
def spec_sameInts_v2_l1 (a0 : List Int) (a1 : List Int) : Nat → Int → Option (Unit ⊕ Unit)
 | 0, _ => none
 | k + 1, v => spec_sameInts_v2_l1s a0 a1 k (spec_sameInts_v2_l1 a0 a1 k) v
def spec_sameInts_v2 (k : Nat) (a0 : List Int) (a1 : List Int) : Option (Bool) :=
 br (!decide ((a0.length : Int) = (a1.length : Int)))
  (some false)
  ((spec_sameInts_v2_l1 a0 a1 k 0) >>= fun y1 => match y1 with
   | (.inl v2) =>
    (some false)
   | (.inr v3) =>
    (some true))

theorem spec_sameInts_v2_sim {k : Nat}  (a0 : List Int) (a1 : List Int) {out : Bool} (hp : spec_sameInts_v2 k a0 a1 = some out) : Sx.Fn Try.prog 36 [(Sl (Ki .i64) a0), (Sl (Ki .i64) a1)] [] (fun w : Unit => (Vb out)) (fun w => []) := by
 unfold spec_sameInts_v2 at hp
 refine fn_of Try.func36 rfl Try.ntmps36 rfl fun E hM => ?_
 refine cr fun K1 hK1 => ?_
 refine s0 (rd_assign' rfl) ?_
 refine nk hK1 ?_
 refine cx_seq' fun K2 hK2 => ?_
 refine cr fun K3 hK3 => ?_
 refine s0 (rd_move' rfl) ?_
 refine s0 (rd_len' rfl Try.underlying23) ?_
 refine s0 (rd_move' rfl) ?_
 refine s0 (rd_len' rfl Try.underlying23) ?_
 refine s0 (rd_bin' rfl rfl eg_int ru_neq) ?_
 refine nk hK3 ?_
 refine cx_cond' rfl (fun h1 => ?_) (fun h1 => ?_)
 ·replace hp := (br_t h1).symm.trans hp
  refine cr fun K4 hK4 => ?_
  refine s0 (rd_assign' rfl) ?_
  refine nk hK4 ?_
  refine cx_retc' ?_
  replace hp := Option.some.inj hp
  subst hp
  refine tx_pick' (L' := [(4, (Vb false))]) (H' := []) [] (sub_cons rfl sub_nil) (by decide) pick_nil ?_
  exact tx_ret1' Try.results36 rfl () (rv_tmp' rfl) (List.Sublist.refl _)
 replace hp := (br_f h1).symm.trans hp
 refine cx_skip' ?_
 show TX E K2 _
 refine tx_k' hK2 ?_
 refine cx_seq' fun K5 hK5 => ?_
 refine cr fun K6 hK6 => ?_
 refine s0 (rd_move' rfl) ?_
 refine s0 (rd_len' rfl Try.underlying23) ?_
 refine s0 (rd_move' rfl) ?_
 refine nk hK6 ?_
 refine cx_block' ?_
 obtain ⟨y1, hy1, hp⟩ := bind_some hp
 refine cx_loopg' (F := spec_sameInts_v2_l1 a0 a1) (G := fun k R v => spec_sameInts_v2_l1s a0 a1 k R v) (x := 0) (gh := ()) (fun (v1 : Int) (w1 : Unit) => (⟨26, [], [(1, (Sl (Ki .i64) a1)), (12, (Sl (Ki .i64) a0)), (13, (Vi (a0.length : Int))), (14, (Vi v1))], []⟩ : St)) (fun (y : Unit ⊕ Unit) => match y with | (.inl v2) => Zg E Exit.ret (fun (w2 : Unit) => (⟨26, [], [(4, (Vb false))], []⟩ : St)) | (.inr v3) => Zg E (Exit.exit 0) (fun (w3 : Unit) => (⟨26, [], [], []⟩ : St))) (fun _ => rfl) (fun _ _ => rfl) ?_ hy1 (tx_to' rfl [] (sub_cons rfl (sub_cons rfl (sub_cons rfl (sub_cons rfl sub_nil)))) (by decide) pick_nil) ?_
 ·clear hp hy1
  clear y1
  intro k rec1 KY1 ih1
  rintro x1 ⟨⟩ y1 hp
  replace hp : spec_sameInts_v2_l1s a0 a1 k rec1 x1 = some y1 := hp
  unfold spec_sameInts_v2_l1s at hp
  refine cr fun K13 hK13 => ?_
  refine s0 (rd_bin' rfl rfl eg_int ru_lss) ?_
  refine nk hK13 ?_
  refine cx_seq' fun K14 hK14 => ?_
  refine cx_cond' rfl (fun h5 => ?_) (fun h5 => ?_)
  ·replace hp := (br_t h5).symm.trans hp
   refine cx_skip' ?_
   show TX E K14 _
   refine tx_k' hK14 ?_
   refine cx_seq' fun K15 hK15 => ?_
   refine cx_block' ?_
   refine cr fun K16 hK16 => ?_
   refine s0 (rd_move' rfl) ?_
   obtain ⟨r17, hr17, hp⟩ := bind_some hp
   refine s0 (rd_at' (K := (Ki .i64)) rfl rfl hr17 Try.underlying23 info3) ?_
   refine s0 (rd_load_pt' rfl rfl flat3) ?_
   refine s0 (rd_assign' rfl) ?_
   refine s0 (rd_assign' rfl) ?_
   refine nk hK16 ?_
   refine cr fun K17 hK17 => ?_
   refine s0 (rd_move' rfl) ?_
   refine s0 (rd_move' rfl) ?_
   refine s0 (rd_move' rfl) ?_
   obtain ⟨r22, hr22, hp⟩ := bind_some hp
   refine s0 (rd_at' (K := (Ki .i64)) rfl rfl hr22 Try.underlying23 info3) ?_
   refine s0 (rd_load_pt' rfl rfl flat3) ?_
   refine s0 (rd_bin' rfl rfl eg_int ru_neq) ?_
   refine nk hK17 ?_
   refine cx_cond' rfl (fun h6 => ?_) (fun h6 => ?_)
   ·replace hp := (br_t h6).symm.trans hp
    refine cr fun K18 hK18 => ?_
    refine s0 (rd_assign' rfl) ?_
    refine nk hK18 ?_
    refine cx_retc' ?_
    replace hp := Option.some.inj hp
    subst hp
    show TX E (Zg E Exit.ret _ Exit.ret) _
    exact tx_zend' () rfl [] (sub_cons rfl sub_nil) (by decide) pick_nil
   replace hp := (br_f h6).symm.trans hp
   refine cx_skip' ?_
   show TX E K15 _
   refine tx_k' hK15 ?_
   refine cx_region' ?_
   refine s0 (rd_bin' rfl rfl eg_int ru_add) ?_
   refine s0 (rd_move' rfl) ?_
   refine sx_nil' ?_
   show TX E (KY1 _) _
   exact tx_pick' [] (sub_cons rfl (sub_cons rfl (sub_cons rfl (sub_cons rfl sub_nil)))) (by decide) pick_nil (ih1 (iadd .i64 x1 1) () _ hp)
  replace hp := (br_f h5).symm.trans hp
  refine cx_exit' ?_
  replace hp := Option.some.inj hp
  subst hp
  show TX E (Zg E (Exit.exit 0) _ (Exit.exit 0)) _
  exact tx_zend' () rfl [] sub_nil (by decide) pick_nil
 rcases y1 with v2 | v3
 ·dsimp only at hp
  refine zg_out fun w2 => ?_
  replace hp := Option.some.inj hp
  subst hp
  refine tx_pick' (L' := [(4, (Vb false))]) (H' := []) [] (sub_cons rfl sub_nil) (by decide) pick_nil ?_
  exact tx_ret1' Try.results36 rfl () (rv_tmp' rfl) (List.Sublist.refl _)
 dsimp only at hp
 refine zg_out fun w3 => ?_
 show TX E K5 _
 refine tx_k' hK5 ?_
 refine cr fun K19 hK19 => ?_
 refine s0 (rd_assign' rfl) ?_
 refine nk hK19 ?_
 refine cx_retc' ?_
 replace hp := Option.some.inj hp
 subst hp
 refine tx_pick' (L' := [(4, (Vb true))]) (H' := []) [] (sub_cons rfl sub_nil) (by decide) pick_nil ?_
 exact tx_ret1' Try.results36 rfl () (rv_tmp' rfl) (List.Sublist.refl _)

def spec_SameGeom_v2_l1s (a0_5 : List (List Int)) (a1_5 : List (List Int)) (k : Nat) (rec1 : Int → Option (Unit ⊕ Unit)) (x7 : Int) : Option (Unit ⊕ Unit) :=
 br (decide (x7 < (a0_5.length : Int)))
  ((idx a0_5 x7) >>= fun r68 =>
  (idx a1_5 x7) >>= fun r74 =>
  (spec_sameInts_v2 k r68 r74) >>= fun r76 =>
  br (!r76)
   (some (.inl ()))
   (rec1 (iadd .i64 x7 1)))
  (some (.inr ()))
def spec_SameGeom_v2_l1 (a0_5 : List (List Int)) (a1_5 : List (List Int)) : Nat → Int → Option (Unit ⊕ Unit)
 | 0, _ => none
 | k + 1, v => spec_SameGeom_v2_l1s a0_5 a1_5 k (spec_SameGeom_v2_l1 a0_5 a1_5 k) v
def spec_SameGeom_v2_l2s (a0_6 : List T27) (a1_6 : List T27) (recf : Int → Int → Int → (List Nat) → (List Int) → (List (List Int)) → (List T27) → Int → Int → Int → (List Nat) → (List Int) → (List (List Int)) → (List T27) → Option (Bool)) (k : Nat) (rec2 : Int → Option (Unit ⊕ Unit)) (x9 : Int) : Option (Unit ⊕ Unit) :=
 br (decide (x9 < (a0_6.length : Int)))
  ((idx a0_6 x9) >>= fun r85 =>
  (idx a1_6 x9) >>= fun r91 =>
  (recf r85.f0 r85.f1 r85.f2 r85.f3 r85.f4 r85.f5 r85.f6 r91.f0 r91.f1 r91.f2 r91.f3 r91.f4 r91.f5 r91.f6) >>= fun r93 =>
  br (!r93)
   (some (.inl ()))
   (rec2 (iadd .i64 x9 1)))
  (some (.inr ()))
def spec_SameGeom_v2_l2 (a0_6 : List T27) (a1_6 : List T27) (recf : Int → Int → Int → (List Nat) → (List Int) → (List (List Int)) → (List T27) → Int → Int → Int → (List Nat) → (List Int) → (List (List Int)) → (List T27) → Option (Bool)) : Nat → Int → Option (Unit ⊕ Unit)
 | 0, _ => none
 | k + 1, v => spec_SameGeom_v2_l2s a0_6 a1_6 recf k (spec_SameGeom_v2_l2 a0_6 a1_6 recf k) v
def spec_SameGeom_v2_j6 (k : Nat) (a0_5 : List (List Int)) (a1_5 : List (List Int)) (a0_6 : List T27) (a1_6 : List T27) (recf : Int → Int → Int → (List Nat) → (List Int) → (List (List Int)) → (List T27) → Int → Int → Int → (List Nat) → (List Int) → (List (List Int)) → (List T27) → Option (Bool)) (x6 : Bool) : Option (Bool) :=
 br x6
  (some false)
  ((spec_SameGeom_v2_l1 a0_5 a1_5 k 0) >>= fun y1 => match y1 with
   | (.inl v8) =>
    (some false)
   | (.inr v9) =>
    ((spec_SameGeom_v2_l2 a0_6 a1_6 recf k 0) >>= fun y2 => match y2 with
     | (.inl v12) =>
      (some false)
     | (.inr v13) =>
      (some true)))
def spec_SameGeom_v2_j5 (k : Nat) (a0_5 : List (List Int)) (a1_5 : List (List Int)) (a0_6 : List T27) (a1_6 : List T27) (recf : Int → Int → Int → (List Nat) → (List Int) → (List (List Int)) → (List T27) → Int → Int → Int → (List Nat) → (List Int) → (List (List Int)) → (List T27) → Option (Bool)) (x5 : Bool) : Option (Bool) :=
 br x5
  (spec_SameGeom_v2_j6 k a0_5 a1_5 a0_6 a1_6 recf true)
  (spec_SameGeom_v2_j6 k a0_5 a1_5 a0_6 a1_6 recf (!decide ((a0_6.length : Int) = (a1_6.length : Int))))
def spec_SameGeom_v2_j4 (k : Nat) (a0_5 : List (List Int)) (a1_5 : List (List Int)) (a0_6 : List T27) (a1_6 : List T27) (recf : Int → Int → Int → (List Nat) → (List Int) → (List (List Int)) → (List T27) → Int → Int → Int → (List Nat) → (List Int) → (List (List Int)) → (List T27) → Option (Bool)) (x4 : Bool) : Option (Bool) :=
 br x4
  (spec_SameGeom_v2_j5 k a0_5 a1_5 a0_6 a1_6 recf true)
  (spec_SameGeom_v2_j5 k a0_5 a1_5 a0_6 a1_6 recf (!decide ((a0_5.length : Int) = (a1_5.length : Int))))
def spec_SameGeom_v2_j3 (k : Nat) (a0_5 : List (List Int)) (a1_5 : List (List Int)) (a0_6 : List T27) (a1_6 : List T27) (recf : Int → Int → Int → (List Nat) → (List Int) → (List (List Int)) → (List T27) → Int → Int → Int → (List Nat) → (List Int) → (List (List Int)) → (List T27) → Option (Bool)) (a0_4 : List Int) (a1_4 : List Int) (x3 : Bool) : Option (Bool) :=
 br x3
  (spec_SameGeom_v2_j4 k a0_5 a1_5 a0_6 a1_6 recf true)
  ((spec_sameInts_v2 k a0_4 a1_4) >>= fun r41 =>
  spec_SameGeom_v2_j4 k a0_5 a1_5 a0_6 a1_6 recf (!r41))
def spec_SameGeom_v2_j2 (k : Nat) (a0_5 : List (List Int)) (a1_5 : List (List Int)) (a0_6 : List T27) (a1_6 : List T27) (recf : Int → Int → Int → (List Nat) → (List Int) → (List (List Int)) → (List T27) → Int → Int → Int → (List Nat) → (List Int) → (List (List Int)) → (List T27) → Option (Bool)) (a0_4 : List Int) (a1_4 : List Int) (a0_3 : List Nat) (a1_3 : List Nat) (x2 : Bool) : Option (Bool) :=
 br x2
  (spec_SameGeom_v2_j3 k a0_5 a1_5 a0_6 a1_6 recf a0_4 a1_4 true)
  ((spec_SameFloats_v2 k a0_3 a1_3) >>= fun r33 =>
  spec_SameGeom_v2_j3 k a0_5 a1_5 a0_6 a1_6 recf a0_4 a1_4 (!r33))
def spec_SameGeom_v2_j1 (k : Nat) (a0_5 : List (List Int)) (a1_5 : List (List Int)) (a0_6 : List T27) (a1_6 : List T27) (recf : Int → Int → Int → (List Nat) → (List Int) → (List (List Int)) → (List T27) → Int → Int → Int → (List Nat) → (List Int) → (List (List Int)) → (List T27) → Option (Bool)) (a0_4 : List Int) (a1_4 : List Int) (a0_3 : List Nat) (a1_3 : List Nat) (a0_2 : Int) (a1_2 : Int) (x1 : Bool) : Option (Bool) :=
 br x1
  (spec_SameGeom_v2_j2 k a0_5 a1_5 a0_6 a1_6 recf a0_4 a1_4 a0_3 a1_3 true)
  (spec_SameGeom_v2_j2 k a0_5 a1_5 a0_6 a1_6 recf a0_4 a1_4 a0_3 a1_3 (!decide (a0_2 = a1_2)))
def spec_SameGeom_v2_b (recf : Int → Int → Int → (List Nat) → (List Int) → (List (List Int)) → (List T27) → Int → Int → Int → (List Nat) → (List Int) → (List (List Int)) → (List T27) → Option (Bool)) (k : Nat) (a0_0 : Int) (a0_1 : Int) (a0_2 : Int) (a0_3 : List Nat) (a0_4 : List Int) (a0_5 : List (List Int)) (a0_6 : List T27) (a1_0 : Int) (a1_1 : Int) (a1_2 : Int) (a1_3 : List Nat) (a1_4 : List Int) (a1_5 : List (List Int)) (a1_6 : List T27) : Option (Bool) :=
 br (!decide (a0_0 = a1_0))
  (spec_SameGeom_v2_j1 k a0_5 a1_5 a0_6 a1_6 recf a0_4 a1_4 a0_3 a1_3 a0_2 a1_2 true)
  (spec_SameGeom_v2_j1 k a0_5 a1_5 a0_6 a1_6 recf a0_4 a1_4 a0_3 a1_3 a0_2 a1_2 (!decide (a0_1 = a1_1)))
def spec_SameGeom_v2 : Nat → Int → Int → Int → (List Nat) → (List Int) → (List (List Int)) → (List T27) → Int → Int → Int → (List Nat) → (List Int) → (List (List Int)) → (List T27) → Option (Bool)
 | 0 => fun _ _ _ _ _ _ _ _ _ _ _ _ _ _ => none
 | k + 1 => fun a0_0 a0_1 a0_2 a0_3 a0_4 a0_5 a0_6 a1_0 a1_1 a1_2 a1_3 a1_4 a1_5 a1_6 => spec_SameGeom_v2_b (spec_SameGeom_v2 k) k a0_0 a0_1 a0_2 a0_3 a0_4 a0_5 a0_6 a1_0 a1_1 a1_2 a1_3 a1_4 a1_5 a1_6

theorem spec_SameGeom_v2_b_sim {recf : Int → Int → Int → (List Nat) → (List Int) → (List (List Int)) → (List T27) → Int → Int → Int → (List Nat) → (List Int) → (List (List Int)) → (List T27) → Option (Bool)} (hrec : ∀  (a0_0 : Int) (a0_1 : Int) (a0_2 : Int) (a0_3 : List Nat) (a0_4 : List Int) (a0_5 : List (List Int)) (a0_6 : List T27) (a1_0 : Int) (a1_1 : Int) (a1_2 : Int) (a1_3 : List Nat) (a1_4 : List Int) (a1_5 : List (List Int)) (a1_6 : List T27) (out : Bool), recf a0_0 a0_1 a0_2 a0_3 a0_4 a0_5 a0_6 a1_0 a1_1 a1_2 a1_3 a1_4 a1_5 a1_6 = some out → Sx.Fn Try.prog 13 [(Ag [(Vi a0_0), (Vi a0_1), (Vi a0_2), (Sl Kf a0_3), (Sl (Ki .i64) a0_4), (Sl (Kl (Ki .i64)) a0_5), (Sl KT27 a0_6)]), (Ag [(Vi a1_0), (Vi a1_1), (Vi a1_2), (Sl Kf a1_3), (Sl (Ki .i64) a1_4), (Sl (Kl (Ki .i64)) a1_5), (Sl KT27 a1_6)])] [] (fun w : Unit => (Vb out)) (fun w => [])) {k : Nat}  (a0_0 : Int) (a0_1 : Int) (a0_2 : Int) (a0_3 : List Nat) (a0_4 : List Int) (a0_5 : List (List Int)) (a0_6 : List T27) (a1_0 : Int) (a1_1 : Int) (a1_2 : Int) (a1_3 : List Nat) (a1_4 : List Int) (a1_5 : List (List Int)) (a1_6 : List T27) {out : Bool} (hp : spec_SameGeom_v2_b recf k a0_0 a0_1 a0_2 a0_3 a0_4 a0_5 a0_6 a1_0 a1_1 a1_2 a1_3 a1_4 a1_5 a1_6 = some out) : Sx.Fn Try.prog 13 [(Ag [(Vi a0_0), (Vi a0_1), (Vi a0_2), (Sl Kf a0_3), (Sl (Ki .i64) a0_4), (Sl (Kl (Ki .i64)) a0_5), (Sl KT27 a0_6)]), (Ag [(Vi a1_0), (Vi a1_1), (Vi a1_2), (Sl Kf a1_3), (Sl (Ki .i64) a1_4), (Sl (Kl (Ki .i64)) a1_5), (Sl KT27 a1_6)])] [] (fun w : Unit => (Vb out)) (fun w => []) := by
 unfold spec_SameGeom_v2_b at hp
 refine fn_of Try.func13 rfl Try.ntmps13 rfl fun E hM => ?_
 refine cr fun K1 hK1 => ?_
 refine sx_ox' (ox_box' rfl (lv_ag _) rfl rfl) (wt_none' rfl) fun q2 => ?_
 refine sx_ox' (ox_box' rfl (lv_ag _) rfl rfl) (wt_none' rfl) fun q3 => ?_
 refine s0 (rd_assign' rfl) ?_
 refine nk hK1 ?_
 refine cx_seq' fun K2 hK2 => ?_
 refine cr fun K3 hK3 => ?_
 refine s0 (rd_field0' rfl Try.underlying27 rfl info3 rfl) ?_
 refine s0 (rd_load' (i := 1) (o := 0) rfl ⟨rfl, rfl, rfl, rfl⟩ rfl flat3) ?_
 refine s0 (rd_field0' rfl Try.underlying27 rfl info3 rfl) ?_
 refine s0 (rd_load' (i := 0) (o := 0) rfl ⟨rfl, rfl, rfl, rfl⟩ rfl flat3) ?_
 refine s0 (rd_bin' rfl rfl eg_int ru_neq) ?_
 refine s0 (rd_move' rfl) ?_
 refine sx_cutn' 6 (fun (v1 : Bool) => (⟨96, [], [(2, (Vp q2)), (3, (Vp q3)), (20, (Vb v1))], [⟨.pointer (some q2), [(Vi a0_0), (Vi a0_1), (Vi a0_2), (Sl Kf a0_3), (Sl (Ki .i64) a0_4), (Sl (Kl (Ki .i64)) a0_5), (Sl KT27 a0_6)], 27, none⟩, ⟨.pointer (some q3), [(Vi a1_0), (Vi a1_1), (Vi a1_2), (Sl Kf a1_3), (Sl (Ki .i64) a1_4), (Sl (Kl (Ki .i64)) a1_5), (Sl KT27 a1_6)], 27, none⟩]⟩ : St)) (fun (v1 : Bool) => spec_SameGeom_v2_j1 k a0_5 a1_5 a0_6 a1_6 recf a0_4 a1_4 a0_3 a1_3 a0_2 a1_2 v1 = some out) ?_ ?_
 ·rintro x1 hp
  replace hp : spec_SameGeom_v2_j1 k a0_5 a1_5 a0_6 a1_6 recf a0_4 a1_4 a0_3 a1_3 a0_2 a1_2 x1 = some out := hp
  unfold spec_SameGeom_v2_j1 at hp
  refine s0 (rd_move' rfl) ?_
  refine sx_cutn' 6 (fun (v2 : Bool) => (⟨96, [], [(2, (Vp q2)), (3, (Vp q3)), (27, (Vb v2))], [⟨.pointer (some q2), [(Vi a0_0), (Vi a0_1), (Vi a0_2), (Sl Kf a0_3), (Sl (Ki .i64) a0_4), (Sl (Kl (Ki .i64)) a0_5), (Sl KT27 a0_6)], 27, none⟩, ⟨.pointer (some q3), [(Vi a1_0), (Vi a1_1), (Vi a1_2), (Sl Kf a1_3), (Sl (Ki .i64) a1_4), (Sl (Kl (Ki .i64)) a1_5), (Sl KT27 a1_6)], 27, none⟩]⟩ : St)) (fun (v2 : Bool) => spec_SameGeom_v2_j2 k a0_5 a1_5 a0_6 a1_6 recf a0_4 a1_4 a0_3 a1_3 v2 = some out) ?_ ?_
  ·rintro x2 hp
   replace hp : spec_SameGeom_v2_j2 k a0_5 a1_5 a0_6 a1_6 recf a0_4 a1_4 a0_3 a1_3 x2 = some out := hp
   unfold spec_SameGeom_v2_j2 at hp
   refine s0 (rd_move' rfl) ?_
   refine sx_cutn' 7 (fun (v3 : Bool) => (⟨96, [], [(2, (Vp q2)), (3, (Vp q3)), (35, (Vb v3))], [⟨.pointer (some q2), [(Vi a0_0), (Vi a0_1), (Vi a0_2), (Sl Kf a0_3), (Sl (Ki .i64) a0_4), (Sl (Kl (Ki .i64)) a0_5), (Sl KT27 a0_6)], 27, none⟩, ⟨.pointer (some q3), [(Vi a1_0), (Vi a1_1), (Vi a1_2), (Sl Kf a1_3), (Sl (Ki .i64) a1_4), (Sl (Kl (Ki .i64)) a1_5), (Sl KT27 a1_6)], 27, none⟩]⟩ : St)) (fun (v3 : Bool) => spec_SameGeom_v2_j3 k a0_5 a1_5 a0_6 a1_6 recf a0_4 a1_4 v3 = some out) ?_ ?_
   ·rintro x3 hp
    replace hp : spec_SameGeom_v2_j3 k a0_5 a1_5 a0_6 a1_6 recf a0_4 a1_4 x3 = some out := hp
    unfold spec_SameGeom_v2_j3 at hp
    refine s0 (rd_move' rfl) ?_
    refine sx_cutn' 7 (fun (v4 : Bool) => (⟨96, [], [(2, (Vp q2)), (3, (Vp q3)), (43, (Vb v4))], [⟨.pointer (some q2), [(Vi a0_0), (Vi a0_1), (Vi a0_2), (Sl Kf a0_3), (Sl (Ki .i64) a0_4), (Sl (Kl (Ki .i64)) a0_5), (Sl KT27 a0_6)], 27, none⟩, ⟨.pointer (some q3), [(Vi a1_0), (Vi a1_1), (Vi a1_2), (Sl Kf a1_3), (Sl (Ki .i64) a1_4), (Sl (Kl (Ki .i64)) a1_5), (Sl KT27 a1_6)], 27, none⟩]⟩ : St)) (fun (v4 : Bool) => spec_SameGeom_v2_j4 k a0_5 a1_5 a0_6 a1_6 recf v4 = some out) ?_ ?_
    ·rintro x4 hp
     replace hp : spec_SameGeom_v2_j4 k a0_5 a1_5 a0_6 a1_6 recf x4 = some out := hp
     unfold spec_SameGeom_v2_j4 at hp
     refine s0 (rd_move' rfl) ?_
     refine sx_cutn' 8 (fun (v5 : Bool) => (⟨96, [], [(2, (Vp q2)), (3, (Vp q3)), (52, (Vb v5))], [⟨.pointer (some q2), [(Vi a0_0), (Vi a0_1), (Vi a0_2), (Sl Kf a0_3), (Sl (Ki .i64) a0_4), (Sl (Kl (Ki .i64)) a0_5), (Sl KT27 a0_6)], 27, none⟩, ⟨.pointer (some q3), [(Vi a1_0), (Vi a1_1), (Vi a1_2), (Sl Kf a1_3), (Sl (Ki .i64) a1_4), (Sl (Kl (Ki .i64)) a1_5), (Sl KT27 a1_6)], 27, none⟩]⟩ : St)) (fun (v5 : Bool) => spec_SameGeom_v2_j5 k a0_5 a1_5 a0_6 a1_6 recf v5 = some out) ?_ ?_
     ·rintro x5 hp
      replace hp : spec_SameGeom_v2_j5 k a0_5 a1_5 a0_6 a1_6 recf x5 = some out := hp
      unfold spec_SameGeom_v2_j5 at hp
      refine s0 (rd_move' rfl) ?_
      refine sx_cutn' 8 (fun (v6 : Bool) => (⟨96, [], [(2, (Vp q2)), (3, (Vp q3)), (61, (Vb v6))], [⟨.pointer (some q2), [(Vi a0_0), (Vi a0_1), (Vi a0_2), (Sl Kf a0_3), (Sl (Ki .i64) a0_4), (Sl (Kl (Ki .i64)) a0_5), (Sl KT27 a0_6)], 27, none⟩, ⟨.pointer (some q3), [(Vi a1_0), (Vi a1_1), (Vi a1_2), (Sl Kf a1_3), (Sl (Ki .i64) a1_4), (Sl (Kl (Ki .i64)) a1_5), (Sl KT27 a1_6)], 27, none⟩]⟩ : St)) (fun (v6 : Bool) => spec_SameGeom_v2_j6 k a0_5 a1_5 a0_6 a1_6 recf v6 = some out) ?_ ?_
      ·rintro x6 hp
       replace hp : spec_SameGeom_v2_j6 k a0_5 a1_5 a0_6 a1_6 recf x6 = some out := hp
       unfold spec_SameGeom_v2_j6 at hp
       refine nk hK3 ?_
       refine cx_cond' rfl (fun h7 => ?_) (fun h7 => ?_)
       ·replace hp := (br_t h7).symm.trans hp
        refine cr fun K10 hK10 => ?_
        refine s0 (rd_assign' rfl) ?_
        refine nk hK10 ?_
        refine cx_retc' ?_
        replace hp := Option.some.inj hp
        subst hp
        refine tx_pick' (L' := [(4, (Vb false))]) (H' := []) [] (sub_cons rfl sub_nil) (by decide) pick_nil ?_
        exact tx_ret1' Try.results13 rfl () (rv_tmp' rfl) (List.Sublist.refl _)
       replace hp := (br_f h7).symm.trans hp
       refine cx_skip' ?_
       show TX E K2 _
       refine tx_k' hK2 ?_
       refine cx_seq' fun K11 hK11 => ?_
       refine cr fun K12 hK12 => ?_
       refine s0 (rd_field' (off := 5) rfl Try.underlying27 rfl info24 rfl) ?_
       refine s0 (rd_load' (i := 0) (o := 5) rfl ⟨rfl, rfl, rfl, rfl⟩ rfl flat24) ?_
       refine s0 (rd_len' rfl Try.underlying24) ?_
       refine s0 (rd_move' rfl) ?_
       refine nk hK12 ?_
       refine cx_block' ?_
       obtain ⟨y1, hy1, hp⟩ := bind_some hp
       refine cx_loopg' (F := spec_SameGeom_v2_l1 a0_5 a1_5) (G := fun k R v => spec_SameGeom_v2_l1s a0_5 a1_5 k R v) (x := 0) (gh := ()) (fun (v7 : Int) (w7 : Unit) => (⟨96, [], [(2, (Vp q2)), (3, (Vp q3)), (63, (Sl (Kl (Ki .i64)) a0_5)), (64, (Vi (a0_5.length : Int))), (65, (Vi v7))], [⟨.pointer (some q2), [(Vi a0_0), (Vi a0_1), (Vi a0_2), (Sl Kf a0_3), (Sl (Ki .i64) a0_4), (Sl (Kl (Ki .i64)) a0_5), (Sl KT27 a0_6)], 27, none⟩, ⟨.pointer (some q3), [(Vi a1_0), (Vi a1_1), (Vi a1_2), (Sl Kf a1_3), (Sl (Ki .i64) a1_4), (Sl (Kl (Ki .i64)) a1_5), (Sl KT27 a1_6)], 27, none⟩]⟩ : St)) (fun (y : Unit ⊕ Unit) => match y with | (.inl v8) => Zg E Exit.ret (fun (w8 : Unit) => (⟨96, [], [(4, (Vb false))], []⟩ : St)) | (.inr v9) => Zg E (Exit.exit 0) (fun (w9 : Unit) => (⟨96, [], [(2, (Vp q2)), (3, (Vp q3))], [⟨.pointer (some q2), [(Vi a0_0), (Vi a0_1), (Vi a0_2), (Sl Kf a0_3), (Sl (Ki .i64) a0_4), (Sl (Kl (Ki .i64)) a0_5), (Sl KT27 a0_6)], 27, none⟩, ⟨.pointer (some q3), [(Vi a1_0), (Vi a1_1), (Vi a1_2), (Sl Kf a1_3), (Sl (Ki .i64) a1_4), (Sl (Kl (Ki .i64)) a1_5), (Sl KT27 a1_6)], 27, none⟩]⟩ : St))) (fun _ => rfl) (fun _ _ => rfl) ?_ hy1 (tx_to' rfl [0, 1] (sub_cons rfl (sub_cons rfl (sub_cons rfl (sub_cons rfl (sub_cons rfl sub_nil))))) (by decide) (pick_cons rfl (pick_cons rfl pick_nil))) ?_
       ·clear hp hy1
        clear y1
        intro k rec1 KY1 ih1
        rintro x7 ⟨⟩ y1 hp
        replace hp : spec_SameGeom_v2_l1s a0_5 a1_5 k rec1 x7 = some y1 := hp
        unfold spec_SameGeom_v2_l1s at hp
        refine cr fun K19 hK19 => ?_
        refine s0 (rd_bin' rfl rfl eg_int ru_lss) ?_
        refine nk hK19 ?_
        refine cx_seq' fun K20 hK20 => ?_
        refine cx_cond' rfl (fun h11 => ?_) (fun h11 => ?_)
        ·replace hp := (br_t h11).symm.trans hp
         refine cx_skip' ?_
         show TX E K20 _
         refine tx_k' hK20 ?_
         refine cx_seq' fun K21 hK21 => ?_
         refine cx_block' ?_
         refine cr fun K22 hK22 => ?_
         refine s0 (rd_move' rfl) ?_
         obtain ⟨r68, hr68, hp⟩ := bind_some hp
         refine s0 (rd_at' (K := (Kl (Ki .i64))) rfl rfl hr68 Try.underlying24 info23) ?_
         refine s0 (rd_load_pt' rfl rfl flat23) ?_
         refine s0 (rd_assign' rfl) ?_
         refine s0 (rd_assign' rfl) ?_
         refine nk hK22 ?_
         refine cr fun K23 hK23 => ?_
         refine s0 (rd_move' rfl) ?_
         refine s0 (rd_field' (off := 5) rfl Try.underlying27 rfl info24 rfl) ?_
         refine s0 (rd_load' (i := 1) (o := 5) rfl ⟨rfl, rfl, rfl, rfl⟩ rfl flat24) ?_
         refine s0 (rd_move' rfl) ?_
         obtain ⟨r74, hr74, hp⟩ := bind_some hp
         refine s0 (rd_at' (K := (Kl (Ki .i64))) rfl rfl hr74 Try.underlying24 info23) ?_
         refine s0 (rd_load_pt' rfl rfl flat23) ?_
         obtain ⟨r76, hr76, hp⟩ := bind_some hp
         refine sx_ox' (ox_calln' (ent_fn' Try.func36 isn36 rfl rfl) (spec_sameInts_v2_sim _ _ hr76 : Sx.Fn Try.prog 36 [(Sl (Ki .i64) r68), (Sl (Ki .i64) r74)] [] (fun x : Unit => (Vb r76)) (fun x => [])) (Hn := fun x : Unit => [⟨.pointer (some q2), [(Vi a0_0), (Vi a0_1), (Vi a0_2), (Sl Kf a0_3), (Sl (Ki .i64) a0_4), (Sl (Kl (Ki .i64)) a0_5), (Sl KT27 a0_6)], 27, none⟩, ⟨.pointer (some q3), [(Vi a1_0), (Vi a1_1), (Vi a1_2), (Sl Kf a1_3), (Sl (Ki .i64) a1_4), (Sl (Kl (Ki .i64)) a1_5), (Sl KT27 a1_6)], 27, none⟩]) (fun _ => rfl) rfl rfl) (wt_none' rfl) fun ⟨⟩ => ?_
         refine s0 (rd_un' rfl ru_not) ?_
         refine nk hK23 ?_
         refine cx_cond' rfl (fun h12 => ?_) (fun h12 => ?_)
         ·replace hp := (br_t h12).symm.trans hp
          refine cr fun K24 hK24 => ?_
          refine s0 (rd_assign' rfl) ?_
          refine nk hK24 ?_
          refine cx_retc' ?_
          replace hp := Option.some.inj hp
          subst hp
          show TX E (Zg E Exit.ret _ Exit.ret) _
          exact tx_zend' () rfl [] (sub_cons rfl sub_nil) (by decide) pick_nil
         replace hp := (br_f h12).symm.trans hp
         refine cx_skip' ?_
         show TX E K21 _
         refine tx_k' hK21 ?_
         refine cx_region' ?_
         refine s0 (rd_bin' rfl rfl eg_int ru_add) ?_
         refine s0 (rd_move' rfl) ?_
         refine sx_nil' ?_
         show TX E (KY1 _) _
         exact tx_pick' [0, 1] (sub_cons rfl (sub_cons rfl (sub_cons rfl (sub_cons rfl (sub_cons rfl sub_nil))))) (by decide) (pick_cons rfl (pick_cons rfl pick_nil)) (ih1 (iadd .i64 x7 1) () _ hp)
        replace hp := (br_f h11).symm.trans hp
        refine cx_exit' ?_
        replace hp := Option.some.inj hp
        subst hp
        show TX E (Zg E (Exit.exit 0) _ (Exit.exit 0)) _
        exact tx_zend' () rfl [0, 1] (sub_cons rfl (sub_cons rfl sub_nil)) (by decide) (pick_cons rfl (pick_cons rfl pick_nil))
       rcases y1 with v8 | v9
       ·dsimp only at hp
        refine zg_out fun w8 => ?_
        replace hp := Option.some.inj hp
        subst hp
        refine tx_pick' (L' := [(4, (Vb false))]) (H' := []) [] (sub_cons rfl sub_nil) (by decide) pick_nil ?_
        exact tx_ret1' Try.results13 rfl () (rv_tmp' rfl) (List.Sublist.refl _)
       dsimp only at hp
       refine zg_out fun w9 => ?_
       show TX E K11 _
       refine tx_k' hK11 ?_
       refine cx_seq' fun K25 hK25 => ?_
       refine cr fun K26 hK26 => ?_
       refine s0 (rd_field' (off := 6) rfl Try.underlying27 rfl info25 rfl) ?_
       refine s0 (rd_load' (i := 0) (o := 6) rfl ⟨rfl, rfl, rfl, rfl⟩ rfl flat25) ?_
       refine s0 (rd_len' rfl Try.underlying25) ?_
       refine s0 (rd_move' rfl) ?_
       refine nk hK26 ?_
       refine cx_block' ?_
       obtain ⟨y2, hy2, hp⟩ := bind_some hp
       refine cx_loopg' (F := spec_SameGeom_v2_l2 a0_6 a1_6 recf) (G := fun k R v => spec_SameGeom_v2_l2s a0_6 a1_6 recf k R v) (x := 0) (gh := ()) (fun (v11 : Int) (w11 : Unit) => (⟨96, [], [(3, (Vp q3)), (80, (Sl KT27 a0_6)), (81, (Vi (a0_6.length : Int))), (82, (Vi v11))], [⟨.pointer (some q3), [(Vi a1_0), (Vi a1_1), (Vi a1_2), (Sl Kf a1_3), (Sl (Ki .i64) a1_4), (Sl (Kl (Ki .i64)) a1_5), (Sl KT27 a1_6)], 27, none⟩]⟩ : St)) (fun (y : Unit ⊕ Unit) => match y with | (.inl v12) => Zg E Exit.ret (fun (w12 : Unit) => (⟨96, [], [(4, (Vb false))], []⟩ : St)) | (.inr v13) => Zg E (Exit.exit 2) (fun (w13 : Unit) => (⟨96, [], [], []⟩ : St))) (fun _ => rfl) (fun _ _ => rfl) ?_ hy2 (tx_to' rfl [1] (sub_cons rfl (sub_cons rfl (sub_cons rfl (sub_cons rfl sub_nil)))) (by decide) (pick_cons rfl pick_nil)) ?_
       ·clear hp hy2
        clear y2
        intro k rec2 KY2 ih2
        rintro x9 ⟨⟩ y2 hp
        replace hp : spec_SameGeom_v2_l2s a0_6 a1_6 recf k rec2 x9 = some y2 := hp
        unfold spec_SameGeom_v2_l2s at hp
        refine cr fun K34 hK34 => ?_
        refine s0 (rd_bin' rfl rfl eg_int ru_lss) ?_
        refine nk hK34 ?_
        refine cx_seq' fun K35 hK35 => ?_
        refine cx_cond' rfl (fun h16 => ?_) (fun h16 => ?_)
        ·replace hp := (br_t h16).symm.trans hp
         refine cx_skip' ?_
         show TX E K35 _
         refine tx_k' hK35 ?_
         refine cx_seq' fun K36 hK36 => ?_
         refine cx_block' ?_
         refine cr fun K37 hK37 => ?_
         refine s0 (rd_move' rfl) ?_
         obtain ⟨r85, hr85, hp⟩ := bind_some hp
         refine s0 (rd_eq' (congrArg Pt (KT27_enc r85)) (rd_at' (K := KT27) rfl rfl hr85 Try.underlying25 info27)) ?_
         refine s0 (rd_load_pt_agg' (nn := 7) rfl rfl agg27 (l' := [(Vi r85.f0), (Vi r85.f1), (Vi r85.f2), (Sl Kf r85.f3), (Sl (Ki .i64) r85.f4), (Sl (Kl (Ki .i64)) r85.f5), (Sl KT27 r85.f6)]) rfl) ?_
         refine sx_ox' (ox_alloc' info27 rfl rfl rfl rfl (l := [(Vi 0), (Vi 0), (Vi 0), Vn, Vn, Vn, Vn]) rfl) (wt_none' rfl) fun q8 => ?_
         refine s0 (rd_assign' rfl) ?_
         refine sx_ox' (ox_store' (i := 0) (o := 0) rfl rfl (lv_ag _) ⟨rfl, rfl, rfl, rfl⟩ rfl info27 rfl (H' := [⟨.pointer (some q8), [(Vi r85.f0), (Vi r85.f1), (Vi r85.f2), (Sl Kf r85.f3), (Sl (Ki .i64) r85.f4), (Sl (Kl (Ki .i64)) r85.f5), (Sl KT27 r85.f6)], 27, none⟩, ⟨.pointer (some q3), [(Vi a1_0), (Vi a1_1), (Vi a1_2), (Sl Kf a1_3), (Sl (Ki .i64) a1_4), (Sl (Kl (Ki .i64)) a1_5), (Sl KT27 a1_6)], 27, none⟩]) rfl) (wt_none' rfl) fun _ => ?_
         refine nk hK37 ?_
         refine cx_seq' fun K38 hK38 => ?_
         refine cx_plan' [] [] [(0, 1), (1, 1), (2, 1), (3, 1), (4, 1), (5, 1), (6, 0), (7, 1)] mixed (by kernel_rfl) ?_
         refine px_rd' rfl (rd_load_agg' (i := 0) (o := 0) (nn := 7) rfl ⟨rfl, rfl, rfl, rfl⟩ rfl agg27 (l' := [(Vi r85.f0), (Vi r85.f1), (Vi r85.f2), (Sl Kf r85.f3), (Sl (Ki .i64) r85.f4), (Sl (Kl (Ki .i64)) r85.f5), (Sl KT27 r85.f6)]) rfl) rfl rfl (wt_none' rfl) ?_
         refine px_rd' rfl (rd_field' (off := 6) rfl Try.underlying27 rfl info25 rfl) rfl rfl (wt_none' rfl) ?_
         refine px_rd' rfl (rd_load' (i := 1) (o := 6) rfl ⟨rfl, rfl, rfl, rfl⟩ rfl flat25) rfl rfl (wt_none' rfl) ?_
         refine px_rd' rfl (rd_move' rfl) rfl rfl (wt_none' rfl) ?_
         obtain ⟨r91, hr91, hp⟩ := bind_some hp
         refine px_rd' rfl (rd_eq' (congrArg Pt (KT27_enc r91)) (rd_at' (K := KT27) rfl rfl hr91 Try.underlying25 info27)) rfl rfl (wt_none' rfl) ?_
         refine px_rd' rfl (rd_load_pt_agg' (nn := 7) rfl rfl agg27 (l' := [(Vi r91.f0), (Vi r91.f1), (Vi r91.f2), (Sl Kf r91.f3), (Sl (Ki .i64) r91.f4), (Sl (Kl (Ki .i64)) r91.f5), (Sl KT27 r91.f6)]) rfl) rfl rfl (wt_none' rfl) ?_
         obtain ⟨r93, hr93, hp⟩ := bind_some hp
         refine px_ox' rfl (ox_calln' (ent_fn' Try.func13 isn13 rfl rfl) (hrec _ _ _ _ _ _ _ _ _ _ _ _ _ _ _ hr93 : Sx.Fn Try.prog 13 [(Ag [(Vi r85.f0), (Vi r85.f1), (Vi r85.f2), (Sl Kf r85.f3), (Sl (Ki .i64) r85.f4), (Sl (Kl (Ki .i64)) r85.f5), (Sl KT27 r85.f6)]), (Ag [(Vi r91.f0), (Vi r91.f1), (Vi r91.f2), (Sl Kf r91.f3), (Sl (Ki .i64) r91.f4), (Sl (Kl (Ki .i64)) r91.f5), (Sl KT27 r91.f6)])] [] (fun x : Unit => (Vb r93)) (fun x => [])) (Hn := fun x : Unit => [⟨.pointer (some q8), [(Vi r85.f0), (Vi r85.f1), (Vi r85.f2), (Sl Kf r85.f3), (Sl (Ki .i64) r85.f4), (Sl (Kl (Ki .i64)) r85.f5), (Sl KT27 r85.f6)], 27, none⟩, ⟨.pointer (some q3), [(Vi a1_0), (Vi a1_1), (Vi a1_2), (Sl Kf a1_3), (Sl (Ki .i64) a1_4), (Sl (Kl (Ki .i64)) a1_5), (Sl KT27 a1_6)], 27, none⟩]) (fun _ => rfl) rfl rfl) rfl bs_nil (wt_none' rfl) fun ⟨⟩ => ?_
         refine px_rd' rfl (rd_un' rfl ru_not) rfl rfl (wt_none' rfl) ?_
         refine px_nil' ?_
         show TX E K38 _
         refine tx_k' hK38 ?_
         refine cx_cond' rfl (fun h17 => ?_) (fun h17 => ?_)
         ·replace hp := (br_t h17).symm.trans hp
          refine cr fun K39 hK39 => ?_
          refine s0 (rd_assign' rfl) ?_
          refine nk hK39 ?_
          refine cx_retc' ?_
          replace hp := Option.some.inj hp
          subst hp
          show TX E (Zg E Exit.ret _ Exit.ret) _
          exact tx_zend' () rfl [] (sub_cons rfl sub_nil) (by decide) pick_nil
         replace hp := (br_f h17).symm.trans hp
         refine cx_skip' ?_
         show TX E K36 _
         refine tx_k' hK36 ?_
         refine cx_region' ?_
         refine s0 (rd_bin' rfl rfl eg_int ru_add) ?_
         refine s0 (rd_move' rfl) ?_
         refine sx_nil' ?_
         show TX E (KY2 _) _
         exact tx_pick' [1] (sub_cons rfl (sub_cons rfl (sub_cons rfl (sub_cons rfl sub_nil)))) (by decide) (pick_cons rfl pick_nil) (ih2 (iadd .i64 x9 1) () _ hp)
        replace hp := (br_f h16).symm.trans hp
        refine cx_exit' ?_
        replace hp := Option.some.inj hp
        subst hp
        show TX E (Zg E (Exit.exit 2) _ (Exit.exit 2)) _
        exact tx_zend' () rfl [] sub_nil (by decide) pick_nil
       rcases y2 with v12 | v13
       ·dsimp only at hp
        refine zg_out fun w12 => ?_
        replace hp := Option.some.inj hp
        subst hp
        refine tx_pick' (L' := [(4, (Vb false))]) (H' := []) [] (sub_cons rfl sub_nil) (by decide) pick_nil ?_
        exact tx_ret1' Try.results13 rfl () (rv_tmp' rfl) (List.Sublist.refl _)
       dsimp only at hp
       refine zg_out fun w13 => ?_
       show TX E K25 _
       refine tx_k' hK25 ?_
       refine cr fun K32 hK32 => ?_
       refine s0 (rd_assign' rfl) ?_
       refine nk hK32 ?_
       refine cx_retc' ?_
       replace hp := Option.some.inj hp
       subst hp
       refine tx_pick' (L' := [(4, (Vb true))]) (H' := []) [] (sub_cons rfl sub_nil) (by decide) pick_nil ?_
       exact tx_ret1' Try.results13 rfl () (rv_tmp' rfl) (List.Sublist.refl _)
      intro K9 hK9
      rcases br_cases hp with ⟨h6, hp⟩ | ⟨h6, hp⟩
      ·refine sx_skip' rfl rfl (wt_is' (wt_guard' rfl rfl rfl) (beq_tf h6)) ?_
       refine sx_skip' rfl rfl (wt_is' (wt_guard' rfl rfl rfl) (beq_tf h6)) ?_
       refine sx_skip' rfl rfl (wt_is' (wt_guard' rfl rfl rfl) (beq_tf h6)) ?_
       refine sx_skip' rfl rfl (wt_is' (wt_guard' rfl rfl rfl) (beq_tf h6)) ?_
       refine sx_skip' rfl rfl (wt_is' (wt_guard' rfl rfl rfl) (beq_tf h6)) ?_
       refine sx_skip' rfl rfl (wt_is' (wt_guard' rfl rfl rfl) (beq_tf h6)) ?_
       refine sx_skip' rfl rfl (wt_is' (wt_guard' rfl rfl rfl) (beq_tf h6)) ?_
       refine s0 (rd_pick_true' rfl h6 rfl) ?_
       refine sx_nil' ?_
       show TX E K9 _
       exact tx_pick' [0, 1] (sub_cons rfl (sub_cons rfl (sub_cons rfl sub_nil))) (by decide) (pick_cons rfl (pick_cons rfl pick_nil)) (hK9 true hp)
      refine sx_rd' (rd_field' (off := 6) rfl Try.underlying27 rfl info25 rfl) rfl rfl (wt_is' (wt_guard' rfl rfl rfl) (beq_ff h6)) ?_
      refine sx_rd' (rd_load' (i := 0) (o := 6) rfl ⟨rfl, rfl, rfl, rfl⟩ rfl flat25) rfl rfl (wt_is' (wt_guard' rfl rfl rfl) (beq_ff h6)) ?_
      refine sx_rd' (rd_len' rfl Try.underlying25) rfl rfl (wt_is' (wt_guard' rfl rfl rfl) (beq_ff h6)) ?_
      refine sx_rd' (rd_field' (off := 6) rfl Try.underlying27 rfl info25 rfl) rfl rfl (wt_is' (wt_guard' rfl rfl rfl) (beq_ff h6)) ?_
      refine sx_rd' (rd_load' (i := 1) (o := 6) rfl ⟨rfl, rfl, rfl, rfl⟩ rfl flat25) rfl rfl (wt_is' (wt_guard' rfl rfl rfl) (beq_ff h6)) ?_
      refine sx_rd' (rd_len' rfl Try.underlying25) rfl rfl (wt_is' (wt_guard' rfl rfl rfl) (beq_ff h6)) ?_
      refine sx_rd' (rd_bin' rfl rfl eg_int ru_neq) rfl rfl (wt_is' (wt_guard' rfl rfl rfl) (beq_ff h6)) ?_
      refine s0 (rd_pick_false' rfl h6 rfl) ?_
      refine sx_nil' ?_
      show TX E K9 _
      exact tx_pick' [0, 1] (sub_cons rfl (sub_cons rfl (sub_cons rfl sub_nil))) (by decide) (pick_cons rfl (pick_cons rfl pick_nil)) (hK9 (!decide ((a0_6.length : Int) = (a1_6.length : Int))) hp)
     intro K8 hK8
     rcases br_cases hp with ⟨h5, hp⟩ | ⟨h5, hp⟩
     ·refine sx_skip' rfl rfl (wt_is' (wt_guard' rfl rfl rfl) (beq_tf h5)) ?_
      refine sx_skip' rfl rfl (wt_is' (wt_guard' rfl rfl rfl) (beq_tf h5)) ?_
      refine sx_skip' rfl rfl (wt_is' (wt_guard' rfl rfl rfl) (beq_tf h5)) ?_
      refine sx_skip' rfl rfl (wt_is' (wt_guard' rfl rfl rfl) (beq_tf h5)) ?_
      refine sx_skip' rfl rfl (wt_is' (wt_guard' rfl rfl rfl) (beq_tf h5)) ?_
      refine sx_skip' rfl rfl (wt_is' (wt_guard' rfl rfl rfl) (beq_tf h5)) ?_
      refine sx_skip' rfl rfl (wt_is' (wt_guard' rfl rfl rfl) (beq_tf h5)) ?_
      refine s0 (rd_pick_true' rfl h5 rfl) ?_
      refine sx_nil' ?_
      show TX E K8 _
      exact tx_pick' [0, 1] (sub_cons rfl (sub_cons rfl (sub_cons rfl sub_nil))) (by decide) (pick_cons rfl (pick_cons rfl pick_nil)) (hK8 true hp)
     refine sx_rd' (rd_field' (off := 5) rfl Try.underlying27 rfl info24 rfl) rfl rfl (wt_is' (wt_guard' rfl rfl rfl) (beq_ff h5)) ?_
     refine sx_rd' (rd_load' (i := 0) (o := 5) rfl ⟨rfl, rfl, rfl, rfl⟩ rfl flat24) rfl rfl (wt_is' (wt_guard' rfl rfl rfl) (beq_ff h5)) ?_
     refine sx_rd' (rd_len' rfl Try.underlying24) rfl rfl (wt_is' (wt_guard' rfl rfl rfl) (beq_ff h5)) ?_
     refine sx_rd' (rd_field' (off := 5) rfl Try.underlying27 rfl info24 rfl) rfl rfl (wt_is' (wt_guard' rfl rfl rfl) (beq_ff h5)) ?_
     refine sx_rd' (rd_load' (i := 1) (o := 5) rfl ⟨rfl, rfl, rfl, rfl⟩ rfl flat24) rfl rfl (wt_is' (wt_guard' rfl rfl rfl) (beq_ff h5)) ?_
     refine sx_rd' (rd_len' rfl Try.underlying24) rfl rfl (wt_is' (wt_guard' rfl rfl rfl) (beq_ff h5)) ?_
     refine sx_rd' (rd_bin' rfl rfl eg_int ru_neq) rfl rfl (wt_is' (wt_guard' rfl rfl rfl) (beq_ff h5)) ?_
     refine s0 (rd_pick_false' rfl h5 rfl) ?_
     refine sx_nil' ?_
     show TX E K8 _
     exact tx_pick' [0, 1] (sub_cons rfl (sub_cons rfl (sub_cons rfl sub_nil))) (by decide) (pick_cons rfl (pick_cons rfl pick_nil)) (hK8 (!decide ((a0_5.length : Int) = (a1_5.length : Int))) hp)
    intro K7 hK7
    rcases br_cases hp with ⟨h4, hp⟩ | ⟨h4, hp⟩
    ·refine sx_skip' rfl rfl (wt_is' (wt_guard' rfl rfl rfl) (beq_tf h4)) ?_
     refine sx_skip' rfl rfl (wt_is' (wt_guard' rfl rfl rfl) (beq_tf h4)) ?_
     refine sx_skip' rfl rfl (wt_is' (wt_guard' rfl rfl rfl) (beq_tf h4)) ?_
     refine sx_skip' rfl rfl (wt_is' (wt_guard' rfl rfl rfl) (beq_tf h4)) ?_
     refine sx_skip' rfl rfl (wt_is' (wt_guard' rfl rfl rfl) (beq_tf h4)) ?_
     refine sx_skip' rfl rfl (wt_is' (wt_guard' rfl rfl rfl) (beq_tf h4)) ?_
     refine s0 (rd_pick_true' rfl h4 rfl) ?_
     refine sx_nil' ?_
     show TX E K7 _
     exact tx_pick' [0, 1] (sub_cons rfl (sub_cons rfl (sub_cons rfl sub_nil))) (by decide) (pick_cons rfl (pick_cons rfl pick_nil)) (hK7 true hp)
    refine sx_rd' (rd_field' (off := 4) rfl Try.underlying27 rfl info23 rfl) rfl rfl (wt_is' (wt_guard' rfl rfl rfl) (beq_ff h4)) ?_
    refine sx_rd' (rd_load' (i := 0) (o := 4) rfl ⟨rfl, rfl, rfl, rfl⟩ rfl flat23) rfl rfl (wt_is' (wt_guard' rfl rfl rfl) (beq_ff h4)) ?_
    refine sx_rd' (rd_field' (off := 4) rfl Try.underlying27 rfl info23 rfl) rfl rfl (wt_is' (wt_guard' rfl rfl rfl) (beq_ff h4)) ?_
    refine sx_rd' (rd_load' (i := 1) (o := 4) rfl ⟨rfl, rfl, rfl, rfl⟩ rfl flat23) rfl rfl (wt_is' (wt_guard' rfl rfl rfl) (beq_ff h4)) ?_
    obtain ⟨r41, hr41, hp⟩ := bind_some hp
    refine sx_ox' (ox_calln' (ent_fn' Try.func36 isn36 rfl rfl) (spec_sameInts_v2_sim _ _ hr41 : Sx.Fn Try.prog 36 [(Sl (Ki .i64) a0_4), (Sl (Ki .i64) a1_4)] [] (fun x : Unit => (Vb r41)) (fun x => [])) (Hn := fun x : Unit => [⟨.pointer (some q2), [(Vi a0_0), (Vi a0_1), (Vi a0_2), (Sl Kf a0_3), (Sl (Ki .i64) a0_4), (Sl (Kl (Ki .i64)) a0_5), (Sl KT27 a0_6)], 27, none⟩, ⟨.pointer (some q3), [(Vi a1_0), (Vi a1_1), (Vi a1_2), (Sl Kf a1_3), (Sl (Ki .i64) a1_4), (Sl (Kl (Ki .i64)) a1_5), (Sl KT27 a1_6)], 27, none⟩]) (fun _ => rfl) rfl rfl) (wt_is' (wt_guard' rfl rfl rfl) (beq_ff h4)) fun ⟨⟩ => ?_
    refine sx_rd' (rd_un' rfl ru_not) rfl rfl (wt_is' (wt_guard' rfl rfl rfl) (beq_ff h4)) ?_
    refine s0 (rd_pick_false' rfl h4 rfl) ?_
    refine sx_nil' ?_
    show TX E K7 _
    exact tx_pick' [0, 1] (sub_cons rfl (sub_cons rfl (sub_cons rfl sub_nil))) (by decide) (pick_cons rfl (pick_cons rfl pick_nil)) (hK7 (!r41) hp)
   intro K6 hK6
   rcases br_cases hp with ⟨h3, hp⟩ | ⟨h3, hp⟩
   ·refine sx_skip' rfl rfl (wt_is' (wt_guard' rfl rfl rfl) (beq_tf h3)) ?_
    refine sx_skip' rfl rfl (wt_is' (wt_guard' rfl rfl rfl) (beq_tf h3)) ?_
    refine sx_skip' rfl rfl (wt_is' (wt_guard' rfl rfl rfl) (beq_tf h3)) ?_
    refine sx_skip' rfl rfl (wt_is' (wt_guard' rfl rfl rfl) (beq_tf h3)) ?_
    refine sx_skip' rfl rfl (wt_is' (wt_guard' rfl rfl rfl) (beq_tf h3)) ?_
    refine sx_skip' rfl rfl (wt_is' (wt_guard' rfl rfl rfl) (beq_tf h3)) ?_
    refine s0 (rd_pick_true' rfl h3 rfl) ?_
    refine sx_nil' ?_
    show TX E K6 _
    exact tx_pick' [0, 1] (sub_cons rfl (sub_cons rfl (sub_cons rfl sub_nil))) (by decide) (pick_cons rfl (pick_cons rfl pick_nil)) (hK6 true hp)
   refine sx_rd' (rd_field' (off := 3) rfl Try.underlying27 rfl info22 rfl) rfl rfl (wt_is' (wt_guard' rfl rfl rfl) (beq_ff h3)) ?_
   refine sx_rd' (rd_load' (i := 0) (o := 3) rfl ⟨rfl, rfl, rfl, rfl⟩ rfl flat22) rfl rfl (wt_is' (wt_guard' rfl rfl rfl) (beq_ff h3)) ?_
   refine sx_rd' (rd_field' (off := 3) rfl Try.underlying27 rfl info22 rfl) rfl rfl (wt_is' (wt_guard' rfl rfl rfl) (beq_ff h3)) ?_
   refine sx_rd' (rd_load' (i := 1) (o := 3) rfl ⟨rfl, rfl, rfl, rfl⟩ rfl flat22) rfl rfl (wt_is' (wt_guard' rfl rfl rfl) (beq_ff h3)) ?_
   obtain ⟨r33, hr33, hp⟩ := bind_some hp
   refine sx_ox' (ox_calln' (ent_fn' Try.func35 isn35 rfl rfl) (spec_SameFloats_v2_sim _ _ hr33 : Sx.Fn Try.prog 35 [(Sl Kf a0_3), (Sl Kf a1_3)] [] (fun x : Unit => (Vb r33)) (fun x => [])) (Hn := fun x : Unit => [⟨.pointer (some q2), [(Vi a0_0), (Vi a0_1), (Vi a0_2), (Sl Kf a0_3), (Sl (Ki .i64) a0_4), (Sl (Kl (Ki .i64)) a0_5), (Sl KT27 a0_6)], 27, none⟩, ⟨.pointer (some q3), [(Vi a1_0), (Vi a1_1), (Vi a1_2), (Sl Kf a1_3), (Sl (Ki .i64) a1_4), (Sl (Kl (Ki .i64)) a1_5), (Sl KT27 a1_6)], 27, none⟩]) (fun _ => rfl) rfl rfl) (wt_is' (wt_guard' rfl rfl rfl) (beq_ff h3)) fun ⟨⟩ => ?_
   refine sx_rd' (rd_un' rfl ru_not) rfl rfl (wt_is' (wt_guard' rfl rfl rfl) (beq_ff h3)) ?_
   refine s0 (rd_pick_false' rfl h3 rfl) ?_
   refine sx_nil' ?_
   show TX E K6 _
   exact tx_pick' [0, 1] (sub_cons rfl (sub_cons rfl (sub_cons rfl sub_nil))) (by decide) (pick_cons rfl (pick_cons rfl pick_nil)) (hK6 (!r33) hp)
  intro K5 hK5
  rcases br_cases hp with ⟨h2, hp⟩ | ⟨h2, hp⟩
  ·refine sx_skip' rfl rfl (wt_is' (wt_guard' rfl rfl rfl) (beq_tf h2)) ?_
   refine sx_skip' rfl rfl (wt_is' (wt_guard' rfl rfl rfl) (beq_tf h2)) ?_
   refine sx_skip' rfl rfl (wt_is' (wt_guard' rfl rfl rfl) (beq_tf h2)) ?_
   refine sx_skip' rfl rfl (wt_is' (wt_guard' rfl rfl rfl) (beq_tf h2)) ?_
   refine sx_skip' rfl rfl (wt_is' (wt_guard' rfl rfl rfl) (beq_tf h2)) ?_
   refine s0 (rd_pick_true' rfl h2 rfl) ?_
   refine sx_nil' ?_
   show TX E K5 _
   exact tx_pick' [0, 1] (sub_cons rfl (sub_cons rfl (sub_cons rfl sub_nil))) (by decide) (pick_cons rfl (pick_cons rfl pick_nil)) (hK5 true hp)
  refine sx_rd' (rd_field' (off := 2) rfl Try.underlying27 rfl info3 rfl) rfl rfl (wt_is' (wt_guard' rfl rfl rfl) (beq_ff h2)) ?_
  refine sx_rd' (rd_load' (i := 0) (o := 2) rfl ⟨rfl, rfl, rfl, rfl⟩ rfl flat3) rfl rfl (wt_is' (wt_guard' rfl rfl rfl) (beq_ff h2)) ?_
  refine sx_rd' (rd_field' (off := 2) rfl Try.underlying27 rfl info3 rfl) rfl rfl (wt_is' (wt_guard' rfl rfl rfl) (beq_ff h2)) ?_
  refine sx_rd' (rd_load' (i := 1) (o := 2) rfl ⟨rfl, rfl, rfl, rfl⟩ rfl flat3) rfl rfl (wt_is' (wt_guard' rfl rfl rfl) (beq_ff h2)) ?_
  refine sx_rd' (rd_bin' rfl rfl eg_int ru_neq) rfl rfl (wt_is' (wt_guard' rfl rfl rfl) (beq_ff h2)) ?_
  refine s0 (rd_pick_false' rfl h2 rfl) ?_
  refine sx_nil' ?_
  show TX E K5 _
  exact tx_pick' [0, 1] (sub_cons rfl (sub_cons rfl (sub_cons rfl sub_nil))) (by decide) (pick_cons rfl (pick_cons rfl pick_nil)) (hK5 (!decide (a0_2 = a1_2)) hp)
 intro K4 hK4
 rcases br_cases hp with ⟨h1, hp⟩ | ⟨h1, hp⟩
 ·refine sx_skip' rfl rfl (wt_is' (wt_guard' rfl rfl rfl) (beq_tf h1)) ?_
  refine sx_skip' rfl rfl (wt_is' (wt_guard' rfl rfl rfl) (beq_tf h1)) ?_
  refine sx_skip' rfl rfl (wt_is' (wt_guard' rfl rfl rfl) (beq_tf h1)) ?_
  refine sx_skip' rfl rfl (wt_is' (wt_guard' rfl rfl rfl) (beq_tf h1)) ?_
  refine sx_skip' rfl rfl (wt_is' (wt_guard' rfl rfl rfl) (beq_tf h1)) ?_
  refine s0 (rd_pick_true' rfl h1 rfl) ?_
  refine sx_nil' ?_
  show TX E K4 _
  exact tx_pick' [1, 0] (sub_cons rfl (sub_cons rfl (sub_cons rfl sub_nil))) (by decide) (pick_cons rfl (pick_cons rfl pick_nil)) (hK4 true hp)
 refine sx_rd' (rd_field' (off := 1) rfl Try.underlying27 rfl info3 rfl) rfl rfl (wt_is' (wt_guard' rfl rfl rfl) (beq_ff h1)) ?_
 refine sx_rd' (rd_load' (i := 1) (o := 1) rfl ⟨rfl, rfl, rfl, rfl⟩ rfl flat3) rfl rfl (wt_is' (wt_guard' rfl rfl rfl) (beq_ff h1)) ?_
 refine sx_rd' (rd_field' (off := 1) rfl Try.underlying27 rfl info3 rfl) rfl rfl (wt_is' (wt_guard' rfl rfl rfl) (beq_ff h1)) ?_
 refine sx_rd' (rd_load' (i := 0) (o := 1) rfl ⟨rfl, rfl, rfl, rfl⟩ rfl flat3) rfl rfl (wt_is' (wt_guard' rfl rfl rfl) (beq_ff h1)) ?_
 refine sx_rd' (rd_bin' rfl rfl eg_int ru_neq) rfl rfl (wt_is' (wt_guard' rfl rfl rfl) (beq_ff h1)) ?_
 refine s0 (rd_pick_false' rfl h1 rfl) ?_
 refine sx_nil' ?_
 show TX E K4 _
 exact tx_pick' [1, 0] (sub_cons rfl (sub_cons rfl (sub_cons rfl sub_nil))) (by decide) (pick_cons rfl (pick_cons rfl pick_nil)) (hK4 (!decide (a0_1 = a1_1)) hp)
theorem spec_SameGeom_v2_simA : ∀ (k : Nat)  (a0_0 : Int) (a0_1 : Int) (a0_2 : Int) (a0_3 : List Nat) (a0_4 : List Int) (a0_5 : List (List Int)) (a0_6 : List T27) (a1_0 : Int) (a1_1 : Int) (a1_2 : Int) (a1_3 : List Nat) (a1_4 : List Int) (a1_5 : List (List Int)) (a1_6 : List T27) (out : Bool), spec_SameGeom_v2 k a0_0 a0_1 a0_2 a0_3 a0_4 a0_5 a0_6 a1_0 a1_1 a1_2 a1_3 a1_4 a1_5 a1_6 = some out → Sx.Fn Try.prog 13 [(Ag [(Vi a0_0), (Vi a0_1), (Vi a0_2), (Sl Kf a0_3), (Sl (Ki .i64) a0_4), (Sl (Kl (Ki .i64)) a0_5), (Sl KT27 a0_6)]), (Ag [(Vi a1_0), (Vi a1_1), (Vi a1_2), (Sl Kf a1_3), (Sl (Ki .i64) a1_4), (Sl (Kl (Ki .i64)) a1_5), (Sl KT27 a1_6)])] [] (fun w : Unit => (Vb out)) (fun w => []) := by
 intro k
 induction k with
 | zero => intro a0_0 a0_1 a0_2 a0_3 a0_4 a0_5 a0_6 a1_0 a1_1 a1_2 a1_3 a1_4 a1_5 a1_6 out hp; cases hp
 | succ k ih => intro a0_0 a0_1 a0_2 a0_3 a0_4 a0_5 a0_6 a1_0 a1_1 a1_2 a1_3 a1_4 a1_5 a1_6 out hp; exact spec_SameGeom_v2_b_sim ih a0_0 a0_1 a0_2 a0_3 a0_4 a0_5 a0_6 a1_0 a1_1 a1_2 a1_3 a1_4 a1_5 a1_6 hp
theorem spec_SameGeom_v2_sim {k : Nat}  (a0_0 : Int) (a0_1 : Int) (a0_2 : Int) (a0_3 : List Nat) (a0_4 : List Int) (a0_5 : List (List Int)) (a0_6 : List T27) (a1_0 : Int) (a1_1 : Int) (a1_2 : Int) (a1_3 : List Nat) (a1_4 : List Int) (a1_5 : List (List Int)) (a1_6 : List T27) {out : Bool} (hp : spec_SameGeom_v2 k a0_0 a0_1 a0_2 a0_3 a0_4 a0_5 a0_6 a1_0 a1_1 a1_2 a1_3 a1_4 a1_5 a1_6 = some out) : Sx.Fn Try.prog 13 [(Ag [(Vi a0_0), (Vi a0_1), (Vi a0_2), (Sl Kf a0_3), (Sl (Ki .i64) a0_4), (Sl (Kl (Ki .i64)) a0_5), (Sl KT27 a0_6)]), (Ag [(Vi a1_0), (Vi a1_1), (Vi a1_2), (Sl Kf a1_3), (Sl (Ki .i64) a1_4), (Sl (Kl (Ki .i64)) a1_5), (Sl KT27 a1_6)])] [] (fun w : Unit => (Vb out)) (fun w => []) := spec_SameGeom_v2_simA k a0_0 a0_1 a0_2 a0_3 a0_4 a0_5 a0_6 a1_0 a1_1 a1_2 a1_3 a1_4 a1_5 a1_6 out hp

def spec_SameGeom_l1s (a0_6 : List T27) (a1_6 : List T27) (k : Nat) (rec1 : Int → Option (Unit ⊕ Unit)) (x7 : Int) : Option (Unit ⊕ Unit) :=
 br (decide (x7 < (a0_6.length : Int)))
  ((idx a0_6 x7) >>= fun r85 =>
  (idx a1_6 x7) >>= fun r91 =>
  (spec_SameGeom_v2 k r85.f0 r85.f1 r85.f2 r85.f3 r85.f4 r85.f5 r85.f6 r91.f0 r91.f1 r91.f2 r91.f3 r91.f4 r91.f5 r91.f6) >>= fun r93 =>
  br (!r93)
   (some (.inl ()))
   (rec1 (iadd .i64 x7 1)))
  (some (.inr ()))
def spec_SameGeom_l1 (a0_6 : List T27) (a1_6 : List T27) : Nat → Int → Option (Unit ⊕ Unit)
 | 0, _ => none
 | k + 1, v => spec_SameGeom_l1s a0_6 a1_6 k (spec_SameGeom_l1 a0_6 a1_6 k) v
def spec_SameGeom_j6 (k : Nat) (a0_6 : List T27) (a1_6 : List T27) (x6 : Bool) : Option (Bool) :=
 br x6
  (some false)
  ((spec_SameGeom_l1 a0_6 a1_6 k 0) >>= fun y1 => match y1 with
   | (.inl v8) =>
    (some false)
   | (.inr v9) =>
    (some true))
def spec_SameGeom_j5 (k : Nat) (a0_6 : List T27) (a1_6 : List T27) (x5 : Bool) : Option (Bool) :=
 br x5
  (spec_SameGeom_j6 k a0_6 a1_6 true)
  (spec_SameGeom_j6 k a0_6 a1_6 (!decide ((a0_6.length : Int) = (a1_6.length : Int))))
def spec_SameGeom_j4 (k : Nat) (a0_6 : List T27) (a1_6 : List T27) (a1_5 : List (List Int)) (x4 : Bool) : Option (Bool) :=
 br x4
  (spec_SameGeom_j5 k a0_6 a1_6 true)
  (spec_SameGeom_j5 k a0_6 a1_6 (!decide (((0 : Nat) : Int) = (a1_5.length : Int))))
def spec_SameGeom_j3 (k : Nat) (a0_6 : List T27) (a1_6 : List T27) (a1_5 : List (List Int)) (a1_4 : List Int) (x3 : Bool) : Option (Bool) :=
 br x3
  (spec_SameGeom_j4 k a0_6 a1_6 a1_5 true)
  ((spec_sameInts k a1_4) >>= fun r41 =>
  spec_SameGeom_j4 k a0_6 a1_6 a1_5 (!r41))
def spec_SameGeom_j2 (k : Nat) (a0_6 : List T27) (a1_6 : List T27) (a1_5 : List (List Int)) (a1_4 : List Int) (a1_3 : List Nat) (x2 : Bool) : Option (Bool) :=
 br x2
  (spec_SameGeom_j3 k a0_6 a1_6 a1_5 a1_4 true)
  ((spec_SameFloats k a1_3) >>= fun r33 =>
  spec_SameGeom_j3 k a0_6 a1_6 a1_5 a1_4 (!r33))
def spec_SameGeom_j1 (k : Nat) (a0_6 : List T27) (a1_6 : List T27) (a1_5 : List (List Int)) (a1_4 : List Int) (a1_3 : List Nat) (a0_2 : Int) (a1_2 : Int) (x1 : Bool) : Option (Bool) :=
 br x1
  (spec_SameGeom_j2 k a0_6 a1_6 a1_5 a1_4 a1_3 true)
  (spec_SameGeom_j2 k a0_6 a1_6 a1_5 a1_4 a1_3 (!decide (a0_2 = a1_2)))
def spec_SameGeom (k : Nat) (a0_0 : Int) (a0_1 : Int) (a0_2 : Int) (a0_6 : List T27) (a1_0 : Int) (a1_1 : Int) (a1_2 : Int) (a1_3 : List Nat) (a1_4 : List Int) (a1_5 : List (List Int)) (a1_6 : List T27) : Option (Bool) :=
 br (!decide (a0_0 = a1_0))
  (spec_SameGeom_j1 k a0_6 a1_6 a1_5 a1_4 a1_3 a0_2 a1_2 true)
  (spec_SameGeom_j1 k a0_6 a1_6 a1_5 a1_4 a1_3 a0_2 a1_2 (!decide (a0_1 = a1_1)))

theorem spec_SameGeom_sim {k : Nat}  (a0_0 : Int) (a0_1 : Int) (a0_2 : Int) (a0_6 : List T27) (a1_0 : Int) (a1_1 : Int) (a1_2 : Int) (a1_3 : List Nat) (a1_4 : List Int) (a1_5 : List (List Int)) (a1_6 : List T27) {out : Bool} (hp : spec_SameGeom k a0_0 a0_1 a0_2 a0_6 a1_0 a1_1 a1_2 a1_3 a1_4 a1_5 a1_6 = some out) : Sx.Fn Try.prog 13 [(Ag [(Vi a0_0), (Vi a0_1), (Vi a0_2), Vn, Vn, Vn, (Sl KT27 a0_6)]), (Ag [(Vi a1_0), (Vi a1_1), (Vi a1_2), (Sl Kf a1_3), (Sl (Ki .i64) a1_4), (Sl (Kl (Ki .i64)) a1_5), (Sl KT27 a1_6)])] [] (fun w : Unit => (Vb out)) (fun w => []) := by
 unfold spec_SameGeom at hp
 refine fn_of Try.func13 rfl Try.ntmps13 rfl fun E hM => ?_
 refine cr fun K1 hK1 => ?_
 refine sx_ox' (ox_box' rfl (lv_ag _) rfl rfl) (wt_none' rfl) fun q2 => ?_
 refine sx_ox' (ox_box' rfl (lv_ag _) rfl rfl) (wt_none' rfl) fun q3 => ?_
 refine s0 (rd_assign' rfl) ?_
 refine nk hK1 ?_
 refine cx_seq' fun K2 hK2 => ?_
 refine cr fun K3 hK3 => ?_
 refine s0 (rd_field0' rfl Try.underlying27 rfl info3 rfl) ?_
 refine s0 (rd_load' (i := 1) (o := 0) rfl ⟨rfl, rfl, rfl, rfl⟩ rfl flat3) ?_
 refine s0 (rd_field0' rfl Try.underlying27 rfl info3 rfl) ?_
 refine s0 (rd_load' (i := 0) (o := 0) rfl ⟨rfl, rfl, rfl, rfl⟩ rfl flat3) ?_
 refine s0 (rd_bin' rfl rfl eg_int ru_neq) ?_
 refine s0 (rd_move' rfl) ?_
 refine sx_cutn' 6 (fun (v1 : Bool) => (⟨96, [], [(2, (Vp q2)), (3, (Vp q3)), (20, (Vb v1))], [⟨.pointer (some q2), [(Vi a0_0), (Vi a0_1), (Vi a0_2), Vn, Vn, Vn, (Sl KT27 a0_6)], 27, none⟩, ⟨.pointer (some q3), [(Vi a1_0), (Vi a1_1), (Vi a1_2), (Sl Kf a1_3), (Sl (Ki .i64) a1_4), (Sl (Kl (Ki .i64)) a1_5), (Sl KT27 a1_6)], 27, none⟩]⟩ : St)) (fun (v1 : Bool) => spec_SameGeom_j1 k a0_6 a1_6 a1_5 a1_4 a1_3 a0_2 a1_2 v1 = some out) ?_ ?_
 ·rintro x1 hp
  replace hp : spec_SameGeom_j1 k a0_6 a1_6 a1_5 a1_4 a1_3 a0_2 a1_2 x1 = some out := hp
  unfold spec_SameGeom_j1 at hp
  refine s0 (rd_move' rfl) ?_
  refine sx_cutn' 6 (fun (v2 : Bool) => (⟨96, [], [(2, (Vp q2)), (3, (Vp q3)), (27, (Vb v2))], [⟨.pointer (some q2), [(Vi a0_0), (Vi a0_1), (Vi a0_2), Vn, Vn, Vn, (Sl KT27 a0_6)], 27, none⟩, ⟨.pointer (some q3), [(Vi a1_0), (Vi a1_1), (Vi a1_2), (Sl Kf a1_3), (Sl (Ki .i64) a1_4), (Sl (Kl (Ki .i64)) a1_5), (Sl KT27 a1_6)], 27, none⟩]⟩ : St)) (fun (v2 : Bool) => spec_SameGeom_j2 k a0_6 a1_6 a1_5 a1_4 a1_3 v2 = some out) ?_ ?_
  ·rintro x2 hp
   replace hp : spec_SameGeom_j2 k a0_6 a1_6 a1_5 a1_4 a1_3 x2 = some out := hp
   unfold spec_SameGeom_j2 at hp
   refine s0 (rd_move' rfl) ?_
   refine sx_cutn' 7 (fun (v3 : Bool) => (⟨96, [], [(2, (Vp q2)), (3, (Vp q3)), (35, (Vb v3))], [⟨.pointer (some q2), [(Vi a0_0), (Vi a0_1), (Vi a0_2), Vn, Vn, Vn, (Sl KT27 a0_6)], 27, none⟩, ⟨.pointer (some q3), [(Vi a1_0), (Vi a1_1), (Vi a1_2), (Sl Kf a1_3), (Sl (Ki .i64) a1_4), (Sl (Kl (Ki .i64)) a1_5), (Sl KT27 a1_6)], 27, none⟩]⟩ : St)) (fun (v3 : Bool) => spec_SameGeom_j3 k a0_6 a1_6 a1_5 a1_4 v3 = some out) ?_ ?_
   ·rintro x3 hp
    replace hp : spec_SameGeom_j3 k a0_6 a1_6 a1_5 a1_4 x3 = some out := hp
    unfold spec_SameGeom_j3 at hp
    refine s0 (rd_move' rfl) ?_
    refine sx_cutn' 7 (fun (v4 : Bool) => (⟨96, [], [(2, (Vp q2)), (3, (Vp q3)), (43, (Vb v4))], [⟨.pointer (some q2), [(Vi a0_0), (Vi a0_1), (Vi a0_2), Vn, Vn, Vn, (Sl KT27 a0_6)], 27, none⟩, ⟨.pointer (some q3), [(Vi a1_0), (Vi a1_1), (Vi a1_2), (Sl Kf a1_3), (Sl (Ki .i64) a1_4), (Sl (Kl (Ki .i64)) a1_5), (Sl KT27 a1_6)], 27, none⟩]⟩ : St)) (fun (v4 : Bool) => spec_SameGeom_j4 k a0_6 a1_6 a1_5 v4 = some out) ?_ ?_
    ·rintro x4 hp
     replace hp : spec_SameGeom_j4 k a0_6 a1_6 a1_5 x4 = some out := hp
     unfold spec_SameGeom_j4 at hp
     refine s0 (rd_move' rfl) ?_
     refine sx_cutn' 8 (fun (v5 : Bool) => (⟨96, [], [(2, (Vp q2)), (3, (Vp q3)), (52, (Vb v5))], [⟨.pointer (some q2), [(Vi a0_0), (Vi a0_1), (Vi a0_2), Vn, Vn, Vn, (Sl KT27 a0_6)], 27, none⟩, ⟨.pointer (some q3), [(Vi a1_0), (Vi a1_1), (Vi a1_2), (Sl Kf a1_3), (Sl (Ki .i64) a1_4), (Sl (Kl (Ki .i64)) a1_5), (Sl KT27 a1_6)], 27, none⟩]⟩ : St)) (fun (v5 : Bool) => spec_SameGeom_j5 k a0_6 a1_6 v5 = some out) ?_ ?_
     ·rintro x5 hp
      replace hp : spec_SameGeom_j5 k a0_6 a1_6 x5 = some out := hp
      unfold spec_SameGeom_j5 at hp
      refine s0 (rd_move' rfl) ?_
      refine sx_cutn' 8 (fun (v6 : Bool) => (⟨96, [], [(2, (Vp q2)), (3, (Vp q3)), (61, (Vb v6))], [⟨.pointer (some q2), [(Vi a0_0), (Vi a0_1), (Vi a0_2), Vn, Vn, Vn, (Sl KT27 a0_6)], 27, none⟩, ⟨.pointer (some q3), [(Vi a1_0), (Vi a1_1), (Vi a1_2), (Sl Kf a1_3), (Sl (Ki .i64) a1_4), (Sl (Kl (Ki .i64)) a1_5), (Sl KT27 a1_6)], 27, none⟩]⟩ : St)) (fun (v6 : Bool) => spec_SameGeom_j6 k a0_6 a1_6 v6 = some out) ?_ ?_
      ·rintro x6 hp
       replace hp : spec_SameGeom_j6 k a0_6 a1_6 x6 = some out := hp
       unfold spec_SameGeom_j6 at hp
       refine nk hK3 ?_
       refine cx_cond' rfl (fun h7 => ?_) (fun h7 => ?_)
       ·replace hp := (br_t h7).symm.trans hp
        refine cr fun K10 hK10 => ?_
        refine s0 (rd_assign' rfl) ?_
        refine nk hK10 ?_
        refine cx_retc' ?_
        replace hp := Option.some.inj hp
        subst hp
        refine tx_pick' (L' := [(4, (Vb false))]) (H' := []) [] (sub_cons rfl sub_nil) (by decide) pick_nil ?_
        exact tx_ret1' Try.results13 rfl () (rv_tmp' rfl) (List.Sublist.refl _)
       replace hp := (br_f h7).symm.trans hp
       refine cx_skip' ?_
       show TX E K2 _
       refine tx_k' hK2 ?_
       refine cx_seq' fun K11 hK11 => ?_
       refine cr fun K12 hK12 => ?_
       refine s0 (rd_field' (off := 5) rfl Try.underlying27 rfl info24 rfl) ?_
       refine s0 (rd_load' (i := 0) (o := 5) rfl ⟨rfl, rfl, rfl, rfl⟩ rfl flat24) ?_
       refine s0 (rd_lenv' rfl Try.underlying24) ?_
       refine s0 (rd_move' rfl) ?_
       refine nk hK12 ?_
       refine cx_block' ?_
       refine tx_loop' ?_
       refine tx_round' ?_
       refine cr fun K13 hK13 => ?_
       refine s0 (rd_bin' rfl rfl eg_int ru_lss) ?_
       refine nk hK13 ?_
       refine cx_seq' fun K14 hK14 => ?_
       refine cx_cond_f' rfl rfl ?_
       refine cx_exit' ?_
       show TX E K11 _
       refine tx_k' hK11 ?_
       refine cx_seq' fun K15 hK15 => ?_
       refine cr fun K16 hK16 => ?_
       refine s0 (rd_field' (off := 6) rfl Try.underlying27 rfl info25 rfl) ?_
       refine s0 (rd_load' (i := 0) (o := 6) rfl ⟨rfl, rfl, rfl, rfl⟩ rfl flat25) ?_
       refine s0 (rd_len' rfl Try.underlying25) ?_
       refine s0 (rd_move' rfl) ?_
       refine nk hK16 ?_
       refine cx_block' ?_
       obtain ⟨y1, hy1, hp⟩ := bind_some hp
       refine cx_loopg' (F := spec_SameGeom_l1 a0_6 a1_6) (G := fun k R v => spec_SameGeom_l1s a0_6 a1_6 k R v) (x := 0) (gh := ()) (fun (v7 : Int) (w7 : Unit) => (⟨96, [], [(3, (Vp q3)), (80, (Sl KT27 a0_6)), (81, (Vi (a0_6.length : Int))), (82, (Vi v7))], [⟨.pointer (some q3), [(Vi a1_0), (Vi a1_1), (Vi a1_2), (Sl Kf a1_3), (Sl (Ki .i64) a1_4), (Sl (Kl (Ki .i64)) a1_5), (Sl KT27 a1_6)], 27, none⟩]⟩ : St)) (fun (y : Unit ⊕ Unit) => match y with | (.inl v8) => Zg E Exit.ret (fun (w8 : Unit) => (⟨96, [], [(4, (Vb false))], []⟩ : St)) | (.inr v9) => Zg E (Exit.exit 2) (fun (w9 : Unit) => (⟨96, [], [], []⟩ : St))) (fun _ => rfl) (fun _ _ => rfl) ?_ hy1 (tx_to' rfl [1] (sub_cons rfl (sub_cons rfl (sub_cons rfl (sub_cons rfl sub_nil)))) (by decide) (pick_cons rfl pick_nil)) ?_
       ·clear hp hy1
        clear y1
        intro k rec1 KY1 ih1
        rintro x7 ⟨⟩ y1 hp
        replace hp : spec_SameGeom_l1s a0_6 a1_6 k rec1 x7 = some y1 := hp
        unfold spec_SameGeom_l1s at hp
        refine cr fun K23 hK23 => ?_
        refine s0 (rd_bin' rfl rfl eg_int ru_lss) ?_
        refine nk hK23 ?_
        refine cx_seq' fun K24 hK24 => ?_
        refine cx_cond' rfl (fun h11 => ?_) (fun h11 => ?_)
        ·replace hp := (br_t h11).symm.trans hp
         refine cx_skip' ?_
         show TX E K24 _
         refine tx_k' hK24 ?_
         refine cx_seq' fun K25 hK25 => ?_
         refine cx_block' ?_
         refine cr fun K26 hK26 => ?_
         refine s0 (rd_move' rfl) ?_
         obtain ⟨r85, hr85, hp⟩ := bind_some hp
         refine s0 (rd_eq' (congrArg Pt (KT27_enc r85)) (rd_at' (K := KT27) rfl rfl hr85 Try.underlying25 info27)) ?_
         refine s0 (rd_load_pt_agg' (nn := 7) rfl rfl agg27 (l' := [(Vi r85.f0), (Vi r85.f1), (Vi r85.f2), (Sl Kf r85.f3), (Sl (Ki .i64) r85.f4), (Sl (Kl (Ki .i64)) r85.f5), (Sl KT27 r85.f6)]) rfl) ?_
         refine sx_ox' (ox_alloc' info27 rfl rfl rfl rfl (l := [(Vi 0), (Vi 0), (Vi 0), Vn, Vn, Vn, Vn]) rfl) (wt_none' rfl) fun q8 => ?_
         refine s0 (rd_assign' rfl) ?_
         refine sx_ox' (ox_store' (i := 0) (o := 0) rfl rfl (lv_ag _) ⟨rfl, rfl, rfl, rfl⟩ rfl info27 rfl (H' := [⟨.pointer (some q8), [(Vi r85.f0), (Vi r85.f1), (Vi r85.f2), (Sl Kf r85.f3), (Sl (Ki .i64) r85.f4), (Sl (Kl (Ki .i64)) r85.f5), (Sl KT27 r85.f6)], 27, none⟩, ⟨.pointer (some q3), [(Vi a1_0), (Vi a1_1), (Vi a1_2), (Sl Kf a1_3), (Sl (Ki .i64) a1_4), (Sl (Kl (Ki .i64)) a1_5), (Sl KT27 a1_6)], 27, none⟩]) rfl) (wt_none' rfl) fun _ => ?_
         refine nk hK26 ?_
         refine cx_seq' fun K27 hK27 => ?_
         refine cx_plan' [] [] [(0, 1), (1, 1), (2, 1), (3, 1), (4, 1), (5, 1), (6, 0), (7, 1)] mixed (by kernel_rfl) ?_
         refine px_rd' rfl (rd_load_agg' (i := 0) (o := 0) (nn := 7) rfl ⟨rfl, rfl, rfl, rfl⟩ rfl agg27 (l' := [(Vi r85.f0), (Vi r85.f1), (Vi r85.f2), (Sl Kf r85.f3), (Sl (Ki .i64) r85.f4), (Sl (Kl (Ki .i64)) r85.f5), (Sl KT27 r85.f6)]) rfl) rfl rfl (wt_none' rfl) ?_
         refine px_rd' rfl (rd_field' (off := 6) rfl Try.underlying27 rfl info25 rfl) rfl rfl (wt_none' rfl) ?_
         refine px_rd' rfl (rd_load' (i := 1) (o := 6) rfl ⟨rfl, rfl, rfl, rfl⟩ rfl flat25) rfl rfl (wt_none' rfl) ?_
         refine px_rd' rfl (rd_move' rfl) rfl rfl (wt_none' rfl) ?_
         obtain ⟨r91, hr91, hp⟩ := bind_some hp
         refine px_rd' rfl (rd_eq' (congrArg Pt (KT27_enc r91)) (rd_at' (K := KT27) rfl rfl hr91 Try.underlying25 info27)) rfl rfl (wt_none' rfl) ?_
         refine px_rd' rfl (rd_load_pt_agg' (nn := 7) rfl rfl agg27 (l' := [(Vi r91.f0), (Vi r91.f1), (Vi r91.f2), (Sl Kf r91.f3), (Sl (Ki .i64) r91.f4), (Sl (Kl (Ki .i64)) r91.f5), (Sl KT27 r91.f6)]) rfl) rfl rfl (wt_none' rfl) ?_
         obtain ⟨r93, hr93, hp⟩ := bind_some hp
         refine px_ox' rfl (ox_calln' (ent_fn' Try.func13 isn13 rfl rfl) (spec_SameGeom_v2_sim _ _ _ _ _ _ _ _ _ _ _ _ _ _ hr93 : Sx.Fn Try.prog 13 [(Ag [(Vi r85.f0), (Vi r85.f1), (Vi r85.f2), (Sl Kf r85.f3), (Sl (Ki .i64) r85.f4), (Sl (Kl (Ki .i64)) r85.f5), (Sl KT27 r85.f6)]), (Ag [(Vi r91.f0), (Vi r91.f1), (Vi r91.f2), (Sl Kf r91.f3), (Sl (Ki .i64) r91.f4), (Sl (Kl (Ki .i64)) r91.f5), (Sl KT27 r91.f6)])] [] (fun x : Unit => (Vb r93)) (fun x => [])) (Hn := fun x : Unit => [⟨.pointer (some q8), [(Vi r85.f0), (Vi r85.f1), (Vi r85.f2), (Sl Kf r85.f3), (Sl (Ki .i64) r85.f4), (Sl (Kl (Ki .i64)) r85.f5), (Sl KT27 r85.f6)], 27, none⟩, ⟨.pointer (some q3), [(Vi a1_0), (Vi a1_1), (Vi a1_2), (Sl Kf a1_3), (Sl (Ki .i64) a1_4), (Sl (Kl (Ki .i64)) a1_5), (Sl KT27 a1_6)], 27, none⟩]) (fun _ => rfl) rfl rfl) rfl bs_nil (wt_none' rfl) fun ⟨⟩ => ?_
         refine px_rd' rfl (rd_un' rfl ru_not) rfl rfl (wt_none' rfl) ?_
         refine px_nil' ?_
         show TX E K27 _
         refine tx_k' hK27 ?_
         refine cx_cond' rfl (fun h12 => ?_) (fun h12 => ?_)
         ·replace hp := (br_t h12).symm.trans hp
          refine cr fun K28 hK28 => ?_
          refine s0 (rd_assign' rfl) ?_
          refine nk hK28 ?_
          refine cx_retc' ?_
          replace hp := Option.some.inj hp
          subst hp
          show TX E (Zg E Exit.ret _ Exit.ret) _
          exact tx_zend' () rfl [] (sub_cons rfl sub_nil) (by decide) pick_nil
         replace hp := (br_f h12).symm.trans hp
         refine cx_skip' ?_
         show TX E K25 _
         refine tx_k' hK25 ?_
         refine cx_region' ?_
         refine s0 (rd_bin' rfl rfl eg_int ru_add) ?_
         refine s0 (rd_move' rfl) ?_
         refine sx_nil' ?_
         show TX E (KY1 _) _
         exact tx_pick' [1] (sub_cons rfl (sub_cons rfl (sub_cons rfl (sub_cons rfl sub_nil)))) (by decide) (pick_cons rfl pick_nil) (ih1 (iadd .i64 x7 1) () _ hp)
        replace hp := (br_f h11).symm.trans hp
        refine cx_exit' ?_
        replace hp := Option.some.inj hp
        subst hp
        show TX E (Zg E (Exit.exit 2) _ (Exit.exit 2)) _
        exact tx_zend' () rfl [] sub_nil (by decide) pick_nil
       rcases y1 with v8 | v9
       ·dsimp only at hp
        refine zg_out fun w8 => ?_
        replace hp := Option.some.inj hp
        subst hp
        refine tx_pick' (L' := [(4, (Vb false))]) (H' := []) [] (sub_cons rfl sub_nil) (by decide) pick_nil ?_
        exact tx_ret1' Try.results13 rfl () (rv_tmp' rfl) (List.Sublist.refl _)
       dsimp only at hp
       refine zg_out fun w9 => ?_
       show TX E K15 _
       refine tx_k' hK15 ?_
       refine cr fun K29 hK29 => ?_
       refine s0 (rd_assign' rfl) ?_
       refine nk hK29 ?_
       refine cx_retc' ?_
       replace hp := Option.some.inj hp
       subst hp
       refine tx_pick' (L' := [(4, (Vb true))]) (H' := []) [] (sub_cons rfl sub_nil) (by decide) pick_nil ?_
       exact tx_ret1' Try.results13 rfl () (rv_tmp' rfl) (List.Sublist.refl _)
      intro K9 hK9
      rcases br_cases hp with ⟨h6, hp⟩ | ⟨h6, hp⟩
      ·refine sx_skip' rfl rfl (wt_is' (wt_guard' rfl rfl rfl) (beq_tf h6)) ?_
       refine sx_skip' rfl rfl (wt_is' (wt_guard' rfl rfl rfl) (beq_tf h6)) ?_
       refine sx_skip' rfl rfl (wt_is' (wt_guard' rfl rfl rfl) (beq_tf h6)) ?_
       refine sx_skip' rfl rfl (wt_is' (wt_guard' rfl rfl rfl) (beq_tf h6)) ?_
       refine sx_skip' rfl rfl (wt_is' (wt_guard' rfl rfl rfl) (beq_tf h6)) ?_
       refine sx_skip' rfl rfl (wt_is' (wt_guard' rfl rfl rfl) (beq_tf h6)) ?_
       refine sx_skip' rfl rfl (wt_is' (wt_guard' rfl rfl rfl) (beq_tf h6)) ?_
       refine s0 (rd_pick_true' rfl h6 rfl) ?_
       refine sx_nil' ?_
       show TX E K9 _
       exact tx_pick' [0, 1] (sub_cons rfl (sub_cons rfl (sub_cons rfl sub_nil))) (by decide) (pick_cons rfl (pick_cons rfl pick_nil)) (hK9 true hp)
      refine sx_rd' (rd_field' (off := 6) rfl Try.underlying27 rfl info25 rfl) rfl rfl (wt_is' (wt_guard' rfl rfl rfl) (beq_ff h6)) ?_
      refine sx_rd' (rd_load' (i := 0) (o := 6) rfl ⟨rfl, rfl, rfl, rfl⟩ rfl flat25) rfl rfl (wt_is' (wt_guard' rfl rfl rfl) (beq_ff h6)) ?_
      refine sx_rd' (rd_len' rfl Try.underlying25) rfl rfl (wt_is' (wt_guard' rfl rfl rfl) (beq_ff h6)) ?_
      refine sx_rd' (rd_field' (off := 6) rfl Try.underlying27 rfl info25 rfl) rfl rfl (wt_is' (wt_guard' rfl rfl rfl) (beq_ff h6)) ?_
      refine sx_rd' (rd_load' (i := 1) (o := 6) rfl ⟨rfl, rfl, rfl, rfl⟩ rfl flat25) rfl rfl (wt_is' (wt_guard' rfl rfl rfl) (beq_ff h6)) ?_
      refine sx_rd' (rd_len' rfl Try.underlying25) rfl rfl (wt_is' (wt_guard' rfl rfl rfl) (beq_ff h6)) ?_
      refine sx_rd' (rd_bin' rfl rfl eg_int ru_neq) rfl rfl (wt_is' (wt_guard' rfl rfl rfl) (beq_ff h6)) ?_
      refine s0 (rd_pick_false' rfl h6 rfl) ?_
      refine sx_nil' ?_
      show TX E K9 _
      exact tx_pick' [0, 1] (sub_cons rfl (sub_cons rfl (sub_cons rfl sub_nil))) (by decide) (pick_cons rfl (pick_cons rfl pick_nil)) (hK9 (!decide ((a0_6.length : Int) = (a1_6.length : Int))) hp)
     intro K8 hK8
     rcases br_cases hp with ⟨h5, hp⟩ | ⟨h5, hp⟩
     ·refine sx_skip' rfl rfl (wt_is' (wt_guard' rfl rfl rfl) (beq_tf h5)) ?_
      refine sx_skip' rfl rfl (wt_is' (wt_guard' rfl rfl rfl) (beq_tf h5)) ?_
      refine sx_skip' rfl rfl (wt_is' (wt_guard' rfl rfl rfl) (beq_tf h5)) ?_
      refine sx_skip' rfl rfl (wt_is' (wt_guard' rfl rfl rfl) (beq_tf h5)) ?_
      refine sx_skip' rfl rfl (wt_is' (wt_guard' rfl rfl rfl) (beq_tf h5)) ?_
      refine sx_skip' rfl rfl (wt_is' (wt_guard' rfl rfl rfl) (beq_tf h5)) ?_
      refine sx_skip' rfl rfl (wt_is' (wt_guard' rfl rfl rfl) (beq_tf h5)) ?_
      refine s0 (rd_pick_true' rfl h5 rfl) ?_
      refine sx_nil' ?_
      show TX E K8 _
      exact tx_pick' [0, 1] (sub_cons rfl (sub_cons rfl (sub_cons rfl sub_nil))) (by decide) (pick_cons rfl (pick_cons rfl pick_nil)) (hK8 true hp)
     refine sx_rd' (rd_field' (off := 5) rfl Try.underlying27 rfl info24 rfl) rfl rfl (wt_is' (wt_guard' rfl rfl rfl) (beq_ff h5)) ?_
     refine sx_rd' (rd_load' (i := 0) (o := 5) rfl ⟨rfl, rfl, rfl, rfl⟩ rfl flat24) rfl rfl (wt_is' (wt_guard' rfl rfl rfl) (beq_ff h5)) ?_
     refine sx_rd' (rd_lenv' rfl Try.underlying24) rfl rfl (wt_is' (wt_guard' rfl rfl rfl) (beq_ff h5)) ?_
     refine sx_rd' (rd_field' (off := 5) rfl Try.underlying27 rfl info24 rfl) rfl rfl (wt_is' (wt_guard' rfl rfl rfl) (beq_ff h5)) ?_
     refine sx_rd' (rd_load' (i := 1) (o := 5) rfl ⟨rfl, rfl, rfl, rfl⟩ rfl flat24) rfl rfl (wt_is' (wt_guard' rfl rfl rfl) (beq_ff h5)) ?_
     refine sx_rd' (rd_len' rfl Try.underlying24) rfl rfl (wt_is' (wt_guard' rfl rfl rfl) (beq_ff h5)) ?_
     refine sx_rd' (rd_bin' rfl rfl eg_int ru_neq) rfl rfl (wt_is' (wt_guard' rfl rfl rfl) (beq_ff h5)) ?_
     refine s0 (rd_pick_false' rfl h5 rfl) ?_
     refine sx_nil' ?_
     show TX E K8 _
     exact tx_pick' [0, 1] (sub_cons rfl (sub_cons rfl (sub_cons rfl sub_nil))) (by decide) (pick_cons rfl (pick_cons rfl pick_nil)) (hK8 (!decide (((0 : Nat) : Int) = (a1_5.length : Int))) hp)
    intro K7 hK7
    rcases br_cases hp with ⟨h4, hp⟩ | ⟨h4, hp⟩
    ·refine sx_skip' rfl rfl (wt_is' (wt_guard' rfl rfl rfl) (beq_tf h4)) ?_
     refine sx_skip' rfl rfl (wt_is' (wt_guard' rfl rfl rfl) (beq_tf h4)) ?_
     refine sx_skip' rfl rfl (wt_is' (wt_guard' rfl rfl rfl) (beq_tf h4)) ?_
     refine sx_skip' rfl rfl (wt_is' (wt_guard' rfl rfl rfl) (beq_tf h4)) ?_
     refine sx_skip' rfl rfl (wt_is' (wt_guard' rfl rfl rfl) (beq_tf h4)) ?_
     refine sx_skip' rfl rfl (wt_is' (wt_guard' rfl rfl rfl) (beq_tf h4)) ?_
     refine s0 (rd_pick_true' rfl h4 rfl) ?_
     refine sx_nil' ?_
     show TX E K7 _
     exact tx_pick' [0, 1] (sub_cons rfl (sub_cons rfl (sub_cons rfl sub_nil))) (by decide) (pick_cons rfl (pick_cons rfl pick_nil)) (hK7 true hp)
    refine sx_rd' (rd_field' (off := 4) rfl Try.underlying27 rfl info23 rfl) rfl rfl (wt_is' (wt_guard' rfl rfl rfl) (beq_ff h4)) ?_
    refine sx_rd' (rd_load' (i := 0) (o := 4) rfl ⟨rfl, rfl, rfl, rfl⟩ rfl flat23) rfl rfl (wt_is' (wt_guard' rfl rfl rfl) (beq_ff h4)) ?_
    refine sx_rd' (rd_field' (off := 4) rfl Try.underlying27 rfl info23 rfl) rfl rfl (wt_is' (wt_guard' rfl rfl rfl) (beq_ff h4)) ?_
    refine sx_rd' (rd_load' (i := 1) (o := 4) rfl ⟨rfl, rfl, rfl, rfl⟩ rfl flat23) rfl rfl (wt_is' (wt_guard' rfl rfl rfl) (beq_ff h4)) ?_
    obtain ⟨r41, hr41, hp⟩ := bind_some hp
    refine sx_ox' (ox_calln' (ent_fn' Try.func36 isn36 rfl rfl) (spec_sameInts_sim _ hr41 : Sx.Fn Try.prog 36 [Vn, (Sl (Ki .i64) a1_4)] [] (fun x : Unit => (Vb r41)) (fun x => [])) (Hn := fun x : Unit => [⟨.pointer (some q2), [(Vi a0_0), (Vi a0_1), (Vi a0_2), Vn, Vn, Vn, (Sl KT27 a0_6)], 27, none⟩, ⟨.pointer (some q3), [(Vi a1_0), (Vi a1_1), (Vi a1_2), (Sl Kf a1_3), (Sl (Ki .i64) a1_4), (Sl (Kl (Ki .i64)) a1_5), (Sl KT27 a1_6)], 27, none⟩]) (fun _ => rfl) rfl rfl) (wt_is' (wt_guard' rfl rfl rfl) (beq_ff h4)) fun ⟨⟩ => ?_
    refine sx_rd' (rd_un' rfl ru_not) rfl rfl (wt_is' (wt_guard' rfl rfl rfl) (beq_ff h4)) ?_
    refine s0 (rd_pick_false' rfl h4 rfl) ?_
    refine sx_nil' ?_
    show TX E K7 _
    exact tx_pick' [0, 1] (sub_cons rfl (sub_cons rfl (sub_cons rfl sub_nil))) (by decide) (pick_cons rfl (pick_cons rfl pick_nil)) (hK7 (!r41) hp)
   intro K6 hK6
   rcases br_cases hp with ⟨h3, hp⟩ | ⟨h3, hp⟩
   ·refine sx_skip' rfl rfl (wt_is' (wt_guard' rfl rfl rfl) (beq_tf h3)) ?_
    refine sx_skip' rfl rfl (wt_is' (wt_guard' rfl rfl rfl) (beq_tf h3)) ?_
    refine sx_skip' rfl rfl (wt_is' (wt_guard' rfl rfl rfl) (beq_tf h3)) ?_
    refine sx_skip' rfl rfl (wt_is' (wt_guard' rfl rfl rfl) (beq_tf h3)) ?_
    refine sx_skip' rfl rfl (wt_is' (wt_guard' rfl rfl rfl) (beq_tf h3)) ?_
    refine sx_skip' rfl rfl (wt_is' (wt_guard' rfl rfl rfl) (beq_tf h3)) ?_
    refine s0 (rd_pick_true' rfl h3 rfl) ?_
    refine sx_nil' ?_
    show TX E K6 _
    exact tx_pick' [0, 1] (sub_cons rfl (sub_cons rfl (sub_cons rfl sub_nil))) (by decide) (pick_cons rfl (pick_cons rfl pick_nil)) (hK6 true hp)
   refine sx_rd' (rd_field' (off := 3) rfl Try.underlying27 rfl info22 rfl) rfl rfl (wt_is' (wt_guard' rfl rfl rfl) (beq_ff h3)) ?_
   refine sx_rd' (rd_load' (i := 0) (o := 3) rfl ⟨rfl, rfl, rfl, rfl⟩ rfl flat22) rfl rfl (wt_is' (wt_guard' rfl rfl rfl) (beq_ff h3)) ?_
   refine sx_rd' (rd_field' (off := 3) rfl Try.underlying27 rfl info22 rfl) rfl rfl (wt_is' (wt_guard' rfl rfl rfl) (beq_ff h3)) ?_
   refine sx_rd' (rd_load' (i := 1) (o := 3) rfl ⟨rfl, rfl, rfl, rfl⟩ rfl flat22) rfl rfl (wt_is' (wt_guard' rfl rfl rfl) (beq_ff h3)) ?_
   obtain ⟨r33, hr33, hp⟩ := bind_some hp
   refine sx_ox' (ox_calln' (ent_fn' Try.func35 isn35 rfl rfl) (spec_SameFloats_sim _ hr33 : Sx.Fn Try.prog 35 [Vn, (Sl Kf a1_3)] [] (fun x : Unit => (Vb r33)) (fun x => [])) (Hn := fun x : Unit => [⟨.pointer (some q2), [(Vi a0_0), (Vi a0_1), (Vi a0_2), Vn, Vn, Vn, (Sl KT27 a0_6)], 27, none⟩, ⟨.pointer (some q3), [(Vi a1_0), (Vi a1_1), (Vi a1_2), (Sl Kf a1_3), (Sl (Ki .i64) a1_4), (Sl (Kl (Ki .i64)) a1_5), (Sl KT27 a1_6)], 27, none⟩]) (fun _ => rfl) rfl rfl) (wt_is' (wt_guard' rfl rfl rfl) (beq_ff h3)) fun ⟨⟩ => ?_
   refine sx_rd' (rd_un' rfl ru_not) rfl rfl (wt_is' (wt_guard' rfl rfl rfl) (beq_ff h3)) ?_
   refine s0 (rd_pick_false' rfl h3 rfl) ?_
   refine sx_nil' ?_
   show TX E K6 _
   exact tx_pick' [0, 1] (sub_cons rfl (sub_cons rfl (sub_cons rfl sub_nil))) (by decide) (pick_cons rfl (pick_cons rfl pick_nil)) (hK6 (!r33) hp)
  intro K5 hK5
  rcases br_cases hp with ⟨h2, hp⟩ | ⟨h2, hp⟩
  ·refine sx_skip' rfl rfl (wt_is' (wt_guard' rfl rfl rfl) (beq_tf h2)) ?_
   refine sx_skip' rfl rfl (wt_is' (wt_guard' rfl rfl rfl) (beq_tf h2)) ?_
   refine sx_skip' rfl rfl (wt_is' (wt_guard' rfl rfl rfl) (beq_tf h2)) ?_
   refine sx_skip' rfl rfl (wt_is' (wt_guard' rfl rfl rfl) (beq_tf h2)) ?_
   refine sx_skip' rfl rfl (wt_is' (wt_guard' rfl rfl rfl) (beq_tf h2)) ?_
   refine s0 (rd_pick_true' rfl h2 rfl) ?_
   refine sx_nil' ?_
   show TX E K5 _
   exact tx_pick' [0, 1] (sub_cons rfl (sub_cons rfl (sub_cons rfl sub_nil))) (by decide) (pick_cons rfl (pick_cons rfl pick_nil)) (hK5 true hp)
  refine sx_rd' (rd_field' (off := 2) rfl Try.underlying27 rfl info3 rfl) rfl rfl (wt_is' (wt_guard' rfl rfl rfl) (beq_ff h2)) ?_
  refine sx_rd' (rd_load' (i := 0) (o := 2) rfl ⟨rfl, rfl, rfl, rfl⟩ rfl flat3) rfl rfl (wt_is' (wt_guard' rfl rfl rfl) (beq_ff h2)) ?_
  refine sx_rd' (rd_field' (off := 2) rfl Try.underlying27 rfl info3 rfl) rfl rfl (wt_is' (wt_guard' rfl rfl rfl) (beq_ff h2)) ?_
  refine sx_rd' (rd_load' (i := 1) (o := 2) rfl ⟨rfl, rfl, rfl, rfl⟩ rfl flat3) rfl rfl (wt_is' (wt_guard' rfl rfl rfl) (beq_ff h2)) ?_
  refine sx_rd' (rd_bin' rfl rfl eg_int ru_neq) rfl rfl (wt_is' (wt_guard' rfl rfl rfl) (beq_ff h2)) ?_
  refine s0 (rd_pick_false' rfl h2 rfl) ?_
  refine sx_nil' ?_
  show TX E K5 _
  exact tx_pick' [0, 1] (sub_cons rfl (sub_cons rfl (sub_cons rfl sub_nil))) (by decide) (pick_cons rfl (pick_cons rfl pick_nil)) (hK5 (!decide (a0_2 = a1_2)) hp)
 intro K4 hK4
 rcases br_cases hp with ⟨h1, hp⟩ | ⟨h1, hp⟩
 ·refine sx_skip' rfl rfl (wt_is' (wt_guard' rfl rfl rfl) (beq_tf h1)) ?_
  refine sx_skip' rfl rfl (wt_is' (wt_guard' rfl rfl rfl) (beq_tf h1)) ?_
  refine sx_skip' rfl rfl (wt_is' (wt_guard' rfl rfl rfl) (beq_tf h1)) ?_
  refine sx_skip' rfl rfl (wt_is' (wt_guard' rfl rfl rfl) (beq_tf h1)) ?_
  refine sx_skip' rfl rfl (wt_is' (wt_guard' rfl rfl rfl) (beq_tf h1)) ?_
  refine s0 (rd_pick_true' rfl h1 rfl) ?_
  refine sx_nil' ?_
  show TX E K4 _
  exact tx_pick' [1, 0] (sub_cons rfl (sub_cons rfl (sub_cons rfl sub_nil))) (by decide) (pick_cons rfl (pick_cons rfl pick_nil)) (hK4 true hp)
 refine sx_rd' (rd_field' (off := 1) rfl Try.underlying27 rfl info3 rfl) rfl rfl (wt_is' (wt_guard' rfl rfl rfl) (beq_ff h1)) ?_
 refine sx_rd' (rd_load' (i := 1) (o := 1) rfl ⟨rfl, rfl, rfl, rfl⟩ rfl flat3) rfl rfl (wt_is' (wt_guard' rfl rfl rfl) (beq_ff h1)) ?_
 refine sx_rd' (rd_field' (off := 1) rfl Try.underlying27 rfl info3 rfl) rfl rfl (wt_is' (wt_guard' rfl rfl rfl) (beq_ff h1)) ?_
 refine sx_rd' (rd_load' (i := 0) (o := 1) rfl ⟨rfl, rfl, rfl, rfl⟩ rfl flat3) rfl rfl (wt_is' (wt_guard' rfl rfl rfl) (beq_ff h1)) ?_
 refine sx_rd' (rd_bin' rfl rfl eg_int ru_neq) rfl rfl (wt_is' (wt_guard' rfl rfl rfl) (beq_ff h1)) ?_
 refine s0 (rd_pick_false' rfl h1 rfl) ?_
 refine sx_nil' ?_
 show TX E K4 _
 exact tx_pick' [1, 0] (sub_cons rfl (sub_cons rfl (sub_cons rfl sub_nil))) (by decide) (pick_cons rfl (pick_cons rfl pick_nil)) (hK4 (!decide (a0_1 = a1_1)) hp)

def laws_FnSetLayout_j7 (k : Nat) (x7 : Bool) : Option (Bool) :=
 some x7
def laws_FnSetLayout_j6 (k : Nat) (x6 : Bool) : Option (Bool) :=
 laws_FnSetLayout_j7 k x6
def laws_FnSetLayout_j5 (k : Nat) (r38 : Int × Int × Int × (List T27) × Bool) (a0_0 : Int) (a1 : Int) (a0_2 : Int) (a0_3 : List Nat) (a0_4 : List Int) (a0_5 : List (List Int)) (a0_6 : List T27) (x5 : Bool) : Option (Bool) :=
 br x5
  (br (!r38.2.2.2.2)
   (laws_FnSetLayout_j6 k true)
   ((spec_SameGeom k r38.1 r38.2.1 r38.2.2.1 r38.2.2.2.1 a0_0 a1 a0_2 a0_3 a0_4 a0_5 a0_6) >>= fun r63 =>
   laws_FnSetLayout_j6 k r63))
  (laws_FnSetLayout_j7 k false)
def laws_FnSetLayout_j4 (k : Nat) (a0_0 : Int) (a0_1 : Int) (a0_2 : Int) (a0_3 : List Nat) (a0_4 : List Int) (a0_5 : List (List Int)) (a0_6 : List T27) (a1 : Int) (x4 : Bool) : Option (Bool) :=
 br x4
  (some true)
  ((impl_SetLayout k a0_0 a0_1 a0_2 a0_3 a0_4 a0_5 a0_6 a1) >>= fun r38 =>
  (impl_SetLayout_v2 k 7 0 0 1) >>= fun r46 =>
  br r46.2.2.2
   ((laws_gKidsOf k a0_0 a0_1 a0_2 a0_3 a0_4 a0_5 a0_6 a1) >>= fun r54 =>
   laws_FnSetLayout_j5 k r38 a0_0 a1 a0_2 a0_3 a0_4 a0_5 a0_6 (r38.2.2.2.2 == r54))
   (laws_FnSetLayout_j5 k r38 a0_0 a1 a0_2 a0_3 a0_4 a0_5 a0_6 false))
def laws_FnSetLayout_j3 (k : Nat) (a0_0 : Int) (a0_1 : Int) (a0_2 : Int) (a0_3 : List Nat) (a0_4 : List Int) (a0_5 : List (List Int)) (a0_6 : List T27) (a1 : Int) (x3 : Bool) : Option (Bool) :=
 br x3
  (laws_FnSetLayout_j4 k a0_0 a0_1 a0_2 a0_3 a0_4 a0_5 a0_6 a1 true)
  (laws_FnSetLayout_j4 k a0_0 a0_1 a0_2 a0_3 a0_4 a0_5 a0_6 a1 (decide (9 < a1)))
def laws_FnSetLayout_j2 (k : Nat) (a0_0 : Int) (a0_1 : Int) (a0_2 : Int) (a0_3 : List Nat) (a0_4 : List Int) (a0_5 : List (List Int)) (a0_6 : List T27) (a1 : Int) (x2 : Bool) : Option (Bool) :=
 br x2
  (laws_FnSetLayout_j3 k a0_0 a0_1 a0_2 a0_3 a0_4 a0_5 a0_6 a1 true)
  (laws_FnSetLayout_j3 k a0_0 a0_1 a0_2 a0_3 a0_4 a0_5 a0_6 a1 (decide (a1 < 1)))
def laws_FnSetLayout_j1 (k : Nat) (a0_0 : Int) (a0_1 : Int) (a0_2 : Int) (a0_3 : List Nat) (a0_4 : List Int) (a0_5 : List (List Int)) (a0_6 : List T27) (a1 : Int) (x1 : Bool) : Option (Bool) :=
 br x1
  (laws_FnSetLayout_j2 k a0_0 a0_1 a0_2 a0_3 a0_4 a0_5 a0_6 a1 true)
  (laws_FnSetLayout_j2 k a0_0 a0_1 a0_2 a0_3 a0_4 a0_5 a0_6 a1 (!decide (a0_1 = 0)))
def laws_FnSetLayout (k : Nat) (a0_0 : Int) (a0_1 : Int) (a0_2 : Int) (a0_3 : List Nat) (a0_4 : List Int) (a0_5 : List (List Int)) (a0_6 : List T27) (a1 : Int) : Option (Bool) :=
 (laws_zzFits2 k a0_0 a0_1 a0_2 a0_3 a0_4 a0_5 a0_6) >>= fun r11 =>
 br (!r11)
  (some true)
  ((laws_gGood k ([(T27.mk a0_0 a0_1 a0_2 a0_3 a0_4 a0_5 a0_6)])) >>= fun r15 =>
  br (!r15)
   (laws_FnSetLayout_j1 k a0_0 a0_1 a0_2 a0_3 a0_4 a0_5 a0_6 a1 true)
   (laws_FnSetLayout_j1 k a0_0 a0_1 a0_2 a0_3 a0_4 a0_5 a0_6 a1 (!decide (a0_0 = 7))))

theorem laws_FnSetLayout_sim {k : Nat}  (a0_0 : Int) (a0_1 : Int) (a0_2 : Int) (a0_3 : List Nat) (a0_4 : List Int) (a0_5 : List (List Int)) (a0_6 : List T27) (a1 : Int) {out : Bool} (hp : laws_FnSetLayout k a0_0 a0_1 a0_2 a0_3 a0_4 a0_5 a0_6 a1 = some out) : Sx.Fn Try.prog 4 [(Ag [(Vi a0_0), (Vi a0_1), (Vi a0_2), (Sl Kf a0_3), (Sl (Ki .i64) a0_4), (Sl (Kl (Ki .i64)) a0_5), (Sl KT27 a0_6)]), (Vi a1)] [] (fun w : Unit => (Vb out)) (fun w => []) := by
 unfold laws_FnSetLayout at hp
 refine fn_of Try.func4 rfl Try.ntmps4 rfl fun E hM => ?_
 refine cr fun K1 hK1 => ?_
 refine sx_ox' (ox_box' rfl (lv_ag _) rfl rfl) (wt_none' rfl) fun q2 => ?_
 refine s0 (rd_assign' rfl) ?_
 refine nk hK1 ?_
 refine cx_seq' fun K2 hK2 => ?_
 refine cr fun K3 hK3 => ?_
 refine s0 (rd_load_agg' (i := 0) (o := 0) (nn := 7) rfl ⟨rfl, rfl, rfl, rfl⟩ rfl agg27 (l' := [(Vi a0_0), (Vi a0_1), (Vi a0_2), (Sl Kf a0_3), (Sl (Ki .i64) a0_4), (Sl (Kl (Ki .i64)) a0_5), (Sl KT27 a0_6)]) rfl) ?_
 obtain ⟨r11, hr11, hp⟩ := bind_some hp
 refine sx_ox' (ox_calln' (ent_fn' Try.func7 isn7 rfl rfl) (laws_zzFits2_sim _ _ _ _ _ _ _ hr11 : Sx.Fn Try.prog 7 [(Ag [(Vi a0_0), (Vi a0_1), (Vi a0_2), (Sl Kf a0_3), (Sl (Ki .i64) a0_4), (Sl (Kl (Ki .i64)) a0_5), (Sl KT27 a0_6)])] [] (fun x : Unit => (Vb r11)) (fun x => [])) (Hn := fun x : Unit => [⟨.pointer (some q2), [(Vi a0_0), (Vi a0_1), (Vi a0_2), (Sl Kf a0_3), (Sl (Ki .i64) a0_4), (Sl (Kl (Ki .i64)) a0_5), (Sl KT27 a0_6)], 27, none⟩]) (fun _ => rfl) rfl rfl) (wt_none' rfl) fun ⟨⟩ => ?_
 refine s0 (rd_un' rfl ru_not) ?_
 refine nk hK3 ?_
 refine cx_cond' rfl (fun h1 => ?_) (fun h1 => ?_)
 ·replace hp := (br_t h1).symm.trans hp
  refine cr fun K4 hK4 => ?_
  refine s0 (rd_assign' rfl) ?_
  refine nk hK4 ?_
  refine cx_retc' ?_
  replace hp := Option.some.inj hp
  subst hp
  refine tx_pick' (L' := [(4, (Vb true))]) (H' := []) [] (sub_cons rfl sub_nil) (by decide) pick_nil ?_
  exact tx_ret1' Try.results4 rfl () (rv_tmp' rfl) (List.Sublist.refl _)
 replace hp := (br_f h1).symm.trans hp
 refine cx_skip' ?_
 show TX E K2 _
 refine tx_k' hK2 ?_
 refine cx_seq' fun K5 hK5 => ?_
 refine cr fun K6 hK6 => ?_
 refine s0 (rd_load_agg' (i := 0) (o := 0) (nn := 7) rfl ⟨rfl, rfl, rfl, rfl⟩ rfl agg27 (l' := [(Vi a0_0), (Vi a0_1), (Vi a0_2), (Sl Kf a0_3), (Sl (Ki .i64) a0_4), (Sl (Kl (Ki .i64)) a0_5), (Sl KT27 a0_6)]) rfl) ?_
 refine sx_ox' (ox_rowlit' (K := KT27) (xs := [(T27.mk a0_0 a0_1 a0_2 a0_3 a0_4 a0_5 a0_6)]) (qs := [(0, [(Vi a0_0), (Vi a0_1), (Vi a0_2), (Sl Kf a0_3), (Sl (Ki .i64) a0_4), (Sl (Kl (Ki .i64)) a0_5), (Sl KT27 a0_6)])]) ⟨rfl, ⟨_, rfl, (lv_ag _)⟩, trivial⟩ Try.underlying25 info27 rfl rfl rfl rfl rfl (by simp only [List.flatMap_cons, List.flatMap_nil, KT27_enc, List.append_nil]; kernel_rfl) rfl rfl rfl) (wt_none' rfl) fun g14 => ?_
 obtain ⟨r15, hr15, hp⟩ := bind_some hp
 refine sx_ox' (ox_brw' (frz_row 0 [(14, (Vl (Vs g14)), (Sl KT27 ([(T27.mk a0_0 a0_1 a0_2 a0_3 a0_4 a0_5 a0_6)])))] (K := KT27) (xs := [(T27.mk a0_0 a0_1 a0_2 a0_3 a0_4 a0_5 a0_6)]) (by decide) rfl ⟨⟨rfl, frz_it⟩, trivial⟩ (H' := [⟨.pointer (some q2), [(Vi a0_0), (Vi a0_1), (Vi a0_2), (Sl Kf a0_3), (Sl (Ki .i64) a0_4), (Sl (Kl (Ki .i64)) a0_5), (Sl KT27 a0_6)], 27, none⟩]) frzH_refl) (ent_fn' Try.func8 isn8 rfl rfl) (laws_gGood_sim _ hr15 : Sx.Fn Try.prog 8 [(Sl KT27 ([(T27.mk a0_0 a0_1 a0_2 a0_3 a0_4 a0_5 a0_6)]))] [] (fun x : Unit => (Vb r15)) (fun x => [])) pu_vl rfl rfl) (wt_none' rfl) fun ⟨⟩ => ?_
 refine s0 (rd_un' rfl ru_not) ?_
 refine s0 (rd_move' rfl) ?_
 refine sx_cutn' 4 (fun (v1 : Bool) => (⟨66, [], [(1, (Vi a1)), (2, (Vp q2)), (21, (Vb v1))], [⟨.pointer (some q2), [(Vi a0_0), (Vi a0_1), (Vi a0_2), (Sl Kf a0_3), (Sl (Ki .i64) a0_4), (Sl (Kl (Ki .i64)) a0_5), (Sl KT27 a0_6)], 27, none⟩]⟩ : St)) (fun (v1 : Bool) => laws_FnSetLayout_j1 k a0_0 a0_1 a0_2 a0_3 a0_4 a0_5 a0_6 a1 v1 = some out) ?_ ?_
 ·rintro x1 hp
  replace hp : laws_FnSetLayout_j1 k a0_0 a0_1 a0_2 a0_3 a0_4 a0_5 a0_6 a1 x1 = some out := hp
  unfold laws_FnSetLayout_j1 at hp
  refine s0 (rd_move' rfl) ?_
  refine sx_cutn' 4 (fun (v2 : Bool) => (⟨66, [], [(1, (Vi a1)), (2, (Vp q2)), (26, (Vb v2))], [⟨.pointer (some q2), [(Vi a0_0), (Vi a0_1), (Vi a0_2), (Sl Kf a0_3), (Sl (Ki .i64) a0_4), (Sl (Kl (Ki .i64)) a0_5), (Sl KT27 a0_6)], 27, none⟩]⟩ : St)) (fun (v2 : Bool) => laws_FnSetLayout_j2 k a0_0 a0_1 a0_2 a0_3 a0_4 a0_5 a0_6 a1 v2 = some out) ?_ ?_
  ·rintro x2 hp
   replace hp : laws_FnSetLayout_j2 k a0_0 a0_1 a0_2 a0_3 a0_4 a0_5 a0_6 a1 x2 = some out := hp
   unfold laws_FnSetLayout_j2 at hp
   refine s0 (rd_move' rfl) ?_
   refine sx_cutn' 3 (fun (v3 : Bool) => (⟨66, [], [(1, (Vi a1)), (2, (Vp q2)), (30, (Vb v3))], [⟨.pointer (some q2), [(Vi a0_0), (Vi a0_1), (Vi a0_2), (Sl Kf a0_3), (Sl (Ki .i64) a0_4), (Sl (Kl (Ki .i64)) a0_5), (Sl KT27 a0_6)], 27, none⟩]⟩ : St)) (fun (v3 : Bool) => laws_FnSetLayout_j3 k a0_0 a0_1 a0_2 a0_3 a0_4 a0_5 a0_6 a1 v3 = some out) ?_ ?_
   ·rintro x3 hp
    replace hp : laws_FnSetLayout_j3 k a0_0 a0_1 a0_2 a0_3 a0_4 a0_5 a0_6 a1 x3 = some out := hp
    unfold laws_FnSetLayout_j3 at hp
    refine s0 (rd_move' rfl) ?_
    refine sx_cutn' 3 (fun (v4 : Bool) => (⟨66, [], [(1, (Vi a1)), (2, (Vp q2)), (34, (Vb v4))], [⟨.pointer (some q2), [(Vi a0_0), (Vi a0_1), (Vi a0_2), (Sl Kf a0_3), (Sl (Ki .i64) a0_4), (Sl (Kl (Ki .i64)) a0_5), (Sl KT27 a0_6)], 27, none⟩]⟩ : St)) (fun (v4 : Bool) => laws_FnSetLayout_j4 k a0_0 a0_1 a0_2 a0_3 a0_4 a0_5 a0_6 a1 v4 = some out) ?_ ?_
    ·rintro x4 hp
     replace hp : laws_FnSetLayout_j4 k a0_0 a0_1 a0_2 a0_3 a0_4 a0_5 a0_6 a1 x4 = some out := hp
     unfold laws_FnSetLayout_j4 at hp
     refine nk hK6 ?_
     refine cx_cond' rfl (fun h6 => ?_) (fun h6 => ?_)
     ·replace hp := (br_t h6).symm.trans hp
      refine cr fun K11 hK11 => ?_
      refine s0 (rd_assign' rfl) ?_
      refine nk hK11 ?_
      refine cx_retc' ?_
      replace hp := Option.some.inj hp
      subst hp
      refine tx_pick' (L' := [(4, (Vb true))]) (H' := []) [] (sub_cons rfl sub_nil) (by decide) pick_nil ?_
      exact tx_ret1' Try.results4 rfl () (rv_tmp' rfl) (List.Sublist.refl _)
     replace hp := (br_f h6).symm.trans hp
     refine cx_skip' ?_
     show TX E K5 _
     refine tx_k' hK5 ?_
     refine cr fun K12 hK12 => ?_
     refine s0 (rd_load_agg' (i := 0) (o := 0) (nn := 7) rfl ⟨rfl, rfl, rfl, rfl⟩ rfl agg27 (l' := [(Vi a0_0), (Vi a0_1), (Vi a0_2), (Sl Kf a0_3), (Sl (Ki .i64) a0_4), (Sl (Kl (Ki .i64)) a0_5), (Sl KT27 a0_6)]) rfl) ?_
     refine s0 (rd_move' rfl) ?_
     obtain ⟨r38, hr38, hp⟩ := bind_some hp
     refine sx_ox' (ox_calln' (ent_fn' Try.func11 isn11 rfl rfl) (impl_SetLayout_sim _ _ _ _ _ _ _ _ hr38 : Sx.Fn Try.prog 11 [(Ag [(Vi a0_0), (Vi a0_1), (Vi a0_2), (Sl Kf a0_3), (Sl (Ki .i64) a0_4), (Sl (Kl (Ki .i64)) a0_5), (Sl KT27 a0_6)]), (Vi a1)] [] (fun x : Unit => (Tu [(Ag [(Vi r38.1), (Vi r38.2.1), (Vi r38.2.2.1), Vn, Vn, Vn, (Sl KT27 r38.2.2.2.1)]), (Vb r38.2.2.2.2)])) (fun x => [])) (Hn := fun x : Unit => [⟨.pointer (some q2), [(Vi a0_0), (Vi a0_1), (Vi a0_2), (Sl Kf a0_3), (Sl (Ki .i64) a0_4), (Sl (Kl (Ki .i64)) a0_5), (Sl KT27 a0_6)], 27, none⟩]) (fun _ => rfl) rfl rfl) (wt_none' rfl) fun ⟨⟩ => ?_
     refine s0 (rd_move' rfl) ?_
     refine s0 (rd_extract' rfl rfl) ?_
     refine s0 (rd_extract' rfl rfl) ?_
     refine sx_ox' (ox_alloc' info27 rfl rfl rfl rfl (l := [(Vi 0), (Vi 0), (Vi 0), Vn, Vn, Vn, Vn]) rfl) (wt_none' rfl) fun q5 => ?_
     refine sx_ox' (ox_store' (i := 0) (o := 0) rfl rfl (lv_ag _) ⟨rfl, rfl, rfl, rfl⟩ rfl info27 rfl (H' := [⟨.pointer (some q5), [(Vi r38.1), (Vi r38.2.1), (Vi r38.2.2.1), Vn, Vn, Vn, (Sl KT27 r38.2.2.2.1)], 27, none⟩, ⟨.pointer (some q2), [(Vi a0_0), (Vi a0_1), (Vi a0_2), (Sl Kf a0_3), (Sl (Ki .i64) a0_4), (Sl (Kl (Ki .i64)) a0_5), (Sl KT27 a0_6)], 27, none⟩]) rfl) (wt_none' rfl) fun _ => ?_
     refine s0 (rd_assign' rfl) ?_
     refine nk hK12 ?_
     refine cr fun K13 hK13 => ?_
     refine s0 (rd_load_agg' (i := 1) (o := 0) (nn := 7) rfl ⟨rfl, rfl, rfl, rfl⟩ rfl agg27 (l' := [(Vi a0_0), (Vi a0_1), (Vi a0_2), (Sl Kf a0_3), (Sl (Ki .i64) a0_4), (Sl (Kl (Ki .i64)) a0_5), (Sl KT27 a0_6)]) rfl) ?_
     refine sx_ox' (ox_alloc' info27 rfl rfl rfl rfl (l := [(Vi 0), (Vi 0), (Vi 0), Vn, Vn, Vn, Vn]) rfl) (wt_none' rfl) fun q7 => ?_
     refine sx_ox' (ox_store' (i := 0) (o := 0) rfl rfl (lv_ag _) ⟨rfl, rfl, rfl, rfl⟩ rfl info27 rfl (H' := [⟨.pointer (some q7), [(Vi a0_0), (Vi a0_1), (Vi a0_2), (Sl Kf a0_3), (Sl (Ki .i64) a0_4), (Sl (Kl (Ki .i64)) a0_5), (Sl KT27 a0_6)], 27, none⟩, ⟨.pointer (some q5), [(Vi r38.1), (Vi r38.2.1), (Vi r38.2.2.1), Vn, Vn, Vn, (Sl KT27 r38.2.2.2.1)], 27, none⟩, ⟨.pointer (some q2), [(Vi a0_0), (Vi a0_1), (Vi a0_2), (Sl Kf a0_3), (Sl (Ki .i64) a0_4), (Sl (Kl (Ki .i64)) a0_5), (Sl KT27 a0_6)], 27, none⟩]) rfl) (wt_none' rfl) fun _ => ?_
     refine nk hK13 ?_
     refine cr fun K14 hK14 => ?_
     refine s0 (rd_move' rfl) ?_
     refine s0 (rd_field' (off := 1) rfl Try.underlying27 rfl info3 rfl) ?_
     refine sx_ox' (ox_store' (i := 0) (o := 1) rfl rfl (lv_vl rfl rfl) ⟨rfl, rfl, rfl, rfl⟩ rfl info3 rfl (H' := [⟨.pointer (some q7), [(Vi a0_0), (Vi a1), (Vi a0_2), (Sl Kf a0_3), (Sl (Ki .i64) a0_4), (Sl (Kl (Ki .i64)) a0_5), (Sl KT27 a0_6)], 27, none⟩, ⟨.pointer (some q5), [(Vi r38.1), (Vi r38.2.1), (Vi r38.2.2.1), Vn, Vn, Vn, (Sl KT27 r38.2.2.2.1)], 27, none⟩, ⟨.pointer (some q2), [(Vi a0_0), (Vi a0_1), (Vi a0_2), (Sl Kf a0_3), (Sl (Ki .i64) a0_4), (Sl (Kl (Ki .i64)) a0_5), (Sl KT27 a0_6)], 27, none⟩]) rfl) (wt_none' rfl) fun _ => ?_
     refine nk hK14 ?_
     refine cr fun K15 hK15 => ?_
     refine s0 (rd_build' (pls := [(0, 1), (1, 1), (2, 1), (3, 1), (4, 1), (5, 1), (6, 1)]) (qs := [(0, [(Vi 7)])]) (r := [(Vi 7), (Vi 0), (Vi 0), Vn, Vn, Vn, Vn]) ⟨rfl, ⟨_, rfl, (lv_vl rfl rfl)⟩, trivial⟩ Try.underlying27 has27 places27 info27 rfl rfl rfl) ?_
     obtain ⟨r46, hr46, hp⟩ := bind_some hp
     refine sx_ox' (ox_calln' (ent_fn' Try.func11 isn11 rfl rfl) (impl_SetLayout_v2_sim _ _ _ _ hr46 : Sx.Fn Try.prog 11 [(Ag [(Vi 7), (Vi 0), (Vi 0), Vn, Vn, Vn, Vn]), (Vi 1)] [] (fun x : Unit => (Tu [(Ag [(Vi r46.1), (Vi r46.2.1), (Vi r46.2.2.1), Vn, Vn, Vn, Vn]), (Vb r46.2.2.2)])) (fun x => [])) (Hn := fun x : Unit => [⟨.pointer (some q7), [(Vi a0_0), (Vi a1), (Vi a0_2), (Sl Kf a0_3), (Sl (Ki .i64) a0_4), (Sl (Kl (Ki .i64)) a0_5), (Sl KT27 a0_6)], 27, none⟩, ⟨.pointer (some q5), [(Vi r38.1), (Vi r38.2.1), (Vi r38.2.2.1), Vn, Vn, Vn, (Sl KT27 r38.2.2.2.1)], 27, none⟩, ⟨.pointer (some q2), [(Vi a0_0), (Vi a0_1), (Vi a0_2), (Sl Kf a0_3), (Sl (Ki .i64) a0_4), (Sl (Kl (Ki .i64)) a0_5), (Sl KT27 a0_6)], 27, none⟩]) (fun _ => rfl) rfl rfl) (wt_none' rfl) fun ⟨⟩ => ?_
     refine s0 (rd_move' rfl) ?_
     refine s0 (rd_extract' rfl rfl) ?_
     refine s0 (rd_extract' rfl rfl) ?_
     refine sx_ox' (ox_alloc' info27 rfl rfl rfl rfl (l := [(Vi 0), (Vi 0), (Vi 0), Vn, Vn, Vn, Vn]) rfl) (wt_none' rfl) fun q8 => ?_
     refine sx_ox' (ox_store' (i := 0) (o := 0) rfl rfl (lv_ag _) ⟨rfl, rfl, rfl, rfl⟩ rfl info27 rfl (H' := [⟨.pointer (some q8), [(Vi r46.1), (Vi r46.2.1), (Vi r46.2.2.1), Vn, Vn, Vn, Vn], 27, none⟩, ⟨.pointer (some q7), [(Vi a0_0), (Vi a1), (Vi a0_2), (Sl Kf a0_3), (Sl (Ki .i64) a0_4), (Sl (Kl (Ki .i64)) a0_5), (Sl KT27 a0_6)], 27, none⟩, ⟨.pointer (some q5), [(Vi r38.1), (Vi r38.2.1), (Vi r38.2.2.1), Vn, Vn, Vn, (Sl KT27 r38.2.2.2.1)], 27, none⟩, ⟨.pointer (some q2), [(Vi a0_0), (Vi a0_1), (Vi a0_2), (Sl Kf a0_3), (Sl (Ki .i64) a0_4), (Sl (Kl (Ki .i64)) a0_5), (Sl KT27 a0_6)], 27, none⟩]) rfl) (wt_none' rfl) fun _ => ?_
     refine s0 (rd_assign' rfl) ?_
     refine nk hK15 ?_
     refine cr fun K16 hK16 => ?_
     refine s0 (rd_move' rfl) ?_
     refine s0 (rd_move' rfl) ?_
     refine sx_cutn' 6 (fun (v5 : Bool) => (⟨66, [], [(5, (Vp q5)), (6, (Vb r38.2.2.2.2)), (7, (Vp q7)), (56, (Vb v5))], [⟨.pointer (some q5), [(Vi r38.1), (Vi r38.2.1), (Vi r38.2.2.1), Vn, Vn, Vn, (Sl KT27 r38.2.2.2.1)], 27, none⟩, ⟨.pointer (some q7), [(Vi a0_0), (Vi a1), (Vi a0_2), (Sl Kf a0_3), (Sl (Ki .i64) a0_4), (Sl (Kl (Ki .i64)) a0_5), (Sl KT27 a0_6)], 27, none⟩]⟩ : St)) (fun (v5 : Bool) => laws_FnSetLayout_j5 k r38 a0_0 a1 a0_2 a0_3 a0_4 a0_5 a0_6 v5 = some out) ?_ ?_
     ·rintro x5 hp
      replace hp : laws_FnSetLayout_j5 k r38 a0_0 a1 a0_2 a0_3 a0_4 a0_5 a0_6 x5 = some out := hp
      unfold laws_FnSetLayout_j5 at hp
      refine s0 (rd_move' rfl) ?_
      refine sx_cutn' 8 (fun (v7 : Bool) => (⟨66, [], [(65, (Vb v7))], []⟩ : St)) (fun (v7 : Bool) => laws_FnSetLayout_j7 k v7 = some out) ?_ ?_
      ·rintro x7 hp
       replace hp : laws_FnSetLayout_j7 k x7 = some out := hp
       unfold laws_FnSetLayout_j7 at hp
       refine s0 (rd_assign' rfl) ?_
       refine nk hK16 ?_
       refine cx_retc' ?_
       replace hp := Option.some.inj hp
       subst hp
       refine tx_pick' (L' := [(4, (Vb x7))]) (H' := []) [] (sub_cons rfl sub_nil) (by decide) pick_nil ?_
       exact tx_ret1' Try.results4 rfl () (rv_tmp' rfl) (List.Sublist.refl _)
      intro K19 hK19
      rcases br_cases hp with ⟨h8, hp⟩ | ⟨h8, hp⟩
      ·refine sx_rd' (rd_move' rfl) rfl rfl (wt_is' (wt_guard' rfl rfl rfl) (beq_tt h8)) ?_
       refine sx_rd' (rd_un' rfl ru_not) rfl rfl (wt_is' (wt_guard' rfl rfl rfl) (beq_tt h8)) ?_
       refine sx_rd' (rd_move' rfl) rfl rfl (wt_is' (wt_guard' rfl rfl rfl) (beq_tt h8)) ?_
       refine sx_cutn' 5 (fun (v6 : Bool) => (⟨66, [], [(65, (Vb v6))], []⟩ : St)) (fun (v6 : Bool) => laws_FnSetLayout_j6 k v6 = some out) ?_ ?_
       ·rintro x6 hp
        replace hp : laws_FnSetLayout_j6 k x6 = some out := hp
        unfold laws_FnSetLayout_j6 at hp
        refine sx_nil' ?_
        show TX E K19 _
        exact tx_pick' [] (sub_cons rfl sub_nil) (by decide) pick_nil (hK19 x6 hp)
       intro K18 hK18
       rcases br_cases hp with ⟨h9, hp⟩ | ⟨h9, hp⟩
       ·refine sx_skip' rfl rfl (wt_is' (wt_guard' rfl rfl rfl) (beq_tf h9)) ?_
        refine sx_skip' rfl rfl (wt_is' (wt_guard' rfl rfl rfl) (beq_tf h9)) ?_
        refine sx_skip' rfl rfl (wt_is' (wt_guard' rfl rfl rfl) (beq_tf h9)) ?_
        refine sx_rd' (rd_pick_true' rfl h9 rfl) rfl rfl (wt_is' (wt_guard' rfl rfl rfl) (beq_tt h8)) ?_
        refine s0 (rd_pick_true' rfl h8 rfl) ?_
        refine sx_nil' ?_
        show TX E K18 _
        exact tx_pick' [] (sub_cons rfl sub_nil) (by decide) pick_nil (hK18 true hp)
       refine sx_rd' (rd_load_agg' (i := 0) (o := 0) (nn := 7) rfl ⟨rfl, rfl, rfl, rfl⟩ rfl agg27 (l' := [(Vi r38.1), (Vi r38.2.1), (Vi r38.2.2.1), Vn, Vn, Vn, (Sl KT27 r38.2.2.2.1)]) rfl) rfl rfl (wt_is' (wt_guard' rfl rfl rfl) (beq_ff h9)) ?_
       refine sx_rd' (rd_load_agg' (i := 1) (o := 0) (nn := 7) rfl ⟨rfl, rfl, rfl, rfl⟩ rfl agg27 (l' := [(Vi a0_0), (Vi a1), (Vi a0_2), (Sl Kf a0_3), (Sl (Ki .i64) a0_4), (Sl (Kl (Ki .i64)) a0_5), (Sl KT27 a0_6)]) rfl) rfl rfl (wt_is' (wt_guard' rfl rfl rfl) (beq_ff h9)) ?_
       obtain ⟨r63, hr63, hp⟩ := bind_some hp
       refine sx_ox' (ox_calln' (ent_fn' Try.func13 isn13 rfl rfl) (spec_SameGeom_sim _ _ _ _ _ _ _ _ _ _ _ hr63 : Sx.Fn Try.prog 13 [(Ag [(Vi r38.1), (Vi r38.2.1), (Vi r38.2.2.1), Vn, Vn, Vn, (Sl KT27 r38.2.2.2.1)]), (Ag [(Vi a0_0), (Vi a1), (Vi a0_2), (Sl Kf a0_3), (Sl (Ki .i64) a0_4), (Sl (Kl (Ki .i64)) a0_5), (Sl KT27 a0_6)])] [] (fun x : Unit => (Vb r63)) (fun x => [])) (Hn := fun x : Unit => [⟨.pointer (some q5), [(Vi r38.1), (Vi r38.2.1), (Vi r38.2.2.1), Vn, Vn, Vn, (Sl KT27 r38.2.2.2.1)], 27, none⟩, ⟨.pointer (some q7), [(Vi a0_0), (Vi a1), (Vi a0_2), (Sl Kf a0_3), (Sl (Ki .i64) a0_4), (Sl (Kl (Ki .i64)) a0_5), (Sl KT27 a0_6)], 27, none⟩]) (fun _ => rfl) rfl rfl) (wt_is' (wt_guard' rfl rfl rfl) (beq_ff h9)) fun ⟨⟩ => ?_
       refine sx_rd' (rd_pick_false' rfl h9 rfl) rfl rfl (wt_is' (wt_guard' rfl rfl rfl) (beq_tt h8)) ?_
       refine s0 (rd_pick_true' rfl h8 rfl) ?_
       refine sx_nil' ?_
       show TX E K18 _
       exact tx_pick' [] (sub_cons rfl sub_nil) (by decide) pick_nil (hK18 r63 hp)
      refine sx_skip' rfl rfl (wt_is' (wt_guard' rfl rfl rfl) (beq_ft h8)) ?_
      refine sx_skip' rfl rfl (wt_is' (wt_guard' rfl rfl rfl) (beq_ft h8)) ?_
      refine sx_skip' rfl rfl (wt_is' (wt_guard' rfl rfl rfl) (beq_ft h8)) ?_
      refine sx_skip' rfl rfl (wt_undef' rfl rfl rfl) ?_
      refine sx_skip' rfl rfl (wt_undef' rfl rfl rfl) ?_
      refine sx_skip' rfl rfl (wt_undef' rfl rfl rfl) ?_
      refine sx_skip' rfl rfl (wt_is' (wt_guard' rfl rfl rfl) (beq_ft h8)) ?_
      refine s0 (rd_pick_false' rfl h8 rfl) ?_
      refine sx_nil' ?_
      show TX E K19 _
      exact tx_pick' [] (sub_cons rfl sub_nil) (by decide) pick_nil (hK19 false hp)
     intro K17 hK17
     rcases br_cases hp with ⟨h7, hp⟩ | ⟨h7, hp⟩
     ·refine sx_rd' (rd_move' rfl) rfl rfl (wt_is' (wt_guard' rfl rfl rfl) (beq_tt h7)) ?_
      refine sx_rd' (rd_load_agg' (i := 3) (o := 0) (nn := 7) rfl ⟨rfl, rfl, rfl, rfl⟩ rfl agg27 (l' := [(Vi a0_0), (Vi a0_1), (Vi a0_2), (Sl Kf a0_3), (Sl (Ki .i64) a0_4), (Sl (Kl (Ki .i64)) a0_5), (Sl KT27 a0_6)]) rfl) rfl rfl (wt_is' (wt_guard' rfl rfl rfl) (beq_tt h7)) ?_
      refine sx_rd' (rd_move' rfl) rfl rfl (wt_is' (wt_guard' rfl rfl rfl) (beq_tt h7)) ?_
      obtain ⟨r54, hr54, hp⟩ := bind_some hp
      refine sx_ox' (ox_calln' (ent_fn' Try.func12 isn12 rfl rfl) (laws_gKidsOf_sim _ _ _ _ _ _ _ _ hr54 : Sx.Fn Try.prog 12 [(Ag [(Vi a0_0), (Vi a0_1), (Vi a0_2), (Sl Kf a0_3), (Sl (Ki .i64) a0_4), (Sl (Kl (Ki .i64)) a0_5), (Sl KT27 a0_6)]), (Vi a1)] [] (fun x : Unit => (Vb r54)) (fun x => [])) (Hn := fun x : Unit => [⟨.pointer (some q8), [(Vi r46.1), (Vi r46.2.1), (Vi r46.2.2.1), Vn, Vn, Vn, Vn], 27, none⟩, ⟨.pointer (some q7), [(Vi a0_0), (Vi a1), (Vi a0_2), (Sl Kf a0_3), (Sl (Ki .i64) a0_4), (Sl (Kl (Ki .i64)) a0_5), (Sl KT27 a0_6)], 27, none⟩, ⟨.pointer (some q5), [(Vi r38.1), (Vi r38.2.1), (Vi r38.2.2.1), Vn, Vn, Vn, (Sl KT27 r38.2.2.2.1)], 27, none⟩, ⟨.pointer (some q2), [(Vi a0_0), (Vi a0_1), (Vi a0_2), (Sl Kf a0_3), (Sl (Ki .i64) a0_4), (Sl (Kl (Ki .i64)) a0_5), (Sl KT27 a0_6)], 27, none⟩]) (fun _ => rfl) rfl rfl) (wt_is' (wt_guard' rfl rfl rfl) (beq_tt h7)) fun ⟨⟩ => ?_
      refine sx_rd' (rd_bin' rfl rfl eg_bool (ru_beq Try.underlying4)) rfl rfl (wt_is' (wt_guard' rfl rfl rfl) (beq_tt h7)) ?_
      refine s0 (rd_pick_true' rfl h7 rfl) ?_
      refine sx_nil' ?_
      show TX E K17 _
      exact tx_pick' [2, 1] (sub_cons rfl (sub_cons rfl (sub_cons rfl (sub_cons rfl sub_nil)))) (by decide) (pick_cons rfl (pick_cons rfl pick_nil)) (hK17 (r38.2.2.2.2 == r54) hp)
     refine sx_skip' rfl rfl (wt_is' (wt_guard' rfl rfl rfl) (beq_ft h7)) ?_
     refine sx_skip' rfl rfl (wt_is' (wt_guard' rfl rfl rfl) (beq_ft h7)) ?_
     refine sx_skip' rfl rfl (wt_is' (wt_guard' rfl rfl rfl) (beq_ft h7)) ?_
     refine sx_skip' rfl rfl (wt_is' (wt_guard' rfl rfl rfl) (beq_ft h7)) ?_
     refine sx_skip' rfl rfl (wt_is' (wt_guard' rfl rfl rfl) (beq_ft h7)) ?_
     refine s0 (rd_pick_false' rfl h7 rfl) ?_
     refine sx_nil' ?_
     show TX E K17 _
     exact tx_pick' [2, 1] (sub_cons rfl (sub_cons rfl (sub_cons rfl (sub_cons rfl sub_nil)))) (by decide) (pick_cons rfl (pick_cons rfl pick_nil)) (hK17 false hp)
    intro K10 hK10
    rcases br_cases hp with ⟨h5, hp⟩ | ⟨h5, hp⟩
    ·refine sx_skip' rfl rfl (wt_is' (wt_guard' rfl rfl rfl) (beq_tf h5)) ?_
     refine sx_skip' rfl rfl (wt_is' (wt_guard' rfl rfl rfl) (beq_tf h5)) ?_
     refine s0 (rd_pick_true' rfl h5 rfl) ?_
     refine sx_nil' ?_
     show TX E K10 _
     exact tx_pick' [0] (sub_cons rfl (sub_cons rfl (sub_cons rfl sub_nil))) (by decide) (pick_cons rfl pick_nil) (hK10 true hp)
    refine sx_rd' (rd_move' rfl) rfl rfl (wt_is' (wt_guard' rfl rfl rfl) (beq_ff h5)) ?_
    refine sx_rd' (rd_bin' rfl rfl eg_int ru_gtr) rfl rfl (wt_is' (wt_guard' rfl rfl rfl) (beq_ff h5)) ?_
    refine s0 (rd_pick_false' rfl h5 rfl) ?_
    refine sx_nil' ?_
    show TX E K10 _
    exact tx_pick' [0] (sub_cons rfl (sub_cons rfl (sub_cons rfl sub_nil))) (by decide) (pick_cons rfl pick_nil) (hK10 (decide (9 < a1)) hp)
   intro K9 hK9
   rcases br_cases hp with ⟨h4, hp⟩ | ⟨h4, hp⟩
   ·refine sx_skip' rfl rfl (wt_is' (wt_guard' rfl rfl rfl) (beq_tf h4)) ?_
    refine sx_skip' rfl rfl (wt_is' (wt_guard' rfl rfl rfl) (beq_tf h4)) ?_
    refine s0 (rd_pick_true' rfl h4 rfl) ?_
    refine sx_nil' ?_
    show TX E K9 _
    exact tx_pick' [0] (sub_cons rfl (sub_cons rfl (sub_cons rfl sub_nil))) (by decide) (pick_cons rfl pick_nil) (hK9 true hp)
   refine sx_rd' (rd_move' rfl) rfl rfl (wt_is' (wt_guard' rfl rfl rfl) (beq_ff h4)) ?_
   refine sx_rd' (rd_bin' rfl rfl eg_int ru_lss) rfl rfl (wt_is' (wt_guard' rfl rfl rfl) (beq_ff h4)) ?_
   refine s0 (rd_pick_false' rfl h4 rfl) ?_
   refine sx_nil' ?_
   show TX E K9 _
   exact tx_pick' [0] (sub_cons rfl (sub_cons rfl (sub_cons rfl sub_nil))) (by decide) (pick_cons rfl pick_nil) (hK9 (decide (a1 < 1)) hp)
  intro K8 hK8
  rcases br_cases hp with ⟨h3, hp⟩ | ⟨h3, hp⟩
  ·refine sx_skip' rfl rfl (wt_is' (wt_guard' rfl rfl rfl) (beq_tf h3)) ?_
   refine sx_skip' rfl rfl (wt_is' (wt_guard' rfl rfl rfl) (beq_tf h3)) ?_
   refine sx_skip' rfl rfl (wt_is' (wt_guard' rfl rfl rfl) (beq_tf h3)) ?_
   refine s0 (rd_pick_true' rfl h3 rfl) ?_
   refine sx_nil' ?_
   show TX E K8 _
   exact tx_pick' [0] (sub_cons rfl (sub_cons rfl (sub_cons rfl sub_nil))) (by decide) (pick_cons rfl pick_nil) (hK8 true hp)
  refine sx_rd' (rd_field' (off := 1) rfl Try.underlying27 rfl info3 rfl) rfl rfl (wt_is' (wt_guard' rfl rfl rfl) (beq_ff h3)) ?_
  refine sx_rd' (rd_load' (i := 0) (o := 1) rfl ⟨rfl, rfl, rfl, rfl⟩ rfl flat3) rfl rfl (wt_is' (wt_guard' rfl rfl rfl) (beq_ff h3)) ?_
  refine sx_rd' (rd_bin' rfl rfl eg_int ru_neq) rfl rfl (wt_is' (wt_guard' rfl rfl rfl) (beq_ff h3)) ?_
  refine s0 (rd_pick_false' rfl h3 rfl) ?_
  refine sx_nil' ?_
  show TX E K8 _
  exact tx_pick' [0] (sub_cons rfl (sub_cons rfl (sub_cons rfl sub_nil))) (by decide) (pick_cons rfl pick_nil) (hK8 (!decide (a0_1 = 0)) hp)
 intro K7 hK7
 rcases br_cases hp with ⟨h2, hp⟩ | ⟨h2, hp⟩
 ·refine sx_skip' rfl rfl (wt_is' (wt_guard' rfl rfl rfl) (beq_tf h2)) ?_
  refine sx_skip' rfl rfl (wt_is' (wt_guard' rfl rfl rfl) (beq_tf h2)) ?_
  refine sx_skip' rfl rfl (wt_is' (wt_guard' rfl rfl rfl) (beq_tf h2)) ?_
  refine s0 (rd_pick_true' rfl h2 rfl) ?_
  refine sx_nil' ?_
  show TX E K7 _
  exact tx_pick' [1] (sub_cons rfl (sub_cons rfl (sub_cons rfl sub_nil))) (by decide) (pick_cons rfl pick_nil) (hK7 true hp)
 refine sx_rd' (rd_field0' rfl Try.underlying27 rfl info3 rfl) rfl rfl (wt_is' (wt_guard' rfl rfl rfl) (beq_ff h2)) ?_
 refine sx_rd' (rd_load' (i := 1) (o := 0) rfl ⟨rfl, rfl, rfl, rfl⟩ rfl flat3) rfl rfl (wt_is' (wt_guard' rfl rfl rfl) (beq_ff h2)) ?_
 refine sx_rd' (rd_bin' rfl rfl eg_int ru_neq) rfl rfl (wt_is' (wt_guard' rfl rfl rfl) (beq_ff h2)) ?_
 refine s0 (rd_pick_false' rfl h2 rfl) ?_
 refine sx_nil' ?_
 show TX E K7 _
 exact tx_pick' [1] (sub_cons rfl (sub_cons rfl (sub_cons rfl sub_nil))) (by decide) (pick_cons rfl pick_nil) (hK7 (!decide (a0_0 = 7)) hp)

end Go.Proofs.Ytmagcmeknclljaa
