/-
  Plain functions for the Go functions that this law reaches, and that each call does what its plain function says. Printed by a program of ours.
-/
import Derived.Test.YtmagcmeknclljaaProg
import Derived.Test.YtmagcmeknclljaaSxZ
import Derived.Test.YtmagcmeknclljaaFun2
namespace Go.Proofs.Ytmagcmeknclljaa
open Go.Sx
set_option linter.unusedVariables false
set_option maxRecDepth 100000

def gogeom_GeometryCollection_Push_v2_j1 (k : Nat) (a0_1 : List G53) (a1 : List G53) (a0_0 : Int) (a0_2 : Int) : Option ((Int × (List G53) × Int) ⊕ (Int × (List G53) × Int × Int)) :=
  (apd 16 a0_1 a1) >>= fun r41 =>
  some (.inl (a0_0, r41, a0_2))
def gogeom_GeometryCollection_Push_v2_l1s (a1 : List G53) (a0_0 : Int) (k : Nat) (rec1 : Int → Option (Int ⊕ Unit)) (x1 : Int) : Option (Int ⊕ Unit) :=
  br (decide (x1 < (a1.length : Int)))
    ((idx a1 x1) >>= fun r17 =>
    match r17 with
      | .c0 r17_0a r17_0b r17_0c r17_0d =>
        ((gogeom_geom0_Layout k r17_0a r17_0b r17_0c r17_0d) >>= fun r20 =>
        br (!decide (r20 = a0_0))
          (some (.inl r20))
          (rec1 (iadd .i64 x1 1)))
      | .c1 r17_1a r17_1b r17_1c r17_1d =>
        ((gogeom_geom0_Layout k r17_1a r17_1b r17_1c r17_1d) >>= fun r20 =>
        br (!decide (r20 = a0_0))
          (some (.inl r20))
          (rec1 (iadd .i64 x1 1)))
      | .c2 r17_2a r17_2b r17_2c r17_2d =>
        ((gogeom_geom0_Layout k r17_2a r17_2b r17_2c r17_2d) >>= fun r20 =>
        br (!decide (r20 = a0_0))
          (some (.inl r20))
          (rec1 (iadd .i64 x1 1)))
      | .c3 r17_3a r17_3b r17_3c r17_3d r17_3e =>
        ((gogeom_geom0_Layout_v2 k r17_3a r17_3b r17_3c r17_3d r17_3e) >>= fun r20 =>
        br (!decide (r20 = a0_0))
          (some (.inl r20))
          (rec1 (iadd .i64 x1 1)))
      | .c4 r17_4a r17_4b r17_4c r17_4d r17_4e =>
        ((gogeom_geom0_Layout_v2 k r17_4a r17_4b r17_4c r17_4d r17_4e) >>= fun r20 =>
        br (!decide (r20 = a0_0))
          (some (.inl r20))
          (rec1 (iadd .i64 x1 1)))
      | .c5 r17_5a r17_5b r17_5c r17_5d r17_5e =>
        ((gogeom_geom0_Layout_v2 k r17_5a r17_5b r17_5c r17_5d r17_5e) >>= fun r20 =>
        br (!decide (r20 = a0_0))
          (some (.inl r20))
          (rec1 (iadd .i64 x1 1)))
      | .c6 r17_6a r17_6b r17_6c r17_6d r17_6e =>
        ((gogeom_geom0_Layout_v3 k r17_6a r17_6b r17_6c r17_6d r17_6e) >>= fun r20 =>
        br (!decide (r20 = a0_0))
          (some (.inl r20))
          (rec1 (iadd .i64 x1 1)))
      | .c7 r17_7a r17_7b r17_7c =>
        ((gogeom_GeometryCollection_Layout k r17_7a r17_7b r17_7c) >>= fun r20 =>
        br (!decide (r20 = a0_0))
          (some (.inl r20))
          (rec1 (iadd .i64 x1 1))))
    (some (.inr ()))
def gogeom_GeometryCollection_Push_v2_l1 (a1 : List G53) (a0_0 : Int) : Nat → Int → Option (Int ⊕ Unit)
  | 0, _ => none
  | k + 1, v => gogeom_GeometryCollection_Push_v2_l1s a1 a0_0 k (gogeom_GeometryCollection_Push_v2_l1 a1 a0_0 k) v
def gogeom_GeometryCollection_Push_v2 (k : Nat) (a0_0 : Int) (a0_1 : List G53) (a0_2 : Int) (a1 : List G53) : Option ((Int × (List G53) × Int) ⊕ (Int × (List G53) × Int × Int)) :=
  br (!decide (a0_0 = 0))
    ((gogeom_GeometryCollection_Push_v2_l1 a1 a0_0 k 0) >>= fun y1 => match y1 with
      | (.inl v2) =>
        (some (.inr (a0_0, a0_1, a0_2, v2)))
      | (.inr v3) =>
        (gogeom_GeometryCollection_Push_v2_j1 k a0_1 a1 a0_0 a0_2))
    (gogeom_GeometryCollection_Push_v2_j1 k a0_1 a1 a0_0 a0_2)
def gogeom_GeometryCollection_Push_v2_r (wa0 : Addr) (wa0_1 : Gs) (a0_0 : Int) (a0_1 : List G53) (a0_2 : Int) (a1 : List G53) (out : (Int × (List G53) × Int) ⊕ (Int × (List G53) × Int × Int)) (w : Gs) : SV := match out with
  | (.inl y) => (Vl .nilIface)
  | (.inr y) => (If 134 (Ag [(Vl (.int .i64 y.2.2.2)), (Vl (.int .i64 y.1))]))
def gogeom_GeometryCollection_Push_v2_h (wa0 : Addr) (wa0_1 : Gs) (a0_0 : Int) (a0_1 : List G53) (a0_2 : Int) (a1 : List G53) (out : (Int × (List G53) × Int) ⊕ (Int × (List G53) × Int × Int)) (w : Gs) : List Res := match out with
  | (.inl y) => [⟨.pointer (some wa0), [(Vl (.int .i64 y.1)), (Vl (Vs w)), (Vl (.int .i64 y.2.2))], 114, none⟩, (Rw KG53 53 (Vs w) y.2.1)]
  | (.inr y) => [⟨.pointer (some wa0), [(Vl (.int .i64 y.1)), (Vl (Vs wa0_1)), (Vl (.int .i64 y.2.2.1))], 114, none⟩, (Rw KG53 53 (Vs wa0_1) y.2.1)]

theorem gogeom_GeometryCollection_Push_v2_sim {k : Nat} {wa0 : Addr} {wa0_1 : Gs} (a0_0 : Int) (a0_1 : List G53) (a0_2 : Int) (a1 : List G53) {out : (Int × (List G53) × Int) ⊕ (Int × (List G53) × Int × Int)} (hp : gogeom_GeometryCollection_Push_v2 k a0_0 a0_1 a0_2 a1 = some out) : Go.Sx.Fn Try.prog 46 [(Vl (.pointer (some wa0))), (Sl KG53 a1)] [⟨.pointer (some wa0), [(Vl (.int .i64 a0_0)), (Vl (Vs wa0_1)), (Vl (.int .i64 a0_2))], 114, none⟩, (Rw KG53 53 (Vs wa0_1) a0_1)] (fun w => gogeom_GeometryCollection_Push_v2_r wa0 wa0_1 a0_0 a0_1 a0_2 a1 out w) (fun w => gogeom_GeometryCollection_Push_v2_h wa0 wa0_1 a0_0 a0_1 a0_2 a1 out w) := by
  unfold gogeom_GeometryCollection_Push_v2 at hp
  refine fn_of Try.func46 rfl Try.ntmps46 rfl fun E hM => ?_
  refine cx_seq' fun K1 hK1 => ?_
  refine cx_region' ?_
  refine sx_rd' (rd_assign' rfl) rfl rfl (wt_none' rfl) ?_
  refine sx_nil' ?_
  show TX E K1 _
  refine tx_k' hK1 ?_
  refine cx_join' (fun (v4 : Unit) => (⟨44, [], [(0, (Vl (.pointer (some wa0)))), (1, (Sl KG53 a1))], [⟨.pointer (some wa0), [(Vl (.int .i64 a0_0)), (Vl (Vs wa0_1)), (Vl (.int .i64 a0_2))], 114, none⟩, (Rw KG53 53 (Vs wa0_1) a0_1)]⟩ : St)) (fun (v4 : Unit) => gogeom_GeometryCollection_Push_v2_j1 k a0_1 a1 a0_0 a0_2 = some out) ?_ ?_
  · rintro ⟨⟩ hp
    replace hp : gogeom_GeometryCollection_Push_v2_j1 k a0_1 a1 a0_0 a0_2 = some out := hp
    unfold gogeom_GeometryCollection_Push_v2_j1 at hp
    refine cx_seq' fun K19 hK19 => ?_
    refine cx_region' ?_
    refine sx_rd' (rd_move' rfl) rfl rfl (wt_none' rfl) ?_
    refine sx_rd' (rd_move' rfl) rfl rfl (wt_none' rfl) ?_
    refine sx_rd' (rd_nilck' rfl) rfl rfl (wt_none' rfl) ?_
    refine sx_rd' (rd_field' (off := 1) rfl Try.underlying114 rfl info112 rfl) rfl rfl (wt_none' rfl) ?_
    refine sx_rd' (rd_load' (i := 0) (o := 1) rfl ⟨rfl, rfl, rfl, rfl⟩ rfl flat112) rfl rfl (wt_none' rfl) ?_
    refine sx_rd' (rd_move' rfl) rfl rfl (wt_none' rfl) ?_
    obtain ⟨r41, hr41, hp⟩ := bind_some hp
    refine sx_ox' (ox_append' (K := KG53) (i := 1) (xs := a0_1) (ys := a1) rfl rfl rfl (sr_sl' rfl Try.underlying112) hr41 Try.underlying112 info53 rfl rfl rfl (H' := [⟨.pointer (some wa0), [(Vl (.int .i64 a0_0)), (Vl (Vs wa0_1)), (Vl (.int .i64 a0_2))], 114, none⟩]) rfl) (wt_none' rfl) fun g41 => ?_
    refine sx_rd' (rd_nilck' rfl) rfl rfl (wt_none' rfl) ?_
    refine sx_rd' (rd_field' (off := 1) rfl Try.underlying114 rfl info112 rfl) rfl rfl (wt_none' rfl) ?_
    refine sx_ox' (ox_store' (i := 1) (o := 1) rfl rfl (lv_vl rfl rfl) ⟨rfl, rfl, rfl, rfl⟩ rfl info112 rfl (H' := [(Rw KG53 53 (Vs g41) r41), ⟨.pointer (some wa0), [(Vl (.int .i64 a0_0)), (Vl (Vs g41)), (Vl (.int .i64 a0_2))], 114, none⟩]) rfl) (wt_none' rfl) fun _ => ?_
    refine sx_nil' ?_
    show TX E K19 _
    refine tx_k' hK19 ?_
    refine cx_seq' fun K20 hK20 => ?_
    refine cx_region' ?_
    refine sx_rd' (rd_assign' rfl) rfl rfl (wt_none' rfl) ?_
    refine sx_nil' ?_
    show TX E K20 _
    refine tx_k' hK20 ?_
    refine cx_retc' ?_
    replace hp := Option.some.inj hp
    subst hp
    refine tx_pick' (L' := [(4, (Vl .nilIface))]) (H' := [⟨.pointer (some wa0), [(Vl (.int .i64 a0_0)), (Vl (Vs g41)), (Vl (.int .i64 a0_2))], 114, none⟩, (Rw KG53 53 (Vs g41) r41)]) [1, 0] (sub_cons rfl sub_nil) (by decide) (pick_cons rfl (pick_cons rfl pick_nil)) ?_
    exact tx_ret1' Try.results46 rfl g41 (rv_tmp' rfl) (List.Sublist.refl _)
  · intro K2 hK2
    refine cx_seq' fun K3 hK3 => ?_
    refine cx_region' ?_
    refine sx_rd' (rd_move' rfl) rfl rfl (wt_none' rfl) ?_
    refine sx_rd' (rd_nilck' rfl) rfl rfl (wt_none' rfl) ?_
    refine sx_rd' (rd_field0' rfl Try.underlying114 rfl info61 rfl) rfl rfl (wt_none' rfl) ?_
    refine sx_rd' (rd_load' (i := 0) (o := 0) rfl ⟨rfl, rfl, rfl, rfl⟩ rfl flat61) rfl rfl (wt_none' rfl) ?_
    refine sx_rd' (rd_bin' rfl rfl eg_int ru_neq) rfl rfl (wt_none' rfl) ?_
    refine sx_nil' ?_
    show TX E K3 _
    refine tx_k' hK3 ?_
    refine cx_cond' rfl (fun h1 => ?_) (fun h1 => ?_)
    · replace hp := (br_t h1).symm.trans hp
      refine cx_seq' fun K4 hK4 => ?_
      refine cx_region' ?_
      refine sx_rd' (rd_move' rfl) rfl rfl (wt_none' rfl) ?_
      refine sx_rd' (rd_len' rfl Try.underlying112) rfl rfl (wt_none' rfl) ?_
      refine sx_rd' (rd_move' rfl) rfl rfl (wt_none' rfl) ?_
      refine sx_nil' ?_
      show TX E K4 _
      refine tx_k' hK4 ?_
      refine cx_block' ?_
      obtain ⟨y1, hy1, hp⟩ := bind_some hp
      refine cx_loopg' (F := gogeom_GeometryCollection_Push_v2_l1 a1 a0_0) (G := fun k R v => gogeom_GeometryCollection_Push_v2_l1s a1 a0_0 k R v) (x := 0) (gh := ()) (fun (v1 : Int) (w1 : Unit) => (⟨44, [], [(0, (Vl (.pointer (some wa0)))), (1, (Sl KG53 a1)), (13, (Sl KG53 a1)), (14, (Vl (.int .i64 (a1.length : Int)))), (15, (Vl (.int .i64 v1)))], [⟨.pointer (some wa0), [(Vl (.int .i64 a0_0)), (Vl (Vs wa0_1)), (Vl (.int .i64 a0_2))], 114, none⟩, (Rw KG53 53 (Vs wa0_1) a0_1)]⟩ : St)) (fun (y : Int ⊕ Unit) => match y with | (.inl v2) => Zg E Exit.ret (fun (w2 : Unit) => (⟨44, [], [(4, (If 134 (Ag [(Vl (.int .i64 v2)), (Vl (.int .i64 a0_0))])))], [⟨.pointer (some wa0), [(Vl (.int .i64 a0_0)), (Vl (Vs wa0_1)), (Vl (.int .i64 a0_2))], 114, none⟩, (Rw KG53 53 (Vs wa0_1) a0_1)]⟩ : St)) | (.inr v3) => Zg E (Exit.exit 0) (fun (w3 : Unit) => (⟨44, [], [(0, (Vl (.pointer (some wa0)))), (1, (Sl KG53 a1))], [⟨.pointer (some wa0), [(Vl (.int .i64 a0_0)), (Vl (Vs wa0_1)), (Vl (.int .i64 a0_2))], 114, none⟩, (Rw KG53 53 (Vs wa0_1) a0_1)]⟩ : St))) (fun _ => rfl) (fun _ _ => rfl) ?_ hy1 (tx_to' rfl [0, 1] (sub_cons rfl (sub_cons rfl (sub_cons rfl (sub_cons rfl (sub_cons rfl sub_nil))))) (by decide) (pick_cons rfl (pick_cons rfl pick_nil))) ?_
      · clear hp hy1
        clear y1
        intro k rec1 KY1 ih1
        rintro x1 ⟨⟩ y1 hp
        replace hp : gogeom_GeometryCollection_Push_v2_l1s a1 a0_0 k rec1 x1 = some y1 := hp
        unfold gogeom_GeometryCollection_Push_v2_l1s at hp
        refine cx_seq' fun K12 hK12 => ?_
        refine cx_region' ?_
        refine sx_rd' (rd_bin' rfl rfl eg_int ru_lss) rfl rfl (wt_none' rfl) ?_
        refine sx_nil' ?_
        show TX E K12 _
        refine tx_k' hK12 ?_
        refine cx_seq' fun K13 hK13 => ?_
        refine cx_cond' rfl (fun h5 => ?_) (fun h5 => ?_)
        · replace hp := (br_t h5).symm.trans hp
          refine cx_skip' ?_
          show TX E K13 _
          refine tx_k' hK13 ?_
          refine cx_seq' fun K14 hK14 => ?_
          refine cx_block' ?_
          refine cx_seq' fun K15 hK15 => ?_
          refine cx_region' ?_
          obtain ⟨r17, hr17, hp⟩ := bind_some hp
          refine sx_rd' (rd_at' (K := KG53) rfl rfl hr17 Try.underlying112 info53) rfl rfl (wt_none' rfl) ?_
          refine sx_rd' (rd_load_pt' rfl rfl flat53) rfl rfl (wt_none' rfl) ?_
          refine sx_rd' (rd_assign' rfl) rfl rfl (wt_none' rfl) ?_
          refine sx_nil' ?_
          show TX E K15 _
          refine tx_k' hK15 ?_
          refine cx_seq' fun K16 hK16 => ?_
          refine cx_region' ?_
          refine sx_rd' (rd_move' rfl) rfl rfl (wt_none' rfl) ?_
          rcases r17 with ⟨r17_0a, r17_0b, r17_0c, r17_0d⟩ | ⟨r17_1a, r17_1b, r17_1c, r17_1d⟩ | ⟨r17_2a, r17_2b, r17_2c, r17_2d⟩ | ⟨r17_3a, r17_3b, r17_3c, r17_3d, r17_3e⟩ | ⟨r17_4a, r17_4b, r17_4c, r17_4d, r17_4e⟩ | ⟨r17_5a, r17_5b, r17_5c, r17_5d, r17_5e⟩ | ⟨r17_6a, r17_6b, r17_6c, r17_6d, r17_6e⟩ | ⟨r17_7a, r17_7b, r17_7c⟩
          · dsimp only at hp
            refine tx_slot' 18 (y := (If 72 (Pt [(Vl (.int .i64 r17_0a)), (Vl (.int .i64 r17_0b)), (Sl Kf r17_0c), (Vl (.int .i64 r17_0d))]))) rfl (imp_eq (SG53_c0 r17_0a r17_0b r17_0c r17_0d)) ?_
            refine tx_slot' 6 (y := (If 72 (Pt [(Vl (.int .i64 r17_0a)), (Vl (.int .i64 r17_0b)), (Sl Kf r17_0c), (Vl (.int .i64 r17_0d))]))) rfl (imp_eq (SG53_c0 r17_0a r17_0b r17_0c r17_0d)) ?_
            refine tx_slot' 19 (y := (If 72 (Pt [(Vl (.int .i64 r17_0a)), (Vl (.int .i64 r17_0b)), (Sl Kf r17_0c), (Vl (.int .i64 r17_0d))]))) rfl (imp_eq (SG53_c0 r17_0a r17_0b r17_0c r17_0d)) ?_
            obtain ⟨r20, hr20, hp⟩ := bind_some hp
            refine sx_ox' (ox_calln' (ent_inv' rfl rfl (inv_pt0 inv72_Layout)) (gogeom_geom0_Layout_sim _ _ _ _ hr20 : Go.Sx.Fn Try.prog 134 [(Pt [(Vl (.int .i64 r17_0a)), (Vl (.int .i64 r17_0b)), (Sl Kf r17_0c), (Vl (.int .i64 r17_0d))])] [] (fun x : Unit => (Vl (.int .i64 r20))) (fun x => [])) (Hn := fun x : Unit => [⟨.pointer (some wa0), [(Vl (.int .i64 a0_0)), (Vl (Vs wa0_1)), (Vl (.int .i64 a0_2))], 114, none⟩, (Rw KG53 53 (Vs wa0_1) a0_1)]) (fun _ => rfl) rfl rfl) (wt_none' rfl) fun ⟨⟩ => ?_
            refine sx_rd' (rd_assign' rfl) rfl rfl (wt_none' rfl) ?_
            refine sx_nil' ?_
            show TX E K16 _
            refine tx_k' hK16 ?_
            refine cx_seq' fun K17 hK17 => ?_
            refine cx_region' ?_
            refine sx_rd' (rd_move' rfl) rfl rfl (wt_none' rfl) ?_
            refine sx_rd' (rd_move' rfl) rfl rfl (wt_none' rfl) ?_
            refine sx_rd' (rd_nilck' rfl) rfl rfl (wt_none' rfl) ?_
            refine sx_rd' (rd_field0' rfl Try.underlying114 rfl info61 rfl) rfl rfl (wt_none' rfl) ?_
            refine sx_rd' (rd_load' (i := 0) (o := 0) rfl ⟨rfl, rfl, rfl, rfl⟩ rfl flat61) rfl rfl (wt_none' rfl) ?_
            refine sx_rd' (rd_bin' rfl rfl eg_int ru_neq) rfl rfl (wt_none' rfl) ?_
            refine sx_nil' ?_
            show TX E K17 _
            refine tx_k' hK17 ?_
            refine cx_cond' rfl (fun h6 => ?_) (fun h6 => ?_)
            · replace hp := (br_t h6).symm.trans hp
              refine cx_seq' fun K18 hK18 => ?_
              refine cx_region' ?_
              refine sx_rd' (rd_move' rfl) rfl rfl (wt_none' rfl) ?_
              refine sx_rd' (rd_move' rfl) rfl rfl (wt_none' rfl) ?_
              refine sx_rd' (rd_nilck' rfl) rfl rfl (wt_none' rfl) ?_
              refine sx_rd' (rd_field0' rfl Try.underlying114 rfl info61 rfl) rfl rfl (wt_none' rfl) ?_
              refine sx_rd' (rd_load' (i := 0) (o := 0) rfl ⟨rfl, rfl, rfl, rfl⟩ rfl flat61) rfl rfl (wt_none' rfl) ?_
              refine sx_rd' (rd_build' (pls := [(0, 1), (1, 1)]) (qs := [(0, [(Vl (.int .i64 r20))]), (1, [(Vl (.int .i64 a0_0))])]) (r := [(Vl (.int .i64 r20)), (Vl (.int .i64 a0_0))]) ⟨rfl, ⟨_, rfl, (lv_vl rfl rfl)⟩, ⟨rfl, ⟨_, rfl, (lv_vl rfl rfl)⟩, trivial⟩⟩ Try.underlying134 has134 places134 info134 rfl rfl rfl) rfl rfl (wt_none' rfl) ?_
              refine sx_rd' (rd_iface' rfl ⟨_, Try.underlying134, fun _ h => (nomatch h)⟩) rfl rfl (wt_none' rfl) ?_
              refine sx_rd' (rd_assign' rfl) rfl rfl (wt_none' rfl) ?_
              refine sx_nil' ?_
              show TX E K18 _
              refine tx_k' hK18 ?_
              refine cx_retc' ?_
              replace hp := Option.some.inj hp
              subst hp
              show TX E (Zg E Exit.ret _ Exit.ret) _
              exact tx_zend' () rfl [0, 1] (sub_cons rfl sub_nil) (by decide) (pick_cons rfl (pick_cons rfl pick_nil))
            · replace hp := (br_f h6).symm.trans hp
              refine cx_skip' ?_
              show TX E K14 _
              refine tx_k' hK14 ?_
              refine cx_region' ?_
              refine sx_rd' (rd_bin' rfl rfl eg_int ru_add) rfl rfl (wt_none' rfl) ?_
              refine sx_rd' (rd_move' rfl) rfl rfl (wt_none' rfl) ?_
              refine sx_nil' ?_
              show TX E (KY1 _) _
              exact tx_pick' [0, 1] (sub_cons rfl (sub_cons rfl (sub_cons rfl (sub_cons rfl (sub_cons rfl sub_nil))))) (by decide) (pick_cons rfl (pick_cons rfl pick_nil)) (ih1 (iadd .i64 x1 1) () _ hp)
          · dsimp only at hp
            refine tx_slot' 18 (y := (If 75 (Pt [(Vl (.int .i64 r17_1a)), (Vl (.int .i64 r17_1b)), (Sl Kf r17_1c), (Vl (.int .i64 r17_1d))]))) rfl (imp_eq (SG53_c1 r17_1a r17_1b r17_1c r17_1d)) ?_
            refine tx_slot' 6 (y := (If 75 (Pt [(Vl (.int .i64 r17_1a)), (Vl (.int .i64 r17_1b)), (Sl Kf r17_1c), (Vl (.int .i64 r17_1d))]))) rfl (imp_eq (SG53_c1 r17_1a r17_1b r17_1c r17_1d)) ?_
            refine tx_slot' 19 (y := (If 75 (Pt [(Vl (.int .i64 r17_1a)), (Vl (.int .i64 r17_1b)), (Sl Kf r17_1c), (Vl (.int .i64 r17_1d))]))) rfl (imp_eq (SG53_c1 r17_1a r17_1b r17_1c r17_1d)) ?_
            obtain ⟨r20, hr20, hp⟩ := bind_some hp
            refine sx_ox' (ox_calln' (ent_inv' rfl rfl (inv_pt0 inv75_Layout)) (gogeom_geom0_Layout_sim _ _ _ _ hr20 : Go.Sx.Fn Try.prog 134 [(Pt [(Vl (.int .i64 r17_1a)), (Vl (.int .i64 r17_1b)), (Sl Kf r17_1c), (Vl (.int .i64 r17_1d))])] [] (fun x : Unit => (Vl (.int .i64 r20))) (fun x => [])) (Hn := fun x : Unit => [⟨.pointer (some wa0), [(Vl (.int .i64 a0_0)), (Vl (Vs wa0_1)), (Vl (.int .i64 a0_2))], 114, none⟩, (Rw KG53 53 (Vs wa0_1) a0_1)]) (fun _ => rfl) rfl rfl) (wt_none' rfl) fun ⟨⟩ => ?_
            refine sx_rd' (rd_assign' rfl) rfl rfl (wt_none' rfl) ?_
            refine sx_nil' ?_
            show TX E K16 _
            refine tx_k' hK16 ?_
            refine cx_seq' fun K17 hK17 => ?_
            refine cx_region' ?_
            refine sx_rd' (rd_move' rfl) rfl rfl (wt_none' rfl) ?_
            refine sx_rd' (rd_move' rfl) rfl rfl (wt_none' rfl) ?_
            refine sx_rd' (rd_nilck' rfl) rfl rfl (wt_none' rfl) ?_
            refine sx_rd' (rd_field0' rfl Try.underlying114 rfl info61 rfl) rfl rfl (wt_none' rfl) ?_
            refine sx_rd' (rd_load' (i := 0) (o := 0) rfl ⟨rfl, rfl, rfl, rfl⟩ rfl flat61) rfl rfl (wt_none' rfl) ?_
            refine sx_rd' (rd_bin' rfl rfl eg_int ru_neq) rfl rfl (wt_none' rfl) ?_
            refine sx_nil' ?_
            show TX E K17 _
            refine tx_k' hK17 ?_
            refine cx_cond' rfl (fun h6 => ?_) (fun h6 => ?_)
            · replace hp := (br_t h6).symm.trans hp
              refine cx_seq' fun K18 hK18 => ?_
              refine cx_region' ?_
              refine sx_rd' (rd_move' rfl) rfl rfl (wt_none' rfl) ?_
              refine sx_rd' (rd_move' rfl) rfl rfl (wt_none' rfl) ?_
              refine sx_rd' (rd_nilck' rfl) rfl rfl (wt_none' rfl) ?_
              refine sx_rd' (rd_field0' rfl Try.underlying114 rfl info61 rfl) rfl rfl (wt_none' rfl) ?_
              refine sx_rd' (rd_load' (i := 0) (o := 0) rfl ⟨rfl, rfl, rfl, rfl⟩ rfl flat61) rfl rfl (wt_none' rfl) ?_
              refine sx_rd' (rd_build' (pls := [(0, 1), (1, 1)]) (qs := [(0, [(Vl (.int .i64 r20))]), (1, [(Vl (.int .i64 a0_0))])]) (r := [(Vl (.int .i64 r20)), (Vl (.int .i64 a0_0))]) ⟨rfl, ⟨_, rfl, (lv_vl rfl rfl)⟩, ⟨rfl, ⟨_, rfl, (lv_vl rfl rfl)⟩, trivial⟩⟩ Try.underlying134 has134 places134 info134 rfl rfl rfl) rfl rfl (wt_none' rfl) ?_
              refine sx_rd' (rd_iface' rfl ⟨_, Try.underlying134, fun _ h => (nomatch h)⟩) rfl rfl (wt_none' rfl) ?_
              refine sx_rd' (rd_assign' rfl) rfl rfl (wt_none' rfl) ?_
              refine sx_nil' ?_
              show TX E K18 _
              refine tx_k' hK18 ?_
              refine cx_retc' ?_
              replace hp := Option.some.inj hp
              subst hp
              show TX E (Zg E Exit.ret _ Exit.ret) _
              exact tx_zend' () rfl [0, 1] (sub_cons rfl sub_nil) (by decide) (pick_cons rfl (pick_cons rfl pick_nil))
            · replace hp := (br_f h6).symm.trans hp
              refine cx_skip' ?_
              show TX E K14 _
              refine tx_k' hK14 ?_
              refine cx_region' ?_
              refine sx_rd' (rd_bin' rfl rfl eg_int ru_add) rfl rfl (wt_none' rfl) ?_
              refine sx_rd' (rd_move' rfl) rfl rfl (wt_none' rfl) ?_
              refine sx_nil' ?_
              show TX E (KY1 _) _
              exact tx_pick' [0, 1] (sub_cons rfl (sub_cons rfl (sub_cons rfl (sub_cons rfl (sub_cons rfl sub_nil))))) (by decide) (pick_cons rfl (pick_cons rfl pick_nil)) (ih1 (iadd .i64 x1 1) () _ hp)
          · dsimp only at hp
            refine tx_slot' 18 (y := (If 69 (Pt [(Vl (.int .i64 r17_2a)), (Vl (.int .i64 r17_2b)), (Sl Kf r17_2c), (Vl (.int .i64 r17_2d))]))) rfl (imp_eq (SG53_c2 r17_2a r17_2b r17_2c r17_2d)) ?_
            refine tx_slot' 6 (y := (If 69 (Pt [(Vl (.int .i64 r17_2a)), (Vl (.int .i64 r17_2b)), (Sl Kf r17_2c), (Vl (.int .i64 r17_2d))]))) rfl (imp_eq (SG53_c2 r17_2a r17_2b r17_2c r17_2d)) ?_
            refine tx_slot' 19 (y := (If 69 (Pt [(Vl (.int .i64 r17_2a)), (Vl (.int .i64 r17_2b)), (Sl Kf r17_2c), (Vl (.int .i64 r17_2d))]))) rfl (imp_eq (SG53_c2 r17_2a r17_2b r17_2c r17_2d)) ?_
            obtain ⟨r20, hr20, hp⟩ := bind_some hp
            refine sx_ox' (ox_calln' (ent_inv' rfl rfl (inv_pt0 inv69_Layout)) (gogeom_geom0_Layout_sim _ _ _ _ hr20 : Go.Sx.Fn Try.prog 134 [(Pt [(Vl (.int .i64 r17_2a)), (Vl (.int .i64 r17_2b)), (Sl Kf r17_2c), (Vl (.int .i64 r17_2d))])] [] (fun x : Unit => (Vl (.int .i64 r20))) (fun x => [])) (Hn := fun x : Unit => [⟨.pointer (some wa0), [(Vl (.int .i64 a0_0)), (Vl (Vs wa0_1)), (Vl (.int .i64 a0_2))], 114, none⟩, (Rw KG53 53 (Vs wa0_1) a0_1)]) (fun _ => rfl) rfl rfl) (wt_none' rfl) fun ⟨⟩ => ?_
            refine sx_rd' (rd_assign' rfl) rfl rfl (wt_none' rfl) ?_
            refine sx_nil' ?_
            show TX E K16 _
            refine tx_k' hK16 ?_
            refine cx_seq' fun K17 hK17 => ?_
            refine cx_region' ?_
            refine sx_rd' (rd_move' rfl) rfl rfl (wt_none' rfl) ?_
            refine sx_rd' (rd_move' rfl) rfl rfl (wt_none' rfl) ?_
            refine sx_rd' (rd_nilck' rfl) rfl rfl (wt_none' rfl) ?_
            refine sx_rd' (rd_field0' rfl Try.underlying114 rfl info61 rfl) rfl rfl (wt_none' rfl) ?_
            refine sx_rd' (rd_load' (i := 0) (o := 0) rfl ⟨rfl, rfl, rfl, rfl⟩ rfl flat61) rfl rfl (wt_none' rfl) ?_
            refine sx_rd' (rd_bin' rfl rfl eg_int ru_neq) rfl rfl (wt_none' rfl) ?_
            refine sx_nil' ?_
            show TX E K17 _
            refine tx_k' hK17 ?_
            refine cx_cond' rfl (fun h6 => ?_) (fun h6 => ?_)
            · replace hp := (br_t h6).symm.trans hp
              refine cx_seq' fun K18 hK18 => ?_
              refine cx_region' ?_
              refine sx_rd' (rd_move' rfl) rfl rfl (wt_none' rfl) ?_
              refine sx_rd' (rd_move' rfl) rfl rfl (wt_none' rfl) ?_
              refine sx_rd' (rd_nilck' rfl) rfl rfl (wt_none' rfl) ?_
              refine sx_rd' (rd_field0' rfl Try.underlying114 rfl info61 rfl) rfl rfl (wt_none' rfl) ?_
              refine sx_rd' (rd_load' (i := 0) (o := 0) rfl ⟨rfl, rfl, rfl, rfl⟩ rfl flat61) rfl rfl (wt_none' rfl) ?_
              refine sx_rd' (rd_build' (pls := [(0, 1), (1, 1)]) (qs := [(0, [(Vl (.int .i64 r20))]), (1, [(Vl (.int .i64 a0_0))])]) (r := [(Vl (.int .i64 r20)), (Vl (.int .i64 a0_0))]) ⟨rfl, ⟨_, rfl, (lv_vl rfl rfl)⟩, ⟨rfl, ⟨_, rfl, (lv_vl rfl rfl)⟩, trivial⟩⟩ Try.underlying134 has134 places134 info134 rfl rfl rfl) rfl rfl (wt_none' rfl) ?_
              refine sx_rd' (rd_iface' rfl ⟨_, Try.underlying134, fun _ h => (nomatch h)⟩) rfl rfl (wt_none' rfl) ?_
              refine sx_rd' (rd_assign' rfl) rfl rfl (wt_none' rfl) ?_
              refine sx_nil' ?_
              show TX E K18 _
              refine tx_k' hK18 ?_
              refine cx_retc' ?_
              replace hp := Option.some.inj hp
              subst hp
              show TX E (Zg E Exit.ret _ Exit.ret) _
              exact tx_zend' () rfl [0, 1] (sub_cons rfl sub_nil) (by decide) (pick_cons rfl (pick_cons rfl pick_nil))
            · replace hp := (br_f h6).symm.trans hp
              refine cx_skip' ?_
              show TX E K14 _
              refine tx_k' hK14 ?_
              refine cx_region' ?_
              refine sx_rd' (rd_bin' rfl rfl eg_int ru_add) rfl rfl (wt_none' rfl) ?_
              refine sx_rd' (rd_move' rfl) rfl rfl (wt_none' rfl) ?_
              refine sx_nil' ?_
              show TX E (KY1 _) _
              exact tx_pick' [0, 1] (sub_cons rfl (sub_cons rfl (sub_cons rfl (sub_cons rfl (sub_cons rfl sub_nil))))) (by decide) (pick_cons rfl (pick_cons rfl pick_nil)) (ih1 (iadd .i64 x1 1) () _ hp)
          · dsimp only at hp
            refine tx_slot' 18 (y := (If 67 (Pt [(Vl (.int .i64 r17_3a)), (Vl (.int .i64 r17_3b)), (Sl Kf r17_3c), (Vl (.int .i64 r17_3d)), (Sl (Ki .i64) r17_3e)]))) rfl (imp_eq (SG53_c3 r17_3a r17_3b r17_3c r17_3d r17_3e)) ?_
            refine tx_slot' 6 (y := (If 67 (Pt [(Vl (.int .i64 r17_3a)), (Vl (.int .i64 r17_3b)), (Sl Kf r17_3c), (Vl (.int .i64 r17_3d)), (Sl (Ki .i64) r17_3e)]))) rfl (imp_eq (SG53_c3 r17_3a r17_3b r17_3c r17_3d r17_3e)) ?_
            refine tx_slot' 19 (y := (If 67 (Pt [(Vl (.int .i64 r17_3a)), (Vl (.int .i64 r17_3b)), (Sl Kf r17_3c), (Vl (.int .i64 r17_3d)), (Sl (Ki .i64) r17_3e)]))) rfl (imp_eq (SG53_c3 r17_3a r17_3b r17_3c r17_3d r17_3e)) ?_
            obtain ⟨r20, hr20, hp⟩ := bind_some hp
            refine sx_ox' (ox_calln' (ent_inv' rfl rfl (inv_pt0 inv67_Layout)) (gogeom_geom0_Layout_v2_sim _ _ _ _ _ hr20 : Go.Sx.Fn Try.prog 134 [(Pt [(Vl (.int .i64 r17_3a)), (Vl (.int .i64 r17_3b)), (Sl Kf r17_3c), (Vl (.int .i64 r17_3d)), (Sl (Ki .i64) r17_3e)])] [] (fun x : Unit => (Vl (.int .i64 r20))) (fun x => [])) (Hn := fun x : Unit => [⟨.pointer (some wa0), [(Vl (.int .i64 a0_0)), (Vl (Vs wa0_1)), (Vl (.int .i64 a0_2))], 114, none⟩, (Rw KG53 53 (Vs wa0_1) a0_1)]) (fun _ => rfl) rfl rfl) (wt_none' rfl) fun ⟨⟩ => ?_
            refine sx_rd' (rd_assign' rfl) rfl rfl (wt_none' rfl) ?_
            refine sx_nil' ?_
            show TX E K16 _
            refine tx_k' hK16 ?_
            refine cx_seq' fun K17 hK17 => ?_
            refine cx_region' ?_
            refine sx_rd' (rd_move' rfl) rfl rfl (wt_none' rfl) ?_
            refine sx_rd' (rd_move' rfl) rfl rfl (wt_none' rfl) ?_
            refine sx_rd' (rd_nilck' rfl) rfl rfl (wt_none' rfl) ?_
            refine sx_rd' (rd_field0' rfl Try.underlying114 rfl info61 rfl) rfl rfl (wt_none' rfl) ?_
            refine sx_rd' (rd_load' (i := 0) (o := 0) rfl ⟨rfl, rfl, rfl, rfl⟩ rfl flat61) rfl rfl (wt_none' rfl) ?_
            refine sx_rd' (rd_bin' rfl rfl eg_int ru_neq) rfl rfl (wt_none' rfl) ?_
            refine sx_nil' ?_
            show TX E K17 _
            refine tx_k' hK17 ?_
            refine cx_cond' rfl (fun h6 => ?_) (fun h6 => ?_)
            · replace hp := (br_t h6).symm.trans hp
              refine cx_seq' fun K18 hK18 => ?_
              refine cx_region' ?_
              refine sx_rd' (rd_move' rfl) rfl rfl (wt_none' rfl) ?_
              refine sx_rd' (rd_move' rfl) rfl rfl (wt_none' rfl) ?_
              refine sx_rd' (rd_nilck' rfl) rfl rfl (wt_none' rfl) ?_
              refine sx_rd' (rd_field0' rfl Try.underlying114 rfl info61 rfl) rfl rfl (wt_none' rfl) ?_
              refine sx_rd' (rd_load' (i := 0) (o := 0) rfl ⟨rfl, rfl, rfl, rfl⟩ rfl flat61) rfl rfl (wt_none' rfl) ?_
              refine sx_rd' (rd_build' (pls := [(0, 1), (1, 1)]) (qs := [(0, [(Vl (.int .i64 r20))]), (1, [(Vl (.int .i64 a0_0))])]) (r := [(Vl (.int .i64 r20)), (Vl (.int .i64 a0_0))]) ⟨rfl, ⟨_, rfl, (lv_vl rfl rfl)⟩, ⟨rfl, ⟨_, rfl, (lv_vl rfl rfl)⟩, trivial⟩⟩ Try.underlying134 has134 places134 info134 rfl rfl rfl) rfl rfl (wt_none' rfl) ?_
              refine sx_rd' (rd_iface' rfl ⟨_, Try.underlying134, fun _ h => (nomatch h)⟩) rfl rfl (wt_none' rfl) ?_
              refine sx_rd' (rd_assign' rfl) rfl rfl (wt_none' rfl) ?_
              refine sx_nil' ?_
              show TX E K18 _
              refine tx_k' hK18 ?_
              refine cx_retc' ?_
              replace hp := Option.some.inj hp
              subst hp
              show TX E (Zg E Exit.ret _ Exit.ret) _
              exact tx_zend' () rfl [0, 1] (sub_cons rfl sub_nil) (by decide) (pick_cons rfl (pick_cons rfl pick_nil))
            · replace hp := (br_f h6).symm.trans hp
              refine cx_skip' ?_
              show TX E K14 _
              refine tx_k' hK14 ?_
              refine cx_region' ?_
              refine sx_rd' (rd_bin' rfl rfl eg_int ru_add) rfl rfl (wt_none' rfl) ?_
              refine sx_rd' (rd_move' rfl) rfl rfl (wt_none' rfl) ?_
              refine sx_nil' ?_
              show TX E (KY1 _) _
              exact tx_pick' [0, 1] (sub_cons rfl (sub_cons rfl (sub_cons rfl (sub_cons rfl (sub_cons rfl sub_nil))))) (by decide) (pick_cons rfl (pick_cons rfl pick_nil)) (ih1 (iadd .i64 x1 1) () _ hp)
          · dsimp only at hp
            refine tx_slot' 18 (y := (If 70 (Pt [(Vl (.int .i64 r17_4a)), (Vl (.int .i64 r17_4b)), (Sl Kf r17_4c), (Vl (.int .i64 r17_4d)), (Sl (Ki .i64) r17_4e)]))) rfl (imp_eq (SG53_c4 r17_4a r17_4b r17_4c r17_4d r17_4e)) ?_
            refine tx_slot' 6 (y := (If 70 (Pt [(Vl (.int .i64 r17_4a)), (Vl (.int .i64 r17_4b)), (Sl Kf r17_4c), (Vl (.int .i64 r17_4d)), (Sl (Ki .i64) r17_4e)]))) rfl (imp_eq (SG53_c4 r17_4a r17_4b r17_4c r17_4d r17_4e)) ?_
            refine tx_slot' 19 (y := (If 70 (Pt [(Vl (.int .i64 r17_4a)), (Vl (.int .i64 r17_4b)), (Sl Kf r17_4c), (Vl (.int .i64 r17_4d)), (Sl (Ki .i64) r17_4e)]))) rfl (imp_eq (SG53_c4 r17_4a r17_4b r17_4c r17_4d r17_4e)) ?_
            obtain ⟨r20, hr20, hp⟩ := bind_some hp
            refine sx_ox' (ox_calln' (ent_inv' rfl rfl (inv_pt0 inv70_Layout)) (gogeom_geom0_Layout_v2_sim _ _ _ _ _ hr20 : Go.Sx.Fn Try.prog 134 [(Pt [(Vl (.int .i64 r17_4a)), (Vl (.int .i64 r17_4b)), (Sl Kf r17_4c), (Vl (.int .i64 r17_4d)), (Sl (Ki .i64) r17_4e)])] [] (fun x : Unit => (Vl (.int .i64 r20))) (fun x => [])) (Hn := fun x : Unit => [⟨.pointer (some wa0), [(Vl (.int .i64 a0_0)), (Vl (Vs wa0_1)), (Vl (.int .i64 a0_2))], 114, none⟩, (Rw KG53 53 (Vs wa0_1) a0_1)]) (fun _ => rfl) rfl rfl) (wt_none' rfl) fun ⟨⟩ => ?_
            refine sx_rd' (rd_assign' rfl) rfl rfl (wt_none' rfl) ?_
            refine sx_nil' ?_
            show TX E K16 _
            refine tx_k' hK16 ?_
            refine cx_seq' fun K17 hK17 => ?_
            refine cx_region' ?_
            refine sx_rd' (rd_move' rfl) rfl rfl (wt_none' rfl) ?_
            refine sx_rd' (rd_move' rfl) rfl rfl (wt_none' rfl) ?_
            refine sx_rd' (rd_nilck' rfl) rfl rfl (wt_none' rfl) ?_
            refine sx_rd' (rd_field0' rfl Try.underlying114 rfl info61 rfl) rfl rfl (wt_none' rfl) ?_
            refine sx_rd' (rd_load' (i := 0) (o := 0) rfl ⟨rfl, rfl, rfl, rfl⟩ rfl flat61) rfl rfl (wt_none' rfl) ?_
            refine sx_rd' (rd_bin' rfl rfl eg_int ru_neq) rfl rfl (wt_none' rfl) ?_
            refine sx_nil' ?_
            show TX E K17 _
            refine tx_k' hK17 ?_
            refine cx_cond' rfl (fun h6 => ?_) (fun h6 => ?_)
            · replace hp := (br_t h6).symm.trans hp
              refine cx_seq' fun K18 hK18 => ?_
              refine cx_region' ?_
              refine sx_rd' (rd_move' rfl) rfl rfl (wt_none' rfl) ?_
              refine sx_rd' (rd_move' rfl) rfl rfl (wt_none' rfl) ?_
              refine sx_rd' (rd_nilck' rfl) rfl rfl (wt_none' rfl) ?_
              refine sx_rd' (rd_field0' rfl Try.underlying114 rfl info61 rfl) rfl rfl (wt_none' rfl) ?_
              refine sx_rd' (rd_load' (i := 0) (o := 0) rfl ⟨rfl, rfl, rfl, rfl⟩ rfl flat61) rfl rfl (wt_none' rfl) ?_
              refine sx_rd' (rd_build' (pls := [(0, 1), (1, 1)]) (qs := [(0, [(Vl (.int .i64 r20))]), (1, [(Vl (.int .i64 a0_0))])]) (r := [(Vl (.int .i64 r20)), (Vl (.int .i64 a0_0))]) ⟨rfl, ⟨_, rfl, (lv_vl rfl rfl)⟩, ⟨rfl, ⟨_, rfl, (lv_vl rfl rfl)⟩, trivial⟩⟩ Try.underlying134 has134 places134 info134 rfl rfl rfl) rfl rfl (wt_none' rfl) ?_
              refine sx_rd' (rd_iface' rfl ⟨_, Try.underlying134, fun _ h => (nomatch h)⟩) rfl rfl (wt_none' rfl) ?_
              refine sx_rd' (rd_assign' rfl) rfl rfl (wt_none' rfl) ?_
              refine sx_nil' ?_
              show TX E K18 _
              refine tx_k' hK18 ?_
              refine cx_retc' ?_
              replace hp := Option.some.inj hp
              subst hp
              show TX E (Zg E Exit.ret _ Exit.ret) _
              exact tx_zend' () rfl [0, 1] (sub_cons rfl sub_nil) (by decide) (pick_cons rfl (pick_cons rfl pick_nil))
            · replace hp := (br_f h6).symm.trans hp
              refine cx_skip' ?_
              show TX E K14 _
              refine tx_k' hK14 ?_
              refine cx_region' ?_
              refine sx_rd' (rd_bin' rfl rfl eg_int ru_add) rfl rfl (wt_none' rfl) ?_
              refine sx_rd' (rd_move' rfl) rfl rfl (wt_none' rfl) ?_
              refine sx_nil' ?_
              show TX E (KY1 _) _
              exact tx_pick' [0, 1] (sub_cons rfl (sub_cons rfl (sub_cons rfl (sub_cons rfl (sub_cons rfl sub_nil))))) (by decide) (pick_cons rfl (pick_cons rfl pick_nil)) (ih1 (iadd .i64 x1 1) () _ hp)
          · dsimp only at hp
            refine tx_slot' 18 (y := (If 73 (Pt [(Vl (.int .i64 r17_5a)), (Vl (.int .i64 r17_5b)), (Sl Kf r17_5c), (Vl (.int .i64 r17_5d)), (Sl (Ki .i64) r17_5e)]))) rfl (imp_eq (SG53_c5 r17_5a r17_5b r17_5c r17_5d r17_5e)) ?_
            refine tx_slot' 6 (y := (If 73 (Pt [(Vl (.int .i64 r17_5a)), (Vl (.int .i64 r17_5b)), (Sl Kf r17_5c), (Vl (.int .i64 r17_5d)), (Sl (Ki .i64) r17_5e)]))) rfl (imp_eq (SG53_c5 r17_5a r17_5b r17_5c r17_5d r17_5e)) ?_
            refine tx_slot' 19 (y := (If 73 (Pt [(Vl (.int .i64 r17_5a)), (Vl (.int .i64 r17_5b)), (Sl Kf r17_5c), (Vl (.int .i64 r17_5d)), (Sl (Ki .i64) r17_5e)]))) rfl (imp_eq (SG53_c5 r17_5a r17_5b r17_5c r17_5d r17_5e)) ?_
            obtain ⟨r20, hr20, hp⟩ := bind_some hp
            refine sx_ox' (ox_calln' (ent_inv' rfl rfl (inv_pt0 inv73_Layout)) (gogeom_geom0_Layout_v2_sim _ _ _ _ _ hr20 : Go.Sx.Fn Try.prog 134 [(Pt [(Vl (.int .i64 r17_5a)), (Vl (.int .i64 r17_5b)), (Sl Kf r17_5c), (Vl (.int .i64 r17_5d)), (Sl (Ki .i64) r17_5e)])] [] (fun x : Unit => (Vl (.int .i64 r20))) (fun x => [])) (Hn := fun x : Unit => [⟨.pointer (some wa0), [(Vl (.int .i64 a0_0)), (Vl (Vs wa0_1)), (Vl (.int .i64 a0_2))], 114, none⟩, (Rw KG53 53 (Vs wa0_1) a0_1)]) (fun _ => rfl) rfl rfl) (wt_none' rfl) fun ⟨⟩ => ?_
            refine sx_rd' (rd_assign' rfl) rfl rfl (wt_none' rfl) ?_
            refine sx_nil' ?_
            show TX E K16 _
            refine tx_k' hK16 ?_
            refine cx_seq' fun K17 hK17 => ?_
            refine cx_region' ?_
            refine sx_rd' (rd_move' rfl) rfl rfl (wt_none' rfl) ?_
            refine sx_rd' (rd_move' rfl) rfl rfl (wt_none' rfl) ?_
            refine sx_rd' (rd_nilck' rfl) rfl rfl (wt_none' rfl) ?_
            refine sx_rd' (rd_field0' rfl Try.underlying114 rfl info61 rfl) rfl rfl (wt_none' rfl) ?_
            refine sx_rd' (rd_load' (i := 0) (o := 0) rfl ⟨rfl, rfl, rfl, rfl⟩ rfl flat61) rfl rfl (wt_none' rfl) ?_
            refine sx_rd' (rd_bin' rfl rfl eg_int ru_neq) rfl rfl (wt_none' rfl) ?_
            refine sx_nil' ?_
            show TX E K17 _
            refine tx_k' hK17 ?_
            refine cx_cond' rfl (fun h6 => ?_) (fun h6 => ?_)
            · replace hp := (br_t h6).symm.trans hp
              refine cx_seq' fun K18 hK18 => ?_
              refine cx_region' ?_
              refine sx_rd' (rd_move' rfl) rfl rfl (wt_none' rfl) ?_
              refine sx_rd' (rd_move' rfl) rfl rfl (wt_none' rfl) ?_
              refine sx_rd' (rd_nilck' rfl) rfl rfl (wt_none' rfl) ?_
              refine sx_rd' (rd_field0' rfl Try.underlying114 rfl info61 rfl) rfl rfl (wt_none' rfl) ?_
              refine sx_rd' (rd_load' (i := 0) (o := 0) rfl ⟨rfl, rfl, rfl, rfl⟩ rfl flat61) rfl rfl (wt_none' rfl) ?_
              refine sx_rd' (rd_build' (pls := [(0, 1), (1, 1)]) (qs := [(0, [(Vl (.int .i64 r20))]), (1, [(Vl (.int .i64 a0_0))])]) (r := [(Vl (.int .i64 r20)), (Vl (.int .i64 a0_0))]) ⟨rfl, ⟨_, rfl, (lv_vl rfl rfl)⟩, ⟨rfl, ⟨_, rfl, (lv_vl rfl rfl)⟩, trivial⟩⟩ Try.underlying134 has134 places134 info134 rfl rfl rfl) rfl rfl (wt_none' rfl) ?_
              refine sx_rd' (rd_iface' rfl ⟨_, Try.underlying134, fun _ h => (nomatch h)⟩) rfl rfl (wt_none' rfl) ?_
              refine sx_rd' (rd_assign' rfl) rfl rfl (wt_none' rfl) ?_
              refine sx_nil' ?_
              show TX E K18 _
              refine tx_k' hK18 ?_
              refine cx_retc' ?_
              replace hp := Option.some.inj hp
              subst hp
              show TX E (Zg E Exit.ret _ Exit.ret) _
              exact tx_zend' () rfl [0, 1] (sub_cons rfl sub_nil) (by decide) (pick_cons rfl (pick_cons rfl pick_nil))
            · replace hp := (br_f h6).symm.trans hp
              refine cx_skip' ?_
              show TX E K14 _
              refine tx_k' hK14 ?_
              refine cx_region' ?_
              refine sx_rd' (rd_bin' rfl rfl eg_int ru_add) rfl rfl (wt_none' rfl) ?_
              refine sx_rd' (rd_move' rfl) rfl rfl (wt_none' rfl) ?_
              refine sx_nil' ?_
              show TX E (KY1 _) _
              exact tx_pick' [0, 1] (sub_cons rfl (sub_cons rfl (sub_cons rfl (sub_cons rfl (sub_cons rfl sub_nil))))) (by decide) (pick_cons rfl (pick_cons rfl pick_nil)) (ih1 (iadd .i64 x1 1) () _ hp)
          · dsimp only at hp
            refine tx_slot' 18 (y := (If 76 (Pt [(Vl (.int .i64 r17_6a)), (Vl (.int .i64 r17_6b)), (Sl Kf r17_6c), (Vl (.int .i64 r17_6d)), (Sl (Kl (Ki .i64)) r17_6e)]))) rfl (imp_eq (SG53_c6 r17_6a r17_6b r17_6c r17_6d r17_6e)) ?_
            refine tx_slot' 6 (y := (If 76 (Pt [(Vl (.int .i64 r17_6a)), (Vl (.int .i64 r17_6b)), (Sl Kf r17_6c), (Vl (.int .i64 r17_6d)), (Sl (Kl (Ki .i64)) r17_6e)]))) rfl (imp_eq (SG53_c6 r17_6a r17_6b r17_6c r17_6d r17_6e)) ?_
            refine tx_slot' 19 (y := (If 76 (Pt [(Vl (.int .i64 r17_6a)), (Vl (.int .i64 r17_6b)), (Sl Kf r17_6c), (Vl (.int .i64 r17_6d)), (Sl (Kl (Ki .i64)) r17_6e)]))) rfl (imp_eq (SG53_c6 r17_6a r17_6b r17_6c r17_6d r17_6e)) ?_
            obtain ⟨r20, hr20, hp⟩ := bind_some hp
            refine sx_ox' (ox_calln' (ent_inv' rfl rfl (inv_pt0 inv76_Layout)) (gogeom_geom0_Layout_v3_sim _ _ _ _ _ hr20 : Go.Sx.Fn Try.prog 134 [(Pt [(Vl (.int .i64 r17_6a)), (Vl (.int .i64 r17_6b)), (Sl Kf r17_6c), (Vl (.int .i64 r17_6d)), (Sl (Kl (Ki .i64)) r17_6e)])] [] (fun x : Unit => (Vl (.int .i64 r20))) (fun x => [])) (Hn := fun x : Unit => [⟨.pointer (some wa0), [(Vl (.int .i64 a0_0)), (Vl (Vs wa0_1)), (Vl (.int .i64 a0_2))], 114, none⟩, (Rw KG53 53 (Vs wa0_1) a0_1)]) (fun _ => rfl) rfl rfl) (wt_none' rfl) fun ⟨⟩ => ?_
            refine sx_rd' (rd_assign' rfl) rfl rfl (wt_none' rfl) ?_
            refine sx_nil' ?_
            show TX E K16 _
            refine tx_k' hK16 ?_
            refine cx_seq' fun K17 hK17 => ?_
            refine cx_region' ?_
            refine sx_rd' (rd_move' rfl) rfl rfl (wt_none' rfl) ?_
            refine sx_rd' (rd_move' rfl) rfl rfl (wt_none' rfl) ?_
            refine sx_rd' (rd_nilck' rfl) rfl rfl (wt_none' rfl) ?_
            refine sx_rd' (rd_field0' rfl Try.underlying114 rfl info61 rfl) rfl rfl (wt_none' rfl) ?_
            refine sx_rd' (rd_load' (i := 0) (o := 0) rfl ⟨rfl, rfl, rfl, rfl⟩ rfl flat61) rfl rfl (wt_none' rfl) ?_
            refine sx_rd' (rd_bin' rfl rfl eg_int ru_neq) rfl rfl (wt_none' rfl) ?_
            refine sx_nil' ?_
            show TX E K17 _
            refine tx_k' hK17 ?_
            refine cx_cond' rfl (fun h6 => ?_) (fun h6 => ?_)
            · replace hp := (br_t h6).symm.trans hp
              refine cx_seq' fun K18 hK18 => ?_
              refine cx_region' ?_
              refine sx_rd' (rd_move' rfl) rfl rfl (wt_none' rfl) ?_
              refine sx_rd' (rd_move' rfl) rfl rfl (wt_none' rfl) ?_
              refine sx_rd' (rd_nilck' rfl) rfl rfl (wt_none' rfl) ?_
              refine sx_rd' (rd_field0' rfl Try.underlying114 rfl info61 rfl) rfl rfl (wt_none' rfl) ?_
              refine sx_rd' (rd_load' (i := 0) (o := 0) rfl ⟨rfl, rfl, rfl, rfl⟩ rfl flat61) rfl rfl (wt_none' rfl) ?_
              refine sx_rd' (rd_build' (pls := [(0, 1), (1, 1)]) (qs := [(0, [(Vl (.int .i64 r20))]), (1, [(Vl (.int .i64 a0_0))])]) (r := [(Vl (.int .i64 r20)), (Vl (.int .i64 a0_0))]) ⟨rfl, ⟨_, rfl, (lv_vl rfl rfl)⟩, ⟨rfl, ⟨_, rfl, (lv_vl rfl rfl)⟩, trivial⟩⟩ Try.underlying134 has134 places134 info134 rfl rfl rfl) rfl rfl (wt_none' rfl) ?_
              refine sx_rd' (rd_iface' rfl ⟨_, Try.underlying134, fun _ h => (nomatch h)⟩) rfl rfl (wt_none' rfl) ?_
              refine sx_rd' (rd_assign' rfl) rfl rfl (wt_none' rfl) ?_
              refine sx_nil' ?_
              show TX E K18 _
              refine tx_k' hK18 ?_
              refine cx_retc' ?_
              replace hp := Option.some.inj hp
              subst hp
              show TX E (Zg E Exit.ret _ Exit.ret) _
              exact tx_zend' () rfl [0, 1] (sub_cons rfl sub_nil) (by decide) (pick_cons rfl (pick_cons rfl pick_nil))
            · replace hp := (br_f h6).symm.trans hp
              refine cx_skip' ?_
              show TX E K14 _
              refine tx_k' hK14 ?_
              refine cx_region' ?_
              refine sx_rd' (rd_bin' rfl rfl eg_int ru_add) rfl rfl (wt_none' rfl) ?_
              refine sx_rd' (rd_move' rfl) rfl rfl (wt_none' rfl) ?_
              refine sx_nil' ?_
              show TX E (KY1 _) _
              exact tx_pick' [0, 1] (sub_cons rfl (sub_cons rfl (sub_cons rfl (sub_cons rfl (sub_cons rfl sub_nil))))) (by decide) (pick_cons rfl (pick_cons rfl pick_nil)) (ih1 (iadd .i64 x1 1) () _ hp)
          · dsimp only at hp
            refine tx_slot' 18 (y := (If 57 (Pt [(Vl (.int .i64 r17_7a)), (Sl KG53 r17_7b), (Vl (.int .i64 r17_7c))]))) rfl (imp_eq (SG53_c7 r17_7a r17_7b r17_7c)) ?_
            refine tx_slot' 6 (y := (If 57 (Pt [(Vl (.int .i64 r17_7a)), (Sl KG53 r17_7b), (Vl (.int .i64 r17_7c))]))) rfl (imp_eq (SG53_c7 r17_7a r17_7b r17_7c)) ?_
            refine tx_slot' 19 (y := (If 57 (Pt [(Vl (.int .i64 r17_7a)), (Sl KG53 r17_7b), (Vl (.int .i64 r17_7c))]))) rfl (imp_eq (SG53_c7 r17_7a r17_7b r17_7c)) ?_
            obtain ⟨r20, hr20, hp⟩ := bind_some hp
            refine sx_ox' (ox_calln' (ent_inv' rfl rfl (inv_any0 inv57_Layout)) (gogeom_GeometryCollection_Layout_sim _ _ _ hr20 : Go.Sx.Fn Try.prog 125 [(Pt [(Vl (.int .i64 r17_7a)), (Sl KG53 r17_7b), (Vl (.int .i64 r17_7c))])] [] (fun x : Unit => (Vl (.int .i64 r20))) (fun x => [])) (Hn := fun x : Unit => [⟨.pointer (some wa0), [(Vl (.int .i64 a0_0)), (Vl (Vs wa0_1)), (Vl (.int .i64 a0_2))], 114, none⟩, (Rw KG53 53 (Vs wa0_1) a0_1)]) (fun _ => rfl) rfl rfl) (wt_none' rfl) fun ⟨⟩ => ?_
            refine sx_rd' (rd_assign' rfl) rfl rfl (wt_none' rfl) ?_
            refine sx_nil' ?_
            show TX E K16 _
            refine tx_k' hK16 ?_
            refine cx_seq' fun K17 hK17 => ?_
            refine cx_region' ?_
            refine sx_rd' (rd_move' rfl) rfl rfl (wt_none' rfl) ?_
            refine sx_rd' (rd_move' rfl) rfl rfl (wt_none' rfl) ?_
            refine sx_rd' (rd_nilck' rfl) rfl rfl (wt_none' rfl) ?_
            refine sx_rd' (rd_field0' rfl Try.underlying114 rfl info61 rfl) rfl rfl (wt_none' rfl) ?_
            refine sx_rd' (rd_load' (i := 0) (o := 0) rfl ⟨rfl, rfl, rfl, rfl⟩ rfl flat61) rfl rfl (wt_none' rfl) ?_
            refine sx_rd' (rd_bin' rfl rfl eg_int ru_neq) rfl rfl (wt_none' rfl) ?_
            refine sx_nil' ?_
            show TX E K17 _
            refine tx_k' hK17 ?_
            refine cx_cond' rfl (fun h6 => ?_) (fun h6 => ?_)
            · replace hp := (br_t h6).symm.trans hp
              refine cx_seq' fun K18 hK18 => ?_
              refine cx_region' ?_
              refine sx_rd' (rd_move' rfl) rfl rfl (wt_none' rfl) ?_
              refine sx_rd' (rd_move' rfl) rfl rfl (wt_none' rfl) ?_
              refine sx_rd' (rd_nilck' rfl) rfl rfl (wt_none' rfl) ?_
              refine sx_rd' (rd_field0' rfl Try.underlying114 rfl info61 rfl) rfl rfl (wt_none' rfl) ?_
              refine sx_rd' (rd_load' (i := 0) (o := 0) rfl ⟨rfl, rfl, rfl, rfl⟩ rfl flat61) rfl rfl (wt_none' rfl) ?_
              refine sx_rd' (rd_build' (pls := [(0, 1), (1, 1)]) (qs := [(0, [(Vl (.int .i64 r20))]), (1, [(Vl (.int .i64 a0_0))])]) (r := [(Vl (.int .i64 r20)), (Vl (.int .i64 a0_0))]) ⟨rfl, ⟨_, rfl, (lv_vl rfl rfl)⟩, ⟨rfl, ⟨_, rfl, (lv_vl rfl rfl)⟩, trivial⟩⟩ Try.underlying134 has134 places134 info134 rfl rfl rfl) rfl rfl (wt_none' rfl) ?_
              refine sx_rd' (rd_iface' rfl ⟨_, Try.underlying134, fun _ h => (nomatch h)⟩) rfl rfl (wt_none' rfl) ?_
              refine sx_rd' (rd_assign' rfl) rfl rfl (wt_none' rfl) ?_
              refine sx_nil' ?_
              show TX E K18 _
              refine tx_k' hK18 ?_
              refine cx_retc' ?_
              replace hp := Option.some.inj hp
              subst hp
              show TX E (Zg E Exit.ret _ Exit.ret) _
              exact tx_zend' () rfl [0, 1] (sub_cons rfl sub_nil) (by decide) (pick_cons rfl (pick_cons rfl pick_nil))
            · replace hp := (br_f h6).symm.trans hp
              refine cx_skip' ?_
              show TX E K14 _
              refine tx_k' hK14 ?_
              refine cx_region' ?_
              refine sx_rd' (rd_bin' rfl rfl eg_int ru_add) rfl rfl (wt_none' rfl) ?_
              refine sx_rd' (rd_move' rfl) rfl rfl (wt_none' rfl) ?_
              refine sx_nil' ?_
              show TX E (KY1 _) _
              exact tx_pick' [0, 1] (sub_cons rfl (sub_cons rfl (sub_cons rfl (sub_cons rfl (sub_cons rfl sub_nil))))) (by decide) (pick_cons rfl (pick_cons rfl pick_nil)) (ih1 (iadd .i64 x1 1) () _ hp)
        · replace hp := (br_f h5).symm.trans hp
          refine cx_exit' ?_
          replace hp := Option.some.inj hp
          subst hp
          show TX E (Zg E (Exit.exit 0) _ (Exit.exit 0)) _
          exact tx_zend' () rfl [0, 1] (sub_cons rfl (sub_cons rfl sub_nil)) (by decide) (pick_cons rfl (pick_cons rfl pick_nil))
      · rcases y1 with v2 | v3
        · dsimp only at hp
          refine zg_out fun w2 => ?_
          replace hp := Option.some.inj hp
          subst hp
          refine tx_pick' (L' := [(4, (If 134 (Ag [(Vl (.int .i64 v2)), (Vl (.int .i64 a0_0))])))]) (H' := [⟨.pointer (some wa0), [(Vl (.int .i64 a0_0)), (Vl (Vs wa0_1)), (Vl (.int .i64 a0_2))], 114, none⟩, (Rw KG53 53 (Vs wa0_1) a0_1)]) [0, 1] (sub_cons rfl sub_nil) (by decide) (pick_cons rfl (pick_cons rfl pick_nil)) ?_
          exact tx_ret1' Try.results46 rfl (none, 0, 0) (rv_tmp' rfl) (List.Sublist.refl _)
        · dsimp only at hp
          refine zg_out fun w3 => ?_
          show TX E K2 _
          exact tx_pick' [0, 1] (sub_cons rfl (sub_cons rfl sub_nil)) (by decide) (pick_cons rfl (pick_cons rfl pick_nil)) (hK2 () hp)
    · replace hp := (br_f h1).symm.trans hp
      refine cx_skip' ?_
      show TX E K2 _
      exact tx_pick' [0, 1] (sub_cons rfl (sub_cons rfl sub_nil)) (by decide) (pick_cons rfl (pick_cons rfl pick_nil)) (hK2 () hp)

def gogeom_GeometryCollection_MustPush_v2 (k : Nat) (a0_0 : Int) (a0_1 : List G53) (a0_2 : Int) (a1 : List G53) : Option (Int × (List G53) × Int) :=
  (gogeom_GeometryCollection_Push_v2 k a0_0 a0_1 a0_2 a1) >>= fun r8 =>
  match r8 with
    | (.inl y1) =>
      (some (y1.1, y1.2.1, y1.2.2))
    | (.inr y1) =>
      (none)

theorem gogeom_GeometryCollection_MustPush_v2_sim {k : Nat} {wa0 : Addr} {wa0_1 : Gs} (a0_0 : Int) (a0_1 : List G53) (a0_2 : Int) (a1 : List G53) {out : Int × (List G53) × Int} (hp : gogeom_GeometryCollection_MustPush_v2 k a0_0 a0_1 a0_2 a1 = some out) : Go.Sx.Fn Try.prog 77 [(Vl (.pointer (some wa0))), (Sl KG53 a1)] [⟨.pointer (some wa0), [(Vl (.int .i64 a0_0)), (Vl (Vs wa0_1)), (Vl (.int .i64 a0_2))], 114, none⟩, (Rw KG53 53 (Vs wa0_1) a0_1)] (fun w : Gs => (Vl (.pointer (some wa0)))) (fun w => [⟨.pointer (some wa0), [(Vl (.int .i64 out.1)), (Vl (Vs w)), (Vl (.int .i64 out.2.2))], 114, none⟩, (Rw KG53 53 (Vs w) out.2.1)]) := by
  unfold gogeom_GeometryCollection_MustPush_v2 at hp
  refine fn_of Try.func77 rfl Try.ntmps77 rfl fun E hM => ?_
  refine cx_seq' fun K1 hK1 => ?_
  refine cx_region' ?_
  refine sx_rd' (rd_assign' rfl) rfl rfl (wt_none' rfl) ?_
  refine sx_nil' ?_
  show TX E K1 _
  refine tx_k' hK1 ?_
  refine cx_seq' fun K2 hK2 => ?_
  refine cx_seq' fun K3 hK3 => ?_
  refine cx_region' ?_
  refine sx_rd' (rd_move' rfl) rfl rfl (wt_none' rfl) ?_
  refine sx_rd' (rd_move' rfl) rfl rfl (wt_none' rfl) ?_
  obtain ⟨r8, hr8, hp⟩ := bind_some hp
  rcases r8 with y1 | y1
  · dsimp only at hp
    refine sx_ox' (ox_callg' (ent_fn' Try.func46 isn46 rfl rfl) (gogeom_GeometryCollection_Push_v2_sim _ _ _ _ hr8 : Go.Sx.Fn Try.prog 46 [(Vl (.pointer (some wa0))), (Sl KG53 a1)] [⟨.pointer (some wa0), [(Vl (.int .i64 a0_0)), (Vl (Vs wa0_1)), (Vl (.int .i64 a0_2))], 114, none⟩, (Rw KG53 53 (Vs wa0_1) a0_1)] (fun x : Gs => (Vl .nilIface)) (fun x => [⟨.pointer (some wa0), [(Vl (.int .i64 y1.1)), (Vl (Vs x)), (Vl (.int .i64 y1.2.2))], 114, none⟩, (Rw KG53 53 (Vs x) y1.2.1)])) [0, 1] [] (by decide) (pick_cons rfl (pick_cons rfl pick_nil)) pick_nil (Hn := fun x : Gs => [⟨.pointer (some wa0), [(Vl (.int .i64 y1.1)), (Vl (Vs x)), (Vl (.int .i64 y1.2.2))], 114, none⟩, (Rw KG53 53 (Vs x) y1.2.1)]) (fun _ => rfl) rfl rfl) (wt_none' rfl) fun g8 => ?_
    refine sx_rd' (rd_assign' rfl) rfl rfl (wt_none' rfl) ?_
    refine sx_nil' ?_
    show TX E K3 _
    refine tx_k' hK3 ?_
    refine cx_seq' fun K4 hK4 => ?_
    refine cx_region' ?_
    refine sx_rd' (rd_move' rfl) rfl rfl (wt_none' rfl) ?_
    refine sx_rd' (rd_binf' rfl rfl (bf_vl (fun _ => by kernel_rfl) nil_neq59_nilif)) rfl rfl (wt_none' rfl) ?_
    refine sx_nil' ?_
    show TX E K4 _
    refine tx_k' hK4 ?_
    refine cx_cond_f' rfl rfl ?_
    refine cx_skip' ?_
    show TX E K2 _
    refine tx_k' hK2 ?_
    refine cx_seq' fun K5 hK5 => ?_
    refine cx_region' ?_
    refine sx_rd' (rd_move' rfl) rfl rfl (wt_none' rfl) ?_
    refine sx_rd' (rd_assign' rfl) rfl rfl (wt_none' rfl) ?_
    refine sx_nil' ?_
    show TX E K5 _
    refine tx_k' hK5 ?_
    refine cx_retc' ?_
    replace hp := Option.some.inj hp
    subst hp
    refine tx_pick' (L' := [(4, (Vl (.pointer (some wa0))))]) (H' := [⟨.pointer (some wa0), [(Vl (.int .i64 y1.1)), (Vl (Vs g8)), (Vl (.int .i64 y1.2.2))], 114, none⟩, (Rw KG53 53 (Vs g8) y1.2.1)]) [0, 1] (sub_cons rfl sub_nil) (by decide) (pick_cons rfl (pick_cons rfl pick_nil)) ?_
    exact tx_ret1' Try.results77 rfl g8 (rv_tmp' rfl) (List.Sublist.refl _)
  · dsimp only at hp
    refine sx_ox' (ox_callg' (ent_fn' Try.func46 isn46 rfl rfl) (gogeom_GeometryCollection_Push_v2_sim _ _ _ _ hr8 : Go.Sx.Fn Try.prog 46 [(Vl (.pointer (some wa0))), (Sl KG53 a1)] [⟨.pointer (some wa0), [(Vl (.int .i64 a0_0)), (Vl (Vs wa0_1)), (Vl (.int .i64 a0_2))], 114, none⟩, (Rw KG53 53 (Vs wa0_1) a0_1)] (fun x : Gs => (If 134 (Ag [(Vl (.int .i64 y1.2.2.2)), (Vl (.int .i64 y1.1))]))) (fun x => [⟨.pointer (some wa0), [(Vl (.int .i64 y1.1)), (Vl (Vs wa0_1)), (Vl (.int .i64 y1.2.2.1))], 114, none⟩, (Rw KG53 53 (Vs wa0_1) y1.2.1)])) [0, 1] [] (by decide) (pick_cons rfl (pick_cons rfl pick_nil)) pick_nil (Hn := fun x : Gs => [⟨.pointer (some wa0), [(Vl (.int .i64 y1.1)), (Vl (Vs wa0_1)), (Vl (.int .i64 y1.2.2.1))], 114, none⟩, (Rw KG53 53 (Vs wa0_1) y1.2.1)]) (fun _ => rfl) rfl rfl) (wt_none' rfl) fun g8 => ?_
    refine sx_rd' (rd_assign' rfl) rfl rfl (wt_none' rfl) ?_
    refine sx_nil' ?_
    show TX E K3 _
    refine tx_k' hK3 ?_
    refine cx_seq' fun K4 hK4 => ?_
    refine cx_region' ?_
    refine sx_rd' (rd_move' rfl) rfl rfl (wt_none' rfl) ?_
    refine sx_rd' (rd_binf' rfl rfl (bf_if (fun _ _ => by kernel_rfl) nil_neq59_if134)) rfl rfl (wt_none' rfl) ?_
    refine sx_nil' ?_
    show TX E K4 _
    refine tx_k' hK4 ?_
    refine cx_cond_t' rfl rfl ?_
    refine cx_region' ?_
    refine sx_rd' (rd_move' rfl) rfl rfl (wt_none' rfl) ?_
    cases hp

def gogeom_GeometryCollection_CheckLayout_v2_j1 (k : Nat) (a0_0 : Int) (a0_1 : List G53) (a0_2 : Int) : Option ((Int × (List G53) × Int) ⊕ (Int × (List G53) × Int × Int × Int)) :=
  some (.inl (a0_0, a0_1, a0_2))
def gogeom_GeometryCollection_CheckLayout_v2_l1s (a0_1 : List G53) (a1 : Int) (k : Nat) (rec1 : Int → Option (Int ⊕ Unit)) (x1 : Int) : Option (Int ⊕ Unit) :=
  br (decide (x1 < (a0_1.length : Int)))
    ((idx a0_1 x1) >>= fun r17 =>
    match r17 with
      | .c0 r17_0a r17_0b r17_0c r17_0d =>
        ((gogeom_geom0_Layout k r17_0a r17_0b r17_0c r17_0d) >>= fun r20 =>
        br (!decide (r20 = a1))
          (some (.inl r20))
          (rec1 (iadd .i64 x1 1)))
      | .c1 r17_1a r17_1b r17_1c r17_1d =>
        ((gogeom_geom0_Layout k r17_1a r17_1b r17_1c r17_1d) >>= fun r20 =>
        br (!decide (r20 = a1))
          (some (.inl r20))
          (rec1 (iadd .i64 x1 1)))
      | .c2 r17_2a r17_2b r17_2c r17_2d =>
        ((gogeom_geom0_Layout k r17_2a r17_2b r17_2c r17_2d) >>= fun r20 =>
        br (!decide (r20 = a1))
          (some (.inl r20))
          (rec1 (iadd .i64 x1 1)))
      | .c3 r17_3a r17_3b r17_3c r17_3d r17_3e =>
        ((gogeom_geom0_Layout_v2 k r17_3a r17_3b r17_3c r17_3d r17_3e) >>= fun r20 =>
        br (!decide (r20 = a1))
          (some (.inl r20))
          (rec1 (iadd .i64 x1 1)))
      | .c4 r17_4a r17_4b r17_4c r17_4d r17_4e =>
        ((gogeom_geom0_Layout_v2 k r17_4a r17_4b r17_4c r17_4d r17_4e) >>= fun r20 =>
        br (!decide (r20 = a1))
          (some (.inl r20))
          (rec1 (iadd .i64 x1 1)))
      | .c5 r17_5a r17_5b r17_5c r17_5d r17_5e =>
        ((gogeom_geom0_Layout_v2 k r17_5a r17_5b r17_5c r17_5d r17_5e) >>= fun r20 =>
        br (!decide (r20 = a1))
          (some (.inl r20))
          (rec1 (iadd .i64 x1 1)))
      | .c6 r17_6a r17_6b r17_6c r17_6d r17_6e =>
        ((gogeom_geom0_Layout_v3 k r17_6a r17_6b r17_6c r17_6d r17_6e) >>= fun r20 =>
        br (!decide (r20 = a1))
          (some (.inl r20))
          (rec1 (iadd .i64 x1 1)))
      | .c7 r17_7a r17_7b r17_7c =>
        ((gogeom_GeometryCollection_Layout k r17_7a r17_7b r17_7c) >>= fun r20 =>
        br (!decide (r20 = a1))
          (some (.inl r20))
          (rec1 (iadd .i64 x1 1))))
    (some (.inr ()))
def gogeom_GeometryCollection_CheckLayout_v2_l1 (a0_1 : List G53) (a1 : Int) : Nat → Int → Option (Int ⊕ Unit)
  | 0, _ => none
  | k + 1, v => gogeom_GeometryCollection_CheckLayout_v2_l1s a0_1 a1 k (gogeom_GeometryCollection_CheckLayout_v2_l1 a0_1 a1 k) v
def gogeom_GeometryCollection_CheckLayout_v2 (k : Nat) (a0_0 : Int) (a0_1 : List G53) (a0_2 : Int) (a1 : Int) : Option ((Int × (List G53) × Int) ⊕ (Int × (List G53) × Int × Int × Int)) :=
  br (!decide (a1 = 0))
    ((gogeom_GeometryCollection_CheckLayout_v2_l1 a0_1 a1 k 0) >>= fun y1 => match y1 with
      | (.inl v2) =>
        (some (.inr (a0_0, a0_1, a0_2, a1, v2)))
      | (.inr v3) =>
        (gogeom_GeometryCollection_CheckLayout_v2_j1 k a0_0 a0_1 a0_2))
    (gogeom_GeometryCollection_CheckLayout_v2_j1 k a0_0 a0_1 a0_2)
def gogeom_GeometryCollection_CheckLayout_v2_r (wa0 : Addr) (wa0_1 : Gs) (a0_0 : Int) (a0_1 : List G53) (a0_2 : Int) (a1 : Int) (out : (Int × (List G53) × Int) ⊕ (Int × (List G53) × Int × Int × Int)) (w : Unit) : SV := match out with
  | (.inl y) => (Vl .nilIface)
  | (.inr y) => (If 134 (Ag [(Vl (.int .i64 y.2.2.2.1)), (Vl (.int .i64 y.2.2.2.2))]))
def gogeom_GeometryCollection_CheckLayout_v2_h (wa0 : Addr) (wa0_1 : Gs) (a0_0 : Int) (a0_1 : List G53) (a0_2 : Int) (a1 : Int) (out : (Int × (List G53) × Int) ⊕ (Int × (List G53) × Int × Int × Int)) (w : Unit) : List Res := match out with
  | (.inl y) => [⟨.pointer (some wa0), [(Vl (.int .i64 y.1)), (Vl (Vs wa0_1)), (Vl (.int .i64 y.2.2))], 114, none⟩, (Rw KG53 53 (Vs wa0_1) y.2.1)]
  | (.inr y) => [⟨.pointer (some wa0), [(Vl (.int .i64 y.1)), (Vl (Vs wa0_1)), (Vl (.int .i64 y.2.2.1))], 114, none⟩, (Rw KG53 53 (Vs wa0_1) y.2.1)]

theorem gogeom_GeometryCollection_CheckLayout_v2_sim {k : Nat} {wa0 : Addr} {wa0_1 : Gs} (a0_0 : Int) (a0_1 : List G53) (a0_2 : Int) (a1 : Int) {out : (Int × (List G53) × Int) ⊕ (Int × (List G53) × Int × Int × Int)} (hp : gogeom_GeometryCollection_CheckLayout_v2 k a0_0 a0_1 a0_2 a1 = some out) : Go.Sx.Fn Try.prog 79 [(Vl (.pointer (some wa0))), (Vl (.int .i64 a1))] [⟨.pointer (some wa0), [(Vl (.int .i64 a0_0)), (Vl (Vs wa0_1)), (Vl (.int .i64 a0_2))], 114, none⟩, (Rw KG53 53 (Vs wa0_1) a0_1)] (fun w => gogeom_GeometryCollection_CheckLayout_v2_r wa0 wa0_1 a0_0 a0_1 a0_2 a1 out w) (fun w => gogeom_GeometryCollection_CheckLayout_v2_h wa0 wa0_1 a0_0 a0_1 a0_2 a1 out w) := by
  unfold gogeom_GeometryCollection_CheckLayout_v2 at hp
  refine fn_of Try.func79 rfl Try.ntmps79 rfl fun E hM => ?_
  refine cx_seq' fun K1 hK1 => ?_
  refine cx_region' ?_
  refine sx_rd' (rd_assign' rfl) rfl rfl (wt_none' rfl) ?_
  refine sx_nil' ?_
  show TX E K1 _
  refine tx_k' hK1 ?_
  refine cx_join' (fun (v4 : Unit) => (⟨29, [], [], [⟨.pointer (some wa0), [(Vl (.int .i64 a0_0)), (Vl (Vs wa0_1)), (Vl (.int .i64 a0_2))], 114, none⟩, (Rw KG53 53 (Vs wa0_1) a0_1)]⟩ : St)) (fun (v4 : Unit) => gogeom_GeometryCollection_CheckLayout_v2_j1 k a0_0 a0_1 a0_2 = some out) ?_ ?_
  · rintro ⟨⟩ hp
    replace hp : gogeom_GeometryCollection_CheckLayout_v2_j1 k a0_0 a0_1 a0_2 = some out := hp
    unfold gogeom_GeometryCollection_CheckLayout_v2_j1 at hp
    refine cx_seq' fun K19 hK19 => ?_
    refine cx_region' ?_
    refine sx_rd' (rd_assign' rfl) rfl rfl (wt_none' rfl) ?_
    refine sx_nil' ?_
    show TX E K19 _
    refine tx_k' hK19 ?_
    refine cx_retc' ?_
    replace hp := Option.some.inj hp
    subst hp
    refine tx_pick' (L' := [(4, (Vl .nilIface))]) (H' := [⟨.pointer (some wa0), [(Vl (.int .i64 a0_0)), (Vl (Vs wa0_1)), (Vl (.int .i64 a0_2))], 114, none⟩, (Rw KG53 53 (Vs wa0_1) a0_1)]) [0, 1] (sub_cons rfl sub_nil) (by decide) (pick_cons rfl (pick_cons rfl pick_nil)) ?_
    exact tx_ret1' Try.results79 rfl () (rv_tmp' rfl) (List.Sublist.refl _)
  · intro K2 hK2
    refine cx_seq' fun K3 hK3 => ?_
    refine cx_region' ?_
    refine sx_rd' (rd_move' rfl) rfl rfl (wt_none' rfl) ?_
    refine sx_rd' (rd_bin' rfl rfl eg_int ru_neq) rfl rfl (wt_none' rfl) ?_
    refine sx_nil' ?_
    show TX E K3 _
    refine tx_k' hK3 ?_
    refine cx_cond' rfl (fun h1 => ?_) (fun h1 => ?_)
    · replace hp := (br_t h1).symm.trans hp
      refine cx_seq' fun K4 hK4 => ?_
      refine cx_region' ?_
      refine sx_rd' (rd_move' rfl) rfl rfl (wt_none' rfl) ?_
      refine sx_rd' (rd_nilck' rfl) rfl rfl (wt_none' rfl) ?_
      refine sx_rd' (rd_field' (off := 1) rfl Try.underlying114 rfl info112 rfl) rfl rfl (wt_none' rfl) ?_
      refine sx_rd' (rd_load' (i := 0) (o := 1) rfl ⟨rfl, rfl, rfl, rfl⟩ rfl flat112) rfl rfl (wt_none' rfl) ?_
      refine sx_rd' (rd_lenr' (i := 1) rfl rfl rfl Try.underlying112) rfl rfl (wt_none' rfl) ?_
      refine sx_rd' (rd_move' rfl) rfl rfl (wt_none' rfl) ?_
      refine sx_nil' ?_
      show TX E K4 _
      refine tx_k' hK4 ?_
      refine cx_block' ?_
      obtain ⟨y1, hy1, hp⟩ := bind_some hp
      refine cx_loopg' (F := gogeom_GeometryCollection_CheckLayout_v2_l1 a0_1 a1) (G := fun k R v => gogeom_GeometryCollection_CheckLayout_v2_l1s a0_1 a1 k R v) (x := 0) (gh := ()) (fun (v1 : Int) (w1 : Unit) => (⟨29, [], [(1, (Vl (.int .i64 a1))), (13, (Vl (Vs wa0_1))), (14, (Vl (.int .i64 (a0_1.length : Int)))), (15, (Vl (.int .i64 v1)))], [(Rw KG53 53 (Vs wa0_1) a0_1), ⟨.pointer (some wa0), [(Vl (.int .i64 a0_0)), (Vl (Vs wa0_1)), (Vl (.int .i64 a0_2))], 114, none⟩]⟩ : St)) (fun (y : Int ⊕ Unit) => match y with | (.inl v2) => Zg E Exit.ret (fun (w2 : Unit) => (⟨29, [], [(4, (If 134 (Ag [(Vl (.int .i64 a1)), (Vl (.int .i64 v2))])))], [⟨.pointer (some wa0), [(Vl (.int .i64 a0_0)), (Vl (Vs wa0_1)), (Vl (.int .i64 a0_2))], 114, none⟩, (Rw KG53 53 (Vs wa0_1) a0_1)]⟩ : St)) | (.inr v3) => Zg E (Exit.exit 0) (fun (w3 : Unit) => (⟨29, [], [], [⟨.pointer (some wa0), [(Vl (.int .i64 a0_0)), (Vl (Vs wa0_1)), (Vl (.int .i64 a0_2))], 114, none⟩, (Rw KG53 53 (Vs wa0_1) a0_1)]⟩ : St))) (fun _ => rfl) (fun _ _ => rfl) ?_ hy1 (tx_to' rfl [1, 0] (sub_cons rfl (sub_cons rfl (sub_cons rfl (sub_cons rfl sub_nil)))) (by decide) (pick_cons rfl (pick_cons rfl pick_nil))) ?_
      · clear hp hy1
        clear y1
        intro k rec1 KY1 ih1
        rintro x1 ⟨⟩ y1 hp
        replace hp : gogeom_GeometryCollection_CheckLayout_v2_l1s a0_1 a1 k rec1 x1 = some y1 := hp
        unfold gogeom_GeometryCollection_CheckLayout_v2_l1s at hp
        refine cx_seq' fun K12 hK12 => ?_
        refine cx_region' ?_
        refine sx_rd' (rd_bin' rfl rfl eg_int ru_lss) rfl rfl (wt_none' rfl) ?_
        refine sx_nil' ?_
        show TX E K12 _
        refine tx_k' hK12 ?_
        refine cx_seq' fun K13 hK13 => ?_
        refine cx_cond' rfl (fun h5 => ?_) (fun h5 => ?_)
        · replace hp := (br_t h5).symm.trans hp
          refine cx_skip' ?_
          show TX E K13 _
          refine tx_k' hK13 ?_
          refine cx_seq' fun K14 hK14 => ?_
          refine cx_block' ?_
          refine cx_seq' fun K15 hK15 => ?_
          refine cx_region' ?_
          obtain ⟨r17, hr17, hp⟩ := bind_some hp
          refine sx_rd' (rd_atr' (m := 0) rfl rfl rfl rfl hr17 Try.underlying112 info53) rfl rfl (wt_none' rfl) ?_
          refine sx_rd' (rd_loadr' rfl (m := 0) (i := x1) (j := 0) rfl rfl hr17 rfl rfl flat53) rfl rfl (wt_none' rfl) ?_
          refine sx_rd' (rd_assign' rfl) rfl rfl (wt_none' rfl) ?_
          refine sx_nil' ?_
          show TX E K15 _
          refine tx_k' hK15 ?_
          refine cx_seq' fun K16 hK16 => ?_
          refine cx_region' ?_
          refine sx_rd' (rd_move' rfl) rfl rfl (wt_none' rfl) ?_
          rcases r17 with ⟨r17_0a, r17_0b, r17_0c, r17_0d⟩ | ⟨r17_1a, r17_1b, r17_1c, r17_1d⟩ | ⟨r17_2a, r17_2b, r17_2c, r17_2d⟩ | ⟨r17_3a, r17_3b, r17_3c, r17_3d, r17_3e⟩ | ⟨r17_4a, r17_4b, r17_4c, r17_4d, r17_4e⟩ | ⟨r17_5a, r17_5b, r17_5c, r17_5d, r17_5e⟩ | ⟨r17_6a, r17_6b, r17_6c, r17_6d, r17_6e⟩ | ⟨r17_7a, r17_7b, r17_7c⟩
          · dsimp only at hp
            refine tx_slot' 18 (y := (If 72 (Pt [(Vl (.int .i64 r17_0a)), (Vl (.int .i64 r17_0b)), (Sl Kf r17_0c), (Vl (.int .i64 r17_0d))]))) rfl (imp_eq (SG53_c0 r17_0a r17_0b r17_0c r17_0d)) ?_
            refine tx_slot' 6 (y := (If 72 (Pt [(Vl (.int .i64 r17_0a)), (Vl (.int .i64 r17_0b)), (Sl Kf r17_0c), (Vl (.int .i64 r17_0d))]))) rfl (imp_eq (SG53_c0 r17_0a r17_0b r17_0c r17_0d)) ?_
            refine tx_slot' 19 (y := (If 72 (Pt [(Vl (.int .i64 r17_0a)), (Vl (.int .i64 r17_0b)), (Sl Kf r17_0c), (Vl (.int .i64 r17_0d))]))) rfl (imp_eq (SG53_c0 r17_0a r17_0b r17_0c r17_0d)) ?_
            obtain ⟨r20, hr20, hp⟩ := bind_some hp
            refine sx_ox' (ox_calln' (ent_inv' rfl rfl (inv_pt0 inv72_Layout)) (gogeom_geom0_Layout_sim _ _ _ _ hr20 : Go.Sx.Fn Try.prog 134 [(Pt [(Vl (.int .i64 r17_0a)), (Vl (.int .i64 r17_0b)), (Sl Kf r17_0c), (Vl (.int .i64 r17_0d))])] [] (fun x : Unit => (Vl (.int .i64 r20))) (fun x => [])) (Hn := fun x : Unit => [(Rw KG53 53 (Vs wa0_1) a0_1), ⟨.pointer (some wa0), [(Vl (.int .i64 a0_0)), (Vl (Vs wa0_1)), (Vl (.int .i64 a0_2))], 114, none⟩]) (fun _ => rfl) rfl rfl) (wt_none' rfl) fun ⟨⟩ => ?_
            refine sx_rd' (rd_assign' rfl) rfl rfl (wt_none' rfl) ?_
            refine sx_nil' ?_
            show TX E K16 _
            refine tx_k' hK16 ?_
            refine cx_seq' fun K17 hK17 => ?_
            refine cx_region' ?_
            refine sx_rd' (rd_move' rfl) rfl rfl (wt_none' rfl) ?_
            refine sx_rd' (rd_move' rfl) rfl rfl (wt_none' rfl) ?_
            refine sx_rd' (rd_bin' rfl rfl eg_int ru_neq) rfl rfl (wt_none' rfl) ?_
            refine sx_nil' ?_
            show TX E K17 _
            refine tx_k' hK17 ?_
            refine cx_cond' rfl (fun h6 => ?_) (fun h6 => ?_)
            · replace hp := (br_t h6).symm.trans hp
              refine cx_seq' fun K18 hK18 => ?_
              refine cx_region' ?_
              refine sx_rd' (rd_move' rfl) rfl rfl (wt_none' rfl) ?_
              refine sx_rd' (rd_move' rfl) rfl rfl (wt_none' rfl) ?_
              refine sx_rd' (rd_build' (pls := [(0, 1), (1, 1)]) (qs := [(0, [(Vl (.int .i64 a1))]), (1, [(Vl (.int .i64 r20))])]) (r := [(Vl (.int .i64 a1)), (Vl (.int .i64 r20))]) ⟨rfl, ⟨_, rfl, (lv_vl rfl rfl)⟩, ⟨rfl, ⟨_, rfl, (lv_vl rfl rfl)⟩, trivial⟩⟩ Try.underlying134 has134 places134 info134 rfl rfl rfl) rfl rfl (wt_none' rfl) ?_
              refine sx_rd' (rd_iface' rfl ⟨_, Try.underlying134, fun _ h => (nomatch h)⟩) rfl rfl (wt_none' rfl) ?_
              refine sx_rd' (rd_assign' rfl) rfl rfl (wt_none' rfl) ?_
              refine sx_nil' ?_
              show TX E K18 _
              refine tx_k' hK18 ?_
              refine cx_retc' ?_
              replace hp := Option.some.inj hp
              subst hp
              show TX E (Zg E Exit.ret _ Exit.ret) _
              exact tx_zend' () rfl [1, 0] (sub_cons rfl sub_nil) (by decide) (pick_cons rfl (pick_cons rfl pick_nil))
            · replace hp := (br_f h6).symm.trans hp
              refine cx_skip' ?_
              show TX E K14 _
              refine tx_k' hK14 ?_
              refine cx_region' ?_
              refine sx_rd' (rd_bin' rfl rfl eg_int ru_add) rfl rfl (wt_none' rfl) ?_
              refine sx_rd' (rd_move' rfl) rfl rfl (wt_none' rfl) ?_
              refine sx_nil' ?_
              show TX E (KY1 _) _
              exact tx_pick' [0, 1] (sub_cons rfl (sub_cons rfl (sub_cons rfl (sub_cons rfl sub_nil)))) (by decide) (pick_cons rfl (pick_cons rfl pick_nil)) (ih1 (iadd .i64 x1 1) () _ hp)
          · dsimp only at hp
            refine tx_slot' 18 (y := (If 75 (Pt [(Vl (.int .i64 r17_1a)), (Vl (.int .i64 r17_1b)), (Sl Kf r17_1c), (Vl (.int .i64 r17_1d))]))) rfl (imp_eq (SG53_c1 r17_1a r17_1b r17_1c r17_1d)) ?_
            refine tx_slot' 6 (y := (If 75 (Pt [(Vl (.int .i64 r17_1a)), (Vl (.int .i64 r17_1b)), (Sl Kf r17_1c), (Vl (.int .i64 r17_1d))]))) rfl (imp_eq (SG53_c1 r17_1a r17_1b r17_1c r17_1d)) ?_
            refine tx_slot' 19 (y := (If 75 (Pt [(Vl (.int .i64 r17_1a)), (Vl (.int .i64 r17_1b)), (Sl Kf r17_1c), (Vl (.int .i64 r17_1d))]))) rfl (imp_eq (SG53_c1 r17_1a r17_1b r17_1c r17_1d)) ?_
            obtain ⟨r20, hr20, hp⟩ := bind_some hp
            refine sx_ox' (ox_calln' (ent_inv' rfl rfl (inv_pt0 inv75_Layout)) (gogeom_geom0_Layout_sim _ _ _ _ hr20 : Go.Sx.Fn Try.prog 134 [(Pt [(Vl (.int .i64 r17_1a)), (Vl (.int .i64 r17_1b)), (Sl Kf r17_1c), (Vl (.int .i64 r17_1d))])] [] (fun x : Unit => (Vl (.int .i64 r20))) (fun x => [])) (Hn := fun x : Unit => [(Rw KG53 53 (Vs wa0_1) a0_1), ⟨.pointer (some wa0), [(Vl (.int .i64 a0_0)), (Vl (Vs wa0_1)), (Vl (.int .i64 a0_2))], 114, none⟩]) (fun _ => rfl) rfl rfl) (wt_none' rfl) fun ⟨⟩ => ?_
            refine sx_rd' (rd_assign' rfl) rfl rfl (wt_none' rfl) ?_
            refine sx_nil' ?_
            show TX E K16 _
            refine tx_k' hK16 ?_
            refine cx_seq' fun K17 hK17 => ?_
            refine cx_region' ?_
            refine sx_rd' (rd_move' rfl) rfl rfl (wt_none' rfl) ?_
            refine sx_rd' (rd_move' rfl) rfl rfl (wt_none' rfl) ?_
            refine sx_rd' (rd_bin' rfl rfl eg_int ru_neq) rfl rfl (wt_none' rfl) ?_
            refine sx_nil' ?_
            show TX E K17 _
            refine tx_k' hK17 ?_
            refine cx_cond' rfl (fun h6 => ?_) (fun h6 => ?_)
            · replace hp := (br_t h6).symm.trans hp
              refine cx_seq' fun K18 hK18 => ?_
              refine cx_region' ?_
              refine sx_rd' (rd_move' rfl) rfl rfl (wt_none' rfl) ?_
              refine sx_rd' (rd_move' rfl) rfl rfl (wt_none' rfl) ?_
              refine sx_rd' (rd_build' (pls := [(0, 1), (1, 1)]) (qs := [(0, [(Vl (.int .i64 a1))]), (1, [(Vl (.int .i64 r20))])]) (r := [(Vl (.int .i64 a1)), (Vl (.int .i64 r20))]) ⟨rfl, ⟨_, rfl, (lv_vl rfl rfl)⟩, ⟨rfl, ⟨_, rfl, (lv_vl rfl rfl)⟩, trivial⟩⟩ Try.underlying134 has134 places134 info134 rfl rfl rfl) rfl rfl (wt_none' rfl) ?_
              refine sx_rd' (rd_iface' rfl ⟨_, Try.underlying134, fun _ h => (nomatch h)⟩) rfl rfl (wt_none' rfl) ?_
              refine sx_rd' (rd_assign' rfl) rfl rfl (wt_none' rfl) ?_
              refine sx_nil' ?_
              show TX E K18 _
              refine tx_k' hK18 ?_
              refine cx_retc' ?_
              replace hp := Option.some.inj hp
              subst hp
              show TX E (Zg E Exit.ret _ Exit.ret) _
              exact tx_zend' () rfl [1, 0] (sub_cons rfl sub_nil) (by decide) (pick_cons rfl (pick_cons rfl pick_nil))
            · replace hp := (br_f h6).symm.trans hp
              refine cx_skip' ?_
              show TX E K14 _
              refine tx_k' hK14 ?_
              refine cx_region' ?_
              refine sx_rd' (rd_bin' rfl rfl eg_int ru_add) rfl rfl (wt_none' rfl) ?_
              refine sx_rd' (rd_move' rfl) rfl rfl (wt_none' rfl) ?_
              refine sx_nil' ?_
              show TX E (KY1 _) _
              exact tx_pick' [0, 1] (sub_cons rfl (sub_cons rfl (sub_cons rfl (sub_cons rfl sub_nil)))) (by decide) (pick_cons rfl (pick_cons rfl pick_nil)) (ih1 (iadd .i64 x1 1) () _ hp)
          · dsimp only at hp
            refine tx_slot' 18 (y := (If 69 (Pt [(Vl (.int .i64 r17_2a)), (Vl (.int .i64 r17_2b)), (Sl Kf r17_2c), (Vl (.int .i64 r17_2d))]))) rfl (imp_eq (SG53_c2 r17_2a r17_2b r17_2c r17_2d)) ?_
            refine tx_slot' 6 (y := (If 69 (Pt [(Vl (.int .i64 r17_2a)), (Vl (.int .i64 r17_2b)), (Sl Kf r17_2c), (Vl (.int .i64 r17_2d))]))) rfl (imp_eq (SG53_c2 r17_2a r17_2b r17_2c r17_2d)) ?_
            refine tx_slot' 19 (y := (If 69 (Pt [(Vl (.int .i64 r17_2a)), (Vl (.int .i64 r17_2b)), (Sl Kf r17_2c), (Vl (.int .i64 r17_2d))]))) rfl (imp_eq (SG53_c2 r17_2a r17_2b r17_2c r17_2d)) ?_
            obtain ⟨r20, hr20, hp⟩ := bind_some hp
            refine sx_ox' (ox_calln' (ent_inv' rfl rfl (inv_pt0 inv69_Layout)) (gogeom_geom0_Layout_sim _ _ _ _ hr20 : Go.Sx.Fn Try.prog 134 [(Pt [(Vl (.int .i64 r17_2a)), (Vl (.int .i64 r17_2b)), (Sl Kf r17_2c), (Vl (.int .i64 r17_2d))])] [] (fun x : Unit => (Vl (.int .i64 r20))) (fun x => [])) (Hn := fun x : Unit => [(Rw KG53 53 (Vs wa0_1) a0_1), ⟨.pointer (some wa0), [(Vl (.int .i64 a0_0)), (Vl (Vs wa0_1)), (Vl (.int .i64 a0_2))], 114, none⟩]) (fun _ => rfl) rfl rfl) (wt_none' rfl) fun ⟨⟩ => ?_
            refine sx_rd' (rd_assign' rfl) rfl rfl (wt_none' rfl) ?_
            refine sx_nil' ?_
            show TX E K16 _
            refine tx_k' hK16 ?_
            refine cx_seq' fun K17 hK17 => ?_
            refine cx_region' ?_
            refine sx_rd' (rd_move' rfl) rfl rfl (wt_none' rfl) ?_
            refine sx_rd' (rd_move' rfl) rfl rfl (wt_none' rfl) ?_
            refine sx_rd' (rd_bin' rfl rfl eg_int ru_neq) rfl rfl (wt_none' rfl) ?_
            refine sx_nil' ?_
            show TX E K17 _
            refine tx_k' hK17 ?_
            refine cx_cond' rfl (fun h6 => ?_) (fun h6 => ?_)
            · replace hp := (br_t h6).symm.trans hp
              refine cx_seq' fun K18 hK18 => ?_
              refine cx_region' ?_
              refine sx_rd' (rd_move' rfl) rfl rfl (wt_none' rfl) ?_
              refine sx_rd' (rd_move' rfl) rfl rfl (wt_none' rfl) ?_
              refine sx_rd' (rd_build' (pls := [(0, 1), (1, 1)]) (qs := [(0, [(Vl (.int .i64 a1))]), (1, [(Vl (.int .i64 r20))])]) (r := [(Vl (.int .i64 a1)), (Vl (.int .i64 r20))]) ⟨rfl, ⟨_, rfl, (lv_vl rfl rfl)⟩, ⟨rfl, ⟨_, rfl, (lv_vl rfl rfl)⟩, trivial⟩⟩ Try.underlying134 has134 places134 info134 rfl rfl rfl) rfl rfl (wt_none' rfl) ?_
              refine sx_rd' (rd_iface' rfl ⟨_, Try.underlying134, fun _ h => (nomatch h)⟩) rfl rfl (wt_none' rfl) ?_
              refine sx_rd' (rd_assign' rfl) rfl rfl (wt_none' rfl) ?_
              refine sx_nil' ?_
              show TX E K18 _
              refine tx_k' hK18 ?_
              refine cx_retc' ?_
              replace hp := Option.some.inj hp
              subst hp
              show TX E (Zg E Exit.ret _ Exit.ret) _
              exact tx_zend' () rfl [1, 0] (sub_cons rfl sub_nil) (by decide) (pick_cons rfl (pick_cons rfl pick_nil))
            · replace hp := (br_f h6).symm.trans hp
              refine cx_skip' ?_
              show TX E K14 _
              refine tx_k' hK14 ?_
              refine cx_region' ?_
              refine sx_rd' (rd_bin' rfl rfl eg_int ru_add) rfl rfl (wt_none' rfl) ?_
              refine sx_rd' (rd_move' rfl) rfl rfl (wt_none' rfl) ?_
              refine sx_nil' ?_
              show TX E (KY1 _) _
              exact tx_pick' [0, 1] (sub_cons rfl (sub_cons rfl (sub_cons rfl (sub_cons rfl sub_nil)))) (by decide) (pick_cons rfl (pick_cons rfl pick_nil)) (ih1 (iadd .i64 x1 1) () _ hp)
          · dsimp only at hp
            refine tx_slot' 18 (y := (If 67 (Pt [(Vl (.int .i64 r17_3a)), (Vl (.int .i64 r17_3b)), (Sl Kf r17_3c), (Vl (.int .i64 r17_3d)), (Sl (Ki .i64) r17_3e)]))) rfl (imp_eq (SG53_c3 r17_3a r17_3b r17_3c r17_3d r17_3e)) ?_
            refine tx_slot' 6 (y := (If 67 (Pt [(Vl (.int .i64 r17_3a)), (Vl (.int .i64 r17_3b)), (Sl Kf r17_3c), (Vl (.int .i64 r17_3d)), (Sl (Ki .i64) r17_3e)]))) rfl (imp_eq (SG53_c3 r17_3a r17_3b r17_3c r17_3d r17_3e)) ?_
            refine tx_slot' 19 (y := (If 67 (Pt [(Vl (.int .i64 r17_3a)), (Vl (.int .i64 r17_3b)), (Sl Kf r17_3c), (Vl (.int .i64 r17_3d)), (Sl (Ki .i64) r17_3e)]))) rfl (imp_eq (SG53_c3 r17_3a r17_3b r17_3c r17_3d r17_3e)) ?_
            obtain ⟨r20, hr20, hp⟩ := bind_some hp
            refine sx_ox' (ox_calln' (ent_inv' rfl rfl (inv_pt0 inv67_Layout)) (gogeom_geom0_Layout_v2_sim _ _ _ _ _ hr20 : Go.Sx.Fn Try.prog 134 [(Pt [(Vl (.int .i64 r17_3a)), (Vl (.int .i64 r17_3b)), (Sl Kf r17_3c), (Vl (.int .i64 r17_3d)), (Sl (Ki .i64) r17_3e)])] [] (fun x : Unit => (Vl (.int .i64 r20))) (fun x => [])) (Hn := fun x : Unit => [(Rw KG53 53 (Vs wa0_1) a0_1), ⟨.pointer (some wa0), [(Vl (.int .i64 a0_0)), (Vl (Vs wa0_1)), (Vl (.int .i64 a0_2))], 114, none⟩]) (fun _ => rfl) rfl rfl) (wt_none' rfl) fun ⟨⟩ => ?_
            refine sx_rd' (rd_assign' rfl) rfl rfl (wt_none' rfl) ?_
            refine sx_nil' ?_
            show TX E K16 _
            refine tx_k' hK16 ?_
            refine cx_seq' fun K17 hK17 => ?_
            refine cx_region' ?_
            refine sx_rd' (rd_move' rfl) rfl rfl (wt_none' rfl) ?_
            refine sx_rd' (rd_move' rfl) rfl rfl (wt_none' rfl) ?_
            refine sx_rd' (rd_bin' rfl rfl eg_int ru_neq) rfl rfl (wt_none' rfl) ?_
            refine sx_nil' ?_
            show TX E K17 _
            refine tx_k' hK17 ?_
            refine cx_cond' rfl (fun h6 => ?_) (fun h6 => ?_)
            · replace hp := (br_t h6).symm.trans hp
              refine cx_seq' fun K18 hK18 => ?_
              refine cx_region' ?_
              refine sx_rd' (rd_move' rfl) rfl rfl (wt_none' rfl) ?_
              refine sx_rd' (rd_move' rfl) rfl rfl (wt_none' rfl) ?_
              refine sx_rd' (rd_build' (pls := [(0, 1), (1, 1)]) (qs := [(0, [(Vl (.int .i64 a1))]), (1, [(Vl (.int .i64 r20))])]) (r := [(Vl (.int .i64 a1)), (Vl (.int .i64 r20))]) ⟨rfl, ⟨_, rfl, (lv_vl rfl rfl)⟩, ⟨rfl, ⟨_, rfl, (lv_vl rfl rfl)⟩, trivial⟩⟩ Try.underlying134 has134 places134 info134 rfl rfl rfl) rfl rfl (wt_none' rfl) ?_
              refine sx_rd' (rd_iface' rfl ⟨_, Try.underlying134, fun _ h => (nomatch h)⟩) rfl rfl (wt_none' rfl) ?_
              refine sx_rd' (rd_assign' rfl) rfl rfl (wt_none' rfl) ?_
              refine sx_nil' ?_
              show TX E K18 _
              refine tx_k' hK18 ?_
              refine cx_retc' ?_
              replace hp := Option.some.inj hp
              subst hp
              show TX E (Zg E Exit.ret _ Exit.ret) _
              exact tx_zend' () rfl [1, 0] (sub_cons rfl sub_nil) (by decide) (pick_cons rfl (pick_cons rfl pick_nil))
            · replace hp := (br_f h6).symm.trans hp
              refine cx_skip' ?_
              show TX E K14 _
              refine tx_k' hK14 ?_
              refine cx_region' ?_
              refine sx_rd' (rd_bin' rfl rfl eg_int ru_add) rfl rfl (wt_none' rfl) ?_
              refine sx_rd' (rd_move' rfl) rfl rfl (wt_none' rfl) ?_
              refine sx_nil' ?_
              show TX E (KY1 _) _
              exact tx_pick' [0, 1] (sub_cons rfl (sub_cons rfl (sub_cons rfl (sub_cons rfl sub_nil)))) (by decide) (pick_cons rfl (pick_cons rfl pick_nil)) (ih1 (iadd .i64 x1 1) () _ hp)
          · dsimp only at hp
            refine tx_slot' 18 (y := (If 70 (Pt [(Vl (.int .i64 r17_4a)), (Vl (.int .i64 r17_4b)), (Sl Kf r17_4c), (Vl (.int .i64 r17_4d)), (Sl (Ki .i64) r17_4e)]))) rfl (imp_eq (SG53_c4 r17_4a r17_4b r17_4c r17_4d r17_4e)) ?_
            refine tx_slot' 6 (y := (If 70 (Pt [(Vl (.int .i64 r17_4a)), (Vl (.int .i64 r17_4b)), (Sl Kf r17_4c), (Vl (.int .i64 r17_4d)), (Sl (Ki .i64) r17_4e)]))) rfl (imp_eq (SG53_c4 r17_4a r17_4b r17_4c r17_4d r17_4e)) ?_
            refine tx_slot' 19 (y := (If 70 (Pt [(Vl (.int .i64 r17_4a)), (Vl (.int .i64 r17_4b)), (Sl Kf r17_4c), (Vl (.int .i64 r17_4d)), (Sl (Ki .i64) r17_4e)]))) rfl (imp_eq (SG53_c4 r17_4a r17_4b r17_4c r17_4d r17_4e)) ?_
            obtain ⟨r20, hr20, hp⟩ := bind_some hp
            refine sx_ox' (ox_calln' (ent_inv' rfl rfl (inv_pt0 inv70_Layout)) (gogeom_geom0_Layout_v2_sim _ _ _ _ _ hr20 : Go.Sx.Fn Try.prog 134 [(Pt [(Vl (.int .i64 r17_4a)), (Vl (.int .i64 r17_4b)), (Sl Kf r17_4c), (Vl (.int .i64 r17_4d)), (Sl (Ki .i64) r17_4e)])] [] (fun x : Unit => (Vl (.int .i64 r20))) (fun x => [])) (Hn := fun x : Unit => [(Rw KG53 53 (Vs wa0_1) a0_1), ⟨.pointer (some wa0), [(Vl (.int .i64 a0_0)), (Vl (Vs wa0_1)), (Vl (.int .i64 a0_2))], 114, none⟩]) (fun _ => rfl) rfl rfl) (wt_none' rfl) fun ⟨⟩ => ?_
            refine sx_rd' (rd_assign' rfl) rfl rfl (wt_none' rfl) ?_
            refine sx_nil' ?_
            show TX E K16 _
            refine tx_k' hK16 ?_
            refine cx_seq' fun K17 hK17 => ?_
            refine cx_region' ?_
            refine sx_rd' (rd_move' rfl) rfl rfl (wt_none' rfl) ?_
            refine sx_rd' (rd_move' rfl) rfl rfl (wt_none' rfl) ?_
            refine sx_rd' (rd_bin' rfl rfl eg_int ru_neq) rfl rfl (wt_none' rfl) ?_
            refine sx_nil' ?_
            show TX E K17 _
            refine tx_k' hK17 ?_
            refine cx_cond' rfl (fun h6 => ?_) (fun h6 => ?_)
            · replace hp := (br_t h6).symm.trans hp
              refine cx_seq' fun K18 hK18 => ?_
              refine cx_region' ?_
              refine sx_rd' (rd_move' rfl) rfl rfl (wt_none' rfl) ?_
              refine sx_rd' (rd_move' rfl) rfl rfl (wt_none' rfl) ?_
              refine sx_rd' (rd_build' (pls := [(0, 1), (1, 1)]) (qs := [(0, [(Vl (.int .i64 a1))]), (1, [(Vl (.int .i64 r20))])]) (r := [(Vl (.int .i64 a1)), (Vl (.int .i64 r20))]) ⟨rfl, ⟨_, rfl, (lv_vl rfl rfl)⟩, ⟨rfl, ⟨_, rfl, (lv_vl rfl rfl)⟩, trivial⟩⟩ Try.underlying134 has134 places134 info134 rfl rfl rfl) rfl rfl (wt_none' rfl) ?_
              refine sx_rd' (rd_iface' rfl ⟨_, Try.underlying134, fun _ h => (nomatch h)⟩) rfl rfl (wt_none' rfl) ?_
              refine sx_rd' (rd_assign' rfl) rfl rfl (wt_none' rfl) ?_
              refine sx_nil' ?_
              show TX E K18 _
              refine tx_k' hK18 ?_
              refine cx_retc' ?_
              replace hp := Option.some.inj hp
              subst hp
              show TX E (Zg E Exit.ret _ Exit.ret) _
              exact tx_zend' () rfl [1, 0] (sub_cons rfl sub_nil) (by decide) (pick_cons rfl (pick_cons rfl pick_nil))
            · replace hp := (br_f h6).symm.trans hp
              refine cx_skip' ?_
              show TX E K14 _
              refine tx_k' hK14 ?_
              refine cx_region' ?_
              refine sx_rd' (rd_bin' rfl rfl eg_int ru_add) rfl rfl (wt_none' rfl) ?_
              refine sx_rd' (rd_move' rfl) rfl rfl (wt_none' rfl) ?_
              refine sx_nil' ?_
              show TX E (KY1 _) _
              exact tx_pick' [0, 1] (sub_cons rfl (sub_cons rfl (sub_cons rfl (sub_cons rfl sub_nil)))) (by decide) (pick_cons rfl (pick_cons rfl pick_nil)) (ih1 (iadd .i64 x1 1) () _ hp)
          · dsimp only at hp
            refine tx_slot' 18 (y := (If 73 (Pt [(Vl (.int .i64 r17_5a)), (Vl (.int .i64 r17_5b)), (Sl Kf r17_5c), (Vl (.int .i64 r17_5d)), (Sl (Ki .i64) r17_5e)]))) rfl (imp_eq (SG53_c5 r17_5a r17_5b r17_5c r17_5d r17_5e)) ?_
            refine tx_slot' 6 (y := (If 73 (Pt [(Vl (.int .i64 r17_5a)), (Vl (.int .i64 r17_5b)), (Sl Kf r17_5c), (Vl (.int .i64 r17_5d)), (Sl (Ki .i64) r17_5e)]))) rfl (imp_eq (SG53_c5 r17_5a r17_5b r17_5c r17_5d r17_5e)) ?_
            refine tx_slot' 19 (y := (If 73 (Pt [(Vl (.int .i64 r17_5a)), (Vl (.int .i64 r17_5b)), (Sl Kf r17_5c), (Vl (.int .i64 r17_5d)), (Sl (Ki .i64) r17_5e)]))) rfl (imp_eq (SG53_c5 r17_5a r17_5b r17_5c r17_5d r17_5e)) ?_
            obtain ⟨r20, hr20, hp⟩ := bind_some hp
            refine sx_ox' (ox_calln' (ent_inv' rfl rfl (inv_pt0 inv73_Layout)) (gogeom_geom0_Layout_v2_sim _ _ _ _ _ hr20 : Go.Sx.Fn Try.prog 134 [(Pt [(Vl (.int .i64 r17_5a)), (Vl (.int .i64 r17_5b)), (Sl Kf r17_5c), (Vl (.int .i64 r17_5d)), (Sl (Ki .i64) r17_5e)])] [] (fun x : Unit => (Vl (.int .i64 r20))) (fun x => [])) (Hn := fun x : Unit => [(Rw KG53 53 (Vs wa0_1) a0_1), ⟨.pointer (some wa0), [(Vl (.int .i64 a0_0)), (Vl (Vs wa0_1)), (Vl (.int .i64 a0_2))], 114, none⟩]) (fun _ => rfl) rfl rfl) (wt_none' rfl) fun ⟨⟩ => ?_
            refine sx_rd' (rd_assign' rfl) rfl rfl (wt_none' rfl) ?_
            refine sx_nil' ?_
            show TX E K16 _
            refine tx_k' hK16 ?_
            refine cx_seq' fun K17 hK17 => ?_
            refine cx_region' ?_
            refine sx_rd' (rd_move' rfl) rfl rfl (wt_none' rfl) ?_
            refine sx_rd' (rd_move' rfl) rfl rfl (wt_none' rfl) ?_
            refine sx_rd' (rd_bin' rfl rfl eg_int ru_neq) rfl rfl (wt_none' rfl) ?_
            refine sx_nil' ?_
            show TX E K17 _
            refine tx_k' hK17 ?_
            refine cx_cond' rfl (fun h6 => ?_) (fun h6 => ?_)
            · replace hp := (br_t h6).symm.trans hp
              refine cx_seq' fun K18 hK18 => ?_
              refine cx_region' ?_
              refine sx_rd' (rd_move' rfl) rfl rfl (wt_none' rfl) ?_
              refine sx_rd' (rd_move' rfl) rfl rfl (wt_none' rfl) ?_
              refine sx_rd' (rd_build' (pls := [(0, 1), (1, 1)]) (qs := [(0, [(Vl (.int .i64 a1))]), (1, [(Vl (.int .i64 r20))])]) (r := [(Vl (.int .i64 a1)), (Vl (.int .i64 r20))]) ⟨rfl, ⟨_, rfl, (lv_vl rfl rfl)⟩, ⟨rfl, ⟨_, rfl, (lv_vl rfl rfl)⟩, trivial⟩⟩ Try.underlying134 has134 places134 info134 rfl rfl rfl) rfl rfl (wt_none' rfl) ?_
              refine sx_rd' (rd_iface' rfl ⟨_, Try.underlying134, fun _ h => (nomatch h)⟩) rfl rfl (wt_none' rfl) ?_
              refine sx_rd' (rd_assign' rfl) rfl rfl (wt_none' rfl) ?_
              refine sx_nil' ?_
              show TX E K18 _
              refine tx_k' hK18 ?_
              refine cx_retc' ?_
              replace hp := Option.some.inj hp
              subst hp
              show TX E (Zg E Exit.ret _ Exit.ret) _
              exact tx_zend' () rfl [1, 0] (sub_cons rfl sub_nil) (by decide) (pick_cons rfl (pick_cons rfl pick_nil))
            · replace hp := (br_f h6).symm.trans hp
              refine cx_skip' ?_
              show TX E K14 _
              refine tx_k' hK14 ?_
              refine cx_region' ?_
              refine sx_rd' (rd_bin' rfl rfl eg_int ru_add) rfl rfl (wt_none' rfl) ?_
              refine sx_rd' (rd_move' rfl) rfl rfl (wt_none' rfl) ?_
              refine sx_nil' ?_
              show TX E (KY1 _) _
              exact tx_pick' [0, 1] (sub_cons rfl (sub_cons rfl (sub_cons rfl (sub_cons rfl sub_nil)))) (by decide) (pick_cons rfl (pick_cons rfl pick_nil)) (ih1 (iadd .i64 x1 1) () _ hp)
          · dsimp only at hp
            refine tx_slot' 18 (y := (If 76 (Pt [(Vl (.int .i64 r17_6a)), (Vl (.int .i64 r17_6b)), (Sl Kf r17_6c), (Vl (.int .i64 r17_6d)), (Sl (Kl (Ki .i64)) r17_6e)]))) rfl (imp_eq (SG53_c6 r17_6a r17_6b r17_6c r17_6d r17_6e)) ?_
            refine tx_slot' 6 (y := (If 76 (Pt [(Vl (.int .i64 r17_6a)), (Vl (.int .i64 r17_6b)), (Sl Kf r17_6c), (Vl (.int .i64 r17_6d)), (Sl (Kl (Ki .i64)) r17_6e)]))) rfl (imp_eq (SG53_c6 r17_6a r17_6b r17_6c r17_6d r17_6e)) ?_
            refine tx_slot' 19 (y := (If 76 (Pt [(Vl (.int .i64 r17_6a)), (Vl (.int .i64 r17_6b)), (Sl Kf r17_6c), (Vl (.int .i64 r17_6d)), (Sl (Kl (Ki .i64)) r17_6e)]))) rfl (imp_eq (SG53_c6 r17_6a r17_6b r17_6c r17_6d r17_6e)) ?_
            obtain ⟨r20, hr20, hp⟩ := bind_some hp
            refine sx_ox' (ox_calln' (ent_inv' rfl rfl (inv_pt0 inv76_Layout)) (gogeom_geom0_Layout_v3_sim _ _ _ _ _ hr20 : Go.Sx.Fn Try.prog 134 [(Pt [(Vl (.int .i64 r17_6a)), (Vl (.int .i64 r17_6b)), (Sl Kf r17_6c), (Vl (.int .i64 r17_6d)), (Sl (Kl (Ki .i64)) r17_6e)])] [] (fun x : Unit => (Vl (.int .i64 r20))) (fun x => [])) (Hn := fun x : Unit => [(Rw KG53 53 (Vs wa0_1) a0_1), ⟨.pointer (some wa0), [(Vl (.int .i64 a0_0)), (Vl (Vs wa0_1)), (Vl (.int .i64 a0_2))], 114, none⟩]) (fun _ => rfl) rfl rfl) (wt_none' rfl) fun ⟨⟩ => ?_
            refine sx_rd' (rd_assign' rfl) rfl rfl (wt_none' rfl) ?_
            refine sx_nil' ?_
            show TX E K16 _
            refine tx_k' hK16 ?_
            refine cx_seq' fun K17 hK17 => ?_
            refine cx_region' ?_
            refine sx_rd' (rd_move' rfl) rfl rfl (wt_none' rfl) ?_
            refine sx_rd' (rd_move' rfl) rfl rfl (wt_none' rfl) ?_
            refine sx_rd' (rd_bin' rfl rfl eg_int ru_neq) rfl rfl (wt_none' rfl) ?_
            refine sx_nil' ?_
            show TX E K17 _
            refine tx_k' hK17 ?_
            refine cx_cond' rfl (fun h6 => ?_) (fun h6 => ?_)
            · replace hp := (br_t h6).symm.trans hp
              refine cx_seq' fun K18 hK18 => ?_
              refine cx_region' ?_
              refine sx_rd' (rd_move' rfl) rfl rfl (wt_none' rfl) ?_
              refine sx_rd' (rd_move' rfl) rfl rfl (wt_none' rfl) ?_
              refine sx_rd' (rd_build' (pls := [(0, 1), (1, 1)]) (qs := [(0, [(Vl (.int .i64 a1))]), (1, [(Vl (.int .i64 r20))])]) (r := [(Vl (.int .i64 a1)), (Vl (.int .i64 r20))]) ⟨rfl, ⟨_, rfl, (lv_vl rfl rfl)⟩, ⟨rfl, ⟨_, rfl, (lv_vl rfl rfl)⟩, trivial⟩⟩ Try.underlying134 has134 places134 info134 rfl rfl rfl) rfl rfl (wt_none' rfl) ?_
              refine sx_rd' (rd_iface' rfl ⟨_, Try.underlying134, fun _ h => (nomatch h)⟩) rfl rfl (wt_none' rfl) ?_
              refine sx_rd' (rd_assign' rfl) rfl rfl (wt_none' rfl) ?_
              refine sx_nil' ?_
              show TX E K18 _
              refine tx_k' hK18 ?_
              refine cx_retc' ?_
              replace hp := Option.some.inj hp
              subst hp
              show TX E (Zg E Exit.ret _ Exit.ret) _
              exact tx_zend' () rfl [1, 0] (sub_cons rfl sub_nil) (by decide) (pick_cons rfl (pick_cons rfl pick_nil))
            · replace hp := (br_f h6).symm.trans hp
              refine cx_skip' ?_
              show TX E K14 _
              refine tx_k' hK14 ?_
              refine cx_region' ?_
              refine sx_rd' (rd_bin' rfl rfl eg_int ru_add) rfl rfl (wt_none' rfl) ?_
              refine sx_rd' (rd_move' rfl) rfl rfl (wt_none' rfl) ?_
              refine sx_nil' ?_
              show TX E (KY1 _) _
              exact tx_pick' [0, 1] (sub_cons rfl (sub_cons rfl (sub_cons rfl (sub_cons rfl sub_nil)))) (by decide) (pick_cons rfl (pick_cons rfl pick_nil)) (ih1 (iadd .i64 x1 1) () _ hp)
          · dsimp only at hp
            refine tx_slot' 18 (y := (If 57 (Pt [(Vl (.int .i64 r17_7a)), (Sl KG53 r17_7b), (Vl (.int .i64 r17_7c))]))) rfl (imp_eq (SG53_c7 r17_7a r17_7b r17_7c)) ?_
            refine tx_slot' 6 (y := (If 57 (Pt [(Vl (.int .i64 r17_7a)), (Sl KG53 r17_7b), (Vl (.int .i64 r17_7c))]))) rfl (imp_eq (SG53_c7 r17_7a r17_7b r17_7c)) ?_
            refine tx_slot' 19 (y := (If 57 (Pt [(Vl (.int .i64 r17_7a)), (Sl KG53 r17_7b), (Vl (.int .i64 r17_7c))]))) rfl (imp_eq (SG53_c7 r17_7a r17_7b r17_7c)) ?_
            obtain ⟨r20, hr20, hp⟩ := bind_some hp
            refine sx_ox' (ox_calln' (ent_inv' rfl rfl (inv_any0 inv57_Layout)) (gogeom_GeometryCollection_Layout_sim _ _ _ hr20 : Go.Sx.Fn Try.prog 125 [(Pt [(Vl (.int .i64 r17_7a)), (Sl KG53 r17_7b), (Vl (.int .i64 r17_7c))])] [] (fun x : Unit => (Vl (.int .i64 r20))) (fun x => [])) (Hn := fun x : Unit => [(Rw KG53 53 (Vs wa0_1) a0_1), ⟨.pointer (some wa0), [(Vl (.int .i64 a0_0)), (Vl (Vs wa0_1)), (Vl (.int .i64 a0_2))], 114, none⟩]) (fun _ => rfl) rfl rfl) (wt_none' rfl) fun ⟨⟩ => ?_
            refine sx_rd' (rd_assign' rfl) rfl rfl (wt_none' rfl) ?_
            refine sx_nil' ?_
            show TX E K16 _
            refine tx_k' hK16 ?_
            refine cx_seq' fun K17 hK17 => ?_
            refine cx_region' ?_
            refine sx_rd' (rd_move' rfl) rfl rfl (wt_none' rfl) ?_
            refine sx_rd' (rd_move' rfl) rfl rfl (wt_none' rfl) ?_
            refine sx_rd' (rd_bin' rfl rfl eg_int ru_neq) rfl rfl (wt_none' rfl) ?_
            refine sx_nil' ?_
            show TX E K17 _
            refine tx_k' hK17 ?_
            refine cx_cond' rfl (fun h6 => ?_) (fun h6 => ?_)
            · replace hp := (br_t h6).symm.trans hp
              refine cx_seq' fun K18 hK18 => ?_
              refine cx_region' ?_
              refine sx_rd' (rd_move' rfl) rfl rfl (wt_none' rfl) ?_
              refine sx_rd' (rd_move' rfl) rfl rfl (wt_none' rfl) ?_
              refine sx_rd' (rd_build' (pls := [(0, 1), (1, 1)]) (qs := [(0, [(Vl (.int .i64 a1))]), (1, [(Vl (.int .i64 r20))])]) (r := [(Vl (.int .i64 a1)), (Vl (.int .i64 r20))]) ⟨rfl, ⟨_, rfl, (lv_vl rfl rfl)⟩, ⟨rfl, ⟨_, rfl, (lv_vl rfl rfl)⟩, trivial⟩⟩ Try.underlying134 has134 places134 info134 rfl rfl rfl) rfl rfl (wt_none' rfl) ?_
              refine sx_rd' (rd_iface' rfl ⟨_, Try.underlying134, fun _ h => (nomatch h)⟩) rfl rfl (wt_none' rfl) ?_
              refine sx_rd' (rd_assign' rfl) rfl rfl (wt_none' rfl) ?_
              refine sx_nil' ?_
              show TX E K18 _
              refine tx_k' hK18 ?_
              refine cx_retc' ?_
              replace hp := Option.some.inj hp
              subst hp
              show TX E (Zg E Exit.ret _ Exit.ret) _
              exact tx_zend' () rfl [1, 0] (sub_cons rfl sub_nil) (by decide) (pick_cons rfl (pick_cons rfl pick_nil))
            · replace hp := (br_f h6).symm.trans hp
              refine cx_skip' ?_
              show TX E K14 _
              refine tx_k' hK14 ?_
              refine cx_region' ?_
              refine sx_rd' (rd_bin' rfl rfl eg_int ru_add) rfl rfl (wt_none' rfl) ?_
              refine sx_rd' (rd_move' rfl) rfl rfl (wt_none' rfl) ?_
              refine sx_nil' ?_
              show TX E (KY1 _) _
              exact tx_pick' [0, 1] (sub_cons rfl (sub_cons rfl (sub_cons rfl (sub_cons rfl sub_nil)))) (by decide) (pick_cons rfl (pick_cons rfl pick_nil)) (ih1 (iadd .i64 x1 1) () _ hp)
        · replace hp := (br_f h5).symm.trans hp
          refine cx_exit' ?_
          replace hp := Option.some.inj hp
          subst hp
          show TX E (Zg E (Exit.exit 0) _ (Exit.exit 0)) _
          exact tx_zend' () rfl [1, 0] sub_nil (by decide) (pick_cons rfl (pick_cons rfl pick_nil))
      · rcases y1 with v2 | v3
        · dsimp only at hp
          refine zg_out fun w2 => ?_
          replace hp := Option.some.inj hp
          subst hp
          refine tx_pick' (L' := [(4, (If 134 (Ag [(Vl (.int .i64 a1)), (Vl (.int .i64 v2))])))]) (H' := [⟨.pointer (some wa0), [(Vl (.int .i64 a0_0)), (Vl (Vs wa0_1)), (Vl (.int .i64 a0_2))], 114, none⟩, (Rw KG53 53 (Vs wa0_1) a0_1)]) [0, 1] (sub_cons rfl sub_nil) (by decide) (pick_cons rfl (pick_cons rfl pick_nil)) ?_
          exact tx_ret1' Try.results79 rfl () (rv_tmp' rfl) (List.Sublist.refl _)
        · dsimp only at hp
          refine zg_out fun w3 => ?_
          show TX E K2 _
          exact tx_pick' [0, 1] sub_nil (by decide) (pick_cons rfl (pick_cons rfl pick_nil)) (hK2 () hp)
    · replace hp := (br_f h1).symm.trans hp
      refine cx_skip' ?_
      show TX E K2 _
      exact tx_pick' [0, 1] sub_nil (by decide) (pick_cons rfl (pick_cons rfl pick_nil)) (hK2 () hp)

def gogeom_GeometryCollection_SetLayout_v2 (k : Nat) (a0_0 : Int) (a0_1 : List G53) (a0_2 : Int) (a1 : Int) : Option ((Int × (List G53) × Int) ⊕ (Int × (List G53) × Int × Int × Int)) :=
  (gogeom_GeometryCollection_CheckLayout_v2 k a0_0 a0_1 a0_2 a1) >>= fun r8 =>
  match r8 with
    | (.inl y1) =>
      (some (.inl (a1, y1.2.1, y1.2.2)))
    | (.inr y1) =>
      (some (.inr (y1.1, y1.2.1, y1.2.2.1, y1.2.2.2.1, y1.2.2.2.2)))
def gogeom_GeometryCollection_SetLayout_v2_r (wa0 : Addr) (wa0_1 : Gs) (a0_0 : Int) (a0_1 : List G53) (a0_2 : Int) (a1 : Int) (out : (Int × (List G53) × Int) ⊕ (Int × (List G53) × Int × Int × Int)) (w : Unit) : SV := match out with
  | (.inl y) => (Vl .nilIface)
  | (.inr y) => (If 134 (Ag [(Vl (.int .i64 y.2.2.2.1)), (Vl (.int .i64 y.2.2.2.2))]))
def gogeom_GeometryCollection_SetLayout_v2_h (wa0 : Addr) (wa0_1 : Gs) (a0_0 : Int) (a0_1 : List G53) (a0_2 : Int) (a1 : Int) (out : (Int × (List G53) × Int) ⊕ (Int × (List G53) × Int × Int × Int)) (w : Unit) : List Res := match out with
  | (.inl y) => [⟨.pointer (some wa0), [(Vl (.int .i64 y.1)), (Vl (Vs wa0_1)), (Vl (.int .i64 y.2.2))], 114, none⟩, (Rw KG53 53 (Vs wa0_1) y.2.1)]
  | (.inr y) => [⟨.pointer (some wa0), [(Vl (.int .i64 y.1)), (Vl (Vs wa0_1)), (Vl (.int .i64 y.2.2.1))], 114, none⟩, (Rw KG53 53 (Vs wa0_1) y.2.1)]

theorem gogeom_GeometryCollection_SetLayout_v2_sim {k : Nat} {wa0 : Addr} {wa0_1 : Gs} (a0_0 : Int) (a0_1 : List G53) (a0_2 : Int) (a1 : Int) {out : (Int × (List G53) × Int) ⊕ (Int × (List G53) × Int × Int × Int)} (hp : gogeom_GeometryCollection_SetLayout_v2 k a0_0 a0_1 a0_2 a1 = some out) : Go.Sx.Fn Try.prog 33 [(Vl (.pointer (some wa0))), (Vl (.int .i64 a1))] [⟨.pointer (some wa0), [(Vl (.int .i64 a0_0)), (Vl (Vs wa0_1)), (Vl (.int .i64 a0_2))], 114, none⟩, (Rw KG53 53 (Vs wa0_1) a0_1)] (fun w => gogeom_GeometryCollection_SetLayout_v2_r wa0 wa0_1 a0_0 a0_1 a0_2 a1 out w) (fun w => gogeom_GeometryCollection_SetLayout_v2_h wa0 wa0_1 a0_0 a0_1 a0_2 a1 out w) := by
  unfold gogeom_GeometryCollection_SetLayout_v2 at hp
  refine fn_of Try.func33 rfl Try.ntmps33 rfl fun E hM => ?_
  refine cx_seq' fun K1 hK1 => ?_
  refine cx_region' ?_
  refine sx_rd' (rd_assign' rfl) rfl rfl (wt_none' rfl) ?_
  refine sx_nil' ?_
  show TX E K1 _
  refine tx_k' hK1 ?_
  refine cx_seq' fun K2 hK2 => ?_
  refine cx_seq' fun K3 hK3 => ?_
  refine cx_region' ?_
  refine sx_rd' (rd_move' rfl) rfl rfl (wt_none' rfl) ?_
  refine sx_rd' (rd_move' rfl) rfl rfl (wt_none' rfl) ?_
  obtain ⟨r8, hr8, hp⟩ := bind_some hp
  rcases r8 with y1 | y1
  · dsimp only at hp
    refine sx_ox' (ox_callg' (ent_fn' Try.func79 isn79 rfl rfl) (gogeom_GeometryCollection_CheckLayout_v2_sim _ _ _ _ hr8 : Go.Sx.Fn Try.prog 79 [(Vl (.pointer (some wa0))), (Vl (.int .i64 a1))] [⟨.pointer (some wa0), [(Vl (.int .i64 a0_0)), (Vl (Vs wa0_1)), (Vl (.int .i64 a0_2))], 114, none⟩, (Rw KG53 53 (Vs wa0_1) a0_1)] (fun x : Unit => (Vl .nilIface)) (fun x => [⟨.pointer (some wa0), [(Vl (.int .i64 y1.1)), (Vl (Vs wa0_1)), (Vl (.int .i64 y1.2.2))], 114, none⟩, (Rw KG53 53 (Vs wa0_1) y1.2.1)])) [0, 1] [] (by decide) (pick_cons rfl (pick_cons rfl pick_nil)) pick_nil (Hn := fun x : Unit => [⟨.pointer (some wa0), [(Vl (.int .i64 y1.1)), (Vl (Vs wa0_1)), (Vl (.int .i64 y1.2.2))], 114, none⟩, (Rw KG53 53 (Vs wa0_1) y1.2.1)]) (fun _ => rfl) rfl rfl) (wt_none' rfl) fun ⟨⟩ => ?_
    refine sx_rd' (rd_assign' rfl) rfl rfl (wt_none' rfl) ?_
    refine sx_nil' ?_
    show TX E K3 _
    refine tx_k' hK3 ?_
    refine cx_seq' fun K4 hK4 => ?_
    refine cx_region' ?_
    refine sx_rd' (rd_move' rfl) rfl rfl (wt_none' rfl) ?_
    refine sx_rd' (rd_binf' rfl rfl (bf_vl (fun _ => by kernel_rfl) nil_neq59_nilif)) rfl rfl (wt_none' rfl) ?_
    refine sx_nil' ?_
    show TX E K4 _
    refine tx_k' hK4 ?_
    refine cx_cond_f' rfl rfl ?_
    refine cx_skip' ?_
    show TX E K2 _
    refine tx_k' hK2 ?_
    refine cx_seq' fun K5 hK5 => ?_
    refine cx_region' ?_
    refine sx_rd' (rd_move' rfl) rfl rfl (wt_none' rfl) ?_
    refine sx_rd' (rd_move' rfl) rfl rfl (wt_none' rfl) ?_
    refine sx_rd' (rd_nilck' rfl) rfl rfl (wt_none' rfl) ?_
    refine sx_rd' (rd_field0' rfl Try.underlying114 rfl info61 rfl) rfl rfl (wt_none' rfl) ?_
    refine sx_ox' (ox_store' (i := 0) (o := 0) rfl rfl (lv_vl rfl rfl) ⟨rfl, rfl, rfl, rfl⟩ rfl info61 rfl (H' := [⟨.pointer (some wa0), [(Vl (.int .i64 a1)), (Vl (Vs wa0_1)), (Vl (.int .i64 y1.2.2))], 114, none⟩, (Rw KG53 53 (Vs wa0_1) y1.2.1)]) rfl) (wt_none' rfl) fun _ => ?_
    refine sx_nil' ?_
    show TX E K5 _
    refine tx_k' hK5 ?_
    refine cx_seq' fun K6 hK6 => ?_
    refine cx_region' ?_
    refine sx_rd' (rd_assign' rfl) rfl rfl (wt_none' rfl) ?_
    refine sx_nil' ?_
    show TX E K6 _
    refine tx_k' hK6 ?_
    refine cx_retc' ?_
    replace hp := Option.some.inj hp
    subst hp
    refine tx_pick' (L' := [(4, (Vl .nilIface))]) (H' := [⟨.pointer (some wa0), [(Vl (.int .i64 a1)), (Vl (Vs wa0_1)), (Vl (.int .i64 y1.2.2))], 114, none⟩, (Rw KG53 53 (Vs wa0_1) y1.2.1)]) [0, 1] (sub_cons rfl sub_nil) (by decide) (pick_cons rfl (pick_cons rfl pick_nil)) ?_
    exact tx_ret1' Try.results33 rfl () (rv_tmp' rfl) (List.Sublist.refl _)
  · dsimp only at hp
    refine sx_ox' (ox_callg' (ent_fn' Try.func79 isn79 rfl rfl) (gogeom_GeometryCollection_CheckLayout_v2_sim _ _ _ _ hr8 : Go.Sx.Fn Try.prog 79 [(Vl (.pointer (some wa0))), (Vl (.int .i64 a1))] [⟨.pointer (some wa0), [(Vl (.int .i64 a0_0)), (Vl (Vs wa0_1)), (Vl (.int .i64 a0_2))], 114, none⟩, (Rw KG53 53 (Vs wa0_1) a0_1)] (fun x : Unit => (If 134 (Ag [(Vl (.int .i64 y1.2.2.2.1)), (Vl (.int .i64 y1.2.2.2.2))]))) (fun x => [⟨.pointer (some wa0), [(Vl (.int .i64 y1.1)), (Vl (Vs wa0_1)), (Vl (.int .i64 y1.2.2.1))], 114, none⟩, (Rw KG53 53 (Vs wa0_1) y1.2.1)])) [0, 1] [] (by decide) (pick_cons rfl (pick_cons rfl pick_nil)) pick_nil (Hn := fun x : Unit => [⟨.pointer (some wa0), [(Vl (.int .i64 y1.1)), (Vl (Vs wa0_1)), (Vl (.int .i64 y1.2.2.1))], 114, none⟩, (Rw KG53 53 (Vs wa0_1) y1.2.1)]) (fun _ => rfl) rfl rfl) (wt_none' rfl) fun ⟨⟩ => ?_
    refine sx_rd' (rd_assign' rfl) rfl rfl (wt_none' rfl) ?_
    refine sx_nil' ?_
    show TX E K3 _
    refine tx_k' hK3 ?_
    refine cx_seq' fun K4 hK4 => ?_
    refine cx_region' ?_
    refine sx_rd' (rd_move' rfl) rfl rfl (wt_none' rfl) ?_
    refine sx_rd' (rd_binf' rfl rfl (bf_if (fun _ _ => by kernel_rfl) nil_neq59_if134)) rfl rfl (wt_none' rfl) ?_
    refine sx_nil' ?_
    show TX E K4 _
    refine tx_k' hK4 ?_
    refine cx_cond_t' rfl rfl ?_
    refine cx_seq' fun K7 hK7 => ?_
    refine cx_region' ?_
    refine sx_rd' (rd_move' rfl) rfl rfl (wt_none' rfl) ?_
    refine sx_rd' (rd_assign' rfl) rfl rfl (wt_none' rfl) ?_
    refine sx_nil' ?_
    show TX E K7 _
    refine tx_k' hK7 ?_
    refine cx_retc' ?_
    replace hp := Option.some.inj hp
    subst hp
    refine tx_pick' (L' := [(4, (If 134 (Ag [(Vl (.int .i64 y1.2.2.2.1)), (Vl (.int .i64 y1.2.2.2.2))])))]) (H' := [⟨.pointer (some wa0), [(Vl (.int .i64 y1.1)), (Vl (Vs wa0_1)), (Vl (.int .i64 y1.2.2.1))], 114, none⟩, (Rw KG53 53 (Vs wa0_1) y1.2.1)]) [0, 1] (sub_cons rfl sub_nil) (by decide) (pick_cons rfl (pick_cons rfl pick_nil)) ?_
    exact tx_ret1' Try.results33 rfl () (rv_tmp' rfl) (List.Sublist.refl _)

def gogeom_GeometryCollection_MustSetLayout_v2 (k : Nat) (a0_0 : Int) (a0_1 : List G53) (a0_2 : Int) (a1 : Int) : Option (Int × (List G53) × Int) :=
  (gogeom_GeometryCollection_SetLayout_v2 k a0_0 a0_1 a0_2 a1) >>= fun r8 =>
  match r8 with
    | (.inl y1) =>
      (some (y1.1, y1.2.1, y1.2.2))
    | (.inr y1) =>
      (none)

theorem gogeom_GeometryCollection_MustSetLayout_v2_sim {k : Nat} {wa0 : Addr} {wa0_1 : Gs} (a0_0 : Int) (a0_1 : List G53) (a0_2 : Int) (a1 : Int) {out : Int × (List G53) × Int} (hp : gogeom_GeometryCollection_MustSetLayout_v2 k a0_0 a0_1 a0_2 a1 = some out) : Go.Sx.Fn Try.prog 78 [(Vl (.pointer (some wa0))), (Vl (.int .i64 a1))] [⟨.pointer (some wa0), [(Vl (.int .i64 a0_0)), (Vl (Vs wa0_1)), (Vl (.int .i64 a0_2))], 114, none⟩, (Rw KG53 53 (Vs wa0_1) a0_1)] (fun w : Unit => (Vl (.pointer (some wa0)))) (fun w => [⟨.pointer (some wa0), [(Vl (.int .i64 out.1)), (Vl (Vs wa0_1)), (Vl (.int .i64 out.2.2))], 114, none⟩, (Rw KG53 53 (Vs wa0_1) out.2.1)]) := by
  unfold gogeom_GeometryCollection_MustSetLayout_v2 at hp
  refine fn_of Try.func78 rfl Try.ntmps78 rfl fun E hM => ?_
  refine cx_seq' fun K1 hK1 => ?_
  refine cx_region' ?_
  refine sx_rd' (rd_assign' rfl) rfl rfl (wt_none' rfl) ?_
  refine sx_nil' ?_
  show TX E K1 _
  refine tx_k' hK1 ?_
  refine cx_seq' fun K2 hK2 => ?_
  refine cx_seq' fun K3 hK3 => ?_
  refine cx_region' ?_
  refine sx_rd' (rd_move' rfl) rfl rfl (wt_none' rfl) ?_
  refine sx_rd' (rd_move' rfl) rfl rfl (wt_none' rfl) ?_
  obtain ⟨r8, hr8, hp⟩ := bind_some hp
  rcases r8 with y1 | y1
  · dsimp only at hp
    refine sx_ox' (ox_callg' (ent_fn' Try.func33 isn33 rfl rfl) (gogeom_GeometryCollection_SetLayout_v2_sim _ _ _ _ hr8 : Go.Sx.Fn Try.prog 33 [(Vl (.pointer (some wa0))), (Vl (.int .i64 a1))] [⟨.pointer (some wa0), [(Vl (.int .i64 a0_0)), (Vl (Vs wa0_1)), (Vl (.int .i64 a0_2))], 114, none⟩, (Rw KG53 53 (Vs wa0_1) a0_1)] (fun x : Unit => (Vl .nilIface)) (fun x => [⟨.pointer (some wa0), [(Vl (.int .i64 y1.1)), (Vl (Vs wa0_1)), (Vl (.int .i64 y1.2.2))], 114, none⟩, (Rw KG53 53 (Vs wa0_1) y1.2.1)])) [0, 1] [] (by decide) (pick_cons rfl (pick_cons rfl pick_nil)) pick_nil (Hn := fun x : Unit => [⟨.pointer (some wa0), [(Vl (.int .i64 y1.1)), (Vl (Vs wa0_1)), (Vl (.int .i64 y1.2.2))], 114, none⟩, (Rw KG53 53 (Vs wa0_1) y1.2.1)]) (fun _ => rfl) rfl rfl) (wt_none' rfl) fun ⟨⟩ => ?_
    refine sx_rd' (rd_assign' rfl) rfl rfl (wt_none' rfl) ?_
    refine sx_nil' ?_
    show TX E K3 _
    refine tx_k' hK3 ?_
    refine cx_seq' fun K4 hK4 => ?_
    refine cx_region' ?_
    refine sx_rd' (rd_move' rfl) rfl rfl (wt_none' rfl) ?_
    refine sx_rd' (rd_binf' rfl rfl (bf_vl (fun _ => by kernel_rfl) nil_neq59_nilif)) rfl rfl (wt_none' rfl) ?_
    refine sx_nil' ?_
    show TX E K4 _
    refine tx_k' hK4 ?_
    refine cx_cond_f' rfl rfl ?_
    refine cx_skip' ?_
    show TX E K2 _
    refine tx_k' hK2 ?_
    refine cx_seq' fun K5 hK5 => ?_
    refine cx_region' ?_
    refine sx_rd' (rd_move' rfl) rfl rfl (wt_none' rfl) ?_
    refine sx_rd' (rd_assign' rfl) rfl rfl (wt_none' rfl) ?_
    refine sx_nil' ?_
    show TX E K5 _
    refine tx_k' hK5 ?_
    refine cx_retc' ?_
    replace hp := Option.some.inj hp
    subst hp
    refine tx_pick' (L' := [(4, (Vl (.pointer (some wa0))))]) (H' := [⟨.pointer (some wa0), [(Vl (.int .i64 y1.1)), (Vl (Vs wa0_1)), (Vl (.int .i64 y1.2.2))], 114, none⟩, (Rw KG53 53 (Vs wa0_1) y1.2.1)]) [0, 1] (sub_cons rfl sub_nil) (by decide) (pick_cons rfl (pick_cons rfl pick_nil)) ?_
    exact tx_ret1' Try.results78 rfl () (rv_tmp' rfl) (List.Sublist.refl _)
  · dsimp only at hp
    refine sx_ox' (ox_callg' (ent_fn' Try.func33 isn33 rfl rfl) (gogeom_GeometryCollection_SetLayout_v2_sim _ _ _ _ hr8 : Go.Sx.Fn Try.prog 33 [(Vl (.pointer (some wa0))), (Vl (.int .i64 a1))] [⟨.pointer (some wa0), [(Vl (.int .i64 a0_0)), (Vl (Vs wa0_1)), (Vl (.int .i64 a0_2))], 114, none⟩, (Rw KG53 53 (Vs wa0_1) a0_1)] (fun x : Unit => (If 134 (Ag [(Vl (.int .i64 y1.2.2.2.1)), (Vl (.int .i64 y1.2.2.2.2))]))) (fun x => [⟨.pointer (some wa0), [(Vl (.int .i64 y1.1)), (Vl (Vs wa0_1)), (Vl (.int .i64 y1.2.2.1))], 114, none⟩, (Rw KG53 53 (Vs wa0_1) y1.2.1)])) [0, 1] [] (by decide) (pick_cons rfl (pick_cons rfl pick_nil)) pick_nil (Hn := fun x : Unit => [⟨.pointer (some wa0), [(Vl (.int .i64 y1.1)), (Vl (Vs wa0_1)), (Vl (.int .i64 y1.2.2.1))], 114, none⟩, (Rw KG53 53 (Vs wa0_1) y1.2.1)]) (fun _ => rfl) rfl rfl) (wt_none' rfl) fun ⟨⟩ => ?_
    refine sx_rd' (rd_assign' rfl) rfl rfl (wt_none' rfl) ?_
    refine sx_nil' ?_
    show TX E K3 _
    refine tx_k' hK3 ?_
    refine cx_seq' fun K4 hK4 => ?_
    refine cx_region' ?_
    refine sx_rd' (rd_move' rfl) rfl rfl (wt_none' rfl) ?_
    refine sx_rd' (rd_binf' rfl rfl (bf_if (fun _ _ => by kernel_rfl) nil_neq59_if134)) rfl rfl (wt_none' rfl) ?_
    refine sx_nil' ?_
    show TX E K4 _
    refine tx_k' hK4 ?_
    refine cx_cond_t' rfl rfl ?_
    refine cx_region' ?_
    refine sx_rd' (rd_move' rfl) rfl rfl (wt_none' rfl) ?_
    cases hp

def impl_geometry_l1s (a0_6 : List T27) (recf : Int → Int → Int → (List Nat) → (List Int) → (List (List Int)) → (List T27) → Option ((Int × Int × (List Nat) × Int) ⊕ ((Int × Int × (List Nat) × Int) ⊕ ((Int × Int × (List Nat) × Int) ⊕ ((Int × Int × (List Nat) × Int × (List Int)) ⊕ ((Int × Int × (List Nat) × Int × (List Int)) ⊕ ((Int × Int × (List Nat) × Int × (List Int)) ⊕ ((Int × Int × (List Nat) × Int × (List (List Int))) ⊕ (Int × (List G53) × Int))))))))) (k : Nat) (rec1 : (Int × (List G53) × Int × Int) → Option (Int × (List G53) × Int)) (x35 : Int) (x36 : List G53) (x37 : Int) (x38 : Int) : Option (Int × (List G53) × Int) :=
  br (decide (x38 < (a0_6.length : Int)))
    ((idx a0_6 x38) >>= fun r103 =>
    (recf r103.f0 r103.f1 r103.f2 r103.f3 r103.f4 r103.f5 r103.f6) >>= fun r107 =>
    match r107 with
      | (.inl y24) =>
        ((gogeom_GeometryCollection_MustPush_v2 k x35 x36 x37 ([(G53.c0 y24.1 y24.2.1 y24.2.2.1 y24.2.2.2)])) >>= fun r109 =>
        rec1 (r109.1, r109.2.1, r109.2.2, (iadd .i64 x38 1)))
      | (.inr (.inl y24)) =>
        ((gogeom_GeometryCollection_MustPush_v2 k x35 x36 x37 ([(G53.c1 y24.1 y24.2.1 y24.2.2.1 y24.2.2.2)])) >>= fun r109 =>
        rec1 (r109.1, r109.2.1, r109.2.2, (iadd .i64 x38 1)))
      | (.inr (.inr (.inl y24))) =>
        ((gogeom_GeometryCollection_MustPush_v2 k x35 x36 x37 ([(G53.c2 y24.1 y24.2.1 y24.2.2.1 y24.2.2.2)])) >>= fun r109 =>
        rec1 (r109.1, r109.2.1, r109.2.2, (iadd .i64 x38 1)))
      | (.inr (.inr (.inr (.inl y24)))) =>
        ((gogeom_GeometryCollection_MustPush_v2 k x35 x36 x37 ([(G53.c3 y24.1 y24.2.1 y24.2.2.1 y24.2.2.2.1 y24.2.2.2.2)])) >>= fun r109 =>
        rec1 (r109.1, r109.2.1, r109.2.2, (iadd .i64 x38 1)))
      | (.inr (.inr (.inr (.inr (.inl y24))))) =>
        ((gogeom_GeometryCollection_MustPush_v2 k x35 x36 x37 ([(G53.c4 y24.1 y24.2.1 y24.2.2.1 y24.2.2.2.1 y24.2.2.2.2)])) >>= fun r109 =>
        rec1 (r109.1, r109.2.1, r109.2.2, (iadd .i64 x38 1)))
      | (.inr (.inr (.inr (.inr (.inr (.inl y24)))))) =>
        ((gogeom_GeometryCollection_MustPush_v2 k x35 x36 x37 ([(G53.c5 y24.1 y24.2.1 y24.2.2.1 y24.2.2.2.1 y24.2.2.2.2)])) >>= fun r109 =>
        rec1 (r109.1, r109.2.1, r109.2.2, (iadd .i64 x38 1)))
      | (.inr (.inr (.inr (.inr (.inr (.inr (.inl y24))))))) =>
        ((gogeom_GeometryCollection_MustPush_v2 k x35 x36 x37 ([(G53.c6 y24.1 y24.2.1 y24.2.2.1 y24.2.2.2.1 y24.2.2.2.2)])) >>= fun r109 =>
        rec1 (r109.1, r109.2.1, r109.2.2, (iadd .i64 x38 1)))
      | (.inr (.inr (.inr (.inr (.inr (.inr (.inr y24))))))) =>
        ((gogeom_GeometryCollection_MustPush_v2 k x35 x36 x37 ([(G53.c7 y24.1 y24.2.1 y24.2.2)])) >>= fun r109 =>
        rec1 (r109.1, r109.2.1, r109.2.2, (iadd .i64 x38 1))))
    (some (x35, x36, x37))
def impl_geometry_l1 (a0_6 : List T27) (recf : Int → Int → Int → (List Nat) → (List Int) → (List (List Int)) → (List T27) → Option ((Int × Int × (List Nat) × Int) ⊕ ((Int × Int × (List Nat) × Int) ⊕ ((Int × Int × (List Nat) × Int) ⊕ ((Int × Int × (List Nat) × Int × (List Int)) ⊕ ((Int × Int × (List Nat) × Int × (List Int)) ⊕ ((Int × Int × (List Nat) × Int × (List Int)) ⊕ ((Int × Int × (List Nat) × Int × (List (List Int))) ⊕ (Int × (List G53) × Int))))))))) : Nat → (Int × (List G53) × Int × Int) → Option (Int × (List G53) × Int)
  | 0, _ => none
  | k + 1, v => impl_geometry_l1s a0_6 recf k (impl_geometry_l1 a0_6 recf k) v.1 v.2.1 v.2.2.1 v.2.2.2
def impl_geometry_b (recf : Int → Int → Int → (List Nat) → (List Int) → (List (List Int)) → (List T27) → Option ((Int × Int × (List Nat) × Int) ⊕ ((Int × Int × (List Nat) × Int) ⊕ ((Int × Int × (List Nat) × Int) ⊕ ((Int × Int × (List Nat) × Int × (List Int)) ⊕ ((Int × Int × (List Nat) × Int × (List Int)) ⊕ ((Int × Int × (List Nat) × Int × (List Int)) ⊕ ((Int × Int × (List Nat) × Int × (List (List Int))) ⊕ (Int × (List G53) × Int))))))))) (k : Nat) (a0_0 : Int) (a0_1 : Int) (a0_2 : Int) (a0_3 : List Nat) (a0_4 : List Int) (a0_5 : List (List Int)) (a0_6 : List T27) : Option ((Int × Int × (List Nat) × Int) ⊕ ((Int × Int × (List Nat) × Int) ⊕ ((Int × Int × (List Nat) × Int) ⊕ ((Int × Int × (List Nat) × Int × (List Int)) ⊕ ((Int × Int × (List Nat) × Int × (List Int)) ⊕ ((Int × Int × (List Nat) × Int × (List Int)) ⊕ ((Int × Int × (List Nat) × Int × (List (List Int))) ⊕ (Int × (List G53) × Int)))))))) :=
  (impl_floats k a0_3) >>= fun r12 =>
  br (decide (a0_0 = 1))
    ((gogeom_NewPointFlat k a0_1 r12) >>= fun r19 =>
    (gogeom_Point_SetSRID k r19.1 r19.2.1 r19.2.2.1 r19.2.2.2 a0_2) >>= fun r22 =>
    some (.inl (r22.1, r22.2.1, r22.2.2.1, r22.2.2.2)))
    (br (decide (a0_0 = 2))
      ((gogeom_NewLineStringFlat k a0_1 r12) >>= fun r28 =>
      (gogeom_LineString_SetSRID k r28.1 r28.2.1 r28.2.2.1 r28.2.2.2 a0_2) >>= fun r31 =>
      some (.inr (.inl (r31.1, r31.2.1, r31.2.2.1, r31.2.2.2))))
      (br (decide (a0_0 = 8))
        ((gogeom_NewLinearRingFlat k a0_1 r12) >>= fun r37 =>
        (gogeom_LinearRing_SetSRID k r37.1 r37.2.1 r37.2.2.1 r37.2.2.2 a0_2) >>= fun r40 =>
        some (.inr (.inr (.inl (r40.1, r40.2.1, r40.2.2.1, r40.2.2.2)))))
        (br (decide (a0_0 = 3))
          ((impl_ints k a0_4) >>= fun r48 =>
          match r48 with
            | (.inl y4) =>
              ((gogeom_NewPolygonFlat k a0_1 r12) >>= fun r49 =>
              (gogeom_Polygon_SetSRID k r49.1 r49.2.1 r49.2.2.1 r49.2.2.2 a0_2) >>= fun r52 =>
              some (.inr (.inr (.inr (.inl (r52.1, r52.2.1, r52.2.2.1, r52.2.2.2, []))))))
            | (.inr y4) =>
              ((gogeom_NewPolygonFlat_v2 k a0_1 r12 y4) >>= fun r49 =>
              (gogeom_Polygon_SetSRID_v2 k r49.1 r49.2.1 r49.2.2.1 r49.2.2.2.1 r49.2.2.2.2 a0_2) >>= fun r52 =>
              some (.inr (.inr (.inr (.inl (r52.1, r52.2.1, r52.2.2.1, r52.2.2.2.1, r52.2.2.2.2)))))))
          (br (decide (a0_0 = 4))
            ((impl_ints k a0_4) >>= fun r60 =>
            match r60 with
              | (.inl y6) =>
                ((gogeom_NewMultiPointFlatOptionWithEnds k) >>= fun r61 =>
                (gogeom_NewMultiPointFlat k a0_1 r12) >>= fun r63 =>
                (gogeom_MultiPoint_SetSRID k r63.1 r63.2.1 r63.2.2.1 r63.2.2.2.1 r63.2.2.2.2 a0_2) >>= fun r66 =>
                some (.inr (.inr (.inr (.inr (.inl (r66.1, r66.2.1, r66.2.2.1, r66.2.2.2.1, r66.2.2.2.2)))))))
              | (.inr y6) =>
                ((gogeom_NewMultiPointFlatOptionWithEnds_v2 k y6) >>= fun r61 =>
                (gogeom_NewMultiPointFlat_v2 k a0_1 r12 r61) >>= fun r63 =>
                (gogeom_MultiPoint_SetSRID_v2 k r63.2.1 r63.2.2.1 r63.2.2.2.1 r63.2.2.2.2 r63.1 a0_2) >>= fun r66 =>
                some (.inr (.inr (.inr (.inr (.inl (r66.1, r66.2.1, r66.2.2.1, r66.2.2.2.1, r66.2.2.2.2))))))))
            (br (decide (a0_0 = 5))
              ((impl_ints k a0_4) >>= fun r74 =>
              match r74 with
                | (.inl y10) =>
                  ((gogeom_NewMultiLineStringFlat k a0_1 r12) >>= fun r75 =>
                  (gogeom_MultiLineString_SetSRID k r75.1 r75.2.1 r75.2.2.1 r75.2.2.2 a0_2) >>= fun r78 =>
                  some (.inr (.inr (.inr (.inr (.inr (.inl (r78.1, r78.2.1, r78.2.2.1, r78.2.2.2, []))))))))
                | (.inr y10) =>
                  ((gogeom_NewMultiLineStringFlat_v2 k a0_1 r12 y10) >>= fun r75 =>
                  (gogeom_MultiLineString_SetSRID_v2 k r75.1 r75.2.1 r75.2.2.1 r75.2.2.2.1 r75.2.2.2.2 a0_2) >>= fun r78 =>
                  some (.inr (.inr (.inr (.inr (.inr (.inl (r78.1, r78.2.1, r78.2.2.1, r78.2.2.2.1, r78.2.2.2.2)))))))))
              (br (decide (a0_0 = 6))
                ((impl_intss k a0_5) >>= fun r86 =>
                (gogeom_NewMultiPolygonFlat k a0_1 r12 r86) >>= fun r87 =>
                (gogeom_MultiPolygon_SetSRID k r87.1 r87.2.1 r87.2.2.1 r87.2.2.2.1 r87.2.2.2.2 a0_2) >>= fun r90 =>
                some (.inr (.inr (.inr (.inr (.inr (.inr (.inl (r90.1, r90.2.1, r90.2.2.1, r90.2.2.2.1, r90.2.2.2.2)))))))))
                (br (decide (a0_0 = 7))
                  ((gogeom_NewGeometryCollection k) >>= fun r94 =>
                  (gogeom_GeometryCollection_SetSRID k r94 r94 a0_2) >>= fun r97 =>
                  (impl_geometry_l1 a0_6 recf k (r97.1, [], r97.2, 0)) >>= fun v10 =>
                  (gogeom_GeometryCollection_MustSetLayout_v2 k v10.1 v10.2.1 v10.2.2 a0_1) >>= fun r113 =>
                  some (.inr (.inr (.inr (.inr (.inr (.inr (.inr (r113.1, r113.2.1, r113.2.2)))))))))
                  (none))))))))
def impl_geometry : Nat → Int → Int → Int → (List Nat) → (List Int) → (List (List Int)) → (List T27) → Option ((Int × Int × (List Nat) × Int) ⊕ ((Int × Int × (List Nat) × Int) ⊕ ((Int × Int × (List Nat) × Int) ⊕ ((Int × Int × (List Nat) × Int × (List Int)) ⊕ ((Int × Int × (List Nat) × Int × (List Int)) ⊕ ((Int × Int × (List Nat) × Int × (List Int)) ⊕ ((Int × Int × (List Nat) × Int × (List (List Int))) ⊕ (Int × (List G53) × Int))))))))
  | 0 => fun _ _ _ _ _ _ _ => none
  | k + 1 => fun a0_0 a0_1 a0_2 a0_3 a0_4 a0_5 a0_6 => impl_geometry_b (impl_geometry k) k a0_0 a0_1 a0_2 a0_3 a0_4 a0_5 a0_6
def impl_geometry_r  (a0_0 : Int) (a0_1 : Int) (a0_2 : Int) (a0_3 : List Nat) (a0_4 : List Int) (a0_5 : List (List Int)) (a0_6 : List T27) (out : (Int × Int × (List Nat) × Int) ⊕ ((Int × Int × (List Nat) × Int) ⊕ ((Int × Int × (List Nat) × Int) ⊕ ((Int × Int × (List Nat) × Int × (List Int)) ⊕ ((Int × Int × (List Nat) × Int × (List Int)) ⊕ ((Int × Int × (List Nat) × Int × (List Int)) ⊕ ((Int × Int × (List Nat) × Int × (List (List Int))) ⊕ (Int × (List G53) × Int)))))))) (w : Addr × Gs) : SV := match out with
  | (.inl y) => (If 72 (Vl (.pointer (some w.1))))
  | (.inr (.inl y)) => (If 75 (Vl (.pointer (some w.1))))
  | (.inr (.inr (.inl y))) => (If 69 (Vl (.pointer (some w.1))))
  | (.inr (.inr (.inr (.inl y)))) => (If 67 (Vl (.pointer (some w.1))))
  | (.inr (.inr (.inr (.inr (.inl y))))) => (If 70 (Vl (.pointer (some w.1))))
  | (.inr (.inr (.inr (.inr (.inr (.inl y)))))) => (If 73 (Vl (.pointer (some w.1))))
  | (.inr (.inr (.inr (.inr (.inr (.inr (.inl y))))))) => (If 76 (Vl (.pointer (some w.1))))
  | (.inr (.inr (.inr (.inr (.inr (.inr (.inr y))))))) => (If 57 (Vl (.pointer (some w.1))))
def impl_geometry_h  (a0_0 : Int) (a0_1 : Int) (a0_2 : Int) (a0_3 : List Nat) (a0_4 : List Int) (a0_5 : List (List Int)) (a0_6 : List T27) (out : (Int × Int × (List Nat) × Int) ⊕ ((Int × Int × (List Nat) × Int) ⊕ ((Int × Int × (List Nat) × Int) ⊕ ((Int × Int × (List Nat) × Int × (List Int)) ⊕ ((Int × Int × (List Nat) × Int × (List Int)) ⊕ ((Int × Int × (List Nat) × Int × (List Int)) ⊕ ((Int × Int × (List Nat) × Int × (List (List Int))) ⊕ (Int × (List G53) × Int)))))))) (w : Addr × Gs) : List Res := match out with
  | (.inl y) => [⟨.pointer (some w.1), [(Vl (.int .i64 y.1)), (Vl (.int .i64 y.2.1)), (Sl Kf y.2.2.1), (Vl (.int .i64 y.2.2.2))], 135, none⟩]
  | (.inr (.inl y)) => [⟨.pointer (some w.1), [(Vl (.int .i64 y.1)), (Vl (.int .i64 y.2.1)), (Sl Kf y.2.2.1), (Vl (.int .i64 y.2.2.2))], 138, none⟩]
  | (.inr (.inr (.inl y))) => [⟨.pointer (some w.1), [(Vl (.int .i64 y.1)), (Vl (.int .i64 y.2.1)), (Sl Kf y.2.2.1), (Vl (.int .i64 y.2.2.2))], 128, none⟩]
  | (.inr (.inr (.inr (.inl y)))) => [⟨.pointer (some w.1), [(Vl (.int .i64 y.1)), (Vl (.int .i64 y.2.1)), (Sl Kf y.2.2.1), (Vl (.int .i64 y.2.2.2.1)), (Sl (Ki .i64) y.2.2.2.2)], 132, none⟩]
  | (.inr (.inr (.inr (.inr (.inl y))))) => [⟨.pointer (some w.1), [(Vl (.int .i64 y.1)), (Vl (.int .i64 y.2.1)), (Sl Kf y.2.2.1), (Vl (.int .i64 y.2.2.2.1)), (Sl (Ki .i64) y.2.2.2.2)], 136, none⟩]
  | (.inr (.inr (.inr (.inr (.inr (.inl y)))))) => [⟨.pointer (some w.1), [(Vl (.int .i64 y.1)), (Vl (.int .i64 y.2.1)), (Sl Kf y.2.2.1), (Vl (.int .i64 y.2.2.2.1)), (Sl (Ki .i64) y.2.2.2.2)], 139, none⟩]
  | (.inr (.inr (.inr (.inr (.inr (.inr (.inl y))))))) => [⟨.pointer (some w.1), [(Vl (.int .i64 y.1)), (Vl (.int .i64 y.2.1)), (Sl Kf y.2.2.1), (Vl (.int .i64 y.2.2.2.1)), (Sl (Kl (Ki .i64)) y.2.2.2.2)], 143, none⟩]
  | (.inr (.inr (.inr (.inr (.inr (.inr (.inr y))))))) => [⟨.pointer (some w.1), [(Vl (.int .i64 y.1)), (Vl (Vs w.2)), (Vl (.int .i64 y.2.2))], 114, none⟩, (Rw KG53 53 (Vs w.2) y.2.1)]

theorem impl_geometry_b_sim {recf : Int → Int → Int → (List Nat) → (List Int) → (List (List Int)) → (List T27) → Option ((Int × Int × (List Nat) × Int) ⊕ ((Int × Int × (List Nat) × Int) ⊕ ((Int × Int × (List Nat) × Int) ⊕ ((Int × Int × (List Nat) × Int × (List Int)) ⊕ ((Int × Int × (List Nat) × Int × (List Int)) ⊕ ((Int × Int × (List Nat) × Int × (List Int)) ⊕ ((Int × Int × (List Nat) × Int × (List (List Int))) ⊕ (Int × (List G53) × Int))))))))} (hrec : ∀  (a0_0 : Int) (a0_1 : Int) (a0_2 : Int) (a0_3 : List Nat) (a0_4 : List Int) (a0_5 : List (List Int)) (a0_6 : List T27) (out : (Int × Int × (List Nat) × Int) ⊕ ((Int × Int × (List Nat) × Int) ⊕ ((Int × Int × (List Nat) × Int) ⊕ ((Int × Int × (List Nat) × Int × (List Int)) ⊕ ((Int × Int × (List Nat) × Int × (List Int)) ⊕ ((Int × Int × (List Nat) × Int × (List Int)) ⊕ ((Int × Int × (List Nat) × Int × (List (List Int))) ⊕ (Int × (List G53) × Int)))))))), recf a0_0 a0_1 a0_2 a0_3 a0_4 a0_5 a0_6 = some out → Go.Sx.Fn Try.prog 30 [(Ag [(Vl (.int .i64 a0_0)), (Vl (.int .i64 a0_1)), (Vl (.int .i64 a0_2)), (Sl Kf a0_3), (Sl (Ki .i64) a0_4), (Sl (Kl (Ki .i64)) a0_5), (Sl KT27 a0_6)])] [] (fun w => impl_geometry_r a0_0 a0_1 a0_2 a0_3 a0_4 a0_5 a0_6 out w) (fun w => impl_geometry_h a0_0 a0_1 a0_2 a0_3 a0_4 a0_5 a0_6 out w)) {k : Nat}  (a0_0 : Int) (a0_1 : Int) (a0_2 : Int) (a0_3 : List Nat) (a0_4 : List Int) (a0_5 : List (List Int)) (a0_6 : List T27) {out : (Int × Int × (List Nat) × Int) ⊕ ((Int × Int × (List Nat) × Int) ⊕ ((Int × Int × (List Nat) × Int) ⊕ ((Int × Int × (List Nat) × Int × (List Int)) ⊕ ((Int × Int × (List Nat) × Int × (List Int)) ⊕ ((Int × Int × (List Nat) × Int × (List Int)) ⊕ ((Int × Int × (List Nat) × Int × (List (List Int))) ⊕ (Int × (List G53) × Int)))))))} (hp : impl_geometry_b recf k a0_0 a0_1 a0_2 a0_3 a0_4 a0_5 a0_6 = some out) : Go.Sx.Fn Try.prog 30 [(Ag [(Vl (.int .i64 a0_0)), (Vl (.int .i64 a0_1)), (Vl (.int .i64 a0_2)), (Sl Kf a0_3), (Sl (Ki .i64) a0_4), (Sl (Kl (Ki .i64)) a0_5), (Sl KT27 a0_6)])] [] (fun w => impl_geometry_r a0_0 a0_1 a0_2 a0_3 a0_4 a0_5 a0_6 out w) (fun w => impl_geometry_h a0_0 a0_1 a0_2 a0_3 a0_4 a0_5 a0_6 out w) := by
  unfold impl_geometry_b at hp
  refine fn_of Try.func30 rfl Try.ntmps30 rfl fun E hM => ?_
  refine cx_seq' fun K1 hK1 => ?_
  refine cx_region' ?_
  refine sx_ox' (ox_box' rfl (lv_ag _) rfl rfl) (wt_none' rfl) fun q1 => ?_
  refine sx_rd' (rd_assign' rfl) rfl rfl (wt_none' rfl) ?_
  refine sx_nil' ?_
  show TX E K1 _
  refine tx_k' hK1 ?_
  refine cx_seq' fun K2 hK2 => ?_
  refine cx_plan' [] [] [(0, 1), (1, 1), (2, 1), (3, 1), (4, 0), (5, 1), (6, 1)] mixed (by kernel_rfl) ?_
  refine px_rd' rfl (rd_field' (off := 1) rfl Try.underlying27 rfl info3 rfl) rfl rfl (wt_none' rfl) ?_
  refine px_rd' rfl (rd_load' (i := 0) (o := 1) rfl ⟨rfl, rfl, rfl, rfl⟩ rfl flat3) rfl rfl (wt_none' rfl) ?_
  refine px_rd' rfl (rd_field' (off := 3) rfl Try.underlying27 rfl info22 rfl) rfl rfl (wt_none' rfl) ?_
  refine px_rd' rfl (rd_load' (i := 0) (o := 3) rfl ⟨rfl, rfl, rfl, rfl⟩ rfl flat22) rfl rfl (wt_none' rfl) ?_
  obtain ⟨r12, hr12, hp⟩ := bind_some hp
  refine px_ox' rfl (ox_calln' (ent_fn' Try.func59 isn59 rfl rfl) (impl_floats_sim _ hr12 : Go.Sx.Fn Try.prog 59 [(Sl Kf a0_3)] [] (fun x : Unit => (Sl Kf r12)) (fun x => [])) (Hn := fun x : Unit => [⟨.pointer (some q1), [(Vl (.int .i64 a0_0)), (Vl (.int .i64 a0_1)), (Vl (.int .i64 a0_2)), (Sl Kf a0_3), (Sl (Ki .i64) a0_4), (Sl (Kl (Ki .i64)) a0_5), (Sl KT27 a0_6)], 27, none⟩]) (fun _ => rfl) rfl rfl) rfl bs_nil (wt_none' rfl) fun ⟨⟩ => ?_
  refine px_rd' rfl (rd_assign' rfl) rfl rfl (wt_none' rfl) ?_
  refine px_rd' rfl (rd_assign' rfl) rfl rfl (wt_none' rfl) ?_
  refine px_nil' ?_
  show TX E K2 _
  refine tx_k' hK2 ?_
  refine cx_seq' fun K3 hK3 => ?_
  refine cx_seq' fun K4 hK4 => ?_
  refine cx_region' ?_
  refine sx_rd' (rd_field0' rfl Try.underlying27 rfl info3 rfl) rfl rfl (wt_none' rfl) ?_
  refine sx_rd' (rd_load' (i := 0) (o := 0) rfl ⟨rfl, rfl, rfl, rfl⟩ rfl flat3) rfl rfl (wt_none' rfl) ?_
  refine sx_nil' ?_
  show TX E K4 _
  refine tx_k' hK4 ?_
  refine cx_block' ?_
  refine cx_seq' fun K5 hK5 => ?_
  refine cx_region' ?_
  refine sx_rd' (rd_bin' rfl rfl eg_int ru_eql) rfl rfl (wt_none' rfl) ?_
  refine sx_rd' (rd_assign' rfl) rfl rfl (wt_none' rfl) ?_
  refine sx_nil' ?_
  show TX E K5 _
  refine tx_k' hK5 ?_
  refine cx_cond' rfl (fun h1 => ?_) (fun h1 => ?_)
  · replace hp := (br_t h1).symm.trans hp
    refine cx_seq' fun K6 hK6 => ?_
    refine cx_plan' [] [(5, 1)] [(0, 1), (1, 1), (3, 1), (4, 1), (2, 0), (5, 0), (6, 1), (7, 1)] mixed (by kernel_rfl) ?_
    refine px_rd' rfl (rd_move' rfl) rfl rfl (wt_none' rfl) ?_
    refine px_rd' rfl (rd_move' rfl) rfl rfl (wt_none' rfl) ?_
    refine px_rd' rfl (rd_field' (off := 2) rfl Try.underlying27 rfl info3 rfl) rfl rfl (wt_none' rfl) ?_
    refine px_rd' rfl (rd_load' (i := 0) (o := 2) rfl ⟨rfl, rfl, rfl, rfl⟩ rfl flat3) rfl rfl (wt_none' rfl) ?_
    obtain ⟨r19, hr19, hp⟩ := bind_some hp
    refine px_ox' rfl (ox_calln' (ent_fn' Try.func60 isn60 rfl rfl) (gogeom_NewPointFlat_sim _ _ hr19 : Go.Sx.Fn Try.prog 60 [(Vl (.int .i64 a0_1)), (Sl Kf r12)] [] (fun x : Addr => (Vl (.pointer (some x)))) (fun x => [⟨.pointer (some x), [(Vl (.int .i64 r19.1)), (Vl (.int .i64 r19.2.1)), (Sl Kf r19.2.2.1), (Vl (.int .i64 r19.2.2.2))], 135, none⟩])) (Hn := fun x : Addr => [⟨.pointer (some x), [(Vl (.int .i64 r19.1)), (Vl (.int .i64 r19.2.1)), (Sl Kf r19.2.2.1), (Vl (.int .i64 r19.2.2.2))], 135, none⟩, ⟨.pointer (some q1), [(Vl (.int .i64 a0_0)), (Vl (.int .i64 a0_1)), (Vl (.int .i64 a0_2)), (Sl Kf a0_3), (Sl (Ki .i64) a0_4), (Sl (Kl (Ki .i64)) a0_5), (Sl KT27 a0_6)], 27, none⟩]) (fun _ => rfl) rfl rfl) rfl bs_nil (wt_none' rfl) fun q19 => ?_
    obtain ⟨r22, hr22, hp⟩ := bind_some hp
    refine px_oxb' (is := [0]) rfl (oxb_callg (ent_fn' Try.func61 isn61 rfl rfl) (gogeom_Point_SetSRID_sim _ _ _ _ _ hr22 : Go.Sx.Fn Try.prog 61 [(Vl (.pointer (some q19))), (Vl (.int .i64 a0_2))] [⟨.pointer (some q19), [(Vl (.int .i64 r19.1)), (Vl (.int .i64 r19.2.1)), (Sl Kf r19.2.2.1), (Vl (.int .i64 r19.2.2.2))], 135, none⟩] (fun x : Unit => (Vl (.pointer (some q19)))) (fun x => [⟨.pointer (some q19), [(Vl (.int .i64 r22.1)), (Vl (.int .i64 r22.2.1)), (Sl Kf r22.2.2.1), (Vl (.int .i64 r22.2.2.2))], 135, none⟩])) [0] [1] (by decide) (pick_cons rfl pick_nil) (pick_cons rfl pick_nil) (Hn := fun x : Unit => [⟨.pointer (some q19), [(Vl (.int .i64 r22.1)), (Vl (.int .i64 r22.2.1)), (Sl Kf r22.2.2.1), (Vl (.int .i64 r22.2.2.2))], 135, none⟩, ⟨.pointer (some q1), [(Vl (.int .i64 a0_0)), (Vl (.int .i64 a0_1)), (Vl (.int .i64 a0_2)), (Sl Kf a0_3), (Sl (Ki .i64) a0_4), (Sl (Kl (Ki .i64)) a0_5), (Sl KT27 a0_6)], 27, none⟩]) (fun _ => rfl) rfl rfl) (pick_cons rfl pick_nil) rfl bl_nil (wt_none' rfl) fun ⟨⟩ => ?_
    refine px_rd' rfl (rd_iface' rfl ⟨_, Try.underlying72, fun _ h => (nomatch h)⟩) rfl rfl (wt_none' rfl) ?_
    refine px_rd' rfl (rd_assign' rfl) rfl rfl (wt_none' rfl) ?_
    refine px_nil' ?_
    show TX E K6 _
    refine tx_k' hK6 ?_
    refine cx_retc' ?_
    replace hp := Option.some.inj hp
    subst hp
    refine tx_pick' (L' := [(2, (If 72 (Vl (.pointer (some q19)))))]) (H' := [⟨.pointer (some q19), [(Vl (.int .i64 r22.1)), (Vl (.int .i64 r22.2.1)), (Sl Kf r22.2.2.1), (Vl (.int .i64 r22.2.2.2))], 135, none⟩]) [0] (sub_cons rfl sub_nil) (by decide) (pick_cons rfl pick_nil) ?_
    exact tx_ret1' Try.results30 rfl (q19, (none, 0, 0)) (rv_tmp' rfl) (List.Sublist.refl _)
  · replace hp := (br_f h1).symm.trans hp
    refine cx_seq' fun K7 hK7 => ?_
    refine cx_region' ?_
    refine sx_rd' (rd_bin' rfl rfl eg_int ru_eql) rfl rfl (wt_none' rfl) ?_
    refine sx_rd' (rd_assign' rfl) rfl rfl (wt_none' rfl) ?_
    refine sx_nil' ?_
    show TX E K7 _
    refine tx_k' hK7 ?_
    refine cx_cond' rfl (fun h2 => ?_) (fun h2 => ?_)
    · replace hp := (br_t h2).symm.trans hp
      refine cx_seq' fun K8 hK8 => ?_
      refine cx_plan' [] [(5, 1)] [(0, 1), (1, 1), (3, 1), (4, 1), (2, 0), (5, 0), (6, 1), (7, 1)] mixed (by kernel_rfl) ?_
      refine px_rd' rfl (rd_move' rfl) rfl rfl (wt_none' rfl) ?_
      refine px_rd' rfl (rd_move' rfl) rfl rfl (wt_none' rfl) ?_
      refine px_rd' rfl (rd_field' (off := 2) rfl Try.underlying27 rfl info3 rfl) rfl rfl (wt_none' rfl) ?_
      refine px_rd' rfl (rd_load' (i := 0) (o := 2) rfl ⟨rfl, rfl, rfl, rfl⟩ rfl flat3) rfl rfl (wt_none' rfl) ?_
      obtain ⟨r28, hr28, hp⟩ := bind_some hp
      refine px_ox' rfl (ox_calln' (ent_fn' Try.func62 isn62 rfl rfl) (gogeom_NewLineStringFlat_sim _ _ hr28 : Go.Sx.Fn Try.prog 62 [(Vl (.int .i64 a0_1)), (Sl Kf r12)] [] (fun x : Addr => (Vl (.pointer (some x)))) (fun x => [⟨.pointer (some x), [(Vl (.int .i64 r28.1)), (Vl (.int .i64 r28.2.1)), (Sl Kf r28.2.2.1), (Vl (.int .i64 r28.2.2.2))], 138, none⟩])) (Hn := fun x : Addr => [⟨.pointer (some x), [(Vl (.int .i64 r28.1)), (Vl (.int .i64 r28.2.1)), (Sl Kf r28.2.2.1), (Vl (.int .i64 r28.2.2.2))], 138, none⟩, ⟨.pointer (some q1), [(Vl (.int .i64 a0_0)), (Vl (.int .i64 a0_1)), (Vl (.int .i64 a0_2)), (Sl Kf a0_3), (Sl (Ki .i64) a0_4), (Sl (Kl (Ki .i64)) a0_5), (Sl KT27 a0_6)], 27, none⟩]) (fun _ => rfl) rfl rfl) rfl bs_nil (wt_none' rfl) fun q28 => ?_
      obtain ⟨r31, hr31, hp⟩ := bind_some hp
      refine px_oxb' (is := [0]) rfl (oxb_callg (ent_fn' Try.func63 isn63 rfl rfl) (gogeom_LineString_SetSRID_sim _ _ _ _ _ hr31 : Go.Sx.Fn Try.prog 63 [(Vl (.pointer (some q28))), (Vl (.int .i64 a0_2))] [⟨.pointer (some q28), [(Vl (.int .i64 r28.1)), (Vl (.int .i64 r28.2.1)), (Sl Kf r28.2.2.1), (Vl (.int .i64 r28.2.2.2))], 138, none⟩] (fun x : Unit => (Vl (.pointer (some q28)))) (fun x => [⟨.pointer (some q28), [(Vl (.int .i64 r31.1)), (Vl (.int .i64 r31.2.1)), (Sl Kf r31.2.2.1), (Vl (.int .i64 r31.2.2.2))], 138, none⟩])) [0] [1] (by decide) (pick_cons rfl pick_nil) (pick_cons rfl pick_nil) (Hn := fun x : Unit => [⟨.pointer (some q28), [(Vl (.int .i64 r31.1)), (Vl (.int .i64 r31.2.1)), (Sl Kf r31.2.2.1), (Vl (.int .i64 r31.2.2.2))], 138, none⟩, ⟨.pointer (some q1), [(Vl (.int .i64 a0_0)), (Vl (.int .i64 a0_1)), (Vl (.int .i64 a0_2)), (Sl Kf a0_3), (Sl (Ki .i64) a0_4), (Sl (Kl (Ki .i64)) a0_5), (Sl KT27 a0_6)], 27, none⟩]) (fun _ => rfl) rfl rfl) (pick_cons rfl pick_nil) rfl bl_nil (wt_none' rfl) fun ⟨⟩ => ?_
      refine px_rd' rfl (rd_iface' rfl ⟨_, Try.underlying75, fun _ h => (nomatch h)⟩) rfl rfl (wt_none' rfl) ?_
      refine px_rd' rfl (rd_assign' rfl) rfl rfl (wt_none' rfl) ?_
      refine px_nil' ?_
      show TX E K8 _
      refine tx_k' hK8 ?_
      refine cx_retc' ?_
      replace hp := Option.some.inj hp
      subst hp
      refine tx_pick' (L' := [(2, (If 75 (Vl (.pointer (some q28)))))]) (H' := [⟨.pointer (some q28), [(Vl (.int .i64 r31.1)), (Vl (.int .i64 r31.2.1)), (Sl Kf r31.2.2.1), (Vl (.int .i64 r31.2.2.2))], 138, none⟩]) [0] (sub_cons rfl sub_nil) (by decide) (pick_cons rfl pick_nil) ?_
      exact tx_ret1' Try.results30 rfl (q28, (none, 0, 0)) (rv_tmp' rfl) (List.Sublist.refl _)
    · replace hp := (br_f h2).symm.trans hp
      refine cx_seq' fun K9 hK9 => ?_
      refine cx_region' ?_
      refine sx_rd' (rd_bin' rfl rfl eg_int ru_eql) rfl rfl (wt_none' rfl) ?_
      refine sx_rd' (rd_assign' rfl) rfl rfl (wt_none' rfl) ?_
      refine sx_nil' ?_
      show TX E K9 _
      refine tx_k' hK9 ?_
      refine cx_cond' rfl (fun h3 => ?_) (fun h3 => ?_)
      · replace hp := (br_t h3).symm.trans hp
        refine cx_seq' fun K10 hK10 => ?_
        refine cx_plan' [] [(5, 1)] [(0, 1), (1, 1), (3, 1), (4, 1), (2, 0), (5, 0), (6, 1), (7, 1)] mixed (by kernel_rfl) ?_
        refine px_rd' rfl (rd_move' rfl) rfl rfl (wt_none' rfl) ?_
        refine px_rd' rfl (rd_move' rfl) rfl rfl (wt_none' rfl) ?_
        refine px_rd' rfl (rd_field' (off := 2) rfl Try.underlying27 rfl info3 rfl) rfl rfl (wt_none' rfl) ?_
        refine px_rd' rfl (rd_load' (i := 0) (o := 2) rfl ⟨rfl, rfl, rfl, rfl⟩ rfl flat3) rfl rfl (wt_none' rfl) ?_
        obtain ⟨r37, hr37, hp⟩ := bind_some hp
        refine px_ox' rfl (ox_calln' (ent_fn' Try.func64 isn64 rfl rfl) (gogeom_NewLinearRingFlat_sim _ _ hr37 : Go.Sx.Fn Try.prog 64 [(Vl (.int .i64 a0_1)), (Sl Kf r12)] [] (fun x : Addr => (Vl (.pointer (some x)))) (fun x => [⟨.pointer (some x), [(Vl (.int .i64 r37.1)), (Vl (.int .i64 r37.2.1)), (Sl Kf r37.2.2.1), (Vl (.int .i64 r37.2.2.2))], 128, none⟩])) (Hn := fun x : Addr => [⟨.pointer (some x), [(Vl (.int .i64 r37.1)), (Vl (.int .i64 r37.2.1)), (Sl Kf r37.2.2.1), (Vl (.int .i64 r37.2.2.2))], 128, none⟩, ⟨.pointer (some q1), [(Vl (.int .i64 a0_0)), (Vl (.int .i64 a0_1)), (Vl (.int .i64 a0_2)), (Sl Kf a0_3), (Sl (Ki .i64) a0_4), (Sl (Kl (Ki .i64)) a0_5), (Sl KT27 a0_6)], 27, none⟩]) (fun _ => rfl) rfl rfl) rfl bs_nil (wt_none' rfl) fun q37 => ?_
        obtain ⟨r40, hr40, hp⟩ := bind_some hp
        refine px_oxb' (is := [0]) rfl (oxb_callg (ent_fn' Try.func65 isn65 rfl rfl) (gogeom_LinearRing_SetSRID_sim _ _ _ _ _ hr40 : Go.Sx.Fn Try.prog 65 [(Vl (.pointer (some q37))), (Vl (.int .i64 a0_2))] [⟨.pointer (some q37), [(Vl (.int .i64 r37.1)), (Vl (.int .i64 r37.2.1)), (Sl Kf r37.2.2.1), (Vl (.int .i64 r37.2.2.2))], 128, none⟩] (fun x : Unit => (Vl (.pointer (some q37)))) (fun x => [⟨.pointer (some q37), [(Vl (.int .i64 r40.1)), (Vl (.int .i64 r40.2.1)), (Sl Kf r40.2.2.1), (Vl (.int .i64 r40.2.2.2))], 128, none⟩])) [0] [1] (by decide) (pick_cons rfl pick_nil) (pick_cons rfl pick_nil) (Hn := fun x : Unit => [⟨.pointer (some q37), [(Vl (.int .i64 r40.1)), (Vl (.int .i64 r40.2.1)), (Sl Kf r40.2.2.1), (Vl (.int .i64 r40.2.2.2))], 128, none⟩, ⟨.pointer (some q1), [(Vl (.int .i64 a0_0)), (Vl (.int .i64 a0_1)), (Vl (.int .i64 a0_2)), (Sl Kf a0_3), (Sl (Ki .i64) a0_4), (Sl (Kl (Ki .i64)) a0_5), (Sl KT27 a0_6)], 27, none⟩]) (fun _ => rfl) rfl rfl) (pick_cons rfl pick_nil) rfl bl_nil (wt_none' rfl) fun ⟨⟩ => ?_
        refine px_rd' rfl (rd_iface' rfl ⟨_, Try.underlying69, fun _ h => (nomatch h)⟩) rfl rfl (wt_none' rfl) ?_
        refine px_rd' rfl (rd_assign' rfl) rfl rfl (wt_none' rfl) ?_
        refine px_nil' ?_
        show TX E K10 _
        refine tx_k' hK10 ?_
        refine cx_retc' ?_
        replace hp := Option.some.inj hp
        subst hp
        refine tx_pick' (L' := [(2, (If 69 (Vl (.pointer (some q37)))))]) (H' := [⟨.pointer (some q37), [(Vl (.int .i64 r40.1)), (Vl (.int .i64 r40.2.1)), (Sl Kf r40.2.2.1), (Vl (.int .i64 r40.2.2.2))], 128, none⟩]) [0] (sub_cons rfl sub_nil) (by decide) (pick_cons rfl pick_nil) ?_
        exact tx_ret1' Try.results30 rfl (q37, (none, 0, 0)) (rv_tmp' rfl) (List.Sublist.refl _)
      · replace hp := (br_f h3).symm.trans hp
        refine cx_seq' fun K11 hK11 => ?_
        refine cx_region' ?_
        refine sx_rd' (rd_bin' rfl rfl eg_int ru_eql) rfl rfl (wt_none' rfl) ?_
        refine sx_rd' (rd_assign' rfl) rfl rfl (wt_none' rfl) ?_
        refine sx_nil' ?_
        show TX E K11 _
        refine tx_k' hK11 ?_
        refine cx_cond' rfl (fun h4 => ?_) (fun h4 => ?_)
        · replace hp := (br_t h4).symm.trans hp
          refine cx_seq' fun K12 hK12 => ?_
          refine cx_plan' [] [(8, 1)] [(0, 1), (1, 1), (2, 1), (3, 1), (6, 1), (7, 1), (4, 0), (5, 0), (8, 0), (9, 1), (10, 1)] mixed (by kernel_rfl) ?_
          refine px_rd' rfl (rd_move' rfl) rfl rfl (wt_none' rfl) ?_
          refine px_rd' rfl (rd_move' rfl) rfl rfl (wt_none' rfl) ?_
          refine px_rd' rfl (rd_field' (off := 4) rfl Try.underlying27 rfl info23 rfl) rfl rfl (wt_none' rfl) ?_
          refine px_rd' rfl (rd_load' (i := 0) (o := 4) rfl ⟨rfl, rfl, rfl, rfl⟩ rfl flat23) rfl rfl (wt_none' rfl) ?_
          refine px_rd' rfl (rd_field' (off := 2) rfl Try.underlying27 rfl info3 rfl) rfl rfl (wt_none' rfl) ?_
          refine px_rd' rfl (rd_load' (i := 0) (o := 2) rfl ⟨rfl, rfl, rfl, rfl⟩ rfl flat3) rfl rfl (wt_none' rfl) ?_
          obtain ⟨r48, hr48, hp⟩ := bind_some hp
          rcases r48 with y4 | y4
          · dsimp only at hp
            refine px_ox' rfl (ox_calln' (ent_fn' Try.func58 isn58 rfl rfl) (impl_ints_sim _ hr48 : Go.Sx.Fn Try.prog 58 [(Sl (Ki .i64) a0_4)] [] (fun x : Unit => (Vl (.slice none 0 0))) (fun x => [])) (Hn := fun x : Unit => [⟨.pointer (some q1), [(Vl (.int .i64 a0_0)), (Vl (.int .i64 a0_1)), (Vl (.int .i64 a0_2)), (Sl Kf a0_3), (Sl (Ki .i64) a0_4), (Sl (Kl (Ki .i64)) a0_5), (Sl KT27 a0_6)], 27, none⟩]) (fun _ => rfl) rfl rfl) rfl bs_nil (wt_none' rfl) fun ⟨⟩ => ?_
            obtain ⟨r49, hr49, hp⟩ := bind_some hp
            refine px_ox' rfl (ox_calln' (ent_fn' Try.func66 isn66 rfl rfl) (gogeom_NewPolygonFlat_sim _ _ hr49 : Go.Sx.Fn Try.prog 66 [(Vl (.int .i64 a0_1)), (Sl Kf r12), (Vl (.slice none 0 0))] [] (fun x : Addr => (Vl (.pointer (some x)))) (fun x => [⟨.pointer (some x), [(Vl (.int .i64 r49.1)), (Vl (.int .i64 r49.2.1)), (Sl Kf r49.2.2.1), (Vl (.int .i64 r49.2.2.2)), (Vl (.slice none 0 0))], 132, none⟩])) (Hn := fun x : Addr => [⟨.pointer (some x), [(Vl (.int .i64 r49.1)), (Vl (.int .i64 r49.2.1)), (Sl Kf r49.2.2.1), (Vl (.int .i64 r49.2.2.2)), (Vl (.slice none 0 0))], 132, none⟩, ⟨.pointer (some q1), [(Vl (.int .i64 a0_0)), (Vl (.int .i64 a0_1)), (Vl (.int .i64 a0_2)), (Sl Kf a0_3), (Sl (Ki .i64) a0_4), (Sl (Kl (Ki .i64)) a0_5), (Sl KT27 a0_6)], 27, none⟩]) (fun _ => rfl) rfl rfl) rfl bs_nil (wt_none' rfl) fun q49 => ?_
            obtain ⟨r52, hr52, hp⟩ := bind_some hp
            refine px_oxb' (is := [0]) rfl (oxb_callg (ent_fn' Try.func67 isn67 rfl rfl) (gogeom_Polygon_SetSRID_sim _ _ _ _ _ hr52 : Go.Sx.Fn Try.prog 67 [(Vl (.pointer (some q49))), (Vl (.int .i64 a0_2))] [⟨.pointer (some q49), [(Vl (.int .i64 r49.1)), (Vl (.int .i64 r49.2.1)), (Sl Kf r49.2.2.1), (Vl (.int .i64 r49.2.2.2)), (Vl (.slice none 0 0))], 132, none⟩] (fun x : Unit => (Vl (.pointer (some q49)))) (fun x => [⟨.pointer (some q49), [(Vl (.int .i64 r52.1)), (Vl (.int .i64 r52.2.1)), (Sl Kf r52.2.2.1), (Vl (.int .i64 r52.2.2.2)), (Vl (.slice none 0 0))], 132, none⟩])) [0] [1] (by decide) (pick_cons rfl pick_nil) (pick_cons rfl pick_nil) (Hn := fun x : Unit => [⟨.pointer (some q49), [(Vl (.int .i64 r52.1)), (Vl (.int .i64 r52.2.1)), (Sl Kf r52.2.2.1), (Vl (.int .i64 r52.2.2.2)), (Vl (.slice none 0 0))], 132, none⟩, ⟨.pointer (some q1), [(Vl (.int .i64 a0_0)), (Vl (.int .i64 a0_1)), (Vl (.int .i64 a0_2)), (Sl Kf a0_3), (Sl (Ki .i64) a0_4), (Sl (Kl (Ki .i64)) a0_5), (Sl KT27 a0_6)], 27, none⟩]) (fun _ => rfl) rfl rfl) (pick_cons rfl pick_nil) rfl bl_nil (wt_none' rfl) fun ⟨⟩ => ?_
            refine px_rd' rfl (rd_iface' rfl ⟨_, Try.underlying67, fun _ h => (nomatch h)⟩) rfl rfl (wt_none' rfl) ?_
            refine px_rd' rfl (rd_assign' rfl) rfl rfl (wt_none' rfl) ?_
            refine px_nil' ?_
            show TX E K12 _
            refine tx_k' hK12 ?_
            refine cx_retc' ?_
            replace hp := Option.some.inj hp
            subst hp
            refine tx_cell' 0 4 (y := (Sl (Ki .i64) [])) rfl rfl imp_nil (H' := [⟨.pointer (some q49), [(Vl (.int .i64 r52.1)), (Vl (.int .i64 r52.2.1)), (Sl Kf r52.2.2.1), (Vl (.int .i64 r52.2.2.2)), (Sl (Ki .i64) [])], 132, none⟩, ⟨.pointer (some q1), [(Vl (.int .i64 a0_0)), (Vl (.int .i64 a0_1)), (Vl (.int .i64 a0_2)), (Sl Kf a0_3), (Sl (Ki .i64) a0_4), (Sl (Kl (Ki .i64)) a0_5), (Sl KT27 a0_6)], 27, none⟩]) rfl ?_
            refine tx_pick' (L' := [(2, (If 67 (Vl (.pointer (some q49)))))]) (H' := [⟨.pointer (some q49), [(Vl (.int .i64 r52.1)), (Vl (.int .i64 r52.2.1)), (Sl Kf r52.2.2.1), (Vl (.int .i64 r52.2.2.2)), (Sl (Ki .i64) [])], 132, none⟩]) [0] (sub_cons rfl sub_nil) (by decide) (pick_cons rfl pick_nil) ?_
            exact tx_ret1' Try.results30 rfl (q49, (none, 0, 0)) (rv_tmp' rfl) (List.Sublist.refl _)
          · dsimp only at hp
            refine px_ox' rfl (ox_calln' (ent_fn' Try.func58 isn58 rfl rfl) (impl_ints_sim _ hr48 : Go.Sx.Fn Try.prog 58 [(Sl (Ki .i64) a0_4)] [] (fun x : Unit => (Sl (Ki .i64) y4)) (fun x => [])) (Hn := fun x : Unit => [⟨.pointer (some q1), [(Vl (.int .i64 a0_0)), (Vl (.int .i64 a0_1)), (Vl (.int .i64 a0_2)), (Sl Kf a0_3), (Sl (Ki .i64) a0_4), (Sl (Kl (Ki .i64)) a0_5), (Sl KT27 a0_6)], 27, none⟩]) (fun _ => rfl) rfl rfl) rfl bs_nil (wt_none' rfl) fun ⟨⟩ => ?_
            obtain ⟨r49, hr49, hp⟩ := bind_some hp
            refine px_ox' rfl (ox_calln' (ent_fn' Try.func66 isn66 rfl rfl) (gogeom_NewPolygonFlat_v2_sim _ _ _ hr49 : Go.Sx.Fn Try.prog 66 [(Vl (.int .i64 a0_1)), (Sl Kf r12), (Sl (Ki .i64) y4)] [] (fun x : Addr => (Vl (.pointer (some x)))) (fun x => [⟨.pointer (some x), [(Vl (.int .i64 r49.1)), (Vl (.int .i64 r49.2.1)), (Sl Kf r49.2.2.1), (Vl (.int .i64 r49.2.2.2.1)), (Sl (Ki .i64) r49.2.2.2.2)], 132, none⟩])) (Hn := fun x : Addr => [⟨.pointer (some x), [(Vl (.int .i64 r49.1)), (Vl (.int .i64 r49.2.1)), (Sl Kf r49.2.2.1), (Vl (.int .i64 r49.2.2.2.1)), (Sl (Ki .i64) r49.2.2.2.2)], 132, none⟩, ⟨.pointer (some q1), [(Vl (.int .i64 a0_0)), (Vl (.int .i64 a0_1)), (Vl (.int .i64 a0_2)), (Sl Kf a0_3), (Sl (Ki .i64) a0_4), (Sl (Kl (Ki .i64)) a0_5), (Sl KT27 a0_6)], 27, none⟩]) (fun _ => rfl) rfl rfl) rfl bs_nil (wt_none' rfl) fun q49 => ?_
            obtain ⟨r52, hr52, hp⟩ := bind_some hp
            refine px_oxb' (is := [0]) rfl (oxb_callg (ent_fn' Try.func67 isn67 rfl rfl) (gogeom_Polygon_SetSRID_v2_sim _ _ _ _ _ _ hr52 : Go.Sx.Fn Try.prog 67 [(Vl (.pointer (some q49))), (Vl (.int .i64 a0_2))] [⟨.pointer (some q49), [(Vl (.int .i64 r49.1)), (Vl (.int .i64 r49.2.1)), (Sl Kf r49.2.2.1), (Vl (.int .i64 r49.2.2.2.1)), (Sl (Ki .i64) r49.2.2.2.2)], 132, none⟩] (fun x : Unit => (Vl (.pointer (some q49)))) (fun x => [⟨.pointer (some q49), [(Vl (.int .i64 r52.1)), (Vl (.int .i64 r52.2.1)), (Sl Kf r52.2.2.1), (Vl (.int .i64 r52.2.2.2.1)), (Sl (Ki .i64) r52.2.2.2.2)], 132, none⟩])) [0] [1] (by decide) (pick_cons rfl pick_nil) (pick_cons rfl pick_nil) (Hn := fun x : Unit => [⟨.pointer (some q49), [(Vl (.int .i64 r52.1)), (Vl (.int .i64 r52.2.1)), (Sl Kf r52.2.2.1), (Vl (.int .i64 r52.2.2.2.1)), (Sl (Ki .i64) r52.2.2.2.2)], 132, none⟩, ⟨.pointer (some q1), [(Vl (.int .i64 a0_0)), (Vl (.int .i64 a0_1)), (Vl (.int .i64 a0_2)), (Sl Kf a0_3), (Sl (Ki .i64) a0_4), (Sl (Kl (Ki .i64)) a0_5), (Sl KT27 a0_6)], 27, none⟩]) (fun _ => rfl) rfl rfl) (pick_cons rfl pick_nil) rfl bl_nil (wt_none' rfl) fun ⟨⟩ => ?_
            refine px_rd' rfl (rd_iface' rfl ⟨_, Try.underlying67, fun _ h => (nomatch h)⟩) rfl rfl (wt_none' rfl) ?_
            refine px_rd' rfl (rd_assign' rfl) rfl rfl (wt_none' rfl) ?_
            refine px_nil' ?_
            show TX E K12 _
            refine tx_k' hK12 ?_
            refine cx_retc' ?_
            replace hp := Option.some.inj hp
            subst hp
            refine tx_pick' (L' := [(2, (If 67 (Vl (.pointer (some q49)))))]) (H' := [⟨.pointer (some q49), [(Vl (.int .i64 r52.1)), (Vl (.int .i64 r52.2.1)), (Sl Kf r52.2.2.1), (Vl (.int .i64 r52.2.2.2.1)), (Sl (Ki .i64) r52.2.2.2.2)], 132, none⟩]) [0] (sub_cons rfl sub_nil) (by decide) (pick_cons rfl pick_nil) ?_
            exact tx_ret1' Try.results30 rfl (q49, (none, 0, 0)) (rv_tmp' rfl) (List.Sublist.refl _)
        · replace hp := (br_f h4).symm.trans hp
          refine cx_seq' fun K13 hK13 => ?_
          refine cx_region' ?_
          refine sx_rd' (rd_bin' rfl rfl eg_int ru_eql) rfl rfl (wt_none' rfl) ?_
          refine sx_rd' (rd_assign' rfl) rfl rfl (wt_none' rfl) ?_
          refine sx_nil' ?_
          show TX E K13 _
          refine tx_k' hK13 ?_
          refine cx_cond' rfl (fun h5 => ?_) (fun h5 => ?_)
          · replace hp := (br_t h5).symm.trans hp
            refine cx_seq' fun K14 hK14 => ?_
            refine cx_plan' [q1.block] [(7, 1), (10, 1)] [(0, 1), (1, 1), (2, 1), (3, 1), (8, 2), (9, 2), (4, 0), (5, 0), (6, 0), (7, 0), (10, 0), (11, 1), (12, 1)] mixed (by kernel_rfl) ?_
            refine px_rd' rfl (rd_move' rfl) rfl rfl (wt_none' rfl) ?_
            refine px_rd' rfl (rd_move' rfl) rfl rfl (wt_none' rfl) ?_
            refine px_rd' rfl (rd_field' (off := 4) rfl Try.underlying27 rfl info23 rfl) rfl rfl (wt_none' rfl) ?_
            refine px_rd' rfl (rd_load' (i := 0) (o := 4) rfl ⟨rfl, rfl, rfl, rfl⟩ rfl flat23) rfl rfl (wt_none' rfl) ?_
            refine px_rb' rfl (rb_field' (off := 2) rfl Try.underlying27 rfl info3 rfl) rfl rfl (wt_none' rfl) ?_
            refine px_rb' rfl (rb_load' (i := 0) (o := 2) rfl ⟨rfl, rfl, rfl, rfl⟩ rfl flat3 (by simp)) rfl rfl (wt_none' rfl) ?_
            obtain ⟨r60, hr60, hp⟩ := bind_some hp
            rcases r60 with y6 | y6
            · dsimp only at hp
              refine px_ox' rfl (ox_calln' (ent_fn' Try.func58 isn58 rfl rfl) (impl_ints_sim _ hr60 : Go.Sx.Fn Try.prog 58 [(Sl (Ki .i64) a0_4)] [] (fun x : Unit => (Vl (.slice none 0 0))) (fun x => [])) (Hn := fun x : Unit => [⟨.pointer (some q1), [(Vl (.int .i64 a0_0)), (Vl (.int .i64 a0_1)), (Vl (.int .i64 a0_2)), (Sl Kf a0_3), (Sl (Ki .i64) a0_4), (Sl (Kl (Ki .i64)) a0_5), (Sl KT27 a0_6)], 27, none⟩]) (fun _ => rfl) rfl rfl) rfl (bs_cons (m := 0) rfl rfl rfl bs_nil) (wt_none' rfl) fun ⟨⟩ => ?_
              obtain ⟨r61, hr61, hp⟩ := bind_some hp
              refine px_ox' rfl (ox_calln' (ent_fn' Try.func69 isn69 rfl rfl) (gogeom_NewMultiPointFlatOptionWithEnds_sim hr61 : Go.Sx.Fn Try.prog 69 [(Vl (.slice none 0 0))] [] (fun x : Addr => (Vl (.func (.func 90) #[] ⟨[.pointer (some x)]⟩))) (fun x => [⟨.pointer (some x), [(Vl (.slice none 0 0))], 23, none⟩])) (Hn := fun x : Addr => [⟨.pointer (some x), [(Vl (.slice none 0 0))], 23, none⟩, ⟨.pointer (some q1), [(Vl (.int .i64 a0_0)), (Vl (.int .i64 a0_1)), (Vl (.int .i64 a0_2)), (Sl Kf a0_3), (Sl (Ki .i64) a0_4), (Sl (Kl (Ki .i64)) a0_5), (Sl KT27 a0_6)], 27, none⟩]) (fun _ => rfl) rfl rfl) rfl (bs_cons (m := 0) rfl rfl rfl bs_nil) (wt_none' rfl) fun q61 => ?_
              refine px_ox' rfl (ox_srow' (es := 1) (r := [(Vl (.func (.func 90) #[] ⟨[.pointer (some q61)]⟩))]) (qs := [(0, [(Vl (.func (.func 90) #[] ⟨[.pointer (some q61)]⟩))])]) ⟨rfl, ⟨_, rfl, (lv_vl rfl rfl)⟩, trivial⟩ Try.underlying153 info101 rfl rfl rfl rfl rfl rfl rfl rfl rfl) rfl (bs_cons (m := 1) rfl rfl rfl bs_nil) (wt_none' rfl) fun q62 => ?_
              obtain ⟨r63, hr63, hp⟩ := bind_some hp
              refine px_oxb' (is := [0, 1]) rfl (oxb_callg (ent_fn' Try.func68 isn68 rfl rfl) (gogeom_NewMultiPointFlat_sim _ _ hr63 : Go.Sx.Fn Try.prog 68 [(Vl (.int .i64 a0_1)), (Sl Kf r12), (Vl (.slice (some q62) 1 1))] [⟨.slice (some q62) 1 1, [(Vl (.func (.func 90) #[] ⟨[.pointer (some q61)]⟩))], 101, some 1⟩, ⟨.pointer (some q61), [(Vl (.slice none 0 0))], 23, none⟩] (fun x : Addr × Gs => (Vl (.pointer (some x.1)))) (fun x => [⟨.pointer (some q61), [(Vl (.slice none 0 0))], 23, none⟩, ⟨.pointer (some x.1), [(Vl (.int .i64 r63.1)), (Vl (.int .i64 r63.2.1)), (Sl Kf r63.2.2.1), (Vl (.int .i64 r63.2.2.2.1)), (Vl (Vs x.2))], 136, none⟩, (Rw (Ki .i64) 3 (Vs x.2) r63.2.2.2.2)])) [0, 1] [2] (by decide) (pick_cons rfl (pick_cons rfl pick_nil)) (pick_cons rfl pick_nil) (Hn := fun x : Addr × Gs => [⟨.pointer (some q61), [(Vl (.slice none 0 0))], 23, none⟩, ⟨.pointer (some x.1), [(Vl (.int .i64 r63.1)), (Vl (.int .i64 r63.2.1)), (Sl Kf r63.2.2.1), (Vl (.int .i64 r63.2.2.2.1)), (Vl (Vs x.2))], 136, none⟩, (Rw (Ki .i64) 3 (Vs x.2) r63.2.2.2.2), ⟨.pointer (some q1), [(Vl (.int .i64 a0_0)), (Vl (.int .i64 a0_1)), (Vl (.int .i64 a0_2)), (Sl Kf a0_3), (Sl (Ki .i64) a0_4), (Sl (Kl (Ki .i64)) a0_5), (Sl KT27 a0_6)], 27, none⟩]) (fun _ => rfl) rfl rfl) (pick_cons rfl (pick_cons rfl pick_nil)) rfl (bl_cons (m := 2) (by decide) rfl rfl bl_nil) (wt_none' rfl) fun ⟨q63, g63⟩ => ?_
              obtain ⟨r66, hr66, hp⟩ := bind_some hp
              refine px_oxb' (is := [1, 2]) rfl (oxb_callg (ent_fn' Try.func70 isn70 rfl rfl) (gogeom_MultiPoint_SetSRID_sim _ _ _ _ _ _ hr66 : Go.Sx.Fn Try.prog 70 [(Vl (.pointer (some q63))), (Vl (.int .i64 a0_2))] [⟨.pointer (some q63), [(Vl (.int .i64 r63.1)), (Vl (.int .i64 r63.2.1)), (Sl Kf r63.2.2.1), (Vl (.int .i64 r63.2.2.2.1)), (Vl (Vs g63))], 136, none⟩, (Rw (Ki .i64) 3 (Vs g63) r63.2.2.2.2)] (fun x : Unit => (Vl (.pointer (some q63)))) (fun x => [⟨.pointer (some q63), [(Vl (.int .i64 r66.1)), (Vl (.int .i64 r66.2.1)), (Sl Kf r66.2.2.1), (Vl (.int .i64 r66.2.2.2.1)), (Vl (Vs g63))], 136, none⟩, (Rw (Ki .i64) 3 (Vs g63) r66.2.2.2.2)])) [1, 2] [0, 3] (by decide) (pick_cons rfl (pick_cons rfl pick_nil)) (pick_cons rfl (pick_cons rfl pick_nil)) (Hn := fun x : Unit => [⟨.pointer (some q63), [(Vl (.int .i64 r66.1)), (Vl (.int .i64 r66.2.1)), (Sl Kf r66.2.2.1), (Vl (.int .i64 r66.2.2.2.1)), (Vl (Vs g63))], 136, none⟩, (Rw (Ki .i64) 3 (Vs g63) r66.2.2.2.2), ⟨.pointer (some q61), [(Vl (.slice none 0 0))], 23, none⟩, ⟨.pointer (some q1), [(Vl (.int .i64 a0_0)), (Vl (.int .i64 a0_1)), (Vl (.int .i64 a0_2)), (Sl Kf a0_3), (Sl (Ki .i64) a0_4), (Sl (Kl (Ki .i64)) a0_5), (Sl KT27 a0_6)], 27, none⟩]) (fun _ => rfl) rfl rfl) (pick_cons rfl (pick_cons rfl pick_nil)) rfl (bl_cons (m := 3) (by decide) rfl rfl bl_nil) (wt_none' rfl) fun ⟨⟩ => ?_
              refine px_rd' rfl (rd_iface' rfl ⟨_, Try.underlying70, fun _ h => (nomatch h)⟩) rfl rfl (wt_none' rfl) ?_
              refine px_rd' rfl (rd_assign' rfl) rfl rfl (wt_none' rfl) ?_
              refine px_nil' ?_
              show TX E K14 _
              refine tx_k' hK14 ?_
              refine cx_retc' ?_
              refine tx_fz' (frz_row 1 [] (K := (Ki .i64)) (xs := r66.2.2.2.2) (by decide) rfl trivial (H' := [⟨.pointer (some q63), [(Vl (.int .i64 r66.1)), (Vl (.int .i64 r66.2.1)), (Sl Kf r66.2.2.1), (Vl (.int .i64 r66.2.2.2.1)), (Sl (Ki .i64) r66.2.2.2.2)], 136, none⟩, ⟨.pointer (some q61), [(Vl (.slice none 0 0))], 23, none⟩, ⟨.pointer (some q1), [(Vl (.int .i64 a0_0)), (Vl (.int .i64 a0_1)), (Vl (.int .i64 a0_2)), (Sl Kf a0_3), (Sl (Ki .i64) a0_4), (Sl (Kl (Ki .i64)) a0_5), (Sl KT27 a0_6)], 27, none⟩]) (frzH_cons rfl rfl rfl (frzL_cons frz_same (frzL_cons frz_same (frzL_cons frz_same (frzL_cons frz_same (frzL_cons frz_it frzL_refl))))) (frzH_cons rfl rfl rfl frzL_refl (frzH_cons rfl rfl rfl frzL_refl frzH_refl)))) ?_
              replace hp := Option.some.inj hp
              subst hp
              refine tx_pick' (L' := [(2, (If 70 (Vl (.pointer (some q63)))))]) (H' := [⟨.pointer (some q63), [(Vl (.int .i64 r66.1)), (Vl (.int .i64 r66.2.1)), (Sl Kf r66.2.2.1), (Vl (.int .i64 r66.2.2.2.1)), (Sl (Ki .i64) r66.2.2.2.2)], 136, none⟩]) [0] (sub_cons rfl sub_nil) (by decide) (pick_cons rfl pick_nil) ?_
              exact tx_ret1' Try.results30 rfl (q63, (none, 0, 0)) (rv_tmp' rfl) (List.Sublist.refl _)
            · dsimp only at hp
              refine px_ox' rfl (ox_calln' (ent_fn' Try.func58 isn58 rfl rfl) (impl_ints_sim _ hr60 : Go.Sx.Fn Try.prog 58 [(Sl (Ki .i64) a0_4)] [] (fun x : Unit => (Sl (Ki .i64) y6)) (fun x => [])) (Hn := fun x : Unit => [⟨.pointer (some q1), [(Vl (.int .i64 a0_0)), (Vl (.int .i64 a0_1)), (Vl (.int .i64 a0_2)), (Sl Kf a0_3), (Sl (Ki .i64) a0_4), (Sl (Kl (Ki .i64)) a0_5), (Sl KT27 a0_6)], 27, none⟩]) (fun _ => rfl) rfl rfl) rfl (bs_cons (m := 0) rfl rfl rfl bs_nil) (wt_none' rfl) fun ⟨⟩ => ?_
              obtain ⟨r61, hr61, hp⟩ := bind_some hp
              refine px_ox' rfl (ox_calln' (ent_fn' Try.func69 isn69 rfl rfl) (gogeom_NewMultiPointFlatOptionWithEnds_v2_sim _ hr61 : Go.Sx.Fn Try.prog 69 [(Sl (Ki .i64) y6)] [] (fun x : Addr => (Vl (.func (.func 90) #[] ⟨[.pointer (some x)]⟩))) (fun x => [⟨.pointer (some x), [(Sl (Ki .i64) r61)], 23, none⟩])) (Hn := fun x : Addr => [⟨.pointer (some x), [(Sl (Ki .i64) r61)], 23, none⟩, ⟨.pointer (some q1), [(Vl (.int .i64 a0_0)), (Vl (.int .i64 a0_1)), (Vl (.int .i64 a0_2)), (Sl Kf a0_3), (Sl (Ki .i64) a0_4), (Sl (Kl (Ki .i64)) a0_5), (Sl KT27 a0_6)], 27, none⟩]) (fun _ => rfl) rfl rfl) rfl (bs_cons (m := 0) rfl rfl rfl bs_nil) (wt_none' rfl) fun q61 => ?_
              refine px_ox' rfl (ox_srow' (es := 1) (r := [(Vl (.func (.func 90) #[] ⟨[.pointer (some q61)]⟩))]) (qs := [(0, [(Vl (.func (.func 90) #[] ⟨[.pointer (some q61)]⟩))])]) ⟨rfl, ⟨_, rfl, (lv_vl rfl rfl)⟩, trivial⟩ Try.underlying153 info101 rfl rfl rfl rfl rfl rfl rfl rfl rfl) rfl (bs_cons (m := 1) rfl rfl rfl bs_nil) (wt_none' rfl) fun q62 => ?_
              obtain ⟨r63, hr63, hp⟩ := bind_some hp
              refine px_oxb' (is := [0, 1]) rfl (oxb_callg (ent_fn' Try.func68 isn68 rfl rfl) (gogeom_NewMultiPointFlat_v2_sim _ _ _ hr63 : Go.Sx.Fn Try.prog 68 [(Vl (.int .i64 a0_1)), (Sl Kf r12), (Vl (.slice (some q62) 1 1))] [⟨.slice (some q62) 1 1, [(Vl (.func (.func 90) #[] ⟨[.pointer (some q61)]⟩))], 101, some 1⟩, ⟨.pointer (some q61), [(Sl (Ki .i64) r61)], 23, none⟩] (fun x : Addr => (Vl (.pointer (some x)))) (fun x => [⟨.pointer (some q61), [(Sl (Ki .i64) r63.1)], 23, none⟩, ⟨.pointer (some x), [(Vl (.int .i64 r63.2.1)), (Vl (.int .i64 r63.2.2.1)), (Sl Kf r63.2.2.2.1), (Vl (.int .i64 r63.2.2.2.2)), (Sl (Ki .i64) r63.1)], 136, none⟩])) [0, 1] [2] (by decide) (pick_cons rfl (pick_cons rfl pick_nil)) (pick_cons rfl pick_nil) (Hn := fun x : Addr => [⟨.pointer (some q61), [(Sl (Ki .i64) r63.1)], 23, none⟩, ⟨.pointer (some x), [(Vl (.int .i64 r63.2.1)), (Vl (.int .i64 r63.2.2.1)), (Sl Kf r63.2.2.2.1), (Vl (.int .i64 r63.2.2.2.2)), (Sl (Ki .i64) r63.1)], 136, none⟩, ⟨.pointer (some q1), [(Vl (.int .i64 a0_0)), (Vl (.int .i64 a0_1)), (Vl (.int .i64 a0_2)), (Sl Kf a0_3), (Sl (Ki .i64) a0_4), (Sl (Kl (Ki .i64)) a0_5), (Sl KT27 a0_6)], 27, none⟩]) (fun _ => rfl) rfl rfl) (pick_cons rfl (pick_cons rfl pick_nil)) rfl (bl_cons (m := 2) (by decide) rfl rfl bl_nil) (wt_none' rfl) fun q63 => ?_
              obtain ⟨r66, hr66, hp⟩ := bind_some hp
              refine px_oxb' (is := [1]) rfl (oxb_callg (ent_fn' Try.func70 isn70 rfl rfl) (gogeom_MultiPoint_SetSRID_v2_sim _ _ _ _ _ _ hr66 : Go.Sx.Fn Try.prog 70 [(Vl (.pointer (some q63))), (Vl (.int .i64 a0_2))] [⟨.pointer (some q63), [(Vl (.int .i64 r63.2.1)), (Vl (.int .i64 r63.2.2.1)), (Sl Kf r63.2.2.2.1), (Vl (.int .i64 r63.2.2.2.2)), (Sl (Ki .i64) r63.1)], 136, none⟩] (fun x : Unit => (Vl (.pointer (some q63)))) (fun x => [⟨.pointer (some q63), [(Vl (.int .i64 r66.1)), (Vl (.int .i64 r66.2.1)), (Sl Kf r66.2.2.1), (Vl (.int .i64 r66.2.2.2.1)), (Sl (Ki .i64) r66.2.2.2.2)], 136, none⟩])) [1] [0, 2] (by decide) (pick_cons rfl pick_nil) (pick_cons rfl (pick_cons rfl pick_nil)) (Hn := fun x : Unit => [⟨.pointer (some q63), [(Vl (.int .i64 r66.1)), (Vl (.int .i64 r66.2.1)), (Sl Kf r66.2.2.1), (Vl (.int .i64 r66.2.2.2.1)), (Sl (Ki .i64) r66.2.2.2.2)], 136, none⟩, ⟨.pointer (some q61), [(Sl (Ki .i64) r63.1)], 23, none⟩, ⟨.pointer (some q1), [(Vl (.int .i64 a0_0)), (Vl (.int .i64 a0_1)), (Vl (.int .i64 a0_2)), (Sl Kf a0_3), (Sl (Ki .i64) a0_4), (Sl (Kl (Ki .i64)) a0_5), (Sl KT27 a0_6)], 27, none⟩]) (fun _ => rfl) rfl rfl) (pick_cons rfl pick_nil) rfl (bl_cons (m := 2) (by decide) rfl rfl bl_nil) (wt_none' rfl) fun ⟨⟩ => ?_
              refine px_rd' rfl (rd_iface' rfl ⟨_, Try.underlying70, fun _ h => (nomatch h)⟩) rfl rfl (wt_none' rfl) ?_
              refine px_rd' rfl (rd_assign' rfl) rfl rfl (wt_none' rfl) ?_
              refine px_nil' ?_
              show TX E K14 _
              refine tx_k' hK14 ?_
              refine cx_retc' ?_
              replace hp := Option.some.inj hp
              subst hp
              refine tx_pick' (L' := [(2, (If 70 (Vl (.pointer (some q63)))))]) (H' := [⟨.pointer (some q63), [(Vl (.int .i64 r66.1)), (Vl (.int .i64 r66.2.1)), (Sl Kf r66.2.2.1), (Vl (.int .i64 r66.2.2.2.1)), (Sl (Ki .i64) r66.2.2.2.2)], 136, none⟩]) [0] (sub_cons rfl sub_nil) (by decide) (pick_cons rfl pick_nil) ?_
              exact tx_ret1' Try.results30 rfl (q63, (none, 0, 0)) (rv_tmp' rfl) (List.Sublist.refl _)
          · replace hp := (br_f h5).symm.trans hp
            refine cx_seq' fun K15 hK15 => ?_
            refine cx_region' ?_
            refine sx_rd' (rd_bin' rfl rfl eg_int ru_eql) rfl rfl (wt_none' rfl) ?_
            refine sx_rd' (rd_assign' rfl) rfl rfl (wt_none' rfl) ?_
            refine sx_nil' ?_
            show TX E K15 _
            refine tx_k' hK15 ?_
            refine cx_cond' rfl (fun h6 => ?_) (fun h6 => ?_)
            · replace hp := (br_t h6).symm.trans hp
              refine cx_seq' fun K16 hK16 => ?_
              refine cx_plan' [] [(8, 1)] [(0, 1), (1, 1), (2, 1), (3, 1), (6, 1), (7, 1), (4, 0), (5, 0), (8, 0), (9, 1), (10, 1)] mixed (by kernel_rfl) ?_
              refine px_rd' rfl (rd_move' rfl) rfl rfl (wt_none' rfl) ?_
              refine px_rd' rfl (rd_move' rfl) rfl rfl (wt_none' rfl) ?_
              refine px_rd' rfl (rd_field' (off := 4) rfl Try.underlying27 rfl info23 rfl) rfl rfl (wt_none' rfl) ?_
              refine px_rd' rfl (rd_load' (i := 0) (o := 4) rfl ⟨rfl, rfl, rfl, rfl⟩ rfl flat23) rfl rfl (wt_none' rfl) ?_
              refine px_rd' rfl (rd_field' (off := 2) rfl Try.underlying27 rfl info3 rfl) rfl rfl (wt_none' rfl) ?_
              refine px_rd' rfl (rd_load' (i := 0) (o := 2) rfl ⟨rfl, rfl, rfl, rfl⟩ rfl flat3) rfl rfl (wt_none' rfl) ?_
              obtain ⟨r74, hr74, hp⟩ := bind_some hp
              rcases r74 with y10 | y10
              · dsimp only at hp
                refine px_ox' rfl (ox_calln' (ent_fn' Try.func58 isn58 rfl rfl) (impl_ints_sim _ hr74 : Go.Sx.Fn Try.prog 58 [(Sl (Ki .i64) a0_4)] [] (fun x : Unit => (Vl (.slice none 0 0))) (fun x => [])) (Hn := fun x : Unit => [⟨.pointer (some q1), [(Vl (.int .i64 a0_0)), (Vl (.int .i64 a0_1)), (Vl (.int .i64 a0_2)), (Sl Kf a0_3), (Sl (Ki .i64) a0_4), (Sl (Kl (Ki .i64)) a0_5), (Sl KT27 a0_6)], 27, none⟩]) (fun _ => rfl) rfl rfl) rfl bs_nil (wt_none' rfl) fun ⟨⟩ => ?_
                obtain ⟨r75, hr75, hp⟩ := bind_some hp
                refine px_ox' rfl (ox_calln' (ent_fn' Try.func71 isn71 rfl rfl) (gogeom_NewMultiLineStringFlat_sim _ _ hr75 : Go.Sx.Fn Try.prog 71 [(Vl (.int .i64 a0_1)), (Sl Kf r12), (Vl (.slice none 0 0))] [] (fun x : Addr => (Vl (.pointer (some x)))) (fun x => [⟨.pointer (some x), [(Vl (.int .i64 r75.1)), (Vl (.int .i64 r75.2.1)), (Sl Kf r75.2.2.1), (Vl (.int .i64 r75.2.2.2)), (Vl (.slice none 0 0))], 139, none⟩])) (Hn := fun x : Addr => [⟨.pointer (some x), [(Vl (.int .i64 r75.1)), (Vl (.int .i64 r75.2.1)), (Sl Kf r75.2.2.1), (Vl (.int .i64 r75.2.2.2)), (Vl (.slice none 0 0))], 139, none⟩, ⟨.pointer (some q1), [(Vl (.int .i64 a0_0)), (Vl (.int .i64 a0_1)), (Vl (.int .i64 a0_2)), (Sl Kf a0_3), (Sl (Ki .i64) a0_4), (Sl (Kl (Ki .i64)) a0_5), (Sl KT27 a0_6)], 27, none⟩]) (fun _ => rfl) rfl rfl) rfl bs_nil (wt_none' rfl) fun q75 => ?_
                obtain ⟨r78, hr78, hp⟩ := bind_some hp
                refine px_oxb' (is := [0]) rfl (oxb_callg (ent_fn' Try.func72 isn72 rfl rfl) (gogeom_MultiLineString_SetSRID_sim _ _ _ _ _ hr78 : Go.Sx.Fn Try.prog 72 [(Vl (.pointer (some q75))), (Vl (.int .i64 a0_2))] [⟨.pointer (some q75), [(Vl (.int .i64 r75.1)), (Vl (.int .i64 r75.2.1)), (Sl Kf r75.2.2.1), (Vl (.int .i64 r75.2.2.2)), (Vl (.slice none 0 0))], 139, none⟩] (fun x : Unit => (Vl (.pointer (some q75)))) (fun x => [⟨.pointer (some q75), [(Vl (.int .i64 r78.1)), (Vl (.int .i64 r78.2.1)), (Sl Kf r78.2.2.1), (Vl (.int .i64 r78.2.2.2)), (Vl (.slice none 0 0))], 139, none⟩])) [0] [1] (by decide) (pick_cons rfl pick_nil) (pick_cons rfl pick_nil) (Hn := fun x : Unit => [⟨.pointer (some q75), [(Vl (.int .i64 r78.1)), (Vl (.int .i64 r78.2.1)), (Sl Kf r78.2.2.1), (Vl (.int .i64 r78.2.2.2)), (Vl (.slice none 0 0))], 139, none⟩, ⟨.pointer (some q1), [(Vl (.int .i64 a0_0)), (Vl (.int .i64 a0_1)), (Vl (.int .i64 a0_2)), (Sl Kf a0_3), (Sl (Ki .i64) a0_4), (Sl (Kl (Ki .i64)) a0_5), (Sl KT27 a0_6)], 27, none⟩]) (fun _ => rfl) rfl rfl) (pick_cons rfl pick_nil) rfl bl_nil (wt_none' rfl) fun ⟨⟩ => ?_
                refine px_rd' rfl (rd_iface' rfl ⟨_, Try.underlying73, fun _ h => (nomatch h)⟩) rfl rfl (wt_none' rfl) ?_
                refine px_rd' rfl (rd_assign' rfl) rfl rfl (wt_none' rfl) ?_
                refine px_nil' ?_
                show TX E K16 _
                refine tx_k' hK16 ?_
                refine cx_retc' ?_
                replace hp := Option.some.inj hp
                subst hp
                refine tx_cell' 0 4 (y := (Sl (Ki .i64) [])) rfl rfl imp_nil (H' := [⟨.pointer (some q75), [(Vl (.int .i64 r78.1)), (Vl (.int .i64 r78.2.1)), (Sl Kf r78.2.2.1), (Vl (.int .i64 r78.2.2.2)), (Sl (Ki .i64) [])], 139, none⟩, ⟨.pointer (some q1), [(Vl (.int .i64 a0_0)), (Vl (.int .i64 a0_1)), (Vl (.int .i64 a0_2)), (Sl Kf a0_3), (Sl (Ki .i64) a0_4), (Sl (Kl (Ki .i64)) a0_5), (Sl KT27 a0_6)], 27, none⟩]) rfl ?_
                refine tx_pick' (L' := [(2, (If 73 (Vl (.pointer (some q75)))))]) (H' := [⟨.pointer (some q75), [(Vl (.int .i64 r78.1)), (Vl (.int .i64 r78.2.1)), (Sl Kf r78.2.2.1), (Vl (.int .i64 r78.2.2.2)), (Sl (Ki .i64) [])], 139, none⟩]) [0] (sub_cons rfl sub_nil) (by decide) (pick_cons rfl pick_nil) ?_
                exact tx_ret1' Try.results30 rfl (q75, (none, 0, 0)) (rv_tmp' rfl) (List.Sublist.refl _)
              · dsimp only at hp
                refine px_ox' rfl (ox_calln' (ent_fn' Try.func58 isn58 rfl rfl) (impl_ints_sim _ hr74 : Go.Sx.Fn Try.prog 58 [(Sl (Ki .i64) a0_4)] [] (fun x : Unit => (Sl (Ki .i64) y10)) (fun x => [])) (Hn := fun x : Unit => [⟨.pointer (some q1), [(Vl (.int .i64 a0_0)), (Vl (.int .i64 a0_1)), (Vl (.int .i64 a0_2)), (Sl Kf a0_3), (Sl (Ki .i64) a0_4), (Sl (Kl (Ki .i64)) a0_5), (Sl KT27 a0_6)], 27, none⟩]) (fun _ => rfl) rfl rfl) rfl bs_nil (wt_none' rfl) fun ⟨⟩ => ?_
                obtain ⟨r75, hr75, hp⟩ := bind_some hp
                refine px_ox' rfl (ox_calln' (ent_fn' Try.func71 isn71 rfl rfl) (gogeom_NewMultiLineStringFlat_v2_sim _ _ _ hr75 : Go.Sx.Fn Try.prog 71 [(Vl (.int .i64 a0_1)), (Sl Kf r12), (Sl (Ki .i64) y10)] [] (fun x : Addr => (Vl (.pointer (some x)))) (fun x => [⟨.pointer (some x), [(Vl (.int .i64 r75.1)), (Vl (.int .i64 r75.2.1)), (Sl Kf r75.2.2.1), (Vl (.int .i64 r75.2.2.2.1)), (Sl (Ki .i64) r75.2.2.2.2)], 139, none⟩])) (Hn := fun x : Addr => [⟨.pointer (some x), [(Vl (.int .i64 r75.1)), (Vl (.int .i64 r75.2.1)), (Sl Kf r75.2.2.1), (Vl (.int .i64 r75.2.2.2.1)), (Sl (Ki .i64) r75.2.2.2.2)], 139, none⟩, ⟨.pointer (some q1), [(Vl (.int .i64 a0_0)), (Vl (.int .i64 a0_1)), (Vl (.int .i64 a0_2)), (Sl Kf a0_3), (Sl (Ki .i64) a0_4), (Sl (Kl (Ki .i64)) a0_5), (Sl KT27 a0_6)], 27, none⟩]) (fun _ => rfl) rfl rfl) rfl bs_nil (wt_none' rfl) fun q75 => ?_
                obtain ⟨r78, hr78, hp⟩ := bind_some hp
                refine px_oxb' (is := [0]) rfl (oxb_callg (ent_fn' Try.func72 isn72 rfl rfl) (gogeom_MultiLineString_SetSRID_v2_sim _ _ _ _ _ _ hr78 : Go.Sx.Fn Try.prog 72 [(Vl (.pointer (some q75))), (Vl (.int .i64 a0_2))] [⟨.pointer (some q75), [(Vl (.int .i64 r75.1)), (Vl (.int .i64 r75.2.1)), (Sl Kf r75.2.2.1), (Vl (.int .i64 r75.2.2.2.1)), (Sl (Ki .i64) r75.2.2.2.2)], 139, none⟩] (fun x : Unit => (Vl (.pointer (some q75)))) (fun x => [⟨.pointer (some q75), [(Vl (.int .i64 r78.1)), (Vl (.int .i64 r78.2.1)), (Sl Kf r78.2.2.1), (Vl (.int .i64 r78.2.2.2.1)), (Sl (Ki .i64) r78.2.2.2.2)], 139, none⟩])) [0] [1] (by decide) (pick_cons rfl pick_nil) (pick_cons rfl pick_nil) (Hn := fun x : Unit => [⟨.pointer (some q75), [(Vl (.int .i64 r78.1)), (Vl (.int .i64 r78.2.1)), (Sl Kf r78.2.2.1), (Vl (.int .i64 r78.2.2.2.1)), (Sl (Ki .i64) r78.2.2.2.2)], 139, none⟩, ⟨.pointer (some q1), [(Vl (.int .i64 a0_0)), (Vl (.int .i64 a0_1)), (Vl (.int .i64 a0_2)), (Sl Kf a0_3), (Sl (Ki .i64) a0_4), (Sl (Kl (Ki .i64)) a0_5), (Sl KT27 a0_6)], 27, none⟩]) (fun _ => rfl) rfl rfl) (pick_cons rfl pick_nil) rfl bl_nil (wt_none' rfl) fun ⟨⟩ => ?_
                refine px_rd' rfl (rd_iface' rfl ⟨_, Try.underlying73, fun _ h => (nomatch h)⟩) rfl rfl (wt_none' rfl) ?_
                refine px_rd' rfl (rd_assign' rfl) rfl rfl (wt_none' rfl) ?_
                refine px_nil' ?_
                show TX E K16 _
                refine tx_k' hK16 ?_
                refine cx_retc' ?_
                replace hp := Option.some.inj hp
                subst hp
                refine tx_pick' (L' := [(2, (If 73 (Vl (.pointer (some q75)))))]) (H' := [⟨.pointer (some q75), [(Vl (.int .i64 r78.1)), (Vl (.int .i64 r78.2.1)), (Sl Kf r78.2.2.1), (Vl (.int .i64 r78.2.2.2.1)), (Sl (Ki .i64) r78.2.2.2.2)], 139, none⟩]) [0] (sub_cons rfl sub_nil) (by decide) (pick_cons rfl pick_nil) ?_
                exact tx_ret1' Try.results30 rfl (q75, (none, 0, 0)) (rv_tmp' rfl) (List.Sublist.refl _)
            · replace hp := (br_f h6).symm.trans hp
              refine cx_seq' fun K17 hK17 => ?_
              refine cx_region' ?_
              refine sx_rd' (rd_bin' rfl rfl eg_int ru_eql) rfl rfl (wt_none' rfl) ?_
              refine sx_rd' (rd_assign' rfl) rfl rfl (wt_none' rfl) ?_
              refine sx_nil' ?_
              show TX E K17 _
              refine tx_k' hK17 ?_
              refine cx_cond' rfl (fun h7 => ?_) (fun h7 => ?_)
              · replace hp := (br_t h7).symm.trans hp
                refine cx_seq' fun K18 hK18 => ?_
                refine cx_plan' [] [(8, 1)] [(0, 1), (1, 1), (2, 1), (3, 1), (6, 1), (7, 1), (4, 0), (5, 0), (8, 0), (9, 1), (10, 1)] mixed (by kernel_rfl) ?_
                refine px_rd' rfl (rd_move' rfl) rfl rfl (wt_none' rfl) ?_
                refine px_rd' rfl (rd_move' rfl) rfl rfl (wt_none' rfl) ?_
                refine px_rd' rfl (rd_field' (off := 5) rfl Try.underlying27 rfl info24 rfl) rfl rfl (wt_none' rfl) ?_
                refine px_rd' rfl (rd_load' (i := 0) (o := 5) rfl ⟨rfl, rfl, rfl, rfl⟩ rfl flat24) rfl rfl (wt_none' rfl) ?_
                refine px_rd' rfl (rd_field' (off := 2) rfl Try.underlying27 rfl info3 rfl) rfl rfl (wt_none' rfl) ?_
                refine px_rd' rfl (rd_load' (i := 0) (o := 2) rfl ⟨rfl, rfl, rfl, rfl⟩ rfl flat3) rfl rfl (wt_none' rfl) ?_
                obtain ⟨r86, hr86, hp⟩ := bind_some hp
                refine px_ox' rfl (ox_calln' (ent_fn' Try.func29 isn29 rfl rfl) (impl_intss_sim _ hr86 : Go.Sx.Fn Try.prog 29 [(Sl (Kl (Ki .i64)) a0_5)] [] (fun x : Unit => (Sl (Kl (Ki .i64)) r86)) (fun x => [])) (Hn := fun x : Unit => [⟨.pointer (some q1), [(Vl (.int .i64 a0_0)), (Vl (.int .i64 a0_1)), (Vl (.int .i64 a0_2)), (Sl Kf a0_3), (Sl (Ki .i64) a0_4), (Sl (Kl (Ki .i64)) a0_5), (Sl KT27 a0_6)], 27, none⟩]) (fun _ => rfl) rfl rfl) rfl bs_nil (wt_none' rfl) fun ⟨⟩ => ?_
                obtain ⟨r87, hr87, hp⟩ := bind_some hp
                refine px_ox' rfl (ox_calln' (ent_fn' Try.func73 isn73 rfl rfl) (gogeom_NewMultiPolygonFlat_sim _ _ _ hr87 : Go.Sx.Fn Try.prog 73 [(Vl (.int .i64 a0_1)), (Sl Kf r12), (Sl (Kl (Ki .i64)) r86)] [] (fun x : Addr => (Vl (.pointer (some x)))) (fun x => [⟨.pointer (some x), [(Vl (.int .i64 r87.1)), (Vl (.int .i64 r87.2.1)), (Sl Kf r87.2.2.1), (Vl (.int .i64 r87.2.2.2.1)), (Sl (Kl (Ki .i64)) r87.2.2.2.2)], 143, none⟩])) (Hn := fun x : Addr => [⟨.pointer (some x), [(Vl (.int .i64 r87.1)), (Vl (.int .i64 r87.2.1)), (Sl Kf r87.2.2.1), (Vl (.int .i64 r87.2.2.2.1)), (Sl (Kl (Ki .i64)) r87.2.2.2.2)], 143, none⟩, ⟨.pointer (some q1), [(Vl (.int .i64 a0_0)), (Vl (.int .i64 a0_1)), (Vl (.int .i64 a0_2)), (Sl Kf a0_3), (Sl (Ki .i64) a0_4), (Sl (Kl (Ki .i64)) a0_5), (Sl KT27 a0_6)], 27, none⟩]) (fun _ => rfl) rfl rfl) rfl bs_nil (wt_none' rfl) fun q87 => ?_
                obtain ⟨r90, hr90, hp⟩ := bind_some hp
                refine px_oxb' (is := [0]) rfl (oxb_callg (ent_fn' Try.func74 isn74 rfl rfl) (gogeom_MultiPolygon_SetSRID_sim _ _ _ _ _ _ hr90 : Go.Sx.Fn Try.prog 74 [(Vl (.pointer (some q87))), (Vl (.int .i64 a0_2))] [⟨.pointer (some q87), [(Vl (.int .i64 r87.1)), (Vl (.int .i64 r87.2.1)), (Sl Kf r87.2.2.1), (Vl (.int .i64 r87.2.2.2.1)), (Sl (Kl (Ki .i64)) r87.2.2.2.2)], 143, none⟩] (fun x : Unit => (Vl (.pointer (some q87)))) (fun x => [⟨.pointer (some q87), [(Vl (.int .i64 r90.1)), (Vl (.int .i64 r90.2.1)), (Sl Kf r90.2.2.1), (Vl (.int .i64 r90.2.2.2.1)), (Sl (Kl (Ki .i64)) r90.2.2.2.2)], 143, none⟩])) [0] [1] (by decide) (pick_cons rfl pick_nil) (pick_cons rfl pick_nil) (Hn := fun x : Unit => [⟨.pointer (some q87), [(Vl (.int .i64 r90.1)), (Vl (.int .i64 r90.2.1)), (Sl Kf r90.2.2.1), (Vl (.int .i64 r90.2.2.2.1)), (Sl (Kl (Ki .i64)) r90.2.2.2.2)], 143, none⟩, ⟨.pointer (some q1), [(Vl (.int .i64 a0_0)), (Vl (.int .i64 a0_1)), (Vl (.int .i64 a0_2)), (Sl Kf a0_3), (Sl (Ki .i64) a0_4), (Sl (Kl (Ki .i64)) a0_5), (Sl KT27 a0_6)], 27, none⟩]) (fun _ => rfl) rfl rfl) (pick_cons rfl pick_nil) rfl bl_nil (wt_none' rfl) fun ⟨⟩ => ?_
                refine px_rd' rfl (rd_iface' rfl ⟨_, Try.underlying76, fun _ h => (nomatch h)⟩) rfl rfl (wt_none' rfl) ?_
                refine px_rd' rfl (rd_assign' rfl) rfl rfl (wt_none' rfl) ?_
                refine px_nil' ?_
                show TX E K18 _
                refine tx_k' hK18 ?_
                refine cx_retc' ?_
                replace hp := Option.some.inj hp
                subst hp
                refine tx_pick' (L' := [(2, (If 76 (Vl (.pointer (some q87)))))]) (H' := [⟨.pointer (some q87), [(Vl (.int .i64 r90.1)), (Vl (.int .i64 r90.2.1)), (Sl Kf r90.2.2.1), (Vl (.int .i64 r90.2.2.2.1)), (Sl (Kl (Ki .i64)) r90.2.2.2.2)], 143, none⟩]) [0] (sub_cons rfl sub_nil) (by decide) (pick_cons rfl pick_nil) ?_
                exact tx_ret1' Try.results30 rfl (q87, (none, 0, 0)) (rv_tmp' rfl) (List.Sublist.refl _)
              · replace hp := (br_f h7).symm.trans hp
                refine cx_seq' fun K19 hK19 => ?_
                refine cx_region' ?_
                refine sx_rd' (rd_bin' rfl rfl eg_int ru_eql) rfl rfl (wt_none' rfl) ?_
                refine sx_rd' (rd_assign' rfl) rfl rfl (wt_none' rfl) ?_
                refine sx_nil' ?_
                show TX E K19 _
                refine tx_k' hK19 ?_
                refine cx_cond' rfl (fun h8 => ?_) (fun h8 => ?_)
                · replace hp := (br_t h8).symm.trans hp
                  refine cx_seq' fun K20 hK20 => ?_
                  refine cx_plan' [] [(3, 1)] [(1, 1), (2, 1), (0, 0), (3, 0), (4, 1)] mixed (by kernel_rfl) ?_
                  refine px_rd' rfl (rd_field' (off := 2) rfl Try.underlying27 rfl info3 rfl) rfl rfl (wt_none' rfl) ?_
                  refine px_rd' rfl (rd_load' (i := 0) (o := 2) rfl ⟨rfl, rfl, rfl, rfl⟩ rfl flat3) rfl rfl (wt_none' rfl) ?_
                  obtain ⟨r94, hr94, hp⟩ := bind_some hp
                  refine px_ox' rfl (ox_calln' (ent_fn' Try.func75 isn75 rfl rfl) (gogeom_NewGeometryCollection_sim hr94 : Go.Sx.Fn Try.prog 75 [] [] (fun x : Addr => (Vl (.pointer (some x)))) (fun x => [⟨.pointer (some x), [(Vl (.int .i64 r94)), (Vl (.slice none 0 0)), (Vl (.int .i64 r94))], 114, none⟩])) (Hn := fun x : Addr => [⟨.pointer (some x), [(Vl (.int .i64 r94)), (Vl (.slice none 0 0)), (Vl (.int .i64 r94))], 114, none⟩, ⟨.pointer (some q1), [(Vl (.int .i64 a0_0)), (Vl (.int .i64 a0_1)), (Vl (.int .i64 a0_2)), (Sl Kf a0_3), (Sl (Ki .i64) a0_4), (Sl (Kl (Ki .i64)) a0_5), (Sl KT27 a0_6)], 27, none⟩]) (fun _ => rfl) rfl rfl) rfl bs_nil (wt_none' rfl) fun q94 => ?_
                  obtain ⟨r97, hr97, hp⟩ := bind_some hp
                  refine px_oxb' (is := [0]) rfl (oxb_callg (ent_fn' Try.func76 isn76 rfl rfl) (gogeom_GeometryCollection_SetSRID_sim _ _ _ hr97 : Go.Sx.Fn Try.prog 76 [(Vl (.pointer (some q94))), (Vl (.int .i64 a0_2))] [⟨.pointer (some q94), [(Vl (.int .i64 r94)), (Vl (.slice none 0 0)), (Vl (.int .i64 r94))], 114, none⟩] (fun x : Unit => (Vl (.pointer (some q94)))) (fun x => [⟨.pointer (some q94), [(Vl (.int .i64 r97.1)), (Vl (.slice none 0 0)), (Vl (.int .i64 r97.2))], 114, none⟩])) [0] [1] (by decide) (pick_cons rfl pick_nil) (pick_cons rfl pick_nil) (Hn := fun x : Unit => [⟨.pointer (some q94), [(Vl (.int .i64 r97.1)), (Vl (.slice none 0 0)), (Vl (.int .i64 r97.2))], 114, none⟩, ⟨.pointer (some q1), [(Vl (.int .i64 a0_0)), (Vl (.int .i64 a0_1)), (Vl (.int .i64 a0_2)), (Sl Kf a0_3), (Sl (Ki .i64) a0_4), (Sl (Kl (Ki .i64)) a0_5), (Sl KT27 a0_6)], 27, none⟩]) (fun _ => rfl) rfl rfl) (pick_cons rfl pick_nil) rfl bl_nil (wt_none' rfl) fun ⟨⟩ => ?_
                  refine px_rd' rfl (rd_assign' rfl) rfl rfl (wt_none' rfl) ?_
                  refine px_nil' ?_
                  show TX E K20 _
                  refine tx_k' hK20 ?_
                  refine cx_seq' fun K21 hK21 => ?_
                  refine cx_seq' fun K22 hK22 => ?_
                  refine cx_region' ?_
                  refine sx_rd' (rd_field' (off := 6) rfl Try.underlying27 rfl info25 rfl) rfl rfl (wt_none' rfl) ?_
                  refine sx_rd' (rd_load' (i := 1) (o := 6) rfl ⟨rfl, rfl, rfl, rfl⟩ rfl flat25) rfl rfl (wt_none' rfl) ?_
                  refine sx_rd' (rd_len' rfl Try.underlying25) rfl rfl (wt_none' rfl) ?_
                  refine sx_rd' (rd_move' rfl) rfl rfl (wt_none' rfl) ?_
                  refine sx_nil' ?_
                  show TX E K22 _
                  refine tx_k' hK22 ?_
                  refine cx_block' ?_
                  obtain ⟨v10, hy1, hp⟩ := bind_some hp
                  refine tx_nilrow' KG53 53 ?_
                  refine cx_loopg' (F := impl_geometry_l1 a0_6 recf) (G := fun k R v => impl_geometry_l1s a0_6 recf k R v.1 v.2.1 v.2.2.1 v.2.2.2) (x := (r97.1, [], r97.2, 0)) (gh := (none, 0, 0)) (fun (v9 : Int × (List G53) × Int × Int) (w9 : Gs) => (⟨116, [], [(3, (Vl (.int .i64 a0_1))), (5, (Vl (.pointer (some q94)))), (99, (Sl KT27 a0_6)), (100, (Vl (.int .i64 (a0_6.length : Int)))), (101, (Vl (.int .i64 v9.2.2.2)))], [⟨.pointer (some q94), [(Vl (.int .i64 v9.1)), (Vl (Vs w9)), (Vl (.int .i64 v9.2.2.1))], 114, none⟩, (Rw KG53 53 (Vs w9) v9.2.1)]⟩ : St)) (fun (v10 : Int × (List G53) × Int) => Zg E (Exit.exit 1) (fun (w10 : Gs) => (⟨116, [], [(3, (Vl (.int .i64 a0_1))), (5, (Vl (.pointer (some q94))))], [⟨.pointer (some q94), [(Vl (.int .i64 v10.1)), (Vl (Vs w10)), (Vl (.int .i64 v10.2.2))], 114, none⟩, (Rw KG53 53 (Vs w10) v10.2.1)]⟩ : St))) (fun _ => rfl) (fun _ _ => rfl) ?_ hy1 (tx_to' rfl [1, 0] (sub_cons rfl (sub_cons rfl (sub_cons rfl (sub_cons rfl (sub_cons rfl sub_nil))))) (by decide) (pick_cons rfl (pick_cons rfl pick_nil))) ?_
                  · clear hp hy1
                    clear v10
                    intro k rec1 KY1 ih1
                    rintro ⟨x35, x36, x37, x38⟩ g901 y34 hp
                    replace hp : impl_geometry_l1s a0_6 recf k rec1 x35 x36 x37 x38 = some y34 := hp
                    unfold impl_geometry_l1s at hp
                    refine cx_seq' fun K28 hK28 => ?_
                    refine cx_region' ?_
                    refine sx_rd' (rd_bin' rfl rfl eg_int ru_lss) rfl rfl (wt_none' rfl) ?_
                    refine sx_nil' ?_
                    show TX E K28 _
                    refine tx_k' hK28 ?_
                    refine cx_seq' fun K29 hK29 => ?_
                    refine cx_cond' rfl (fun h11 => ?_) (fun h11 => ?_)
                    · replace hp := (br_t h11).symm.trans hp
                      refine cx_skip' ?_
                      show TX E K29 _
                      refine tx_k' hK29 ?_
                      refine cx_seq' fun K30 hK30 => ?_
                      refine cx_block' ?_
                      refine cx_seq' fun K31 hK31 => ?_
                      refine cx_region' ?_
                      obtain ⟨r103, hr103, hp⟩ := bind_some hp
                      refine sx_rd' (rd_eq' (congrArg Pt (KT27_enc r103)) (rd_at' (K := KT27) rfl rfl hr103 Try.underlying25 info27)) rfl rfl (wt_none' rfl) ?_
                      refine sx_rd' (rd_load_pt_agg' (nn := 7) rfl rfl agg27 (l' := [(Vl (.int .i64 r103.f0)), (Vl (.int .i64 r103.f1)), (Vl (.int .i64 r103.f2)), (Sl Kf r103.f3), (Sl (Ki .i64) r103.f4), (Sl (Kl (Ki .i64)) r103.f5), (Sl KT27 r103.f6)]) rfl) rfl rfl (wt_none' rfl) ?_
                      refine sx_ox' (ox_alloc' info27 rfl rfl rfl rfl (l := [(Vl (.int .i64 0)), (Vl (.int .i64 0)), (Vl (.int .i64 0)), (Vl (.slice none 0 0)), (Vl (.slice none 0 0)), (Vl (.slice none 0 0)), (Vl (.slice none 0 0))]) rfl) (wt_none' rfl) fun q7 => ?_
                      refine sx_ox' (ox_store' (i := 0) (o := 0) rfl rfl (lv_ag _) ⟨rfl, rfl, rfl, rfl⟩ rfl info27 rfl (H' := [⟨.pointer (some q7), [(Vl (.int .i64 r103.f0)), (Vl (.int .i64 r103.f1)), (Vl (.int .i64 r103.f2)), (Sl Kf r103.f3), (Sl (Ki .i64) r103.f4), (Sl (Kl (Ki .i64)) r103.f5), (Sl KT27 r103.f6)], 27, none⟩, ⟨.pointer (some q94), [(Vl (.int .i64 x35)), (Vl (Vs g901)), (Vl (.int .i64 x37))], 114, none⟩, (Rw KG53 53 (Vs g901) x36)]) rfl) (wt_none' rfl) fun _ => ?_
                      refine sx_nil' ?_
                      show TX E K31 _
                      refine tx_k' hK31 ?_
                      refine cx_region' ?_
                      refine sx_rd' (rd_move' rfl) rfl rfl (wt_none' rfl) ?_
                      refine sx_rd' (rd_load_agg' (i := 0) (o := 0) (nn := 7) rfl ⟨rfl, rfl, rfl, rfl⟩ rfl agg27 (l' := [(Vl (.int .i64 r103.f0)), (Vl (.int .i64 r103.f1)), (Vl (.int .i64 r103.f2)), (Sl Kf r103.f3), (Sl (Ki .i64) r103.f4), (Sl (Kl (Ki .i64)) r103.f5), (Sl KT27 r103.f6)]) rfl) rfl rfl (wt_none' rfl) ?_
                      obtain ⟨r107, hr107, hp⟩ := bind_some hp
                      rcases r107 with y24 | y24 | y24 | y24 | y24 | y24 | y24 | y24
                      · dsimp only at hp
                        refine sx_ox' (ox_calln' (ent_fn' Try.func30 isn30 rfl rfl) (hrec _ _ _ _ _ _ _ _ hr107 : Go.Sx.Fn Try.prog 30 [(Ag [(Vl (.int .i64 r103.f0)), (Vl (.int .i64 r103.f1)), (Vl (.int .i64 r103.f2)), (Sl Kf r103.f3), (Sl (Ki .i64) r103.f4), (Sl (Kl (Ki .i64)) r103.f5), (Sl KT27 r103.f6)])] [] (fun x : Addr × Gs => (If 72 (Vl (.pointer (some x.1))))) (fun x => [⟨.pointer (some x.1), [(Vl (.int .i64 y24.1)), (Vl (.int .i64 y24.2.1)), (Sl Kf y24.2.2.1), (Vl (.int .i64 y24.2.2.2))], 135, none⟩])) (Hn := fun x : Addr × Gs => [⟨.pointer (some x.1), [(Vl (.int .i64 y24.1)), (Vl (.int .i64 y24.2.1)), (Sl Kf y24.2.2.1), (Vl (.int .i64 y24.2.2.2))], 135, none⟩, ⟨.pointer (some q7), [(Vl (.int .i64 r103.f0)), (Vl (.int .i64 r103.f1)), (Vl (.int .i64 r103.f2)), (Sl Kf r103.f3), (Sl (Ki .i64) r103.f4), (Sl (Kl (Ki .i64)) r103.f5), (Sl KT27 r103.f6)], 27, none⟩, ⟨.pointer (some q94), [(Vl (.int .i64 x35)), (Vl (Vs g901)), (Vl (.int .i64 x37))], 114, none⟩, (Rw KG53 53 (Vs g901) x36)]) (fun _ => rfl) rfl rfl) (wt_none' rfl) fun ⟨q107, g107⟩ => ?_
                        refine tx_fz' (frz_var 0 [(107, (If 72 (Vl (.pointer (some q107)))), (If 72 (Pt [(Vl (.int .i64 y24.1)), (Vl (.int .i64 y24.2.1)), (Sl Kf y24.2.2.1), (Vl (.int .i64 y24.2.2.2))])))] rfl ⟨⟨rfl, frz_if⟩, trivial⟩ (H' := [⟨.pointer (some q7), [(Vl (.int .i64 r103.f0)), (Vl (.int .i64 r103.f1)), (Vl (.int .i64 r103.f2)), (Sl Kf r103.f3), (Sl (Ki .i64) r103.f4), (Sl (Kl (Ki .i64)) r103.f5), (Sl KT27 r103.f6)], 27, none⟩, ⟨.pointer (some q94), [(Vl (.int .i64 x35)), (Vl (Vs g901)), (Vl (.int .i64 x37))], 114, none⟩, (Rw KG53 53 (Vs g901) x36)]) frzH_refl) ?_
                        refine tx_slot' 107 (y := (SG53 (G53.c0 y24.1 y24.2.1 y24.2.2.1 y24.2.2.2))) rfl (imp_eq (SG53_c0 y24.1 y24.2.1 y24.2.2.1 y24.2.2.2).symm) ?_
                        refine sx_ox' (ox_rowlit' (K := KG53) (xs := [(G53.c0 y24.1 y24.2.1 y24.2.2.1 y24.2.2.2)]) (qs := [(0, [(SG53 (G53.c0 y24.1 y24.2.1 y24.2.2.1 y24.2.2.2))])]) ⟨rfl, ⟨_, rfl, (SG53_lv (G53.c0 y24.1 y24.2.1 y24.2.2.1 y24.2.2.2))⟩, trivial⟩ Try.underlying112 info53 rfl rfl rfl rfl rfl (by kernel_rfl) rfl rfl rfl) (wt_none' rfl) fun g108 => ?_
                        refine tx_fz' (frz_row 0 [(108, (Vl (Vs g108)), (Sl KG53 ([(G53.c0 y24.1 y24.2.1 y24.2.2.1 y24.2.2.2)])))] (K := KG53) (xs := [(G53.c0 y24.1 y24.2.1 y24.2.2.1 y24.2.2.2)]) (by decide) rfl ⟨⟨rfl, frz_it⟩, trivial⟩ (H' := [⟨.pointer (some q7), [(Vl (.int .i64 r103.f0)), (Vl (.int .i64 r103.f1)), (Vl (.int .i64 r103.f2)), (Sl Kf r103.f3), (Sl (Ki .i64) r103.f4), (Sl (Kl (Ki .i64)) r103.f5), (Sl KT27 r103.f6)], 27, none⟩, ⟨.pointer (some q94), [(Vl (.int .i64 x35)), (Vl (Vs g901)), (Vl (.int .i64 x37))], 114, none⟩, (Rw KG53 53 (Vs g901) x36)]) frzH_refl) ?_
                        obtain ⟨r109, hr109, hp⟩ := bind_some hp
                        refine sx_ox' (ox_callg' (ent_fn' Try.func77 isn77 rfl rfl) (gogeom_GeometryCollection_MustPush_v2_sim _ _ _ _ hr109 : Go.Sx.Fn Try.prog 77 [(Vl (.pointer (some q94))), (Sl KG53 ([(G53.c0 y24.1 y24.2.1 y24.2.2.1 y24.2.2.2)]))] [⟨.pointer (some q94), [(Vl (.int .i64 x35)), (Vl (Vs g901)), (Vl (.int .i64 x37))], 114, none⟩, (Rw KG53 53 (Vs g901) x36)] (fun x : Gs => (Vl (.pointer (some q94)))) (fun x => [⟨.pointer (some q94), [(Vl (.int .i64 r109.1)), (Vl (Vs x)), (Vl (.int .i64 r109.2.2))], 114, none⟩, (Rw KG53 53 (Vs x) r109.2.1)])) [1, 2] [0] (by decide) (pick_cons rfl (pick_cons rfl pick_nil)) (pick_cons rfl pick_nil) (Hn := fun x : Gs => [⟨.pointer (some q94), [(Vl (.int .i64 r109.1)), (Vl (Vs x)), (Vl (.int .i64 r109.2.2))], 114, none⟩, (Rw KG53 53 (Vs x) r109.2.1), ⟨.pointer (some q7), [(Vl (.int .i64 r103.f0)), (Vl (.int .i64 r103.f1)), (Vl (.int .i64 r103.f2)), (Sl Kf r103.f3), (Sl (Ki .i64) r103.f4), (Sl (Kl (Ki .i64)) r103.f5), (Sl KT27 r103.f6)], 27, none⟩]) (fun _ => rfl) rfl rfl) (wt_none' rfl) fun g109 => ?_
                        refine sx_nil' ?_
                        show TX E K30 _
                        refine tx_k' hK30 ?_
                        refine cx_region' ?_
                        refine sx_rd' (rd_bin' rfl rfl eg_int ru_add) rfl rfl (wt_none' rfl) ?_
                        refine sx_rd' (rd_move' rfl) rfl rfl (wt_none' rfl) ?_
                        refine sx_nil' ?_
                        show TX E (KY1 _) _
                        exact tx_pick' [0, 1] (sub_cons rfl (sub_cons rfl (sub_cons rfl (sub_cons rfl (sub_cons rfl sub_nil))))) (by decide) (pick_cons rfl (pick_cons rfl pick_nil)) (ih1 (r109.1, r109.2.1, r109.2.2, (iadd .i64 x38 1)) g109 _ hp)
                      · dsimp only at hp
                        refine sx_ox' (ox_calln' (ent_fn' Try.func30 isn30 rfl rfl) (hrec _ _ _ _ _ _ _ _ hr107 : Go.Sx.Fn Try.prog 30 [(Ag [(Vl (.int .i64 r103.f0)), (Vl (.int .i64 r103.f1)), (Vl (.int .i64 r103.f2)), (Sl Kf r103.f3), (Sl (Ki .i64) r103.f4), (Sl (Kl (Ki .i64)) r103.f5), (Sl KT27 r103.f6)])] [] (fun x : Addr × Gs => (If 75 (Vl (.pointer (some x.1))))) (fun x => [⟨.pointer (some x.1), [(Vl (.int .i64 y24.1)), (Vl (.int .i64 y24.2.1)), (Sl Kf y24.2.2.1), (Vl (.int .i64 y24.2.2.2))], 138, none⟩])) (Hn := fun x : Addr × Gs => [⟨.pointer (some x.1), [(Vl (.int .i64 y24.1)), (Vl (.int .i64 y24.2.1)), (Sl Kf y24.2.2.1), (Vl (.int .i64 y24.2.2.2))], 138, none⟩, ⟨.pointer (some q7), [(Vl (.int .i64 r103.f0)), (Vl (.int .i64 r103.f1)), (Vl (.int .i64 r103.f2)), (Sl Kf r103.f3), (Sl (Ki .i64) r103.f4), (Sl (Kl (Ki .i64)) r103.f5), (Sl KT27 r103.f6)], 27, none⟩, ⟨.pointer (some q94), [(Vl (.int .i64 x35)), (Vl (Vs g901)), (Vl (.int .i64 x37))], 114, none⟩, (Rw KG53 53 (Vs g901) x36)]) (fun _ => rfl) rfl rfl) (wt_none' rfl) fun ⟨q107, g107⟩ => ?_
                        refine tx_fz' (frz_var 0 [(107, (If 75 (Vl (.pointer (some q107)))), (If 75 (Pt [(Vl (.int .i64 y24.1)), (Vl (.int .i64 y24.2.1)), (Sl Kf y24.2.2.1), (Vl (.int .i64 y24.2.2.2))])))] rfl ⟨⟨rfl, frz_if⟩, trivial⟩ (H' := [⟨.pointer (some q7), [(Vl (.int .i64 r103.f0)), (Vl (.int .i64 r103.f1)), (Vl (.int .i64 r103.f2)), (Sl Kf r103.f3), (Sl (Ki .i64) r103.f4), (Sl (Kl (Ki .i64)) r103.f5), (Sl KT27 r103.f6)], 27, none⟩, ⟨.pointer (some q94), [(Vl (.int .i64 x35)), (Vl (Vs g901)), (Vl (.int .i64 x37))], 114, none⟩, (Rw KG53 53 (Vs g901) x36)]) frzH_refl) ?_
                        refine tx_slot' 107 (y := (SG53 (G53.c1 y24.1 y24.2.1 y24.2.2.1 y24.2.2.2))) rfl (imp_eq (SG53_c1 y24.1 y24.2.1 y24.2.2.1 y24.2.2.2).symm) ?_
                        refine sx_ox' (ox_rowlit' (K := KG53) (xs := [(G53.c1 y24.1 y24.2.1 y24.2.2.1 y24.2.2.2)]) (qs := [(0, [(SG53 (G53.c1 y24.1 y24.2.1 y24.2.2.1 y24.2.2.2))])]) ⟨rfl, ⟨_, rfl, (SG53_lv (G53.c1 y24.1 y24.2.1 y24.2.2.1 y24.2.2.2))⟩, trivial⟩ Try.underlying112 info53 rfl rfl rfl rfl rfl (by kernel_rfl) rfl rfl rfl) (wt_none' rfl) fun g108 => ?_
                        refine tx_fz' (frz_row 0 [(108, (Vl (Vs g108)), (Sl KG53 ([(G53.c1 y24.1 y24.2.1 y24.2.2.1 y24.2.2.2)])))] (K := KG53) (xs := [(G53.c1 y24.1 y24.2.1 y24.2.2.1 y24.2.2.2)]) (by decide) rfl ⟨⟨rfl, frz_it⟩, trivial⟩ (H' := [⟨.pointer (some q7), [(Vl (.int .i64 r103.f0)), (Vl (.int .i64 r103.f1)), (Vl (.int .i64 r103.f2)), (Sl Kf r103.f3), (Sl (Ki .i64) r103.f4), (Sl (Kl (Ki .i64)) r103.f5), (Sl KT27 r103.f6)], 27, none⟩, ⟨.pointer (some q94), [(Vl (.int .i64 x35)), (Vl (Vs g901)), (Vl (.int .i64 x37))], 114, none⟩, (Rw KG53 53 (Vs g901) x36)]) frzH_refl) ?_
                        obtain ⟨r109, hr109, hp⟩ := bind_some hp
                        refine sx_ox' (ox_callg' (ent_fn' Try.func77 isn77 rfl rfl) (gogeom_GeometryCollection_MustPush_v2_sim _ _ _ _ hr109 : Go.Sx.Fn Try.prog 77 [(Vl (.pointer (some q94))), (Sl KG53 ([(G53.c1 y24.1 y24.2.1 y24.2.2.1 y24.2.2.2)]))] [⟨.pointer (some q94), [(Vl (.int .i64 x35)), (Vl (Vs g901)), (Vl (.int .i64 x37))], 114, none⟩, (Rw KG53 53 (Vs g901) x36)] (fun x : Gs => (Vl (.pointer (some q94)))) (fun x => [⟨.pointer (some q94), [(Vl (.int .i64 r109.1)), (Vl (Vs x)), (Vl (.int .i64 r109.2.2))], 114, none⟩, (Rw KG53 53 (Vs x) r109.2.1)])) [1, 2] [0] (by decide) (pick_cons rfl (pick_cons rfl pick_nil)) (pick_cons rfl pick_nil) (Hn := fun x : Gs => [⟨.pointer (some q94), [(Vl (.int .i64 r109.1)), (Vl (Vs x)), (Vl (.int .i64 r109.2.2))], 114, none⟩, (Rw KG53 53 (Vs x) r109.2.1), ⟨.pointer (some q7), [(Vl (.int .i64 r103.f0)), (Vl (.int .i64 r103.f1)), (Vl (.int .i64 r103.f2)), (Sl Kf r103.f3), (Sl (Ki .i64) r103.f4), (Sl (Kl (Ki .i64)) r103.f5), (Sl KT27 r103.f6)], 27, none⟩]) (fun _ => rfl) rfl rfl) (wt_none' rfl) fun g109 => ?_
                        refine sx_nil' ?_
                        show TX E K30 _
                        refine tx_k' hK30 ?_
                        refine cx_region' ?_
                        refine sx_rd' (rd_bin' rfl rfl eg_int ru_add) rfl rfl (wt_none' rfl) ?_
                        refine sx_rd' (rd_move' rfl) rfl rfl (wt_none' rfl) ?_
                        refine sx_nil' ?_
                        show TX E (KY1 _) _
                        exact tx_pick' [0, 1] (sub_cons rfl (sub_cons rfl (sub_cons rfl (sub_cons rfl (sub_cons rfl sub_nil))))) (by decide) (pick_cons rfl (pick_cons rfl pick_nil)) (ih1 (r109.1, r109.2.1, r109.2.2, (iadd .i64 x38 1)) g109 _ hp)
                      · dsimp only at hp
                        refine sx_ox' (ox_calln' (ent_fn' Try.func30 isn30 rfl rfl) (hrec _ _ _ _ _ _ _ _ hr107 : Go.Sx.Fn Try.prog 30 [(Ag [(Vl (.int .i64 r103.f0)), (Vl (.int .i64 r103.f1)), (Vl (.int .i64 r103.f2)), (Sl Kf r103.f3), (Sl (Ki .i64) r103.f4), (Sl (Kl (Ki .i64)) r103.f5), (Sl KT27 r103.f6)])] [] (fun x : Addr × Gs => (If 69 (Vl (.pointer (some x.1))))) (fun x => [⟨.pointer (some x.1), [(Vl (.int .i64 y24.1)), (Vl (.int .i64 y24.2.1)), (Sl Kf y24.2.2.1), (Vl (.int .i64 y24.2.2.2))], 128, none⟩])) (Hn := fun x : Addr × Gs => [⟨.pointer (some x.1), [(Vl (.int .i64 y24.1)), (Vl (.int .i64 y24.2.1)), (Sl Kf y24.2.2.1), (Vl (.int .i64 y24.2.2.2))], 128, none⟩, ⟨.pointer (some q7), [(Vl (.int .i64 r103.f0)), (Vl (.int .i64 r103.f1)), (Vl (.int .i64 r103.f2)), (Sl Kf r103.f3), (Sl (Ki .i64) r103.f4), (Sl (Kl (Ki .i64)) r103.f5), (Sl KT27 r103.f6)], 27, none⟩, ⟨.pointer (some q94), [(Vl (.int .i64 x35)), (Vl (Vs g901)), (Vl (.int .i64 x37))], 114, none⟩, (Rw KG53 53 (Vs g901) x36)]) (fun _ => rfl) rfl rfl) (wt_none' rfl) fun ⟨q107, g107⟩ => ?_
                        refine tx_fz' (frz_var 0 [(107, (If 69 (Vl (.pointer (some q107)))), (If 69 (Pt [(Vl (.int .i64 y24.1)), (Vl (.int .i64 y24.2.1)), (Sl Kf y24.2.2.1), (Vl (.int .i64 y24.2.2.2))])))] rfl ⟨⟨rfl, frz_if⟩, trivial⟩ (H' := [⟨.pointer (some q7), [(Vl (.int .i64 r103.f0)), (Vl (.int .i64 r103.f1)), (Vl (.int .i64 r103.f2)), (Sl Kf r103.f3), (Sl (Ki .i64) r103.f4), (Sl (Kl (Ki .i64)) r103.f5), (Sl KT27 r103.f6)], 27, none⟩, ⟨.pointer (some q94), [(Vl (.int .i64 x35)), (Vl (Vs g901)), (Vl (.int .i64 x37))], 114, none⟩, (Rw KG53 53 (Vs g901) x36)]) frzH_refl) ?_
                        refine tx_slot' 107 (y := (SG53 (G53.c2 y24.1 y24.2.1 y24.2.2.1 y24.2.2.2))) rfl (imp_eq (SG53_c2 y24.1 y24.2.1 y24.2.2.1 y24.2.2.2).symm) ?_
                        refine sx_ox' (ox_rowlit' (K := KG53) (xs := [(G53.c2 y24.1 y24.2.1 y24.2.2.1 y24.2.2.2)]) (qs := [(0, [(SG53 (G53.c2 y24.1 y24.2.1 y24.2.2.1 y24.2.2.2))])]) ⟨rfl, ⟨_, rfl, (SG53_lv (G53.c2 y24.1 y24.2.1 y24.2.2.1 y24.2.2.2))⟩, trivial⟩ Try.underlying112 info53 rfl rfl rfl rfl rfl (by kernel_rfl) rfl rfl rfl) (wt_none' rfl) fun g108 => ?_
                        refine tx_fz' (frz_row 0 [(108, (Vl (Vs g108)), (Sl KG53 ([(G53.c2 y24.1 y24.2.1 y24.2.2.1 y24.2.2.2)])))] (K := KG53) (xs := [(G53.c2 y24.1 y24.2.1 y24.2.2.1 y24.2.2.2)]) (by decide) rfl ⟨⟨rfl, frz_it⟩, trivial⟩ (H' := [⟨.pointer (some q7), [(Vl (.int .i64 r103.f0)), (Vl (.int .i64 r103.f1)), (Vl (.int .i64 r103.f2)), (Sl Kf r103.f3), (Sl (Ki .i64) r103.f4), (Sl (Kl (Ki .i64)) r103.f5), (Sl KT27 r103.f6)], 27, none⟩, ⟨.pointer (some q94), [(Vl (.int .i64 x35)), (Vl (Vs g901)), (Vl (.int .i64 x37))], 114, none⟩, (Rw KG53 53 (Vs g901) x36)]) frzH_refl) ?_
                        obtain ⟨r109, hr109, hp⟩ := bind_some hp
                        refine sx_ox' (ox_callg' (ent_fn' Try.func77 isn77 rfl rfl) (gogeom_GeometryCollection_MustPush_v2_sim _ _ _ _ hr109 : Go.Sx.Fn Try.prog 77 [(Vl (.pointer (some q94))), (Sl KG53 ([(G53.c2 y24.1 y24.2.1 y24.2.2.1 y24.2.2.2)]))] [⟨.pointer (some q94), [(Vl (.int .i64 x35)), (Vl (Vs g901)), (Vl (.int .i64 x37))], 114, none⟩, (Rw KG53 53 (Vs g901) x36)] (fun x : Gs => (Vl (.pointer (some q94)))) (fun x => [⟨.pointer (some q94), [(Vl (.int .i64 r109.1)), (Vl (Vs x)), (Vl (.int .i64 r109.2.2))], 114, none⟩, (Rw KG53 53 (Vs x) r109.2.1)])) [1, 2] [0] (by decide) (pick_cons rfl (pick_cons rfl pick_nil)) (pick_cons rfl pick_nil) (Hn := fun x : Gs => [⟨.pointer (some q94), [(Vl (.int .i64 r109.1)), (Vl (Vs x)), (Vl (.int .i64 r109.2.2))], 114, none⟩, (Rw KG53 53 (Vs x) r109.2.1), ⟨.pointer (some q7), [(Vl (.int .i64 r103.f0)), (Vl (.int .i64 r103.f1)), (Vl (.int .i64 r103.f2)), (Sl Kf r103.f3), (Sl (Ki .i64) r103.f4), (Sl (Kl (Ki .i64)) r103.f5), (Sl KT27 r103.f6)], 27, none⟩]) (fun _ => rfl) rfl rfl) (wt_none' rfl) fun g109 => ?_
                        refine sx_nil' ?_
                        show TX E K30 _
                        refine tx_k' hK30 ?_
                        refine cx_region' ?_
                        refine sx_rd' (rd_bin' rfl rfl eg_int ru_add) rfl rfl (wt_none' rfl) ?_
                        refine sx_rd' (rd_move' rfl) rfl rfl (wt_none' rfl) ?_
                        refine sx_nil' ?_
                        show TX E (KY1 _) _
                        exact tx_pick' [0, 1] (sub_cons rfl (sub_cons rfl (sub_cons rfl (sub_cons rfl (sub_cons rfl sub_nil))))) (by decide) (pick_cons rfl (pick_cons rfl pick_nil)) (ih1 (r109.1, r109.2.1, r109.2.2, (iadd .i64 x38 1)) g109 _ hp)
                      · dsimp only at hp
                        refine sx_ox' (ox_calln' (ent_fn' Try.func30 isn30 rfl rfl) (hrec _ _ _ _ _ _ _ _ hr107 : Go.Sx.Fn Try.prog 30 [(Ag [(Vl (.int .i64 r103.f0)), (Vl (.int .i64 r103.f1)), (Vl (.int .i64 r103.f2)), (Sl Kf r103.f3), (Sl (Ki .i64) r103.f4), (Sl (Kl (Ki .i64)) r103.f5), (Sl KT27 r103.f6)])] [] (fun x : Addr × Gs => (If 67 (Vl (.pointer (some x.1))))) (fun x => [⟨.pointer (some x.1), [(Vl (.int .i64 y24.1)), (Vl (.int .i64 y24.2.1)), (Sl Kf y24.2.2.1), (Vl (.int .i64 y24.2.2.2.1)), (Sl (Ki .i64) y24.2.2.2.2)], 132, none⟩])) (Hn := fun x : Addr × Gs => [⟨.pointer (some x.1), [(Vl (.int .i64 y24.1)), (Vl (.int .i64 y24.2.1)), (Sl Kf y24.2.2.1), (Vl (.int .i64 y24.2.2.2.1)), (Sl (Ki .i64) y24.2.2.2.2)], 132, none⟩, ⟨.pointer (some q7), [(Vl (.int .i64 r103.f0)), (Vl (.int .i64 r103.f1)), (Vl (.int .i64 r103.f2)), (Sl Kf r103.f3), (Sl (Ki .i64) r103.f4), (Sl (Kl (Ki .i64)) r103.f5), (Sl KT27 r103.f6)], 27, none⟩, ⟨.pointer (some q94), [(Vl (.int .i64 x35)), (Vl (Vs g901)), (Vl (.int .i64 x37))], 114, none⟩, (Rw KG53 53 (Vs g901) x36)]) (fun _ => rfl) rfl rfl) (wt_none' rfl) fun ⟨q107, g107⟩ => ?_
                        refine tx_fz' (frz_var 0 [(107, (If 67 (Vl (.pointer (some q107)))), (If 67 (Pt [(Vl (.int .i64 y24.1)), (Vl (.int .i64 y24.2.1)), (Sl Kf y24.2.2.1), (Vl (.int .i64 y24.2.2.2.1)), (Sl (Ki .i64) y24.2.2.2.2)])))] rfl ⟨⟨rfl, frz_if⟩, trivial⟩ (H' := [⟨.pointer (some q7), [(Vl (.int .i64 r103.f0)), (Vl (.int .i64 r103.f1)), (Vl (.int .i64 r103.f2)), (Sl Kf r103.f3), (Sl (Ki .i64) r103.f4), (Sl (Kl (Ki .i64)) r103.f5), (Sl KT27 r103.f6)], 27, none⟩, ⟨.pointer (some q94), [(Vl (.int .i64 x35)), (Vl (Vs g901)), (Vl (.int .i64 x37))], 114, none⟩, (Rw KG53 53 (Vs g901) x36)]) frzH_refl) ?_
                        refine tx_slot' 107 (y := (SG53 (G53.c3 y24.1 y24.2.1 y24.2.2.1 y24.2.2.2.1 y24.2.2.2.2))) rfl (imp_eq (SG53_c3 y24.1 y24.2.1 y24.2.2.1 y24.2.2.2.1 y24.2.2.2.2).symm) ?_
                        refine sx_ox' (ox_rowlit' (K := KG53) (xs := [(G53.c3 y24.1 y24.2.1 y24.2.2.1 y24.2.2.2.1 y24.2.2.2.2)]) (qs := [(0, [(SG53 (G53.c3 y24.1 y24.2.1 y24.2.2.1 y24.2.2.2.1 y24.2.2.2.2))])]) ⟨rfl, ⟨_, rfl, (SG53_lv (G53.c3 y24.1 y24.2.1 y24.2.2.1 y24.2.2.2.1 y24.2.2.2.2))⟩, trivial⟩ Try.underlying112 info53 rfl rfl rfl rfl rfl (by kernel_rfl) rfl rfl rfl) (wt_none' rfl) fun g108 => ?_
                        refine tx_fz' (frz_row 0 [(108, (Vl (Vs g108)), (Sl KG53 ([(G53.c3 y24.1 y24.2.1 y24.2.2.1 y24.2.2.2.1 y24.2.2.2.2)])))] (K := KG53) (xs := [(G53.c3 y24.1 y24.2.1 y24.2.2.1 y24.2.2.2.1 y24.2.2.2.2)]) (by decide) rfl ⟨⟨rfl, frz_it⟩, trivial⟩ (H' := [⟨.pointer (some q7), [(Vl (.int .i64 r103.f0)), (Vl (.int .i64 r103.f1)), (Vl (.int .i64 r103.f2)), (Sl Kf r103.f3), (Sl (Ki .i64) r103.f4), (Sl (Kl (Ki .i64)) r103.f5), (Sl KT27 r103.f6)], 27, none⟩, ⟨.pointer (some q94), [(Vl (.int .i64 x35)), (Vl (Vs g901)), (Vl (.int .i64 x37))], 114, none⟩, (Rw KG53 53 (Vs g901) x36)]) frzH_refl) ?_
                        obtain ⟨r109, hr109, hp⟩ := bind_some hp
                        refine sx_ox' (ox_callg' (ent_fn' Try.func77 isn77 rfl rfl) (gogeom_GeometryCollection_MustPush_v2_sim _ _ _ _ hr109 : Go.Sx.Fn Try.prog 77 [(Vl (.pointer (some q94))), (Sl KG53 ([(G53.c3 y24.1 y24.2.1 y24.2.2.1 y24.2.2.2.1 y24.2.2.2.2)]))] [⟨.pointer (some q94), [(Vl (.int .i64 x35)), (Vl (Vs g901)), (Vl (.int .i64 x37))], 114, none⟩, (Rw KG53 53 (Vs g901) x36)] (fun x : Gs => (Vl (.pointer (some q94)))) (fun x => [⟨.pointer (some q94), [(Vl (.int .i64 r109.1)), (Vl (Vs x)), (Vl (.int .i64 r109.2.2))], 114, none⟩, (Rw KG53 53 (Vs x) r109.2.1)])) [1, 2] [0] (by decide) (pick_cons rfl (pick_cons rfl pick_nil)) (pick_cons rfl pick_nil) (Hn := fun x : Gs => [⟨.pointer (some q94), [(Vl (.int .i64 r109.1)), (Vl (Vs x)), (Vl (.int .i64 r109.2.2))], 114, none⟩, (Rw KG53 53 (Vs x) r109.2.1), ⟨.pointer (some q7), [(Vl (.int .i64 r103.f0)), (Vl (.int .i64 r103.f1)), (Vl (.int .i64 r103.f2)), (Sl Kf r103.f3), (Sl (Ki .i64) r103.f4), (Sl (Kl (Ki .i64)) r103.f5), (Sl KT27 r103.f6)], 27, none⟩]) (fun _ => rfl) rfl rfl) (wt_none' rfl) fun g109 => ?_
                        refine sx_nil' ?_
                        show TX E K30 _
                        refine tx_k' hK30 ?_
                        refine cx_region' ?_
                        refine sx_rd' (rd_bin' rfl rfl eg_int ru_add) rfl rfl (wt_none' rfl) ?_
                        refine sx_rd' (rd_move' rfl) rfl rfl (wt_none' rfl) ?_
                        refine sx_nil' ?_
                        show TX E (KY1 _) _
                        exact tx_pick' [0, 1] (sub_cons rfl (sub_cons rfl (sub_cons rfl (sub_cons rfl (sub_cons rfl sub_nil))))) (by decide) (pick_cons rfl (pick_cons rfl pick_nil)) (ih1 (r109.1, r109.2.1, r109.2.2, (iadd .i64 x38 1)) g109 _ hp)
                      · dsimp only at hp
                        refine sx_ox' (ox_calln' (ent_fn' Try.func30 isn30 rfl rfl) (hrec _ _ _ _ _ _ _ _ hr107 : Go.Sx.Fn Try.prog 30 [(Ag [(Vl (.int .i64 r103.f0)), (Vl (.int .i64 r103.f1)), (Vl (.int .i64 r103.f2)), (Sl Kf r103.f3), (Sl (Ki .i64) r103.f4), (Sl (Kl (Ki .i64)) r103.f5), (Sl KT27 r103.f6)])] [] (fun x : Addr × Gs => (If 70 (Vl (.pointer (some x.1))))) (fun x => [⟨.pointer (some x.1), [(Vl (.int .i64 y24.1)), (Vl (.int .i64 y24.2.1)), (Sl Kf y24.2.2.1), (Vl (.int .i64 y24.2.2.2.1)), (Sl (Ki .i64) y24.2.2.2.2)], 136, none⟩])) (Hn := fun x : Addr × Gs => [⟨.pointer (some x.1), [(Vl (.int .i64 y24.1)), (Vl (.int .i64 y24.2.1)), (Sl Kf y24.2.2.1), (Vl (.int .i64 y24.2.2.2.1)), (Sl (Ki .i64) y24.2.2.2.2)], 136, none⟩, ⟨.pointer (some q7), [(Vl (.int .i64 r103.f0)), (Vl (.int .i64 r103.f1)), (Vl (.int .i64 r103.f2)), (Sl Kf r103.f3), (Sl (Ki .i64) r103.f4), (Sl (Kl (Ki .i64)) r103.f5), (Sl KT27 r103.f6)], 27, none⟩, ⟨.pointer (some q94), [(Vl (.int .i64 x35)), (Vl (Vs g901)), (Vl (.int .i64 x37))], 114, none⟩, (Rw KG53 53 (Vs g901) x36)]) (fun _ => rfl) rfl rfl) (wt_none' rfl) fun ⟨q107, g107⟩ => ?_
                        refine tx_fz' (frz_var 0 [(107, (If 70 (Vl (.pointer (some q107)))), (If 70 (Pt [(Vl (.int .i64 y24.1)), (Vl (.int .i64 y24.2.1)), (Sl Kf y24.2.2.1), (Vl (.int .i64 y24.2.2.2.1)), (Sl (Ki .i64) y24.2.2.2.2)])))] rfl ⟨⟨rfl, frz_if⟩, trivial⟩ (H' := [⟨.pointer (some q7), [(Vl (.int .i64 r103.f0)), (Vl (.int .i64 r103.f1)), (Vl (.int .i64 r103.f2)), (Sl Kf r103.f3), (Sl (Ki .i64) r103.f4), (Sl (Kl (Ki .i64)) r103.f5), (Sl KT27 r103.f6)], 27, none⟩, ⟨.pointer (some q94), [(Vl (.int .i64 x35)), (Vl (Vs g901)), (Vl (.int .i64 x37))], 114, none⟩, (Rw KG53 53 (Vs g901) x36)]) frzH_refl) ?_
                        refine tx_slot' 107 (y := (SG53 (G53.c4 y24.1 y24.2.1 y24.2.2.1 y24.2.2.2.1 y24.2.2.2.2))) rfl (imp_eq (SG53_c4 y24.1 y24.2.1 y24.2.2.1 y24.2.2.2.1 y24.2.2.2.2).symm) ?_
                        refine sx_ox' (ox_rowlit' (K := KG53) (xs := [(G53.c4 y24.1 y24.2.1 y24.2.2.1 y24.2.2.2.1 y24.2.2.2.2)]) (qs := [(0, [(SG53 (G53.c4 y24.1 y24.2.1 y24.2.2.1 y24.2.2.2.1 y24.2.2.2.2))])]) ⟨rfl, ⟨_, rfl, (SG53_lv (G53.c4 y24.1 y24.2.1 y24.2.2.1 y24.2.2.2.1 y24.2.2.2.2))⟩, trivial⟩ Try.underlying112 info53 rfl rfl rfl rfl rfl (by kernel_rfl) rfl rfl rfl) (wt_none' rfl) fun g108 => ?_
                        refine tx_fz' (frz_row 0 [(108, (Vl (Vs g108)), (Sl KG53 ([(G53.c4 y24.1 y24.2.1 y24.2.2.1 y24.2.2.2.1 y24.2.2.2.2)])))] (K := KG53) (xs := [(G53.c4 y24.1 y24.2.1 y24.2.2.1 y24.2.2.2.1 y24.2.2.2.2)]) (by decide) rfl ⟨⟨rfl, frz_it⟩, trivial⟩ (H' := [⟨.pointer (some q7), [(Vl (.int .i64 r103.f0)), (Vl (.int .i64 r103.f1)), (Vl (.int .i64 r103.f2)), (Sl Kf r103.f3), (Sl (Ki .i64) r103.f4), (Sl (Kl (Ki .i64)) r103.f5), (Sl KT27 r103.f6)], 27, none⟩, ⟨.pointer (some q94), [(Vl (.int .i64 x35)), (Vl (Vs g901)), (Vl (.int .i64 x37))], 114, none⟩, (Rw KG53 53 (Vs g901) x36)]) frzH_refl) ?_
                        obtain ⟨r109, hr109, hp⟩ := bind_some hp
                        refine sx_ox' (ox_callg' (ent_fn' Try.func77 isn77 rfl rfl) (gogeom_GeometryCollection_MustPush_v2_sim _ _ _ _ hr109 : Go.Sx.Fn Try.prog 77 [(Vl (.pointer (some q94))), (Sl KG53 ([(G53.c4 y24.1 y24.2.1 y24.2.2.1 y24.2.2.2.1 y24.2.2.2.2)]))] [⟨.pointer (some q94), [(Vl (.int .i64 x35)), (Vl (Vs g901)), (Vl (.int .i64 x37))], 114, none⟩, (Rw KG53 53 (Vs g901) x36)] (fun x : Gs => (Vl (.pointer (some q94)))) (fun x => [⟨.pointer (some q94), [(Vl (.int .i64 r109.1)), (Vl (Vs x)), (Vl (.int .i64 r109.2.2))], 114, none⟩, (Rw KG53 53 (Vs x) r109.2.1)])) [1, 2] [0] (by decide) (pick_cons rfl (pick_cons rfl pick_nil)) (pick_cons rfl pick_nil) (Hn := fun x : Gs => [⟨.pointer (some q94), [(Vl (.int .i64 r109.1)), (Vl (Vs x)), (Vl (.int .i64 r109.2.2))], 114, none⟩, (Rw KG53 53 (Vs x) r109.2.1), ⟨.pointer (some q7), [(Vl (.int .i64 r103.f0)), (Vl (.int .i64 r103.f1)), (Vl (.int .i64 r103.f2)), (Sl Kf r103.f3), (Sl (Ki .i64) r103.f4), (Sl (Kl (Ki .i64)) r103.f5), (Sl KT27 r103.f6)], 27, none⟩]) (fun _ => rfl) rfl rfl) (wt_none' rfl) fun g109 => ?_
                        refine sx_nil' ?_
                        show TX E K30 _
                        refine tx_k' hK30 ?_
                        refine cx_region' ?_
                        refine sx_rd' (rd_bin' rfl rfl eg_int ru_add) rfl rfl (wt_none' rfl) ?_
                        refine sx_rd' (rd_move' rfl) rfl rfl (wt_none' rfl) ?_
                        refine sx_nil' ?_
                        show TX E (KY1 _) _
                        exact tx_pick' [0, 1] (sub_cons rfl (sub_cons rfl (sub_cons rfl (sub_cons rfl (sub_cons rfl sub_nil))))) (by decide) (pick_cons rfl (pick_cons rfl pick_nil)) (ih1 (r109.1, r109.2.1, r109.2.2, (iadd .i64 x38 1)) g109 _ hp)
                      · dsimp only at hp
                        refine sx_ox' (ox_calln' (ent_fn' Try.func30 isn30 rfl rfl) (hrec _ _ _ _ _ _ _ _ hr107 : Go.Sx.Fn Try.prog 30 [(Ag [(Vl (.int .i64 r103.f0)), (Vl (.int .i64 r103.f1)), (Vl (.int .i64 r103.f2)), (Sl Kf r103.f3), (Sl (Ki .i64) r103.f4), (Sl (Kl (Ki .i64)) r103.f5), (Sl KT27 r103.f6)])] [] (fun x : Addr × Gs => (If 73 (Vl (.pointer (some x.1))))) (fun x => [⟨.pointer (some x.1), [(Vl (.int .i64 y24.1)), (Vl (.int .i64 y24.2.1)), (Sl Kf y24.2.2.1), (Vl (.int .i64 y24.2.2.2.1)), (Sl (Ki .i64) y24.2.2.2.2)], 139, none⟩])) (Hn := fun x : Addr × Gs => [⟨.pointer (some x.1), [(Vl (.int .i64 y24.1)), (Vl (.int .i64 y24.2.1)), (Sl Kf y24.2.2.1), (Vl (.int .i64 y24.2.2.2.1)), (Sl (Ki .i64) y24.2.2.2.2)], 139, none⟩, ⟨.pointer (some q7), [(Vl (.int .i64 r103.f0)), (Vl (.int .i64 r103.f1)), (Vl (.int .i64 r103.f2)), (Sl Kf r103.f3), (Sl (Ki .i64) r103.f4), (Sl (Kl (Ki .i64)) r103.f5), (Sl KT27 r103.f6)], 27, none⟩, ⟨.pointer (some q94), [(Vl (.int .i64 x35)), (Vl (Vs g901)), (Vl (.int .i64 x37))], 114, none⟩, (Rw KG53 53 (Vs g901) x36)]) (fun _ => rfl) rfl rfl) (wt_none' rfl) fun ⟨q107, g107⟩ => ?_
                        refine tx_fz' (frz_var 0 [(107, (If 73 (Vl (.pointer (some q107)))), (If 73 (Pt [(Vl (.int .i64 y24.1)), (Vl (.int .i64 y24.2.1)), (Sl Kf y24.2.2.1), (Vl (.int .i64 y24.2.2.2.1)), (Sl (Ki .i64) y24.2.2.2.2)])))] rfl ⟨⟨rfl, frz_if⟩, trivial⟩ (H' := [⟨.pointer (some q7), [(Vl (.int .i64 r103.f0)), (Vl (.int .i64 r103.f1)), (Vl (.int .i64 r103.f2)), (Sl Kf r103.f3), (Sl (Ki .i64) r103.f4), (Sl (Kl (Ki .i64)) r103.f5), (Sl KT27 r103.f6)], 27, none⟩, ⟨.pointer (some q94), [(Vl (.int .i64 x35)), (Vl (Vs g901)), (Vl (.int .i64 x37))], 114, none⟩, (Rw KG53 53 (Vs g901) x36)]) frzH_refl) ?_
                        refine tx_slot' 107 (y := (SG53 (G53.c5 y24.1 y24.2.1 y24.2.2.1 y24.2.2.2.1 y24.2.2.2.2))) rfl (imp_eq (SG53_c5 y24.1 y24.2.1 y24.2.2.1 y24.2.2.2.1 y24.2.2.2.2).symm) ?_
                        refine sx_ox' (ox_rowlit' (K := KG53) (xs := [(G53.c5 y24.1 y24.2.1 y24.2.2.1 y24.2.2.2.1 y24.2.2.2.2)]) (qs := [(0, [(SG53 (G53.c5 y24.1 y24.2.1 y24.2.2.1 y24.2.2.2.1 y24.2.2.2.2))])]) ⟨rfl, ⟨_, rfl, (SG53_lv (G53.c5 y24.1 y24.2.1 y24.2.2.1 y24.2.2.2.1 y24.2.2.2.2))⟩, trivial⟩ Try.underlying112 info53 rfl rfl rfl rfl rfl (by kernel_rfl) rfl rfl rfl) (wt_none' rfl) fun g108 => ?_
                        refine tx_fz' (frz_row 0 [(108, (Vl (Vs g108)), (Sl KG53 ([(G53.c5 y24.1 y24.2.1 y24.2.2.1 y24.2.2.2.1 y24.2.2.2.2)])))] (K := KG53) (xs := [(G53.c5 y24.1 y24.2.1 y24.2.2.1 y24.2.2.2.1 y24.2.2.2.2)]) (by decide) rfl ⟨⟨rfl, frz_it⟩, trivial⟩ (H' := [⟨.pointer (some q7), [(Vl (.int .i64 r103.f0)), (Vl (.int .i64 r103.f1)), (Vl (.int .i64 r103.f2)), (Sl Kf r103.f3), (Sl (Ki .i64) r103.f4), (Sl (Kl (Ki .i64)) r103.f5), (Sl KT27 r103.f6)], 27, none⟩, ⟨.pointer (some q94), [(Vl (.int .i64 x35)), (Vl (Vs g901)), (Vl (.int .i64 x37))], 114, none⟩, (Rw KG53 53 (Vs g901) x36)]) frzH_refl) ?_
                        obtain ⟨r109, hr109, hp⟩ := bind_some hp
                        refine sx_ox' (ox_callg' (ent_fn' Try.func77 isn77 rfl rfl) (gogeom_GeometryCollection_MustPush_v2_sim _ _ _ _ hr109 : Go.Sx.Fn Try.prog 77 [(Vl (.pointer (some q94))), (Sl KG53 ([(G53.c5 y24.1 y24.2.1 y24.2.2.1 y24.2.2.2.1 y24.2.2.2.2)]))] [⟨.pointer (some q94), [(Vl (.int .i64 x35)), (Vl (Vs g901)), (Vl (.int .i64 x37))], 114, none⟩, (Rw KG53 53 (Vs g901) x36)] (fun x : Gs => (Vl (.pointer (some q94)))) (fun x => [⟨.pointer (some q94), [(Vl (.int .i64 r109.1)), (Vl (Vs x)), (Vl (.int .i64 r109.2.2))], 114, none⟩, (Rw KG53 53 (Vs x) r109.2.1)])) [1, 2] [0] (by decide) (pick_cons rfl (pick_cons rfl pick_nil)) (pick_cons rfl pick_nil) (Hn := fun x : Gs => [⟨.pointer (some q94), [(Vl (.int .i64 r109.1)), (Vl (Vs x)), (Vl (.int .i64 r109.2.2))], 114, none⟩, (Rw KG53 53 (Vs x) r109.2.1), ⟨.pointer (some q7), [(Vl (.int .i64 r103.f0)), (Vl (.int .i64 r103.f1)), (Vl (.int .i64 r103.f2)), (Sl Kf r103.f3), (Sl (Ki .i64) r103.f4), (Sl (Kl (Ki .i64)) r103.f5), (Sl KT27 r103.f6)], 27, none⟩]) (fun _ => rfl) rfl rfl) (wt_none' rfl) fun g109 => ?_
                        refine sx_nil' ?_
                        show TX E K30 _
                        refine tx_k' hK30 ?_
                        refine cx_region' ?_
                        refine sx_rd' (rd_bin' rfl rfl eg_int ru_add) rfl rfl (wt_none' rfl) ?_
                        refine sx_rd' (rd_move' rfl) rfl rfl (wt_none' rfl) ?_
                        refine sx_nil' ?_
                        show TX E (KY1 _) _
                        exact tx_pick' [0, 1] (sub_cons rfl (sub_cons rfl (sub_cons rfl (sub_cons rfl (sub_cons rfl sub_nil))))) (by decide) (pick_cons rfl (pick_cons rfl pick_nil)) (ih1 (r109.1, r109.2.1, r109.2.2, (iadd .i64 x38 1)) g109 _ hp)
                      · dsimp only at hp
                        refine sx_ox' (ox_calln' (ent_fn' Try.func30 isn30 rfl rfl) (hrec _ _ _ _ _ _ _ _ hr107 : Go.Sx.Fn Try.prog 30 [(Ag [(Vl (.int .i64 r103.f0)), (Vl (.int .i64 r103.f1)), (Vl (.int .i64 r103.f2)), (Sl Kf r103.f3), (Sl (Ki .i64) r103.f4), (Sl (Kl (Ki .i64)) r103.f5), (Sl KT27 r103.f6)])] [] (fun x : Addr × Gs => (If 76 (Vl (.pointer (some x.1))))) (fun x => [⟨.pointer (some x.1), [(Vl (.int .i64 y24.1)), (Vl (.int .i64 y24.2.1)), (Sl Kf y24.2.2.1), (Vl (.int .i64 y24.2.2.2.1)), (Sl (Kl (Ki .i64)) y24.2.2.2.2)], 143, none⟩])) (Hn := fun x : Addr × Gs => [⟨.pointer (some x.1), [(Vl (.int .i64 y24.1)), (Vl (.int .i64 y24.2.1)), (Sl Kf y24.2.2.1), (Vl (.int .i64 y24.2.2.2.1)), (Sl (Kl (Ki .i64)) y24.2.2.2.2)], 143, none⟩, ⟨.pointer (some q7), [(Vl (.int .i64 r103.f0)), (Vl (.int .i64 r103.f1)), (Vl (.int .i64 r103.f2)), (Sl Kf r103.f3), (Sl (Ki .i64) r103.f4), (Sl (Kl (Ki .i64)) r103.f5), (Sl KT27 r103.f6)], 27, none⟩, ⟨.pointer (some q94), [(Vl (.int .i64 x35)), (Vl (Vs g901)), (Vl (.int .i64 x37))], 114, none⟩, (Rw KG53 53 (Vs g901) x36)]) (fun _ => rfl) rfl rfl) (wt_none' rfl) fun ⟨q107, g107⟩ => ?_
                        refine tx_fz' (frz_var 0 [(107, (If 76 (Vl (.pointer (some q107)))), (If 76 (Pt [(Vl (.int .i64 y24.1)), (Vl (.int .i64 y24.2.1)), (Sl Kf y24.2.2.1), (Vl (.int .i64 y24.2.2.2.1)), (Sl (Kl (Ki .i64)) y24.2.2.2.2)])))] rfl ⟨⟨rfl, frz_if⟩, trivial⟩ (H' := [⟨.pointer (some q7), [(Vl (.int .i64 r103.f0)), (Vl (.int .i64 r103.f1)), (Vl (.int .i64 r103.f2)), (Sl Kf r103.f3), (Sl (Ki .i64) r103.f4), (Sl (Kl (Ki .i64)) r103.f5), (Sl KT27 r103.f6)], 27, none⟩, ⟨.pointer (some q94), [(Vl (.int .i64 x35)), (Vl (Vs g901)), (Vl (.int .i64 x37))], 114, none⟩, (Rw KG53 53 (Vs g901) x36)]) frzH_refl) ?_
                        refine tx_slot' 107 (y := (SG53 (G53.c6 y24.1 y24.2.1 y24.2.2.1 y24.2.2.2.1 y24.2.2.2.2))) rfl (imp_eq (SG53_c6 y24.1 y24.2.1 y24.2.2.1 y24.2.2.2.1 y24.2.2.2.2).symm) ?_
                        refine sx_ox' (ox_rowlit' (K := KG53) (xs := [(G53.c6 y24.1 y24.2.1 y24.2.2.1 y24.2.2.2.1 y24.2.2.2.2)]) (qs := [(0, [(SG53 (G53.c6 y24.1 y24.2.1 y24.2.2.1 y24.2.2.2.1 y24.2.2.2.2))])]) ⟨rfl, ⟨_, rfl, (SG53_lv (G53.c6 y24.1 y24.2.1 y24.2.2.1 y24.2.2.2.1 y24.2.2.2.2))⟩, trivial⟩ Try.underlying112 info53 rfl rfl rfl rfl rfl (by kernel_rfl) rfl rfl rfl) (wt_none' rfl) fun g108 => ?_
                        refine tx_fz' (frz_row 0 [(108, (Vl (Vs g108)), (Sl KG53 ([(G53.c6 y24.1 y24.2.1 y24.2.2.1 y24.2.2.2.1 y24.2.2.2.2)])))] (K := KG53) (xs := [(G53.c6 y24.1 y24.2.1 y24.2.2.1 y24.2.2.2.1 y24.2.2.2.2)]) (by decide) rfl ⟨⟨rfl, frz_it⟩, trivial⟩ (H' := [⟨.pointer (some q7), [(Vl (.int .i64 r103.f0)), (Vl (.int .i64 r103.f1)), (Vl (.int .i64 r103.f2)), (Sl Kf r103.f3), (Sl (Ki .i64) r103.f4), (Sl (Kl (Ki .i64)) r103.f5), (Sl KT27 r103.f6)], 27, none⟩, ⟨.pointer (some q94), [(Vl (.int .i64 x35)), (Vl (Vs g901)), (Vl (.int .i64 x37))], 114, none⟩, (Rw KG53 53 (Vs g901) x36)]) frzH_refl) ?_
                        obtain ⟨r109, hr109, hp⟩ := bind_some hp
                        refine sx_ox' (ox_callg' (ent_fn' Try.func77 isn77 rfl rfl) (gogeom_GeometryCollection_MustPush_v2_sim _ _ _ _ hr109 : Go.Sx.Fn Try.prog 77 [(Vl (.pointer (some q94))), (Sl KG53 ([(G53.c6 y24.1 y24.2.1 y24.2.2.1 y24.2.2.2.1 y24.2.2.2.2)]))] [⟨.pointer (some q94), [(Vl (.int .i64 x35)), (Vl (Vs g901)), (Vl (.int .i64 x37))], 114, none⟩, (Rw KG53 53 (Vs g901) x36)] (fun x : Gs => (Vl (.pointer (some q94)))) (fun x => [⟨.pointer (some q94), [(Vl (.int .i64 r109.1)), (Vl (Vs x)), (Vl (.int .i64 r109.2.2))], 114, none⟩, (Rw KG53 53 (Vs x) r109.2.1)])) [1, 2] [0] (by decide) (pick_cons rfl (pick_cons rfl pick_nil)) (pick_cons rfl pick_nil) (Hn := fun x : Gs => [⟨.pointer (some q94), [(Vl (.int .i64 r109.1)), (Vl (Vs x)), (Vl (.int .i64 r109.2.2))], 114, none⟩, (Rw KG53 53 (Vs x) r109.2.1), ⟨.pointer (some q7), [(Vl (.int .i64 r103.f0)), (Vl (.int .i64 r103.f1)), (Vl (.int .i64 r103.f2)), (Sl Kf r103.f3), (Sl (Ki .i64) r103.f4), (Sl (Kl (Ki .i64)) r103.f5), (Sl KT27 r103.f6)], 27, none⟩]) (fun _ => rfl) rfl rfl) (wt_none' rfl) fun g109 => ?_
                        refine sx_nil' ?_
                        show TX E K30 _
                        refine tx_k' hK30 ?_
                        refine cx_region' ?_
                        refine sx_rd' (rd_bin' rfl rfl eg_int ru_add) rfl rfl (wt_none' rfl) ?_
                        refine sx_rd' (rd_move' rfl) rfl rfl (wt_none' rfl) ?_
                        refine sx_nil' ?_
                        show TX E (KY1 _) _
                        exact tx_pick' [0, 1] (sub_cons rfl (sub_cons rfl (sub_cons rfl (sub_cons rfl (sub_cons rfl sub_nil))))) (by decide) (pick_cons rfl (pick_cons rfl pick_nil)) (ih1 (r109.1, r109.2.1, r109.2.2, (iadd .i64 x38 1)) g109 _ hp)
                      · dsimp only at hp
                        refine sx_ox' (ox_calln' (ent_fn' Try.func30 isn30 rfl rfl) (hrec _ _ _ _ _ _ _ _ hr107 : Go.Sx.Fn Try.prog 30 [(Ag [(Vl (.int .i64 r103.f0)), (Vl (.int .i64 r103.f1)), (Vl (.int .i64 r103.f2)), (Sl Kf r103.f3), (Sl (Ki .i64) r103.f4), (Sl (Kl (Ki .i64)) r103.f5), (Sl KT27 r103.f6)])] [] (fun x : Addr × Gs => (If 57 (Vl (.pointer (some x.1))))) (fun x => [⟨.pointer (some x.1), [(Vl (.int .i64 y24.1)), (Vl (Vs x.2)), (Vl (.int .i64 y24.2.2))], 114, none⟩, (Rw KG53 53 (Vs x.2) y24.2.1)])) (Hn := fun x : Addr × Gs => [⟨.pointer (some x.1), [(Vl (.int .i64 y24.1)), (Vl (Vs x.2)), (Vl (.int .i64 y24.2.2))], 114, none⟩, (Rw KG53 53 (Vs x.2) y24.2.1), ⟨.pointer (some q7), [(Vl (.int .i64 r103.f0)), (Vl (.int .i64 r103.f1)), (Vl (.int .i64 r103.f2)), (Sl Kf r103.f3), (Sl (Ki .i64) r103.f4), (Sl (Kl (Ki .i64)) r103.f5), (Sl KT27 r103.f6)], 27, none⟩, ⟨.pointer (some q94), [(Vl (.int .i64 x35)), (Vl (Vs g901)), (Vl (.int .i64 x37))], 114, none⟩, (Rw KG53 53 (Vs g901) x36)]) (fun _ => rfl) rfl rfl) (wt_none' rfl) fun ⟨q107, g107⟩ => ?_
                        refine tx_fz' (frz_row 1 [] (K := KG53) (xs := y24.2.1) (by decide) rfl trivial (H' := [⟨.pointer (some q107), [(Vl (.int .i64 y24.1)), (Sl KG53 y24.2.1), (Vl (.int .i64 y24.2.2))], 114, none⟩, ⟨.pointer (some q7), [(Vl (.int .i64 r103.f0)), (Vl (.int .i64 r103.f1)), (Vl (.int .i64 r103.f2)), (Sl Kf r103.f3), (Sl (Ki .i64) r103.f4), (Sl (Kl (Ki .i64)) r103.f5), (Sl KT27 r103.f6)], 27, none⟩, ⟨.pointer (some q94), [(Vl (.int .i64 x35)), (Vl (Vs g901)), (Vl (.int .i64 x37))], 114, none⟩, (Rw KG53 53 (Vs g901) x36)]) (frzH_cons rfl rfl rfl (frzL_cons frz_same (frzL_cons frz_it (frzL_cons frz_same frzL_refl))) (frzH_cons rfl rfl rfl frzL_refl (frzH_cons rfl rfl rfl frzL_refl (frzH_cons rfl rfl rfl frzL_refl frzH_refl))))) ?_
                        refine tx_fz' (frz_var 0 [(107, (If 57 (Vl (.pointer (some q107)))), (If 57 (Pt [(Vl (.int .i64 y24.1)), (Sl KG53 y24.2.1), (Vl (.int .i64 y24.2.2))])))] rfl ⟨⟨rfl, frz_if⟩, trivial⟩ (H' := [⟨.pointer (some q7), [(Vl (.int .i64 r103.f0)), (Vl (.int .i64 r103.f1)), (Vl (.int .i64 r103.f2)), (Sl Kf r103.f3), (Sl (Ki .i64) r103.f4), (Sl (Kl (Ki .i64)) r103.f5), (Sl KT27 r103.f6)], 27, none⟩, ⟨.pointer (some q94), [(Vl (.int .i64 x35)), (Vl (Vs g901)), (Vl (.int .i64 x37))], 114, none⟩, (Rw KG53 53 (Vs g901) x36)]) frzH_refl) ?_
                        refine tx_slot' 107 (y := (SG53 (G53.c7 y24.1 y24.2.1 y24.2.2))) rfl (imp_eq (SG53_c7 y24.1 y24.2.1 y24.2.2).symm) ?_
                        refine sx_ox' (ox_rowlit' (K := KG53) (xs := [(G53.c7 y24.1 y24.2.1 y24.2.2)]) (qs := [(0, [(SG53 (G53.c7 y24.1 y24.2.1 y24.2.2))])]) ⟨rfl, ⟨_, rfl, (SG53_lv (G53.c7 y24.1 y24.2.1 y24.2.2))⟩, trivial⟩ Try.underlying112 info53 rfl rfl rfl rfl rfl (by kernel_rfl) rfl rfl rfl) (wt_none' rfl) fun g108 => ?_
                        refine tx_fz' (frz_row 0 [(108, (Vl (Vs g108)), (Sl KG53 ([(G53.c7 y24.1 y24.2.1 y24.2.2)])))] (K := KG53) (xs := [(G53.c7 y24.1 y24.2.1 y24.2.2)]) (by decide) rfl ⟨⟨rfl, frz_it⟩, trivial⟩ (H' := [⟨.pointer (some q7), [(Vl (.int .i64 r103.f0)), (Vl (.int .i64 r103.f1)), (Vl (.int .i64 r103.f2)), (Sl Kf r103.f3), (Sl (Ki .i64) r103.f4), (Sl (Kl (Ki .i64)) r103.f5), (Sl KT27 r103.f6)], 27, none⟩, ⟨.pointer (some q94), [(Vl (.int .i64 x35)), (Vl (Vs g901)), (Vl (.int .i64 x37))], 114, none⟩, (Rw KG53 53 (Vs g901) x36)]) frzH_refl) ?_
                        obtain ⟨r109, hr109, hp⟩ := bind_some hp
                        refine sx_ox' (ox_callg' (ent_fn' Try.func77 isn77 rfl rfl) (gogeom_GeometryCollection_MustPush_v2_sim _ _ _ _ hr109 : Go.Sx.Fn Try.prog 77 [(Vl (.pointer (some q94))), (Sl KG53 ([(G53.c7 y24.1 y24.2.1 y24.2.2)]))] [⟨.pointer (some q94), [(Vl (.int .i64 x35)), (Vl (Vs g901)), (Vl (.int .i64 x37))], 114, none⟩, (Rw KG53 53 (Vs g901) x36)] (fun x : Gs => (Vl (.pointer (some q94)))) (fun x => [⟨.pointer (some q94), [(Vl (.int .i64 r109.1)), (Vl (Vs x)), (Vl (.int .i64 r109.2.2))], 114, none⟩, (Rw KG53 53 (Vs x) r109.2.1)])) [1, 2] [0] (by decide) (pick_cons rfl (pick_cons rfl pick_nil)) (pick_cons rfl pick_nil) (Hn := fun x : Gs => [⟨.pointer (some q94), [(Vl (.int .i64 r109.1)), (Vl (Vs x)), (Vl (.int .i64 r109.2.2))], 114, none⟩, (Rw KG53 53 (Vs x) r109.2.1), ⟨.pointer (some q7), [(Vl (.int .i64 r103.f0)), (Vl (.int .i64 r103.f1)), (Vl (.int .i64 r103.f2)), (Sl Kf r103.f3), (Sl (Ki .i64) r103.f4), (Sl (Kl (Ki .i64)) r103.f5), (Sl KT27 r103.f6)], 27, none⟩]) (fun _ => rfl) rfl rfl) (wt_none' rfl) fun g109 => ?_
                        refine sx_nil' ?_
                        show TX E K30 _
                        refine tx_k' hK30 ?_
                        refine cx_region' ?_
                        refine sx_rd' (rd_bin' rfl rfl eg_int ru_add) rfl rfl (wt_none' rfl) ?_
                        refine sx_rd' (rd_move' rfl) rfl rfl (wt_none' rfl) ?_
                        refine sx_nil' ?_
                        show TX E (KY1 _) _
                        exact tx_pick' [0, 1] (sub_cons rfl (sub_cons rfl (sub_cons rfl (sub_cons rfl (sub_cons rfl sub_nil))))) (by decide) (pick_cons rfl (pick_cons rfl pick_nil)) (ih1 (r109.1, r109.2.1, r109.2.2, (iadd .i64 x38 1)) g109 _ hp)
                    · replace hp := (br_f h11).symm.trans hp
                      refine cx_exit' ?_
                      replace hp := Option.some.inj hp
                      subst hp
                      show TX E (Zg E (Exit.exit 1) _ (Exit.exit 1)) _
                      exact tx_zend' g901 rfl [0, 1] (sub_cons rfl (sub_cons rfl sub_nil)) (by decide) (pick_cons rfl (pick_cons rfl pick_nil))
                  · refine zg_out fun w10 => ?_
                    show TX E K21 _
                    refine tx_k' hK21 ?_
                    refine cx_seq' fun K27 hK27 => ?_
                    refine cx_region' ?_
                    refine sx_rd' (rd_move' rfl) rfl rfl (wt_none' rfl) ?_
                    refine sx_rd' (rd_move' rfl) rfl rfl (wt_none' rfl) ?_
                    obtain ⟨r113, hr113, hp⟩ := bind_some hp
                    refine sx_ox' (ox_callg' (ent_fn' Try.func78 isn78 rfl rfl) (gogeom_GeometryCollection_MustSetLayout_v2_sim _ _ _ _ hr113 : Go.Sx.Fn Try.prog 78 [(Vl (.pointer (some q94))), (Vl (.int .i64 a0_1))] [⟨.pointer (some q94), [(Vl (.int .i64 v10.1)), (Vl (Vs w10)), (Vl (.int .i64 v10.2.2))], 114, none⟩, (Rw KG53 53 (Vs w10) v10.2.1)] (fun x : Unit => (Vl (.pointer (some q94)))) (fun x => [⟨.pointer (some q94), [(Vl (.int .i64 r113.1)), (Vl (Vs w10)), (Vl (.int .i64 r113.2.2))], 114, none⟩, (Rw KG53 53 (Vs w10) r113.2.1)])) [0, 1] [] (by decide) (pick_cons rfl (pick_cons rfl pick_nil)) pick_nil (Hn := fun x : Unit => [⟨.pointer (some q94), [(Vl (.int .i64 r113.1)), (Vl (Vs w10)), (Vl (.int .i64 r113.2.2))], 114, none⟩, (Rw KG53 53 (Vs w10) r113.2.1)]) (fun _ => rfl) rfl rfl) (wt_none' rfl) fun ⟨⟩ => ?_
                    refine sx_rd' (rd_iface' rfl ⟨_, Try.underlying57, fun _ h => (nomatch h)⟩) rfl rfl (wt_none' rfl) ?_
                    refine sx_rd' (rd_assign' rfl) rfl rfl (wt_none' rfl) ?_
                    refine sx_nil' ?_
                    show TX E K27 _
                    refine tx_k' hK27 ?_
                    refine cx_retc' ?_
                    replace hp := Option.some.inj hp
                    subst hp
                    refine tx_pick' (L' := [(2, (If 57 (Vl (.pointer (some q94)))))]) (H' := [⟨.pointer (some q94), [(Vl (.int .i64 r113.1)), (Vl (Vs w10)), (Vl (.int .i64 r113.2.2))], 114, none⟩, (Rw KG53 53 (Vs w10) r113.2.1)]) [0, 1] (sub_cons rfl sub_nil) (by decide) (pick_cons rfl (pick_cons rfl pick_nil)) ?_
                    exact tx_ret1' Try.results30 rfl (q94, w10) (rv_tmp' rfl) (List.Sublist.refl _)
                · replace hp := (br_f h8).symm.trans hp
                  refine cx_skip' ?_
                  show TX E K3 _
                  refine tx_k' hK3 ?_
                  refine cx_region' ?_
                  refine sx_rd' (rd_iface' rfl ⟨_, Try.underlying9, fun _ h => (nomatch h)⟩) rfl rfl (wt_none' rfl) ?_
                  cases hp
theorem impl_geometry_simA : ∀ (k : Nat)  (a0_0 : Int) (a0_1 : Int) (a0_2 : Int) (a0_3 : List Nat) (a0_4 : List Int) (a0_5 : List (List Int)) (a0_6 : List T27) (out : (Int × Int × (List Nat) × Int) ⊕ ((Int × Int × (List Nat) × Int) ⊕ ((Int × Int × (List Nat) × Int) ⊕ ((Int × Int × (List Nat) × Int × (List Int)) ⊕ ((Int × Int × (List Nat) × Int × (List Int)) ⊕ ((Int × Int × (List Nat) × Int × (List Int)) ⊕ ((Int × Int × (List Nat) × Int × (List (List Int))) ⊕ (Int × (List G53) × Int)))))))), impl_geometry k a0_0 a0_1 a0_2 a0_3 a0_4 a0_5 a0_6 = some out → Go.Sx.Fn Try.prog 30 [(Ag [(Vl (.int .i64 a0_0)), (Vl (.int .i64 a0_1)), (Vl (.int .i64 a0_2)), (Sl Kf a0_3), (Sl (Ki .i64) a0_4), (Sl (Kl (Ki .i64)) a0_5), (Sl KT27 a0_6)])] [] (fun w => impl_geometry_r a0_0 a0_1 a0_2 a0_3 a0_4 a0_5 a0_6 out w) (fun w => impl_geometry_h a0_0 a0_1 a0_2 a0_3 a0_4 a0_5 a0_6 out w) := by
  intro k
  induction k with
  | zero => intro a0_0 a0_1 a0_2 a0_3 a0_4 a0_5 a0_6 out hp; cases hp
  | succ k ih => intro a0_0 a0_1 a0_2 a0_3 a0_4 a0_5 a0_6 out hp; exact impl_geometry_b_sim ih a0_0 a0_1 a0_2 a0_3 a0_4 a0_5 a0_6 hp
theorem impl_geometry_sim {k : Nat}  (a0_0 : Int) (a0_1 : Int) (a0_2 : Int) (a0_3 : List Nat) (a0_4 : List Int) (a0_5 : List (List Int)) (a0_6 : List T27) {out : (Int × Int × (List Nat) × Int) ⊕ ((Int × Int × (List Nat) × Int) ⊕ ((Int × Int × (List Nat) × Int) ⊕ ((Int × Int × (List Nat) × Int × (List Int)) ⊕ ((Int × Int × (List Nat) × Int × (List Int)) ⊕ ((Int × Int × (List Nat) × Int × (List Int)) ⊕ ((Int × Int × (List Nat) × Int × (List (List Int))) ⊕ (Int × (List G53) × Int)))))))} (hp : impl_geometry k a0_0 a0_1 a0_2 a0_3 a0_4 a0_5 a0_6 = some out) : Go.Sx.Fn Try.prog 30 [(Ag [(Vl (.int .i64 a0_0)), (Vl (.int .i64 a0_1)), (Vl (.int .i64 a0_2)), (Sl Kf a0_3), (Sl (Ki .i64) a0_4), (Sl (Kl (Ki .i64)) a0_5), (Sl KT27 a0_6)])] [] (fun w => impl_geometry_r a0_0 a0_1 a0_2 a0_3 a0_4 a0_5 a0_6 out w) (fun w => impl_geometry_h a0_0 a0_1 a0_2 a0_3 a0_4 a0_5 a0_6 out w) := impl_geometry_simA k a0_0 a0_1 a0_2 a0_3 a0_4 a0_5 a0_6 out hp

def gogeom_geom0_Endss (k : Nat) (a0_0 : Int) (a0_1 : Int) (a0_2 : List Nat) (a0_3 : Int) : Option (Int × Int × (List Nat) × Int) :=
  some (a0_0, a0_1, a0_2, a0_3)

theorem gogeom_geom0_Endss_sim {k : Nat} {wa0 : Addr} (a0_0 : Int) (a0_1 : Int) (a0_2 : List Nat) (a0_3 : Int) {out : Int × Int × (List Nat) × Int} (hp : gogeom_geom0_Endss k a0_0 a0_1 a0_2 a0_3 = some out) : Go.Sx.Fn Try.prog 132 [(Vl (.pointer (some wa0)))] [⟨.pointer (some wa0), [(Vl (.int .i64 a0_0)), (Vl (.int .i64 a0_1)), (Sl Kf a0_2), (Vl (.int .i64 a0_3))], 135, none⟩] (fun w : Unit => (Vl (.slice none 0 0))) (fun w => [⟨.pointer (some wa0), [(Vl (.int .i64 out.1)), (Vl (.int .i64 out.2.1)), (Sl Kf out.2.2.1), (Vl (.int .i64 out.2.2.2))], 135, none⟩]) := by
  unfold gogeom_geom0_Endss at hp
  refine fn_of Try.func132 rfl Try.ntmps132 rfl fun E hM => ?_
  refine cx_seq' fun K1 hK1 => ?_
  refine cx_region' ?_
  refine sx_rd' (rd_assign' rfl) rfl rfl (wt_none' rfl) ?_
  refine sx_nil' ?_
  show TX E K1 _
  refine tx_k' hK1 ?_
  refine cx_seq' fun K2 hK2 => ?_
  refine cx_region' ?_
  refine sx_rd' (rd_assign' rfl) rfl rfl (wt_none' rfl) ?_
  refine sx_nil' ?_
  show TX E K2 _
  refine tx_k' hK2 ?_
  refine cx_retc' ?_
  replace hp := Option.some.inj hp
  subst hp
  refine tx_pick' (L' := [(2, (Vl (.slice none 0 0)))]) (H' := [⟨.pointer (some wa0), [(Vl (.int .i64 a0_0)), (Vl (.int .i64 a0_1)), (Sl Kf a0_2), (Vl (.int .i64 a0_3))], 135, none⟩]) [0] (sub_cons rfl sub_nil) (by decide) (pick_cons rfl pick_nil) ?_
  exact tx_ret1' Try.results132 rfl () (rv_tmp' rfl) (List.Sublist.refl _)

def impl_intss_v2 (k : Nat)  : Option (Unit) :=
  some ()

theorem impl_intss_v2_sim {k : Nat}   {out : Unit} (hp : impl_intss_v2 k = some out) : Go.Sx.Fn Try.prog 29 [(Vl (.slice none 0 0))] [] (fun w : Unit => (Vl (.slice none 0 0))) (fun w => []) := by
  unfold impl_intss_v2 at hp
  refine fn_of Try.func29 rfl Try.ntmps29 rfl fun E hM => ?_
  refine cx_seq' fun K1 hK1 => ?_
  refine cx_region' ?_
  refine sx_rd' (rd_assign' rfl) rfl rfl (wt_none' rfl) ?_
  refine sx_nil' ?_
  show TX E K1 _
  refine tx_k' hK1 ?_
  refine cx_seq' fun K2 hK2 => ?_
  refine cx_region' ?_
  refine sx_rd' (rd_assign' rfl) rfl rfl (wt_none' rfl) ?_
  refine sx_nil' ?_
  show TX E K2 _
  refine tx_k' hK2 ?_
  refine cx_seq' fun K3 hK3 => ?_
  refine cx_seq' fun K4 hK4 => ?_
  refine cx_region' ?_
  refine sx_rd' (rd_move' rfl) rfl rfl (wt_none' rfl) ?_
  refine sx_rd' (rd_lenv' rfl Try.underlying24) rfl rfl (wt_none' rfl) ?_
  refine sx_rd' (rd_move' rfl) rfl rfl (wt_none' rfl) ?_
  refine sx_nil' ?_
  show TX E K4 _
  refine tx_k' hK4 ?_
  refine cx_block' ?_
  refine tx_loop' ?_
  refine tx_round' ?_
  refine cx_seq' fun K5 hK5 => ?_
  refine cx_region' ?_
  refine sx_rd' (rd_bin' rfl rfl eg_int ru_lss) rfl rfl (wt_none' rfl) ?_
  refine sx_nil' ?_
  show TX E K5 _
  refine tx_k' hK5 ?_
  refine cx_seq' fun K6 hK6 => ?_
  refine cx_cond_f' rfl rfl ?_
  refine cx_exit' ?_
  show TX E K3 _
  refine tx_k' hK3 ?_
  refine cx_seq' fun K7 hK7 => ?_
  refine cx_region' ?_
  refine sx_rd' (rd_move' rfl) rfl rfl (wt_none' rfl) ?_
  refine sx_rd' (rd_assign' rfl) rfl rfl (wt_none' rfl) ?_
  refine sx_nil' ?_
  show TX E K7 _
  refine tx_k' hK7 ?_
  refine cx_retc' ?_
  replace hp := Option.some.inj hp
  subst hp
  refine tx_pick' (L' := [(2, (Vl (.slice none 0 0)))]) (H' := []) [] (sub_cons rfl sub_nil) (by decide) pick_nil ?_
  exact tx_ret1' Try.results29 rfl () (rv_tmp' rfl) (List.Sublist.refl _)

def gogeom_geom0_Endss_v2 (k : Nat) (a0_0 : Int) (a0_1 : Int) (a0_2 : List Nat) (a0_3 : Int) : Option (Int × Int × (List Nat) × Int) :=
  some (a0_0, a0_1, a0_2, a0_3)

theorem gogeom_geom0_Endss_v2_sim {k : Nat} {wa0 : Addr} (a0_0 : Int) (a0_1 : Int) (a0_2 : List Nat) (a0_3 : Int) {out : Int × Int × (List Nat) × Int} (hp : gogeom_geom0_Endss_v2 k a0_0 a0_1 a0_2 a0_3 = some out) : Go.Sx.Fn Try.prog 132 [(Vl (.pointer (some wa0)))] [⟨.pointer (some wa0), [(Vl (.int .i64 a0_0)), (Vl (.int .i64 a0_1)), (Sl Kf a0_2), (Vl (.int .i64 a0_3))], 138, none⟩] (fun w : Unit => (Vl (.slice none 0 0))) (fun w => [⟨.pointer (some wa0), [(Vl (.int .i64 out.1)), (Vl (.int .i64 out.2.1)), (Sl Kf out.2.2.1), (Vl (.int .i64 out.2.2.2))], 138, none⟩]) := by
  unfold gogeom_geom0_Endss_v2 at hp
  refine fn_of Try.func132 rfl Try.ntmps132 rfl fun E hM => ?_
  refine cx_seq' fun K1 hK1 => ?_
  refine cx_region' ?_
  refine sx_rd' (rd_assign' rfl) rfl rfl (wt_none' rfl) ?_
  refine sx_nil' ?_
  show TX E K1 _
  refine tx_k' hK1 ?_
  refine cx_seq' fun K2 hK2 => ?_
  refine cx_region' ?_
  refine sx_rd' (rd_assign' rfl) rfl rfl (wt_none' rfl) ?_
  refine sx_nil' ?_
  show TX E K2 _
  refine tx_k' hK2 ?_
  refine cx_retc' ?_
  replace hp := Option.some.inj hp
  subst hp
  refine tx_pick' (L' := [(2, (Vl (.slice none 0 0)))]) (H' := [⟨.pointer (some wa0), [(Vl (.int .i64 a0_0)), (Vl (.int .i64 a0_1)), (Sl Kf a0_2), (Vl (.int .i64 a0_3))], 138, none⟩]) [0] (sub_cons rfl sub_nil) (by decide) (pick_cons rfl pick_nil) ?_
  exact tx_ret1' Try.results132 rfl () (rv_tmp' rfl) (List.Sublist.refl _)

def gogeom_geom0_Endss_v3 (k : Nat) (a0_0 : Int) (a0_1 : Int) (a0_2 : List Nat) (a0_3 : Int) : Option (Int × Int × (List Nat) × Int) :=
  some (a0_0, a0_1, a0_2, a0_3)

theorem gogeom_geom0_Endss_v3_sim {k : Nat} {wa0 : Addr} (a0_0 : Int) (a0_1 : Int) (a0_2 : List Nat) (a0_3 : Int) {out : Int × Int × (List Nat) × Int} (hp : gogeom_geom0_Endss_v3 k a0_0 a0_1 a0_2 a0_3 = some out) : Go.Sx.Fn Try.prog 132 [(Vl (.pointer (some wa0)))] [⟨.pointer (some wa0), [(Vl (.int .i64 a0_0)), (Vl (.int .i64 a0_1)), (Sl Kf a0_2), (Vl (.int .i64 a0_3))], 128, none⟩] (fun w : Unit => (Vl (.slice none 0 0))) (fun w => [⟨.pointer (some wa0), [(Vl (.int .i64 out.1)), (Vl (.int .i64 out.2.1)), (Sl Kf out.2.2.1), (Vl (.int .i64 out.2.2.2))], 128, none⟩]) := by
  unfold gogeom_geom0_Endss_v3 at hp
  refine fn_of Try.func132 rfl Try.ntmps132 rfl fun E hM => ?_
  refine cx_seq' fun K1 hK1 => ?_
  refine cx_region' ?_
  refine sx_rd' (rd_assign' rfl) rfl rfl (wt_none' rfl) ?_
  refine sx_nil' ?_
  show TX E K1 _
  refine tx_k' hK1 ?_
  refine cx_seq' fun K2 hK2 => ?_
  refine cx_region' ?_
  refine sx_rd' (rd_assign' rfl) rfl rfl (wt_none' rfl) ?_
  refine sx_nil' ?_
  show TX E K2 _
  refine tx_k' hK2 ?_
  refine cx_retc' ?_
  replace hp := Option.some.inj hp
  subst hp
  refine tx_pick' (L' := [(2, (Vl (.slice none 0 0)))]) (H' := [⟨.pointer (some wa0), [(Vl (.int .i64 a0_0)), (Vl (.int .i64 a0_1)), (Sl Kf a0_2), (Vl (.int .i64 a0_3))], 128, none⟩]) [0] (sub_cons rfl sub_nil) (by decide) (pick_cons rfl pick_nil) ?_
  exact tx_ret1' Try.results132 rfl () (rv_tmp' rfl) (List.Sublist.refl _)

def gogeom_geom0_Endss_v4 (k : Nat) (a0_0 : Int) (a0_1 : Int) (a0_2 : List Nat) (a0_3 : Int) (a0_4 : List Int) : Option (Int × Int × (List Nat) × Int × (List Int)) :=
  some (a0_0, a0_1, a0_2, a0_3, a0_4)

theorem gogeom_geom0_Endss_v4_sim {k : Nat} {wa0 : Addr} (a0_0 : Int) (a0_1 : Int) (a0_2 : List Nat) (a0_3 : Int) (a0_4 : List Int) {out : Int × Int × (List Nat) × Int × (List Int)} (hp : gogeom_geom0_Endss_v4 k a0_0 a0_1 a0_2 a0_3 a0_4 = some out) : Go.Sx.Fn Try.prog 132 [(Vl (.pointer (some wa0)))] [⟨.pointer (some wa0), [(Vl (.int .i64 a0_0)), (Vl (.int .i64 a0_1)), (Sl Kf a0_2), (Vl (.int .i64 a0_3)), (Sl (Ki .i64) a0_4)], 132, none⟩] (fun w : Unit => (Vl (.slice none 0 0))) (fun w => [⟨.pointer (some wa0), [(Vl (.int .i64 out.1)), (Vl (.int .i64 out.2.1)), (Sl Kf out.2.2.1), (Vl (.int .i64 out.2.2.2.1)), (Sl (Ki .i64) out.2.2.2.2)], 132, none⟩]) := by
  unfold gogeom_geom0_Endss_v4 at hp
  refine fn_of Try.func132 rfl Try.ntmps132 rfl fun E hM => ?_
  refine cx_seq' fun K1 hK1 => ?_
  refine cx_region' ?_
  refine sx_rd' (rd_assign' rfl) rfl rfl (wt_none' rfl) ?_
  refine sx_nil' ?_
  show TX E K1 _
  refine tx_k' hK1 ?_
  refine cx_seq' fun K2 hK2 => ?_
  refine cx_region' ?_
  refine sx_rd' (rd_assign' rfl) rfl rfl (wt_none' rfl) ?_
  refine sx_nil' ?_
  show TX E K2 _
  refine tx_k' hK2 ?_
  refine cx_retc' ?_
  replace hp := Option.some.inj hp
  subst hp
  refine tx_pick' (L' := [(2, (Vl (.slice none 0 0)))]) (H' := [⟨.pointer (some wa0), [(Vl (.int .i64 a0_0)), (Vl (.int .i64 a0_1)), (Sl Kf a0_2), (Vl (.int .i64 a0_3)), (Sl (Ki .i64) a0_4)], 132, none⟩]) [0] (sub_cons rfl sub_nil) (by decide) (pick_cons rfl pick_nil) ?_
  exact tx_ret1' Try.results132 rfl () (rv_tmp' rfl) (List.Sublist.refl _)

def gogeom_geom0_Endss_v5 (k : Nat) (a0_0 : Int) (a0_1 : Int) (a0_2 : List Nat) (a0_3 : Int) (a0_4 : List Int) : Option (Int × Int × (List Nat) × Int × (List Int)) :=
  some (a0_0, a0_1, a0_2, a0_3, a0_4)

theorem gogeom_geom0_Endss_v5_sim {k : Nat} {wa0 : Addr} (a0_0 : Int) (a0_1 : Int) (a0_2 : List Nat) (a0_3 : Int) (a0_4 : List Int) {out : Int × Int × (List Nat) × Int × (List Int)} (hp : gogeom_geom0_Endss_v5 k a0_0 a0_1 a0_2 a0_3 a0_4 = some out) : Go.Sx.Fn Try.prog 132 [(Vl (.pointer (some wa0)))] [⟨.pointer (some wa0), [(Vl (.int .i64 a0_0)), (Vl (.int .i64 a0_1)), (Sl Kf a0_2), (Vl (.int .i64 a0_3)), (Sl (Ki .i64) a0_4)], 136, none⟩] (fun w : Unit => (Vl (.slice none 0 0))) (fun w => [⟨.pointer (some wa0), [(Vl (.int .i64 out.1)), (Vl (.int .i64 out.2.1)), (Sl Kf out.2.2.1), (Vl (.int .i64 out.2.2.2.1)), (Sl (Ki .i64) out.2.2.2.2)], 136, none⟩]) := by
  unfold gogeom_geom0_Endss_v5 at hp
  refine fn_of Try.func132 rfl Try.ntmps132 rfl fun E hM => ?_
  refine cx_seq' fun K1 hK1 => ?_
  refine cx_region' ?_
  refine sx_rd' (rd_assign' rfl) rfl rfl (wt_none' rfl) ?_
  refine sx_nil' ?_
  show TX E K1 _
  refine tx_k' hK1 ?_
  refine cx_seq' fun K2 hK2 => ?_
  refine cx_region' ?_
  refine sx_rd' (rd_assign' rfl) rfl rfl (wt_none' rfl) ?_
  refine sx_nil' ?_
  show TX E K2 _
  refine tx_k' hK2 ?_
  refine cx_retc' ?_
  replace hp := Option.some.inj hp
  subst hp
  refine tx_pick' (L' := [(2, (Vl (.slice none 0 0)))]) (H' := [⟨.pointer (some wa0), [(Vl (.int .i64 a0_0)), (Vl (.int .i64 a0_1)), (Sl Kf a0_2), (Vl (.int .i64 a0_3)), (Sl (Ki .i64) a0_4)], 136, none⟩]) [0] (sub_cons rfl sub_nil) (by decide) (pick_cons rfl pick_nil) ?_
  exact tx_ret1' Try.results132 rfl () (rv_tmp' rfl) (List.Sublist.refl _)

def gogeom_geom0_Endss_v6 (k : Nat) (a0_0 : Int) (a0_1 : Int) (a0_2 : List Nat) (a0_3 : Int) (a0_4 : List Int) : Option (Int × Int × (List Nat) × Int × (List Int)) :=
  some (a0_0, a0_1, a0_2, a0_3, a0_4)

theorem gogeom_geom0_Endss_v6_sim {k : Nat} {wa0 : Addr} (a0_0 : Int) (a0_1 : Int) (a0_2 : List Nat) (a0_3 : Int) (a0_4 : List Int) {out : Int × Int × (List Nat) × Int × (List Int)} (hp : gogeom_geom0_Endss_v6 k a0_0 a0_1 a0_2 a0_3 a0_4 = some out) : Go.Sx.Fn Try.prog 132 [(Vl (.pointer (some wa0)))] [⟨.pointer (some wa0), [(Vl (.int .i64 a0_0)), (Vl (.int .i64 a0_1)), (Sl Kf a0_2), (Vl (.int .i64 a0_3)), (Sl (Ki .i64) a0_4)], 139, none⟩] (fun w : Unit => (Vl (.slice none 0 0))) (fun w => [⟨.pointer (some wa0), [(Vl (.int .i64 out.1)), (Vl (.int .i64 out.2.1)), (Sl Kf out.2.2.1), (Vl (.int .i64 out.2.2.2.1)), (Sl (Ki .i64) out.2.2.2.2)], 139, none⟩]) := by
  unfold gogeom_geom0_Endss_v6 at hp
  refine fn_of Try.func132 rfl Try.ntmps132 rfl fun E hM => ?_
  refine cx_seq' fun K1 hK1 => ?_
  refine cx_region' ?_
  refine sx_rd' (rd_assign' rfl) rfl rfl (wt_none' rfl) ?_
  refine sx_nil' ?_
  show TX E K1 _
  refine tx_k' hK1 ?_
  refine cx_seq' fun K2 hK2 => ?_
  refine cx_region' ?_
  refine sx_rd' (rd_assign' rfl) rfl rfl (wt_none' rfl) ?_
  refine sx_nil' ?_
  show TX E K2 _
  refine tx_k' hK2 ?_
  refine cx_retc' ?_
  replace hp := Option.some.inj hp
  subst hp
  refine tx_pick' (L' := [(2, (Vl (.slice none 0 0)))]) (H' := [⟨.pointer (some wa0), [(Vl (.int .i64 a0_0)), (Vl (.int .i64 a0_1)), (Sl Kf a0_2), (Vl (.int .i64 a0_3)), (Sl (Ki .i64) a0_4)], 139, none⟩]) [0] (sub_cons rfl sub_nil) (by decide) (pick_cons rfl pick_nil) ?_
  exact tx_ret1' Try.results132 rfl () (rv_tmp' rfl) (List.Sublist.refl _)

def gogeom_geom3_Endss (k : Nat) (a0_0 : Int) (a0_1 : Int) (a0_2 : List Nat) (a0_3 : Int) (a0_4 : List (List Int)) : Option (Int × Int × (List Nat) × Int × (List (List Int))) :=
  some (a0_0, a0_1, a0_2, a0_3, a0_4)

theorem gogeom_geom3_Endss_sim {k : Nat} {wa0 : Addr} (a0_0 : Int) (a0_1 : Int) (a0_2 : List Nat) (a0_3 : Int) (a0_4 : List (List Int)) {out : Int × Int × (List Nat) × Int × (List (List Int))} (hp : gogeom_geom3_Endss k a0_0 a0_1 a0_2 a0_3 a0_4 = some out) : Go.Sx.Fn Try.prog 141 [(Vl (.pointer (some wa0)))] [⟨.pointer (some wa0), [(Vl (.int .i64 a0_0)), (Vl (.int .i64 a0_1)), (Sl Kf a0_2), (Vl (.int .i64 a0_3)), (Sl (Kl (Ki .i64)) a0_4)], 143, none⟩] (fun w : Unit => (Sl (Kl (Ki .i64)) out.2.2.2.2)) (fun w => [⟨.pointer (some wa0), [(Vl (.int .i64 out.1)), (Vl (.int .i64 out.2.1)), (Sl Kf out.2.2.1), (Vl (.int .i64 out.2.2.2.1)), (Sl (Kl (Ki .i64)) out.2.2.2.2)], 143, none⟩]) := by
  unfold gogeom_geom3_Endss at hp
  refine fn_of Try.func141 rfl Try.ntmps141 rfl fun E hM => ?_
  refine cx_seq' fun K1 hK1 => ?_
  refine cx_region' ?_
  refine sx_rd' (rd_assign' rfl) rfl rfl (wt_none' rfl) ?_
  refine sx_nil' ?_
  show TX E K1 _
  refine tx_k' hK1 ?_
  refine cx_seq' fun K2 hK2 => ?_
  refine cx_region' ?_
  refine sx_rd' (rd_move' rfl) rfl rfl (wt_none' rfl) ?_
  refine sx_rd' (rd_nilck' rfl) rfl rfl (wt_none' rfl) ?_
  refine sx_rd' (rd_field' (off := 4) rfl Try.underlying141 rfl info24 rfl) rfl rfl (wt_none' rfl) ?_
  refine sx_rd' (rd_load' (i := 0) (o := 4) rfl ⟨rfl, rfl, rfl, rfl⟩ rfl flat24) rfl rfl (wt_none' rfl) ?_
  refine sx_rd' (rd_assign' rfl) rfl rfl (wt_none' rfl) ?_
  refine sx_nil' ?_
  show TX E K2 _
  refine tx_k' hK2 ?_
  refine cx_retc' ?_
  replace hp := Option.some.inj hp
  subst hp
  refine tx_pick' (L' := [(2, (Sl (Kl (Ki .i64)) a0_4))]) (H' := [⟨.pointer (some wa0), [(Vl (.int .i64 a0_0)), (Vl (.int .i64 a0_1)), (Sl Kf a0_2), (Vl (.int .i64 a0_3)), (Sl (Kl (Ki .i64)) a0_4)], 143, none⟩]) [0] (sub_cons rfl sub_nil) (by decide) (pick_cons rfl pick_nil) ?_
  exact tx_ret1' Try.results141 rfl () (rv_tmp' rfl) (List.Sublist.refl _)

def gogeom_GeometryCollection_Endss (k : Nat) (a0_0 : Int) (a0_1 : List G53) (a0_2 : Int) : Option (Unit) :=
  some ()

theorem gogeom_GeometryCollection_Endss_sim {k : Nat} {wa0 : Addr} {wa0_1 : Gs} (a0_0 : Int) (a0_1 : List G53) (a0_2 : Int) {out : Unit} (hp : gogeom_GeometryCollection_Endss k a0_0 a0_1 a0_2 = some out) : Go.Sx.Fx Try.prog 123 [(Vl (.pointer (some wa0)))] [⟨.pointer (some wa0), [(Vl (.int .i64 a0_0)), (Vl (Vs wa0_1)), (Vl (.int .i64 a0_2))], 114, none⟩, (Rw KG53 53 (Vs wa0_1) a0_1)] true (fun w : Unit => (Vl undef)) (fun w => []) := by
  unfold gogeom_GeometryCollection_Endss at hp
  refine fx_of Try.func123 rfl Try.ntmps123 rfl fun E hM => ?_
  refine cx_seq' fun K1 hK1 => ?_
  refine cx_region' ?_
  refine sx_rd' (rd_assign' rfl) rfl rfl (wt_none' rfl) ?_
  refine sx_nil' ?_
  show TX E K1 _
  refine tx_k' hK1 ?_
  refine cx_region' ?_
  refine sx_rd' (rd_iface' rfl ⟨_, Try.underlying9, fun _ h => (nomatch h)⟩) rfl rfl (wt_none' rfl) ?_
  refine sx_panic' (pan_op' rfl) (wt_none' rfl) ?_
  replace hp := Option.some.inj hp
  subst hp
  show PanQ E (bodyPost Try.prog Try.f123 (PanE E)) _
  exact tx_panout' rfl

def impl_EndssOf_1 (k : Nat) (a1_0 : Bool) : Option (Bool) :=
  some false

theorem impl_EndssOf_1_sim {k : Nat} {wa0 : Addr} {wa1 : Addr} (a1_0 : Bool) {out : Bool} (hp : impl_EndssOf_1 k a1_0 = some out) : Go.Sx.Catch Try.prog 28 [(Vl (.pointer (some wa0))), (Vl (.pointer (some wa1)))] [⟨.pointer (some wa0), [(Vl (.slice none 0 0))], 24, none⟩, ⟨.pointer (some wa1), [(Vl (.bool a1_0))], 4, none⟩] [⟨.pointer (some wa0), [(Vl (.slice none 0 0))], 24, none⟩, ⟨.pointer (some wa1), [(Vl (.bool out))], 4, none⟩] := by
  unfold impl_EndssOf_1 at hp
  refine catch_of Try.func28 rfl Try.ntmps28 rfl rfl rfl ifne20 fun E hM => ?_
  refine cx_region' ?_
  refine sx_ox' (ox_store' (i := 0) (o := 0) rfl rfl (lv_vl rfl rfl) ⟨rfl, rfl, rfl, rfl⟩ rfl info24 rfl (H' := [⟨.pointer (some wa0), [(Vl (.slice none 0 0))], 24, none⟩, ⟨.pointer (some wa1), [(Vl (.bool a1_0))], 4, none⟩]) rfl) (wt_none' rfl) fun _ => ?_
  refine sx_ox' (ox_store' (i := 1) (o := 0) rfl rfl (lv_vl rfl rfl) ⟨rfl, rfl, rfl, rfl⟩ rfl info4 rfl (H' := [⟨.pointer (some wa0), [(Vl (.slice none 0 0))], 24, none⟩, ⟨.pointer (some wa1), [(Vl (.bool false))], 4, none⟩]) rfl) (wt_none' rfl) fun _ => ?_
  refine sx_nil' ?_
  replace hp := Option.some.inj hp
  subst hp
  refine tx_pick' (L' := []) (H' := [⟨.pointer (some wa0), [(Vl (.slice none 0 0))], 24, none⟩, ⟨.pointer (some wa1), [(Vl (.bool false))], 4, none⟩]) [0, 1] sub_nil (by decide) (pick_cons rfl (pick_cons rfl pick_nil)) ?_
  exact tx_end0' Try.results28 rfl () rfl (List.Sublist.refl _)

end Go.Proofs.Ytmagcmeknclljaa
