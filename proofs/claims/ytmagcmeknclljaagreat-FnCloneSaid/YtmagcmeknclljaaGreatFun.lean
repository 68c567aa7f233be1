/-
  Plain functions for the Go functions that this law reaches, and that each call does what its plain function says. Printed by a program of ours.
-/
import Derived.Test.YtmagcmeknclljaaGreatProg
import Derived.Test.YtmagcmeknclljaaGreatSxX
import Derived.Test.YtmagcmeknclljaaGreatFun3
namespace Go.Proofs.YtmagcmeknclljaaGreat
open Go.Sx
set_option linter.unusedVariables false
set_option maxRecDepth 100000

def impl_Clone (k : Nat) (a0_0 : Int) (a0_1 : Int) (a0_2 : Int) (a0_3 : List Nat) (a0_4 : List Int) (a0_5 : List (List Int)) (a0_6 : List T27) : Option (Int × Int × Int × (List Nat) × (List Int) × (List (List Int)) × Bool) :=
 (impl_geometry k a0_0 a0_1 a0_2 a0_3 a0_4 a0_5 a0_6) >>= fun r13 =>
 match r13 with
  | (.inl y1) =>
   ((gogeom_Point_Clone k y1.1 y1.2.1 y1.2.2.1 y1.2.2.2) >>= fun r18 =>
   (impl_plain k r18.1 r18.2.1 r18.2.2.2.2 r18.2.2.2.1) >>= fun r20 =>
   some (r20.2.2.2.2.1, r20.2.2.2.2.2.1, r20.2.2.2.2.2.2.1, r20.2.2.2.2.2.2.2.1, r20.2.2.2.2.2.2.2.2, [], true))
  | (.inr (.inl y1)) =>
   ((gogeom_LineString_Clone k y1.1 y1.2.1 y1.2.2.1 y1.2.2.2) >>= fun r25 =>
   (impl_plain_v2 k r25.1 r25.2.1 r25.2.2.2.2 r25.2.2.2.1) >>= fun r27 =>
   some (r27.2.2.2.2.1, r27.2.2.2.2.2.1, r27.2.2.2.2.2.2.1, r27.2.2.2.2.2.2.2.1, r27.2.2.2.2.2.2.2.2, [], true))
  | (.inr (.inr (.inl y1))) =>
   ((gogeom_LinearRing_Clone k y1.1 y1.2.1 y1.2.2.1 y1.2.2.2) >>= fun r32 =>
   (impl_plain_v3 k r32.1 r32.2.1 r32.2.2.2.2 r32.2.2.2.1) >>= fun r34 =>
   some (r34.2.2.2.2.1, r34.2.2.2.2.2.1, r34.2.2.2.2.2.2.1, r34.2.2.2.2.2.2.2.1, r34.2.2.2.2.2.2.2.2, [], true))
  | (.inr (.inr (.inr (.inl y1)))) =>
   ((gogeom_Polygon_Clone k y1.1 y1.2.1 y1.2.2.1 y1.2.2.2.1 y1.2.2.2.2) >>= fun r39 =>
   (impl_plain_v4 k r39.1 r39.2.1 r39.2.2.2.2.2.1 r39.2.2.2.1 r39.2.2.2.2.2.2) >>= fun r41 =>
   some (r41.2.2.2.2.2.1, r41.2.2.2.2.2.2.1, r41.2.2.2.2.2.2.2.1, r41.2.2.2.2.2.2.2.2.1, r41.2.2.2.2.2.2.2.2.2, [], true))
  | (.inr (.inr (.inr (.inr (.inl y1))))) =>
   ((gogeom_MultiPoint_Clone k y1.1 y1.2.1 y1.2.2.1 y1.2.2.2.1 y1.2.2.2.2) >>= fun r46 =>
   (impl_plain_v5 k r46.1 r46.2.1 r46.2.2.2.2.2.1 r46.2.2.2.1 r46.2.2.2.2.2.2) >>= fun r48 =>
   some (r48.2.2.2.2.2.1, r48.2.2.2.2.2.2.1, r48.2.2.2.2.2.2.2.1, r48.2.2.2.2.2.2.2.2.1, r48.2.2.2.2.2.2.2.2.2, [], true))
  | (.inr (.inr (.inr (.inr (.inr (.inl y1)))))) =>
   ((gogeom_MultiLineString_Clone k y1.1 y1.2.1 y1.2.2.1 y1.2.2.2.1 y1.2.2.2.2) >>= fun r53 =>
   (impl_plain_v6 k r53.1 r53.2.1 r53.2.2.2.2.2.1 r53.2.2.2.1 r53.2.2.2.2.2.2) >>= fun r55 =>
   some (r55.2.2.2.2.2.1, r55.2.2.2.2.2.2.1, r55.2.2.2.2.2.2.2.1, r55.2.2.2.2.2.2.2.2.1, r55.2.2.2.2.2.2.2.2.2, [], true))
  | (.inr (.inr (.inr (.inr (.inr (.inr (.inl y1))))))) =>
   ((gogeom_MultiPolygon_Clone k y1.1 y1.2.1 y1.2.2.1 y1.2.2.2.1 y1.2.2.2.2) >>= fun r60 =>
   (impl_plain_v7 k r60.1 r60.2.1 r60.2.2.2.2.2.1 r60.2.2.2.1 r60.2.2.2.2.2.2) >>= fun r62 =>
   some (r62.2.2.2.2.2.1, r62.2.2.2.2.2.2.1, r62.2.2.2.2.2.2.2.1, r62.2.2.2.2.2.2.2.2.1, r62.2.2.2.2.2.2.2.2.2.1, r62.2.2.2.2.2.2.2.2.2.2, true))
  | (.inr (.inr (.inr (.inr (.inr (.inr (.inr y1))))))) =>
   (some (0, 0, 0, [], [], [], false))

theorem impl_Clone_sim {k : Nat}  (a0_0 : Int) (a0_1 : Int) (a0_2 : Int) (a0_3 : List Nat) (a0_4 : List Int) (a0_5 : List (List Int)) (a0_6 : List T27) {out : Int × Int × Int × (List Nat) × (List Int) × (List (List Int)) × Bool} (hp : impl_Clone k a0_0 a0_1 a0_2 a0_3 a0_4 a0_5 a0_6 = some out) : Sx.Fn Tryz.prog 6 [(Ag [(Vi a0_0), (Vi a0_1), (Vi a0_2), (Sl Kf a0_3), (Sl (Ki .i64) a0_4), (Sl (Kl (Ki .i64)) a0_5), (Sl KT27 a0_6)])] [] (fun w : Unit => (Tu [(Ag [(Vi out.1), (Vi out.2.1), (Vi out.2.2.1), (Sl Kf out.2.2.2.1), (Sl (Ki .i64) out.2.2.2.2.1), (Sl (Kl (Ki .i64)) out.2.2.2.2.2.1), Vn]), (Vb out.2.2.2.2.2.2)])) (fun w => []) := by
 unfold impl_Clone at hp
 refine fnD_of Tryz.func6 rfl Tryz.ntmps6 rfl fun E hM => ?_
 refine cr fun K1 hK1 => ?_
 refine sx_ox' (ox_box' rfl (lv_ag _) rfl rfl) (wt_none' rfl) fun q1 => ?_
 refine sx_ox' (ox_alloc' info27 rfl rfl rfl rfl (l := [(Vi 0), (Vi 0), (Vi 0), Vn, Vn, Vn, Vn]) rfl) (wt_none' rfl) fun q2 => ?_
 refine sx_ox' (ox_alloc' info4 rfl rfl rfl rfl (l := [(Vb false)]) rfl) (wt_none' rfl) fun q3 => ?_
 refine nk hK1 ?_
 refine cr fun K2 hK2 => ?_
 refine s0 (rd_mkfunc' (us := [.pointer (some q2), .pointer (some q3)]) rfl) ?_
 refine sx_ox' (ox_defer' rfl rfl) (wt_none' rfl) fun _ => ?_
 refine nk hK2 ?_
 refine cx_seq' fun K3 hK3 => ?_
 refine cr fun K4 hK4 => ?_
 refine s0 (rd_load_agg' (i := 2) (o := 0) (nn := 7) rfl ⟨rfl, rfl, rfl, rfl⟩ rfl agg27 (l' := [(Vi a0_0), (Vi a0_1), (Vi a0_2), (Sl Kf a0_3), (Sl (Ki .i64) a0_4), (Sl (Kl (Ki .i64)) a0_5), (Sl KT27 a0_6)]) rfl) ?_
 obtain ⟨r13, hr13, hp⟩ := bind_some hp
 rcases r13 with y1 | y1 | y1 | y1 | y1 | y1 | y1 | y1
 ·dsimp only at hp
  refine sx_ox' (ox_calln' (ent_fn' Tryz.func11 isn11 rfl rfl) (impl_geometry_sim _ _ _ _ _ _ _ hr13 : Sx.Fn Tryz.prog 11 [(Ag [(Vi a0_0), (Vi a0_1), (Vi a0_2), (Sl Kf a0_3), (Sl (Ki .i64) a0_4), (Sl (Kl (Ki .i64)) a0_5), (Sl KT27 a0_6)])] [] (fun x : Addr => (If 37 (Vp x))) (fun x => [⟨.pointer (some x), [(Vi y1.1), (Vi y1.2.1), (Sl Kf y1.2.2.1), (Vi y1.2.2.2)], 107, none⟩])) (Hn := fun x : Addr => [⟨.pointer (some x), [(Vi y1.1), (Vi y1.2.1), (Sl Kf y1.2.2.1), (Vi y1.2.2.2)], 107, none⟩, ⟨.pointer (some q3), [(Vb false)], 4, none⟩, ⟨.pointer (some q2), [(Vi 0), (Vi 0), (Vi 0), Vn, Vn, Vn, Vn], 27, none⟩, ⟨.pointer (some q1), [(Vi a0_0), (Vi a0_1), (Vi a0_2), (Sl Kf a0_3), (Sl (Ki .i64) a0_4), (Sl (Kl (Ki .i64)) a0_5), (Sl KT27 a0_6)], 27, none⟩]) (fun _ => rfl) rfl rfl) (wt_none' rfl) fun q13 => ?_
  refine nk hK4 ?_
  refine cx_block' ?_
  refine cr fun K5 hK5 => ?_
  refine s0 (rd_assert' rfl (F := fun v => .tuple #[v, .bool true]) as37_35_37k as_ok) ?_
  refine s0 (rd_extract' rfl rfl) ?_
  refine s0 (rd_extract' rfl rfl) ?_
  refine nk hK5 ?_
  refine cx_cond_t' rfl rfl ?_
  refine cr fun K6 hK6 => ?_
  refine s0 (rd_assign' rfl) ?_
  refine nk hK6 ?_
  refine cr fun K7 hK7 => ?_
  refine s0 (rd_move' rfl) ?_
  obtain ⟨r18, hr18, hp⟩ := bind_some hp
  refine sx_ox' (ox_callg' (ent_fn' Tryz.func13 isn13 rfl rfl) (gogeom_Point_Clone_sim _ _ _ _ hr18 : Sx.Fn Tryz.prog 13 [(Vp q13)] [⟨.pointer (some q13), [(Vi y1.1), (Vi y1.2.1), (Sl Kf y1.2.2.1), (Vi y1.2.2.2)], 107, none⟩] (fun x : Addr × Gs => (Vp x.1)) (fun x => [⟨.pointer (some q13), [(Vi r18.1), (Vi r18.2.1), (Sl Kf r18.2.2.1), (Vi r18.2.2.2.1)], 107, none⟩, ⟨.pointer (some x.1), [(Vi r18.1), (Vi r18.2.1), (Vl (Vs x.2)), (Vi r18.2.2.2.1)], 107, none⟩, (Rw Kf 95 (Vs x.2) r18.2.2.2.2)])) [0] [1, 2, 3] (by decide) (pick_cons rfl pick_nil) (pick_cons rfl (pick_cons rfl (pick_cons rfl pick_nil))) (Hn := fun x : Addr × Gs => [⟨.pointer (some q13), [(Vi r18.1), (Vi r18.2.1), (Sl Kf r18.2.2.1), (Vi r18.2.2.2.1)], 107, none⟩, ⟨.pointer (some x.1), [(Vi r18.1), (Vi r18.2.1), (Vl (Vs x.2)), (Vi r18.2.2.2.1)], 107, none⟩, (Rw Kf 95 (Vs x.2) r18.2.2.2.2), ⟨.pointer (some q3), [(Vb false)], 4, none⟩, ⟨.pointer (some q2), [(Vi 0), (Vi 0), (Vi 0), Vn, Vn, Vn, Vn], 27, none⟩, ⟨.pointer (some q1), [(Vi a0_0), (Vi a0_1), (Vi a0_2), (Sl Kf a0_3), (Sl (Ki .i64) a0_4), (Sl (Kl (Ki .i64)) a0_5), (Sl KT27 a0_6)], 27, none⟩]) (fun _ => rfl) rfl rfl) (wt_none' rfl) fun ⟨q18, g18⟩ => ?_
  refine s0 (rd_iface' rfl ⟨_, Tryz.underlying37, fun _ h => (nomatch h)⟩) ?_
  obtain ⟨r20, hr20, hp⟩ := bind_some hp
  refine sx_ox' (ox_callg' (ent_fn' Tryz.func12 isn12 rfl rfl) (impl_plain_sim _ _ _ _ hr20 : Sx.Fn Tryz.prog 12 [(If 37 (Vp q18))] [⟨.pointer (some q18), [(Vi r18.1), (Vi r18.2.1), (Vl (Vs g18)), (Vi r18.2.2.2.1)], 107, none⟩, (Rw Kf 95 (Vs g18) r18.2.2.2.2)] (fun x : Unit => (Ag [(Vi r20.2.2.2.2.1), (Vi r20.2.2.2.2.2.1), (Vi r20.2.2.2.2.2.2.1), (Sl Kf r20.2.2.2.2.2.2.2.1), (Sl (Ki .i64) r20.2.2.2.2.2.2.2.2), Vn, Vn])) (fun x => [⟨.pointer (some q18), [(Vi r20.1), (Vi r20.2.1), (Sl Kf r20.2.2.1), (Vi r20.2.2.2.1)], 107, none⟩])) [1, 2] [0, 3, 4, 5] (by decide) (pick_cons rfl (pick_cons rfl pick_nil)) (pick_cons rfl (pick_cons rfl (pick_cons rfl (pick_cons rfl pick_nil)))) (Hn := fun x : Unit => [⟨.pointer (some q18), [(Vi r20.1), (Vi r20.2.1), (Sl Kf r20.2.2.1), (Vi r20.2.2.2.1)], 107, none⟩, ⟨.pointer (some q13), [(Vi r18.1), (Vi r18.2.1), (Sl Kf r18.2.2.1), (Vi r18.2.2.2.1)], 107, none⟩, ⟨.pointer (some q3), [(Vb false)], 4, none⟩, ⟨.pointer (some q2), [(Vi 0), (Vi 0), (Vi 0), Vn, Vn, Vn, Vn], 27, none⟩, ⟨.pointer (some q1), [(Vi a0_0), (Vi a0_1), (Vi a0_2), (Sl Kf a0_3), (Sl (Ki .i64) a0_4), (Sl (Kl (Ki .i64)) a0_5), (Sl KT27 a0_6)], 27, none⟩]) (fun _ => rfl) rfl rfl) (wt_none' rfl) fun ⟨⟩ => ?_
  refine sx_ox' (ox_store' (i := 3) (o := 0) rfl rfl (lv_ag _) ⟨rfl, rfl, rfl, rfl⟩ rfl info27 rfl (H' := [⟨.pointer (some q18), [(Vi r20.1), (Vi r20.2.1), (Sl Kf r20.2.2.1), (Vi r20.2.2.2.1)], 107, none⟩, ⟨.pointer (some q13), [(Vi r18.1), (Vi r18.2.1), (Sl Kf r18.2.2.1), (Vi r18.2.2.2.1)], 107, none⟩, ⟨.pointer (some q3), [(Vb false)], 4, none⟩, ⟨.pointer (some q2), [(Vi r20.2.2.2.2.1), (Vi r20.2.2.2.2.2.1), (Vi r20.2.2.2.2.2.2.1), (Sl Kf r20.2.2.2.2.2.2.2.1), (Sl (Ki .i64) r20.2.2.2.2.2.2.2.2), Vn, Vn], 27, none⟩, ⟨.pointer (some q1), [(Vi a0_0), (Vi a0_1), (Vi a0_2), (Sl Kf a0_3), (Sl (Ki .i64) a0_4), (Sl (Kl (Ki .i64)) a0_5), (Sl KT27 a0_6)], 27, none⟩]) rfl) (wt_none' rfl) fun _ => ?_
  refine sx_ox' (ox_store' (i := 2) (o := 0) rfl rfl (lv_vl rfl rfl) ⟨rfl, rfl, rfl, rfl⟩ rfl info4 rfl (H' := [⟨.pointer (some q18), [(Vi r20.1), (Vi r20.2.1), (Sl Kf r20.2.2.1), (Vi r20.2.2.2.1)], 107, none⟩, ⟨.pointer (some q13), [(Vi r18.1), (Vi r18.2.1), (Sl Kf r18.2.2.1), (Vi r18.2.2.2.1)], 107, none⟩, ⟨.pointer (some q3), [(Vb true)], 4, none⟩, ⟨.pointer (some q2), [(Vi r20.2.2.2.2.1), (Vi r20.2.2.2.2.2.1), (Vi r20.2.2.2.2.2.2.1), (Sl Kf r20.2.2.2.2.2.2.2.1), (Sl (Ki .i64) r20.2.2.2.2.2.2.2.2), Vn, Vn], 27, none⟩, ⟨.pointer (some q1), [(Vi a0_0), (Vi a0_1), (Vi a0_2), (Sl Kf a0_3), (Sl (Ki .i64) a0_4), (Sl (Kl (Ki .i64)) a0_5), (Sl KT27 a0_6)], 27, none⟩]) rfl) (wt_none' rfl) fun _ => ?_
  refine nk hK7 ?_
  refine cx_retc' ?_
  replace hp := Option.some.inj hp
  subst hp
  refine tx_leave' (.inl rfl) rfl idle10 rfl Tryz.func10 isn10 rfl ?_
  refine tx_pick' (L' := [(2, (Vp q2)), (3, (Vp q3))]) (H' := [⟨.pointer (some q2), [(Vi r20.2.2.2.2.1), (Vi r20.2.2.2.2.2.1), (Vi r20.2.2.2.2.2.2.1), (Sl Kf r20.2.2.2.2.2.2.2.1), (Sl (Ki .i64) r20.2.2.2.2.2.2.2.2), Vn, Vn], 27, none⟩, ⟨.pointer (some q3), [(Vb true)], 4, none⟩]) [3, 2] (sub_cons rfl (sub_cons rfl sub_nil)) (by decide) (pick_cons rfl (pick_cons rfl pick_nil)) ?_
  exact tx_ret2' Tryz.results6 rfl () (rv_imp' (x := (Ag [(Vi r20.2.2.2.2.1), (Vi r20.2.2.2.2.2.1), (Vi r20.2.2.2.2.2.2.1), (Sl Kf r20.2.2.2.2.2.2.2.1), (Sl (Ki .i64) r20.2.2.2.2.2.2.2.2), Vn, Vn])) (y := (Ag [(Vi r20.2.2.2.2.1), (Vi r20.2.2.2.2.2.1), (Vi r20.2.2.2.2.2.2.1), (Sl Kf r20.2.2.2.2.2.2.2.1), (Sl (Ki .i64) r20.2.2.2.2.2.2.2.2), (Sl (Kl (Ki .i64)) []), Vn])) (rv_cell_agg' (i := 0) (o := 0) (nn := 7) rfl ⟨rfl, rfl, rfl, rfl⟩ rfl agg27 rfl) (imp_ag ⟨imp_refl, imp_refl, imp_refl, imp_refl, imp_refl, imp_nil, imp_refl, trivial⟩)) (rv_cell' (i := 1) (o := 0) rfl ⟨rfl, rfl, rfl, rfl⟩ rfl flat4) rfl (List.nil_sublist _)
 ·dsimp only at hp
  refine sx_ox' (ox_calln' (ent_fn' Tryz.func11 isn11 rfl rfl) (impl_geometry_sim _ _ _ _ _ _ _ hr13 : Sx.Fn Tryz.prog 11 [(Ag [(Vi a0_0), (Vi a0_1), (Vi a0_2), (Sl Kf a0_3), (Sl (Ki .i64) a0_4), (Sl (Kl (Ki .i64)) a0_5), (Sl KT27 a0_6)])] [] (fun x : Addr => (If 40 (Vp x))) (fun x => [⟨.pointer (some x), [(Vi y1.1), (Vi y1.2.1), (Sl Kf y1.2.2.1), (Vi y1.2.2.2)], 110, none⟩])) (Hn := fun x : Addr => [⟨.pointer (some x), [(Vi y1.1), (Vi y1.2.1), (Sl Kf y1.2.2.1), (Vi y1.2.2.2)], 110, none⟩, ⟨.pointer (some q3), [(Vb false)], 4, none⟩, ⟨.pointer (some q2), [(Vi 0), (Vi 0), (Vi 0), Vn, Vn, Vn, Vn], 27, none⟩, ⟨.pointer (some q1), [(Vi a0_0), (Vi a0_1), (Vi a0_2), (Sl Kf a0_3), (Sl (Ki .i64) a0_4), (Sl (Kl (Ki .i64)) a0_5), (Sl KT27 a0_6)], 27, none⟩]) (fun _ => rfl) rfl rfl) (wt_none' rfl) fun q13 => ?_
  refine nk hK4 ?_
  refine cx_block' ?_
  refine cr fun K5 hK5 => ?_
  refine s0 (rd_assert' rfl (F := fun _ => .tuple #[.pointer none, .bool false]) as40_35_37 as_no) ?_
  refine s0 (rd_extract' rfl rfl) ?_
  refine s0 (rd_extract' rfl rfl) ?_
  refine nk hK5 ?_
  refine cx_cond_f' rfl rfl ?_
  refine cr fun K8 hK8 => ?_
  refine s0 (rd_assert' rfl (F := fun v => .tuple #[v, .bool true]) as40_35_40k as_ok) ?_
  refine s0 (rd_extract' rfl rfl) ?_
  refine s0 (rd_extract' rfl rfl) ?_
  refine nk hK8 ?_
  refine cx_cond_t' rfl rfl ?_
  refine cr fun K9 hK9 => ?_
  refine s0 (rd_assign' rfl) ?_
  refine nk hK9 ?_
  refine cr fun K10 hK10 => ?_
  refine s0 (rd_move' rfl) ?_
  obtain ⟨r25, hr25, hp⟩ := bind_some hp
  refine sx_ox' (ox_callg' (ent_fn' Tryz.func14 isn14 rfl rfl) (gogeom_LineString_Clone_sim _ _ _ _ hr25 : Sx.Fn Tryz.prog 14 [(Vp q13)] [⟨.pointer (some q13), [(Vi y1.1), (Vi y1.2.1), (Sl Kf y1.2.2.1), (Vi y1.2.2.2)], 110, none⟩] (fun x : Addr × Gs => (Vp x.1)) (fun x => [⟨.pointer (some q13), [(Vi r25.1), (Vi r25.2.1), (Sl Kf r25.2.2.1), (Vi r25.2.2.2.1)], 110, none⟩, ⟨.pointer (some x.1), [(Vi r25.1), (Vi r25.2.1), (Vl (Vs x.2)), (Vi r25.2.2.2.1)], 110, none⟩, (Rw Kf 95 (Vs x.2) r25.2.2.2.2)])) [0] [1, 2, 3] (by decide) (pick_cons rfl pick_nil) (pick_cons rfl (pick_cons rfl (pick_cons rfl pick_nil))) (Hn := fun x : Addr × Gs => [⟨.pointer (some q13), [(Vi r25.1), (Vi r25.2.1), (Sl Kf r25.2.2.1), (Vi r25.2.2.2.1)], 110, none⟩, ⟨.pointer (some x.1), [(Vi r25.1), (Vi r25.2.1), (Vl (Vs x.2)), (Vi r25.2.2.2.1)], 110, none⟩, (Rw Kf 95 (Vs x.2) r25.2.2.2.2), ⟨.pointer (some q3), [(Vb false)], 4, none⟩, ⟨.pointer (some q2), [(Vi 0), (Vi 0), (Vi 0), Vn, Vn, Vn, Vn], 27, none⟩, ⟨.pointer (some q1), [(Vi a0_0), (Vi a0_1), (Vi a0_2), (Sl Kf a0_3), (Sl (Ki .i64) a0_4), (Sl (Kl (Ki .i64)) a0_5), (Sl KT27 a0_6)], 27, none⟩]) (fun _ => rfl) rfl rfl) (wt_none' rfl) fun ⟨q25, g25⟩ => ?_
  refine s0 (rd_iface' rfl ⟨_, Tryz.underlying40, fun _ h => (nomatch h)⟩) ?_
  obtain ⟨r27, hr27, hp⟩ := bind_some hp
  refine sx_ox' (ox_callg' (ent_fn' Tryz.func12 isn12 rfl rfl) (impl_plain_v2_sim _ _ _ _ hr27 : Sx.Fn Tryz.prog 12 [(If 40 (Vp q25))] [⟨.pointer (some q25), [(Vi r25.1), (Vi r25.2.1), (Vl (Vs g25)), (Vi r25.2.2.2.1)], 110, none⟩, (Rw Kf 95 (Vs g25) r25.2.2.2.2)] (fun x : Unit => (Ag [(Vi r27.2.2.2.2.1), (Vi r27.2.2.2.2.2.1), (Vi r27.2.2.2.2.2.2.1), (Sl Kf r27.2.2.2.2.2.2.2.1), (Sl (Ki .i64) r27.2.2.2.2.2.2.2.2), Vn, Vn])) (fun x => [⟨.pointer (some q25), [(Vi r27.1), (Vi r27.2.1), (Sl Kf r27.2.2.1), (Vi r27.2.2.2.1)], 110, none⟩])) [1, 2] [0, 3, 4, 5] (by decide) (pick_cons rfl (pick_cons rfl pick_nil)) (pick_cons rfl (pick_cons rfl (pick_cons rfl (pick_cons rfl pick_nil)))) (Hn := fun x : Unit => [⟨.pointer (some q25), [(Vi r27.1), (Vi r27.2.1), (Sl Kf r27.2.2.1), (Vi r27.2.2.2.1)], 110, none⟩, ⟨.pointer (some q13), [(Vi r25.1), (Vi r25.2.1), (Sl Kf r25.2.2.1), (Vi r25.2.2.2.1)], 110, none⟩, ⟨.pointer (some q3), [(Vb false)], 4, none⟩, ⟨.pointer (some q2), [(Vi 0), (Vi 0), (Vi 0), Vn, Vn, Vn, Vn], 27, none⟩, ⟨.pointer (some q1), [(Vi a0_0), (Vi a0_1), (Vi a0_2), (Sl Kf a0_3), (Sl (Ki .i64) a0_4), (Sl (Kl (Ki .i64)) a0_5), (Sl KT27 a0_6)], 27, none⟩]) (fun _ => rfl) rfl rfl) (wt_none' rfl) fun ⟨⟩ => ?_
  refine sx_ox' (ox_store' (i := 3) (o := 0) rfl rfl (lv_ag _) ⟨rfl, rfl, rfl, rfl⟩ rfl info27 rfl (H' := [⟨.pointer (some q25), [(Vi r27.1), (Vi r27.2.1), (Sl Kf r27.2.2.1), (Vi r27.2.2.2.1)], 110, none⟩, ⟨.pointer (some q13), [(Vi r25.1), (Vi r25.2.1), (Sl Kf r25.2.2.1), (Vi r25.2.2.2.1)], 110, none⟩, ⟨.pointer (some q3), [(Vb false)], 4, none⟩, ⟨.pointer (some q2), [(Vi r27.2.2.2.2.1), (Vi r27.2.2.2.2.2.1), (Vi r27.2.2.2.2.2.2.1), (Sl Kf r27.2.2.2.2.2.2.2.1), (Sl (Ki .i64) r27.2.2.2.2.2.2.2.2), Vn, Vn], 27, none⟩, ⟨.pointer (some q1), [(Vi a0_0), (Vi a0_1), (Vi a0_2), (Sl Kf a0_3), (Sl (Ki .i64) a0_4), (Sl (Kl (Ki .i64)) a0_5), (Sl KT27 a0_6)], 27, none⟩]) rfl) (wt_none' rfl) fun _ => ?_
  refine sx_ox' (ox_store' (i := 2) (o := 0) rfl rfl (lv_vl rfl rfl) ⟨rfl, rfl, rfl, rfl⟩ rfl info4 rfl (H' := [⟨.pointer (some q25), [(Vi r27.1), (Vi r27.2.1), (Sl Kf r27.2.2.1), (Vi r27.2.2.2.1)], 110, none⟩, ⟨.pointer (some q13), [(Vi r25.1), (Vi r25.2.1), (Sl Kf r25.2.2.1), (Vi r25.2.2.2.1)], 110, none⟩, ⟨.pointer (some q3), [(Vb true)], 4, none⟩, ⟨.pointer (some q2), [(Vi r27.2.2.2.2.1), (Vi r27.2.2.2.2.2.1), (Vi r27.2.2.2.2.2.2.1), (Sl Kf r27.2.2.2.2.2.2.2.1), (Sl (Ki .i64) r27.2.2.2.2.2.2.2.2), Vn, Vn], 27, none⟩, ⟨.pointer (some q1), [(Vi a0_0), (Vi a0_1), (Vi a0_2), (Sl Kf a0_3), (Sl (Ki .i64) a0_4), (Sl (Kl (Ki .i64)) a0_5), (Sl KT27 a0_6)], 27, none⟩]) rfl) (wt_none' rfl) fun _ => ?_
  refine nk hK10 ?_
  refine cx_retc' ?_
  replace hp := Option.some.inj hp
  subst hp
  refine tx_leave' (.inl rfl) rfl idle10 rfl Tryz.func10 isn10 rfl ?_
  refine tx_pick' (L' := [(2, (Vp q2)), (3, (Vp q3))]) (H' := [⟨.pointer (some q2), [(Vi r27.2.2.2.2.1), (Vi r27.2.2.2.2.2.1), (Vi r27.2.2.2.2.2.2.1), (Sl Kf r27.2.2.2.2.2.2.2.1), (Sl (Ki .i64) r27.2.2.2.2.2.2.2.2), Vn, Vn], 27, none⟩, ⟨.pointer (some q3), [(Vb true)], 4, none⟩]) [3, 2] (sub_cons rfl (sub_cons rfl sub_nil)) (by decide) (pick_cons rfl (pick_cons rfl pick_nil)) ?_
  exact tx_ret2' Tryz.results6 rfl () (rv_imp' (x := (Ag [(Vi r27.2.2.2.2.1), (Vi r27.2.2.2.2.2.1), (Vi r27.2.2.2.2.2.2.1), (Sl Kf r27.2.2.2.2.2.2.2.1), (Sl (Ki .i64) r27.2.2.2.2.2.2.2.2), Vn, Vn])) (y := (Ag [(Vi r27.2.2.2.2.1), (Vi r27.2.2.2.2.2.1), (Vi r27.2.2.2.2.2.2.1), (Sl Kf r27.2.2.2.2.2.2.2.1), (Sl (Ki .i64) r27.2.2.2.2.2.2.2.2), (Sl (Kl (Ki .i64)) []), Vn])) (rv_cell_agg' (i := 0) (o := 0) (nn := 7) rfl ⟨rfl, rfl, rfl, rfl⟩ rfl agg27 rfl) (imp_ag ⟨imp_refl, imp_refl, imp_refl, imp_refl, imp_refl, imp_nil, imp_refl, trivial⟩)) (rv_cell' (i := 1) (o := 0) rfl ⟨rfl, rfl, rfl, rfl⟩ rfl flat4) rfl (List.nil_sublist _)
 ·dsimp only at hp
  refine sx_ox' (ox_calln' (ent_fn' Tryz.func11 isn11 rfl rfl) (impl_geometry_sim _ _ _ _ _ _ _ hr13 : Sx.Fn Tryz.prog 11 [(Ag [(Vi a0_0), (Vi a0_1), (Vi a0_2), (Sl Kf a0_3), (Sl (Ki .i64) a0_4), (Sl (Kl (Ki .i64)) a0_5), (Sl KT27 a0_6)])] [] (fun x : Addr => (If 42 (Vp x))) (fun x => [⟨.pointer (some x), [(Vi y1.1), (Vi y1.2.1), (Sl Kf y1.2.2.1), (Vi y1.2.2.2)], 111, none⟩])) (Hn := fun x : Addr => [⟨.pointer (some x), [(Vi y1.1), (Vi y1.2.1), (Sl Kf y1.2.2.1), (Vi y1.2.2.2)], 111, none⟩, ⟨.pointer (some q3), [(Vb false)], 4, none⟩, ⟨.pointer (some q2), [(Vi 0), (Vi 0), (Vi 0), Vn, Vn, Vn, Vn], 27, none⟩, ⟨.pointer (some q1), [(Vi a0_0), (Vi a0_1), (Vi a0_2), (Sl Kf a0_3), (Sl (Ki .i64) a0_4), (Sl (Kl (Ki .i64)) a0_5), (Sl KT27 a0_6)], 27, none⟩]) (fun _ => rfl) rfl rfl) (wt_none' rfl) fun q13 => ?_
  refine nk hK4 ?_
  refine cx_block' ?_
  refine cr fun K5 hK5 => ?_
  refine s0 (rd_assert' rfl (F := fun _ => .tuple #[.pointer none, .bool false]) as42_35_37 as_no) ?_
  refine s0 (rd_extract' rfl rfl) ?_
  refine s0 (rd_extract' rfl rfl) ?_
  refine nk hK5 ?_
  refine cx_cond_f' rfl rfl ?_
  refine cr fun K8 hK8 => ?_
  refine s0 (rd_assert' rfl (F := fun _ => .tuple #[.pointer none, .bool false]) as42_35_40 as_no) ?_
  refine s0 (rd_extract' rfl rfl) ?_
  refine s0 (rd_extract' rfl rfl) ?_
  refine nk hK8 ?_
  refine cx_cond_f' rfl rfl ?_
  refine cr fun K11 hK11 => ?_
  refine s0 (rd_assert' rfl (F := fun v => .tuple #[v, .bool true]) as42_35_42k as_ok) ?_
  refine s0 (rd_extract' rfl rfl) ?_
  refine s0 (rd_extract' rfl rfl) ?_
  refine nk hK11 ?_
  refine cx_cond_t' rfl rfl ?_
  refine cr fun K12 hK12 => ?_
  refine s0 (rd_assign' rfl) ?_
  refine nk hK12 ?_
  refine cr fun K13 hK13 => ?_
  refine s0 (rd_move' rfl) ?_
  obtain ⟨r32, hr32, hp⟩ := bind_some hp
  refine sx_ox' (ox_callg' (ent_fn' Tryz.func15 isn15 rfl rfl) (gogeom_LinearRing_Clone_sim _ _ _ _ hr32 : Sx.Fn Tryz.prog 15 [(Vp q13)] [⟨.pointer (some q13), [(Vi y1.1), (Vi y1.2.1), (Sl Kf y1.2.2.1), (Vi y1.2.2.2)], 111, none⟩] (fun x : Addr × Gs => (Vp x.1)) (fun x => [⟨.pointer (some q13), [(Vi r32.1), (Vi r32.2.1), (Sl Kf r32.2.2.1), (Vi r32.2.2.2.1)], 111, none⟩, ⟨.pointer (some x.1), [(Vi r32.1), (Vi r32.2.1), (Vl (Vs x.2)), (Vi r32.2.2.2.1)], 111, none⟩, (Rw Kf 95 (Vs x.2) r32.2.2.2.2)])) [0] [1, 2, 3] (by decide) (pick_cons rfl pick_nil) (pick_cons rfl (pick_cons rfl (pick_cons rfl pick_nil))) (Hn := fun x : Addr × Gs => [⟨.pointer (some q13), [(Vi r32.1), (Vi r32.2.1), (Sl Kf r32.2.2.1), (Vi r32.2.2.2.1)], 111, none⟩, ⟨.pointer (some x.1), [(Vi r32.1), (Vi r32.2.1), (Vl (Vs x.2)), (Vi r32.2.2.2.1)], 111, none⟩, (Rw Kf 95 (Vs x.2) r32.2.2.2.2), ⟨.pointer (some q3), [(Vb false)], 4, none⟩, ⟨.pointer (some q2), [(Vi 0), (Vi 0), (Vi 0), Vn, Vn, Vn, Vn], 27, none⟩, ⟨.pointer (some q1), [(Vi a0_0), (Vi a0_1), (Vi a0_2), (Sl Kf a0_3), (Sl (Ki .i64) a0_4), (Sl (Kl (Ki .i64)) a0_5), (Sl KT27 a0_6)], 27, none⟩]) (fun _ => rfl) rfl rfl) (wt_none' rfl) fun ⟨q32, g32⟩ => ?_
  refine s0 (rd_iface' rfl ⟨_, Tryz.underlying42, fun _ h => (nomatch h)⟩) ?_
  obtain ⟨r34, hr34, hp⟩ := bind_some hp
  refine sx_ox' (ox_callg' (ent_fn' Tryz.func12 isn12 rfl rfl) (impl_plain_v3_sim _ _ _ _ hr34 : Sx.Fn Tryz.prog 12 [(If 42 (Vp q32))] [⟨.pointer (some q32), [(Vi r32.1), (Vi r32.2.1), (Vl (Vs g32)), (Vi r32.2.2.2.1)], 111, none⟩, (Rw Kf 95 (Vs g32) r32.2.2.2.2)] (fun x : Unit => (Ag [(Vi r34.2.2.2.2.1), (Vi r34.2.2.2.2.2.1), (Vi r34.2.2.2.2.2.2.1), (Sl Kf r34.2.2.2.2.2.2.2.1), (Sl (Ki .i64) r34.2.2.2.2.2.2.2.2), Vn, Vn])) (fun x => [⟨.pointer (some q32), [(Vi r34.1), (Vi r34.2.1), (Sl Kf r34.2.2.1), (Vi r34.2.2.2.1)], 111, none⟩])) [1, 2] [0, 3, 4, 5] (by decide) (pick_cons rfl (pick_cons rfl pick_nil)) (pick_cons rfl (pick_cons rfl (pick_cons rfl (pick_cons rfl pick_nil)))) (Hn := fun x : Unit => [⟨.pointer (some q32), [(Vi r34.1), (Vi r34.2.1), (Sl Kf r34.2.2.1), (Vi r34.2.2.2.1)], 111, none⟩, ⟨.pointer (some q13), [(Vi r32.1), (Vi r32.2.1), (Sl Kf r32.2.2.1), (Vi r32.2.2.2.1)], 111, none⟩, ⟨.pointer (some q3), [(Vb false)], 4, none⟩, ⟨.pointer (some q2), [(Vi 0), (Vi 0), (Vi 0), Vn, Vn, Vn, Vn], 27, none⟩, ⟨.pointer (some q1), [(Vi a0_0), (Vi a0_1), (Vi a0_2), (Sl Kf a0_3), (Sl (Ki .i64) a0_4), (Sl (Kl (Ki .i64)) a0_5), (Sl KT27 a0_6)], 27, none⟩]) (fun _ => rfl) rfl rfl) (wt_none' rfl) fun ⟨⟩ => ?_
  refine sx_ox' (ox_store' (i := 3) (o := 0) rfl rfl (lv_ag _) ⟨rfl, rfl, rfl, rfl⟩ rfl info27 rfl (H' := [⟨.pointer (some q32), [(Vi r34.1), (Vi r34.2.1), (Sl Kf r34.2.2.1), (Vi r34.2.2.2.1)], 111, none⟩, ⟨.pointer (some q13), [(Vi r32.1), (Vi r32.2.1), (Sl Kf r32.2.2.1), (Vi r32.2.2.2.1)], 111, none⟩, ⟨.pointer (some q3), [(Vb false)], 4, none⟩, ⟨.pointer (some q2), [(Vi r34.2.2.2.2.1), (Vi r34.2.2.2.2.2.1), (Vi r34.2.2.2.2.2.2.1), (Sl Kf r34.2.2.2.2.2.2.2.1), (Sl (Ki .i64) r34.2.2.2.2.2.2.2.2), Vn, Vn], 27, none⟩, ⟨.pointer (some q1), [(Vi a0_0), (Vi a0_1), (Vi a0_2), (Sl Kf a0_3), (Sl (Ki .i64) a0_4), (Sl (Kl (Ki .i64)) a0_5), (Sl KT27 a0_6)], 27, none⟩]) rfl) (wt_none' rfl) fun _ => ?_
  refine sx_ox' (ox_store' (i := 2) (o := 0) rfl rfl (lv_vl rfl rfl) ⟨rfl, rfl, rfl, rfl⟩ rfl info4 rfl (H' := [⟨.pointer (some q32), [(Vi r34.1), (Vi r34.2.1), (Sl Kf r34.2.2.1), (Vi r34.2.2.2.1)], 111, none⟩, ⟨.pointer (some q13), [(Vi r32.1), (Vi r32.2.1), (Sl Kf r32.2.2.1), (Vi r32.2.2.2.1)], 111, none⟩, ⟨.pointer (some q3), [(Vb true)], 4, none⟩, ⟨.pointer (some q2), [(Vi r34.2.2.2.2.1), (Vi r34.2.2.2.2.2.1), (Vi r34.2.2.2.2.2.2.1), (Sl Kf r34.2.2.2.2.2.2.2.1), (Sl (Ki .i64) r34.2.2.2.2.2.2.2.2), Vn, Vn], 27, none⟩, ⟨.pointer (some q1), [(Vi a0_0), (Vi a0_1), (Vi a0_2), (Sl Kf a0_3), (Sl (Ki .i64) a0_4), (Sl (Kl (Ki .i64)) a0_5), (Sl KT27 a0_6)], 27, none⟩]) rfl) (wt_none' rfl) fun _ => ?_
  refine nk hK13 ?_
  refine cx_retc' ?_
  replace hp := Option.some.inj hp
  subst hp
  refine tx_leave' (.inl rfl) rfl idle10 rfl Tryz.func10 isn10 rfl ?_
  refine tx_pick' (L' := [(2, (Vp q2)), (3, (Vp q3))]) (H' := [⟨.pointer (some q2), [(Vi r34.2.2.2.2.1), (Vi r34.2.2.2.2.2.1), (Vi r34.2.2.2.2.2.2.1), (Sl Kf r34.2.2.2.2.2.2.2.1), (Sl (Ki .i64) r34.2.2.2.2.2.2.2.2), Vn, Vn], 27, none⟩, ⟨.pointer (some q3), [(Vb true)], 4, none⟩]) [3, 2] (sub_cons rfl (sub_cons rfl sub_nil)) (by decide) (pick_cons rfl (pick_cons rfl pick_nil)) ?_
  exact tx_ret2' Tryz.results6 rfl () (rv_imp' (x := (Ag [(Vi r34.2.2.2.2.1), (Vi r34.2.2.2.2.2.1), (Vi r34.2.2.2.2.2.2.1), (Sl Kf r34.2.2.2.2.2.2.2.1), (Sl (Ki .i64) r34.2.2.2.2.2.2.2.2), Vn, Vn])) (y := (Ag [(Vi r34.2.2.2.2.1), (Vi r34.2.2.2.2.2.1), (Vi r34.2.2.2.2.2.2.1), (Sl Kf r34.2.2.2.2.2.2.2.1), (Sl (Ki .i64) r34.2.2.2.2.2.2.2.2), (Sl (Kl (Ki .i64)) []), Vn])) (rv_cell_agg' (i := 0) (o := 0) (nn := 7) rfl ⟨rfl, rfl, rfl, rfl⟩ rfl agg27 rfl) (imp_ag ⟨imp_refl, imp_refl, imp_refl, imp_refl, imp_refl, imp_nil, imp_refl, trivial⟩)) (rv_cell' (i := 1) (o := 0) rfl ⟨rfl, rfl, rfl, rfl⟩ rfl flat4) rfl (List.nil_sublist _)
 ·dsimp only at hp
  refine sx_ox' (ox_calln' (ent_fn' Tryz.func11 isn11 rfl rfl) (impl_geometry_sim _ _ _ _ _ _ _ hr13 : Sx.Fn Tryz.prog 11 [(Ag [(Vi a0_0), (Vi a0_1), (Vi a0_2), (Sl Kf a0_3), (Sl (Ki .i64) a0_4), (Sl (Kl (Ki .i64)) a0_5), (Sl KT27 a0_6)])] [] (fun x : Addr => (If 44 (Vp x))) (fun x => [⟨.pointer (some x), [(Vi y1.1), (Vi y1.2.1), (Sl Kf y1.2.2.1), (Vi y1.2.2.2.1), (Sl (Ki .i64) y1.2.2.2.2)], 115, none⟩])) (Hn := fun x : Addr => [⟨.pointer (some x), [(Vi y1.1), (Vi y1.2.1), (Sl Kf y1.2.2.1), (Vi y1.2.2.2.1), (Sl (Ki .i64) y1.2.2.2.2)], 115, none⟩, ⟨.pointer (some q3), [(Vb false)], 4, none⟩, ⟨.pointer (some q2), [(Vi 0), (Vi 0), (Vi 0), Vn, Vn, Vn, Vn], 27, none⟩, ⟨.pointer (some q1), [(Vi a0_0), (Vi a0_1), (Vi a0_2), (Sl Kf a0_3), (Sl (Ki .i64) a0_4), (Sl (Kl (Ki .i64)) a0_5), (Sl KT27 a0_6)], 27, none⟩]) (fun _ => rfl) rfl rfl) (wt_none' rfl) fun q13 => ?_
  refine nk hK4 ?_
  refine cx_block' ?_
  refine cr fun K5 hK5 => ?_
  refine s0 (rd_assert' rfl (F := fun _ => .tuple #[.pointer none, .bool false]) as44_35_37 as_no) ?_
  refine s0 (rd_extract' rfl rfl) ?_
  refine s0 (rd_extract' rfl rfl) ?_
  refine nk hK5 ?_
  refine cx_cond_f' rfl rfl ?_
  refine cr fun K8 hK8 => ?_
  refine s0 (rd_assert' rfl (F := fun _ => .tuple #[.pointer none, .bool false]) as44_35_40 as_no) ?_
  refine s0 (rd_extract' rfl rfl) ?_
  refine s0 (rd_extract' rfl rfl) ?_
  refine nk hK8 ?_
  refine cx_cond_f' rfl rfl ?_
  refine cr fun K11 hK11 => ?_
  refine s0 (rd_assert' rfl (F := fun _ => .tuple #[.pointer none, .bool false]) as44_35_42 as_no) ?_
  refine s0 (rd_extract' rfl rfl) ?_
  refine s0 (rd_extract' rfl rfl) ?_
  refine nk hK11 ?_
  refine cx_cond_f' rfl rfl ?_
  refine cr fun K14 hK14 => ?_
  refine s0 (rd_assert' rfl (F := fun v => .tuple #[v, .bool true]) as44_35_44k as_ok) ?_
  refine s0 (rd_extract' rfl rfl) ?_
  refine s0 (rd_extract' rfl rfl) ?_
  refine nk hK14 ?_
  refine cx_cond_t' rfl rfl ?_
  refine cr fun K15 hK15 => ?_
  refine s0 (rd_assign' rfl) ?_
  refine nk hK15 ?_
  refine cr fun K16 hK16 => ?_
  refine s0 (rd_move' rfl) ?_
  obtain ⟨r39, hr39, hp⟩ := bind_some hp
  refine sx_ox' (ox_callg' (ent_fn' Tryz.func16 isn16 rfl rfl) (gogeom_Polygon_Clone_sim _ _ _ _ _ hr39 : Sx.Fn Tryz.prog 16 [(Vp q13)] [⟨.pointer (some q13), [(Vi y1.1), (Vi y1.2.1), (Sl Kf y1.2.2.1), (Vi y1.2.2.2.1), (Sl (Ki .i64) y1.2.2.2.2)], 115, none⟩] (fun x : Addr × Gs × Gs => (Vp x.1)) (fun x => [⟨.pointer (some q13), [(Vi r39.1), (Vi r39.2.1), (Sl Kf r39.2.2.1), (Vi r39.2.2.2.1), (Sl (Ki .i64) r39.2.2.2.2.1)], 115, none⟩, ⟨.pointer (some x.1), [(Vi r39.1), (Vi r39.2.1), (Vl (Vs x.2.1)), (Vi r39.2.2.2.1), (Vl (Vs x.2.2))], 115, none⟩, (Rw Kf 95 (Vs x.2.1) r39.2.2.2.2.2.1), (Rw (Ki .i64) 3 (Vs x.2.2) r39.2.2.2.2.2.2)])) [0] [1, 2, 3] (by decide) (pick_cons rfl pick_nil) (pick_cons rfl (pick_cons rfl (pick_cons rfl pick_nil))) (Hn := fun x : Addr × Gs × Gs => [⟨.pointer (some q13), [(Vi r39.1), (Vi r39.2.1), (Sl Kf r39.2.2.1), (Vi r39.2.2.2.1), (Sl (Ki .i64) r39.2.2.2.2.1)], 115, none⟩, ⟨.pointer (some x.1), [(Vi r39.1), (Vi r39.2.1), (Vl (Vs x.2.1)), (Vi r39.2.2.2.1), (Vl (Vs x.2.2))], 115, none⟩, (Rw Kf 95 (Vs x.2.1) r39.2.2.2.2.2.1), (Rw (Ki .i64) 3 (Vs x.2.2) r39.2.2.2.2.2.2), ⟨.pointer (some q3), [(Vb false)], 4, none⟩, ⟨.pointer (some q2), [(Vi 0), (Vi 0), (Vi 0), Vn, Vn, Vn, Vn], 27, none⟩, ⟨.pointer (some q1), [(Vi a0_0), (Vi a0_1), (Vi a0_2), (Sl Kf a0_3), (Sl (Ki .i64) a0_4), (Sl (Kl (Ki .i64)) a0_5), (Sl KT27 a0_6)], 27, none⟩]) (fun _ => rfl) rfl rfl) (wt_none' rfl) fun ⟨q39, g39, gz1⟩ => ?_
  refine s0 (rd_iface' rfl ⟨_, Tryz.underlying44, fun _ h => (nomatch h)⟩) ?_
  obtain ⟨r41, hr41, hp⟩ := bind_some hp
  refine sx_ox' (ox_callg' (ent_fn' Tryz.func12 isn12 rfl rfl) (impl_plain_v4_sim _ _ _ _ _ hr41 : Sx.Fn Tryz.prog 12 [(If 44 (Vp q39))] [⟨.pointer (some q39), [(Vi r39.1), (Vi r39.2.1), (Vl (Vs g39)), (Vi r39.2.2.2.1), (Vl (Vs gz1))], 115, none⟩, (Rw Kf 95 (Vs g39) r39.2.2.2.2.2.1), (Rw (Ki .i64) 3 (Vs gz1) r39.2.2.2.2.2.2)] (fun x : Unit => (Ag [(Vi r41.2.2.2.2.2.1), (Vi r41.2.2.2.2.2.2.1), (Vi r41.2.2.2.2.2.2.2.1), (Sl Kf r41.2.2.2.2.2.2.2.2.1), (Sl (Ki .i64) r41.2.2.2.2.2.2.2.2.2), Vn, Vn])) (fun x => [⟨.pointer (some q39), [(Vi r41.1), (Vi r41.2.1), (Sl Kf r41.2.2.1), (Vi r41.2.2.2.1), (Sl (Ki .i64) r41.2.2.2.2.1)], 115, none⟩])) [1, 2, 3] [0, 4, 5, 6] (by decide) (pick_cons rfl (pick_cons rfl (pick_cons rfl pick_nil))) (pick_cons rfl (pick_cons rfl (pick_cons rfl (pick_cons rfl pick_nil)))) (Hn := fun x : Unit => [⟨.pointer (some q39), [(Vi r41.1), (Vi r41.2.1), (Sl Kf r41.2.2.1), (Vi r41.2.2.2.1), (Sl (Ki .i64) r41.2.2.2.2.1)], 115, none⟩, ⟨.pointer (some q13), [(Vi r39.1), (Vi r39.2.1), (Sl Kf r39.2.2.1), (Vi r39.2.2.2.1), (Sl (Ki .i64) r39.2.2.2.2.1)], 115, none⟩, ⟨.pointer (some q3), [(Vb false)], 4, none⟩, ⟨.pointer (some q2), [(Vi 0), (Vi 0), (Vi 0), Vn, Vn, Vn, Vn], 27, none⟩, ⟨.pointer (some q1), [(Vi a0_0), (Vi a0_1), (Vi a0_2), (Sl Kf a0_3), (Sl (Ki .i64) a0_4), (Sl (Kl (Ki .i64)) a0_5), (Sl KT27 a0_6)], 27, none⟩]) (fun _ => rfl) rfl rfl) (wt_none' rfl) fun ⟨⟩ => ?_
  refine sx_ox' (ox_store' (i := 3) (o := 0) rfl rfl (lv_ag _) ⟨rfl, rfl, rfl, rfl⟩ rfl info27 rfl (H' := [⟨.pointer (some q39), [(Vi r41.1), (Vi r41.2.1), (Sl Kf r41.2.2.1), (Vi r41.2.2.2.1), (Sl (Ki .i64) r41.2.2.2.2.1)], 115, none⟩, ⟨.pointer (some q13), [(Vi r39.1), (Vi r39.2.1), (Sl Kf r39.2.2.1), (Vi r39.2.2.2.1), (Sl (Ki .i64) r39.2.2.2.2.1)], 115, none⟩, ⟨.pointer (some q3), [(Vb false)], 4, none⟩, ⟨.pointer (some q2), [(Vi r41.2.2.2.2.2.1), (Vi r41.2.2.2.2.2.2.1), (Vi r41.2.2.2.2.2.2.2.1), (Sl Kf r41.2.2.2.2.2.2.2.2.1), (Sl (Ki .i64) r41.2.2.2.2.2.2.2.2.2), Vn, Vn], 27, none⟩, ⟨.pointer (some q1), [(Vi a0_0), (Vi a0_1), (Vi a0_2), (Sl Kf a0_3), (Sl (Ki .i64) a0_4), (Sl (Kl (Ki .i64)) a0_5), (Sl KT27 a0_6)], 27, none⟩]) rfl) (wt_none' rfl) fun _ => ?_
  refine sx_ox' (ox_store' (i := 2) (o := 0) rfl rfl (lv_vl rfl rfl) ⟨rfl, rfl, rfl, rfl⟩ rfl info4 rfl (H' := [⟨.pointer (some q39), [(Vi r41.1), (Vi r41.2.1), (Sl Kf r41.2.2.1), (Vi r41.2.2.2.1), (Sl (Ki .i64) r41.2.2.2.2.1)], 115, none⟩, ⟨.pointer (some q13), [(Vi r39.1), (Vi r39.2.1), (Sl Kf r39.2.2.1), (Vi r39.2.2.2.1), (Sl (Ki .i64) r39.2.2.2.2.1)], 115, none⟩, ⟨.pointer (some q3), [(Vb true)], 4, none⟩, ⟨.pointer (some q2), [(Vi r41.2.2.2.2.2.1), (Vi r41.2.2.2.2.2.2.1), (Vi r41.2.2.2.2.2.2.2.1), (Sl Kf r41.2.2.2.2.2.2.2.2.1), (Sl (Ki .i64) r41.2.2.2.2.2.2.2.2.2), Vn, Vn], 27, none⟩, ⟨.pointer (some q1), [(Vi a0_0), (Vi a0_1), (Vi a0_2), (Sl Kf a0_3), (Sl (Ki .i64) a0_4), (Sl (Kl (Ki .i64)) a0_5), (Sl KT27 a0_6)], 27, none⟩]) rfl) (wt_none' rfl) fun _ => ?_
  refine nk hK16 ?_
  refine cx_retc' ?_
  replace hp := Option.some.inj hp
  subst hp
  refine tx_leave' (.inl rfl) rfl idle10 rfl Tryz.func10 isn10 rfl ?_
  refine tx_pick' (L' := [(2, (Vp q2)), (3, (Vp q3))]) (H' := [⟨.pointer (some q2), [(Vi r41.2.2.2.2.2.1), (Vi r41.2.2.2.2.2.2.1), (Vi r41.2.2.2.2.2.2.2.1), (Sl Kf r41.2.2.2.2.2.2.2.2.1), (Sl (Ki .i64) r41.2.2.2.2.2.2.2.2.2), Vn, Vn], 27, none⟩, ⟨.pointer (some q3), [(Vb true)], 4, none⟩]) [3, 2] (sub_cons rfl (sub_cons rfl sub_nil)) (by decide) (pick_cons rfl (pick_cons rfl pick_nil)) ?_
  exact tx_ret2' Tryz.results6 rfl () (rv_imp' (x := (Ag [(Vi r41.2.2.2.2.2.1), (Vi r41.2.2.2.2.2.2.1), (Vi r41.2.2.2.2.2.2.2.1), (Sl Kf r41.2.2.2.2.2.2.2.2.1), (Sl (Ki .i64) r41.2.2.2.2.2.2.2.2.2), Vn, Vn])) (y := (Ag [(Vi r41.2.2.2.2.2.1), (Vi r41.2.2.2.2.2.2.1), (Vi r41.2.2.2.2.2.2.2.1), (Sl Kf r41.2.2.2.2.2.2.2.2.1), (Sl (Ki .i64) r41.2.2.2.2.2.2.2.2.2), (Sl (Kl (Ki .i64)) []), Vn])) (rv_cell_agg' (i := 0) (o := 0) (nn := 7) rfl ⟨rfl, rfl, rfl, rfl⟩ rfl agg27 rfl) (imp_ag ⟨imp_refl, imp_refl, imp_refl, imp_refl, imp_refl, imp_nil, imp_refl, trivial⟩)) (rv_cell' (i := 1) (o := 0) rfl ⟨rfl, rfl, rfl, rfl⟩ rfl flat4) rfl (List.nil_sublist _)
 ·dsimp only at hp
  refine sx_ox' (ox_calln' (ent_fn' Tryz.func11 isn11 rfl rfl) (impl_geometry_sim _ _ _ _ _ _ _ hr13 : Sx.Fn Tryz.prog 11 [(Ag [(Vi a0_0), (Vi a0_1), (Vi a0_2), (Sl Kf a0_3), (Sl (Ki .i64) a0_4), (Sl (Kl (Ki .i64)) a0_5), (Sl KT27 a0_6)])] [] (fun x : Addr => (If 46 (Vp x))) (fun x => [⟨.pointer (some x), [(Vi y1.1), (Vi y1.2.1), (Sl Kf y1.2.2.1), (Vi y1.2.2.2.1), (Sl (Ki .i64) y1.2.2.2.2)], 117, none⟩])) (Hn := fun x : Addr => [⟨.pointer (some x), [(Vi y1.1), (Vi y1.2.1), (Sl Kf y1.2.2.1), (Vi y1.2.2.2.1), (Sl (Ki .i64) y1.2.2.2.2)], 117, none⟩, ⟨.pointer (some q3), [(Vb false)], 4, none⟩, ⟨.pointer (some q2), [(Vi 0), (Vi 0), (Vi 0), Vn, Vn, Vn, Vn], 27, none⟩, ⟨.pointer (some q1), [(Vi a0_0), (Vi a0_1), (Vi a0_2), (Sl Kf a0_3), (Sl (Ki .i64) a0_4), (Sl (Kl (Ki .i64)) a0_5), (Sl KT27 a0_6)], 27, none⟩]) (fun _ => rfl) rfl rfl) (wt_none' rfl) fun q13 => ?_
  refine nk hK4 ?_
  refine cx_block' ?_
  refine cr fun K5 hK5 => ?_
  refine s0 (rd_assert' rfl (F := fun _ => .tuple #[.pointer none, .bool false]) as46_35_37 as_no) ?_
  refine s0 (rd_extract' rfl rfl) ?_
  refine s0 (rd_extract' rfl rfl) ?_
  refine nk hK5 ?_
  refine cx_cond_f' rfl rfl ?_
  refine cr fun K8 hK8 => ?_
  refine s0 (rd_assert' rfl (F := fun _ => .tuple #[.pointer none, .bool false]) as46_35_40 as_no) ?_
  refine s0 (rd_extract' rfl rfl) ?_
  refine s0 (rd_extract' rfl rfl) ?_
  refine nk hK8 ?_
  refine cx_cond_f' rfl rfl ?_
  refine cr fun K11 hK11 => ?_
  refine s0 (rd_assert' rfl (F := fun _ => .tuple #[.pointer none, .bool false]) as46_35_42 as_no) ?_
  refine s0 (rd_extract' rfl rfl) ?_
  refine s0 (rd_extract' rfl rfl) ?_
  refine nk hK11 ?_
  refine cx_cond_f' rfl rfl ?_
  refine cr fun K14 hK14 => ?_
  refine s0 (rd_assert' rfl (F := fun _ => .tuple #[.pointer none, .bool false]) as46_35_44 as_no) ?_
  refine s0 (rd_extract' rfl rfl) ?_
  refine s0 (rd_extract' rfl rfl) ?_
  refine nk hK14 ?_
  refine cx_cond_f' rfl rfl ?_
  refine cr fun K17 hK17 => ?_
  refine s0 (rd_assert' rfl (F := fun v => .tuple #[v, .bool true]) as46_35_46k as_ok) ?_
  refine s0 (rd_extract' rfl rfl) ?_
  refine s0 (rd_extract' rfl rfl) ?_
  refine nk hK17 ?_
  refine cx_cond_t' rfl rfl ?_
  refine cr fun K18 hK18 => ?_
  refine s0 (rd_assign' rfl) ?_
  refine nk hK18 ?_
  refine cr fun K19 hK19 => ?_
  refine s0 (rd_move' rfl) ?_
  obtain ⟨r46, hr46, hp⟩ := bind_some hp
  refine sx_ox' (ox_callg' (ent_fn' Tryz.func17 isn17 rfl rfl) (gogeom_MultiPoint_Clone_sim _ _ _ _ _ hr46 : Sx.Fn Tryz.prog 17 [(Vp q13)] [⟨.pointer (some q13), [(Vi y1.1), (Vi y1.2.1), (Sl Kf y1.2.2.1), (Vi y1.2.2.2.1), (Sl (Ki .i64) y1.2.2.2.2)], 117, none⟩] (fun x : Addr × Gs × Gs => (Vp x.1)) (fun x => [⟨.pointer (some q13), [(Vi r46.1), (Vi r46.2.1), (Sl Kf r46.2.2.1), (Vi r46.2.2.2.1), (Sl (Ki .i64) r46.2.2.2.2.1)], 117, none⟩, ⟨.pointer (some x.1), [(Vi r46.1), (Vi r46.2.1), (Vl (Vs x.2.1)), (Vi r46.2.2.2.1), (Vl (Vs x.2.2))], 117, none⟩, (Rw Kf 95 (Vs x.2.1) r46.2.2.2.2.2.1), (Rw (Ki .i64) 3 (Vs x.2.2) r46.2.2.2.2.2.2)])) [0] [1, 2, 3] (by decide) (pick_cons rfl pick_nil) (pick_cons rfl (pick_cons rfl (pick_cons rfl pick_nil))) (Hn := fun x : Addr × Gs × Gs => [⟨.pointer (some q13), [(Vi r46.1), (Vi r46.2.1), (Sl Kf r46.2.2.1), (Vi r46.2.2.2.1), (Sl (Ki .i64) r46.2.2.2.2.1)], 117, none⟩, ⟨.pointer (some x.1), [(Vi r46.1), (Vi r46.2.1), (Vl (Vs x.2.1)), (Vi r46.2.2.2.1), (Vl (Vs x.2.2))], 117, none⟩, (Rw Kf 95 (Vs x.2.1) r46.2.2.2.2.2.1), (Rw (Ki .i64) 3 (Vs x.2.2) r46.2.2.2.2.2.2), ⟨.pointer (some q3), [(Vb false)], 4, none⟩, ⟨.pointer (some q2), [(Vi 0), (Vi 0), (Vi 0), Vn, Vn, Vn, Vn], 27, none⟩, ⟨.pointer (some q1), [(Vi a0_0), (Vi a0_1), (Vi a0_2), (Sl Kf a0_3), (Sl (Ki .i64) a0_4), (Sl (Kl (Ki .i64)) a0_5), (Sl KT27 a0_6)], 27, none⟩]) (fun _ => rfl) rfl rfl) (wt_none' rfl) fun ⟨q46, g46, gz2⟩ => ?_
  refine s0 (rd_iface' rfl ⟨_, Tryz.underlying46, fun _ h => (nomatch h)⟩) ?_
  obtain ⟨r48, hr48, hp⟩ := bind_some hp
  refine sx_ox' (ox_callg' (ent_fn' Tryz.func12 isn12 rfl rfl) (impl_plain_v5_sim _ _ _ _ _ hr48 : Sx.Fn Tryz.prog 12 [(If 46 (Vp q46))] [⟨.pointer (some q46), [(Vi r46.1), (Vi r46.2.1), (Vl (Vs g46)), (Vi r46.2.2.2.1), (Vl (Vs gz2))], 117, none⟩, (Rw Kf 95 (Vs g46) r46.2.2.2.2.2.1), (Rw (Ki .i64) 3 (Vs gz2) r46.2.2.2.2.2.2)] (fun x : Unit => (Ag [(Vi r48.2.2.2.2.2.1), (Vi r48.2.2.2.2.2.2.1), (Vi r48.2.2.2.2.2.2.2.1), (Sl Kf r48.2.2.2.2.2.2.2.2.1), (Sl (Ki .i64) r48.2.2.2.2.2.2.2.2.2), Vn, Vn])) (fun x => [⟨.pointer (some q46), [(Vi r48.1), (Vi r48.2.1), (Sl Kf r48.2.2.1), (Vi r48.2.2.2.1), (Sl (Ki .i64) r48.2.2.2.2.1)], 117, none⟩])) [1, 2, 3] [0, 4, 5, 6] (by decide) (pick_cons rfl (pick_cons rfl (pick_cons rfl pick_nil))) (pick_cons rfl (pick_cons rfl (pick_cons rfl (pick_cons rfl pick_nil)))) (Hn := fun x : Unit => [⟨.pointer (some q46), [(Vi r48.1), (Vi r48.2.1), (Sl Kf r48.2.2.1), (Vi r48.2.2.2.1), (Sl (Ki .i64) r48.2.2.2.2.1)], 117, none⟩, ⟨.pointer (some q13), [(Vi r46.1), (Vi r46.2.1), (Sl Kf r46.2.2.1), (Vi r46.2.2.2.1), (Sl (Ki .i64) r46.2.2.2.2.1)], 117, none⟩, ⟨.pointer (some q3), [(Vb false)], 4, none⟩, ⟨.pointer (some q2), [(Vi 0), (Vi 0), (Vi 0), Vn, Vn, Vn, Vn], 27, none⟩, ⟨.pointer (some q1), [(Vi a0_0), (Vi a0_1), (Vi a0_2), (Sl Kf a0_3), (Sl (Ki .i64) a0_4), (Sl (Kl (Ki .i64)) a0_5), (Sl KT27 a0_6)], 27, none⟩]) (fun _ => rfl) rfl rfl) (wt_none' rfl) fun ⟨⟩ => ?_
  refine sx_ox' (ox_store' (i := 3) (o := 0) rfl rfl (lv_ag _) ⟨rfl, rfl, rfl, rfl⟩ rfl info27 rfl (H' := [⟨.pointer (some q46), [(Vi r48.1), (Vi r48.2.1), (Sl Kf r48.2.2.1), (Vi r48.2.2.2.1), (Sl (Ki .i64) r48.2.2.2.2.1)], 117, none⟩, ⟨.pointer (some q13), [(Vi r46.1), (Vi r46.2.1), (Sl Kf r46.2.2.1), (Vi r46.2.2.2.1), (Sl (Ki .i64) r46.2.2.2.2.1)], 117, none⟩, ⟨.pointer (some q3), [(Vb false)], 4, none⟩, ⟨.pointer (some q2), [(Vi r48.2.2.2.2.2.1), (Vi r48.2.2.2.2.2.2.1), (Vi r48.2.2.2.2.2.2.2.1), (Sl Kf r48.2.2.2.2.2.2.2.2.1), (Sl (Ki .i64) r48.2.2.2.2.2.2.2.2.2), Vn, Vn], 27, none⟩, ⟨.pointer (some q1), [(Vi a0_0), (Vi a0_1), (Vi a0_2), (Sl Kf a0_3), (Sl (Ki .i64) a0_4), (Sl (Kl (Ki .i64)) a0_5), (Sl KT27 a0_6)], 27, none⟩]) rfl) (wt_none' rfl) fun _ => ?_
  refine sx_ox' (ox_store' (i := 2) (o := 0) rfl rfl (lv_vl rfl rfl) ⟨rfl, rfl, rfl, rfl⟩ rfl info4 rfl (H' := [⟨.pointer (some q46), [(Vi r48.1), (Vi r48.2.1), (Sl Kf r48.2.2.1), (Vi r48.2.2.2.1), (Sl (Ki .i64) r48.2.2.2.2.1)], 117, none⟩, ⟨.pointer (some q13), [(Vi r46.1), (Vi r46.2.1), (Sl Kf r46.2.2.1), (Vi r46.2.2.2.1), (Sl (Ki .i64) r46.2.2.2.2.1)], 117, none⟩, ⟨.pointer (some q3), [(Vb true)], 4, none⟩, ⟨.pointer (some q2), [(Vi r48.2.2.2.2.2.1), (Vi r48.2.2.2.2.2.2.1), (Vi r48.2.2.2.2.2.2.2.1), (Sl Kf r48.2.2.2.2.2.2.2.2.1), (Sl (Ki .i64) r48.2.2.2.2.2.2.2.2.2), Vn, Vn], 27, none⟩, ⟨.pointer (some q1), [(Vi a0_0), (Vi a0_1), (Vi a0_2), (Sl Kf a0_3), (Sl (Ki .i64) a0_4), (Sl (Kl (Ki .i64)) a0_5), (Sl KT27 a0_6)], 27, none⟩]) rfl) (wt_none' rfl) fun _ => ?_
  refine nk hK19 ?_
  refine cx_retc' ?_
  replace hp := Option.some.inj hp
  subst hp
  refine tx_leave' (.inl rfl) rfl idle10 rfl Tryz.func10 isn10 rfl ?_
  refine tx_pick' (L' := [(2, (Vp q2)), (3, (Vp q3))]) (H' := [⟨.pointer (some q2), [(Vi r48.2.2.2.2.2.1), (Vi r48.2.2.2.2.2.2.1), (Vi r48.2.2.2.2.2.2.2.1), (Sl Kf r48.2.2.2.2.2.2.2.2.1), (Sl (Ki .i64) r48.2.2.2.2.2.2.2.2.2), Vn, Vn], 27, none⟩, ⟨.pointer (some q3), [(Vb true)], 4, none⟩]) [3, 2] (sub_cons rfl (sub_cons rfl sub_nil)) (by decide) (pick_cons rfl (pick_cons rfl pick_nil)) ?_
  exact tx_ret2' Tryz.results6 rfl () (rv_imp' (x := (Ag [(Vi r48.2.2.2.2.2.1), (Vi r48.2.2.2.2.2.2.1), (Vi r48.2.2.2.2.2.2.2.1), (Sl Kf r48.2.2.2.2.2.2.2.2.1), (Sl (Ki .i64) r48.2.2.2.2.2.2.2.2.2), Vn, Vn])) (y := (Ag [(Vi r48.2.2.2.2.2.1), (Vi r48.2.2.2.2.2.2.1), (Vi r48.2.2.2.2.2.2.2.1), (Sl Kf r48.2.2.2.2.2.2.2.2.1), (Sl (Ki .i64) r48.2.2.2.2.2.2.2.2.2), (Sl (Kl (Ki .i64)) []), Vn])) (rv_cell_agg' (i := 0) (o := 0) (nn := 7) rfl ⟨rfl, rfl, rfl, rfl⟩ rfl agg27 rfl) (imp_ag ⟨imp_refl, imp_refl, imp_refl, imp_refl, imp_refl, imp_nil, imp_refl, trivial⟩)) (rv_cell' (i := 1) (o := 0) rfl ⟨rfl, rfl, rfl, rfl⟩ rfl flat4) rfl (List.nil_sublist _)
 ·dsimp only at hp
  refine sx_ox' (ox_calln' (ent_fn' Tryz.func11 isn11 rfl rfl) (impl_geometry_sim _ _ _ _ _ _ _ hr13 : Sx.Fn Tryz.prog 11 [(Ag [(Vi a0_0), (Vi a0_1), (Vi a0_2), (Sl Kf a0_3), (Sl (Ki .i64) a0_4), (Sl (Kl (Ki .i64)) a0_5), (Sl KT27 a0_6)])] [] (fun x : Addr => (If 48 (Vp x))) (fun x => [⟨.pointer (some x), [(Vi y1.1), (Vi y1.2.1), (Sl Kf y1.2.2.1), (Vi y1.2.2.2.1), (Sl (Ki .i64) y1.2.2.2.2)], 118, none⟩])) (Hn := fun x : Addr => [⟨.pointer (some x), [(Vi y1.1), (Vi y1.2.1), (Sl Kf y1.2.2.1), (Vi y1.2.2.2.1), (Sl (Ki .i64) y1.2.2.2.2)], 118, none⟩, ⟨.pointer (some q3), [(Vb false)], 4, none⟩, ⟨.pointer (some q2), [(Vi 0), (Vi 0), (Vi 0), Vn, Vn, Vn, Vn], 27, none⟩, ⟨.pointer (some q1), [(Vi a0_0), (Vi a0_1), (Vi a0_2), (Sl Kf a0_3), (Sl (Ki .i64) a0_4), (Sl (Kl (Ki .i64)) a0_5), (Sl KT27 a0_6)], 27, none⟩]) (fun _ => rfl) rfl rfl) (wt_none' rfl) fun q13 => ?_
  refine nk hK4 ?_
  refine cx_block' ?_
  refine cr fun K5 hK5 => ?_
  refine s0 (rd_assert' rfl (F := fun _ => .tuple #[.pointer none, .bool false]) as48_35_37 as_no) ?_
  refine s0 (rd_extract' rfl rfl) ?_
  refine s0 (rd_extract' rfl rfl) ?_
  refine nk hK5 ?_
  refine cx_cond_f' rfl rfl ?_
  refine cr fun K8 hK8 => ?_
  refine s0 (rd_assert' rfl (F := fun _ => .tuple #[.pointer none, .bool false]) as48_35_40 as_no) ?_
  refine s0 (rd_extract' rfl rfl) ?_
  refine s0 (rd_extract' rfl rfl) ?_
  refine nk hK8 ?_
  refine cx_cond_f' rfl rfl ?_
  refine cr fun K11 hK11 => ?_
  refine s0 (rd_assert' rfl (F := fun _ => .tuple #[.pointer none, .bool false]) as48_35_42 as_no) ?_
  refine s0 (rd_extract' rfl rfl) ?_
  refine s0 (rd_extract' rfl rfl) ?_
  refine nk hK11 ?_
  refine cx_cond_f' rfl rfl ?_
  refine cr fun K14 hK14 => ?_
  refine s0 (rd_assert' rfl (F := fun _ => .tuple #[.pointer none, .bool false]) as48_35_44 as_no) ?_
  refine s0 (rd_extract' rfl rfl) ?_
  refine s0 (rd_extract' rfl rfl) ?_
  refine nk hK14 ?_
  refine cx_cond_f' rfl rfl ?_
  refine cr fun K17 hK17 => ?_
  refine s0 (rd_assert' rfl (F := fun _ => .tuple #[.pointer none, .bool false]) as48_35_46 as_no) ?_
  refine s0 (rd_extract' rfl rfl) ?_
  refine s0 (rd_extract' rfl rfl) ?_
  refine nk hK17 ?_
  refine cx_cond_f' rfl rfl ?_
  refine cr fun K20 hK20 => ?_
  refine s0 (rd_assert' rfl (F := fun v => .tuple #[v, .bool true]) as48_35_48k as_ok) ?_
  refine s0 (rd_extract' rfl rfl) ?_
  refine s0 (rd_extract' rfl rfl) ?_
  refine nk hK20 ?_
  refine cx_cond_t' rfl rfl ?_
  refine cr fun K21 hK21 => ?_
  refine s0 (rd_assign' rfl) ?_
  refine nk hK21 ?_
  refine cr fun K22 hK22 => ?_
  refine s0 (rd_move' rfl) ?_
  obtain ⟨r53, hr53, hp⟩ := bind_some hp
  refine sx_ox' (ox_callg' (ent_fn' Tryz.func18 isn18 rfl rfl) (gogeom_MultiLineString_Clone_sim _ _ _ _ _ hr53 : Sx.Fn Tryz.prog 18 [(Vp q13)] [⟨.pointer (some q13), [(Vi y1.1), (Vi y1.2.1), (Sl Kf y1.2.2.1), (Vi y1.2.2.2.1), (Sl (Ki .i64) y1.2.2.2.2)], 118, none⟩] (fun x : Addr × Gs × Gs => (Vp x.1)) (fun x => [⟨.pointer (some q13), [(Vi r53.1), (Vi r53.2.1), (Sl Kf r53.2.2.1), (Vi r53.2.2.2.1), (Sl (Ki .i64) r53.2.2.2.2.1)], 118, none⟩, ⟨.pointer (some x.1), [(Vi r53.1), (Vi r53.2.1), (Vl (Vs x.2.1)), (Vi r53.2.2.2.1), (Vl (Vs x.2.2))], 118, none⟩, (Rw Kf 95 (Vs x.2.1) r53.2.2.2.2.2.1), (Rw (Ki .i64) 3 (Vs x.2.2) r53.2.2.2.2.2.2)])) [0] [1, 2, 3] (by decide) (pick_cons rfl pick_nil) (pick_cons rfl (pick_cons rfl (pick_cons rfl pick_nil))) (Hn := fun x : Addr × Gs × Gs => [⟨.pointer (some q13), [(Vi r53.1), (Vi r53.2.1), (Sl Kf r53.2.2.1), (Vi r53.2.2.2.1), (Sl (Ki .i64) r53.2.2.2.2.1)], 118, none⟩, ⟨.pointer (some x.1), [(Vi r53.1), (Vi r53.2.1), (Vl (Vs x.2.1)), (Vi r53.2.2.2.1), (Vl (Vs x.2.2))], 118, none⟩, (Rw Kf 95 (Vs x.2.1) r53.2.2.2.2.2.1), (Rw (Ki .i64) 3 (Vs x.2.2) r53.2.2.2.2.2.2), ⟨.pointer (some q3), [(Vb false)], 4, none⟩, ⟨.pointer (some q2), [(Vi 0), (Vi 0), (Vi 0), Vn, Vn, Vn, Vn], 27, none⟩, ⟨.pointer (some q1), [(Vi a0_0), (Vi a0_1), (Vi a0_2), (Sl Kf a0_3), (Sl (Ki .i64) a0_4), (Sl (Kl (Ki .i64)) a0_5), (Sl KT27 a0_6)], 27, none⟩]) (fun _ => rfl) rfl rfl) (wt_none' rfl) fun ⟨q53, g53, gz3⟩ => ?_
  refine s0 (rd_iface' rfl ⟨_, Tryz.underlying48, fun _ h => (nomatch h)⟩) ?_
  obtain ⟨r55, hr55, hp⟩ := bind_some hp
  refine sx_ox' (ox_callg' (ent_fn' Tryz.func12 isn12 rfl rfl) (impl_plain_v6_sim _ _ _ _ _ hr55 : Sx.Fn Tryz.prog 12 [(If 48 (Vp q53))] [⟨.pointer (some q53), [(Vi r53.1), (Vi r53.2.1), (Vl (Vs g53)), (Vi r53.2.2.2.1), (Vl (Vs gz3))], 118, none⟩, (Rw Kf 95 (Vs g53) r53.2.2.2.2.2.1), (Rw (Ki .i64) 3 (Vs gz3) r53.2.2.2.2.2.2)] (fun x : Unit => (Ag [(Vi r55.2.2.2.2.2.1), (Vi r55.2.2.2.2.2.2.1), (Vi r55.2.2.2.2.2.2.2.1), (Sl Kf r55.2.2.2.2.2.2.2.2.1), (Sl (Ki .i64) r55.2.2.2.2.2.2.2.2.2), Vn, Vn])) (fun x => [⟨.pointer (some q53), [(Vi r55.1), (Vi r55.2.1), (Sl Kf r55.2.2.1), (Vi r55.2.2.2.1), (Sl (Ki .i64) r55.2.2.2.2.1)], 118, none⟩])) [1, 2, 3] [0, 4, 5, 6] (by decide) (pick_cons rfl (pick_cons rfl (pick_cons rfl pick_nil))) (pick_cons rfl (pick_cons rfl (pick_cons rfl (pick_cons rfl pick_nil)))) (Hn := fun x : Unit => [⟨.pointer (some q53), [(Vi r55.1), (Vi r55.2.1), (Sl Kf r55.2.2.1), (Vi r55.2.2.2.1), (Sl (Ki .i64) r55.2.2.2.2.1)], 118, none⟩, ⟨.pointer (some q13), [(Vi r53.1), (Vi r53.2.1), (Sl Kf r53.2.2.1), (Vi r53.2.2.2.1), (Sl (Ki .i64) r53.2.2.2.2.1)], 118, none⟩, ⟨.pointer (some q3), [(Vb false)], 4, none⟩, ⟨.pointer (some q2), [(Vi 0), (Vi 0), (Vi 0), Vn, Vn, Vn, Vn], 27, none⟩, ⟨.pointer (some q1), [(Vi a0_0), (Vi a0_1), (Vi a0_2), (Sl Kf a0_3), (Sl (Ki .i64) a0_4), (Sl (Kl (Ki .i64)) a0_5), (Sl KT27 a0_6)], 27, none⟩]) (fun _ => rfl) rfl rfl) (wt_none' rfl) fun ⟨⟩ => ?_
  refine sx_ox' (ox_store' (i := 3) (o := 0) rfl rfl (lv_ag _) ⟨rfl, rfl, rfl, rfl⟩ rfl info27 rfl (H' := [⟨.pointer (some q53), [(Vi r55.1), (Vi r55.2.1), (Sl Kf r55.2.2.1), (Vi r55.2.2.2.1), (Sl (Ki .i64) r55.2.2.2.2.1)], 118, none⟩, ⟨.pointer (some q13), [(Vi r53.1), (Vi r53.2.1), (Sl Kf r53.2.2.1), (Vi r53.2.2.2.1), (Sl (Ki .i64) r53.2.2.2.2.1)], 118, none⟩, ⟨.pointer (some q3), [(Vb false)], 4, none⟩, ⟨.pointer (some q2), [(Vi r55.2.2.2.2.2.1), (Vi r55.2.2.2.2.2.2.1), (Vi r55.2.2.2.2.2.2.2.1), (Sl Kf r55.2.2.2.2.2.2.2.2.1), (Sl (Ki .i64) r55.2.2.2.2.2.2.2.2.2), Vn, Vn], 27, none⟩, ⟨.pointer (some q1), [(Vi a0_0), (Vi a0_1), (Vi a0_2), (Sl Kf a0_3), (Sl (Ki .i64) a0_4), (Sl (Kl (Ki .i64)) a0_5), (Sl KT27 a0_6)], 27, none⟩]) rfl) (wt_none' rfl) fun _ => ?_
  refine sx_ox' (ox_store' (i := 2) (o := 0) rfl rfl (lv_vl rfl rfl) ⟨rfl, rfl, rfl, rfl⟩ rfl info4 rfl (H' := [⟨.pointer (some q53), [(Vi r55.1), (Vi r55.2.1), (Sl Kf r55.2.2.1), (Vi r55.2.2.2.1), (Sl (Ki .i64) r55.2.2.2.2.1)], 118, none⟩, ⟨.pointer (some q13), [(Vi r53.1), (Vi r53.2.1), (Sl Kf r53.2.2.1), (Vi r53.2.2.2.1), (Sl (Ki .i64) r53.2.2.2.2.1)], 118, none⟩, ⟨.pointer (some q3), [(Vb true)], 4, none⟩, ⟨.pointer (some q2), [(Vi r55.2.2.2.2.2.1), (Vi r55.2.2.2.2.2.2.1), (Vi r55.2.2.2.2.2.2.2.1), (Sl Kf r55.2.2.2.2.2.2.2.2.1), (Sl (Ki .i64) r55.2.2.2.2.2.2.2.2.2), Vn, Vn], 27, none⟩, ⟨.pointer (some q1), [(Vi a0_0), (Vi a0_1), (Vi a0_2), (Sl Kf a0_3), (Sl (Ki .i64) a0_4), (Sl (Kl (Ki .i64)) a0_5), (Sl KT27 a0_6)], 27, none⟩]) rfl) (wt_none' rfl) fun _ => ?_
  refine nk hK22 ?_
  refine cx_retc' ?_
  replace hp := Option.some.inj hp
  subst hp
  refine tx_leave' (.inl rfl) rfl idle10 rfl Tryz.func10 isn10 rfl ?_
  refine tx_pick' (L' := [(2, (Vp q2)), (3, (Vp q3))]) (H' := [⟨.pointer (some q2), [(Vi r55.2.2.2.2.2.1), (Vi r55.2.2.2.2.2.2.1), (Vi r55.2.2.2.2.2.2.2.1), (Sl Kf r55.2.2.2.2.2.2.2.2.1), (Sl (Ki .i64) r55.2.2.2.2.2.2.2.2.2), Vn, Vn], 27, none⟩, ⟨.pointer (some q3), [(Vb true)], 4, none⟩]) [3, 2] (sub_cons rfl (sub_cons rfl sub_nil)) (by decide) (pick_cons rfl (pick_cons rfl pick_nil)) ?_
  exact tx_ret2' Tryz.results6 rfl () (rv_imp' (x := (Ag [(Vi r55.2.2.2.2.2.1), (Vi r55.2.2.2.2.2.2.1), (Vi r55.2.2.2.2.2.2.2.1), (Sl Kf r55.2.2.2.2.2.2.2.2.1), (Sl (Ki .i64) r55.2.2.2.2.2.2.2.2.2), Vn, Vn])) (y := (Ag [(Vi r55.2.2.2.2.2.1), (Vi r55.2.2.2.2.2.2.1), (Vi r55.2.2.2.2.2.2.2.1), (Sl Kf r55.2.2.2.2.2.2.2.2.1), (Sl (Ki .i64) r55.2.2.2.2.2.2.2.2.2), (Sl (Kl (Ki .i64)) []), Vn])) (rv_cell_agg' (i := 0) (o := 0) (nn := 7) rfl ⟨rfl, rfl, rfl, rfl⟩ rfl agg27 rfl) (imp_ag ⟨imp_refl, imp_refl, imp_refl, imp_refl, imp_refl, imp_nil, imp_refl, trivial⟩)) (rv_cell' (i := 1) (o := 0) rfl ⟨rfl, rfl, rfl, rfl⟩ rfl flat4) rfl (List.nil_sublist _)
 ·dsimp only at hp
  refine sx_ox' (ox_calln' (ent_fn' Tryz.func11 isn11 rfl rfl) (impl_geometry_sim _ _ _ _ _ _ _ hr13 : Sx.Fn Tryz.prog 11 [(Ag [(Vi a0_0), (Vi a0_1), (Vi a0_2), (Sl Kf a0_3), (Sl (Ki .i64) a0_4), (Sl (Kl (Ki .i64)) a0_5), (Sl KT27 a0_6)])] [] (fun x : Addr => (If 50 (Vp x))) (fun x => [⟨.pointer (some x), [(Vi y1.1), (Vi y1.2.1), (Sl Kf y1.2.2.1), (Vi y1.2.2.2.1), (Sl (Kl (Ki .i64)) y1.2.2.2.2)], 122, none⟩])) (Hn := fun x : Addr => [⟨.pointer (some x), [(Vi y1.1), (Vi y1.2.1), (Sl Kf y1.2.2.1), (Vi y1.2.2.2.1), (Sl (Kl (Ki .i64)) y1.2.2.2.2)], 122, none⟩, ⟨.pointer (some q3), [(Vb false)], 4, none⟩, ⟨.pointer (some q2), [(Vi 0), (Vi 0), (Vi 0), Vn, Vn, Vn, Vn], 27, none⟩, ⟨.pointer (some q1), [(Vi a0_0), (Vi a0_1), (Vi a0_2), (Sl Kf a0_3), (Sl (Ki .i64) a0_4), (Sl (Kl (Ki .i64)) a0_5), (Sl KT27 a0_6)], 27, none⟩]) (fun _ => rfl) rfl rfl) (wt_none' rfl) fun q13 => ?_
  refine nk hK4 ?_
  refine cx_block' ?_
  refine cr fun K5 hK5 => ?_
  refine s0 (rd_assert' rfl (F := fun _ => .tuple #[.pointer none, .bool false]) as50_35_37 as_no) ?_
  refine s0 (rd_extract' rfl rfl) ?_
  refine s0 (rd_extract' rfl rfl) ?_
  refine nk hK5 ?_
  refine cx_cond_f' rfl rfl ?_
  refine cr fun K8 hK8 => ?_
  refine s0 (rd_assert' rfl (F := fun _ => .tuple #[.pointer none, .bool false]) as50_35_40 as_no) ?_
  refine s0 (rd_extract' rfl rfl) ?_
  refine s0 (rd_extract' rfl rfl) ?_
  refine nk hK8 ?_
  refine cx_cond_f' rfl rfl ?_
  refine cr fun K11 hK11 => ?_
  refine s0 (rd_assert' rfl (F := fun _ => .tuple #[.pointer none, .bool false]) as50_35_42 as_no) ?_
  refine s0 (rd_extract' rfl rfl) ?_
  refine s0 (rd_extract' rfl rfl) ?_
  refine nk hK11 ?_
  refine cx_cond_f' rfl rfl ?_
  refine cr fun K14 hK14 => ?_
  refine s0 (rd_assert' rfl (F := fun _ => .tuple #[.pointer none, .bool false]) as50_35_44 as_no) ?_
  refine s0 (rd_extract' rfl rfl) ?_
  refine s0 (rd_extract' rfl rfl) ?_
  refine nk hK14 ?_
  refine cx_cond_f' rfl rfl ?_
  refine cr fun K17 hK17 => ?_
  refine s0 (rd_assert' rfl (F := fun _ => .tuple #[.pointer none, .bool false]) as50_35_46 as_no) ?_
  refine s0 (rd_extract' rfl rfl) ?_
  refine s0 (rd_extract' rfl rfl) ?_
  refine nk hK17 ?_
  refine cx_cond_f' rfl rfl ?_
  refine cr fun K20 hK20 => ?_
  refine s0 (rd_assert' rfl (F := fun _ => .tuple #[.pointer none, .bool false]) as50_35_48 as_no) ?_
  refine s0 (rd_extract' rfl rfl) ?_
  refine s0 (rd_extract' rfl rfl) ?_
  refine nk hK20 ?_
  refine cx_cond_f' rfl rfl ?_
  refine cr fun K23 hK23 => ?_
  refine s0 (rd_assert' rfl (F := fun v => .tuple #[v, .bool true]) as50_35_50k as_ok) ?_
  refine s0 (rd_extract' rfl rfl) ?_
  refine s0 (rd_extract' rfl rfl) ?_
  refine nk hK23 ?_
  refine cx_cond_t' rfl rfl ?_
  refine cr fun K24 hK24 => ?_
  refine s0 (rd_assign' rfl) ?_
  refine nk hK24 ?_
  refine cr fun K25 hK25 => ?_
  refine s0 (rd_move' rfl) ?_
  obtain ⟨r60, hr60, hp⟩ := bind_some hp
  refine sx_ox' (ox_callg' (ent_fn' Tryz.func19 isn19 rfl rfl) (gogeom_MultiPolygon_Clone_sim _ _ _ _ _ hr60 : Sx.Fn Tryz.prog 19 [(Vp q13)] [⟨.pointer (some q13), [(Vi y1.1), (Vi y1.2.1), (Sl Kf y1.2.2.1), (Vi y1.2.2.2.1), (Sl (Kl (Ki .i64)) y1.2.2.2.2)], 122, none⟩] (fun x : Addr × Gs × Gs => (Vp x.1)) (fun x => [⟨.pointer (some q13), [(Vi r60.1), (Vi r60.2.1), (Sl Kf r60.2.2.1), (Vi r60.2.2.2.1), (Sl (Kl (Ki .i64)) r60.2.2.2.2.1)], 122, none⟩, ⟨.pointer (some x.1), [(Vi r60.1), (Vi r60.2.1), (Vl (Vs x.2.1)), (Vi r60.2.2.2.1), (Vl (Vs x.2.2))], 122, none⟩, (Rw Kf 95 (Vs x.2.1) r60.2.2.2.2.2.1), (Rw (Kl (Ki .i64)) 23 (Vs x.2.2) r60.2.2.2.2.2.2)])) [0] [1, 2, 3] (by decide) (pick_cons rfl pick_nil) (pick_cons rfl (pick_cons rfl (pick_cons rfl pick_nil))) (Hn := fun x : Addr × Gs × Gs => [⟨.pointer (some q13), [(Vi r60.1), (Vi r60.2.1), (Sl Kf r60.2.2.1), (Vi r60.2.2.2.1), (Sl (Kl (Ki .i64)) r60.2.2.2.2.1)], 122, none⟩, ⟨.pointer (some x.1), [(Vi r60.1), (Vi r60.2.1), (Vl (Vs x.2.1)), (Vi r60.2.2.2.1), (Vl (Vs x.2.2))], 122, none⟩, (Rw Kf 95 (Vs x.2.1) r60.2.2.2.2.2.1), (Rw (Kl (Ki .i64)) 23 (Vs x.2.2) r60.2.2.2.2.2.2), ⟨.pointer (some q3), [(Vb false)], 4, none⟩, ⟨.pointer (some q2), [(Vi 0), (Vi 0), (Vi 0), Vn, Vn, Vn, Vn], 27, none⟩, ⟨.pointer (some q1), [(Vi a0_0), (Vi a0_1), (Vi a0_2), (Sl Kf a0_3), (Sl (Ki .i64) a0_4), (Sl (Kl (Ki .i64)) a0_5), (Sl KT27 a0_6)], 27, none⟩]) (fun _ => rfl) rfl rfl) (wt_none' rfl) fun ⟨q60, g60, gz4⟩ => ?_
  refine s0 (rd_iface' rfl ⟨_, Tryz.underlying50, fun _ h => (nomatch h)⟩) ?_
  obtain ⟨r62, hr62, hp⟩ := bind_some hp
  refine sx_ox' (ox_callg' (ent_fn' Tryz.func12 isn12 rfl rfl) (impl_plain_v7_sim _ _ _ _ _ hr62 : Sx.Fn Tryz.prog 12 [(If 50 (Vp q60))] [⟨.pointer (some q60), [(Vi r60.1), (Vi r60.2.1), (Vl (Vs g60)), (Vi r60.2.2.2.1), (Vl (Vs gz4))], 122, none⟩, (Rw Kf 95 (Vs g60) r60.2.2.2.2.2.1), (Rw (Kl (Ki .i64)) 23 (Vs gz4) r60.2.2.2.2.2.2)] (fun x : Unit => (Ag [(Vi r62.2.2.2.2.2.1), (Vi r62.2.2.2.2.2.2.1), (Vi r62.2.2.2.2.2.2.2.1), (Sl Kf r62.2.2.2.2.2.2.2.2.1), (Sl (Ki .i64) r62.2.2.2.2.2.2.2.2.2.1), (Sl (Kl (Ki .i64)) r62.2.2.2.2.2.2.2.2.2.2), Vn])) (fun x => [⟨.pointer (some q60), [(Vi r62.1), (Vi r62.2.1), (Sl Kf r62.2.2.1), (Vi r62.2.2.2.1), (Sl (Kl (Ki .i64)) r62.2.2.2.2.1)], 122, none⟩])) [1, 2, 3] [0, 4, 5, 6] (by decide) (pick_cons rfl (pick_cons rfl (pick_cons rfl pick_nil))) (pick_cons rfl (pick_cons rfl (pick_cons rfl (pick_cons rfl pick_nil)))) (Hn := fun x : Unit => [⟨.pointer (some q60), [(Vi r62.1), (Vi r62.2.1), (Sl Kf r62.2.2.1), (Vi r62.2.2.2.1), (Sl (Kl (Ki .i64)) r62.2.2.2.2.1)], 122, none⟩, ⟨.pointer (some q13), [(Vi r60.1), (Vi r60.2.1), (Sl Kf r60.2.2.1), (Vi r60.2.2.2.1), (Sl (Kl (Ki .i64)) r60.2.2.2.2.1)], 122, none⟩, ⟨.pointer (some q3), [(Vb false)], 4, none⟩, ⟨.pointer (some q2), [(Vi 0), (Vi 0), (Vi 0), Vn, Vn, Vn, Vn], 27, none⟩, ⟨.pointer (some q1), [(Vi a0_0), (Vi a0_1), (Vi a0_2), (Sl Kf a0_3), (Sl (Ki .i64) a0_4), (Sl (Kl (Ki .i64)) a0_5), (Sl KT27 a0_6)], 27, none⟩]) (fun _ => rfl) rfl rfl) (wt_none' rfl) fun ⟨⟩ => ?_
  refine sx_ox' (ox_store' (i := 3) (o := 0) rfl rfl (lv_ag _) ⟨rfl, rfl, rfl, rfl⟩ rfl info27 rfl (H' := [⟨.pointer (some q60), [(Vi r62.1), (Vi r62.2.1), (Sl Kf r62.2.2.1), (Vi r62.2.2.2.1), (Sl (Kl (Ki .i64)) r62.2.2.2.2.1)], 122, none⟩, ⟨.pointer (some q13), [(Vi r60.1), (Vi r60.2.1), (Sl Kf r60.2.2.1), (Vi r60.2.2.2.1), (Sl (Kl (Ki .i64)) r60.2.2.2.2.1)], 122, none⟩, ⟨.pointer (some q3), [(Vb false)], 4, none⟩, ⟨.pointer (some q2), [(Vi r62.2.2.2.2.2.1), (Vi r62.2.2.2.2.2.2.1), (Vi r62.2.2.2.2.2.2.2.1), (Sl Kf r62.2.2.2.2.2.2.2.2.1), (Sl (Ki .i64) r62.2.2.2.2.2.2.2.2.2.1), (Sl (Kl (Ki .i64)) r62.2.2.2.2.2.2.2.2.2.2), Vn], 27, none⟩, ⟨.pointer (some q1), [(Vi a0_0), (Vi a0_1), (Vi a0_2), (Sl Kf a0_3), (Sl (Ki .i64) a0_4), (Sl (Kl (Ki .i64)) a0_5), (Sl KT27 a0_6)], 27, none⟩]) rfl) (wt_none' rfl) fun _ => ?_
  refine sx_ox' (ox_store' (i := 2) (o := 0) rfl rfl (lv_vl rfl rfl) ⟨rfl, rfl, rfl, rfl⟩ rfl info4 rfl (H' := [⟨.pointer (some q60), [(Vi r62.1), (Vi r62.2.1), (Sl Kf r62.2.2.1), (Vi r62.2.2.2.1), (Sl (Kl (Ki .i64)) r62.2.2.2.2.1)], 122, none⟩, ⟨.pointer (some q13), [(Vi r60.1), (Vi r60.2.1), (Sl Kf r60.2.2.1), (Vi r60.2.2.2.1), (Sl (Kl (Ki .i64)) r60.2.2.2.2.1)], 122, none⟩, ⟨.pointer (some q3), [(Vb true)], 4, none⟩, ⟨.pointer (some q2), [(Vi r62.2.2.2.2.2.1), (Vi r62.2.2.2.2.2.2.1), (Vi r62.2.2.2.2.2.2.2.1), (Sl Kf r62.2.2.2.2.2.2.2.2.1), (Sl (Ki .i64) r62.2.2.2.2.2.2.2.2.2.1), (Sl (Kl (Ki .i64)) r62.2.2.2.2.2.2.2.2.2.2), Vn], 27, none⟩, ⟨.pointer (some q1), [(Vi a0_0), (Vi a0_1), (Vi a0_2), (Sl Kf a0_3), (Sl (Ki .i64) a0_4), (Sl (Kl (Ki .i64)) a0_5), (Sl KT27 a0_6)], 27, none⟩]) rfl) (wt_none' rfl) fun _ => ?_
  refine nk hK25 ?_
  refine cx_retc' ?_
  replace hp := Option.some.inj hp
  subst hp
  refine tx_leave' (.inl rfl) rfl idle10 rfl Tryz.func10 isn10 rfl ?_
  refine tx_pick' (L' := [(2, (Vp q2)), (3, (Vp q3))]) (H' := [⟨.pointer (some q2), [(Vi r62.2.2.2.2.2.1), (Vi r62.2.2.2.2.2.2.1), (Vi r62.2.2.2.2.2.2.2.1), (Sl Kf r62.2.2.2.2.2.2.2.2.1), (Sl (Ki .i64) r62.2.2.2.2.2.2.2.2.2.1), (Sl (Kl (Ki .i64)) r62.2.2.2.2.2.2.2.2.2.2), Vn], 27, none⟩, ⟨.pointer (some q3), [(Vb true)], 4, none⟩]) [3, 2] (sub_cons rfl (sub_cons rfl sub_nil)) (by decide) (pick_cons rfl (pick_cons rfl pick_nil)) ?_
  exact tx_ret2' Tryz.results6 rfl () (rv_cell_agg' (i := 0) (o := 0) (nn := 7) rfl ⟨rfl, rfl, rfl, rfl⟩ rfl agg27 rfl) (rv_cell' (i := 1) (o := 0) rfl ⟨rfl, rfl, rfl, rfl⟩ rfl flat4) rfl (List.nil_sublist _)
 dsimp only at hp
 refine sx_ox' (ox_calln' (ent_fn' Tryz.func11 isn11 rfl rfl) (impl_geometry_sim _ _ _ _ _ _ _ hr13 : Sx.Fn Tryz.prog 11 [(Ag [(Vi a0_0), (Vi a0_1), (Vi a0_2), (Sl Kf a0_3), (Sl (Ki .i64) a0_4), (Sl (Kl (Ki .i64)) a0_5), (Sl KT27 a0_6)])] [] (fun x : Addr => (If 75 (Vp x))) (fun x => [⟨.pointer (some x), [(Vi y1.1), Vn, (Vi y1.2)], 124, none⟩])) (Hn := fun x : Addr => [⟨.pointer (some x), [(Vi y1.1), Vn, (Vi y1.2)], 124, none⟩, ⟨.pointer (some q3), [(Vb false)], 4, none⟩, ⟨.pointer (some q2), [(Vi 0), (Vi 0), (Vi 0), Vn, Vn, Vn, Vn], 27, none⟩, ⟨.pointer (some q1), [(Vi a0_0), (Vi a0_1), (Vi a0_2), (Sl Kf a0_3), (Sl (Ki .i64) a0_4), (Sl (Kl (Ki .i64)) a0_5), (Sl KT27 a0_6)], 27, none⟩]) (fun _ => rfl) rfl rfl) (wt_none' rfl) fun q13 => ?_
 refine nk hK4 ?_
 refine cx_block' ?_
 refine cr fun K5 hK5 => ?_
 refine s0 (rd_assert' rfl (F := fun _ => .tuple #[.pointer none, .bool false]) as75_35_37 as_no) ?_
 refine s0 (rd_extract' rfl rfl) ?_
 refine s0 (rd_extract' rfl rfl) ?_
 refine nk hK5 ?_
 refine cx_cond_f' rfl rfl ?_
 refine cr fun K8 hK8 => ?_
 refine s0 (rd_assert' rfl (F := fun _ => .tuple #[.pointer none, .bool false]) as75_35_40 as_no) ?_
 refine s0 (rd_extract' rfl rfl) ?_
 refine s0 (rd_extract' rfl rfl) ?_
 refine nk hK8 ?_
 refine cx_cond_f' rfl rfl ?_
 refine cr fun K11 hK11 => ?_
 refine s0 (rd_assert' rfl (F := fun _ => .tuple #[.pointer none, .bool false]) as75_35_42 as_no) ?_
 refine s0 (rd_extract' rfl rfl) ?_
 refine s0 (rd_extract' rfl rfl) ?_
 refine nk hK11 ?_
 refine cx_cond_f' rfl rfl ?_
 refine cr fun K14 hK14 => ?_
 refine s0 (rd_assert' rfl (F := fun _ => .tuple #[.pointer none, .bool false]) as75_35_44 as_no) ?_
 refine s0 (rd_extract' rfl rfl) ?_
 refine s0 (rd_extract' rfl rfl) ?_
 refine nk hK14 ?_
 refine cx_cond_f' rfl rfl ?_
 refine cr fun K17 hK17 => ?_
 refine s0 (rd_assert' rfl (F := fun _ => .tuple #[.pointer none, .bool false]) as75_35_46 as_no) ?_
 refine s0 (rd_extract' rfl rfl) ?_
 refine s0 (rd_extract' rfl rfl) ?_
 refine nk hK17 ?_
 refine cx_cond_f' rfl rfl ?_
 refine cr fun K20 hK20 => ?_
 refine s0 (rd_assert' rfl (F := fun _ => .tuple #[.pointer none, .bool false]) as75_35_48 as_no) ?_
 refine s0 (rd_extract' rfl rfl) ?_
 refine s0 (rd_extract' rfl rfl) ?_
 refine nk hK20 ?_
 refine cx_cond_f' rfl rfl ?_
 refine cr fun K23 hK23 => ?_
 refine s0 (rd_assert' rfl (F := fun _ => .tuple #[.pointer none, .bool false]) as75_35_50 as_no) ?_
 refine s0 (rd_extract' rfl rfl) ?_
 refine s0 (rd_extract' rfl rfl) ?_
 refine nk hK23 ?_
 refine cx_cond_f' rfl rfl ?_
 refine cx_skip' ?_
 show TX E K3 _
 refine tx_k' hK3 ?_
 refine cr fun K26 hK26 => ?_
 refine s0 (rd_build' (pls := [(0, 1), (1, 1), (2, 1), (3, 1), (4, 1), (5, 1), (6, 1)]) (qs := []) (r := [(Vi 0), (Vi 0), (Vi 0), Vn, Vn, Vn, Vn]) trivial Tryz.underlying27 has27 places27 info27 rfl rfl rfl) ?_
 refine sx_ox' (ox_store' (i := 2) (o := 0) rfl rfl (lv_ag _) ⟨rfl, rfl, rfl, rfl⟩ rfl info27 rfl (H' := [⟨.pointer (some q13), [(Vi y1.1), Vn, (Vi y1.2)], 124, none⟩, ⟨.pointer (some q3), [(Vb false)], 4, none⟩, ⟨.pointer (some q2), [(Vi 0), (Vi 0), (Vi 0), Vn, Vn, Vn, Vn], 27, none⟩, ⟨.pointer (some q1), [(Vi a0_0), (Vi a0_1), (Vi a0_2), (Sl Kf a0_3), (Sl (Ki .i64) a0_4), (Sl (Kl (Ki .i64)) a0_5), (Sl KT27 a0_6)], 27, none⟩]) rfl) (wt_none' rfl) fun _ => ?_
 refine sx_ox' (ox_store' (i := 1) (o := 0) rfl rfl (lv_vl rfl rfl) ⟨rfl, rfl, rfl, rfl⟩ rfl info4 rfl (H' := [⟨.pointer (some q13), [(Vi y1.1), Vn, (Vi y1.2)], 124, none⟩, ⟨.pointer (some q3), [(Vb false)], 4, none⟩, ⟨.pointer (some q2), [(Vi 0), (Vi 0), (Vi 0), Vn, Vn, Vn, Vn], 27, none⟩, ⟨.pointer (some q1), [(Vi a0_0), (Vi a0_1), (Vi a0_2), (Sl Kf a0_3), (Sl (Ki .i64) a0_4), (Sl (Kl (Ki .i64)) a0_5), (Sl KT27 a0_6)], 27, none⟩]) rfl) (wt_none' rfl) fun _ => ?_
 refine nk hK26 ?_
 refine cx_retc' ?_
 replace hp := Option.some.inj hp
 subst hp
 refine tx_leave' (.inl rfl) rfl idle10 rfl Tryz.func10 isn10 rfl ?_
 refine tx_pick' (L' := [(2, (Vp q2)), (3, (Vp q3))]) (H' := [⟨.pointer (some q2), [(Vi 0), (Vi 0), (Vi 0), Vn, Vn, Vn, Vn], 27, none⟩, ⟨.pointer (some q3), [(Vb false)], 4, none⟩]) [2, 1] (sub_cons rfl (sub_cons rfl sub_nil)) (by decide) (pick_cons rfl (pick_cons rfl pick_nil)) ?_
 exact tx_ret2' Tryz.results6 rfl () (rv_imp' (x := (Ag [(Vi 0), (Vi 0), (Vi 0), Vn, Vn, Vn, Vn])) (y := (Ag [(Vi 0), (Vi 0), (Vi 0), (Sl Kf []), (Sl (Ki .i64) []), (Sl (Kl (Ki .i64)) []), Vn])) (rv_cell_agg' (i := 0) (o := 0) (nn := 7) rfl ⟨rfl, rfl, rfl, rfl⟩ rfl agg27 rfl) (imp_ag ⟨imp_refl, imp_refl, imp_refl, imp_nil, imp_nil, imp_nil, imp_refl, trivial⟩)) (rv_cell' (i := 1) (o := 0) rfl ⟨rfl, rfl, rfl, rfl⟩ rfl flat4) rfl (List.nil_sublist _)

def spec_SameFloats_l1s (a0 : List Nat) (a1 : List Nat) (k : Nat) (rec1 : Int → Option (Unit ⊕ Unit)) (x1 : Int) : Option (Unit ⊕ Unit) :=
 br (decide (x1 < (a0.length : Int)))
  ((idx a0 x1) >>= fun r17 =>
  (idx a1 x1) >>= fun r23 =>
  br (!decide ((fbits r17) = (fbits r23)))
   (some (.inl ()))
   (rec1 (iadd .i64 x1 1)))
  (some (.inr ()))
def spec_SameFloats_l1 (a0 : List Nat) (a1 : List Nat) : Nat → Int → Option (Unit ⊕ Unit)
 | 0, _ => none
 | k + 1, v => spec_SameFloats_l1s a0 a1 k (spec_SameFloats_l1 a0 a1 k) v
def spec_SameFloats (k : Nat) (a0 : List Nat) (a1 : List Nat) : Option (Bool) :=
 br (!decide ((a0.length : Int) = (a1.length : Int)))
  (some false)
  ((spec_SameFloats_l1 a0 a1 k 0) >>= fun y1 => match y1 with
   | (.inl v2) =>
    (some false)
   | (.inr v3) =>
    (some true))

theorem spec_SameFloats_sim {k : Nat}  (a0 : List Nat) (a1 : List Nat) {out : Bool} (hp : spec_SameFloats k a0 a1 = some out) : Sx.Fn Tryz.prog 20 [(Sl Kf a0), (Sl Kf a1)] [] (fun w : Unit => (Vb out)) (fun w => []) := by
 unfold spec_SameFloats at hp
 refine fn_of Tryz.func20 rfl Tryz.ntmps20 rfl fun E hM => ?_
 refine cr fun K1 hK1 => ?_
 refine s0 (rd_assign' rfl) ?_
 refine nk hK1 ?_
 refine cx_seq' fun K2 hK2 => ?_
 refine cr fun K3 hK3 => ?_
 refine s0 (rd_move' rfl) ?_
 refine s0 (rd_len' rfl Tryz.underlying22) ?_
 refine s0 (rd_move' rfl) ?_
 refine s0 (rd_len' rfl Tryz.underlying22) ?_
 refine s0 (rd_bin' rfl rfl eg_int ru_neq) ?_
 refine nk hK3 ?_
 refine cx_cond' rfl (fun h1 => ?_) (fun h1 => ?_)
 ·replace hp := (br_t h1).symm.trans hp
  refine cr fun K4 hK4 => ?_
  refine s0 (rd_assign' rfl) ?_
  refine nk hK4 ?_
  refine cx_retc' ?_
  replace hp := Option.some.inj hp
  subst hp
  refine tx_pick' (L' := [(4, (Vb false))]) (H' := []) [] (sub_cons rfl sub_nil) (by decide) pick_nil ?_
  exact tx_ret1' Tryz.results20 rfl () (rv_tmp' rfl) (List.Sublist.refl _)
 replace hp := (br_f h1).symm.trans hp
 refine cx_skip' ?_
 show TX E K2 _
 refine tx_k' hK2 ?_
 refine cx_seq' fun K5 hK5 => ?_
 refine cr fun K6 hK6 => ?_
 refine s0 (rd_move' rfl) ?_
 refine s0 (rd_len' rfl Tryz.underlying22) ?_
 refine s0 (rd_move' rfl) ?_
 refine nk hK6 ?_
 refine cx_block' ?_
 obtain ⟨y1, hy1, hp⟩ := bind_some hp
 refine cx_loopg' (F := spec_SameFloats_l1 a0 a1) (G := fun k R v => spec_SameFloats_l1s a0 a1 k R v) (x := 0) (gh := ()) (fun (v1 : Int) (w1 : Unit) => (⟨28, [], [(1, (Sl Kf a1)), (12, (Sl Kf a0)), (13, (Vi (a0.length : Int))), (14, (Vi v1))], []⟩ : St)) (fun (y : Unit ⊕ Unit) => match y with | (.inl v2) => Zg E Exit.ret (fun (w2 : Unit) => (⟨28, [], [(4, (Vb false))], []⟩ : St)) | (.inr v3) => Zg E (Exit.exit 0) (fun (w3 : Unit) => (⟨28, [], [], []⟩ : St))) (fun _ => rfl) (fun _ _ => rfl) ?_ hy1 (tx_to' rfl [] (sub_cons rfl (sub_cons rfl (sub_cons rfl (sub_cons rfl sub_nil)))) (by decide) pick_nil) ?_
 ·clear hp hy1
  clear y1
  intro k rec1 KY1 ih1
  rintro x1 ⟨⟩ y1 hp
  replace hp : spec_SameFloats_l1s a0 a1 k rec1 x1 = some y1 := hp
  unfold spec_SameFloats_l1s at hp
  refine cr fun K13 hK13 => ?_
  refine s0 (rd_bin' rfl rfl eg_int ru_lss) ?_
  refine nk hK13 ?_
  refine cx_seq' fun K14 hK14 => ?_
  refine cx_cond' rfl (fun h5 => ?_) (fun h5 => ?_)
  ·replace hp := (br_t h5).symm.trans hp
   refine cx_skip' ?_
   show TX E K14 _
   refine tx_k' hK14 ?_
   refine cx_seq' fun K15 hK15 => ?_
   refine cx_block' ?_
   refine cr fun K16 hK16 => ?_
   refine s0 (rd_move' rfl) ?_
   obtain ⟨r17, hr17, hp⟩ := bind_some hp
   refine s0 (rd_at' (K := Kf) rfl rfl hr17 Tryz.underlying22 info95) ?_
   refine s0 (rd_load_pt' rfl rfl flat95) ?_
   refine s0 (rd_assign' rfl) ?_
   refine s0 (rd_assign' rfl) ?_
   refine nk hK16 ?_
   refine cx_seq' fun K17 hK17 => ?_
   refine cx_draw' mixed (by kernel_rfl) ?_
   refine qx_rd' (rd_move' rfl) rfl rfl (wt_none' rfl) ?_
   refine qx_rd' (rd_ext' (us := [.float .f64 r17]) rfl (ext55 ex_bits)) rfl rfl (wt_none' rfl) ?_
   refine qx_rd' (rd_move' rfl) rfl rfl (wt_none' rfl) ?_
   refine qx_rd' (rd_move' rfl) rfl rfl (wt_none' rfl) ?_
   obtain ⟨r23, hr23, hp⟩ := bind_some hp
   refine qx_rd' (rd_at' (K := Kf) rfl rfl hr23 Tryz.underlying22 info95) rfl rfl (wt_none' rfl) ?_
   refine qx_rd' (rd_load_pt' rfl rfl flat95) rfl rfl (wt_none' rfl) ?_
   refine qx_rd' (rd_ext' (us := [.float .f64 r23]) rfl (ext55 ex_bits)) rfl rfl (wt_none' rfl) ?_
   refine qx_rd' (rd_bin' rfl rfl eg_int ru_neq) rfl rfl (wt_none' rfl) ?_
   refine qx_nil' ?_
   show TX E K17 _
   refine tx_k' hK17 ?_
   refine cx_cond' rfl (fun h6 => ?_) (fun h6 => ?_)
   ·replace hp := (br_t h6).symm.trans hp
    refine cr fun K18 hK18 => ?_
    refine s0 (rd_assign' rfl) ?_
    refine nk hK18 ?_
    refine cx_retc' ?_
    replace hp := Option.some.inj hp
    subst hp
    show TX E (Zg E Exit.ret _ Exit.ret) _
    exact tx_zend' () rfl [] (sub_cons rfl sub_nil) (by decide) pick_nil
   replace hp := (br_f h6).symm.trans hp
   refine cx_skip' ?_
   show TX E K15 _
   refine tx_k' hK15 ?_
   refine cx_region' ?_
   refine s0 (rd_bin' rfl rfl eg_int ru_add) ?_
   refine s0 (rd_move' rfl) ?_
   refine sx_nil' ?_
   show TX E (KY1 _) _
   exact tx_pick' [] (sub_cons rfl (sub_cons rfl (sub_cons rfl (sub_cons rfl sub_nil)))) (by decide) pick_nil (ih1 (iadd .i64 x1 1) () _ hp)
  replace hp := (br_f h5).symm.trans hp
  refine cx_exit' ?_
  replace hp := Option.some.inj hp
  subst hp
  show TX E (Zg E (Exit.exit 0) _ (Exit.exit 0)) _
  exact tx_zend' () rfl [] sub_nil (by decide) pick_nil
 rcases y1 with v2 | v3
 ·dsimp only at hp
  refine zg_out fun w2 => ?_
  replace hp := Option.some.inj hp
  subst hp
  refine tx_pick' (L' := [(4, (Vb false))]) (H' := []) [] (sub_cons rfl sub_nil) (by decide) pick_nil ?_
  exact tx_ret1' Tryz.results20 rfl () (rv_tmp' rfl) (List.Sublist.refl _)
 dsimp only at hp
 refine zg_out fun w3 => ?_
 show TX E K5 _
 refine tx_k' hK5 ?_
 refine cr fun K19 hK19 => ?_
 refine s0 (rd_assign' rfl) ?_
 refine nk hK19 ?_
 refine cx_retc' ?_
 replace hp := Option.some.inj hp
 subst hp
 refine tx_pick' (L' := [(4, (Vb true))]) (H' := []) [] (sub_cons rfl sub_nil) (by decide) pick_nil ?_
 exact tx_ret1' Tryz.results20 rfl () (rv_tmp' rfl) (List.Sublist.refl _)

def spec_sameInts_l1s (a0 : List Int) (a1 : List Int) (k : Nat) (rec1 : Int → Option (Unit ⊕ Unit)) (x1 : Int) : Option (Unit ⊕ Unit) :=
 br (decide (x1 < (a0.length : Int)))
  ((idx a0 x1) >>= fun r17 =>
  (idx a1 x1) >>= fun r22 =>
  br (!decide (r17 = r22))
   (some (.inl ()))
   (rec1 (iadd .i64 x1 1)))
  (some (.inr ()))
def spec_sameInts_l1 (a0 : List Int) (a1 : List Int) : Nat → Int → Option (Unit ⊕ Unit)
 | 0, _ => none
 | k + 1, v => spec_sameInts_l1s a0 a1 k (spec_sameInts_l1 a0 a1 k) v
def spec_sameInts (k : Nat) (a0 : List Int) (a1 : List Int) : Option (Bool) :=
 br (!decide ((a0.length : Int) = (a1.length : Int)))
  (some false)
  ((spec_sameInts_l1 a0 a1 k 0) >>= fun y1 => match y1 with
   | (.inl v2) =>
    (some false)
   | (.inr v3) =>
    (some true))

theorem spec_sameInts_sim {k : Nat}  (a0 : List Int) (a1 : List Int) {out : Bool} (hp : spec_sameInts k a0 a1 = some out) : Sx.Fn Tryz.prog 21 [(Sl (Ki .i64) a0), (Sl (Ki .i64) a1)] [] (fun w : Unit => (Vb out)) (fun w => []) := by
 unfold spec_sameInts at hp
 refine fn_of Tryz.func21 rfl Tryz.ntmps21 rfl fun E hM => ?_
 refine cr fun K1 hK1 => ?_
 refine s0 (rd_assign' rfl) ?_
 refine nk hK1 ?_
 refine cx_seq' fun K2 hK2 => ?_
 refine cr fun K3 hK3 => ?_
 refine s0 (rd_move' rfl) ?_
 refine s0 (rd_len' rfl Tryz.underlying23) ?_
 refine s0 (rd_move' rfl) ?_
 refine s0 (rd_len' rfl Tryz.underlying23) ?_
 refine s0 (rd_bin' rfl rfl eg_int ru_neq) ?_
 refine nk hK3 ?_
 refine cx_cond' rfl (fun h1 => ?_) (fun h1 => ?_)
 ·replace hp := (br_t h1).symm.trans hp
  refine cr fun K4 hK4 => ?_
  refine s0 (rd_assign' rfl) ?_
  refine nk hK4 ?_
  refine cx_retc' ?_
  replace hp := Option.some.inj hp
  subst hp
  refine tx_pick' (L' := [(4, (Vb false))]) (H' := []) [] (sub_cons rfl sub_nil) (by decide) pick_nil ?_
  exact tx_ret1' Tryz.results21 rfl () (rv_tmp' rfl) (List.Sublist.refl _)
 replace hp := (br_f h1).symm.trans hp
 refine cx_skip' ?_
 show TX E K2 _
 refine tx_k' hK2 ?_
 refine cx_seq' fun K5 hK5 => ?_
 refine cr fun K6 hK6 => ?_
 refine s0 (rd_move' rfl) ?_
 refine s0 (rd_len' rfl Tryz.underlying23) ?_
 refine s0 (rd_move' rfl) ?_
 refine nk hK6 ?_
 refine cx_block' ?_
 obtain ⟨y1, hy1, hp⟩ := bind_some hp
 refine cx_loopg' (F := spec_sameInts_l1 a0 a1) (G := fun k R v => spec_sameInts_l1s a0 a1 k R v) (x := 0) (gh := ()) (fun (v1 : Int) (w1 : Unit) => (⟨26, [], [(1, (Sl (Ki .i64) a1)), (12, (Sl (Ki .i64) a0)), (13, (Vi (a0.length : Int))), (14, (Vi v1))], []⟩ : St)) (fun (y : Unit ⊕ Unit) => match y with | (.inl v2) => Zg E Exit.ret (fun (w2 : Unit) => (⟨26, [], [(4, (Vb false))], []⟩ : St)) | (.inr v3) => Zg E (Exit.exit 0) (fun (w3 : Unit) => (⟨26, [], [], []⟩ : St))) (fun _ => rfl) (fun _ _ => rfl) ?_ hy1 (tx_to' rfl [] (sub_cons rfl (sub_cons rfl (sub_cons rfl (sub_cons rfl sub_nil)))) (by decide) pick_nil) ?_
 ·clear hp hy1
  clear y1
  intro k rec1 KY1 ih1
  rintro x1 ⟨⟩ y1 hp
  replace hp : spec_sameInts_l1s a0 a1 k rec1 x1 = some y1 := hp
  unfold spec_sameInts_l1s at hp
  refine cr fun K13 hK13 => ?_
  refine s0 (rd_bin' rfl rfl eg_int ru_lss) ?_
  refine nk hK13 ?_
  refine cx_seq' fun K14 hK14 => ?_
  refine cx_cond' rfl (fun h5 => ?_) (fun h5 => ?_)
  ·replace hp := (br_t h5).symm.trans hp
   refine cx_skip' ?_
   show TX E K14 _
   refine tx_k' hK14 ?_
   refine cx_seq' fun K15 hK15 => ?_
   refine cx_block' ?_
   refine cr fun K16 hK16 => ?_
   refine s0 (rd_move' rfl) ?_
   obtain ⟨r17, hr17, hp⟩ := bind_some hp
   refine s0 (rd_at' (K := (Ki .i64)) rfl rfl hr17 Tryz.underlying23 info3) ?_
   refine s0 (rd_load_pt' rfl rfl flat3) ?_
   refine s0 (rd_assign' rfl) ?_
   refine s0 (rd_assign' rfl) ?_
   refine nk hK16 ?_
   refine cr fun K17 hK17 => ?_
   refine s0 (rd_move' rfl) ?_
   refine s0 (rd_move' rfl) ?_
   refine s0 (rd_move' rfl) ?_
   obtain ⟨r22, hr22, hp⟩ := bind_some hp
   refine s0 (rd_at' (K := (Ki .i64)) rfl rfl hr22 Tryz.underlying23 info3) ?_
   refine s0 (rd_load_pt' rfl rfl flat3) ?_
   refine s0 (rd_bin' rfl rfl eg_int ru_neq) ?_
   refine nk hK17 ?_
   refine cx_cond' rfl (fun h6 => ?_) (fun h6 => ?_)
   ·replace hp := (br_t h6).symm.trans hp
    refine cr fun K18 hK18 => ?_
    refine s0 (rd_assign' rfl) ?_
    refine nk hK18 ?_
    refine cx_retc' ?_
    replace hp := Option.some.inj hp
    subst hp
    show TX E (Zg E Exit.ret _ Exit.ret) _
    exact tx_zend' () rfl [] (sub_cons rfl sub_nil) (by decide) pick_nil
   replace hp := (br_f h6).symm.trans hp
   refine cx_skip' ?_
   show TX E K15 _
   refine tx_k' hK15 ?_
   refine cx_region' ?_
   refine s0 (rd_bin' rfl rfl eg_int ru_add) ?_
   refine s0 (rd_move' rfl) ?_
   refine sx_nil' ?_
   show TX E (KY1 _) _
   exact tx_pick' [] (sub_cons rfl (sub_cons rfl (sub_cons rfl (sub_cons rfl sub_nil)))) (by decide) pick_nil (ih1 (iadd .i64 x1 1) () _ hp)
  replace hp := (br_f h5).symm.trans hp
  refine cx_exit' ?_
  replace hp := Option.some.inj hp
  subst hp
  show TX E (Zg E (Exit.exit 0) _ (Exit.exit 0)) _
  exact tx_zend' () rfl [] sub_nil (by decide) pick_nil
 rcases y1 with v2 | v3
 ·dsimp only at hp
  refine zg_out fun w2 => ?_
  replace hp := Option.some.inj hp
  subst hp
  refine tx_pick' (L' := [(4, (Vb false))]) (H' := []) [] (sub_cons rfl sub_nil) (by decide) pick_nil ?_
  exact tx_ret1' Tryz.results21 rfl () (rv_tmp' rfl) (List.Sublist.refl _)
 dsimp only at hp
 refine zg_out fun w3 => ?_
 show TX E K5 _
 refine tx_k' hK5 ?_
 refine cr fun K19 hK19 => ?_
 refine s0 (rd_assign' rfl) ?_
 refine nk hK19 ?_
 refine cx_retc' ?_
 replace hp := Option.some.inj hp
 subst hp
 refine tx_pick' (L' := [(4, (Vb true))]) (H' := []) [] (sub_cons rfl sub_nil) (by decide) pick_nil ?_
 exact tx_ret1' Tryz.results21 rfl () (rv_tmp' rfl) (List.Sublist.refl _)

def spec_SameGeom_l1s (a0_5 : List (List Int)) (a1_5 : List (List Int)) (k : Nat) (rec1 : Int → Option (Unit ⊕ Unit)) (x7 : Int) : Option (Unit ⊕ Unit) :=
 br (decide (x7 < (a0_5.length : Int)))
  ((idx a0_5 x7) >>= fun r68 =>
  (idx a1_5 x7) >>= fun r74 =>
  (spec_sameInts k r68 r74) >>= fun r76 =>
  br (!r76)
   (some (.inl ()))
   (rec1 (iadd .i64 x7 1)))
  (some (.inr ()))
def spec_SameGeom_l1 (a0_5 : List (List Int)) (a1_5 : List (List Int)) : Nat → Int → Option (Unit ⊕ Unit)
 | 0, _ => none
 | k + 1, v => spec_SameGeom_l1s a0_5 a1_5 k (spec_SameGeom_l1 a0_5 a1_5 k) v
def spec_SameGeom_j6 (k : Nat) (a0_5 : List (List Int)) (a1_5 : List (List Int)) (x6 : Bool) : Option (Bool) :=
 br x6
  (some false)
  ((spec_SameGeom_l1 a0_5 a1_5 k 0) >>= fun y1 => match y1 with
   | (.inl v8) =>
    (some false)
   | (.inr v9) =>
    (some true))
def spec_SameGeom_j5 (k : Nat) (a0_5 : List (List Int)) (a1_5 : List (List Int)) (a1_6 : List T27) (x5 : Bool) : Option (Bool) :=
 br x5
  (spec_SameGeom_j6 k a0_5 a1_5 true)
  (spec_SameGeom_j6 k a0_5 a1_5 (!decide (((0 : Nat) : Int) = (a1_6.length : Int))))
def spec_SameGeom_j4 (k : Nat) (a0_5 : List (List Int)) (a1_5 : List (List Int)) (a1_6 : List T27) (x4 : Bool) : Option (Bool) :=
 br x4
  (spec_SameGeom_j5 k a0_5 a1_5 a1_6 true)
  (spec_SameGeom_j5 k a0_5 a1_5 a1_6 (!decide ((a0_5.length : Int) = (a1_5.length : Int))))
def spec_SameGeom_j3 (k : Nat) (a0_5 : List (List Int)) (a1_5 : List (List Int)) (a1_6 : List T27) (a0_4 : List Int) (a1_4 : List Int) (x3 : Bool) : Option (Bool) :=
 br x3
  (spec_SameGeom_j4 k a0_5 a1_5 a1_6 true)
  ((spec_sameInts k a0_4 a1_4) >>= fun r41 =>
  spec_SameGeom_j4 k a0_5 a1_5 a1_6 (!r41))
def spec_SameGeom_j2 (k : Nat) (a0_5 : List (List Int)) (a1_5 : List (List Int)) (a1_6 : List T27) (a0_4 : List Int) (a1_4 : List Int) (a0_3 : List Nat) (a1_3 : List Nat) (x2 : Bool) : Option (Bool) :=
 br x2
  (spec_SameGeom_j3 k a0_5 a1_5 a1_6 a0_4 a1_4 true)
  ((spec_SameFloats k a0_3 a1_3) >>= fun r33 =>
  spec_SameGeom_j3 k a0_5 a1_5 a1_6 a0_4 a1_4 (!r33))
def spec_SameGeom_j1 (k : Nat) (a0_5 : List (List Int)) (a1_5 : List (List Int)) (a1_6 : List T27) (a0_4 : List Int) (a1_4 : List Int) (a0_3 : List Nat) (a1_3 : List Nat) (a0_2 : Int) (a1_2 : Int) (x1 : Bool) : Option (Bool) :=
 br x1
  (spec_SameGeom_j2 k a0_5 a1_5 a1_6 a0_4 a1_4 a0_3 a1_3 true)
  (spec_SameGeom_j2 k a0_5 a1_5 a1_6 a0_4 a1_4 a0_3 a1_3 (!decide (a0_2 = a1_2)))
def spec_SameGeom (k : Nat) (a0_0 : Int) (a0_1 : Int) (a0_2 : Int) (a0_3 : List Nat) (a0_4 : List Int) (a0_5 : List (List Int)) (a1_0 : Int) (a1_1 : Int) (a1_2 : Int) (a1_3 : List Nat) (a1_4 : List Int) (a1_5 : List (List Int)) (a1_6 : List T27) : Option (Bool) :=
 br (!decide (a0_0 = a1_0))
  (spec_SameGeom_j1 k a0_5 a1_5 a1_6 a0_4 a1_4 a0_3 a1_3 a0_2 a1_2 true)
  (spec_SameGeom_j1 k a0_5 a1_5 a1_6 a0_4 a1_4 a0_3 a1_3 a0_2 a1_2 (!decide (a0_1 = a1_1)))

theorem spec_SameGeom_sim {k : Nat}  (a0_0 : Int) (a0_1 : Int) (a0_2 : Int) (a0_3 : List Nat) (a0_4 : List Int) (a0_5 : List (List Int)) (a1_0 : Int) (a1_1 : Int) (a1_2 : Int) (a1_3 : List Nat) (a1_4 : List Int) (a1_5 : List (List Int)) (a1_6 : List T27) {out : Bool} (hp : spec_SameGeom k a0_0 a0_1 a0_2 a0_3 a0_4 a0_5 a1_0 a1_1 a1_2 a1_3 a1_4 a1_5 a1_6 = some out) : Sx.Fn Tryz.prog 7 [(Ag [(Vi a0_0), (Vi a0_1), (Vi a0_2), (Sl Kf a0_3), (Sl (Ki .i64) a0_4), (Sl (Kl (Ki .i64)) a0_5), Vn]), (Ag [(Vi a1_0), (Vi a1_1), (Vi a1_2), (Sl Kf a1_3), (Sl (Ki .i64) a1_4), (Sl (Kl (Ki .i64)) a1_5), (Sl KT27 a1_6)])] [] (fun w : Unit => (Vb out)) (fun w => []) := by
 unfold spec_SameGeom at hp
 refine fn_of Tryz.func7 rfl Tryz.ntmps7 rfl fun E hM => ?_
 refine cr fun K1 hK1 => ?_
 refine sx_ox' (ox_box' rfl (lv_ag _) rfl rfl) (wt_none' rfl) fun q2 => ?_
 refine sx_ox' (ox_box' rfl (lv_ag _) rfl rfl) (wt_none' rfl) fun q3 => ?_
 refine s0 (rd_assign' rfl) ?_
 refine nk hK1 ?_
 refine cx_seq' fun K2 hK2 => ?_
 refine cr fun K3 hK3 => ?_
 refine s0 (rd_field0' rfl Tryz.underlying27 rfl info3 rfl) ?_
 refine s0 (rd_load' (i := 1) (o := 0) rfl ⟨rfl, rfl, rfl, rfl⟩ rfl flat3) ?_
 refine s0 (rd_field0' rfl Tryz.underlying27 rfl info3 rfl) ?_
 refine s0 (rd_load' (i := 0) (o := 0) rfl ⟨rfl, rfl, rfl, rfl⟩ rfl flat3) ?_
 refine s0 (rd_bin' rfl rfl eg_int ru_neq) ?_
 refine s0 (rd_move' rfl) ?_
 refine sx_cutn' 6 (fun (v1 : Bool) => (⟨96, [], [(2, (Vp q2)), (3, (Vp q3)), (20, (Vb v1))], [⟨.pointer (some q2), [(Vi a0_0), (Vi a0_1), (Vi a0_2), (Sl Kf a0_3), (Sl (Ki .i64) a0_4), (Sl (Kl (Ki .i64)) a0_5), Vn], 27, none⟩, ⟨.pointer (some q3), [(Vi a1_0), (Vi a1_1), (Vi a1_2), (Sl Kf a1_3), (Sl (Ki .i64) a1_4), (Sl (Kl (Ki .i64)) a1_5), (Sl KT27 a1_6)], 27, none⟩]⟩ : St)) (fun (v1 : Bool) => spec_SameGeom_j1 k a0_5 a1_5 a1_6 a0_4 a1_4 a0_3 a1_3 a0_2 a1_2 v1 = some out) ?_ ?_
 ·rintro x1 hp
  replace hp : spec_SameGeom_j1 k a0_5 a1_5 a1_6 a0_4 a1_4 a0_3 a1_3 a0_2 a1_2 x1 = some out := hp
  unfold spec_SameGeom_j1 at hp
  refine s0 (rd_move' rfl) ?_
  refine sx_cutn' 6 (fun (v2 : Bool) => (⟨96, [], [(2, (Vp q2)), (3, (Vp q3)), (27, (Vb v2))], [⟨.pointer (some q2), [(Vi a0_0), (Vi a0_1), (Vi a0_2), (Sl Kf a0_3), (Sl (Ki .i64) a0_4), (Sl (Kl (Ki .i64)) a0_5), Vn], 27, none⟩, ⟨.pointer (some q3), [(Vi a1_0), (Vi a1_1), (Vi a1_2), (Sl Kf a1_3), (Sl (Ki .i64) a1_4), (Sl (Kl (Ki .i64)) a1_5), (Sl KT27 a1_6)], 27, none⟩]⟩ : St)) (fun (v2 : Bool) => spec_SameGeom_j2 k a0_5 a1_5 a1_6 a0_4 a1_4 a0_3 a1_3 v2 = some out) ?_ ?_
  ·rintro x2 hp
   replace hp : spec_SameGeom_j2 k a0_5 a1_5 a1_6 a0_4 a1_4 a0_3 a1_3 x2 = some out := hp
   unfold spec_SameGeom_j2 at hp
   refine s0 (rd_move' rfl) ?_
   refine sx_cutn' 7 (fun (v3 : Bool) => (⟨96, [], [(2, (Vp q2)), (3, (Vp q3)), (35, (Vb v3))], [⟨.pointer (some q2), [(Vi a0_0), (Vi a0_1), (Vi a0_2), (Sl Kf a0_3), (Sl (Ki .i64) a0_4), (Sl (Kl (Ki .i64)) a0_5), Vn], 27, none⟩, ⟨.pointer (some q3), [(Vi a1_0), (Vi a1_1), (Vi a1_2), (Sl Kf a1_3), (Sl (Ki .i64) a1_4), (Sl (Kl (Ki .i64)) a1_5), (Sl KT27 a1_6)], 27, none⟩]⟩ : St)) (fun (v3 : Bool) => spec_SameGeom_j3 k a0_5 a1_5 a1_6 a0_4 a1_4 v3 = some out) ?_ ?_
   ·rintro x3 hp
    replace hp : spec_SameGeom_j3 k a0_5 a1_5 a1_6 a0_4 a1_4 x3 = some out := hp
    unfold spec_SameGeom_j3 at hp
    refine s0 (rd_move' rfl) ?_
    refine sx_cutn' 7 (fun (v4 : Bool) => (⟨96, [], [(2, (Vp q2)), (3, (Vp q3)), (43, (Vb v4))], [⟨.pointer (some q2), [(Vi a0_0), (Vi a0_1), (Vi a0_2), (Sl Kf a0_3), (Sl (Ki .i64) a0_4), (Sl (Kl (Ki .i64)) a0_5), Vn], 27, none⟩, ⟨.pointer (some q3), [(Vi a1_0), (Vi a1_1), (Vi a1_2), (Sl Kf a1_3), (Sl (Ki .i64) a1_4), (Sl (Kl (Ki .i64)) a1_5), (Sl KT27 a1_6)], 27, none⟩]⟩ : St)) (fun (v4 : Bool) => spec_SameGeom_j4 k a0_5 a1_5 a1_6 v4 = some out) ?_ ?_
    ·rintro x4 hp
     replace hp : spec_SameGeom_j4 k a0_5 a1_5 a1_6 x4 = some out := hp
     unfold spec_SameGeom_j4 at hp
     refine s0 (rd_move' rfl) ?_
     refine sx_cutn' 8 (fun (v5 : Bool) => (⟨96, [], [(2, (Vp q2)), (3, (Vp q3)), (52, (Vb v5))], [⟨.pointer (some q2), [(Vi a0_0), (Vi a0_1), (Vi a0_2), (Sl Kf a0_3), (Sl (Ki .i64) a0_4), (Sl (Kl (Ki .i64)) a0_5), Vn], 27, none⟩, ⟨.pointer (some q3), [(Vi a1_0), (Vi a1_1), (Vi a1_2), (Sl Kf a1_3), (Sl (Ki .i64) a1_4), (Sl (Kl (Ki .i64)) a1_5), (Sl KT27 a1_6)], 27, none⟩]⟩ : St)) (fun (v5 : Bool) => spec_SameGeom_j5 k a0_5 a1_5 a1_6 v5 = some out) ?_ ?_
     ·rintro x5 hp
      replace hp : spec_SameGeom_j5 k a0_5 a1_5 a1_6 x5 = some out := hp
      unfold spec_SameGeom_j5 at hp
      refine s0 (rd_move' rfl) ?_
      refine sx_cutn' 8 (fun (v6 : Bool) => (⟨96, [], [(2, (Vp q2)), (3, (Vp q3)), (61, (Vb v6))], [⟨.pointer (some q2), [(Vi a0_0), (Vi a0_1), (Vi a0_2), (Sl Kf a0_3), (Sl (Ki .i64) a0_4), (Sl (Kl (Ki .i64)) a0_5), Vn], 27, none⟩, ⟨.pointer (some q3), [(Vi a1_0), (Vi a1_1), (Vi a1_2), (Sl Kf a1_3), (Sl (Ki .i64) a1_4), (Sl (Kl (Ki .i64)) a1_5), (Sl KT27 a1_6)], 27, none⟩]⟩ : St)) (fun (v6 : Bool) => spec_SameGeom_j6 k a0_5 a1_5 v6 = some out) ?_ ?_
      ·rintro x6 hp
       replace hp : spec_SameGeom_j6 k a0_5 a1_5 x6 = some out := hp
       unfold spec_SameGeom_j6 at hp
       refine nk hK3 ?_
       refine cx_cond' rfl (fun h7 => ?_) (fun h7 => ?_)
       ·replace hp := (br_t h7).symm.trans hp
        refine cr fun K10 hK10 => ?_
        refine s0 (rd_assign' rfl) ?_
        refine nk hK10 ?_
        refine cx_retc' ?_
        replace hp := Option.some.inj hp
        subst hp
        refine tx_pick' (L' := [(4, (Vb false))]) (H' := []) [] (sub_cons rfl sub_nil) (by decide) pick_nil ?_
        exact tx_ret1' Tryz.results7 rfl () (rv_tmp' rfl) (List.Sublist.refl _)
       replace hp := (br_f h7).symm.trans hp
       refine cx_skip' ?_
       show TX E K2 _
       refine tx_k' hK2 ?_
       refine cx_seq' fun K11 hK11 => ?_
       refine cr fun K12 hK12 => ?_
       refine s0 (rd_field' (off := 5) rfl Tryz.underlying27 rfl info24 rfl) ?_
       refine s0 (rd_load' (i := 0) (o := 5) rfl ⟨rfl, rfl, rfl, rfl⟩ rfl flat24) ?_
       refine s0 (rd_len' rfl Tryz.underlying24) ?_
       refine s0 (rd_move' rfl) ?_
       refine nk hK12 ?_
       refine cx_block' ?_
       obtain ⟨y1, hy1, hp⟩ := bind_some hp
       refine cx_loopg' (F := spec_SameGeom_l1 a0_5 a1_5) (G := fun k R v => spec_SameGeom_l1s a0_5 a1_5 k R v) (x := 0) (gh := ()) (fun (v7 : Int) (w7 : Unit) => (⟨96, [], [(2, (Vp q2)), (3, (Vp q3)), (63, (Sl (Kl (Ki .i64)) a0_5)), (64, (Vi (a0_5.length : Int))), (65, (Vi v7))], [⟨.pointer (some q2), [(Vi a0_0), (Vi a0_1), (Vi a0_2), (Sl Kf a0_3), (Sl (Ki .i64) a0_4), (Sl (Kl (Ki .i64)) a0_5), Vn], 27, none⟩, ⟨.pointer (some q3), [(Vi a1_0), (Vi a1_1), (Vi a1_2), (Sl Kf a1_3), (Sl (Ki .i64) a1_4), (Sl (Kl (Ki .i64)) a1_5), (Sl KT27 a1_6)], 27, none⟩]⟩ : St)) (fun (y : Unit ⊕ Unit) => match y with | (.inl v8) => Zg E Exit.ret (fun (w8 : Unit) => (⟨96, [], [(4, (Vb false))], []⟩ : St)) | (.inr v9) => Zg E (Exit.exit 0) (fun (w9 : Unit) => (⟨96, [], [(2, (Vp q2)), (3, (Vp q3))], [⟨.pointer (some q2), [(Vi a0_0), (Vi a0_1), (Vi a0_2), (Sl Kf a0_3), (Sl (Ki .i64) a0_4), (Sl (Kl (Ki .i64)) a0_5), Vn], 27, none⟩, ⟨.pointer (some q3), [(Vi a1_0), (Vi a1_1), (Vi a1_2), (Sl Kf a1_3), (Sl (Ki .i64) a1_4), (Sl (Kl (Ki .i64)) a1_5), (Sl KT27 a1_6)], 27, none⟩]⟩ : St))) (fun _ => rfl) (fun _ _ => rfl) ?_ hy1 (tx_to' rfl [0, 1] (sub_cons rfl (sub_cons rfl (sub_cons rfl (sub_cons rfl (sub_cons rfl sub_nil))))) (by decide) (pick_cons rfl (pick_cons rfl pick_nil))) ?_
       ·clear hp hy1
        clear y1
        intro k rec1 KY1 ih1
        rintro x7 ⟨⟩ y1 hp
        replace hp : spec_SameGeom_l1s a0_5 a1_5 k rec1 x7 = some y1 := hp
        unfold spec_SameGeom_l1s at hp
        refine cr fun K19 hK19 => ?_
        refine s0 (rd_bin' rfl rfl eg_int ru_lss) ?_
        refine nk hK19 ?_
        refine cx_seq' fun K20 hK20 => ?_
        refine cx_cond' rfl (fun h11 => ?_) (fun h11 => ?_)
        ·replace hp := (br_t h11).symm.trans hp
         refine cx_skip' ?_
         show TX E K20 _
         refine tx_k' hK20 ?_
         refine cx_seq' fun K21 hK21 => ?_
         refine cx_block' ?_
         refine cr fun K22 hK22 => ?_
         refine s0 (rd_move' rfl) ?_
         obtain ⟨r68, hr68, hp⟩ := bind_some hp
         refine s0 (rd_at' (K := (Kl (Ki .i64))) rfl rfl hr68 Tryz.underlying24 info23) ?_
         refine s0 (rd_load_pt' rfl rfl flat23) ?_
         refine s0 (rd_assign' rfl) ?_
         refine s0 (rd_assign' rfl) ?_
         refine nk hK22 ?_
         refine cr fun K23 hK23 => ?_
         refine s0 (rd_move' rfl) ?_
         refine s0 (rd_field' (off := 5) rfl Tryz.underlying27 rfl info24 rfl) ?_
         refine s0 (rd_load' (i := 1) (o := 5) rfl ⟨rfl, rfl, rfl, rfl⟩ rfl flat24) ?_
         refine s0 (rd_move' rfl) ?_
         obtain ⟨r74, hr74, hp⟩ := bind_some hp
         refine s0 (rd_at' (K := (Kl (Ki .i64))) rfl rfl hr74 Tryz.underlying24 info23) ?_
         refine s0 (rd_load_pt' rfl rfl flat23) ?_
         obtain ⟨r76, hr76, hp⟩ := bind_some hp
         refine sx_ox' (ox_calln' (ent_fn' Tryz.func21 isn21 rfl rfl) (spec_sameInts_sim _ _ hr76 : Sx.Fn Tryz.prog 21 [(Sl (Ki .i64) r68), (Sl (Ki .i64) r74)] [] (fun x : Unit => (Vb r76)) (fun x => [])) (Hn := fun x : Unit => [⟨.pointer (some q2), [(Vi a0_0), (Vi a0_1), (Vi a0_2), (Sl Kf a0_3), (Sl (Ki .i64) a0_4), (Sl (Kl (Ki .i64)) a0_5), Vn], 27, none⟩, ⟨.pointer (some q3), [(Vi a1_0), (Vi a1_1), (Vi a1_2), (Sl Kf a1_3), (Sl (Ki .i64) a1_4), (Sl (Kl (Ki .i64)) a1_5), (Sl KT27 a1_6)], 27, none⟩]) (fun _ => rfl) rfl rfl) (wt_none' rfl) fun ⟨⟩ => ?_
         refine s0 (rd_un' rfl ru_not) ?_
         refine nk hK23 ?_
         refine cx_cond' rfl (fun h12 => ?_) (fun h12 => ?_)
         ·replace hp := (br_t h12).symm.trans hp
          refine cr fun K24 hK24 => ?_
          refine s0 (rd_assign' rfl) ?_
          refine nk hK24 ?_
          refine cx_retc' ?_
          replace hp := Option.some.inj hp
          subst hp
          show TX E (Zg E Exit.ret _ Exit.ret) _
          exact tx_zend' () rfl [] (sub_cons rfl sub_nil) (by decide) pick_nil
         replace hp := (br_f h12).symm.trans hp
         refine cx_skip' ?_
         show TX E K21 _
         refine tx_k' hK21 ?_
         refine cx_region' ?_
         refine s0 (rd_bin' rfl rfl eg_int ru_add) ?_
         refine s0 (rd_move' rfl) ?_
         refine sx_nil' ?_
         show TX E (KY1 _) _
         exact tx_pick' [0, 1] (sub_cons rfl (sub_cons rfl (sub_cons rfl (sub_cons rfl (sub_cons rfl sub_nil))))) (by decide) (pick_cons rfl (pick_cons rfl pick_nil)) (ih1 (iadd .i64 x7 1) () _ hp)
        replace hp := (br_f h11).symm.trans hp
        refine cx_exit' ?_
        replace hp := Option.some.inj hp
        subst hp
        show TX E (Zg E (Exit.exit 0) _ (Exit.exit 0)) _
        exact tx_zend' () rfl [0, 1] (sub_cons rfl (sub_cons rfl sub_nil)) (by decide) (pick_cons rfl (pick_cons rfl pick_nil))
       rcases y1 with v8 | v9
       ·dsimp only at hp
        refine zg_out fun w8 => ?_
        replace hp := Option.some.inj hp
        subst hp
        refine tx_pick' (L' := [(4, (Vb false))]) (H' := []) [] (sub_cons rfl sub_nil) (by decide) pick_nil ?_
        exact tx_ret1' Tryz.results7 rfl () (rv_tmp' rfl) (List.Sublist.refl _)
       dsimp only at hp
       refine zg_out fun w9 => ?_
       show TX E K11 _
       refine tx_k' hK11 ?_
       refine cx_seq' fun K25 hK25 => ?_
       refine cr fun K26 hK26 => ?_
       refine s0 (rd_field' (off := 6) rfl Tryz.underlying27 rfl info25 rfl) ?_
       refine s0 (rd_load' (i := 0) (o := 6) rfl ⟨rfl, rfl, rfl, rfl⟩ rfl flat25) ?_
       refine s0 (rd_lenv' rfl Tryz.underlying25) ?_
       refine s0 (rd_move' rfl) ?_
       refine nk hK26 ?_
       refine cx_block' ?_
       refine tx_loop' ?_
       refine tx_round' ?_
       refine cr fun K27 hK27 => ?_
       refine s0 (rd_bin' rfl rfl eg_int ru_lss) ?_
       refine nk hK27 ?_
       refine cx_seq' fun K28 hK28 => ?_
       refine cx_cond_f' rfl rfl ?_
       refine cx_exit' ?_
       show TX E K25 _
       refine tx_k' hK25 ?_
       refine cr fun K29 hK29 => ?_
       refine s0 (rd_assign' rfl) ?_
       refine nk hK29 ?_
       refine cx_retc' ?_
       replace hp := Option.some.inj hp
       subst hp
       refine tx_pick' (L' := [(4, (Vb true))]) (H' := []) [] (sub_cons rfl sub_nil) (by decide) pick_nil ?_
       exact tx_ret1' Tryz.results7 rfl () (rv_tmp' rfl) (List.Sublist.refl _)
      intro K9 hK9
      rcases br_cases hp with ⟨h6, hp⟩ | ⟨h6, hp⟩
      ·refine sx_skip' rfl rfl (wt_is' (wt_guard' rfl rfl rfl) (beq_tf h6)) ?_
       refine sx_skip' rfl rfl (wt_is' (wt_guard' rfl rfl rfl) (beq_tf h6)) ?_
       refine sx_skip' rfl rfl (wt_is' (wt_guard' rfl rfl rfl) (beq_tf h6)) ?_
       refine sx_skip' rfl rfl (wt_is' (wt_guard' rfl rfl rfl) (beq_tf h6)) ?_
       refine sx_skip' rfl rfl (wt_is' (wt_guard' rfl rfl rfl) (beq_tf h6)) ?_
       refine sx_skip' rfl rfl (wt_is' (wt_guard' rfl rfl rfl) (beq_tf h6)) ?_
       refine sx_skip' rfl rfl (wt_is' (wt_guard' rfl rfl rfl) (beq_tf h6)) ?_
       refine s0 (rd_pick_true' rfl h6 rfl) ?_
       refine sx_nil' ?_
       show TX E K9 _
       exact tx_pick' [0, 1] (sub_cons rfl (sub_cons rfl (sub_cons rfl sub_nil))) (by decide) (pick_cons rfl (pick_cons rfl pick_nil)) (hK9 true hp)
      refine sx_rd' (rd_field' (off := 6) rfl Tryz.underlying27 rfl info25 rfl) rfl rfl (wt_is' (wt_guard' rfl rfl rfl) (beq_ff h6)) ?_
      refine sx_rd' (rd_load' (i := 0) (o := 6) rfl ⟨rfl, rfl, rfl, rfl⟩ rfl flat25) rfl rfl (wt_is' (wt_guard' rfl rfl rfl) (beq_ff h6)) ?_
      refine sx_rd' (rd_lenv' rfl Tryz.underlying25) rfl rfl (wt_is' (wt_guard' rfl rfl rfl) (beq_ff h6)) ?_
      refine sx_rd' (rd_field' (off := 6) rfl Tryz.underlying27 rfl info25 rfl) rfl rfl (wt_is' (wt_guard' rfl rfl rfl) (beq_ff h6)) ?_
      refine sx_rd' (rd_load' (i := 1) (o := 6) rfl ⟨rfl, rfl, rfl, rfl⟩ rfl flat25) rfl rfl (wt_is' (wt_guard' rfl rfl rfl) (beq_ff h6)) ?_
      refine sx_rd' (rd_len' rfl Tryz.underlying25) rfl rfl (wt_is' (wt_guard' rfl rfl rfl) (beq_ff h6)) ?_
      refine sx_rd' (rd_bin' rfl rfl eg_int ru_neq) rfl rfl (wt_is' (wt_guard' rfl rfl rfl) (beq_ff h6)) ?_
      refine s0 (rd_pick_false' rfl h6 rfl) ?_
      refine sx_nil' ?_
      show TX E K9 _
      exact tx_pick' [0, 1] (sub_cons rfl (sub_cons rfl (sub_cons rfl sub_nil))) (by decide) (pick_cons rfl (pick_cons rfl pick_nil)) (hK9 (!decide (((0 : Nat) : Int) = (a1_6.length : Int))) hp)
     intro K8 hK8
     rcases br_cases hp with ⟨h5, hp⟩ | ⟨h5, hp⟩
     ·refine sx_skip' rfl rfl (wt_is' (wt_guard' rfl rfl rfl) (beq_tf h5)) ?_
      refine sx_skip' rfl rfl (wt_is' (wt_guard' rfl rfl rfl) (beq_tf h5)) ?_
      refine sx_skip' rfl rfl (wt_is' (wt_guard' rfl rfl rfl) (beq_tf h5)) ?_
      refine sx_skip' rfl rfl (wt_is' (wt_guard' rfl rfl rfl) (beq_tf h5)) ?_
      refine sx_skip' rfl rfl (wt_is' (wt_guard' rfl rfl rfl) (beq_tf h5)) ?_
      refine sx_skip' rfl rfl (wt_is' (wt_guard' rfl rfl rfl) (beq_tf h5)) ?_
      refine sx_skip' rfl rfl (wt_is' (wt_guard' rfl rfl rfl) (beq_tf h5)) ?_
      refine s0 (rd_pick_true' rfl h5 rfl) ?_
      refine sx_nil' ?_
      show TX E K8 _
      exact tx_pick' [0, 1] (sub_cons rfl (sub_cons rfl (sub_cons rfl sub_nil))) (by decide) (pick_cons rfl (pick_cons rfl pick_nil)) (hK8 true hp)
     refine sx_rd' (rd_field' (off := 5) rfl Tryz.underlying27 rfl info24 rfl) rfl rfl (wt_is' (wt_guard' rfl rfl rfl) (beq_ff h5)) ?_
     refine sx_rd' (rd_load' (i := 0) (o := 5) rfl ⟨rfl, rfl, rfl, rfl⟩ rfl flat24) rfl rfl (wt_is' (wt_guard' rfl rfl rfl) (beq_ff h5)) ?_
     refine sx_rd' (rd_len' rfl Tryz.underlying24) rfl rfl (wt_is' (wt_guard' rfl rfl rfl) (beq_ff h5)) ?_
     refine sx_rd' (rd_field' (off := 5) rfl Tryz.underlying27 rfl info24 rfl) rfl rfl (wt_is' (wt_guard' rfl rfl rfl) (beq_ff h5)) ?_
     refine sx_rd' (rd_load' (i := 1) (o := 5) rfl ⟨rfl, rfl, rfl, rfl⟩ rfl flat24) rfl rfl (wt_is' (wt_guard' rfl rfl rfl) (beq_ff h5)) ?_
     refine sx_rd' (rd_len' rfl Tryz.underlying24) rfl rfl (wt_is' (wt_guard' rfl rfl rfl) (beq_ff h5)) ?_
     refine sx_rd' (rd_bin' rfl rfl eg_int ru_neq) rfl rfl (wt_is' (wt_guard' rfl rfl rfl) (beq_ff h5)) ?_
     refine s0 (rd_pick_false' rfl h5 rfl) ?_
     refine sx_nil' ?_
     show TX E K8 _
     exact tx_pick' [0, 1] (sub_cons rfl (sub_cons rfl (sub_cons rfl sub_nil))) (by decide) (pick_cons rfl (pick_cons rfl pick_nil)) (hK8 (!decide ((a0_5.length : Int) = (a1_5.length : Int))) hp)
    intro K7 hK7
    rcases br_cases hp with ⟨h4, hp⟩ | ⟨h4, hp⟩
    ·refine sx_skip' rfl rfl (wt_is' (wt_guard' rfl rfl rfl) (beq_tf h4)) ?_
     refine sx_skip' rfl rfl (wt_is' (wt_guard' rfl rfl rfl) (beq_tf h4)) ?_
     refine sx_skip' rfl rfl (wt_is' (wt_guard' rfl rfl rfl) (beq_tf h4)) ?_
     refine sx_skip' rfl rfl (wt_is' (wt_guard' rfl rfl rfl) (beq_tf h4)) ?_
     refine sx_skip' rfl rfl (wt_is' (wt_guard' rfl rfl rfl) (beq_tf h4)) ?_
     refine sx_skip' rfl rfl (wt_is' (wt_guard' rfl rfl rfl) (beq_tf h4)) ?_
     refine s0 (rd_pick_true' rfl h4 rfl) ?_
     refine sx_nil' ?_
     show TX E K7 _
     exact tx_pick' [0, 1] (sub_cons rfl (sub_cons rfl (sub_cons rfl sub_nil))) (by decide) (pick_cons rfl (pick_cons rfl pick_nil)) (hK7 true hp)
    refine sx_rd' (rd_field' (off := 4) rfl Tryz.underlying27 rfl info23 rfl) rfl rfl (wt_is' (wt_guard' rfl rfl rfl) (beq_ff h4)) ?_
    refine sx_rd' (rd_load' (i := 0) (o := 4) rfl ⟨rfl, rfl, rfl, rfl⟩ rfl flat23) rfl rfl (wt_is' (wt_guard' rfl rfl rfl) (beq_ff h4)) ?_
    refine sx_rd' (rd_field' (off := 4) rfl Tryz.underlying27 rfl info23 rfl) rfl rfl (wt_is' (wt_guard' rfl rfl rfl) (beq_ff h4)) ?_
    refine sx_rd' (rd_load' (i := 1) (o := 4) rfl ⟨rfl, rfl, rfl, rfl⟩ rfl flat23) rfl rfl (wt_is' (wt_guard' rfl rfl rfl) (beq_ff h4)) ?_
    obtain ⟨r41, hr41, hp⟩ := bind_some hp
    refine sx_ox' (ox_calln' (ent_fn' Tryz.func21 isn21 rfl rfl) (spec_sameInts_sim _ _ hr41 : Sx.Fn Tryz.prog 21 [(Sl (Ki .i64) a0_4), (Sl (Ki .i64) a1_4)] [] (fun x : Unit => (Vb r41)) (fun x => [])) (Hn := fun x : Unit => [⟨.pointer (some q2), [(Vi a0_0), (Vi a0_1), (Vi a0_2), (Sl Kf a0_3), (Sl (Ki .i64) a0_4), (Sl (Kl (Ki .i64)) a0_5), Vn], 27, none⟩, ⟨.pointer (some q3), [(Vi a1_0), (Vi a1_1), (Vi a1_2), (Sl Kf a1_3), (Sl (Ki .i64) a1_4), (Sl (Kl (Ki .i64)) a1_5), (Sl KT27 a1_6)], 27, none⟩]) (fun _ => rfl) rfl rfl) (wt_is' (wt_guard' rfl rfl rfl) (beq_ff h4)) fun ⟨⟩ => ?_
    refine sx_rd' (rd_un' rfl ru_not) rfl rfl (wt_is' (wt_guard' rfl rfl rfl) (beq_ff h4)) ?_
    refine s0 (rd_pick_false' rfl h4 rfl) ?_
    refine sx_nil' ?_
    show TX E K7 _
    exact tx_pick' [0, 1] (sub_cons rfl (sub_cons rfl (sub_cons rfl sub_nil))) (by decide) (pick_cons rfl (pick_cons rfl pick_nil)) (hK7 (!r41) hp)
   intro K6 hK6
   rcases br_cases hp with ⟨h3, hp⟩ | ⟨h3, hp⟩
   ·refine sx_skip' rfl rfl (wt_is' (wt_guard' rfl rfl rfl) (beq_tf h3)) ?_
    refine sx_skip' rfl rfl (wt_is' (wt_guard' rfl rfl rfl) (beq_tf h3)) ?_
    refine sx_skip' rfl rfl (wt_is' (wt_guard' rfl rfl rfl) (beq_tf h3)) ?_
    refine sx_skip' rfl rfl (wt_is' (wt_guard' rfl rfl rfl) (beq_tf h3)) ?_
    refine sx_skip' rfl rfl (wt_is' (wt_guard' rfl rfl rfl) (beq_tf h3)) ?_
    refine sx_skip' rfl rfl (wt_is' (wt_guard' rfl rfl rfl) (beq_tf h3)) ?_
    refine s0 (rd_pick_true' rfl h3 rfl) ?_
    refine sx_nil' ?_
    show TX E K6 _
    exact tx_pick' [0, 1] (sub_cons rfl (sub_cons rfl (sub_cons rfl sub_nil))) (by decide) (pick_cons rfl (pick_cons rfl pick_nil)) (hK6 true hp)
   refine sx_rd' (rd_field' (off := 3) rfl Tryz.underlying27 rfl info22 rfl) rfl rfl (wt_is' (wt_guard' rfl rfl rfl) (beq_ff h3)) ?_
   refine sx_rd' (rd_load' (i := 0) (o := 3) rfl ⟨rfl, rfl, rfl, rfl⟩ rfl flat22) rfl rfl (wt_is' (wt_guard' rfl rfl rfl) (beq_ff h3)) ?_
   refine sx_rd' (rd_field' (off := 3) rfl Tryz.underlying27 rfl info22 rfl) rfl rfl (wt_is' (wt_guard' rfl rfl rfl) (beq_ff h3)) ?_
   refine sx_rd' (rd_load' (i := 1) (o := 3) rfl ⟨rfl, rfl, rfl, rfl⟩ rfl flat22) rfl rfl (wt_is' (wt_guard' rfl rfl rfl) (beq_ff h3)) ?_
   obtain ⟨r33, hr33, hp⟩ := bind_some hp
   refine sx_ox' (ox_calln' (ent_fn' Tryz.func20 isn20 rfl rfl) (spec_SameFloats_sim _ _ hr33 : Sx.Fn Tryz.prog 20 [(Sl Kf a0_3), (Sl Kf a1_3)] [] (fun x : Unit => (Vb r33)) (fun x => [])) (Hn := fun x : Unit => [⟨.pointer (some q2), [(Vi a0_0), (Vi a0_1), (Vi a0_2), (Sl Kf a0_3), (Sl (Ki .i64) a0_4), (Sl (Kl (Ki .i64)) a0_5), Vn], 27, none⟩, ⟨.pointer (some q3), [(Vi a1_0), (Vi a1_1), (Vi a1_2), (Sl Kf a1_3), (Sl (Ki .i64) a1_4), (Sl (Kl (Ki .i64)) a1_5), (Sl KT27 a1_6)], 27, none⟩]) (fun _ => rfl) rfl rfl) (wt_is' (wt_guard' rfl rfl rfl) (beq_ff h3)) fun ⟨⟩ => ?_
   refine sx_rd' (rd_un' rfl ru_not) rfl rfl (wt_is' (wt_guard' rfl rfl rfl) (beq_ff h3)) ?_
   refine s0 (rd_pick_false' rfl h3 rfl) ?_
   refine sx_nil' ?_
   show TX E K6 _
   exact tx_pick' [0, 1] (sub_cons rfl (sub_cons rfl (sub_cons rfl sub_nil))) (by decide) (pick_cons rfl (pick_cons rfl pick_nil)) (hK6 (!r33) hp)
  intro K5 hK5
  rcases br_cases hp with ⟨h2, hp⟩ | ⟨h2, hp⟩
  ·refine sx_skip' rfl rfl (wt_is' (wt_guard' rfl rfl rfl) (beq_tf h2)) ?_
   refine sx_skip' rfl rfl (wt_is' (wt_guard' rfl rfl rfl) (beq_tf h2)) ?_
   refine sx_skip' rfl rfl (wt_is' (wt_guard' rfl rfl rfl) (beq_tf h2)) ?_
   refine sx_skip' rfl rfl (wt_is' (wt_guard' rfl rfl rfl) (beq_tf h2)) ?_
   refine sx_skip' rfl rfl (wt_is' (wt_guard' rfl rfl rfl) (beq_tf h2)) ?_
   refine s0 (rd_pick_true' rfl h2 rfl) ?_
   refine sx_nil' ?_
   show TX E K5 _
   exact tx_pick' [0, 1] (sub_cons rfl (sub_cons rfl (sub_cons rfl sub_nil))) (by decide) (pick_cons rfl (pick_cons rfl pick_nil)) (hK5 true hp)
  refine sx_rd' (rd_field' (off := 2) rfl Tryz.underlying27 rfl info3 rfl) rfl rfl (wt_is' (wt_guard' rfl rfl rfl) (beq_ff h2)) ?_
  refine sx_rd' (rd_load' (i := 0) (o := 2) rfl ⟨rfl, rfl, rfl, rfl⟩ rfl flat3) rfl rfl (wt_is' (wt_guard' rfl rfl rfl) (beq_ff h2)) ?_
  refine sx_rd' (rd_field' (off := 2) rfl Tryz.underlying27 rfl info3 rfl) rfl rfl (wt_is' (wt_guard' rfl rfl rfl) (beq_ff h2)) ?_
  refine sx_rd' (rd_load' (i := 1) (o := 2) rfl ⟨rfl, rfl, rfl, rfl⟩ rfl flat3) rfl rfl (wt_is' (wt_guard' rfl rfl rfl) (beq_ff h2)) ?_
  refine sx_rd' (rd_bin' rfl rfl eg_int ru_neq) rfl rfl (wt_is' (wt_guard' rfl rfl rfl) (beq_ff h2)) ?_
  refine s0 (rd_pick_false' rfl h2 rfl) ?_
  refine sx_nil' ?_
  show TX E K5 _
  exact tx_pick' [0, 1] (sub_cons rfl (sub_cons rfl (sub_cons rfl sub_nil))) (by decide) (pick_cons rfl (pick_cons rfl pick_nil)) (hK5 (!decide (a0_2 = a1_2)) hp)
 intro K4 hK4
 rcases br_cases hp with ⟨h1, hp⟩ | ⟨h1, hp⟩
 ·refine sx_skip' rfl rfl (wt_is' (wt_guard' rfl rfl rfl) (beq_tf h1)) ?_
  refine sx_skip' rfl rfl (wt_is' (wt_guard' rfl rfl rfl) (beq_tf h1)) ?_
  refine sx_skip' rfl rfl (wt_is' (wt_guard' rfl rfl rfl) (beq_tf h1)) ?_
  refine sx_skip' rfl rfl (wt_is' (wt_guard' rfl rfl rfl) (beq_tf h1)) ?_
  refine sx_skip' rfl rfl (wt_is' (wt_guard' rfl rfl rfl) (beq_tf h1)) ?_
  refine s0 (rd_pick_true' rfl h1 rfl) ?_
  refine sx_nil' ?_
  show TX E K4 _
  exact tx_pick' [1, 0] (sub_cons rfl (sub_cons rfl (sub_cons rfl sub_nil))) (by decide) (pick_cons rfl (pick_cons rfl pick_nil)) (hK4 true hp)
 refine sx_rd' (rd_field' (off := 1) rfl Tryz.underlying27 rfl info3 rfl) rfl rfl (wt_is' (wt_guard' rfl rfl rfl) (beq_ff h1)) ?_
 refine sx_rd' (rd_load' (i := 1) (o := 1) rfl ⟨rfl, rfl, rfl, rfl⟩ rfl flat3) rfl rfl (wt_is' (wt_guard' rfl rfl rfl) (beq_ff h1)) ?_
 refine sx_rd' (rd_field' (off := 1) rfl Tryz.underlying27 rfl info3 rfl) rfl rfl (wt_is' (wt_guard' rfl rfl rfl) (beq_ff h1)) ?_
 refine sx_rd' (rd_load' (i := 0) (o := 1) rfl ⟨rfl, rfl, rfl, rfl⟩ rfl flat3) rfl rfl (wt_is' (wt_guard' rfl rfl rfl) (beq_ff h1)) ?_
 refine sx_rd' (rd_bin' rfl rfl eg_int ru_neq) rfl rfl (wt_is' (wt_guard' rfl rfl rfl) (beq_ff h1)) ?_
 refine s0 (rd_pick_false' rfl h1 rfl) ?_
 refine sx_nil' ?_
 show TX E K4 _
 exact tx_pick' [1, 0] (sub_cons rfl (sub_cons rfl (sub_cons rfl sub_nil))) (by decide) (pick_cons rfl (pick_cons rfl pick_nil)) (hK4 (!decide (a0_1 = a1_1)) hp)

def laws_FnClone_j1 (k : Nat) (x1 : Bool) : Option (Bool) :=
 some x1
def laws_FnClone (k : Nat) (a0_0 : Int) (a0_1 : Int) (a0_2 : Int) (a0_3 : List Nat) (a0_4 : List Int) (a0_5 : List (List Int)) (a0_6 : List T27) : Option (Bool) :=
 (laws_zzFits2 k a0_0 a0_1 a0_2 a0_3 a0_4 a0_5 a0_6) >>= fun r6 =>
 br (!r6)
  (some true)
  ((laws_gPlain k a0_0 a0_1 a0_2 a0_3 a0_4 a0_5 a0_6) >>= fun r9 =>
  br (!r9)
   (some true)
   ((impl_Clone k a0_0 a0_1 a0_2 a0_3 a0_4 a0_5 a0_6) >>= fun r13 =>
   br r13.2.2.2.2.2.2
    ((spec_SameGeom k r13.1 r13.2.1 r13.2.2.1 r13.2.2.2.1 r13.2.2.2.2.1 r13.2.2.2.2.2.1 a0_0 a0_1 a0_2 a0_3 a0_4 a0_5 a0_6) >>= fun r20 =>
    laws_FnClone_j1 k r20)
    (laws_FnClone_j1 k false)))

theorem laws_FnClone_sim {k : Nat}  (a0_0 : Int) (a0_1 : Int) (a0_2 : Int) (a0_3 : List Nat) (a0_4 : List Int) (a0_5 : List (List Int)) (a0_6 : List T27) {out : Bool} (hp : laws_FnClone k a0_0 a0_1 a0_2 a0_3 a0_4 a0_5 a0_6 = some out) : Sx.Fn Tryz.prog 3 [(Ag [(Vi a0_0), (Vi a0_1), (Vi a0_2), (Sl Kf a0_3), (Sl (Ki .i64) a0_4), (Sl (Kl (Ki .i64)) a0_5), (Sl KT27 a0_6)])] [] (fun w : Unit => (Vb out)) (fun w => []) := by
 unfold laws_FnClone at hp
 refine fn_of Tryz.func3 rfl Tryz.ntmps3 rfl fun E hM => ?_
 refine cr fun K1 hK1 => ?_
 refine sx_ox' (ox_box' rfl (lv_ag _) rfl rfl) (wt_none' rfl) fun q1 => ?_
 refine s0 (rd_assign' rfl) ?_
 refine nk hK1 ?_
 refine cx_seq' fun K2 hK2 => ?_
 refine cr fun K3 hK3 => ?_
 refine s0 (rd_load_agg' (i := 0) (o := 0) (nn := 7) rfl ⟨rfl, rfl, rfl, rfl⟩ rfl agg27 (l' := [(Vi a0_0), (Vi a0_1), (Vi a0_2), (Sl Kf a0_3), (Sl (Ki .i64) a0_4), (Sl (Kl (Ki .i64)) a0_5), (Sl KT27 a0_6)]) rfl) ?_
 obtain ⟨r6, hr6, hp⟩ := bind_some hp
 refine sx_ox' (ox_calln' (ent_fn' Tryz.func4 isn4 rfl rfl) (laws_zzFits2_sim _ _ _ _ _ _ _ hr6 : Sx.Fn Tryz.prog 4 [(Ag [(Vi a0_0), (Vi a0_1), (Vi a0_2), (Sl Kf a0_3), (Sl (Ki .i64) a0_4), (Sl (Kl (Ki .i64)) a0_5), (Sl KT27 a0_6)])] [] (fun x : Unit => (Vb r6)) (fun x => [])) (Hn := fun x : Unit => [⟨.pointer (some q1), [(Vi a0_0), (Vi a0_1), (Vi a0_2), (Sl Kf a0_3), (Sl (Ki .i64) a0_4), (Sl (Kl (Ki .i64)) a0_5), (Sl KT27 a0_6)], 27, none⟩]) (fun _ => rfl) rfl rfl) (wt_none' rfl) fun ⟨⟩ => ?_
 refine s0 (rd_un' rfl ru_not) ?_
 refine nk hK3 ?_
 refine cx_cond' rfl (fun h1 => ?_) (fun h1 => ?_)
 ·replace hp := (br_t h1).symm.trans hp
  refine cr fun K4 hK4 => ?_
  refine s0 (rd_assign' rfl) ?_
  refine nk hK4 ?_
  refine cx_retc' ?_
  replace hp := Option.some.inj hp
  subst hp
  refine tx_pick' (L' := [(2, (Vb true))]) (H' := []) [] (sub_cons rfl sub_nil) (by decide) pick_nil ?_
  exact tx_ret1' Tryz.results3 rfl () (rv_tmp' rfl) (List.Sublist.refl _)
 replace hp := (br_f h1).symm.trans hp
 refine cx_skip' ?_
 show TX E K2 _
 refine tx_k' hK2 ?_
 refine cx_seq' fun K5 hK5 => ?_
 refine cr fun K6 hK6 => ?_
 refine s0 (rd_load_agg' (i := 0) (o := 0) (nn := 7) rfl ⟨rfl, rfl, rfl, rfl⟩ rfl agg27 (l' := [(Vi a0_0), (Vi a0_1), (Vi a0_2), (Sl Kf a0_3), (Sl (Ki .i64) a0_4), (Sl (Kl (Ki .i64)) a0_5), (Sl KT27 a0_6)]) rfl) ?_
 obtain ⟨r9, hr9, hp⟩ := bind_some hp
 refine sx_ox' (ox_calln' (ent_fn' Tryz.func5 isn5 rfl rfl) (laws_gPlain_sim _ _ _ _ _ _ _ hr9 : Sx.Fn Tryz.prog 5 [(Ag [(Vi a0_0), (Vi a0_1), (Vi a0_2), (Sl Kf a0_3), (Sl (Ki .i64) a0_4), (Sl (Kl (Ki .i64)) a0_5), (Sl KT27 a0_6)])] [] (fun x : Unit => (Vb r9)) (fun x => [])) (Hn := fun x : Unit => [⟨.pointer (some q1), [(Vi a0_0), (Vi a0_1), (Vi a0_2), (Sl Kf a0_3), (Sl (Ki .i64) a0_4), (Sl (Kl (Ki .i64)) a0_5), (Sl KT27 a0_6)], 27, none⟩]) (fun _ => rfl) rfl rfl) (wt_none' rfl) fun ⟨⟩ => ?_
 refine s0 (rd_un' rfl ru_not) ?_
 refine nk hK6 ?_
 refine cx_cond' rfl (fun h2 => ?_) (fun h2 => ?_)
 ·replace hp := (br_t h2).symm.trans hp
  refine cr fun K7 hK7 => ?_
  refine s0 (rd_assign' rfl) ?_
  refine nk hK7 ?_
  refine cx_retc' ?_
  replace hp := Option.some.inj hp
  subst hp
  refine tx_pick' (L' := [(2, (Vb true))]) (H' := []) [] (sub_cons rfl sub_nil) (by decide) pick_nil ?_
  exact tx_ret1' Tryz.results3 rfl () (rv_tmp' rfl) (List.Sublist.refl _)
 replace hp := (br_f h2).symm.trans hp
 refine cx_skip' ?_
 show TX E K5 _
 refine tx_k' hK5 ?_
 refine cr fun K8 hK8 => ?_
 refine s0 (rd_load_agg' (i := 0) (o := 0) (nn := 7) rfl ⟨rfl, rfl, rfl, rfl⟩ rfl agg27 (l' := [(Vi a0_0), (Vi a0_1), (Vi a0_2), (Sl Kf a0_3), (Sl (Ki .i64) a0_4), (Sl (Kl (Ki .i64)) a0_5), (Sl KT27 a0_6)]) rfl) ?_
 obtain ⟨r13, hr13, hp⟩ := bind_some hp
 refine sx_ox' (ox_calln' (ent_fn' Tryz.func6 isn6 rfl rfl) (impl_Clone_sim _ _ _ _ _ _ _ hr13 : Sx.Fn Tryz.prog 6 [(Ag [(Vi a0_0), (Vi a0_1), (Vi a0_2), (Sl Kf a0_3), (Sl (Ki .i64) a0_4), (Sl (Kl (Ki .i64)) a0_5), (Sl KT27 a0_6)])] [] (fun x : Unit => (Tu [(Ag [(Vi r13.1), (Vi r13.2.1), (Vi r13.2.2.1), (Sl Kf r13.2.2.2.1), (Sl (Ki .i64) r13.2.2.2.2.1), (Sl (Kl (Ki .i64)) r13.2.2.2.2.2.1), Vn]), (Vb r13.2.2.2.2.2.2)])) (fun x => [])) (Hn := fun x : Unit => [⟨.pointer (some q1), [(Vi a0_0), (Vi a0_1), (Vi a0_2), (Sl Kf a0_3), (Sl (Ki .i64) a0_4), (Sl (Kl (Ki .i64)) a0_5), (Sl KT27 a0_6)], 27, none⟩]) (fun _ => rfl) rfl rfl) (wt_none' rfl) fun ⟨⟩ => ?_
 refine s0 (rd_move' rfl) ?_
 refine s0 (rd_extract' rfl rfl) ?_
 refine s0 (rd_extract' rfl rfl) ?_
 refine sx_ox' (ox_alloc' info27 rfl rfl rfl rfl (l := [(Vi 0), (Vi 0), (Vi 0), Vn, Vn, Vn, Vn]) rfl) (wt_none' rfl) fun q3 => ?_
 refine sx_ox' (ox_store' (i := 0) (o := 0) rfl rfl (lv_ag _) ⟨rfl, rfl, rfl, rfl⟩ rfl info27 rfl (H' := [⟨.pointer (some q3), [(Vi r13.1), (Vi r13.2.1), (Vi r13.2.2.1), (Sl Kf r13.2.2.2.1), (Sl (Ki .i64) r13.2.2.2.2.1), (Sl (Kl (Ki .i64)) r13.2.2.2.2.2.1), Vn], 27, none⟩, ⟨.pointer (some q1), [(Vi a0_0), (Vi a0_1), (Vi a0_2), (Sl Kf a0_3), (Sl (Ki .i64) a0_4), (Sl (Kl (Ki .i64)) a0_5), (Sl KT27 a0_6)], 27, none⟩]) rfl) (wt_none' rfl) fun _ => ?_
 refine s0 (rd_assign' rfl) ?_
 refine nk hK8 ?_
 refine cr fun K9 hK9 => ?_
 refine s0 (rd_move' rfl) ?_
 refine s0 (rd_move' rfl) ?_
 refine sx_cutn' 4 (fun (v1 : Bool) => (⟨22, [], [(21, (Vb v1))], []⟩ : St)) (fun (v1 : Bool) => laws_FnClone_j1 k v1 = some out) ?_ ?_
 ·rintro x1 hp
  replace hp : laws_FnClone_j1 k x1 = some out := hp
  unfold laws_FnClone_j1 at hp
  refine s0 (rd_assign' rfl) ?_
  refine nk hK9 ?_
  refine cx_retc' ?_
  replace hp := Option.some.inj hp
  subst hp
  refine tx_pick' (L' := [(2, (Vb x1))]) (H' := []) [] (sub_cons rfl sub_nil) (by decide) pick_nil ?_
  exact tx_ret1' Tryz.results3 rfl () (rv_tmp' rfl) (List.Sublist.refl _)
 intro K10 hK10
 rcases br_cases hp with ⟨h3, hp⟩ | ⟨h3, hp⟩
 ·refine sx_rd' (rd_load_agg' (i := 0) (o := 0) (nn := 7) rfl ⟨rfl, rfl, rfl, rfl⟩ rfl agg27 (l' := [(Vi r13.1), (Vi r13.2.1), (Vi r13.2.2.1), (Sl Kf r13.2.2.2.1), (Sl (Ki .i64) r13.2.2.2.2.1), (Sl (Kl (Ki .i64)) r13.2.2.2.2.2.1), Vn]) rfl) rfl rfl (wt_is' (wt_guard' rfl rfl rfl) (beq_tt h3)) ?_
  refine sx_rd' (rd_load_agg' (i := 1) (o := 0) (nn := 7) rfl ⟨rfl, rfl, rfl, rfl⟩ rfl agg27 (l' := [(Vi a0_0), (Vi a0_1), (Vi a0_2), (Sl Kf a0_3), (Sl (Ki .i64) a0_4), (Sl (Kl (Ki .i64)) a0_5), (Sl KT27 a0_6)]) rfl) rfl rfl (wt_is' (wt_guard' rfl rfl rfl) (beq_tt h3)) ?_
  obtain ⟨r20, hr20, hp⟩ := bind_some hp
  refine sx_ox' (ox_calln' (ent_fn' Tryz.func7 isn7 rfl rfl) (spec_SameGeom_sim _ _ _ _ _ _ _ _ _ _ _ _ _ hr20 : Sx.Fn Tryz.prog 7 [(Ag [(Vi r13.1), (Vi r13.2.1), (Vi r13.2.2.1), (Sl Kf r13.2.2.2.1), (Sl (Ki .i64) r13.2.2.2.2.1), (Sl (Kl (Ki .i64)) r13.2.2.2.2.2.1), Vn]), (Ag [(Vi a0_0), (Vi a0_1), (Vi a0_2), (Sl Kf a0_3), (Sl (Ki .i64) a0_4), (Sl (Kl (Ki .i64)) a0_5), (Sl KT27 a0_6)])] [] (fun x : Unit => (Vb r20)) (fun x => [])) (Hn := fun x : Unit => [⟨.pointer (some q3), [(Vi r13.1), (Vi r13.2.1), (Vi r13.2.2.1), (Sl Kf r13.2.2.2.1), (Sl (Ki .i64) r13.2.2.2.2.1), (Sl (Kl (Ki .i64)) r13.2.2.2.2.2.1), Vn], 27, none⟩, ⟨.pointer (some q1), [(Vi a0_0), (Vi a0_1), (Vi a0_2), (Sl Kf a0_3), (Sl (Ki .i64) a0_4), (Sl (Kl (Ki .i64)) a0_5), (Sl KT27 a0_6)], 27, none⟩]) (fun _ => rfl) rfl rfl) (wt_is' (wt_guard' rfl rfl rfl) (beq_tt h3)) fun ⟨⟩ => ?_
  refine s0 (rd_pick_true' rfl h3 rfl) ?_
  refine sx_nil' ?_
  show TX E K10 _
  exact tx_pick' [] (sub_cons rfl sub_nil) (by decide) pick_nil (hK10 r20 hp)
 refine sx_skip' rfl rfl (wt_is' (wt_guard' rfl rfl rfl) (beq_ft h3)) ?_
 refine sx_skip' rfl rfl (wt_is' (wt_guard' rfl rfl rfl) (beq_ft h3)) ?_
 refine sx_skip' rfl rfl (wt_is' (wt_guard' rfl rfl rfl) (beq_ft h3)) ?_
 refine s0 (rd_pick_false' rfl h3 rfl) ?_
 refine sx_nil' ?_
 show TX E K10 _
 exact tx_pick' [] (sub_cons rfl sub_nil) (by decide) pick_nil (hK10 false hp)

end Go.Proofs.YtmagcmeknclljaaGreat
