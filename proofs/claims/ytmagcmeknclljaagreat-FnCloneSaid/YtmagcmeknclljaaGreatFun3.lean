/-
  Plain functions for the Go functions that this law reaches, and that each call does what its plain function says. Printed by a program of ours.
-/
import Derived.Test.YtmagcmeknclljaaGreatProg
import Derived.Test.YtmagcmeknclljaaGreatSxX
import Derived.Test.YtmagcmeknclljaaGreatFun2
namespace Go.Proofs.YtmagcmeknclljaaGreat
open Go.Sx
set_option linter.unusedVariables false
set_option maxRecDepth 100000

def impl_plain_v4 (k : Nat) (a0_0 : Int) (a0_1 : Int) (a0_2 : List Nat) (a0_3 : Int) (a0_4 : List Int) : Option (Int × Int × (List Nat) × Int × (List Int) × Int × Int × Int × (List Nat) × (List Int)) :=
 (gogeom_geom0_SRID_v4 k a0_0 a0_1 a0_2 a0_3 a0_4) >>= fun r15 =>
 (gogeom_geom0_Layout_v4 k r15.1 r15.2.1 r15.2.2.1 r15.2.2.2.1 r15.2.2.2.2) >>= fun r70 =>
 (gogeom_geom0_FlatCoords_v4 k r70.1 r70.2.1 r70.2.2.1 r70.2.2.2.1 r70.2.2.2.2) >>= fun r72 =>
 (impl_floats k r72.2.2.1) >>= fun r73 =>
 (gogeom_geom2_Ends k r72.1 r72.2.1 r72.2.2.1 r72.2.2.2.1 r72.2.2.2.2) >>= fun r75 =>
 (impl_ints k r75.2.2.2.2) >>= fun r76 =>
 match r76 with
  | (.inl y1) =>
   ((gogeom_geom0_Endss_v4 k r75.1 r75.2.1 r75.2.2.1 r75.2.2.2.1 r75.2.2.2.2) >>= fun r78 =>
   (impl_intss_v2 k) >>= fun r79 =>
   some (r78.1, r78.2.1, r78.2.2.1, r78.2.2.2.1, r78.2.2.2.2, 3, r70.1, r15.2.2.2.1, r73, []))
  | (.inr y1) =>
   ((gogeom_geom0_Endss_v4 k r75.1 r75.2.1 r75.2.2.1 r75.2.2.2.1 r75.2.2.2.2) >>= fun r78 =>
   (impl_intss_v2 k) >>= fun r79 =>
   some (r78.1, r78.2.1, r78.2.2.1, r78.2.2.2.1, r78.2.2.2.2, 3, r70.1, r15.2.2.2.1, r73, y1))

theorem impl_plain_v4_sim {k : Nat} {wa0 : Addr} {wa0_2 : Gs} {wa0_4 : Gs} (a0_0 : Int) (a0_1 : Int) (a0_2 : List Nat) (a0_3 : Int) (a0_4 : List Int) {out : Int × Int × (List Nat) × Int × (List Int) × Int × Int × Int × (List Nat) × (List Int)} (hp : impl_plain_v4 k a0_0 a0_1 a0_2 a0_3 a0_4 = some out) : Sx.Fn Tryz.prog 12 [(If 44 (Vp wa0))] [⟨.pointer (some wa0), [(Vi a0_0), (Vi a0_1), (Vl (Vs wa0_2)), (Vi a0_3), (Vl (Vs wa0_4))], 115, none⟩, (Rw Kf 95 (Vs wa0_2) a0_2), (Rw (Ki .i64) 3 (Vs wa0_4) a0_4)] (fun w : Unit => (Ag [(Vi out.2.2.2.2.2.1), (Vi out.2.2.2.2.2.2.1), (Vi out.2.2.2.2.2.2.2.1), (Sl Kf out.2.2.2.2.2.2.2.2.1), (Sl (Ki .i64) out.2.2.2.2.2.2.2.2.2), Vn, Vn])) (fun w => [⟨.pointer (some wa0), [(Vi out.1), (Vi out.2.1), (Sl Kf out.2.2.1), (Vi out.2.2.2.1), (Sl (Ki .i64) out.2.2.2.2.1)], 115, none⟩]) := by
 unfold impl_plain_v4 at hp
 refine fn_of Tryz.func12 rfl Tryz.ntmps12 rfl fun E hM => ?_
 refine cr fun K1 hK1 => ?_
 refine sx_ox' (ox_alloc' info27 rfl rfl rfl rfl (l := [(Vi 0), (Vi 0), (Vi 0), Vn, Vn, Vn, Vn]) rfl) (wt_none' rfl) fun q2 => ?_
 refine nk hK1 ?_
 refine cr fun K2 hK2 => ?_
 refine s0 (rd_move' rfl) ?_
 obtain ⟨r15, hr15, hp⟩ := bind_some hp
 refine sx_ox' (ox_callg' (ent_inv' rfl rfl (inv_ptr0 (inv44_SRID _))) (gogeom_geom0_SRID_v4_sim _ _ _ _ _ hr15 : Sx.Fn Tryz.prog 101 [(Vp wa0)] [⟨.pointer (some wa0), [(Vi a0_0), (Vi a0_1), (Vl (Vs wa0_2)), (Vi a0_3), (Vl (Vs wa0_4))], 115, none⟩, (Rw Kf 95 (Vs wa0_2) a0_2), (Rw (Ki .i64) 3 (Vs wa0_4) a0_4)] (fun x : Unit => (Vi r15.2.2.2.1)) (fun x => [⟨.pointer (some wa0), [(Vi r15.1), (Vi r15.2.1), (Vl (Vs wa0_2)), (Vi r15.2.2.2.1), (Vl (Vs wa0_4))], 115, none⟩, (Rw Kf 95 (Vs wa0_2) r15.2.2.1), (Rw (Ki .i64) 3 (Vs wa0_4) r15.2.2.2.2)])) [1, 2, 3] [0] (by decide) (pick_cons rfl (pick_cons rfl (pick_cons rfl pick_nil))) (pick_cons rfl pick_nil) (Hn := fun x : Unit => [⟨.pointer (some wa0), [(Vi r15.1), (Vi r15.2.1), (Vl (Vs wa0_2)), (Vi r15.2.2.2.1), (Vl (Vs wa0_4))], 115, none⟩, (Rw Kf 95 (Vs wa0_2) r15.2.2.1), (Rw (Ki .i64) 3 (Vs wa0_4) r15.2.2.2.2), ⟨.pointer (some q2), [(Vi 0), (Vi 0), (Vi 0), Vn, Vn, Vn, Vn], 27, none⟩]) (fun _ => rfl) rfl rfl) (wt_none' rfl) fun ⟨⟩ => ?_
 refine s0 (rd_build' (pls := [(0, 1), (1, 1), (2, 1), (3, 1), (4, 1), (5, 1), (6, 1)]) (qs := [(2, [(Vi r15.2.2.2.1)])]) (r := [(Vi 0), (Vi 0), (Vi r15.2.2.2.1), Vn, Vn, Vn, Vn]) ⟨rfl, ⟨_, rfl, (lv_vl rfl rfl)⟩, trivial⟩ Tryz.underlying27 has27 places27 info27 rfl rfl rfl) ?_
 refine sx_ox' (ox_alloc' info27 rfl rfl rfl rfl (l := [(Vi 0), (Vi 0), (Vi 0), Vn, Vn, Vn, Vn]) rfl) (wt_none' rfl) fun q3 => ?_
 refine sx_ox' (ox_store' (i := 0) (o := 0) rfl rfl (lv_ag _) ⟨rfl, rfl, rfl, rfl⟩ rfl info27 rfl (H' := [⟨.pointer (some q3), [(Vi 0), (Vi 0), (Vi r15.2.2.2.1), Vn, Vn, Vn, Vn], 27, none⟩, ⟨.pointer (some wa0), [(Vi r15.1), (Vi r15.2.1), (Vl (Vs wa0_2)), (Vi r15.2.2.2.1), (Vl (Vs wa0_4))], 115, none⟩, (Rw Kf 95 (Vs wa0_2) r15.2.2.1), (Rw (Ki .i64) 3 (Vs wa0_4) r15.2.2.2.2), ⟨.pointer (some q2), [(Vi 0), (Vi 0), (Vi 0), Vn, Vn, Vn, Vn], 27, none⟩]) rfl) (wt_none' rfl) fun _ => ?_
 refine nk hK2 ?_
 refine cx_seq' fun K3 hK3 => ?_
 refine cr fun K4 hK4 => ?_
 refine s0 (rd_move' rfl) ?_
 refine nk hK4 ?_
 refine cx_block' ?_
 refine cr fun K5 hK5 => ?_
 refine s0 (rd_assert' rfl (F := fun _ => .tuple #[.pointer none, .bool false]) as44_35_37 as_no) ?_
 refine s0 (rd_extract' rfl rfl) ?_
 refine s0 (rd_extract' rfl rfl) ?_
 refine nk hK5 ?_
 refine cx_cond_f' rfl rfl ?_
 refine cr fun K6 hK6 => ?_
 refine s0 (rd_assert' rfl (F := fun _ => .tuple #[.pointer none, .bool false]) as44_35_40 as_no) ?_
 refine s0 (rd_extract' rfl rfl) ?_
 refine s0 (rd_extract' rfl rfl) ?_
 refine nk hK6 ?_
 refine cx_cond_f' rfl rfl ?_
 refine cr fun K7 hK7 => ?_
 refine s0 (rd_assert' rfl (F := fun _ => .tuple #[.pointer none, .bool false]) as44_35_42 as_no) ?_
 refine s0 (rd_extract' rfl rfl) ?_
 refine s0 (rd_extract' rfl rfl) ?_
 refine nk hK7 ?_
 refine cx_cond_f' rfl rfl ?_
 refine cr fun K8 hK8 => ?_
 refine s0 (rd_assert' rfl (F := fun v => .tuple #[v, .bool true]) as44_35_44k as_ok) ?_
 refine s0 (rd_extract' rfl rfl) ?_
 refine s0 (rd_extract' rfl rfl) ?_
 refine nk hK8 ?_
 refine cx_cond_t' rfl rfl ?_
 refine cr fun K9 hK9 => ?_
 refine s0 (rd_assign' rfl) ?_
 refine nk hK9 ?_
 refine cx_region' ?_
 refine s0 (rd_field0' rfl Tryz.underlying27 rfl info3 rfl) ?_
 refine sx_ox' (ox_store' (i := 0) (o := 0) rfl rfl (lv_vl rfl rfl) ⟨rfl, rfl, rfl, rfl⟩ rfl info3 rfl (H' := [⟨.pointer (some q3), [(Vi 3), (Vi 0), (Vi r15.2.2.2.1), Vn, Vn, Vn, Vn], 27, none⟩, ⟨.pointer (some wa0), [(Vi r15.1), (Vi r15.2.1), (Vl (Vs wa0_2)), (Vi r15.2.2.2.1), (Vl (Vs wa0_4))], 115, none⟩, (Rw Kf 95 (Vs wa0_2) r15.2.2.1), (Rw (Ki .i64) 3 (Vs wa0_4) r15.2.2.2.2), ⟨.pointer (some q2), [(Vi 0), (Vi 0), (Vi 0), Vn, Vn, Vn, Vn], 27, none⟩]) rfl) (wt_none' rfl) fun _ => ?_
 refine nk hK3 ?_
 refine cr fun K10 hK10 => ?_
 refine s0 (rd_move' rfl) ?_
 obtain ⟨r70, hr70, hp⟩ := bind_some hp
 refine sx_ox' (ox_callg' (ent_inv' rfl rfl (inv_ptr0 (inv44_Layout _))) (gogeom_geom0_Layout_v4_sim _ _ _ _ _ hr70 : Sx.Fn Tryz.prog 100 [(Vp wa0)] [⟨.pointer (some wa0), [(Vi r15.1), (Vi r15.2.1), (Vl (Vs wa0_2)), (Vi r15.2.2.2.1), (Vl (Vs wa0_4))], 115, none⟩, (Rw Kf 95 (Vs wa0_2) r15.2.2.1), (Rw (Ki .i64) 3 (Vs wa0_4) r15.2.2.2.2)] (fun x : Unit => (Vi r70.1)) (fun x => [⟨.pointer (some wa0), [(Vi r70.1), (Vi r70.2.1), (Vl (Vs wa0_2)), (Vi r70.2.2.2.1), (Vl (Vs wa0_4))], 115, none⟩, (Rw Kf 95 (Vs wa0_2) r70.2.2.1), (Rw (Ki .i64) 3 (Vs wa0_4) r70.2.2.2.2)])) [1, 2, 3] [0, 4] (by decide) (pick_cons rfl (pick_cons rfl (pick_cons rfl pick_nil))) (pick_cons rfl (pick_cons rfl pick_nil)) (Hn := fun x : Unit => [⟨.pointer (some wa0), [(Vi r70.1), (Vi r70.2.1), (Vl (Vs wa0_2)), (Vi r70.2.2.2.1), (Vl (Vs wa0_4))], 115, none⟩, (Rw Kf 95 (Vs wa0_2) r70.2.2.1), (Rw (Ki .i64) 3 (Vs wa0_4) r70.2.2.2.2), ⟨.pointer (some q3), [(Vi 3), (Vi 0), (Vi r15.2.2.2.1), Vn, Vn, Vn, Vn], 27, none⟩, ⟨.pointer (some q2), [(Vi 0), (Vi 0), (Vi 0), Vn, Vn, Vn, Vn], 27, none⟩]) (fun _ => rfl) rfl rfl) (wt_none' rfl) fun ⟨⟩ => ?_
 refine s0 (rd_move' rfl) ?_
 obtain ⟨r72, hr72, hp⟩ := bind_some hp
 refine sx_ox' (ox_callg' (ent_inv' rfl rfl (inv_ptr0 (inv44_FlatCoords _))) (gogeom_geom0_FlatCoords_v4_sim _ _ _ _ _ hr72 : Sx.Fn Tryz.prog 99 [(Vp wa0)] [⟨.pointer (some wa0), [(Vi r70.1), (Vi r70.2.1), (Vl (Vs wa0_2)), (Vi r70.2.2.2.1), (Vl (Vs wa0_4))], 115, none⟩, (Rw Kf 95 (Vs wa0_2) r70.2.2.1), (Rw (Ki .i64) 3 (Vs wa0_4) r70.2.2.2.2)] (fun x : Unit => (Sl Kf r72.2.2.1)) (fun x => [⟨.pointer (some wa0), [(Vi r72.1), (Vi r72.2.1), (Sl Kf r72.2.2.1), (Vi r72.2.2.2.1), (Vl (Vs wa0_4))], 115, none⟩, (Rw (Ki .i64) 3 (Vs wa0_4) r72.2.2.2.2)])) [0, 1, 2] [3, 4] (by decide) (pick_cons rfl (pick_cons rfl (pick_cons rfl pick_nil))) (pick_cons rfl (pick_cons rfl pick_nil)) (Hn := fun x : Unit => [⟨.pointer (some wa0), [(Vi r72.1), (Vi r72.2.1), (Sl Kf r72.2.2.1), (Vi r72.2.2.2.1), (Vl (Vs wa0_4))], 115, none⟩, (Rw (Ki .i64) 3 (Vs wa0_4) r72.2.2.2.2), ⟨.pointer (some q3), [(Vi 3), (Vi 0), (Vi r15.2.2.2.1), Vn, Vn, Vn, Vn], 27, none⟩, ⟨.pointer (some q2), [(Vi 0), (Vi 0), (Vi 0), Vn, Vn, Vn, Vn], 27, none⟩]) (fun _ => rfl) rfl rfl) (wt_none' rfl) fun ⟨⟩ => ?_
 obtain ⟨r73, hr73, hp⟩ := bind_some hp
 refine sx_ox' (ox_calln' (ent_fn' Tryz.func24 isn24 rfl rfl) (impl_floats_sim _ hr73 : Sx.Fn Tryz.prog 24 [(Sl Kf r72.2.2.1)] [] (fun x : Unit => (Sl Kf r73)) (fun x => [])) (Hn := fun x : Unit => [⟨.pointer (some wa0), [(Vi r72.1), (Vi r72.2.1), (Sl Kf r72.2.2.1), (Vi r72.2.2.2.1), (Vl (Vs wa0_4))], 115, none⟩, (Rw (Ki .i64) 3 (Vs wa0_4) r72.2.2.2.2), ⟨.pointer (some q3), [(Vi 3), (Vi 0), (Vi r15.2.2.2.1), Vn, Vn, Vn, Vn], 27, none⟩, ⟨.pointer (some q2), [(Vi 0), (Vi 0), (Vi 0), Vn, Vn, Vn, Vn], 27, none⟩]) (fun _ => rfl) rfl rfl) (wt_none' rfl) fun ⟨⟩ => ?_
 refine s0 (rd_move' rfl) ?_
 obtain ⟨r75, hr75, hp⟩ := bind_some hp
 refine sx_ox' (ox_callg' (ent_inv' rfl rfl (inv_ptr0 (inv44_Ends _))) (gogeom_geom2_Ends_sim _ _ _ _ _ hr75 : Sx.Fn Tryz.prog 104 [(Vp wa0)] [⟨.pointer (some wa0), [(Vi r72.1), (Vi r72.2.1), (Sl Kf r72.2.2.1), (Vi r72.2.2.2.1), (Vl (Vs wa0_4))], 115, none⟩, (Rw (Ki .i64) 3 (Vs wa0_4) r72.2.2.2.2)] (fun x : Unit => (Sl (Ki .i64) r75.2.2.2.2)) (fun x => [⟨.pointer (some wa0), [(Vi r75.1), (Vi r75.2.1), (Sl Kf r75.2.2.1), (Vi r75.2.2.2.1), (Sl (Ki .i64) r75.2.2.2.2)], 115, none⟩])) [0, 1] [2, 3] (by decide) (pick_cons rfl (pick_cons rfl pick_nil)) (pick_cons rfl (pick_cons rfl pick_nil)) (Hn := fun x : Unit => [⟨.pointer (some wa0), [(Vi r75.1), (Vi r75.2.1), (Sl Kf r75.2.2.1), (Vi r75.2.2.2.1), (Sl (Ki .i64) r75.2.2.2.2)], 115, none⟩, ⟨.pointer (some q3), [(Vi 3), (Vi 0), (Vi r15.2.2.2.1), Vn, Vn, Vn, Vn], 27, none⟩, ⟨.pointer (some q2), [(Vi 0), (Vi 0), (Vi 0), Vn, Vn, Vn, Vn], 27, none⟩]) (fun _ => rfl) rfl rfl) (wt_none' rfl) fun ⟨⟩ => ?_
 obtain ⟨r76, hr76, hp⟩ := bind_some hp
 rcases r76 with y1 | y1
 ·dsimp only at hp
  refine sx_ox' (ox_calln' (ent_fn' Tryz.func32 isn32 rfl rfl) (impl_ints_sim _ hr76 : Sx.Fn Tryz.prog 32 [(Sl (Ki .i64) r75.2.2.2.2)] [] (fun x : Unit => Vn) (fun x => [])) (Hn := fun x : Unit => [⟨.pointer (some wa0), [(Vi r75.1), (Vi r75.2.1), (Sl Kf r75.2.2.1), (Vi r75.2.2.2.1), (Sl (Ki .i64) r75.2.2.2.2)], 115, none⟩, ⟨.pointer (some q3), [(Vi 3), (Vi 0), (Vi r15.2.2.2.1), Vn, Vn, Vn, Vn], 27, none⟩, ⟨.pointer (some q2), [(Vi 0), (Vi 0), (Vi 0), Vn, Vn, Vn, Vn], 27, none⟩]) (fun _ => rfl) rfl rfl) (wt_none' rfl) fun ⟨⟩ => ?_
  refine s0 (rd_move' rfl) ?_
  obtain ⟨r78, hr78, hp⟩ := bind_some hp
  refine sx_ox' (ox_callg' (ent_inv' rfl rfl (inv_ptr0 (inv44_Endss _))) (gogeom_geom0_Endss_v4_sim _ _ _ _ _ hr78 : Sx.Fn Tryz.prog 98 [(Vp wa0)] [⟨.pointer (some wa0), [(Vi r75.1), (Vi r75.2.1), (Sl Kf r75.2.2.1), (Vi r75.2.2.2.1), (Sl (Ki .i64) r75.2.2.2.2)], 115, none⟩] (fun x : Unit => Vn) (fun x => [⟨.pointer (some wa0), [(Vi r78.1), (Vi r78.2.1), (Sl Kf r78.2.2.1), (Vi r78.2.2.2.1), (Sl (Ki .i64) r78.2.2.2.2)], 115, none⟩])) [0] [1, 2] (by decide) (pick_cons rfl pick_nil) (pick_cons rfl (pick_cons rfl pick_nil)) (Hn := fun x : Unit => [⟨.pointer (some wa0), [(Vi r78.1), (Vi r78.2.1), (Sl Kf r78.2.2.1), (Vi r78.2.2.2.1), (Sl (Ki .i64) r78.2.2.2.2)], 115, none⟩, ⟨.pointer (some q3), [(Vi 3), (Vi 0), (Vi r15.2.2.2.1), Vn, Vn, Vn, Vn], 27, none⟩, ⟨.pointer (some q2), [(Vi 0), (Vi 0), (Vi 0), Vn, Vn, Vn, Vn], 27, none⟩]) (fun _ => rfl) rfl rfl) (wt_none' rfl) fun ⟨⟩ => ?_
  obtain ⟨r79, hr79, hp⟩ := bind_some hp
  refine sx_ox' (ox_calln' (ent_fn' Tryz.func40 isn40 rfl rfl) (impl_intss_v2_sim hr79 : Sx.Fn Tryz.prog 40 [Vn] [] (fun x : Unit => Vn) (fun x => [])) (Hn := fun x : Unit => [⟨.pointer (some wa0), [(Vi r78.1), (Vi r78.2.1), (Sl Kf r78.2.2.1), (Vi r78.2.2.2.1), (Sl (Ki .i64) r78.2.2.2.2)], 115, none⟩, ⟨.pointer (some q3), [(Vi 3), (Vi 0), (Vi r15.2.2.2.1), Vn, Vn, Vn, Vn], 27, none⟩, ⟨.pointer (some q2), [(Vi 0), (Vi 0), (Vi 0), Vn, Vn, Vn, Vn], 27, none⟩]) (fun _ => rfl) rfl rfl) (wt_none' rfl) fun ⟨⟩ => ?_
  refine s0 (rd_field' (off := 1) rfl Tryz.underlying27 rfl info3 rfl) ?_
  refine sx_ox' (ox_store' (i := 1) (o := 1) rfl rfl (lv_vl rfl rfl) ⟨rfl, rfl, rfl, rfl⟩ rfl info3 rfl (H' := [⟨.pointer (some wa0), [(Vi r78.1), (Vi r78.2.1), (Sl Kf r78.2.2.1), (Vi r78.2.2.2.1), (Sl (Ki .i64) r78.2.2.2.2)], 115, none⟩, ⟨.pointer (some q3), [(Vi 3), (Vi r70.1), (Vi r15.2.2.2.1), Vn, Vn, Vn, Vn], 27, none⟩, ⟨.pointer (some q2), [(Vi 0), (Vi 0), (Vi 0), Vn, Vn, Vn, Vn], 27, none⟩]) rfl) (wt_none' rfl) fun _ => ?_
  refine s0 (rd_field' (off := 3) rfl Tryz.underlying27 rfl info22 rfl) ?_
  refine sx_ox' (ox_store' (i := 1) (o := 3) rfl rfl (lv_sl _ _) ⟨rfl, rfl, rfl, rfl⟩ rfl info22 rfl (H' := [⟨.pointer (some wa0), [(Vi r78.1), (Vi r78.2.1), (Sl Kf r78.2.2.1), (Vi r78.2.2.2.1), (Sl (Ki .i64) r78.2.2.2.2)], 115, none⟩, ⟨.pointer (some q3), [(Vi 3), (Vi r70.1), (Vi r15.2.2.2.1), (Sl Kf r73), Vn, Vn, Vn], 27, none⟩, ⟨.pointer (some q2), [(Vi 0), (Vi 0), (Vi 0), Vn, Vn, Vn, Vn], 27, none⟩]) rfl) (wt_none' rfl) fun _ => ?_
  refine s0 (rd_field' (off := 4) rfl Tryz.underlying27 rfl info23 rfl) ?_
  refine sx_ox' (ox_store' (i := 1) (o := 4) rfl rfl (lv_vl rfl rfl) ⟨rfl, rfl, rfl, rfl⟩ rfl info23 rfl (H' := [⟨.pointer (some wa0), [(Vi r78.1), (Vi r78.2.1), (Sl Kf r78.2.2.1), (Vi r78.2.2.2.1), (Sl (Ki .i64) r78.2.2.2.2)], 115, none⟩, ⟨.pointer (some q3), [(Vi 3), (Vi r70.1), (Vi r15.2.2.2.1), (Sl Kf r73), Vn, Vn, Vn], 27, none⟩, ⟨.pointer (some q2), [(Vi 0), (Vi 0), (Vi 0), Vn, Vn, Vn, Vn], 27, none⟩]) rfl) (wt_none' rfl) fun _ => ?_
  refine s0 (rd_field' (off := 5) rfl Tryz.underlying27 rfl info24 rfl) ?_
  refine sx_ox' (ox_store' (i := 1) (o := 5) rfl rfl (lv_vl rfl rfl) ⟨rfl, rfl, rfl, rfl⟩ rfl info24 rfl (H' := [⟨.pointer (some wa0), [(Vi r78.1), (Vi r78.2.1), (Sl Kf r78.2.2.1), (Vi r78.2.2.2.1), (Sl (Ki .i64) r78.2.2.2.2)], 115, none⟩, ⟨.pointer (some q3), [(Vi 3), (Vi r70.1), (Vi r15.2.2.2.1), (Sl Kf r73), Vn, Vn, Vn], 27, none⟩, ⟨.pointer (some q2), [(Vi 0), (Vi 0), (Vi 0), Vn, Vn, Vn, Vn], 27, none⟩]) rfl) (wt_none' rfl) fun _ => ?_
  refine nk hK10 ?_
  refine cr fun K11 hK11 => ?_
  refine s0 (rd_load_agg' (i := 1) (o := 0) (nn := 7) rfl ⟨rfl, rfl, rfl, rfl⟩ rfl agg27 (l' := [(Vi 3), (Vi r70.1), (Vi r15.2.2.2.1), (Sl Kf r73), Vn, Vn, Vn]) rfl) ?_
  refine sx_ox' (ox_store' (i := 2) (o := 0) rfl rfl (lv_ag _) ⟨rfl, rfl, rfl, rfl⟩ rfl info27 rfl (H' := [⟨.pointer (some wa0), [(Vi r78.1), (Vi r78.2.1), (Sl Kf r78.2.2.1), (Vi r78.2.2.2.1), (Sl (Ki .i64) r78.2.2.2.2)], 115, none⟩, ⟨.pointer (some q3), [(Vi 3), (Vi r70.1), (Vi r15.2.2.2.1), (Sl Kf r73), Vn, Vn, Vn], 27, none⟩, ⟨.pointer (some q2), [(Vi 3), (Vi r70.1), (Vi r15.2.2.2.1), (Sl Kf r73), Vn, Vn, Vn], 27, none⟩]) rfl) (wt_none' rfl) fun _ => ?_
  refine nk hK11 ?_
  refine cx_retc' ?_
  replace hp := Option.some.inj hp
  subst hp
  refine tx_pick' (L' := [(2, (Vp q2))]) (H' := [⟨.pointer (some wa0), [(Vi r78.1), (Vi r78.2.1), (Sl Kf r78.2.2.1), (Vi r78.2.2.2.1), (Sl (Ki .i64) r78.2.2.2.2)], 115, none⟩, ⟨.pointer (some q2), [(Vi 3), (Vi r70.1), (Vi r15.2.2.2.1), (Sl Kf r73), Vn, Vn, Vn], 27, none⟩]) [0, 2] (sub_cons rfl sub_nil) (by decide) (pick_cons rfl (pick_cons rfl pick_nil)) ?_
  exact tx_ret1' Tryz.results12 rfl () (rv_imp' (x := (Ag [(Vi 3), (Vi r70.1), (Vi r15.2.2.2.1), (Sl Kf r73), Vn, Vn, Vn])) (y := (Ag [(Vi 3), (Vi r70.1), (Vi r15.2.2.2.1), (Sl Kf r73), (Sl (Ki .i64) []), Vn, Vn])) (rv_cell_agg' (i := 1) (o := 0) (nn := 7) rfl ⟨rfl, rfl, rfl, rfl⟩ rfl agg27 rfl) (imp_ag ⟨imp_refl, imp_refl, imp_refl, imp_refl, imp_nil, imp_refl, imp_refl, trivial⟩)) (List.Sublist.cons_cons _ (List.nil_sublist _))
 dsimp only at hp
 refine sx_ox' (ox_calln' (ent_fn' Tryz.func32 isn32 rfl rfl) (impl_ints_sim _ hr76 : Sx.Fn Tryz.prog 32 [(Sl (Ki .i64) r75.2.2.2.2)] [] (fun x : Unit => (Sl (Ki .i64) y1)) (fun x => [])) (Hn := fun x : Unit => [⟨.pointer (some wa0), [(Vi r75.1), (Vi r75.2.1), (Sl Kf r75.2.2.1), (Vi r75.2.2.2.1), (Sl (Ki .i64) r75.2.2.2.2)], 115, none⟩, ⟨.pointer (some q3), [(Vi 3), (Vi 0), (Vi r15.2.2.2.1), Vn, Vn, Vn, Vn], 27, none⟩, ⟨.pointer (some q2), [(Vi 0), (Vi 0), (Vi 0), Vn, Vn, Vn, Vn], 27, none⟩]) (fun _ => rfl) rfl rfl) (wt_none' rfl) fun ⟨⟩ => ?_
 refine s0 (rd_move' rfl) ?_
 obtain ⟨r78, hr78, hp⟩ := bind_some hp
 refine sx_ox' (ox_callg' (ent_inv' rfl rfl (inv_ptr0 (inv44_Endss _))) (gogeom_geom0_Endss_v4_sim _ _ _ _ _ hr78 : Sx.Fn Tryz.prog 98 [(Vp wa0)] [⟨.pointer (some wa0), [(Vi r75.1), (Vi r75.2.1), (Sl Kf r75.2.2.1), (Vi r75.2.2.2.1), (Sl (Ki .i64) r75.2.2.2.2)], 115, none⟩] (fun x : Unit => Vn) (fun x => [⟨.pointer (some wa0), [(Vi r78.1), (Vi r78.2.1), (Sl Kf r78.2.2.1), (Vi r78.2.2.2.1), (Sl (Ki .i64) r78.2.2.2.2)], 115, none⟩])) [0] [1, 2] (by decide) (pick_cons rfl pick_nil) (pick_cons rfl (pick_cons rfl pick_nil)) (Hn := fun x : Unit => [⟨.pointer (some wa0), [(Vi r78.1), (Vi r78.2.1), (Sl Kf r78.2.2.1), (Vi r78.2.2.2.1), (Sl (Ki .i64) r78.2.2.2.2)], 115, none⟩, ⟨.pointer (some q3), [(Vi 3), (Vi 0), (Vi r15.2.2.2.1), Vn, Vn, Vn, Vn], 27, none⟩, ⟨.pointer (some q2), [(Vi 0), (Vi 0), (Vi 0), Vn, Vn, Vn, Vn], 27, none⟩]) (fun _ => rfl) rfl rfl) (wt_none' rfl) fun ⟨⟩ => ?_
 obtain ⟨r79, hr79, hp⟩ := bind_some hp
 refine sx_ox' (ox_calln' (ent_fn' Tryz.func40 isn40 rfl rfl) (impl_intss_v2_sim hr79 : Sx.Fn Tryz.prog 40 [Vn] [] (fun x : Unit => Vn) (fun x => [])) (Hn := fun x : Unit => [⟨.pointer (some wa0), [(Vi r78.1), (Vi r78.2.1), (Sl Kf r78.2.2.1), (Vi r78.2.2.2.1), (Sl (Ki .i64) r78.2.2.2.2)], 115, none⟩, ⟨.pointer (some q3), [(Vi 3), (Vi 0), (Vi r15.2.2.2.1), Vn, Vn, Vn, Vn], 27, none⟩, ⟨.pointer (some q2), [(Vi 0), (Vi 0), (Vi 0), Vn, Vn, Vn, Vn], 27, none⟩]) (fun _ => rfl) rfl rfl) (wt_none' rfl) fun ⟨⟩ => ?_
 refine s0 (rd_field' (off := 1) rfl Tryz.underlying27 rfl info3 rfl) ?_
 refine sx_ox' (ox_store' (i := 1) (o := 1) rfl rfl (lv_vl rfl rfl) ⟨rfl, rfl, rfl, rfl⟩ rfl info3 rfl (H' := [⟨.pointer (some wa0), [(Vi r78.1), (Vi r78.2.1), (Sl Kf r78.2.2.1), (Vi r78.2.2.2.1), (Sl (Ki .i64) r78.2.2.2.2)], 115, none⟩, ⟨.pointer (some q3), [(Vi 3), (Vi r70.1), (Vi r15.2.2.2.1), Vn, Vn, Vn, Vn], 27, none⟩, ⟨.pointer (some q2), [(Vi 0), (Vi 0), (Vi 0), Vn, Vn, Vn, Vn], 27, none⟩]) rfl) (wt_none' rfl) fun _ => ?_
 refine s0 (rd_field' (off := 3) rfl Tryz.underlying27 rfl info22 rfl) ?_
 refine sx_ox' (ox_store' (i := 1) (o := 3) rfl rfl (lv_sl _ _) ⟨rfl, rfl, rfl, rfl⟩ rfl info22 rfl (H' := [⟨.pointer (some wa0), [(Vi r78.1), (Vi r78.2.1), (Sl Kf r78.2.2.1), (Vi r78.2.2.2.1), (Sl (Ki .i64) r78.2.2.2.2)], 115, none⟩, ⟨.pointer (some q3), [(Vi 3), (Vi r70.1), (Vi r15.2.2.2.1), (Sl Kf r73), Vn, Vn, Vn], 27, none⟩, ⟨.pointer (some q2), [(Vi 0), (Vi 0), (Vi 0), Vn, Vn, Vn, Vn], 27, none⟩]) rfl) (wt_none' rfl) fun _ => ?_
 refine s0 (rd_field' (off := 4) rfl Tryz.underlying27 rfl info23 rfl) ?_
 refine sx_ox' (ox_store' (i := 1) (o := 4) rfl rfl (lv_sl _ _) ⟨rfl, rfl, rfl, rfl⟩ rfl info23 rfl (H' := [⟨.pointer (some wa0), [(Vi r78.1), (Vi r78.2.1), (Sl Kf r78.2.2.1), (Vi r78.2.2.2.1), (Sl (Ki .i64) r78.2.2.2.2)], 115, none⟩, ⟨.pointer (some q3), [(Vi 3), (Vi r70.1), (Vi r15.2.2.2.1), (Sl Kf r73), (Sl (Ki .i64) y1), Vn, Vn], 27, none⟩, ⟨.pointer (some q2), [(Vi 0), (Vi 0), (Vi 0), Vn, Vn, Vn, Vn], 27, none⟩]) rfl) (wt_none' rfl) fun _ => ?_
 refine s0 (rd_field' (off := 5) rfl Tryz.underlying27 rfl info24 rfl) ?_
 refine sx_ox' (ox_store' (i := 1) (o := 5) rfl rfl (lv_vl rfl rfl) ⟨rfl, rfl, rfl, rfl⟩ rfl info24 rfl (H' := [⟨.pointer (some wa0), [(Vi r78.1), (Vi r78.2.1), (Sl Kf r78.2.2.1), (Vi r78.2.2.2.1), (Sl (Ki .i64) r78.2.2.2.2)], 115, none⟩, ⟨.pointer (some q3), [(Vi 3), (Vi r70.1), (Vi r15.2.2.2.1), (Sl Kf r73), (Sl (Ki .i64) y1), Vn, Vn], 27, none⟩, ⟨.pointer (some q2), [(Vi 0), (Vi 0), (Vi 0), Vn, Vn, Vn, Vn], 27, none⟩]) rfl) (wt_none' rfl) fun _ => ?_
 refine nk hK10 ?_
 refine cr fun K11 hK11 => ?_
 refine s0 (rd_load_agg' (i := 1) (o := 0) (nn := 7) rfl ⟨rfl, rfl, rfl, rfl⟩ rfl agg27 (l' := [(Vi 3), (Vi r70.1), (Vi r15.2.2.2.1), (Sl Kf r73), (Sl (Ki .i64) y1), Vn, Vn]) rfl) ?_
 refine sx_ox' (ox_store' (i := 2) (o := 0) rfl rfl (lv_ag _) ⟨rfl, rfl, rfl, rfl⟩ rfl info27 rfl (H' := [⟨.pointer (some wa0), [(Vi r78.1), (Vi r78.2.1), (Sl Kf r78.2.2.1), (Vi r78.2.2.2.1), (Sl (Ki .i64) r78.2.2.2.2)], 115, none⟩, ⟨.pointer (some q3), [(Vi 3), (Vi r70.1), (Vi r15.2.2.2.1), (Sl Kf r73), (Sl (Ki .i64) y1), Vn, Vn], 27, none⟩, ⟨.pointer (some q2), [(Vi 3), (Vi r70.1), (Vi r15.2.2.2.1), (Sl Kf r73), (Sl (Ki .i64) y1), Vn, Vn], 27, none⟩]) rfl) (wt_none' rfl) fun _ => ?_
 refine nk hK11 ?_
 refine cx_retc' ?_
 replace hp := Option.some.inj hp
 subst hp
 refine tx_pick' (L' := [(2, (Vp q2))]) (H' := [⟨.pointer (some wa0), [(Vi r78.1), (Vi r78.2.1), (Sl Kf r78.2.2.1), (Vi r78.2.2.2.1), (Sl (Ki .i64) r78.2.2.2.2)], 115, none⟩, ⟨.pointer (some q2), [(Vi 3), (Vi r70.1), (Vi r15.2.2.2.1), (Sl Kf r73), (Sl (Ki .i64) y1), Vn, Vn], 27, none⟩]) [0, 2] (sub_cons rfl sub_nil) (by decide) (pick_cons rfl (pick_cons rfl pick_nil)) ?_
 exact tx_ret1' Tryz.results12 rfl () (rv_cell_agg' (i := 1) (o := 0) (nn := 7) rfl ⟨rfl, rfl, rfl, rfl⟩ rfl agg27 rfl) (List.Sublist.cons_cons _ (List.nil_sublist _))

def gogeom_deriveDeepCopy_11_v5_j1 (k : Nat) (a1_0 : Int) (a1_1 : Int) (a1_3 : Int) (a1_2 : List Nat) (a1_4 : List Int) (x1 : List Nat) : Option (Int × Int × (List Nat) × Int × (List Nat) × (List Int)) :=
 some (a1_0, a1_1, x1, a1_3, a1_2, a1_4)
def gogeom_deriveDeepCopy_11_v5 (k : Nat) (a0_0 : Int) (a0_1 : Int) (a0_3 : Int) (a1_0 : Int) (a1_1 : Int) (a1_2 : List Nat) (a1_3 : Int) (a1_4 : List Int) : Option (Int × Int × (List Nat) × Int × (List Nat) × (List Int)) :=
 (mk 8 0 (a1_2.length : Int) (a1_2.length : Int)) >>= fun r105 =>
 gogeom_deriveDeepCopy_11_v5_j1 k a1_0 a1_1 a1_3 a1_2 a1_4 (cpy r105 a1_2)

theorem gogeom_deriveDeepCopy_11_v5_sim {k : Nat} {wa0 : Addr} {wa1 : Addr} (a0_0 : Int) (a0_1 : Int) (a0_3 : Int) (a1_0 : Int) (a1_1 : Int) (a1_2 : List Nat) (a1_3 : Int) (a1_4 : List Int) {out : Int × Int × (List Nat) × Int × (List Nat) × (List Int)} (hp : gogeom_deriveDeepCopy_11_v5 k a0_0 a0_1 a0_3 a1_0 a1_1 a1_2 a1_3 a1_4 = some out) : Sx.Fn Tryz.prog 74 [(Vp wa0), (Vp wa1)] [⟨.pointer (some wa0), [(Vi a0_0), (Vi a0_1), Vn, (Vi a0_3)], 105, none⟩, ⟨.pointer (some wa1), [(Vi a1_0), (Vi a1_1), (Sl Kf a1_2), (Vi a1_3), (Sl (Ki .i64) a1_4)], 117, none⟩] (fun w : Gs => (Vl (.tuple #[]))) (fun w => [⟨.pointer (some wa0), [(Vi out.1), (Vi out.2.1), (Vl (Vs w)), (Vi out.2.2.2.1)], 105, none⟩, (Rw Kf 95 (Vs w) out.2.2.1), ⟨.pointer (some wa1), [(Vi out.1), (Vi out.2.1), (Sl Kf out.2.2.2.2.1), (Vi out.2.2.2.1), (Sl (Ki .i64) out.2.2.2.2.2)], 117, none⟩]) := by
 unfold gogeom_deriveDeepCopy_11_v5 at hp
 refine fn_of Tryz.func74 rfl Tryz.ntmps74 rfl fun E hM => ?_
 refine cr fun K1 hK1 => ?_
 refine s0 (rd_move' rfl) ?_
 refine s0 (rd_move' rfl) ?_
 refine s0 (rd_nilck' rfl) ?_
 refine s0 (rd_field0' rfl Tryz.underlying105 rfl info54 rfl) ?_
 refine s0 (rd_load' (i := 1) (o := 0) rfl ⟨rfl, rfl, rfl, rfl⟩ rfl flat54) ?_
 refine s0 (rd_nilck' rfl) ?_
 refine s0 (rd_field0' rfl Tryz.underlying105 rfl info54 rfl) ?_
 refine sx_ox' (ox_store' (i := 0) (o := 0) rfl rfl (lv_vl rfl rfl) ⟨rfl, rfl, rfl, rfl⟩ rfl info54 rfl (H' := [⟨.pointer (some wa0), [(Vi a1_0), (Vi a0_1), Vn, (Vi a0_3)], 105, none⟩, ⟨.pointer (some wa1), [(Vi a1_0), (Vi a1_1), (Sl Kf a1_2), (Vi a1_3), (Sl (Ki .i64) a1_4)], 117, none⟩]) rfl) (wt_none' rfl) fun _ => ?_
 refine nk hK1 ?_
 refine cr fun K2 hK2 => ?_
 refine s0 (rd_move' rfl) ?_
 refine s0 (rd_move' rfl) ?_
 refine s0 (rd_nilck' rfl) ?_
 refine s0 (rd_field' (off := 1) rfl Tryz.underlying105 rfl info3 rfl) ?_
 refine s0 (rd_load' (i := 1) (o := 1) rfl ⟨rfl, rfl, rfl, rfl⟩ rfl flat3) ?_
 refine s0 (rd_nilck' rfl) ?_
 refine s0 (rd_field' (off := 1) rfl Tryz.underlying105 rfl info3 rfl) ?_
 refine sx_ox' (ox_store' (i := 0) (o := 1) rfl rfl (lv_vl rfl rfl) ⟨rfl, rfl, rfl, rfl⟩ rfl info3 rfl (H' := [⟨.pointer (some wa0), [(Vi a1_0), (Vi a1_1), Vn, (Vi a0_3)], 105, none⟩, ⟨.pointer (some wa1), [(Vi a1_0), (Vi a1_1), (Sl Kf a1_2), (Vi a1_3), (Sl (Ki .i64) a1_4)], 117, none⟩]) rfl) (wt_none' rfl) fun _ => ?_
 refine nk hK2 ?_
 refine cx_join' (fun (v1 : (List Nat) × Gs) => (⟨124, [], [(0, (Vp wa0)), (1, (Vp wa1))], [⟨.pointer (some wa0), [(Vi a1_0), (Vi a1_1), (Vl (Vs v1.2)), (Vi a0_3)], 105, none⟩, (Rw Kf 95 (Vs v1.2) v1.1), ⟨.pointer (some wa1), [(Vi a1_0), (Vi a1_1), (Sl Kf a1_2), (Vi a1_3), (Sl (Ki .i64) a1_4)], 117, none⟩]⟩ : St)) (fun (v1 : (List Nat) × Gs) => gogeom_deriveDeepCopy_11_v5_j1 k a1_0 a1_1 a1_3 a1_2 a1_4 v1.1 = some out) ?_ ?_
 ·rintro ⟨x1, g901⟩ hp
  replace hp : gogeom_deriveDeepCopy_11_v5_j1 k a1_0 a1_1 a1_3 a1_2 a1_4 x1 = some out := hp
  unfold gogeom_deriveDeepCopy_11_v5_j1 at hp
  refine cx_region' ?_
  refine s0 (rd_move' rfl) ?_
  refine s0 (rd_move' rfl) ?_
  refine s0 (rd_nilck' rfl) ?_
  refine s0 (rd_field' (off := 3) rfl Tryz.underlying105 rfl info3 rfl) ?_
  refine s0 (rd_load' (i := 2) (o := 3) rfl ⟨rfl, rfl, rfl, rfl⟩ rfl flat3) ?_
  refine s0 (rd_nilck' rfl) ?_
  refine s0 (rd_field' (off := 3) rfl Tryz.underlying105 rfl info3 rfl) ?_
  refine sx_ox' (ox_store' (i := 0) (o := 3) rfl rfl (lv_vl rfl rfl) ⟨rfl, rfl, rfl, rfl⟩ rfl info3 rfl (H' := [⟨.pointer (some wa0), [(Vi a1_0), (Vi a1_1), (Vl (Vs g901)), (Vi a1_3)], 105, none⟩, (Rw Kf 95 (Vs g901) x1), ⟨.pointer (some wa1), [(Vi a1_0), (Vi a1_1), (Sl Kf a1_2), (Vi a1_3), (Sl (Ki .i64) a1_4)], 117, none⟩]) rfl) (wt_none' rfl) fun _ => ?_
  refine sx_nil' ?_
  replace hp := Option.some.inj hp
  subst hp
  refine tx_pick' (L' := []) (H' := [⟨.pointer (some wa0), [(Vi a1_0), (Vi a1_1), (Vl (Vs g901)), (Vi a1_3)], 105, none⟩, (Rw Kf 95 (Vs g901) x1), ⟨.pointer (some wa1), [(Vi a1_0), (Vi a1_1), (Sl Kf a1_2), (Vi a1_3), (Sl (Ki .i64) a1_4)], 117, none⟩]) [0, 1, 2] sub_nil (by decide) (pick_cons rfl (pick_cons rfl (pick_cons rfl pick_nil))) ?_
  exact tx_end0' Tryz.results74 rfl g901 rfl (List.Sublist.refl _)
 intro K3 hK3
 refine cr fun K4 hK4 => ?_
 refine s0 (rd_move' rfl) ?_
 refine s0 (rd_nilck' rfl) ?_
 refine s0 (rd_field' (off := 2) rfl Tryz.underlying105 rfl info22 rfl) ?_
 refine s0 (rd_load' (i := 1) (o := 2) rfl ⟨rfl, rfl, rfl, rfl⟩ rfl flat22) ?_
 refine s0 (rd_nilany' rfl rfl (fun _ _ _ => by kernel_rfl) (fun _ _ _ _ => by kernel_rfl) nil_eql22_none nil_eql22_sl) ?_
 refine nk hK4 ?_
 refine tx_anybool' 22 rfl fun b1 hb1 => ?_
 refine cx_cond' rfl (fun h1 => ?_) (fun h1 => ?_)
 ·replace hp : gogeom_deriveDeepCopy_11_v5_j1 k a1_0 a1_1 a1_3 a1_2 a1_4 [] = some out := by
   rw [hb1 h1] at hp
   first | exact hp | (rw [hb1 h1]; exact hp)
  refine cx_region' ?_
  refine s0 (rd_move' rfl) ?_
  refine s0 (rd_nilck' rfl) ?_
  refine s0 (rd_field' (off := 2) rfl Tryz.underlying105 rfl info22 rfl) ?_
  refine tx_nilrow' Kf 95 ?_
  refine sx_ox' (ox_store' (i := 1) (o := 2) rfl rfl (lv_vl rfl rfl) ⟨rfl, rfl, rfl, rfl⟩ rfl info22 rfl (H' := [(Rw Kf 95 (Vs (none, 0, 0)) []), ⟨.pointer (some wa0), [(Vi a1_0), (Vi a1_1), (Vl (Vs (none, 0, 0))), (Vi a0_3)], 105, none⟩, ⟨.pointer (some wa1), [(Vi a1_0), (Vi a1_1), (Sl Kf a1_2), (Vi a1_3), (Sl (Ki .i64) a1_4)], 117, none⟩]) rfl) (wt_none' rfl) fun _ => ?_
  refine sx_nil' ?_
  show TX E K3 _
  exact tx_pick' [1, 0, 2] (sub_cons rfl (sub_cons rfl sub_nil)) (by decide) (pick_cons rfl (pick_cons rfl (pick_cons rfl pick_nil))) (hK3 ([], (none, 0, 0)) hp)
 clear h1
 refine cx_seq' fun K5 hK5 => ?_
 refine cr fun K6 hK6 => ?_
 refine s0 (rd_move' rfl) ?_
 refine s0 (rd_nilck' rfl) ?_
 refine s0 (rd_field' (off := 2) rfl Tryz.underlying105 rfl info22 rfl) ?_
 refine s0 (rd_load' (i := 0) (o := 2) rfl ⟨rfl, rfl, rfl, rfl⟩ rfl flat22) ?_
 refine s0 (rd_binf' rfl rfl (bf_vl (fun _ => by kernel_rfl) nil_neq22_nilsl)) ?_
 refine nk hK6 ?_
 refine cx_cond_f' rfl rfl ?_
 refine cx_region' ?_
 refine s0 (rd_move' rfl) ?_
 refine s0 (rd_move' rfl) ?_
 refine s0 (rd_nilck' rfl) ?_
 refine s0 (rd_field' (off := 2) rfl Tryz.underlying105 rfl info22 rfl) ?_
 refine s0 (rd_load' (i := 1) (o := 2) rfl ⟨rfl, rfl, rfl, rfl⟩ rfl flat22) ?_
 refine s0 (rd_len' rfl Tryz.underlying22) ?_
 obtain ⟨r105, hr105, hp⟩ := bind_some hp
 refine sx_ox' (ox_make' (K := Kf) rfl rfl hr105 rfl Tryz.underlying22 info95 rfl rfl rfl rfl rfl) (wt_none' rfl) fun g105 => ?_
 refine s0 (rd_nilck' rfl) ?_
 refine s0 (rd_field' (off := 2) rfl Tryz.underlying105 rfl info22 rfl) ?_
 refine sx_ox' (ox_store' (i := 1) (o := 2) rfl rfl (lv_vl rfl rfl) ⟨rfl, rfl, rfl, rfl⟩ rfl info22 rfl (H' := [(Rw Kf 95 (Vs g105) r105), ⟨.pointer (some wa0), [(Vi a1_0), (Vi a1_1), (Vl (Vs g105)), (Vi a0_3)], 105, none⟩, ⟨.pointer (some wa1), [(Vi a1_0), (Vi a1_1), (Sl Kf a1_2), (Vi a1_3), (Sl (Ki .i64) a1_4)], 117, none⟩]) rfl) (wt_none' rfl) fun _ => ?_
 refine nk hK5 ?_
 refine cx_plan' [] [(8, 1)] [(0, 1), (1, 1), (2, 1), (3, 1), (4, 1), (5, 1), (6, 1), (7, 1), (8, 0)] mixed (by kernel_rfl) ?_
 refine px_rd' rfl (rd_move' rfl) rfl rfl (wt_none' rfl) ?_
 refine px_rd' rfl (rd_nilck' rfl) rfl rfl (wt_none' rfl) ?_
 refine px_rd' rfl (rd_field' (off := 2) rfl Tryz.underlying105 rfl info22 rfl) rfl rfl (wt_none' rfl) ?_
 refine px_rd' rfl (rd_load' (i := 1) (o := 2) rfl ⟨rfl, rfl, rfl, rfl⟩ rfl flat22) rfl rfl (wt_none' rfl) ?_
 refine px_rd' rfl (rd_move' rfl) rfl rfl (wt_none' rfl) ?_
 refine px_rd' rfl (rd_nilck' rfl) rfl rfl (wt_none' rfl) ?_
 refine px_rd' rfl (rd_field' (off := 2) rfl Tryz.underlying105 rfl info22 rfl) rfl rfl (wt_none' rfl) ?_
 refine px_rd' rfl (rd_load' (i := 2) (o := 2) rfl ⟨rfl, rfl, rfl, rfl⟩ rfl flat22) rfl rfl (wt_none' rfl) ?_
 refine px_ox' rfl (ox_copy' (i := 0) rfl rfl rfl rfl rfl Tryz.underlying22 info95 rfl rfl (H' := [(Rw Kf 95 (Vs g105) (cpy r105 a1_2)), ⟨.pointer (some wa0), [(Vi a1_0), (Vi a1_1), (Vl (Vs g105)), (Vi a0_3)], 105, none⟩, ⟨.pointer (some wa1), [(Vi a1_0), (Vi a1_1), (Sl Kf a1_2), (Vi a1_3), (Sl (Ki .i64) a1_4)], 117, none⟩]) rfl) rfl bs_nil (wt_none' rfl) fun _ => ?_
 refine px_nil' ?_
 show TX E K3 _
 exact tx_pick' [1, 0, 2] (sub_cons rfl (sub_cons rfl sub_nil)) (by decide) (pick_cons rfl (pick_cons rfl (pick_cons rfl pick_nil))) (hK3 ((cpy r105 a1_2), g105) hp)

def gogeom_deriveDeepCopy_8_v4 (k : Nat) (a0_0 : Int) (a0_1 : Int) (a0_3 : Int) (a1_0 : Int) (a1_1 : Int) (a1_2 : List Nat) (a1_3 : Int) (a1_4 : List Int) : Option (Int × Int × (List Nat) × Int × (List Nat) × (List Int)) :=
 (gogeom_deriveDeepCopy_11_v5 k 0 0 0 a1_0 a1_1 a1_2 a1_3 a1_4) >>= fun r10 =>
 some (r10.1, r10.2.1, r10.2.2.1, r10.2.2.2.1, r10.2.2.2.2.1, r10.2.2.2.2.2)

theorem gogeom_deriveDeepCopy_8_v4_sim {k : Nat} {wa0 : Addr} {wa1 : Addr} (a0_0 : Int) (a0_1 : Int) (a0_3 : Int) (a1_0 : Int) (a1_1 : Int) (a1_2 : List Nat) (a1_3 : Int) (a1_4 : List Int) {out : Int × Int × (List Nat) × Int × (List Nat) × (List Int)} (hp : gogeom_deriveDeepCopy_8_v4 k a0_0 a0_1 a0_3 a1_0 a1_1 a1_2 a1_3 a1_4 = some out) : Sx.Fn Tryz.prog 75 [(Vp wa0), (Vp wa1)] [⟨.pointer (some wa0), [(Vi a0_0), (Vi a0_1), Vn, (Vi a0_3)], 108, none⟩, ⟨.pointer (some wa1), [(Vi a1_0), (Vi a1_1), (Sl Kf a1_2), (Vi a1_3), (Sl (Ki .i64) a1_4)], 117, none⟩] (fun w : Gs => (Vl (.tuple #[]))) (fun w => [⟨.pointer (some wa0), [(Vi out.1), (Vi out.2.1), (Vl (Vs w)), (Vi out.2.2.2.1)], 108, none⟩, (Rw Kf 95 (Vs w) out.2.2.1), ⟨.pointer (some wa1), [(Vi out.1), (Vi out.2.1), (Sl Kf out.2.2.2.2.1), (Vi out.2.2.2.1), (Sl (Ki .i64) out.2.2.2.2.2)], 117, none⟩]) := by
 unfold gogeom_deriveDeepCopy_8_v4 at hp
 refine fn_of Tryz.func75 rfl Tryz.ntmps75 rfl fun E hM => ?_
 refine cr fun K1 hK1 => ?_
 refine sx_ox' (ox_alloc' info105 rfl rfl rfl rfl (l := [(Vi 0), (Vi 0), Vn, (Vi 0)]) rfl) (wt_none' rfl) fun q5 => ?_
 refine s0 (rd_assign' rfl) ?_
 refine nk hK1 ?_
 refine cr fun K2 hK2 => ?_
 refine s0 (rd_move' rfl) ?_
 refine s0 (rd_move' rfl) ?_
 refine s0 (rd_nilck' rfl) ?_
 refine s0 (rd_field0' rfl Tryz.underlying108 rfl info105 rfl) ?_
 obtain ⟨r10, hr10, hp⟩ := bind_some hp
 refine sx_ox' (ox_callg' (ent_fn' Tryz.func74 isn74 rfl rfl) (gogeom_deriveDeepCopy_11_v5_sim _ _ _ _ _ _ _ _ hr10 : Sx.Fn Tryz.prog 74 [(Vp q5), (Vp wa1)] [⟨.pointer (some q5), [(Vi 0), (Vi 0), Vn, (Vi 0)], 105, none⟩, ⟨.pointer (some wa1), [(Vi a1_0), (Vi a1_1), (Sl Kf a1_2), (Vi a1_3), (Sl (Ki .i64) a1_4)], 117, none⟩] (fun x : Gs => (Vl (.tuple #[]))) (fun x => [⟨.pointer (some q5), [(Vi r10.1), (Vi r10.2.1), (Vl (Vs x)), (Vi r10.2.2.2.1)], 105, none⟩, (Rw Kf 95 (Vs x) r10.2.2.1), ⟨.pointer (some wa1), [(Vi r10.1), (Vi r10.2.1), (Sl Kf r10.2.2.2.2.1), (Vi r10.2.2.2.1), (Sl (Ki .i64) r10.2.2.2.2.2)], 117, none⟩])) [0, 2] [1] (by decide) (pick_cons rfl (pick_cons rfl pick_nil)) (pick_cons rfl pick_nil) (Hn := fun x : Gs => [⟨.pointer (some q5), [(Vi r10.1), (Vi r10.2.1), (Vl (Vs x)), (Vi r10.2.2.2.1)], 105, none⟩, (Rw Kf 95 (Vs x) r10.2.2.1), ⟨.pointer (some wa1), [(Vi r10.1), (Vi r10.2.1), (Sl Kf r10.2.2.2.2.1), (Vi r10.2.2.2.1), (Sl (Ki .i64) r10.2.2.2.2.2)], 117, none⟩, ⟨.pointer (some wa0), [(Vi a0_0), (Vi a0_1), Vn, (Vi a0_3)], 108, none⟩]) (fun _ => rfl) rfl rfl) (wt_none' rfl) fun g10 => ?_
 refine nk hK2 ?_
 refine cx_region' ?_
 refine s0 (rd_move' rfl) ?_
 refine s0 (rd_move' rfl) ?_
 refine s0 (rd_nilck' rfl) ?_
 refine s0 (rd_load_agg' (i := 0) (o := 0) (nn := 4) rfl ⟨rfl, rfl, rfl, rfl⟩ rfl agg105 (l' := [(Vi r10.1), (Vi r10.2.1), (Vl (Vs g10)), (Vi r10.2.2.2.1)]) rfl) ?_
 refine s0 (rd_nilck' rfl) ?_
 refine s0 (rd_field0' rfl Tryz.underlying108 rfl info105 rfl) ?_
 refine sx_ox' (ox_store' (i := 3) (o := 0) rfl rfl (lv_ag _) ⟨rfl, rfl, rfl, rfl⟩ rfl info105 rfl (H' := [⟨.pointer (some q5), [(Vi r10.1), (Vi r10.2.1), (Vl (Vs g10)), (Vi r10.2.2.2.1)], 105, none⟩, (Rw Kf 95 (Vs g10) r10.2.2.1), ⟨.pointer (some wa1), [(Vi r10.1), (Vi r10.2.1), (Sl Kf r10.2.2.2.2.1), (Vi r10.2.2.2.1), (Sl (Ki .i64) r10.2.2.2.2.2)], 117, none⟩, ⟨.pointer (some wa0), [(Vi r10.1), (Vi r10.2.1), (Vl (Vs g10)), (Vi r10.2.2.2.1)], 108, none⟩]) rfl) (wt_none' rfl) fun _ => ?_
 refine sx_nil' ?_
 replace hp := Option.some.inj hp
 subst hp
 refine tx_pick' (L' := []) (H' := [⟨.pointer (some wa0), [(Vi r10.1), (Vi r10.2.1), (Vl (Vs g10)), (Vi r10.2.2.2.1)], 108, none⟩, (Rw Kf 95 (Vs g10) r10.2.2.1), ⟨.pointer (some wa1), [(Vi r10.1), (Vi r10.2.1), (Sl Kf r10.2.2.2.2.1), (Vi r10.2.2.2.1), (Sl (Ki .i64) r10.2.2.2.2.2)], 117, none⟩]) [3, 1, 2] sub_nil (by decide) (pick_cons rfl (pick_cons rfl (pick_cons rfl pick_nil))) ?_
 exact tx_end0' Tryz.results75 rfl g10 rfl (List.Sublist.refl _)

def gogeom_deriveDeepCopy_9_v2 (k : Nat) (a0_0 : Int) (a0_1 : Int) (a0_3 : Int) (a1_0 : Int) (a1_1 : Int) (a1_2 : List Nat) (a1_3 : Int) (a1_4 : List Int) : Option (Int × Int × (List Nat) × Int × (List Int) × (List Nat) × (List Int)) :=
 (gogeom_deriveDeepCopy_8_v4 k 0 0 0 a1_0 a1_1 a1_2 a1_3 a1_4) >>= fun r10 =>
 (mk 8 0 (r10.2.2.2.2.2.length : Int) (r10.2.2.2.2.2.length : Int)) >>= fun r104 =>
 some (r10.1, r10.2.1, r10.2.2.1, r10.2.2.2.1, cpy r104 r10.2.2.2.2.2, r10.2.2.2.2.1, r10.2.2.2.2.2)

theorem gogeom_deriveDeepCopy_9_v2_sim {k : Nat} {wa0 : Addr} {wa1 : Addr} (a0_0 : Int) (a0_1 : Int) (a0_3 : Int) (a1_0 : Int) (a1_1 : Int) (a1_2 : List Nat) (a1_3 : Int) (a1_4 : List Int) {out : Int × Int × (List Nat) × Int × (List Int) × (List Nat) × (List Int)} (hp : gogeom_deriveDeepCopy_9_v2 k a0_0 a0_1 a0_3 a1_0 a1_1 a1_2 a1_3 a1_4 = some out) : Sx.Fn Tryz.prog 76 [(Vp wa0), (Vp wa1)] [⟨.pointer (some wa0), [(Vi a0_0), (Vi a0_1), Vn, (Vi a0_3), Vn], 113, none⟩, ⟨.pointer (some wa1), [(Vi a1_0), (Vi a1_1), (Sl Kf a1_2), (Vi a1_3), (Sl (Ki .i64) a1_4)], 117, none⟩] (fun w : Gs × Gs => (Vl (.tuple #[]))) (fun w => [⟨.pointer (some wa0), [(Vi out.1), (Vi out.2.1), (Vl (Vs w.1)), (Vi out.2.2.2.1), (Vl (Vs w.2))], 113, none⟩, (Rw Kf 95 (Vs w.1) out.2.2.1), (Rw (Ki .i64) 3 (Vs w.2) out.2.2.2.2.1), ⟨.pointer (some wa1), [(Vi out.1), (Vi out.2.1), (Sl Kf out.2.2.2.2.2.1), (Vi out.2.2.2.1), (Sl (Ki .i64) out.2.2.2.2.2.2)], 117, none⟩]) := by
 unfold gogeom_deriveDeepCopy_9_v2 at hp
 refine fn_of Tryz.func76 rfl Tryz.ntmps76 rfl fun E hM => ?_
 refine cx_seq' fun K1 hK1 => ?_
 refine cr fun K2 hK2 => ?_
 refine sx_ox' (ox_alloc' info108 rfl rfl rfl rfl (l := [(Vi 0), (Vi 0), Vn, (Vi 0)]) rfl) (wt_none' rfl) fun q5 => ?_
 refine s0 (rd_assign' rfl) ?_
 refine nk hK2 ?_
 refine cr fun K3 hK3 => ?_
 refine s0 (rd_move' rfl) ?_
 refine s0 (rd_move' rfl) ?_
 refine s0 (rd_nilck' rfl) ?_
 refine s0 (rd_field0' rfl Tryz.underlying113 rfl info108 rfl) ?_
 obtain ⟨r10, hr10, hp⟩ := bind_some hp
 refine sx_ox' (ox_callg' (ent_fn' Tryz.func75 isn75 rfl rfl) (gogeom_deriveDeepCopy_8_v4_sim _ _ _ _ _ _ _ _ hr10 : Sx.Fn Tryz.prog 75 [(Vp q5), (Vp wa1)] [⟨.pointer (some q5), [(Vi 0), (Vi 0), Vn, (Vi 0)], 108, none⟩, ⟨.pointer (some wa1), [(Vi a1_0), (Vi a1_1), (Sl Kf a1_2), (Vi a1_3), (Sl (Ki .i64) a1_4)], 117, none⟩] (fun x : Gs => (Vl (.tuple #[]))) (fun x => [⟨.pointer (some q5), [(Vi r10.1), (Vi r10.2.1), (Vl (Vs x)), (Vi r10.2.2.2.1)], 108, none⟩, (Rw Kf 95 (Vs x) r10.2.2.1), ⟨.pointer (some wa1), [(Vi r10.1), (Vi r10.2.1), (Sl Kf r10.2.2.2.2.1), (Vi r10.2.2.2.1), (Sl (Ki .i64) r10.2.2.2.2.2)], 117, none⟩])) [0, 2] [1] (by decide) (pick_cons rfl (pick_cons rfl pick_nil)) (pick_cons rfl pick_nil) (Hn := fun x : Gs => [⟨.pointer (some q5), [(Vi r10.1), (Vi r10.2.1), (Vl (Vs x)), (Vi r10.2.2.2.1)], 108, none⟩, (Rw Kf 95 (Vs x) r10.2.2.1), ⟨.pointer (some wa1), [(Vi r10.1), (Vi r10.2.1), (Sl Kf r10.2.2.2.2.1), (Vi r10.2.2.2.1), (Sl (Ki .i64) r10.2.2.2.2.2)], 117, none⟩, ⟨.pointer (some wa0), [(Vi a0_0), (Vi a0_1), Vn, (Vi a0_3), Vn], 113, none⟩]) (fun _ => rfl) rfl rfl) (wt_none' rfl) fun g10 => ?_
 refine nk hK3 ?_
 refine cx_region' ?_
 refine s0 (rd_move' rfl) ?_
 refine s0 (rd_move' rfl) ?_
 refine s0 (rd_nilck' rfl) ?_
 refine s0 (rd_load_agg' (i := 0) (o := 0) (nn := 4) rfl ⟨rfl, rfl, rfl, rfl⟩ rfl agg108 (l' := [(Vi r10.1), (Vi r10.2.1), (Vl (Vs g10)), (Vi r10.2.2.2.1)]) rfl) ?_
 refine s0 (rd_nilck' rfl) ?_
 refine s0 (rd_field0' rfl Tryz.underlying113 rfl info108 rfl) ?_
 refine sx_ox' (ox_store' (i := 3) (o := 0) rfl rfl (lv_ag _) ⟨rfl, rfl, rfl, rfl⟩ rfl info108 rfl (H' := [⟨.pointer (some q5), [(Vi r10.1), (Vi r10.2.1), (Vl (Vs g10)), (Vi r10.2.2.2.1)], 108, none⟩, (Rw Kf 95 (Vs g10) r10.2.2.1), ⟨.pointer (some wa1), [(Vi r10.1), (Vi r10.2.1), (Sl Kf r10.2.2.2.2.1), (Vi r10.2.2.2.1), (Sl (Ki .i64) r10.2.2.2.2.2)], 117, none⟩, ⟨.pointer (some wa0), [(Vi r10.1), (Vi r10.2.1), (Vl (Vs g10)), (Vi r10.2.2.2.1), Vn], 113, none⟩]) rfl) (wt_none' rfl) fun _ => ?_
 refine nk hK1 ?_
 refine cr fun K4 hK4 => ?_
 refine s0 (rd_move' rfl) ?_
 refine s0 (rd_nilck' rfl) ?_
 refine s0 (rd_field' (off := 4) rfl Tryz.underlying113 rfl info23 rfl) ?_
 refine s0 (rd_load' (i := 2) (o := 4) rfl ⟨rfl, rfl, rfl, rfl⟩ rfl flat23) ?_
 refine s0 (rd_nilany' rfl rfl (fun _ _ _ => by kernel_rfl) (fun _ _ _ _ => by kernel_rfl) nil_eql23_none nil_eql23_sl) ?_
 refine nk hK4 ?_
 refine tx_anybool' 21 rfl fun b1 hb1 => ?_
 refine cx_cond' rfl (fun h1 => ?_) (fun h1 => ?_)
 ·replace hp : some (r10.1, r10.2.1, r10.2.2.1, r10.2.2.2.1, [], r10.2.2.2.2.1, r10.2.2.2.2.2) = some out := by
   rw [hb1 h1] at hp
   first | exact hp | (rw [hb1 h1]; exact hp)
  refine cx_region' ?_
  refine s0 (rd_move' rfl) ?_
  refine s0 (rd_nilck' rfl) ?_
  refine s0 (rd_field' (off := 4) rfl Tryz.underlying113 rfl info23 rfl) ?_
  refine tx_nilrow' (Ki .i64) 3 ?_
  refine sx_ox' (ox_store' (i := 4) (o := 4) rfl rfl (lv_vl rfl rfl) ⟨rfl, rfl, rfl, rfl⟩ rfl info23 rfl (H' := [(Rw (Ki .i64) 3 (Vs (none, 0, 0)) []), ⟨.pointer (some q5), [(Vi r10.1), (Vi r10.2.1), (Vl (Vs g10)), (Vi r10.2.2.2.1)], 108, none⟩, (Rw Kf 95 (Vs g10) r10.2.2.1), ⟨.pointer (some wa1), [(Vi r10.1), (Vi r10.2.1), (Sl Kf r10.2.2.2.2.1), (Vi r10.2.2.2.1), (Sl (Ki .i64) r10.2.2.2.2.2)], 117, none⟩, ⟨.pointer (some wa0), [(Vi r10.1), (Vi r10.2.1), (Vl (Vs g10)), (Vi r10.2.2.2.1), (Vl (Vs (none, 0, 0)))], 113, none⟩]) rfl) (wt_none' rfl) fun _ => ?_
  refine sx_nil' ?_
  replace hp := Option.some.inj hp
  subst hp
  refine tx_pick' (L' := []) (H' := [⟨.pointer (some wa0), [(Vi r10.1), (Vi r10.2.1), (Vl (Vs g10)), (Vi r10.2.2.2.1), (Vl (Vs (none, 0, 0)))], 113, none⟩, (Rw Kf 95 (Vs g10) r10.2.2.1), (Rw (Ki .i64) 3 (Vs (none, 0, 0)) []), ⟨.pointer (some wa1), [(Vi r10.1), (Vi r10.2.1), (Sl Kf r10.2.2.2.2.1), (Vi r10.2.2.2.1), (Sl (Ki .i64) r10.2.2.2.2.2)], 117, none⟩]) [4, 2, 0, 3] sub_nil (by decide) (pick_cons rfl (pick_cons rfl (pick_cons rfl (pick_cons rfl pick_nil)))) ?_
  exact tx_end0' Tryz.results76 rfl (g10, (none, 0, 0)) rfl (List.Sublist.refl _)
 clear h1
 refine cx_seq' fun K5 hK5 => ?_
 refine cr fun K6 hK6 => ?_
 refine s0 (rd_move' rfl) ?_
 refine s0 (rd_nilck' rfl) ?_
 refine s0 (rd_field' (off := 4) rfl Tryz.underlying113 rfl info23 rfl) ?_
 refine s0 (rd_load' (i := 3) (o := 4) rfl ⟨rfl, rfl, rfl, rfl⟩ rfl flat23) ?_
 refine s0 (rd_binf' rfl rfl (bf_vl (fun _ => by kernel_rfl) nil_neq23_nilsl)) ?_
 refine nk hK6 ?_
 refine cx_cond_f' rfl rfl ?_
 refine cx_region' ?_
 refine s0 (rd_move' rfl) ?_
 refine s0 (rd_move' rfl) ?_
 refine s0 (rd_nilck' rfl) ?_
 refine s0 (rd_field' (off := 4) rfl Tryz.underlying113 rfl info23 rfl) ?_
 refine s0 (rd_load' (i := 2) (o := 4) rfl ⟨rfl, rfl, rfl, rfl⟩ rfl flat23) ?_
 refine s0 (rd_len' rfl Tryz.underlying23) ?_
 obtain ⟨r104, hr104, hp⟩ := bind_some hp
 refine sx_ox' (ox_make' (K := (Ki .i64)) rfl rfl hr104 rfl Tryz.underlying23 info3 rfl rfl rfl rfl rfl) (wt_none' rfl) fun g104 => ?_
 refine s0 (rd_nilck' rfl) ?_
 refine s0 (rd_field' (off := 4) rfl Tryz.underlying113 rfl info23 rfl) ?_
 refine sx_ox' (ox_store' (i := 4) (o := 4) rfl rfl (lv_vl rfl rfl) ⟨rfl, rfl, rfl, rfl⟩ rfl info23 rfl (H' := [(Rw (Ki .i64) 3 (Vs g104) r104), ⟨.pointer (some q5), [(Vi r10.1), (Vi r10.2.1), (Vl (Vs g10)), (Vi r10.2.2.2.1)], 108, none⟩, (Rw Kf 95 (Vs g10) r10.2.2.1), ⟨.pointer (some wa1), [(Vi r10.1), (Vi r10.2.1), (Sl Kf r10.2.2.2.2.1), (Vi r10.2.2.2.1), (Sl (Ki .i64) r10.2.2.2.2.2)], 117, none⟩, ⟨.pointer (some wa0), [(Vi r10.1), (Vi r10.2.1), (Vl (Vs g10)), (Vi r10.2.2.2.1), (Vl (Vs g104))], 113, none⟩]) rfl) (wt_none' rfl) fun _ => ?_
 refine nk hK5 ?_
 refine cx_plan' [] [(8, 1)] [(0, 1), (1, 1), (2, 1), (3, 1), (4, 1), (5, 1), (6, 1), (7, 1), (8, 0)] mixed (by kernel_rfl) ?_
 refine px_rd' rfl (rd_move' rfl) rfl rfl (wt_none' rfl) ?_
 refine px_rd' rfl (rd_nilck' rfl) rfl rfl (wt_none' rfl) ?_
 refine px_rd' rfl (rd_field' (off := 4) rfl Tryz.underlying113 rfl info23 rfl) rfl rfl (wt_none' rfl) ?_
 refine px_rd' rfl (rd_load' (i := 4) (o := 4) rfl ⟨rfl, rfl, rfl, rfl⟩ rfl flat23) rfl rfl (wt_none' rfl) ?_
 refine px_rd' rfl (rd_move' rfl) rfl rfl (wt_none' rfl) ?_
 refine px_rd' rfl (rd_nilck' rfl) rfl rfl (wt_none' rfl) ?_
 refine px_rd' rfl (rd_field' (off := 4) rfl Tryz.underlying113 rfl info23 rfl) rfl rfl (wt_none' rfl) ?_
 refine px_rd' rfl (rd_load' (i := 3) (o := 4) rfl ⟨rfl, rfl, rfl, rfl⟩ rfl flat23) rfl rfl (wt_none' rfl) ?_
 refine px_ox' rfl (ox_copy' (i := 0) rfl rfl rfl rfl rfl Tryz.underlying23 info3 rfl rfl (H' := [(Rw (Ki .i64) 3 (Vs g104) (cpy r104 r10.2.2.2.2.2)), ⟨.pointer (some q5), [(Vi r10.1), (Vi r10.2.1), (Vl (Vs g10)), (Vi r10.2.2.2.1)], 108, none⟩, (Rw Kf 95 (Vs g10) r10.2.2.1), ⟨.pointer (some wa1), [(Vi r10.1), (Vi r10.2.1), (Sl Kf r10.2.2.2.2.1), (Vi r10.2.2.2.1), (Sl (Ki .i64) r10.2.2.2.2.2)], 117, none⟩, ⟨.pointer (some wa0), [(Vi r10.1), (Vi r10.2.1), (Vl (Vs g10)), (Vi r10.2.2.2.1), (Vl (Vs g104))], 113, none⟩]) rfl) rfl bs_nil (wt_none' rfl) fun _ => ?_
 refine px_nil' ?_
 replace hp := Option.some.inj hp
 subst hp
 refine tx_pick' (L' := []) (H' := [⟨.pointer (some wa0), [(Vi r10.1), (Vi r10.2.1), (Vl (Vs g10)), (Vi r10.2.2.2.1), (Vl (Vs g104))], 113, none⟩, (Rw Kf 95 (Vs g10) r10.2.2.1), (Rw (Ki .i64) 3 (Vs g104) (cpy r104 r10.2.2.2.2.2)), ⟨.pointer (some wa1), [(Vi r10.1), (Vi r10.2.1), (Sl Kf r10.2.2.2.2.1), (Vi r10.2.2.2.1), (Sl (Ki .i64) r10.2.2.2.2.2)], 117, none⟩]) [4, 2, 0, 3] sub_nil (by decide) (pick_cons rfl (pick_cons rfl (pick_cons rfl (pick_cons rfl pick_nil)))) ?_
 exact tx_end0' Tryz.results76 rfl (g10, g104) rfl (List.Sublist.refl _)

def gogeom_deriveDeepCopy_4 (k : Nat) (a0_0 : Int) (a0_1 : Int) (a0_3 : Int) (a1_0 : Int) (a1_1 : Int) (a1_2 : List Nat) (a1_3 : Int) (a1_4 : List Int) : Option (Int × Int × (List Nat) × Int × (List Int) × (List Nat) × (List Int)) :=
 (gogeom_deriveDeepCopy_9_v2 k 0 0 0 a1_0 a1_1 a1_2 a1_3 a1_4) >>= fun r10 =>
 some (r10.1, r10.2.1, r10.2.2.1, r10.2.2.2.1, r10.2.2.2.2.1, r10.2.2.2.2.2.1, r10.2.2.2.2.2.2)

theorem gogeom_deriveDeepCopy_4_sim {k : Nat} {wa0 : Addr} {wa1 : Addr} (a0_0 : Int) (a0_1 : Int) (a0_3 : Int) (a1_0 : Int) (a1_1 : Int) (a1_2 : List Nat) (a1_3 : Int) (a1_4 : List Int) {out : Int × Int × (List Nat) × Int × (List Int) × (List Nat) × (List Int)} (hp : gogeom_deriveDeepCopy_4 k a0_0 a0_1 a0_3 a1_0 a1_1 a1_2 a1_3 a1_4 = some out) : Sx.Fn Tryz.prog 69 [(Vp wa0), (Vp wa1)] [⟨.pointer (some wa0), [(Vi a0_0), (Vi a0_1), Vn, (Vi a0_3), Vn], 117, none⟩, ⟨.pointer (some wa1), [(Vi a1_0), (Vi a1_1), (Sl Kf a1_2), (Vi a1_3), (Sl (Ki .i64) a1_4)], 117, none⟩] (fun w : Gs × Gs => (Vl (.tuple #[]))) (fun w => [⟨.pointer (some wa0), [(Vi out.1), (Vi out.2.1), (Vl (Vs w.1)), (Vi out.2.2.2.1), (Vl (Vs w.2))], 117, none⟩, (Rw Kf 95 (Vs w.1) out.2.2.1), (Rw (Ki .i64) 3 (Vs w.2) out.2.2.2.2.1), ⟨.pointer (some wa1), [(Vi out.1), (Vi out.2.1), (Sl Kf out.2.2.2.2.2.1), (Vi out.2.2.2.1), (Sl (Ki .i64) out.2.2.2.2.2.2)], 117, none⟩]) := by
 unfold gogeom_deriveDeepCopy_4 at hp
 refine fn_of Tryz.func69 rfl Tryz.ntmps69 rfl fun E hM => ?_
 refine cr fun K1 hK1 => ?_
 refine sx_ox' (ox_alloc' info113 rfl rfl rfl rfl (l := [(Vi 0), (Vi 0), Vn, (Vi 0), Vn]) rfl) (wt_none' rfl) fun q5 => ?_
 refine s0 (rd_assign' rfl) ?_
 refine nk hK1 ?_
 refine cr fun K2 hK2 => ?_
 refine s0 (rd_move' rfl) ?_
 refine s0 (rd_move' rfl) ?_
 refine s0 (rd_nilck' rfl) ?_
 refine s0 (rd_field0' rfl Tryz.underlying117 rfl info113 rfl) ?_
 obtain ⟨r10, hr10, hp⟩ := bind_some hp
 refine sx_ox' (ox_callg' (ent_fn' Tryz.func76 isn76 rfl rfl) (gogeom_deriveDeepCopy_9_v2_sim _ _ _ _ _ _ _ _ hr10 : Sx.Fn Tryz.prog 76 [(Vp q5), (Vp wa1)] [⟨.pointer (some q5), [(Vi 0), (Vi 0), Vn, (Vi 0), Vn], 113, none⟩, ⟨.pointer (some wa1), [(Vi a1_0), (Vi a1_1), (Sl Kf a1_2), (Vi a1_3), (Sl (Ki .i64) a1_4)], 117, none⟩] (fun x : Gs × Gs => (Vl (.tuple #[]))) (fun x => [⟨.pointer (some q5), [(Vi r10.1), (Vi r10.2.1), (Vl (Vs x.1)), (Vi r10.2.2.2.1), (Vl (Vs x.2))], 113, none⟩, (Rw Kf 95 (Vs x.1) r10.2.2.1), (Rw (Ki .i64) 3 (Vs x.2) r10.2.2.2.2.1), ⟨.pointer (some wa1), [(Vi r10.1), (Vi r10.2.1), (Sl Kf r10.2.2.2.2.2.1), (Vi r10.2.2.2.1), (Sl (Ki .i64) r10.2.2.2.2.2.2)], 117, none⟩])) [0, 2] [1] (by decide) (pick_cons rfl (pick_cons rfl pick_nil)) (pick_cons rfl pick_nil) (Hn := fun x : Gs × Gs => [⟨.pointer (some q5), [(Vi r10.1), (Vi r10.2.1), (Vl (Vs x.1)), (Vi r10.2.2.2.1), (Vl (Vs x.2))], 113, none⟩, (Rw Kf 95 (Vs x.1) r10.2.2.1), (Rw (Ki .i64) 3 (Vs x.2) r10.2.2.2.2.1), ⟨.pointer (some wa1), [(Vi r10.1), (Vi r10.2.1), (Sl Kf r10.2.2.2.2.2.1), (Vi r10.2.2.2.1), (Sl (Ki .i64) r10.2.2.2.2.2.2)], 117, none⟩, ⟨.pointer (some wa0), [(Vi a0_0), (Vi a0_1), Vn, (Vi a0_3), Vn], 117, none⟩]) (fun _ => rfl) rfl rfl) (wt_none' rfl) fun ⟨g10, gz1⟩ => ?_
 refine nk hK2 ?_
 refine cx_region' ?_
 refine s0 (rd_move' rfl) ?_
 refine s0 (rd_move' rfl) ?_
 refine s0 (rd_nilck' rfl) ?_
 refine s0 (rd_load_agg' (i := 0) (o := 0) (nn := 5) rfl ⟨rfl, rfl, rfl, rfl⟩ rfl agg113 (l' := [(Vi r10.1), (Vi r10.2.1), (Vl (Vs g10)), (Vi r10.2.2.2.1), (Vl (Vs gz1))]) rfl) ?_
 refine s0 (rd_nilck' rfl) ?_
 refine s0 (rd_field0' rfl Tryz.underlying117 rfl info113 rfl) ?_
 refine sx_ox' (ox_store' (i := 4) (o := 0) rfl rfl (lv_ag _) ⟨rfl, rfl, rfl, rfl⟩ rfl info113 rfl (H' := [⟨.pointer (some q5), [(Vi r10.1), (Vi r10.2.1), (Vl (Vs g10)), (Vi r10.2.2.2.1), (Vl (Vs gz1))], 113, none⟩, (Rw Kf 95 (Vs g10) r10.2.2.1), (Rw (Ki .i64) 3 (Vs gz1) r10.2.2.2.2.1), ⟨.pointer (some wa1), [(Vi r10.1), (Vi r10.2.1), (Sl Kf r10.2.2.2.2.2.1), (Vi r10.2.2.2.1), (Sl (Ki .i64) r10.2.2.2.2.2.2)], 117, none⟩, ⟨.pointer (some wa0), [(Vi r10.1), (Vi r10.2.1), (Vl (Vs g10)), (Vi r10.2.2.2.1), (Vl (Vs gz1))], 117, none⟩]) rfl) (wt_none' rfl) fun _ => ?_
 refine sx_nil' ?_
 replace hp := Option.some.inj hp
 subst hp
 refine tx_pick' (L' := []) (H' := [⟨.pointer (some wa0), [(Vi r10.1), (Vi r10.2.1), (Vl (Vs g10)), (Vi r10.2.2.2.1), (Vl (Vs gz1))], 117, none⟩, (Rw Kf 95 (Vs g10) r10.2.2.1), (Rw (Ki .i64) 3 (Vs gz1) r10.2.2.2.2.1), ⟨.pointer (some wa1), [(Vi r10.1), (Vi r10.2.1), (Sl Kf r10.2.2.2.2.2.1), (Vi r10.2.2.2.1), (Sl (Ki .i64) r10.2.2.2.2.2.2)], 117, none⟩]) [4, 1, 2, 3] sub_nil (by decide) (pick_cons rfl (pick_cons rfl (pick_cons rfl (pick_cons rfl pick_nil)))) ?_
 exact tx_end0' Tryz.results69 rfl (g10, gz1) rfl (List.Sublist.refl _)

def gogeom_deriveCloneMultiPoint (k : Nat) (a0_0 : Int) (a0_1 : Int) (a0_2 : List Nat) (a0_3 : Int) (a0_4 : List Int) : Option (Int × Int × (List Nat) × Int × (List Int) × (List Nat) × (List Int)) :=
 (gogeom_deriveDeepCopy_4 k 0 0 0 a0_0 a0_1 a0_2 a0_3 a0_4) >>= fun r9 =>
 some (r9.1, r9.2.1, r9.2.2.2.2.2.1, r9.2.2.2.1, r9.2.2.2.2.2.2, r9.2.2.1, r9.2.2.2.2.1)

theorem gogeom_deriveCloneMultiPoint_sim {k : Nat} {wa0 : Addr} (a0_0 : Int) (a0_1 : Int) (a0_2 : List Nat) (a0_3 : Int) (a0_4 : List Int) {out : Int × Int × (List Nat) × Int × (List Int) × (List Nat) × (List Int)} (hp : gogeom_deriveCloneMultiPoint k a0_0 a0_1 a0_2 a0_3 a0_4 = some out) : Sx.Fn Tryz.prog 52 [(Vp wa0)] [⟨.pointer (some wa0), [(Vi a0_0), (Vi a0_1), (Sl Kf a0_2), (Vi a0_3), (Sl (Ki .i64) a0_4)], 117, none⟩] (fun w : Addr × Gs × Gs => (Vp w.1)) (fun w => [⟨.pointer (some wa0), [(Vi out.1), (Vi out.2.1), (Sl Kf out.2.2.1), (Vi out.2.2.2.1), (Sl (Ki .i64) out.2.2.2.2.1)], 117, none⟩, ⟨.pointer (some w.1), [(Vi out.1), (Vi out.2.1), (Vl (Vs w.2.1)), (Vi out.2.2.2.1), (Vl (Vs w.2.2))], 117, none⟩, (Rw Kf 95 (Vs w.2.1) out.2.2.2.2.2.1), (Rw (Ki .i64) 3 (Vs w.2.2) out.2.2.2.2.2.2)]) := by
 unfold gogeom_deriveCloneMultiPoint at hp
 refine fn_of Tryz.func52 rfl Tryz.ntmps52 rfl fun E hM => ?_
 refine cr fun K1 hK1 => ?_
 refine s0 (rd_assign' rfl) ?_
 refine nk hK1 ?_
 refine cx_seq' fun K2 hK2 => ?_
 refine cr fun K3 hK3 => ?_
 refine s0 (rd_move' rfl) ?_
 refine s0 (rd_binf' rfl rfl (bf_vl (fun _ => by kernel_rfl) (nil_eql46_ptr _))) ?_
 refine nk hK3 ?_
 refine cx_cond_f' rfl rfl ?_
 refine cx_skip' ?_
 show TX E K2 _
 refine tx_k' hK2 ?_
 refine cr fun K4 hK4 => ?_
 refine sx_ox' (ox_alloc' info117 rfl rfl rfl rfl (l := [(Vi 0), (Vi 0), Vn, (Vi 0), Vn]) rfl) (wt_none' rfl) fun q6 => ?_
 refine s0 (rd_assign' rfl) ?_
 refine nk hK4 ?_
 refine cr fun K5 hK5 => ?_
 refine s0 (rd_move' rfl) ?_
 refine s0 (rd_move' rfl) ?_
 obtain ⟨r9, hr9, hp⟩ := bind_some hp
 refine sx_ox' (ox_callg' (ent_fn' Tryz.func69 isn69 rfl rfl) (gogeom_deriveDeepCopy_4_sim _ _ _ _ _ _ _ _ hr9 : Sx.Fn Tryz.prog 69 [(Vp q6), (Vp wa0)] [⟨.pointer (some q6), [(Vi 0), (Vi 0), Vn, (Vi 0), Vn], 117, none⟩, ⟨.pointer (some wa0), [(Vi a0_0), (Vi a0_1), (Sl Kf a0_2), (Vi a0_3), (Sl (Ki .i64) a0_4)], 117, none⟩] (fun x : Gs × Gs => (Vl (.tuple #[]))) (fun x => [⟨.pointer (some q6), [(Vi r9.1), (Vi r9.2.1), (Vl (Vs x.1)), (Vi r9.2.2.2.1), (Vl (Vs x.2))], 117, none⟩, (Rw Kf 95 (Vs x.1) r9.2.2.1), (Rw (Ki .i64) 3 (Vs x.2) r9.2.2.2.2.1), ⟨.pointer (some wa0), [(Vi r9.1), (Vi r9.2.1), (Sl Kf r9.2.2.2.2.2.1), (Vi r9.2.2.2.1), (Sl (Ki .i64) r9.2.2.2.2.2.2)], 117, none⟩])) [0, 1] [] (by decide) (pick_cons rfl (pick_cons rfl pick_nil)) pick_nil (Hn := fun x : Gs × Gs => [⟨.pointer (some q6), [(Vi r9.1), (Vi r9.2.1), (Vl (Vs x.1)), (Vi r9.2.2.2.1), (Vl (Vs x.2))], 117, none⟩, (Rw Kf 95 (Vs x.1) r9.2.2.1), (Rw (Ki .i64) 3 (Vs x.2) r9.2.2.2.2.1), ⟨.pointer (some wa0), [(Vi r9.1), (Vi r9.2.1), (Sl Kf r9.2.2.2.2.2.1), (Vi r9.2.2.2.1), (Sl (Ki .i64) r9.2.2.2.2.2.2)], 117, none⟩]) (fun _ => rfl) rfl rfl) (wt_none' rfl) fun ⟨g9, gz1⟩ => ?_
 refine nk hK5 ?_
 refine cr fun K6 hK6 => ?_
 refine s0 (rd_move' rfl) ?_
 refine s0 (rd_assign' rfl) ?_
 refine nk hK6 ?_
 refine cx_retc' ?_
 replace hp := Option.some.inj hp
 subst hp
 refine tx_pick' (L' := [(2, (Vp q6))]) (H' := [⟨.pointer (some wa0), [(Vi r9.1), (Vi r9.2.1), (Sl Kf r9.2.2.2.2.2.1), (Vi r9.2.2.2.1), (Sl (Ki .i64) r9.2.2.2.2.2.2)], 117, none⟩, ⟨.pointer (some q6), [(Vi r9.1), (Vi r9.2.1), (Vl (Vs g9)), (Vi r9.2.2.2.1), (Vl (Vs gz1))], 117, none⟩, (Rw Kf 95 (Vs g9) r9.2.2.1), (Rw (Ki .i64) 3 (Vs gz1) r9.2.2.2.2.1)]) [3, 0, 1, 2] (sub_cons rfl sub_nil) (by decide) (pick_cons rfl (pick_cons rfl (pick_cons rfl (pick_cons rfl pick_nil)))) ?_
 exact tx_ret1' Tryz.results52 rfl (q6, g9, gz1) (rv_tmp' rfl) (List.Sublist.refl _)

def gogeom_MultiPoint_Clone (k : Nat) (a0_0 : Int) (a0_1 : Int) (a0_2 : List Nat) (a0_3 : Int) (a0_4 : List Int) : Option (Int × Int × (List Nat) × Int × (List Int) × (List Nat) × (List Int)) :=
 (gogeom_deriveCloneMultiPoint k a0_0 a0_1 a0_2 a0_3 a0_4) >>= fun r4 =>
 some (r4.1, r4.2.1, r4.2.2.1, r4.2.2.2.1, r4.2.2.2.2.1, r4.2.2.2.2.2.1, r4.2.2.2.2.2.2)

theorem gogeom_MultiPoint_Clone_sim {k : Nat} {wa0 : Addr} (a0_0 : Int) (a0_1 : Int) (a0_2 : List Nat) (a0_3 : Int) (a0_4 : List Int) {out : Int × Int × (List Nat) × Int × (List Int) × (List Nat) × (List Int)} (hp : gogeom_MultiPoint_Clone k a0_0 a0_1 a0_2 a0_3 a0_4 = some out) : Sx.Fn Tryz.prog 17 [(Vp wa0)] [⟨.pointer (some wa0), [(Vi a0_0), (Vi a0_1), (Sl Kf a0_2), (Vi a0_3), (Sl (Ki .i64) a0_4)], 117, none⟩] (fun w : Addr × Gs × Gs => (Vp w.1)) (fun w => [⟨.pointer (some wa0), [(Vi out.1), (Vi out.2.1), (Sl Kf out.2.2.1), (Vi out.2.2.2.1), (Sl (Ki .i64) out.2.2.2.2.1)], 117, none⟩, ⟨.pointer (some w.1), [(Vi out.1), (Vi out.2.1), (Vl (Vs w.2.1)), (Vi out.2.2.2.1), (Vl (Vs w.2.2))], 117, none⟩, (Rw Kf 95 (Vs w.2.1) out.2.2.2.2.2.1), (Rw (Ki .i64) 3 (Vs w.2.2) out.2.2.2.2.2.2)]) := by
 unfold gogeom_MultiPoint_Clone at hp
 refine fn_of Tryz.func17 rfl Tryz.ntmps17 rfl fun E hM => ?_
 refine cr fun K1 hK1 => ?_
 refine s0 (rd_assign' rfl) ?_
 refine nk hK1 ?_
 refine cr fun K2 hK2 => ?_
 refine s0 (rd_move' rfl) ?_
 obtain ⟨r4, hr4, hp⟩ := bind_some hp
 refine sx_ox' (ox_callg' (ent_fn' Tryz.func52 isn52 rfl rfl) (gogeom_deriveCloneMultiPoint_sim _ _ _ _ _ hr4 : Sx.Fn Tryz.prog 52 [(Vp wa0)] [⟨.pointer (some wa0), [(Vi a0_0), (Vi a0_1), (Sl Kf a0_2), (Vi a0_3), (Sl (Ki .i64) a0_4)], 117, none⟩] (fun x : Addr × Gs × Gs => (Vp x.1)) (fun x => [⟨.pointer (some wa0), [(Vi r4.1), (Vi r4.2.1), (Sl Kf r4.2.2.1), (Vi r4.2.2.2.1), (Sl (Ki .i64) r4.2.2.2.2.1)], 117, none⟩, ⟨.pointer (some x.1), [(Vi r4.1), (Vi r4.2.1), (Vl (Vs x.2.1)), (Vi r4.2.2.2.1), (Vl (Vs x.2.2))], 117, none⟩, (Rw Kf 95 (Vs x.2.1) r4.2.2.2.2.2.1), (Rw (Ki .i64) 3 (Vs x.2.2) r4.2.2.2.2.2.2)])) [0] [] (by decide) (pick_cons rfl pick_nil) pick_nil (Hn := fun x : Addr × Gs × Gs => [⟨.pointer (some wa0), [(Vi r4.1), (Vi r4.2.1), (Sl Kf r4.2.2.1), (Vi r4.2.2.2.1), (Sl (Ki .i64) r4.2.2.2.2.1)], 117, none⟩, ⟨.pointer (some x.1), [(Vi r4.1), (Vi r4.2.1), (Vl (Vs x.2.1)), (Vi r4.2.2.2.1), (Vl (Vs x.2.2))], 117, none⟩, (Rw Kf 95 (Vs x.2.1) r4.2.2.2.2.2.1), (Rw (Ki .i64) 3 (Vs x.2.2) r4.2.2.2.2.2.2)]) (fun _ => rfl) rfl rfl) (wt_none' rfl) fun ⟨q4, g4, gz1⟩ => ?_
 refine s0 (rd_assign' rfl) ?_
 refine nk hK2 ?_
 refine cx_retc' ?_
 replace hp := Option.some.inj hp
 subst hp
 refine tx_pick' (L' := [(2, (Vp q4))]) (H' := [⟨.pointer (some wa0), [(Vi r4.1), (Vi r4.2.1), (Sl Kf r4.2.2.1), (Vi r4.2.2.2.1), (Sl (Ki .i64) r4.2.2.2.2.1)], 117, none⟩, ⟨.pointer (some q4), [(Vi r4.1), (Vi r4.2.1), (Vl (Vs g4)), (Vi r4.2.2.2.1), (Vl (Vs gz1))], 117, none⟩, (Rw Kf 95 (Vs g4) r4.2.2.2.2.2.1), (Rw (Ki .i64) 3 (Vs gz1) r4.2.2.2.2.2.2)]) [0, 1, 2, 3] (sub_cons rfl sub_nil) (by decide) (pick_cons rfl (pick_cons rfl (pick_cons rfl (pick_cons rfl pick_nil)))) ?_
 exact tx_ret1' Tryz.results17 rfl (q4, g4, gz1) (rv_tmp' rfl) (List.Sublist.refl _)

def gogeom_geom0_SRID_v5 (k : Nat) (a0_0 : Int) (a0_1 : Int) (a0_2 : List Nat) (a0_3 : Int) (a0_4 : List Int) : Option (Int × Int × (List Nat) × Int × (List Int)) :=
 some (a0_0, a0_1, a0_2, a0_3, a0_4)

theorem gogeom_geom0_SRID_v5_sim {k : Nat} {wa0 : Addr} {wa0_2 : Gs} {wa0_4 : Gs} (a0_0 : Int) (a0_1 : Int) (a0_2 : List Nat) (a0_3 : Int) (a0_4 : List Int) {out : Int × Int × (List Nat) × Int × (List Int)} (hp : gogeom_geom0_SRID_v5 k a0_0 a0_1 a0_2 a0_3 a0_4 = some out) : Sx.Fn Tryz.prog 101 [(Vp wa0)] [⟨.pointer (some wa0), [(Vi a0_0), (Vi a0_1), (Vl (Vs wa0_2)), (Vi a0_3), (Vl (Vs wa0_4))], 117, none⟩, (Rw Kf 95 (Vs wa0_2) a0_2), (Rw (Ki .i64) 3 (Vs wa0_4) a0_4)] (fun w : Unit => (Vi out.2.2.2.1)) (fun w => [⟨.pointer (some wa0), [(Vi out.1), (Vi out.2.1), (Vl (Vs wa0_2)), (Vi out.2.2.2.1), (Vl (Vs wa0_4))], 117, none⟩, (Rw Kf 95 (Vs wa0_2) out.2.2.1), (Rw (Ki .i64) 3 (Vs wa0_4) out.2.2.2.2)]) := by
 unfold gogeom_geom0_SRID_v5 at hp
 refine fn_of Tryz.func101 rfl Tryz.ntmps101 rfl fun E hM => ?_
 refine cr fun K1 hK1 => ?_
 refine s0 (rd_assign' rfl) ?_
 refine nk hK1 ?_
 refine cr fun K2 hK2 => ?_
 refine s0 (rd_move' rfl) ?_
 refine s0 (rd_nilck' rfl) ?_
 refine s0 (rd_field' (off := 3) rfl Tryz.underlying105 rfl info3 rfl) ?_
 refine s0 (rd_load' (i := 0) (o := 3) rfl ⟨rfl, rfl, rfl, rfl⟩ rfl flat3) ?_
 refine s0 (rd_assign' rfl) ?_
 refine nk hK2 ?_
 refine cx_retc' ?_
 replace hp := Option.some.inj hp
 subst hp
 refine tx_pick' (L' := [(2, (Vi a0_3))]) (H' := [⟨.pointer (some wa0), [(Vi a0_0), (Vi a0_1), (Vl (Vs wa0_2)), (Vi a0_3), (Vl (Vs wa0_4))], 117, none⟩, (Rw Kf 95 (Vs wa0_2) a0_2), (Rw (Ki .i64) 3 (Vs wa0_4) a0_4)]) [0, 1, 2] (sub_cons rfl sub_nil) (by decide) (pick_cons rfl (pick_cons rfl (pick_cons rfl pick_nil))) ?_
 exact tx_ret1' Tryz.results101 rfl () (rv_tmp' rfl) (List.Sublist.refl _)

def gogeom_geom0_Layout_v5 (k : Nat) (a0_0 : Int) (a0_1 : Int) (a0_2 : List Nat) (a0_3 : Int) (a0_4 : List Int) : Option (Int × Int × (List Nat) × Int × (List Int)) :=
 some (a0_0, a0_1, a0_2, a0_3, a0_4)

theorem gogeom_geom0_Layout_v5_sim {k : Nat} {wa0 : Addr} {wa0_2 : Gs} {wa0_4 : Gs} (a0_0 : Int) (a0_1 : Int) (a0_2 : List Nat) (a0_3 : Int) (a0_4 : List Int) {out : Int × Int × (List Nat) × Int × (List Int)} (hp : gogeom_geom0_Layout_v5 k a0_0 a0_1 a0_2 a0_3 a0_4 = some out) : Sx.Fn Tryz.prog 100 [(Vp wa0)] [⟨.pointer (some wa0), [(Vi a0_0), (Vi a0_1), (Vl (Vs wa0_2)), (Vi a0_3), (Vl (Vs wa0_4))], 117, none⟩, (Rw Kf 95 (Vs wa0_2) a0_2), (Rw (Ki .i64) 3 (Vs wa0_4) a0_4)] (fun w : Unit => (Vi out.1)) (fun w => [⟨.pointer (some wa0), [(Vi out.1), (Vi out.2.1), (Vl (Vs wa0_2)), (Vi out.2.2.2.1), (Vl (Vs wa0_4))], 117, none⟩, (Rw Kf 95 (Vs wa0_2) out.2.2.1), (Rw (Ki .i64) 3 (Vs wa0_4) out.2.2.2.2)]) := by
 unfold gogeom_geom0_Layout_v5 at hp
 refine fn_of Tryz.func100 rfl Tryz.ntmps100 rfl fun E hM => ?_
 refine cr fun K1 hK1 => ?_
 refine s0 (rd_assign' rfl) ?_
 refine nk hK1 ?_
 refine cr fun K2 hK2 => ?_
 refine s0 (rd_move' rfl) ?_
 refine s0 (rd_nilck' rfl) ?_
 refine s0 (rd_field0' rfl Tryz.underlying105 rfl info54 rfl) ?_
 refine s0 (rd_load' (i := 0) (o := 0) rfl ⟨rfl, rfl, rfl, rfl⟩ rfl flat54) ?_
 refine s0 (rd_assign' rfl) ?_
 refine nk hK2 ?_
 refine cx_retc' ?_
 replace hp := Option.some.inj hp
 subst hp
 refine tx_pick' (L' := [(2, (Vi a0_0))]) (H' := [⟨.pointer (some wa0), [(Vi a0_0), (Vi a0_1), (Vl (Vs wa0_2)), (Vi a0_3), (Vl (Vs wa0_4))], 117, none⟩, (Rw Kf 95 (Vs wa0_2) a0_2), (Rw (Ki .i64) 3 (Vs wa0_4) a0_4)]) [0, 1, 2] (sub_cons rfl sub_nil) (by decide) (pick_cons rfl (pick_cons rfl (pick_cons rfl pick_nil))) ?_
 exact tx_ret1' Tryz.results100 rfl () (rv_tmp' rfl) (List.Sublist.refl _)

def gogeom_geom0_FlatCoords_v5 (k : Nat) (a0_0 : Int) (a0_1 : Int) (a0_2 : List Nat) (a0_3 : Int) (a0_4 : List Int) : Option (Int × Int × (List Nat) × Int × (List Int)) :=
 some (a0_0, a0_1, a0_2, a0_3, a0_4)

theorem gogeom_geom0_FlatCoords_v5_sim {k : Nat} {wa0 : Addr} {wa0_2 : Gs} {wa0_4 : Gs} (a0_0 : Int) (a0_1 : Int) (a0_2 : List Nat) (a0_3 : Int) (a0_4 : List Int) {out : Int × Int × (List Nat) × Int × (List Int)} (hp : gogeom_geom0_FlatCoords_v5 k a0_0 a0_1 a0_2 a0_3 a0_4 = some out) : Sx.Fn Tryz.prog 99 [(Vp wa0)] [⟨.pointer (some wa0), [(Vi a0_0), (Vi a0_1), (Vl (Vs wa0_2)), (Vi a0_3), (Vl (Vs wa0_4))], 117, none⟩, (Rw Kf 95 (Vs wa0_2) a0_2), (Rw (Ki .i64) 3 (Vs wa0_4) a0_4)] (fun w : Unit => (Sl Kf out.2.2.1)) (fun w => [⟨.pointer (some wa0), [(Vi out.1), (Vi out.2.1), (Sl Kf out.2.2.1), (Vi out.2.2.2.1), (Vl (Vs wa0_4))], 117, none⟩, (Rw (Ki .i64) 3 (Vs wa0_4) out.2.2.2.2)]) := by
 unfold gogeom_geom0_FlatCoords_v5 at hp
 refine fn_of Tryz.func99 rfl Tryz.ntmps99 rfl fun E hM => ?_
 refine cr fun K1 hK1 => ?_
 refine s0 (rd_assign' rfl) ?_
 refine nk hK1 ?_
 refine cr fun K2 hK2 => ?_
 refine s0 (rd_move' rfl) ?_
 refine s0 (rd_nilck' rfl) ?_
 refine s0 (rd_field' (off := 2) rfl Tryz.underlying105 rfl info22 rfl) ?_
 refine s0 (rd_load' (i := 0) (o := 2) rfl ⟨rfl, rfl, rfl, rfl⟩ rfl flat22) ?_
 refine s0 (rd_assign' rfl) ?_
 refine nk hK2 ?_
 refine cx_retc' ?_
 replace hp := Option.some.inj hp
 subst hp
 refine tx_fz' (frz_row 1 [(2, (Vl (Vs wa0_2)), (Sl Kf a0_2)), (6, (Vl (Vs wa0_2)), (Sl Kf a0_2))] (K := Kf) (xs := a0_2) (by decide) rfl ⟨⟨rfl, frz_it⟩, ⟨rfl, frz_it⟩, trivial⟩ (H' := [⟨.pointer (some wa0), [(Vi a0_0), (Vi a0_1), (Sl Kf a0_2), (Vi a0_3), (Vl (Vs wa0_4))], 117, none⟩, (Rw (Ki .i64) 3 (Vs wa0_4) a0_4)]) (frzH_cons rfl rfl rfl (frzL_cons frz_same (frzL_cons frz_same (frzL_cons frz_it (frzL_cons frz_same (frzL_cons frz_same frzL_refl))))) (frzH_cons rfl rfl rfl frzL_refl frzH_refl))) ?_
 refine tx_pick' (L' := [(2, (Sl Kf a0_2))]) (H' := [⟨.pointer (some wa0), [(Vi a0_0), (Vi a0_1), (Sl Kf a0_2), (Vi a0_3), (Vl (Vs wa0_4))], 117, none⟩, (Rw (Ki .i64) 3 (Vs wa0_4) a0_4)]) [0, 1] (sub_cons rfl sub_nil) (by decide) (pick_cons rfl (pick_cons rfl pick_nil)) ?_
 exact tx_ret1' Tryz.results99 rfl () (rv_tmp' rfl) (List.Sublist.refl _)

def gogeom_geom2_Ends_v2 (k : Nat) (a0_0 : Int) (a0_1 : Int) (a0_2 : List Nat) (a0_3 : Int) (a0_4 : List Int) : Option (Int × Int × (List Nat) × Int × (List Int)) :=
 some (a0_0, a0_1, a0_2, a0_3, a0_4)

theorem gogeom_geom2_Ends_v2_sim {k : Nat} {wa0 : Addr} {wa0_4 : Gs} (a0_0 : Int) (a0_1 : Int) (a0_2 : List Nat) (a0_3 : Int) (a0_4 : List Int) {out : Int × Int × (List Nat) × Int × (List Int)} (hp : gogeom_geom2_Ends_v2 k a0_0 a0_1 a0_2 a0_3 a0_4 = some out) : Sx.Fn Tryz.prog 104 [(Vp wa0)] [⟨.pointer (some wa0), [(Vi a0_0), (Vi a0_1), (Sl Kf a0_2), (Vi a0_3), (Vl (Vs wa0_4))], 117, none⟩, (Rw (Ki .i64) 3 (Vs wa0_4) a0_4)] (fun w : Unit => (Sl (Ki .i64) out.2.2.2.2)) (fun w => [⟨.pointer (some wa0), [(Vi out.1), (Vi out.2.1), (Sl Kf out.2.2.1), (Vi out.2.2.2.1), (Sl (Ki .i64) out.2.2.2.2)], 117, none⟩]) := by
 unfold gogeom_geom2_Ends_v2 at hp
 refine fn_of Tryz.func104 rfl Tryz.ntmps104 rfl fun E hM => ?_
 refine cr fun K1 hK1 => ?_
 refine s0 (rd_assign' rfl) ?_
 refine nk hK1 ?_
 refine cr fun K2 hK2 => ?_
 refine s0 (rd_move' rfl) ?_
 refine s0 (rd_nilck' rfl) ?_
 refine s0 (rd_field' (off := 4) rfl Tryz.underlying113 rfl info23 rfl) ?_
 refine s0 (rd_load' (i := 0) (o := 4) rfl ⟨rfl, rfl, rfl, rfl⟩ rfl flat23) ?_
 refine s0 (rd_assign' rfl) ?_
 refine nk hK2 ?_
 refine cx_retc' ?_
 replace hp := Option.some.inj hp
 subst hp
 refine tx_fz' (frz_row 1 [(2, (Vl (Vs wa0_4)), (Sl (Ki .i64) a0_4)), (6, (Vl (Vs wa0_4)), (Sl (Ki .i64) a0_4))] (K := (Ki .i64)) (xs := a0_4) (by decide) rfl ⟨⟨rfl, frz_it⟩, ⟨rfl, frz_it⟩, trivial⟩ (H' := [⟨.pointer (some wa0), [(Vi a0_0), (Vi a0_1), (Sl Kf a0_2), (Vi a0_3), (Sl (Ki .i64) a0_4)], 117, none⟩]) (frzH_cons rfl rfl rfl (frzL_cons frz_same (frzL_cons frz_same (frzL_cons frz_same (frzL_cons frz_same (frzL_cons frz_it frzL_refl))))) frzH_refl)) ?_
 refine tx_pick' (L' := [(2, (Sl (Ki .i64) a0_4))]) (H' := [⟨.pointer (some wa0), [(Vi a0_0), (Vi a0_1), (Sl Kf a0_2), (Vi a0_3), (Sl (Ki .i64) a0_4)], 117, none⟩]) [0] (sub_cons rfl sub_nil) (by decide) (pick_cons rfl pick_nil) ?_
 exact tx_ret1' Tryz.results104 rfl () (rv_tmp' rfl) (List.Sublist.refl _)

def gogeom_geom0_Endss_v5 (k : Nat) (a0_0 : Int) (a0_1 : Int) (a0_2 : List Nat) (a0_3 : Int) (a0_4 : List Int) : Option (Int × Int × (List Nat) × Int × (List Int)) :=
 some (a0_0, a0_1, a0_2, a0_3, a0_4)

theorem gogeom_geom0_Endss_v5_sim {k : Nat} {wa0 : Addr} (a0_0 : Int) (a0_1 : Int) (a0_2 : List Nat) (a0_3 : Int) (a0_4 : List Int) {out : Int × Int × (List Nat) × Int × (List Int)} (hp : gogeom_geom0_Endss_v5 k a0_0 a0_1 a0_2 a0_3 a0_4 = some out) : Sx.Fn Tryz.prog 98 [(Vp wa0)] [⟨.pointer (some wa0), [(Vi a0_0), (Vi a0_1), (Sl Kf a0_2), (Vi a0_3), (Sl (Ki .i64) a0_4)], 117, none⟩] (fun w : Unit => Vn) (fun w => [⟨.pointer (some wa0), [(Vi out.1), (Vi out.2.1), (Sl Kf out.2.2.1), (Vi out.2.2.2.1), (Sl (Ki .i64) out.2.2.2.2)], 117, none⟩]) := by
 unfold gogeom_geom0_Endss_v5 at hp
 refine fn_of Tryz.func98 rfl Tryz.ntmps98 rfl fun E hM => ?_
 refine cr fun K1 hK1 => ?_
 refine s0 (rd_assign' rfl) ?_
 refine nk hK1 ?_
 refine cr fun K2 hK2 => ?_
 refine s0 (rd_assign' rfl) ?_
 refine nk hK2 ?_
 refine cx_retc' ?_
 replace hp := Option.some.inj hp
 subst hp
 refine tx_pick' (L' := [(2, Vn)]) (H' := [⟨.pointer (some wa0), [(Vi a0_0), (Vi a0_1), (Sl Kf a0_2), (Vi a0_3), (Sl (Ki .i64) a0_4)], 117, none⟩]) [0] (sub_cons rfl sub_nil) (by decide) (pick_cons rfl pick_nil) ?_
 exact tx_ret1' Tryz.results98 rfl () (rv_tmp' rfl) (List.Sublist.refl _)

def impl_plain_v5 (k : Nat) (a0_0 : Int) (a0_1 : Int) (a0_2 : List Nat) (a0_3 : Int) (a0_4 : List Int) : Option (Int × Int × (List Nat) × Int × (List Int) × Int × Int × Int × (List Nat) × (List Int)) :=
 (gogeom_geom0_SRID_v5 k a0_0 a0_1 a0_2 a0_3 a0_4) >>= fun r15 =>
 (gogeom_geom0_Layout_v5 k r15.1 r15.2.1 r15.2.2.1 r15.2.2.2.1 r15.2.2.2.2) >>= fun r70 =>
 (gogeom_geom0_FlatCoords_v5 k r70.1 r70.2.1 r70.2.2.1 r70.2.2.2.1 r70.2.2.2.2) >>= fun r72 =>
 (impl_floats k r72.2.2.1) >>= fun r73 =>
 (gogeom_geom2_Ends_v2 k r72.1 r72.2.1 r72.2.2.1 r72.2.2.2.1 r72.2.2.2.2) >>= fun r75 =>
 (impl_ints k r75.2.2.2.2) >>= fun r76 =>
 match r76 with
  | (.inl y1) =>
   ((gogeom_geom0_Endss_v5 k r75.1 r75.2.1 r75.2.2.1 r75.2.2.2.1 r75.2.2.2.2) >>= fun r78 =>
   (impl_intss_v2 k) >>= fun r79 =>
   some (r78.1, r78.2.1, r78.2.2.1, r78.2.2.2.1, r78.2.2.2.2, 4, r70.1, r15.2.2.2.1, r73, []))
  | (.inr y1) =>
   ((gogeom_geom0_Endss_v5 k r75.1 r75.2.1 r75.2.2.1 r75.2.2.2.1 r75.2.2.2.2) >>= fun r78 =>
   (impl_intss_v2 k) >>= fun r79 =>
   some (r78.1, r78.2.1, r78.2.2.1, r78.2.2.2.1, r78.2.2.2.2, 4, r70.1, r15.2.2.2.1, r73, y1))

theorem impl_plain_v5_sim {k : Nat} {wa0 : Addr} {wa0_2 : Gs} {wa0_4 : Gs} (a0_0 : Int) (a0_1 : Int) (a0_2 : List Nat) (a0_3 : Int) (a0_4 : List Int) {out : Int × Int × (List Nat) × Int × (List Int) × Int × Int × Int × (List Nat) × (List Int)} (hp : impl_plain_v5 k a0_0 a0_1 a0_2 a0_3 a0_4 = some out) : Sx.Fn Tryz.prog 12 [(If 46 (Vp wa0))] [⟨.pointer (some wa0), [(Vi a0_0), (Vi a0_1), (Vl (Vs wa0_2)), (Vi a0_3), (Vl (Vs wa0_4))], 117, none⟩, (Rw Kf 95 (Vs wa0_2) a0_2), (Rw (Ki .i64) 3 (Vs wa0_4) a0_4)] (fun w : Unit => (Ag [(Vi out.2.2.2.2.2.1), (Vi out.2.2.2.2.2.2.1), (Vi out.2.2.2.2.2.2.2.1), (Sl Kf out.2.2.2.2.2.2.2.2.1), (Sl (Ki .i64) out.2.2.2.2.2.2.2.2.2), Vn, Vn])) (fun w => [⟨.pointer (some wa0), [(Vi out.1), (Vi out.2.1), (Sl Kf out.2.2.1), (Vi out.2.2.2.1), (Sl (Ki .i64) out.2.2.2.2.1)], 117, none⟩]) := by
 unfold impl_plain_v5 at hp
 refine fn_of Tryz.func12 rfl Tryz.ntmps12 rfl fun E hM => ?_
 refine cr fun K1 hK1 => ?_
 refine sx_ox' (ox_alloc' info27 rfl rfl rfl rfl (l := [(Vi 0), (Vi 0), (Vi 0), Vn, Vn, Vn, Vn]) rfl) (wt_none' rfl) fun q2 => ?_
 refine nk hK1 ?_
 refine cr fun K2 hK2 => ?_
 refine s0 (rd_move' rfl) ?_
 obtain ⟨r15, hr15, hp⟩ := bind_some hp
 refine sx_ox' (ox_callg' (ent_inv' rfl rfl (inv_ptr0 (inv46_SRID _))) (gogeom_geom0_SRID_v5_sim _ _ _ _ _ hr15 : Sx.Fn Tryz.prog 101 [(Vp wa0)] [⟨.pointer (some wa0), [(Vi a0_0), (Vi a0_1), (Vl (Vs wa0_2)), (Vi a0_3), (Vl (Vs wa0_4))], 117, none⟩, (Rw Kf 95 (Vs wa0_2) a0_2), (Rw (Ki .i64) 3 (Vs wa0_4) a0_4)] (fun x : Unit => (Vi r15.2.2.2.1)) (fun x => [⟨.pointer (some wa0), [(Vi r15.1), (Vi r15.2.1), (Vl (Vs wa0_2)), (Vi r15.2.2.2.1), (Vl (Vs wa0_4))], 117, none⟩, (Rw Kf 95 (Vs wa0_2) r15.2.2.1), (Rw (Ki .i64) 3 (Vs wa0_4) r15.2.2.2.2)])) [1, 2, 3] [0] (by decide) (pick_cons rfl (pick_cons rfl (pick_cons rfl pick_nil))) (pick_cons rfl pick_nil) (Hn := fun x : Unit => [⟨.pointer (some wa0), [(Vi r15.1), (Vi r15.2.1), (Vl (Vs wa0_2)), (Vi r15.2.2.2.1), (Vl (Vs wa0_4))], 117, none⟩, (Rw Kf 95 (Vs wa0_2) r15.2.2.1), (Rw (Ki .i64) 3 (Vs wa0_4) r15.2.2.2.2), ⟨.pointer (some q2), [(Vi 0), (Vi 0), (Vi 0), Vn, Vn, Vn, Vn], 27, none⟩]) (fun _ => rfl) rfl rfl) (wt_none' rfl) fun ⟨⟩ => ?_
 refine s0 (rd_build' (pls := [(0, 1), (1, 1), (2, 1), (3, 1), (4, 1), (5, 1), (6, 1)]) (qs := [(2, [(Vi r15.2.2.2.1)])]) (r := [(Vi 0), (Vi 0), (Vi r15.2.2.2.1), Vn, Vn, Vn, Vn]) ⟨rfl, ⟨_, rfl, (lv_vl rfl rfl)⟩, trivial⟩ Tryz.underlying27 has27 places27 info27 rfl rfl rfl) ?_
 refine sx_ox' (ox_alloc' info27 rfl rfl rfl rfl (l := [(Vi 0), (Vi 0), (Vi 0), Vn, Vn, Vn, Vn]) rfl) (wt_none' rfl) fun q3 => ?_
 refine sx_ox' (ox_store' (i := 0) (o := 0) rfl rfl (lv_ag _) ⟨rfl, rfl, rfl, rfl⟩ rfl info27 rfl (H' := [⟨.pointer (some q3), [(Vi 0), (Vi 0), (Vi r15.2.2.2.1), Vn, Vn, Vn, Vn], 27, none⟩, ⟨.pointer (some wa0), [(Vi r15.1), (Vi r15.2.1), (Vl (Vs wa0_2)), (Vi r15.2.2.2.1), (Vl (Vs wa0_4))], 117, none⟩, (Rw Kf 95 (Vs wa0_2) r15.2.2.1), (Rw (Ki .i64) 3 (Vs wa0_4) r15.2.2.2.2), ⟨.pointer (some q2), [(Vi 0), (Vi 0), (Vi 0), Vn, Vn, Vn, Vn], 27, none⟩]) rfl) (wt_none' rfl) fun _ => ?_
 refine nk hK2 ?_
 refine cx_seq' fun K3 hK3 => ?_
 refine cr fun K4 hK4 => ?_
 refine s0 (rd_move' rfl) ?_
 refine nk hK4 ?_
 refine cx_block' ?_
 refine cr fun K5 hK5 => ?_
 refine s0 (rd_assert' rfl (F := fun _ => .tuple #[.pointer none, .bool false]) as46_35_37 as_no) ?_
 refine s0 (rd_extract' rfl rfl) ?_
 refine s0 (rd_extract' rfl rfl) ?_
 refine nk hK5 ?_
 refine cx_cond_f' rfl rfl ?_
 refine cr fun K6 hK6 => ?_
 refine s0 (rd_assert' rfl (F := fun _ => .tuple #[.pointer none, .bool false]) as46_35_40 as_no) ?_
 refine s0 (rd_extract' rfl rfl) ?_
 refine s0 (rd_extract' rfl rfl) ?_
 refine nk hK6 ?_
 refine cx_cond_f' rfl rfl ?_
 refine cr fun K7 hK7 => ?_
 refine s0 (rd_assert' rfl (F := fun _ => .tuple #[.pointer none, .bool false]) as46_35_42 as_no) ?_
 refine s0 (rd_extract' rfl rfl) ?_
 refine s0 (rd_extract' rfl rfl) ?_
 refine nk hK7 ?_
 refine cx_cond_f' rfl rfl ?_
 refine cr fun K8 hK8 => ?_
 refine s0 (rd_assert' rfl (F := fun _ => .tuple #[.pointer none, .bool false]) as46_35_44 as_no) ?_
 refine s0 (rd_extract' rfl rfl) ?_
 refine s0 (rd_extract' rfl rfl) ?_
 refine nk hK8 ?_
 refine cx_cond_f' rfl rfl ?_
 refine cr fun K9 hK9 => ?_
 refine s0 (rd_assert' rfl (F := fun v => .tuple #[v, .bool true]) as46_35_46k as_ok) ?_
 refine s0 (rd_extract' rfl rfl) ?_
 refine s0 (rd_extract' rfl rfl) ?_
 refine nk hK9 ?_
 refine cx_cond_t' rfl rfl ?_
 refine cr fun K10 hK10 => ?_
 refine s0 (rd_assign' rfl) ?_
 refine nk hK10 ?_
 refine cx_region' ?_
 refine s0 (rd_field0' rfl Tryz.underlying27 rfl info3 rfl) ?_
 refine sx_ox' (ox_store' (i := 0) (o := 0) rfl rfl (lv_vl rfl rfl) ⟨rfl, rfl, rfl, rfl⟩ rfl info3 rfl (H' := [⟨.pointer (some q3), [(Vi 4), (Vi 0), (Vi r15.2.2.2.1), Vn, Vn, Vn, Vn], 27, none⟩, ⟨.pointer (some wa0), [(Vi r15.1), (Vi r15.2.1), (Vl (Vs wa0_2)), (Vi r15.2.2.2.1), (Vl (Vs wa0_4))], 117, none⟩, (Rw Kf 95 (Vs wa0_2) r15.2.2.1), (Rw (Ki .i64) 3 (Vs wa0_4) r15.2.2.2.2), ⟨.pointer (some q2), [(Vi 0), (Vi 0), (Vi 0), Vn, Vn, Vn, Vn], 27, none⟩]) rfl) (wt_none' rfl) fun _ => ?_
 refine nk hK3 ?_
 refine cr fun K11 hK11 => ?_
 refine s0 (rd_move' rfl) ?_
 obtain ⟨r70, hr70, hp⟩ := bind_some hp
 refine sx_ox' (ox_callg' (ent_inv' rfl rfl (inv_ptr0 (inv46_Layout _))) (gogeom_geom0_Layout_v5_sim _ _ _ _ _ hr70 : Sx.Fn Tryz.prog 100 [(Vp wa0)] [⟨.pointer (some wa0), [(Vi r15.1), (Vi r15.2.1), (Vl (Vs wa0_2)), (Vi r15.2.2.2.1), (Vl (Vs wa0_4))], 117, none⟩, (Rw Kf 95 (Vs wa0_2) r15.2.2.1), (Rw (Ki .i64) 3 (Vs wa0_4) r15.2.2.2.2)] (fun x : Unit => (Vi r70.1)) (fun x => [⟨.pointer (some wa0), [(Vi r70.1), (Vi r70.2.1), (Vl (Vs wa0_2)), (Vi r70.2.2.2.1), (Vl (Vs wa0_4))], 117, none⟩, (Rw Kf 95 (Vs wa0_2) r70.2.2.1), (Rw (Ki .i64) 3 (Vs wa0_4) r70.2.2.2.2)])) [1, 2, 3] [0, 4] (by decide) (pick_cons rfl (pick_cons rfl (pick_cons rfl pick_nil))) (pick_cons rfl (pick_cons rfl pick_nil)) (Hn := fun x : Unit => [⟨.pointer (some wa0), [(Vi r70.1), (Vi r70.2.1), (Vl (Vs wa0_2)), (Vi r70.2.2.2.1), (Vl (Vs wa0_4))], 117, none⟩, (Rw Kf 95 (Vs wa0_2) r70.2.2.1), (Rw (Ki .i64) 3 (Vs wa0_4) r70.2.2.2.2), ⟨.pointer (some q3), [(Vi 4), (Vi 0), (Vi r15.2.2.2.1), Vn, Vn, Vn, Vn], 27, none⟩, ⟨.pointer (some q2), [(Vi 0), (Vi 0), (Vi 0), Vn, Vn, Vn, Vn], 27, none⟩]) (fun _ => rfl) rfl rfl) (wt_none' rfl) fun ⟨⟩ => ?_
 refine s0 (rd_move' rfl) ?_
 obtain ⟨r72, hr72, hp⟩ := bind_some hp
 refine sx_ox' (ox_callg' (ent_inv' rfl rfl (inv_ptr0 (inv46_FlatCoords _))) (gogeom_geom0_FlatCoords_v5_sim _ _ _ _ _ hr72 : Sx.Fn Tryz.prog 99 [(Vp wa0)] [⟨.pointer (some wa0), [(Vi r70.1), (Vi r70.2.1), (Vl (Vs wa0_2)), (Vi r70.2.2.2.1), (Vl (Vs wa0_4))], 117, none⟩, (Rw Kf 95 (Vs wa0_2) r70.2.2.1), (Rw (Ki .i64) 3 (Vs wa0_4) r70.2.2.2.2)] (fun x : Unit => (Sl Kf r72.2.2.1)) (fun x => [⟨.pointer (some wa0), [(Vi r72.1), (Vi r72.2.1), (Sl Kf r72.2.2.1), (Vi r72.2.2.2.1), (Vl (Vs wa0_4))], 117, none⟩, (Rw (Ki .i64) 3 (Vs wa0_4) r72.2.2.2.2)])) [0, 1, 2] [3, 4] (by decide) (pick_cons rfl (pick_cons rfl (pick_cons rfl pick_nil))) (pick_cons rfl (pick_cons rfl pick_nil)) (Hn := fun x : Unit => [⟨.pointer (some wa0), [(Vi r72.1), (Vi r72.2.1), (Sl Kf r72.2.2.1), (Vi r72.2.2.2.1), (Vl (Vs wa0_4))], 117, none⟩, (Rw (Ki .i64) 3 (Vs wa0_4) r72.2.2.2.2), ⟨.pointer (some q3), [(Vi 4), (Vi 0), (Vi r15.2.2.2.1), Vn, Vn, Vn, Vn], 27, none⟩, ⟨.pointer (some q2), [(Vi 0), (Vi 0), (Vi 0), Vn, Vn, Vn, Vn], 27, none⟩]) (fun _ => rfl) rfl rfl) (wt_none' rfl) fun ⟨⟩ => ?_
 obtain ⟨r73, hr73, hp⟩ := bind_some hp
 refine sx_ox' (ox_calln' (ent_fn' Tryz.func24 isn24 rfl rfl) (impl_floats_sim _ hr73 : Sx.Fn Tryz.prog 24 [(Sl Kf r72.2.2.1)] [] (fun x : Unit => (Sl Kf r73)) (fun x => [])) (Hn := fun x : Unit => [⟨.pointer (some wa0), [(Vi r72.1), (Vi r72.2.1), (Sl Kf r72.2.2.1), (Vi r72.2.2.2.1), (Vl (Vs wa0_4))], 117, none⟩, (Rw (Ki .i64) 3 (Vs wa0_4) r72.2.2.2.2), ⟨.pointer (some q3), [(Vi 4), (Vi 0), (Vi r15.2.2.2.1), Vn, Vn, Vn, Vn], 27, none⟩, ⟨.pointer (some q2), [(Vi 0), (Vi 0), (Vi 0), Vn, Vn, Vn, Vn], 27, none⟩]) (fun _ => rfl) rfl rfl) (wt_none' rfl) fun ⟨⟩ => ?_
 refine s0 (rd_move' rfl) ?_
 obtain ⟨r75, hr75, hp⟩ := bind_some hp
 refine sx_ox' (ox_callg' (ent_inv' rfl rfl (inv_ptr0 (inv46_Ends _))) (gogeom_geom2_Ends_v2_sim _ _ _ _ _ hr75 : Sx.Fn Tryz.prog 104 [(Vp wa0)] [⟨.pointer (some wa0), [(Vi r72.1), (Vi r72.2.1), (Sl Kf r72.2.2.1), (Vi r72.2.2.2.1), (Vl (Vs wa0_4))], 117, none⟩, (Rw (Ki .i64) 3 (Vs wa0_4) r72.2.2.2.2)] (fun x : Unit => (Sl (Ki .i64) r75.2.2.2.2)) (fun x => [⟨.pointer (some wa0), [(Vi r75.1), (Vi r75.2.1), (Sl Kf r75.2.2.1), (Vi r75.2.2.2.1), (Sl (Ki .i64) r75.2.2.2.2)], 117, none⟩])) [0, 1] [2, 3] (by decide) (pick_cons rfl (pick_cons rfl pick_nil)) (pick_cons rfl (pick_cons rfl pick_nil)) (Hn := fun x : Unit => [⟨.pointer (some wa0), [(Vi r75.1), (Vi r75.2.1), (Sl Kf r75.2.2.1), (Vi r75.2.2.2.1), (Sl (Ki .i64) r75.2.2.2.2)], 117, none⟩, ⟨.pointer (some q3), [(Vi 4), (Vi 0), (Vi r15.2.2.2.1), Vn, Vn, Vn, Vn], 27, none⟩, ⟨.pointer (some q2), [(Vi 0), (Vi 0), (Vi 0), Vn, Vn, Vn, Vn], 27, none⟩]) (fun _ => rfl) rfl rfl) (wt_none' rfl) fun ⟨⟩ => ?_
 obtain ⟨r76, hr76, hp⟩ := bind_some hp
 rcases r76 with y1 | y1
 ·dsimp only at hp
  refine sx_ox' (ox_calln' (ent_fn' Tryz.func32 isn32 rfl rfl) (impl_ints_sim _ hr76 : Sx.Fn Tryz.prog 32 [(Sl (Ki .i64) r75.2.2.2.2)] [] (fun x : Unit => Vn) (fun x => [])) (Hn := fun x : Unit => [⟨.pointer (some wa0), [(Vi r75.1), (Vi r75.2.1), (Sl Kf r75.2.2.1), (Vi r75.2.2.2.1), (Sl (Ki .i64) r75.2.2.2.2)], 117, none⟩, ⟨.pointer (some q3), [(Vi 4), (Vi 0), (Vi r15.2.2.2.1), Vn, Vn, Vn, Vn], 27, none⟩, ⟨.pointer (some q2), [(Vi 0), (Vi 0), (Vi 0), Vn, Vn, Vn, Vn], 27, none⟩]) (fun _ => rfl) rfl rfl) (wt_none' rfl) fun ⟨⟩ => ?_
  refine s0 (rd_move' rfl) ?_
  obtain ⟨r78, hr78, hp⟩ := bind_some hp
  refine sx_ox' (ox_callg' (ent_inv' rfl rfl (inv_ptr0 (inv46_Endss _))) (gogeom_geom0_Endss_v5_sim _ _ _ _ _ hr78 : Sx.Fn Tryz.prog 98 [(Vp wa0)] [⟨.pointer (some wa0), [(Vi r75.1), (Vi r75.2.1), (Sl Kf r75.2.2.1), (Vi r75.2.2.2.1), (Sl (Ki .i64) r75.2.2.2.2)], 117, none⟩] (fun x : Unit => Vn) (fun x => [⟨.pointer (some wa0), [(Vi r78.1), (Vi r78.2.1), (Sl Kf r78.2.2.1), (Vi r78.2.2.2.1), (Sl (Ki .i64) r78.2.2.2.2)], 117, none⟩])) [0] [1, 2] (by decide) (pick_cons rfl pick_nil) (pick_cons rfl (pick_cons rfl pick_nil)) (Hn := fun x : Unit => [⟨.pointer (some wa0), [(Vi r78.1), (Vi r78.2.1), (Sl Kf r78.2.2.1), (Vi r78.2.2.2.1), (Sl (Ki .i64) r78.2.2.2.2)], 117, none⟩, ⟨.pointer (some q3), [(Vi 4), (Vi 0), (Vi r15.2.2.2.1), Vn, Vn, Vn, Vn], 27, none⟩, ⟨.pointer (some q2), [(Vi 0), (Vi 0), (Vi 0), Vn, Vn, Vn, Vn], 27, none⟩]) (fun _ => rfl) rfl rfl) (wt_none' rfl) fun ⟨⟩ => ?_
  obtain ⟨r79, hr79, hp⟩ := bind_some hp
  refine sx_ox' (ox_calln' (ent_fn' Tryz.func40 isn40 rfl rfl) (impl_intss_v2_sim hr79 : Sx.Fn Tryz.prog 40 [Vn] [] (fun x : Unit => Vn) (fun x => [])) (Hn := fun x : Unit => [⟨.pointer (some wa0), [(Vi r78.1), (Vi r78.2.1), (Sl Kf r78.2.2.1), (Vi r78.2.2.2.1), (Sl (Ki .i64) r78.2.2.2.2)], 117, none⟩, ⟨.pointer (some q3), [(Vi 4), (Vi 0), (Vi r15.2.2.2.1), Vn, Vn, Vn, Vn], 27, none⟩, ⟨.pointer (some q2), [(Vi 0), (Vi 0), (Vi 0), Vn, Vn, Vn, Vn], 27, none⟩]) (fun _ => rfl) rfl rfl) (wt_none' rfl) fun ⟨⟩ => ?_
  refine s0 (rd_field' (off := 1) rfl Tryz.underlying27 rfl info3 rfl) ?_
  refine sx_ox' (ox_store' (i := 1) (o := 1) rfl rfl (lv_vl rfl rfl) ⟨rfl, rfl, rfl, rfl⟩ rfl info3 rfl (H' := [⟨.pointer (some wa0), [(Vi r78.1), (Vi r78.2.1), (Sl Kf r78.2.2.1), (Vi r78.2.2.2.1), (Sl (Ki .i64) r78.2.2.2.2)], 117, none⟩, ⟨.pointer (some q3), [(Vi 4), (Vi r70.1), (Vi r15.2.2.2.1), Vn, Vn, Vn, Vn], 27, none⟩, ⟨.pointer (some q2), [(Vi 0), (Vi 0), (Vi 0), Vn, Vn, Vn, Vn], 27, none⟩]) rfl) (wt_none' rfl) fun _ => ?_
  refine s0 (rd_field' (off := 3) rfl Tryz.underlying27 rfl info22 rfl) ?_
  refine sx_ox' (ox_store' (i := 1) (o := 3) rfl rfl (lv_sl _ _) ⟨rfl, rfl, rfl, rfl⟩ rfl info22 rfl (H' := [⟨.pointer (some wa0), [(Vi r78.1), (Vi r78.2.1), (Sl Kf r78.2.2.1), (Vi r78.2.2.2.1), (Sl (Ki .i64) r78.2.2.2.2)], 117, none⟩, ⟨.pointer (some q3), [(Vi 4), (Vi r70.1), (Vi r15.2.2.2.1), (Sl Kf r73), Vn, Vn, Vn], 27, none⟩, ⟨.pointer (some q2), [(Vi 0), (Vi 0), (Vi 0), Vn, Vn, Vn, Vn], 27, none⟩]) rfl) (wt_none' rfl) fun _ => ?_
  refine s0 (rd_field' (off := 4) rfl Tryz.underlying27 rfl info23 rfl) ?_
  refine sx_ox' (ox_store' (i := 1) (o := 4) rfl rfl (lv_vl rfl rfl) ⟨rfl, rfl, rfl, rfl⟩ rfl info23 rfl (H' := [⟨.pointer (some wa0), [(Vi r78.1), (Vi r78.2.1), (Sl Kf r78.2.2.1), (Vi r78.2.2.2.1), (Sl (Ki .i64) r78.2.2.2.2)], 117, none⟩, ⟨.pointer (some q3), [(Vi 4), (Vi r70.1), (Vi r15.2.2.2.1), (Sl Kf r73), Vn, Vn, Vn], 27, none⟩, ⟨.pointer (some q2), [(Vi 0), (Vi 0), (Vi 0), Vn, Vn, Vn, Vn], 27, none⟩]) rfl) (wt_none' rfl) fun _ => ?_
  refine s0 (rd_field' (off := 5) rfl Tryz.underlying27 rfl info24 rfl) ?_
  refine sx_ox' (ox_store' (i := 1) (o := 5) rfl rfl (lv_vl rfl rfl) ⟨rfl, rfl, rfl, rfl⟩ rfl info24 rfl (H' := [⟨.pointer (some wa0), [(Vi r78.1), (Vi r78.2.1), (Sl Kf r78.2.2.1), (Vi r78.2.2.2.1), (Sl (Ki .i64) r78.2.2.2.2)], 117, none⟩, ⟨.pointer (some q3), [(Vi 4), (Vi r70.1), (Vi r15.2.2.2.1), (Sl Kf r73), Vn, Vn, Vn], 27, none⟩, ⟨.pointer (some q2), [(Vi 0), (Vi 0), (Vi 0), Vn, Vn, Vn, Vn], 27, none⟩]) rfl) (wt_none' rfl) fun _ => ?_
  refine nk hK11 ?_
  refine cr fun K12 hK12 => ?_
  refine s0 (rd_load_agg' (i := 1) (o := 0) (nn := 7) rfl ⟨rfl, rfl, rfl, rfl⟩ rfl agg27 (l' := [(Vi 4), (Vi r70.1), (Vi r15.2.2.2.1), (Sl Kf r73), Vn, Vn, Vn]) rfl) ?_
  refine sx_ox' (ox_store' (i := 2) (o := 0) rfl rfl (lv_ag _) ⟨rfl, rfl, rfl, rfl⟩ rfl info27 rfl (H' := [⟨.pointer (some wa0), [(Vi r78.1), (Vi r78.2.1), (Sl Kf r78.2.2.1), (Vi r78.2.2.2.1), (Sl (Ki .i64) r78.2.2.2.2)], 117, none⟩, ⟨.pointer (some q3), [(Vi 4), (Vi r70.1), (Vi r15.2.2.2.1), (Sl Kf r73), Vn, Vn, Vn], 27, none⟩, ⟨.pointer (some q2), [(Vi 4), (Vi r70.1), (Vi r15.2.2.2.1), (Sl Kf r73), Vn, Vn, Vn], 27, none⟩]) rfl) (wt_none' rfl) fun _ => ?_
  refine nk hK12 ?_
  refine cx_retc' ?_
  replace hp := Option.some.inj hp
  subst hp
  refine tx_pick' (L' := [(2, (Vp q2))]) (H' := [⟨.pointer (some wa0), [(Vi r78.1), (Vi r78.2.1), (Sl Kf r78.2.2.1), (Vi r78.2.2.2.1), (Sl (Ki .i64) r78.2.2.2.2)], 117, none⟩, ⟨.pointer (some q2), [(Vi 4), (Vi r70.1), (Vi r15.2.2.2.1), (Sl Kf r73), Vn, Vn, Vn], 27, none⟩]) [0, 2] (sub_cons rfl sub_nil) (by decide) (pick_cons rfl (pick_cons rfl pick_nil)) ?_
  exact tx_ret1' Tryz.results12 rfl () (rv_imp' (x := (Ag [(Vi 4), (Vi r70.1), (Vi r15.2.2.2.1), (Sl Kf r73), Vn, Vn, Vn])) (y := (Ag [(Vi 4), (Vi r70.1), (Vi r15.2.2.2.1), (Sl Kf r73), (Sl (Ki .i64) []), Vn, Vn])) (rv_cell_agg' (i := 1) (o := 0) (nn := 7) rfl ⟨rfl, rfl, rfl, rfl⟩ rfl agg27 rfl) (imp_ag ⟨imp_refl, imp_refl, imp_refl, imp_refl, imp_nil, imp_refl, imp_refl, trivial⟩)) (List.Sublist.cons_cons _ (List.nil_sublist _))
 dsimp only at hp
 refine sx_ox' (ox_calln' (ent_fn' Tryz.func32 isn32 rfl rfl) (impl_ints_sim _ hr76 : Sx.Fn Tryz.prog 32 [(Sl (Ki .i64) r75.2.2.2.2)] [] (fun x : Unit => (Sl (Ki .i64) y1)) (fun x => [])) (Hn := fun x : Unit => [⟨.pointer (some wa0), [(Vi r75.1), (Vi r75.2.1), (Sl Kf r75.2.2.1), (Vi r75.2.2.2.1), (Sl (Ki .i64) r75.2.2.2.2)], 117, none⟩, ⟨.pointer (some q3), [(Vi 4), (Vi 0), (Vi r15.2.2.2.1), Vn, Vn, Vn, Vn], 27, none⟩, ⟨.pointer (some q2), [(Vi 0), (Vi 0), (Vi 0), Vn, Vn, Vn, Vn], 27, none⟩]) (fun _ => rfl) rfl rfl) (wt_none' rfl) fun ⟨⟩ => ?_
 refine s0 (rd_move' rfl) ?_
 obtain ⟨r78, hr78, hp⟩ := bind_some hp
 refine sx_ox' (ox_callg' (ent_inv' rfl rfl (inv_ptr0 (inv46_Endss _))) (gogeom_geom0_Endss_v5_sim _ _ _ _ _ hr78 : Sx.Fn Tryz.prog 98 [(Vp wa0)] [⟨.pointer (some wa0), [(Vi r75.1), (Vi r75.2.1), (Sl Kf r75.2.2.1), (Vi r75.2.2.2.1), (Sl (Ki .i64) r75.2.2.2.2)], 117, none⟩] (fun x : Unit => Vn) (fun x => [⟨.pointer (some wa0), [(Vi r78.1), (Vi r78.2.1), (Sl Kf r78.2.2.1), (Vi r78.2.2.2.1), (Sl (Ki .i64) r78.2.2.2.2)], 117, none⟩])) [0] [1, 2] (by decide) (pick_cons rfl pick_nil) (pick_cons rfl (pick_cons rfl pick_nil)) (Hn := fun x : Unit => [⟨.pointer (some wa0), [(Vi r78.1), (Vi r78.2.1), (Sl Kf r78.2.2.1), (Vi r78.2.2.2.1), (Sl (Ki .i64) r78.2.2.2.2)], 117, none⟩, ⟨.pointer (some q3), [(Vi 4), (Vi 0), (Vi r15.2.2.2.1), Vn, Vn, Vn, Vn], 27, none⟩, ⟨.pointer (some q2), [(Vi 0), (Vi 0), (Vi 0), Vn, Vn, Vn, Vn], 27, none⟩]) (fun _ => rfl) rfl rfl) (wt_none' rfl) fun ⟨⟩ => ?_
 obtain ⟨r79, hr79, hp⟩ := bind_some hp
 refine sx_ox' (ox_calln' (ent_fn' Tryz.func40 isn40 rfl rfl) (impl_intss_v2_sim hr79 : Sx.Fn Tryz.prog 40 [Vn] [] (fun x : Unit => Vn) (fun x => [])) (Hn := fun x : Unit => [⟨.pointer (some wa0), [(Vi r78.1), (Vi r78.2.1), (Sl Kf r78.2.2.1), (Vi r78.2.2.2.1), (Sl (Ki .i64) r78.2.2.2.2)], 117, none⟩, ⟨.pointer (some q3), [(Vi 4), (Vi 0), (Vi r15.2.2.2.1), Vn, Vn, Vn, Vn], 27, none⟩, ⟨.pointer (some q2), [(Vi 0), (Vi 0), (Vi 0), Vn, Vn, Vn, Vn], 27, none⟩]) (fun _ => rfl) rfl rfl) (wt_none' rfl) fun ⟨⟩ => ?_
 refine s0 (rd_field' (off := 1) rfl Tryz.underlying27 rfl info3 rfl) ?_
 refine sx_ox' (ox_store' (i := 1) (o := 1) rfl rfl (lv_vl rfl rfl) ⟨rfl, rfl, rfl, rfl⟩ rfl info3 rfl (H' := [⟨.pointer (some wa0), [(Vi r78.1), (Vi r78.2.1), (Sl Kf r78.2.2.1), (Vi r78.2.2.2.1), (Sl (Ki .i64) r78.2.2.2.2)], 117, none⟩, ⟨.pointer (some q3), [(Vi 4), (Vi r70.1), (Vi r15.2.2.2.1), Vn, Vn, Vn, Vn], 27, none⟩, ⟨.pointer (some q2), [(Vi 0), (Vi 0), (Vi 0), Vn, Vn, Vn, Vn], 27, none⟩]) rfl) (wt_none' rfl) fun _ => ?_
 refine s0 (rd_field' (off := 3) rfl Tryz.underlying27 rfl info22 rfl) ?_
 refine sx_ox' (ox_store' (i := 1) (o := 3) rfl rfl (lv_sl _ _) ⟨rfl, rfl, rfl, rfl⟩ rfl info22 rfl (H' := [⟨.pointer (some wa0), [(Vi r78.1), (Vi r78.2.1), (Sl Kf r78.2.2.1), (Vi r78.2.2.2.1), (Sl (Ki .i64) r78.2.2.2.2)], 117, none⟩, ⟨.pointer (some q3), [(Vi 4), (Vi r70.1), (Vi r15.2.2.2.1), (Sl Kf r73), Vn, Vn, Vn], 27, none⟩, ⟨.pointer (some q2), [(Vi 0), (Vi 0), (Vi 0), Vn, Vn, Vn, Vn], 27, none⟩]) rfl) (wt_none' rfl) fun _ => ?_
 refine s0 (rd_field' (off := 4) rfl Tryz.underlying27 rfl info23 rfl) ?_
 refine sx_ox' (ox_store' (i := 1) (o := 4) rfl rfl (lv_sl _ _) ⟨rfl, rfl, rfl, rfl⟩ rfl info23 rfl (H' := [⟨.pointer (some wa0), [(Vi r78.1), (Vi r78.2.1), (Sl Kf r78.2.2.1), (Vi r78.2.2.2.1), (Sl (Ki .i64) r78.2.2.2.2)], 117, none⟩, ⟨.pointer (some q3), [(Vi 4), (Vi r70.1), (Vi r15.2.2.2.1), (Sl Kf r73), (Sl (Ki .i64) y1), Vn, Vn], 27, none⟩, ⟨.pointer (some q2), [(Vi 0), (Vi 0), (Vi 0), Vn, Vn, Vn, Vn], 27, none⟩]) rfl) (wt_none' rfl) fun _ => ?_
 refine s0 (rd_field' (off := 5) rfl Tryz.underlying27 rfl info24 rfl) ?_
 refine sx_ox' (ox_store' (i := 1) (o := 5) rfl rfl (lv_vl rfl rfl) ⟨rfl, rfl, rfl, rfl⟩ rfl info24 rfl (H' := [⟨.pointer (some wa0), [(Vi r78.1), (Vi r78.2.1), (Sl Kf r78.2.2.1), (Vi r78.2.2.2.1), (Sl (Ki .i64) r78.2.2.2.2)], 117, none⟩, ⟨.pointer (some q3), [(Vi 4), (Vi r70.1), (Vi r15.2.2.2.1), (Sl Kf r73), (Sl (Ki .i64) y1), Vn, Vn], 27, none⟩, ⟨.pointer (some q2), [(Vi 0), (Vi 0), (Vi 0), Vn, Vn, Vn, Vn], 27, none⟩]) rfl) (wt_none' rfl) fun _ => ?_
 refine nk hK11 ?_
 refine cr fun K12 hK12 => ?_
 refine s0 (rd_load_agg' (i := 1) (o := 0) (nn := 7) rfl ⟨rfl, rfl, rfl, rfl⟩ rfl agg27 (l' := [(Vi 4), (Vi r70.1), (Vi r15.2.2.2.1), (Sl Kf r73), (Sl (Ki .i64) y1), Vn, Vn]) rfl) ?_
 refine sx_ox' (ox_store' (i := 2) (o := 0) rfl rfl (lv_ag _) ⟨rfl, rfl, rfl, rfl⟩ rfl info27 rfl (H' := [⟨.pointer (some wa0), [(Vi r78.1), (Vi r78.2.1), (Sl Kf r78.2.2.1), (Vi r78.2.2.2.1), (Sl (Ki .i64) r78.2.2.2.2)], 117, none⟩, ⟨.pointer (some q3), [(Vi 4), (Vi r70.1), (Vi r15.2.2.2.1), (Sl Kf r73), (Sl (Ki .i64) y1), Vn, Vn], 27, none⟩, ⟨.pointer (some q2), [(Vi 4), (Vi r70.1), (Vi r15.2.2.2.1), (Sl Kf r73), (Sl (Ki .i64) y1), Vn, Vn], 27, none⟩]) rfl) (wt_none' rfl) fun _ => ?_
 refine nk hK12 ?_
 refine cx_retc' ?_
 replace hp := Option.some.inj hp
 subst hp
 refine tx_pick' (L' := [(2, (Vp q2))]) (H' := [⟨.pointer (some wa0), [(Vi r78.1), (Vi r78.2.1), (Sl Kf r78.2.2.1), (Vi r78.2.2.2.1), (Sl (Ki .i64) r78.2.2.2.2)], 117, none⟩, ⟨.pointer (some q2), [(Vi 4), (Vi r70.1), (Vi r15.2.2.2.1), (Sl Kf r73), (Sl (Ki .i64) y1), Vn, Vn], 27, none⟩]) [0, 2] (sub_cons rfl sub_nil) (by decide) (pick_cons rfl (pick_cons rfl pick_nil)) ?_
 exact tx_ret1' Tryz.results12 rfl () (rv_cell_agg' (i := 1) (o := 0) (nn := 7) rfl ⟨rfl, rfl, rfl, rfl⟩ rfl agg27 rfl) (List.Sublist.cons_cons _ (List.nil_sublist _))

def gogeom_deriveDeepCopy_11_v6_j1 (k : Nat) (a1_0 : Int) (a1_1 : Int) (a1_3 : Int) (a1_2 : List Nat) (a1_4 : List Int) (x1 : List Nat) : Option (Int × Int × (List Nat) × Int × (List Nat) × (List Int)) :=
 some (a1_0, a1_1, x1, a1_3, a1_2, a1_4)
def gogeom_deriveDeepCopy_11_v6 (k : Nat) (a0_0 : Int) (a0_1 : Int) (a0_3 : Int) (a1_0 : Int) (a1_1 : Int) (a1_2 : List Nat) (a1_3 : Int) (a1_4 : List Int) : Option (Int × Int × (List Nat) × Int × (List Nat) × (List Int)) :=
 (mk 8 0 (a1_2.length : Int) (a1_2.length : Int)) >>= fun r105 =>
 gogeom_deriveDeepCopy_11_v6_j1 k a1_0 a1_1 a1_3 a1_2 a1_4 (cpy r105 a1_2)

theorem gogeom_deriveDeepCopy_11_v6_sim {k : Nat} {wa0 : Addr} {wa1 : Addr} (a0_0 : Int) (a0_1 : Int) (a0_3 : Int) (a1_0 : Int) (a1_1 : Int) (a1_2 : List Nat) (a1_3 : Int) (a1_4 : List Int) {out : Int × Int × (List Nat) × Int × (List Nat) × (List Int)} (hp : gogeom_deriveDeepCopy_11_v6 k a0_0 a0_1 a0_3 a1_0 a1_1 a1_2 a1_3 a1_4 = some out) : Sx.Fn Tryz.prog 74 [(Vp wa0), (Vp wa1)] [⟨.pointer (some wa0), [(Vi a0_0), (Vi a0_1), Vn, (Vi a0_3)], 105, none⟩, ⟨.pointer (some wa1), [(Vi a1_0), (Vi a1_1), (Sl Kf a1_2), (Vi a1_3), (Sl (Ki .i64) a1_4)], 118, none⟩] (fun w : Gs => (Vl (.tuple #[]))) (fun w => [⟨.pointer (some wa0), [(Vi out.1), (Vi out.2.1), (Vl (Vs w)), (Vi out.2.2.2.1)], 105, none⟩, (Rw Kf 95 (Vs w) out.2.2.1), ⟨.pointer (some wa1), [(Vi out.1), (Vi out.2.1), (Sl Kf out.2.2.2.2.1), (Vi out.2.2.2.1), (Sl (Ki .i64) out.2.2.2.2.2)], 118, none⟩]) := by
 unfold gogeom_deriveDeepCopy_11_v6 at hp
 refine fn_of Tryz.func74 rfl Tryz.ntmps74 rfl fun E hM => ?_
 refine cr fun K1 hK1 => ?_
 refine s0 (rd_move' rfl) ?_
 refine s0 (rd_move' rfl) ?_
 refine s0 (rd_nilck' rfl) ?_
 refine s0 (rd_field0' rfl Tryz.underlying105 rfl info54 rfl) ?_
 refine s0 (rd_load' (i := 1) (o := 0) rfl ⟨rfl, rfl, rfl, rfl⟩ rfl flat54) ?_
 refine s0 (rd_nilck' rfl) ?_
 refine s0 (rd_field0' rfl Tryz.underlying105 rfl info54 rfl) ?_
 refine sx_ox' (ox_store' (i := 0) (o := 0) rfl rfl (lv_vl rfl rfl) ⟨rfl, rfl, rfl, rfl⟩ rfl info54 rfl (H' := [⟨.pointer (some wa0), [(Vi a1_0), (Vi a0_1), Vn, (Vi a0_3)], 105, none⟩, ⟨.pointer (some wa1), [(Vi a1_0), (Vi a1_1), (Sl Kf a1_2), (Vi a1_3), (Sl (Ki .i64) a1_4)], 118, none⟩]) rfl) (wt_none' rfl) fun _ => ?_
 refine nk hK1 ?_
 refine cr fun K2 hK2 => ?_
 refine s0 (rd_move' rfl) ?_
 refine s0 (rd_move' rfl) ?_
 refine s0 (rd_nilck' rfl) ?_
 refine s0 (rd_field' (off := 1) rfl Tryz.underlying105 rfl info3 rfl) ?_
 refine s0 (rd_load' (i := 1) (o := 1) rfl ⟨rfl, rfl, rfl, rfl⟩ rfl flat3) ?_
 refine s0 (rd_nilck' rfl) ?_
 refine s0 (rd_field' (off := 1) rfl Tryz.underlying105 rfl info3 rfl) ?_
 refine sx_ox' (ox_store' (i := 0) (o := 1) rfl rfl (lv_vl rfl rfl) ⟨rfl, rfl, rfl, rfl⟩ rfl info3 rfl (H' := [⟨.pointer (some wa0), [(Vi a1_0), (Vi a1_1), Vn, (Vi a0_3)], 105, none⟩, ⟨.pointer (some wa1), [(Vi a1_0), (Vi a1_1), (Sl Kf a1_2), (Vi a1_3), (Sl (Ki .i64) a1_4)], 118, none⟩]) rfl) (wt_none' rfl) fun _ => ?_
 refine nk hK2 ?_
 refine cx_join' (fun (v1 : (List Nat) × Gs) => (⟨124, [], [(0, (Vp wa0)), (1, (Vp wa1))], [⟨.pointer (some wa0), [(Vi a1_0), (Vi a1_1), (Vl (Vs v1.2)), (Vi a0_3)], 105, none⟩, (Rw Kf 95 (Vs v1.2) v1.1), ⟨.pointer (some wa1), [(Vi a1_0), (Vi a1_1), (Sl Kf a1_2), (Vi a1_3), (Sl (Ki .i64) a1_4)], 118, none⟩]⟩ : St)) (fun (v1 : (List Nat) × Gs) => gogeom_deriveDeepCopy_11_v6_j1 k a1_0 a1_1 a1_3 a1_2 a1_4 v1.1 = some out) ?_ ?_
 ·rintro ⟨x1, g901⟩ hp
  replace hp : gogeom_deriveDeepCopy_11_v6_j1 k a1_0 a1_1 a1_3 a1_2 a1_4 x1 = some out := hp
  unfold gogeom_deriveDeepCopy_11_v6_j1 at hp
  refine cx_region' ?_
  refine s0 (rd_move' rfl) ?_
  refine s0 (rd_move' rfl) ?_
  refine s0 (rd_nilck' rfl) ?_
  refine s0 (rd_field' (off := 3) rfl Tryz.underlying105 rfl info3 rfl) ?_
  refine s0 (rd_load' (i := 2) (o := 3) rfl ⟨rfl, rfl, rfl, rfl⟩ rfl flat3) ?_
  refine s0 (rd_nilck' rfl) ?_
  refine s0 (rd_field' (off := 3) rfl Tryz.underlying105 rfl info3 rfl) ?_
  refine sx_ox' (ox_store' (i := 0) (o := 3) rfl rfl (lv_vl rfl rfl) ⟨rfl, rfl, rfl, rfl⟩ rfl info3 rfl (H' := [⟨.pointer (some wa0), [(Vi a1_0), (Vi a1_1), (Vl (Vs g901)), (Vi a1_3)], 105, none⟩, (Rw Kf 95 (Vs g901) x1), ⟨.pointer (some wa1), [(Vi a1_0), (Vi a1_1), (Sl Kf a1_2), (Vi a1_3), (Sl (Ki .i64) a1_4)], 118, none⟩]) rfl) (wt_none' rfl) fun _ => ?_
  refine sx_nil' ?_
  replace hp := Option.some.inj hp
  subst hp
  refine tx_pick' (L' := []) (H' := [⟨.pointer (some wa0), [(Vi a1_0), (Vi a1_1), (Vl (Vs g901)), (Vi a1_3)], 105, none⟩, (Rw Kf 95 (Vs g901) x1), ⟨.pointer (some wa1), [(Vi a1_0), (Vi a1_1), (Sl Kf a1_2), (Vi a1_3), (Sl (Ki .i64) a1_4)], 118, none⟩]) [0, 1, 2] sub_nil (by decide) (pick_cons rfl (pick_cons rfl (pick_cons rfl pick_nil))) ?_
  exact tx_end0' Tryz.results74 rfl g901 rfl (List.Sublist.refl _)
 intro K3 hK3
 refine cr fun K4 hK4 => ?_
 refine s0 (rd_move' rfl) ?_
 refine s0 (rd_nilck' rfl) ?_
 refine s0 (rd_field' (off := 2) rfl Tryz.underlying105 rfl info22 rfl) ?_
 refine s0 (rd_load' (i := 1) (o := 2) rfl ⟨rfl, rfl, rfl, rfl⟩ rfl flat22) ?_
 refine s0 (rd_nilany' rfl rfl (fun _ _ _ => by kernel_rfl) (fun _ _ _ _ => by kernel_rfl) nil_eql22_none nil_eql22_sl) ?_
 refine nk hK4 ?_
 refine tx_anybool' 22 rfl fun b1 hb1 => ?_
 refine cx_cond' rfl (fun h1 => ?_) (fun h1 => ?_)
 ·replace hp : gogeom_deriveDeepCopy_11_v6_j1 k a1_0 a1_1 a1_3 a1_2 a1_4 [] = some out := by
   rw [hb1 h1] at hp
   first | exact hp | (rw [hb1 h1]; exact hp)
  refine cx_region' ?_
  refine s0 (rd_move' rfl) ?_
  refine s0 (rd_nilck' rfl) ?_
  refine s0 (rd_field' (off := 2) rfl Tryz.underlying105 rfl info22 rfl) ?_
  refine tx_nilrow' Kf 95 ?_
  refine sx_ox' (ox_store' (i := 1) (o := 2) rfl rfl (lv_vl rfl rfl) ⟨rfl, rfl, rfl, rfl⟩ rfl info22 rfl (H' := [(Rw Kf 95 (Vs (none, 0, 0)) []), ⟨.pointer (some wa0), [(Vi a1_0), (Vi a1_1), (Vl (Vs (none, 0, 0))), (Vi a0_3)], 105, none⟩, ⟨.pointer (some wa1), [(Vi a1_0), (Vi a1_1), (Sl Kf a1_2), (Vi a1_3), (Sl (Ki .i64) a1_4)], 118, none⟩]) rfl) (wt_none' rfl) fun _ => ?_
  refine sx_nil' ?_
  show TX E K3 _
  exact tx_pick' [1, 0, 2] (sub_cons rfl (sub_cons rfl sub_nil)) (by decide) (pick_cons rfl (pick_cons rfl (pick_cons rfl pick_nil))) (hK3 ([], (none, 0, 0)) hp)
 clear h1
 refine cx_seq' fun K5 hK5 => ?_
 refine cr fun K6 hK6 => ?_
 refine s0 (rd_move' rfl) ?_
 refine s0 (rd_nilck' rfl) ?_
 refine s0 (rd_field' (off := 2) rfl Tryz.underlying105 rfl info22 rfl) ?_
 refine s0 (rd_load' (i := 0) (o := 2) rfl ⟨rfl, rfl, rfl, rfl⟩ rfl flat22) ?_
 refine s0 (rd_binf' rfl rfl (bf_vl (fun _ => by kernel_rfl) nil_neq22_nilsl)) ?_
 refine nk hK6 ?_
 refine cx_cond_f' rfl rfl ?_
 refine cx_region' ?_
 refine s0 (rd_move' rfl) ?_
 refine s0 (rd_move' rfl) ?_
 refine s0 (rd_nilck' rfl) ?_
 refine s0 (rd_field' (off := 2) rfl Tryz.underlying105 rfl info22 rfl) ?_
 refine s0 (rd_load' (i := 1) (o := 2) rfl ⟨rfl, rfl, rfl, rfl⟩ rfl flat22) ?_
 refine s0 (rd_len' rfl Tryz.underlying22) ?_
 obtain ⟨r105, hr105, hp⟩ := bind_some hp
 refine sx_ox' (ox_make' (K := Kf) rfl rfl hr105 rfl Tryz.underlying22 info95 rfl rfl rfl rfl rfl) (wt_none' rfl) fun g105 => ?_
 refine s0 (rd_nilck' rfl) ?_
 refine s0 (rd_field' (off := 2) rfl Tryz.underlying105 rfl info22 rfl) ?_
 refine sx_ox' (ox_store' (i := 1) (o := 2) rfl rfl (lv_vl rfl rfl) ⟨rfl, rfl, rfl, rfl⟩ rfl info22 rfl (H' := [(Rw Kf 95 (Vs g105) r105), ⟨.pointer (some wa0), [(Vi a1_0), (Vi a1_1), (Vl (Vs g105)), (Vi a0_3)], 105, none⟩, ⟨.pointer (some wa1), [(Vi a1_0), (Vi a1_1), (Sl Kf a1_2), (Vi a1_3), (Sl (Ki .i64) a1_4)], 118, none⟩]) rfl) (wt_none' rfl) fun _ => ?_
 refine nk hK5 ?_
 refine cx_plan' [] [(8, 1)] [(0, 1), (1, 1), (2, 1), (3, 1), (4, 1), (5, 1), (6, 1), (7, 1), (8, 0)] mixed (by kernel_rfl) ?_
 refine px_rd' rfl (rd_move' rfl) rfl rfl (wt_none' rfl) ?_
 refine px_rd' rfl (rd_nilck' rfl) rfl rfl (wt_none' rfl) ?_
 refine px_rd' rfl (rd_field' (off := 2) rfl Tryz.underlying105 rfl info22 rfl) rfl rfl (wt_none' rfl) ?_
 refine px_rd' rfl (rd_load' (i := 1) (o := 2) rfl ⟨rfl, rfl, rfl, rfl⟩ rfl flat22) rfl rfl (wt_none' rfl) ?_
 refine px_rd' rfl (rd_move' rfl) rfl rfl (wt_none' rfl) ?_
 refine px_rd' rfl (rd_nilck' rfl) rfl rfl (wt_none' rfl) ?_
 refine px_rd' rfl (rd_field' (off := 2) rfl Tryz.underlying105 rfl info22 rfl) rfl rfl (wt_none' rfl) ?_
 refine px_rd' rfl (rd_load' (i := 2) (o := 2) rfl ⟨rfl, rfl, rfl, rfl⟩ rfl flat22) rfl rfl (wt_none' rfl) ?_
 refine px_ox' rfl (ox_copy' (i := 0) rfl rfl rfl rfl rfl Tryz.underlying22 info95 rfl rfl (H' := [(Rw Kf 95 (Vs g105) (cpy r105 a1_2)), ⟨.pointer (some wa0), [(Vi a1_0), (Vi a1_1), (Vl (Vs g105)), (Vi a0_3)], 105, none⟩, ⟨.pointer (some wa1), [(Vi a1_0), (Vi a1_1), (Sl Kf a1_2), (Vi a1_3), (Sl (Ki .i64) a1_4)], 118, none⟩]) rfl) rfl bs_nil (wt_none' rfl) fun _ => ?_
 refine px_nil' ?_
 show TX E K3 _
 exact tx_pick' [1, 0, 2] (sub_cons rfl (sub_cons rfl sub_nil)) (by decide) (pick_cons rfl (pick_cons rfl (pick_cons rfl pick_nil))) (hK3 ((cpy r105 a1_2), g105) hp)

def gogeom_deriveDeepCopy_8_v5 (k : Nat) (a0_0 : Int) (a0_1 : Int) (a0_3 : Int) (a1_0 : Int) (a1_1 : Int) (a1_2 : List Nat) (a1_3 : Int) (a1_4 : List Int) : Option (Int × Int × (List Nat) × Int × (List Nat) × (List Int)) :=
 (gogeom_deriveDeepCopy_11_v6 k 0 0 0 a1_0 a1_1 a1_2 a1_3 a1_4) >>= fun r10 =>
 some (r10.1, r10.2.1, r10.2.2.1, r10.2.2.2.1, r10.2.2.2.2.1, r10.2.2.2.2.2)

theorem gogeom_deriveDeepCopy_8_v5_sim {k : Nat} {wa0 : Addr} {wa1 : Addr} (a0_0 : Int) (a0_1 : Int) (a0_3 : Int) (a1_0 : Int) (a1_1 : Int) (a1_2 : List Nat) (a1_3 : Int) (a1_4 : List Int) {out : Int × Int × (List Nat) × Int × (List Nat) × (List Int)} (hp : gogeom_deriveDeepCopy_8_v5 k a0_0 a0_1 a0_3 a1_0 a1_1 a1_2 a1_3 a1_4 = some out) : Sx.Fn Tryz.prog 75 [(Vp wa0), (Vp wa1)] [⟨.pointer (some wa0), [(Vi a0_0), (Vi a0_1), Vn, (Vi a0_3)], 108, none⟩, ⟨.pointer (some wa1), [(Vi a1_0), (Vi a1_1), (Sl Kf a1_2), (Vi a1_3), (Sl (Ki .i64) a1_4)], 118, none⟩] (fun w : Gs => (Vl (.tuple #[]))) (fun w => [⟨.pointer (some wa0), [(Vi out.1), (Vi out.2.1), (Vl (Vs w)), (Vi out.2.2.2.1)], 108, none⟩, (Rw Kf 95 (Vs w) out.2.2.1), ⟨.pointer (some wa1), [(Vi out.1), (Vi out.2.1), (Sl Kf out.2.2.2.2.1), (Vi out.2.2.2.1), (Sl (Ki .i64) out.2.2.2.2.2)], 118, none⟩]) := by
 unfold gogeom_deriveDeepCopy_8_v5 at hp
 refine fn_of Tryz.func75 rfl Tryz.ntmps75 rfl fun E hM => ?_
 refine cr fun K1 hK1 => ?_
 refine sx_ox' (ox_alloc' info105 rfl rfl rfl rfl (l := [(Vi 0), (Vi 0), Vn, (Vi 0)]) rfl) (wt_none' rfl) fun q5 => ?_
 refine s0 (rd_assign' rfl) ?_
 refine nk hK1 ?_
 refine cr fun K2 hK2 => ?_
 refine s0 (rd_move' rfl) ?_
 refine s0 (rd_move' rfl) ?_
 refine s0 (rd_nilck' rfl) ?_
 refine s0 (rd_field0' rfl Tryz.underlying108 rfl info105 rfl) ?_
 obtain ⟨r10, hr10, hp⟩ := bind_some hp
 refine sx_ox' (ox_callg' (ent_fn' Tryz.func74 isn74 rfl rfl) (gogeom_deriveDeepCopy_11_v6_sim _ _ _ _ _ _ _ _ hr10 : Sx.Fn Tryz.prog 74 [(Vp q5), (Vp wa1)] [⟨.pointer (some q5), [(Vi 0), (Vi 0), Vn, (Vi 0)], 105, none⟩, ⟨.pointer (some wa1), [(Vi a1_0), (Vi a1_1), (Sl Kf a1_2), (Vi a1_3), (Sl (Ki .i64) a1_4)], 118, none⟩] (fun x : Gs => (Vl (.tuple #[]))) (fun x => [⟨.pointer (some q5), [(Vi r10.1), (Vi r10.2.1), (Vl (Vs x)), (Vi r10.2.2.2.1)], 105, none⟩, (Rw Kf 95 (Vs x) r10.2.2.1), ⟨.pointer (some wa1), [(Vi r10.1), (Vi r10.2.1), (Sl Kf r10.2.2.2.2.1), (Vi r10.2.2.2.1), (Sl (Ki .i64) r10.2.2.2.2.2)], 118, none⟩])) [0, 2] [1] (by decide) (pick_cons rfl (pick_cons rfl pick_nil)) (pick_cons rfl pick_nil) (Hn := fun x : Gs => [⟨.pointer (some q5), [(Vi r10.1), (Vi r10.2.1), (Vl (Vs x)), (Vi r10.2.2.2.1)], 105, none⟩, (Rw Kf 95 (Vs x) r10.2.2.1), ⟨.pointer (some wa1), [(Vi r10.1), (Vi r10.2.1), (Sl Kf r10.2.2.2.2.1), (Vi r10.2.2.2.1), (Sl (Ki .i64) r10.2.2.2.2.2)], 118, none⟩, ⟨.pointer (some wa0), [(Vi a0_0), (Vi a0_1), Vn, (Vi a0_3)], 108, none⟩]) (fun _ => rfl) rfl rfl) (wt_none' rfl) fun g10 => ?_
 refine nk hK2 ?_
 refine cx_region' ?_
 refine s0 (rd_move' rfl) ?_
 refine s0 (rd_move' rfl) ?_
 refine s0 (rd_nilck' rfl) ?_
 refine s0 (rd_load_agg' (i := 0) (o := 0) (nn := 4) rfl ⟨rfl, rfl, rfl, rfl⟩ rfl agg105 (l' := [(Vi r10.1), (Vi r10.2.1), (Vl (Vs g10)), (Vi r10.2.2.2.1)]) rfl) ?_
 refine s0 (rd_nilck' rfl) ?_
 refine s0 (rd_field0' rfl Tryz.underlying108 rfl info105 rfl) ?_
 refine sx_ox' (ox_store' (i := 3) (o := 0) rfl rfl (lv_ag _) ⟨rfl, rfl, rfl, rfl⟩ rfl info105 rfl (H' := [⟨.pointer (some q5), [(Vi r10.1), (Vi r10.2.1), (Vl (Vs g10)), (Vi r10.2.2.2.1)], 105, none⟩, (Rw Kf 95 (Vs g10) r10.2.2.1), ⟨.pointer (some wa1), [(Vi r10.1), (Vi r10.2.1), (Sl Kf r10.2.2.2.2.1), (Vi r10.2.2.2.1), (Sl (Ki .i64) r10.2.2.2.2.2)], 118, none⟩, ⟨.pointer (some wa0), [(Vi r10.1), (Vi r10.2.1), (Vl (Vs g10)), (Vi r10.2.2.2.1)], 108, none⟩]) rfl) (wt_none' rfl) fun _ => ?_
 refine sx_nil' ?_
 replace hp := Option.some.inj hp
 subst hp
 refine tx_pick' (L' := []) (H' := [⟨.pointer (some wa0), [(Vi r10.1), (Vi r10.2.1), (Vl (Vs g10)), (Vi r10.2.2.2.1)], 108, none⟩, (Rw Kf 95 (Vs g10) r10.2.2.1), ⟨.pointer (some wa1), [(Vi r10.1), (Vi r10.2.1), (Sl Kf r10.2.2.2.2.1), (Vi r10.2.2.2.1), (Sl (Ki .i64) r10.2.2.2.2.2)], 118, none⟩]) [3, 1, 2] sub_nil (by decide) (pick_cons rfl (pick_cons rfl (pick_cons rfl pick_nil))) ?_
 exact tx_end0' Tryz.results75 rfl g10 rfl (List.Sublist.refl _)

def gogeom_deriveDeepCopy_9_v3 (k : Nat) (a0_0 : Int) (a0_1 : Int) (a0_3 : Int) (a1_0 : Int) (a1_1 : Int) (a1_2 : List Nat) (a1_3 : Int) (a1_4 : List Int) : Option (Int × Int × (List Nat) × Int × (List Int) × (List Nat) × (List Int)) :=
 (gogeom_deriveDeepCopy_8_v5 k 0 0 0 a1_0 a1_1 a1_2 a1_3 a1_4) >>= fun r10 =>
 (mk 8 0 (r10.2.2.2.2.2.length : Int) (r10.2.2.2.2.2.length : Int)) >>= fun r104 =>
 some (r10.1, r10.2.1, r10.2.2.1, r10.2.2.2.1, cpy r104 r10.2.2.2.2.2, r10.2.2.2.2.1, r10.2.2.2.2.2)

theorem gogeom_deriveDeepCopy_9_v3_sim {k : Nat} {wa0 : Addr} {wa1 : Addr} (a0_0 : Int) (a0_1 : Int) (a0_3 : Int) (a1_0 : Int) (a1_1 : Int) (a1_2 : List Nat) (a1_3 : Int) (a1_4 : List Int) {out : Int × Int × (List Nat) × Int × (List Int) × (List Nat) × (List Int)} (hp : gogeom_deriveDeepCopy_9_v3 k a0_0 a0_1 a0_3 a1_0 a1_1 a1_2 a1_3 a1_4 = some out) : Sx.Fn Tryz.prog 76 [(Vp wa0), (Vp wa1)] [⟨.pointer (some wa0), [(Vi a0_0), (Vi a0_1), Vn, (Vi a0_3), Vn], 113, none⟩, ⟨.pointer (some wa1), [(Vi a1_0), (Vi a1_1), (Sl Kf a1_2), (Vi a1_3), (Sl (Ki .i64) a1_4)], 118, none⟩] (fun w : Gs × Gs => (Vl (.tuple #[]))) (fun w => [⟨.pointer (some wa0), [(Vi out.1), (Vi out.2.1), (Vl (Vs w.1)), (Vi out.2.2.2.1), (Vl (Vs w.2))], 113, none⟩, (Rw Kf 95 (Vs w.1) out.2.2.1), (Rw (Ki .i64) 3 (Vs w.2) out.2.2.2.2.1), ⟨.pointer (some wa1), [(Vi out.1), (Vi out.2.1), (Sl Kf out.2.2.2.2.2.1), (Vi out.2.2.2.1), (Sl (Ki .i64) out.2.2.2.2.2.2)], 118, none⟩]) := by
 unfold gogeom_deriveDeepCopy_9_v3 at hp
 refine fn_of Tryz.func76 rfl Tryz.ntmps76 rfl fun E hM => ?_
 refine cx_seq' fun K1 hK1 => ?_
 refine cr fun K2 hK2 => ?_
 refine sx_ox' (ox_alloc' info108 rfl rfl rfl rfl (l := [(Vi 0), (Vi 0), Vn, (Vi 0)]) rfl) (wt_none' rfl) fun q5 => ?_
 refine s0 (rd_assign' rfl) ?_
 refine nk hK2 ?_
 refine cr fun K3 hK3 => ?_
 refine s0 (rd_move' rfl) ?_
 refine s0 (rd_move' rfl) ?_
 refine s0 (rd_nilck' rfl) ?_
 refine s0 (rd_field0' rfl Tryz.underlying113 rfl info108 rfl) ?_
 obtain ⟨r10, hr10, hp⟩ := bind_some hp
 refine sx_ox' (ox_callg' (ent_fn' Tryz.func75 isn75 rfl rfl) (gogeom_deriveDeepCopy_8_v5_sim _ _ _ _ _ _ _ _ hr10 : Sx.Fn Tryz.prog 75 [(Vp q5), (Vp wa1)] [⟨.pointer (some q5), [(Vi 0), (Vi 0), Vn, (Vi 0)], 108, none⟩, ⟨.pointer (some wa1), [(Vi a1_0), (Vi a1_1), (Sl Kf a1_2), (Vi a1_3), (Sl (Ki .i64) a1_4)], 118, none⟩] (fun x : Gs => (Vl (.tuple #[]))) (fun x => [⟨.pointer (some q5), [(Vi r10.1), (Vi r10.2.1), (Vl (Vs x)), (Vi r10.2.2.2.1)], 108, none⟩, (Rw Kf 95 (Vs x) r10.2.2.1), ⟨.pointer (some wa1), [(Vi r10.1), (Vi r10.2.1), (Sl Kf r10.2.2.2.2.1), (Vi r10.2.2.2.1), (Sl (Ki .i64) r10.2.2.2.2.2)], 118, none⟩])) [0, 2] [1] (by decide) (pick_cons rfl (pick_cons rfl pick_nil)) (pick_cons rfl pick_nil) (Hn := fun x : Gs => [⟨.pointer (some q5), [(Vi r10.1), (Vi r10.2.1), (Vl (Vs x)), (Vi r10.2.2.2.1)], 108, none⟩, (Rw Kf 95 (Vs x) r10.2.2.1), ⟨.pointer (some wa1), [(Vi r10.1), (Vi r10.2.1), (Sl Kf r10.2.2.2.2.1), (Vi r10.2.2.2.1), (Sl (Ki .i64) r10.2.2.2.2.2)], 118, none⟩, ⟨.pointer (some wa0), [(Vi a0_0), (Vi a0_1), Vn, (Vi a0_3), Vn], 113, none⟩]) (fun _ => rfl) rfl rfl) (wt_none' rfl) fun g10 => ?_
 refine nk hK3 ?_
 refine cx_region' ?_
 refine s0 (rd_move' rfl) ?_
 refine s0 (rd_move' rfl) ?_
 refine s0 (rd_nilck' rfl) ?_
 refine s0 (rd_load_agg' (i := 0) (o := 0) (nn := 4) rfl ⟨rfl, rfl, rfl, rfl⟩ rfl agg108 (l' := [(Vi r10.1), (Vi r10.2.1), (Vl (Vs g10)), (Vi r10.2.2.2.1)]) rfl) ?_
 refine s0 (rd_nilck' rfl) ?_
 refine s0 (rd_field0' rfl Tryz.underlying113 rfl info108 rfl) ?_
 refine sx_ox' (ox_store' (i := 3) (o := 0) rfl rfl (lv_ag _) ⟨rfl, rfl, rfl, rfl⟩ rfl info108 rfl (H' := [⟨.pointer (some q5), [(Vi r10.1), (Vi r10.2.1), (Vl (Vs g10)), (Vi r10.2.2.2.1)], 108, none⟩, (Rw Kf 95 (Vs g10) r10.2.2.1), ⟨.pointer (some wa1), [(Vi r10.1), (Vi r10.2.1), (Sl Kf r10.2.2.2.2.1), (Vi r10.2.2.2.1), (Sl (Ki .i64) r10.2.2.2.2.2)], 118, none⟩, ⟨.pointer (some wa0), [(Vi r10.1), (Vi r10.2.1), (Vl (Vs g10)), (Vi r10.2.2.2.1), Vn], 113, none⟩]) rfl) (wt_none' rfl) fun _ => ?_
 refine nk hK1 ?_
 refine cr fun K4 hK4 => ?_
 refine s0 (rd_move' rfl) ?_
 refine s0 (rd_nilck' rfl) ?_
 refine s0 (rd_field' (off := 4) rfl Tryz.underlying113 rfl info23 rfl) ?_
 refine s0 (rd_load' (i := 2) (o := 4) rfl ⟨rfl, rfl, rfl, rfl⟩ rfl flat23) ?_
 refine s0 (rd_nilany' rfl rfl (fun _ _ _ => by kernel_rfl) (fun _ _ _ _ => by kernel_rfl) nil_eql23_none nil_eql23_sl) ?_
 refine nk hK4 ?_
 refine tx_anybool' 21 rfl fun b1 hb1 => ?_
 refine cx_cond' rfl (fun h1 => ?_) (fun h1 => ?_)
 ·replace hp : some (r10.1, r10.2.1, r10.2.2.1, r10.2.2.2.1, [], r10.2.2.2.2.1, r10.2.2.2.2.2) = some out := by
   rw [hb1 h1] at hp
   first | exact hp | (rw [hb1 h1]; exact hp)
  refine cx_region' ?_
  refine s0 (rd_move' rfl) ?_
  refine s0 (rd_nilck' rfl) ?_
  refine s0 (rd_field' (off := 4) rfl Tryz.underlying113 rfl info23 rfl) ?_
  refine tx_nilrow' (Ki .i64) 3 ?_
  refine sx_ox' (ox_store' (i := 4) (o := 4) rfl rfl (lv_vl rfl rfl) ⟨rfl, rfl, rfl, rfl⟩ rfl info23 rfl (H' := [(Rw (Ki .i64) 3 (Vs (none, 0, 0)) []), ⟨.pointer (some q5), [(Vi r10.1), (Vi r10.2.1), (Vl (Vs g10)), (Vi r10.2.2.2.1)], 108, none⟩, (Rw Kf 95 (Vs g10) r10.2.2.1), ⟨.pointer (some wa1), [(Vi r10.1), (Vi r10.2.1), (Sl Kf r10.2.2.2.2.1), (Vi r10.2.2.2.1), (Sl (Ki .i64) r10.2.2.2.2.2)], 118, none⟩, ⟨.pointer (some wa0), [(Vi r10.1), (Vi r10.2.1), (Vl (Vs g10)), (Vi r10.2.2.2.1), (Vl (Vs (none, 0, 0)))], 113, none⟩]) rfl) (wt_none' rfl) fun _ => ?_
  refine sx_nil' ?_
  replace hp := Option.some.inj hp
  subst hp
  refine tx_pick' (L' := []) (H' := [⟨.pointer (some wa0), [(Vi r10.1), (Vi r10.2.1), (Vl (Vs g10)), (Vi r10.2.2.2.1), (Vl (Vs (none, 0, 0)))], 113, none⟩, (Rw Kf 95 (Vs g10) r10.2.2.1), (Rw (Ki .i64) 3 (Vs (none, 0, 0)) []), ⟨.pointer (some wa1), [(Vi r10.1), (Vi r10.2.1), (Sl Kf r10.2.2.2.2.1), (Vi r10.2.2.2.1), (Sl (Ki .i64) r10.2.2.2.2.2)], 118, none⟩]) [4, 2, 0, 3] sub_nil (by decide) (pick_cons rfl (pick_cons rfl (pick_cons rfl (pick_cons rfl pick_nil)))) ?_
  exact tx_end0' Tryz.results76 rfl (g10, (none, 0, 0)) rfl (List.Sublist.refl _)
 clear h1
 refine cx_seq' fun K5 hK5 => ?_
 refine cr fun K6 hK6 => ?_
 refine s0 (rd_move' rfl) ?_
 refine s0 (rd_nilck' rfl) ?_
 refine s0 (rd_field' (off := 4) rfl Tryz.underlying113 rfl info23 rfl) ?_
 refine s0 (rd_load' (i := 3) (o := 4) rfl ⟨rfl, rfl, rfl, rfl⟩ rfl flat23) ?_
 refine s0 (rd_binf' rfl rfl (bf_vl (fun _ => by kernel_rfl) nil_neq23_nilsl)) ?_
 refine nk hK6 ?_
 refine cx_cond_f' rfl rfl ?_
 refine cx_region' ?_
 refine s0 (rd_move' rfl) ?_
 refine s0 (rd_move' rfl) ?_
 refine s0 (rd_nilck' rfl) ?_
 refine s0 (rd_field' (off := 4) rfl Tryz.underlying113 rfl info23 rfl) ?_
 refine s0 (rd_load' (i := 2) (o := 4) rfl ⟨rfl, rfl, rfl, rfl⟩ rfl flat23) ?_
 refine s0 (rd_len' rfl Tryz.underlying23) ?_
 obtain ⟨r104, hr104, hp⟩ := bind_some hp
 refine sx_ox' (ox_make' (K := (Ki .i64)) rfl rfl hr104 rfl Tryz.underlying23 info3 rfl rfl rfl rfl rfl) (wt_none' rfl) fun g104 => ?_
 refine s0 (rd_nilck' rfl) ?_
 refine s0 (rd_field' (off := 4) rfl Tryz.underlying113 rfl info23 rfl) ?_
 refine sx_ox' (ox_store' (i := 4) (o := 4) rfl rfl (lv_vl rfl rfl) ⟨rfl, rfl, rfl, rfl⟩ rfl info23 rfl (H' := [(Rw (Ki .i64) 3 (Vs g104) r104), ⟨.pointer (some q5), [(Vi r10.1), (Vi r10.2.1), (Vl (Vs g10)), (Vi r10.2.2.2.1)], 108, none⟩, (Rw Kf 95 (Vs g10) r10.2.2.1), ⟨.pointer (some wa1), [(Vi r10.1), (Vi r10.2.1), (Sl Kf r10.2.2.2.2.1), (Vi r10.2.2.2.1), (Sl (Ki .i64) r10.2.2.2.2.2)], 118, none⟩, ⟨.pointer (some wa0), [(Vi r10.1), (Vi r10.2.1), (Vl (Vs g10)), (Vi r10.2.2.2.1), (Vl (Vs g104))], 113, none⟩]) rfl) (wt_none' rfl) fun _ => ?_
 refine nk hK5 ?_
 refine cx_plan' [] [(8, 1)] [(0, 1), (1, 1), (2, 1), (3, 1), (4, 1), (5, 1), (6, 1), (7, 1), (8, 0)] mixed (by kernel_rfl) ?_
 refine px_rd' rfl (rd_move' rfl) rfl rfl (wt_none' rfl) ?_
 refine px_rd' rfl (rd_nilck' rfl) rfl rfl (wt_none' rfl) ?_
 refine px_rd' rfl (rd_field' (off := 4) rfl Tryz.underlying113 rfl info23 rfl) rfl rfl (wt_none' rfl) ?_
 refine px_rd' rfl (rd_load' (i := 4) (o := 4) rfl ⟨rfl, rfl, rfl, rfl⟩ rfl flat23) rfl rfl (wt_none' rfl) ?_
 refine px_rd' rfl (rd_move' rfl) rfl rfl (wt_none' rfl) ?_
 refine px_rd' rfl (rd_nilck' rfl) rfl rfl (wt_none' rfl) ?_
 refine px_rd' rfl (rd_field' (off := 4) rfl Tryz.underlying113 rfl info23 rfl) rfl rfl (wt_none' rfl) ?_
 refine px_rd' rfl (rd_load' (i := 3) (o := 4) rfl ⟨rfl, rfl, rfl, rfl⟩ rfl flat23) rfl rfl (wt_none' rfl) ?_
 refine px_ox' rfl (ox_copy' (i := 0) rfl rfl rfl rfl rfl Tryz.underlying23 info3 rfl rfl (H' := [(Rw (Ki .i64) 3 (Vs g104) (cpy r104 r10.2.2.2.2.2)), ⟨.pointer (some q5), [(Vi r10.1), (Vi r10.2.1), (Vl (Vs g10)), (Vi r10.2.2.2.1)], 108, none⟩, (Rw Kf 95 (Vs g10) r10.2.2.1), ⟨.pointer (some wa1), [(Vi r10.1), (Vi r10.2.1), (Sl Kf r10.2.2.2.2.1), (Vi r10.2.2.2.1), (Sl (Ki .i64) r10.2.2.2.2.2)], 118, none⟩, ⟨.pointer (some wa0), [(Vi r10.1), (Vi r10.2.1), (Vl (Vs g10)), (Vi r10.2.2.2.1), (Vl (Vs g104))], 113, none⟩]) rfl) rfl bs_nil (wt_none' rfl) fun _ => ?_
 refine px_nil' ?_
 replace hp := Option.some.inj hp
 subst hp
 refine tx_pick' (L' := []) (H' := [⟨.pointer (some wa0), [(Vi r10.1), (Vi r10.2.1), (Vl (Vs g10)), (Vi r10.2.2.2.1), (Vl (Vs g104))], 113, none⟩, (Rw Kf 95 (Vs g10) r10.2.2.1), (Rw (Ki .i64) 3 (Vs g104) (cpy r104 r10.2.2.2.2.2)), ⟨.pointer (some wa1), [(Vi r10.1), (Vi r10.2.1), (Sl Kf r10.2.2.2.2.1), (Vi r10.2.2.2.1), (Sl (Ki .i64) r10.2.2.2.2.2)], 118, none⟩]) [4, 2, 0, 3] sub_nil (by decide) (pick_cons rfl (pick_cons rfl (pick_cons rfl (pick_cons rfl pick_nil)))) ?_
 exact tx_end0' Tryz.results76 rfl (g10, g104) rfl (List.Sublist.refl _)

def gogeom_deriveDeepCopy_3 (k : Nat) (a0_0 : Int) (a0_1 : Int) (a0_3 : Int) (a1_0 : Int) (a1_1 : Int) (a1_2 : List Nat) (a1_3 : Int) (a1_4 : List Int) : Option (Int × Int × (List Nat) × Int × (List Int) × (List Nat) × (List Int)) :=
 (gogeom_deriveDeepCopy_9_v3 k 0 0 0 a1_0 a1_1 a1_2 a1_3 a1_4) >>= fun r10 =>
 some (r10.1, r10.2.1, r10.2.2.1, r10.2.2.2.1, r10.2.2.2.2.1, r10.2.2.2.2.2.1, r10.2.2.2.2.2.2)

theorem gogeom_deriveDeepCopy_3_sim {k : Nat} {wa0 : Addr} {wa1 : Addr} (a0_0 : Int) (a0_1 : Int) (a0_3 : Int) (a1_0 : Int) (a1_1 : Int) (a1_2 : List Nat) (a1_3 : Int) (a1_4 : List Int) {out : Int × Int × (List Nat) × Int × (List Int) × (List Nat) × (List Int)} (hp : gogeom_deriveDeepCopy_3 k a0_0 a0_1 a0_3 a1_0 a1_1 a1_2 a1_3 a1_4 = some out) : Sx.Fn Tryz.prog 70 [(Vp wa0), (Vp wa1)] [⟨.pointer (some wa0), [(Vi a0_0), (Vi a0_1), Vn, (Vi a0_3), Vn], 118, none⟩, ⟨.pointer (some wa1), [(Vi a1_0), (Vi a1_1), (Sl Kf a1_2), (Vi a1_3), (Sl (Ki .i64) a1_4)], 118, none⟩] (fun w : Gs × Gs => (Vl (.tuple #[]))) (fun w => [⟨.pointer (some wa0), [(Vi out.1), (Vi out.2.1), (Vl (Vs w.1)), (Vi out.2.2.2.1), (Vl (Vs w.2))], 118, none⟩, (Rw Kf 95 (Vs w.1) out.2.2.1), (Rw (Ki .i64) 3 (Vs w.2) out.2.2.2.2.1), ⟨.pointer (some wa1), [(Vi out.1), (Vi out.2.1), (Sl Kf out.2.2.2.2.2.1), (Vi out.2.2.2.1), (Sl (Ki .i64) out.2.2.2.2.2.2)], 118, none⟩]) := by
 unfold gogeom_deriveDeepCopy_3 at hp
 refine fn_of Tryz.func70 rfl Tryz.ntmps70 rfl fun E hM => ?_
 refine cr fun K1 hK1 => ?_
 refine sx_ox' (ox_alloc' info113 rfl rfl rfl rfl (l := [(Vi 0), (Vi 0), Vn, (Vi 0), Vn]) rfl) (wt_none' rfl) fun q5 => ?_
 refine s0 (rd_assign' rfl) ?_
 refine nk hK1 ?_
 refine cr fun K2 hK2 => ?_
 refine s0 (rd_move' rfl) ?_
 refine s0 (rd_move' rfl) ?_
 refine s0 (rd_nilck' rfl) ?_
 refine s0 (rd_field0' rfl Tryz.underlying118 rfl info113 rfl) ?_
 obtain ⟨r10, hr10, hp⟩ := bind_some hp
 refine sx_ox' (ox_callg' (ent_fn' Tryz.func76 isn76 rfl rfl) (gogeom_deriveDeepCopy_9_v3_sim _ _ _ _ _ _ _ _ hr10 : Sx.Fn Tryz.prog 76 [(Vp q5), (Vp wa1)] [⟨.pointer (some q5), [(Vi 0), (Vi 0), Vn, (Vi 0), Vn], 113, none⟩, ⟨.pointer (some wa1), [(Vi a1_0), (Vi a1_1), (Sl Kf a1_2), (Vi a1_3), (Sl (Ki .i64) a1_4)], 118, none⟩] (fun x : Gs × Gs => (Vl (.tuple #[]))) (fun x => [⟨.pointer (some q5), [(Vi r10.1), (Vi r10.2.1), (Vl (Vs x.1)), (Vi r10.2.2.2.1), (Vl (Vs x.2))], 113, none⟩, (Rw Kf 95 (Vs x.1) r10.2.2.1), (Rw (Ki .i64) 3 (Vs x.2) r10.2.2.2.2.1), ⟨.pointer (some wa1), [(Vi r10.1), (Vi r10.2.1), (Sl Kf r10.2.2.2.2.2.1), (Vi r10.2.2.2.1), (Sl (Ki .i64) r10.2.2.2.2.2.2)], 118, none⟩])) [0, 2] [1] (by decide) (pick_cons rfl (pick_cons rfl pick_nil)) (pick_cons rfl pick_nil) (Hn := fun x : Gs × Gs => [⟨.pointer (some q5), [(Vi r10.1), (Vi r10.2.1), (Vl (Vs x.1)), (Vi r10.2.2.2.1), (Vl (Vs x.2))], 113, none⟩, (Rw Kf 95 (Vs x.1) r10.2.2.1), (Rw (Ki .i64) 3 (Vs x.2) r10.2.2.2.2.1), ⟨.pointer (some wa1), [(Vi r10.1), (Vi r10.2.1), (Sl Kf r10.2.2.2.2.2.1), (Vi r10.2.2.2.1), (Sl (Ki .i64) r10.2.2.2.2.2.2)], 118, none⟩, ⟨.pointer (some wa0), [(Vi a0_0), (Vi a0_1), Vn, (Vi a0_3), Vn], 118, none⟩]) (fun _ => rfl) rfl rfl) (wt_none' rfl) fun ⟨g10, gz1⟩ => ?_
 refine nk hK2 ?_
 refine cx_region' ?_
 refine s0 (rd_move' rfl) ?_
 refine s0 (rd_move' rfl) ?_
 refine s0 (rd_nilck' rfl) ?_
 refine s0 (rd_load_agg' (i := 0) (o := 0) (nn := 5) rfl ⟨rfl, rfl, rfl, rfl⟩ rfl agg113 (l' := [(Vi r10.1), (Vi r10.2.1), (Vl (Vs g10)), (Vi r10.2.2.2.1), (Vl (Vs gz1))]) rfl) ?_
 refine s0 (rd_nilck' rfl) ?_
 refine s0 (rd_field0' rfl Tryz.underlying118 rfl info113 rfl) ?_
 refine sx_ox' (ox_store' (i := 4) (o := 0) rfl rfl (lv_ag _) ⟨rfl, rfl, rfl, rfl⟩ rfl info113 rfl (H' := [⟨.pointer (some q5), [(Vi r10.1), (Vi r10.2.1), (Vl (Vs g10)), (Vi r10.2.2.2.1), (Vl (Vs gz1))], 113, none⟩, (Rw Kf 95 (Vs g10) r10.2.2.1), (Rw (Ki .i64) 3 (Vs gz1) r10.2.2.2.2.1), ⟨.pointer (some wa1), [(Vi r10.1), (Vi r10.2.1), (Sl Kf r10.2.2.2.2.2.1), (Vi r10.2.2.2.1), (Sl (Ki .i64) r10.2.2.2.2.2.2)], 118, none⟩, ⟨.pointer (some wa0), [(Vi r10.1), (Vi r10.2.1), (Vl (Vs g10)), (Vi r10.2.2.2.1), (Vl (Vs gz1))], 118, none⟩]) rfl) (wt_none' rfl) fun _ => ?_
 refine sx_nil' ?_
 replace hp := Option.some.inj hp
 subst hp
 refine tx_pick' (L' := []) (H' := [⟨.pointer (some wa0), [(Vi r10.1), (Vi r10.2.1), (Vl (Vs g10)), (Vi r10.2.2.2.1), (Vl (Vs gz1))], 118, none⟩, (Rw Kf 95 (Vs g10) r10.2.2.1), (Rw (Ki .i64) 3 (Vs gz1) r10.2.2.2.2.1), ⟨.pointer (some wa1), [(Vi r10.1), (Vi r10.2.1), (Sl Kf r10.2.2.2.2.2.1), (Vi r10.2.2.2.1), (Sl (Ki .i64) r10.2.2.2.2.2.2)], 118, none⟩]) [4, 1, 2, 3] sub_nil (by decide) (pick_cons rfl (pick_cons rfl (pick_cons rfl (pick_cons rfl pick_nil)))) ?_
 exact tx_end0' Tryz.results70 rfl (g10, gz1) rfl (List.Sublist.refl _)

def gogeom_deriveCloneMultiLineString (k : Nat) (a0_0 : Int) (a0_1 : Int) (a0_2 : List Nat) (a0_3 : Int) (a0_4 : List Int) : Option (Int × Int × (List Nat) × Int × (List Int) × (List Nat) × (List Int)) :=
 (gogeom_deriveDeepCopy_3 k 0 0 0 a0_0 a0_1 a0_2 a0_3 a0_4) >>= fun r9 =>
 some (r9.1, r9.2.1, r9.2.2.2.2.2.1, r9.2.2.2.1, r9.2.2.2.2.2.2, r9.2.2.1, r9.2.2.2.2.1)

theorem gogeom_deriveCloneMultiLineString_sim {k : Nat} {wa0 : Addr} (a0_0 : Int) (a0_1 : Int) (a0_2 : List Nat) (a0_3 : Int) (a0_4 : List Int) {out : Int × Int × (List Nat) × Int × (List Int) × (List Nat) × (List Int)} (hp : gogeom_deriveCloneMultiLineString k a0_0 a0_1 a0_2 a0_3 a0_4 = some out) : Sx.Fn Tryz.prog 53 [(Vp wa0)] [⟨.pointer (some wa0), [(Vi a0_0), (Vi a0_1), (Sl Kf a0_2), (Vi a0_3), (Sl (Ki .i64) a0_4)], 118, none⟩] (fun w : Addr × Gs × Gs => (Vp w.1)) (fun w => [⟨.pointer (some wa0), [(Vi out.1), (Vi out.2.1), (Sl Kf out.2.2.1), (Vi out.2.2.2.1), (Sl (Ki .i64) out.2.2.2.2.1)], 118, none⟩, ⟨.pointer (some w.1), [(Vi out.1), (Vi out.2.1), (Vl (Vs w.2.1)), (Vi out.2.2.2.1), (Vl (Vs w.2.2))], 118, none⟩, (Rw Kf 95 (Vs w.2.1) out.2.2.2.2.2.1), (Rw (Ki .i64) 3 (Vs w.2.2) out.2.2.2.2.2.2)]) := by
 unfold gogeom_deriveCloneMultiLineString at hp
 refine fn_of Tryz.func53 rfl Tryz.ntmps53 rfl fun E hM => ?_
 refine cr fun K1 hK1 => ?_
 refine s0 (rd_assign' rfl) ?_
 refine nk hK1 ?_
 refine cx_seq' fun K2 hK2 => ?_
 refine cr fun K3 hK3 => ?_
 refine s0 (rd_move' rfl) ?_
 refine s0 (rd_binf' rfl rfl (bf_vl (fun _ => by kernel_rfl) (nil_eql48_ptr _))) ?_
 refine nk hK3 ?_
 refine cx_cond_f' rfl rfl ?_
 refine cx_skip' ?_
 show TX E K2 _
 refine tx_k' hK2 ?_
 refine cr fun K4 hK4 => ?_
 refine sx_ox' (ox_alloc' info118 rfl rfl rfl rfl (l := [(Vi 0), (Vi 0), Vn, (Vi 0), Vn]) rfl) (wt_none' rfl) fun q6 => ?_
 refine s0 (rd_assign' rfl) ?_
 refine nk hK4 ?_
 refine cr fun K5 hK5 => ?_
 refine s0 (rd_move' rfl) ?_
 refine s0 (rd_move' rfl) ?_
 obtain ⟨r9, hr9, hp⟩ := bind_some hp
 refine sx_ox' (ox_callg' (ent_fn' Tryz.func70 isn70 rfl rfl) (gogeom_deriveDeepCopy_3_sim _ _ _ _ _ _ _ _ hr9 : Sx.Fn Tryz.prog 70 [(Vp q6), (Vp wa0)] [⟨.pointer (some q6), [(Vi 0), (Vi 0), Vn, (Vi 0), Vn], 118, none⟩, ⟨.pointer (some wa0), [(Vi a0_0), (Vi a0_1), (Sl Kf a0_2), (Vi a0_3), (Sl (Ki .i64) a0_4)], 118, none⟩] (fun x : Gs × Gs => (Vl (.tuple #[]))) (fun x => [⟨.pointer (some q6), [(Vi r9.1), (Vi r9.2.1), (Vl (Vs x.1)), (Vi r9.2.2.2.1), (Vl (Vs x.2))], 118, none⟩, (Rw Kf 95 (Vs x.1) r9.2.2.1), (Rw (Ki .i64) 3 (Vs x.2) r9.2.2.2.2.1), ⟨.pointer (some wa0), [(Vi r9.1), (Vi r9.2.1), (Sl Kf r9.2.2.2.2.2.1), (Vi r9.2.2.2.1), (Sl (Ki .i64) r9.2.2.2.2.2.2)], 118, none⟩])) [0, 1] [] (by decide) (pick_cons rfl (pick_cons rfl pick_nil)) pick_nil (Hn := fun x : Gs × Gs => [⟨.pointer (some q6), [(Vi r9.1), (Vi r9.2.1), (Vl (Vs x.1)), (Vi r9.2.2.2.1), (Vl (Vs x.2))], 118, none⟩, (Rw Kf 95 (Vs x.1) r9.2.2.1), (Rw (Ki .i64) 3 (Vs x.2) r9.2.2.2.2.1), ⟨.pointer (some wa0), [(Vi r9.1), (Vi r9.2.1), (Sl Kf r9.2.2.2.2.2.1), (Vi r9.2.2.2.1), (Sl (Ki .i64) r9.2.2.2.2.2.2)], 118, none⟩]) (fun _ => rfl) rfl rfl) (wt_none' rfl) fun ⟨g9, gz1⟩ => ?_
 refine nk hK5 ?_
 refine cr fun K6 hK6 => ?_
 refine s0 (rd_move' rfl) ?_
 refine s0 (rd_assign' rfl) ?_
 refine nk hK6 ?_
 refine cx_retc' ?_
 replace hp := Option.some.inj hp
 subst hp
 refine tx_pick' (L' := [(2, (Vp q6))]) (H' := [⟨.pointer (some wa0), [(Vi r9.1), (Vi r9.2.1), (Sl Kf r9.2.2.2.2.2.1), (Vi r9.2.2.2.1), (Sl (Ki .i64) r9.2.2.2.2.2.2)], 118, none⟩, ⟨.pointer (some q6), [(Vi r9.1), (Vi r9.2.1), (Vl (Vs g9)), (Vi r9.2.2.2.1), (Vl (Vs gz1))], 118, none⟩, (Rw Kf 95 (Vs g9) r9.2.2.1), (Rw (Ki .i64) 3 (Vs gz1) r9.2.2.2.2.1)]) [3, 0, 1, 2] (sub_cons rfl sub_nil) (by decide) (pick_cons rfl (pick_cons rfl (pick_cons rfl (pick_cons rfl pick_nil)))) ?_
 exact tx_ret1' Tryz.results53 rfl (q6, g9, gz1) (rv_tmp' rfl) (List.Sublist.refl _)

def gogeom_MultiLineString_Clone (k : Nat) (a0_0 : Int) (a0_1 : Int) (a0_2 : List Nat) (a0_3 : Int) (a0_4 : List Int) : Option (Int × Int × (List Nat) × Int × (List Int) × (List Nat) × (List Int)) :=
 (gogeom_deriveCloneMultiLineString k a0_0 a0_1 a0_2 a0_3 a0_4) >>= fun r4 =>
 some (r4.1, r4.2.1, r4.2.2.1, r4.2.2.2.1, r4.2.2.2.2.1, r4.2.2.2.2.2.1, r4.2.2.2.2.2.2)

theorem gogeom_MultiLineString_Clone_sim {k : Nat} {wa0 : Addr} (a0_0 : Int) (a0_1 : Int) (a0_2 : List Nat) (a0_3 : Int) (a0_4 : List Int) {out : Int × Int × (List Nat) × Int × (List Int) × (List Nat) × (List Int)} (hp : gogeom_MultiLineString_Clone k a0_0 a0_1 a0_2 a0_3 a0_4 = some out) : Sx.Fn Tryz.prog 18 [(Vp wa0)] [⟨.pointer (some wa0), [(Vi a0_0), (Vi a0_1), (Sl Kf a0_2), (Vi a0_3), (Sl (Ki .i64) a0_4)], 118, none⟩] (fun w : Addr × Gs × Gs => (Vp w.1)) (fun w => [⟨.pointer (some wa0), [(Vi out.1), (Vi out.2.1), (Sl Kf out.2.2.1), (Vi out.2.2.2.1), (Sl (Ki .i64) out.2.2.2.2.1)], 118, none⟩, ⟨.pointer (some w.1), [(Vi out.1), (Vi out.2.1), (Vl (Vs w.2.1)), (Vi out.2.2.2.1), (Vl (Vs w.2.2))], 118, none⟩, (Rw Kf 95 (Vs w.2.1) out.2.2.2.2.2.1), (Rw (Ki .i64) 3 (Vs w.2.2) out.2.2.2.2.2.2)]) := by
 unfold gogeom_MultiLineString_Clone at hp
 refine fn_of Tryz.func18 rfl Tryz.ntmps18 rfl fun E hM => ?_
 refine cr fun K1 hK1 => ?_
 refine s0 (rd_assign' rfl) ?_
 refine nk hK1 ?_
 refine cr fun K2 hK2 => ?_
 refine s0 (rd_move' rfl) ?_
 obtain ⟨r4, hr4, hp⟩ := bind_some hp
 refine sx_ox' (ox_callg' (ent_fn' Tryz.func53 isn53 rfl rfl) (gogeom_deriveCloneMultiLineString_sim _ _ _ _ _ hr4 : Sx.Fn Tryz.prog 53 [(Vp wa0)] [⟨.pointer (some wa0), [(Vi a0_0), (Vi a0_1), (Sl Kf a0_2), (Vi a0_3), (Sl (Ki .i64) a0_4)], 118, none⟩] (fun x : Addr × Gs × Gs => (Vp x.1)) (fun x => [⟨.pointer (some wa0), [(Vi r4.1), (Vi r4.2.1), (Sl Kf r4.2.2.1), (Vi r4.2.2.2.1), (Sl (Ki .i64) r4.2.2.2.2.1)], 118, none⟩, ⟨.pointer (some x.1), [(Vi r4.1), (Vi r4.2.1), (Vl (Vs x.2.1)), (Vi r4.2.2.2.1), (Vl (Vs x.2.2))], 118, none⟩, (Rw Kf 95 (Vs x.2.1) r4.2.2.2.2.2.1), (Rw (Ki .i64) 3 (Vs x.2.2) r4.2.2.2.2.2.2)])) [0] [] (by decide) (pick_cons rfl pick_nil) pick_nil (Hn := fun x : Addr × Gs × Gs => [⟨.pointer (some wa0), [(Vi r4.1), (Vi r4.2.1), (Sl Kf r4.2.2.1), (Vi r4.2.2.2.1), (Sl (Ki .i64) r4.2.2.2.2.1)], 118, none⟩, ⟨.pointer (some x.1), [(Vi r4.1), (Vi r4.2.1), (Vl (Vs x.2.1)), (Vi r4.2.2.2.1), (Vl (Vs x.2.2))], 118, none⟩, (Rw Kf 95 (Vs x.2.1) r4.2.2.2.2.2.1), (Rw (Ki .i64) 3 (Vs x.2.2) r4.2.2.2.2.2.2)]) (fun _ => rfl) rfl rfl) (wt_none' rfl) fun ⟨q4, g4, gz1⟩ => ?_
 refine s0 (rd_assign' rfl) ?_
 refine nk hK2 ?_
 refine cx_retc' ?_
 replace hp := Option.some.inj hp
 subst hp
 refine tx_pick' (L' := [(2, (Vp q4))]) (H' := [⟨.pointer (some wa0), [(Vi r4.1), (Vi r4.2.1), (Sl Kf r4.2.2.1), (Vi r4.2.2.2.1), (Sl (Ki .i64) r4.2.2.2.2.1)], 118, none⟩, ⟨.pointer (some q4), [(Vi r4.1), (Vi r4.2.1), (Vl (Vs g4)), (Vi r4.2.2.2.1), (Vl (Vs gz1))], 118, none⟩, (Rw Kf 95 (Vs g4) r4.2.2.2.2.2.1), (Rw (Ki .i64) 3 (Vs gz1) r4.2.2.2.2.2.2)]) [0, 1, 2, 3] (sub_cons rfl sub_nil) (by decide) (pick_cons rfl (pick_cons rfl (pick_cons rfl (pick_cons rfl pick_nil)))) ?_
 exact tx_ret1' Tryz.results18 rfl (q4, g4, gz1) (rv_tmp' rfl) (List.Sublist.refl _)

def gogeom_geom0_SRID_v6 (k : Nat) (a0_0 : Int) (a0_1 : Int) (a0_2 : List Nat) (a0_3 : Int) (a0_4 : List Int) : Option (Int × Int × (List Nat) × Int × (List Int)) :=
 some (a0_0, a0_1, a0_2, a0_3, a0_4)

theorem gogeom_geom0_SRID_v6_sim {k : Nat} {wa0 : Addr} {wa0_2 : Gs} {wa0_4 : Gs} (a0_0 : Int) (a0_1 : Int) (a0_2 : List Nat) (a0_3 : Int) (a0_4 : List Int) {out : Int × Int × (List Nat) × Int × (List Int)} (hp : gogeom_geom0_SRID_v6 k a0_0 a0_1 a0_2 a0_3 a0_4 = some out) : Sx.Fn Tryz.prog 101 [(Vp wa0)] [⟨.pointer (some wa0), [(Vi a0_0), (Vi a0_1), (Vl (Vs wa0_2)), (Vi a0_3), (Vl (Vs wa0_4))], 118, none⟩, (Rw Kf 95 (Vs wa0_2) a0_2), (Rw (Ki .i64) 3 (Vs wa0_4) a0_4)] (fun w : Unit => (Vi out.2.2.2.1)) (fun w => [⟨.pointer (some wa0), [(Vi out.1), (Vi out.2.1), (Vl (Vs wa0_2)), (Vi out.2.2.2.1), (Vl (Vs wa0_4))], 118, none⟩, (Rw Kf 95 (Vs wa0_2) out.2.2.1), (Rw (Ki .i64) 3 (Vs wa0_4) out.2.2.2.2)]) := by
 unfold gogeom_geom0_SRID_v6 at hp
 refine fn_of Tryz.func101 rfl Tryz.ntmps101 rfl fun E hM => ?_
 refine cr fun K1 hK1 => ?_
 refine s0 (rd_assign' rfl) ?_
 refine nk hK1 ?_
 refine cr fun K2 hK2 => ?_
 refine s0 (rd_move' rfl) ?_
 refine s0 (rd_nilck' rfl) ?_
 refine s0 (rd_field' (off := 3) rfl Tryz.underlying105 rfl info3 rfl) ?_
 refine s0 (rd_load' (i := 0) (o := 3) rfl ⟨rfl, rfl, rfl, rfl⟩ rfl flat3) ?_
 refine s0 (rd_assign' rfl) ?_
 refine nk hK2 ?_
 refine cx_retc' ?_
 replace hp := Option.some.inj hp
 subst hp
 refine tx_pick' (L' := [(2, (Vi a0_3))]) (H' := [⟨.pointer (some wa0), [(Vi a0_0), (Vi a0_1), (Vl (Vs wa0_2)), (Vi a0_3), (Vl (Vs wa0_4))], 118, none⟩, (Rw Kf 95 (Vs wa0_2) a0_2), (Rw (Ki .i64) 3 (Vs wa0_4) a0_4)]) [0, 1, 2] (sub_cons rfl sub_nil) (by decide) (pick_cons rfl (pick_cons rfl (pick_cons rfl pick_nil))) ?_
 exact tx_ret1' Tryz.results101 rfl () (rv_tmp' rfl) (List.Sublist.refl _)

def gogeom_geom0_Layout_v6 (k : Nat) (a0_0 : Int) (a0_1 : Int) (a0_2 : List Nat) (a0_3 : Int) (a0_4 : List Int) : Option (Int × Int × (List Nat) × Int × (List Int)) :=
 some (a0_0, a0_1, a0_2, a0_3, a0_4)

theorem gogeom_geom0_Layout_v6_sim {k : Nat} {wa0 : Addr} {wa0_2 : Gs} {wa0_4 : Gs} (a0_0 : Int) (a0_1 : Int) (a0_2 : List Nat) (a0_3 : Int) (a0_4 : List Int) {out : Int × Int × (List Nat) × Int × (List Int)} (hp : gogeom_geom0_Layout_v6 k a0_0 a0_1 a0_2 a0_3 a0_4 = some out) : Sx.Fn Tryz.prog 100 [(Vp wa0)] [⟨.pointer (some wa0), [(Vi a0_0), (Vi a0_1), (Vl (Vs wa0_2)), (Vi a0_3), (Vl (Vs wa0_4))], 118, none⟩, (Rw Kf 95 (Vs wa0_2) a0_2), (Rw (Ki .i64) 3 (Vs wa0_4) a0_4)] (fun w : Unit => (Vi out.1)) (fun w => [⟨.pointer (some wa0), [(Vi out.1), (Vi out.2.1), (Vl (Vs wa0_2)), (Vi out.2.2.2.1), (Vl (Vs wa0_4))], 118, none⟩, (Rw Kf 95 (Vs wa0_2) out.2.2.1), (Rw (Ki .i64) 3 (Vs wa0_4) out.2.2.2.2)]) := by
 unfold gogeom_geom0_Layout_v6 at hp
 refine fn_of Tryz.func100 rfl Tryz.ntmps100 rfl fun E hM => ?_
 refine cr fun K1 hK1 => ?_
 refine s0 (rd_assign' rfl) ?_
 refine nk hK1 ?_
 refine cr fun K2 hK2 => ?_
 refine s0 (rd_move' rfl) ?_
 refine s0 (rd_nilck' rfl) ?_
 refine s0 (rd_field0' rfl Tryz.underlying105 rfl info54 rfl) ?_
 refine s0 (rd_load' (i := 0) (o := 0) rfl ⟨rfl, rfl, rfl, rfl⟩ rfl flat54) ?_
 refine s0 (rd_assign' rfl) ?_
 refine nk hK2 ?_
 refine cx_retc' ?_
 replace hp := Option.some.inj hp
 subst hp
 refine tx_pick' (L' := [(2, (Vi a0_0))]) (H' := [⟨.pointer (some wa0), [(Vi a0_0), (Vi a0_1), (Vl (Vs wa0_2)), (Vi a0_3), (Vl (Vs wa0_4))], 118, none⟩, (Rw Kf 95 (Vs wa0_2) a0_2), (Rw (Ki .i64) 3 (Vs wa0_4) a0_4)]) [0, 1, 2] (sub_cons rfl sub_nil) (by decide) (pick_cons rfl (pick_cons rfl (pick_cons rfl pick_nil))) ?_
 exact tx_ret1' Tryz.results100 rfl () (rv_tmp' rfl) (List.Sublist.refl _)

def gogeom_geom0_FlatCoords_v6 (k : Nat) (a0_0 : Int) (a0_1 : Int) (a0_2 : List Nat) (a0_3 : Int) (a0_4 : List Int) : Option (Int × Int × (List Nat) × Int × (List Int)) :=
 some (a0_0, a0_1, a0_2, a0_3, a0_4)

theorem gogeom_geom0_FlatCoords_v6_sim {k : Nat} {wa0 : Addr} {wa0_2 : Gs} {wa0_4 : Gs} (a0_0 : Int) (a0_1 : Int) (a0_2 : List Nat) (a0_3 : Int) (a0_4 : List Int) {out : Int × Int × (List Nat) × Int × (List Int)} (hp : gogeom_geom0_FlatCoords_v6 k a0_0 a0_1 a0_2 a0_3 a0_4 = some out) : Sx.Fn Tryz.prog 99 [(Vp wa0)] [⟨.pointer (some wa0), [(Vi a0_0), (Vi a0_1), (Vl (Vs wa0_2)), (Vi a0_3), (Vl (Vs wa0_4))], 118, none⟩, (Rw Kf 95 (Vs wa0_2) a0_2), (Rw (Ki .i64) 3 (Vs wa0_4) a0_4)] (fun w : Unit => (Sl Kf out.2.2.1)) (fun w => [⟨.pointer (some wa0), [(Vi out.1), (Vi out.2.1), (Sl Kf out.2.2.1), (Vi out.2.2.2.1), (Vl (Vs wa0_4))], 118, none⟩, (Rw (Ki .i64) 3 (Vs wa0_4) out.2.2.2.2)]) := by
 unfold gogeom_geom0_FlatCoords_v6 at hp
 refine fn_of Tryz.func99 rfl Tryz.ntmps99 rfl fun E hM => ?_
 refine cr fun K1 hK1 => ?_
 refine s0 (rd_assign' rfl) ?_
 refine nk hK1 ?_
 refine cr fun K2 hK2 => ?_
 refine s0 (rd_move' rfl) ?_
 refine s0 (rd_nilck' rfl) ?_
 refine s0 (rd_field' (off := 2) rfl Tryz.underlying105 rfl info22 rfl) ?_
 refine s0 (rd_load' (i := 0) (o := 2) rfl ⟨rfl, rfl, rfl, rfl⟩ rfl flat22) ?_
 refine s0 (rd_assign' rfl) ?_
 refine nk hK2 ?_
 refine cx_retc' ?_
 replace hp := Option.some.inj hp
 subst hp
 refine tx_fz' (frz_row 1 [(2, (Vl (Vs wa0_2)), (Sl Kf a0_2)), (6, (Vl (Vs wa0_2)), (Sl Kf a0_2))] (K := Kf) (xs := a0_2) (by decide) rfl ⟨⟨rfl, frz_it⟩, ⟨rfl, frz_it⟩, trivial⟩ (H' := [⟨.pointer (some wa0), [(Vi a0_0), (Vi a0_1), (Sl Kf a0_2), (Vi a0_3), (Vl (Vs wa0_4))], 118, none⟩, (Rw (Ki .i64) 3 (Vs wa0_4) a0_4)]) (frzH_cons rfl rfl rfl (frzL_cons frz_same (frzL_cons frz_same (frzL_cons frz_it (frzL_cons frz_same (frzL_cons frz_same frzL_refl))))) (frzH_cons rfl rfl rfl frzL_refl frzH_refl))) ?_
 refine tx_pick' (L' := [(2, (Sl Kf a0_2))]) (H' := [⟨.pointer (some wa0), [(Vi a0_0), (Vi a0_1), (Sl Kf a0_2), (Vi a0_3), (Vl (Vs wa0_4))], 118, none⟩, (Rw (Ki .i64) 3 (Vs wa0_4) a0_4)]) [0, 1] (sub_cons rfl sub_nil) (by decide) (pick_cons rfl (pick_cons rfl pick_nil)) ?_
 exact tx_ret1' Tryz.results99 rfl () (rv_tmp' rfl) (List.Sublist.refl _)

def gogeom_geom2_Ends_v3 (k : Nat) (a0_0 : Int) (a0_1 : Int) (a0_2 : List Nat) (a0_3 : Int) (a0_4 : List Int) : Option (Int × Int × (List Nat) × Int × (List Int)) :=
 some (a0_0, a0_1, a0_2, a0_3, a0_4)

theorem gogeom_geom2_Ends_v3_sim {k : Nat} {wa0 : Addr} {wa0_4 : Gs} (a0_0 : Int) (a0_1 : Int) (a0_2 : List Nat) (a0_3 : Int) (a0_4 : List Int) {out : Int × Int × (List Nat) × Int × (List Int)} (hp : gogeom_geom2_Ends_v3 k a0_0 a0_1 a0_2 a0_3 a0_4 = some out) : Sx.Fn Tryz.prog 104 [(Vp wa0)] [⟨.pointer (some wa0), [(Vi a0_0), (Vi a0_1), (Sl Kf a0_2), (Vi a0_3), (Vl (Vs wa0_4))], 118, none⟩, (Rw (Ki .i64) 3 (Vs wa0_4) a0_4)] (fun w : Unit => (Sl (Ki .i64) out.2.2.2.2)) (fun w => [⟨.pointer (some wa0), [(Vi out.1), (Vi out.2.1), (Sl Kf out.2.2.1), (Vi out.2.2.2.1), (Sl (Ki .i64) out.2.2.2.2)], 118, none⟩]) := by
 unfold gogeom_geom2_Ends_v3 at hp
 refine fn_of Tryz.func104 rfl Tryz.ntmps104 rfl fun E hM => ?_
 refine cr fun K1 hK1 => ?_
 refine s0 (rd_assign' rfl) ?_
 refine nk hK1 ?_
 refine cr fun K2 hK2 => ?_
 refine s0 (rd_move' rfl) ?_
 refine s0 (rd_nilck' rfl) ?_
 refine s0 (rd_field' (off := 4) rfl Tryz.underlying113 rfl info23 rfl) ?_
 refine s0 (rd_load' (i := 0) (o := 4) rfl ⟨rfl, rfl, rfl, rfl⟩ rfl flat23) ?_
 refine s0 (rd_assign' rfl) ?_
 refine nk hK2 ?_
 refine cx_retc' ?_
 replace hp := Option.some.inj hp
 subst hp
 refine tx_fz' (frz_row 1 [(2, (Vl (Vs wa0_4)), (Sl (Ki .i64) a0_4)), (6, (Vl (Vs wa0_4)), (Sl (Ki .i64) a0_4))] (K := (Ki .i64)) (xs := a0_4) (by decide) rfl ⟨⟨rfl, frz_it⟩, ⟨rfl, frz_it⟩, trivial⟩ (H' := [⟨.pointer (some wa0), [(Vi a0_0), (Vi a0_1), (Sl Kf a0_2), (Vi a0_3), (Sl (Ki .i64) a0_4)], 118, none⟩]) (frzH_cons rfl rfl rfl (frzL_cons frz_same (frzL_cons frz_same (frzL_cons frz_same (frzL_cons frz_same (frzL_cons frz_it frzL_refl))))) frzH_refl)) ?_
 refine tx_pick' (L' := [(2, (Sl (Ki .i64) a0_4))]) (H' := [⟨.pointer (some wa0), [(Vi a0_0), (Vi a0_1), (Sl Kf a0_2), (Vi a0_3), (Sl (Ki .i64) a0_4)], 118, none⟩]) [0] (sub_cons rfl sub_nil) (by decide) (pick_cons rfl pick_nil) ?_
 exact tx_ret1' Tryz.results104 rfl () (rv_tmp' rfl) (List.Sublist.refl _)

def gogeom_geom0_Endss_v6 (k : Nat) (a0_0 : Int) (a0_1 : Int) (a0_2 : List Nat) (a0_3 : Int) (a0_4 : List Int) : Option (Int × Int × (List Nat) × Int × (List Int)) :=
 some (a0_0, a0_1, a0_2, a0_3, a0_4)

theorem gogeom_geom0_Endss_v6_sim {k : Nat} {wa0 : Addr} (a0_0 : Int) (a0_1 : Int) (a0_2 : List Nat) (a0_3 : Int) (a0_4 : List Int) {out : Int × Int × (List Nat) × Int × (List Int)} (hp : gogeom_geom0_Endss_v6 k a0_0 a0_1 a0_2 a0_3 a0_4 = some out) : Sx.Fn Tryz.prog 98 [(Vp wa0)] [⟨.pointer (some wa0), [(Vi a0_0), (Vi a0_1), (Sl Kf a0_2), (Vi a0_3), (Sl (Ki .i64) a0_4)], 118, none⟩] (fun w : Unit => Vn) (fun w => [⟨.pointer (some wa0), [(Vi out.1), (Vi out.2.1), (Sl Kf out.2.2.1), (Vi out.2.2.2.1), (Sl (Ki .i64) out.2.2.2.2)], 118, none⟩]) := by
 unfold gogeom_geom0_Endss_v6 at hp
 refine fn_of Tryz.func98 rfl Tryz.ntmps98 rfl fun E hM => ?_
 refine cr fun K1 hK1 => ?_
 refine s0 (rd_assign' rfl) ?_
 refine nk hK1 ?_
 refine cr fun K2 hK2 => ?_
 refine s0 (rd_assign' rfl) ?_
 refine nk hK2 ?_
 refine cx_retc' ?_
 replace hp := Option.some.inj hp
 subst hp
 refine tx_pick' (L' := [(2, Vn)]) (H' := [⟨.pointer (some wa0), [(Vi a0_0), (Vi a0_1), (Sl Kf a0_2), (Vi a0_3), (Sl (Ki .i64) a0_4)], 118, none⟩]) [0] (sub_cons rfl sub_nil) (by decide) (pick_cons rfl pick_nil) ?_
 exact tx_ret1' Tryz.results98 rfl () (rv_tmp' rfl) (List.Sublist.refl _)

def impl_plain_v6 (k : Nat) (a0_0 : Int) (a0_1 : Int) (a0_2 : List Nat) (a0_3 : Int) (a0_4 : List Int) : Option (Int × Int × (List Nat) × Int × (List Int) × Int × Int × Int × (List Nat) × (List Int)) :=
 (gogeom_geom0_SRID_v6 k a0_0 a0_1 a0_2 a0_3 a0_4) >>= fun r15 =>
 (gogeom_geom0_Layout_v6 k r15.1 r15.2.1 r15.2.2.1 r15.2.2.2.1 r15.2.2.2.2) >>= fun r70 =>
 (gogeom_geom0_FlatCoords_v6 k r70.1 r70.2.1 r70.2.2.1 r70.2.2.2.1 r70.2.2.2.2) >>= fun r72 =>
 (impl_floats k r72.2.2.1) >>= fun r73 =>
 (gogeom_geom2_Ends_v3 k r72.1 r72.2.1 r72.2.2.1 r72.2.2.2.1 r72.2.2.2.2) >>= fun r75 =>
 (impl_ints k r75.2.2.2.2) >>= fun r76 =>
 match r76 with
  | (.inl y1) =>
   ((gogeom_geom0_Endss_v6 k r75.1 r75.2.1 r75.2.2.1 r75.2.2.2.1 r75.2.2.2.2) >>= fun r78 =>
   (impl_intss_v2 k) >>= fun r79 =>
   some (r78.1, r78.2.1, r78.2.2.1, r78.2.2.2.1, r78.2.2.2.2, 5, r70.1, r15.2.2.2.1, r73, []))
  | (.inr y1) =>
   ((gogeom_geom0_Endss_v6 k r75.1 r75.2.1 r75.2.2.1 r75.2.2.2.1 r75.2.2.2.2) >>= fun r78 =>
   (impl_intss_v2 k) >>= fun r79 =>
   some (r78.1, r78.2.1, r78.2.2.1, r78.2.2.2.1, r78.2.2.2.2, 5, r70.1, r15.2.2.2.1, r73, y1))

theorem impl_plain_v6_sim {k : Nat} {wa0 : Addr} {wa0_2 : Gs} {wa0_4 : Gs} (a0_0 : Int) (a0_1 : Int) (a0_2 : List Nat) (a0_3 : Int) (a0_4 : List Int) {out : Int × Int × (List Nat) × Int × (List Int) × Int × Int × Int × (List Nat) × (List Int)} (hp : impl_plain_v6 k a0_0 a0_1 a0_2 a0_3 a0_4 = some out) : Sx.Fn Tryz.prog 12 [(If 48 (Vp wa0))] [⟨.pointer (some wa0), [(Vi a0_0), (Vi a0_1), (Vl (Vs wa0_2)), (Vi a0_3), (Vl (Vs wa0_4))], 118, none⟩, (Rw Kf 95 (Vs wa0_2) a0_2), (Rw (Ki .i64) 3 (Vs wa0_4) a0_4)] (fun w : Unit => (Ag [(Vi out.2.2.2.2.2.1), (Vi out.2.2.2.2.2.2.1), (Vi out.2.2.2.2.2.2.2.1), (Sl Kf out.2.2.2.2.2.2.2.2.1), (Sl (Ki .i64) out.2.2.2.2.2.2.2.2.2), Vn, Vn])) (fun w => [⟨.pointer (some wa0), [(Vi out.1), (Vi out.2.1), (Sl Kf out.2.2.1), (Vi out.2.2.2.1), (Sl (Ki .i64) out.2.2.2.2.1)], 118, none⟩]) := by
 unfold impl_plain_v6 at hp
 refine fn_of Tryz.func12 rfl Tryz.ntmps12 rfl fun E hM => ?_
 refine cr fun K1 hK1 => ?_
 refine sx_ox' (ox_alloc' info27 rfl rfl rfl rfl (l := [(Vi 0), (Vi 0), (Vi 0), Vn, Vn, Vn, Vn]) rfl) (wt_none' rfl) fun q2 => ?_
 refine nk hK1 ?_
 refine cr fun K2 hK2 => ?_
 refine s0 (rd_move' rfl) ?_
 obtain ⟨r15, hr15, hp⟩ := bind_some hp
 refine sx_ox' (ox_callg' (ent_inv' rfl rfl (inv_ptr0 (inv48_SRID _))) (gogeom_geom0_SRID_v6_sim _ _ _ _ _ hr15 : Sx.Fn Tryz.prog 101 [(Vp wa0)] [⟨.pointer (some wa0), [(Vi a0_0), (Vi a0_1), (Vl (Vs wa0_2)), (Vi a0_3), (Vl (Vs wa0_4))], 118, none⟩, (Rw Kf 95 (Vs wa0_2) a0_2), (Rw (Ki .i64) 3 (Vs wa0_4) a0_4)] (fun x : Unit => (Vi r15.2.2.2.1)) (fun x => [⟨.pointer (some wa0), [(Vi r15.1), (Vi r15.2.1), (Vl (Vs wa0_2)), (Vi r15.2.2.2.1), (Vl (Vs wa0_4))], 118, none⟩, (Rw Kf 95 (Vs wa0_2) r15.2.2.1), (Rw (Ki .i64) 3 (Vs wa0_4) r15.2.2.2.2)])) [1, 2, 3] [0] (by decide) (pick_cons rfl (pick_cons rfl (pick_cons rfl pick_nil))) (pick_cons rfl pick_nil) (Hn := fun x : Unit => [⟨.pointer (some wa0), [(Vi r15.1), (Vi r15.2.1), (Vl (Vs wa0_2)), (Vi r15.2.2.2.1), (Vl (Vs wa0_4))], 118, none⟩, (Rw Kf 95 (Vs wa0_2) r15.2.2.1), (Rw (Ki .i64) 3 (Vs wa0_4) r15.2.2.2.2), ⟨.pointer (some q2), [(Vi 0), (Vi 0), (Vi 0), Vn, Vn, Vn, Vn], 27, none⟩]) (fun _ => rfl) rfl rfl) (wt_none' rfl) fun ⟨⟩ => ?_
 refine s0 (rd_build' (pls := [(0, 1), (1, 1), (2, 1), (3, 1), (4, 1), (5, 1), (6, 1)]) (qs := [(2, [(Vi r15.2.2.2.1)])]) (r := [(Vi 0), (Vi 0), (Vi r15.2.2.2.1), Vn, Vn, Vn, Vn]) ⟨rfl, ⟨_, rfl, (lv_vl rfl rfl)⟩, trivial⟩ Tryz.underlying27 has27 places27 info27 rfl rfl rfl) ?_
 refine sx_ox' (ox_alloc' info27 rfl rfl rfl rfl (l := [(Vi 0), (Vi 0), (Vi 0), Vn, Vn, Vn, Vn]) rfl) (wt_none' rfl) fun q3 => ?_
 refine sx_ox' (ox_store' (i := 0) (o := 0) rfl rfl (lv_ag _) ⟨rfl, rfl, rfl, rfl⟩ rfl info27 rfl (H' := [⟨.pointer (some q3), [(Vi 0), (Vi 0), (Vi r15.2.2.2.1), Vn, Vn, Vn, Vn], 27, none⟩, ⟨.pointer (some wa0), [(Vi r15.1), (Vi r15.2.1), (Vl (Vs wa0_2)), (Vi r15.2.2.2.1), (Vl (Vs wa0_4))], 118, none⟩, (Rw Kf 95 (Vs wa0_2) r15.2.2.1), (Rw (Ki .i64) 3 (Vs wa0_4) r15.2.2.2.2), ⟨.pointer (some q2), [(Vi 0), (Vi 0), (Vi 0), Vn, Vn, Vn, Vn], 27, none⟩]) rfl) (wt_none' rfl) fun _ => ?_
 refine nk hK2 ?_
 refine cx_seq' fun K3 hK3 => ?_
 refine cr fun K4 hK4 => ?_
 refine s0 (rd_move' rfl) ?_
 refine nk hK4 ?_
 refine cx_block' ?_
 refine cr fun K5 hK5 => ?_
 refine s0 (rd_assert' rfl (F := fun _ => .tuple #[.pointer none, .bool false]) as48_35_37 as_no) ?_
 refine s0 (rd_extract' rfl rfl) ?_
 refine s0 (rd_extract' rfl rfl) ?_
 refine nk hK5 ?_
 refine cx_cond_f' rfl rfl ?_
 refine cr fun K6 hK6 => ?_
 refine s0 (rd_assert' rfl (F := fun _ => .tuple #[.pointer none, .bool false]) as48_35_40 as_no) ?_
 refine s0 (rd_extract' rfl rfl) ?_
 refine s0 (rd_extract' rfl rfl) ?_
 refine nk hK6 ?_
 refine cx_cond_f' rfl rfl ?_
 refine cr fun K7 hK7 => ?_
 refine s0 (rd_assert' rfl (F := fun _ => .tuple #[.pointer none, .bool false]) as48_35_42 as_no) ?_
 refine s0 (rd_extract' rfl rfl) ?_
 refine s0 (rd_extract' rfl rfl) ?_
 refine nk hK7 ?_
 refine cx_cond_f' rfl rfl ?_
 refine cr fun K8 hK8 => ?_
 refine s0 (rd_assert' rfl (F := fun _ => .tuple #[.pointer none, .bool false]) as48_35_44 as_no) ?_
 refine s0 (rd_extract' rfl rfl) ?_
 refine s0 (rd_extract' rfl rfl) ?_
 refine nk hK8 ?_
 refine cx_cond_f' rfl rfl ?_
 refine cr fun K9 hK9 => ?_
 refine s0 (rd_assert' rfl (F := fun _ => .tuple #[.pointer none, .bool false]) as48_35_46 as_no) ?_
 refine s0 (rd_extract' rfl rfl) ?_
 refine s0 (rd_extract' rfl rfl) ?_
 refine nk hK9 ?_
 refine cx_cond_f' rfl rfl ?_
 refine cr fun K10 hK10 => ?_
 refine s0 (rd_assert' rfl (F := fun v => .tuple #[v, .bool true]) as48_35_48k as_ok) ?_
 refine s0 (rd_extract' rfl rfl) ?_
 refine s0 (rd_extract' rfl rfl) ?_
 refine nk hK10 ?_
 refine cx_cond_t' rfl rfl ?_
 refine cr fun K11 hK11 => ?_
 refine s0 (rd_assign' rfl) ?_
 refine nk hK11 ?_
 refine cx_region' ?_
 refine s0 (rd_field0' rfl Tryz.underlying27 rfl info3 rfl) ?_
 refine sx_ox' (ox_store' (i := 0) (o := 0) rfl rfl (lv_vl rfl rfl) ⟨rfl, rfl, rfl, rfl⟩ rfl info3 rfl (H' := [⟨.pointer (some q3), [(Vi 5), (Vi 0), (Vi r15.2.2.2.1), Vn, Vn, Vn, Vn], 27, none⟩, ⟨.pointer (some wa0), [(Vi r15.1), (Vi r15.2.1), (Vl (Vs wa0_2)), (Vi r15.2.2.2.1), (Vl (Vs wa0_4))], 118, none⟩, (Rw Kf 95 (Vs wa0_2) r15.2.2.1), (Rw (Ki .i64) 3 (Vs wa0_4) r15.2.2.2.2), ⟨.pointer (some q2), [(Vi 0), (Vi 0), (Vi 0), Vn, Vn, Vn, Vn], 27, none⟩]) rfl) (wt_none' rfl) fun _ => ?_
 refine nk hK3 ?_
 refine cr fun K12 hK12 => ?_
 refine s0 (rd_move' rfl) ?_
 obtain ⟨r70, hr70, hp⟩ := bind_some hp
 refine sx_ox' (ox_callg' (ent_inv' rfl rfl (inv_ptr0 (inv48_Layout _))) (gogeom_geom0_Layout_v6_sim _ _ _ _ _ hr70 : Sx.Fn Tryz.prog 100 [(Vp wa0)] [⟨.pointer (some wa0), [(Vi r15.1), (Vi r15.2.1), (Vl (Vs wa0_2)), (Vi r15.2.2.2.1), (Vl (Vs wa0_4))], 118, none⟩, (Rw Kf 95 (Vs wa0_2) r15.2.2.1), (Rw (Ki .i64) 3 (Vs wa0_4) r15.2.2.2.2)] (fun x : Unit => (Vi r70.1)) (fun x => [⟨.pointer (some wa0), [(Vi r70.1), (Vi r70.2.1), (Vl (Vs wa0_2)), (Vi r70.2.2.2.1), (Vl (Vs wa0_4))], 118, none⟩, (Rw Kf 95 (Vs wa0_2) r70.2.2.1), (Rw (Ki .i64) 3 (Vs wa0_4) r70.2.2.2.2)])) [1, 2, 3] [0, 4] (by decide) (pick_cons rfl (pick_cons rfl (pick_cons rfl pick_nil))) (pick_cons rfl (pick_cons rfl pick_nil)) (Hn := fun x : Unit => [⟨.pointer (some wa0), [(Vi r70.1), (Vi r70.2.1), (Vl (Vs wa0_2)), (Vi r70.2.2.2.1), (Vl (Vs wa0_4))], 118, none⟩, (Rw Kf 95 (Vs wa0_2) r70.2.2.1), (Rw (Ki .i64) 3 (Vs wa0_4) r70.2.2.2.2), ⟨.pointer (some q3), [(Vi 5), (Vi 0), (Vi r15.2.2.2.1), Vn, Vn, Vn, Vn], 27, none⟩, ⟨.pointer (some q2), [(Vi 0), (Vi 0), (Vi 0), Vn, Vn, Vn, Vn], 27, none⟩]) (fun _ => rfl) rfl rfl) (wt_none' rfl) fun ⟨⟩ => ?_
 refine s0 (rd_move' rfl) ?_
 obtain ⟨r72, hr72, hp⟩ := bind_some hp
 refine sx_ox' (ox_callg' (ent_inv' rfl rfl (inv_ptr0 (inv48_FlatCoords _))) (gogeom_geom0_FlatCoords_v6_sim _ _ _ _ _ hr72 : Sx.Fn Tryz.prog 99 [(Vp wa0)] [⟨.pointer (some wa0), [(Vi r70.1), (Vi r70.2.1), (Vl (Vs wa0_2)), (Vi r70.2.2.2.1), (Vl (Vs wa0_4))], 118, none⟩, (Rw Kf 95 (Vs wa0_2) r70.2.2.1), (Rw (Ki .i64) 3 (Vs wa0_4) r70.2.2.2.2)] (fun x : Unit => (Sl Kf r72.2.2.1)) (fun x => [⟨.pointer (some wa0), [(Vi r72.1), (Vi r72.2.1), (Sl Kf r72.2.2.1), (Vi r72.2.2.2.1), (Vl (Vs wa0_4))], 118, none⟩, (Rw (Ki .i64) 3 (Vs wa0_4) r72.2.2.2.2)])) [0, 1, 2] [3, 4] (by decide) (pick_cons rfl (pick_cons rfl (pick_cons rfl pick_nil))) (pick_cons rfl (pick_cons rfl pick_nil)) (Hn := fun x : Unit => [⟨.pointer (some wa0), [(Vi r72.1), (Vi r72.2.1), (Sl Kf r72.2.2.1), (Vi r72.2.2.2.1), (Vl (Vs wa0_4))], 118, none⟩, (Rw (Ki .i64) 3 (Vs wa0_4) r72.2.2.2.2), ⟨.pointer (some q3), [(Vi 5), (Vi 0), (Vi r15.2.2.2.1), Vn, Vn, Vn, Vn], 27, none⟩, ⟨.pointer (some q2), [(Vi 0), (Vi 0), (Vi 0), Vn, Vn, Vn, Vn], 27, none⟩]) (fun _ => rfl) rfl rfl) (wt_none' rfl) fun ⟨⟩ => ?_
 obtain ⟨r73, hr73, hp⟩ := bind_some hp
 refine sx_ox' (ox_calln' (ent_fn' Tryz.func24 isn24 rfl rfl) (impl_floats_sim _ hr73 : Sx.Fn Tryz.prog 24 [(Sl Kf r72.2.2.1)] [] (fun x : Unit => (Sl Kf r73)) (fun x => [])) (Hn := fun x : Unit => [⟨.pointer (some wa0), [(Vi r72.1), (Vi r72.2.1), (Sl Kf r72.2.2.1), (Vi r72.2.2.2.1), (Vl (Vs wa0_4))], 118, none⟩, (Rw (Ki .i64) 3 (Vs wa0_4) r72.2.2.2.2), ⟨.pointer (some q3), [(Vi 5), (Vi 0), (Vi r15.2.2.2.1), Vn, Vn, Vn, Vn], 27, none⟩, ⟨.pointer (some q2), [(Vi 0), (Vi 0), (Vi 0), Vn, Vn, Vn, Vn], 27, none⟩]) (fun _ => rfl) rfl rfl) (wt_none' rfl) fun ⟨⟩ => ?_
 refine s0 (rd_move' rfl) ?_
 obtain ⟨r75, hr75, hp⟩ := bind_some hp
 refine sx_ox' (ox_callg' (ent_inv' rfl rfl (inv_ptr0 (inv48_Ends _))) (gogeom_geom2_Ends_v3_sim _ _ _ _ _ hr75 : Sx.Fn Tryz.prog 104 [(Vp wa0)] [⟨.pointer (some wa0), [(Vi r72.1), (Vi r72.2.1), (Sl Kf r72.2.2.1), (Vi r72.2.2.2.1), (Vl (Vs wa0_4))], 118, none⟩, (Rw (Ki .i64) 3 (Vs wa0_4) r72.2.2.2.2)] (fun x : Unit => (Sl (Ki .i64) r75.2.2.2.2)) (fun x => [⟨.pointer (some wa0), [(Vi r75.1), (Vi r75.2.1), (Sl Kf r75.2.2.1), (Vi r75.2.2.2.1), (Sl (Ki .i64) r75.2.2.2.2)], 118, none⟩])) [0, 1] [2, 3] (by decide) (pick_cons rfl (pick_cons rfl pick_nil)) (pick_cons rfl (pick_cons rfl pick_nil)) (Hn := fun x : Unit => [⟨.pointer (some wa0), [(Vi r75.1), (Vi r75.2.1), (Sl Kf r75.2.2.1), (Vi r75.2.2.2.1), (Sl (Ki .i64) r75.2.2.2.2)], 118, none⟩, ⟨.pointer (some q3), [(Vi 5), (Vi 0), (Vi r15.2.2.2.1), Vn, Vn, Vn, Vn], 27, none⟩, ⟨.pointer (some q2), [(Vi 0), (Vi 0), (Vi 0), Vn, Vn, Vn, Vn], 27, none⟩]) (fun _ => rfl) rfl rfl) (wt_none' rfl) fun ⟨⟩ => ?_
 obtain ⟨r76, hr76, hp⟩ := bind_some hp
 rcases r76 with y1 | y1
 ·dsimp only at hp
  refine sx_ox' (ox_calln' (ent_fn' Tryz.func32 isn32 rfl rfl) (impl_ints_sim _ hr76 : Sx.Fn Tryz.prog 32 [(Sl (Ki .i64) r75.2.2.2.2)] [] (fun x : Unit => Vn) (fun x => [])) (Hn := fun x : Unit => [⟨.pointer (some wa0), [(Vi r75.1), (Vi r75.2.1), (Sl Kf r75.2.2.1), (Vi r75.2.2.2.1), (Sl (Ki .i64) r75.2.2.2.2)], 118, none⟩, ⟨.pointer (some q3), [(Vi 5), (Vi 0), (Vi r15.2.2.2.1), Vn, Vn, Vn, Vn], 27, none⟩, ⟨.pointer (some q2), [(Vi 0), (Vi 0), (Vi 0), Vn, Vn, Vn, Vn], 27, none⟩]) (fun _ => rfl) rfl rfl) (wt_none' rfl) fun ⟨⟩ => ?_
  refine s0 (rd_move' rfl) ?_
  obtain ⟨r78, hr78, hp⟩ := bind_some hp
  refine sx_ox' (ox_callg' (ent_inv' rfl rfl (inv_ptr0 (inv48_Endss _))) (gogeom_geom0_Endss_v6_sim _ _ _ _ _ hr78 : Sx.Fn Tryz.prog 98 [(Vp wa0)] [⟨.pointer (some wa0), [(Vi r75.1), (Vi r75.2.1), (Sl Kf r75.2.2.1), (Vi r75.2.2.2.1), (Sl (Ki .i64) r75.2.2.2.2)], 118, none⟩] (fun x : Unit => Vn) (fun x => [⟨.pointer (some wa0), [(Vi r78.1), (Vi r78.2.1), (Sl Kf r78.2.2.1), (Vi r78.2.2.2.1), (Sl (Ki .i64) r78.2.2.2.2)], 118, none⟩])) [0] [1, 2] (by decide) (pick_cons rfl pick_nil) (pick_cons rfl (pick_cons rfl pick_nil)) (Hn := fun x : Unit => [⟨.pointer (some wa0), [(Vi r78.1), (Vi r78.2.1), (Sl Kf r78.2.2.1), (Vi r78.2.2.2.1), (Sl (Ki .i64) r78.2.2.2.2)], 118, none⟩, ⟨.pointer (some q3), [(Vi 5), (Vi 0), (Vi r15.2.2.2.1), Vn, Vn, Vn, Vn], 27, none⟩, ⟨.pointer (some q2), [(Vi 0), (Vi 0), (Vi 0), Vn, Vn, Vn, Vn], 27, none⟩]) (fun _ => rfl) rfl rfl) (wt_none' rfl) fun ⟨⟩ => ?_
  obtain ⟨r79, hr79, hp⟩ := bind_some hp
  refine sx_ox' (ox_calln' (ent_fn' Tryz.func40 isn40 rfl rfl) (impl_intss_v2_sim hr79 : Sx.Fn Tryz.prog 40 [Vn] [] (fun x : Unit => Vn) (fun x => [])) (Hn := fun x : Unit => [⟨.pointer (some wa0), [(Vi r78.1), (Vi r78.2.1), (Sl Kf r78.2.2.1), (Vi r78.2.2.2.1), (Sl (Ki .i64) r78.2.2.2.2)], 118, none⟩, ⟨.pointer (some q3), [(Vi 5), (Vi 0), (Vi r15.2.2.2.1), Vn, Vn, Vn, Vn], 27, none⟩, ⟨.pointer (some q2), [(Vi 0), (Vi 0), (Vi 0), Vn, Vn, Vn, Vn], 27, none⟩]) (fun _ => rfl) rfl rfl) (wt_none' rfl) fun ⟨⟩ => ?_
  refine s0 (rd_field' (off := 1) rfl Tryz.underlying27 rfl info3 rfl) ?_
  refine sx_ox' (ox_store' (i := 1) (o := 1) rfl rfl (lv_vl rfl rfl) ⟨rfl, rfl, rfl, rfl⟩ rfl info3 rfl (H' := [⟨.pointer (some wa0), [(Vi r78.1), (Vi r78.2.1), (Sl Kf r78.2.2.1), (Vi r78.2.2.2.1), (Sl (Ki .i64) r78.2.2.2.2)], 118, none⟩, ⟨.pointer (some q3), [(Vi 5), (Vi r70.1), (Vi r15.2.2.2.1), Vn, Vn, Vn, Vn], 27, none⟩, ⟨.pointer (some q2), [(Vi 0), (Vi 0), (Vi 0), Vn, Vn, Vn, Vn], 27, none⟩]) rfl) (wt_none' rfl) fun _ => ?_
  refine s0 (rd_field' (off := 3) rfl Tryz.underlying27 rfl info22 rfl) ?_
  refine sx_ox' (ox_store' (i := 1) (o := 3) rfl rfl (lv_sl _ _) ⟨rfl, rfl, rfl, rfl⟩ rfl info22 rfl (H' := [⟨.pointer (some wa0), [(Vi r78.1), (Vi r78.2.1), (Sl Kf r78.2.2.1), (Vi r78.2.2.2.1), (Sl (Ki .i64) r78.2.2.2.2)], 118, none⟩, ⟨.pointer (some q3), [(Vi 5), (Vi r70.1), (Vi r15.2.2.2.1), (Sl Kf r73), Vn, Vn, Vn], 27, none⟩, ⟨.pointer (some q2), [(Vi 0), (Vi 0), (Vi 0), Vn, Vn, Vn, Vn], 27, none⟩]) rfl) (wt_none' rfl) fun _ => ?_
  refine s0 (rd_field' (off := 4) rfl Tryz.underlying27 rfl info23 rfl) ?_
  refine sx_ox' (ox_store' (i := 1) (o := 4) rfl rfl (lv_vl rfl rfl) ⟨rfl, rfl, rfl, rfl⟩ rfl info23 rfl (H' := [⟨.pointer (some wa0), [(Vi r78.1), (Vi r78.2.1), (Sl Kf r78.2.2.1), (Vi r78.2.2.2.1), (Sl (Ki .i64) r78.2.2.2.2)], 118, none⟩, ⟨.pointer (some q3), [(Vi 5), (Vi r70.1), (Vi r15.2.2.2.1), (Sl Kf r73), Vn, Vn, Vn], 27, none⟩, ⟨.pointer (some q2), [(Vi 0), (Vi 0), (Vi 0), Vn, Vn, Vn, Vn], 27, none⟩]) rfl) (wt_none' rfl) fun _ => ?_
  refine s0 (rd_field' (off := 5) rfl Tryz.underlying27 rfl info24 rfl) ?_
  refine sx_ox' (ox_store' (i := 1) (o := 5) rfl rfl (lv_vl rfl rfl) ⟨rfl, rfl, rfl, rfl⟩ rfl info24 rfl (H' := [⟨.pointer (some wa0), [(Vi r78.1), (Vi r78.2.1), (Sl Kf r78.2.2.1), (Vi r78.2.2.2.1), (Sl (Ki .i64) r78.2.2.2.2)], 118, none⟩, ⟨.pointer (some q3), [(Vi 5), (Vi r70.1), (Vi r15.2.2.2.1), (Sl Kf r73), Vn, Vn, Vn], 27, none⟩, ⟨.pointer (some q2), [(Vi 0), (Vi 0), (Vi 0), Vn, Vn, Vn, Vn], 27, none⟩]) rfl) (wt_none' rfl) fun _ => ?_
  refine nk hK12 ?_
  refine cr fun K13 hK13 => ?_
  refine s0 (rd_load_agg' (i := 1) (o := 0) (nn := 7) rfl ⟨rfl, rfl, rfl, rfl⟩ rfl agg27 (l' := [(Vi 5), (Vi r70.1), (Vi r15.2.2.2.1), (Sl Kf r73), Vn, Vn, Vn]) rfl) ?_
  refine sx_ox' (ox_store' (i := 2) (o := 0) rfl rfl (lv_ag _) ⟨rfl, rfl, rfl, rfl⟩ rfl info27 rfl (H' := [⟨.pointer (some wa0), [(Vi r78.1), (Vi r78.2.1), (Sl Kf r78.2.2.1), (Vi r78.2.2.2.1), (Sl (Ki .i64) r78.2.2.2.2)], 118, none⟩, ⟨.pointer (some q3), [(Vi 5), (Vi r70.1), (Vi r15.2.2.2.1), (Sl Kf r73), Vn, Vn, Vn], 27, none⟩, ⟨.pointer (some q2), [(Vi 5), (Vi r70.1), (Vi r15.2.2.2.1), (Sl Kf r73), Vn, Vn, Vn], 27, none⟩]) rfl) (wt_none' rfl) fun _ => ?_
  refine nk hK13 ?_
  refine cx_retc' ?_
  replace hp := Option.some.inj hp
  subst hp
  refine tx_pick' (L' := [(2, (Vp q2))]) (H' := [⟨.pointer (some wa0), [(Vi r78.1), (Vi r78.2.1), (Sl Kf r78.2.2.1), (Vi r78.2.2.2.1), (Sl (Ki .i64) r78.2.2.2.2)], 118, none⟩, ⟨.pointer (some q2), [(Vi 5), (Vi r70.1), (Vi r15.2.2.2.1), (Sl Kf r73), Vn, Vn, Vn], 27, none⟩]) [0, 2] (sub_cons rfl sub_nil) (by decide) (pick_cons rfl (pick_cons rfl pick_nil)) ?_
  exact tx_ret1' Tryz.results12 rfl () (rv_imp' (x := (Ag [(Vi 5), (Vi r70.1), (Vi r15.2.2.2.1), (Sl Kf r73), Vn, Vn, Vn])) (y := (Ag [(Vi 5), (Vi r70.1), (Vi r15.2.2.2.1), (Sl Kf r73), (Sl (Ki .i64) []), Vn, Vn])) (rv_cell_agg' (i := 1) (o := 0) (nn := 7) rfl ⟨rfl, rfl, rfl, rfl⟩ rfl agg27 rfl) (imp_ag ⟨imp_refl, imp_refl, imp_refl, imp_refl, imp_nil, imp_refl, imp_refl, trivial⟩)) (List.Sublist.cons_cons _ (List.nil_sublist _))
 dsimp only at hp
 refine sx_ox' (ox_calln' (ent_fn' Tryz.func32 isn32 rfl rfl) (impl_ints_sim _ hr76 : Sx.Fn Tryz.prog 32 [(Sl (Ki .i64) r75.2.2.2.2)] [] (fun x : Unit => (Sl (Ki .i64) y1)) (fun x => [])) (Hn := fun x : Unit => [⟨.pointer (some wa0), [(Vi r75.1), (Vi r75.2.1), (Sl Kf r75.2.2.1), (Vi r75.2.2.2.1), (Sl (Ki .i64) r75.2.2.2.2)], 118, none⟩, ⟨.pointer (some q3), [(Vi 5), (Vi 0), (Vi r15.2.2.2.1), Vn, Vn, Vn, Vn], 27, none⟩, ⟨.pointer (some q2), [(Vi 0), (Vi 0), (Vi 0), Vn, Vn, Vn, Vn], 27, none⟩]) (fun _ => rfl) rfl rfl) (wt_none' rfl) fun ⟨⟩ => ?_
 refine s0 (rd_move' rfl) ?_
 obtain ⟨r78, hr78, hp⟩ := bind_some hp
 refine sx_ox' (ox_callg' (ent_inv' rfl rfl (inv_ptr0 (inv48_Endss _))) (gogeom_geom0_Endss_v6_sim _ _ _ _ _ hr78 : Sx.Fn Tryz.prog 98 [(Vp wa0)] [⟨.pointer (some wa0), [(Vi r75.1), (Vi r75.2.1), (Sl Kf r75.2.2.1), (Vi r75.2.2.2.1), (Sl (Ki .i64) r75.2.2.2.2)], 118, none⟩] (fun x : Unit => Vn) (fun x => [⟨.pointer (some wa0), [(Vi r78.1), (Vi r78.2.1), (Sl Kf r78.2.2.1), (Vi r78.2.2.2.1), (Sl (Ki .i64) r78.2.2.2.2)], 118, none⟩])) [0] [1, 2] (by decide) (pick_cons rfl pick_nil) (pick_cons rfl (pick_cons rfl pick_nil)) (Hn := fun x : Unit => [⟨.pointer (some wa0), [(Vi r78.1), (Vi r78.2.1), (Sl Kf r78.2.2.1), (Vi r78.2.2.2.1), (Sl (Ki .i64) r78.2.2.2.2)], 118, none⟩, ⟨.pointer (some q3), [(Vi 5), (Vi 0), (Vi r15.2.2.2.1), Vn, Vn, Vn, Vn], 27, none⟩, ⟨.pointer (some q2), [(Vi 0), (Vi 0), (Vi 0), Vn, Vn, Vn, Vn], 27, none⟩]) (fun _ => rfl) rfl rfl) (wt_none' rfl) fun ⟨⟩ => ?_
 obtain ⟨r79, hr79, hp⟩ := bind_some hp
 refine sx_ox' (ox_calln' (ent_fn' Tryz.func40 isn40 rfl rfl) (impl_intss_v2_sim hr79 : Sx.Fn Tryz.prog 40 [Vn] [] (fun x : Unit => Vn) (fun x => [])) (Hn := fun x : Unit => [⟨.pointer (some wa0), [(Vi r78.1), (Vi r78.2.1), (Sl Kf r78.2.2.1), (Vi r78.2.2.2.1), (Sl (Ki .i64) r78.2.2.2.2)], 118, none⟩, ⟨.pointer (some q3), [(Vi 5), (Vi 0), (Vi r15.2.2.2.1), Vn, Vn, Vn, Vn], 27, none⟩, ⟨.pointer (some q2), [(Vi 0), (Vi 0), (Vi 0), Vn, Vn, Vn, Vn], 27, none⟩]) (fun _ => rfl) rfl rfl) (wt_none' rfl) fun ⟨⟩ => ?_
 refine s0 (rd_field' (off := 1) rfl Tryz.underlying27 rfl info3 rfl) ?_
 refine sx_ox' (ox_store' (i := 1) (o := 1) rfl rfl (lv_vl rfl rfl) ⟨rfl, rfl, rfl, rfl⟩ rfl info3 rfl (H' := [⟨.pointer (some wa0), [(Vi r78.1), (Vi r78.2.1), (Sl Kf r78.2.2.1), (Vi r78.2.2.2.1), (Sl (Ki .i64) r78.2.2.2.2)], 118, none⟩, ⟨.pointer (some q3), [(Vi 5), (Vi r70.1), (Vi r15.2.2.2.1), Vn, Vn, Vn, Vn], 27, none⟩, ⟨.pointer (some q2), [(Vi 0), (Vi 0), (Vi 0), Vn, Vn, Vn, Vn], 27, none⟩]) rfl) (wt_none' rfl) fun _ => ?_
 refine s0 (rd_field' (off := 3) rfl Tryz.underlying27 rfl info22 rfl) ?_
 refine sx_ox' (ox_store' (i := 1) (o := 3) rfl rfl (lv_sl _ _) ⟨rfl, rfl, rfl, rfl⟩ rfl info22 rfl (H' := [⟨.pointer (some wa0), [(Vi r78.1), (Vi r78.2.1), (Sl Kf r78.2.2.1), (Vi r78.2.2.2.1), (Sl (Ki .i64) r78.2.2.2.2)], 118, none⟩, ⟨.pointer (some q3), [(Vi 5), (Vi r70.1), (Vi r15.2.2.2.1), (Sl Kf r73), Vn, Vn, Vn], 27, none⟩, ⟨.pointer (some q2), [(Vi 0), (Vi 0), (Vi 0), Vn, Vn, Vn, Vn], 27, none⟩]) rfl) (wt_none' rfl) fun _ => ?_
 refine s0 (rd_field' (off := 4) rfl Tryz.underlying27 rfl info23 rfl) ?_
 refine sx_ox' (ox_store' (i := 1) (o := 4) rfl rfl (lv_sl _ _) ⟨rfl, rfl, rfl, rfl⟩ rfl info23 rfl (H' := [⟨.pointer (some wa0), [(Vi r78.1), (Vi r78.2.1), (Sl Kf r78.2.2.1), (Vi r78.2.2.2.1), (Sl (Ki .i64) r78.2.2.2.2)], 118, none⟩, ⟨.pointer (some q3), [(Vi 5), (Vi r70.1), (Vi r15.2.2.2.1), (Sl Kf r73), (Sl (Ki .i64) y1), Vn, Vn], 27, none⟩, ⟨.pointer (some q2), [(Vi 0), (Vi 0), (Vi 0), Vn, Vn, Vn, Vn], 27, none⟩]) rfl) (wt_none' rfl) fun _ => ?_
 refine s0 (rd_field' (off := 5) rfl Tryz.underlying27 rfl info24 rfl) ?_
 refine sx_ox' (ox_store' (i := 1) (o := 5) rfl rfl (lv_vl rfl rfl) ⟨rfl, rfl, rfl, rfl⟩ rfl info24 rfl (H' := [⟨.pointer (some wa0), [(Vi r78.1), (Vi r78.2.1), (Sl Kf r78.2.2.1), (Vi r78.2.2.2.1), (Sl (Ki .i64) r78.2.2.2.2)], 118, none⟩, ⟨.pointer (some q3), [(Vi 5), (Vi r70.1), (Vi r15.2.2.2.1), (Sl Kf r73), (Sl (Ki .i64) y1), Vn, Vn], 27, none⟩, ⟨.pointer (some q2), [(Vi 0), (Vi 0), (Vi 0), Vn, Vn, Vn, Vn], 27, none⟩]) rfl) (wt_none' rfl) fun _ => ?_
 refine nk hK12 ?_
 refine cr fun K13 hK13 => ?_
 refine s0 (rd_load_agg' (i := 1) (o := 0) (nn := 7) rfl ⟨rfl, rfl, rfl, rfl⟩ rfl agg27 (l' := [(Vi 5), (Vi r70.1), (Vi r15.2.2.2.1), (Sl Kf r73), (Sl (Ki .i64) y1), Vn, Vn]) rfl) ?_
 refine sx_ox' (ox_store' (i := 2) (o := 0) rfl rfl (lv_ag _) ⟨rfl, rfl, rfl, rfl⟩ rfl info27 rfl (H' := [⟨.pointer (some wa0), [(Vi r78.1), (Vi r78.2.1), (Sl Kf r78.2.2.1), (Vi r78.2.2.2.1), (Sl (Ki .i64) r78.2.2.2.2)], 118, none⟩, ⟨.pointer (some q3), [(Vi 5), (Vi r70.1), (Vi r15.2.2.2.1), (Sl Kf r73), (Sl (Ki .i64) y1), Vn, Vn], 27, none⟩, ⟨.pointer (some q2), [(Vi 5), (Vi r70.1), (Vi r15.2.2.2.1), (Sl Kf r73), (Sl (Ki .i64) y1), Vn, Vn], 27, none⟩]) rfl) (wt_none' rfl) fun _ => ?_
 refine nk hK13 ?_
 refine cx_retc' ?_
 replace hp := Option.some.inj hp
 subst hp
 refine tx_pick' (L' := [(2, (Vp q2))]) (H' := [⟨.pointer (some wa0), [(Vi r78.1), (Vi r78.2.1), (Sl Kf r78.2.2.1), (Vi r78.2.2.2.1), (Sl (Ki .i64) r78.2.2.2.2)], 118, none⟩, ⟨.pointer (some q2), [(Vi 5), (Vi r70.1), (Vi r15.2.2.2.1), (Sl Kf r73), (Sl (Ki .i64) y1), Vn, Vn], 27, none⟩]) [0, 2] (sub_cons rfl sub_nil) (by decide) (pick_cons rfl (pick_cons rfl pick_nil)) ?_
 exact tx_ret1' Tryz.results12 rfl () (rv_cell_agg' (i := 1) (o := 0) (nn := 7) rfl ⟨rfl, rfl, rfl, rfl⟩ rfl agg27 rfl) (List.Sublist.cons_cons _ (List.nil_sublist _))

def gogeom_deriveDeepCopy_11_v7_j1 (k : Nat) (a1_0 : Int) (a1_1 : Int) (a1_3 : Int) (a1_2 : List Nat) (a1_4 : List (List Int)) (x1 : List Nat) : Option (Int × Int × (List Nat) × Int × (List Nat) × (List (List Int))) :=
 some (a1_0, a1_1, x1, a1_3, a1_2, a1_4)
def gogeom_deriveDeepCopy_11_v7 (k : Nat) (a0_0 : Int) (a0_1 : Int) (a0_3 : Int) (a1_0 : Int) (a1_1 : Int) (a1_2 : List Nat) (a1_3 : Int) (a1_4 : List (List Int)) : Option (Int × Int × (List Nat) × Int × (List Nat) × (List (List Int))) :=
 (mk 8 0 (a1_2.length : Int) (a1_2.length : Int)) >>= fun r105 =>
 gogeom_deriveDeepCopy_11_v7_j1 k a1_0 a1_1 a1_3 a1_2 a1_4 (cpy r105 a1_2)

theorem gogeom_deriveDeepCopy_11_v7_sim {k : Nat} {wa0 : Addr} {wa1 : Addr} (a0_0 : Int) (a0_1 : Int) (a0_3 : Int) (a1_0 : Int) (a1_1 : Int) (a1_2 : List Nat) (a1_3 : Int) (a1_4 : List (List Int)) {out : Int × Int × (List Nat) × Int × (List Nat) × (List (List Int))} (hp : gogeom_deriveDeepCopy_11_v7 k a0_0 a0_1 a0_3 a1_0 a1_1 a1_2 a1_3 a1_4 = some out) : Sx.Fn Tryz.prog 74 [(Vp wa0), (Vp wa1)] [⟨.pointer (some wa0), [(Vi a0_0), (Vi a0_1), Vn, (Vi a0_3)], 105, none⟩, ⟨.pointer (some wa1), [(Vi a1_0), (Vi a1_1), (Sl Kf a1_2), (Vi a1_3), (Sl (Kl (Ki .i64)) a1_4)], 122, none⟩] (fun w : Gs => (Vl (.tuple #[]))) (fun w => [⟨.pointer (some wa0), [(Vi out.1), (Vi out.2.1), (Vl (Vs w)), (Vi out.2.2.2.1)], 105, none⟩, (Rw Kf 95 (Vs w) out.2.2.1), ⟨.pointer (some wa1), [(Vi out.1), (Vi out.2.1), (Sl Kf out.2.2.2.2.1), (Vi out.2.2.2.1), (Sl (Kl (Ki .i64)) out.2.2.2.2.2)], 122, none⟩]) := by
 unfold gogeom_deriveDeepCopy_11_v7 at hp
 refine fn_of Tryz.func74 rfl Tryz.ntmps74 rfl fun E hM => ?_
 refine cr fun K1 hK1 => ?_
 refine s0 (rd_move' rfl) ?_
 refine s0 (rd_move' rfl) ?_
 refine s0 (rd_nilck' rfl) ?_
 refine s0 (rd_field0' rfl Tryz.underlying105 rfl info54 rfl) ?_
 refine s0 (rd_load' (i := 1) (o := 0) rfl ⟨rfl, rfl, rfl, rfl⟩ rfl flat54) ?_
 refine s0 (rd_nilck' rfl) ?_
 refine s0 (rd_field0' rfl Tryz.underlying105 rfl info54 rfl) ?_
 refine sx_ox' (ox_store' (i := 0) (o := 0) rfl rfl (lv_vl rfl rfl) ⟨rfl, rfl, rfl, rfl⟩ rfl info54 rfl (H' := [⟨.pointer (some wa0), [(Vi a1_0), (Vi a0_1), Vn, (Vi a0_3)], 105, none⟩, ⟨.pointer (some wa1), [(Vi a1_0), (Vi a1_1), (Sl Kf a1_2), (Vi a1_3), (Sl (Kl (Ki .i64)) a1_4)], 122, none⟩]) rfl) (wt_none' rfl) fun _ => ?_
 refine nk hK1 ?_
 refine cr fun K2 hK2 => ?_
 refine s0 (rd_move' rfl) ?_
 refine s0 (rd_move' rfl) ?_
 refine s0 (rd_nilck' rfl) ?_
 refine s0 (rd_field' (off := 1) rfl Tryz.underlying105 rfl info3 rfl) ?_
 refine s0 (rd_load' (i := 1) (o := 1) rfl ⟨rfl, rfl, rfl, rfl⟩ rfl flat3) ?_
 refine s0 (rd_nilck' rfl) ?_
 refine s0 (rd_field' (off := 1) rfl Tryz.underlying105 rfl info3 rfl) ?_
 refine sx_ox' (ox_store' (i := 0) (o := 1) rfl rfl (lv_vl rfl rfl) ⟨rfl, rfl, rfl, rfl⟩ rfl info3 rfl (H' := [⟨.pointer (some wa0), [(Vi a1_0), (Vi a1_1), Vn, (Vi a0_3)], 105, none⟩, ⟨.pointer (some wa1), [(Vi a1_0), (Vi a1_1), (Sl Kf a1_2), (Vi a1_3), (Sl (Kl (Ki .i64)) a1_4)], 122, none⟩]) rfl) (wt_none' rfl) fun _ => ?_
 refine nk hK2 ?_
 refine cx_join' (fun (v1 : (List Nat) × Gs) => (⟨124, [], [(0, (Vp wa0)), (1, (Vp wa1))], [⟨.pointer (some wa0), [(Vi a1_0), (Vi a1_1), (Vl (Vs v1.2)), (Vi a0_3)], 105, none⟩, (Rw Kf 95 (Vs v1.2) v1.1), ⟨.pointer (some wa1), [(Vi a1_0), (Vi a1_1), (Sl Kf a1_2), (Vi a1_3), (Sl (Kl (Ki .i64)) a1_4)], 122, none⟩]⟩ : St)) (fun (v1 : (List Nat) × Gs) => gogeom_deriveDeepCopy_11_v7_j1 k a1_0 a1_1 a1_3 a1_2 a1_4 v1.1 = some out) ?_ ?_
 ·rintro ⟨x1, g901⟩ hp
  replace hp : gogeom_deriveDeepCopy_11_v7_j1 k a1_0 a1_1 a1_3 a1_2 a1_4 x1 = some out := hp
  unfold gogeom_deriveDeepCopy_11_v7_j1 at hp
  refine cx_region' ?_
  refine s0 (rd_move' rfl) ?_
  refine s0 (rd_move' rfl) ?_
  refine s0 (rd_nilck' rfl) ?_
  refine s0 (rd_field' (off := 3) rfl Tryz.underlying105 rfl info3 rfl) ?_
  refine s0 (rd_load' (i := 2) (o := 3) rfl ⟨rfl, rfl, rfl, rfl⟩ rfl flat3) ?_
  refine s0 (rd_nilck' rfl) ?_
  refine s0 (rd_field' (off := 3) rfl Tryz.underlying105 rfl info3 rfl) ?_
  refine sx_ox' (ox_store' (i := 0) (o := 3) rfl rfl (lv_vl rfl rfl) ⟨rfl, rfl, rfl, rfl⟩ rfl info3 rfl (H' := [⟨.pointer (some wa0), [(Vi a1_0), (Vi a1_1), (Vl (Vs g901)), (Vi a1_3)], 105, none⟩, (Rw Kf 95 (Vs g901) x1), ⟨.pointer (some wa1), [(Vi a1_0), (Vi a1_1), (Sl Kf a1_2), (Vi a1_3), (Sl (Kl (Ki .i64)) a1_4)], 122, none⟩]) rfl) (wt_none' rfl) fun _ => ?_
  refine sx_nil' ?_
  replace hp := Option.some.inj hp
  subst hp
  refine tx_pick' (L' := []) (H' := [⟨.pointer (some wa0), [(Vi a1_0), (Vi a1_1), (Vl (Vs g901)), (Vi a1_3)], 105, none⟩, (Rw Kf 95 (Vs g901) x1), ⟨.pointer (some wa1), [(Vi a1_0), (Vi a1_1), (Sl Kf a1_2), (Vi a1_3), (Sl (Kl (Ki .i64)) a1_4)], 122, none⟩]) [0, 1, 2] sub_nil (by decide) (pick_cons rfl (pick_cons rfl (pick_cons rfl pick_nil))) ?_
  exact tx_end0' Tryz.results74 rfl g901 rfl (List.Sublist.refl _)
 intro K3 hK3
 refine cr fun K4 hK4 => ?_
 refine s0 (rd_move' rfl) ?_
 refine s0 (rd_nilck' rfl) ?_
 refine s0 (rd_field' (off := 2) rfl Tryz.underlying105 rfl info22 rfl) ?_
 refine s0 (rd_load' (i := 1) (o := 2) rfl ⟨rfl, rfl, rfl, rfl⟩ rfl flat22) ?_
 refine s0 (rd_nilany' rfl rfl (fun _ _ _ => by kernel_rfl) (fun _ _ _ _ => by kernel_rfl) nil_eql22_none nil_eql22_sl) ?_
 refine nk hK4 ?_
 refine tx_anybool' 22 rfl fun b1 hb1 => ?_
 refine cx_cond' rfl (fun h1 => ?_) (fun h1 => ?_)
 ·replace hp : gogeom_deriveDeepCopy_11_v7_j1 k a1_0 a1_1 a1_3 a1_2 a1_4 [] = some out := by
   rw [hb1 h1] at hp
   first | exact hp | (rw [hb1 h1]; exact hp)
  refine cx_region' ?_
  refine s0 (rd_move' rfl) ?_
  refine s0 (rd_nilck' rfl) ?_
  refine s0 (rd_field' (off := 2) rfl Tryz.underlying105 rfl info22 rfl) ?_
  refine tx_nilrow' Kf 95 ?_
  refine sx_ox' (ox_store' (i := 1) (o := 2) rfl rfl (lv_vl rfl rfl) ⟨rfl, rfl, rfl, rfl⟩ rfl info22 rfl (H' := [(Rw Kf 95 (Vs (none, 0, 0)) []), ⟨.pointer (some wa0), [(Vi a1_0), (Vi a1_1), (Vl (Vs (none, 0, 0))), (Vi a0_3)], 105, none⟩, ⟨.pointer (some wa1), [(Vi a1_0), (Vi a1_1), (Sl Kf a1_2), (Vi a1_3), (Sl (Kl (Ki .i64)) a1_4)], 122, none⟩]) rfl) (wt_none' rfl) fun _ => ?_
  refine sx_nil' ?_
  show TX E K3 _
  exact tx_pick' [1, 0, 2] (sub_cons rfl (sub_cons rfl sub_nil)) (by decide) (pick_cons rfl (pick_cons rfl (pick_cons rfl pick_nil))) (hK3 ([], (none, 0, 0)) hp)
 clear h1
 refine cx_seq' fun K5 hK5 => ?_
 refine cr fun K6 hK6 => ?_
 refine s0 (rd_move' rfl) ?_
 refine s0 (rd_nilck' rfl) ?_
 refine s0 (rd_field' (off := 2) rfl Tryz.underlying105 rfl info22 rfl) ?_
 refine s0 (rd_load' (i := 0) (o := 2) rfl ⟨rfl, rfl, rfl, rfl⟩ rfl flat22) ?_
 refine s0 (rd_binf' rfl rfl (bf_vl (fun _ => by kernel_rfl) nil_neq22_nilsl)) ?_
 refine nk hK6 ?_
 refine cx_cond_f' rfl rfl ?_
 refine cx_region' ?_
 refine s0 (rd_move' rfl) ?_
 refine s0 (rd_move' rfl) ?_
 refine s0 (rd_nilck' rfl) ?_
 refine s0 (rd_field' (off := 2) rfl Tryz.underlying105 rfl info22 rfl) ?_
 refine s0 (rd_load' (i := 1) (o := 2) rfl ⟨rfl, rfl, rfl, rfl⟩ rfl flat22) ?_
 refine s0 (rd_len' rfl Tryz.underlying22) ?_
 obtain ⟨r105, hr105, hp⟩ := bind_some hp
 refine sx_ox' (ox_make' (K := Kf) rfl rfl hr105 rfl Tryz.underlying22 info95 rfl rfl rfl rfl rfl) (wt_none' rfl) fun g105 => ?_
 refine s0 (rd_nilck' rfl) ?_
 refine s0 (rd_field' (off := 2) rfl Tryz.underlying105 rfl info22 rfl) ?_
 refine sx_ox' (ox_store' (i := 1) (o := 2) rfl rfl (lv_vl rfl rfl) ⟨rfl, rfl, rfl, rfl⟩ rfl info22 rfl (H' := [(Rw Kf 95 (Vs g105) r105), ⟨.pointer (some wa0), [(Vi a1_0), (Vi a1_1), (Vl (Vs g105)), (Vi a0_3)], 105, none⟩, ⟨.pointer (some wa1), [(Vi a1_0), (Vi a1_1), (Sl Kf a1_2), (Vi a1_3), (Sl (Kl (Ki .i64)) a1_4)], 122, none⟩]) rfl) (wt_none' rfl) fun _ => ?_
 refine nk hK5 ?_
 refine cx_plan' [] [(8, 1)] [(0, 1), (1, 1), (2, 1), (3, 1), (4, 1), (5, 1), (6, 1), (7, 1), (8, 0)] mixed (by kernel_rfl) ?_
 refine px_rd' rfl (rd_move' rfl) rfl rfl (wt_none' rfl) ?_
 refine px_rd' rfl (rd_nilck' rfl) rfl rfl (wt_none' rfl) ?_
 refine px_rd' rfl (rd_field' (off := 2) rfl Tryz.underlying105 rfl info22 rfl) rfl rfl (wt_none' rfl) ?_
 refine px_rd' rfl (rd_load' (i := 1) (o := 2) rfl ⟨rfl, rfl, rfl, rfl⟩ rfl flat22) rfl rfl (wt_none' rfl) ?_
 refine px_rd' rfl (rd_move' rfl) rfl rfl (wt_none' rfl) ?_
 refine px_rd' rfl (rd_nilck' rfl) rfl rfl (wt_none' rfl) ?_
 refine px_rd' rfl (rd_field' (off := 2) rfl Tryz.underlying105 rfl info22 rfl) rfl rfl (wt_none' rfl) ?_
 refine px_rd' rfl (rd_load' (i := 2) (o := 2) rfl ⟨rfl, rfl, rfl, rfl⟩ rfl flat22) rfl rfl (wt_none' rfl) ?_
 refine px_ox' rfl (ox_copy' (i := 0) rfl rfl rfl rfl rfl Tryz.underlying22 info95 rfl rfl (H' := [(Rw Kf 95 (Vs g105) (cpy r105 a1_2)), ⟨.pointer (some wa0), [(Vi a1_0), (Vi a1_1), (Vl (Vs g105)), (Vi a0_3)], 105, none⟩, ⟨.pointer (some wa1), [(Vi a1_0), (Vi a1_1), (Sl Kf a1_2), (Vi a1_3), (Sl (Kl (Ki .i64)) a1_4)], 122, none⟩]) rfl) rfl bs_nil (wt_none' rfl) fun _ => ?_
 refine px_nil' ?_
 show TX E K3 _
 exact tx_pick' [1, 0, 2] (sub_cons rfl (sub_cons rfl sub_nil)) (by decide) (pick_cons rfl (pick_cons rfl (pick_cons rfl pick_nil))) (hK3 ((cpy r105 a1_2), g105) hp)

def gogeom_deriveDeepCopy_8_v6 (k : Nat) (a0_0 : Int) (a0_1 : Int) (a0_3 : Int) (a1_0 : Int) (a1_1 : Int) (a1_2 : List Nat) (a1_3 : Int) (a1_4 : List (List Int)) : Option (Int × Int × (List Nat) × Int × (List Nat) × (List (List Int))) :=
 (gogeom_deriveDeepCopy_11_v7 k 0 0 0 a1_0 a1_1 a1_2 a1_3 a1_4) >>= fun r10 =>
 some (r10.1, r10.2.1, r10.2.2.1, r10.2.2.2.1, r10.2.2.2.2.1, r10.2.2.2.2.2)

theorem gogeom_deriveDeepCopy_8_v6_sim {k : Nat} {wa0 : Addr} {wa1 : Addr} (a0_0 : Int) (a0_1 : Int) (a0_3 : Int) (a1_0 : Int) (a1_1 : Int) (a1_2 : List Nat) (a1_3 : Int) (a1_4 : List (List Int)) {out : Int × Int × (List Nat) × Int × (List Nat) × (List (List Int))} (hp : gogeom_deriveDeepCopy_8_v6 k a0_0 a0_1 a0_3 a1_0 a1_1 a1_2 a1_3 a1_4 = some out) : Sx.Fn Tryz.prog 75 [(Vp wa0), (Vp wa1)] [⟨.pointer (some wa0), [(Vi a0_0), (Vi a0_1), Vn, (Vi a0_3)], 108, none⟩, ⟨.pointer (some wa1), [(Vi a1_0), (Vi a1_1), (Sl Kf a1_2), (Vi a1_3), (Sl (Kl (Ki .i64)) a1_4)], 122, none⟩] (fun w : Gs => (Vl (.tuple #[]))) (fun w => [⟨.pointer (some wa0), [(Vi out.1), (Vi out.2.1), (Vl (Vs w)), (Vi out.2.2.2.1)], 108, none⟩, (Rw Kf 95 (Vs w) out.2.2.1), ⟨.pointer (some wa1), [(Vi out.1), (Vi out.2.1), (Sl Kf out.2.2.2.2.1), (Vi out.2.2.2.1), (Sl (Kl (Ki .i64)) out.2.2.2.2.2)], 122, none⟩]) := by
 unfold gogeom_deriveDeepCopy_8_v6 at hp
 refine fn_of Tryz.func75 rfl Tryz.ntmps75 rfl fun E hM => ?_
 refine cr fun K1 hK1 => ?_
 refine sx_ox' (ox_alloc' info105 rfl rfl rfl rfl (l := [(Vi 0), (Vi 0), Vn, (Vi 0)]) rfl) (wt_none' rfl) fun q5 => ?_
 refine s0 (rd_assign' rfl) ?_
 refine nk hK1 ?_
 refine cr fun K2 hK2 => ?_
 refine s0 (rd_move' rfl) ?_
 refine s0 (rd_move' rfl) ?_
 refine s0 (rd_nilck' rfl) ?_
 refine s0 (rd_field0' rfl Tryz.underlying108 rfl info105 rfl) ?_
 obtain ⟨r10, hr10, hp⟩ := bind_some hp
 refine sx_ox' (ox_callg' (ent_fn' Tryz.func74 isn74 rfl rfl) (gogeom_deriveDeepCopy_11_v7_sim _ _ _ _ _ _ _ _ hr10 : Sx.Fn Tryz.prog 74 [(Vp q5), (Vp wa1)] [⟨.pointer (some q5), [(Vi 0), (Vi 0), Vn, (Vi 0)], 105, none⟩, ⟨.pointer (some wa1), [(Vi a1_0), (Vi a1_1), (Sl Kf a1_2), (Vi a1_3), (Sl (Kl (Ki .i64)) a1_4)], 122, none⟩] (fun x : Gs => (Vl (.tuple #[]))) (fun x => [⟨.pointer (some q5), [(Vi r10.1), (Vi r10.2.1), (Vl (Vs x)), (Vi r10.2.2.2.1)], 105, none⟩, (Rw Kf 95 (Vs x) r10.2.2.1), ⟨.pointer (some wa1), [(Vi r10.1), (Vi r10.2.1), (Sl Kf r10.2.2.2.2.1), (Vi r10.2.2.2.1), (Sl (Kl (Ki .i64)) r10.2.2.2.2.2)], 122, none⟩])) [0, 2] [1] (by decide) (pick_cons rfl (pick_cons rfl pick_nil)) (pick_cons rfl pick_nil) (Hn := fun x : Gs => [⟨.pointer (some q5), [(Vi r10.1), (Vi r10.2.1), (Vl (Vs x)), (Vi r10.2.2.2.1)], 105, none⟩, (Rw Kf 95 (Vs x) r10.2.2.1), ⟨.pointer (some wa1), [(Vi r10.1), (Vi r10.2.1), (Sl Kf r10.2.2.2.2.1), (Vi r10.2.2.2.1), (Sl (Kl (Ki .i64)) r10.2.2.2.2.2)], 122, none⟩, ⟨.pointer (some wa0), [(Vi a0_0), (Vi a0_1), Vn, (Vi a0_3)], 108, none⟩]) (fun _ => rfl) rfl rfl) (wt_none' rfl) fun g10 => ?_
 refine nk hK2 ?_
 refine cx_region' ?_
 refine s0 (rd_move' rfl) ?_
 refine s0 (rd_move' rfl) ?_
 refine s0 (rd_nilck' rfl) ?_
 refine s0 (rd_load_agg' (i := 0) (o := 0) (nn := 4) rfl ⟨rfl, rfl, rfl, rfl⟩ rfl agg105 (l' := [(Vi r10.1), (Vi r10.2.1), (Vl (Vs g10)), (Vi r10.2.2.2.1)]) rfl) ?_
 refine s0 (rd_nilck' rfl) ?_
 refine s0 (rd_field0' rfl Tryz.underlying108 rfl info105 rfl) ?_
 refine sx_ox' (ox_store' (i := 3) (o := 0) rfl rfl (lv_ag _) ⟨rfl, rfl, rfl, rfl⟩ rfl info105 rfl (H' := [⟨.pointer (some q5), [(Vi r10.1), (Vi r10.2.1), (Vl (Vs g10)), (Vi r10.2.2.2.1)], 105, none⟩, (Rw Kf 95 (Vs g10) r10.2.2.1), ⟨.pointer (some wa1), [(Vi r10.1), (Vi r10.2.1), (Sl Kf r10.2.2.2.2.1), (Vi r10.2.2.2.1), (Sl (Kl (Ki .i64)) r10.2.2.2.2.2)], 122, none⟩, ⟨.pointer (some wa0), [(Vi r10.1), (Vi r10.2.1), (Vl (Vs g10)), (Vi r10.2.2.2.1)], 108, none⟩]) rfl) (wt_none' rfl) fun _ => ?_
 refine sx_nil' ?_
 replace hp := Option.some.inj hp
 subst hp
 refine tx_pick' (L' := []) (H' := [⟨.pointer (some wa0), [(Vi r10.1), (Vi r10.2.1), (Vl (Vs g10)), (Vi r10.2.2.2.1)], 108, none⟩, (Rw Kf 95 (Vs g10) r10.2.2.1), ⟨.pointer (some wa1), [(Vi r10.1), (Vi r10.2.1), (Sl Kf r10.2.2.2.2.1), (Vi r10.2.2.2.1), (Sl (Kl (Ki .i64)) r10.2.2.2.2.2)], 122, none⟩]) [3, 1, 2] sub_nil (by decide) (pick_cons rfl (pick_cons rfl (pick_cons rfl pick_nil))) ?_
 exact tx_end0' Tryz.results75 rfl g10 rfl (List.Sublist.refl _)

def gogeom_deriveDeepCopy_12 (k : Nat) (a0 : List Unit) (a1 : List (List Int)) : Option ((List (List Int))) :=
 br (decide (a0.length = a1.length) && decide (a1.length ≤ 35184372088832) && a1.all fun x => decide (x.length ≤ 35184372088832))
  (some a1)
  (none)

theorem gogeom_deriveDeepCopy_12_sim {k : Nat} {wa0 : Gs} (a0 : List Unit) (a1 : List (List Int)) {out : (List (List Int))} (hp : gogeom_deriveDeepCopy_12 k a0 a1 = some out) : Sx.Fn Tryz.prog 78 [(Vl (Vs wa0)), (Sl (Kl (Ki .i64)) a1)] [(Rw Kn 23 (Vs wa0) a0)] (fun w : Unit => (Vl (.tuple #[]))) (fun w => [(Rw (Kl (Ki .i64)) 23 (Vs wa0) out)]) := by
 unfold gogeom_deriveDeepCopy_12 at hp
 refine fn_of Tryz.func78 rfl Tryz.ntmps78 rfl fun E hM => ?_
 obtain ⟨he, hlen, hall, rfl⟩ : a0.length = a1.length ∧ a1.length ≤ 35184372088832 ∧ (∀ x ∈ a1, x.length ≤ 35184372088832) ∧ a1 = out := by
  rcases br_cases hp with ⟨h, hp⟩ | ⟨h, hp⟩
  ·simp only [Bool.and_eq_true, decide_eq_true_eq, List.all_eq_true] at h
   exact ⟨h.1.1, h.1.2, h.2, Option.some.inj hp⟩
  cases hp
 rw [cel_zero (K := Ki .i64) he]
 refine cr fun K1 hK1 => ?_
 refine s0 (rd_move' rfl) ?_
 refine s0 (rd_len' rfl Tryz.underlying24) ?_
 refine s0 (rd_move' rfl) ?_
 refine nk hK1 ?_
 refine cx_block' ?_
 refine tx_pick' (L' := [(0, (Vl (Vs wa0))), (6, (Sl (Kl (Ki .i64)) a1)), (7, (Vi (a1.length : Int))), (8, (Vi 0))]) (H' := [(Rw KV 23 (Vs wa0) (cel (Ki .i64) a1 0))]) [0] (sub_cons rfl (sub_cons rfl (sub_cons rfl (sub_cons rfl sub_nil)))) (by decide) (pick_cons rfl pick_nil) ?_
 refine cxupto (fun i => (⟨86, [], [(0, (Vl (Vs wa0))), (6, (Sl (Kl (Ki .i64)) a1)), (7, (Vi (a1.length : Int))), (8, (Vi (i : Int)))], [(Rw KV 23 (Vs wa0) (cel (Ki .i64) a1 i))]⟩ : St)) a1.length fun i hi K hK => ?_
 refine cr fun K9 hK9 => ?_
 refine s0 (rd_bin' rfl rfl eg_int ru_lss) ?_
 refine nk hK9 ?_
 refine cx_seq' fun K10 hK10 => ?_
 refine cx_cond' rfl (fun h3 => ?_) (fun h3 => ?_)
 ·have hlt : i < a1.length := by simpa using h3
  obtain ⟨x, hx⟩ : ∃ x, a1[i]? = some x := ⟨_, List.getElem?_eq_getElem hlt⟩
  have hxl : x.length ≤ 35184372088832 := hall x (List.mem_of_getElem? hx)
  have hix := idx_of hx
  have hic := idx_of (cel_at (K := Ki .i64) hlt)
  have ei : iadd .i64 (i : Int) 1 = ((i + 1 : Nat) : Int) := iadd_succ (by omega)
  refine cx_skip' ?_
  show TX E K10 _
  refine tx_k' hK10 ?_
  refine cx_seq' fun K11 hK11 => ?_
  refine cx_block' ?_
  refine cr fun K12 hK12 => ?_
  refine s0 (rd_move' rfl) ?_
  refine s0 (rd_at' (K := (Kl (Ki .i64))) rfl rfl hix Tryz.underlying24 info23) ?_
  refine s0 (rd_load_pt' rfl rfl flat23) ?_
  refine s0 (rd_assign' rfl) ?_
  refine s0 (rd_assign' rfl) ?_
  refine nk hK12 ?_
  refine cr fun K13 hK13 => ?_
  refine s0 (rd_move' rfl) ?_
  refine s0 (rd_nilany' (xs := x) rfl rfl (fun _ _ _ => by kernel_rfl) (fun _ _ _ _ => by kernel_rfl) (fun _ _ _ => by kernel_rfl) (fun _ _ _ _ => by kernel_rfl)) ?_
  refine tx_anybool' 14 rfl fun b hb => ?_
  refine nk hK13 ?_
  refine cx_cond' rfl (fun h4 => ?_) (fun h4 => ?_)
  ·have hx0 := hb h4
   subst hx0
   refine cx_region' ?_
   refine s0 (rd_move' rfl) ?_
   refine s0 (rd_move' rfl) ?_
   refine s0 (rd_atr' (m := 0) rfl rfl rfl rfl hic Tryz.underlying24 info23) ?_
   refine sx_ox' (ox_storer' (m := 0) (i := (i : Int)) (j := 0) (x' := Vn) rfl rfl (lv_vl rfl rfl) rfl rfl hic rfl rfl rfl info23 rfl (H' := [(Rw KV 23 (Vs wa0) ((cel (Ki .i64) a1 i).set (i : Int).toNat Vn))]) rfl) (wt_none' rfl) fun _ => ?_
   refine tx_cell' 0 i (x := Vl (.slice none 0 0)) (y := Sl (Ki .i64) []) rfl (cel_nil hlt) imp_nil (H' := [(Rw KV 23 (Vs wa0) (cel (Ki .i64) a1 (i + 1)))]) (cel_put hx) ?_
   refine nk hK11 ?_
   refine cx_region' ?_
   refine s0 (rd_bin' rfl rfl eg_int (ru_addc ei)) ?_
   refine s0 (rd_move' rfl) ?_
   refine sx_nil' ?_
   show TX E K _
   exact tx_pick' [0] (sub_cons rfl (sub_cons rfl (sub_cons rfl (sub_cons rfl sub_nil)))) (by decide) (pick_cons rfl pick_nil) (hK hlt)
  refine cx_seq' fun K15 hK15 => ?_
  refine cr fun K14 hK14 => ?_
  refine s0 (rd_move' rfl) ?_
  refine s0 (rd_move' rfl) ?_
  refine s0 (rd_atr' (m := 0) rfl rfl rfl rfl hic Tryz.underlying24 info23) ?_
  refine s0 (rd_loadr' rfl (m := 0) (i := (i : Int)) (j := 0) rfl rfl hic rfl rfl flat23) ?_
  refine s0 (rd_binf' rfl rfl (bf_vl (fun _ => by kernel_rfl) nil_neq23_nilsl)) ?_
  refine nk hK14 ?_
  refine cx_cond' rfl (fun h5 => ?_) (fun h5 => ?_)
  ·cases h5
  refine cx_region' ?_
  refine s0 (rd_move' rfl) ?_
  refine s0 (rd_move' rfl) ?_
  refine s0 (rd_move' rfl) ?_
  refine s0 (rd_len' rfl Tryz.underlying23) ?_
  refine sx_ox' (ox_make' (K := (Ki .i64)) rfl rfl (mk_len (z := 0) hxl) rfl Tryz.underlying23 info3 rfl rfl rfl rfl rfl) (wt_none' rfl) fun g77 => ?_
  refine s0 (rd_atr' (m := 1) rfl rfl rfl rfl hic Tryz.underlying24 info23) ?_
  refine sx_ox' (ox_storer' (m := 1) (i := (i : Int)) (j := 0) (x' := (Vl (Vs g77))) rfl rfl (lv_vl rfl rfl) rfl rfl hic rfl rfl rfl info23 rfl (H' := [(Rw (Ki .i64) 3 (Vs g77) (List.replicate x.length 0)), (Rw KV 23 (Vs wa0) ((cel (Ki .i64) a1 i).set (i : Int).toNat (Vl (Vs g77))))]) rfl) (wt_none' rfl) fun _ => ?_
  refine nk hK15 ?_
  refine cx_region' ?_
  refine s0 (rd_move' rfl) ?_
  refine s0 (rd_move' rfl) ?_
  have hic2 := idx_of (i := i) (show ((cel (Ki .i64) a1 i).set (i : Int).toNat (Vl (Vs g77)))[i]? = some (Vl (Vs g77)) from by rw [Int.toNat_natCast, List.getElem?_set_self (by rw [cel_length (Nat.le_of_lt hlt)]; exact hlt)])
  refine s0 (rd_atr' (m := 1) rfl rfl rfl rfl hic2 Tryz.underlying24 info23) ?_
  refine s0 (rd_loadr' rfl (m := 1) (i := (i : Int)) (j := 0) rfl rfl hic2 rfl rfl flat23) ?_
  refine s0 (rd_move' rfl) ?_
  refine sx_ox' (ox_copy' (K := (Ki .i64)) (i := 0) (xs := List.replicate x.length 0) (ys := x) rfl rfl rfl rfl cpy_all Tryz.underlying23 info3 rfl rfl (H' := [(Rw (Ki .i64) 3 (Vs g77) x), (Rw KV 23 (Vs wa0) ((cel (Ki .i64) a1 i).set (i : Int).toNat (Vl (Vs g77))))]) rfl) (wt_none' rfl) fun _ => ?_
  refine tx_fz' (frz_row 0 [] rfl rfl trivial (H' := [(Rw KV 23 (Vs wa0) (cel (Ki .i64) a1 (i + 1)))]) ⟨⟨rfl, rfl, rfl, frzL_cel hx⟩, trivial⟩) ?_
  refine nk hK11 ?_
  refine cx_region' ?_
  refine s0 (rd_bin' rfl rfl eg_int (ru_addc ei)) ?_
  refine s0 (rd_move' rfl) ?_
  refine sx_nil' ?_
  show TX E K _
  exact tx_pick' [0] (sub_cons rfl (sub_cons rfl (sub_cons rfl (sub_cons rfl sub_nil)))) (by decide) (pick_cons rfl pick_nil) (hK hlt)
 have hin : i = a1.length := by
  have : ¬ i < a1.length := by simpa using h3
  omega
 subst hin
 rw [cel_end]
 refine cx_exit' ?_
 refine tx_pick' (L' := []) (H' := [(Rw (Kl (Ki .i64)) 23 (Vs wa0) a1)]) [0] sub_nil (by decide) (pick_cons rfl pick_nil) ?_
 exact tx_end0' Tryz.results78 rfl () rfl (List.Sublist.refl _)

def gogeom_deriveDeepCopy_10 (k : Nat) (a0_0 : Int) (a0_1 : Int) (a0_3 : Int) (a1_0 : Int) (a1_1 : Int) (a1_2 : List Nat) (a1_3 : Int) (a1_4 : List (List Int)) : Option (Int × Int × (List Nat) × Int × (List (List Int)) × (List Nat) × (List (List Int))) :=
 (gogeom_deriveDeepCopy_8_v6 k 0 0 0 a1_0 a1_1 a1_2 a1_3 a1_4) >>= fun r10 =>
 (mk 24 () (r10.2.2.2.2.2.length : Int) (r10.2.2.2.2.2.length : Int)) >>= fun r104 =>
 (gogeom_deriveDeepCopy_12 k r104 r10.2.2.2.2.2) >>= fun r115 =>
 some (r10.1, r10.2.1, r10.2.2.1, r10.2.2.2.1, r115, r10.2.2.2.2.1, r10.2.2.2.2.2)

theorem gogeom_deriveDeepCopy_10_sim {k : Nat} {wa0 : Addr} {wa1 : Addr} (a0_0 : Int) (a0_1 : Int) (a0_3 : Int) (a1_0 : Int) (a1_1 : Int) (a1_2 : List Nat) (a1_3 : Int) (a1_4 : List (List Int)) {out : Int × Int × (List Nat) × Int × (List (List Int)) × (List Nat) × (List (List Int))} (hp : gogeom_deriveDeepCopy_10 k a0_0 a0_1 a0_3 a1_0 a1_1 a1_2 a1_3 a1_4 = some out) : Sx.Fn Tryz.prog 77 [(Vp wa0), (Vp wa1)] [⟨.pointer (some wa0), [(Vi a0_0), (Vi a0_1), Vn, (Vi a0_3), Vn], 120, none⟩, ⟨.pointer (some wa1), [(Vi a1_0), (Vi a1_1), (Sl Kf a1_2), (Vi a1_3), (Sl (Kl (Ki .i64)) a1_4)], 122, none⟩] (fun w : Gs × Gs => (Vl (.tuple #[]))) (fun w => [⟨.pointer (some wa0), [(Vi out.1), (Vi out.2.1), (Vl (Vs w.1)), (Vi out.2.2.2.1), (Vl (Vs w.2))], 120, none⟩, (Rw Kf 95 (Vs w.1) out.2.2.1), (Rw (Kl (Ki .i64)) 23 (Vs w.2) out.2.2.2.2.1), ⟨.pointer (some wa1), [(Vi out.1), (Vi out.2.1), (Sl Kf out.2.2.2.2.2.1), (Vi out.2.2.2.1), (Sl (Kl (Ki .i64)) out.2.2.2.2.2.2)], 122, none⟩]) := by
 unfold gogeom_deriveDeepCopy_10 at hp
 refine fn_of Tryz.func77 rfl Tryz.ntmps77 rfl fun E hM => ?_
 refine cx_seq' fun K1 hK1 => ?_
 refine cr fun K2 hK2 => ?_
 refine sx_ox' (ox_alloc' info108 rfl rfl rfl rfl (l := [(Vi 0), (Vi 0), Vn, (Vi 0)]) rfl) (wt_none' rfl) fun q5 => ?_
 refine s0 (rd_assign' rfl) ?_
 refine nk hK2 ?_
 refine cr fun K3 hK3 => ?_
 refine s0 (rd_move' rfl) ?_
 refine s0 (rd_move' rfl) ?_
 refine s0 (rd_nilck' rfl) ?_
 refine s0 (rd_field0' rfl Tryz.underlying120 rfl info108 rfl) ?_
 obtain ⟨r10, hr10, hp⟩ := bind_some hp
 refine sx_ox' (ox_callg' (ent_fn' Tryz.func75 isn75 rfl rfl) (gogeom_deriveDeepCopy_8_v6_sim _ _ _ _ _ _ _ _ hr10 : Sx.Fn Tryz.prog 75 [(Vp q5), (Vp wa1)] [⟨.pointer (some q5), [(Vi 0), (Vi 0), Vn, (Vi 0)], 108, none⟩, ⟨.pointer (some wa1), [(Vi a1_0), (Vi a1_1), (Sl Kf a1_2), (Vi a1_3), (Sl (Kl (Ki .i64)) a1_4)], 122, none⟩] (fun x : Gs => (Vl (.tuple #[]))) (fun x => [⟨.pointer (some q5), [(Vi r10.1), (Vi r10.2.1), (Vl (Vs x)), (Vi r10.2.2.2.1)], 108, none⟩, (Rw Kf 95 (Vs x) r10.2.2.1), ⟨.pointer (some wa1), [(Vi r10.1), (Vi r10.2.1), (Sl Kf r10.2.2.2.2.1), (Vi r10.2.2.2.1), (Sl (Kl (Ki .i64)) r10.2.2.2.2.2)], 122, none⟩])) [0, 2] [1] (by decide) (pick_cons rfl (pick_cons rfl pick_nil)) (pick_cons rfl pick_nil) (Hn := fun x : Gs => [⟨.pointer (some q5), [(Vi r10.1), (Vi r10.2.1), (Vl (Vs x)), (Vi r10.2.2.2.1)], 108, none⟩, (Rw Kf 95 (Vs x) r10.2.2.1), ⟨.pointer (some wa1), [(Vi r10.1), (Vi r10.2.1), (Sl Kf r10.2.2.2.2.1), (Vi r10.2.2.2.1), (Sl (Kl (Ki .i64)) r10.2.2.2.2.2)], 122, none⟩, ⟨.pointer (some wa0), [(Vi a0_0), (Vi a0_1), Vn, (Vi a0_3), Vn], 120, none⟩]) (fun _ => rfl) rfl rfl) (wt_none' rfl) fun g10 => ?_
 refine nk hK3 ?_
 refine cx_region' ?_
 refine s0 (rd_move' rfl) ?_
 refine s0 (rd_move' rfl) ?_
 refine s0 (rd_nilck' rfl) ?_
 refine s0 (rd_load_agg' (i := 0) (o := 0) (nn := 4) rfl ⟨rfl, rfl, rfl, rfl⟩ rfl agg108 (l' := [(Vi r10.1), (Vi r10.2.1), (Vl (Vs g10)), (Vi r10.2.2.2.1)]) rfl) ?_
 refine s0 (rd_nilck' rfl) ?_
 refine s0 (rd_field0' rfl Tryz.underlying120 rfl info108 rfl) ?_
 refine sx_ox' (ox_store' (i := 3) (o := 0) rfl rfl (lv_ag _) ⟨rfl, rfl, rfl, rfl⟩ rfl info108 rfl (H' := [⟨.pointer (some q5), [(Vi r10.1), (Vi r10.2.1), (Vl (Vs g10)), (Vi r10.2.2.2.1)], 108, none⟩, (Rw Kf 95 (Vs g10) r10.2.2.1), ⟨.pointer (some wa1), [(Vi r10.1), (Vi r10.2.1), (Sl Kf r10.2.2.2.2.1), (Vi r10.2.2.2.1), (Sl (Kl (Ki .i64)) r10.2.2.2.2.2)], 122, none⟩, ⟨.pointer (some wa0), [(Vi r10.1), (Vi r10.2.1), (Vl (Vs g10)), (Vi r10.2.2.2.1), Vn], 120, none⟩]) rfl) (wt_none' rfl) fun _ => ?_
 refine nk hK1 ?_
 refine cr fun K4 hK4 => ?_
 refine s0 (rd_move' rfl) ?_
 refine s0 (rd_nilck' rfl) ?_
 refine s0 (rd_field' (off := 4) rfl Tryz.underlying120 rfl info24 rfl) ?_
 refine s0 (rd_load' (i := 2) (o := 4) rfl ⟨rfl, rfl, rfl, rfl⟩ rfl flat24) ?_
 refine s0 (rd_nilany' rfl rfl (fun _ _ _ => by kernel_rfl) (fun _ _ _ _ => by kernel_rfl) nil_eql24_none nil_eql24_sl) ?_
 refine nk hK4 ?_
 refine tx_anybool' 21 rfl fun b1 hb1 => ?_
 refine cx_cond' rfl (fun h1 => ?_) (fun h1 => ?_)
 ·replace hp : some (r10.1, r10.2.1, r10.2.2.1, r10.2.2.2.1, [], r10.2.2.2.2.1, r10.2.2.2.2.2) = some out := by
   rw [hb1 h1] at hp
   first | exact hp | (rw [hb1 h1]; exact hp)
  refine cx_region' ?_
  refine s0 (rd_move' rfl) ?_
  refine s0 (rd_nilck' rfl) ?_
  refine s0 (rd_field' (off := 4) rfl Tryz.underlying120 rfl info24 rfl) ?_
  refine tx_nilrow' (Kl (Ki .i64)) 23 ?_
  refine sx_ox' (ox_store' (i := 4) (o := 4) rfl rfl (lv_vl rfl rfl) ⟨rfl, rfl, rfl, rfl⟩ rfl info24 rfl (H' := [(Rw (Kl (Ki .i64)) 23 (Vs (none, 0, 0)) []), ⟨.pointer (some q5), [(Vi r10.1), (Vi r10.2.1), (Vl (Vs g10)), (Vi r10.2.2.2.1)], 108, none⟩, (Rw Kf 95 (Vs g10) r10.2.2.1), ⟨.pointer (some wa1), [(Vi r10.1), (Vi r10.2.1), (Sl Kf r10.2.2.2.2.1), (Vi r10.2.2.2.1), (Sl (Kl (Ki .i64)) r10.2.2.2.2.2)], 122, none⟩, ⟨.pointer (some wa0), [(Vi r10.1), (Vi r10.2.1), (Vl (Vs g10)), (Vi r10.2.2.2.1), (Vl (Vs (none, 0, 0)))], 120, none⟩]) rfl) (wt_none' rfl) fun _ => ?_
  refine sx_nil' ?_
  replace hp := Option.some.inj hp
  subst hp
  refine tx_pick' (L' := []) (H' := [⟨.pointer (some wa0), [(Vi r10.1), (Vi r10.2.1), (Vl (Vs g10)), (Vi r10.2.2.2.1), (Vl (Vs (none, 0, 0)))], 120, none⟩, (Rw Kf 95 (Vs g10) r10.2.2.1), (Rw (Kl (Ki .i64)) 23 (Vs (none, 0, 0)) []), ⟨.pointer (some wa1), [(Vi r10.1), (Vi r10.2.1), (Sl Kf r10.2.2.2.2.1), (Vi r10.2.2.2.1), (Sl (Kl (Ki .i64)) r10.2.2.2.2.2)], 122, none⟩]) [4, 2, 0, 3] sub_nil (by decide) (pick_cons rfl (pick_cons rfl (pick_cons rfl (pick_cons rfl pick_nil)))) ?_
  exact tx_end0' Tryz.results77 rfl (g10, (none, 0, 0)) rfl (List.Sublist.refl _)
 clear h1
 refine cx_seq' fun K5 hK5 => ?_
 refine cr fun K6 hK6 => ?_
 refine s0 (rd_move' rfl) ?_
 refine s0 (rd_nilck' rfl) ?_
 refine s0 (rd_field' (off := 4) rfl Tryz.underlying120 rfl info24 rfl) ?_
 refine s0 (rd_load' (i := 3) (o := 4) rfl ⟨rfl, rfl, rfl, rfl⟩ rfl flat24) ?_
 refine s0 (rd_binf' rfl rfl (bf_vl (fun _ => by kernel_rfl) nil_neq24_nilsl)) ?_
 refine nk hK6 ?_
 refine cx_cond_f' rfl rfl ?_
 refine cx_region' ?_
 refine s0 (rd_move' rfl) ?_
 refine s0 (rd_move' rfl) ?_
 refine s0 (rd_nilck' rfl) ?_
 refine s0 (rd_field' (off := 4) rfl Tryz.underlying120 rfl info24 rfl) ?_
 refine s0 (rd_load' (i := 2) (o := 4) rfl ⟨rfl, rfl, rfl, rfl⟩ rfl flat24) ?_
 refine s0 (rd_len' rfl Tryz.underlying24) ?_
 obtain ⟨r104, hr104, hp⟩ := bind_some hp
 refine sx_ox' (ox_make' (K := Kn) rfl rfl hr104 rfl Tryz.underlying24 info23 rfl rfl rfl rfl rfl) (wt_none' rfl) fun g104 => ?_
 refine s0 (rd_nilck' rfl) ?_
 refine s0 (rd_field' (off := 4) rfl Tryz.underlying120 rfl info24 rfl) ?_
 refine sx_ox' (ox_store' (i := 4) (o := 4) rfl rfl (lv_vl rfl rfl) ⟨rfl, rfl, rfl, rfl⟩ rfl info24 rfl (H' := [(Rw Kn 23 (Vs g104) r104), ⟨.pointer (some q5), [(Vi r10.1), (Vi r10.2.1), (Vl (Vs g10)), (Vi r10.2.2.2.1)], 108, none⟩, (Rw Kf 95 (Vs g10) r10.2.2.1), ⟨.pointer (some wa1), [(Vi r10.1), (Vi r10.2.1), (Sl Kf r10.2.2.2.2.1), (Vi r10.2.2.2.1), (Sl (Kl (Ki .i64)) r10.2.2.2.2.2)], 122, none⟩, ⟨.pointer (some wa0), [(Vi r10.1), (Vi r10.2.1), (Vl (Vs g10)), (Vi r10.2.2.2.1), (Vl (Vs g104))], 120, none⟩]) rfl) (wt_none' rfl) fun _ => ?_
 refine nk hK5 ?_
 refine cx_plan' [] [(8, 1)] [(0, 1), (1, 1), (2, 1), (3, 1), (4, 1), (5, 1), (6, 1), (7, 1), (8, 0)] mixed (by kernel_rfl) ?_
 refine px_rd' rfl (rd_move' rfl) rfl rfl (wt_none' rfl) ?_
 refine px_rd' rfl (rd_nilck' rfl) rfl rfl (wt_none' rfl) ?_
 refine px_rd' rfl (rd_field' (off := 4) rfl Tryz.underlying120 rfl info24 rfl) rfl rfl (wt_none' rfl) ?_
 refine px_rd' rfl (rd_load' (i := 4) (o := 4) rfl ⟨rfl, rfl, rfl, rfl⟩ rfl flat24) rfl rfl (wt_none' rfl) ?_
 refine px_rd' rfl (rd_move' rfl) rfl rfl (wt_none' rfl) ?_
 refine px_rd' rfl (rd_nilck' rfl) rfl rfl (wt_none' rfl) ?_
 refine px_rd' rfl (rd_field' (off := 4) rfl Tryz.underlying120 rfl info24 rfl) rfl rfl (wt_none' rfl) ?_
 refine px_rd' rfl (rd_load' (i := 3) (o := 4) rfl ⟨rfl, rfl, rfl, rfl⟩ rfl flat24) rfl rfl (wt_none' rfl) ?_
 obtain ⟨r115, hr115, hp⟩ := bind_some hp
 refine px_oxb' (is := [0]) rfl (oxb_callg (ent_fn' Tryz.func78 isn78 rfl rfl) (gogeom_deriveDeepCopy_12_sim _ _ hr115 : Sx.Fn Tryz.prog 78 [(Vl (Vs g104)), (Sl (Kl (Ki .i64)) r10.2.2.2.2.2)] [(Rw Kn 23 (Vs g104) r104)] (fun x : Unit => (Vl (.tuple #[]))) (fun x => [(Rw (Kl (Ki .i64)) 23 (Vs g104) r115)])) [0] [1, 2, 3, 4] (by decide) (pick_cons rfl pick_nil) (pick_cons rfl (pick_cons rfl (pick_cons rfl (pick_cons rfl pick_nil)))) (Hn := fun x : Unit => [(Rw (Kl (Ki .i64)) 23 (Vs g104) r115), ⟨.pointer (some q5), [(Vi r10.1), (Vi r10.2.1), (Vl (Vs g10)), (Vi r10.2.2.2.1)], 108, none⟩, (Rw Kf 95 (Vs g10) r10.2.2.1), ⟨.pointer (some wa1), [(Vi r10.1), (Vi r10.2.1), (Sl Kf r10.2.2.2.2.1), (Vi r10.2.2.2.1), (Sl (Kl (Ki .i64)) r10.2.2.2.2.2)], 122, none⟩, ⟨.pointer (some wa0), [(Vi r10.1), (Vi r10.2.1), (Vl (Vs g10)), (Vi r10.2.2.2.1), (Vl (Vs g104))], 120, none⟩]) (fun _ => rfl) rfl rfl) (pick_cons rfl pick_nil) rfl bl_nil (wt_none' rfl) fun ⟨⟩ => ?_
 refine px_nil' ?_
 replace hp := Option.some.inj hp
 subst hp
 refine tx_pick' (L' := []) (H' := [⟨.pointer (some wa0), [(Vi r10.1), (Vi r10.2.1), (Vl (Vs g10)), (Vi r10.2.2.2.1), (Vl (Vs g104))], 120, none⟩, (Rw Kf 95 (Vs g10) r10.2.2.1), (Rw (Kl (Ki .i64)) 23 (Vs g104) r115), ⟨.pointer (some wa1), [(Vi r10.1), (Vi r10.2.1), (Sl Kf r10.2.2.2.2.1), (Vi r10.2.2.2.1), (Sl (Kl (Ki .i64)) r10.2.2.2.2.2)], 122, none⟩]) [4, 2, 0, 3] sub_nil (by decide) (pick_cons rfl (pick_cons rfl (pick_cons rfl (pick_cons rfl pick_nil)))) ?_
 exact tx_end0' Tryz.results77 rfl (g10, g104) rfl (List.Sublist.refl _)

def gogeom_deriveDeepCopy_5 (k : Nat) (a0_0 : Int) (a0_1 : Int) (a0_3 : Int) (a1_0 : Int) (a1_1 : Int) (a1_2 : List Nat) (a1_3 : Int) (a1_4 : List (List Int)) : Option (Int × Int × (List Nat) × Int × (List (List Int)) × (List Nat) × (List (List Int))) :=
 (gogeom_deriveDeepCopy_10 k 0 0 0 a1_0 a1_1 a1_2 a1_3 a1_4) >>= fun r10 =>
 some (r10.1, r10.2.1, r10.2.2.1, r10.2.2.2.1, r10.2.2.2.2.1, r10.2.2.2.2.2.1, r10.2.2.2.2.2.2)

theorem gogeom_deriveDeepCopy_5_sim {k : Nat} {wa0 : Addr} {wa1 : Addr} (a0_0 : Int) (a0_1 : Int) (a0_3 : Int) (a1_0 : Int) (a1_1 : Int) (a1_2 : List Nat) (a1_3 : Int) (a1_4 : List (List Int)) {out : Int × Int × (List Nat) × Int × (List (List Int)) × (List Nat) × (List (List Int))} (hp : gogeom_deriveDeepCopy_5 k a0_0 a0_1 a0_3 a1_0 a1_1 a1_2 a1_3 a1_4 = some out) : Sx.Fn Tryz.prog 71 [(Vp wa0), (Vp wa1)] [⟨.pointer (some wa0), [(Vi a0_0), (Vi a0_1), Vn, (Vi a0_3), Vn], 122, none⟩, ⟨.pointer (some wa1), [(Vi a1_0), (Vi a1_1), (Sl Kf a1_2), (Vi a1_3), (Sl (Kl (Ki .i64)) a1_4)], 122, none⟩] (fun w : Gs × Gs => (Vl (.tuple #[]))) (fun w => [⟨.pointer (some wa0), [(Vi out.1), (Vi out.2.1), (Vl (Vs w.1)), (Vi out.2.2.2.1), (Vl (Vs w.2))], 122, none⟩, (Rw Kf 95 (Vs w.1) out.2.2.1), (Rw (Kl (Ki .i64)) 23 (Vs w.2) out.2.2.2.2.1), ⟨.pointer (some wa1), [(Vi out.1), (Vi out.2.1), (Sl Kf out.2.2.2.2.2.1), (Vi out.2.2.2.1), (Sl (Kl (Ki .i64)) out.2.2.2.2.2.2)], 122, none⟩]) := by
 unfold gogeom_deriveDeepCopy_5 at hp
 refine fn_of Tryz.func71 rfl Tryz.ntmps71 rfl fun E hM => ?_
 refine cr fun K1 hK1 => ?_
 refine sx_ox' (ox_alloc' info120 rfl rfl rfl rfl (l := [(Vi 0), (Vi 0), Vn, (Vi 0), Vn]) rfl) (wt_none' rfl) fun q5 => ?_
 refine s0 (rd_assign' rfl) ?_
 refine nk hK1 ?_
 refine cr fun K2 hK2 => ?_
 refine s0 (rd_move' rfl) ?_
 refine s0 (rd_move' rfl) ?_
 refine s0 (rd_nilck' rfl) ?_
 refine s0 (rd_field0' rfl Tryz.underlying122 rfl info120 rfl) ?_
 obtain ⟨r10, hr10, hp⟩ := bind_some hp
 refine sx_ox' (ox_callg' (ent_fn' Tryz.func77 isn77 rfl rfl) (gogeom_deriveDeepCopy_10_sim _ _ _ _ _ _ _ _ hr10 : Sx.Fn Tryz.prog 77 [(Vp q5), (Vp wa1)] [⟨.pointer (some q5), [(Vi 0), (Vi 0), Vn, (Vi 0), Vn], 120, none⟩, ⟨.pointer (some wa1), [(Vi a1_0), (Vi a1_1), (Sl Kf a1_2), (Vi a1_3), (Sl (Kl (Ki .i64)) a1_4)], 122, none⟩] (fun x : Gs × Gs => (Vl (.tuple #[]))) (fun x => [⟨.pointer (some q5), [(Vi r10.1), (Vi r10.2.1), (Vl (Vs x.1)), (Vi r10.2.2.2.1), (Vl (Vs x.2))], 120, none⟩, (Rw Kf 95 (Vs x.1) r10.2.2.1), (Rw (Kl (Ki .i64)) 23 (Vs x.2) r10.2.2.2.2.1), ⟨.pointer (some wa1), [(Vi r10.1), (Vi r10.2.1), (Sl Kf r10.2.2.2.2.2.1), (Vi r10.2.2.2.1), (Sl (Kl (Ki .i64)) r10.2.2.2.2.2.2)], 122, none⟩])) [0, 2] [1] (by decide) (pick_cons rfl (pick_cons rfl pick_nil)) (pick_cons rfl pick_nil) (Hn := fun x : Gs × Gs => [⟨.pointer (some q5), [(Vi r10.1), (Vi r10.2.1), (Vl (Vs x.1)), (Vi r10.2.2.2.1), (Vl (Vs x.2))], 120, none⟩, (Rw Kf 95 (Vs x.1) r10.2.2.1), (Rw (Kl (Ki .i64)) 23 (Vs x.2) r10.2.2.2.2.1), ⟨.pointer (some wa1), [(Vi r10.1), (Vi r10.2.1), (Sl Kf r10.2.2.2.2.2.1), (Vi r10.2.2.2.1), (Sl (Kl (Ki .i64)) r10.2.2.2.2.2.2)], 122, none⟩, ⟨.pointer (some wa0), [(Vi a0_0), (Vi a0_1), Vn, (Vi a0_3), Vn], 122, none⟩]) (fun _ => rfl) rfl rfl) (wt_none' rfl) fun ⟨g10, gz1⟩ => ?_
 refine nk hK2 ?_
 refine cx_region' ?_
 refine s0 (rd_move' rfl) ?_
 refine s0 (rd_move' rfl) ?_
 refine s0 (rd_nilck' rfl) ?_
 refine s0 (rd_load_agg' (i := 0) (o := 0) (nn := 5) rfl ⟨rfl, rfl, rfl, rfl⟩ rfl agg120 (l' := [(Vi r10.1), (Vi r10.2.1), (Vl (Vs g10)), (Vi r10.2.2.2.1), (Vl (Vs gz1))]) rfl) ?_
 refine s0 (rd_nilck' rfl) ?_
 refine s0 (rd_field0' rfl Tryz.underlying122 rfl info120 rfl) ?_
 refine sx_ox' (ox_store' (i := 4) (o := 0) rfl rfl (lv_ag _) ⟨rfl, rfl, rfl, rfl⟩ rfl info120 rfl (H' := [⟨.pointer (some q5), [(Vi r10.1), (Vi r10.2.1), (Vl (Vs g10)), (Vi r10.2.2.2.1), (Vl (Vs gz1))], 120, none⟩, (Rw Kf 95 (Vs g10) r10.2.2.1), (Rw (Kl (Ki .i64)) 23 (Vs gz1) r10.2.2.2.2.1), ⟨.pointer (some wa1), [(Vi r10.1), (Vi r10.2.1), (Sl Kf r10.2.2.2.2.2.1), (Vi r10.2.2.2.1), (Sl (Kl (Ki .i64)) r10.2.2.2.2.2.2)], 122, none⟩, ⟨.pointer (some wa0), [(Vi r10.1), (Vi r10.2.1), (Vl (Vs g10)), (Vi r10.2.2.2.1), (Vl (Vs gz1))], 122, none⟩]) rfl) (wt_none' rfl) fun _ => ?_
 refine sx_nil' ?_
 replace hp := Option.some.inj hp
 subst hp
 refine tx_pick' (L' := []) (H' := [⟨.pointer (some wa0), [(Vi r10.1), (Vi r10.2.1), (Vl (Vs g10)), (Vi r10.2.2.2.1), (Vl (Vs gz1))], 122, none⟩, (Rw Kf 95 (Vs g10) r10.2.2.1), (Rw (Kl (Ki .i64)) 23 (Vs gz1) r10.2.2.2.2.1), ⟨.pointer (some wa1), [(Vi r10.1), (Vi r10.2.1), (Sl Kf r10.2.2.2.2.2.1), (Vi r10.2.2.2.1), (Sl (Kl (Ki .i64)) r10.2.2.2.2.2.2)], 122, none⟩]) [4, 1, 2, 3] sub_nil (by decide) (pick_cons rfl (pick_cons rfl (pick_cons rfl (pick_cons rfl pick_nil)))) ?_
 exact tx_end0' Tryz.results71 rfl (g10, gz1) rfl (List.Sublist.refl _)

def gogeom_deriveCloneMultiPolygon (k : Nat) (a0_0 : Int) (a0_1 : Int) (a0_2 : List Nat) (a0_3 : Int) (a0_4 : List (List Int)) : Option (Int × Int × (List Nat) × Int × (List (List Int)) × (List Nat) × (List (List Int))) :=
 (gogeom_deriveDeepCopy_5 k 0 0 0 a0_0 a0_1 a0_2 a0_3 a0_4) >>= fun r9 =>
 some (r9.1, r9.2.1, r9.2.2.2.2.2.1, r9.2.2.2.1, r9.2.2.2.2.2.2, r9.2.2.1, r9.2.2.2.2.1)

theorem gogeom_deriveCloneMultiPolygon_sim {k : Nat} {wa0 : Addr} (a0_0 : Int) (a0_1 : Int) (a0_2 : List Nat) (a0_3 : Int) (a0_4 : List (List Int)) {out : Int × Int × (List Nat) × Int × (List (List Int)) × (List Nat) × (List (List Int))} (hp : gogeom_deriveCloneMultiPolygon k a0_0 a0_1 a0_2 a0_3 a0_4 = some out) : Sx.Fn Tryz.prog 54 [(Vp wa0)] [⟨.pointer (some wa0), [(Vi a0_0), (Vi a0_1), (Sl Kf a0_2), (Vi a0_3), (Sl (Kl (Ki .i64)) a0_4)], 122, none⟩] (fun w : Addr × Gs × Gs => (Vp w.1)) (fun w => [⟨.pointer (some wa0), [(Vi out.1), (Vi out.2.1), (Sl Kf out.2.2.1), (Vi out.2.2.2.1), (Sl (Kl (Ki .i64)) out.2.2.2.2.1)], 122, none⟩, ⟨.pointer (some w.1), [(Vi out.1), (Vi out.2.1), (Vl (Vs w.2.1)), (Vi out.2.2.2.1), (Vl (Vs w.2.2))], 122, none⟩, (Rw Kf 95 (Vs w.2.1) out.2.2.2.2.2.1), (Rw (Kl (Ki .i64)) 23 (Vs w.2.2) out.2.2.2.2.2.2)]) := by
 unfold gogeom_deriveCloneMultiPolygon at hp
 refine fn_of Tryz.func54 rfl Tryz.ntmps54 rfl fun E hM => ?_
 refine cr fun K1 hK1 => ?_
 refine s0 (rd_assign' rfl) ?_
 refine nk hK1 ?_
 refine cx_seq' fun K2 hK2 => ?_
 refine cr fun K3 hK3 => ?_
 refine s0 (rd_move' rfl) ?_
 refine s0 (rd_binf' rfl rfl (bf_vl (fun _ => by kernel_rfl) (nil_eql50_ptr _))) ?_
 refine nk hK3 ?_
 refine cx_cond_f' rfl rfl ?_
 refine cx_skip' ?_
 show TX E K2 _
 refine tx_k' hK2 ?_
 refine cr fun K4 hK4 => ?_
 refine sx_ox' (ox_alloc' info122 rfl rfl rfl rfl (l := [(Vi 0), (Vi 0), Vn, (Vi 0), Vn]) rfl) (wt_none' rfl) fun q6 => ?_
 refine s0 (rd_assign' rfl) ?_
 refine nk hK4 ?_
 refine cr fun K5 hK5 => ?_
 refine s0 (rd_move' rfl) ?_
 refine s0 (rd_move' rfl) ?_
 obtain ⟨r9, hr9, hp⟩ := bind_some hp
 refine sx_ox' (ox_callg' (ent_fn' Tryz.func71 isn71 rfl rfl) (gogeom_deriveDeepCopy_5_sim _ _ _ _ _ _ _ _ hr9 : Sx.Fn Tryz.prog 71 [(Vp q6), (Vp wa0)] [⟨.pointer (some q6), [(Vi 0), (Vi 0), Vn, (Vi 0), Vn], 122, none⟩, ⟨.pointer (some wa0), [(Vi a0_0), (Vi a0_1), (Sl Kf a0_2), (Vi a0_3), (Sl (Kl (Ki .i64)) a0_4)], 122, none⟩] (fun x : Gs × Gs => (Vl (.tuple #[]))) (fun x => [⟨.pointer (some q6), [(Vi r9.1), (Vi r9.2.1), (Vl (Vs x.1)), (Vi r9.2.2.2.1), (Vl (Vs x.2))], 122, none⟩, (Rw Kf 95 (Vs x.1) r9.2.2.1), (Rw (Kl (Ki .i64)) 23 (Vs x.2) r9.2.2.2.2.1), ⟨.pointer (some wa0), [(Vi r9.1), (Vi r9.2.1), (Sl Kf r9.2.2.2.2.2.1), (Vi r9.2.2.2.1), (Sl (Kl (Ki .i64)) r9.2.2.2.2.2.2)], 122, none⟩])) [0, 1] [] (by decide) (pick_cons rfl (pick_cons rfl pick_nil)) pick_nil (Hn := fun x : Gs × Gs => [⟨.pointer (some q6), [(Vi r9.1), (Vi r9.2.1), (Vl (Vs x.1)), (Vi r9.2.2.2.1), (Vl (Vs x.2))], 122, none⟩, (Rw Kf 95 (Vs x.1) r9.2.2.1), (Rw (Kl (Ki .i64)) 23 (Vs x.2) r9.2.2.2.2.1), ⟨.pointer (some wa0), [(Vi r9.1), (Vi r9.2.1), (Sl Kf r9.2.2.2.2.2.1), (Vi r9.2.2.2.1), (Sl (Kl (Ki .i64)) r9.2.2.2.2.2.2)], 122, none⟩]) (fun _ => rfl) rfl rfl) (wt_none' rfl) fun ⟨g9, gz1⟩ => ?_
 refine nk hK5 ?_
 refine cr fun K6 hK6 => ?_
 refine s0 (rd_move' rfl) ?_
 refine s0 (rd_assign' rfl) ?_
 refine nk hK6 ?_
 refine cx_retc' ?_
 replace hp := Option.some.inj hp
 subst hp
 refine tx_pick' (L' := [(2, (Vp q6))]) (H' := [⟨.pointer (some wa0), [(Vi r9.1), (Vi r9.2.1), (Sl Kf r9.2.2.2.2.2.1), (Vi r9.2.2.2.1), (Sl (Kl (Ki .i64)) r9.2.2.2.2.2.2)], 122, none⟩, ⟨.pointer (some q6), [(Vi r9.1), (Vi r9.2.1), (Vl (Vs g9)), (Vi r9.2.2.2.1), (Vl (Vs gz1))], 122, none⟩, (Rw Kf 95 (Vs g9) r9.2.2.1), (Rw (Kl (Ki .i64)) 23 (Vs gz1) r9.2.2.2.2.1)]) [3, 0, 1, 2] (sub_cons rfl sub_nil) (by decide) (pick_cons rfl (pick_cons rfl (pick_cons rfl (pick_cons rfl pick_nil)))) ?_
 exact tx_ret1' Tryz.results54 rfl (q6, g9, gz1) (rv_tmp' rfl) (List.Sublist.refl _)

def gogeom_MultiPolygon_Clone (k : Nat) (a0_0 : Int) (a0_1 : Int) (a0_2 : List Nat) (a0_3 : Int) (a0_4 : List (List Int)) : Option (Int × Int × (List Nat) × Int × (List (List Int)) × (List Nat) × (List (List Int))) :=
 (gogeom_deriveCloneMultiPolygon k a0_0 a0_1 a0_2 a0_3 a0_4) >>= fun r4 =>
 some (r4.1, r4.2.1, r4.2.2.1, r4.2.2.2.1, r4.2.2.2.2.1, r4.2.2.2.2.2.1, r4.2.2.2.2.2.2)

theorem gogeom_MultiPolygon_Clone_sim {k : Nat} {wa0 : Addr} (a0_0 : Int) (a0_1 : Int) (a0_2 : List Nat) (a0_3 : Int) (a0_4 : List (List Int)) {out : Int × Int × (List Nat) × Int × (List (List Int)) × (List Nat) × (List (List Int))} (hp : gogeom_MultiPolygon_Clone k a0_0 a0_1 a0_2 a0_3 a0_4 = some out) : Sx.Fn Tryz.prog 19 [(Vp wa0)] [⟨.pointer (some wa0), [(Vi a0_0), (Vi a0_1), (Sl Kf a0_2), (Vi a0_3), (Sl (Kl (Ki .i64)) a0_4)], 122, none⟩] (fun w : Addr × Gs × Gs => (Vp w.1)) (fun w => [⟨.pointer (some wa0), [(Vi out.1), (Vi out.2.1), (Sl Kf out.2.2.1), (Vi out.2.2.2.1), (Sl (Kl (Ki .i64)) out.2.2.2.2.1)], 122, none⟩, ⟨.pointer (some w.1), [(Vi out.1), (Vi out.2.1), (Vl (Vs w.2.1)), (Vi out.2.2.2.1), (Vl (Vs w.2.2))], 122, none⟩, (Rw Kf 95 (Vs w.2.1) out.2.2.2.2.2.1), (Rw (Kl (Ki .i64)) 23 (Vs w.2.2) out.2.2.2.2.2.2)]) := by
 unfold gogeom_MultiPolygon_Clone at hp
 refine fn_of Tryz.func19 rfl Tryz.ntmps19 rfl fun E hM => ?_
 refine cr fun K1 hK1 => ?_
 refine s0 (rd_assign' rfl) ?_
 refine nk hK1 ?_
 refine cr fun K2 hK2 => ?_
 refine s0 (rd_move' rfl) ?_
 obtain ⟨r4, hr4, hp⟩ := bind_some hp
 refine sx_ox' (ox_callg' (ent_fn' Tryz.func54 isn54 rfl rfl) (gogeom_deriveCloneMultiPolygon_sim _ _ _ _ _ hr4 : Sx.Fn Tryz.prog 54 [(Vp wa0)] [⟨.pointer (some wa0), [(Vi a0_0), (Vi a0_1), (Sl Kf a0_2), (Vi a0_3), (Sl (Kl (Ki .i64)) a0_4)], 122, none⟩] (fun x : Addr × Gs × Gs => (Vp x.1)) (fun x => [⟨.pointer (some wa0), [(Vi r4.1), (Vi r4.2.1), (Sl Kf r4.2.2.1), (Vi r4.2.2.2.1), (Sl (Kl (Ki .i64)) r4.2.2.2.2.1)], 122, none⟩, ⟨.pointer (some x.1), [(Vi r4.1), (Vi r4.2.1), (Vl (Vs x.2.1)), (Vi r4.2.2.2.1), (Vl (Vs x.2.2))], 122, none⟩, (Rw Kf 95 (Vs x.2.1) r4.2.2.2.2.2.1), (Rw (Kl (Ki .i64)) 23 (Vs x.2.2) r4.2.2.2.2.2.2)])) [0] [] (by decide) (pick_cons rfl pick_nil) pick_nil (Hn := fun x : Addr × Gs × Gs => [⟨.pointer (some wa0), [(Vi r4.1), (Vi r4.2.1), (Sl Kf r4.2.2.1), (Vi r4.2.2.2.1), (Sl (Kl (Ki .i64)) r4.2.2.2.2.1)], 122, none⟩, ⟨.pointer (some x.1), [(Vi r4.1), (Vi r4.2.1), (Vl (Vs x.2.1)), (Vi r4.2.2.2.1), (Vl (Vs x.2.2))], 122, none⟩, (Rw Kf 95 (Vs x.2.1) r4.2.2.2.2.2.1), (Rw (Kl (Ki .i64)) 23 (Vs x.2.2) r4.2.2.2.2.2.2)]) (fun _ => rfl) rfl rfl) (wt_none' rfl) fun ⟨q4, g4, gz1⟩ => ?_
 refine s0 (rd_assign' rfl) ?_
 refine nk hK2 ?_
 refine cx_retc' ?_
 replace hp := Option.some.inj hp
 subst hp
 refine tx_pick' (L' := [(2, (Vp q4))]) (H' := [⟨.pointer (some wa0), [(Vi r4.1), (Vi r4.2.1), (Sl Kf r4.2.2.1), (Vi r4.2.2.2.1), (Sl (Kl (Ki .i64)) r4.2.2.2.2.1)], 122, none⟩, ⟨.pointer (some q4), [(Vi r4.1), (Vi r4.2.1), (Vl (Vs g4)), (Vi r4.2.2.2.1), (Vl (Vs gz1))], 122, none⟩, (Rw Kf 95 (Vs g4) r4.2.2.2.2.2.1), (Rw (Kl (Ki .i64)) 23 (Vs gz1) r4.2.2.2.2.2.2)]) [0, 1, 2, 3] (sub_cons rfl sub_nil) (by decide) (pick_cons rfl (pick_cons rfl (pick_cons rfl (pick_cons rfl pick_nil)))) ?_
 exact tx_ret1' Tryz.results19 rfl (q4, g4, gz1) (rv_tmp' rfl) (List.Sublist.refl _)

def gogeom_geom0_SRID_v7 (k : Nat) (a0_0 : Int) (a0_1 : Int) (a0_2 : List Nat) (a0_3 : Int) (a0_4 : List (List Int)) : Option (Int × Int × (List Nat) × Int × (List (List Int))) :=
 some (a0_0, a0_1, a0_2, a0_3, a0_4)

theorem gogeom_geom0_SRID_v7_sim {k : Nat} {wa0 : Addr} {wa0_2 : Gs} {wa0_4 : Gs} (a0_0 : Int) (a0_1 : Int) (a0_2 : List Nat) (a0_3 : Int) (a0_4 : List (List Int)) {out : Int × Int × (List Nat) × Int × (List (List Int))} (hp : gogeom_geom0_SRID_v7 k a0_0 a0_1 a0_2 a0_3 a0_4 = some out) : Sx.Fn Tryz.prog 101 [(Vp wa0)] [⟨.pointer (some wa0), [(Vi a0_0), (Vi a0_1), (Vl (Vs wa0_2)), (Vi a0_3), (Vl (Vs wa0_4))], 122, none⟩, (Rw Kf 95 (Vs wa0_2) a0_2), (Rw (Kl (Ki .i64)) 23 (Vs wa0_4) a0_4)] (fun w : Unit => (Vi out.2.2.2.1)) (fun w => [⟨.pointer (some wa0), [(Vi out.1), (Vi out.2.1), (Vl (Vs wa0_2)), (Vi out.2.2.2.1), (Vl (Vs wa0_4))], 122, none⟩, (Rw Kf 95 (Vs wa0_2) out.2.2.1), (Rw (Kl (Ki .i64)) 23 (Vs wa0_4) out.2.2.2.2)]) := by
 unfold gogeom_geom0_SRID_v7 at hp
 refine fn_of Tryz.func101 rfl Tryz.ntmps101 rfl fun E hM => ?_
 refine cr fun K1 hK1 => ?_
 refine s0 (rd_assign' rfl) ?_
 refine nk hK1 ?_
 refine cr fun K2 hK2 => ?_
 refine s0 (rd_move' rfl) ?_
 refine s0 (rd_nilck' rfl) ?_
 refine s0 (rd_field' (off := 3) rfl Tryz.underlying105 rfl info3 rfl) ?_
 refine s0 (rd_load' (i := 0) (o := 3) rfl ⟨rfl, rfl, rfl, rfl⟩ rfl flat3) ?_
 refine s0 (rd_assign' rfl) ?_
 refine nk hK2 ?_
 refine cx_retc' ?_
 replace hp := Option.some.inj hp
 subst hp
 refine tx_pick' (L' := [(2, (Vi a0_3))]) (H' := [⟨.pointer (some wa0), [(Vi a0_0), (Vi a0_1), (Vl (Vs wa0_2)), (Vi a0_3), (Vl (Vs wa0_4))], 122, none⟩, (Rw Kf 95 (Vs wa0_2) a0_2), (Rw (Kl (Ki .i64)) 23 (Vs wa0_4) a0_4)]) [0, 1, 2] (sub_cons rfl sub_nil) (by decide) (pick_cons rfl (pick_cons rfl (pick_cons rfl pick_nil))) ?_
 exact tx_ret1' Tryz.results101 rfl () (rv_tmp' rfl) (List.Sublist.refl _)

def gogeom_geom0_Layout_v7 (k : Nat) (a0_0 : Int) (a0_1 : Int) (a0_2 : List Nat) (a0_3 : Int) (a0_4 : List (List Int)) : Option (Int × Int × (List Nat) × Int × (List (List Int))) :=
 some (a0_0, a0_1, a0_2, a0_3, a0_4)

theorem gogeom_geom0_Layout_v7_sim {k : Nat} {wa0 : Addr} {wa0_2 : Gs} {wa0_4 : Gs} (a0_0 : Int) (a0_1 : Int) (a0_2 : List Nat) (a0_3 : Int) (a0_4 : List (List Int)) {out : Int × Int × (List Nat) × Int × (List (List Int))} (hp : gogeom_geom0_Layout_v7 k a0_0 a0_1 a0_2 a0_3 a0_4 = some out) : Sx.Fn Tryz.prog 100 [(Vp wa0)] [⟨.pointer (some wa0), [(Vi a0_0), (Vi a0_1), (Vl (Vs wa0_2)), (Vi a0_3), (Vl (Vs wa0_4))], 122, none⟩, (Rw Kf 95 (Vs wa0_2) a0_2), (Rw (Kl (Ki .i64)) 23 (Vs wa0_4) a0_4)] (fun w : Unit => (Vi out.1)) (fun w => [⟨.pointer (some wa0), [(Vi out.1), (Vi out.2.1), (Vl (Vs wa0_2)), (Vi out.2.2.2.1), (Vl (Vs wa0_4))], 122, none⟩, (Rw Kf 95 (Vs wa0_2) out.2.2.1), (Rw (Kl (Ki .i64)) 23 (Vs wa0_4) out.2.2.2.2)]) := by
 unfold gogeom_geom0_Layout_v7 at hp
 refine fn_of Tryz.func100 rfl Tryz.ntmps100 rfl fun E hM => ?_
 refine cr fun K1 hK1 => ?_
 refine s0 (rd_assign' rfl) ?_
 refine nk hK1 ?_
 refine cr fun K2 hK2 => ?_
 refine s0 (rd_move' rfl) ?_
 refine s0 (rd_nilck' rfl) ?_
 refine s0 (rd_field0' rfl Tryz.underlying105 rfl info54 rfl) ?_
 refine s0 (rd_load' (i := 0) (o := 0) rfl ⟨rfl, rfl, rfl, rfl⟩ rfl flat54) ?_
 refine s0 (rd_assign' rfl) ?_
 refine nk hK2 ?_
 refine cx_retc' ?_
 replace hp := Option.some.inj hp
 subst hp
 refine tx_pick' (L' := [(2, (Vi a0_0))]) (H' := [⟨.pointer (some wa0), [(Vi a0_0), (Vi a0_1), (Vl (Vs wa0_2)), (Vi a0_3), (Vl (Vs wa0_4))], 122, none⟩, (Rw Kf 95 (Vs wa0_2) a0_2), (Rw (Kl (Ki .i64)) 23 (Vs wa0_4) a0_4)]) [0, 1, 2] (sub_cons rfl sub_nil) (by decide) (pick_cons rfl (pick_cons rfl (pick_cons rfl pick_nil))) ?_
 exact tx_ret1' Tryz.results100 rfl () (rv_tmp' rfl) (List.Sublist.refl _)

def gogeom_geom0_FlatCoords_v7 (k : Nat) (a0_0 : Int) (a0_1 : Int) (a0_2 : List Nat) (a0_3 : Int) (a0_4 : List (List Int)) : Option (Int × Int × (List Nat) × Int × (List (List Int))) :=
 some (a0_0, a0_1, a0_2, a0_3, a0_4)

theorem gogeom_geom0_FlatCoords_v7_sim {k : Nat} {wa0 : Addr} {wa0_2 : Gs} {wa0_4 : Gs} (a0_0 : Int) (a0_1 : Int) (a0_2 : List Nat) (a0_3 : Int) (a0_4 : List (List Int)) {out : Int × Int × (List Nat) × Int × (List (List Int))} (hp : gogeom_geom0_FlatCoords_v7 k a0_0 a0_1 a0_2 a0_3 a0_4 = some out) : Sx.Fn Tryz.prog 99 [(Vp wa0)] [⟨.pointer (some wa0), [(Vi a0_0), (Vi a0_1), (Vl (Vs wa0_2)), (Vi a0_3), (Vl (Vs wa0_4))], 122, none⟩, (Rw Kf 95 (Vs wa0_2) a0_2), (Rw (Kl (Ki .i64)) 23 (Vs wa0_4) a0_4)] (fun w : Unit => (Sl Kf out.2.2.1)) (fun w => [⟨.pointer (some wa0), [(Vi out.1), (Vi out.2.1), (Sl Kf out.2.2.1), (Vi out.2.2.2.1), (Vl (Vs wa0_4))], 122, none⟩, (Rw (Kl (Ki .i64)) 23 (Vs wa0_4) out.2.2.2.2)]) := by
 unfold gogeom_geom0_FlatCoords_v7 at hp
 refine fn_of Tryz.func99 rfl Tryz.ntmps99 rfl fun E hM => ?_
 refine cr fun K1 hK1 => ?_
 refine s0 (rd_assign' rfl) ?_
 refine nk hK1 ?_
 refine cr fun K2 hK2 => ?_
 refine s0 (rd_move' rfl) ?_
 refine s0 (rd_nilck' rfl) ?_
 refine s0 (rd_field' (off := 2) rfl Tryz.underlying105 rfl info22 rfl) ?_
 refine s0 (rd_load' (i := 0) (o := 2) rfl ⟨rfl, rfl, rfl, rfl⟩ rfl flat22) ?_
 refine s0 (rd_assign' rfl) ?_
 refine nk hK2 ?_
 refine cx_retc' ?_
 replace hp := Option.some.inj hp
 subst hp
 refine tx_fz' (frz_row 1 [(2, (Vl (Vs wa0_2)), (Sl Kf a0_2)), (6, (Vl (Vs wa0_2)), (Sl Kf a0_2))] (K := Kf) (xs := a0_2) (by decide) rfl ⟨⟨rfl, frz_it⟩, ⟨rfl, frz_it⟩, trivial⟩ (H' := [⟨.pointer (some wa0), [(Vi a0_0), (Vi a0_1), (Sl Kf a0_2), (Vi a0_3), (Vl (Vs wa0_4))], 122, none⟩, (Rw (Kl (Ki .i64)) 23 (Vs wa0_4) a0_4)]) (frzH_cons rfl rfl rfl (frzL_cons frz_same (frzL_cons frz_same (frzL_cons frz_it (frzL_cons frz_same (frzL_cons frz_same frzL_refl))))) (frzH_cons rfl rfl rfl frzL_refl frzH_refl))) ?_
 refine tx_pick' (L' := [(2, (Sl Kf a0_2))]) (H' := [⟨.pointer (some wa0), [(Vi a0_0), (Vi a0_1), (Sl Kf a0_2), (Vi a0_3), (Vl (Vs wa0_4))], 122, none⟩, (Rw (Kl (Ki .i64)) 23 (Vs wa0_4) a0_4)]) [0, 1] (sub_cons rfl sub_nil) (by decide) (pick_cons rfl (pick_cons rfl pick_nil)) ?_
 exact tx_ret1' Tryz.results99 rfl () (rv_tmp' rfl) (List.Sublist.refl _)

def gogeom_geom0_Ends_v4 (k : Nat) (a0_0 : Int) (a0_1 : Int) (a0_2 : List Nat) (a0_3 : Int) (a0_4 : List (List Int)) : Option (Int × Int × (List Nat) × Int × (List (List Int))) :=
 some (a0_0, a0_1, a0_2, a0_3, a0_4)

theorem gogeom_geom0_Ends_v4_sim {k : Nat} {wa0 : Addr} {wa0_4 : Gs} (a0_0 : Int) (a0_1 : Int) (a0_2 : List Nat) (a0_3 : Int) (a0_4 : List (List Int)) {out : Int × Int × (List Nat) × Int × (List (List Int))} (hp : gogeom_geom0_Ends_v4 k a0_0 a0_1 a0_2 a0_3 a0_4 = some out) : Sx.Fn Tryz.prog 97 [(Vp wa0)] [⟨.pointer (some wa0), [(Vi a0_0), (Vi a0_1), (Sl Kf a0_2), (Vi a0_3), (Vl (Vs wa0_4))], 122, none⟩, (Rw (Kl (Ki .i64)) 23 (Vs wa0_4) a0_4)] (fun w : Unit => Vn) (fun w => [⟨.pointer (some wa0), [(Vi out.1), (Vi out.2.1), (Sl Kf out.2.2.1), (Vi out.2.2.2.1), (Vl (Vs wa0_4))], 122, none⟩, (Rw (Kl (Ki .i64)) 23 (Vs wa0_4) out.2.2.2.2)]) := by
 unfold gogeom_geom0_Ends_v4 at hp
 refine fn_of Tryz.func97 rfl Tryz.ntmps97 rfl fun E hM => ?_
 refine cr fun K1 hK1 => ?_
 refine s0 (rd_assign' rfl) ?_
 refine nk hK1 ?_
 refine cr fun K2 hK2 => ?_
 refine s0 (rd_assign' rfl) ?_
 refine nk hK2 ?_
 refine cx_retc' ?_
 replace hp := Option.some.inj hp
 subst hp
 refine tx_pick' (L' := [(2, Vn)]) (H' := [⟨.pointer (some wa0), [(Vi a0_0), (Vi a0_1), (Sl Kf a0_2), (Vi a0_3), (Vl (Vs wa0_4))], 122, none⟩, (Rw (Kl (Ki .i64)) 23 (Vs wa0_4) a0_4)]) [0, 1] (sub_cons rfl sub_nil) (by decide) (pick_cons rfl (pick_cons rfl pick_nil)) ?_
 exact tx_ret1' Tryz.results97 rfl () (rv_tmp' rfl) (List.Sublist.refl _)

def gogeom_geom3_Endss (k : Nat) (a0_0 : Int) (a0_1 : Int) (a0_2 : List Nat) (a0_3 : Int) (a0_4 : List (List Int)) : Option (Int × Int × (List Nat) × Int × (List (List Int))) :=
 some (a0_0, a0_1, a0_2, a0_3, a0_4)

theorem gogeom_geom3_Endss_sim {k : Nat} {wa0 : Addr} {wa0_4 : Gs} (a0_0 : Int) (a0_1 : Int) (a0_2 : List Nat) (a0_3 : Int) (a0_4 : List (List Int)) {out : Int × Int × (List Nat) × Int × (List (List Int))} (hp : gogeom_geom3_Endss k a0_0 a0_1 a0_2 a0_3 a0_4 = some out) : Sx.Fn Tryz.prog 106 [(Vp wa0)] [⟨.pointer (some wa0), [(Vi a0_0), (Vi a0_1), (Sl Kf a0_2), (Vi a0_3), (Vl (Vs wa0_4))], 122, none⟩, (Rw (Kl (Ki .i64)) 23 (Vs wa0_4) a0_4)] (fun w : Unit => (Sl (Kl (Ki .i64)) out.2.2.2.2)) (fun w => [⟨.pointer (some wa0), [(Vi out.1), (Vi out.2.1), (Sl Kf out.2.2.1), (Vi out.2.2.2.1), (Sl (Kl (Ki .i64)) out.2.2.2.2)], 122, none⟩]) := by
 unfold gogeom_geom3_Endss at hp
 refine fn_of Tryz.func106 rfl Tryz.ntmps106 rfl fun E hM => ?_
 refine cr fun K1 hK1 => ?_
 refine s0 (rd_assign' rfl) ?_
 refine nk hK1 ?_
 refine cr fun K2 hK2 => ?_
 refine s0 (rd_move' rfl) ?_
 refine s0 (rd_nilck' rfl) ?_
 refine s0 (rd_field' (off := 4) rfl Tryz.underlying120 rfl info24 rfl) ?_
 refine s0 (rd_load' (i := 0) (o := 4) rfl ⟨rfl, rfl, rfl, rfl⟩ rfl flat24) ?_
 refine s0 (rd_assign' rfl) ?_
 refine nk hK2 ?_
 refine cx_retc' ?_
 replace hp := Option.some.inj hp
 subst hp
 refine tx_fz' (frz_row 1 [(2, (Vl (Vs wa0_4)), (Sl (Kl (Ki .i64)) a0_4)), (6, (Vl (Vs wa0_4)), (Sl (Kl (Ki .i64)) a0_4))] (K := (Kl (Ki .i64))) (xs := a0_4) (by decide) rfl ⟨⟨rfl, frz_it⟩, ⟨rfl, frz_it⟩, trivial⟩ (H' := [⟨.pointer (some wa0), [(Vi a0_0), (Vi a0_1), (Sl Kf a0_2), (Vi a0_3), (Sl (Kl (Ki .i64)) a0_4)], 122, none⟩]) (frzH_cons rfl rfl rfl (frzL_cons frz_same (frzL_cons frz_same (frzL_cons frz_same (frzL_cons frz_same (frzL_cons frz_it frzL_refl))))) frzH_refl)) ?_
 refine tx_pick' (L' := [(2, (Sl (Kl (Ki .i64)) a0_4))]) (H' := [⟨.pointer (some wa0), [(Vi a0_0), (Vi a0_1), (Sl Kf a0_2), (Vi a0_3), (Sl (Kl (Ki .i64)) a0_4)], 122, none⟩]) [0] (sub_cons rfl sub_nil) (by decide) (pick_cons rfl pick_nil) ?_
 exact tx_ret1' Tryz.results106 rfl () (rv_tmp' rfl) (List.Sublist.refl _)

def impl_plain_v7 (k : Nat) (a0_0 : Int) (a0_1 : Int) (a0_2 : List Nat) (a0_3 : Int) (a0_4 : List (List Int)) : Option (Int × Int × (List Nat) × Int × (List (List Int)) × Int × Int × Int × (List Nat) × (List Int) × (List (List Int))) :=
 (gogeom_geom0_SRID_v7 k a0_0 a0_1 a0_2 a0_3 a0_4) >>= fun r15 =>
 (gogeom_geom0_Layout_v7 k r15.1 r15.2.1 r15.2.2.1 r15.2.2.2.1 r15.2.2.2.2) >>= fun r70 =>
 (gogeom_geom0_FlatCoords_v7 k r70.1 r70.2.1 r70.2.2.1 r70.2.2.2.1 r70.2.2.2.2) >>= fun r72 =>
 (impl_floats k r72.2.2.1) >>= fun r73 =>
 (gogeom_geom0_Ends_v4 k r72.1 r72.2.1 r72.2.2.1 r72.2.2.2.1 r72.2.2.2.2) >>= fun r75 =>
 (impl_ints_v2 k) >>= fun r76 =>
 (gogeom_geom3_Endss k r75.1 r75.2.1 r75.2.2.1 r75.2.2.2.1 r75.2.2.2.2) >>= fun r78 =>
 (impl_intss k r78.2.2.2.2) >>= fun r79 =>
 some (r78.1, r78.2.1, r78.2.2.1, r78.2.2.2.1, r78.2.2.2.2, 6, r70.1, r15.2.2.2.1, r73, r76, r79)

theorem impl_plain_v7_sim {k : Nat} {wa0 : Addr} {wa0_2 : Gs} {wa0_4 : Gs} (a0_0 : Int) (a0_1 : Int) (a0_2 : List Nat) (a0_3 : Int) (a0_4 : List (List Int)) {out : Int × Int × (List Nat) × Int × (List (List Int)) × Int × Int × Int × (List Nat) × (List Int) × (List (List Int))} (hp : impl_plain_v7 k a0_0 a0_1 a0_2 a0_3 a0_4 = some out) : Sx.Fn Tryz.prog 12 [(If 50 (Vp wa0))] [⟨.pointer (some wa0), [(Vi a0_0), (Vi a0_1), (Vl (Vs wa0_2)), (Vi a0_3), (Vl (Vs wa0_4))], 122, none⟩, (Rw Kf 95 (Vs wa0_2) a0_2), (Rw (Kl (Ki .i64)) 23 (Vs wa0_4) a0_4)] (fun w : Unit => (Ag [(Vi out.2.2.2.2.2.1), (Vi out.2.2.2.2.2.2.1), (Vi out.2.2.2.2.2.2.2.1), (Sl Kf out.2.2.2.2.2.2.2.2.1), (Sl (Ki .i64) out.2.2.2.2.2.2.2.2.2.1), (Sl (Kl (Ki .i64)) out.2.2.2.2.2.2.2.2.2.2), Vn])) (fun w => [⟨.pointer (some wa0), [(Vi out.1), (Vi out.2.1), (Sl Kf out.2.2.1), (Vi out.2.2.2.1), (Sl (Kl (Ki .i64)) out.2.2.2.2.1)], 122, none⟩]) := by
 unfold impl_plain_v7 at hp
 refine fn_of Tryz.func12 rfl Tryz.ntmps12 rfl fun E hM => ?_
 refine cr fun K1 hK1 => ?_
 refine sx_ox' (ox_alloc' info27 rfl rfl rfl rfl (l := [(Vi 0), (Vi 0), (Vi 0), Vn, Vn, Vn, Vn]) rfl) (wt_none' rfl) fun q2 => ?_
 refine nk hK1 ?_
 refine cr fun K2 hK2 => ?_
 refine s0 (rd_move' rfl) ?_
 obtain ⟨r15, hr15, hp⟩ := bind_some hp
 refine sx_ox' (ox_callg' (ent_inv' rfl rfl (inv_ptr0 (inv50_SRID _))) (gogeom_geom0_SRID_v7_sim _ _ _ _ _ hr15 : Sx.Fn Tryz.prog 101 [(Vp wa0)] [⟨.pointer (some wa0), [(Vi a0_0), (Vi a0_1), (Vl (Vs wa0_2)), (Vi a0_3), (Vl (Vs wa0_4))], 122, none⟩, (Rw Kf 95 (Vs wa0_2) a0_2), (Rw (Kl (Ki .i64)) 23 (Vs wa0_4) a0_4)] (fun x : Unit => (Vi r15.2.2.2.1)) (fun x => [⟨.pointer (some wa0), [(Vi r15.1), (Vi r15.2.1), (Vl (Vs wa0_2)), (Vi r15.2.2.2.1), (Vl (Vs wa0_4))], 122, none⟩, (Rw Kf 95 (Vs wa0_2) r15.2.2.1), (Rw (Kl (Ki .i64)) 23 (Vs wa0_4) r15.2.2.2.2)])) [1, 2, 3] [0] (by decide) (pick_cons rfl (pick_cons rfl (pick_cons rfl pick_nil))) (pick_cons rfl pick_nil) (Hn := fun x : Unit => [⟨.pointer (some wa0), [(Vi r15.1), (Vi r15.2.1), (Vl (Vs wa0_2)), (Vi r15.2.2.2.1), (Vl (Vs wa0_4))], 122, none⟩, (Rw Kf 95 (Vs wa0_2) r15.2.2.1), (Rw (Kl (Ki .i64)) 23 (Vs wa0_4) r15.2.2.2.2), ⟨.pointer (some q2), [(Vi 0), (Vi 0), (Vi 0), Vn, Vn, Vn, Vn], 27, none⟩]) (fun _ => rfl) rfl rfl) (wt_none' rfl) fun ⟨⟩ => ?_
 refine s0 (rd_build' (pls := [(0, 1), (1, 1), (2, 1), (3, 1), (4, 1), (5, 1), (6, 1)]) (qs := [(2, [(Vi r15.2.2.2.1)])]) (r := [(Vi 0), (Vi 0), (Vi r15.2.2.2.1), Vn, Vn, Vn, Vn]) ⟨rfl, ⟨_, rfl, (lv_vl rfl rfl)⟩, trivial⟩ Tryz.underlying27 has27 places27 info27 rfl rfl rfl) ?_
 refine sx_ox' (ox_alloc' info27 rfl rfl rfl rfl (l := [(Vi 0), (Vi 0), (Vi 0), Vn, Vn, Vn, Vn]) rfl) (wt_none' rfl) fun q3 => ?_
 refine sx_ox' (ox_store' (i := 0) (o := 0) rfl rfl (lv_ag _) ⟨rfl, rfl, rfl, rfl⟩ rfl info27 rfl (H' := [⟨.pointer (some q3), [(Vi 0), (Vi 0), (Vi r15.2.2.2.1), Vn, Vn, Vn, Vn], 27, none⟩, ⟨.pointer (some wa0), [(Vi r15.1), (Vi r15.2.1), (Vl (Vs wa0_2)), (Vi r15.2.2.2.1), (Vl (Vs wa0_4))], 122, none⟩, (Rw Kf 95 (Vs wa0_2) r15.2.2.1), (Rw (Kl (Ki .i64)) 23 (Vs wa0_4) r15.2.2.2.2), ⟨.pointer (some q2), [(Vi 0), (Vi 0), (Vi 0), Vn, Vn, Vn, Vn], 27, none⟩]) rfl) (wt_none' rfl) fun _ => ?_
 refine nk hK2 ?_
 refine cx_seq' fun K3 hK3 => ?_
 refine cr fun K4 hK4 => ?_
 refine s0 (rd_move' rfl) ?_
 refine nk hK4 ?_
 refine cx_block' ?_
 refine cr fun K5 hK5 => ?_
 refine s0 (rd_assert' rfl (F := fun _ => .tuple #[.pointer none, .bool false]) as50_35_37 as_no) ?_
 refine s0 (rd_extract' rfl rfl) ?_
 refine s0 (rd_extract' rfl rfl) ?_
 refine nk hK5 ?_
 refine cx_cond_f' rfl rfl ?_
 refine cr fun K6 hK6 => ?_
 refine s0 (rd_assert' rfl (F := fun _ => .tuple #[.pointer none, .bool false]) as50_35_40 as_no) ?_
 refine s0 (rd_extract' rfl rfl) ?_
 refine s0 (rd_extract' rfl rfl) ?_
 refine nk hK6 ?_
 refine cx_cond_f' rfl rfl ?_
 refine cr fun K7 hK7 => ?_
 refine s0 (rd_assert' rfl (F := fun _ => .tuple #[.pointer none, .bool false]) as50_35_42 as_no) ?_
 refine s0 (rd_extract' rfl rfl) ?_
 refine s0 (rd_extract' rfl rfl) ?_
 refine nk hK7 ?_
 refine cx_cond_f' rfl rfl ?_
 refine cr fun K8 hK8 => ?_
 refine s0 (rd_assert' rfl (F := fun _ => .tuple #[.pointer none, .bool false]) as50_35_44 as_no) ?_
 refine s0 (rd_extract' rfl rfl) ?_
 refine s0 (rd_extract' rfl rfl) ?_
 refine nk hK8 ?_
 refine cx_cond_f' rfl rfl ?_
 refine cr fun K9 hK9 => ?_
 refine s0 (rd_assert' rfl (F := fun _ => .tuple #[.pointer none, .bool false]) as50_35_46 as_no) ?_
 refine s0 (rd_extract' rfl rfl) ?_
 refine s0 (rd_extract' rfl rfl) ?_
 refine nk hK9 ?_
 refine cx_cond_f' rfl rfl ?_
 refine cr fun K10 hK10 => ?_
 refine s0 (rd_assert' rfl (F := fun _ => .tuple #[.pointer none, .bool false]) as50_35_48 as_no) ?_
 refine s0 (rd_extract' rfl rfl) ?_
 refine s0 (rd_extract' rfl rfl) ?_
 refine nk hK10 ?_
 refine cx_cond_f' rfl rfl ?_
 refine cr fun K11 hK11 => ?_
 refine s0 (rd_assert' rfl (F := fun v => .tuple #[v, .bool true]) as50_35_50k as_ok) ?_
 refine s0 (rd_extract' rfl rfl) ?_
 refine s0 (rd_extract' rfl rfl) ?_
 refine nk hK11 ?_
 refine cx_cond_t' rfl rfl ?_
 refine cr fun K12 hK12 => ?_
 refine s0 (rd_assign' rfl) ?_
 refine nk hK12 ?_
 refine cx_region' ?_
 refine s0 (rd_field0' rfl Tryz.underlying27 rfl info3 rfl) ?_
 refine sx_ox' (ox_store' (i := 0) (o := 0) rfl rfl (lv_vl rfl rfl) ⟨rfl, rfl, rfl, rfl⟩ rfl info3 rfl (H' := [⟨.pointer (some q3), [(Vi 6), (Vi 0), (Vi r15.2.2.2.1), Vn, Vn, Vn, Vn], 27, none⟩, ⟨.pointer (some wa0), [(Vi r15.1), (Vi r15.2.1), (Vl (Vs wa0_2)), (Vi r15.2.2.2.1), (Vl (Vs wa0_4))], 122, none⟩, (Rw Kf 95 (Vs wa0_2) r15.2.2.1), (Rw (Kl (Ki .i64)) 23 (Vs wa0_4) r15.2.2.2.2), ⟨.pointer (some q2), [(Vi 0), (Vi 0), (Vi 0), Vn, Vn, Vn, Vn], 27, none⟩]) rfl) (wt_none' rfl) fun _ => ?_
 refine nk hK3 ?_
 refine cr fun K13 hK13 => ?_
 refine s0 (rd_move' rfl) ?_
 obtain ⟨r70, hr70, hp⟩ := bind_some hp
 refine sx_ox' (ox_callg' (ent_inv' rfl rfl (inv_ptr0 (inv50_Layout _))) (gogeom_geom0_Layout_v7_sim _ _ _ _ _ hr70 : Sx.Fn Tryz.prog 100 [(Vp wa0)] [⟨.pointer (some wa0), [(Vi r15.1), (Vi r15.2.1), (Vl (Vs wa0_2)), (Vi r15.2.2.2.1), (Vl (Vs wa0_4))], 122, none⟩, (Rw Kf 95 (Vs wa0_2) r15.2.2.1), (Rw (Kl (Ki .i64)) 23 (Vs wa0_4) r15.2.2.2.2)] (fun x : Unit => (Vi r70.1)) (fun x => [⟨.pointer (some wa0), [(Vi r70.1), (Vi r70.2.1), (Vl (Vs wa0_2)), (Vi r70.2.2.2.1), (Vl (Vs wa0_4))], 122, none⟩, (Rw Kf 95 (Vs wa0_2) r70.2.2.1), (Rw (Kl (Ki .i64)) 23 (Vs wa0_4) r70.2.2.2.2)])) [1, 2, 3] [0, 4] (by decide) (pick_cons rfl (pick_cons rfl (pick_cons rfl pick_nil))) (pick_cons rfl (pick_cons rfl pick_nil)) (Hn := fun x : Unit => [⟨.pointer (some wa0), [(Vi r70.1), (Vi r70.2.1), (Vl (Vs wa0_2)), (Vi r70.2.2.2.1), (Vl (Vs wa0_4))], 122, none⟩, (Rw Kf 95 (Vs wa0_2) r70.2.2.1), (Rw (Kl (Ki .i64)) 23 (Vs wa0_4) r70.2.2.2.2), ⟨.pointer (some q3), [(Vi 6), (Vi 0), (Vi r15.2.2.2.1), Vn, Vn, Vn, Vn], 27, none⟩, ⟨.pointer (some q2), [(Vi 0), (Vi 0), (Vi 0), Vn, Vn, Vn, Vn], 27, none⟩]) (fun _ => rfl) rfl rfl) (wt_none' rfl) fun ⟨⟩ => ?_
 refine s0 (rd_move' rfl) ?_
 obtain ⟨r72, hr72, hp⟩ := bind_some hp
 refine sx_ox' (ox_callg' (ent_inv' rfl rfl (inv_ptr0 (inv50_FlatCoords _))) (gogeom_geom0_FlatCoords_v7_sim _ _ _ _ _ hr72 : Sx.Fn Tryz.prog 99 [(Vp wa0)] [⟨.pointer (some wa0), [(Vi r70.1), (Vi r70.2.1), (Vl (Vs wa0_2)), (Vi r70.2.2.2.1), (Vl (Vs wa0_4))], 122, none⟩, (Rw Kf 95 (Vs wa0_2) r70.2.2.1), (Rw (Kl (Ki .i64)) 23 (Vs wa0_4) r70.2.2.2.2)] (fun x : Unit => (Sl Kf r72.2.2.1)) (fun x => [⟨.pointer (some wa0), [(Vi r72.1), (Vi r72.2.1), (Sl Kf r72.2.2.1), (Vi r72.2.2.2.1), (Vl (Vs wa0_4))], 122, none⟩, (Rw (Kl (Ki .i64)) 23 (Vs wa0_4) r72.2.2.2.2)])) [0, 1, 2] [3, 4] (by decide) (pick_cons rfl (pick_cons rfl (pick_cons rfl pick_nil))) (pick_cons rfl (pick_cons rfl pick_nil)) (Hn := fun x : Unit => [⟨.pointer (some wa0), [(Vi r72.1), (Vi r72.2.1), (Sl Kf r72.2.2.1), (Vi r72.2.2.2.1), (Vl (Vs wa0_4))], 122, none⟩, (Rw (Kl (Ki .i64)) 23 (Vs wa0_4) r72.2.2.2.2), ⟨.pointer (some q3), [(Vi 6), (Vi 0), (Vi r15.2.2.2.1), Vn, Vn, Vn, Vn], 27, none⟩, ⟨.pointer (some q2), [(Vi 0), (Vi 0), (Vi 0), Vn, Vn, Vn, Vn], 27, none⟩]) (fun _ => rfl) rfl rfl) (wt_none' rfl) fun ⟨⟩ => ?_
 obtain ⟨r73, hr73, hp⟩ := bind_some hp
 refine sx_ox' (ox_calln' (ent_fn' Tryz.func24 isn24 rfl rfl) (impl_floats_sim _ hr73 : Sx.Fn Tryz.prog 24 [(Sl Kf r72.2.2.1)] [] (fun x : Unit => (Sl Kf r73)) (fun x => [])) (Hn := fun x : Unit => [⟨.pointer (some wa0), [(Vi r72.1), (Vi r72.2.1), (Sl Kf r72.2.2.1), (Vi r72.2.2.2.1), (Vl (Vs wa0_4))], 122, none⟩, (Rw (Kl (Ki .i64)) 23 (Vs wa0_4) r72.2.2.2.2), ⟨.pointer (some q3), [(Vi 6), (Vi 0), (Vi r15.2.2.2.1), Vn, Vn, Vn, Vn], 27, none⟩, ⟨.pointer (some q2), [(Vi 0), (Vi 0), (Vi 0), Vn, Vn, Vn, Vn], 27, none⟩]) (fun _ => rfl) rfl rfl) (wt_none' rfl) fun ⟨⟩ => ?_
 refine s0 (rd_move' rfl) ?_
 obtain ⟨r75, hr75, hp⟩ := bind_some hp
 refine sx_ox' (ox_callg' (ent_inv' rfl rfl (inv_ptr0 (inv50_Ends _))) (gogeom_geom0_Ends_v4_sim _ _ _ _ _ hr75 : Sx.Fn Tryz.prog 97 [(Vp wa0)] [⟨.pointer (some wa0), [(Vi r72.1), (Vi r72.2.1), (Sl Kf r72.2.2.1), (Vi r72.2.2.2.1), (Vl (Vs wa0_4))], 122, none⟩, (Rw (Kl (Ki .i64)) 23 (Vs wa0_4) r72.2.2.2.2)] (fun x : Unit => Vn) (fun x => [⟨.pointer (some wa0), [(Vi r75.1), (Vi r75.2.1), (Sl Kf r75.2.2.1), (Vi r75.2.2.2.1), (Vl (Vs wa0_4))], 122, none⟩, (Rw (Kl (Ki .i64)) 23 (Vs wa0_4) r75.2.2.2.2)])) [0, 1] [2, 3] (by decide) (pick_cons rfl (pick_cons rfl pick_nil)) (pick_cons rfl (pick_cons rfl pick_nil)) (Hn := fun x : Unit => [⟨.pointer (some wa0), [(Vi r75.1), (Vi r75.2.1), (Sl Kf r75.2.2.1), (Vi r75.2.2.2.1), (Vl (Vs wa0_4))], 122, none⟩, (Rw (Kl (Ki .i64)) 23 (Vs wa0_4) r75.2.2.2.2), ⟨.pointer (some q3), [(Vi 6), (Vi 0), (Vi r15.2.2.2.1), Vn, Vn, Vn, Vn], 27, none⟩, ⟨.pointer (some q2), [(Vi 0), (Vi 0), (Vi 0), Vn, Vn, Vn, Vn], 27, none⟩]) (fun _ => rfl) rfl rfl) (wt_none' rfl) fun ⟨⟩ => ?_
 obtain ⟨r76, hr76, hp⟩ := bind_some hp
 refine sx_ox' (ox_calln' (ent_fn' Tryz.func32 isn32 rfl rfl) (impl_ints_v2_sim hr76 : Sx.Fn Tryz.prog 32 [Vn] [] (fun x : Unit => (Sl (Ki .i64) r76)) (fun x => [])) (Hn := fun x : Unit => [⟨.pointer (some wa0), [(Vi r75.1), (Vi r75.2.1), (Sl Kf r75.2.2.1), (Vi r75.2.2.2.1), (Vl (Vs wa0_4))], 122, none⟩, (Rw (Kl (Ki .i64)) 23 (Vs wa0_4) r75.2.2.2.2), ⟨.pointer (some q3), [(Vi 6), (Vi 0), (Vi r15.2.2.2.1), Vn, Vn, Vn, Vn], 27, none⟩, ⟨.pointer (some q2), [(Vi 0), (Vi 0), (Vi 0), Vn, Vn, Vn, Vn], 27, none⟩]) (fun _ => rfl) rfl rfl) (wt_none' rfl) fun ⟨⟩ => ?_
 refine s0 (rd_move' rfl) ?_
 obtain ⟨r78, hr78, hp⟩ := bind_some hp
 refine sx_ox' (ox_callg' (ent_inv' rfl rfl (inv_ptr0 (inv50_Endss _))) (gogeom_geom3_Endss_sim _ _ _ _ _ hr78 : Sx.Fn Tryz.prog 106 [(Vp wa0)] [⟨.pointer (some wa0), [(Vi r75.1), (Vi r75.2.1), (Sl Kf r75.2.2.1), (Vi r75.2.2.2.1), (Vl (Vs wa0_4))], 122, none⟩, (Rw (Kl (Ki .i64)) 23 (Vs wa0_4) r75.2.2.2.2)] (fun x : Unit => (Sl (Kl (Ki .i64)) r78.2.2.2.2)) (fun x => [⟨.pointer (some wa0), [(Vi r78.1), (Vi r78.2.1), (Sl Kf r78.2.2.1), (Vi r78.2.2.2.1), (Sl (Kl (Ki .i64)) r78.2.2.2.2)], 122, none⟩])) [0, 1] [2, 3] (by decide) (pick_cons rfl (pick_cons rfl pick_nil)) (pick_cons rfl (pick_cons rfl pick_nil)) (Hn := fun x : Unit => [⟨.pointer (some wa0), [(Vi r78.1), (Vi r78.2.1), (Sl Kf r78.2.2.1), (Vi r78.2.2.2.1), (Sl (Kl (Ki .i64)) r78.2.2.2.2)], 122, none⟩, ⟨.pointer (some q3), [(Vi 6), (Vi 0), (Vi r15.2.2.2.1), Vn, Vn, Vn, Vn], 27, none⟩, ⟨.pointer (some q2), [(Vi 0), (Vi 0), (Vi 0), Vn, Vn, Vn, Vn], 27, none⟩]) (fun _ => rfl) rfl rfl) (wt_none' rfl) fun ⟨⟩ => ?_
 obtain ⟨r79, hr79, hp⟩ := bind_some hp
 refine sx_ox' (ox_calln' (ent_fn' Tryz.func40 isn40 rfl rfl) (impl_intss_sim _ hr79 : Sx.Fn Tryz.prog 40 [(Sl (Kl (Ki .i64)) r78.2.2.2.2)] [] (fun x : Unit => (Sl (Kl (Ki .i64)) r79)) (fun x => [])) (Hn := fun x : Unit => [⟨.pointer (some wa0), [(Vi r78.1), (Vi r78.2.1), (Sl Kf r78.2.2.1), (Vi r78.2.2.2.1), (Sl (Kl (Ki .i64)) r78.2.2.2.2)], 122, none⟩, ⟨.pointer (some q3), [(Vi 6), (Vi 0), (Vi r15.2.2.2.1), Vn, Vn, Vn, Vn], 27, none⟩, ⟨.pointer (some q2), [(Vi 0), (Vi 0), (Vi 0), Vn, Vn, Vn, Vn], 27, none⟩]) (fun _ => rfl) rfl rfl) (wt_none' rfl) fun ⟨⟩ => ?_
 refine s0 (rd_field' (off := 1) rfl Tryz.underlying27 rfl info3 rfl) ?_
 refine sx_ox' (ox_store' (i := 1) (o := 1) rfl rfl (lv_vl rfl rfl) ⟨rfl, rfl, rfl, rfl⟩ rfl info3 rfl (H' := [⟨.pointer (some wa0), [(Vi r78.1), (Vi r78.2.1), (Sl Kf r78.2.2.1), (Vi r78.2.2.2.1), (Sl (Kl (Ki .i64)) r78.2.2.2.2)], 122, none⟩, ⟨.pointer (some q3), [(Vi 6), (Vi r70.1), (Vi r15.2.2.2.1), Vn, Vn, Vn, Vn], 27, none⟩, ⟨.pointer (some q2), [(Vi 0), (Vi 0), (Vi 0), Vn, Vn, Vn, Vn], 27, none⟩]) rfl) (wt_none' rfl) fun _ => ?_
 refine s0 (rd_field' (off := 3) rfl Tryz.underlying27 rfl info22 rfl) ?_
 refine sx_ox' (ox_store' (i := 1) (o := 3) rfl rfl (lv_sl _ _) ⟨rfl, rfl, rfl, rfl⟩ rfl info22 rfl (H' := [⟨.pointer (some wa0), [(Vi r78.1), (Vi r78.2.1), (Sl Kf r78.2.2.1), (Vi r78.2.2.2.1), (Sl (Kl (Ki .i64)) r78.2.2.2.2)], 122, none⟩, ⟨.pointer (some q3), [(Vi 6), (Vi r70.1), (Vi r15.2.2.2.1), (Sl Kf r73), Vn, Vn, Vn], 27, none⟩, ⟨.pointer (some q2), [(Vi 0), (Vi 0), (Vi 0), Vn, Vn, Vn, Vn], 27, none⟩]) rfl) (wt_none' rfl) fun _ => ?_
 refine s0 (rd_field' (off := 4) rfl Tryz.underlying27 rfl info23 rfl) ?_
 refine sx_ox' (ox_store' (i := 1) (o := 4) rfl rfl (lv_sl _ _) ⟨rfl, rfl, rfl, rfl⟩ rfl info23 rfl (H' := [⟨.pointer (some wa0), [(Vi r78.1), (Vi r78.2.1), (Sl Kf r78.2.2.1), (Vi r78.2.2.2.1), (Sl (Kl (Ki .i64)) r78.2.2.2.2)], 122, none⟩, ⟨.pointer (some q3), [(Vi 6), (Vi r70.1), (Vi r15.2.2.2.1), (Sl Kf r73), (Sl (Ki .i64) r76), Vn, Vn], 27, none⟩, ⟨.pointer (some q2), [(Vi 0), (Vi 0), (Vi 0), Vn, Vn, Vn, Vn], 27, none⟩]) rfl) (wt_none' rfl) fun _ => ?_
 refine s0 (rd_field' (off := 5) rfl Tryz.underlying27 rfl info24 rfl) ?_
 refine sx_ox' (ox_store' (i := 1) (o := 5) rfl rfl (lv_sl _ _) ⟨rfl, rfl, rfl, rfl⟩ rfl info24 rfl (H' := [⟨.pointer (some wa0), [(Vi r78.1), (Vi r78.2.1), (Sl Kf r78.2.2.1), (Vi r78.2.2.2.1), (Sl (Kl (Ki .i64)) r78.2.2.2.2)], 122, none⟩, ⟨.pointer (some q3), [(Vi 6), (Vi r70.1), (Vi r15.2.2.2.1), (Sl Kf r73), (Sl (Ki .i64) r76), (Sl (Kl (Ki .i64)) r79), Vn], 27, none⟩, ⟨.pointer (some q2), [(Vi 0), (Vi 0), (Vi 0), Vn, Vn, Vn, Vn], 27, none⟩]) rfl) (wt_none' rfl) fun _ => ?_
 refine nk hK13 ?_
 refine cr fun K14 hK14 => ?_
 refine s0 (rd_load_agg' (i := 1) (o := 0) (nn := 7) rfl ⟨rfl, rfl, rfl, rfl⟩ rfl agg27 (l' := [(Vi 6), (Vi r70.1), (Vi r15.2.2.2.1), (Sl Kf r73), (Sl (Ki .i64) r76), (Sl (Kl (Ki .i64)) r79), Vn]) rfl) ?_
 refine sx_ox' (ox_store' (i := 2) (o := 0) rfl rfl (lv_ag _) ⟨rfl, rfl, rfl, rfl⟩ rfl info27 rfl (H' := [⟨.pointer (some wa0), [(Vi r78.1), (Vi r78.2.1), (Sl Kf r78.2.2.1), (Vi r78.2.2.2.1), (Sl (Kl (Ki .i64)) r78.2.2.2.2)], 122, none⟩, ⟨.pointer (some q3), [(Vi 6), (Vi r70.1), (Vi r15.2.2.2.1), (Sl Kf r73), (Sl (Ki .i64) r76), (Sl (Kl (Ki .i64)) r79), Vn], 27, none⟩, ⟨.pointer (some q2), [(Vi 6), (Vi r70.1), (Vi r15.2.2.2.1), (Sl Kf r73), (Sl (Ki .i64) r76), (Sl (Kl (Ki .i64)) r79), Vn], 27, none⟩]) rfl) (wt_none' rfl) fun _ => ?_
 refine nk hK14 ?_
 refine cx_retc' ?_
 replace hp := Option.some.inj hp
 subst hp
 refine tx_pick' (L' := [(2, (Vp q2))]) (H' := [⟨.pointer (some wa0), [(Vi r78.1), (Vi r78.2.1), (Sl Kf r78.2.2.1), (Vi r78.2.2.2.1), (Sl (Kl (Ki .i64)) r78.2.2.2.2)], 122, none⟩, ⟨.pointer (some q2), [(Vi 6), (Vi r70.1), (Vi r15.2.2.2.1), (Sl Kf r73), (Sl (Ki .i64) r76), (Sl (Kl (Ki .i64)) r79), Vn], 27, none⟩]) [0, 2] (sub_cons rfl sub_nil) (by decide) (pick_cons rfl (pick_cons rfl pick_nil)) ?_
 exact tx_ret1' Tryz.results12 rfl () (rv_cell_agg' (i := 1) (o := 0) (nn := 7) rfl ⟨rfl, rfl, rfl, rfl⟩ rfl agg27 rfl) (List.Sublist.cons_cons _ (List.nil_sublist _))

end Go.Proofs.YtmagcmeknclljaaGreat
