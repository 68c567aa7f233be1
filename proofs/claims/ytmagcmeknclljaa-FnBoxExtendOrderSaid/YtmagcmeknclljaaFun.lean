/-
  Plain functions for the Go functions that this law reaches, and that each call does what its plain function says. Printed by a program of ours.
-/
import Derived.Test.YtmagcmeknclljaaProg
import Derived.Test.YtmagcmeknclljaaSxX
import Derived.Test.YtmagcmeknclljaaFun2
namespace Go.Proofs.Ytmagcmeknclljaa
open Go.Sx
set_option linter.unusedVariables false
set_option maxRecDepth 100000

def gogeom_Bounds_Extend_v3_j1 (k : Nat) (r8 : Int × (List Nat) × (List Nat)) (x1 : Int) (x2 : Int) (x3 : List Nat) (x4 : Int) (x5 : Bool) : Option (Int × (List Nat) × (List Nat) × Int × Int × (List Nat) × Int) :=
 br x5
  ((gogeom_geom0_FlatCoords_v3 k x1 x2 x3 x4) >>= fun r21 =>
  (gogeom_geom0_FlatCoords_v3 k r21.1 r21.2.1 r21.2.2.1 r21.2.2.2) >>= fun r23 =>
  (gogeom_Bounds_extendXYZMFlatCoordsWithXYM k r8.1 r8.2.1 r8.2.2 r21.2.2.1 0 (r23.2.2.1.length : Int)) >>= fun r25 =>
  some (r25.1, r25.2.1, r25.2.2, r23.1, r23.2.1, r23.2.2.1, r23.2.2.2))
  ((gogeom_geom0_FlatCoords_v3 k x1 x2 x3 x4) >>= fun r28 =>
  (gogeom_geom0_FlatCoords_v3 k r28.1 r28.2.1 r28.2.2.1 r28.2.2.2) >>= fun r30 =>
  (gogeom_geom0_Stride_v3 k r30.1 r30.2.1 r30.2.2.1 r30.2.2.2) >>= fun r33 =>
  (gogeom_Bounds_extendFlatCoords k r8.1 r8.2.1 r8.2.2 r28.2.2.1 0 (r30.2.2.1.length : Int) r33.2.1) >>= fun r34 =>
  some (r34.1, r34.2.1, r34.2.2, r33.1, r33.2.1, r33.2.2.1, r33.2.2.2))
def gogeom_Bounds_Extend_v3 (k : Nat) (a0_0 : Int) (a0_1 : List Nat) (a0_2 : List Nat) (a1_0 : Int) (a1_1 : Int) (a1_2 : List Nat) (a1_3 : Int) : Option (Int × (List Nat) × (List Nat) × Int × Int × (List Nat) × Int) :=
 (gogeom_geom0_Layout_v3 k a1_0 a1_1 a1_2 a1_3) >>= fun r7 =>
 (gogeom_Bounds_extendLayout k a0_0 a0_1 a0_2 r7.1) >>= fun r8 =>
 br (decide (r8.1 = 4))
  ((gogeom_geom0_Layout_v3 k r7.1 r7.2.1 r7.2.2.1 r7.2.2.2) >>= fun r16 =>
  gogeom_Bounds_Extend_v3_j1 k r8 r16.1 r16.2.1 r16.2.2.1 r16.2.2.2 (decide (r16.1 = 3)))
  (gogeom_Bounds_Extend_v3_j1 k r8 r7.1 r7.2.1 r7.2.2.1 r7.2.2.2 false)

theorem gogeom_Bounds_Extend_v3_sim {k : Nat} {wa0 : Addr} {wa0_1 : Gs} {wa0_2 : Gs} {wa1 : Addr} (a0_0 : Int) (a0_1 : List Nat) (a0_2 : List Nat) (a1_0 : Int) (a1_1 : Int) (a1_2 : List Nat) (a1_3 : Int) {out : Int × (List Nat) × (List Nat) × Int × Int × (List Nat) × Int} (hp : gogeom_Bounds_Extend_v3 k a0_0 a0_1 a0_2 a1_0 a1_1 a1_2 a1_3 = some out) : Sx.Fn Try.prog 55 [(Vp wa0), (If 69 (Vp wa1))] [⟨.pointer (some wa0), [(Vi a0_0), (Vl (Vs wa0_1)), (Vl (Vs wa0_2))], 150, none⟩, (Rw Kf 32 (Vs wa0_1) a0_1), (Rw Kf 32 (Vs wa0_2) a0_2), ⟨.pointer (some wa1), [(Vi a1_0), (Vi a1_1), (Sl Kf a1_2), (Vi a1_3)], 128, none⟩] (fun w : Gs × Gs => (Vp wa0)) (fun w => [⟨.pointer (some wa0), [(Vi out.1), (Vl (Vs w.1)), (Vl (Vs w.2))], 150, none⟩, (Rw Kf 32 (Vs w.1) out.2.1), (Rw Kf 32 (Vs w.2) out.2.2.1), ⟨.pointer (some wa1), [(Vi out.2.2.2.1), (Vi out.2.2.2.2.1), (Sl Kf out.2.2.2.2.2.1), (Vi out.2.2.2.2.2.2)], 128, none⟩]) := by
 unfold gogeom_Bounds_Extend_v3 at hp
 refine fn_of Try.func55 rfl Try.ntmps55 rfl fun E hM => ?_
 refine cr fun K1 hK1 => ?_
 refine s0 (rd_assign' rfl) ?_
 refine nk hK1 ?_
 refine cr fun K2 hK2 => ?_
 refine s0 (rd_move' rfl) ?_
 refine s0 (rd_move' rfl) ?_
 obtain ⟨r7, hr7, hp⟩ := bind_some hp
 refine sx_ox' (ox_callg' (ent_inv' rfl rfl (inv_ptr0 (inv69_Layout _))) (gogeom_geom0_Layout_v3_sim _ _ _ _ hr7 : Sx.Fn Try.prog 134 [(Vp wa1)] [⟨.pointer (some wa1), [(Vi a1_0), (Vi a1_1), (Sl Kf a1_2), (Vi a1_3)], 128, none⟩] (fun x : Unit => (Vi r7.1)) (fun x => [⟨.pointer (some wa1), [(Vi r7.1), (Vi r7.2.1), (Sl Kf r7.2.2.1), (Vi r7.2.2.2)], 128, none⟩])) [3] [0, 1, 2] (by decide) (pick_cons rfl pick_nil) (pick_cons rfl (pick_cons rfl (pick_cons rfl pick_nil))) (Hn := fun x : Unit => [⟨.pointer (some wa1), [(Vi r7.1), (Vi r7.2.1), (Sl Kf r7.2.2.1), (Vi r7.2.2.2)], 128, none⟩, ⟨.pointer (some wa0), [(Vi a0_0), (Vl (Vs wa0_1)), (Vl (Vs wa0_2))], 150, none⟩, (Rw Kf 32 (Vs wa0_1) a0_1), (Rw Kf 32 (Vs wa0_2) a0_2)]) (fun _ => rfl) rfl rfl) (wt_none' rfl) fun ⟨⟩ => ?_
 obtain ⟨r8, hr8, hp⟩ := bind_some hp
 refine sx_ox' (ox_callg' (ent_fn' Try.func86 isn86 rfl rfl) (gogeom_Bounds_extendLayout_sim _ _ _ _ hr8 : Sx.Fn Try.prog 86 [(Vp wa0), (Vi r7.1)] [⟨.pointer (some wa0), [(Vi a0_0), (Vl (Vs wa0_1)), (Vl (Vs wa0_2))], 150, none⟩, (Rw Kf 32 (Vs wa0_1) a0_1), (Rw Kf 32 (Vs wa0_2) a0_2)] (fun x : Gs × Gs => (Vl (.tuple #[]))) (fun x => [⟨.pointer (some wa0), [(Vi r8.1), (Vl (Vs x.1)), (Vl (Vs x.2))], 150, none⟩, (Rw Kf 32 (Vs x.1) r8.2.1), (Rw Kf 32 (Vs x.2) r8.2.2)])) [1, 2, 3] [0] (by decide) (pick_cons rfl (pick_cons rfl (pick_cons rfl pick_nil))) (pick_cons rfl pick_nil) (Hn := fun x : Gs × Gs => [⟨.pointer (some wa0), [(Vi r8.1), (Vl (Vs x.1)), (Vl (Vs x.2))], 150, none⟩, (Rw Kf 32 (Vs x.1) r8.2.1), (Rw Kf 32 (Vs x.2) r8.2.2), ⟨.pointer (some wa1), [(Vi r7.1), (Vi r7.2.1), (Sl Kf r7.2.2.1), (Vi r7.2.2.2)], 128, none⟩]) (fun _ => rfl) rfl rfl) (wt_none' rfl) fun ⟨g8, gz1⟩ => ?_
 refine nk hK2 ?_
 refine cx_seq' fun K3 hK3 => ?_
 refine cr fun K4 hK4 => ?_
 refine s0 (rd_move' rfl) ?_
 refine s0 (rd_nilck' rfl) ?_
 refine s0 (rd_field0' rfl Try.underlying150 rfl info61 rfl) ?_
 refine s0 (rd_load' (i := 0) (o := 0) rfl ⟨rfl, rfl, rfl, rfl⟩ rfl flat61) ?_
 refine s0 (rd_bin' rfl rfl eg_int ru_eql) ?_
 refine s0 (rd_move' rfl) ?_
 refine sx_cutn' 4 (fun (v1 : Int × Int × (List Nat) × Int × Bool) => (⟨35, [], [(0, (Vp wa0)), (1, (If 69 (Vp wa1))), (18, (Vb v1.2.2.2.2))], [⟨.pointer (some wa0), [(Vi r8.1), (Vl (Vs g8)), (Vl (Vs gz1))], 150, none⟩, (Rw Kf 32 (Vs g8) r8.2.1), (Rw Kf 32 (Vs gz1) r8.2.2), ⟨.pointer (some wa1), [(Vi v1.1), (Vi v1.2.1), (Sl Kf v1.2.2.1), (Vi v1.2.2.2.1)], 128, none⟩]⟩ : St)) (fun (v1 : Int × Int × (List Nat) × Int × Bool) => gogeom_Bounds_Extend_v3_j1 k r8 v1.1 v1.2.1 v1.2.2.1 v1.2.2.2.1 v1.2.2.2.2 = some out) ?_ ?_
 ·rintro ⟨x1, x2, x3, x4, x5⟩ hp
  replace hp : gogeom_Bounds_Extend_v3_j1 k r8 x1 x2 x3 x4 x5 = some out := hp
  unfold gogeom_Bounds_Extend_v3_j1 at hp
  refine nk hK4 ?_
  refine cx_cond' rfl (fun h2 => ?_) (fun h2 => ?_)
  ·replace hp := (br_t h2).symm.trans hp
   refine cr fun K6 hK6 => ?_
   refine s0 (rd_move' rfl) ?_
   refine s0 (rd_move' rfl) ?_
   obtain ⟨r21, hr21, hp⟩ := bind_some hp
   refine sx_ox' (ox_callg' (ent_inv' rfl rfl (inv_ptr0 (inv69_FlatCoords _))) (gogeom_geom0_FlatCoords_v3_sim _ _ _ _ hr21 : Sx.Fn Try.prog 133 [(Vp wa1)] [⟨.pointer (some wa1), [(Vi x1), (Vi x2), (Sl Kf x3), (Vi x4)], 128, none⟩] (fun x : Unit => (Sl Kf r21.2.2.1)) (fun x => [⟨.pointer (some wa1), [(Vi r21.1), (Vi r21.2.1), (Sl Kf r21.2.2.1), (Vi r21.2.2.2)], 128, none⟩])) [3] [0, 1, 2] (by decide) (pick_cons rfl pick_nil) (pick_cons rfl (pick_cons rfl (pick_cons rfl pick_nil))) (Hn := fun x : Unit => [⟨.pointer (some wa1), [(Vi r21.1), (Vi r21.2.1), (Sl Kf r21.2.2.1), (Vi r21.2.2.2)], 128, none⟩, ⟨.pointer (some wa0), [(Vi r8.1), (Vl (Vs g8)), (Vl (Vs gz1))], 150, none⟩, (Rw Kf 32 (Vs g8) r8.2.1), (Rw Kf 32 (Vs gz1) r8.2.2)]) (fun _ => rfl) rfl rfl) (wt_none' rfl) fun ⟨⟩ => ?_
   refine s0 (rd_move' rfl) ?_
   obtain ⟨r23, hr23, hp⟩ := bind_some hp
   refine sx_ox' (ox_callg' (ent_inv' rfl rfl (inv_ptr0 (inv69_FlatCoords _))) (gogeom_geom0_FlatCoords_v3_sim _ _ _ _ hr23 : Sx.Fn Try.prog 133 [(Vp wa1)] [⟨.pointer (some wa1), [(Vi r21.1), (Vi r21.2.1), (Sl Kf r21.2.2.1), (Vi r21.2.2.2)], 128, none⟩] (fun x : Unit => (Sl Kf r23.2.2.1)) (fun x => [⟨.pointer (some wa1), [(Vi r23.1), (Vi r23.2.1), (Sl Kf r23.2.2.1), (Vi r23.2.2.2)], 128, none⟩])) [0] [1, 2, 3] (by decide) (pick_cons rfl pick_nil) (pick_cons rfl (pick_cons rfl (pick_cons rfl pick_nil))) (Hn := fun x : Unit => [⟨.pointer (some wa1), [(Vi r23.1), (Vi r23.2.1), (Sl Kf r23.2.2.1), (Vi r23.2.2.2)], 128, none⟩, ⟨.pointer (some wa0), [(Vi r8.1), (Vl (Vs g8)), (Vl (Vs gz1))], 150, none⟩, (Rw Kf 32 (Vs g8) r8.2.1), (Rw Kf 32 (Vs gz1) r8.2.2)]) (fun _ => rfl) rfl rfl) (wt_none' rfl) fun ⟨⟩ => ?_
   refine s0 (rd_len' rfl Try.underlying22) ?_
   obtain ⟨r25, hr25, hp⟩ := bind_some hp
   refine sx_ox' (ox_callg' (ent_fn' Try.func87 isn87 rfl rfl) (gogeom_Bounds_extendXYZMFlatCoordsWithXYM_sim _ _ _ _ _ _ hr25 : Sx.Fn Try.prog 87 [(Vp wa0), (Sl Kf r21.2.2.1), (Vi 0), (Vi (r23.2.2.1.length : Int))] [⟨.pointer (some wa0), [(Vi r8.1), (Vl (Vs g8)), (Vl (Vs gz1))], 150, none⟩, (Rw Kf 32 (Vs g8) r8.2.1), (Rw Kf 32 (Vs gz1) r8.2.2)] (fun x : Unit => (Vp wa0)) (fun x => [⟨.pointer (some wa0), [(Vi r25.1), (Vl (Vs g8)), (Vl (Vs gz1))], 150, none⟩, (Rw Kf 32 (Vs g8) r25.2.1), (Rw Kf 32 (Vs gz1) r25.2.2)])) [1, 2, 3] [0] (by decide) (pick_cons rfl (pick_cons rfl (pick_cons rfl pick_nil))) (pick_cons rfl pick_nil) (Hn := fun x : Unit => [⟨.pointer (some wa0), [(Vi r25.1), (Vl (Vs g8)), (Vl (Vs gz1))], 150, none⟩, (Rw Kf 32 (Vs g8) r25.2.1), (Rw Kf 32 (Vs gz1) r25.2.2), ⟨.pointer (some wa1), [(Vi r23.1), (Vi r23.2.1), (Sl Kf r23.2.2.1), (Vi r23.2.2.2)], 128, none⟩]) (fun _ => rfl) rfl rfl) (wt_none' rfl) fun ⟨⟩ => ?_
   refine s0 (rd_assign' rfl) ?_
   refine nk hK6 ?_
   refine cx_retc' ?_
   replace hp := Option.some.inj hp
   subst hp
   refine tx_pick' (L' := [(4, (Vp wa0))]) (H' := [⟨.pointer (some wa0), [(Vi r25.1), (Vl (Vs g8)), (Vl (Vs gz1))], 150, none⟩, (Rw Kf 32 (Vs g8) r25.2.1), (Rw Kf 32 (Vs gz1) r25.2.2), ⟨.pointer (some wa1), [(Vi r23.1), (Vi r23.2.1), (Sl Kf r23.2.2.1), (Vi r23.2.2.2)], 128, none⟩]) [0, 1, 2, 3] (sub_cons rfl sub_nil) (by decide) (pick_cons rfl (pick_cons rfl (pick_cons rfl (pick_cons rfl pick_nil)))) ?_
   exact tx_ret1' Try.results55 rfl (g8, gz1) (rv_tmp' rfl) (List.Sublist.refl _)
  replace hp := (br_f h2).symm.trans hp
  refine cx_skip' ?_
  show TX E K3 _
  refine tx_k' hK3 ?_
  refine cr fun K7 hK7 => ?_
  refine s0 (rd_move' rfl) ?_
  refine s0 (rd_move' rfl) ?_
  obtain ⟨r28, hr28, hp⟩ := bind_some hp
  refine sx_ox' (ox_callg' (ent_inv' rfl rfl (inv_ptr0 (inv69_FlatCoords _))) (gogeom_geom0_FlatCoords_v3_sim _ _ _ _ hr28 : Sx.Fn Try.prog 133 [(Vp wa1)] [⟨.pointer (some wa1), [(Vi x1), (Vi x2), (Sl Kf x3), (Vi x4)], 128, none⟩] (fun x : Unit => (Sl Kf r28.2.2.1)) (fun x => [⟨.pointer (some wa1), [(Vi r28.1), (Vi r28.2.1), (Sl Kf r28.2.2.1), (Vi r28.2.2.2)], 128, none⟩])) [3] [0, 1, 2] (by decide) (pick_cons rfl pick_nil) (pick_cons rfl (pick_cons rfl (pick_cons rfl pick_nil))) (Hn := fun x : Unit => [⟨.pointer (some wa1), [(Vi r28.1), (Vi r28.2.1), (Sl Kf r28.2.2.1), (Vi r28.2.2.2)], 128, none⟩, ⟨.pointer (some wa0), [(Vi r8.1), (Vl (Vs g8)), (Vl (Vs gz1))], 150, none⟩, (Rw Kf 32 (Vs g8) r8.2.1), (Rw Kf 32 (Vs gz1) r8.2.2)]) (fun _ => rfl) rfl rfl) (wt_none' rfl) fun ⟨⟩ => ?_
  refine s0 (rd_move' rfl) ?_
  obtain ⟨r30, hr30, hp⟩ := bind_some hp
  refine sx_ox' (ox_callg' (ent_inv' rfl rfl (inv_ptr0 (inv69_FlatCoords _))) (gogeom_geom0_FlatCoords_v3_sim _ _ _ _ hr30 : Sx.Fn Try.prog 133 [(Vp wa1)] [⟨.pointer (some wa1), [(Vi r28.1), (Vi r28.2.1), (Sl Kf r28.2.2.1), (Vi r28.2.2.2)], 128, none⟩] (fun x : Unit => (Sl Kf r30.2.2.1)) (fun x => [⟨.pointer (some wa1), [(Vi r30.1), (Vi r30.2.1), (Sl Kf r30.2.2.1), (Vi r30.2.2.2)], 128, none⟩])) [0] [1, 2, 3] (by decide) (pick_cons rfl pick_nil) (pick_cons rfl (pick_cons rfl (pick_cons rfl pick_nil))) (Hn := fun x : Unit => [⟨.pointer (some wa1), [(Vi r30.1), (Vi r30.2.1), (Sl Kf r30.2.2.1), (Vi r30.2.2.2)], 128, none⟩, ⟨.pointer (some wa0), [(Vi r8.1), (Vl (Vs g8)), (Vl (Vs gz1))], 150, none⟩, (Rw Kf 32 (Vs g8) r8.2.1), (Rw Kf 32 (Vs gz1) r8.2.2)]) (fun _ => rfl) rfl rfl) (wt_none' rfl) fun ⟨⟩ => ?_
  refine s0 (rd_len' rfl Try.underlying22) ?_
  refine s0 (rd_move' rfl) ?_
  obtain ⟨r33, hr33, hp⟩ := bind_some hp
  refine sx_ox' (ox_callg' (ent_inv' rfl rfl (inv_ptr0 (inv69_Stride _))) (gogeom_geom0_Stride_v3_sim _ _ _ _ hr33 : Sx.Fn Try.prog 137 [(Vp wa1)] [⟨.pointer (some wa1), [(Vi r30.1), (Vi r30.2.1), (Sl Kf r30.2.2.1), (Vi r30.2.2.2)], 128, none⟩] (fun x : Unit => (Vi r33.2.1)) (fun x => [⟨.pointer (some wa1), [(Vi r33.1), (Vi r33.2.1), (Sl Kf r33.2.2.1), (Vi r33.2.2.2)], 128, none⟩])) [0] [1, 2, 3] (by decide) (pick_cons rfl pick_nil) (pick_cons rfl (pick_cons rfl (pick_cons rfl pick_nil))) (Hn := fun x : Unit => [⟨.pointer (some wa1), [(Vi r33.1), (Vi r33.2.1), (Sl Kf r33.2.2.1), (Vi r33.2.2.2)], 128, none⟩, ⟨.pointer (some wa0), [(Vi r8.1), (Vl (Vs g8)), (Vl (Vs gz1))], 150, none⟩, (Rw Kf 32 (Vs g8) r8.2.1), (Rw Kf 32 (Vs gz1) r8.2.2)]) (fun _ => rfl) rfl rfl) (wt_none' rfl) fun ⟨⟩ => ?_
  obtain ⟨r34, hr34, hp⟩ := bind_some hp
  refine sx_ox' (ox_callg' (ent_fn' Try.func88 isn88 rfl rfl) (gogeom_Bounds_extendFlatCoords_sim _ _ _ _ _ _ _ hr34 : Sx.Fn Try.prog 88 [(Vp wa0), (Sl Kf r28.2.2.1), (Vi 0), (Vi (r30.2.2.1.length : Int)), (Vi r33.2.1)] [⟨.pointer (some wa0), [(Vi r8.1), (Vl (Vs g8)), (Vl (Vs gz1))], 150, none⟩, (Rw Kf 32 (Vs g8) r8.2.1), (Rw Kf 32 (Vs gz1) r8.2.2)] (fun x : Gs × Gs => (Vp wa0)) (fun x => [⟨.pointer (some wa0), [(Vi r34.1), (Vl (Vs x.1)), (Vl (Vs x.2))], 150, none⟩, (Rw Kf 32 (Vs x.1) r34.2.1), (Rw Kf 32 (Vs x.2) r34.2.2)])) [1, 2, 3] [0] (by decide) (pick_cons rfl (pick_cons rfl (pick_cons rfl pick_nil))) (pick_cons rfl pick_nil) (Hn := fun x : Gs × Gs => [⟨.pointer (some wa0), [(Vi r34.1), (Vl (Vs x.1)), (Vl (Vs x.2))], 150, none⟩, (Rw Kf 32 (Vs x.1) r34.2.1), (Rw Kf 32 (Vs x.2) r34.2.2), ⟨.pointer (some wa1), [(Vi r33.1), (Vi r33.2.1), (Sl Kf r33.2.2.1), (Vi r33.2.2.2)], 128, none⟩]) (fun _ => rfl) rfl rfl) (wt_none' rfl) fun ⟨g34, gz2⟩ => ?_
  refine s0 (rd_assign' rfl) ?_
  refine nk hK7 ?_
  refine cx_retc' ?_
  replace hp := Option.some.inj hp
  subst hp
  refine tx_pick' (L' := [(4, (Vp wa0))]) (H' := [⟨.pointer (some wa0), [(Vi r34.1), (Vl (Vs g34)), (Vl (Vs gz2))], 150, none⟩, (Rw Kf 32 (Vs g34) r34.2.1), (Rw Kf 32 (Vs gz2) r34.2.2), ⟨.pointer (some wa1), [(Vi r33.1), (Vi r33.2.1), (Sl Kf r33.2.2.1), (Vi r33.2.2.2)], 128, none⟩]) [0, 1, 2, 3] (sub_cons rfl sub_nil) (by decide) (pick_cons rfl (pick_cons rfl (pick_cons rfl (pick_cons rfl pick_nil)))) ?_
  exact tx_ret1' Try.results55 rfl (g34, gz2) (rv_tmp' rfl) (List.Sublist.refl _)
 intro K5 hK5
 rcases br_cases hp with ⟨h1, hp⟩ | ⟨h1, hp⟩
 ·refine sx_rd' (rd_move' rfl) rfl rfl (wt_is' (wt_guard' rfl rfl rfl) (beq_tt h1)) ?_
  obtain ⟨r16, hr16, hp⟩ := bind_some hp
  refine sx_ox' (ox_callg' (ent_inv' rfl rfl (inv_ptr0 (inv69_Layout _))) (gogeom_geom0_Layout_v3_sim _ _ _ _ hr16 : Sx.Fn Try.prog 134 [(Vp wa1)] [⟨.pointer (some wa1), [(Vi r7.1), (Vi r7.2.1), (Sl Kf r7.2.2.1), (Vi r7.2.2.2)], 128, none⟩] (fun x : Unit => (Vi r16.1)) (fun x => [⟨.pointer (some wa1), [(Vi r16.1), (Vi r16.2.1), (Sl Kf r16.2.2.1), (Vi r16.2.2.2)], 128, none⟩])) [3] [0, 1, 2] (by decide) (pick_cons rfl pick_nil) (pick_cons rfl (pick_cons rfl (pick_cons rfl pick_nil))) (Hn := fun x : Unit => [⟨.pointer (some wa1), [(Vi r16.1), (Vi r16.2.1), (Sl Kf r16.2.2.1), (Vi r16.2.2.2)], 128, none⟩, ⟨.pointer (some wa0), [(Vi r8.1), (Vl (Vs g8)), (Vl (Vs gz1))], 150, none⟩, (Rw Kf 32 (Vs g8) r8.2.1), (Rw Kf 32 (Vs gz1) r8.2.2)]) (fun _ => rfl) rfl rfl) (wt_is' (wt_guard' rfl rfl rfl) (beq_tt h1)) fun ⟨⟩ => ?_
  refine sx_rd' (rd_bin' rfl rfl eg_int ru_eql) rfl rfl (wt_is' (wt_guard' rfl rfl rfl) (beq_tt h1)) ?_
  refine s0 (rd_pick_true' rfl h1 rfl) ?_
  refine sx_nil' ?_
  show TX E K5 _
  exact tx_pick' [1, 2, 3, 0] (sub_cons rfl (sub_cons rfl (sub_cons rfl sub_nil))) (by decide) (pick_cons rfl (pick_cons rfl (pick_cons rfl (pick_cons rfl pick_nil)))) (hK5 (r16.1, r16.2.1, r16.2.2.1, r16.2.2.2, (decide (r16.1 = 3))) hp)
 refine sx_skip' rfl rfl (wt_is' (wt_guard' rfl rfl rfl) (beq_ft h1)) ?_
 refine sx_skip' rfl rfl (wt_is' (wt_guard' rfl rfl rfl) (beq_ft h1)) ?_
 refine sx_skip' rfl rfl (wt_is' (wt_guard' rfl rfl rfl) (beq_ft h1)) ?_
 refine s0 (rd_pick_false' rfl h1 rfl) ?_
 refine sx_nil' ?_
 show TX E K5 _
 exact tx_pick' [0, 1, 2, 3] (sub_cons rfl (sub_cons rfl (sub_cons rfl sub_nil))) (by decide) (pick_cons rfl (pick_cons rfl (pick_cons rfl (pick_cons rfl pick_nil)))) (hK5 (r7.1, r7.2.1, r7.2.2.1, r7.2.2.2, false) hp)

def gogeom_geom0_Layout_v4 (k : Nat) (a0_0 : Int) (a0_1 : Int) (a0_2 : List Nat) (a0_3 : Int) (a0_4 : List Int) : Option (Int × Int × (List Nat) × Int × (List Int)) :=
 some (a0_0, a0_1, a0_2, a0_3, a0_4)

theorem gogeom_geom0_Layout_v4_sim {k : Nat} {wa0 : Addr} (a0_0 : Int) (a0_1 : Int) (a0_2 : List Nat) (a0_3 : Int) (a0_4 : List Int) {out : Int × Int × (List Nat) × Int × (List Int)} (hp : gogeom_geom0_Layout_v4 k a0_0 a0_1 a0_2 a0_3 a0_4 = some out) : Sx.Fn Try.prog 134 [(Vp wa0)] [⟨.pointer (some wa0), [(Vi a0_0), (Vi a0_1), (Sl Kf a0_2), (Vi a0_3), (Sl (Ki .i64) a0_4)], 132, none⟩] (fun w : Unit => (Vi out.1)) (fun w => [⟨.pointer (some wa0), [(Vi out.1), (Vi out.2.1), (Sl Kf out.2.2.1), (Vi out.2.2.2.1), (Sl (Ki .i64) out.2.2.2.2)], 132, none⟩]) := by
 unfold gogeom_geom0_Layout_v4 at hp
 refine fn_of Try.func134 rfl Try.ntmps134 rfl fun E hM => ?_
 refine cr fun K1 hK1 => ?_
 refine s0 (rd_assign' rfl) ?_
 refine nk hK1 ?_
 refine cr fun K2 hK2 => ?_
 refine s0 (rd_move' rfl) ?_
 refine s0 (rd_nilck' rfl) ?_
 refine s0 (rd_field0' rfl Try.underlying124 rfl info61 rfl) ?_
 refine s0 (rd_load' (i := 0) (o := 0) rfl ⟨rfl, rfl, rfl, rfl⟩ rfl flat61) ?_
 refine s0 (rd_assign' rfl) ?_
 refine nk hK2 ?_
 refine cx_retc' ?_
 replace hp := Option.some.inj hp
 subst hp
 refine tx_pick' (L' := [(2, (Vi a0_0))]) (H' := [⟨.pointer (some wa0), [(Vi a0_0), (Vi a0_1), (Sl Kf a0_2), (Vi a0_3), (Sl (Ki .i64) a0_4)], 132, none⟩]) [0] (sub_cons rfl sub_nil) (by decide) (pick_cons rfl pick_nil) ?_
 exact tx_ret1' Try.results134 rfl () (rv_tmp' rfl) (List.Sublist.refl _)

def gogeom_geom0_FlatCoords_v4 (k : Nat) (a0_0 : Int) (a0_1 : Int) (a0_2 : List Nat) (a0_3 : Int) (a0_4 : List Int) : Option (Int × Int × (List Nat) × Int × (List Int)) :=
 some (a0_0, a0_1, a0_2, a0_3, a0_4)

theorem gogeom_geom0_FlatCoords_v4_sim {k : Nat} {wa0 : Addr} (a0_0 : Int) (a0_1 : Int) (a0_2 : List Nat) (a0_3 : Int) (a0_4 : List Int) {out : Int × Int × (List Nat) × Int × (List Int)} (hp : gogeom_geom0_FlatCoords_v4 k a0_0 a0_1 a0_2 a0_3 a0_4 = some out) : Sx.Fn Try.prog 133 [(Vp wa0)] [⟨.pointer (some wa0), [(Vi a0_0), (Vi a0_1), (Sl Kf a0_2), (Vi a0_3), (Sl (Ki .i64) a0_4)], 132, none⟩] (fun w : Unit => (Sl Kf out.2.2.1)) (fun w => [⟨.pointer (some wa0), [(Vi out.1), (Vi out.2.1), (Sl Kf out.2.2.1), (Vi out.2.2.2.1), (Sl (Ki .i64) out.2.2.2.2)], 132, none⟩]) := by
 unfold gogeom_geom0_FlatCoords_v4 at hp
 refine fn_of Try.func133 rfl Try.ntmps133 rfl fun E hM => ?_
 refine cr fun K1 hK1 => ?_
 refine s0 (rd_assign' rfl) ?_
 refine nk hK1 ?_
 refine cr fun K2 hK2 => ?_
 refine s0 (rd_move' rfl) ?_
 refine s0 (rd_nilck' rfl) ?_
 refine s0 (rd_field' (off := 2) rfl Try.underlying124 rfl info22 rfl) ?_
 refine s0 (rd_load' (i := 0) (o := 2) rfl ⟨rfl, rfl, rfl, rfl⟩ rfl flat22) ?_
 refine s0 (rd_assign' rfl) ?_
 refine nk hK2 ?_
 refine cx_retc' ?_
 replace hp := Option.some.inj hp
 subst hp
 refine tx_pick' (L' := [(2, (Sl Kf a0_2))]) (H' := [⟨.pointer (some wa0), [(Vi a0_0), (Vi a0_1), (Sl Kf a0_2), (Vi a0_3), (Sl (Ki .i64) a0_4)], 132, none⟩]) [0] (sub_cons rfl sub_nil) (by decide) (pick_cons rfl pick_nil) ?_
 exact tx_ret1' Try.results133 rfl () (rv_tmp' rfl) (List.Sublist.refl _)

def gogeom_geom0_Stride_v4 (k : Nat) (a0_0 : Int) (a0_1 : Int) (a0_2 : List Nat) (a0_3 : Int) (a0_4 : List Int) : Option (Int × Int × (List Nat) × Int × (List Int)) :=
 some (a0_0, a0_1, a0_2, a0_3, a0_4)

theorem gogeom_geom0_Stride_v4_sim {k : Nat} {wa0 : Addr} (a0_0 : Int) (a0_1 : Int) (a0_2 : List Nat) (a0_3 : Int) (a0_4 : List Int) {out : Int × Int × (List Nat) × Int × (List Int)} (hp : gogeom_geom0_Stride_v4 k a0_0 a0_1 a0_2 a0_3 a0_4 = some out) : Sx.Fn Try.prog 137 [(Vp wa0)] [⟨.pointer (some wa0), [(Vi a0_0), (Vi a0_1), (Sl Kf a0_2), (Vi a0_3), (Sl (Ki .i64) a0_4)], 132, none⟩] (fun w : Unit => (Vi out.2.1)) (fun w => [⟨.pointer (some wa0), [(Vi out.1), (Vi out.2.1), (Sl Kf out.2.2.1), (Vi out.2.2.2.1), (Sl (Ki .i64) out.2.2.2.2)], 132, none⟩]) := by
 unfold gogeom_geom0_Stride_v4 at hp
 refine fn_of Try.func137 rfl Try.ntmps137 rfl fun E hM => ?_
 refine cr fun K1 hK1 => ?_
 refine s0 (rd_assign' rfl) ?_
 refine nk hK1 ?_
 refine cr fun K2 hK2 => ?_
 refine s0 (rd_move' rfl) ?_
 refine s0 (rd_nilck' rfl) ?_
 refine s0 (rd_field' (off := 1) rfl Try.underlying124 rfl info3 rfl) ?_
 refine s0 (rd_load' (i := 0) (o := 1) rfl ⟨rfl, rfl, rfl, rfl⟩ rfl flat3) ?_
 refine s0 (rd_assign' rfl) ?_
 refine nk hK2 ?_
 refine cx_retc' ?_
 replace hp := Option.some.inj hp
 subst hp
 refine tx_pick' (L' := [(2, (Vi a0_1))]) (H' := [⟨.pointer (some wa0), [(Vi a0_0), (Vi a0_1), (Sl Kf a0_2), (Vi a0_3), (Sl (Ki .i64) a0_4)], 132, none⟩]) [0] (sub_cons rfl sub_nil) (by decide) (pick_cons rfl pick_nil) ?_
 exact tx_ret1' Try.results137 rfl () (rv_tmp' rfl) (List.Sublist.refl _)

def gogeom_Bounds_Extend_v4_j1 (k : Nat) (r8 : Int × (List Nat) × (List Nat)) (x1 : Int) (x2 : Int) (x3 : List Nat) (x4 : Int) (x5 : List Int) (x6 : Bool) : Option (Int × (List Nat) × (List Nat) × Int × Int × (List Nat) × Int × (List Int)) :=
 br x6
  ((gogeom_geom0_FlatCoords_v4 k x1 x2 x3 x4 x5) >>= fun r21 =>
  (gogeom_geom0_FlatCoords_v4 k r21.1 r21.2.1 r21.2.2.1 r21.2.2.2.1 r21.2.2.2.2) >>= fun r23 =>
  (gogeom_Bounds_extendXYZMFlatCoordsWithXYM k r8.1 r8.2.1 r8.2.2 r21.2.2.1 0 (r23.2.2.1.length : Int)) >>= fun r25 =>
  some (r25.1, r25.2.1, r25.2.2, r23.1, r23.2.1, r23.2.2.1, r23.2.2.2.1, r23.2.2.2.2))
  ((gogeom_geom0_FlatCoords_v4 k x1 x2 x3 x4 x5) >>= fun r28 =>
  (gogeom_geom0_FlatCoords_v4 k r28.1 r28.2.1 r28.2.2.1 r28.2.2.2.1 r28.2.2.2.2) >>= fun r30 =>
  (gogeom_geom0_Stride_v4 k r30.1 r30.2.1 r30.2.2.1 r30.2.2.2.1 r30.2.2.2.2) >>= fun r33 =>
  (gogeom_Bounds_extendFlatCoords k r8.1 r8.2.1 r8.2.2 r28.2.2.1 0 (r30.2.2.1.length : Int) r33.2.1) >>= fun r34 =>
  some (r34.1, r34.2.1, r34.2.2, r33.1, r33.2.1, r33.2.2.1, r33.2.2.2.1, r33.2.2.2.2))
def gogeom_Bounds_Extend_v4 (k : Nat) (a0_0 : Int) (a0_1 : List Nat) (a0_2 : List Nat) (a1_0 : Int) (a1_1 : Int) (a1_2 : List Nat) (a1_3 : Int) (a1_4 : List Int) : Option (Int × (List Nat) × (List Nat) × Int × Int × (List Nat) × Int × (List Int)) :=
 (gogeom_geom0_Layout_v4 k a1_0 a1_1 a1_2 a1_3 a1_4) >>= fun r7 =>
 (gogeom_Bounds_extendLayout k a0_0 a0_1 a0_2 r7.1) >>= fun r8 =>
 br (decide (r8.1 = 4))
  ((gogeom_geom0_Layout_v4 k r7.1 r7.2.1 r7.2.2.1 r7.2.2.2.1 r7.2.2.2.2) >>= fun r16 =>
  gogeom_Bounds_Extend_v4_j1 k r8 r16.1 r16.2.1 r16.2.2.1 r16.2.2.2.1 r16.2.2.2.2 (decide (r16.1 = 3)))
  (gogeom_Bounds_Extend_v4_j1 k r8 r7.1 r7.2.1 r7.2.2.1 r7.2.2.2.1 r7.2.2.2.2 false)

theorem gogeom_Bounds_Extend_v4_sim {k : Nat} {wa0 : Addr} {wa0_1 : Gs} {wa0_2 : Gs} {wa1 : Addr} (a0_0 : Int) (a0_1 : List Nat) (a0_2 : List Nat) (a1_0 : Int) (a1_1 : Int) (a1_2 : List Nat) (a1_3 : Int) (a1_4 : List Int) {out : Int × (List Nat) × (List Nat) × Int × Int × (List Nat) × Int × (List Int)} (hp : gogeom_Bounds_Extend_v4 k a0_0 a0_1 a0_2 a1_0 a1_1 a1_2 a1_3 a1_4 = some out) : Sx.Fn Try.prog 55 [(Vp wa0), (If 67 (Vp wa1))] [⟨.pointer (some wa0), [(Vi a0_0), (Vl (Vs wa0_1)), (Vl (Vs wa0_2))], 150, none⟩, (Rw Kf 32 (Vs wa0_1) a0_1), (Rw Kf 32 (Vs wa0_2) a0_2), ⟨.pointer (some wa1), [(Vi a1_0), (Vi a1_1), (Sl Kf a1_2), (Vi a1_3), (Sl (Ki .i64) a1_4)], 132, none⟩] (fun w : Gs × Gs => (Vp wa0)) (fun w => [⟨.pointer (some wa0), [(Vi out.1), (Vl (Vs w.1)), (Vl (Vs w.2))], 150, none⟩, (Rw Kf 32 (Vs w.1) out.2.1), (Rw Kf 32 (Vs w.2) out.2.2.1), ⟨.pointer (some wa1), [(Vi out.2.2.2.1), (Vi out.2.2.2.2.1), (Sl Kf out.2.2.2.2.2.1), (Vi out.2.2.2.2.2.2.1), (Sl (Ki .i64) out.2.2.2.2.2.2.2)], 132, none⟩]) := by
 unfold gogeom_Bounds_Extend_v4 at hp
 refine fn_of Try.func55 rfl Try.ntmps55 rfl fun E hM => ?_
 refine cr fun K1 hK1 => ?_
 refine s0 (rd_assign' rfl) ?_
 refine nk hK1 ?_
 refine cr fun K2 hK2 => ?_
 refine s0 (rd_move' rfl) ?_
 refine s0 (rd_move' rfl) ?_
 obtain ⟨r7, hr7, hp⟩ := bind_some hp
 refine sx_ox' (ox_callg' (ent_inv' rfl rfl (inv_ptr0 (inv67_Layout _))) (gogeom_geom0_Layout_v4_sim _ _ _ _ _ hr7 : Sx.Fn Try.prog 134 [(Vp wa1)] [⟨.pointer (some wa1), [(Vi a1_0), (Vi a1_1), (Sl Kf a1_2), (Vi a1_3), (Sl (Ki .i64) a1_4)], 132, none⟩] (fun x : Unit => (Vi r7.1)) (fun x => [⟨.pointer (some wa1), [(Vi r7.1), (Vi r7.2.1), (Sl Kf r7.2.2.1), (Vi r7.2.2.2.1), (Sl (Ki .i64) r7.2.2.2.2)], 132, none⟩])) [3] [0, 1, 2] (by decide) (pick_cons rfl pick_nil) (pick_cons rfl (pick_cons rfl (pick_cons rfl pick_nil))) (Hn := fun x : Unit => [⟨.pointer (some wa1), [(Vi r7.1), (Vi r7.2.1), (Sl Kf r7.2.2.1), (Vi r7.2.2.2.1), (Sl (Ki .i64) r7.2.2.2.2)], 132, none⟩, ⟨.pointer (some wa0), [(Vi a0_0), (Vl (Vs wa0_1)), (Vl (Vs wa0_2))], 150, none⟩, (Rw Kf 32 (Vs wa0_1) a0_1), (Rw Kf 32 (Vs wa0_2) a0_2)]) (fun _ => rfl) rfl rfl) (wt_none' rfl) fun ⟨⟩ => ?_
 obtain ⟨r8, hr8, hp⟩ := bind_some hp
 refine sx_ox' (ox_callg' (ent_fn' Try.func86 isn86 rfl rfl) (gogeom_Bounds_extendLayout_sim _ _ _ _ hr8 : Sx.Fn Try.prog 86 [(Vp wa0), (Vi r7.1)] [⟨.pointer (some wa0), [(Vi a0_0), (Vl (Vs wa0_1)), (Vl (Vs wa0_2))], 150, none⟩, (Rw Kf 32 (Vs wa0_1) a0_1), (Rw Kf 32 (Vs wa0_2) a0_2)] (fun x : Gs × Gs => (Vl (.tuple #[]))) (fun x => [⟨.pointer (some wa0), [(Vi r8.1), (Vl (Vs x.1)), (Vl (Vs x.2))], 150, none⟩, (Rw Kf 32 (Vs x.1) r8.2.1), (Rw Kf 32 (Vs x.2) r8.2.2)])) [1, 2, 3] [0] (by decide) (pick_cons rfl (pick_cons rfl (pick_cons rfl pick_nil))) (pick_cons rfl pick_nil) (Hn := fun x : Gs × Gs => [⟨.pointer (some wa0), [(Vi r8.1), (Vl (Vs x.1)), (Vl (Vs x.2))], 150, none⟩, (Rw Kf 32 (Vs x.1) r8.2.1), (Rw Kf 32 (Vs x.2) r8.2.2), ⟨.pointer (some wa1), [(Vi r7.1), (Vi r7.2.1), (Sl Kf r7.2.2.1), (Vi r7.2.2.2.1), (Sl (Ki .i64) r7.2.2.2.2)], 132, none⟩]) (fun _ => rfl) rfl rfl) (wt_none' rfl) fun ⟨g8, gz1⟩ => ?_
 refine nk hK2 ?_
 refine cx_seq' fun K3 hK3 => ?_
 refine cr fun K4 hK4 => ?_
 refine s0 (rd_move' rfl) ?_
 refine s0 (rd_nilck' rfl) ?_
 refine s0 (rd_field0' rfl Try.underlying150 rfl info61 rfl) ?_
 refine s0 (rd_load' (i := 0) (o := 0) rfl ⟨rfl, rfl, rfl, rfl⟩ rfl flat61) ?_
 refine s0 (rd_bin' rfl rfl eg_int ru_eql) ?_
 refine s0 (rd_move' rfl) ?_
 refine sx_cutn' 4 (fun (v1 : Int × Int × (List Nat) × Int × (List Int) × Bool) => (⟨35, [], [(0, (Vp wa0)), (1, (If 67 (Vp wa1))), (18, (Vb v1.2.2.2.2.2))], [⟨.pointer (some wa0), [(Vi r8.1), (Vl (Vs g8)), (Vl (Vs gz1))], 150, none⟩, (Rw Kf 32 (Vs g8) r8.2.1), (Rw Kf 32 (Vs gz1) r8.2.2), ⟨.pointer (some wa1), [(Vi v1.1), (Vi v1.2.1), (Sl Kf v1.2.2.1), (Vi v1.2.2.2.1), (Sl (Ki .i64) v1.2.2.2.2.1)], 132, none⟩]⟩ : St)) (fun (v1 : Int × Int × (List Nat) × Int × (List Int) × Bool) => gogeom_Bounds_Extend_v4_j1 k r8 v1.1 v1.2.1 v1.2.2.1 v1.2.2.2.1 v1.2.2.2.2.1 v1.2.2.2.2.2 = some out) ?_ ?_
 ·rintro ⟨x1, x2, x3, x4, x5, x6⟩ hp
  replace hp : gogeom_Bounds_Extend_v4_j1 k r8 x1 x2 x3 x4 x5 x6 = some out := hp
  unfold gogeom_Bounds_Extend_v4_j1 at hp
  refine nk hK4 ?_
  refine cx_cond' rfl (fun h2 => ?_) (fun h2 => ?_)
  ·replace hp := (br_t h2).symm.trans hp
   refine cr fun K6 hK6 => ?_
   refine s0 (rd_move' rfl) ?_
   refine s0 (rd_move' rfl) ?_
   obtain ⟨r21, hr21, hp⟩ := bind_some hp
   refine sx_ox' (ox_callg' (ent_inv' rfl rfl (inv_ptr0 (inv67_FlatCoords _))) (gogeom_geom0_FlatCoords_v4_sim _ _ _ _ _ hr21 : Sx.Fn Try.prog 133 [(Vp wa1)] [⟨.pointer (some wa1), [(Vi x1), (Vi x2), (Sl Kf x3), (Vi x4), (Sl (Ki .i64) x5)], 132, none⟩] (fun x : Unit => (Sl Kf r21.2.2.1)) (fun x => [⟨.pointer (some wa1), [(Vi r21.1), (Vi r21.2.1), (Sl Kf r21.2.2.1), (Vi r21.2.2.2.1), (Sl (Ki .i64) r21.2.2.2.2)], 132, none⟩])) [3] [0, 1, 2] (by decide) (pick_cons rfl pick_nil) (pick_cons rfl (pick_cons rfl (pick_cons rfl pick_nil))) (Hn := fun x : Unit => [⟨.pointer (some wa1), [(Vi r21.1), (Vi r21.2.1), (Sl Kf r21.2.2.1), (Vi r21.2.2.2.1), (Sl (Ki .i64) r21.2.2.2.2)], 132, none⟩, ⟨.pointer (some wa0), [(Vi r8.1), (Vl (Vs g8)), (Vl (Vs gz1))], 150, none⟩, (Rw Kf 32 (Vs g8) r8.2.1), (Rw Kf 32 (Vs gz1) r8.2.2)]) (fun _ => rfl) rfl rfl) (wt_none' rfl) fun ⟨⟩ => ?_
   refine s0 (rd_move' rfl) ?_
   obtain ⟨r23, hr23, hp⟩ := bind_some hp
   refine sx_ox' (ox_callg' (ent_inv' rfl rfl (inv_ptr0 (inv67_FlatCoords _))) (gogeom_geom0_FlatCoords_v4_sim _ _ _ _ _ hr23 : Sx.Fn Try.prog 133 [(Vp wa1)] [⟨.pointer (some wa1), [(Vi r21.1), (Vi r21.2.1), (Sl Kf r21.2.2.1), (Vi r21.2.2.2.1), (Sl (Ki .i64) r21.2.2.2.2)], 132, none⟩] (fun x : Unit => (Sl Kf r23.2.2.1)) (fun x => [⟨.pointer (some wa1), [(Vi r23.1), (Vi r23.2.1), (Sl Kf r23.2.2.1), (Vi r23.2.2.2.1), (Sl (Ki .i64) r23.2.2.2.2)], 132, none⟩])) [0] [1, 2, 3] (by decide) (pick_cons rfl pick_nil) (pick_cons rfl (pick_cons rfl (pick_cons rfl pick_nil))) (Hn := fun x : Unit => [⟨.pointer (some wa1), [(Vi r23.1), (Vi r23.2.1), (Sl Kf r23.2.2.1), (Vi r23.2.2.2.1), (Sl (Ki .i64) r23.2.2.2.2)], 132, none⟩, ⟨.pointer (some wa0), [(Vi r8.1), (Vl (Vs g8)), (Vl (Vs gz1))], 150, none⟩, (Rw Kf 32 (Vs g8) r8.2.1), (Rw Kf 32 (Vs gz1) r8.2.2)]) (fun _ => rfl) rfl rfl) (wt_none' rfl) fun ⟨⟩ => ?_
   refine s0 (rd_len' rfl Try.underlying22) ?_
   obtain ⟨r25, hr25, hp⟩ := bind_some hp
   refine sx_ox' (ox_callg' (ent_fn' Try.func87 isn87 rfl rfl) (gogeom_Bounds_extendXYZMFlatCoordsWithXYM_sim _ _ _ _ _ _ hr25 : Sx.Fn Try.prog 87 [(Vp wa0), (Sl Kf r21.2.2.1), (Vi 0), (Vi (r23.2.2.1.length : Int))] [⟨.pointer (some wa0), [(Vi r8.1), (Vl (Vs g8)), (Vl (Vs gz1))], 150, none⟩, (Rw Kf 32 (Vs g8) r8.2.1), (Rw Kf 32 (Vs gz1) r8.2.2)] (fun x : Unit => (Vp wa0)) (fun x => [⟨.pointer (some wa0), [(Vi r25.1), (Vl (Vs g8)), (Vl (Vs gz1))], 150, none⟩, (Rw Kf 32 (Vs g8) r25.2.1), (Rw Kf 32 (Vs gz1) r25.2.2)])) [1, 2, 3] [0] (by decide) (pick_cons rfl (pick_cons rfl (pick_cons rfl pick_nil))) (pick_cons rfl pick_nil) (Hn := fun x : Unit => [⟨.pointer (some wa0), [(Vi r25.1), (Vl (Vs g8)), (Vl (Vs gz1))], 150, none⟩, (Rw Kf 32 (Vs g8) r25.2.1), (Rw Kf 32 (Vs gz1) r25.2.2), ⟨.pointer (some wa1), [(Vi r23.1), (Vi r23.2.1), (Sl Kf r23.2.2.1), (Vi r23.2.2.2.1), (Sl (Ki .i64) r23.2.2.2.2)], 132, none⟩]) (fun _ => rfl) rfl rfl) (wt_none' rfl) fun ⟨⟩ => ?_
   refine s0 (rd_assign' rfl) ?_
   refine nk hK6 ?_
   refine cx_retc' ?_
   replace hp := Option.some.inj hp
   subst hp
   refine tx_pick' (L' := [(4, (Vp wa0))]) (H' := [⟨.pointer (some wa0), [(Vi r25.1), (Vl (Vs g8)), (Vl (Vs gz1))], 150, none⟩, (Rw Kf 32 (Vs g8) r25.2.1), (Rw Kf 32 (Vs gz1) r25.2.2), ⟨.pointer (some wa1), [(Vi r23.1), (Vi r23.2.1), (Sl Kf r23.2.2.1), (Vi r23.2.2.2.1), (Sl (Ki .i64) r23.2.2.2.2)], 132, none⟩]) [0, 1, 2, 3] (sub_cons rfl sub_nil) (by decide) (pick_cons rfl (pick_cons rfl (pick_cons rfl (pick_cons rfl pick_nil)))) ?_
   exact tx_ret1' Try.results55 rfl (g8, gz1) (rv_tmp' rfl) (List.Sublist.refl _)
  replace hp := (br_f h2).symm.trans hp
  refine cx_skip' ?_
  show TX E K3 _
  refine tx_k' hK3 ?_
  refine cr fun K7 hK7 => ?_
  refine s0 (rd_move' rfl) ?_
  refine s0 (rd_move' rfl) ?_
  obtain ⟨r28, hr28, hp⟩ := bind_some hp
  refine sx_ox' (ox_callg' (ent_inv' rfl rfl (inv_ptr0 (inv67_FlatCoords _))) (gogeom_geom0_FlatCoords_v4_sim _ _ _ _ _ hr28 : Sx.Fn Try.prog 133 [(Vp wa1)] [⟨.pointer (some wa1), [(Vi x1), (Vi x2), (Sl Kf x3), (Vi x4), (Sl (Ki .i64) x5)], 132, none⟩] (fun x : Unit => (Sl Kf r28.2.2.1)) (fun x => [⟨.pointer (some wa1), [(Vi r28.1), (Vi r28.2.1), (Sl Kf r28.2.2.1), (Vi r28.2.2.2.1), (Sl (Ki .i64) r28.2.2.2.2)], 132, none⟩])) [3] [0, 1, 2] (by decide) (pick_cons rfl pick_nil) (pick_cons rfl (pick_cons rfl (pick_cons rfl pick_nil))) (Hn := fun x : Unit => [⟨.pointer (some wa1), [(Vi r28.1), (Vi r28.2.1), (Sl Kf r28.2.2.1), (Vi r28.2.2.2.1), (Sl (Ki .i64) r28.2.2.2.2)], 132, none⟩, ⟨.pointer (some wa0), [(Vi r8.1), (Vl (Vs g8)), (Vl (Vs gz1))], 150, none⟩, (Rw Kf 32 (Vs g8) r8.2.1), (Rw Kf 32 (Vs gz1) r8.2.2)]) (fun _ => rfl) rfl rfl) (wt_none' rfl) fun ⟨⟩ => ?_
  refine s0 (rd_move' rfl) ?_
  obtain ⟨r30, hr30, hp⟩ := bind_some hp
  refine sx_ox' (ox_callg' (ent_inv' rfl rfl (inv_ptr0 (inv67_FlatCoords _))) (gogeom_geom0_FlatCoords_v4_sim _ _ _ _ _ hr30 : Sx.Fn Try.prog 133 [(Vp wa1)] [⟨.pointer (some wa1), [(Vi r28.1), (Vi r28.2.1), (Sl Kf r28.2.2.1), (Vi r28.2.2.2.1), (Sl (Ki .i64) r28.2.2.2.2)], 132, none⟩] (fun x : Unit => (Sl Kf r30.2.2.1)) (fun x => [⟨.pointer (some wa1), [(Vi r30.1), (Vi r30.2.1), (Sl Kf r30.2.2.1), (Vi r30.2.2.2.1), (Sl (Ki .i64) r30.2.2.2.2)], 132, none⟩])) [0] [1, 2, 3] (by decide) (pick_cons rfl pick_nil) (pick_cons rfl (pick_cons rfl (pick_cons rfl pick_nil))) (Hn := fun x : Unit => [⟨.pointer (some wa1), [(Vi r30.1), (Vi r30.2.1), (Sl Kf r30.2.2.1), (Vi r30.2.2.2.1), (Sl (Ki .i64) r30.2.2.2.2)], 132, none⟩, ⟨.pointer (some wa0), [(Vi r8.1), (Vl (Vs g8)), (Vl (Vs gz1))], 150, none⟩, (Rw Kf 32 (Vs g8) r8.2.1), (Rw Kf 32 (Vs gz1) r8.2.2)]) (fun _ => rfl) rfl rfl) (wt_none' rfl) fun ⟨⟩ => ?_
  refine s0 (rd_len' rfl Try.underlying22) ?_
  refine s0 (rd_move' rfl) ?_
  obtain ⟨r33, hr33, hp⟩ := bind_some hp
  refine sx_ox' (ox_callg' (ent_inv' rfl rfl (inv_ptr0 (inv67_Stride _))) (gogeom_geom0_Stride_v4_sim _ _ _ _ _ hr33 : Sx.Fn Try.prog 137 [(Vp wa1)] [⟨.pointer (some wa1), [(Vi r30.1), (Vi r30.2.1), (Sl Kf r30.2.2.1), (Vi r30.2.2.2.1), (Sl (Ki .i64) r30.2.2.2.2)], 132, none⟩] (fun x : Unit => (Vi r33.2.1)) (fun x => [⟨.pointer (some wa1), [(Vi r33.1), (Vi r33.2.1), (Sl Kf r33.2.2.1), (Vi r33.2.2.2.1), (Sl (Ki .i64) r33.2.2.2.2)], 132, none⟩])) [0] [1, 2, 3] (by decide) (pick_cons rfl pick_nil) (pick_cons rfl (pick_cons rfl (pick_cons rfl pick_nil))) (Hn := fun x : Unit => [⟨.pointer (some wa1), [(Vi r33.1), (Vi r33.2.1), (Sl Kf r33.2.2.1), (Vi r33.2.2.2.1), (Sl (Ki .i64) r33.2.2.2.2)], 132, none⟩, ⟨.pointer (some wa0), [(Vi r8.1), (Vl (Vs g8)), (Vl (Vs gz1))], 150, none⟩, (Rw Kf 32 (Vs g8) r8.2.1), (Rw Kf 32 (Vs gz1) r8.2.2)]) (fun _ => rfl) rfl rfl) (wt_none' rfl) fun ⟨⟩ => ?_
  obtain ⟨r34, hr34, hp⟩ := bind_some hp
  refine sx_ox' (ox_callg' (ent_fn' Try.func88 isn88 rfl rfl) (gogeom_Bounds_extendFlatCoords_sim _ _ _ _ _ _ _ hr34 : Sx.Fn Try.prog 88 [(Vp wa0), (Sl Kf r28.2.2.1), (Vi 0), (Vi (r30.2.2.1.length : Int)), (Vi r33.2.1)] [⟨.pointer (some wa0), [(Vi r8.1), (Vl (Vs g8)), (Vl (Vs gz1))], 150, none⟩, (Rw Kf 32 (Vs g8) r8.2.1), (Rw Kf 32 (Vs gz1) r8.2.2)] (fun x : Gs × Gs => (Vp wa0)) (fun x => [⟨.pointer (some wa0), [(Vi r34.1), (Vl (Vs x.1)), (Vl (Vs x.2))], 150, none⟩, (Rw Kf 32 (Vs x.1) r34.2.1), (Rw Kf 32 (Vs x.2) r34.2.2)])) [1, 2, 3] [0] (by decide) (pick_cons rfl (pick_cons rfl (pick_cons rfl pick_nil))) (pick_cons rfl pick_nil) (Hn := fun x : Gs × Gs => [⟨.pointer (some wa0), [(Vi r34.1), (Vl (Vs x.1)), (Vl (Vs x.2))], 150, none⟩, (Rw Kf 32 (Vs x.1) r34.2.1), (Rw Kf 32 (Vs x.2) r34.2.2), ⟨.pointer (some wa1), [(Vi r33.1), (Vi r33.2.1), (Sl Kf r33.2.2.1), (Vi r33.2.2.2.1), (Sl (Ki .i64) r33.2.2.2.2)], 132, none⟩]) (fun _ => rfl) rfl rfl) (wt_none' rfl) fun ⟨g34, gz2⟩ => ?_
  refine s0 (rd_assign' rfl) ?_
  refine nk hK7 ?_
  refine cx_retc' ?_
  replace hp := Option.some.inj hp
  subst hp
  refine tx_pick' (L' := [(4, (Vp wa0))]) (H' := [⟨.pointer (some wa0), [(Vi r34.1), (Vl (Vs g34)), (Vl (Vs gz2))], 150, none⟩, (Rw Kf 32 (Vs g34) r34.2.1), (Rw Kf 32 (Vs gz2) r34.2.2), ⟨.pointer (some wa1), [(Vi r33.1), (Vi r33.2.1), (Sl Kf r33.2.2.1), (Vi r33.2.2.2.1), (Sl (Ki .i64) r33.2.2.2.2)], 132, none⟩]) [0, 1, 2, 3] (sub_cons rfl sub_nil) (by decide) (pick_cons rfl (pick_cons rfl (pick_cons rfl (pick_cons rfl pick_nil)))) ?_
  exact tx_ret1' Try.results55 rfl (g34, gz2) (rv_tmp' rfl) (List.Sublist.refl _)
 intro K5 hK5
 rcases br_cases hp with ⟨h1, hp⟩ | ⟨h1, hp⟩
 ·refine sx_rd' (rd_move' rfl) rfl rfl (wt_is' (wt_guard' rfl rfl rfl) (beq_tt h1)) ?_
  obtain ⟨r16, hr16, hp⟩ := bind_some hp
  refine sx_ox' (ox_callg' (ent_inv' rfl rfl (inv_ptr0 (inv67_Layout _))) (gogeom_geom0_Layout_v4_sim _ _ _ _ _ hr16 : Sx.Fn Try.prog 134 [(Vp wa1)] [⟨.pointer (some wa1), [(Vi r7.1), (Vi r7.2.1), (Sl Kf r7.2.2.1), (Vi r7.2.2.2.1), (Sl (Ki .i64) r7.2.2.2.2)], 132, none⟩] (fun x : Unit => (Vi r16.1)) (fun x => [⟨.pointer (some wa1), [(Vi r16.1), (Vi r16.2.1), (Sl Kf r16.2.2.1), (Vi r16.2.2.2.1), (Sl (Ki .i64) r16.2.2.2.2)], 132, none⟩])) [3] [0, 1, 2] (by decide) (pick_cons rfl pick_nil) (pick_cons rfl (pick_cons rfl (pick_cons rfl pick_nil))) (Hn := fun x : Unit => [⟨.pointer (some wa1), [(Vi r16.1), (Vi r16.2.1), (Sl Kf r16.2.2.1), (Vi r16.2.2.2.1), (Sl (Ki .i64) r16.2.2.2.2)], 132, none⟩, ⟨.pointer (some wa0), [(Vi r8.1), (Vl (Vs g8)), (Vl (Vs gz1))], 150, none⟩, (Rw Kf 32 (Vs g8) r8.2.1), (Rw Kf 32 (Vs gz1) r8.2.2)]) (fun _ => rfl) rfl rfl) (wt_is' (wt_guard' rfl rfl rfl) (beq_tt h1)) fun ⟨⟩ => ?_
  refine sx_rd' (rd_bin' rfl rfl eg_int ru_eql) rfl rfl (wt_is' (wt_guard' rfl rfl rfl) (beq_tt h1)) ?_
  refine s0 (rd_pick_true' rfl h1 rfl) ?_
  refine sx_nil' ?_
  show TX E K5 _
  exact tx_pick' [1, 2, 3, 0] (sub_cons rfl (sub_cons rfl (sub_cons rfl sub_nil))) (by decide) (pick_cons rfl (pick_cons rfl (pick_cons rfl (pick_cons rfl pick_nil)))) (hK5 (r16.1, r16.2.1, r16.2.2.1, r16.2.2.2.1, r16.2.2.2.2, (decide (r16.1 = 3))) hp)
 refine sx_skip' rfl rfl (wt_is' (wt_guard' rfl rfl rfl) (beq_ft h1)) ?_
 refine sx_skip' rfl rfl (wt_is' (wt_guard' rfl rfl rfl) (beq_ft h1)) ?_
 refine sx_skip' rfl rfl (wt_is' (wt_guard' rfl rfl rfl) (beq_ft h1)) ?_
 refine s0 (rd_pick_false' rfl h1 rfl) ?_
 refine sx_nil' ?_
 show TX E K5 _
 exact tx_pick' [0, 1, 2, 3] (sub_cons rfl (sub_cons rfl (sub_cons rfl sub_nil))) (by decide) (pick_cons rfl (pick_cons rfl (pick_cons rfl (pick_cons rfl pick_nil)))) (hK5 (r7.1, r7.2.1, r7.2.2.1, r7.2.2.2.1, r7.2.2.2.2, false) hp)

def gogeom_geom0_Layout_v5 (k : Nat) (a0_0 : Int) (a0_1 : Int) (a0_2 : List Nat) (a0_3 : Int) (a0_4 : List Int) : Option (Int × Int × (List Nat) × Int × (List Int)) :=
 some (a0_0, a0_1, a0_2, a0_3, a0_4)

theorem gogeom_geom0_Layout_v5_sim {k : Nat} {wa0 : Addr} (a0_0 : Int) (a0_1 : Int) (a0_2 : List Nat) (a0_3 : Int) (a0_4 : List Int) {out : Int × Int × (List Nat) × Int × (List Int)} (hp : gogeom_geom0_Layout_v5 k a0_0 a0_1 a0_2 a0_3 a0_4 = some out) : Sx.Fn Try.prog 134 [(Vp wa0)] [⟨.pointer (some wa0), [(Vi a0_0), (Vi a0_1), (Sl Kf a0_2), (Vi a0_3), (Sl (Ki .i64) a0_4)], 136, none⟩] (fun w : Unit => (Vi out.1)) (fun w => [⟨.pointer (some wa0), [(Vi out.1), (Vi out.2.1), (Sl Kf out.2.2.1), (Vi out.2.2.2.1), (Sl (Ki .i64) out.2.2.2.2)], 136, none⟩]) := by
 unfold gogeom_geom0_Layout_v5 at hp
 refine fn_of Try.func134 rfl Try.ntmps134 rfl fun E hM => ?_
 refine cr fun K1 hK1 => ?_
 refine s0 (rd_assign' rfl) ?_
 refine nk hK1 ?_
 refine cr fun K2 hK2 => ?_
 refine s0 (rd_move' rfl) ?_
 refine s0 (rd_nilck' rfl) ?_
 refine s0 (rd_field0' rfl Try.underlying124 rfl info61 rfl) ?_
 refine s0 (rd_load' (i := 0) (o := 0) rfl ⟨rfl, rfl, rfl, rfl⟩ rfl flat61) ?_
 refine s0 (rd_assign' rfl) ?_
 refine nk hK2 ?_
 refine cx_retc' ?_
 replace hp := Option.some.inj hp
 subst hp
 refine tx_pick' (L' := [(2, (Vi a0_0))]) (H' := [⟨.pointer (some wa0), [(Vi a0_0), (Vi a0_1), (Sl Kf a0_2), (Vi a0_3), (Sl (Ki .i64) a0_4)], 136, none⟩]) [0] (sub_cons rfl sub_nil) (by decide) (pick_cons rfl pick_nil) ?_
 exact tx_ret1' Try.results134 rfl () (rv_tmp' rfl) (List.Sublist.refl _)

def gogeom_geom0_FlatCoords_v5 (k : Nat) (a0_0 : Int) (a0_1 : Int) (a0_2 : List Nat) (a0_3 : Int) (a0_4 : List Int) : Option (Int × Int × (List Nat) × Int × (List Int)) :=
 some (a0_0, a0_1, a0_2, a0_3, a0_4)

theorem gogeom_geom0_FlatCoords_v5_sim {k : Nat} {wa0 : Addr} (a0_0 : Int) (a0_1 : Int) (a0_2 : List Nat) (a0_3 : Int) (a0_4 : List Int) {out : Int × Int × (List Nat) × Int × (List Int)} (hp : gogeom_geom0_FlatCoords_v5 k a0_0 a0_1 a0_2 a0_3 a0_4 = some out) : Sx.Fn Try.prog 133 [(Vp wa0)] [⟨.pointer (some wa0), [(Vi a0_0), (Vi a0_1), (Sl Kf a0_2), (Vi a0_3), (Sl (Ki .i64) a0_4)], 136, none⟩] (fun w : Unit => (Sl Kf out.2.2.1)) (fun w => [⟨.pointer (some wa0), [(Vi out.1), (Vi out.2.1), (Sl Kf out.2.2.1), (Vi out.2.2.2.1), (Sl (Ki .i64) out.2.2.2.2)], 136, none⟩]) := by
 unfold gogeom_geom0_FlatCoords_v5 at hp
 refine fn_of Try.func133 rfl Try.ntmps133 rfl fun E hM => ?_
 refine cr fun K1 hK1 => ?_
 refine s0 (rd_assign' rfl) ?_
 refine nk hK1 ?_
 refine cr fun K2 hK2 => ?_
 refine s0 (rd_move' rfl) ?_
 refine s0 (rd_nilck' rfl) ?_
 refine s0 (rd_field' (off := 2) rfl Try.underlying124 rfl info22 rfl) ?_
 refine s0 (rd_load' (i := 0) (o := 2) rfl ⟨rfl, rfl, rfl, rfl⟩ rfl flat22) ?_
 refine s0 (rd_assign' rfl) ?_
 refine nk hK2 ?_
 refine cx_retc' ?_
 replace hp := Option.some.inj hp
 subst hp
 refine tx_pick' (L' := [(2, (Sl Kf a0_2))]) (H' := [⟨.pointer (some wa0), [(Vi a0_0), (Vi a0_1), (Sl Kf a0_2), (Vi a0_3), (Sl (Ki .i64) a0_4)], 136, none⟩]) [0] (sub_cons rfl sub_nil) (by decide) (pick_cons rfl pick_nil) ?_
 exact tx_ret1' Try.results133 rfl () (rv_tmp' rfl) (List.Sublist.refl _)

def gogeom_geom0_Stride_v5 (k : Nat) (a0_0 : Int) (a0_1 : Int) (a0_2 : List Nat) (a0_3 : Int) (a0_4 : List Int) : Option (Int × Int × (List Nat) × Int × (List Int)) :=
 some (a0_0, a0_1, a0_2, a0_3, a0_4)

theorem gogeom_geom0_Stride_v5_sim {k : Nat} {wa0 : Addr} (a0_0 : Int) (a0_1 : Int) (a0_2 : List Nat) (a0_3 : Int) (a0_4 : List Int) {out : Int × Int × (List Nat) × Int × (List Int)} (hp : gogeom_geom0_Stride_v5 k a0_0 a0_1 a0_2 a0_3 a0_4 = some out) : Sx.Fn Try.prog 137 [(Vp wa0)] [⟨.pointer (some wa0), [(Vi a0_0), (Vi a0_1), (Sl Kf a0_2), (Vi a0_3), (Sl (Ki .i64) a0_4)], 136, none⟩] (fun w : Unit => (Vi out.2.1)) (fun w => [⟨.pointer (some wa0), [(Vi out.1), (Vi out.2.1), (Sl Kf out.2.2.1), (Vi out.2.2.2.1), (Sl (Ki .i64) out.2.2.2.2)], 136, none⟩]) := by
 unfold gogeom_geom0_Stride_v5 at hp
 refine fn_of Try.func137 rfl Try.ntmps137 rfl fun E hM => ?_
 refine cr fun K1 hK1 => ?_
 refine s0 (rd_assign' rfl) ?_
 refine nk hK1 ?_
 refine cr fun K2 hK2 => ?_
 refine s0 (rd_move' rfl) ?_
 refine s0 (rd_nilck' rfl) ?_
 refine s0 (rd_field' (off := 1) rfl Try.underlying124 rfl info3 rfl) ?_
 refine s0 (rd_load' (i := 0) (o := 1) rfl ⟨rfl, rfl, rfl, rfl⟩ rfl flat3) ?_
 refine s0 (rd_assign' rfl) ?_
 refine nk hK2 ?_
 refine cx_retc' ?_
 replace hp := Option.some.inj hp
 subst hp
 refine tx_pick' (L' := [(2, (Vi a0_1))]) (H' := [⟨.pointer (some wa0), [(Vi a0_0), (Vi a0_1), (Sl Kf a0_2), (Vi a0_3), (Sl (Ki .i64) a0_4)], 136, none⟩]) [0] (sub_cons rfl sub_nil) (by decide) (pick_cons rfl pick_nil) ?_
 exact tx_ret1' Try.results137 rfl () (rv_tmp' rfl) (List.Sublist.refl _)

def gogeom_Bounds_Extend_v5_j1 (k : Nat) (r8 : Int × (List Nat) × (List Nat)) (x1 : Int) (x2 : Int) (x3 : List Nat) (x4 : Int) (x5 : List Int) (x6 : Bool) : Option (Int × (List Nat) × (List Nat) × Int × Int × (List Nat) × Int × (List Int)) :=
 br x6
  ((gogeom_geom0_FlatCoords_v5 k x1 x2 x3 x4 x5) >>= fun r21 =>
  (gogeom_geom0_FlatCoords_v5 k r21.1 r21.2.1 r21.2.2.1 r21.2.2.2.1 r21.2.2.2.2) >>= fun r23 =>
  (gogeom_Bounds_extendXYZMFlatCoordsWithXYM k r8.1 r8.2.1 r8.2.2 r21.2.2.1 0 (r23.2.2.1.length : Int)) >>= fun r25 =>
  some (r25.1, r25.2.1, r25.2.2, r23.1, r23.2.1, r23.2.2.1, r23.2.2.2.1, r23.2.2.2.2))
  ((gogeom_geom0_FlatCoords_v5 k x1 x2 x3 x4 x5) >>= fun r28 =>
  (gogeom_geom0_FlatCoords_v5 k r28.1 r28.2.1 r28.2.2.1 r28.2.2.2.1 r28.2.2.2.2) >>= fun r30 =>
  (gogeom_geom0_Stride_v5 k r30.1 r30.2.1 r30.2.2.1 r30.2.2.2.1 r30.2.2.2.2) >>= fun r33 =>
  (gogeom_Bounds_extendFlatCoords k r8.1 r8.2.1 r8.2.2 r28.2.2.1 0 (r30.2.2.1.length : Int) r33.2.1) >>= fun r34 =>
  some (r34.1, r34.2.1, r34.2.2, r33.1, r33.2.1, r33.2.2.1, r33.2.2.2.1, r33.2.2.2.2))
def gogeom_Bounds_Extend_v5 (k : Nat) (a0_0 : Int) (a0_1 : List Nat) (a0_2 : List Nat) (a1_0 : Int) (a1_1 : Int) (a1_2 : List Nat) (a1_3 : Int) (a1_4 : List Int) : Option (Int × (List Nat) × (List Nat) × Int × Int × (List Nat) × Int × (List Int)) :=
 (gogeom_geom0_Layout_v5 k a1_0 a1_1 a1_2 a1_3 a1_4) >>= fun r7 =>
 (gogeom_Bounds_extendLayout k a0_0 a0_1 a0_2 r7.1) >>= fun r8 =>
 br (decide (r8.1 = 4))
  ((gogeom_geom0_Layout_v5 k r7.1 r7.2.1 r7.2.2.1 r7.2.2.2.1 r7.2.2.2.2) >>= fun r16 =>
  gogeom_Bounds_Extend_v5_j1 k r8 r16.1 r16.2.1 r16.2.2.1 r16.2.2.2.1 r16.2.2.2.2 (decide (r16.1 = 3)))
  (gogeom_Bounds_Extend_v5_j1 k r8 r7.1 r7.2.1 r7.2.2.1 r7.2.2.2.1 r7.2.2.2.2 false)

theorem gogeom_Bounds_Extend_v5_sim {k : Nat} {wa0 : Addr} {wa0_1 : Gs} {wa0_2 : Gs} {wa1 : Addr} (a0_0 : Int) (a0_1 : List Nat) (a0_2 : List Nat) (a1_0 : Int) (a1_1 : Int) (a1_2 : List Nat) (a1_3 : Int) (a1_4 : List Int) {out : Int × (List Nat) × (List Nat) × Int × Int × (List Nat) × Int × (List Int)} (hp : gogeom_Bounds_Extend_v5 k a0_0 a0_1 a0_2 a1_0 a1_1 a1_2 a1_3 a1_4 = some out) : Sx.Fn Try.prog 55 [(Vp wa0), (If 70 (Vp wa1))] [⟨.pointer (some wa0), [(Vi a0_0), (Vl (Vs wa0_1)), (Vl (Vs wa0_2))], 150, none⟩, (Rw Kf 32 (Vs wa0_1) a0_1), (Rw Kf 32 (Vs wa0_2) a0_2), ⟨.pointer (some wa1), [(Vi a1_0), (Vi a1_1), (Sl Kf a1_2), (Vi a1_3), (Sl (Ki .i64) a1_4)], 136, none⟩] (fun w : Gs × Gs => (Vp wa0)) (fun w => [⟨.pointer (some wa0), [(Vi out.1), (Vl (Vs w.1)), (Vl (Vs w.2))], 150, none⟩, (Rw Kf 32 (Vs w.1) out.2.1), (Rw Kf 32 (Vs w.2) out.2.2.1), ⟨.pointer (some wa1), [(Vi out.2.2.2.1), (Vi out.2.2.2.2.1), (Sl Kf out.2.2.2.2.2.1), (Vi out.2.2.2.2.2.2.1), (Sl (Ki .i64) out.2.2.2.2.2.2.2)], 136, none⟩]) := by
 unfold gogeom_Bounds_Extend_v5 at hp
 refine fn_of Try.func55 rfl Try.ntmps55 rfl fun E hM => ?_
 refine cr fun K1 hK1 => ?_
 refine s0 (rd_assign' rfl) ?_
 refine nk hK1 ?_
 refine cr fun K2 hK2 => ?_
 refine s0 (rd_move' rfl) ?_
 refine s0 (rd_move' rfl) ?_
 obtain ⟨r7, hr7, hp⟩ := bind_some hp
 refine sx_ox' (ox_callg' (ent_inv' rfl rfl (inv_ptr0 (inv70_Layout _))) (gogeom_geom0_Layout_v5_sim _ _ _ _ _ hr7 : Sx.Fn Try.prog 134 [(Vp wa1)] [⟨.pointer (some wa1), [(Vi a1_0), (Vi a1_1), (Sl Kf a1_2), (Vi a1_3), (Sl (Ki .i64) a1_4)], 136, none⟩] (fun x : Unit => (Vi r7.1)) (fun x => [⟨.pointer (some wa1), [(Vi r7.1), (Vi r7.2.1), (Sl Kf r7.2.2.1), (Vi r7.2.2.2.1), (Sl (Ki .i64) r7.2.2.2.2)], 136, none⟩])) [3] [0, 1, 2] (by decide) (pick_cons rfl pick_nil) (pick_cons rfl (pick_cons rfl (pick_cons rfl pick_nil))) (Hn := fun x : Unit => [⟨.pointer (some wa1), [(Vi r7.1), (Vi r7.2.1), (Sl Kf r7.2.2.1), (Vi r7.2.2.2.1), (Sl (Ki .i64) r7.2.2.2.2)], 136, none⟩, ⟨.pointer (some wa0), [(Vi a0_0), (Vl (Vs wa0_1)), (Vl (Vs wa0_2))], 150, none⟩, (Rw Kf 32 (Vs wa0_1) a0_1), (Rw Kf 32 (Vs wa0_2) a0_2)]) (fun _ => rfl) rfl rfl) (wt_none' rfl) fun ⟨⟩ => ?_
 obtain ⟨r8, hr8, hp⟩ := bind_some hp
 refine sx_ox' (ox_callg' (ent_fn' Try.func86 isn86 rfl rfl) (gogeom_Bounds_extendLayout_sim _ _ _ _ hr8 : Sx.Fn Try.prog 86 [(Vp wa0), (Vi r7.1)] [⟨.pointer (some wa0), [(Vi a0_0), (Vl (Vs wa0_1)), (Vl (Vs wa0_2))], 150, none⟩, (Rw Kf 32 (Vs wa0_1) a0_1), (Rw Kf 32 (Vs wa0_2) a0_2)] (fun x : Gs × Gs => (Vl (.tuple #[]))) (fun x => [⟨.pointer (some wa0), [(Vi r8.1), (Vl (Vs x.1)), (Vl (Vs x.2))], 150, none⟩, (Rw Kf 32 (Vs x.1) r8.2.1), (Rw Kf 32 (Vs x.2) r8.2.2)])) [1, 2, 3] [0] (by decide) (pick_cons rfl (pick_cons rfl (pick_cons rfl pick_nil))) (pick_cons rfl pick_nil) (Hn := fun x : Gs × Gs => [⟨.pointer (some wa0), [(Vi r8.1), (Vl (Vs x.1)), (Vl (Vs x.2))], 150, none⟩, (Rw Kf 32 (Vs x.1) r8.2.1), (Rw Kf 32 (Vs x.2) r8.2.2), ⟨.pointer (some wa1), [(Vi r7.1), (Vi r7.2.1), (Sl Kf r7.2.2.1), (Vi r7.2.2.2.1), (Sl (Ki .i64) r7.2.2.2.2)], 136, none⟩]) (fun _ => rfl) rfl rfl) (wt_none' rfl) fun ⟨g8, gz1⟩ => ?_
 refine nk hK2 ?_
 refine cx_seq' fun K3 hK3 => ?_
 refine cr fun K4 hK4 => ?_
 refine s0 (rd_move' rfl) ?_
 refine s0 (rd_nilck' rfl) ?_
 refine s0 (rd_field0' rfl Try.underlying150 rfl info61 rfl) ?_
 refine s0 (rd_load' (i := 0) (o := 0) rfl ⟨rfl, rfl, rfl, rfl⟩ rfl flat61) ?_
 refine s0 (rd_bin' rfl rfl eg_int ru_eql) ?_
 refine s0 (rd_move' rfl) ?_
 refine sx_cutn' 4 (fun (v1 : Int × Int × (List Nat) × Int × (List Int) × Bool) => (⟨35, [], [(0, (Vp wa0)), (1, (If 70 (Vp wa1))), (18, (Vb v1.2.2.2.2.2))], [⟨.pointer (some wa0), [(Vi r8.1), (Vl (Vs g8)), (Vl (Vs gz1))], 150, none⟩, (Rw Kf 32 (Vs g8) r8.2.1), (Rw Kf 32 (Vs gz1) r8.2.2), ⟨.pointer (some wa1), [(Vi v1.1), (Vi v1.2.1), (Sl Kf v1.2.2.1), (Vi v1.2.2.2.1), (Sl (Ki .i64) v1.2.2.2.2.1)], 136, none⟩]⟩ : St)) (fun (v1 : Int × Int × (List Nat) × Int × (List Int) × Bool) => gogeom_Bounds_Extend_v5_j1 k r8 v1.1 v1.2.1 v1.2.2.1 v1.2.2.2.1 v1.2.2.2.2.1 v1.2.2.2.2.2 = some out) ?_ ?_
 ·rintro ⟨x1, x2, x3, x4, x5, x6⟩ hp
  replace hp : gogeom_Bounds_Extend_v5_j1 k r8 x1 x2 x3 x4 x5 x6 = some out := hp
  unfold gogeom_Bounds_Extend_v5_j1 at hp
  refine nk hK4 ?_
  refine cx_cond' rfl (fun h2 => ?_) (fun h2 => ?_)
  ·replace hp := (br_t h2).symm.trans hp
   refine cr fun K6 hK6 => ?_
   refine s0 (rd_move' rfl) ?_
   refine s0 (rd_move' rfl) ?_
   obtain ⟨r21, hr21, hp⟩ := bind_some hp
   refine sx_ox' (ox_callg' (ent_inv' rfl rfl (inv_ptr0 (inv70_FlatCoords _))) (gogeom_geom0_FlatCoords_v5_sim _ _ _ _ _ hr21 : Sx.Fn Try.prog 133 [(Vp wa1)] [⟨.pointer (some wa1), [(Vi x1), (Vi x2), (Sl Kf x3), (Vi x4), (Sl (Ki .i64) x5)], 136, none⟩] (fun x : Unit => (Sl Kf r21.2.2.1)) (fun x => [⟨.pointer (some wa1), [(Vi r21.1), (Vi r21.2.1), (Sl Kf r21.2.2.1), (Vi r21.2.2.2.1), (Sl (Ki .i64) r21.2.2.2.2)], 136, none⟩])) [3] [0, 1, 2] (by decide) (pick_cons rfl pick_nil) (pick_cons rfl (pick_cons rfl (pick_cons rfl pick_nil))) (Hn := fun x : Unit => [⟨.pointer (some wa1), [(Vi r21.1), (Vi r21.2.1), (Sl Kf r21.2.2.1), (Vi r21.2.2.2.1), (Sl (Ki .i64) r21.2.2.2.2)], 136, none⟩, ⟨.pointer (some wa0), [(Vi r8.1), (Vl (Vs g8)), (Vl (Vs gz1))], 150, none⟩, (Rw Kf 32 (Vs g8) r8.2.1), (Rw Kf 32 (Vs gz1) r8.2.2)]) (fun _ => rfl) rfl rfl) (wt_none' rfl) fun ⟨⟩ => ?_
   refine s0 (rd_move' rfl) ?_
   obtain ⟨r23, hr23, hp⟩ := bind_some hp
   refine sx_ox' (ox_callg' (ent_inv' rfl rfl (inv_ptr0 (inv70_FlatCoords _))) (gogeom_geom0_FlatCoords_v5_sim _ _ _ _ _ hr23 : Sx.Fn Try.prog 133 [(Vp wa1)] [⟨.pointer (some wa1), [(Vi r21.1), (Vi r21.2.1), (Sl Kf r21.2.2.1), (Vi r21.2.2.2.1), (Sl (Ki .i64) r21.2.2.2.2)], 136, none⟩] (fun x : Unit => (Sl Kf r23.2.2.1)) (fun x => [⟨.pointer (some wa1), [(Vi r23.1), (Vi r23.2.1), (Sl Kf r23.2.2.1), (Vi r23.2.2.2.1), (Sl (Ki .i64) r23.2.2.2.2)], 136, none⟩])) [0] [1, 2, 3] (by decide) (pick_cons rfl pick_nil) (pick_cons rfl (pick_cons rfl (pick_cons rfl pick_nil))) (Hn := fun x : Unit => [⟨.pointer (some wa1), [(Vi r23.1), (Vi r23.2.1), (Sl Kf r23.2.2.1), (Vi r23.2.2.2.1), (Sl (Ki .i64) r23.2.2.2.2)], 136, none⟩, ⟨.pointer (some wa0), [(Vi r8.1), (Vl (Vs g8)), (Vl (Vs gz1))], 150, none⟩, (Rw Kf 32 (Vs g8) r8.2.1), (Rw Kf 32 (Vs gz1) r8.2.2)]) (fun _ => rfl) rfl rfl) (wt_none' rfl) fun ⟨⟩ => ?_
   refine s0 (rd_len' rfl Try.underlying22) ?_
   obtain ⟨r25, hr25, hp⟩ := bind_some hp
   refine sx_ox' (ox_callg' (ent_fn' Try.func87 isn87 rfl rfl) (gogeom_Bounds_extendXYZMFlatCoordsWithXYM_sim _ _ _ _ _ _ hr25 : Sx.Fn Try.prog 87 [(Vp wa0), (Sl Kf r21.2.2.1), (Vi 0), (Vi (r23.2.2.1.length : Int))] [⟨.pointer (some wa0), [(Vi r8.1), (Vl (Vs g8)), (Vl (Vs gz1))], 150, none⟩, (Rw Kf 32 (Vs g8) r8.2.1), (Rw Kf 32 (Vs gz1) r8.2.2)] (fun x : Unit => (Vp wa0)) (fun x => [⟨.pointer (some wa0), [(Vi r25.1), (Vl (Vs g8)), (Vl (Vs gz1))], 150, none⟩, (Rw Kf 32 (Vs g8) r25.2.1), (Rw Kf 32 (Vs gz1) r25.2.2)])) [1, 2, 3] [0] (by decide) (pick_cons rfl (pick_cons rfl (pick_cons rfl pick_nil))) (pick_cons rfl pick_nil) (Hn := fun x : Unit => [⟨.pointer (some wa0), [(Vi r25.1), (Vl (Vs g8)), (Vl (Vs gz1))], 150, none⟩, (Rw Kf 32 (Vs g8) r25.2.1), (Rw Kf 32 (Vs gz1) r25.2.2), ⟨.pointer (some wa1), [(Vi r23.1), (Vi r23.2.1), (Sl Kf r23.2.2.1), (Vi r23.2.2.2.1), (Sl (Ki .i64) r23.2.2.2.2)], 136, none⟩]) (fun _ => rfl) rfl rfl) (wt_none' rfl) fun ⟨⟩ => ?_
   refine s0 (rd_assign' rfl) ?_
   refine nk hK6 ?_
   refine cx_retc' ?_
   replace hp := Option.some.inj hp
   subst hp
   refine tx_pick' (L' := [(4, (Vp wa0))]) (H' := [⟨.pointer (some wa0), [(Vi r25.1), (Vl (Vs g8)), (Vl (Vs gz1))], 150, none⟩, (Rw Kf 32 (Vs g8) r25.2.1), (Rw Kf 32 (Vs gz1) r25.2.2), ⟨.pointer (some wa1), [(Vi r23.1), (Vi r23.2.1), (Sl Kf r23.2.2.1), (Vi r23.2.2.2.1), (Sl (Ki .i64) r23.2.2.2.2)], 136, none⟩]) [0, 1, 2, 3] (sub_cons rfl sub_nil) (by decide) (pick_cons rfl (pick_cons rfl (pick_cons rfl (pick_cons rfl pick_nil)))) ?_
   exact tx_ret1' Try.results55 rfl (g8, gz1) (rv_tmp' rfl) (List.Sublist.refl _)
  replace hp := (br_f h2).symm.trans hp
  refine cx_skip' ?_
  show TX E K3 _
  refine tx_k' hK3 ?_
  refine cr fun K7 hK7 => ?_
  refine s0 (rd_move' rfl) ?_
  refine s0 (rd_move' rfl) ?_
  obtain ⟨r28, hr28, hp⟩ := bind_some hp
  refine sx_ox' (ox_callg' (ent_inv' rfl rfl (inv_ptr0 (inv70_FlatCoords _))) (gogeom_geom0_FlatCoords_v5_sim _ _ _ _ _ hr28 : Sx.Fn Try.prog 133 [(Vp wa1)] [⟨.pointer (some wa1), [(Vi x1), (Vi x2), (Sl Kf x3), (Vi x4), (Sl (Ki .i64) x5)], 136, none⟩] (fun x : Unit => (Sl Kf r28.2.2.1)) (fun x => [⟨.pointer (some wa1), [(Vi r28.1), (Vi r28.2.1), (Sl Kf r28.2.2.1), (Vi r28.2.2.2.1), (Sl (Ki .i64) r28.2.2.2.2)], 136, none⟩])) [3] [0, 1, 2] (by decide) (pick_cons rfl pick_nil) (pick_cons rfl (pick_cons rfl (pick_cons rfl pick_nil))) (Hn := fun x : Unit => [⟨.pointer (some wa1), [(Vi r28.1), (Vi r28.2.1), (Sl Kf r28.2.2.1), (Vi r28.2.2.2.1), (Sl (Ki .i64) r28.2.2.2.2)], 136, none⟩, ⟨.pointer (some wa0), [(Vi r8.1), (Vl (Vs g8)), (Vl (Vs gz1))], 150, none⟩, (Rw Kf 32 (Vs g8) r8.2.1), (Rw Kf 32 (Vs gz1) r8.2.2)]) (fun _ => rfl) rfl rfl) (wt_none' rfl) fun ⟨⟩ => ?_
  refine s0 (rd_move' rfl) ?_
  obtain ⟨r30, hr30, hp⟩ := bind_some hp
  refine sx_ox' (ox_callg' (ent_inv' rfl rfl (inv_ptr0 (inv70_FlatCoords _))) (gogeom_geom0_FlatCoords_v5_sim _ _ _ _ _ hr30 : Sx.Fn Try.prog 133 [(Vp wa1)] [⟨.pointer (some wa1), [(Vi r28.1), (Vi r28.2.1), (Sl Kf r28.2.2.1), (Vi r28.2.2.2.1), (Sl (Ki .i64) r28.2.2.2.2)], 136, none⟩] (fun x : Unit => (Sl Kf r30.2.2.1)) (fun x => [⟨.pointer (some wa1), [(Vi r30.1), (Vi r30.2.1), (Sl Kf r30.2.2.1), (Vi r30.2.2.2.1), (Sl (Ki .i64) r30.2.2.2.2)], 136, none⟩])) [0] [1, 2, 3] (by decide) (pick_cons rfl pick_nil) (pick_cons rfl (pick_cons rfl (pick_cons rfl pick_nil))) (Hn := fun x : Unit => [⟨.pointer (some wa1), [(Vi r30.1), (Vi r30.2.1), (Sl Kf r30.2.2.1), (Vi r30.2.2.2.1), (Sl (Ki .i64) r30.2.2.2.2)], 136, none⟩, ⟨.pointer (some wa0), [(Vi r8.1), (Vl (Vs g8)), (Vl (Vs gz1))], 150, none⟩, (Rw Kf 32 (Vs g8) r8.2.1), (Rw Kf 32 (Vs gz1) r8.2.2)]) (fun _ => rfl) rfl rfl) (wt_none' rfl) fun ⟨⟩ => ?_
  refine s0 (rd_len' rfl Try.underlying22) ?_
  refine s0 (rd_move' rfl) ?_
  obtain ⟨r33, hr33, hp⟩ := bind_some hp
  refine sx_ox' (ox_callg' (ent_inv' rfl rfl (inv_ptr0 (inv70_Stride _))) (gogeom_geom0_Stride_v5_sim _ _ _ _ _ hr33 : Sx.Fn Try.prog 137 [(Vp wa1)] [⟨.pointer (some wa1), [(Vi r30.1), (Vi r30.2.1), (Sl Kf r30.2.2.1), (Vi r30.2.2.2.1), (Sl (Ki .i64) r30.2.2.2.2)], 136, none⟩] (fun x : Unit => (Vi r33.2.1)) (fun x => [⟨.pointer (some wa1), [(Vi r33.1), (Vi r33.2.1), (Sl Kf r33.2.2.1), (Vi r33.2.2.2.1), (Sl (Ki .i64) r33.2.2.2.2)], 136, none⟩])) [0] [1, 2, 3] (by decide) (pick_cons rfl pick_nil) (pick_cons rfl (pick_cons rfl (pick_cons rfl pick_nil))) (Hn := fun x : Unit => [⟨.pointer (some wa1), [(Vi r33.1), (Vi r33.2.1), (Sl Kf r33.2.2.1), (Vi r33.2.2.2.1), (Sl (Ki .i64) r33.2.2.2.2)], 136, none⟩, ⟨.pointer (some wa0), [(Vi r8.1), (Vl (Vs g8)), (Vl (Vs gz1))], 150, none⟩, (Rw Kf 32 (Vs g8) r8.2.1), (Rw Kf 32 (Vs gz1) r8.2.2)]) (fun _ => rfl) rfl rfl) (wt_none' rfl) fun ⟨⟩ => ?_
  obtain ⟨r34, hr34, hp⟩ := bind_some hp
  refine sx_ox' (ox_callg' (ent_fn' Try.func88 isn88 rfl rfl) (gogeom_Bounds_extendFlatCoords_sim _ _ _ _ _ _ _ hr34 : Sx.Fn Try.prog 88 [(Vp wa0), (Sl Kf r28.2.2.1), (Vi 0), (Vi (r30.2.2.1.length : Int)), (Vi r33.2.1)] [⟨.pointer (some wa0), [(Vi r8.1), (Vl (Vs g8)), (Vl (Vs gz1))], 150, none⟩, (Rw Kf 32 (Vs g8) r8.2.1), (Rw Kf 32 (Vs gz1) r8.2.2)] (fun x : Gs × Gs => (Vp wa0)) (fun x => [⟨.pointer (some wa0), [(Vi r34.1), (Vl (Vs x.1)), (Vl (Vs x.2))], 150, none⟩, (Rw Kf 32 (Vs x.1) r34.2.1), (Rw Kf 32 (Vs x.2) r34.2.2)])) [1, 2, 3] [0] (by decide) (pick_cons rfl (pick_cons rfl (pick_cons rfl pick_nil))) (pick_cons rfl pick_nil) (Hn := fun x : Gs × Gs => [⟨.pointer (some wa0), [(Vi r34.1), (Vl (Vs x.1)), (Vl (Vs x.2))], 150, none⟩, (Rw Kf 32 (Vs x.1) r34.2.1), (Rw Kf 32 (Vs x.2) r34.2.2), ⟨.pointer (some wa1), [(Vi r33.1), (Vi r33.2.1), (Sl Kf r33.2.2.1), (Vi r33.2.2.2.1), (Sl (Ki .i64) r33.2.2.2.2)], 136, none⟩]) (fun _ => rfl) rfl rfl) (wt_none' rfl) fun ⟨g34, gz2⟩ => ?_
  refine s0 (rd_assign' rfl) ?_
  refine nk hK7 ?_
  refine cx_retc' ?_
  replace hp := Option.some.inj hp
  subst hp
  refine tx_pick' (L' := [(4, (Vp wa0))]) (H' := [⟨.pointer (some wa0), [(Vi r34.1), (Vl (Vs g34)), (Vl (Vs gz2))], 150, none⟩, (Rw Kf 32 (Vs g34) r34.2.1), (Rw Kf 32 (Vs gz2) r34.2.2), ⟨.pointer (some wa1), [(Vi r33.1), (Vi r33.2.1), (Sl Kf r33.2.2.1), (Vi r33.2.2.2.1), (Sl (Ki .i64) r33.2.2.2.2)], 136, none⟩]) [0, 1, 2, 3] (sub_cons rfl sub_nil) (by decide) (pick_cons rfl (pick_cons rfl (pick_cons rfl (pick_cons rfl pick_nil)))) ?_
  exact tx_ret1' Try.results55 rfl (g34, gz2) (rv_tmp' rfl) (List.Sublist.refl _)
 intro K5 hK5
 rcases br_cases hp with ⟨h1, hp⟩ | ⟨h1, hp⟩
 ·refine sx_rd' (rd_move' rfl) rfl rfl (wt_is' (wt_guard' rfl rfl rfl) (beq_tt h1)) ?_
  obtain ⟨r16, hr16, hp⟩ := bind_some hp
  refine sx_ox' (ox_callg' (ent_inv' rfl rfl (inv_ptr0 (inv70_Layout _))) (gogeom_geom0_Layout_v5_sim _ _ _ _ _ hr16 : Sx.Fn Try.prog 134 [(Vp wa1)] [⟨.pointer (some wa1), [(Vi r7.1), (Vi r7.2.1), (Sl Kf r7.2.2.1), (Vi r7.2.2.2.1), (Sl (Ki .i64) r7.2.2.2.2)], 136, none⟩] (fun x : Unit => (Vi r16.1)) (fun x => [⟨.pointer (some wa1), [(Vi r16.1), (Vi r16.2.1), (Sl Kf r16.2.2.1), (Vi r16.2.2.2.1), (Sl (Ki .i64) r16.2.2.2.2)], 136, none⟩])) [3] [0, 1, 2] (by decide) (pick_cons rfl pick_nil) (pick_cons rfl (pick_cons rfl (pick_cons rfl pick_nil))) (Hn := fun x : Unit => [⟨.pointer (some wa1), [(Vi r16.1), (Vi r16.2.1), (Sl Kf r16.2.2.1), (Vi r16.2.2.2.1), (Sl (Ki .i64) r16.2.2.2.2)], 136, none⟩, ⟨.pointer (some wa0), [(Vi r8.1), (Vl (Vs g8)), (Vl (Vs gz1))], 150, none⟩, (Rw Kf 32 (Vs g8) r8.2.1), (Rw Kf 32 (Vs gz1) r8.2.2)]) (fun _ => rfl) rfl rfl) (wt_is' (wt_guard' rfl rfl rfl) (beq_tt h1)) fun ⟨⟩ => ?_
  refine sx_rd' (rd_bin' rfl rfl eg_int ru_eql) rfl rfl (wt_is' (wt_guard' rfl rfl rfl) (beq_tt h1)) ?_
  refine s0 (rd_pick_true' rfl h1 rfl) ?_
  refine sx_nil' ?_
  show TX E K5 _
  exact tx_pick' [1, 2, 3, 0] (sub_cons rfl (sub_cons rfl (sub_cons rfl sub_nil))) (by decide) (pick_cons rfl (pick_cons rfl (pick_cons rfl (pick_cons rfl pick_nil)))) (hK5 (r16.1, r16.2.1, r16.2.2.1, r16.2.2.2.1, r16.2.2.2.2, (decide (r16.1 = 3))) hp)
 refine sx_skip' rfl rfl (wt_is' (wt_guard' rfl rfl rfl) (beq_ft h1)) ?_
 refine sx_skip' rfl rfl (wt_is' (wt_guard' rfl rfl rfl) (beq_ft h1)) ?_
 refine sx_skip' rfl rfl (wt_is' (wt_guard' rfl rfl rfl) (beq_ft h1)) ?_
 refine s0 (rd_pick_false' rfl h1 rfl) ?_
 refine sx_nil' ?_
 show TX E K5 _
 exact tx_pick' [0, 1, 2, 3] (sub_cons rfl (sub_cons rfl (sub_cons rfl sub_nil))) (by decide) (pick_cons rfl (pick_cons rfl (pick_cons rfl (pick_cons rfl pick_nil)))) (hK5 (r7.1, r7.2.1, r7.2.2.1, r7.2.2.2.1, r7.2.2.2.2, false) hp)

def gogeom_geom0_Layout_v6 (k : Nat) (a0_0 : Int) (a0_1 : Int) (a0_2 : List Nat) (a0_3 : Int) (a0_4 : List Int) : Option (Int × Int × (List Nat) × Int × (List Int)) :=
 some (a0_0, a0_1, a0_2, a0_3, a0_4)

theorem gogeom_geom0_Layout_v6_sim {k : Nat} {wa0 : Addr} (a0_0 : Int) (a0_1 : Int) (a0_2 : List Nat) (a0_3 : Int) (a0_4 : List Int) {out : Int × Int × (List Nat) × Int × (List Int)} (hp : gogeom_geom0_Layout_v6 k a0_0 a0_1 a0_2 a0_3 a0_4 = some out) : Sx.Fn Try.prog 134 [(Vp wa0)] [⟨.pointer (some wa0), [(Vi a0_0), (Vi a0_1), (Sl Kf a0_2), (Vi a0_3), (Sl (Ki .i64) a0_4)], 139, none⟩] (fun w : Unit => (Vi out.1)) (fun w => [⟨.pointer (some wa0), [(Vi out.1), (Vi out.2.1), (Sl Kf out.2.2.1), (Vi out.2.2.2.1), (Sl (Ki .i64) out.2.2.2.2)], 139, none⟩]) := by
 unfold gogeom_geom0_Layout_v6 at hp
 refine fn_of Try.func134 rfl Try.ntmps134 rfl fun E hM => ?_
 refine cr fun K1 hK1 => ?_
 refine s0 (rd_assign' rfl) ?_
 refine nk hK1 ?_
 refine cr fun K2 hK2 => ?_
 refine s0 (rd_move' rfl) ?_
 refine s0 (rd_nilck' rfl) ?_
 refine s0 (rd_field0' rfl Try.underlying124 rfl info61 rfl) ?_
 refine s0 (rd_load' (i := 0) (o := 0) rfl ⟨rfl, rfl, rfl, rfl⟩ rfl flat61) ?_
 refine s0 (rd_assign' rfl) ?_
 refine nk hK2 ?_
 refine cx_retc' ?_
 replace hp := Option.some.inj hp
 subst hp
 refine tx_pick' (L' := [(2, (Vi a0_0))]) (H' := [⟨.pointer (some wa0), [(Vi a0_0), (Vi a0_1), (Sl Kf a0_2), (Vi a0_3), (Sl (Ki .i64) a0_4)], 139, none⟩]) [0] (sub_cons rfl sub_nil) (by decide) (pick_cons rfl pick_nil) ?_
 exact tx_ret1' Try.results134 rfl () (rv_tmp' rfl) (List.Sublist.refl _)

def gogeom_geom0_FlatCoords_v6 (k : Nat) (a0_0 : Int) (a0_1 : Int) (a0_2 : List Nat) (a0_3 : Int) (a0_4 : List Int) : Option (Int × Int × (List Nat) × Int × (List Int)) :=
 some (a0_0, a0_1, a0_2, a0_3, a0_4)

theorem gogeom_geom0_FlatCoords_v6_sim {k : Nat} {wa0 : Addr} (a0_0 : Int) (a0_1 : Int) (a0_2 : List Nat) (a0_3 : Int) (a0_4 : List Int) {out : Int × Int × (List Nat) × Int × (List Int)} (hp : gogeom_geom0_FlatCoords_v6 k a0_0 a0_1 a0_2 a0_3 a0_4 = some out) : Sx.Fn Try.prog 133 [(Vp wa0)] [⟨.pointer (some wa0), [(Vi a0_0), (Vi a0_1), (Sl Kf a0_2), (Vi a0_3), (Sl (Ki .i64) a0_4)], 139, none⟩] (fun w : Unit => (Sl Kf out.2.2.1)) (fun w => [⟨.pointer (some wa0), [(Vi out.1), (Vi out.2.1), (Sl Kf out.2.2.1), (Vi out.2.2.2.1), (Sl (Ki .i64) out.2.2.2.2)], 139, none⟩]) := by
 unfold gogeom_geom0_FlatCoords_v6 at hp
 refine fn_of Try.func133 rfl Try.ntmps133 rfl fun E hM => ?_
 refine cr fun K1 hK1 => ?_
 refine s0 (rd_assign' rfl) ?_
 refine nk hK1 ?_
 refine cr fun K2 hK2 => ?_
 refine s0 (rd_move' rfl) ?_
 refine s0 (rd_nilck' rfl) ?_
 refine s0 (rd_field' (off := 2) rfl Try.underlying124 rfl info22 rfl) ?_
 refine s0 (rd_load' (i := 0) (o := 2) rfl ⟨rfl, rfl, rfl, rfl⟩ rfl flat22) ?_
 refine s0 (rd_assign' rfl) ?_
 refine nk hK2 ?_
 refine cx_retc' ?_
 replace hp := Option.some.inj hp
 subst hp
 refine tx_pick' (L' := [(2, (Sl Kf a0_2))]) (H' := [⟨.pointer (some wa0), [(Vi a0_0), (Vi a0_1), (Sl Kf a0_2), (Vi a0_3), (Sl (Ki .i64) a0_4)], 139, none⟩]) [0] (sub_cons rfl sub_nil) (by decide) (pick_cons rfl pick_nil) ?_
 exact tx_ret1' Try.results133 rfl () (rv_tmp' rfl) (List.Sublist.refl _)

def gogeom_geom0_Stride_v6 (k : Nat) (a0_0 : Int) (a0_1 : Int) (a0_2 : List Nat) (a0_3 : Int) (a0_4 : List Int) : Option (Int × Int × (List Nat) × Int × (List Int)) :=
 some (a0_0, a0_1, a0_2, a0_3, a0_4)

theorem gogeom_geom0_Stride_v6_sim {k : Nat} {wa0 : Addr} (a0_0 : Int) (a0_1 : Int) (a0_2 : List Nat) (a0_3 : Int) (a0_4 : List Int) {out : Int × Int × (List Nat) × Int × (List Int)} (hp : gogeom_geom0_Stride_v6 k a0_0 a0_1 a0_2 a0_3 a0_4 = some out) : Sx.Fn Try.prog 137 [(Vp wa0)] [⟨.pointer (some wa0), [(Vi a0_0), (Vi a0_1), (Sl Kf a0_2), (Vi a0_3), (Sl (Ki .i64) a0_4)], 139, none⟩] (fun w : Unit => (Vi out.2.1)) (fun w => [⟨.pointer (some wa0), [(Vi out.1), (Vi out.2.1), (Sl Kf out.2.2.1), (Vi out.2.2.2.1), (Sl (Ki .i64) out.2.2.2.2)], 139, none⟩]) := by
 unfold gogeom_geom0_Stride_v6 at hp
 refine fn_of Try.func137 rfl Try.ntmps137 rfl fun E hM => ?_
 refine cr fun K1 hK1 => ?_
 refine s0 (rd_assign' rfl) ?_
 refine nk hK1 ?_
 refine cr fun K2 hK2 => ?_
 refine s0 (rd_move' rfl) ?_
 refine s0 (rd_nilck' rfl) ?_
 refine s0 (rd_field' (off := 1) rfl Try.underlying124 rfl info3 rfl) ?_
 refine s0 (rd_load' (i := 0) (o := 1) rfl ⟨rfl, rfl, rfl, rfl⟩ rfl flat3) ?_
 refine s0 (rd_assign' rfl) ?_
 refine nk hK2 ?_
 refine cx_retc' ?_
 replace hp := Option.some.inj hp
 subst hp
 refine tx_pick' (L' := [(2, (Vi a0_1))]) (H' := [⟨.pointer (some wa0), [(Vi a0_0), (Vi a0_1), (Sl Kf a0_2), (Vi a0_3), (Sl (Ki .i64) a0_4)], 139, none⟩]) [0] (sub_cons rfl sub_nil) (by decide) (pick_cons rfl pick_nil) ?_
 exact tx_ret1' Try.results137 rfl () (rv_tmp' rfl) (List.Sublist.refl _)

def gogeom_Bounds_Extend_v6_j1 (k : Nat) (r8 : Int × (List Nat) × (List Nat)) (x1 : Int) (x2 : Int) (x3 : List Nat) (x4 : Int) (x5 : List Int) (x6 : Bool) : Option (Int × (List Nat) × (List Nat) × Int × Int × (List Nat) × Int × (List Int)) :=
 br x6
  ((gogeom_geom0_FlatCoords_v6 k x1 x2 x3 x4 x5) >>= fun r21 =>
  (gogeom_geom0_FlatCoords_v6 k r21.1 r21.2.1 r21.2.2.1 r21.2.2.2.1 r21.2.2.2.2) >>= fun r23 =>
  (gogeom_Bounds_extendXYZMFlatCoordsWithXYM k r8.1 r8.2.1 r8.2.2 r21.2.2.1 0 (r23.2.2.1.length : Int)) >>= fun r25 =>
  some (r25.1, r25.2.1, r25.2.2, r23.1, r23.2.1, r23.2.2.1, r23.2.2.2.1, r23.2.2.2.2))
  ((gogeom_geom0_FlatCoords_v6 k x1 x2 x3 x4 x5) >>= fun r28 =>
  (gogeom_geom0_FlatCoords_v6 k r28.1 r28.2.1 r28.2.2.1 r28.2.2.2.1 r28.2.2.2.2) >>= fun r30 =>
  (gogeom_geom0_Stride_v6 k r30.1 r30.2.1 r30.2.2.1 r30.2.2.2.1 r30.2.2.2.2) >>= fun r33 =>
  (gogeom_Bounds_extendFlatCoords k r8.1 r8.2.1 r8.2.2 r28.2.2.1 0 (r30.2.2.1.length : Int) r33.2.1) >>= fun r34 =>
  some (r34.1, r34.2.1, r34.2.2, r33.1, r33.2.1, r33.2.2.1, r33.2.2.2.1, r33.2.2.2.2))
def gogeom_Bounds_Extend_v6 (k : Nat) (a0_0 : Int) (a0_1 : List Nat) (a0_2 : List Nat) (a1_0 : Int) (a1_1 : Int) (a1_2 : List Nat) (a1_3 : Int) (a1_4 : List Int) : Option (Int × (List Nat) × (List Nat) × Int × Int × (List Nat) × Int × (List Int)) :=
 (gogeom_geom0_Layout_v6 k a1_0 a1_1 a1_2 a1_3 a1_4) >>= fun r7 =>
 (gogeom_Bounds_extendLayout k a0_0 a0_1 a0_2 r7.1) >>= fun r8 =>
 br (decide (r8.1 = 4))
  ((gogeom_geom0_Layout_v6 k r7.1 r7.2.1 r7.2.2.1 r7.2.2.2.1 r7.2.2.2.2) >>= fun r16 =>
  gogeom_Bounds_Extend_v6_j1 k r8 r16.1 r16.2.1 r16.2.2.1 r16.2.2.2.1 r16.2.2.2.2 (decide (r16.1 = 3)))
  (gogeom_Bounds_Extend_v6_j1 k r8 r7.1 r7.2.1 r7.2.2.1 r7.2.2.2.1 r7.2.2.2.2 false)

theorem gogeom_Bounds_Extend_v6_sim {k : Nat} {wa0 : Addr} {wa0_1 : Gs} {wa0_2 : Gs} {wa1 : Addr} (a0_0 : Int) (a0_1 : List Nat) (a0_2 : List Nat) (a1_0 : Int) (a1_1 : Int) (a1_2 : List Nat) (a1_3 : Int) (a1_4 : List Int) {out : Int × (List Nat) × (List Nat) × Int × Int × (List Nat) × Int × (List Int)} (hp : gogeom_Bounds_Extend_v6 k a0_0 a0_1 a0_2 a1_0 a1_1 a1_2 a1_3 a1_4 = some out) : Sx.Fn Try.prog 55 [(Vp wa0), (If 73 (Vp wa1))] [⟨.pointer (some wa0), [(Vi a0_0), (Vl (Vs wa0_1)), (Vl (Vs wa0_2))], 150, none⟩, (Rw Kf 32 (Vs wa0_1) a0_1), (Rw Kf 32 (Vs wa0_2) a0_2), ⟨.pointer (some wa1), [(Vi a1_0), (Vi a1_1), (Sl Kf a1_2), (Vi a1_3), (Sl (Ki .i64) a1_4)], 139, none⟩] (fun w : Gs × Gs => (Vp wa0)) (fun w => [⟨.pointer (some wa0), [(Vi out.1), (Vl (Vs w.1)), (Vl (Vs w.2))], 150, none⟩, (Rw Kf 32 (Vs w.1) out.2.1), (Rw Kf 32 (Vs w.2) out.2.2.1), ⟨.pointer (some wa1), [(Vi out.2.2.2.1), (Vi out.2.2.2.2.1), (Sl Kf out.2.2.2.2.2.1), (Vi out.2.2.2.2.2.2.1), (Sl (Ki .i64) out.2.2.2.2.2.2.2)], 139, none⟩]) := by
 unfold gogeom_Bounds_Extend_v6 at hp
 refine fn_of Try.func55 rfl Try.ntmps55 rfl fun E hM => ?_
 refine cr fun K1 hK1 => ?_
 refine s0 (rd_assign' rfl) ?_
 refine nk hK1 ?_
 refine cr fun K2 hK2 => ?_
 refine s0 (rd_move' rfl) ?_
 refine s0 (rd_move' rfl) ?_
 obtain ⟨r7, hr7, hp⟩ := bind_some hp
 refine sx_ox' (ox_callg' (ent_inv' rfl rfl (inv_ptr0 (inv73_Layout _))) (gogeom_geom0_Layout_v6_sim _ _ _ _ _ hr7 : Sx.Fn Try.prog 134 [(Vp wa1)] [⟨.pointer (some wa1), [(Vi a1_0), (Vi a1_1), (Sl Kf a1_2), (Vi a1_3), (Sl (Ki .i64) a1_4)], 139, none⟩] (fun x : Unit => (Vi r7.1)) (fun x => [⟨.pointer (some wa1), [(Vi r7.1), (Vi r7.2.1), (Sl Kf r7.2.2.1), (Vi r7.2.2.2.1), (Sl (Ki .i64) r7.2.2.2.2)], 139, none⟩])) [3] [0, 1, 2] (by decide) (pick_cons rfl pick_nil) (pick_cons rfl (pick_cons rfl (pick_cons rfl pick_nil))) (Hn := fun x : Unit => [⟨.pointer (some wa1), [(Vi r7.1), (Vi r7.2.1), (Sl Kf r7.2.2.1), (Vi r7.2.2.2.1), (Sl (Ki .i64) r7.2.2.2.2)], 139, none⟩, ⟨.pointer (some wa0), [(Vi a0_0), (Vl (Vs wa0_1)), (Vl (Vs wa0_2))], 150, none⟩, (Rw Kf 32 (Vs wa0_1) a0_1), (Rw Kf 32 (Vs wa0_2) a0_2)]) (fun _ => rfl) rfl rfl) (wt_none' rfl) fun ⟨⟩ => ?_
 obtain ⟨r8, hr8, hp⟩ := bind_some hp
 refine sx_ox' (ox_callg' (ent_fn' Try.func86 isn86 rfl rfl) (gogeom_Bounds_extendLayout_sim _ _ _ _ hr8 : Sx.Fn Try.prog 86 [(Vp wa0), (Vi r7.1)] [⟨.pointer (some wa0), [(Vi a0_0), (Vl (Vs wa0_1)), (Vl (Vs wa0_2))], 150, none⟩, (Rw Kf 32 (Vs wa0_1) a0_1), (Rw Kf 32 (Vs wa0_2) a0_2)] (fun x : Gs × Gs => (Vl (.tuple #[]))) (fun x => [⟨.pointer (some wa0), [(Vi r8.1), (Vl (Vs x.1)), (Vl (Vs x.2))], 150, none⟩, (Rw Kf 32 (Vs x.1) r8.2.1), (Rw Kf 32 (Vs x.2) r8.2.2)])) [1, 2, 3] [0] (by decide) (pick_cons rfl (pick_cons rfl (pick_cons rfl pick_nil))) (pick_cons rfl pick_nil) (Hn := fun x : Gs × Gs => [⟨.pointer (some wa0), [(Vi r8.1), (Vl (Vs x.1)), (Vl (Vs x.2))], 150, none⟩, (Rw Kf 32 (Vs x.1) r8.2.1), (Rw Kf 32 (Vs x.2) r8.2.2), ⟨.pointer (some wa1), [(Vi r7.1), (Vi r7.2.1), (Sl Kf r7.2.2.1), (Vi r7.2.2.2.1), (Sl (Ki .i64) r7.2.2.2.2)], 139, none⟩]) (fun _ => rfl) rfl rfl) (wt_none' rfl) fun ⟨g8, gz1⟩ => ?_
 refine nk hK2 ?_
 refine cx_seq' fun K3 hK3 => ?_
 refine cr fun K4 hK4 => ?_
 refine s0 (rd_move' rfl) ?_
 refine s0 (rd_nilck' rfl) ?_
 refine s0 (rd_field0' rfl Try.underlying150 rfl info61 rfl) ?_
 refine s0 (rd_load' (i := 0) (o := 0) rfl ⟨rfl, rfl, rfl, rfl⟩ rfl flat61) ?_
 refine s0 (rd_bin' rfl rfl eg_int ru_eql) ?_
 refine s0 (rd_move' rfl) ?_
 refine sx_cutn' 4 (fun (v1 : Int × Int × (List Nat) × Int × (List Int) × Bool) => (⟨35, [], [(0, (Vp wa0)), (1, (If 73 (Vp wa1))), (18, (Vb v1.2.2.2.2.2))], [⟨.pointer (some wa0), [(Vi r8.1), (Vl (Vs g8)), (Vl (Vs gz1))], 150, none⟩, (Rw Kf 32 (Vs g8) r8.2.1), (Rw Kf 32 (Vs gz1) r8.2.2), ⟨.pointer (some wa1), [(Vi v1.1), (Vi v1.2.1), (Sl Kf v1.2.2.1), (Vi v1.2.2.2.1), (Sl (Ki .i64) v1.2.2.2.2.1)], 139, none⟩]⟩ : St)) (fun (v1 : Int × Int × (List Nat) × Int × (List Int) × Bool) => gogeom_Bounds_Extend_v6_j1 k r8 v1.1 v1.2.1 v1.2.2.1 v1.2.2.2.1 v1.2.2.2.2.1 v1.2.2.2.2.2 = some out) ?_ ?_
 ·rintro ⟨x1, x2, x3, x4, x5, x6⟩ hp
  replace hp : gogeom_Bounds_Extend_v6_j1 k r8 x1 x2 x3 x4 x5 x6 = some out := hp
  unfold gogeom_Bounds_Extend_v6_j1 at hp
  refine nk hK4 ?_
  refine cx_cond' rfl (fun h2 => ?_) (fun h2 => ?_)
  ·replace hp := (br_t h2).symm.trans hp
   refine cr fun K6 hK6 => ?_
   refine s0 (rd_move' rfl) ?_
   refine s0 (rd_move' rfl) ?_
   obtain ⟨r21, hr21, hp⟩ := bind_some hp
   refine sx_ox' (ox_callg' (ent_inv' rfl rfl (inv_ptr0 (inv73_FlatCoords _))) (gogeom_geom0_FlatCoords_v6_sim _ _ _ _ _ hr21 : Sx.Fn Try.prog 133 [(Vp wa1)] [⟨.pointer (some wa1), [(Vi x1), (Vi x2), (Sl Kf x3), (Vi x4), (Sl (Ki .i64) x5)], 139, none⟩] (fun x : Unit => (Sl Kf r21.2.2.1)) (fun x => [⟨.pointer (some wa1), [(Vi r21.1), (Vi r21.2.1), (Sl Kf r21.2.2.1), (Vi r21.2.2.2.1), (Sl (Ki .i64) r21.2.2.2.2)], 139, none⟩])) [3] [0, 1, 2] (by decide) (pick_cons rfl pick_nil) (pick_cons rfl (pick_cons rfl (pick_cons rfl pick_nil))) (Hn := fun x : Unit => [⟨.pointer (some wa1), [(Vi r21.1), (Vi r21.2.1), (Sl Kf r21.2.2.1), (Vi r21.2.2.2.1), (Sl (Ki .i64) r21.2.2.2.2)], 139, none⟩, ⟨.pointer (some wa0), [(Vi r8.1), (Vl (Vs g8)), (Vl (Vs gz1))], 150, none⟩, (Rw Kf 32 (Vs g8) r8.2.1), (Rw Kf 32 (Vs gz1) r8.2.2)]) (fun _ => rfl) rfl rfl) (wt_none' rfl) fun ⟨⟩ => ?_
   refine s0 (rd_move' rfl) ?_
   obtain ⟨r23, hr23, hp⟩ := bind_some hp
   refine sx_ox' (ox_callg' (ent_inv' rfl rfl (inv_ptr0 (inv73_FlatCoords _))) (gogeom_geom0_FlatCoords_v6_sim _ _ _ _ _ hr23 : Sx.Fn Try.prog 133 [(Vp wa1)] [⟨.pointer (some wa1), [(Vi r21.1), (Vi r21.2.1), (Sl Kf r21.2.2.1), (Vi r21.2.2.2.1), (Sl (Ki .i64) r21.2.2.2.2)], 139, none⟩] (fun x : Unit => (Sl Kf r23.2.2.1)) (fun x => [⟨.pointer (some wa1), [(Vi r23.1), (Vi r23.2.1), (Sl Kf r23.2.2.1), (Vi r23.2.2.2.1), (Sl (Ki .i64) r23.2.2.2.2)], 139, none⟩])) [0] [1, 2, 3] (by decide) (pick_cons rfl pick_nil) (pick_cons rfl (pick_cons rfl (pick_cons rfl pick_nil))) (Hn := fun x : Unit => [⟨.pointer (some wa1), [(Vi r23.1), (Vi r23.2.1), (Sl Kf r23.2.2.1), (Vi r23.2.2.2.1), (Sl (Ki .i64) r23.2.2.2.2)], 139, none⟩, ⟨.pointer (some wa0), [(Vi r8.1), (Vl (Vs g8)), (Vl (Vs gz1))], 150, none⟩, (Rw Kf 32 (Vs g8) r8.2.1), (Rw Kf 32 (Vs gz1) r8.2.2)]) (fun _ => rfl) rfl rfl) (wt_none' rfl) fun ⟨⟩ => ?_
   refine s0 (rd_len' rfl Try.underlying22) ?_
   obtain ⟨r25, hr25, hp⟩ := bind_some hp
   refine sx_ox' (ox_callg' (ent_fn' Try.func87 isn87 rfl rfl) (gogeom_Bounds_extendXYZMFlatCoordsWithXYM_sim _ _ _ _ _ _ hr25 : Sx.Fn Try.prog 87 [(Vp wa0), (Sl Kf r21.2.2.1), (Vi 0), (Vi (r23.2.2.1.length : Int))] [⟨.pointer (some wa0), [(Vi r8.1), (Vl (Vs g8)), (Vl (Vs gz1))], 150, none⟩, (Rw Kf 32 (Vs g8) r8.2.1), (Rw Kf 32 (Vs gz1) r8.2.2)] (fun x : Unit => (Vp wa0)) (fun x => [⟨.pointer (some wa0), [(Vi r25.1), (Vl (Vs g8)), (Vl (Vs gz1))], 150, none⟩, (Rw Kf 32 (Vs g8) r25.2.1), (Rw Kf 32 (Vs gz1) r25.2.2)])) [1, 2, 3] [0] (by decide) (pick_cons rfl (pick_cons rfl (pick_cons rfl pick_nil))) (pick_cons rfl pick_nil) (Hn := fun x : Unit => [⟨.pointer (some wa0), [(Vi r25.1), (Vl (Vs g8)), (Vl (Vs gz1))], 150, none⟩, (Rw Kf 32 (Vs g8) r25.2.1), (Rw Kf 32 (Vs gz1) r25.2.2), ⟨.pointer (some wa1), [(Vi r23.1), (Vi r23.2.1), (Sl Kf r23.2.2.1), (Vi r23.2.2.2.1), (Sl (Ki .i64) r23.2.2.2.2)], 139, none⟩]) (fun _ => rfl) rfl rfl) (wt_none' rfl) fun ⟨⟩ => ?_
   refine s0 (rd_assign' rfl) ?_
   refine nk hK6 ?_
   refine cx_retc' ?_
   replace hp := Option.some.inj hp
   subst hp
   refine tx_pick' (L' := [(4, (Vp wa0))]) (H' := [⟨.pointer (some wa0), [(Vi r25.1), (Vl (Vs g8)), (Vl (Vs gz1))], 150, none⟩, (Rw Kf 32 (Vs g8) r25.2.1), (Rw Kf 32 (Vs gz1) r25.2.2), ⟨.pointer (some wa1), [(Vi r23.1), (Vi r23.2.1), (Sl Kf r23.2.2.1), (Vi r23.2.2.2.1), (Sl (Ki .i64) r23.2.2.2.2)], 139, none⟩]) [0, 1, 2, 3] (sub_cons rfl sub_nil) (by decide) (pick_cons rfl (pick_cons rfl (pick_cons rfl (pick_cons rfl pick_nil)))) ?_
   exact tx_ret1' Try.results55 rfl (g8, gz1) (rv_tmp' rfl) (List.Sublist.refl _)
  replace hp := (br_f h2).symm.trans hp
  refine cx_skip' ?_
  show TX E K3 _
  refine tx_k' hK3 ?_
  refine cr fun K7 hK7 => ?_
  refine s0 (rd_move' rfl) ?_
  refine s0 (rd_move' rfl) ?_
  obtain ⟨r28, hr28, hp⟩ := bind_some hp
  refine sx_ox' (ox_callg' (ent_inv' rfl rfl (inv_ptr0 (inv73_FlatCoords _))) (gogeom_geom0_FlatCoords_v6_sim _ _ _ _ _ hr28 : Sx.Fn Try.prog 133 [(Vp wa1)] [⟨.pointer (some wa1), [(Vi x1), (Vi x2), (Sl Kf x3), (Vi x4), (Sl (Ki .i64) x5)], 139, none⟩] (fun x : Unit => (Sl Kf r28.2.2.1)) (fun x => [⟨.pointer (some wa1), [(Vi r28.1), (Vi r28.2.1), (Sl Kf r28.2.2.1), (Vi r28.2.2.2.1), (Sl (Ki .i64) r28.2.2.2.2)], 139, none⟩])) [3] [0, 1, 2] (by decide) (pick_cons rfl pick_nil) (pick_cons rfl (pick_cons rfl (pick_cons rfl pick_nil))) (Hn := fun x : Unit => [⟨.pointer (some wa1), [(Vi r28.1), (Vi r28.2.1), (Sl Kf r28.2.2.1), (Vi r28.2.2.2.1), (Sl (Ki .i64) r28.2.2.2.2)], 139, none⟩, ⟨.pointer (some wa0), [(Vi r8.1), (Vl (Vs g8)), (Vl (Vs gz1))], 150, none⟩, (Rw Kf 32 (Vs g8) r8.2.1), (Rw Kf 32 (Vs gz1) r8.2.2)]) (fun _ => rfl) rfl rfl) (wt_none' rfl) fun ⟨⟩ => ?_
  refine s0 (rd_move' rfl) ?_
  obtain ⟨r30, hr30, hp⟩ := bind_some hp
  refine sx_ox' (ox_callg' (ent_inv' rfl rfl (inv_ptr0 (inv73_FlatCoords _))) (gogeom_geom0_FlatCoords_v6_sim _ _ _ _ _ hr30 : Sx.Fn Try.prog 133 [(Vp wa1)] [⟨.pointer (some wa1), [(Vi r28.1), (Vi r28.2.1), (Sl Kf r28.2.2.1), (Vi r28.2.2.2.1), (Sl (Ki .i64) r28.2.2.2.2)], 139, none⟩] (fun x : Unit => (Sl Kf r30.2.2.1)) (fun x => [⟨.pointer (some wa1), [(Vi r30.1), (Vi r30.2.1), (Sl Kf r30.2.2.1), (Vi r30.2.2.2.1), (Sl (Ki .i64) r30.2.2.2.2)], 139, none⟩])) [0] [1, 2, 3] (by decide) (pick_cons rfl pick_nil) (pick_cons rfl (pick_cons rfl (pick_cons rfl pick_nil))) (Hn := fun x : Unit => [⟨.pointer (some wa1), [(Vi r30.1), (Vi r30.2.1), (Sl Kf r30.2.2.1), (Vi r30.2.2.2.1), (Sl (Ki .i64) r30.2.2.2.2)], 139, none⟩, ⟨.pointer (some wa0), [(Vi r8.1), (Vl (Vs g8)), (Vl (Vs gz1))], 150, none⟩, (Rw Kf 32 (Vs g8) r8.2.1), (Rw Kf 32 (Vs gz1) r8.2.2)]) (fun _ => rfl) rfl rfl) (wt_none' rfl) fun ⟨⟩ => ?_
  refine s0 (rd_len' rfl Try.underlying22) ?_
  refine s0 (rd_move' rfl) ?_
  obtain ⟨r33, hr33, hp⟩ := bind_some hp
  refine sx_ox' (ox_callg' (ent_inv' rfl rfl (inv_ptr0 (inv73_Stride _))) (gogeom_geom0_Stride_v6_sim _ _ _ _ _ hr33 : Sx.Fn Try.prog 137 [(Vp wa1)] [⟨.pointer (some wa1), [(Vi r30.1), (Vi r30.2.1), (Sl Kf r30.2.2.1), (Vi r30.2.2.2.1), (Sl (Ki .i64) r30.2.2.2.2)], 139, none⟩] (fun x : Unit => (Vi r33.2.1)) (fun x => [⟨.pointer (some wa1), [(Vi r33.1), (Vi r33.2.1), (Sl Kf r33.2.2.1), (Vi r33.2.2.2.1), (Sl (Ki .i64) r33.2.2.2.2)], 139, none⟩])) [0] [1, 2, 3] (by decide) (pick_cons rfl pick_nil) (pick_cons rfl (pick_cons rfl (pick_cons rfl pick_nil))) (Hn := fun x : Unit => [⟨.pointer (some wa1), [(Vi r33.1), (Vi r33.2.1), (Sl Kf r33.2.2.1), (Vi r33.2.2.2.1), (Sl (Ki .i64) r33.2.2.2.2)], 139, none⟩, ⟨.pointer (some wa0), [(Vi r8.1), (Vl (Vs g8)), (Vl (Vs gz1))], 150, none⟩, (Rw Kf 32 (Vs g8) r8.2.1), (Rw Kf 32 (Vs gz1) r8.2.2)]) (fun _ => rfl) rfl rfl) (wt_none' rfl) fun ⟨⟩ => ?_
  obtain ⟨r34, hr34, hp⟩ := bind_some hp
  refine sx_ox' (ox_callg' (ent_fn' Try.func88 isn88 rfl rfl) (gogeom_Bounds_extendFlatCoords_sim _ _ _ _ _ _ _ hr34 : Sx.Fn Try.prog 88 [(Vp wa0), (Sl Kf r28.2.2.1), (Vi 0), (Vi (r30.2.2.1.length : Int)), (Vi r33.2.1)] [⟨.pointer (some wa0), [(Vi r8.1), (Vl (Vs g8)), (Vl (Vs gz1))], 150, none⟩, (Rw Kf 32 (Vs g8) r8.2.1), (Rw Kf 32 (Vs gz1) r8.2.2)] (fun x : Gs × Gs => (Vp wa0)) (fun x => [⟨.pointer (some wa0), [(Vi r34.1), (Vl (Vs x.1)), (Vl (Vs x.2))], 150, none⟩, (Rw Kf 32 (Vs x.1) r34.2.1), (Rw Kf 32 (Vs x.2) r34.2.2)])) [1, 2, 3] [0] (by decide) (pick_cons rfl (pick_cons rfl (pick_cons rfl pick_nil))) (pick_cons rfl pick_nil) (Hn := fun x : Gs × Gs => [⟨.pointer (some wa0), [(Vi r34.1), (Vl (Vs x.1)), (Vl (Vs x.2))], 150, none⟩, (Rw Kf 32 (Vs x.1) r34.2.1), (Rw Kf 32 (Vs x.2) r34.2.2), ⟨.pointer (some wa1), [(Vi r33.1), (Vi r33.2.1), (Sl Kf r33.2.2.1), (Vi r33.2.2.2.1), (Sl (Ki .i64) r33.2.2.2.2)], 139, none⟩]) (fun _ => rfl) rfl rfl) (wt_none' rfl) fun ⟨g34, gz2⟩ => ?_
  refine s0 (rd_assign' rfl) ?_
  refine nk hK7 ?_
  refine cx_retc' ?_
  replace hp := Option.some.inj hp
  subst hp
  refine tx_pick' (L' := [(4, (Vp wa0))]) (H' := [⟨.pointer (some wa0), [(Vi r34.1), (Vl (Vs g34)), (Vl (Vs gz2))], 150, none⟩, (Rw Kf 32 (Vs g34) r34.2.1), (Rw Kf 32 (Vs gz2) r34.2.2), ⟨.pointer (some wa1), [(Vi r33.1), (Vi r33.2.1), (Sl Kf r33.2.2.1), (Vi r33.2.2.2.1), (Sl (Ki .i64) r33.2.2.2.2)], 139, none⟩]) [0, 1, 2, 3] (sub_cons rfl sub_nil) (by decide) (pick_cons rfl (pick_cons rfl (pick_cons rfl (pick_cons rfl pick_nil)))) ?_
  exact tx_ret1' Try.results55 rfl (g34, gz2) (rv_tmp' rfl) (List.Sublist.refl _)
 intro K5 hK5
 rcases br_cases hp with ⟨h1, hp⟩ | ⟨h1, hp⟩
 ·refine sx_rd' (rd_move' rfl) rfl rfl (wt_is' (wt_guard' rfl rfl rfl) (beq_tt h1)) ?_
  obtain ⟨r16, hr16, hp⟩ := bind_some hp
  refine sx_ox' (ox_callg' (ent_inv' rfl rfl (inv_ptr0 (inv73_Layout _))) (gogeom_geom0_Layout_v6_sim _ _ _ _ _ hr16 : Sx.Fn Try.prog 134 [(Vp wa1)] [⟨.pointer (some wa1), [(Vi r7.1), (Vi r7.2.1), (Sl Kf r7.2.2.1), (Vi r7.2.2.2.1), (Sl (Ki .i64) r7.2.2.2.2)], 139, none⟩] (fun x : Unit => (Vi r16.1)) (fun x => [⟨.pointer (some wa1), [(Vi r16.1), (Vi r16.2.1), (Sl Kf r16.2.2.1), (Vi r16.2.2.2.1), (Sl (Ki .i64) r16.2.2.2.2)], 139, none⟩])) [3] [0, 1, 2] (by decide) (pick_cons rfl pick_nil) (pick_cons rfl (pick_cons rfl (pick_cons rfl pick_nil))) (Hn := fun x : Unit => [⟨.pointer (some wa1), [(Vi r16.1), (Vi r16.2.1), (Sl Kf r16.2.2.1), (Vi r16.2.2.2.1), (Sl (Ki .i64) r16.2.2.2.2)], 139, none⟩, ⟨.pointer (some wa0), [(Vi r8.1), (Vl (Vs g8)), (Vl (Vs gz1))], 150, none⟩, (Rw Kf 32 (Vs g8) r8.2.1), (Rw Kf 32 (Vs gz1) r8.2.2)]) (fun _ => rfl) rfl rfl) (wt_is' (wt_guard' rfl rfl rfl) (beq_tt h1)) fun ⟨⟩ => ?_
  refine sx_rd' (rd_bin' rfl rfl eg_int ru_eql) rfl rfl (wt_is' (wt_guard' rfl rfl rfl) (beq_tt h1)) ?_
  refine s0 (rd_pick_true' rfl h1 rfl) ?_
  refine sx_nil' ?_
  show TX E K5 _
  exact tx_pick' [1, 2, 3, 0] (sub_cons rfl (sub_cons rfl (sub_cons rfl sub_nil))) (by decide) (pick_cons rfl (pick_cons rfl (pick_cons rfl (pick_cons rfl pick_nil)))) (hK5 (r16.1, r16.2.1, r16.2.2.1, r16.2.2.2.1, r16.2.2.2.2, (decide (r16.1 = 3))) hp)
 refine sx_skip' rfl rfl (wt_is' (wt_guard' rfl rfl rfl) (beq_ft h1)) ?_
 refine sx_skip' rfl rfl (wt_is' (wt_guard' rfl rfl rfl) (beq_ft h1)) ?_
 refine sx_skip' rfl rfl (wt_is' (wt_guard' rfl rfl rfl) (beq_ft h1)) ?_
 refine s0 (rd_pick_false' rfl h1 rfl) ?_
 refine sx_nil' ?_
 show TX E K5 _
 exact tx_pick' [0, 1, 2, 3] (sub_cons rfl (sub_cons rfl (sub_cons rfl sub_nil))) (by decide) (pick_cons rfl (pick_cons rfl (pick_cons rfl (pick_cons rfl pick_nil)))) (hK5 (r7.1, r7.2.1, r7.2.2.1, r7.2.2.2.1, r7.2.2.2.2, false) hp)

def gogeom_geom0_Layout_v7 (k : Nat) (a0_0 : Int) (a0_1 : Int) (a0_2 : List Nat) (a0_3 : Int) (a0_4 : List (List Int)) : Option (Int × Int × (List Nat) × Int × (List (List Int))) :=
 some (a0_0, a0_1, a0_2, a0_3, a0_4)

theorem gogeom_geom0_Layout_v7_sim {k : Nat} {wa0 : Addr} (a0_0 : Int) (a0_1 : Int) (a0_2 : List Nat) (a0_3 : Int) (a0_4 : List (List Int)) {out : Int × Int × (List Nat) × Int × (List (List Int))} (hp : gogeom_geom0_Layout_v7 k a0_0 a0_1 a0_2 a0_3 a0_4 = some out) : Sx.Fn Try.prog 134 [(Vp wa0)] [⟨.pointer (some wa0), [(Vi a0_0), (Vi a0_1), (Sl Kf a0_2), (Vi a0_3), (Sl (Kl (Ki .i64)) a0_4)], 143, none⟩] (fun w : Unit => (Vi out.1)) (fun w => [⟨.pointer (some wa0), [(Vi out.1), (Vi out.2.1), (Sl Kf out.2.2.1), (Vi out.2.2.2.1), (Sl (Kl (Ki .i64)) out.2.2.2.2)], 143, none⟩]) := by
 unfold gogeom_geom0_Layout_v7 at hp
 refine fn_of Try.func134 rfl Try.ntmps134 rfl fun E hM => ?_
 refine cr fun K1 hK1 => ?_
 refine s0 (rd_assign' rfl) ?_
 refine nk hK1 ?_
 refine cr fun K2 hK2 => ?_
 refine s0 (rd_move' rfl) ?_
 refine s0 (rd_nilck' rfl) ?_
 refine s0 (rd_field0' rfl Try.underlying124 rfl info61 rfl) ?_
 refine s0 (rd_load' (i := 0) (o := 0) rfl ⟨rfl, rfl, rfl, rfl⟩ rfl flat61) ?_
 refine s0 (rd_assign' rfl) ?_
 refine nk hK2 ?_
 refine cx_retc' ?_
 replace hp := Option.some.inj hp
 subst hp
 refine tx_pick' (L' := [(2, (Vi a0_0))]) (H' := [⟨.pointer (some wa0), [(Vi a0_0), (Vi a0_1), (Sl Kf a0_2), (Vi a0_3), (Sl (Kl (Ki .i64)) a0_4)], 143, none⟩]) [0] (sub_cons rfl sub_nil) (by decide) (pick_cons rfl pick_nil) ?_
 exact tx_ret1' Try.results134 rfl () (rv_tmp' rfl) (List.Sublist.refl _)

def gogeom_geom0_FlatCoords_v7 (k : Nat) (a0_0 : Int) (a0_1 : Int) (a0_2 : List Nat) (a0_3 : Int) (a0_4 : List (List Int)) : Option (Int × Int × (List Nat) × Int × (List (List Int))) :=
 some (a0_0, a0_1, a0_2, a0_3, a0_4)

theorem gogeom_geom0_FlatCoords_v7_sim {k : Nat} {wa0 : Addr} (a0_0 : Int) (a0_1 : Int) (a0_2 : List Nat) (a0_3 : Int) (a0_4 : List (List Int)) {out : Int × Int × (List Nat) × Int × (List (List Int))} (hp : gogeom_geom0_FlatCoords_v7 k a0_0 a0_1 a0_2 a0_3 a0_4 = some out) : Sx.Fn Try.prog 133 [(Vp wa0)] [⟨.pointer (some wa0), [(Vi a0_0), (Vi a0_1), (Sl Kf a0_2), (Vi a0_3), (Sl (Kl (Ki .i64)) a0_4)], 143, none⟩] (fun w : Unit => (Sl Kf out.2.2.1)) (fun w => [⟨.pointer (some wa0), [(Vi out.1), (Vi out.2.1), (Sl Kf out.2.2.1), (Vi out.2.2.2.1), (Sl (Kl (Ki .i64)) out.2.2.2.2)], 143, none⟩]) := by
 unfold gogeom_geom0_FlatCoords_v7 at hp
 refine fn_of Try.func133 rfl Try.ntmps133 rfl fun E hM => ?_
 refine cr fun K1 hK1 => ?_
 refine s0 (rd_assign' rfl) ?_
 refine nk hK1 ?_
 refine cr fun K2 hK2 => ?_
 refine s0 (rd_move' rfl) ?_
 refine s0 (rd_nilck' rfl) ?_
 refine s0 (rd_field' (off := 2) rfl Try.underlying124 rfl info22 rfl) ?_
 refine s0 (rd_load' (i := 0) (o := 2) rfl ⟨rfl, rfl, rfl, rfl⟩ rfl flat22) ?_
 refine s0 (rd_assign' rfl) ?_
 refine nk hK2 ?_
 refine cx_retc' ?_
 replace hp := Option.some.inj hp
 subst hp
 refine tx_pick' (L' := [(2, (Sl Kf a0_2))]) (H' := [⟨.pointer (some wa0), [(Vi a0_0), (Vi a0_1), (Sl Kf a0_2), (Vi a0_3), (Sl (Kl (Ki .i64)) a0_4)], 143, none⟩]) [0] (sub_cons rfl sub_nil) (by decide) (pick_cons rfl pick_nil) ?_
 exact tx_ret1' Try.results133 rfl () (rv_tmp' rfl) (List.Sublist.refl _)

def gogeom_geom0_Stride_v7 (k : Nat) (a0_0 : Int) (a0_1 : Int) (a0_2 : List Nat) (a0_3 : Int) (a0_4 : List (List Int)) : Option (Int × Int × (List Nat) × Int × (List (List Int))) :=
 some (a0_0, a0_1, a0_2, a0_3, a0_4)

theorem gogeom_geom0_Stride_v7_sim {k : Nat} {wa0 : Addr} (a0_0 : Int) (a0_1 : Int) (a0_2 : List Nat) (a0_3 : Int) (a0_4 : List (List Int)) {out : Int × Int × (List Nat) × Int × (List (List Int))} (hp : gogeom_geom0_Stride_v7 k a0_0 a0_1 a0_2 a0_3 a0_4 = some out) : Sx.Fn Try.prog 137 [(Vp wa0)] [⟨.pointer (some wa0), [(Vi a0_0), (Vi a0_1), (Sl Kf a0_2), (Vi a0_3), (Sl (Kl (Ki .i64)) a0_4)], 143, none⟩] (fun w : Unit => (Vi out.2.1)) (fun w => [⟨.pointer (some wa0), [(Vi out.1), (Vi out.2.1), (Sl Kf out.2.2.1), (Vi out.2.2.2.1), (Sl (Kl (Ki .i64)) out.2.2.2.2)], 143, none⟩]) := by
 unfold gogeom_geom0_Stride_v7 at hp
 refine fn_of Try.func137 rfl Try.ntmps137 rfl fun E hM => ?_
 refine cr fun K1 hK1 => ?_
 refine s0 (rd_assign' rfl) ?_
 refine nk hK1 ?_
 refine cr fun K2 hK2 => ?_
 refine s0 (rd_move' rfl) ?_
 refine s0 (rd_nilck' rfl) ?_
 refine s0 (rd_field' (off := 1) rfl Try.underlying124 rfl info3 rfl) ?_
 refine s0 (rd_load' (i := 0) (o := 1) rfl ⟨rfl, rfl, rfl, rfl⟩ rfl flat3) ?_
 refine s0 (rd_assign' rfl) ?_
 refine nk hK2 ?_
 refine cx_retc' ?_
 replace hp := Option.some.inj hp
 subst hp
 refine tx_pick' (L' := [(2, (Vi a0_1))]) (H' := [⟨.pointer (some wa0), [(Vi a0_0), (Vi a0_1), (Sl Kf a0_2), (Vi a0_3), (Sl (Kl (Ki .i64)) a0_4)], 143, none⟩]) [0] (sub_cons rfl sub_nil) (by decide) (pick_cons rfl pick_nil) ?_
 exact tx_ret1' Try.results137 rfl () (rv_tmp' rfl) (List.Sublist.refl _)

def gogeom_Bounds_Extend_v7_j1 (k : Nat) (r8 : Int × (List Nat) × (List Nat)) (x1 : Int) (x2 : Int) (x3 : List Nat) (x4 : Int) (x5 : List (List Int)) (x6 : Bool) : Option (Int × (List Nat) × (List Nat) × Int × Int × (List Nat) × Int × (List (List Int))) :=
 br x6
  ((gogeom_geom0_FlatCoords_v7 k x1 x2 x3 x4 x5) >>= fun r21 =>
  (gogeom_geom0_FlatCoords_v7 k r21.1 r21.2.1 r21.2.2.1 r21.2.2.2.1 r21.2.2.2.2) >>= fun r23 =>
  (gogeom_Bounds_extendXYZMFlatCoordsWithXYM k r8.1 r8.2.1 r8.2.2 r21.2.2.1 0 (r23.2.2.1.length : Int)) >>= fun r25 =>
  some (r25.1, r25.2.1, r25.2.2, r23.1, r23.2.1, r23.2.2.1, r23.2.2.2.1, r23.2.2.2.2))
  ((gogeom_geom0_FlatCoords_v7 k x1 x2 x3 x4 x5) >>= fun r28 =>
  (gogeom_geom0_FlatCoords_v7 k r28.1 r28.2.1 r28.2.2.1 r28.2.2.2.1 r28.2.2.2.2) >>= fun r30 =>
  (gogeom_geom0_Stride_v7 k r30.1 r30.2.1 r30.2.2.1 r30.2.2.2.1 r30.2.2.2.2) >>= fun r33 =>
  (gogeom_Bounds_extendFlatCoords k r8.1 r8.2.1 r8.2.2 r28.2.2.1 0 (r30.2.2.1.length : Int) r33.2.1) >>= fun r34 =>
  some (r34.1, r34.2.1, r34.2.2, r33.1, r33.2.1, r33.2.2.1, r33.2.2.2.1, r33.2.2.2.2))
def gogeom_Bounds_Extend_v7 (k : Nat) (a0_0 : Int) (a0_1 : List Nat) (a0_2 : List Nat) (a1_0 : Int) (a1_1 : Int) (a1_2 : List Nat) (a1_3 : Int) (a1_4 : List (List Int)) : Option (Int × (List Nat) × (List Nat) × Int × Int × (List Nat) × Int × (List (List Int))) :=
 (gogeom_geom0_Layout_v7 k a1_0 a1_1 a1_2 a1_3 a1_4) >>= fun r7 =>
 (gogeom_Bounds_extendLayout k a0_0 a0_1 a0_2 r7.1) >>= fun r8 =>
 br (decide (r8.1 = 4))
  ((gogeom_geom0_Layout_v7 k r7.1 r7.2.1 r7.2.2.1 r7.2.2.2.1 r7.2.2.2.2) >>= fun r16 =>
  gogeom_Bounds_Extend_v7_j1 k r8 r16.1 r16.2.1 r16.2.2.1 r16.2.2.2.1 r16.2.2.2.2 (decide (r16.1 = 3)))
  (gogeom_Bounds_Extend_v7_j1 k r8 r7.1 r7.2.1 r7.2.2.1 r7.2.2.2.1 r7.2.2.2.2 false)

theorem gogeom_Bounds_Extend_v7_sim {k : Nat} {wa0 : Addr} {wa0_1 : Gs} {wa0_2 : Gs} {wa1 : Addr} (a0_0 : Int) (a0_1 : List Nat) (a0_2 : List Nat) (a1_0 : Int) (a1_1 : Int) (a1_2 : List Nat) (a1_3 : Int) (a1_4 : List (List Int)) {out : Int × (List Nat) × (List Nat) × Int × Int × (List Nat) × Int × (List (List Int))} (hp : gogeom_Bounds_Extend_v7 k a0_0 a0_1 a0_2 a1_0 a1_1 a1_2 a1_3 a1_4 = some out) : Sx.Fn Try.prog 55 [(Vp wa0), (If 76 (Vp wa1))] [⟨.pointer (some wa0), [(Vi a0_0), (Vl (Vs wa0_1)), (Vl (Vs wa0_2))], 150, none⟩, (Rw Kf 32 (Vs wa0_1) a0_1), (Rw Kf 32 (Vs wa0_2) a0_2), ⟨.pointer (some wa1), [(Vi a1_0), (Vi a1_1), (Sl Kf a1_2), (Vi a1_3), (Sl (Kl (Ki .i64)) a1_4)], 143, none⟩] (fun w : Gs × Gs => (Vp wa0)) (fun w => [⟨.pointer (some wa0), [(Vi out.1), (Vl (Vs w.1)), (Vl (Vs w.2))], 150, none⟩, (Rw Kf 32 (Vs w.1) out.2.1), (Rw Kf 32 (Vs w.2) out.2.2.1), ⟨.pointer (some wa1), [(Vi out.2.2.2.1), (Vi out.2.2.2.2.1), (Sl Kf out.2.2.2.2.2.1), (Vi out.2.2.2.2.2.2.1), (Sl (Kl (Ki .i64)) out.2.2.2.2.2.2.2)], 143, none⟩]) := by
 unfold gogeom_Bounds_Extend_v7 at hp
 refine fn_of Try.func55 rfl Try.ntmps55 rfl fun E hM => ?_
 refine cr fun K1 hK1 => ?_
 refine s0 (rd_assign' rfl) ?_
 refine nk hK1 ?_
 refine cr fun K2 hK2 => ?_
 refine s0 (rd_move' rfl) ?_
 refine s0 (rd_move' rfl) ?_
 obtain ⟨r7, hr7, hp⟩ := bind_some hp
 refine sx_ox' (ox_callg' (ent_inv' rfl rfl (inv_ptr0 (inv76_Layout _))) (gogeom_geom0_Layout_v7_sim _ _ _ _ _ hr7 : Sx.Fn Try.prog 134 [(Vp wa1)] [⟨.pointer (some wa1), [(Vi a1_0), (Vi a1_1), (Sl Kf a1_2), (Vi a1_3), (Sl (Kl (Ki .i64)) a1_4)], 143, none⟩] (fun x : Unit => (Vi r7.1)) (fun x => [⟨.pointer (some wa1), [(Vi r7.1), (Vi r7.2.1), (Sl Kf r7.2.2.1), (Vi r7.2.2.2.1), (Sl (Kl (Ki .i64)) r7.2.2.2.2)], 143, none⟩])) [3] [0, 1, 2] (by decide) (pick_cons rfl pick_nil) (pick_cons rfl (pick_cons rfl (pick_cons rfl pick_nil))) (Hn := fun x : Unit => [⟨.pointer (some wa1), [(Vi r7.1), (Vi r7.2.1), (Sl Kf r7.2.2.1), (Vi r7.2.2.2.1), (Sl (Kl (Ki .i64)) r7.2.2.2.2)], 143, none⟩, ⟨.pointer (some wa0), [(Vi a0_0), (Vl (Vs wa0_1)), (Vl (Vs wa0_2))], 150, none⟩, (Rw Kf 32 (Vs wa0_1) a0_1), (Rw Kf 32 (Vs wa0_2) a0_2)]) (fun _ => rfl) rfl rfl) (wt_none' rfl) fun ⟨⟩ => ?_
 obtain ⟨r8, hr8, hp⟩ := bind_some hp
 refine sx_ox' (ox_callg' (ent_fn' Try.func86 isn86 rfl rfl) (gogeom_Bounds_extendLayout_sim _ _ _ _ hr8 : Sx.Fn Try.prog 86 [(Vp wa0), (Vi r7.1)] [⟨.pointer (some wa0), [(Vi a0_0), (Vl (Vs wa0_1)), (Vl (Vs wa0_2))], 150, none⟩, (Rw Kf 32 (Vs wa0_1) a0_1), (Rw Kf 32 (Vs wa0_2) a0_2)] (fun x : Gs × Gs => (Vl (.tuple #[]))) (fun x => [⟨.pointer (some wa0), [(Vi r8.1), (Vl (Vs x.1)), (Vl (Vs x.2))], 150, none⟩, (Rw Kf 32 (Vs x.1) r8.2.1), (Rw Kf 32 (Vs x.2) r8.2.2)])) [1, 2, 3] [0] (by decide) (pick_cons rfl (pick_cons rfl (pick_cons rfl pick_nil))) (pick_cons rfl pick_nil) (Hn := fun x : Gs × Gs => [⟨.pointer (some wa0), [(Vi r8.1), (Vl (Vs x.1)), (Vl (Vs x.2))], 150, none⟩, (Rw Kf 32 (Vs x.1) r8.2.1), (Rw Kf 32 (Vs x.2) r8.2.2), ⟨.pointer (some wa1), [(Vi r7.1), (Vi r7.2.1), (Sl Kf r7.2.2.1), (Vi r7.2.2.2.1), (Sl (Kl (Ki .i64)) r7.2.2.2.2)], 143, none⟩]) (fun _ => rfl) rfl rfl) (wt_none' rfl) fun ⟨g8, gz1⟩ => ?_
 refine nk hK2 ?_
 refine cx_seq' fun K3 hK3 => ?_
 refine cr fun K4 hK4 => ?_
 refine s0 (rd_move' rfl) ?_
 refine s0 (rd_nilck' rfl) ?_
 refine s0 (rd_field0' rfl Try.underlying150 rfl info61 rfl) ?_
 refine s0 (rd_load' (i := 0) (o := 0) rfl ⟨rfl, rfl, rfl, rfl⟩ rfl flat61) ?_
 refine s0 (rd_bin' rfl rfl eg_int ru_eql) ?_
 refine s0 (rd_move' rfl) ?_
 refine sx_cutn' 4 (fun (v1 : Int × Int × (List Nat) × Int × (List (List Int)) × Bool) => (⟨35, [], [(0, (Vp wa0)), (1, (If 76 (Vp wa1))), (18, (Vb v1.2.2.2.2.2))], [⟨.pointer (some wa0), [(Vi r8.1), (Vl (Vs g8)), (Vl (Vs gz1))], 150, none⟩, (Rw Kf 32 (Vs g8) r8.2.1), (Rw Kf 32 (Vs gz1) r8.2.2), ⟨.pointer (some wa1), [(Vi v1.1), (Vi v1.2.1), (Sl Kf v1.2.2.1), (Vi v1.2.2.2.1), (Sl (Kl (Ki .i64)) v1.2.2.2.2.1)], 143, none⟩]⟩ : St)) (fun (v1 : Int × Int × (List Nat) × Int × (List (List Int)) × Bool) => gogeom_Bounds_Extend_v7_j1 k r8 v1.1 v1.2.1 v1.2.2.1 v1.2.2.2.1 v1.2.2.2.2.1 v1.2.2.2.2.2 = some out) ?_ ?_
 ·rintro ⟨x1, x2, x3, x4, x5, x6⟩ hp
  replace hp : gogeom_Bounds_Extend_v7_j1 k r8 x1 x2 x3 x4 x5 x6 = some out := hp
  unfold gogeom_Bounds_Extend_v7_j1 at hp
  refine nk hK4 ?_
  refine cx_cond' rfl (fun h2 => ?_) (fun h2 => ?_)
  ·replace hp := (br_t h2).symm.trans hp
   refine cr fun K6 hK6 => ?_
   refine s0 (rd_move' rfl) ?_
   refine s0 (rd_move' rfl) ?_
   obtain ⟨r21, hr21, hp⟩ := bind_some hp
   refine sx_ox' (ox_callg' (ent_inv' rfl rfl (inv_ptr0 (inv76_FlatCoords _))) (gogeom_geom0_FlatCoords_v7_sim _ _ _ _ _ hr21 : Sx.Fn Try.prog 133 [(Vp wa1)] [⟨.pointer (some wa1), [(Vi x1), (Vi x2), (Sl Kf x3), (Vi x4), (Sl (Kl (Ki .i64)) x5)], 143, none⟩] (fun x : Unit => (Sl Kf r21.2.2.1)) (fun x => [⟨.pointer (some wa1), [(Vi r21.1), (Vi r21.2.1), (Sl Kf r21.2.2.1), (Vi r21.2.2.2.1), (Sl (Kl (Ki .i64)) r21.2.2.2.2)], 143, none⟩])) [3] [0, 1, 2] (by decide) (pick_cons rfl pick_nil) (pick_cons rfl (pick_cons rfl (pick_cons rfl pick_nil))) (Hn := fun x : Unit => [⟨.pointer (some wa1), [(Vi r21.1), (Vi r21.2.1), (Sl Kf r21.2.2.1), (Vi r21.2.2.2.1), (Sl (Kl (Ki .i64)) r21.2.2.2.2)], 143, none⟩, ⟨.pointer (some wa0), [(Vi r8.1), (Vl (Vs g8)), (Vl (Vs gz1))], 150, none⟩, (Rw Kf 32 (Vs g8) r8.2.1), (Rw Kf 32 (Vs gz1) r8.2.2)]) (fun _ => rfl) rfl rfl) (wt_none' rfl) fun ⟨⟩ => ?_
   refine s0 (rd_move' rfl) ?_
   obtain ⟨r23, hr23, hp⟩ := bind_some hp
   refine sx_ox' (ox_callg' (ent_inv' rfl rfl (inv_ptr0 (inv76_FlatCoords _))) (gogeom_geom0_FlatCoords_v7_sim _ _ _ _ _ hr23 : Sx.Fn Try.prog 133 [(Vp wa1)] [⟨.pointer (some wa1), [(Vi r21.1), (Vi r21.2.1), (Sl Kf r21.2.2.1), (Vi r21.2.2.2.1), (Sl (Kl (Ki .i64)) r21.2.2.2.2)], 143, none⟩] (fun x : Unit => (Sl Kf r23.2.2.1)) (fun x => [⟨.pointer (some wa1), [(Vi r23.1), (Vi r23.2.1), (Sl Kf r23.2.2.1), (Vi r23.2.2.2.1), (Sl (Kl (Ki .i64)) r23.2.2.2.2)], 143, none⟩])) [0] [1, 2, 3] (by decide) (pick_cons rfl pick_nil) (pick_cons rfl (pick_cons rfl (pick_cons rfl pick_nil))) (Hn := fun x : Unit => [⟨.pointer (some wa1), [(Vi r23.1), (Vi r23.2.1), (Sl Kf r23.2.2.1), (Vi r23.2.2.2.1), (Sl (Kl (Ki .i64)) r23.2.2.2.2)], 143, none⟩, ⟨.pointer (some wa0), [(Vi r8.1), (Vl (Vs g8)), (Vl (Vs gz1))], 150, none⟩, (Rw Kf 32 (Vs g8) r8.2.1), (Rw Kf 32 (Vs gz1) r8.2.2)]) (fun _ => rfl) rfl rfl) (wt_none' rfl) fun ⟨⟩ => ?_
   refine s0 (rd_len' rfl Try.underlying22) ?_
   obtain ⟨r25, hr25, hp⟩ := bind_some hp
   refine sx_ox' (ox_callg' (ent_fn' Try.func87 isn87 rfl rfl) (gogeom_Bounds_extendXYZMFlatCoordsWithXYM_sim _ _ _ _ _ _ hr25 : Sx.Fn Try.prog 87 [(Vp wa0), (Sl Kf r21.2.2.1), (Vi 0), (Vi (r23.2.2.1.length : Int))] [⟨.pointer (some wa0), [(Vi r8.1), (Vl (Vs g8)), (Vl (Vs gz1))], 150, none⟩, (Rw Kf 32 (Vs g8) r8.2.1), (Rw Kf 32 (Vs gz1) r8.2.2)] (fun x : Unit => (Vp wa0)) (fun x => [⟨.pointer (some wa0), [(Vi r25.1), (Vl (Vs g8)), (Vl (Vs gz1))], 150, none⟩, (Rw Kf 32 (Vs g8) r25.2.1), (Rw Kf 32 (Vs gz1) r25.2.2)])) [1, 2, 3] [0] (by decide) (pick_cons rfl (pick_cons rfl (pick_cons rfl pick_nil))) (pick_cons rfl pick_nil) (Hn := fun x : Unit => [⟨.pointer (some wa0), [(Vi r25.1), (Vl (Vs g8)), (Vl (Vs gz1))], 150, none⟩, (Rw Kf 32 (Vs g8) r25.2.1), (Rw Kf 32 (Vs gz1) r25.2.2), ⟨.pointer (some wa1), [(Vi r23.1), (Vi r23.2.1), (Sl Kf r23.2.2.1), (Vi r23.2.2.2.1), (Sl (Kl (Ki .i64)) r23.2.2.2.2)], 143, none⟩]) (fun _ => rfl) rfl rfl) (wt_none' rfl) fun ⟨⟩ => ?_
   refine s0 (rd_assign' rfl) ?_
   refine nk hK6 ?_
   refine cx_retc' ?_
   replace hp := Option.some.inj hp
   subst hp
   refine tx_pick' (L' := [(4, (Vp wa0))]) (H' := [⟨.pointer (some wa0), [(Vi r25.1), (Vl (Vs g8)), (Vl (Vs gz1))], 150, none⟩, (Rw Kf 32 (Vs g8) r25.2.1), (Rw Kf 32 (Vs gz1) r25.2.2), ⟨.pointer (some wa1), [(Vi r23.1), (Vi r23.2.1), (Sl Kf r23.2.2.1), (Vi r23.2.2.2.1), (Sl (Kl (Ki .i64)) r23.2.2.2.2)], 143, none⟩]) [0, 1, 2, 3] (sub_cons rfl sub_nil) (by decide) (pick_cons rfl (pick_cons rfl (pick_cons rfl (pick_cons rfl pick_nil)))) ?_
   exact tx_ret1' Try.results55 rfl (g8, gz1) (rv_tmp' rfl) (List.Sublist.refl _)
  replace hp := (br_f h2).symm.trans hp
  refine cx_skip' ?_
  show TX E K3 _
  refine tx_k' hK3 ?_
  refine cr fun K7 hK7 => ?_
  refine s0 (rd_move' rfl) ?_
  refine s0 (rd_move' rfl) ?_
  obtain ⟨r28, hr28, hp⟩ := bind_some hp
  refine sx_ox' (ox_callg' (ent_inv' rfl rfl (inv_ptr0 (inv76_FlatCoords _))) (gogeom_geom0_FlatCoords_v7_sim _ _ _ _ _ hr28 : Sx.Fn Try.prog 133 [(Vp wa1)] [⟨.pointer (some wa1), [(Vi x1), (Vi x2), (Sl Kf x3), (Vi x4), (Sl (Kl (Ki .i64)) x5)], 143, none⟩] (fun x : Unit => (Sl Kf r28.2.2.1)) (fun x => [⟨.pointer (some wa1), [(Vi r28.1), (Vi r28.2.1), (Sl Kf r28.2.2.1), (Vi r28.2.2.2.1), (Sl (Kl (Ki .i64)) r28.2.2.2.2)], 143, none⟩])) [3] [0, 1, 2] (by decide) (pick_cons rfl pick_nil) (pick_cons rfl (pick_cons rfl (pick_cons rfl pick_nil))) (Hn := fun x : Unit => [⟨.pointer (some wa1), [(Vi r28.1), (Vi r28.2.1), (Sl Kf r28.2.2.1), (Vi r28.2.2.2.1), (Sl (Kl (Ki .i64)) r28.2.2.2.2)], 143, none⟩, ⟨.pointer (some wa0), [(Vi r8.1), (Vl (Vs g8)), (Vl (Vs gz1))], 150, none⟩, (Rw Kf 32 (Vs g8) r8.2.1), (Rw Kf 32 (Vs gz1) r8.2.2)]) (fun _ => rfl) rfl rfl) (wt_none' rfl) fun ⟨⟩ => ?_
  refine s0 (rd_move' rfl) ?_
  obtain ⟨r30, hr30, hp⟩ := bind_some hp
  refine sx_ox' (ox_callg' (ent_inv' rfl rfl (inv_ptr0 (inv76_FlatCoords _))) (gogeom_geom0_FlatCoords_v7_sim _ _ _ _ _ hr30 : Sx.Fn Try.prog 133 [(Vp wa1)] [⟨.pointer (some wa1), [(Vi r28.1), (Vi r28.2.1), (Sl Kf r28.2.2.1), (Vi r28.2.2.2.1), (Sl (Kl (Ki .i64)) r28.2.2.2.2)], 143, none⟩] (fun x : Unit => (Sl Kf r30.2.2.1)) (fun x => [⟨.pointer (some wa1), [(Vi r30.1), (Vi r30.2.1), (Sl Kf r30.2.2.1), (Vi r30.2.2.2.1), (Sl (Kl (Ki .i64)) r30.2.2.2.2)], 143, none⟩])) [0] [1, 2, 3] (by decide) (pick_cons rfl pick_nil) (pick_cons rfl (pick_cons rfl (pick_cons rfl pick_nil))) (Hn := fun x : Unit => [⟨.pointer (some wa1), [(Vi r30.1), (Vi r30.2.1), (Sl Kf r30.2.2.1), (Vi r30.2.2.2.1), (Sl (Kl (Ki .i64)) r30.2.2.2.2)], 143, none⟩, ⟨.pointer (some wa0), [(Vi r8.1), (Vl (Vs g8)), (Vl (Vs gz1))], 150, none⟩, (Rw Kf 32 (Vs g8) r8.2.1), (Rw Kf 32 (Vs gz1) r8.2.2)]) (fun _ => rfl) rfl rfl) (wt_none' rfl) fun ⟨⟩ => ?_
  refine s0 (rd_len' rfl Try.underlying22) ?_
  refine s0 (rd_move' rfl) ?_
  obtain ⟨r33, hr33, hp⟩ := bind_some hp
  refine sx_ox' (ox_callg' (ent_inv' rfl rfl (inv_ptr0 (inv76_Stride _))) (gogeom_geom0_Stride_v7_sim _ _ _ _ _ hr33 : Sx.Fn Try.prog 137 [(Vp wa1)] [⟨.pointer (some wa1), [(Vi r30.1), (Vi r30.2.1), (Sl Kf r30.2.2.1), (Vi r30.2.2.2.1), (Sl (Kl (Ki .i64)) r30.2.2.2.2)], 143, none⟩] (fun x : Unit => (Vi r33.2.1)) (fun x => [⟨.pointer (some wa1), [(Vi r33.1), (Vi r33.2.1), (Sl Kf r33.2.2.1), (Vi r33.2.2.2.1), (Sl (Kl (Ki .i64)) r33.2.2.2.2)], 143, none⟩])) [0] [1, 2, 3] (by decide) (pick_cons rfl pick_nil) (pick_cons rfl (pick_cons rfl (pick_cons rfl pick_nil))) (Hn := fun x : Unit => [⟨.pointer (some wa1), [(Vi r33.1), (Vi r33.2.1), (Sl Kf r33.2.2.1), (Vi r33.2.2.2.1), (Sl (Kl (Ki .i64)) r33.2.2.2.2)], 143, none⟩, ⟨.pointer (some wa0), [(Vi r8.1), (Vl (Vs g8)), (Vl (Vs gz1))], 150, none⟩, (Rw Kf 32 (Vs g8) r8.2.1), (Rw Kf 32 (Vs gz1) r8.2.2)]) (fun _ => rfl) rfl rfl) (wt_none' rfl) fun ⟨⟩ => ?_
  obtain ⟨r34, hr34, hp⟩ := bind_some hp
  refine sx_ox' (ox_callg' (ent_fn' Try.func88 isn88 rfl rfl) (gogeom_Bounds_extendFlatCoords_sim _ _ _ _ _ _ _ hr34 : Sx.Fn Try.prog 88 [(Vp wa0), (Sl Kf r28.2.2.1), (Vi 0), (Vi (r30.2.2.1.length : Int)), (Vi r33.2.1)] [⟨.pointer (some wa0), [(Vi r8.1), (Vl (Vs g8)), (Vl (Vs gz1))], 150, none⟩, (Rw Kf 32 (Vs g8) r8.2.1), (Rw Kf 32 (Vs gz1) r8.2.2)] (fun x : Gs × Gs => (Vp wa0)) (fun x => [⟨.pointer (some wa0), [(Vi r34.1), (Vl (Vs x.1)), (Vl (Vs x.2))], 150, none⟩, (Rw Kf 32 (Vs x.1) r34.2.1), (Rw Kf 32 (Vs x.2) r34.2.2)])) [1, 2, 3] [0] (by decide) (pick_cons rfl (pick_cons rfl (pick_cons rfl pick_nil))) (pick_cons rfl pick_nil) (Hn := fun x : Gs × Gs => [⟨.pointer (some wa0), [(Vi r34.1), (Vl (Vs x.1)), (Vl (Vs x.2))], 150, none⟩, (Rw Kf 32 (Vs x.1) r34.2.1), (Rw Kf 32 (Vs x.2) r34.2.2), ⟨.pointer (some wa1), [(Vi r33.1), (Vi r33.2.1), (Sl Kf r33.2.2.1), (Vi r33.2.2.2.1), (Sl (Kl (Ki .i64)) r33.2.2.2.2)], 143, none⟩]) (fun _ => rfl) rfl rfl) (wt_none' rfl) fun ⟨g34, gz2⟩ => ?_
  refine s0 (rd_assign' rfl) ?_
  refine nk hK7 ?_
  refine cx_retc' ?_
  replace hp := Option.some.inj hp
  subst hp
  refine tx_pick' (L' := [(4, (Vp wa0))]) (H' := [⟨.pointer (some wa0), [(Vi r34.1), (Vl (Vs g34)), (Vl (Vs gz2))], 150, none⟩, (Rw Kf 32 (Vs g34) r34.2.1), (Rw Kf 32 (Vs gz2) r34.2.2), ⟨.pointer (some wa1), [(Vi r33.1), (Vi r33.2.1), (Sl Kf r33.2.2.1), (Vi r33.2.2.2.1), (Sl (Kl (Ki .i64)) r33.2.2.2.2)], 143, none⟩]) [0, 1, 2, 3] (sub_cons rfl sub_nil) (by decide) (pick_cons rfl (pick_cons rfl (pick_cons rfl (pick_cons rfl pick_nil)))) ?_
  exact tx_ret1' Try.results55 rfl (g34, gz2) (rv_tmp' rfl) (List.Sublist.refl _)
 intro K5 hK5
 rcases br_cases hp with ⟨h1, hp⟩ | ⟨h1, hp⟩
 ·refine sx_rd' (rd_move' rfl) rfl rfl (wt_is' (wt_guard' rfl rfl rfl) (beq_tt h1)) ?_
  obtain ⟨r16, hr16, hp⟩ := bind_some hp
  refine sx_ox' (ox_callg' (ent_inv' rfl rfl (inv_ptr0 (inv76_Layout _))) (gogeom_geom0_Layout_v7_sim _ _ _ _ _ hr16 : Sx.Fn Try.prog 134 [(Vp wa1)] [⟨.pointer (some wa1), [(Vi r7.1), (Vi r7.2.1), (Sl Kf r7.2.2.1), (Vi r7.2.2.2.1), (Sl (Kl (Ki .i64)) r7.2.2.2.2)], 143, none⟩] (fun x : Unit => (Vi r16.1)) (fun x => [⟨.pointer (some wa1), [(Vi r16.1), (Vi r16.2.1), (Sl Kf r16.2.2.1), (Vi r16.2.2.2.1), (Sl (Kl (Ki .i64)) r16.2.2.2.2)], 143, none⟩])) [3] [0, 1, 2] (by decide) (pick_cons rfl pick_nil) (pick_cons rfl (pick_cons rfl (pick_cons rfl pick_nil))) (Hn := fun x : Unit => [⟨.pointer (some wa1), [(Vi r16.1), (Vi r16.2.1), (Sl Kf r16.2.2.1), (Vi r16.2.2.2.1), (Sl (Kl (Ki .i64)) r16.2.2.2.2)], 143, none⟩, ⟨.pointer (some wa0), [(Vi r8.1), (Vl (Vs g8)), (Vl (Vs gz1))], 150, none⟩, (Rw Kf 32 (Vs g8) r8.2.1), (Rw Kf 32 (Vs gz1) r8.2.2)]) (fun _ => rfl) rfl rfl) (wt_is' (wt_guard' rfl rfl rfl) (beq_tt h1)) fun ⟨⟩ => ?_
  refine sx_rd' (rd_bin' rfl rfl eg_int ru_eql) rfl rfl (wt_is' (wt_guard' rfl rfl rfl) (beq_tt h1)) ?_
  refine s0 (rd_pick_true' rfl h1 rfl) ?_
  refine sx_nil' ?_
  show TX E K5 _
  exact tx_pick' [1, 2, 3, 0] (sub_cons rfl (sub_cons rfl (sub_cons rfl sub_nil))) (by decide) (pick_cons rfl (pick_cons rfl (pick_cons rfl (pick_cons rfl pick_nil)))) (hK5 (r16.1, r16.2.1, r16.2.2.1, r16.2.2.2.1, r16.2.2.2.2, (decide (r16.1 = 3))) hp)
 refine sx_skip' rfl rfl (wt_is' (wt_guard' rfl rfl rfl) (beq_ft h1)) ?_
 refine sx_skip' rfl rfl (wt_is' (wt_guard' rfl rfl rfl) (beq_ft h1)) ?_
 refine sx_skip' rfl rfl (wt_is' (wt_guard' rfl rfl rfl) (beq_ft h1)) ?_
 refine s0 (rd_pick_false' rfl h1 rfl) ?_
 refine sx_nil' ?_
 show TX E K5 _
 exact tx_pick' [0, 1, 2, 3] (sub_cons rfl (sub_cons rfl (sub_cons rfl sub_nil))) (by decide) (pick_cons rfl (pick_cons rfl (pick_cons rfl (pick_cons rfl pick_nil)))) (hK5 (r7.1, r7.2.1, r7.2.2.1, r7.2.2.2.1, r7.2.2.2.2, false) hp)

def gogeom_GeometryCollection_Layout (k : Nat) (a0_0 : Int) (a0_2 : Int) : Option (Int × Int × Int) :=
 br (!decide (a0_0 = 0))
  (some (a0_0, a0_2, a0_0))
  (some (a0_0, a0_2, 0))

def impl_BoxExtend (k : Nat) (a0_0 : Int) (a0_1 : List Nat) (a0_2 : List Nat) (a1_0 : Int) (a1_1 : Int) (a1_2 : Int) (a1_3 : List Nat) (a1_4 : List Int) (a1_5 : List (List Int)) (a1_6 : List T27) : Option (Int × (List Nat) × (List Nat) × Bool) :=
 (impl_box k a0_0 a0_1 a0_2) >>= fun r8 =>
 (impl_geometry k a1_0 a1_1 a1_2 a1_3 a1_4 a1_5 a1_6) >>= fun r10 =>
 match r10 with
  | (.inl y4) =>
   ((gogeom_Bounds_Extend k r8.1 r8.2.1 r8.2.2 y4.1 y4.2.1 y4.2.2.1 y4.2.2.2) >>= fun r11 =>
   (impl_plainBox k r11.1 r11.2.1 r11.2.2.1) >>= fun r12 =>
   some (r12.1, r12.2.2.2.1, r12.2.2.2.2, true))
  | (.inr (.inl y4)) =>
   ((gogeom_Bounds_Extend_v2 k r8.1 r8.2.1 r8.2.2 y4.1 y4.2.1 y4.2.2.1 y4.2.2.2) >>= fun r11 =>
   (impl_plainBox k r11.1 r11.2.1 r11.2.2.1) >>= fun r12 =>
   some (r12.1, r12.2.2.2.1, r12.2.2.2.2, true))
  | (.inr (.inr (.inl y4))) =>
   ((gogeom_Bounds_Extend_v3 k r8.1 r8.2.1 r8.2.2 y4.1 y4.2.1 y4.2.2.1 y4.2.2.2) >>= fun r11 =>
   (impl_plainBox k r11.1 r11.2.1 r11.2.2.1) >>= fun r12 =>
   some (r12.1, r12.2.2.2.1, r12.2.2.2.2, true))
  | (.inr (.inr (.inr (.inl y4)))) =>
   ((gogeom_Bounds_Extend_v4 k r8.1 r8.2.1 r8.2.2 y4.1 y4.2.1 y4.2.2.1 y4.2.2.2.1 y4.2.2.2.2) >>= fun r11 =>
   (impl_plainBox k r11.1 r11.2.1 r11.2.2.1) >>= fun r12 =>
   some (r12.1, r12.2.2.2.1, r12.2.2.2.2, true))
  | (.inr (.inr (.inr (.inr (.inl y4))))) =>
   ((gogeom_Bounds_Extend_v5 k r8.1 r8.2.1 r8.2.2 y4.1 y4.2.1 y4.2.2.1 y4.2.2.2.1 y4.2.2.2.2) >>= fun r11 =>
   (impl_plainBox k r11.1 r11.2.1 r11.2.2.1) >>= fun r12 =>
   some (r12.1, r12.2.2.2.1, r12.2.2.2.2, true))
  | (.inr (.inr (.inr (.inr (.inr (.inl y4)))))) =>
   ((gogeom_Bounds_Extend_v6 k r8.1 r8.2.1 r8.2.2 y4.1 y4.2.1 y4.2.2.1 y4.2.2.2.1 y4.2.2.2.2) >>= fun r11 =>
   (impl_plainBox k r11.1 r11.2.1 r11.2.2.1) >>= fun r12 =>
   some (r12.1, r12.2.2.2.1, r12.2.2.2.2, true))
  | (.inr (.inr (.inr (.inr (.inr (.inr (.inl y4))))))) =>
   ((gogeom_Bounds_Extend_v7 k r8.1 r8.2.1 r8.2.2 y4.1 y4.2.1 y4.2.2.1 y4.2.2.2.1 y4.2.2.2.2) >>= fun r11 =>
   (impl_plainBox k r11.1 r11.2.1 r11.2.2.1) >>= fun r12 =>
   some (r12.1, r12.2.2.2.1, r12.2.2.2.2, true))
  | (.inr (.inr (.inr (.inr (.inr (.inr (.inr y4))))))) =>
   (none)

theorem impl_BoxExtend_sim {k : Nat}  (a0_0 : Int) (a0_1 : List Nat) (a0_2 : List Nat) (a1_0 : Int) (a1_1 : Int) (a1_2 : Int) (a1_3 : List Nat) (a1_4 : List Int) (a1_5 : List (List Int)) (a1_6 : List T27) {out : Int × (List Nat) × (List Nat) × Bool} (hp : impl_BoxExtend k a0_0 a0_1 a0_2 a1_0 a1_1 a1_2 a1_3 a1_4 a1_5 a1_6 = some out) : Sx.Fn Try.prog 23 [(Ag [(Vi a0_0), (Sl Kf a0_1), (Sl Kf a0_2)]), (Ag [(Vi a1_0), (Vi a1_1), (Vi a1_2), (Sl Kf a1_3), (Sl (Ki .i64) a1_4), (Sl (Kl (Ki .i64)) a1_5), (Sl KT27 a1_6)])] [] (fun w : Unit => (Tu [(Ag [(Vi out.1), (Sl Kf out.2.1), (Sl Kf out.2.2.1)]), (Vb out.2.2.2)])) (fun w => []) := by
 unfold impl_BoxExtend at hp
 refine fnD_of Try.func23 rfl Try.ntmps23 rfl fun E hM => ?_
 refine cr fun K1 hK1 => ?_
 refine sx_ox' (ox_box' rfl (lv_ag _) rfl rfl) (wt_none' rfl) fun q2 => ?_
 refine sx_ox' (ox_box' rfl (lv_ag _) rfl rfl) (wt_none' rfl) fun q3 => ?_
 refine sx_ox' (ox_alloc' info43 rfl rfl rfl rfl (l := [(Vi 0), Vn, Vn]) rfl) (wt_none' rfl) fun q4 => ?_
 refine sx_ox' (ox_alloc' info4 rfl rfl rfl rfl (l := [(Vb false)]) rfl) (wt_none' rfl) fun q5 => ?_
 refine nk hK1 ?_
 refine cr fun K2 hK2 => ?_
 refine s0 (rd_mkfunc' (us := [.pointer (some q4), .pointer (some q5)]) rfl) ?_
 refine sx_ox' (ox_defer' rfl rfl) (wt_none' rfl) fun _ => ?_
 refine nk hK2 ?_
 refine cx_seq' fun K3 hK3 => ?_
 refine cx_plan' [] [(4, 1), (5, 1), (6, 1), (7, 1)] [(0, 1), (2, 1), (1, 0), (3, 0), (4, 0), (5, 0), (6, 0), (7, 0)] mixed (by kernel_rfl) ?_
 refine px_rd' rfl (rd_load_agg' (i := 3) (o := 0) (nn := 3) rfl ⟨rfl, rfl, rfl, rfl⟩ rfl agg43 (l' := [(Vi a0_0), (Sl Kf a0_1), (Sl Kf a0_2)]) rfl) rfl rfl (wt_none' rfl) ?_
 refine px_rd' rfl (rd_load_agg' (i := 2) (o := 0) (nn := 7) rfl ⟨rfl, rfl, rfl, rfl⟩ rfl agg27 (l' := [(Vi a1_0), (Vi a1_1), (Vi a1_2), (Sl Kf a1_3), (Sl (Ki .i64) a1_4), (Sl (Kl (Ki .i64)) a1_5), (Sl KT27 a1_6)]) rfl) rfl rfl (wt_none' rfl) ?_
 obtain ⟨r8, hr8, hp⟩ := bind_some hp
 refine px_ox' rfl (ox_calln' (ent_fn' Try.func54 isn54 rfl rfl) (impl_box_sim _ _ _ hr8 : Sx.Fn Try.prog 54 [(Ag [(Vi a0_0), (Sl Kf a0_1), (Sl Kf a0_2)])] [] (fun x : Addr × Gs × Gs => (Vp x.1)) (fun x => [⟨.pointer (some x.1), [(Vi r8.1), (Vl (Vs x.2.1)), (Vl (Vs x.2.2))], 150, none⟩, (Rw Kf 32 (Vs x.2.1) r8.2.1), (Rw Kf 32 (Vs x.2.2) r8.2.2)])) (Hn := fun x : Addr × Gs × Gs => [⟨.pointer (some x.1), [(Vi r8.1), (Vl (Vs x.2.1)), (Vl (Vs x.2.2))], 150, none⟩, (Rw Kf 32 (Vs x.2.1) r8.2.1), (Rw Kf 32 (Vs x.2.2) r8.2.2), ⟨.pointer (some q5), [(Vb false)], 4, none⟩, ⟨.pointer (some q4), [(Vi 0), Vn, Vn], 43, none⟩, ⟨.pointer (some q3), [(Vi a1_0), (Vi a1_1), (Vi a1_2), (Sl Kf a1_3), (Sl (Ki .i64) a1_4), (Sl (Kl (Ki .i64)) a1_5), (Sl KT27 a1_6)], 27, none⟩, ⟨.pointer (some q2), [(Vi a0_0), (Sl Kf a0_1), (Sl Kf a0_2)], 43, none⟩]) (fun _ => rfl) rfl rfl) rfl bs_nil (wt_none' rfl) fun ⟨q8, g8, gz1⟩ => ?_
 obtain ⟨r10, hr10, hp⟩ := bind_some hp
 rcases r10 with y4 | y4 | y4 | y4 | y4 | y4 | y4 | y4
 ·dsimp only at hp
  refine px_ox' rfl (ox_calln' (ent_fn' Try.func30 isn30 rfl rfl) (impl_geometry_sim _ _ _ _ _ _ _ hr10 : Sx.Fn Try.prog 30 [(Ag [(Vi a1_0), (Vi a1_1), (Vi a1_2), (Sl Kf a1_3), (Sl (Ki .i64) a1_4), (Sl (Kl (Ki .i64)) a1_5), (Sl KT27 a1_6)])] [] (fun x : Addr => (If 72 (Vp x))) (fun x => [⟨.pointer (some x), [(Vi y4.1), (Vi y4.2.1), (Sl Kf y4.2.2.1), (Vi y4.2.2.2)], 135, none⟩])) (Hn := fun x : Addr => [⟨.pointer (some x), [(Vi y4.1), (Vi y4.2.1), (Sl Kf y4.2.2.1), (Vi y4.2.2.2)], 135, none⟩, ⟨.pointer (some q8), [(Vi r8.1), (Vl (Vs g8)), (Vl (Vs gz1))], 150, none⟩, (Rw Kf 32 (Vs g8) r8.2.1), (Rw Kf 32 (Vs gz1) r8.2.2), ⟨.pointer (some q5), [(Vb false)], 4, none⟩, ⟨.pointer (some q4), [(Vi 0), Vn, Vn], 43, none⟩, ⟨.pointer (some q3), [(Vi a1_0), (Vi a1_1), (Vi a1_2), (Sl Kf a1_3), (Sl (Ki .i64) a1_4), (Sl (Kl (Ki .i64)) a1_5), (Sl KT27 a1_6)], 27, none⟩, ⟨.pointer (some q2), [(Vi a0_0), (Sl Kf a0_1), (Sl Kf a0_2)], 43, none⟩]) (fun _ => rfl) rfl rfl) rfl bs_nil (wt_none' rfl) fun q10 => ?_
  obtain ⟨r11, hr11, hp⟩ := bind_some hp
  refine px_oxb' (is := [1, 2, 3, 0]) rfl (oxb_callg (ent_fn' Try.func55 isn55 rfl rfl) (gogeom_Bounds_Extend_sim _ _ _ _ _ _ _ hr11 : Sx.Fn Try.prog 55 [(Vp q8), (If 72 (Vp q10))] [⟨.pointer (some q8), [(Vi r8.1), (Vl (Vs g8)), (Vl (Vs gz1))], 150, none⟩, (Rw Kf 32 (Vs g8) r8.2.1), (Rw Kf 32 (Vs gz1) r8.2.2), ⟨.pointer (some q10), [(Vi y4.1), (Vi y4.2.1), (Sl Kf y4.2.2.1), (Vi y4.2.2.2)], 135, none⟩] (fun x : Gs × Gs => (Vp q8)) (fun x => [⟨.pointer (some q8), [(Vi r11.1), (Vl (Vs x.1)), (Vl (Vs x.2))], 150, none⟩, (Rw Kf 32 (Vs x.1) r11.2.1), (Rw Kf 32 (Vs x.2) r11.2.2.1), ⟨.pointer (some q10), [(Vi r11.2.2.2.1), (Vi r11.2.2.2.2.1), (Sl Kf r11.2.2.2.2.2.1), (Vi r11.2.2.2.2.2.2)], 135, none⟩])) [1, 2, 3, 0] [4, 5, 6, 7] (by decide) (pick_cons rfl (pick_cons rfl (pick_cons rfl (pick_cons rfl pick_nil)))) (pick_cons rfl (pick_cons rfl (pick_cons rfl (pick_cons rfl pick_nil)))) (Hn := fun x : Gs × Gs => [⟨.pointer (some q8), [(Vi r11.1), (Vl (Vs x.1)), (Vl (Vs x.2))], 150, none⟩, (Rw Kf 32 (Vs x.1) r11.2.1), (Rw Kf 32 (Vs x.2) r11.2.2.1), ⟨.pointer (some q10), [(Vi r11.2.2.2.1), (Vi r11.2.2.2.2.1), (Sl Kf r11.2.2.2.2.2.1), (Vi r11.2.2.2.2.2.2)], 135, none⟩, ⟨.pointer (some q5), [(Vb false)], 4, none⟩, ⟨.pointer (some q4), [(Vi 0), Vn, Vn], 43, none⟩, ⟨.pointer (some q3), [(Vi a1_0), (Vi a1_1), (Vi a1_2), (Sl Kf a1_3), (Sl (Ki .i64) a1_4), (Sl (Kl (Ki .i64)) a1_5), (Sl KT27 a1_6)], 27, none⟩, ⟨.pointer (some q2), [(Vi a0_0), (Sl Kf a0_1), (Sl Kf a0_2)], 43, none⟩]) (fun _ => rfl) rfl rfl) (pick_cons rfl (pick_cons rfl (pick_cons rfl (pick_cons rfl pick_nil)))) rfl bl_nil (wt_none' rfl) fun ⟨g11, gz2⟩ => ?_
  obtain ⟨r12, hr12, hp⟩ := bind_some hp
  refine px_oxb' (is := [0, 1, 2]) rfl (oxb_callg (ent_fn' Try.func53 isn53 rfl rfl) (impl_plainBox_sim _ _ _ hr12 : Sx.Fn Try.prog 53 [(Vp q8)] [⟨.pointer (some q8), [(Vi r11.1), (Vl (Vs g11)), (Vl (Vs gz2))], 150, none⟩, (Rw Kf 32 (Vs g11) r11.2.1), (Rw Kf 32 (Vs gz2) r11.2.2.1)] (fun x : Unit => (Ag [(Vi r12.1), (Sl Kf r12.2.2.2.1), (Sl Kf r12.2.2.2.2)])) (fun x => [⟨.pointer (some q8), [(Vi r12.1), (Vl (Vs g11)), (Vl (Vs gz2))], 150, none⟩, (Rw Kf 32 (Vs g11) r12.2.1), (Rw Kf 32 (Vs gz2) r12.2.2.1)])) [0, 1, 2] [3, 4, 5, 6, 7] (by decide) (pick_cons rfl (pick_cons rfl (pick_cons rfl pick_nil))) (pick_cons rfl (pick_cons rfl (pick_cons rfl (pick_cons rfl (pick_cons rfl pick_nil))))) (Hn := fun x : Unit => [⟨.pointer (some q8), [(Vi r12.1), (Vl (Vs g11)), (Vl (Vs gz2))], 150, none⟩, (Rw Kf 32 (Vs g11) r12.2.1), (Rw Kf 32 (Vs gz2) r12.2.2.1), ⟨.pointer (some q10), [(Vi r11.2.2.2.1), (Vi r11.2.2.2.2.1), (Sl Kf r11.2.2.2.2.2.1), (Vi r11.2.2.2.2.2.2)], 135, none⟩, ⟨.pointer (some q5), [(Vb false)], 4, none⟩, ⟨.pointer (some q4), [(Vi 0), Vn, Vn], 43, none⟩, ⟨.pointer (some q3), [(Vi a1_0), (Vi a1_1), (Vi a1_2), (Sl Kf a1_3), (Sl (Ki .i64) a1_4), (Sl (Kl (Ki .i64)) a1_5), (Sl KT27 a1_6)], 27, none⟩, ⟨.pointer (some q2), [(Vi a0_0), (Sl Kf a0_1), (Sl Kf a0_2)], 43, none⟩]) (fun _ => rfl) rfl rfl) (pick_cons rfl (pick_cons rfl (pick_cons rfl pick_nil))) rfl bl_nil (wt_none' rfl) fun ⟨⟩ => ?_
  refine px_oxv' rfl (oxv_store (i := 5) (o := 0) rfl rfl (lv_ag _) ⟨rfl, rfl, rfl, rfl⟩ rfl info43 rfl (H' := [⟨.pointer (some q8), [(Vi r12.1), (Vl (Vs g11)), (Vl (Vs gz2))], 150, none⟩, (Rw Kf 32 (Vs g11) r12.2.1), (Rw Kf 32 (Vs gz2) r12.2.2.1), ⟨.pointer (some q10), [(Vi r11.2.2.2.1), (Vi r11.2.2.2.2.1), (Sl Kf r11.2.2.2.2.2.1), (Vi r11.2.2.2.2.2.2)], 135, none⟩, ⟨.pointer (some q5), [(Vb false)], 4, none⟩, ⟨.pointer (some q4), [(Vi r12.1), (Sl Kf r12.2.2.2.1), (Sl Kf r12.2.2.2.2)], 43, none⟩, ⟨.pointer (some q3), [(Vi a1_0), (Vi a1_1), (Vi a1_2), (Sl Kf a1_3), (Sl (Ki .i64) a1_4), (Sl (Kl (Ki .i64)) a1_5), (Sl KT27 a1_6)], 27, none⟩, ⟨.pointer (some q2), [(Vi a0_0), (Sl Kf a0_1), (Sl Kf a0_2)], 43, none⟩]) rfl) rfl rfl bo_nil (wt_none' rfl) fun _ => ?_
  refine px_oxv' rfl (oxv_store (i := 4) (o := 0) rfl rfl (lv_vl rfl rfl) ⟨rfl, rfl, rfl, rfl⟩ rfl info4 rfl (H' := [⟨.pointer (some q8), [(Vi r12.1), (Vl (Vs g11)), (Vl (Vs gz2))], 150, none⟩, (Rw Kf 32 (Vs g11) r12.2.1), (Rw Kf 32 (Vs gz2) r12.2.2.1), ⟨.pointer (some q10), [(Vi r11.2.2.2.1), (Vi r11.2.2.2.2.1), (Sl Kf r11.2.2.2.2.2.1), (Vi r11.2.2.2.2.2.2)], 135, none⟩, ⟨.pointer (some q5), [(Vb true)], 4, none⟩, ⟨.pointer (some q4), [(Vi r12.1), (Sl Kf r12.2.2.2.1), (Sl Kf r12.2.2.2.2)], 43, none⟩, ⟨.pointer (some q3), [(Vi a1_0), (Vi a1_1), (Vi a1_2), (Sl Kf a1_3), (Sl (Ki .i64) a1_4), (Sl (Kl (Ki .i64)) a1_5), (Sl KT27 a1_6)], 27, none⟩, ⟨.pointer (some q2), [(Vi a0_0), (Sl Kf a0_1), (Sl Kf a0_2)], 43, none⟩]) rfl) rfl rfl bo_nil (wt_none' rfl) fun _ => ?_
  refine px_nil' ?_
  show TX E K3 _
  refine tx_k' hK3 ?_
  refine cx_retc' ?_
  replace hp := Option.some.inj hp
  subst hp
  refine tx_leave' (.inl rfl) rfl idle52 rfl Try.func52 isn52 rfl ?_
  refine tx_pick' (L' := [(4, (Vp q4)), (5, (Vp q5))]) (H' := [⟨.pointer (some q4), [(Vi r12.1), (Sl Kf r12.2.2.2.1), (Sl Kf r12.2.2.2.2)], 43, none⟩, ⟨.pointer (some q5), [(Vb true)], 4, none⟩]) [5, 4] (sub_cons rfl (sub_cons rfl sub_nil)) (by decide) (pick_cons rfl (pick_cons rfl pick_nil)) ?_
  exact tx_ret2' Try.results23 rfl () (rv_cell_agg' (i := 0) (o := 0) (nn := 3) rfl ⟨rfl, rfl, rfl, rfl⟩ rfl agg43 rfl) (rv_cell' (i := 1) (o := 0) rfl ⟨rfl, rfl, rfl, rfl⟩ rfl flat4) rfl (List.nil_sublist _)
 ·dsimp only at hp
  refine px_ox' rfl (ox_calln' (ent_fn' Try.func30 isn30 rfl rfl) (impl_geometry_sim _ _ _ _ _ _ _ hr10 : Sx.Fn Try.prog 30 [(Ag [(Vi a1_0), (Vi a1_1), (Vi a1_2), (Sl Kf a1_3), (Sl (Ki .i64) a1_4), (Sl (Kl (Ki .i64)) a1_5), (Sl KT27 a1_6)])] [] (fun x : Addr => (If 75 (Vp x))) (fun x => [⟨.pointer (some x), [(Vi y4.1), (Vi y4.2.1), (Sl Kf y4.2.2.1), (Vi y4.2.2.2)], 138, none⟩])) (Hn := fun x : Addr => [⟨.pointer (some x), [(Vi y4.1), (Vi y4.2.1), (Sl Kf y4.2.2.1), (Vi y4.2.2.2)], 138, none⟩, ⟨.pointer (some q8), [(Vi r8.1), (Vl (Vs g8)), (Vl (Vs gz1))], 150, none⟩, (Rw Kf 32 (Vs g8) r8.2.1), (Rw Kf 32 (Vs gz1) r8.2.2), ⟨.pointer (some q5), [(Vb false)], 4, none⟩, ⟨.pointer (some q4), [(Vi 0), Vn, Vn], 43, none⟩, ⟨.pointer (some q3), [(Vi a1_0), (Vi a1_1), (Vi a1_2), (Sl Kf a1_3), (Sl (Ki .i64) a1_4), (Sl (Kl (Ki .i64)) a1_5), (Sl KT27 a1_6)], 27, none⟩, ⟨.pointer (some q2), [(Vi a0_0), (Sl Kf a0_1), (Sl Kf a0_2)], 43, none⟩]) (fun _ => rfl) rfl rfl) rfl bs_nil (wt_none' rfl) fun q10 => ?_
  obtain ⟨r11, hr11, hp⟩ := bind_some hp
  refine px_oxb' (is := [1, 2, 3, 0]) rfl (oxb_callg (ent_fn' Try.func55 isn55 rfl rfl) (gogeom_Bounds_Extend_v2_sim _ _ _ _ _ _ _ hr11 : Sx.Fn Try.prog 55 [(Vp q8), (If 75 (Vp q10))] [⟨.pointer (some q8), [(Vi r8.1), (Vl (Vs g8)), (Vl (Vs gz1))], 150, none⟩, (Rw Kf 32 (Vs g8) r8.2.1), (Rw Kf 32 (Vs gz1) r8.2.2), ⟨.pointer (some q10), [(Vi y4.1), (Vi y4.2.1), (Sl Kf y4.2.2.1), (Vi y4.2.2.2)], 138, none⟩] (fun x : Gs × Gs => (Vp q8)) (fun x => [⟨.pointer (some q8), [(Vi r11.1), (Vl (Vs x.1)), (Vl (Vs x.2))], 150, none⟩, (Rw Kf 32 (Vs x.1) r11.2.1), (Rw Kf 32 (Vs x.2) r11.2.2.1), ⟨.pointer (some q10), [(Vi r11.2.2.2.1), (Vi r11.2.2.2.2.1), (Sl Kf r11.2.2.2.2.2.1), (Vi r11.2.2.2.2.2.2)], 138, none⟩])) [1, 2, 3, 0] [4, 5, 6, 7] (by decide) (pick_cons rfl (pick_cons rfl (pick_cons rfl (pick_cons rfl pick_nil)))) (pick_cons rfl (pick_cons rfl (pick_cons rfl (pick_cons rfl pick_nil)))) (Hn := fun x : Gs × Gs => [⟨.pointer (some q8), [(Vi r11.1), (Vl (Vs x.1)), (Vl (Vs x.2))], 150, none⟩, (Rw Kf 32 (Vs x.1) r11.2.1), (Rw Kf 32 (Vs x.2) r11.2.2.1), ⟨.pointer (some q10), [(Vi r11.2.2.2.1), (Vi r11.2.2.2.2.1), (Sl Kf r11.2.2.2.2.2.1), (Vi r11.2.2.2.2.2.2)], 138, none⟩, ⟨.pointer (some q5), [(Vb false)], 4, none⟩, ⟨.pointer (some q4), [(Vi 0), Vn, Vn], 43, none⟩, ⟨.pointer (some q3), [(Vi a1_0), (Vi a1_1), (Vi a1_2), (Sl Kf a1_3), (Sl (Ki .i64) a1_4), (Sl (Kl (Ki .i64)) a1_5), (Sl KT27 a1_6)], 27, none⟩, ⟨.pointer (some q2), [(Vi a0_0), (Sl Kf a0_1), (Sl Kf a0_2)], 43, none⟩]) (fun _ => rfl) rfl rfl) (pick_cons rfl (pick_cons rfl (pick_cons rfl (pick_cons rfl pick_nil)))) rfl bl_nil (wt_none' rfl) fun ⟨g11, gz2⟩ => ?_
  obtain ⟨r12, hr12, hp⟩ := bind_some hp
  refine px_oxb' (is := [0, 1, 2]) rfl (oxb_callg (ent_fn' Try.func53 isn53 rfl rfl) (impl_plainBox_sim _ _ _ hr12 : Sx.Fn Try.prog 53 [(Vp q8)] [⟨.pointer (some q8), [(Vi r11.1), (Vl (Vs g11)), (Vl (Vs gz2))], 150, none⟩, (Rw Kf 32 (Vs g11) r11.2.1), (Rw Kf 32 (Vs gz2) r11.2.2.1)] (fun x : Unit => (Ag [(Vi r12.1), (Sl Kf r12.2.2.2.1), (Sl Kf r12.2.2.2.2)])) (fun x => [⟨.pointer (some q8), [(Vi r12.1), (Vl (Vs g11)), (Vl (Vs gz2))], 150, none⟩, (Rw Kf 32 (Vs g11) r12.2.1), (Rw Kf 32 (Vs gz2) r12.2.2.1)])) [0, 1, 2] [3, 4, 5, 6, 7] (by decide) (pick_cons rfl (pick_cons rfl (pick_cons rfl pick_nil))) (pick_cons rfl (pick_cons rfl (pick_cons rfl (pick_cons rfl (pick_cons rfl pick_nil))))) (Hn := fun x : Unit => [⟨.pointer (some q8), [(Vi r12.1), (Vl (Vs g11)), (Vl (Vs gz2))], 150, none⟩, (Rw Kf 32 (Vs g11) r12.2.1), (Rw Kf 32 (Vs gz2) r12.2.2.1), ⟨.pointer (some q10), [(Vi r11.2.2.2.1), (Vi r11.2.2.2.2.1), (Sl Kf r11.2.2.2.2.2.1), (Vi r11.2.2.2.2.2.2)], 138, none⟩, ⟨.pointer (some q5), [(Vb false)], 4, none⟩, ⟨.pointer (some q4), [(Vi 0), Vn, Vn], 43, none⟩, ⟨.pointer (some q3), [(Vi a1_0), (Vi a1_1), (Vi a1_2), (Sl Kf a1_3), (Sl (Ki .i64) a1_4), (Sl (Kl (Ki .i64)) a1_5), (Sl KT27 a1_6)], 27, none⟩, ⟨.pointer (some q2), [(Vi a0_0), (Sl Kf a0_1), (Sl Kf a0_2)], 43, none⟩]) (fun _ => rfl) rfl rfl) (pick_cons rfl (pick_cons rfl (pick_cons rfl pick_nil))) rfl bl_nil (wt_none' rfl) fun ⟨⟩ => ?_
  refine px_oxv' rfl (oxv_store (i := 5) (o := 0) rfl rfl (lv_ag _) ⟨rfl, rfl, rfl, rfl⟩ rfl info43 rfl (H' := [⟨.pointer (some q8), [(Vi r12.1), (Vl (Vs g11)), (Vl (Vs gz2))], 150, none⟩, (Rw Kf 32 (Vs g11) r12.2.1), (Rw Kf 32 (Vs gz2) r12.2.2.1), ⟨.pointer (some q10), [(Vi r11.2.2.2.1), (Vi r11.2.2.2.2.1), (Sl Kf r11.2.2.2.2.2.1), (Vi r11.2.2.2.2.2.2)], 138, none⟩, ⟨.pointer (some q5), [(Vb false)], 4, none⟩, ⟨.pointer (some q4), [(Vi r12.1), (Sl Kf r12.2.2.2.1), (Sl Kf r12.2.2.2.2)], 43, none⟩, ⟨.pointer (some q3), [(Vi a1_0), (Vi a1_1), (Vi a1_2), (Sl Kf a1_3), (Sl (Ki .i64) a1_4), (Sl (Kl (Ki .i64)) a1_5), (Sl KT27 a1_6)], 27, none⟩, ⟨.pointer (some q2), [(Vi a0_0), (Sl Kf a0_1), (Sl Kf a0_2)], 43, none⟩]) rfl) rfl rfl bo_nil (wt_none' rfl) fun _ => ?_
  refine px_oxv' rfl (oxv_store (i := 4) (o := 0) rfl rfl (lv_vl rfl rfl) ⟨rfl, rfl, rfl, rfl⟩ rfl info4 rfl (H' := [⟨.pointer (some q8), [(Vi r12.1), (Vl (Vs g11)), (Vl (Vs gz2))], 150, none⟩, (Rw Kf 32 (Vs g11) r12.2.1), (Rw Kf 32 (Vs gz2) r12.2.2.1), ⟨.pointer (some q10), [(Vi r11.2.2.2.1), (Vi r11.2.2.2.2.1), (Sl Kf r11.2.2.2.2.2.1), (Vi r11.2.2.2.2.2.2)], 138, none⟩, ⟨.pointer (some q5), [(Vb true)], 4, none⟩, ⟨.pointer (some q4), [(Vi r12.1), (Sl Kf r12.2.2.2.1), (Sl Kf r12.2.2.2.2)], 43, none⟩, ⟨.pointer (some q3), [(Vi a1_0), (Vi a1_1), (Vi a1_2), (Sl Kf a1_3), (Sl (Ki .i64) a1_4), (Sl (Kl (Ki .i64)) a1_5), (Sl KT27 a1_6)], 27, none⟩, ⟨.pointer (some q2), [(Vi a0_0), (Sl Kf a0_1), (Sl Kf a0_2)], 43, none⟩]) rfl) rfl rfl bo_nil (wt_none' rfl) fun _ => ?_
  refine px_nil' ?_
  show TX E K3 _
  refine tx_k' hK3 ?_
  refine cx_retc' ?_
  replace hp := Option.some.inj hp
  subst hp
  refine tx_leave' (.inl rfl) rfl idle52 rfl Try.func52 isn52 rfl ?_
  refine tx_pick' (L' := [(4, (Vp q4)), (5, (Vp q5))]) (H' := [⟨.pointer (some q4), [(Vi r12.1), (Sl Kf r12.2.2.2.1), (Sl Kf r12.2.2.2.2)], 43, none⟩, ⟨.pointer (some q5), [(Vb true)], 4, none⟩]) [5, 4] (sub_cons rfl (sub_cons rfl sub_nil)) (by decide) (pick_cons rfl (pick_cons rfl pick_nil)) ?_
  exact tx_ret2' Try.results23 rfl () (rv_cell_agg' (i := 0) (o := 0) (nn := 3) rfl ⟨rfl, rfl, rfl, rfl⟩ rfl agg43 rfl) (rv_cell' (i := 1) (o := 0) rfl ⟨rfl, rfl, rfl, rfl⟩ rfl flat4) rfl (List.nil_sublist _)
 ·dsimp only at hp
  refine px_ox' rfl (ox_calln' (ent_fn' Try.func30 isn30 rfl rfl) (impl_geometry_sim _ _ _ _ _ _ _ hr10 : Sx.Fn Try.prog 30 [(Ag [(Vi a1_0), (Vi a1_1), (Vi a1_2), (Sl Kf a1_3), (Sl (Ki .i64) a1_4), (Sl (Kl (Ki .i64)) a1_5), (Sl KT27 a1_6)])] [] (fun x : Addr => (If 69 (Vp x))) (fun x => [⟨.pointer (some x), [(Vi y4.1), (Vi y4.2.1), (Sl Kf y4.2.2.1), (Vi y4.2.2.2)], 128, none⟩])) (Hn := fun x : Addr => [⟨.pointer (some x), [(Vi y4.1), (Vi y4.2.1), (Sl Kf y4.2.2.1), (Vi y4.2.2.2)], 128, none⟩, ⟨.pointer (some q8), [(Vi r8.1), (Vl (Vs g8)), (Vl (Vs gz1))], 150, none⟩, (Rw Kf 32 (Vs g8) r8.2.1), (Rw Kf 32 (Vs gz1) r8.2.2), ⟨.pointer (some q5), [(Vb false)], 4, none⟩, ⟨.pointer (some q4), [(Vi 0), Vn, Vn], 43, none⟩, ⟨.pointer (some q3), [(Vi a1_0), (Vi a1_1), (Vi a1_2), (Sl Kf a1_3), (Sl (Ki .i64) a1_4), (Sl (Kl (Ki .i64)) a1_5), (Sl KT27 a1_6)], 27, none⟩, ⟨.pointer (some q2), [(Vi a0_0), (Sl Kf a0_1), (Sl Kf a0_2)], 43, none⟩]) (fun _ => rfl) rfl rfl) rfl bs_nil (wt_none' rfl) fun q10 => ?_
  obtain ⟨r11, hr11, hp⟩ := bind_some hp
  refine px_oxb' (is := [1, 2, 3, 0]) rfl (oxb_callg (ent_fn' Try.func55 isn55 rfl rfl) (gogeom_Bounds_Extend_v3_sim _ _ _ _ _ _ _ hr11 : Sx.Fn Try.prog 55 [(Vp q8), (If 69 (Vp q10))] [⟨.pointer (some q8), [(Vi r8.1), (Vl (Vs g8)), (Vl (Vs gz1))], 150, none⟩, (Rw Kf 32 (Vs g8) r8.2.1), (Rw Kf 32 (Vs gz1) r8.2.2), ⟨.pointer (some q10), [(Vi y4.1), (Vi y4.2.1), (Sl Kf y4.2.2.1), (Vi y4.2.2.2)], 128, none⟩] (fun x : Gs × Gs => (Vp q8)) (fun x => [⟨.pointer (some q8), [(Vi r11.1), (Vl (Vs x.1)), (Vl (Vs x.2))], 150, none⟩, (Rw Kf 32 (Vs x.1) r11.2.1), (Rw Kf 32 (Vs x.2) r11.2.2.1), ⟨.pointer (some q10), [(Vi r11.2.2.2.1), (Vi r11.2.2.2.2.1), (Sl Kf r11.2.2.2.2.2.1), (Vi r11.2.2.2.2.2.2)], 128, none⟩])) [1, 2, 3, 0] [4, 5, 6, 7] (by decide) (pick_cons rfl (pick_cons rfl (pick_cons rfl (pick_cons rfl pick_nil)))) (pick_cons rfl (pick_cons rfl (pick_cons rfl (pick_cons rfl pick_nil)))) (Hn := fun x : Gs × Gs => [⟨.pointer (some q8), [(Vi r11.1), (Vl (Vs x.1)), (Vl (Vs x.2))], 150, none⟩, (Rw Kf 32 (Vs x.1) r11.2.1), (Rw Kf 32 (Vs x.2) r11.2.2.1), ⟨.pointer (some q10), [(Vi r11.2.2.2.1), (Vi r11.2.2.2.2.1), (Sl Kf r11.2.2.2.2.2.1), (Vi r11.2.2.2.2.2.2)], 128, none⟩, ⟨.pointer (some q5), [(Vb false)], 4, none⟩, ⟨.pointer (some q4), [(Vi 0), Vn, Vn], 43, none⟩, ⟨.pointer (some q3), [(Vi a1_0), (Vi a1_1), (Vi a1_2), (Sl Kf a1_3), (Sl (Ki .i64) a1_4), (Sl (Kl (Ki .i64)) a1_5), (Sl KT27 a1_6)], 27, none⟩, ⟨.pointer (some q2), [(Vi a0_0), (Sl Kf a0_1), (Sl Kf a0_2)], 43, none⟩]) (fun _ => rfl) rfl rfl) (pick_cons rfl (pick_cons rfl (pick_cons rfl (pick_cons rfl pick_nil)))) rfl bl_nil (wt_none' rfl) fun ⟨g11, gz2⟩ => ?_
  obtain ⟨r12, hr12, hp⟩ := bind_some hp
  refine px_oxb' (is := [0, 1, 2]) rfl (oxb_callg (ent_fn' Try.func53 isn53 rfl rfl) (impl_plainBox_sim _ _ _ hr12 : Sx.Fn Try.prog 53 [(Vp q8)] [⟨.pointer (some q8), [(Vi r11.1), (Vl (Vs g11)), (Vl (Vs gz2))], 150, none⟩, (Rw Kf 32 (Vs g11) r11.2.1), (Rw Kf 32 (Vs gz2) r11.2.2.1)] (fun x : Unit => (Ag [(Vi r12.1), (Sl Kf r12.2.2.2.1), (Sl Kf r12.2.2.2.2)])) (fun x => [⟨.pointer (some q8), [(Vi r12.1), (Vl (Vs g11)), (Vl (Vs gz2))], 150, none⟩, (Rw Kf 32 (Vs g11) r12.2.1), (Rw Kf 32 (Vs gz2) r12.2.2.1)])) [0, 1, 2] [3, 4, 5, 6, 7] (by decide) (pick_cons rfl (pick_cons rfl (pick_cons rfl pick_nil))) (pick_cons rfl (pick_cons rfl (pick_cons rfl (pick_cons rfl (pick_cons rfl pick_nil))))) (Hn := fun x : Unit => [⟨.pointer (some q8), [(Vi r12.1), (Vl (Vs g11)), (Vl (Vs gz2))], 150, none⟩, (Rw Kf 32 (Vs g11) r12.2.1), (Rw Kf 32 (Vs gz2) r12.2.2.1), ⟨.pointer (some q10), [(Vi r11.2.2.2.1), (Vi r11.2.2.2.2.1), (Sl Kf r11.2.2.2.2.2.1), (Vi r11.2.2.2.2.2.2)], 128, none⟩, ⟨.pointer (some q5), [(Vb false)], 4, none⟩, ⟨.pointer (some q4), [(Vi 0), Vn, Vn], 43, none⟩, ⟨.pointer (some q3), [(Vi a1_0), (Vi a1_1), (Vi a1_2), (Sl Kf a1_3), (Sl (Ki .i64) a1_4), (Sl (Kl (Ki .i64)) a1_5), (Sl KT27 a1_6)], 27, none⟩, ⟨.pointer (some q2), [(Vi a0_0), (Sl Kf a0_1), (Sl Kf a0_2)], 43, none⟩]) (fun _ => rfl) rfl rfl) (pick_cons rfl (pick_cons rfl (pick_cons rfl pick_nil))) rfl bl_nil (wt_none' rfl) fun ⟨⟩ => ?_
  refine px_oxv' rfl (oxv_store (i := 5) (o := 0) rfl rfl (lv_ag _) ⟨rfl, rfl, rfl, rfl⟩ rfl info43 rfl (H' := [⟨.pointer (some q8), [(Vi r12.1), (Vl (Vs g11)), (Vl (Vs gz2))], 150, none⟩, (Rw Kf 32 (Vs g11) r12.2.1), (Rw Kf 32 (Vs gz2) r12.2.2.1), ⟨.pointer (some q10), [(Vi r11.2.2.2.1), (Vi r11.2.2.2.2.1), (Sl Kf r11.2.2.2.2.2.1), (Vi r11.2.2.2.2.2.2)], 128, none⟩, ⟨.pointer (some q5), [(Vb false)], 4, none⟩, ⟨.pointer (some q4), [(Vi r12.1), (Sl Kf r12.2.2.2.1), (Sl Kf r12.2.2.2.2)], 43, none⟩, ⟨.pointer (some q3), [(Vi a1_0), (Vi a1_1), (Vi a1_2), (Sl Kf a1_3), (Sl (Ki .i64) a1_4), (Sl (Kl (Ki .i64)) a1_5), (Sl KT27 a1_6)], 27, none⟩, ⟨.pointer (some q2), [(Vi a0_0), (Sl Kf a0_1), (Sl Kf a0_2)], 43, none⟩]) rfl) rfl rfl bo_nil (wt_none' rfl) fun _ => ?_
  refine px_oxv' rfl (oxv_store (i := 4) (o := 0) rfl rfl (lv_vl rfl rfl) ⟨rfl, rfl, rfl, rfl⟩ rfl info4 rfl (H' := [⟨.pointer (some q8), [(Vi r12.1), (Vl (Vs g11)), (Vl (Vs gz2))], 150, none⟩, (Rw Kf 32 (Vs g11) r12.2.1), (Rw Kf 32 (Vs gz2) r12.2.2.1), ⟨.pointer (some q10), [(Vi r11.2.2.2.1), (Vi r11.2.2.2.2.1), (Sl Kf r11.2.2.2.2.2.1), (Vi r11.2.2.2.2.2.2)], 128, none⟩, ⟨.pointer (some q5), [(Vb true)], 4, none⟩, ⟨.pointer (some q4), [(Vi r12.1), (Sl Kf r12.2.2.2.1), (Sl Kf r12.2.2.2.2)], 43, none⟩, ⟨.pointer (some q3), [(Vi a1_0), (Vi a1_1), (Vi a1_2), (Sl Kf a1_3), (Sl (Ki .i64) a1_4), (Sl (Kl (Ki .i64)) a1_5), (Sl KT27 a1_6)], 27, none⟩, ⟨.pointer (some q2), [(Vi a0_0), (Sl Kf a0_1), (Sl Kf a0_2)], 43, none⟩]) rfl) rfl rfl bo_nil (wt_none' rfl) fun _ => ?_
  refine px_nil' ?_
  show TX E K3 _
  refine tx_k' hK3 ?_
  refine cx_retc' ?_
  replace hp := Option.some.inj hp
  subst hp
  refine tx_leave' (.inl rfl) rfl idle52 rfl Try.func52 isn52 rfl ?_
  refine tx_pick' (L' := [(4, (Vp q4)), (5, (Vp q5))]) (H' := [⟨.pointer (some q4), [(Vi r12.1), (Sl Kf r12.2.2.2.1), (Sl Kf r12.2.2.2.2)], 43, none⟩, ⟨.pointer (some q5), [(Vb true)], 4, none⟩]) [5, 4] (sub_cons rfl (sub_cons rfl sub_nil)) (by decide) (pick_cons rfl (pick_cons rfl pick_nil)) ?_
  exact tx_ret2' Try.results23 rfl () (rv_cell_agg' (i := 0) (o := 0) (nn := 3) rfl ⟨rfl, rfl, rfl, rfl⟩ rfl agg43 rfl) (rv_cell' (i := 1) (o := 0) rfl ⟨rfl, rfl, rfl, rfl⟩ rfl flat4) rfl (List.nil_sublist _)
 ·dsimp only at hp
  refine px_ox' rfl (ox_calln' (ent_fn' Try.func30 isn30 rfl rfl) (impl_geometry_sim _ _ _ _ _ _ _ hr10 : Sx.Fn Try.prog 30 [(Ag [(Vi a1_0), (Vi a1_1), (Vi a1_2), (Sl Kf a1_3), (Sl (Ki .i64) a1_4), (Sl (Kl (Ki .i64)) a1_5), (Sl KT27 a1_6)])] [] (fun x : Addr => (If 67 (Vp x))) (fun x => [⟨.pointer (some x), [(Vi y4.1), (Vi y4.2.1), (Sl Kf y4.2.2.1), (Vi y4.2.2.2.1), (Sl (Ki .i64) y4.2.2.2.2)], 132, none⟩])) (Hn := fun x : Addr => [⟨.pointer (some x), [(Vi y4.1), (Vi y4.2.1), (Sl Kf y4.2.2.1), (Vi y4.2.2.2.1), (Sl (Ki .i64) y4.2.2.2.2)], 132, none⟩, ⟨.pointer (some q8), [(Vi r8.1), (Vl (Vs g8)), (Vl (Vs gz1))], 150, none⟩, (Rw Kf 32 (Vs g8) r8.2.1), (Rw Kf 32 (Vs gz1) r8.2.2), ⟨.pointer (some q5), [(Vb false)], 4, none⟩, ⟨.pointer (some q4), [(Vi 0), Vn, Vn], 43, none⟩, ⟨.pointer (some q3), [(Vi a1_0), (Vi a1_1), (Vi a1_2), (Sl Kf a1_3), (Sl (Ki .i64) a1_4), (Sl (Kl (Ki .i64)) a1_5), (Sl KT27 a1_6)], 27, none⟩, ⟨.pointer (some q2), [(Vi a0_0), (Sl Kf a0_1), (Sl Kf a0_2)], 43, none⟩]) (fun _ => rfl) rfl rfl) rfl bs_nil (wt_none' rfl) fun q10 => ?_
  obtain ⟨r11, hr11, hp⟩ := bind_some hp
  refine px_oxb' (is := [1, 2, 3, 0]) rfl (oxb_callg (ent_fn' Try.func55 isn55 rfl rfl) (gogeom_Bounds_Extend_v4_sim _ _ _ _ _ _ _ _ hr11 : Sx.Fn Try.prog 55 [(Vp q8), (If 67 (Vp q10))] [⟨.pointer (some q8), [(Vi r8.1), (Vl (Vs g8)), (Vl (Vs gz1))], 150, none⟩, (Rw Kf 32 (Vs g8) r8.2.1), (Rw Kf 32 (Vs gz1) r8.2.2), ⟨.pointer (some q10), [(Vi y4.1), (Vi y4.2.1), (Sl Kf y4.2.2.1), (Vi y4.2.2.2.1), (Sl (Ki .i64) y4.2.2.2.2)], 132, none⟩] (fun x : Gs × Gs => (Vp q8)) (fun x => [⟨.pointer (some q8), [(Vi r11.1), (Vl (Vs x.1)), (Vl (Vs x.2))], 150, none⟩, (Rw Kf 32 (Vs x.1) r11.2.1), (Rw Kf 32 (Vs x.2) r11.2.2.1), ⟨.pointer (some q10), [(Vi r11.2.2.2.1), (Vi r11.2.2.2.2.1), (Sl Kf r11.2.2.2.2.2.1), (Vi r11.2.2.2.2.2.2.1), (Sl (Ki .i64) r11.2.2.2.2.2.2.2)], 132, none⟩])) [1, 2, 3, 0] [4, 5, 6, 7] (by decide) (pick_cons rfl (pick_cons rfl (pick_cons rfl (pick_cons rfl pick_nil)))) (pick_cons rfl (pick_cons rfl (pick_cons rfl (pick_cons rfl pick_nil)))) (Hn := fun x : Gs × Gs => [⟨.pointer (some q8), [(Vi r11.1), (Vl (Vs x.1)), (Vl (Vs x.2))], 150, none⟩, (Rw Kf 32 (Vs x.1) r11.2.1), (Rw Kf 32 (Vs x.2) r11.2.2.1), ⟨.pointer (some q10), [(Vi r11.2.2.2.1), (Vi r11.2.2.2.2.1), (Sl Kf r11.2.2.2.2.2.1), (Vi r11.2.2.2.2.2.2.1), (Sl (Ki .i64) r11.2.2.2.2.2.2.2)], 132, none⟩, ⟨.pointer (some q5), [(Vb false)], 4, none⟩, ⟨.pointer (some q4), [(Vi 0), Vn, Vn], 43, none⟩, ⟨.pointer (some q3), [(Vi a1_0), (Vi a1_1), (Vi a1_2), (Sl Kf a1_3), (Sl (Ki .i64) a1_4), (Sl (Kl (Ki .i64)) a1_5), (Sl KT27 a1_6)], 27, none⟩, ⟨.pointer (some q2), [(Vi a0_0), (Sl Kf a0_1), (Sl Kf a0_2)], 43, none⟩]) (fun _ => rfl) rfl rfl) (pick_cons rfl (pick_cons rfl (pick_cons rfl (pick_cons rfl pick_nil)))) rfl bl_nil (wt_none' rfl) fun ⟨g11, gz2⟩ => ?_
  obtain ⟨r12, hr12, hp⟩ := bind_some hp
  refine px_oxb' (is := [0, 1, 2]) rfl (oxb_callg (ent_fn' Try.func53 isn53 rfl rfl) (impl_plainBox_sim _ _ _ hr12 : Sx.Fn Try.prog 53 [(Vp q8)] [⟨.pointer (some q8), [(Vi r11.1), (Vl (Vs g11)), (Vl (Vs gz2))], 150, none⟩, (Rw Kf 32 (Vs g11) r11.2.1), (Rw Kf 32 (Vs gz2) r11.2.2.1)] (fun x : Unit => (Ag [(Vi r12.1), (Sl Kf r12.2.2.2.1), (Sl Kf r12.2.2.2.2)])) (fun x => [⟨.pointer (some q8), [(Vi r12.1), (Vl (Vs g11)), (Vl (Vs gz2))], 150, none⟩, (Rw Kf 32 (Vs g11) r12.2.1), (Rw Kf 32 (Vs gz2) r12.2.2.1)])) [0, 1, 2] [3, 4, 5, 6, 7] (by decide) (pick_cons rfl (pick_cons rfl (pick_cons rfl pick_nil))) (pick_cons rfl (pick_cons rfl (pick_cons rfl (pick_cons rfl (pick_cons rfl pick_nil))))) (Hn := fun x : Unit => [⟨.pointer (some q8), [(Vi r12.1), (Vl (Vs g11)), (Vl (Vs gz2))], 150, none⟩, (Rw Kf 32 (Vs g11) r12.2.1), (Rw Kf 32 (Vs gz2) r12.2.2.1), ⟨.pointer (some q10), [(Vi r11.2.2.2.1), (Vi r11.2.2.2.2.1), (Sl Kf r11.2.2.2.2.2.1), (Vi r11.2.2.2.2.2.2.1), (Sl (Ki .i64) r11.2.2.2.2.2.2.2)], 132, none⟩, ⟨.pointer (some q5), [(Vb false)], 4, none⟩, ⟨.pointer (some q4), [(Vi 0), Vn, Vn], 43, none⟩, ⟨.pointer (some q3), [(Vi a1_0), (Vi a1_1), (Vi a1_2), (Sl Kf a1_3), (Sl (Ki .i64) a1_4), (Sl (Kl (Ki .i64)) a1_5), (Sl KT27 a1_6)], 27, none⟩, ⟨.pointer (some q2), [(Vi a0_0), (Sl Kf a0_1), (Sl Kf a0_2)], 43, none⟩]) (fun _ => rfl) rfl rfl) (pick_cons rfl (pick_cons rfl (pick_cons rfl pick_nil))) rfl bl_nil (wt_none' rfl) fun ⟨⟩ => ?_
  refine px_oxv' rfl (oxv_store (i := 5) (o := 0) rfl rfl (lv_ag _) ⟨rfl, rfl, rfl, rfl⟩ rfl info43 rfl (H' := [⟨.pointer (some q8), [(Vi r12.1), (Vl (Vs g11)), (Vl (Vs gz2))], 150, none⟩, (Rw Kf 32 (Vs g11) r12.2.1), (Rw Kf 32 (Vs gz2) r12.2.2.1), ⟨.pointer (some q10), [(Vi r11.2.2.2.1), (Vi r11.2.2.2.2.1), (Sl Kf r11.2.2.2.2.2.1), (Vi r11.2.2.2.2.2.2.1), (Sl (Ki .i64) r11.2.2.2.2.2.2.2)], 132, none⟩, ⟨.pointer (some q5), [(Vb false)], 4, none⟩, ⟨.pointer (some q4), [(Vi r12.1), (Sl Kf r12.2.2.2.1), (Sl Kf r12.2.2.2.2)], 43, none⟩, ⟨.pointer (some q3), [(Vi a1_0), (Vi a1_1), (Vi a1_2), (Sl Kf a1_3), (Sl (Ki .i64) a1_4), (Sl (Kl (Ki .i64)) a1_5), (Sl KT27 a1_6)], 27, none⟩, ⟨.pointer (some q2), [(Vi a0_0), (Sl Kf a0_1), (Sl Kf a0_2)], 43, none⟩]) rfl) rfl rfl bo_nil (wt_none' rfl) fun _ => ?_
  refine px_oxv' rfl (oxv_store (i := 4) (o := 0) rfl rfl (lv_vl rfl rfl) ⟨rfl, rfl, rfl, rfl⟩ rfl info4 rfl (H' := [⟨.pointer (some q8), [(Vi r12.1), (Vl (Vs g11)), (Vl (Vs gz2))], 150, none⟩, (Rw Kf 32 (Vs g11) r12.2.1), (Rw Kf 32 (Vs gz2) r12.2.2.1), ⟨.pointer (some q10), [(Vi r11.2.2.2.1), (Vi r11.2.2.2.2.1), (Sl Kf r11.2.2.2.2.2.1), (Vi r11.2.2.2.2.2.2.1), (Sl (Ki .i64) r11.2.2.2.2.2.2.2)], 132, none⟩, ⟨.pointer (some q5), [(Vb true)], 4, none⟩, ⟨.pointer (some q4), [(Vi r12.1), (Sl Kf r12.2.2.2.1), (Sl Kf r12.2.2.2.2)], 43, none⟩, ⟨.pointer (some q3), [(Vi a1_0), (Vi a1_1), (Vi a1_2), (Sl Kf a1_3), (Sl (Ki .i64) a1_4), (Sl (Kl (Ki .i64)) a1_5), (Sl KT27 a1_6)], 27, none⟩, ⟨.pointer (some q2), [(Vi a0_0), (Sl Kf a0_1), (Sl Kf a0_2)], 43, none⟩]) rfl) rfl rfl bo_nil (wt_none' rfl) fun _ => ?_
  refine px_nil' ?_
  show TX E K3 _
  refine tx_k' hK3 ?_
  refine cx_retc' ?_
  replace hp := Option.some.inj hp
  subst hp
  refine tx_leave' (.inl rfl) rfl idle52 rfl Try.func52 isn52 rfl ?_
  refine tx_pick' (L' := [(4, (Vp q4)), (5, (Vp q5))]) (H' := [⟨.pointer (some q4), [(Vi r12.1), (Sl Kf r12.2.2.2.1), (Sl Kf r12.2.2.2.2)], 43, none⟩, ⟨.pointer (some q5), [(Vb true)], 4, none⟩]) [5, 4] (sub_cons rfl (sub_cons rfl sub_nil)) (by decide) (pick_cons rfl (pick_cons rfl pick_nil)) ?_
  exact tx_ret2' Try.results23 rfl () (rv_cell_agg' (i := 0) (o := 0) (nn := 3) rfl ⟨rfl, rfl, rfl, rfl⟩ rfl agg43 rfl) (rv_cell' (i := 1) (o := 0) rfl ⟨rfl, rfl, rfl, rfl⟩ rfl flat4) rfl (List.nil_sublist _)
 ·dsimp only at hp
  refine px_ox' rfl (ox_calln' (ent_fn' Try.func30 isn30 rfl rfl) (impl_geometry_sim _ _ _ _ _ _ _ hr10 : Sx.Fn Try.prog 30 [(Ag [(Vi a1_0), (Vi a1_1), (Vi a1_2), (Sl Kf a1_3), (Sl (Ki .i64) a1_4), (Sl (Kl (Ki .i64)) a1_5), (Sl KT27 a1_6)])] [] (fun x : Addr => (If 70 (Vp x))) (fun x => [⟨.pointer (some x), [(Vi y4.1), (Vi y4.2.1), (Sl Kf y4.2.2.1), (Vi y4.2.2.2.1), (Sl (Ki .i64) y4.2.2.2.2)], 136, none⟩])) (Hn := fun x : Addr => [⟨.pointer (some x), [(Vi y4.1), (Vi y4.2.1), (Sl Kf y4.2.2.1), (Vi y4.2.2.2.1), (Sl (Ki .i64) y4.2.2.2.2)], 136, none⟩, ⟨.pointer (some q8), [(Vi r8.1), (Vl (Vs g8)), (Vl (Vs gz1))], 150, none⟩, (Rw Kf 32 (Vs g8) r8.2.1), (Rw Kf 32 (Vs gz1) r8.2.2), ⟨.pointer (some q5), [(Vb false)], 4, none⟩, ⟨.pointer (some q4), [(Vi 0), Vn, Vn], 43, none⟩, ⟨.pointer (some q3), [(Vi a1_0), (Vi a1_1), (Vi a1_2), (Sl Kf a1_3), (Sl (Ki .i64) a1_4), (Sl (Kl (Ki .i64)) a1_5), (Sl KT27 a1_6)], 27, none⟩, ⟨.pointer (some q2), [(Vi a0_0), (Sl Kf a0_1), (Sl Kf a0_2)], 43, none⟩]) (fun _ => rfl) rfl rfl) rfl bs_nil (wt_none' rfl) fun q10 => ?_
  obtain ⟨r11, hr11, hp⟩ := bind_some hp
  refine px_oxb' (is := [1, 2, 3, 0]) rfl (oxb_callg (ent_fn' Try.func55 isn55 rfl rfl) (gogeom_Bounds_Extend_v5_sim _ _ _ _ _ _ _ _ hr11 : Sx.Fn Try.prog 55 [(Vp q8), (If 70 (Vp q10))] [⟨.pointer (some q8), [(Vi r8.1), (Vl (Vs g8)), (Vl (Vs gz1))], 150, none⟩, (Rw Kf 32 (Vs g8) r8.2.1), (Rw Kf 32 (Vs gz1) r8.2.2), ⟨.pointer (some q10), [(Vi y4.1), (Vi y4.2.1), (Sl Kf y4.2.2.1), (Vi y4.2.2.2.1), (Sl (Ki .i64) y4.2.2.2.2)], 136, none⟩] (fun x : Gs × Gs => (Vp q8)) (fun x => [⟨.pointer (some q8), [(Vi r11.1), (Vl (Vs x.1)), (Vl (Vs x.2))], 150, none⟩, (Rw Kf 32 (Vs x.1) r11.2.1), (Rw Kf 32 (Vs x.2) r11.2.2.1), ⟨.pointer (some q10), [(Vi r11.2.2.2.1), (Vi r11.2.2.2.2.1), (Sl Kf r11.2.2.2.2.2.1), (Vi r11.2.2.2.2.2.2.1), (Sl (Ki .i64) r11.2.2.2.2.2.2.2)], 136, none⟩])) [1, 2, 3, 0] [4, 5, 6, 7] (by decide) (pick_cons rfl (pick_cons rfl (pick_cons rfl (pick_cons rfl pick_nil)))) (pick_cons rfl (pick_cons rfl (pick_cons rfl (pick_cons rfl pick_nil)))) (Hn := fun x : Gs × Gs => [⟨.pointer (some q8), [(Vi r11.1), (Vl (Vs x.1)), (Vl (Vs x.2))], 150, none⟩, (Rw Kf 32 (Vs x.1) r11.2.1), (Rw Kf 32 (Vs x.2) r11.2.2.1), ⟨.pointer (some q10), [(Vi r11.2.2.2.1), (Vi r11.2.2.2.2.1), (Sl Kf r11.2.2.2.2.2.1), (Vi r11.2.2.2.2.2.2.1), (Sl (Ki .i64) r11.2.2.2.2.2.2.2)], 136, none⟩, ⟨.pointer (some q5), [(Vb false)], 4, none⟩, ⟨.pointer (some q4), [(Vi 0), Vn, Vn], 43, none⟩, ⟨.pointer (some q3), [(Vi a1_0), (Vi a1_1), (Vi a1_2), (Sl Kf a1_3), (Sl (Ki .i64) a1_4), (Sl (Kl (Ki .i64)) a1_5), (Sl KT27 a1_6)], 27, none⟩, ⟨.pointer (some q2), [(Vi a0_0), (Sl Kf a0_1), (Sl Kf a0_2)], 43, none⟩]) (fun _ => rfl) rfl rfl) (pick_cons rfl (pick_cons rfl (pick_cons rfl (pick_cons rfl pick_nil)))) rfl bl_nil (wt_none' rfl) fun ⟨g11, gz2⟩ => ?_
  obtain ⟨r12, hr12, hp⟩ := bind_some hp
  refine px_oxb' (is := [0, 1, 2]) rfl (oxb_callg (ent_fn' Try.func53 isn53 rfl rfl) (impl_plainBox_sim _ _ _ hr12 : Sx.Fn Try.prog 53 [(Vp q8)] [⟨.pointer (some q8), [(Vi r11.1), (Vl (Vs g11)), (Vl (Vs gz2))], 150, none⟩, (Rw Kf 32 (Vs g11) r11.2.1), (Rw Kf 32 (Vs gz2) r11.2.2.1)] (fun x : Unit => (Ag [(Vi r12.1), (Sl Kf r12.2.2.2.1), (Sl Kf r12.2.2.2.2)])) (fun x => [⟨.pointer (some q8), [(Vi r12.1), (Vl (Vs g11)), (Vl (Vs gz2))], 150, none⟩, (Rw Kf 32 (Vs g11) r12.2.1), (Rw Kf 32 (Vs gz2) r12.2.2.1)])) [0, 1, 2] [3, 4, 5, 6, 7] (by decide) (pick_cons rfl (pick_cons rfl (pick_cons rfl pick_nil))) (pick_cons rfl (pick_cons rfl (pick_cons rfl (pick_cons rfl (pick_cons rfl pick_nil))))) (Hn := fun x : Unit => [⟨.pointer (some q8), [(Vi r12.1), (Vl (Vs g11)), (Vl (Vs gz2))], 150, none⟩, (Rw Kf 32 (Vs g11) r12.2.1), (Rw Kf 32 (Vs gz2) r12.2.2.1), ⟨.pointer (some q10), [(Vi r11.2.2.2.1), (Vi r11.2.2.2.2.1), (Sl Kf r11.2.2.2.2.2.1), (Vi r11.2.2.2.2.2.2.1), (Sl (Ki .i64) r11.2.2.2.2.2.2.2)], 136, none⟩, ⟨.pointer (some q5), [(Vb false)], 4, none⟩, ⟨.pointer (some q4), [(Vi 0), Vn, Vn], 43, none⟩, ⟨.pointer (some q3), [(Vi a1_0), (Vi a1_1), (Vi a1_2), (Sl Kf a1_3), (Sl (Ki .i64) a1_4), (Sl (Kl (Ki .i64)) a1_5), (Sl KT27 a1_6)], 27, none⟩, ⟨.pointer (some q2), [(Vi a0_0), (Sl Kf a0_1), (Sl Kf a0_2)], 43, none⟩]) (fun _ => rfl) rfl rfl) (pick_cons rfl (pick_cons rfl (pick_cons rfl pick_nil))) rfl bl_nil (wt_none' rfl) fun ⟨⟩ => ?_
  refine px_oxv' rfl (oxv_store (i := 5) (o := 0) rfl rfl (lv_ag _) ⟨rfl, rfl, rfl, rfl⟩ rfl info43 rfl (H' := [⟨.pointer (some q8), [(Vi r12.1), (Vl (Vs g11)), (Vl (Vs gz2))], 150, none⟩, (Rw Kf 32 (Vs g11) r12.2.1), (Rw Kf 32 (Vs gz2) r12.2.2.1), ⟨.pointer (some q10), [(Vi r11.2.2.2.1), (Vi r11.2.2.2.2.1), (Sl Kf r11.2.2.2.2.2.1), (Vi r11.2.2.2.2.2.2.1), (Sl (Ki .i64) r11.2.2.2.2.2.2.2)], 136, none⟩, ⟨.pointer (some q5), [(Vb false)], 4, none⟩, ⟨.pointer (some q4), [(Vi r12.1), (Sl Kf r12.2.2.2.1), (Sl Kf r12.2.2.2.2)], 43, none⟩, ⟨.pointer (some q3), [(Vi a1_0), (Vi a1_1), (Vi a1_2), (Sl Kf a1_3), (Sl (Ki .i64) a1_4), (Sl (Kl (Ki .i64)) a1_5), (Sl KT27 a1_6)], 27, none⟩, ⟨.pointer (some q2), [(Vi a0_0), (Sl Kf a0_1), (Sl Kf a0_2)], 43, none⟩]) rfl) rfl rfl bo_nil (wt_none' rfl) fun _ => ?_
  refine px_oxv' rfl (oxv_store (i := 4) (o := 0) rfl rfl (lv_vl rfl rfl) ⟨rfl, rfl, rfl, rfl⟩ rfl info4 rfl (H' := [⟨.pointer (some q8), [(Vi r12.1), (Vl (Vs g11)), (Vl (Vs gz2))], 150, none⟩, (Rw Kf 32 (Vs g11) r12.2.1), (Rw Kf 32 (Vs gz2) r12.2.2.1), ⟨.pointer (some q10), [(Vi r11.2.2.2.1), (Vi r11.2.2.2.2.1), (Sl Kf r11.2.2.2.2.2.1), (Vi r11.2.2.2.2.2.2.1), (Sl (Ki .i64) r11.2.2.2.2.2.2.2)], 136, none⟩, ⟨.pointer (some q5), [(Vb true)], 4, none⟩, ⟨.pointer (some q4), [(Vi r12.1), (Sl Kf r12.2.2.2.1), (Sl Kf r12.2.2.2.2)], 43, none⟩, ⟨.pointer (some q3), [(Vi a1_0), (Vi a1_1), (Vi a1_2), (Sl Kf a1_3), (Sl (Ki .i64) a1_4), (Sl (Kl (Ki .i64)) a1_5), (Sl KT27 a1_6)], 27, none⟩, ⟨.pointer (some q2), [(Vi a0_0), (Sl Kf a0_1), (Sl Kf a0_2)], 43, none⟩]) rfl) rfl rfl bo_nil (wt_none' rfl) fun _ => ?_
  refine px_nil' ?_
  show TX E K3 _
  refine tx_k' hK3 ?_
  refine cx_retc' ?_
  replace hp := Option.some.inj hp
  subst hp
  refine tx_leave' (.inl rfl) rfl idle52 rfl Try.func52 isn52 rfl ?_
  refine tx_pick' (L' := [(4, (Vp q4)), (5, (Vp q5))]) (H' := [⟨.pointer (some q4), [(Vi r12.1), (Sl Kf r12.2.2.2.1), (Sl Kf r12.2.2.2.2)], 43, none⟩, ⟨.pointer (some q5), [(Vb true)], 4, none⟩]) [5, 4] (sub_cons rfl (sub_cons rfl sub_nil)) (by decide) (pick_cons rfl (pick_cons rfl pick_nil)) ?_
  exact tx_ret2' Try.results23 rfl () (rv_cell_agg' (i := 0) (o := 0) (nn := 3) rfl ⟨rfl, rfl, rfl, rfl⟩ rfl agg43 rfl) (rv_cell' (i := 1) (o := 0) rfl ⟨rfl, rfl, rfl, rfl⟩ rfl flat4) rfl (List.nil_sublist _)
 ·dsimp only at hp
  refine px_ox' rfl (ox_calln' (ent_fn' Try.func30 isn30 rfl rfl) (impl_geometry_sim _ _ _ _ _ _ _ hr10 : Sx.Fn Try.prog 30 [(Ag [(Vi a1_0), (Vi a1_1), (Vi a1_2), (Sl Kf a1_3), (Sl (Ki .i64) a1_4), (Sl (Kl (Ki .i64)) a1_5), (Sl KT27 a1_6)])] [] (fun x : Addr => (If 73 (Vp x))) (fun x => [⟨.pointer (some x), [(Vi y4.1), (Vi y4.2.1), (Sl Kf y4.2.2.1), (Vi y4.2.2.2.1), (Sl (Ki .i64) y4.2.2.2.2)], 139, none⟩])) (Hn := fun x : Addr => [⟨.pointer (some x), [(Vi y4.1), (Vi y4.2.1), (Sl Kf y4.2.2.1), (Vi y4.2.2.2.1), (Sl (Ki .i64) y4.2.2.2.2)], 139, none⟩, ⟨.pointer (some q8), [(Vi r8.1), (Vl (Vs g8)), (Vl (Vs gz1))], 150, none⟩, (Rw Kf 32 (Vs g8) r8.2.1), (Rw Kf 32 (Vs gz1) r8.2.2), ⟨.pointer (some q5), [(Vb false)], 4, none⟩, ⟨.pointer (some q4), [(Vi 0), Vn, Vn], 43, none⟩, ⟨.pointer (some q3), [(Vi a1_0), (Vi a1_1), (Vi a1_2), (Sl Kf a1_3), (Sl (Ki .i64) a1_4), (Sl (Kl (Ki .i64)) a1_5), (Sl KT27 a1_6)], 27, none⟩, ⟨.pointer (some q2), [(Vi a0_0), (Sl Kf a0_1), (Sl Kf a0_2)], 43, none⟩]) (fun _ => rfl) rfl rfl) rfl bs_nil (wt_none' rfl) fun q10 => ?_
  obtain ⟨r11, hr11, hp⟩ := bind_some hp
  refine px_oxb' (is := [1, 2, 3, 0]) rfl (oxb_callg (ent_fn' Try.func55 isn55 rfl rfl) (gogeom_Bounds_Extend_v6_sim _ _ _ _ _ _ _ _ hr11 : Sx.Fn Try.prog 55 [(Vp q8), (If 73 (Vp q10))] [⟨.pointer (some q8), [(Vi r8.1), (Vl (Vs g8)), (Vl (Vs gz1))], 150, none⟩, (Rw Kf 32 (Vs g8) r8.2.1), (Rw Kf 32 (Vs gz1) r8.2.2), ⟨.pointer (some q10), [(Vi y4.1), (Vi y4.2.1), (Sl Kf y4.2.2.1), (Vi y4.2.2.2.1), (Sl (Ki .i64) y4.2.2.2.2)], 139, none⟩] (fun x : Gs × Gs => (Vp q8)) (fun x => [⟨.pointer (some q8), [(Vi r11.1), (Vl (Vs x.1)), (Vl (Vs x.2))], 150, none⟩, (Rw Kf 32 (Vs x.1) r11.2.1), (Rw Kf 32 (Vs x.2) r11.2.2.1), ⟨.pointer (some q10), [(Vi r11.2.2.2.1), (Vi r11.2.2.2.2.1), (Sl Kf r11.2.2.2.2.2.1), (Vi r11.2.2.2.2.2.2.1), (Sl (Ki .i64) r11.2.2.2.2.2.2.2)], 139, none⟩])) [1, 2, 3, 0] [4, 5, 6, 7] (by decide) (pick_cons rfl (pick_cons rfl (pick_cons rfl (pick_cons rfl pick_nil)))) (pick_cons rfl (pick_cons rfl (pick_cons rfl (pick_cons rfl pick_nil)))) (Hn := fun x : Gs × Gs => [⟨.pointer (some q8), [(Vi r11.1), (Vl (Vs x.1)), (Vl (Vs x.2))], 150, none⟩, (Rw Kf 32 (Vs x.1) r11.2.1), (Rw Kf 32 (Vs x.2) r11.2.2.1), ⟨.pointer (some q10), [(Vi r11.2.2.2.1), (Vi r11.2.2.2.2.1), (Sl Kf r11.2.2.2.2.2.1), (Vi r11.2.2.2.2.2.2.1), (Sl (Ki .i64) r11.2.2.2.2.2.2.2)], 139, none⟩, ⟨.pointer (some q5), [(Vb false)], 4, none⟩, ⟨.pointer (some q4), [(Vi 0), Vn, Vn], 43, none⟩, ⟨.pointer (some q3), [(Vi a1_0), (Vi a1_1), (Vi a1_2), (Sl Kf a1_3), (Sl (Ki .i64) a1_4), (Sl (Kl (Ki .i64)) a1_5), (Sl KT27 a1_6)], 27, none⟩, ⟨.pointer (some q2), [(Vi a0_0), (Sl Kf a0_1), (Sl Kf a0_2)], 43, none⟩]) (fun _ => rfl) rfl rfl) (pick_cons rfl (pick_cons rfl (pick_cons rfl (pick_cons rfl pick_nil)))) rfl bl_nil (wt_none' rfl) fun ⟨g11, gz2⟩ => ?_
  obtain ⟨r12, hr12, hp⟩ := bind_some hp
  refine px_oxb' (is := [0, 1, 2]) rfl (oxb_callg (ent_fn' Try.func53 isn53 rfl rfl) (impl_plainBox_sim _ _ _ hr12 : Sx.Fn Try.prog 53 [(Vp q8)] [⟨.pointer (some q8), [(Vi r11.1), (Vl (Vs g11)), (Vl (Vs gz2))], 150, none⟩, (Rw Kf 32 (Vs g11) r11.2.1), (Rw Kf 32 (Vs gz2) r11.2.2.1)] (fun x : Unit => (Ag [(Vi r12.1), (Sl Kf r12.2.2.2.1), (Sl Kf r12.2.2.2.2)])) (fun x => [⟨.pointer (some q8), [(Vi r12.1), (Vl (Vs g11)), (Vl (Vs gz2))], 150, none⟩, (Rw Kf 32 (Vs g11) r12.2.1), (Rw Kf 32 (Vs gz2) r12.2.2.1)])) [0, 1, 2] [3, 4, 5, 6, 7] (by decide) (pick_cons rfl (pick_cons rfl (pick_cons rfl pick_nil))) (pick_cons rfl (pick_cons rfl (pick_cons rfl (pick_cons rfl (pick_cons rfl pick_nil))))) (Hn := fun x : Unit => [⟨.pointer (some q8), [(Vi r12.1), (Vl (Vs g11)), (Vl (Vs gz2))], 150, none⟩, (Rw Kf 32 (Vs g11) r12.2.1), (Rw Kf 32 (Vs gz2) r12.2.2.1), ⟨.pointer (some q10), [(Vi r11.2.2.2.1), (Vi r11.2.2.2.2.1), (Sl Kf r11.2.2.2.2.2.1), (Vi r11.2.2.2.2.2.2.1), (Sl (Ki .i64) r11.2.2.2.2.2.2.2)], 139, none⟩, ⟨.pointer (some q5), [(Vb false)], 4, none⟩, ⟨.pointer (some q4), [(Vi 0), Vn, Vn], 43, none⟩, ⟨.pointer (some q3), [(Vi a1_0), (Vi a1_1), (Vi a1_2), (Sl Kf a1_3), (Sl (Ki .i64) a1_4), (Sl (Kl (Ki .i64)) a1_5), (Sl KT27 a1_6)], 27, none⟩, ⟨.pointer (some q2), [(Vi a0_0), (Sl Kf a0_1), (Sl Kf a0_2)], 43, none⟩]) (fun _ => rfl) rfl rfl) (pick_cons rfl (pick_cons rfl (pick_cons rfl pick_nil))) rfl bl_nil (wt_none' rfl) fun ⟨⟩ => ?_
  refine px_oxv' rfl (oxv_store (i := 5) (o := 0) rfl rfl (lv_ag _) ⟨rfl, rfl, rfl, rfl⟩ rfl info43 rfl (H' := [⟨.pointer (some q8), [(Vi r12.1), (Vl (Vs g11)), (Vl (Vs gz2))], 150, none⟩, (Rw Kf 32 (Vs g11) r12.2.1), (Rw Kf 32 (Vs gz2) r12.2.2.1), ⟨.pointer (some q10), [(Vi r11.2.2.2.1), (Vi r11.2.2.2.2.1), (Sl Kf r11.2.2.2.2.2.1), (Vi r11.2.2.2.2.2.2.1), (Sl (Ki .i64) r11.2.2.2.2.2.2.2)], 139, none⟩, ⟨.pointer (some q5), [(Vb false)], 4, none⟩, ⟨.pointer (some q4), [(Vi r12.1), (Sl Kf r12.2.2.2.1), (Sl Kf r12.2.2.2.2)], 43, none⟩, ⟨.pointer (some q3), [(Vi a1_0), (Vi a1_1), (Vi a1_2), (Sl Kf a1_3), (Sl (Ki .i64) a1_4), (Sl (Kl (Ki .i64)) a1_5), (Sl KT27 a1_6)], 27, none⟩, ⟨.pointer (some q2), [(Vi a0_0), (Sl Kf a0_1), (Sl Kf a0_2)], 43, none⟩]) rfl) rfl rfl bo_nil (wt_none' rfl) fun _ => ?_
  refine px_oxv' rfl (oxv_store (i := 4) (o := 0) rfl rfl (lv_vl rfl rfl) ⟨rfl, rfl, rfl, rfl⟩ rfl info4 rfl (H' := [⟨.pointer (some q8), [(Vi r12.1), (Vl (Vs g11)), (Vl (Vs gz2))], 150, none⟩, (Rw Kf 32 (Vs g11) r12.2.1), (Rw Kf 32 (Vs gz2) r12.2.2.1), ⟨.pointer (some q10), [(Vi r11.2.2.2.1), (Vi r11.2.2.2.2.1), (Sl Kf r11.2.2.2.2.2.1), (Vi r11.2.2.2.2.2.2.1), (Sl (Ki .i64) r11.2.2.2.2.2.2.2)], 139, none⟩, ⟨.pointer (some q5), [(Vb true)], 4, none⟩, ⟨.pointer (some q4), [(Vi r12.1), (Sl Kf r12.2.2.2.1), (Sl Kf r12.2.2.2.2)], 43, none⟩, ⟨.pointer (some q3), [(Vi a1_0), (Vi a1_1), (Vi a1_2), (Sl Kf a1_3), (Sl (Ki .i64) a1_4), (Sl (Kl (Ki .i64)) a1_5), (Sl KT27 a1_6)], 27, none⟩, ⟨.pointer (some q2), [(Vi a0_0), (Sl Kf a0_1), (Sl Kf a0_2)], 43, none⟩]) rfl) rfl rfl bo_nil (wt_none' rfl) fun _ => ?_
  refine px_nil' ?_
  show TX E K3 _
  refine tx_k' hK3 ?_
  refine cx_retc' ?_
  replace hp := Option.some.inj hp
  subst hp
  refine tx_leave' (.inl rfl) rfl idle52 rfl Try.func52 isn52 rfl ?_
  refine tx_pick' (L' := [(4, (Vp q4)), (5, (Vp q5))]) (H' := [⟨.pointer (some q4), [(Vi r12.1), (Sl Kf r12.2.2.2.1), (Sl Kf r12.2.2.2.2)], 43, none⟩, ⟨.pointer (some q5), [(Vb true)], 4, none⟩]) [5, 4] (sub_cons rfl (sub_cons rfl sub_nil)) (by decide) (pick_cons rfl (pick_cons rfl pick_nil)) ?_
  exact tx_ret2' Try.results23 rfl () (rv_cell_agg' (i := 0) (o := 0) (nn := 3) rfl ⟨rfl, rfl, rfl, rfl⟩ rfl agg43 rfl) (rv_cell' (i := 1) (o := 0) rfl ⟨rfl, rfl, rfl, rfl⟩ rfl flat4) rfl (List.nil_sublist _)
 ·dsimp only at hp
  refine px_ox' rfl (ox_calln' (ent_fn' Try.func30 isn30 rfl rfl) (impl_geometry_sim _ _ _ _ _ _ _ hr10 : Sx.Fn Try.prog 30 [(Ag [(Vi a1_0), (Vi a1_1), (Vi a1_2), (Sl Kf a1_3), (Sl (Ki .i64) a1_4), (Sl (Kl (Ki .i64)) a1_5), (Sl KT27 a1_6)])] [] (fun x : Addr => (If 76 (Vp x))) (fun x => [⟨.pointer (some x), [(Vi y4.1), (Vi y4.2.1), (Sl Kf y4.2.2.1), (Vi y4.2.2.2.1), (Sl (Kl (Ki .i64)) y4.2.2.2.2)], 143, none⟩])) (Hn := fun x : Addr => [⟨.pointer (some x), [(Vi y4.1), (Vi y4.2.1), (Sl Kf y4.2.2.1), (Vi y4.2.2.2.1), (Sl (Kl (Ki .i64)) y4.2.2.2.2)], 143, none⟩, ⟨.pointer (some q8), [(Vi r8.1), (Vl (Vs g8)), (Vl (Vs gz1))], 150, none⟩, (Rw Kf 32 (Vs g8) r8.2.1), (Rw Kf 32 (Vs gz1) r8.2.2), ⟨.pointer (some q5), [(Vb false)], 4, none⟩, ⟨.pointer (some q4), [(Vi 0), Vn, Vn], 43, none⟩, ⟨.pointer (some q3), [(Vi a1_0), (Vi a1_1), (Vi a1_2), (Sl Kf a1_3), (Sl (Ki .i64) a1_4), (Sl (Kl (Ki .i64)) a1_5), (Sl KT27 a1_6)], 27, none⟩, ⟨.pointer (some q2), [(Vi a0_0), (Sl Kf a0_1), (Sl Kf a0_2)], 43, none⟩]) (fun _ => rfl) rfl rfl) rfl bs_nil (wt_none' rfl) fun q10 => ?_
  obtain ⟨r11, hr11, hp⟩ := bind_some hp
  refine px_oxb' (is := [1, 2, 3, 0]) rfl (oxb_callg (ent_fn' Try.func55 isn55 rfl rfl) (gogeom_Bounds_Extend_v7_sim _ _ _ _ _ _ _ _ hr11 : Sx.Fn Try.prog 55 [(Vp q8), (If 76 (Vp q10))] [⟨.pointer (some q8), [(Vi r8.1), (Vl (Vs g8)), (Vl (Vs gz1))], 150, none⟩, (Rw Kf 32 (Vs g8) r8.2.1), (Rw Kf 32 (Vs gz1) r8.2.2), ⟨.pointer (some q10), [(Vi y4.1), (Vi y4.2.1), (Sl Kf y4.2.2.1), (Vi y4.2.2.2.1), (Sl (Kl (Ki .i64)) y4.2.2.2.2)], 143, none⟩] (fun x : Gs × Gs => (Vp q8)) (fun x => [⟨.pointer (some q8), [(Vi r11.1), (Vl (Vs x.1)), (Vl (Vs x.2))], 150, none⟩, (Rw Kf 32 (Vs x.1) r11.2.1), (Rw Kf 32 (Vs x.2) r11.2.2.1), ⟨.pointer (some q10), [(Vi r11.2.2.2.1), (Vi r11.2.2.2.2.1), (Sl Kf r11.2.2.2.2.2.1), (Vi r11.2.2.2.2.2.2.1), (Sl (Kl (Ki .i64)) r11.2.2.2.2.2.2.2)], 143, none⟩])) [1, 2, 3, 0] [4, 5, 6, 7] (by decide) (pick_cons rfl (pick_cons rfl (pick_cons rfl (pick_cons rfl pick_nil)))) (pick_cons rfl (pick_cons rfl (pick_cons rfl (pick_cons rfl pick_nil)))) (Hn := fun x : Gs × Gs => [⟨.pointer (some q8), [(Vi r11.1), (Vl (Vs x.1)), (Vl (Vs x.2))], 150, none⟩, (Rw Kf 32 (Vs x.1) r11.2.1), (Rw Kf 32 (Vs x.2) r11.2.2.1), ⟨.pointer (some q10), [(Vi r11.2.2.2.1), (Vi r11.2.2.2.2.1), (Sl Kf r11.2.2.2.2.2.1), (Vi r11.2.2.2.2.2.2.1), (Sl (Kl (Ki .i64)) r11.2.2.2.2.2.2.2)], 143, none⟩, ⟨.pointer (some q5), [(Vb false)], 4, none⟩, ⟨.pointer (some q4), [(Vi 0), Vn, Vn], 43, none⟩, ⟨.pointer (some q3), [(Vi a1_0), (Vi a1_1), (Vi a1_2), (Sl Kf a1_3), (Sl (Ki .i64) a1_4), (Sl (Kl (Ki .i64)) a1_5), (Sl KT27 a1_6)], 27, none⟩, ⟨.pointer (some q2), [(Vi a0_0), (Sl Kf a0_1), (Sl Kf a0_2)], 43, none⟩]) (fun _ => rfl) rfl rfl) (pick_cons rfl (pick_cons rfl (pick_cons rfl (pick_cons rfl pick_nil)))) rfl bl_nil (wt_none' rfl) fun ⟨g11, gz2⟩ => ?_
  obtain ⟨r12, hr12, hp⟩ := bind_some hp
  refine px_oxb' (is := [0, 1, 2]) rfl (oxb_callg (ent_fn' Try.func53 isn53 rfl rfl) (impl_plainBox_sim _ _ _ hr12 : Sx.Fn Try.prog 53 [(Vp q8)] [⟨.pointer (some q8), [(Vi r11.1), (Vl (Vs g11)), (Vl (Vs gz2))], 150, none⟩, (Rw Kf 32 (Vs g11) r11.2.1), (Rw Kf 32 (Vs gz2) r11.2.2.1)] (fun x : Unit => (Ag [(Vi r12.1), (Sl Kf r12.2.2.2.1), (Sl Kf r12.2.2.2.2)])) (fun x => [⟨.pointer (some q8), [(Vi r12.1), (Vl (Vs g11)), (Vl (Vs gz2))], 150, none⟩, (Rw Kf 32 (Vs g11) r12.2.1), (Rw Kf 32 (Vs gz2) r12.2.2.1)])) [0, 1, 2] [3, 4, 5, 6, 7] (by decide) (pick_cons rfl (pick_cons rfl (pick_cons rfl pick_nil))) (pick_cons rfl (pick_cons rfl (pick_cons rfl (pick_cons rfl (pick_cons rfl pick_nil))))) (Hn := fun x : Unit => [⟨.pointer (some q8), [(Vi r12.1), (Vl (Vs g11)), (Vl (Vs gz2))], 150, none⟩, (Rw Kf 32 (Vs g11) r12.2.1), (Rw Kf 32 (Vs gz2) r12.2.2.1), ⟨.pointer (some q10), [(Vi r11.2.2.2.1), (Vi r11.2.2.2.2.1), (Sl Kf r11.2.2.2.2.2.1), (Vi r11.2.2.2.2.2.2.1), (Sl (Kl (Ki .i64)) r11.2.2.2.2.2.2.2)], 143, none⟩, ⟨.pointer (some q5), [(Vb false)], 4, none⟩, ⟨.pointer (some q4), [(Vi 0), Vn, Vn], 43, none⟩, ⟨.pointer (some q3), [(Vi a1_0), (Vi a1_1), (Vi a1_2), (Sl Kf a1_3), (Sl (Ki .i64) a1_4), (Sl (Kl (Ki .i64)) a1_5), (Sl KT27 a1_6)], 27, none⟩, ⟨.pointer (some q2), [(Vi a0_0), (Sl Kf a0_1), (Sl Kf a0_2)], 43, none⟩]) (fun _ => rfl) rfl rfl) (pick_cons rfl (pick_cons rfl (pick_cons rfl pick_nil))) rfl bl_nil (wt_none' rfl) fun ⟨⟩ => ?_
  refine px_oxv' rfl (oxv_store (i := 5) (o := 0) rfl rfl (lv_ag _) ⟨rfl, rfl, rfl, rfl⟩ rfl info43 rfl (H' := [⟨.pointer (some q8), [(Vi r12.1), (Vl (Vs g11)), (Vl (Vs gz2))], 150, none⟩, (Rw Kf 32 (Vs g11) r12.2.1), (Rw Kf 32 (Vs gz2) r12.2.2.1), ⟨.pointer (some q10), [(Vi r11.2.2.2.1), (Vi r11.2.2.2.2.1), (Sl Kf r11.2.2.2.2.2.1), (Vi r11.2.2.2.2.2.2.1), (Sl (Kl (Ki .i64)) r11.2.2.2.2.2.2.2)], 143, none⟩, ⟨.pointer (some q5), [(Vb false)], 4, none⟩, ⟨.pointer (some q4), [(Vi r12.1), (Sl Kf r12.2.2.2.1), (Sl Kf r12.2.2.2.2)], 43, none⟩, ⟨.pointer (some q3), [(Vi a1_0), (Vi a1_1), (Vi a1_2), (Sl Kf a1_3), (Sl (Ki .i64) a1_4), (Sl (Kl (Ki .i64)) a1_5), (Sl KT27 a1_6)], 27, none⟩, ⟨.pointer (some q2), [(Vi a0_0), (Sl Kf a0_1), (Sl Kf a0_2)], 43, none⟩]) rfl) rfl rfl bo_nil (wt_none' rfl) fun _ => ?_
  refine px_oxv' rfl (oxv_store (i := 4) (o := 0) rfl rfl (lv_vl rfl rfl) ⟨rfl, rfl, rfl, rfl⟩ rfl info4 rfl (H' := [⟨.pointer (some q8), [(Vi r12.1), (Vl (Vs g11)), (Vl (Vs gz2))], 150, none⟩, (Rw Kf 32 (Vs g11) r12.2.1), (Rw Kf 32 (Vs gz2) r12.2.2.1), ⟨.pointer (some q10), [(Vi r11.2.2.2.1), (Vi r11.2.2.2.2.1), (Sl Kf r11.2.2.2.2.2.1), (Vi r11.2.2.2.2.2.2.1), (Sl (Kl (Ki .i64)) r11.2.2.2.2.2.2.2)], 143, none⟩, ⟨.pointer (some q5), [(Vb true)], 4, none⟩, ⟨.pointer (some q4), [(Vi r12.1), (Sl Kf r12.2.2.2.1), (Sl Kf r12.2.2.2.2)], 43, none⟩, ⟨.pointer (some q3), [(Vi a1_0), (Vi a1_1), (Vi a1_2), (Sl Kf a1_3), (Sl (Ki .i64) a1_4), (Sl (Kl (Ki .i64)) a1_5), (Sl KT27 a1_6)], 27, none⟩, ⟨.pointer (some q2), [(Vi a0_0), (Sl Kf a0_1), (Sl Kf a0_2)], 43, none⟩]) rfl) rfl rfl bo_nil (wt_none' rfl) fun _ => ?_
  refine px_nil' ?_
  show TX E K3 _
  refine tx_k' hK3 ?_
  refine cx_retc' ?_
  replace hp := Option.some.inj hp
  subst hp
  refine tx_leave' (.inl rfl) rfl idle52 rfl Try.func52 isn52 rfl ?_
  refine tx_pick' (L' := [(4, (Vp q4)), (5, (Vp q5))]) (H' := [⟨.pointer (some q4), [(Vi r12.1), (Sl Kf r12.2.2.2.1), (Sl Kf r12.2.2.2.2)], 43, none⟩, ⟨.pointer (some q5), [(Vb true)], 4, none⟩]) [5, 4] (sub_cons rfl (sub_cons rfl sub_nil)) (by decide) (pick_cons rfl (pick_cons rfl pick_nil)) ?_
  exact tx_ret2' Try.results23 rfl () (rv_cell_agg' (i := 0) (o := 0) (nn := 3) rfl ⟨rfl, rfl, rfl, rfl⟩ rfl agg43 rfl) (rv_cell' (i := 1) (o := 0) rfl ⟨rfl, rfl, rfl, rfl⟩ rfl flat4) rfl (List.nil_sublist _)
 dsimp only at hp
 refine px_ox' rfl (ox_calln' (ent_fn' Try.func30 isn30 rfl rfl) (impl_geometry_sim _ _ _ _ _ _ _ hr10 : Sx.Fn Try.prog 30 [(Ag [(Vi a1_0), (Vi a1_1), (Vi a1_2), (Sl Kf a1_3), (Sl (Ki .i64) a1_4), (Sl (Kl (Ki .i64)) a1_5), (Sl KT27 a1_6)])] [] (fun x : Addr => (If 57 (Vp x))) (fun x => [⟨.pointer (some x), [(Vi y4.1), Vn, (Vi y4.2)], 114, none⟩])) (Hn := fun x : Addr => [⟨.pointer (some x), [(Vi y4.1), Vn, (Vi y4.2)], 114, none⟩, ⟨.pointer (some q8), [(Vi r8.1), (Vl (Vs g8)), (Vl (Vs gz1))], 150, none⟩, (Rw Kf 32 (Vs g8) r8.2.1), (Rw Kf 32 (Vs gz1) r8.2.2), ⟨.pointer (some q5), [(Vb false)], 4, none⟩, ⟨.pointer (some q4), [(Vi 0), Vn, Vn], 43, none⟩, ⟨.pointer (some q3), [(Vi a1_0), (Vi a1_1), (Vi a1_2), (Sl Kf a1_3), (Sl (Ki .i64) a1_4), (Sl (Kl (Ki .i64)) a1_5), (Sl KT27 a1_6)], 27, none⟩, ⟨.pointer (some q2), [(Vi a0_0), (Sl Kf a0_1), (Sl Kf a0_2)], 43, none⟩]) (fun _ => rfl) rfl rfl) rfl bs_nil (wt_none' rfl) fun q10 => ?_
 cases hp

def spec_SameBox_j5 (k : Nat) (rec1 : Int → Option (Unit ⊕ Unit)) (x6 : Int) (x5 : Bool) : Option (Unit ⊕ Unit) :=
 br x5
  (some (.inl ()))
  (rec1 (iadd .i64 x6 1))
def spec_SameBox_l1s (a0_1 : List Nat) (a1_1 : List Nat) (a0_2 : List Nat) (a1_2 : List Nat) (k : Nat) (rec1 : Int → Option (Unit ⊕ Unit)) (x6 : Int) : Option (Unit ⊕ Unit) :=
 br (decide (x6 < (a0_1.length : Int)))
  ((idx a0_1 x6) >>= fun r47 =>
  (idx a1_1 x6) >>= fun r52 =>
  br (fne r47 r52)
   (spec_SameBox_j5 k rec1 x6 true)
   ((idx a0_2 x6) >>= fun r59 =>
   (idx a1_2 x6) >>= fun r64 =>
   spec_SameBox_j5 k rec1 x6 (fne r59 r64)))
  (some (.inr ()))
def spec_SameBox_l1 (a0_1 : List Nat) (a1_1 : List Nat) (a0_2 : List Nat) (a1_2 : List Nat) : Nat → Int → Option (Unit ⊕ Unit)
 | 0, _ => none
 | k + 1, v => spec_SameBox_l1s a0_1 a1_1 a0_2 a1_2 k (spec_SameBox_l1 a0_1 a1_1 a0_2 a1_2 k) v
def spec_SameBox_j3 (k : Nat) (a0_1 : List Nat) (a1_1 : List Nat) (a0_2 : List Nat) (a1_2 : List Nat) (x3 : Bool) : Option (Bool) :=
 br x3
  (some false)
  ((spec_SameBox_l1 a0_1 a1_1 a0_2 a1_2 k 0) >>= fun y1 => match y1 with
   | (.inl v7) =>
    (some false)
   | (.inr v8) =>
    (some true))
def spec_SameBox_j2 (k : Nat) (a0_1 : List Nat) (a1_1 : List Nat) (a0_2 : List Nat) (a1_2 : List Nat) (x2 : Bool) : Option (Bool) :=
 br x2
  (spec_SameBox_j3 k a0_1 a1_1 a0_2 a1_2 true)
  (spec_SameBox_j3 k a0_1 a1_1 a0_2 a1_2 (!decide ((a0_1.length : Int) = (a0_2.length : Int))))
def spec_SameBox_j1 (k : Nat) (a0_1 : List Nat) (a1_1 : List Nat) (a0_2 : List Nat) (a1_2 : List Nat) (x1 : Bool) : Option (Bool) :=
 br x1
  (spec_SameBox_j2 k a0_1 a1_1 a0_2 a1_2 true)
  (spec_SameBox_j2 k a0_1 a1_1 a0_2 a1_2 (!decide ((a0_2.length : Int) = (a1_2.length : Int))))
def spec_SameBox (k : Nat) (a0_0 : Int) (a0_1 : List Nat) (a0_2 : List Nat) (a1_0 : Int) (a1_1 : List Nat) (a1_2 : List Nat) : Option (Bool) :=
 br (!decide (a0_0 = a1_0))
  (spec_SameBox_j1 k a0_1 a1_1 a0_2 a1_2 true)
  (spec_SameBox_j1 k a0_1 a1_1 a0_2 a1_2 (!decide ((a0_1.length : Int) = (a1_1.length : Int))))

theorem spec_SameBox_sim {k : Nat}  (a0_0 : Int) (a0_1 : List Nat) (a0_2 : List Nat) (a1_0 : Int) (a1_1 : List Nat) (a1_2 : List Nat) {out : Bool} (hp : spec_SameBox k a0_0 a0_1 a0_2 a1_0 a1_1 a1_2 = some out) : Sx.Fn Try.prog 24 [(Ag [(Vi a0_0), (Sl Kf a0_1), (Sl Kf a0_2)]), (Ag [(Vi a1_0), (Sl Kf a1_1), (Sl Kf a1_2)])] [] (fun w : Unit => (Vb out)) (fun w => []) := by
 unfold spec_SameBox at hp
 refine fn_of Try.func24 rfl Try.ntmps24 rfl fun E hM => ?_
 refine cr fun K1 hK1 => ?_
 refine sx_ox' (ox_box' rfl (lv_ag _) rfl rfl) (wt_none' rfl) fun q2 => ?_
 refine sx_ox' (ox_box' rfl (lv_ag _) rfl rfl) (wt_none' rfl) fun q3 => ?_
 refine s0 (rd_assign' rfl) ?_
 refine nk hK1 ?_
 refine cx_seq' fun K2 hK2 => ?_
 refine cr fun K3 hK3 => ?_
 refine s0 (rd_field0' rfl Try.underlying43 rfl info3 rfl) ?_
 refine s0 (rd_load' (i := 1) (o := 0) rfl ⟨rfl, rfl, rfl, rfl⟩ rfl flat3) ?_
 refine s0 (rd_field0' rfl Try.underlying43 rfl info3 rfl) ?_
 refine s0 (rd_load' (i := 0) (o := 0) rfl ⟨rfl, rfl, rfl, rfl⟩ rfl flat3) ?_
 refine s0 (rd_bin' rfl rfl eg_int ru_neq) ?_
 refine s0 (rd_move' rfl) ?_
 refine sx_cutn' 8 (fun (v1 : Bool) => (⟨69, [], [(2, (Vp q2)), (3, (Vp q3)), (19, (Vb v1))], [⟨.pointer (some q2), [(Vi a0_0), (Sl Kf a0_1), (Sl Kf a0_2)], 43, none⟩, ⟨.pointer (some q3), [(Vi a1_0), (Sl Kf a1_1), (Sl Kf a1_2)], 43, none⟩]⟩ : St)) (fun (v1 : Bool) => spec_SameBox_j1 k a0_1 a1_1 a0_2 a1_2 v1 = some out) ?_ ?_
 ·rintro x1 hp
  replace hp : spec_SameBox_j1 k a0_1 a1_1 a0_2 a1_2 x1 = some out := hp
  unfold spec_SameBox_j1 at hp
  refine s0 (rd_move' rfl) ?_
  refine sx_cutn' 8 (fun (v2 : Bool) => (⟨69, [], [(2, (Vp q2)), (3, (Vp q3)), (28, (Vb v2))], [⟨.pointer (some q2), [(Vi a0_0), (Sl Kf a0_1), (Sl Kf a0_2)], 43, none⟩, ⟨.pointer (some q3), [(Vi a1_0), (Sl Kf a1_1), (Sl Kf a1_2)], 43, none⟩]⟩ : St)) (fun (v2 : Bool) => spec_SameBox_j2 k a0_1 a1_1 a0_2 a1_2 v2 = some out) ?_ ?_
  ·rintro x2 hp
   replace hp : spec_SameBox_j2 k a0_1 a1_1 a0_2 a1_2 x2 = some out := hp
   unfold spec_SameBox_j2 at hp
   refine s0 (rd_move' rfl) ?_
   refine sx_cutn' 8 (fun (v3 : Bool) => (⟨69, [], [(2, (Vp q2)), (3, (Vp q3)), (37, (Vb v3))], [⟨.pointer (some q2), [(Vi a0_0), (Sl Kf a0_1), (Sl Kf a0_2)], 43, none⟩, ⟨.pointer (some q3), [(Vi a1_0), (Sl Kf a1_1), (Sl Kf a1_2)], 43, none⟩]⟩ : St)) (fun (v3 : Bool) => spec_SameBox_j3 k a0_1 a1_1 a0_2 a1_2 v3 = some out) ?_ ?_
   ·rintro x3 hp
    replace hp : spec_SameBox_j3 k a0_1 a1_1 a0_2 a1_2 x3 = some out := hp
    unfold spec_SameBox_j3 at hp
    refine nk hK3 ?_
    refine cx_cond' rfl (fun h4 => ?_) (fun h4 => ?_)
    ·replace hp := (br_t h4).symm.trans hp
     refine cr fun K7 hK7 => ?_
     refine s0 (rd_assign' rfl) ?_
     refine nk hK7 ?_
     refine cx_retc' ?_
     replace hp := Option.some.inj hp
     subst hp
     refine tx_pick' (L' := [(4, (Vb false))]) (H' := []) [] (sub_cons rfl sub_nil) (by decide) pick_nil ?_
     exact tx_ret1' Try.results24 rfl () (rv_tmp' rfl) (List.Sublist.refl _)
    replace hp := (br_f h4).symm.trans hp
    refine cx_skip' ?_
    show TX E K2 _
    refine tx_k' hK2 ?_
    refine cx_seq' fun K8 hK8 => ?_
    refine cr fun K9 hK9 => ?_
    refine s0 (rd_field' (off := 1) rfl Try.underlying43 rfl info22 rfl) ?_
    refine s0 (rd_load' (i := 0) (o := 1) rfl ⟨rfl, rfl, rfl, rfl⟩ rfl flat22) ?_
    refine s0 (rd_len' rfl Try.underlying22) ?_
    refine s0 (rd_move' rfl) ?_
    refine nk hK9 ?_
    refine cx_block' ?_
    obtain ⟨y1, hy1, hp⟩ := bind_some hp
    refine cx_loopg' (F := spec_SameBox_l1 a0_1 a1_1 a0_2 a1_2) (G := fun k R v => spec_SameBox_l1s a0_1 a1_1 a0_2 a1_2 k R v) (x := 0) (gh := ()) (fun (v5 : Int) (w5 : Unit) => (⟨69, [], [(2, (Vp q2)), (3, (Vp q3)), (40, (Vi (a0_1.length : Int))), (41, (Vi v5))], [⟨.pointer (some q2), [(Vi a0_0), (Sl Kf a0_1), (Sl Kf a0_2)], 43, none⟩, ⟨.pointer (some q3), [(Vi a1_0), (Sl Kf a1_1), (Sl Kf a1_2)], 43, none⟩]⟩ : St)) (fun (y : Unit ⊕ Unit) => match y with | (.inl v7) => Zg E Exit.ret (fun (w7 : Unit) => (⟨69, [], [(4, (Vb false))], []⟩ : St)) | (.inr v8) => Zg E (Exit.exit 0) (fun (w8 : Unit) => (⟨69, [], [], []⟩ : St))) (fun _ => rfl) (fun _ _ => rfl) ?_ hy1 (tx_to' rfl [0, 1] (sub_cons rfl (sub_cons rfl (sub_cons rfl (sub_cons rfl sub_nil)))) (by decide) (pick_cons rfl (pick_cons rfl pick_nil))) ?_
    ·clear hp hy1
     clear y1
     intro k rec1 KY1 ih1
     rintro x6 ⟨⟩ y1 hp
     replace hp : spec_SameBox_l1s a0_1 a1_1 a0_2 a1_2 k rec1 x6 = some y1 := hp
     unfold spec_SameBox_l1s at hp
     refine cr fun K17 hK17 => ?_
     refine s0 (rd_bin' rfl rfl eg_int ru_lss) ?_
     refine nk hK17 ?_
     refine cx_seq' fun K18 hK18 => ?_
     refine cx_cond' rfl (fun h9 => ?_) (fun h9 => ?_)
     ·replace hp := (br_t h9).symm.trans hp
      refine cx_skip' ?_
      show TX E K18 _
      refine tx_k' hK18 ?_
      refine cx_seq' fun K19 hK19 => ?_
      refine cx_block' ?_
      refine cr fun K20 hK20 => ?_
      refine s0 (rd_move' rfl) ?_
      refine s0 (rd_assign' rfl) ?_
      refine nk hK20 ?_
      refine cx_seq' fun K21 hK21 => ?_
      refine cx_draw' mixed (by kernel_rfl) ?_
      refine qx_rd' (rd_field' (off := 1) rfl Try.underlying43 rfl info22 rfl) rfl rfl (wt_none' rfl) ?_
      refine qx_rd' (rd_load' (i := 0) (o := 1) rfl ⟨rfl, rfl, rfl, rfl⟩ rfl flat22) rfl rfl (wt_none' rfl) ?_
      refine qx_rd' (rd_move' rfl) rfl rfl (wt_none' rfl) ?_
      obtain ⟨r47, hr47, hp⟩ := bind_some hp
      refine qx_rd' (rd_at' (K := Kf) rfl rfl hr47 Try.underlying22 info32) rfl rfl (wt_none' rfl) ?_
      refine qx_rd' (rd_load_pt' rfl rfl flat32) rfl rfl (wt_none' rfl) ?_
      refine qx_rd' (rd_field' (off := 1) rfl Try.underlying43 rfl info22 rfl) rfl rfl (wt_none' rfl) ?_
      refine qx_rd' (rd_load' (i := 1) (o := 1) rfl ⟨rfl, rfl, rfl, rfl⟩ rfl flat22) rfl rfl (wt_none' rfl) ?_
      refine qx_rd' (rd_move' rfl) rfl rfl (wt_none' rfl) ?_
      obtain ⟨r52, hr52, hp⟩ := bind_some hp
      refine qx_rd' (rd_at' (K := Kf) rfl rfl hr52 Try.underlying22 info32) rfl rfl (wt_none' rfl) ?_
      refine qx_rd' (rd_load_pt' rfl rfl flat32) rfl rfl (wt_none' rfl) ?_
      refine qx_rd' (rd_bin' rfl rfl eg_flt ru_fne) rfl rfl (wt_none' rfl) ?_
      refine qx_rd' (rd_move' rfl) rfl rfl (wt_none' rfl) ?_
      refine qx_cutn' 12 (fun (v6 : Bool) => (⟨69, [], [(2, (Vp q2)), (3, (Vp q3)), (40, (Vi (a0_1.length : Int))), (41, (Vi x6)), (67, (Vb v6))], [⟨.pointer (some q2), [(Vi a0_0), (Sl Kf a0_1), (Sl Kf a0_2)], 43, none⟩, ⟨.pointer (some q3), [(Vi a1_0), (Sl Kf a1_1), (Sl Kf a1_2)], 43, none⟩]⟩ : St)) (fun (v6 : Bool) => spec_SameBox_j5 k rec1 x6 v6 = some y1) ?_ ?_
      ·rintro x5 hp
       replace hp : spec_SameBox_j5 k rec1 x6 x5 = some y1 := hp
       unfold spec_SameBox_j5 at hp
       refine qx_nil' ?_
       show TX E K21 _
       refine tx_k' hK21 ?_
       refine cx_cond' rfl (fun h11 => ?_) (fun h11 => ?_)
       ·replace hp := (br_t h11).symm.trans hp
        refine cr fun K23 hK23 => ?_
        refine s0 (rd_assign' rfl) ?_
        refine nk hK23 ?_
        refine cx_retc' ?_
        replace hp := Option.some.inj hp
        subst hp
        show TX E (Zg E Exit.ret _ Exit.ret) _
        exact tx_zend' () rfl [] (sub_cons rfl sub_nil) (by decide) pick_nil
       replace hp := (br_f h11).symm.trans hp
       refine cx_skip' ?_
       show TX E K19 _
       refine tx_k' hK19 ?_
       refine cx_region' ?_
       refine s0 (rd_bin' rfl rfl eg_int ru_add) ?_
       refine s0 (rd_move' rfl) ?_
       refine sx_nil' ?_
       show TX E (KY1 _) _
       exact tx_pick' [0, 1] (sub_cons rfl (sub_cons rfl (sub_cons rfl (sub_cons rfl sub_nil)))) (by decide) (pick_cons rfl (pick_cons rfl pick_nil)) (ih1 (iadd .i64 x6 1) () _ hp)
      intro K22 hK22
      rcases br_cases hp with ⟨h10, hp⟩ | ⟨h10, hp⟩
      ·refine qx_skip' rfl rfl (wt_is' (wt_guard' rfl rfl rfl) (beq_tf h10)) ?_
       refine qx_skip' rfl rfl (wt_is' (wt_guard' rfl rfl rfl) (beq_tf h10)) ?_
       refine qx_skip' rfl rfl (wt_is' (wt_guard' rfl rfl rfl) (beq_tf h10)) ?_
       refine qx_skip' rfl rfl (wt_is' (wt_guard' rfl rfl rfl) (beq_tf h10)) ?_
       refine qx_skip' rfl rfl (wt_is' (wt_guard' rfl rfl rfl) (beq_tf h10)) ?_
       refine qx_skip' rfl rfl (wt_is' (wt_guard' rfl rfl rfl) (beq_tf h10)) ?_
       refine qx_skip' rfl rfl (wt_is' (wt_guard' rfl rfl rfl) (beq_tf h10)) ?_
       refine qx_skip' rfl rfl (wt_is' (wt_guard' rfl rfl rfl) (beq_tf h10)) ?_
       refine qx_skip' rfl rfl (wt_is' (wt_guard' rfl rfl rfl) (beq_tf h10)) ?_
       refine qx_skip' rfl rfl (wt_is' (wt_guard' rfl rfl rfl) (beq_tf h10)) ?_
       refine qx_skip' rfl rfl (wt_is' (wt_guard' rfl rfl rfl) (beq_tf h10)) ?_
       refine qx_rd' (rd_pick_true' rfl h10 rfl) rfl rfl (wt_none' rfl) ?_
       refine qx_end' ?_
       exact tq_pick' [0, 1] (sub_cons rfl (sub_cons rfl (sub_cons rfl (sub_cons rfl (sub_cons rfl sub_nil))))) (by decide) (pick_cons rfl (pick_cons rfl pick_nil)) (hK22 true hp)
      refine qx_rd' (rd_field' (off := 2) rfl Try.underlying43 rfl info22 rfl) rfl rfl (wt_is' (wt_guard' rfl rfl rfl) (beq_ff h10)) ?_
      refine qx_rd' (rd_load' (i := 0) (o := 2) rfl ⟨rfl, rfl, rfl, rfl⟩ rfl flat22) rfl rfl (wt_is' (wt_guard' rfl rfl rfl) (beq_ff h10)) ?_
      refine qx_rd' (rd_move' rfl) rfl rfl (wt_is' (wt_guard' rfl rfl rfl) (beq_ff h10)) ?_
      obtain ⟨r59, hr59, hp⟩ := bind_some hp
      refine qx_rd' (rd_at' (K := Kf) rfl rfl hr59 Try.underlying22 info32) rfl rfl (wt_is' (wt_guard' rfl rfl rfl) (beq_ff h10)) ?_
      refine qx_rd' (rd_load_pt' rfl rfl flat32) rfl rfl (wt_is' (wt_guard' rfl rfl rfl) (beq_ff h10)) ?_
      refine qx_rd' (rd_field' (off := 2) rfl Try.underlying43 rfl info22 rfl) rfl rfl (wt_is' (wt_guard' rfl rfl rfl) (beq_ff h10)) ?_
      refine qx_rd' (rd_load' (i := 1) (o := 2) rfl ⟨rfl, rfl, rfl, rfl⟩ rfl flat22) rfl rfl (wt_is' (wt_guard' rfl rfl rfl) (beq_ff h10)) ?_
      refine qx_rd' (rd_move' rfl) rfl rfl (wt_is' (wt_guard' rfl rfl rfl) (beq_ff h10)) ?_
      obtain ⟨r64, hr64, hp⟩ := bind_some hp
      refine qx_rd' (rd_at' (K := Kf) rfl rfl hr64 Try.underlying22 info32) rfl rfl (wt_is' (wt_guard' rfl rfl rfl) (beq_ff h10)) ?_
      refine qx_rd' (rd_load_pt' rfl rfl flat32) rfl rfl (wt_is' (wt_guard' rfl rfl rfl) (beq_ff h10)) ?_
      refine qx_rd' (rd_bin' rfl rfl eg_flt ru_fne) rfl rfl (wt_is' (wt_guard' rfl rfl rfl) (beq_ff h10)) ?_
      refine qx_rd' (rd_pick_false' rfl h10 rfl) rfl rfl (wt_none' rfl) ?_
      refine qx_end' ?_
      exact tq_pick' [0, 1] (sub_cons rfl (sub_cons rfl (sub_cons rfl (sub_cons rfl (sub_cons rfl sub_nil))))) (by decide) (pick_cons rfl (pick_cons rfl pick_nil)) (hK22 (fne r59 r64) hp)
     replace hp := (br_f h9).symm.trans hp
     refine cx_exit' ?_
     replace hp := Option.some.inj hp
     subst hp
     show TX E (Zg E (Exit.exit 0) _ (Exit.exit 0)) _
     exact tx_zend' () rfl [] sub_nil (by decide) pick_nil
    rcases y1 with v7 | v8
    ·dsimp only at hp
     refine zg_out fun w7 => ?_
     replace hp := Option.some.inj hp
     subst hp
     refine tx_pick' (L' := [(4, (Vb false))]) (H' := []) [] (sub_cons rfl sub_nil) (by decide) pick_nil ?_
     exact tx_ret1' Try.results24 rfl () (rv_tmp' rfl) (List.Sublist.refl _)
    dsimp only at hp
    refine zg_out fun w8 => ?_
    show TX E K8 _
    refine tx_k' hK8 ?_
    refine cr fun K24 hK24 => ?_
    refine s0 (rd_assign' rfl) ?_
    refine nk hK24 ?_
    refine cx_retc' ?_
    replace hp := Option.some.inj hp
    subst hp
    refine tx_pick' (L' := [(4, (Vb true))]) (H' := []) [] (sub_cons rfl sub_nil) (by decide) pick_nil ?_
    exact tx_ret1' Try.results24 rfl () (rv_tmp' rfl) (List.Sublist.refl _)
   intro K6 hK6
   rcases br_cases hp with ⟨h3, hp⟩ | ⟨h3, hp⟩
   ·refine sx_skip' rfl rfl (wt_is' (wt_guard' rfl rfl rfl) (beq_tf h3)) ?_
    refine sx_skip' rfl rfl (wt_is' (wt_guard' rfl rfl rfl) (beq_tf h3)) ?_
    refine sx_skip' rfl rfl (wt_is' (wt_guard' rfl rfl rfl) (beq_tf h3)) ?_
    refine sx_skip' rfl rfl (wt_is' (wt_guard' rfl rfl rfl) (beq_tf h3)) ?_
    refine sx_skip' rfl rfl (wt_is' (wt_guard' rfl rfl rfl) (beq_tf h3)) ?_
    refine sx_skip' rfl rfl (wt_is' (wt_guard' rfl rfl rfl) (beq_tf h3)) ?_
    refine sx_skip' rfl rfl (wt_is' (wt_guard' rfl rfl rfl) (beq_tf h3)) ?_
    refine s0 (rd_pick_true' rfl h3 rfl) ?_
    refine sx_nil' ?_
    show TX E K6 _
    exact tx_pick' [0, 1] (sub_cons rfl (sub_cons rfl (sub_cons rfl sub_nil))) (by decide) (pick_cons rfl (pick_cons rfl pick_nil)) (hK6 true hp)
   refine sx_rd' (rd_field' (off := 1) rfl Try.underlying43 rfl info22 rfl) rfl rfl (wt_is' (wt_guard' rfl rfl rfl) (beq_ff h3)) ?_
   refine sx_rd' (rd_load' (i := 0) (o := 1) rfl ⟨rfl, rfl, rfl, rfl⟩ rfl flat22) rfl rfl (wt_is' (wt_guard' rfl rfl rfl) (beq_ff h3)) ?_
   refine sx_rd' (rd_len' rfl Try.underlying22) rfl rfl (wt_is' (wt_guard' rfl rfl rfl) (beq_ff h3)) ?_
   refine sx_rd' (rd_field' (off := 2) rfl Try.underlying43 rfl info22 rfl) rfl rfl (wt_is' (wt_guard' rfl rfl rfl) (beq_ff h3)) ?_
   refine sx_rd' (rd_load' (i := 0) (o := 2) rfl ⟨rfl, rfl, rfl, rfl⟩ rfl flat22) rfl rfl (wt_is' (wt_guard' rfl rfl rfl) (beq_ff h3)) ?_
   refine sx_rd' (rd_len' rfl Try.underlying22) rfl rfl (wt_is' (wt_guard' rfl rfl rfl) (beq_ff h3)) ?_
   refine sx_rd' (rd_bin' rfl rfl eg_int ru_neq) rfl rfl (wt_is' (wt_guard' rfl rfl rfl) (beq_ff h3)) ?_
   refine s0 (rd_pick_false' rfl h3 rfl) ?_
   refine sx_nil' ?_
   show TX E K6 _
   exact tx_pick' [0, 1] (sub_cons rfl (sub_cons rfl (sub_cons rfl sub_nil))) (by decide) (pick_cons rfl (pick_cons rfl pick_nil)) (hK6 (!decide ((a0_1.length : Int) = (a0_2.length : Int))) hp)
  intro K5 hK5
  rcases br_cases hp with ⟨h2, hp⟩ | ⟨h2, hp⟩
  ·refine sx_skip' rfl rfl (wt_is' (wt_guard' rfl rfl rfl) (beq_tf h2)) ?_
   refine sx_skip' rfl rfl (wt_is' (wt_guard' rfl rfl rfl) (beq_tf h2)) ?_
   refine sx_skip' rfl rfl (wt_is' (wt_guard' rfl rfl rfl) (beq_tf h2)) ?_
   refine sx_skip' rfl rfl (wt_is' (wt_guard' rfl rfl rfl) (beq_tf h2)) ?_
   refine sx_skip' rfl rfl (wt_is' (wt_guard' rfl rfl rfl) (beq_tf h2)) ?_
   refine sx_skip' rfl rfl (wt_is' (wt_guard' rfl rfl rfl) (beq_tf h2)) ?_
   refine sx_skip' rfl rfl (wt_is' (wt_guard' rfl rfl rfl) (beq_tf h2)) ?_
   refine s0 (rd_pick_true' rfl h2 rfl) ?_
   refine sx_nil' ?_
   show TX E K5 _
   exact tx_pick' [0, 1] (sub_cons rfl (sub_cons rfl (sub_cons rfl sub_nil))) (by decide) (pick_cons rfl (pick_cons rfl pick_nil)) (hK5 true hp)
  refine sx_rd' (rd_field' (off := 2) rfl Try.underlying43 rfl info22 rfl) rfl rfl (wt_is' (wt_guard' rfl rfl rfl) (beq_ff h2)) ?_
  refine sx_rd' (rd_load' (i := 0) (o := 2) rfl ⟨rfl, rfl, rfl, rfl⟩ rfl flat22) rfl rfl (wt_is' (wt_guard' rfl rfl rfl) (beq_ff h2)) ?_
  refine sx_rd' (rd_len' rfl Try.underlying22) rfl rfl (wt_is' (wt_guard' rfl rfl rfl) (beq_ff h2)) ?_
  refine sx_rd' (rd_field' (off := 2) rfl Try.underlying43 rfl info22 rfl) rfl rfl (wt_is' (wt_guard' rfl rfl rfl) (beq_ff h2)) ?_
  refine sx_rd' (rd_load' (i := 1) (o := 2) rfl ⟨rfl, rfl, rfl, rfl⟩ rfl flat22) rfl rfl (wt_is' (wt_guard' rfl rfl rfl) (beq_ff h2)) ?_
  refine sx_rd' (rd_len' rfl Try.underlying22) rfl rfl (wt_is' (wt_guard' rfl rfl rfl) (beq_ff h2)) ?_
  refine sx_rd' (rd_bin' rfl rfl eg_int ru_neq) rfl rfl (wt_is' (wt_guard' rfl rfl rfl) (beq_ff h2)) ?_
  refine s0 (rd_pick_false' rfl h2 rfl) ?_
  refine sx_nil' ?_
  show TX E K5 _
  exact tx_pick' [0, 1] (sub_cons rfl (sub_cons rfl (sub_cons rfl sub_nil))) (by decide) (pick_cons rfl (pick_cons rfl pick_nil)) (hK5 (!decide ((a0_2.length : Int) = (a1_2.length : Int))) hp)
 intro K4 hK4
 rcases br_cases hp with ⟨h1, hp⟩ | ⟨h1, hp⟩
 ·refine sx_skip' rfl rfl (wt_is' (wt_guard' rfl rfl rfl) (beq_tf h1)) ?_
  refine sx_skip' rfl rfl (wt_is' (wt_guard' rfl rfl rfl) (beq_tf h1)) ?_
  refine sx_skip' rfl rfl (wt_is' (wt_guard' rfl rfl rfl) (beq_tf h1)) ?_
  refine sx_skip' rfl rfl (wt_is' (wt_guard' rfl rfl rfl) (beq_tf h1)) ?_
  refine sx_skip' rfl rfl (wt_is' (wt_guard' rfl rfl rfl) (beq_tf h1)) ?_
  refine sx_skip' rfl rfl (wt_is' (wt_guard' rfl rfl rfl) (beq_tf h1)) ?_
  refine sx_skip' rfl rfl (wt_is' (wt_guard' rfl rfl rfl) (beq_tf h1)) ?_
  refine s0 (rd_pick_true' rfl h1 rfl) ?_
  refine sx_nil' ?_
  show TX E K4 _
  exact tx_pick' [1, 0] (sub_cons rfl (sub_cons rfl (sub_cons rfl sub_nil))) (by decide) (pick_cons rfl (pick_cons rfl pick_nil)) (hK4 true hp)
 refine sx_rd' (rd_field' (off := 1) rfl Try.underlying43 rfl info22 rfl) rfl rfl (wt_is' (wt_guard' rfl rfl rfl) (beq_ff h1)) ?_
 refine sx_rd' (rd_load' (i := 1) (o := 1) rfl ⟨rfl, rfl, rfl, rfl⟩ rfl flat22) rfl rfl (wt_is' (wt_guard' rfl rfl rfl) (beq_ff h1)) ?_
 refine sx_rd' (rd_len' rfl Try.underlying22) rfl rfl (wt_is' (wt_guard' rfl rfl rfl) (beq_ff h1)) ?_
 refine sx_rd' (rd_field' (off := 1) rfl Try.underlying43 rfl info22 rfl) rfl rfl (wt_is' (wt_guard' rfl rfl rfl) (beq_ff h1)) ?_
 refine sx_rd' (rd_load' (i := 0) (o := 1) rfl ⟨rfl, rfl, rfl, rfl⟩ rfl flat22) rfl rfl (wt_is' (wt_guard' rfl rfl rfl) (beq_ff h1)) ?_
 refine sx_rd' (rd_len' rfl Try.underlying22) rfl rfl (wt_is' (wt_guard' rfl rfl rfl) (beq_ff h1)) ?_
 refine sx_rd' (rd_bin' rfl rfl eg_int ru_neq) rfl rfl (wt_is' (wt_guard' rfl rfl rfl) (beq_ff h1)) ?_
 refine s0 (rd_pick_false' rfl h1 rfl) ?_
 refine sx_nil' ?_
 show TX E K4 _
 exact tx_pick' [1, 0] (sub_cons rfl (sub_cons rfl (sub_cons rfl sub_nil))) (by decide) (pick_cons rfl (pick_cons rfl pick_nil)) (hK4 (!decide ((a0_1.length : Int) = (a1_1.length : Int))) hp)

def laws_FnBoxExtendOrder_j8 (k : Nat) (x8 : Bool) : Option (Bool) :=
 some x8
def laws_FnBoxExtendOrder_j7 (k : Nat) (r51 : Int × (List Nat) × (List Nat) × Bool) (r63 : Int × (List Nat) × (List Nat) × Bool) (x7 : Bool) : Option (Bool) :=
 br x7
  ((spec_SameBox k r51.1 r51.2.1 r51.2.2.1 r63.1 r63.2.1 r63.2.2.1) >>= fun r79 =>
  laws_FnBoxExtendOrder_j8 k r79)
  (laws_FnBoxExtendOrder_j8 k false)
def laws_FnBoxExtendOrder_j6 (k : Nat) (r51 : Int × (List Nat) × (List Nat) × Bool) (r63 : Int × (List Nat) × (List Nat) × Bool) (x6 : Bool) : Option (Bool) :=
 br x6
  (laws_FnBoxExtendOrder_j7 k r51 r63 r63.2.2.2)
  (laws_FnBoxExtendOrder_j7 k r51 r63 false)
def laws_FnBoxExtendOrder_j5 (k : Nat) (r51 : Int × (List Nat) × (List Nat) × Bool) (r63 : Int × (List Nat) × (List Nat) × Bool) (r57 : Int × (List Nat) × (List Nat) × Bool) (x5 : Bool) : Option (Bool) :=
 br x5
  (laws_FnBoxExtendOrder_j6 k r51 r63 r57.2.2.2)
  (laws_FnBoxExtendOrder_j6 k r51 r63 false)
def laws_FnBoxExtendOrder_j4 (k : Nat) (a0_0 : Int) (a0_1 : List Nat) (a0_2 : List Nat) (a1_0 : Int) (a1_1 : Int) (a1_2 : Int) (a1_3 : List Nat) (a1_4 : List Int) (a1_5 : List (List Int)) (a1_6 : List T27) (a2_0 : Int) (a2_1 : Int) (a2_2 : Int) (a2_3 : List Nat) (a2_4 : List Int) (a2_5 : List (List Int)) (a2_6 : List T27) (x4 : Bool) : Option (Bool) :=
 br x4
  (some true)
  ((impl_BoxExtend k a0_0 a0_1 a0_2 a1_0 a1_1 a1_2 a1_3 a1_4 a1_5 a1_6) >>= fun r45 =>
  (impl_BoxExtend k r45.1 r45.2.1 r45.2.2.1 a2_0 a2_1 a2_2 a2_3 a2_4 a2_5 a2_6) >>= fun r51 =>
  (impl_BoxExtend k a0_0 a0_1 a0_2 a2_0 a2_1 a2_2 a2_3 a2_4 a2_5 a2_6) >>= fun r57 =>
  (impl_BoxExtend k r57.1 r57.2.1 r57.2.2.1 a1_0 a1_1 a1_2 a1_3 a1_4 a1_5 a1_6) >>= fun r63 =>
  br r45.2.2.2
   (laws_FnBoxExtendOrder_j5 k r51 r63 r57 r51.2.2.2)
   (laws_FnBoxExtendOrder_j5 k r51 r63 r57 false))
def laws_FnBoxExtendOrder_j3 (k : Nat) (a0_0 : Int) (a0_1 : List Nat) (a0_2 : List Nat) (a1_0 : Int) (a1_1 : Int) (a1_2 : Int) (a1_3 : List Nat) (a1_4 : List Int) (a1_5 : List (List Int)) (a1_6 : List T27) (a2_0 : Int) (a2_1 : Int) (a2_2 : Int) (a2_3 : List Nat) (a2_4 : List Int) (a2_5 : List (List Int)) (a2_6 : List T27) (x3 : Bool) : Option (Bool) :=
 br x3
  (laws_FnBoxExtendOrder_j4 k a0_0 a0_1 a0_2 a1_0 a1_1 a1_2 a1_3 a1_4 a1_5 a1_6 a2_0 a2_1 a2_2 a2_3 a2_4 a2_5 a2_6 true)
  ((laws_bAdds k ([(T27.mk a1_0 a1_1 a1_2 a1_3 a1_4 a1_5 a1_6), (T27.mk a2_0 a2_1 a2_2 a2_3 a2_4 a2_5 a2_6)])) >>= fun r39 =>
  laws_FnBoxExtendOrder_j4 k a0_0 a0_1 a0_2 a1_0 a1_1 a1_2 a1_3 a1_4 a1_5 a1_6 a2_0 a2_1 a2_2 a2_3 a2_4 a2_5 a2_6 (!r39))
def laws_FnBoxExtendOrder_j2 (k : Nat) (a0_0 : Int) (a0_1 : List Nat) (a0_2 : List Nat) (a1_0 : Int) (a1_1 : Int) (a1_2 : Int) (a1_3 : List Nat) (a1_4 : List Int) (a1_5 : List (List Int)) (a1_6 : List T27) (a2_0 : Int) (a2_1 : Int) (a2_2 : Int) (a2_3 : List Nat) (a2_4 : List Int) (a2_5 : List (List Int)) (a2_6 : List T27) (x2 : Bool) : Option (Bool) :=
 br x2
  (some true)
  ((laws_bBox k ([(a0_0, a0_1, a0_2)])) >>= fun r28 =>
  br (!r28)
   (laws_FnBoxExtendOrder_j3 k a0_0 a0_1 a0_2 a1_0 a1_1 a1_2 a1_3 a1_4 a1_5 a1_6 a2_0 a2_1 a2_2 a2_3 a2_4 a2_5 a2_6 true)
   (laws_FnBoxExtendOrder_j3 k a0_0 a0_1 a0_2 a1_0 a1_1 a1_2 a1_3 a1_4 a1_5 a1_6 a2_0 a2_1 a2_2 a2_3 a2_4 a2_5 a2_6 (decide (4 < a0_0))))
def laws_FnBoxExtendOrder_j1 (k : Nat) (a0_0 : Int) (a0_1 : List Nat) (a0_2 : List Nat) (a1_0 : Int) (a1_1 : Int) (a1_2 : Int) (a1_3 : List Nat) (a1_4 : List Int) (a1_5 : List (List Int)) (a1_6 : List T27) (a2_0 : Int) (a2_1 : Int) (a2_2 : Int) (a2_3 : List Nat) (a2_4 : List Int) (a2_5 : List (List Int)) (a2_6 : List T27) (x1 : Bool) : Option (Bool) :=
 br x1
  (laws_FnBoxExtendOrder_j2 k a0_0 a0_1 a0_2 a1_0 a1_1 a1_2 a1_3 a1_4 a1_5 a1_6 a2_0 a2_1 a2_2 a2_3 a2_4 a2_5 a2_6 true)
  ((laws_zzFits2 k a2_0 a2_1 a2_2 a2_3 a2_4 a2_5 a2_6) >>= fun r23 =>
  laws_FnBoxExtendOrder_j2 k a0_0 a0_1 a0_2 a1_0 a1_1 a1_2 a1_3 a1_4 a1_5 a1_6 a2_0 a2_1 a2_2 a2_3 a2_4 a2_5 a2_6 (!r23))
def laws_FnBoxExtendOrder (k : Nat) (a0_0 : Int) (a0_1 : List Nat) (a0_2 : List Nat) (a1_0 : Int) (a1_1 : Int) (a1_2 : Int) (a1_3 : List Nat) (a1_4 : List Int) (a1_5 : List (List Int)) (a1_6 : List T27) (a2_0 : Int) (a2_1 : Int) (a2_2 : Int) (a2_3 : List Nat) (a2_4 : List Int) (a2_5 : List (List Int)) (a2_6 : List T27) : Option (Bool) :=
 (laws_zzFits1 k a0_0 a0_1 a0_2) >>= fun r14 =>
 br (!r14)
  (laws_FnBoxExtendOrder_j1 k a0_0 a0_1 a0_2 a1_0 a1_1 a1_2 a1_3 a1_4 a1_5 a1_6 a2_0 a2_1 a2_2 a2_3 a2_4 a2_5 a2_6 true)
  ((laws_zzFits2 k a1_0 a1_1 a1_2 a1_3 a1_4 a1_5 a1_6) >>= fun r18 =>
  laws_FnBoxExtendOrder_j1 k a0_0 a0_1 a0_2 a1_0 a1_1 a1_2 a1_3 a1_4 a1_5 a1_6 a2_0 a2_1 a2_2 a2_3 a2_4 a2_5 a2_6 (!r18))

theorem laws_FnBoxExtendOrder_sim {k : Nat}  (a0_0 : Int) (a0_1 : List Nat) (a0_2 : List Nat) (a1_0 : Int) (a1_1 : Int) (a1_2 : Int) (a1_3 : List Nat) (a1_4 : List Int) (a1_5 : List (List Int)) (a1_6 : List T27) (a2_0 : Int) (a2_1 : Int) (a2_2 : Int) (a2_3 : List Nat) (a2_4 : List Int) (a2_5 : List (List Int)) (a2_6 : List T27) {out : Bool} (hp : laws_FnBoxExtendOrder k a0_0 a0_1 a0_2 a1_0 a1_1 a1_2 a1_3 a1_4 a1_5 a1_6 a2_0 a2_1 a2_2 a2_3 a2_4 a2_5 a2_6 = some out) : Sx.Fn Try.prog 6 [(Ag [(Vi a0_0), (Sl Kf a0_1), (Sl Kf a0_2)]), (Ag [(Vi a1_0), (Vi a1_1), (Vi a1_2), (Sl Kf a1_3), (Sl (Ki .i64) a1_4), (Sl (Kl (Ki .i64)) a1_5), (Sl KT27 a1_6)]), (Ag [(Vi a2_0), (Vi a2_1), (Vi a2_2), (Sl Kf a2_3), (Sl (Ki .i64) a2_4), (Sl (Kl (Ki .i64)) a2_5), (Sl KT27 a2_6)])] [] (fun w : Unit => (Vb out)) (fun w => []) := by
 unfold laws_FnBoxExtendOrder at hp
 refine fn_of Try.func6 rfl Try.ntmps6 rfl fun E hM => ?_
 refine cr fun K1 hK1 => ?_
 refine sx_ox' (ox_box' rfl (lv_ag _) rfl rfl) (wt_none' rfl) fun q3 => ?_
 refine sx_ox' (ox_box' rfl (lv_ag _) rfl rfl) (wt_none' rfl) fun q4 => ?_
 refine sx_ox' (ox_box' rfl (lv_ag _) rfl rfl) (wt_none' rfl) fun q5 => ?_
 refine s0 (rd_assign' rfl) ?_
 refine nk hK1 ?_
 refine cx_seq' fun K2 hK2 => ?_
 refine cr fun K3 hK3 => ?_
 refine s0 (rd_load_agg' (i := 2) (o := 0) (nn := 3) rfl ⟨rfl, rfl, rfl, rfl⟩ rfl agg43 (l' := [(Vi a0_0), (Sl Kf a0_1), (Sl Kf a0_2)]) rfl) ?_
 obtain ⟨r14, hr14, hp⟩ := bind_some hp
 refine sx_ox' (ox_calln' (ent_fn' Try.func20 isn20 rfl rfl) (laws_zzFits1_sim _ _ _ hr14 : Sx.Fn Try.prog 20 [(Ag [(Vi a0_0), (Sl Kf a0_1), (Sl Kf a0_2)])] [] (fun x : Unit => (Vb r14)) (fun x => [])) (Hn := fun x : Unit => [⟨.pointer (some q5), [(Vi a2_0), (Vi a2_1), (Vi a2_2), (Sl Kf a2_3), (Sl (Ki .i64) a2_4), (Sl (Kl (Ki .i64)) a2_5), (Sl KT27 a2_6)], 27, none⟩, ⟨.pointer (some q4), [(Vi a1_0), (Vi a1_1), (Vi a1_2), (Sl Kf a1_3), (Sl (Ki .i64) a1_4), (Sl (Kl (Ki .i64)) a1_5), (Sl KT27 a1_6)], 27, none⟩, ⟨.pointer (some q3), [(Vi a0_0), (Sl Kf a0_1), (Sl Kf a0_2)], 43, none⟩]) (fun _ => rfl) rfl rfl) (wt_none' rfl) fun ⟨⟩ => ?_
 refine s0 (rd_un' rfl ru_not) ?_
 refine s0 (rd_move' rfl) ?_
 refine sx_cutn' 4 (fun (v1 : Bool) => (⟨81, [], [(3, (Vp q3)), (4, (Vp q4)), (5, (Vp q5)), (20, (Vb v1))], [⟨.pointer (some q3), [(Vi a0_0), (Sl Kf a0_1), (Sl Kf a0_2)], 43, none⟩, ⟨.pointer (some q4), [(Vi a1_0), (Vi a1_1), (Vi a1_2), (Sl Kf a1_3), (Sl (Ki .i64) a1_4), (Sl (Kl (Ki .i64)) a1_5), (Sl KT27 a1_6)], 27, none⟩, ⟨.pointer (some q5), [(Vi a2_0), (Vi a2_1), (Vi a2_2), (Sl Kf a2_3), (Sl (Ki .i64) a2_4), (Sl (Kl (Ki .i64)) a2_5), (Sl KT27 a2_6)], 27, none⟩]⟩ : St)) (fun (v1 : Bool) => laws_FnBoxExtendOrder_j1 k a0_0 a0_1 a0_2 a1_0 a1_1 a1_2 a1_3 a1_4 a1_5 a1_6 a2_0 a2_1 a2_2 a2_3 a2_4 a2_5 a2_6 v1 = some out) ?_ ?_
 ·rintro x1 hp
  replace hp : laws_FnBoxExtendOrder_j1 k a0_0 a0_1 a0_2 a1_0 a1_1 a1_2 a1_3 a1_4 a1_5 a1_6 a2_0 a2_1 a2_2 a2_3 a2_4 a2_5 a2_6 x1 = some out := hp
  unfold laws_FnBoxExtendOrder_j1 at hp
  refine s0 (rd_move' rfl) ?_
  refine sx_cutn' 4 (fun (v2 : Bool) => (⟨81, [], [(3, (Vp q3)), (4, (Vp q4)), (5, (Vp q5)), (25, (Vb v2))], [⟨.pointer (some q3), [(Vi a0_0), (Sl Kf a0_1), (Sl Kf a0_2)], 43, none⟩, ⟨.pointer (some q4), [(Vi a1_0), (Vi a1_1), (Vi a1_2), (Sl Kf a1_3), (Sl (Ki .i64) a1_4), (Sl (Kl (Ki .i64)) a1_5), (Sl KT27 a1_6)], 27, none⟩, ⟨.pointer (some q5), [(Vi a2_0), (Vi a2_1), (Vi a2_2), (Sl Kf a2_3), (Sl (Ki .i64) a2_4), (Sl (Kl (Ki .i64)) a2_5), (Sl KT27 a2_6)], 27, none⟩]⟩ : St)) (fun (v2 : Bool) => laws_FnBoxExtendOrder_j2 k a0_0 a0_1 a0_2 a1_0 a1_1 a1_2 a1_3 a1_4 a1_5 a1_6 a2_0 a2_1 a2_2 a2_3 a2_4 a2_5 a2_6 v2 = some out) ?_ ?_
  ·rintro x2 hp
   replace hp : laws_FnBoxExtendOrder_j2 k a0_0 a0_1 a0_2 a1_0 a1_1 a1_2 a1_3 a1_4 a1_5 a1_6 a2_0 a2_1 a2_2 a2_3 a2_4 a2_5 a2_6 x2 = some out := hp
   unfold laws_FnBoxExtendOrder_j2 at hp
   refine nk hK3 ?_
   refine cx_cond' rfl (fun h3 => ?_) (fun h3 => ?_)
   ·replace hp := (br_t h3).symm.trans hp
    refine cr fun K6 hK6 => ?_
    refine s0 (rd_assign' rfl) ?_
    refine nk hK6 ?_
    refine cx_retc' ?_
    replace hp := Option.some.inj hp
    subst hp
    refine tx_pick' (L' := [(6, (Vb true))]) (H' := []) [] (sub_cons rfl sub_nil) (by decide) pick_nil ?_
    exact tx_ret1' Try.results6 rfl () (rv_tmp' rfl) (List.Sublist.refl _)
   replace hp := (br_f h3).symm.trans hp
   refine cx_skip' ?_
   show TX E K2 _
   refine tx_k' hK2 ?_
   refine cx_seq' fun K7 hK7 => ?_
   refine cr fun K8 hK8 => ?_
   refine s0 (rd_load_agg' (i := 0) (o := 0) (nn := 3) rfl ⟨rfl, rfl, rfl, rfl⟩ rfl agg43 (l' := [(Vi a0_0), (Sl Kf a0_1), (Sl Kf a0_2)]) rfl) ?_
   refine sx_ox' (ox_rowlit' (K := KT43) (xs := [(a0_0, a0_1, a0_2)]) (qs := [(0, [(Vi a0_0), (Sl Kf a0_1), (Sl Kf a0_2)])]) ⟨rfl, ⟨_, rfl, (lv_ag _)⟩, trivial⟩ Try.underlying79 info43 rfl rfl rfl rfl rfl (by kernel_rfl) rfl rfl rfl) (wt_none' rfl) fun g27 => ?_
   obtain ⟨r28, hr28, hp⟩ := bind_some hp
   refine sx_ox' (ox_brw' (frz_row 0 [(27, (Vl (Vs g27)), (Sl KT43 ([(a0_0, a0_1, a0_2)])))] (K := KT43) (xs := [(a0_0, a0_1, a0_2)]) (by decide) rfl ⟨⟨rfl, frz_it⟩, trivial⟩ (H' := [⟨.pointer (some q3), [(Vi a0_0), (Sl Kf a0_1), (Sl Kf a0_2)], 43, none⟩, ⟨.pointer (some q4), [(Vi a1_0), (Vi a1_1), (Vi a1_2), (Sl Kf a1_3), (Sl (Ki .i64) a1_4), (Sl (Kl (Ki .i64)) a1_5), (Sl KT27 a1_6)], 27, none⟩, ⟨.pointer (some q5), [(Vi a2_0), (Vi a2_1), (Vi a2_2), (Sl Kf a2_3), (Sl (Ki .i64) a2_4), (Sl (Kl (Ki .i64)) a2_5), (Sl KT27 a2_6)], 27, none⟩]) frzH_refl) (ent_fn' Try.func21 isn21 rfl rfl) (laws_bBox_sim _ hr28 : Sx.Fn Try.prog 21 [(Sl KT43 ([(a0_0, a0_1, a0_2)]))] [] (fun x : Unit => (Vb r28)) (fun x => [])) pu_vl rfl rfl) (wt_none' rfl) fun ⟨⟩ => ?_
   refine s0 (rd_un' rfl ru_not) ?_
   refine s0 (rd_move' rfl) ?_
   refine sx_cutn' 4 (fun (v3 : Bool) => (⟨81, [], [(3, (Vp q3)), (4, (Vp q4)), (5, (Vp q5)), (34, (Vb v3))], [⟨.pointer (some q3), [(Vi a0_0), (Sl Kf a0_1), (Sl Kf a0_2)], 43, none⟩, ⟨.pointer (some q4), [(Vi a1_0), (Vi a1_1), (Vi a1_2), (Sl Kf a1_3), (Sl (Ki .i64) a1_4), (Sl (Kl (Ki .i64)) a1_5), (Sl KT27 a1_6)], 27, none⟩, ⟨.pointer (some q5), [(Vi a2_0), (Vi a2_1), (Vi a2_2), (Sl Kf a2_3), (Sl (Ki .i64) a2_4), (Sl (Kl (Ki .i64)) a2_5), (Sl KT27 a2_6)], 27, none⟩]⟩ : St)) (fun (v3 : Bool) => laws_FnBoxExtendOrder_j3 k a0_0 a0_1 a0_2 a1_0 a1_1 a1_2 a1_3 a1_4 a1_5 a1_6 a2_0 a2_1 a2_2 a2_3 a2_4 a2_5 a2_6 v3 = some out) ?_ ?_
   ·rintro x3 hp
    replace hp : laws_FnBoxExtendOrder_j3 k a0_0 a0_1 a0_2 a1_0 a1_1 a1_2 a1_3 a1_4 a1_5 a1_6 a2_0 a2_1 a2_2 a2_3 a2_4 a2_5 a2_6 x3 = some out := hp
    unfold laws_FnBoxExtendOrder_j3 at hp
    refine s0 (rd_move' rfl) ?_
    refine sx_cutn' 6 (fun (v4 : Bool) => (⟨81, [], [(3, (Vp q3)), (4, (Vp q4)), (5, (Vp q5)), (41, (Vb v4))], [⟨.pointer (some q3), [(Vi a0_0), (Sl Kf a0_1), (Sl Kf a0_2)], 43, none⟩, ⟨.pointer (some q4), [(Vi a1_0), (Vi a1_1), (Vi a1_2), (Sl Kf a1_3), (Sl (Ki .i64) a1_4), (Sl (Kl (Ki .i64)) a1_5), (Sl KT27 a1_6)], 27, none⟩, ⟨.pointer (some q5), [(Vi a2_0), (Vi a2_1), (Vi a2_2), (Sl Kf a2_3), (Sl (Ki .i64) a2_4), (Sl (Kl (Ki .i64)) a2_5), (Sl KT27 a2_6)], 27, none⟩]⟩ : St)) (fun (v4 : Bool) => laws_FnBoxExtendOrder_j4 k a0_0 a0_1 a0_2 a1_0 a1_1 a1_2 a1_3 a1_4 a1_5 a1_6 a2_0 a2_1 a2_2 a2_3 a2_4 a2_5 a2_6 v4 = some out) ?_ ?_
    ·rintro x4 hp
     replace hp : laws_FnBoxExtendOrder_j4 k a0_0 a0_1 a0_2 a1_0 a1_1 a1_2 a1_3 a1_4 a1_5 a1_6 a2_0 a2_1 a2_2 a2_3 a2_4 a2_5 a2_6 x4 = some out := hp
     unfold laws_FnBoxExtendOrder_j4 at hp
     refine nk hK8 ?_
     refine cx_cond' rfl (fun h6 => ?_) (fun h6 => ?_)
     ·replace hp := (br_t h6).symm.trans hp
      refine cr fun K11 hK11 => ?_
      refine s0 (rd_assign' rfl) ?_
      refine nk hK11 ?_
      refine cx_retc' ?_
      replace hp := Option.some.inj hp
      subst hp
      refine tx_pick' (L' := [(6, (Vb true))]) (H' := []) [] (sub_cons rfl sub_nil) (by decide) pick_nil ?_
      exact tx_ret1' Try.results6 rfl () (rv_tmp' rfl) (List.Sublist.refl _)
     replace hp := (br_f h6).symm.trans hp
     refine cx_skip' ?_
     show TX E K7 _
     refine tx_k' hK7 ?_
     refine cr fun K12 hK12 => ?_
     refine s0 (rd_load_agg' (i := 0) (o := 0) (nn := 3) rfl ⟨rfl, rfl, rfl, rfl⟩ rfl agg43 (l' := [(Vi a0_0), (Sl Kf a0_1), (Sl Kf a0_2)]) rfl) ?_
     refine s0 (rd_load_agg' (i := 1) (o := 0) (nn := 7) rfl ⟨rfl, rfl, rfl, rfl⟩ rfl agg27 (l' := [(Vi a1_0), (Vi a1_1), (Vi a1_2), (Sl Kf a1_3), (Sl (Ki .i64) a1_4), (Sl (Kl (Ki .i64)) a1_5), (Sl KT27 a1_6)]) rfl) ?_
     obtain ⟨r45, hr45, hp⟩ := bind_some hp
     refine sx_ox' (ox_calln' (ent_fn' Try.func23 isn23 rfl rfl) (impl_BoxExtend_sim _ _ _ _ _ _ _ _ _ _ hr45 : Sx.Fn Try.prog 23 [(Ag [(Vi a0_0), (Sl Kf a0_1), (Sl Kf a0_2)]), (Ag [(Vi a1_0), (Vi a1_1), (Vi a1_2), (Sl Kf a1_3), (Sl (Ki .i64) a1_4), (Sl (Kl (Ki .i64)) a1_5), (Sl KT27 a1_6)])] [] (fun x : Unit => (Tu [(Ag [(Vi r45.1), (Sl Kf r45.2.1), (Sl Kf r45.2.2.1)]), (Vb r45.2.2.2)])) (fun x => [])) (Hn := fun x : Unit => [⟨.pointer (some q3), [(Vi a0_0), (Sl Kf a0_1), (Sl Kf a0_2)], 43, none⟩, ⟨.pointer (some q4), [(Vi a1_0), (Vi a1_1), (Vi a1_2), (Sl Kf a1_3), (Sl (Ki .i64) a1_4), (Sl (Kl (Ki .i64)) a1_5), (Sl KT27 a1_6)], 27, none⟩, ⟨.pointer (some q5), [(Vi a2_0), (Vi a2_1), (Vi a2_2), (Sl Kf a2_3), (Sl (Ki .i64) a2_4), (Sl (Kl (Ki .i64)) a2_5), (Sl KT27 a2_6)], 27, none⟩]) (fun _ => rfl) rfl rfl) (wt_none' rfl) fun ⟨⟩ => ?_
     refine s0 (rd_move' rfl) ?_
     refine s0 (rd_extract' rfl rfl) ?_
     refine s0 (rd_extract' rfl rfl) ?_
     refine sx_ox' (ox_alloc' info43 rfl rfl rfl rfl (l := [(Vi 0), Vn, Vn]) rfl) (wt_none' rfl) fun q7 => ?_
     refine sx_ox' (ox_store' (i := 0) (o := 0) rfl rfl (lv_ag _) ⟨rfl, rfl, rfl, rfl⟩ rfl info43 rfl (H' := [⟨.pointer (some q7), [(Vi r45.1), (Sl Kf r45.2.1), (Sl Kf r45.2.2.1)], 43, none⟩, ⟨.pointer (some q3), [(Vi a0_0), (Sl Kf a0_1), (Sl Kf a0_2)], 43, none⟩, ⟨.pointer (some q4), [(Vi a1_0), (Vi a1_1), (Vi a1_2), (Sl Kf a1_3), (Sl (Ki .i64) a1_4), (Sl (Kl (Ki .i64)) a1_5), (Sl KT27 a1_6)], 27, none⟩, ⟨.pointer (some q5), [(Vi a2_0), (Vi a2_1), (Vi a2_2), (Sl Kf a2_3), (Sl (Ki .i64) a2_4), (Sl (Kl (Ki .i64)) a2_5), (Sl KT27 a2_6)], 27, none⟩]) rfl) (wt_none' rfl) fun _ => ?_
     refine s0 (rd_assign' rfl) ?_
     refine nk hK12 ?_
     refine cr fun K13 hK13 => ?_
     refine s0 (rd_load_agg' (i := 0) (o := 0) (nn := 3) rfl ⟨rfl, rfl, rfl, rfl⟩ rfl agg43 (l' := [(Vi r45.1), (Sl Kf r45.2.1), (Sl Kf r45.2.2.1)]) rfl) ?_
     refine s0 (rd_load_agg' (i := 3) (o := 0) (nn := 7) rfl ⟨rfl, rfl, rfl, rfl⟩ rfl agg27 (l' := [(Vi a2_0), (Vi a2_1), (Vi a2_2), (Sl Kf a2_3), (Sl (Ki .i64) a2_4), (Sl (Kl (Ki .i64)) a2_5), (Sl KT27 a2_6)]) rfl) ?_
     obtain ⟨r51, hr51, hp⟩ := bind_some hp
     refine sx_ox' (ox_calln' (ent_fn' Try.func23 isn23 rfl rfl) (impl_BoxExtend_sim _ _ _ _ _ _ _ _ _ _ hr51 : Sx.Fn Try.prog 23 [(Ag [(Vi r45.1), (Sl Kf r45.2.1), (Sl Kf r45.2.2.1)]), (Ag [(Vi a2_0), (Vi a2_1), (Vi a2_2), (Sl Kf a2_3), (Sl (Ki .i64) a2_4), (Sl (Kl (Ki .i64)) a2_5), (Sl KT27 a2_6)])] [] (fun x : Unit => (Tu [(Ag [(Vi r51.1), (Sl Kf r51.2.1), (Sl Kf r51.2.2.1)]), (Vb r51.2.2.2)])) (fun x => [])) (Hn := fun x : Unit => [⟨.pointer (some q7), [(Vi r45.1), (Sl Kf r45.2.1), (Sl Kf r45.2.2.1)], 43, none⟩, ⟨.pointer (some q3), [(Vi a0_0), (Sl Kf a0_1), (Sl Kf a0_2)], 43, none⟩, ⟨.pointer (some q4), [(Vi a1_0), (Vi a1_1), (Vi a1_2), (Sl Kf a1_3), (Sl (Ki .i64) a1_4), (Sl (Kl (Ki .i64)) a1_5), (Sl KT27 a1_6)], 27, none⟩, ⟨.pointer (some q5), [(Vi a2_0), (Vi a2_1), (Vi a2_2), (Sl Kf a2_3), (Sl (Ki .i64) a2_4), (Sl (Kl (Ki .i64)) a2_5), (Sl KT27 a2_6)], 27, none⟩]) (fun _ => rfl) rfl rfl) (wt_none' rfl) fun ⟨⟩ => ?_
     refine s0 (rd_move' rfl) ?_
     refine s0 (rd_extract' rfl rfl) ?_
     refine s0 (rd_extract' rfl rfl) ?_
     refine sx_ox' (ox_store' (i := 0) (o := 0) rfl rfl (lv_ag _) ⟨rfl, rfl, rfl, rfl⟩ rfl info43 rfl (H' := [⟨.pointer (some q7), [(Vi r51.1), (Sl Kf r51.2.1), (Sl Kf r51.2.2.1)], 43, none⟩, ⟨.pointer (some q3), [(Vi a0_0), (Sl Kf a0_1), (Sl Kf a0_2)], 43, none⟩, ⟨.pointer (some q4), [(Vi a1_0), (Vi a1_1), (Vi a1_2), (Sl Kf a1_3), (Sl (Ki .i64) a1_4), (Sl (Kl (Ki .i64)) a1_5), (Sl KT27 a1_6)], 27, none⟩, ⟨.pointer (some q5), [(Vi a2_0), (Vi a2_1), (Vi a2_2), (Sl Kf a2_3), (Sl (Ki .i64) a2_4), (Sl (Kl (Ki .i64)) a2_5), (Sl KT27 a2_6)], 27, none⟩]) rfl) (wt_none' rfl) fun _ => ?_
     refine s0 (rd_assign' rfl) ?_
     refine nk hK13 ?_
     refine cr fun K14 hK14 => ?_
     refine s0 (rd_load_agg' (i := 1) (o := 0) (nn := 3) rfl ⟨rfl, rfl, rfl, rfl⟩ rfl agg43 (l' := [(Vi a0_0), (Sl Kf a0_1), (Sl Kf a0_2)]) rfl) ?_
     refine s0 (rd_load_agg' (i := 3) (o := 0) (nn := 7) rfl ⟨rfl, rfl, rfl, rfl⟩ rfl agg27 (l' := [(Vi a2_0), (Vi a2_1), (Vi a2_2), (Sl Kf a2_3), (Sl (Ki .i64) a2_4), (Sl (Kl (Ki .i64)) a2_5), (Sl KT27 a2_6)]) rfl) ?_
     obtain ⟨r57, hr57, hp⟩ := bind_some hp
     refine sx_ox' (ox_calln' (ent_fn' Try.func23 isn23 rfl rfl) (impl_BoxExtend_sim _ _ _ _ _ _ _ _ _ _ hr57 : Sx.Fn Try.prog 23 [(Ag [(Vi a0_0), (Sl Kf a0_1), (Sl Kf a0_2)]), (Ag [(Vi a2_0), (Vi a2_1), (Vi a2_2), (Sl Kf a2_3), (Sl (Ki .i64) a2_4), (Sl (Kl (Ki .i64)) a2_5), (Sl KT27 a2_6)])] [] (fun x : Unit => (Tu [(Ag [(Vi r57.1), (Sl Kf r57.2.1), (Sl Kf r57.2.2.1)]), (Vb r57.2.2.2)])) (fun x => [])) (Hn := fun x : Unit => [⟨.pointer (some q7), [(Vi r51.1), (Sl Kf r51.2.1), (Sl Kf r51.2.2.1)], 43, none⟩, ⟨.pointer (some q3), [(Vi a0_0), (Sl Kf a0_1), (Sl Kf a0_2)], 43, none⟩, ⟨.pointer (some q4), [(Vi a1_0), (Vi a1_1), (Vi a1_2), (Sl Kf a1_3), (Sl (Ki .i64) a1_4), (Sl (Kl (Ki .i64)) a1_5), (Sl KT27 a1_6)], 27, none⟩, ⟨.pointer (some q5), [(Vi a2_0), (Vi a2_1), (Vi a2_2), (Sl Kf a2_3), (Sl (Ki .i64) a2_4), (Sl (Kl (Ki .i64)) a2_5), (Sl KT27 a2_6)], 27, none⟩]) (fun _ => rfl) rfl rfl) (wt_none' rfl) fun ⟨⟩ => ?_
     refine s0 (rd_move' rfl) ?_
     refine s0 (rd_extract' rfl rfl) ?_
     refine s0 (rd_extract' rfl rfl) ?_
     refine sx_ox' (ox_alloc' info43 rfl rfl rfl rfl (l := [(Vi 0), Vn, Vn]) rfl) (wt_none' rfl) fun q10 => ?_
     refine sx_ox' (ox_store' (i := 0) (o := 0) rfl rfl (lv_ag _) ⟨rfl, rfl, rfl, rfl⟩ rfl info43 rfl (H' := [⟨.pointer (some q10), [(Vi r57.1), (Sl Kf r57.2.1), (Sl Kf r57.2.2.1)], 43, none⟩, ⟨.pointer (some q7), [(Vi r51.1), (Sl Kf r51.2.1), (Sl Kf r51.2.2.1)], 43, none⟩, ⟨.pointer (some q3), [(Vi a0_0), (Sl Kf a0_1), (Sl Kf a0_2)], 43, none⟩, ⟨.pointer (some q4), [(Vi a1_0), (Vi a1_1), (Vi a1_2), (Sl Kf a1_3), (Sl (Ki .i64) a1_4), (Sl (Kl (Ki .i64)) a1_5), (Sl KT27 a1_6)], 27, none⟩, ⟨.pointer (some q5), [(Vi a2_0), (Vi a2_1), (Vi a2_2), (Sl Kf a2_3), (Sl (Ki .i64) a2_4), (Sl (Kl (Ki .i64)) a2_5), (Sl KT27 a2_6)], 27, none⟩]) rfl) (wt_none' rfl) fun _ => ?_
     refine s0 (rd_assign' rfl) ?_
     refine nk hK14 ?_
     refine cr fun K15 hK15 => ?_
     refine s0 (rd_load_agg' (i := 0) (o := 0) (nn := 3) rfl ⟨rfl, rfl, rfl, rfl⟩ rfl agg43 (l' := [(Vi r57.1), (Sl Kf r57.2.1), (Sl Kf r57.2.2.1)]) rfl) ?_
     refine s0 (rd_load_agg' (i := 3) (o := 0) (nn := 7) rfl ⟨rfl, rfl, rfl, rfl⟩ rfl agg27 (l' := [(Vi a1_0), (Vi a1_1), (Vi a1_2), (Sl Kf a1_3), (Sl (Ki .i64) a1_4), (Sl (Kl (Ki .i64)) a1_5), (Sl KT27 a1_6)]) rfl) ?_
     obtain ⟨r63, hr63, hp⟩ := bind_some hp
     refine sx_ox' (ox_calln' (ent_fn' Try.func23 isn23 rfl rfl) (impl_BoxExtend_sim _ _ _ _ _ _ _ _ _ _ hr63 : Sx.Fn Try.prog 23 [(Ag [(Vi r57.1), (Sl Kf r57.2.1), (Sl Kf r57.2.2.1)]), (Ag [(Vi a1_0), (Vi a1_1), (Vi a1_2), (Sl Kf a1_3), (Sl (Ki .i64) a1_4), (Sl (Kl (Ki .i64)) a1_5), (Sl KT27 a1_6)])] [] (fun x : Unit => (Tu [(Ag [(Vi r63.1), (Sl Kf r63.2.1), (Sl Kf r63.2.2.1)]), (Vb r63.2.2.2)])) (fun x => [])) (Hn := fun x : Unit => [⟨.pointer (some q10), [(Vi r57.1), (Sl Kf r57.2.1), (Sl Kf r57.2.2.1)], 43, none⟩, ⟨.pointer (some q7), [(Vi r51.1), (Sl Kf r51.2.1), (Sl Kf r51.2.2.1)], 43, none⟩, ⟨.pointer (some q3), [(Vi a0_0), (Sl Kf a0_1), (Sl Kf a0_2)], 43, none⟩, ⟨.pointer (some q4), [(Vi a1_0), (Vi a1_1), (Vi a1_2), (Sl Kf a1_3), (Sl (Ki .i64) a1_4), (Sl (Kl (Ki .i64)) a1_5), (Sl KT27 a1_6)], 27, none⟩, ⟨.pointer (some q5), [(Vi a2_0), (Vi a2_1), (Vi a2_2), (Sl Kf a2_3), (Sl (Ki .i64) a2_4), (Sl (Kl (Ki .i64)) a2_5), (Sl KT27 a2_6)], 27, none⟩]) (fun _ => rfl) rfl rfl) (wt_none' rfl) fun ⟨⟩ => ?_
     refine s0 (rd_move' rfl) ?_
     refine s0 (rd_extract' rfl rfl) ?_
     refine s0 (rd_extract' rfl rfl) ?_
     refine sx_ox' (ox_store' (i := 0) (o := 0) rfl rfl (lv_ag _) ⟨rfl, rfl, rfl, rfl⟩ rfl info43 rfl (H' := [⟨.pointer (some q10), [(Vi r63.1), (Sl Kf r63.2.1), (Sl Kf r63.2.2.1)], 43, none⟩, ⟨.pointer (some q7), [(Vi r51.1), (Sl Kf r51.2.1), (Sl Kf r51.2.2.1)], 43, none⟩, ⟨.pointer (some q3), [(Vi a0_0), (Sl Kf a0_1), (Sl Kf a0_2)], 43, none⟩, ⟨.pointer (some q4), [(Vi a1_0), (Vi a1_1), (Vi a1_2), (Sl Kf a1_3), (Sl (Ki .i64) a1_4), (Sl (Kl (Ki .i64)) a1_5), (Sl KT27 a1_6)], 27, none⟩, ⟨.pointer (some q5), [(Vi a2_0), (Vi a2_1), (Vi a2_2), (Sl Kf a2_3), (Sl (Ki .i64) a2_4), (Sl (Kl (Ki .i64)) a2_5), (Sl KT27 a2_6)], 27, none⟩]) rfl) (wt_none' rfl) fun _ => ?_
     refine s0 (rd_assign' rfl) ?_
     refine nk hK15 ?_
     refine cr fun K16 hK16 => ?_
     refine s0 (rd_move' rfl) ?_
     refine s0 (rd_move' rfl) ?_
     refine sx_cutn' 2 (fun (v5 : Bool) => (⟨81, [], [(7, (Vp q7)), (10, (Vp q10)), (11, (Vb r57.2.2.2)), (12, (Vb r63.2.2.2)), (69, (Vb v5))], [⟨.pointer (some q7), [(Vi r51.1), (Sl Kf r51.2.1), (Sl Kf r51.2.2.1)], 43, none⟩, ⟨.pointer (some q10), [(Vi r63.1), (Sl Kf r63.2.1), (Sl Kf r63.2.2.1)], 43, none⟩]⟩ : St)) (fun (v5 : Bool) => laws_FnBoxExtendOrder_j5 k r51 r63 r57 v5 = some out) ?_ ?_
     ·rintro x5 hp
      replace hp : laws_FnBoxExtendOrder_j5 k r51 r63 r57 x5 = some out := hp
      unfold laws_FnBoxExtendOrder_j5 at hp
      refine s0 (rd_move' rfl) ?_
      refine sx_cutn' 2 (fun (v6 : Bool) => (⟨81, [], [(7, (Vp q7)), (10, (Vp q10)), (12, (Vb r63.2.2.2)), (72, (Vb v6))], [⟨.pointer (some q7), [(Vi r51.1), (Sl Kf r51.2.1), (Sl Kf r51.2.2.1)], 43, none⟩, ⟨.pointer (some q10), [(Vi r63.1), (Sl Kf r63.2.1), (Sl Kf r63.2.2.1)], 43, none⟩]⟩ : St)) (fun (v6 : Bool) => laws_FnBoxExtendOrder_j6 k r51 r63 v6 = some out) ?_ ?_
      ·rintro x6 hp
       replace hp : laws_FnBoxExtendOrder_j6 k r51 r63 x6 = some out := hp
       unfold laws_FnBoxExtendOrder_j6 at hp
       refine s0 (rd_move' rfl) ?_
       refine sx_cutn' 2 (fun (v7 : Bool) => (⟨81, [], [(7, (Vp q7)), (10, (Vp q10)), (75, (Vb v7))], [⟨.pointer (some q7), [(Vi r51.1), (Sl Kf r51.2.1), (Sl Kf r51.2.2.1)], 43, none⟩, ⟨.pointer (some q10), [(Vi r63.1), (Sl Kf r63.2.1), (Sl Kf r63.2.2.1)], 43, none⟩]⟩ : St)) (fun (v7 : Bool) => laws_FnBoxExtendOrder_j7 k r51 r63 v7 = some out) ?_ ?_
       ·rintro x7 hp
        replace hp : laws_FnBoxExtendOrder_j7 k r51 r63 x7 = some out := hp
        unfold laws_FnBoxExtendOrder_j7 at hp
        refine s0 (rd_move' rfl) ?_
        refine sx_cutn' 4 (fun (v8 : Bool) => (⟨81, [], [(80, (Vb v8))], []⟩ : St)) (fun (v8 : Bool) => laws_FnBoxExtendOrder_j8 k v8 = some out) ?_ ?_
        ·rintro x8 hp
         replace hp : laws_FnBoxExtendOrder_j8 k x8 = some out := hp
         unfold laws_FnBoxExtendOrder_j8 at hp
         refine s0 (rd_assign' rfl) ?_
         refine nk hK16 ?_
         refine cx_retc' ?_
         replace hp := Option.some.inj hp
         subst hp
         refine tx_pick' (L' := [(6, (Vb x8))]) (H' := []) [] (sub_cons rfl sub_nil) (by decide) pick_nil ?_
         exact tx_ret1' Try.results6 rfl () (rv_tmp' rfl) (List.Sublist.refl _)
        intro K20 hK20
        rcases br_cases hp with ⟨h10, hp⟩ | ⟨h10, hp⟩
        ·refine sx_rd' (rd_load_agg' (i := 0) (o := 0) (nn := 3) rfl ⟨rfl, rfl, rfl, rfl⟩ rfl agg43 (l' := [(Vi r51.1), (Sl Kf r51.2.1), (Sl Kf r51.2.2.1)]) rfl) rfl rfl (wt_is' (wt_guard' rfl rfl rfl) (beq_tt h10)) ?_
         refine sx_rd' (rd_load_agg' (i := 1) (o := 0) (nn := 3) rfl ⟨rfl, rfl, rfl, rfl⟩ rfl agg43 (l' := [(Vi r63.1), (Sl Kf r63.2.1), (Sl Kf r63.2.2.1)]) rfl) rfl rfl (wt_is' (wt_guard' rfl rfl rfl) (beq_tt h10)) ?_
         obtain ⟨r79, hr79, hp⟩ := bind_some hp
         refine sx_ox' (ox_calln' (ent_fn' Try.func24 isn24 rfl rfl) (spec_SameBox_sim _ _ _ _ _ _ hr79 : Sx.Fn Try.prog 24 [(Ag [(Vi r51.1), (Sl Kf r51.2.1), (Sl Kf r51.2.2.1)]), (Ag [(Vi r63.1), (Sl Kf r63.2.1), (Sl Kf r63.2.2.1)])] [] (fun x : Unit => (Vb r79)) (fun x => [])) (Hn := fun x : Unit => [⟨.pointer (some q7), [(Vi r51.1), (Sl Kf r51.2.1), (Sl Kf r51.2.2.1)], 43, none⟩, ⟨.pointer (some q10), [(Vi r63.1), (Sl Kf r63.2.1), (Sl Kf r63.2.2.1)], 43, none⟩]) (fun _ => rfl) rfl rfl) (wt_is' (wt_guard' rfl rfl rfl) (beq_tt h10)) fun ⟨⟩ => ?_
         refine s0 (rd_pick_true' rfl h10 rfl) ?_
         refine sx_nil' ?_
         show TX E K20 _
         exact tx_pick' [] (sub_cons rfl sub_nil) (by decide) pick_nil (hK20 r79 hp)
        refine sx_skip' rfl rfl (wt_is' (wt_guard' rfl rfl rfl) (beq_ft h10)) ?_
        refine sx_skip' rfl rfl (wt_is' (wt_guard' rfl rfl rfl) (beq_ft h10)) ?_
        refine sx_skip' rfl rfl (wt_is' (wt_guard' rfl rfl rfl) (beq_ft h10)) ?_
        refine s0 (rd_pick_false' rfl h10 rfl) ?_
        refine sx_nil' ?_
        show TX E K20 _
        exact tx_pick' [] (sub_cons rfl sub_nil) (by decide) pick_nil (hK20 false hp)
       intro K19 hK19
       rcases br_cases hp with ⟨h9, hp⟩ | ⟨h9, hp⟩
       ·refine sx_rd' (rd_move' rfl) rfl rfl (wt_is' (wt_guard' rfl rfl rfl) (beq_tt h9)) ?_
        refine s0 (rd_pick_true' rfl h9 rfl) ?_
        refine sx_nil' ?_
        show TX E K19 _
        exact tx_pick' [0, 1] (sub_cons rfl (sub_cons rfl (sub_cons rfl sub_nil))) (by decide) (pick_cons rfl (pick_cons rfl pick_nil)) (hK19 r63.2.2.2 hp)
       refine sx_skip' rfl rfl (wt_is' (wt_guard' rfl rfl rfl) (beq_ft h9)) ?_
       refine s0 (rd_pick_false' rfl h9 rfl) ?_
       refine sx_nil' ?_
       show TX E K19 _
       exact tx_pick' [0, 1] (sub_cons rfl (sub_cons rfl (sub_cons rfl sub_nil))) (by decide) (pick_cons rfl (pick_cons rfl pick_nil)) (hK19 false hp)
      intro K18 hK18
      rcases br_cases hp with ⟨h8, hp⟩ | ⟨h8, hp⟩
      ·refine sx_rd' (rd_move' rfl) rfl rfl (wt_is' (wt_guard' rfl rfl rfl) (beq_tt h8)) ?_
       refine s0 (rd_pick_true' rfl h8 rfl) ?_
       refine sx_nil' ?_
       show TX E K18 _
       exact tx_pick' [0, 1] (sub_cons rfl (sub_cons rfl (sub_cons rfl (sub_cons rfl sub_nil)))) (by decide) (pick_cons rfl (pick_cons rfl pick_nil)) (hK18 r57.2.2.2 hp)
      refine sx_skip' rfl rfl (wt_is' (wt_guard' rfl rfl rfl) (beq_ft h8)) ?_
      refine s0 (rd_pick_false' rfl h8 rfl) ?_
      refine sx_nil' ?_
      show TX E K18 _
      exact tx_pick' [0, 1] (sub_cons rfl (sub_cons rfl (sub_cons rfl (sub_cons rfl sub_nil)))) (by decide) (pick_cons rfl (pick_cons rfl pick_nil)) (hK18 false hp)
     intro K17 hK17
     rcases br_cases hp with ⟨h7, hp⟩ | ⟨h7, hp⟩
     ·refine sx_rd' (rd_move' rfl) rfl rfl (wt_is' (wt_guard' rfl rfl rfl) (beq_tt h7)) ?_
      refine s0 (rd_pick_true' rfl h7 rfl) ?_
      refine sx_nil' ?_
      show TX E K17 _
      exact tx_pick' [1, 0] (sub_cons rfl (sub_cons rfl (sub_cons rfl (sub_cons rfl (sub_cons rfl sub_nil))))) (by decide) (pick_cons rfl (pick_cons rfl pick_nil)) (hK17 r51.2.2.2 hp)
     refine sx_skip' rfl rfl (wt_is' (wt_guard' rfl rfl rfl) (beq_ft h7)) ?_
     refine s0 (rd_pick_false' rfl h7 rfl) ?_
     refine sx_nil' ?_
     show TX E K17 _
     exact tx_pick' [1, 0] (sub_cons rfl (sub_cons rfl (sub_cons rfl (sub_cons rfl (sub_cons rfl sub_nil))))) (by decide) (pick_cons rfl (pick_cons rfl pick_nil)) (hK17 false hp)
    intro K10 hK10
    rcases br_cases hp with ⟨h5, hp⟩ | ⟨h5, hp⟩
    ·refine sx_skip' rfl rfl (wt_is' (wt_guard' rfl rfl rfl) (beq_tf h5)) ?_
     refine sx_skip' rfl rfl (wt_is' (wt_guard' rfl rfl rfl) (beq_tf h5)) ?_
     refine sx_skip' rfl rfl (wt_is' (wt_guard' rfl rfl rfl) (beq_tf h5)) ?_
     refine sx_skip' rfl rfl (wt_is' (wt_guard' rfl rfl rfl) (beq_tf h5)) ?_
     refine sx_skip' rfl rfl (wt_is' (wt_guard' rfl rfl rfl) (beq_tf h5)) ?_
     refine s0 (rd_pick_true' rfl h5 rfl) ?_
     refine sx_nil' ?_
     show TX E K10 _
     exact tx_pick' [0, 1, 2] (sub_cons rfl (sub_cons rfl (sub_cons rfl (sub_cons rfl sub_nil)))) (by decide) (pick_cons rfl (pick_cons rfl (pick_cons rfl pick_nil))) (hK10 true hp)
    refine sx_rd' (rd_load_agg' (i := 1) (o := 0) (nn := 7) rfl ⟨rfl, rfl, rfl, rfl⟩ rfl agg27 (l' := [(Vi a1_0), (Vi a1_1), (Vi a1_2), (Sl Kf a1_3), (Sl (Ki .i64) a1_4), (Sl (Kl (Ki .i64)) a1_5), (Sl KT27 a1_6)]) rfl) rfl rfl (wt_is' (wt_guard' rfl rfl rfl) (beq_ff h5)) ?_
    refine sx_rd' (rd_load_agg' (i := 2) (o := 0) (nn := 7) rfl ⟨rfl, rfl, rfl, rfl⟩ rfl agg27 (l' := [(Vi a2_0), (Vi a2_1), (Vi a2_2), (Sl Kf a2_3), (Sl (Ki .i64) a2_4), (Sl (Kl (Ki .i64)) a2_5), (Sl KT27 a2_6)]) rfl) rfl rfl (wt_is' (wt_guard' rfl rfl rfl) (beq_ff h5)) ?_
    refine sx_ox' (ox_rowlit' (K := KT27) (xs := [(T27.mk a1_0 a1_1 a1_2 a1_3 a1_4 a1_5 a1_6), (T27.mk a2_0 a2_1 a2_2 a2_3 a2_4 a2_5 a2_6)]) (qs := [(0, [(Vi a1_0), (Vi a1_1), (Vi a1_2), (Sl Kf a1_3), (Sl (Ki .i64) a1_4), (Sl (Kl (Ki .i64)) a1_5), (Sl KT27 a1_6)]), (1, [(Vi a2_0), (Vi a2_1), (Vi a2_2), (Sl Kf a2_3), (Sl (Ki .i64) a2_4), (Sl (Kl (Ki .i64)) a2_5), (Sl KT27 a2_6)])]) ⟨rfl, ⟨_, rfl, (lv_ag _)⟩, ⟨rfl, ⟨_, rfl, (lv_ag _)⟩, trivial⟩⟩ Try.underlying25 info27 rfl rfl rfl rfl rfl (by simp only [List.flatMap_cons, List.flatMap_nil, KT27_enc, List.append_nil]; kernel_rfl) rfl rfl rfl) (wt_is' (wt_guard' rfl rfl rfl) (beq_ff h5)) fun g38 => ?_
    obtain ⟨r39, hr39, hp⟩ := bind_some hp
    refine sx_ox' (ox_brw' (frz_row 0 [(38, (Vl (Vs g38)), (Sl KT27 ([(T27.mk a1_0 a1_1 a1_2 a1_3 a1_4 a1_5 a1_6), (T27.mk a2_0 a2_1 a2_2 a2_3 a2_4 a2_5 a2_6)])))] (K := KT27) (xs := [(T27.mk a1_0 a1_1 a1_2 a1_3 a1_4 a1_5 a1_6), (T27.mk a2_0 a2_1 a2_2 a2_3 a2_4 a2_5 a2_6)]) (by decide) rfl ⟨⟨rfl, frz_it⟩, trivial⟩ (H' := [⟨.pointer (some q3), [(Vi a0_0), (Sl Kf a0_1), (Sl Kf a0_2)], 43, none⟩, ⟨.pointer (some q4), [(Vi a1_0), (Vi a1_1), (Vi a1_2), (Sl Kf a1_3), (Sl (Ki .i64) a1_4), (Sl (Kl (Ki .i64)) a1_5), (Sl KT27 a1_6)], 27, none⟩, ⟨.pointer (some q5), [(Vi a2_0), (Vi a2_1), (Vi a2_2), (Sl Kf a2_3), (Sl (Ki .i64) a2_4), (Sl (Kl (Ki .i64)) a2_5), (Sl KT27 a2_6)], 27, none⟩]) frzH_refl) (ent_fn' Try.func22 isn22 rfl rfl) (laws_bAdds_sim _ hr39 : Sx.Fn Try.prog 22 [(Sl KT27 ([(T27.mk a1_0 a1_1 a1_2 a1_3 a1_4 a1_5 a1_6), (T27.mk a2_0 a2_1 a2_2 a2_3 a2_4 a2_5 a2_6)]))] [] (fun x : Unit => (Vb r39)) (fun x => [])) pu_vl rfl rfl) (wt_is' (wt_guard' rfl rfl rfl) (beq_ff h5)) fun ⟨⟩ => ?_
    refine sx_rd' (rd_un' rfl ru_not) rfl rfl (wt_is' (wt_guard' rfl rfl rfl) (beq_ff h5)) ?_
    refine s0 (rd_pick_false' rfl h5 rfl) ?_
    refine sx_nil' ?_
    show TX E K10 _
    exact tx_pick' [1, 2, 3] (sub_cons rfl (sub_cons rfl (sub_cons rfl (sub_cons rfl sub_nil)))) (by decide) (pick_cons rfl (pick_cons rfl (pick_cons rfl pick_nil))) (hK10 (!r39) hp)
   intro K9 hK9
   rcases br_cases hp with ⟨h4, hp⟩ | ⟨h4, hp⟩
   ·refine sx_skip' rfl rfl (wt_is' (wt_guard' rfl rfl rfl) (beq_tf h4)) ?_
    refine sx_skip' rfl rfl (wt_is' (wt_guard' rfl rfl rfl) (beq_tf h4)) ?_
    refine sx_skip' rfl rfl (wt_is' (wt_guard' rfl rfl rfl) (beq_tf h4)) ?_
    refine s0 (rd_pick_true' rfl h4 rfl) ?_
    refine sx_nil' ?_
    show TX E K9 _
    exact tx_pick' [1, 2, 3] (sub_cons rfl (sub_cons rfl (sub_cons rfl (sub_cons rfl sub_nil)))) (by decide) (pick_cons rfl (pick_cons rfl (pick_cons rfl pick_nil))) (hK9 true hp)
   refine sx_rd' (rd_field0' rfl Try.underlying43 rfl info3 rfl) rfl rfl (wt_is' (wt_guard' rfl rfl rfl) (beq_ff h4)) ?_
   refine sx_rd' (rd_load' (i := 1) (o := 0) rfl ⟨rfl, rfl, rfl, rfl⟩ rfl flat3) rfl rfl (wt_is' (wt_guard' rfl rfl rfl) (beq_ff h4)) ?_
   refine sx_rd' (rd_bin' rfl rfl eg_int ru_gtr) rfl rfl (wt_is' (wt_guard' rfl rfl rfl) (beq_ff h4)) ?_
   refine s0 (rd_pick_false' rfl h4 rfl) ?_
   refine sx_nil' ?_
   show TX E K9 _
   exact tx_pick' [1, 2, 3] (sub_cons rfl (sub_cons rfl (sub_cons rfl (sub_cons rfl sub_nil)))) (by decide) (pick_cons rfl (pick_cons rfl (pick_cons rfl pick_nil))) (hK9 (decide (4 < a0_0)) hp)
  intro K5 hK5
  rcases br_cases hp with ⟨h2, hp⟩ | ⟨h2, hp⟩
  ·refine sx_skip' rfl rfl (wt_is' (wt_guard' rfl rfl rfl) (beq_tf h2)) ?_
   refine sx_skip' rfl rfl (wt_is' (wt_guard' rfl rfl rfl) (beq_tf h2)) ?_
   refine sx_skip' rfl rfl (wt_is' (wt_guard' rfl rfl rfl) (beq_tf h2)) ?_
   refine s0 (rd_pick_true' rfl h2 rfl) ?_
   refine sx_nil' ?_
   show TX E K5 _
   exact tx_pick' [0, 1, 2] (sub_cons rfl (sub_cons rfl (sub_cons rfl (sub_cons rfl sub_nil)))) (by decide) (pick_cons rfl (pick_cons rfl (pick_cons rfl pick_nil))) (hK5 true hp)
  refine sx_rd' (rd_load_agg' (i := 2) (o := 0) (nn := 7) rfl ⟨rfl, rfl, rfl, rfl⟩ rfl agg27 (l' := [(Vi a2_0), (Vi a2_1), (Vi a2_2), (Sl Kf a2_3), (Sl (Ki .i64) a2_4), (Sl (Kl (Ki .i64)) a2_5), (Sl KT27 a2_6)]) rfl) rfl rfl (wt_is' (wt_guard' rfl rfl rfl) (beq_ff h2)) ?_
  obtain ⟨r23, hr23, hp⟩ := bind_some hp
  refine sx_ox' (ox_calln' (ent_fn' Try.func7 isn7 rfl rfl) (laws_zzFits2_sim _ _ _ _ _ _ _ hr23 : Sx.Fn Try.prog 7 [(Ag [(Vi a2_0), (Vi a2_1), (Vi a2_2), (Sl Kf a2_3), (Sl (Ki .i64) a2_4), (Sl (Kl (Ki .i64)) a2_5), (Sl KT27 a2_6)])] [] (fun x : Unit => (Vb r23)) (fun x => [])) (Hn := fun x : Unit => [⟨.pointer (some q3), [(Vi a0_0), (Sl Kf a0_1), (Sl Kf a0_2)], 43, none⟩, ⟨.pointer (some q4), [(Vi a1_0), (Vi a1_1), (Vi a1_2), (Sl Kf a1_3), (Sl (Ki .i64) a1_4), (Sl (Kl (Ki .i64)) a1_5), (Sl KT27 a1_6)], 27, none⟩, ⟨.pointer (some q5), [(Vi a2_0), (Vi a2_1), (Vi a2_2), (Sl Kf a2_3), (Sl (Ki .i64) a2_4), (Sl (Kl (Ki .i64)) a2_5), (Sl KT27 a2_6)], 27, none⟩]) (fun _ => rfl) rfl rfl) (wt_is' (wt_guard' rfl rfl rfl) (beq_ff h2)) fun ⟨⟩ => ?_
  refine sx_rd' (rd_un' rfl ru_not) rfl rfl (wt_is' (wt_guard' rfl rfl rfl) (beq_ff h2)) ?_
  refine s0 (rd_pick_false' rfl h2 rfl) ?_
  refine sx_nil' ?_
  show TX E K5 _
  exact tx_pick' [0, 1, 2] (sub_cons rfl (sub_cons rfl (sub_cons rfl (sub_cons rfl sub_nil)))) (by decide) (pick_cons rfl (pick_cons rfl (pick_cons rfl pick_nil))) (hK5 (!r23) hp)
 intro K4 hK4
 rcases br_cases hp with ⟨h1, hp⟩ | ⟨h1, hp⟩
 ·refine sx_skip' rfl rfl (wt_is' (wt_guard' rfl rfl rfl) (beq_tf h1)) ?_
  refine sx_skip' rfl rfl (wt_is' (wt_guard' rfl rfl rfl) (beq_tf h1)) ?_
  refine sx_skip' rfl rfl (wt_is' (wt_guard' rfl rfl rfl) (beq_tf h1)) ?_
  refine s0 (rd_pick_true' rfl h1 rfl) ?_
  refine sx_nil' ?_
  show TX E K4 _
  exact tx_pick' [2, 1, 0] (sub_cons rfl (sub_cons rfl (sub_cons rfl (sub_cons rfl sub_nil)))) (by decide) (pick_cons rfl (pick_cons rfl (pick_cons rfl pick_nil))) (hK4 true hp)
 refine sx_rd' (rd_load_agg' (i := 1) (o := 0) (nn := 7) rfl ⟨rfl, rfl, rfl, rfl⟩ rfl agg27 (l' := [(Vi a1_0), (Vi a1_1), (Vi a1_2), (Sl Kf a1_3), (Sl (Ki .i64) a1_4), (Sl (Kl (Ki .i64)) a1_5), (Sl KT27 a1_6)]) rfl) rfl rfl (wt_is' (wt_guard' rfl rfl rfl) (beq_ff h1)) ?_
 obtain ⟨r18, hr18, hp⟩ := bind_some hp
 refine sx_ox' (ox_calln' (ent_fn' Try.func7 isn7 rfl rfl) (laws_zzFits2_sim _ _ _ _ _ _ _ hr18 : Sx.Fn Try.prog 7 [(Ag [(Vi a1_0), (Vi a1_1), (Vi a1_2), (Sl Kf a1_3), (Sl (Ki .i64) a1_4), (Sl (Kl (Ki .i64)) a1_5), (Sl KT27 a1_6)])] [] (fun x : Unit => (Vb r18)) (fun x => [])) (Hn := fun x : Unit => [⟨.pointer (some q5), [(Vi a2_0), (Vi a2_1), (Vi a2_2), (Sl Kf a2_3), (Sl (Ki .i64) a2_4), (Sl (Kl (Ki .i64)) a2_5), (Sl KT27 a2_6)], 27, none⟩, ⟨.pointer (some q4), [(Vi a1_0), (Vi a1_1), (Vi a1_2), (Sl Kf a1_3), (Sl (Ki .i64) a1_4), (Sl (Kl (Ki .i64)) a1_5), (Sl KT27 a1_6)], 27, none⟩, ⟨.pointer (some q3), [(Vi a0_0), (Sl Kf a0_1), (Sl Kf a0_2)], 43, none⟩]) (fun _ => rfl) rfl rfl) (wt_is' (wt_guard' rfl rfl rfl) (beq_ff h1)) fun ⟨⟩ => ?_
 refine sx_rd' (rd_un' rfl ru_not) rfl rfl (wt_is' (wt_guard' rfl rfl rfl) (beq_ff h1)) ?_
 refine s0 (rd_pick_false' rfl h1 rfl) ?_
 refine sx_nil' ?_
 show TX E K4 _
 exact tx_pick' [2, 1, 0] (sub_cons rfl (sub_cons rfl (sub_cons rfl (sub_cons rfl sub_nil)))) (by decide) (pick_cons rfl (pick_cons rfl (pick_cons rfl pick_nil))) (hK4 (!r18) hp)

end Go.Proofs.Ytmagcmeknclljaa
