/-
  Plain functions for the Go functions that this law reaches, and that each call does what its plain function says. Printed by a program of ours.
-/
import Derived.Test.YtmkhoplffiakmaaProg
import Derived.Test.YtmkhoplffiakmaaSxX
import Derived.Test.YtmkhoplffiakmaaFun1
namespace Go.Proofs.Ytmkhoplffiakmaa
open Go.Sx
set_option linter.unusedVariables false
set_option linter.unusedSimpArgs false
set_option maxRecDepth 100000
set_option maxHeartbeats 4000000

def spec_SquareTo3_j1 (k : Nat) (a1_0 : Bool) (a1_1 : List Int) (a1_2 : Int) (a1_3 : Bool) (a1_4 : List Int) (a1_5 : Int) (a1_6 : Bool) (a1_7 : List Int) (a1_8 : Int) (a0_0 : Bool) (a0_1 : List Int) (a0_2 : Int) (a0_3 : Bool) (a0_4 : List Int) (a0_5 : Int) (a0_6 : Bool) (a0_7 : List Int) (a0_8 : Int) (r25 : Bool × (List Int) × Int) (r24 : Bool × (List Int) × Int) (r21 : Bool × (List Int) × Int) (a2_0 : Bool) (a2_1 : List Int) (a2_2 : Int) (a2_3 : Bool) (a2_4 : List Int) (a2_5 : Int) (a2_6 : Bool) (a2_7 : List Int) (a2_8 : Int) (r15 : Bool × (List Int) × Int × Bool × (List Int) × Int × Bool × (List Int) × Int) (r18 : Bool × (List Int) × Int × Bool × (List Int) × Int × Bool × (List Int) × Int) (x1 : Bool) : Option (Bool × (List Int) × Int × Bool × (List Int) × Int) :=
 br x1
  ((spec_Square3 k a1_0 a1_1 a1_2 a1_3 a1_4 a1_5 a1_6 a1_7 a1_8 a0_0 a0_1 a0_2 a0_3 a0_4 a0_5 a0_6 a0_7 a0_8) >>= fun r37 =>
  some (r37.1, r37.2.1, r37.2.2, r25.1, r25.2.1, r25.2.2))
  ((spec_Dyadic_Cmp k r24.1 r24.2.1 r24.2.2 r21.1 r21.2.1 r21.2.2) >>= fun r43 =>
  br (decide (0 ≤ r43))
   ((spec_Square3 k a2_0 a2_1 a2_2 a2_3 a2_4 a2_5 a2_6 a2_7 a2_8 a0_0 a0_1 a0_2 a0_3 a0_4 a0_5 a0_6 a0_7 a0_8) >>= fun r47 =>
   some (r47.1, r47.2.1, r47.2.2, r25.1, r25.2.1, r25.2.2))
   ((spec_Cross3 k r15.1 r15.2.1 r15.2.2.1 r15.2.2.2.1 r15.2.2.2.2.1 r15.2.2.2.2.2.1 r15.2.2.2.2.2.2.1 r15.2.2.2.2.2.2.2.1 r15.2.2.2.2.2.2.2.2 r18.1 r18.2.1 r18.2.2.1 r18.2.2.2.1 r18.2.2.2.2.1 r18.2.2.2.2.2.1 r18.2.2.2.2.2.2.1 r18.2.2.2.2.2.2.2.1 r18.2.2.2.2.2.2.2.2) >>= fun r52 =>
   (spec_Dot3 k r52.1 r52.2.1 r52.2.2.1 r52.2.2.2.1 r52.2.2.2.2.1 r52.2.2.2.2.2.1 r52.2.2.2.2.2.2.1 r52.2.2.2.2.2.2.2.1 r52.2.2.2.2.2.2.2.2 r52.1 r52.2.1 r52.2.2.1 r52.2.2.2.1 r52.2.2.2.2.1 r52.2.2.2.2.2.1 r52.2.2.2.2.2.2.1 r52.2.2.2.2.2.2.2.1 r52.2.2.2.2.2.2.2.2) >>= fun r55 =>
   some (r55.1, r55.2.1, r55.2.2, r21.1, r21.2.1, r21.2.2)))
def spec_SquareTo3 (k : Nat) (a0_0 : Bool) (a0_1 : List Int) (a0_2 : Int) (a0_3 : Bool) (a0_4 : List Int) (a0_5 : Int) (a0_6 : Bool) (a0_7 : List Int) (a0_8 : Int) (a1_0 : Bool) (a1_1 : List Int) (a1_2 : Int) (a1_3 : Bool) (a1_4 : List Int) (a1_5 : Int) (a1_6 : Bool) (a1_7 : List Int) (a1_8 : Int) (a2_0 : Bool) (a2_1 : List Int) (a2_2 : Int) (a2_3 : Bool) (a2_4 : List Int) (a2_5 : Int) (a2_6 : Bool) (a2_7 : List Int) (a2_8 : Int) : Option (Bool × (List Int) × Int × Bool × (List Int) × Int) :=
 (spec_Point3_Sub k a2_0 a2_1 a2_2 a2_3 a2_4 a2_5 a2_6 a2_7 a2_8 a1_0 a1_1 a1_2 a1_3 a1_4 a1_5 a1_6 a1_7 a1_8) >>= fun r15 =>
 (spec_Point3_Sub k a0_0 a0_1 a0_2 a0_3 a0_4 a0_5 a0_6 a0_7 a0_8 a1_0 a1_1 a1_2 a1_3 a1_4 a1_5 a1_6 a1_7 a1_8) >>= fun r18 =>
 (spec_Dot3 k r15.1 r15.2.1 r15.2.2.1 r15.2.2.2.1 r15.2.2.2.2.1 r15.2.2.2.2.2.1 r15.2.2.2.2.2.2.1 r15.2.2.2.2.2.2.2.1 r15.2.2.2.2.2.2.2.2 r15.1 r15.2.1 r15.2.2.1 r15.2.2.2.1 r15.2.2.2.2.1 r15.2.2.2.2.2.1 r15.2.2.2.2.2.2.1 r15.2.2.2.2.2.2.2.1 r15.2.2.2.2.2.2.2.2) >>= fun r21 =>
 (spec_Dot3 k r15.1 r15.2.1 r15.2.2.1 r15.2.2.2.1 r15.2.2.2.2.1 r15.2.2.2.2.2.1 r15.2.2.2.2.2.2.1 r15.2.2.2.2.2.2.2.1 r15.2.2.2.2.2.2.2.2 r18.1 r18.2.1 r18.2.2.1 r18.2.2.2.1 r18.2.2.2.2.1 r18.2.2.2.2.2.1 r18.2.2.2.2.2.2.1 r18.2.2.2.2.2.2.2.1 r18.2.2.2.2.2.2.2.2) >>= fun r24 =>
 (spec_IntOf k 1) >>= fun r25 =>
 (spec_Dyadic_Sign k r21.1 r21.2.1 r21.2.2) >>= fun r28 =>
 br (decide (r28 = 0))
  (spec_SquareTo3_j1 k a1_0 a1_1 a1_2 a1_3 a1_4 a1_5 a1_6 a1_7 a1_8 a0_0 a0_1 a0_2 a0_3 a0_4 a0_5 a0_6 a0_7 a0_8 r25 r24 r21 a2_0 a2_1 a2_2 a2_3 a2_4 a2_5 a2_6 a2_7 a2_8 r15 r18 true)
  ((spec_Dyadic_Sign k r24.1 r24.2.1 r24.2.2) >>= fun r32 =>
  spec_SquareTo3_j1 k a1_0 a1_1 a1_2 a1_3 a1_4 a1_5 a1_6 a1_7 a1_8 a0_0 a0_1 a0_2 a0_3 a0_4 a0_5 a0_6 a0_7 a0_8 r25 r24 r21 a2_0 a2_1 a2_2 a2_3 a2_4 a2_5 a2_6 a2_7 a2_8 r15 r18 (decide (r32 ≤ 0)))

theorem spec_SquareTo3_sim {k : Nat}  (a0_0 : Bool) (a0_1 : List Int) (a0_2 : Int) (a0_3 : Bool) (a0_4 : List Int) (a0_5 : Int) (a0_6 : Bool) (a0_7 : List Int) (a0_8 : Int) (a1_0 : Bool) (a1_1 : List Int) (a1_2 : Int) (a1_3 : Bool) (a1_4 : List Int) (a1_5 : Int) (a1_6 : Bool) (a1_7 : List Int) (a1_8 : Int) (a2_0 : Bool) (a2_1 : List Int) (a2_2 : Int) (a2_3 : Bool) (a2_4 : List Int) (a2_5 : Int) (a2_6 : Bool) (a2_7 : List Int) (a2_8 : Int) {out : Bool × (List Int) × Int × Bool × (List Int) × Int} (hp : spec_SquareTo3 k a0_0 a0_1 a0_2 a0_3 a0_4 a0_5 a0_6 a0_7 a0_8 a1_0 a1_1 a1_2 a1_3 a1_4 a1_5 a1_6 a1_7 a1_8 a2_0 a2_1 a2_2 a2_3 a2_4 a2_5 a2_6 a2_7 a2_8 = some out) : Sx.Fn Try.prog 32 [(Ag (C0 a0_0 a0_1 a0_2 a0_3 a0_4 a0_5 a0_6 a0_7 a0_8)), (Ag (C0 a1_0 a1_1 a1_2 a1_3 a1_4 a1_5 a1_6 a1_7 a1_8)), (Ag (C0 a2_0 a2_1 a2_2 a2_3 a2_4 a2_5 a2_6 a2_7 a2_8))] [] (fun w : Unit => (Ag (C4 out.1 out.2.1 out.2.2.1 out.2.2.2.1 out.2.2.2.2.1 out.2.2.2.2.2))) (fun w => []) := by
 unfold spec_SquareTo3 at hp
 refine fn_of Try.func32 rfl Try.ntmps32 rfl fun E hM => ?_
 refine cr fun K1 hK1 => ?_
 refine so (ox_box' rfl (lv_ag _) rfl rfl) fun q3 => ?_
 refine so (ox_box' rfl (lv_ag _) rfl rfl) fun q4 => ?_
 refine so (ox_box' rfl (lv_ag _) rfl rfl) fun q5 => ?_
 refine so (ox_alloc' info36 rfl rfl rfl rfl (l := (C5 false 0 false 0)) rfl) fun q6 => ?_
 refine nk hK1 ?_
 refine cx_seq' fun K2 hK2 => ?_
 refine cx_plana' [] [(8, 1), (9, 1)] [(0, 1), (1, 1), (3, 1), (4, 1)] 6 #[true, true, false, true, true, false, false, false, false, false] mixed (by kernel_rfl) ?_
 refine pd rfl (rd_load_agg' (i := 1) (o := 0) (nn := 9) rfl (ar rfl rfl rfl rfl) rfl agg39 (l' := (C0 a2_0 a2_1 a2_2 a2_3 a2_4 a2_5 a2_6 a2_7 a2_8)) rfl) ?_
 refine pd rfl (rd_load_agg' (i := 2) (o := 0) (nn := 9) rfl (ar rfl rfl rfl rfl) rfl agg39 (l' := (C0 a1_0 a1_1 a1_2 a1_3 a1_4 a1_5 a1_6 a1_7 a1_8)) rfl) ?_
 refine pd rfl (rd_load_agg' (i := 3) (o := 0) (nn := 9) rfl (ar rfl rfl rfl rfl) rfl agg39 (l' := (C0 a0_0 a0_1 a0_2 a0_3 a0_4 a0_5 a0_6 a0_7 a0_8)) rfl) ?_
 refine pd rfl (rd_load_agg' (i := 2) (o := 0) (nn := 9) rfl (ar rfl rfl rfl rfl) rfl agg39 (l' := (C0 a1_0 a1_1 a1_2 a1_3 a1_4 a1_5 a1_6 a1_7 a1_8)) rfl) ?_
 refine px_nil' ?_
 show AX E _ _ _ _ _ _ _ _
 obtain ⟨r15, hr15, hp⟩ := bind_some hp
 obtain ⟨r18, hr18, hp⟩ := bind_some hp
 refine an 0 10 1023 (fun (v13 : A2) => ⟨58, [], [(7, (Vp v13.1)), (8, (Vp v13.2)), (3, (Vp q3)), (4, (Vp q4)), (5, (Vp q5)), (6, (Vp q6))], [(Ur v13.1 39 (C0 r15.1 r15.2.1 r15.2.2.1 r15.2.2.2.1 r15.2.2.2.2.1 r15.2.2.2.2.2.1 r15.2.2.2.2.2.2.1 r15.2.2.2.2.2.2.2.1 r15.2.2.2.2.2.2.2.2)), (Ur v13.2 39 (C0 r18.1 r18.2.1 r18.2.2.1 r18.2.2.2.1 r18.2.2.2.2.1 r18.2.2.2.2.2.1 r18.2.2.2.2.2.2.1 r18.2.2.2.2.2.2.2.1 r18.2.2.2.2.2.2.2.2)), (Ur q3 39 (C0 a0_0 a0_1 a0_2 a0_3 a0_4 a0_5 a0_6 a0_7 a0_8)), (Ur q4 39 (C0 a1_0 a1_1 a1_2 a1_3 a1_4 a1_5 a1_6 a1_7 a1_8)), (Ur q5 39 (C0 a2_0 a2_1 a2_2 a2_3 a2_4 a2_5 a2_6 a2_7 a2_8)), (Ur q6 36 (C5 false 0 false 0))]⟩) ?_ ?_
 ·rintro ⟨q9015, q9016⟩
  refine ax_nil (by kernel_rfl) ?_
  show TX E K2 _
  refine tx_k' hK2 ?_
  refine cx_seq' fun K3 hK3 => ?_
  refine cx_plana' [] [(8, 1), (9, 1)] [(0, 1), (1, 1), (3, 1), (4, 1)] 6 #[true, true, false, true, true, false, false, false, false, false] mixed (by kernel_rfl) ?_
  iterate 3 refine pd rfl (rd_load_agg' (i := 0) (o := 0) (nn := 9) rfl (ar rfl rfl rfl rfl) rfl agg39 (l' := (C0 r15.1 r15.2.1 r15.2.2.1 r15.2.2.2.1 r15.2.2.2.2.1 r15.2.2.2.2.2.1 r15.2.2.2.2.2.2.1 r15.2.2.2.2.2.2.2.1 r15.2.2.2.2.2.2.2.2)) rfl) ?_
  refine pd rfl (rd_load_agg' (i := 1) (o := 0) (nn := 9) rfl (ar rfl rfl rfl rfl) rfl agg39 (l' := (C0 r18.1 r18.2.1 r18.2.2.1 r18.2.2.2.1 r18.2.2.2.2.1 r18.2.2.2.2.2.1 r18.2.2.2.2.2.2.1 r18.2.2.2.2.2.2.2.1 r18.2.2.2.2.2.2.2.2)) rfl) ?_
  refine px_nil' ?_
  show AX E _ _ _ _ _ _ _ _
  obtain ⟨r21, hr21, hp⟩ := bind_some hp
  obtain ⟨r24, hr24, hp⟩ := bind_some hp
  refine an 0 10 1023 (fun (v26 : A2) => ⟨58, [], [(9, (Vp v26.1)), (10, (Vp v26.2)), (3, (Vp q3)), (4, (Vp q4)), (5, (Vp q5)), (6, (Vp q6)), (7, (Vp q9015)), (8, (Vp q9016))], [(Ur v26.1 34 (C2 r21.1 r21.2.1 r21.2.2)), (Ur v26.2 34 (C2 r24.1 r24.2.1 r24.2.2)), (Ur q3 39 (C0 a0_0 a0_1 a0_2 a0_3 a0_4 a0_5 a0_6 a0_7 a0_8)), (Ur q4 39 (C0 a1_0 a1_1 a1_2 a1_3 a1_4 a1_5 a1_6 a1_7 a1_8)), (Ur q5 39 (C0 a2_0 a2_1 a2_2 a2_3 a2_4 a2_5 a2_6 a2_7 a2_8)), (Ur q6 36 (C5 false 0 false 0)), (Ur q9015 39 (C0 r15.1 r15.2.1 r15.2.2.1 r15.2.2.2.1 r15.2.2.2.2.1 r15.2.2.2.2.2.1 r15.2.2.2.2.2.2.1 r15.2.2.2.2.2.2.2.1 r15.2.2.2.2.2.2.2.2)), (Ur q9016 39 (C0 r18.1 r18.2.1 r18.2.2.1 r18.2.2.2.1 r18.2.2.2.2.1 r18.2.2.2.2.2.1 r18.2.2.2.2.2.2.1 r18.2.2.2.2.2.2.2.1 r18.2.2.2.2.2.2.2.2))]⟩) ?_ ?_
  ·rintro ⟨q9031, q9032⟩
   refine ax_nil (by kernel_rfl) ?_
   show TX E K3 _
   refine tx_k' hK3 ?_
   refine cr fun K4 hK4 => ?_
   obtain ⟨r25, hr25, hp⟩ := bind_some hp
   refine so (oz (ent_fn' Try.func60 isn60 rfl rfl) (spec_IntOf_sim _ hr25)) fun ⟨⟩ => ?_
   refine so (ox_alloc' info34 rfl rfl rfl rfl (l := (C1 false 0)) rfl) fun q11 => ?_
   refine so (ox_store' (i := 0) (o := 0) rfl rfl (lv_ag _) (ar rfl rfl rfl rfl) rfl info34 rfl (H' := [(Ur q11 34 (C2 r25.1 r25.2.1 r25.2.2)), (Ur q9031 34 (C2 r21.1 r21.2.1 r21.2.2)), (Ur q9032 34 (C2 r24.1 r24.2.1 r24.2.2)), (Ur q3 39 (C0 a0_0 a0_1 a0_2 a0_3 a0_4 a0_5 a0_6 a0_7 a0_8)), (Ur q4 39 (C0 a1_0 a1_1 a1_2 a1_3 a1_4 a1_5 a1_6 a1_7 a1_8)), (Ur q5 39 (C0 a2_0 a2_1 a2_2 a2_3 a2_4 a2_5 a2_6 a2_7 a2_8)), (Ur q6 36 (C5 false 0 false 0)), (Ur q9015 39 (C0 r15.1 r15.2.1 r15.2.2.1 r15.2.2.2.1 r15.2.2.2.2.1 r15.2.2.2.2.2.1 r15.2.2.2.2.2.2.1 r15.2.2.2.2.2.2.2.1 r15.2.2.2.2.2.2.2.2)), (Ur q9016 39 (C0 r18.1 r18.2.1 r18.2.2.1 r18.2.2.2.1 r18.2.2.2.2.1 r18.2.2.2.2.2.1 r18.2.2.2.2.2.2.1 r18.2.2.2.2.2.2.2.1 r18.2.2.2.2.2.2.2.2))]) rfl) fun _ => ?_
   refine nk hK4 ?_
   refine cx_seq' fun K5 hK5 => ?_
   refine cx_block' ?_
   refine cr fun K6 hK6 => ?_
   refine s0 (rd_load_agg' (i := 1) (o := 0) (nn := 3) rfl (ar rfl rfl rfl rfl) rfl agg34 (l' := (C2 r21.1 r21.2.1 r21.2.2)) rfl) ?_
   obtain ⟨r28, hr28, hp⟩ := bind_some hp
   refine so (oz (ent_fn' Try.func28 isn28 rfl rfl) (spec_Dyadic_Sign_sim _ _ _ hr28)) fun ⟨⟩ => ?_
   refine sb rfl rfl eg_int ru_eql ?_
   refine sm rfl ?_
   refine sx_cutn' 4 (fun (v27 : Bool) => (⟨58, [], [(3, (Vp q3)), (4, (Vp q4)), (5, (Vp q5)), (6, (Vp q6)), (7, (Vp q9015)), (8, (Vp q9016)), (9, (Vp q9031)), (10, (Vp q9032)), (11, (Vp q11)), (34, (Vb v27))], [(Ur q3 39 (C0 a0_0 a0_1 a0_2 a0_3 a0_4 a0_5 a0_6 a0_7 a0_8)), (Ur q4 39 (C0 a1_0 a1_1 a1_2 a1_3 a1_4 a1_5 a1_6 a1_7 a1_8)), (Ur q5 39 (C0 a2_0 a2_1 a2_2 a2_3 a2_4 a2_5 a2_6 a2_7 a2_8)), (Ur q6 36 (C5 false 0 false 0)), (Ur q9015 39 (C0 r15.1 r15.2.1 r15.2.2.1 r15.2.2.2.1 r15.2.2.2.2.1 r15.2.2.2.2.2.1 r15.2.2.2.2.2.2.1 r15.2.2.2.2.2.2.2.1 r15.2.2.2.2.2.2.2.2)), (Ur q9016 39 (C0 r18.1 r18.2.1 r18.2.2.1 r18.2.2.2.1 r18.2.2.2.2.1 r18.2.2.2.2.2.1 r18.2.2.2.2.2.2.1 r18.2.2.2.2.2.2.2.1 r18.2.2.2.2.2.2.2.2)), (Ur q9031 34 (C2 r21.1 r21.2.1 r21.2.2)), (Ur q9032 34 (C2 r24.1 r24.2.1 r24.2.2)), (Ur q11 34 (C2 r25.1 r25.2.1 r25.2.2))]⟩ : St)) (fun (v27 : Bool) => spec_SquareTo3_j1 k a1_0 a1_1 a1_2 a1_3 a1_4 a1_5 a1_6 a1_7 a1_8 a0_0 a0_1 a0_2 a0_3 a0_4 a0_5 a0_6 a0_7 a0_8 r25 r24 r21 a2_0 a2_1 a2_2 a2_3 a2_4 a2_5 a2_6 a2_7 a2_8 r15 r18 v27 = some out) ?_ ?_
   ·rintro x1 hp
    replace hp : spec_SquareTo3_j1 k a1_0 a1_1 a1_2 a1_3 a1_4 a1_5 a1_6 a1_7 a1_8 a0_0 a0_1 a0_2 a0_3 a0_4 a0_5 a0_6 a0_7 a0_8 r25 r24 r21 a2_0 a2_1 a2_2 a2_3 a2_4 a2_5 a2_6 a2_7 a2_8 r15 r18 x1 = some out := hp
    unfold spec_SquareTo3_j1 at hp
    refine sa rfl ?_
    refine nk hK6 ?_
    refine cx_cond' rfl (fun h2 => ?_) (fun h2 => ?_)
    ·replace hp := (br_t h2).symm.trans hp
     refine cx_seq' fun K8 hK8 => ?_
     refine cx_plan' [] [(5, 1)] [(0, 1), (1, 1), (3, 1), (2, 0), (4, 1), (5, 0)] mixed (by kernel_rfl) ?_
     refine pd rfl (rd_load_agg' (i := 1) (o := 0) (nn := 9) rfl (ar rfl rfl rfl rfl) rfl agg39 (l' := (C0 a1_0 a1_1 a1_2 a1_3 a1_4 a1_5 a1_6 a1_7 a1_8)) rfl) ?_
     refine pd rfl (rd_load_agg' (i := 0) (o := 0) (nn := 9) rfl (ar rfl rfl rfl rfl) rfl agg39 (l' := (C0 a0_0 a0_1 a0_2 a0_3 a0_4 a0_5 a0_6 a0_7 a0_8)) rfl) ?_
     refine pd rfl (rd_load_agg' (i := 8) (o := 0) (nn := 3) rfl (ar rfl rfl rfl rfl) rfl agg34 (l' := (C2 r25.1 r25.2.1 r25.2.2)) rfl) ?_
     obtain ⟨r37, hr37, hp⟩ := bind_some hp
     refine px_ox' rfl (oz (ent_fn' Try.func61 isn61 rfl rfl) (spec_Square3_sim _ _ _ _ _ _ _ _ _ _ _ _ _ _ _ _ _ _ hr37)) rfl bs_nil (wt_none' rfl) fun ⟨⟩ => ?_
     refine pd rfl (rd_build' (pls := [(0, 3), (3, 3)]) (qs := [(0, (C2 r37.1 r37.2.1 r37.2.2)), (1, (C2 r25.1 r25.2.1 r25.2.2))]) (r := (C4 r37.1 r37.2.1 r37.2.2 r25.1 r25.2.1 r25.2.2)) ⟨rfl, ⟨_, rfl, (lv_ag _)⟩, ⟨rfl, ⟨_, rfl, (lv_ag _)⟩, trivial⟩⟩ Try.underlying36 has36 places36 info36 rfl rfl rfl) ?_
     refine px_oxv' rfl (oxv_store (i := 3) (o := 0) rfl rfl (lv_ag _) (ar rfl rfl rfl rfl) rfl info36 rfl (H' := [(Ur q3 39 (C0 a0_0 a0_1 a0_2 a0_3 a0_4 a0_5 a0_6 a0_7 a0_8)), (Ur q4 39 (C0 a1_0 a1_1 a1_2 a1_3 a1_4 a1_5 a1_6 a1_7 a1_8)), (Ur q5 39 (C0 a2_0 a2_1 a2_2 a2_3 a2_4 a2_5 a2_6 a2_7 a2_8)), (Ur q6 36 (C4 r37.1 r37.2.1 r37.2.2 r25.1 r25.2.1 r25.2.2)), (Ur q9015 39 (C0 r15.1 r15.2.1 r15.2.2.1 r15.2.2.2.1 r15.2.2.2.2.1 r15.2.2.2.2.2.1 r15.2.2.2.2.2.2.1 r15.2.2.2.2.2.2.2.1 r15.2.2.2.2.2.2.2.2)), (Ur q9016 39 (C0 r18.1 r18.2.1 r18.2.2.1 r18.2.2.2.1 r18.2.2.2.2.1 r18.2.2.2.2.2.1 r18.2.2.2.2.2.2.1 r18.2.2.2.2.2.2.2.1 r18.2.2.2.2.2.2.2.2)), (Ur q9031 34 (C2 r21.1 r21.2.1 r21.2.2)), (Ur q9032 34 (C2 r24.1 r24.2.1 r24.2.2)), (Ur q11 34 (C2 r25.1 r25.2.1 r25.2.2))]) rfl) rfl rfl bo_nil (wt_none' rfl) fun _ => ?_
     refine px_nil' ?_
     show TX E K8 _
     refine tx_k' hK8 ?_
     refine cx_retc' ?_
     replace hp := sj hp
     subst hp
     refine tk (L' := [(6, (Vp q6))]) (H' := [(Ur q6 36 (C4 r37.1 r37.2.1 r37.2.2 r25.1 r25.2.1 r25.2.2))]) [3] (uc rfl un) (pc rfl pn) ?_
     exact tx_ret1' Try.results32 rfl () (rv_cell_agg' (i := 0) (o := 0) (nn := 6) rfl (ar rfl rfl rfl rfl) rfl agg36 rfl) (List.nil_sublist _)
    replace hp := (br_f h2).symm.trans hp
    refine cr fun K9 hK9 => ?_
    refine s0 (rd_load_agg' (i := 7) (o := 0) (nn := 3) rfl (ar rfl rfl rfl rfl) rfl agg34 (l' := (C2 r24.1 r24.2.1 r24.2.2)) rfl) ?_
    refine s0 (rd_load_agg' (i := 6) (o := 0) (nn := 3) rfl (ar rfl rfl rfl rfl) rfl agg34 (l' := (C2 r21.1 r21.2.1 r21.2.2)) rfl) ?_
    obtain ⟨r43, hr43, hp⟩ := bind_some hp
    refine so (oz (ent_fn' Try.func58 isn58 rfl rfl) (spec_Dyadic_Cmp_sim _ _ _ _ _ _ hr43)) fun ⟨⟩ => ?_
    refine sb rfl rfl eg_int ru_geq ?_
    refine sa rfl ?_
    refine nk hK9 ?_
    refine cx_cond' rfl (fun h3 => ?_) (fun h3 => ?_)
    ·replace hp := (br_t h3).symm.trans hp
     refine cx_seq' fun K10 hK10 => ?_
     refine cx_plan' [] [(5, 1)] [(0, 1), (1, 1), (3, 1), (2, 0), (4, 1), (5, 0)] mixed (by kernel_rfl) ?_
     refine pd rfl (rd_load_agg' (i := 2) (o := 0) (nn := 9) rfl (ar rfl rfl rfl rfl) rfl agg39 (l' := (C0 a2_0 a2_1 a2_2 a2_3 a2_4 a2_5 a2_6 a2_7 a2_8)) rfl) ?_
     refine pd rfl (rd_load_agg' (i := 0) (o := 0) (nn := 9) rfl (ar rfl rfl rfl rfl) rfl agg39 (l' := (C0 a0_0 a0_1 a0_2 a0_3 a0_4 a0_5 a0_6 a0_7 a0_8)) rfl) ?_
     refine pd rfl (rd_load_agg' (i := 8) (o := 0) (nn := 3) rfl (ar rfl rfl rfl rfl) rfl agg34 (l' := (C2 r25.1 r25.2.1 r25.2.2)) rfl) ?_
     obtain ⟨r47, hr47, hp⟩ := bind_some hp
     refine px_ox' rfl (oz (ent_fn' Try.func61 isn61 rfl rfl) (spec_Square3_sim _ _ _ _ _ _ _ _ _ _ _ _ _ _ _ _ _ _ hr47)) rfl bs_nil (wt_none' rfl) fun ⟨⟩ => ?_
     refine pd rfl (rd_build' (pls := [(0, 3), (3, 3)]) (qs := [(0, (C2 r47.1 r47.2.1 r47.2.2)), (1, (C2 r25.1 r25.2.1 r25.2.2))]) (r := (C4 r47.1 r47.2.1 r47.2.2 r25.1 r25.2.1 r25.2.2)) ⟨rfl, ⟨_, rfl, (lv_ag _)⟩, ⟨rfl, ⟨_, rfl, (lv_ag _)⟩, trivial⟩⟩ Try.underlying36 has36 places36 info36 rfl rfl rfl) ?_
     refine px_oxv' rfl (oxv_store (i := 3) (o := 0) rfl rfl (lv_ag _) (ar rfl rfl rfl rfl) rfl info36 rfl (H' := [(Ur q3 39 (C0 a0_0 a0_1 a0_2 a0_3 a0_4 a0_5 a0_6 a0_7 a0_8)), (Ur q4 39 (C0 a1_0 a1_1 a1_2 a1_3 a1_4 a1_5 a1_6 a1_7 a1_8)), (Ur q5 39 (C0 a2_0 a2_1 a2_2 a2_3 a2_4 a2_5 a2_6 a2_7 a2_8)), (Ur q6 36 (C4 r47.1 r47.2.1 r47.2.2 r25.1 r25.2.1 r25.2.2)), (Ur q9015 39 (C0 r15.1 r15.2.1 r15.2.2.1 r15.2.2.2.1 r15.2.2.2.2.1 r15.2.2.2.2.2.1 r15.2.2.2.2.2.2.1 r15.2.2.2.2.2.2.2.1 r15.2.2.2.2.2.2.2.2)), (Ur q9016 39 (C0 r18.1 r18.2.1 r18.2.2.1 r18.2.2.2.1 r18.2.2.2.2.1 r18.2.2.2.2.2.1 r18.2.2.2.2.2.2.1 r18.2.2.2.2.2.2.2.1 r18.2.2.2.2.2.2.2.2)), (Ur q9031 34 (C2 r21.1 r21.2.1 r21.2.2)), (Ur q9032 34 (C2 r24.1 r24.2.1 r24.2.2)), (Ur q11 34 (C2 r25.1 r25.2.1 r25.2.2))]) rfl) rfl rfl bo_nil (wt_none' rfl) fun _ => ?_
     refine px_nil' ?_
     show TX E K10 _
     refine tx_k' hK10 ?_
     refine cx_retc' ?_
     replace hp := sj hp
     subst hp
     refine tk (L' := [(6, (Vp q6))]) (H' := [(Ur q6 36 (C4 r47.1 r47.2.1 r47.2.2 r25.1 r25.2.1 r25.2.2))]) [3] (uc rfl un) (pc rfl pn) ?_
     exact tx_ret1' Try.results32 rfl () (rv_cell_agg' (i := 0) (o := 0) (nn := 6) rfl (ar rfl rfl rfl rfl) rfl agg36 rfl) (List.nil_sublist _)
    replace hp := (br_f h3).symm.trans hp
    refine cx_skip' ?_
    show TX E K5 _
    refine tx_k' hK5 ?_
    refine cr fun K11 hK11 => ?_
    refine s0 (rd_load_agg' (i := 4) (o := 0) (nn := 9) rfl (ar rfl rfl rfl rfl) rfl agg39 (l' := (C0 r15.1 r15.2.1 r15.2.2.1 r15.2.2.2.1 r15.2.2.2.2.1 r15.2.2.2.2.2.1 r15.2.2.2.2.2.2.1 r15.2.2.2.2.2.2.2.1 r15.2.2.2.2.2.2.2.2)) rfl) ?_
    refine s0 (rd_load_agg' (i := 5) (o := 0) (nn := 9) rfl (ar rfl rfl rfl rfl) rfl agg39 (l' := (C0 r18.1 r18.2.1 r18.2.2.1 r18.2.2.2.1 r18.2.2.2.2.1 r18.2.2.2.2.2.1 r18.2.2.2.2.2.2.1 r18.2.2.2.2.2.2.2.1 r18.2.2.2.2.2.2.2.2)) rfl) ?_
    obtain ⟨r52, hr52, hp⟩ := bind_some hp
    refine so (oz (ent_fn' Try.func30 isn30 rfl rfl) (spec_Cross3_sim _ _ _ _ _ _ _ _ _ _ _ _ _ _ _ _ _ _ hr52)) fun ⟨⟩ => ?_
    refine so (ox_alloc' info39 rfl rfl rfl rfl (l := (C3 false 0 false 0 false 0)) rfl) fun q12 => ?_
    refine so (ox_store' (i := 0) (o := 0) rfl rfl (lv_ag _) (ar rfl rfl rfl rfl) rfl info39 rfl (H' := [(Ur q12 39 (C0 r52.1 r52.2.1 r52.2.2.1 r52.2.2.2.1 r52.2.2.2.2.1 r52.2.2.2.2.2.1 r52.2.2.2.2.2.2.1 r52.2.2.2.2.2.2.2.1 r52.2.2.2.2.2.2.2.2)), (Ur q3 39 (C0 a0_0 a0_1 a0_2 a0_3 a0_4 a0_5 a0_6 a0_7 a0_8)), (Ur q4 39 (C0 a1_0 a1_1 a1_2 a1_3 a1_4 a1_5 a1_6 a1_7 a1_8)), (Ur q5 39 (C0 a2_0 a2_1 a2_2 a2_3 a2_4 a2_5 a2_6 a2_7 a2_8)), (Ur q6 36 (C5 false 0 false 0)), (Ur q9015 39 (C0 r15.1 r15.2.1 r15.2.2.1 r15.2.2.2.1 r15.2.2.2.2.1 r15.2.2.2.2.2.1 r15.2.2.2.2.2.2.1 r15.2.2.2.2.2.2.2.1 r15.2.2.2.2.2.2.2.2)), (Ur q9016 39 (C0 r18.1 r18.2.1 r18.2.2.1 r18.2.2.2.1 r18.2.2.2.2.1 r18.2.2.2.2.2.1 r18.2.2.2.2.2.2.1 r18.2.2.2.2.2.2.2.1 r18.2.2.2.2.2.2.2.2)), (Ur q9031 34 (C2 r21.1 r21.2.1 r21.2.2)), (Ur q9032 34 (C2 r24.1 r24.2.1 r24.2.2)), (Ur q11 34 (C2 r25.1 r25.2.1 r25.2.2))]) rfl) fun _ => ?_
    refine nk hK11 ?_
    refine cx_seq' fun K12 hK12 => ?_
    refine cx_plan' [] [(5, 1)] [(0, 1), (1, 1), (3, 1), (2, 0), (4, 1), (5, 0)] mixed (by kernel_rfl) ?_
    iterate 2 refine pd rfl (rd_load_agg' (i := 0) (o := 0) (nn := 9) rfl (ar rfl rfl rfl rfl) rfl agg39 (l' := (C0 r52.1 r52.2.1 r52.2.2.1 r52.2.2.2.1 r52.2.2.2.2.1 r52.2.2.2.2.2.1 r52.2.2.2.2.2.2.1 r52.2.2.2.2.2.2.2.1 r52.2.2.2.2.2.2.2.2)) rfl) ?_
    refine pd rfl (rd_load_agg' (i := 7) (o := 0) (nn := 3) rfl (ar rfl rfl rfl rfl) rfl agg34 (l' := (C2 r21.1 r21.2.1 r21.2.2)) rfl) ?_
    obtain ⟨r55, hr55, hp⟩ := bind_some hp
    refine px_ox' rfl (oz (ent_fn' Try.func25 isn25 rfl rfl) (spec_Dot3_sim _ _ _ _ _ _ _ _ _ _ _ _ _ _ _ _ _ _ hr55)) rfl bs_nil (wt_none' rfl) fun ⟨⟩ => ?_
    refine pd rfl (rd_build' (pls := [(0, 3), (3, 3)]) (qs := [(0, (C2 r55.1 r55.2.1 r55.2.2)), (1, (C2 r21.1 r21.2.1 r21.2.2))]) (r := (C4 r55.1 r55.2.1 r55.2.2 r21.1 r21.2.1 r21.2.2)) ⟨rfl, ⟨_, rfl, (lv_ag _)⟩, ⟨rfl, ⟨_, rfl, (lv_ag _)⟩, trivial⟩⟩ Try.underlying36 has36 places36 info36 rfl rfl rfl) ?_
    refine px_oxv' rfl (oxv_store (i := 4) (o := 0) rfl rfl (lv_ag _) (ar rfl rfl rfl rfl) rfl info36 rfl (H' := [(Ur q12 39 (C0 r52.1 r52.2.1 r52.2.2.1 r52.2.2.2.1 r52.2.2.2.2.1 r52.2.2.2.2.2.1 r52.2.2.2.2.2.2.1 r52.2.2.2.2.2.2.2.1 r52.2.2.2.2.2.2.2.2)), (Ur q3 39 (C0 a0_0 a0_1 a0_2 a0_3 a0_4 a0_5 a0_6 a0_7 a0_8)), (Ur q4 39 (C0 a1_0 a1_1 a1_2 a1_3 a1_4 a1_5 a1_6 a1_7 a1_8)), (Ur q5 39 (C0 a2_0 a2_1 a2_2 a2_3 a2_4 a2_5 a2_6 a2_7 a2_8)), (Ur q6 36 (C4 r55.1 r55.2.1 r55.2.2 r21.1 r21.2.1 r21.2.2)), (Ur q9015 39 (C0 r15.1 r15.2.1 r15.2.2.1 r15.2.2.2.1 r15.2.2.2.2.1 r15.2.2.2.2.2.1 r15.2.2.2.2.2.2.1 r15.2.2.2.2.2.2.2.1 r15.2.2.2.2.2.2.2.2)), (Ur q9016 39 (C0 r18.1 r18.2.1 r18.2.2.1 r18.2.2.2.1 r18.2.2.2.2.1 r18.2.2.2.2.2.1 r18.2.2.2.2.2.2.1 r18.2.2.2.2.2.2.2.1 r18.2.2.2.2.2.2.2.2)), (Ur q9031 34 (C2 r21.1 r21.2.1 r21.2.2)), (Ur q9032 34 (C2 r24.1 r24.2.1 r24.2.2)), (Ur q11 34 (C2 r25.1 r25.2.1 r25.2.2))]) rfl) rfl rfl bo_nil (wt_none' rfl) fun _ => ?_
    refine px_nil' ?_
    show TX E K12 _
    refine tx_k' hK12 ?_
    refine cx_retc' ?_
    replace hp := sj hp
    subst hp
    refine tk (L' := [(6, (Vp q6))]) (H' := [(Ur q6 36 (C4 r55.1 r55.2.1 r55.2.2 r21.1 r21.2.1 r21.2.2))]) [4] (uc rfl un) (pc rfl pn) ?_
    exact tx_ret1' Try.results32 rfl () (rv_cell_agg' (i := 0) (o := 0) (nn := 6) rfl (ar rfl rfl rfl rfl) rfl agg36 rfl) (List.nil_sublist _)
   intro K7 hK7
   rcases br_cases hp with ⟨h1, hp⟩ | ⟨h1, hp⟩
   ·refine sx_skip' rfl rfl (wt_is' (wt_guard' rfl rfl rfl) (beq_tf h1)) ?_
    iterate 2 refine sx_skip' rfl rfl (wt_is' (wt_guard' rfl rfl rfl) (beq_tf h1)) ?_
    refine s0 (rd_pick_true' rfl h1 rfl) ?_
    refine sx_nil' ?_
    show TX E K7 _
    exact tk [3,4,5,6,7,8,1,2,0] (u10 rfl rfl rfl rfl rfl rfl rfl rfl rfl rfl) (p9 rfl rfl rfl rfl rfl rfl rfl rfl rfl) (hK7 true hp)
   refine sx_rd' (rd_load_agg' (i := 2) (o := 0) (nn := 3) rfl (ar rfl rfl rfl rfl) rfl agg34 (l' := (C2 r24.1 r24.2.1 r24.2.2)) rfl) rfl rfl (wt_is' (wt_guard' rfl rfl rfl) (beq_ff h1)) ?_
   obtain ⟨r32, hr32, hp⟩ := bind_some hp
   refine sx_ox' (oz (ent_fn' Try.func28 isn28 rfl rfl) (spec_Dyadic_Sign_sim _ _ _ hr32)) (wt_is' (wt_guard' rfl rfl rfl) (beq_ff h1)) fun ⟨⟩ => ?_
   refine sx_rd' (rd_bin' rfl rfl eg_int ru_leq) rfl rfl (wt_is' (wt_guard' rfl rfl rfl) (beq_ff h1)) ?_
   refine s0 (rd_pick_false' rfl h1 rfl) ?_
   refine sx_nil' ?_
   show TX E K7 _
   exact tk [3,4,5,6,7,8,1,2,0] (u10 rfl rfl rfl rfl rfl rfl rfl rfl rfl rfl) (p9 rfl rfl rfl rfl rfl rfl rfl rfl rfl) (hK7 (decide (r32 ≤ 0)) hp)
  intro hN14
  refine an 1 10 511 (fun (v25 : A2) => ⟨58, [], [(9, (Vp v25.1)), (10, (Vp v25.2)), (24, (Ag (C2 r24.1 r24.2.1 r24.2.2))), (3, (Vp q3)), (4, (Vp q4)), (5, (Vp q5)), (6, (Vp q6)), (7, (Vp q9015)), (8, (Vp q9016))], [(Ur v25.1 34 (C2 r21.1 r21.2.1 r21.2.2)), (Ur v25.2 34 (C1 false 0)), (Ur q3 39 (C0 a0_0 a0_1 a0_2 a0_3 a0_4 a0_5 a0_6 a0_7 a0_8)), (Ur q4 39 (C0 a1_0 a1_1 a1_2 a1_3 a1_4 a1_5 a1_6 a1_7 a1_8)), (Ur q5 39 (C0 a2_0 a2_1 a2_2 a2_3 a2_4 a2_5 a2_6 a2_7 a2_8)), (Ur q6 36 (C5 false 0 false 0)), (Ur q9015 39 (C0 r15.1 r15.2.1 r15.2.2.1 r15.2.2.2.1 r15.2.2.2.2.1 r15.2.2.2.2.2.1 r15.2.2.2.2.2.2.1 r15.2.2.2.2.2.2.2.1 r15.2.2.2.2.2.2.2.2)), (Ur q9016 39 (C0 r18.1 r18.2.1 r18.2.2.1 r18.2.2.2.1 r18.2.2.2.2.1 r18.2.2.2.2.2.1 r18.2.2.2.2.2.2.1 r18.2.2.2.2.2.2.2.1 r18.2.2.2.2.2.2.2.2))]⟩) ?_ ?_
  ·rintro ⟨q9029, q9030⟩
   refine al1 9 (by kernel_rfl) ?_
   ·refine nx_oxv rfl (oxv_store (i := 1) (o := 0) rfl rfl (lv_ag _) (ar rfl rfl rfl rfl) rfl info34 rfl (H' := [(Ur q9029 34 (C2 r21.1 r21.2.1 r21.2.2)), (Ur q9030 34 (C2 r24.1 r24.2.1 r24.2.2)), (Ur q3 39 (C0 a0_0 a0_1 a0_2 a0_3 a0_4 a0_5 a0_6 a0_7 a0_8)), (Ur q4 39 (C0 a1_0 a1_1 a1_2 a1_3 a1_4 a1_5 a1_6 a1_7 a1_8)), (Ur q5 39 (C0 a2_0 a2_1 a2_2 a2_3 a2_4 a2_5 a2_6 a2_7 a2_8)), (Ur q6 36 (C5 false 0 false 0)), (Ur q9015 39 (C0 r15.1 r15.2.1 r15.2.2.1 r15.2.2.2.1 r15.2.2.2.2.1 r15.2.2.2.2.2.1 r15.2.2.2.2.2.2.1 r15.2.2.2.2.2.2.2.1 r15.2.2.2.2.2.2.2.2)), (Ur q9016 39 (C0 r18.1 r18.2.1 r18.2.2.1 r18.2.2.2.1 r18.2.2.2.2.1 r18.2.2.2.2.2.1 r18.2.2.2.2.2.2.1 r18.2.2.2.2.2.2.2.1 r18.2.2.2.2.2.2.2.2))]) rfl) rfl rfl bo_nil (wt_none' rfl) rfl fun _ => ?_
    exact tk [0,1,2,3,4,5,6,7] (u8 rfl rfl rfl rfl rfl rfl rfl rfl) (p8 rfl rfl rfl rfl rfl rfl rfl rfl) (hN14 (q9029, q9030))
  intro hN13
  refine an 2 10 255 (fun (v24 : A2) => ⟨58, [], [(9, (Vp v24.1)), (10, (Vp v24.2)), (21, (Ag (C2 r21.1 r21.2.1 r21.2.2))), (24, (Ag (C2 r24.1 r24.2.1 r24.2.2))), (3, (Vp q3)), (4, (Vp q4)), (5, (Vp q5)), (6, (Vp q6)), (7, (Vp q9015)), (8, (Vp q9016))], [(Ur v24.1 34 (C1 false 0)), (Ur v24.2 34 (C1 false 0)), (Ur q3 39 (C0 a0_0 a0_1 a0_2 a0_3 a0_4 a0_5 a0_6 a0_7 a0_8)), (Ur q4 39 (C0 a1_0 a1_1 a1_2 a1_3 a1_4 a1_5 a1_6 a1_7 a1_8)), (Ur q5 39 (C0 a2_0 a2_1 a2_2 a2_3 a2_4 a2_5 a2_6 a2_7 a2_8)), (Ur q6 36 (C5 false 0 false 0)), (Ur q9015 39 (C0 r15.1 r15.2.1 r15.2.2.1 r15.2.2.2.1 r15.2.2.2.2.1 r15.2.2.2.2.2.1 r15.2.2.2.2.2.2.1 r15.2.2.2.2.2.2.2.1 r15.2.2.2.2.2.2.2.2)), (Ur q9016 39 (C0 r18.1 r18.2.1 r18.2.2.1 r18.2.2.2.1 r18.2.2.2.2.1 r18.2.2.2.2.2.1 r18.2.2.2.2.2.2.1 r18.2.2.2.2.2.2.2.1 r18.2.2.2.2.2.2.2.2))]⟩) ?_ ?_
  ·rintro ⟨q9027, q9028⟩
   refine al1 8 (by kernel_rfl) ?_
   ·refine nx_oxv rfl (oxv_store (i := 0) (o := 0) rfl rfl (lv_ag _) (ar rfl rfl rfl rfl) rfl info34 rfl (H' := [(Ur q9027 34 (C2 r21.1 r21.2.1 r21.2.2)), (Ur q9028 34 (C1 false 0)), (Ur q3 39 (C0 a0_0 a0_1 a0_2 a0_3 a0_4 a0_5 a0_6 a0_7 a0_8)), (Ur q4 39 (C0 a1_0 a1_1 a1_2 a1_3 a1_4 a1_5 a1_6 a1_7 a1_8)), (Ur q5 39 (C0 a2_0 a2_1 a2_2 a2_3 a2_4 a2_5 a2_6 a2_7 a2_8)), (Ur q6 36 (C5 false 0 false 0)), (Ur q9015 39 (C0 r15.1 r15.2.1 r15.2.2.1 r15.2.2.2.1 r15.2.2.2.2.1 r15.2.2.2.2.2.1 r15.2.2.2.2.2.2.1 r15.2.2.2.2.2.2.2.1 r15.2.2.2.2.2.2.2.2)), (Ur q9016 39 (C0 r18.1 r18.2.1 r18.2.2.1 r18.2.2.2.1 r18.2.2.2.2.1 r18.2.2.2.2.2.1 r18.2.2.2.2.2.2.1 r18.2.2.2.2.2.2.2.1 r18.2.2.2.2.2.2.2.2))]) rfl) rfl rfl bo_nil (wt_none' rfl) rfl fun _ => ?_
    exact tk [0,1,2,3,4,5,6,7] (u9 rfl rfl rfl rfl rfl rfl rfl rfl rfl) (p8 rfl rfl rfl rfl rfl rfl rfl rfl) (hN13 (q9027, q9028))
  intro hN12
  refine an 3 10 127 (fun (v21 : Addr) => ⟨58, [], [(9, (Vp v21)), (21, (Ag (C2 r21.1 r21.2.1 r21.2.2))), (24, (Ag (C2 r24.1 r24.2.1 r24.2.2))), (3, (Vp q3)), (4, (Vp q4)), (5, (Vp q5)), (6, (Vp q6)), (7, (Vp q9015)), (8, (Vp q9016))], [(Ur v21 34 (C1 false 0)), (Ur q3 39 (C0 a0_0 a0_1 a0_2 a0_3 a0_4 a0_5 a0_6 a0_7 a0_8)), (Ur q4 39 (C0 a1_0 a1_1 a1_2 a1_3 a1_4 a1_5 a1_6 a1_7 a1_8)), (Ur q5 39 (C0 a2_0 a2_1 a2_2 a2_3 a2_4 a2_5 a2_6 a2_7 a2_8)), (Ur q6 36 (C5 false 0 false 0)), (Ur q9015 39 (C0 r15.1 r15.2.1 r15.2.2.1 r15.2.2.2.1 r15.2.2.2.2.1 r15.2.2.2.2.2.1 r15.2.2.2.2.2.2.1 r15.2.2.2.2.2.2.2.1 r15.2.2.2.2.2.2.2.2)), (Ur q9016 39 (C0 r18.1 r18.2.1 r18.2.2.1 r18.2.2.2.1 r18.2.2.2.2.1 r18.2.2.2.2.2.1 r18.2.2.2.2.2.2.1 r18.2.2.2.2.2.2.2.1 r18.2.2.2.2.2.2.2.2))]⟩) ?_ ?_
  ·rintro q9023
   refine al1 7 (by kernel_rfl) ?_
   ·exact na rfl info34 (C1 false 0) fun q10 => tk [1,0,2,3,4,5,6,7] (u10 rfl rfl rfl rfl rfl rfl rfl rfl rfl rfl) (p8 rfl rfl rfl rfl rfl rfl rfl rfl) (hN12 (q9023, q10))
  intro hN9
  refine an 3 10 191 (fun (v22 : Addr) => ⟨58, [], [(10, (Vp v22)), (21, (Ag (C2 r21.1 r21.2.1 r21.2.2))), (24, (Ag (C2 r24.1 r24.2.1 r24.2.2))), (3, (Vp q3)), (4, (Vp q4)), (5, (Vp q5)), (6, (Vp q6)), (7, (Vp q9015)), (8, (Vp q9016))], [(Ur v22 34 (C1 false 0)), (Ur q3 39 (C0 a0_0 a0_1 a0_2 a0_3 a0_4 a0_5 a0_6 a0_7 a0_8)), (Ur q4 39 (C0 a1_0 a1_1 a1_2 a1_3 a1_4 a1_5 a1_6 a1_7 a1_8)), (Ur q5 39 (C0 a2_0 a2_1 a2_2 a2_3 a2_4 a2_5 a2_6 a2_7 a2_8)), (Ur q6 36 (C5 false 0 false 0)), (Ur q9015 39 (C0 r15.1 r15.2.1 r15.2.2.1 r15.2.2.2.1 r15.2.2.2.2.1 r15.2.2.2.2.2.1 r15.2.2.2.2.2.2.1 r15.2.2.2.2.2.2.2.1 r15.2.2.2.2.2.2.2.2)), (Ur q9016 39 (C0 r18.1 r18.2.1 r18.2.2.1 r18.2.2.2.1 r18.2.2.2.2.1 r18.2.2.2.2.2.1 r18.2.2.2.2.2.2.1 r18.2.2.2.2.2.2.2.1 r18.2.2.2.2.2.2.2.2))]⟩) ?_ ?_
  ·rintro q9024
   refine al1 6 (by kernel_rfl) ?_
   ·exact na rfl info34 (C1 false 0) fun q9 => tk [0,1,2,3,4,5,6,7] (u10 rfl rfl rfl rfl rfl rfl rfl rfl rfl rfl) (p8 rfl rfl rfl rfl rfl rfl rfl rfl) (hN12 (q9, q9024))
  intro hN10
  refine an 3 10 223 (fun (v23 : A2) => ⟨58, [], [(9, (Vp v23.1)), (10, (Vp v23.2)), (21, (Ag (C2 r21.1 r21.2.1 r21.2.2))), (22, (Ag (C0 r15.1 r15.2.1 r15.2.2.1 r15.2.2.2.1 r15.2.2.2.2.1 r15.2.2.2.2.2.1 r15.2.2.2.2.2.2.1 r15.2.2.2.2.2.2.2.1 r15.2.2.2.2.2.2.2.2))), (23, (Ag (C0 r18.1 r18.2.1 r18.2.2.1 r18.2.2.2.1 r18.2.2.2.2.1 r18.2.2.2.2.2.1 r18.2.2.2.2.2.2.1 r18.2.2.2.2.2.2.2.1 r18.2.2.2.2.2.2.2.2))), (3, (Vp q3)), (4, (Vp q4)), (5, (Vp q5)), (6, (Vp q6)), (7, (Vp q9015)), (8, (Vp q9016))], [(Ur v23.1 34 (C1 false 0)), (Ur v23.2 34 (C1 false 0)), (Ur q3 39 (C0 a0_0 a0_1 a0_2 a0_3 a0_4 a0_5 a0_6 a0_7 a0_8)), (Ur q4 39 (C0 a1_0 a1_1 a1_2 a1_3 a1_4 a1_5 a1_6 a1_7 a1_8)), (Ur q5 39 (C0 a2_0 a2_1 a2_2 a2_3 a2_4 a2_5 a2_6 a2_7 a2_8)), (Ur q6 36 (C5 false 0 false 0)), (Ur q9015 39 (C0 r15.1 r15.2.1 r15.2.2.1 r15.2.2.2.1 r15.2.2.2.2.1 r15.2.2.2.2.2.1 r15.2.2.2.2.2.2.1 r15.2.2.2.2.2.2.2.1 r15.2.2.2.2.2.2.2.2)), (Ur q9016 39 (C0 r18.1 r18.2.1 r18.2.2.1 r18.2.2.2.1 r18.2.2.2.2.1 r18.2.2.2.2.2.1 r18.2.2.2.2.2.2.1 r18.2.2.2.2.2.2.2.1 r18.2.2.2.2.2.2.2.2))]⟩) ?_ ?_
  ·rintro ⟨q9025, q9026⟩
   refine al1 5 (by kernel_rfl) ?_
   ·exact no rfl (oz (ent_fn' Try.func25 isn25 rfl rfl) (spec_Dot3_sim _ _ _ _ _ _ _ _ _ _ _ _ _ _ _ _ _ _ hr24)) fun _ => tk [0,1,2,3,4,5,6,7] (u10 rfl rfl rfl rfl rfl rfl rfl rfl rfl rfl) (p8 rfl rfl rfl rfl rfl rfl rfl rfl) (hN12 (q9025, q9026))
  intro hN11
  refine an 4 10 63 (fun (v17 : Unit) => ⟨58, [], [(21, (Ag (C2 r21.1 r21.2.1 r21.2.2))), (24, (Ag (C2 r24.1 r24.2.1 r24.2.2))), (3, (Vp q3)), (4, (Vp q4)), (5, (Vp q5)), (6, (Vp q6)), (7, (Vp q9015)), (8, (Vp q9016))], [(Ur q3 39 (C0 a0_0 a0_1 a0_2 a0_3 a0_4 a0_5 a0_6 a0_7 a0_8)), (Ur q4 39 (C0 a1_0 a1_1 a1_2 a1_3 a1_4 a1_5 a1_6 a1_7 a1_8)), (Ur q5 39 (C0 a2_0 a2_1 a2_2 a2_3 a2_4 a2_5 a2_6 a2_7 a2_8)), (Ur q6 36 (C5 false 0 false 0)), (Ur q9015 39 (C0 r15.1 r15.2.1 r15.2.2.1 r15.2.2.2.1 r15.2.2.2.2.1 r15.2.2.2.2.2.1 r15.2.2.2.2.2.2.1 r15.2.2.2.2.2.2.2.1 r15.2.2.2.2.2.2.2.2)), (Ur q9016 39 (C0 r18.1 r18.2.1 r18.2.2.1 r18.2.2.2.1 r18.2.2.2.2.1 r18.2.2.2.2.2.1 r18.2.2.2.2.2.2.1 r18.2.2.2.2.2.2.2.1 r18.2.2.2.2.2.2.2.2))]⟩) ?_ ?_
  ·rintro ⟨⟩
   refine al2 6 7 (by kernel_rfl) ?_ ?_
   ·exact na rfl info34 (C1 false 0) fun q9 => tk [0,1,2,3,4,5,6] (u9 rfl rfl rfl rfl rfl rfl rfl rfl rfl) (p7 rfl rfl rfl rfl rfl rfl rfl) (hN9 q9)
   exact na rfl info34 (C1 false 0) fun q10 => tk [0,1,2,3,4,5,6] (u9 rfl rfl rfl rfl rfl rfl rfl rfl rfl) (p7 rfl rfl rfl rfl rfl rfl rfl) (hN10 q10)
  intro hN5
  refine an 4 10 95 (fun (v18 : Addr) => ⟨58, [], [(9, (Vp v18)), (21, (Ag (C2 r21.1 r21.2.1 r21.2.2))), (22, (Ag (C0 r15.1 r15.2.1 r15.2.2.1 r15.2.2.2.1 r15.2.2.2.2.1 r15.2.2.2.2.2.1 r15.2.2.2.2.2.2.1 r15.2.2.2.2.2.2.2.1 r15.2.2.2.2.2.2.2.2))), (23, (Ag (C0 r18.1 r18.2.1 r18.2.2.1 r18.2.2.2.1 r18.2.2.2.2.1 r18.2.2.2.2.2.1 r18.2.2.2.2.2.2.1 r18.2.2.2.2.2.2.2.1 r18.2.2.2.2.2.2.2.2))), (3, (Vp q3)), (4, (Vp q4)), (5, (Vp q5)), (6, (Vp q6)), (7, (Vp q9015)), (8, (Vp q9016))], [(Ur v18 34 (C1 false 0)), (Ur q3 39 (C0 a0_0 a0_1 a0_2 a0_3 a0_4 a0_5 a0_6 a0_7 a0_8)), (Ur q4 39 (C0 a1_0 a1_1 a1_2 a1_3 a1_4 a1_5 a1_6 a1_7 a1_8)), (Ur q5 39 (C0 a2_0 a2_1 a2_2 a2_3 a2_4 a2_5 a2_6 a2_7 a2_8)), (Ur q6 36 (C5 false 0 false 0)), (Ur q9015 39 (C0 r15.1 r15.2.1 r15.2.2.1 r15.2.2.2.1 r15.2.2.2.2.1 r15.2.2.2.2.2.1 r15.2.2.2.2.2.2.1 r15.2.2.2.2.2.2.2.1 r15.2.2.2.2.2.2.2.2)), (Ur q9016 39 (C0 r18.1 r18.2.1 r18.2.2.1 r18.2.2.2.1 r18.2.2.2.2.1 r18.2.2.2.2.2.1 r18.2.2.2.2.2.2.1 r18.2.2.2.2.2.2.2.1 r18.2.2.2.2.2.2.2.2))]⟩) ?_ ?_
  ·rintro q9019
   refine al2 5 7 (by kernel_rfl) ?_ ?_
   ·exact no rfl (oz (ent_fn' Try.func25 isn25 rfl rfl) (spec_Dot3_sim _ _ _ _ _ _ _ _ _ _ _ _ _ _ _ _ _ _ hr24)) fun _ => tk [0,1,2,3,4,5,6] (u9 rfl rfl rfl rfl rfl rfl rfl rfl rfl) (p7 rfl rfl rfl rfl rfl rfl rfl) (hN9 q9019)
   exact na rfl info34 (C1 false 0) fun q10 => tk [1,0,2,3,4,5,6,7] (u11 rfl rfl rfl rfl rfl rfl rfl rfl rfl rfl rfl) (p8 rfl rfl rfl rfl rfl rfl rfl rfl) (hN11 (q9019, q10))
  intro hN6
  refine an 4 10 159 (fun (v19 : Addr) => ⟨58, [], [(10, (Vp v19)), (21, (Ag (C2 r21.1 r21.2.1 r21.2.2))), (22, (Ag (C0 r15.1 r15.2.1 r15.2.2.1 r15.2.2.2.1 r15.2.2.2.2.1 r15.2.2.2.2.2.1 r15.2.2.2.2.2.2.1 r15.2.2.2.2.2.2.2.1 r15.2.2.2.2.2.2.2.2))), (23, (Ag (C0 r18.1 r18.2.1 r18.2.2.1 r18.2.2.2.1 r18.2.2.2.2.1 r18.2.2.2.2.2.1 r18.2.2.2.2.2.2.1 r18.2.2.2.2.2.2.2.1 r18.2.2.2.2.2.2.2.2))), (3, (Vp q3)), (4, (Vp q4)), (5, (Vp q5)), (6, (Vp q6)), (7, (Vp q9015)), (8, (Vp q9016))], [(Ur v19 34 (C1 false 0)), (Ur q3 39 (C0 a0_0 a0_1 a0_2 a0_3 a0_4 a0_5 a0_6 a0_7 a0_8)), (Ur q4 39 (C0 a1_0 a1_1 a1_2 a1_3 a1_4 a1_5 a1_6 a1_7 a1_8)), (Ur q5 39 (C0 a2_0 a2_1 a2_2 a2_3 a2_4 a2_5 a2_6 a2_7 a2_8)), (Ur q6 36 (C5 false 0 false 0)), (Ur q9015 39 (C0 r15.1 r15.2.1 r15.2.2.1 r15.2.2.2.1 r15.2.2.2.2.1 r15.2.2.2.2.2.1 r15.2.2.2.2.2.2.1 r15.2.2.2.2.2.2.2.1 r15.2.2.2.2.2.2.2.2)), (Ur q9016 39 (C0 r18.1 r18.2.1 r18.2.2.1 r18.2.2.2.1 r18.2.2.2.2.1 r18.2.2.2.2.2.1 r18.2.2.2.2.2.2.1 r18.2.2.2.2.2.2.2.1 r18.2.2.2.2.2.2.2.2))]⟩) ?_ ?_
  ·rintro q9020
   refine al2 5 6 (by kernel_rfl) ?_ ?_
   ·exact no rfl (oz (ent_fn' Try.func25 isn25 rfl rfl) (spec_Dot3_sim _ _ _ _ _ _ _ _ _ _ _ _ _ _ _ _ _ _ hr24)) fun _ => tk [0,1,2,3,4,5,6] (u9 rfl rfl rfl rfl rfl rfl rfl rfl rfl) (p7 rfl rfl rfl rfl rfl rfl rfl) (hN10 q9020)
   exact na rfl info34 (C1 false 0) fun q9 => tk [0,1,2,3,4,5,6,7] (u11 rfl rfl rfl rfl rfl rfl rfl rfl rfl rfl rfl) (p8 rfl rfl rfl rfl rfl rfl rfl rfl) (hN11 (q9, q9020))
  intro hN7
  refine an 4 10 219 (fun (v20 : A2) => ⟨58, [], [(9, (Vp v20.1)), (10, (Vp v20.2)), (19, (Ag (C0 r15.1 r15.2.1 r15.2.2.1 r15.2.2.2.1 r15.2.2.2.2.1 r15.2.2.2.2.2.1 r15.2.2.2.2.2.2.1 r15.2.2.2.2.2.2.2.1 r15.2.2.2.2.2.2.2.2))), (20, (Ag (C0 r15.1 r15.2.1 r15.2.2.1 r15.2.2.2.1 r15.2.2.2.2.1 r15.2.2.2.2.2.1 r15.2.2.2.2.2.2.1 r15.2.2.2.2.2.2.2.1 r15.2.2.2.2.2.2.2.2))), (22, (Ag (C0 r15.1 r15.2.1 r15.2.2.1 r15.2.2.2.1 r15.2.2.2.2.1 r15.2.2.2.2.2.1 r15.2.2.2.2.2.2.1 r15.2.2.2.2.2.2.2.1 r15.2.2.2.2.2.2.2.2))), (23, (Ag (C0 r18.1 r18.2.1 r18.2.2.1 r18.2.2.2.1 r18.2.2.2.2.1 r18.2.2.2.2.2.1 r18.2.2.2.2.2.2.1 r18.2.2.2.2.2.2.2.1 r18.2.2.2.2.2.2.2.2))), (3, (Vp q3)), (4, (Vp q4)), (5, (Vp q5)), (6, (Vp q6)), (7, (Vp q9015)), (8, (Vp q9016))], [(Ur v20.1 34 (C1 false 0)), (Ur v20.2 34 (C1 false 0)), (Ur q3 39 (C0 a0_0 a0_1 a0_2 a0_3 a0_4 a0_5 a0_6 a0_7 a0_8)), (Ur q4 39 (C0 a1_0 a1_1 a1_2 a1_3 a1_4 a1_5 a1_6 a1_7 a1_8)), (Ur q5 39 (C0 a2_0 a2_1 a2_2 a2_3 a2_4 a2_5 a2_6 a2_7 a2_8)), (Ur q6 36 (C5 false 0 false 0)), (Ur q9015 39 (C0 r15.1 r15.2.1 r15.2.2.1 r15.2.2.2.1 r15.2.2.2.2.1 r15.2.2.2.2.2.1 r15.2.2.2.2.2.2.1 r15.2.2.2.2.2.2.2.1 r15.2.2.2.2.2.2.2.2)), (Ur q9016 39 (C0 r18.1 r18.2.1 r18.2.2.1 r18.2.2.2.1 r18.2.2.2.2.1 r18.2.2.2.2.2.1 r18.2.2.2.2.2.2.1 r18.2.2.2.2.2.2.2.1 r18.2.2.2.2.2.2.2.2))]⟩) ?_ ?_
  ·rintro ⟨q9021, q9022⟩
   refine al1 2 (by kernel_rfl) ?_
   ·exact no rfl (oz (ent_fn' Try.func25 isn25 rfl rfl) (spec_Dot3_sim _ _ _ _ _ _ _ _ _ _ _ _ _ _ _ _ _ _ hr21)) fun _ => tk [0,1,2,3,4,5,6,7] (u11 rfl rfl rfl rfl rfl rfl rfl rfl rfl rfl rfl) (p8 rfl rfl rfl rfl rfl rfl rfl rfl) (hN11 (q9021, q9022))
  intro hN8
  refine an 5 10 31 (fun (v14 : Unit) => ⟨58, [], [(21, (Ag (C2 r21.1 r21.2.1 r21.2.2))), (22, (Ag (C0 r15.1 r15.2.1 r15.2.2.1 r15.2.2.2.1 r15.2.2.2.2.1 r15.2.2.2.2.2.1 r15.2.2.2.2.2.2.1 r15.2.2.2.2.2.2.2.1 r15.2.2.2.2.2.2.2.2))), (23, (Ag (C0 r18.1 r18.2.1 r18.2.2.1 r18.2.2.2.1 r18.2.2.2.2.1 r18.2.2.2.2.2.1 r18.2.2.2.2.2.2.1 r18.2.2.2.2.2.2.2.1 r18.2.2.2.2.2.2.2.2))), (3, (Vp q3)), (4, (Vp q4)), (5, (Vp q5)), (6, (Vp q6)), (7, (Vp q9015)), (8, (Vp q9016))], [(Ur q3 39 (C0 a0_0 a0_1 a0_2 a0_3 a0_4 a0_5 a0_6 a0_7 a0_8)), (Ur q4 39 (C0 a1_0 a1_1 a1_2 a1_3 a1_4 a1_5 a1_6 a1_7 a1_8)), (Ur q5 39 (C0 a2_0 a2_1 a2_2 a2_3 a2_4 a2_5 a2_6 a2_7 a2_8)), (Ur q6 36 (C5 false 0 false 0)), (Ur q9015 39 (C0 r15.1 r15.2.1 r15.2.2.1 r15.2.2.2.1 r15.2.2.2.2.1 r15.2.2.2.2.2.1 r15.2.2.2.2.2.2.1 r15.2.2.2.2.2.2.2.1 r15.2.2.2.2.2.2.2.2)), (Ur q9016 39 (C0 r18.1 r18.2.1 r18.2.2.1 r18.2.2.2.1 r18.2.2.2.2.1 r18.2.2.2.2.2.1 r18.2.2.2.2.2.2.1 r18.2.2.2.2.2.2.2.1 r18.2.2.2.2.2.2.2.2))]⟩) ?_ ?_
  ·rintro ⟨⟩
   refine al3 5 6 7 (by kernel_rfl) ?_ ?_ ?_
   ·exact no rfl (oz (ent_fn' Try.func25 isn25 rfl rfl) (spec_Dot3_sim _ _ _ _ _ _ _ _ _ _ _ _ _ _ _ _ _ _ hr24)) fun _ => tk [0,1,2,3,4,5] (u8 rfl rfl rfl rfl rfl rfl rfl rfl) (p6 rfl rfl rfl rfl rfl rfl) (hN5 ())
   ·exact na rfl info34 (C1 false 0) fun q9 => tk [0,1,2,3,4,5,6] (u10 rfl rfl rfl rfl rfl rfl rfl rfl rfl rfl) (p7 rfl rfl rfl rfl rfl rfl rfl) (hN6 q9)
   exact na rfl info34 (C1 false 0) fun q10 => tk [0,1,2,3,4,5,6] (u10 rfl rfl rfl rfl rfl rfl rfl rfl rfl rfl) (p7 rfl rfl rfl rfl rfl rfl rfl) (hN7 q10)
  intro hN2
  refine an 5 10 91 (fun (v15 : Addr) => ⟨58, [], [(9, (Vp v15)), (19, (Ag (C0 r15.1 r15.2.1 r15.2.2.1 r15.2.2.2.1 r15.2.2.2.2.1 r15.2.2.2.2.2.1 r15.2.2.2.2.2.2.1 r15.2.2.2.2.2.2.2.1 r15.2.2.2.2.2.2.2.2))), (20, (Ag (C0 r15.1 r15.2.1 r15.2.2.1 r15.2.2.2.1 r15.2.2.2.2.1 r15.2.2.2.2.2.1 r15.2.2.2.2.2.2.1 r15.2.2.2.2.2.2.2.1 r15.2.2.2.2.2.2.2.2))), (22, (Ag (C0 r15.1 r15.2.1 r15.2.2.1 r15.2.2.2.1 r15.2.2.2.2.1 r15.2.2.2.2.2.1 r15.2.2.2.2.2.2.1 r15.2.2.2.2.2.2.2.1 r15.2.2.2.2.2.2.2.2))), (23, (Ag (C0 r18.1 r18.2.1 r18.2.2.1 r18.2.2.2.1 r18.2.2.2.2.1 r18.2.2.2.2.2.1 r18.2.2.2.2.2.2.1 r18.2.2.2.2.2.2.2.1 r18.2.2.2.2.2.2.2.2))), (3, (Vp q3)), (4, (Vp q4)), (5, (Vp q5)), (6, (Vp q6)), (7, (Vp q9015)), (8, (Vp q9016))], [(Ur v15 34 (C1 false 0)), (Ur q3 39 (C0 a0_0 a0_1 a0_2 a0_3 a0_4 a0_5 a0_6 a0_7 a0_8)), (Ur q4 39 (C0 a1_0 a1_1 a1_2 a1_3 a1_4 a1_5 a1_6 a1_7 a1_8)), (Ur q5 39 (C0 a2_0 a2_1 a2_2 a2_3 a2_4 a2_5 a2_6 a2_7 a2_8)), (Ur q6 36 (C5 false 0 false 0)), (Ur q9015 39 (C0 r15.1 r15.2.1 r15.2.2.1 r15.2.2.2.1 r15.2.2.2.2.1 r15.2.2.2.2.2.1 r15.2.2.2.2.2.2.1 r15.2.2.2.2.2.2.2.1 r15.2.2.2.2.2.2.2.2)), (Ur q9016 39 (C0 r18.1 r18.2.1 r18.2.2.1 r18.2.2.2.1 r18.2.2.2.2.1 r18.2.2.2.2.2.1 r18.2.2.2.2.2.2.1 r18.2.2.2.2.2.2.2.1 r18.2.2.2.2.2.2.2.2))]⟩) ?_ ?_
  ·rintro q9017
   refine al2 2 7 (by kernel_rfl) ?_ ?_
   ·exact no rfl (oz (ent_fn' Try.func25 isn25 rfl rfl) (spec_Dot3_sim _ _ _ _ _ _ _ _ _ _ _ _ _ _ _ _ _ _ hr21)) fun _ => tk [0,1,2,3,4,5,6] (u10 rfl rfl rfl rfl rfl rfl rfl rfl rfl rfl) (p7 rfl rfl rfl rfl rfl rfl rfl) (hN6 q9017)
   exact na rfl info34 (C1 false 0) fun q10 => tk [1,0,2,3,4,5,6,7] (u12 rfl rfl rfl rfl rfl rfl rfl rfl rfl rfl rfl rfl) (p8 rfl rfl rfl rfl rfl rfl rfl rfl) (hN8 (q9017, q10))
  intro hN3
  refine an 5 10 155 (fun (v16 : Addr) => ⟨58, [], [(10, (Vp v16)), (19, (Ag (C0 r15.1 r15.2.1 r15.2.2.1 r15.2.2.2.1 r15.2.2.2.2.1 r15.2.2.2.2.2.1 r15.2.2.2.2.2.2.1 r15.2.2.2.2.2.2.2.1 r15.2.2.2.2.2.2.2.2))), (20, (Ag (C0 r15.1 r15.2.1 r15.2.2.1 r15.2.2.2.1 r15.2.2.2.2.1 r15.2.2.2.2.2.1 r15.2.2.2.2.2.2.1 r15.2.2.2.2.2.2.2.1 r15.2.2.2.2.2.2.2.2))), (22, (Ag (C0 r15.1 r15.2.1 r15.2.2.1 r15.2.2.2.1 r15.2.2.2.2.1 r15.2.2.2.2.2.1 r15.2.2.2.2.2.2.1 r15.2.2.2.2.2.2.2.1 r15.2.2.2.2.2.2.2.2))), (23, (Ag (C0 r18.1 r18.2.1 r18.2.2.1 r18.2.2.2.1 r18.2.2.2.2.1 r18.2.2.2.2.2.1 r18.2.2.2.2.2.2.1 r18.2.2.2.2.2.2.2.1 r18.2.2.2.2.2.2.2.2))), (3, (Vp q3)), (4, (Vp q4)), (5, (Vp q5)), (6, (Vp q6)), (7, (Vp q9015)), (8, (Vp q9016))], [(Ur v16 34 (C1 false 0)), (Ur q3 39 (C0 a0_0 a0_1 a0_2 a0_3 a0_4 a0_5 a0_6 a0_7 a0_8)), (Ur q4 39 (C0 a1_0 a1_1 a1_2 a1_3 a1_4 a1_5 a1_6 a1_7 a1_8)), (Ur q5 39 (C0 a2_0 a2_1 a2_2 a2_3 a2_4 a2_5 a2_6 a2_7 a2_8)), (Ur q6 36 (C5 false 0 false 0)), (Ur q9015 39 (C0 r15.1 r15.2.1 r15.2.2.1 r15.2.2.2.1 r15.2.2.2.2.1 r15.2.2.2.2.2.1 r15.2.2.2.2.2.2.1 r15.2.2.2.2.2.2.2.1 r15.2.2.2.2.2.2.2.2)), (Ur q9016 39 (C0 r18.1 r18.2.1 r18.2.2.1 r18.2.2.2.1 r18.2.2.2.2.1 r18.2.2.2.2.2.1 r18.2.2.2.2.2.2.1 r18.2.2.2.2.2.2.2.1 r18.2.2.2.2.2.2.2.2))]⟩) ?_ ?_
  ·rintro q9018
   refine al2 2 6 (by kernel_rfl) ?_ ?_
   ·exact no rfl (oz (ent_fn' Try.func25 isn25 rfl rfl) (spec_Dot3_sim _ _ _ _ _ _ _ _ _ _ _ _ _ _ _ _ _ _ hr21)) fun _ => tk [0,1,2,3,4,5,6] (u10 rfl rfl rfl rfl rfl rfl rfl rfl rfl rfl) (p7 rfl rfl rfl rfl rfl rfl rfl) (hN7 q9018)
   exact na rfl info34 (C1 false 0) fun q9 => tk [0,1,2,3,4,5,6,7] (u12 rfl rfl rfl rfl rfl rfl rfl rfl rfl rfl rfl rfl) (p8 rfl rfl rfl rfl rfl rfl rfl rfl) (hN8 (q9, q9018))
  intro hN4
  refine al3 2 6 7 (by kernel_rfl) ?_ ?_ ?_
  ·exact no rfl (oz (ent_fn' Try.func25 isn25 rfl rfl) (spec_Dot3_sim _ _ _ _ _ _ _ _ _ _ _ _ _ _ _ _ _ _ hr21)) fun _ => tk [2,3,4,5,0,1] (u9 rfl rfl rfl rfl rfl rfl rfl rfl rfl) (p6 rfl rfl rfl rfl rfl rfl) (hN2 ())
  ·exact na rfl info34 (C1 false 0) fun q9 => tk [0,3,4,5,6,1,2] (u11 rfl rfl rfl rfl rfl rfl rfl rfl rfl rfl rfl) (p7 rfl rfl rfl rfl rfl rfl rfl) (hN3 q9)
  exact na rfl info34 (C1 false 0) fun q10 => tk [0,3,4,5,6,1,2] (u11 rfl rfl rfl rfl rfl rfl rfl rfl rfl rfl rfl) (p7 rfl rfl rfl rfl rfl rfl rfl) (hN4 q10)
 intro hN28
 refine an 1 10 511 (fun (v12 : A2) => ⟨58, [], [(7, (Vp v12.1)), (8, (Vp v12.2)), (18, (Ag (C0 r18.1 r18.2.1 r18.2.2.1 r18.2.2.2.1 r18.2.2.2.2.1 r18.2.2.2.2.2.1 r18.2.2.2.2.2.2.1 r18.2.2.2.2.2.2.2.1 r18.2.2.2.2.2.2.2.2))), (3, (Vp q3)), (4, (Vp q4)), (5, (Vp q5)), (6, (Vp q6))], [(Ur v12.1 39 (C0 r15.1 r15.2.1 r15.2.2.1 r15.2.2.2.1 r15.2.2.2.2.1 r15.2.2.2.2.2.1 r15.2.2.2.2.2.2.1 r15.2.2.2.2.2.2.2.1 r15.2.2.2.2.2.2.2.2)), (Ur v12.2 39 (C3 false 0 false 0 false 0)), (Ur q3 39 (C0 a0_0 a0_1 a0_2 a0_3 a0_4 a0_5 a0_6 a0_7 a0_8)), (Ur q4 39 (C0 a1_0 a1_1 a1_2 a1_3 a1_4 a1_5 a1_6 a1_7 a1_8)), (Ur q5 39 (C0 a2_0 a2_1 a2_2 a2_3 a2_4 a2_5 a2_6 a2_7 a2_8)), (Ur q6 36 (C5 false 0 false 0))]⟩) ?_ ?_
 ·rintro ⟨q9013, q9014⟩
  refine al1 9 (by kernel_rfl) ?_
  ·refine nx_oxv rfl (oxv_store (i := 1) (o := 0) rfl rfl (lv_ag _) (ar rfl rfl rfl rfl) rfl info39 rfl (H' := [(Ur q9013 39 (C0 r15.1 r15.2.1 r15.2.2.1 r15.2.2.2.1 r15.2.2.2.2.1 r15.2.2.2.2.2.1 r15.2.2.2.2.2.2.1 r15.2.2.2.2.2.2.2.1 r15.2.2.2.2.2.2.2.2)), (Ur q9014 39 (C0 r18.1 r18.2.1 r18.2.2.1 r18.2.2.2.1 r18.2.2.2.2.1 r18.2.2.2.2.2.1 r18.2.2.2.2.2.2.1 r18.2.2.2.2.2.2.2.1 r18.2.2.2.2.2.2.2.2)), (Ur q3 39 (C0 a0_0 a0_1 a0_2 a0_3 a0_4 a0_5 a0_6 a0_7 a0_8)), (Ur q4 39 (C0 a1_0 a1_1 a1_2 a1_3 a1_4 a1_5 a1_6 a1_7 a1_8)), (Ur q5 39 (C0 a2_0 a2_1 a2_2 a2_3 a2_4 a2_5 a2_6 a2_7 a2_8)), (Ur q6 36 (C5 false 0 false 0))]) rfl) rfl rfl bo_nil (wt_none' rfl) rfl fun _ => ?_
   exact tk [0,1,2,3,4,5] (u6 rfl rfl rfl rfl rfl rfl) (p6 rfl rfl rfl rfl rfl rfl) (hN28 (q9013, q9014))
 intro hN27
 refine an 2 10 255 (fun (v11 : A2) => ⟨58, [], [(7, (Vp v11.1)), (8, (Vp v11.2)), (15, (Ag (C0 r15.1 r15.2.1 r15.2.2.1 r15.2.2.2.1 r15.2.2.2.2.1 r15.2.2.2.2.2.1 r15.2.2.2.2.2.2.1 r15.2.2.2.2.2.2.2.1 r15.2.2.2.2.2.2.2.2))), (18, (Ag (C0 r18.1 r18.2.1 r18.2.2.1 r18.2.2.2.1 r18.2.2.2.2.1 r18.2.2.2.2.2.1 r18.2.2.2.2.2.2.1 r18.2.2.2.2.2.2.2.1 r18.2.2.2.2.2.2.2.2))), (3, (Vp q3)), (4, (Vp q4)), (5, (Vp q5)), (6, (Vp q6))], [(Ur v11.1 39 (C3 false 0 false 0 false 0)), (Ur v11.2 39 (C3 false 0 false 0 false 0)), (Ur q3 39 (C0 a0_0 a0_1 a0_2 a0_3 a0_4 a0_5 a0_6 a0_7 a0_8)), (Ur q4 39 (C0 a1_0 a1_1 a1_2 a1_3 a1_4 a1_5 a1_6 a1_7 a1_8)), (Ur q5 39 (C0 a2_0 a2_1 a2_2 a2_3 a2_4 a2_5 a2_6 a2_7 a2_8)), (Ur q6 36 (C5 false 0 false 0))]⟩) ?_ ?_
 ·rintro ⟨q9011, q9012⟩
  refine al1 8 (by kernel_rfl) ?_
  ·refine nx_oxv rfl (oxv_store (i := 0) (o := 0) rfl rfl (lv_ag _) (ar rfl rfl rfl rfl) rfl info39 rfl (H' := [(Ur q9011 39 (C0 r15.1 r15.2.1 r15.2.2.1 r15.2.2.2.1 r15.2.2.2.2.1 r15.2.2.2.2.2.1 r15.2.2.2.2.2.2.1 r15.2.2.2.2.2.2.2.1 r15.2.2.2.2.2.2.2.2)), (Ur q9012 39 (C3 false 0 false 0 false 0)), (Ur q3 39 (C0 a0_0 a0_1 a0_2 a0_3 a0_4 a0_5 a0_6 a0_7 a0_8)), (Ur q4 39 (C0 a1_0 a1_1 a1_2 a1_3 a1_4 a1_5 a1_6 a1_7 a1_8)), (Ur q5 39 (C0 a2_0 a2_1 a2_2 a2_3 a2_4 a2_5 a2_6 a2_7 a2_8)), (Ur q6 36 (C5 false 0 false 0))]) rfl) rfl rfl bo_nil (wt_none' rfl) rfl fun _ => ?_
   exact tk [0,1,2,3,4,5] (u7 rfl rfl rfl rfl rfl rfl rfl) (p6 rfl rfl rfl rfl rfl rfl) (hN27 (q9011, q9012))
 intro hN26
 refine an 3 10 127 (fun (v8 : Addr) => ⟨58, [], [(7, (Vp v8)), (15, (Ag (C0 r15.1 r15.2.1 r15.2.2.1 r15.2.2.2.1 r15.2.2.2.2.1 r15.2.2.2.2.2.1 r15.2.2.2.2.2.2.1 r15.2.2.2.2.2.2.2.1 r15.2.2.2.2.2.2.2.2))), (18, (Ag (C0 r18.1 r18.2.1 r18.2.2.1 r18.2.2.2.1 r18.2.2.2.2.1 r18.2.2.2.2.2.1 r18.2.2.2.2.2.2.1 r18.2.2.2.2.2.2.2.1 r18.2.2.2.2.2.2.2.2))), (3, (Vp q3)), (4, (Vp q4)), (5, (Vp q5)), (6, (Vp q6))], [(Ur v8 39 (C3 false 0 false 0 false 0)), (Ur q3 39 (C0 a0_0 a0_1 a0_2 a0_3 a0_4 a0_5 a0_6 a0_7 a0_8)), (Ur q4 39 (C0 a1_0 a1_1 a1_2 a1_3 a1_4 a1_5 a1_6 a1_7 a1_8)), (Ur q5 39 (C0 a2_0 a2_1 a2_2 a2_3 a2_4 a2_5 a2_6 a2_7 a2_8)), (Ur q6 36 (C5 false 0 false 0))]⟩) ?_ ?_
 ·rintro q907
  refine al1 7 (by kernel_rfl) ?_
  ·exact na rfl info39 (C3 false 0 false 0 false 0) fun q8 => tk [1,0,2,3,4,5] (u8 rfl rfl rfl rfl rfl rfl rfl rfl) (p6 rfl rfl rfl rfl rfl rfl) (hN26 (q907, q8))
 intro hN23
 refine an 3 10 191 (fun (v9 : Addr) => ⟨58, [], [(8, (Vp v9)), (15, (Ag (C0 r15.1 r15.2.1 r15.2.2.1 r15.2.2.2.1 r15.2.2.2.2.1 r15.2.2.2.2.2.1 r15.2.2.2.2.2.2.1 r15.2.2.2.2.2.2.2.1 r15.2.2.2.2.2.2.2.2))), (18, (Ag (C0 r18.1 r18.2.1 r18.2.2.1 r18.2.2.2.1 r18.2.2.2.2.1 r18.2.2.2.2.2.1 r18.2.2.2.2.2.2.1 r18.2.2.2.2.2.2.2.1 r18.2.2.2.2.2.2.2.2))), (3, (Vp q3)), (4, (Vp q4)), (5, (Vp q5)), (6, (Vp q6))], [(Ur v9 39 (C3 false 0 false 0 false 0)), (Ur q3 39 (C0 a0_0 a0_1 a0_2 a0_3 a0_4 a0_5 a0_6 a0_7 a0_8)), (Ur q4 39 (C0 a1_0 a1_1 a1_2 a1_3 a1_4 a1_5 a1_6 a1_7 a1_8)), (Ur q5 39 (C0 a2_0 a2_1 a2_2 a2_3 a2_4 a2_5 a2_6 a2_7 a2_8)), (Ur q6 36 (C5 false 0 false 0))]⟩) ?_ ?_
 ·rintro q908
  refine al1 6 (by kernel_rfl) ?_
  ·exact na rfl info39 (C3 false 0 false 0 false 0) fun q7 => tk [0,1,2,3,4,5] (u8 rfl rfl rfl rfl rfl rfl rfl rfl) (p6 rfl rfl rfl rfl rfl rfl) (hN26 (q7, q908))
 intro hN24
 refine an 3 10 223 (fun (v10 : A2) => ⟨58, [], [(7, (Vp v10.1)), (8, (Vp v10.2)), (15, (Ag (C0 r15.1 r15.2.1 r15.2.2.1 r15.2.2.2.1 r15.2.2.2.2.1 r15.2.2.2.2.2.1 r15.2.2.2.2.2.2.1 r15.2.2.2.2.2.2.2.1 r15.2.2.2.2.2.2.2.2))), (16, (Ag (C0 a0_0 a0_1 a0_2 a0_3 a0_4 a0_5 a0_6 a0_7 a0_8))), (17, (Ag (C0 a1_0 a1_1 a1_2 a1_3 a1_4 a1_5 a1_6 a1_7 a1_8))), (3, (Vp q3)), (4, (Vp q4)), (5, (Vp q5)), (6, (Vp q6))], [(Ur v10.1 39 (C3 false 0 false 0 false 0)), (Ur v10.2 39 (C3 false 0 false 0 false 0)), (Ur q3 39 (C0 a0_0 a0_1 a0_2 a0_3 a0_4 a0_5 a0_6 a0_7 a0_8)), (Ur q4 39 (C0 a1_0 a1_1 a1_2 a1_3 a1_4 a1_5 a1_6 a1_7 a1_8)), (Ur q5 39 (C0 a2_0 a2_1 a2_2 a2_3 a2_4 a2_5 a2_6 a2_7 a2_8)), (Ur q6 36 (C5 false 0 false 0))]⟩) ?_ ?_
 ·rintro ⟨q909, q9010⟩
  refine al1 5 (by kernel_rfl) ?_
  ·exact no rfl (oz (ent_fn' Try.func24 isn24 rfl rfl) (spec_Point3_Sub_sim _ _ _ _ _ _ _ _ _ _ _ _ _ _ _ _ _ _ hr18)) fun _ => tk [0,1,2,3,4,5] (u8 rfl rfl rfl rfl rfl rfl rfl rfl) (p6 rfl rfl rfl rfl rfl rfl) (hN26 (q909, q9010))
 intro hN25
 refine an 4 10 63 (fun (v4 : Unit) => ⟨58, [], [(15, (Ag (C0 r15.1 r15.2.1 r15.2.2.1 r15.2.2.2.1 r15.2.2.2.2.1 r15.2.2.2.2.2.1 r15.2.2.2.2.2.2.1 r15.2.2.2.2.2.2.2.1 r15.2.2.2.2.2.2.2.2))), (18, (Ag (C0 r18.1 r18.2.1 r18.2.2.1 r18.2.2.2.1 r18.2.2.2.2.1 r18.2.2.2.2.2.1 r18.2.2.2.2.2.2.1 r18.2.2.2.2.2.2.2.1 r18.2.2.2.2.2.2.2.2))), (3, (Vp q3)), (4, (Vp q4)), (5, (Vp q5)), (6, (Vp q6))], [(Ur q3 39 (C0 a0_0 a0_1 a0_2 a0_3 a0_4 a0_5 a0_6 a0_7 a0_8)), (Ur q4 39 (C0 a1_0 a1_1 a1_2 a1_3 a1_4 a1_5 a1_6 a1_7 a1_8)), (Ur q5 39 (C0 a2_0 a2_1 a2_2 a2_3 a2_4 a2_5 a2_6 a2_7 a2_8)), (Ur q6 36 (C5 false 0 false 0))]⟩) ?_ ?_
 ·rintro ⟨⟩
  refine al2 6 7 (by kernel_rfl) ?_ ?_
  ·exact na rfl info39 (C3 false 0 false 0 false 0) fun q7 => tk [0,1,2,3,4] (u7 rfl rfl rfl rfl rfl rfl rfl) (p5 rfl rfl rfl rfl rfl) (hN23 q7)
  exact na rfl info39 (C3 false 0 false 0 false 0) fun q8 => tk [0,1,2,3,4] (u7 rfl rfl rfl rfl rfl rfl rfl) (p5 rfl rfl rfl rfl rfl) (hN24 q8)
 intro hN19
 refine an 4 10 95 (fun (v5 : Addr) => ⟨58, [], [(7, (Vp v5)), (15, (Ag (C0 r15.1 r15.2.1 r15.2.2.1 r15.2.2.2.1 r15.2.2.2.2.1 r15.2.2.2.2.2.1 r15.2.2.2.2.2.2.1 r15.2.2.2.2.2.2.2.1 r15.2.2.2.2.2.2.2.2))), (16, (Ag (C0 a0_0 a0_1 a0_2 a0_3 a0_4 a0_5 a0_6 a0_7 a0_8))), (17, (Ag (C0 a1_0 a1_1 a1_2 a1_3 a1_4 a1_5 a1_6 a1_7 a1_8))), (3, (Vp q3)), (4, (Vp q4)), (5, (Vp q5)), (6, (Vp q6))], [(Ur v5 39 (C3 false 0 false 0 false 0)), (Ur q3 39 (C0 a0_0 a0_1 a0_2 a0_3 a0_4 a0_5 a0_6 a0_7 a0_8)), (Ur q4 39 (C0 a1_0 a1_1 a1_2 a1_3 a1_4 a1_5 a1_6 a1_7 a1_8)), (Ur q5 39 (C0 a2_0 a2_1 a2_2 a2_3 a2_4 a2_5 a2_6 a2_7 a2_8)), (Ur q6 36 (C5 false 0 false 0))]⟩) ?_ ?_
 ·rintro q903
  refine al2 5 7 (by kernel_rfl) ?_ ?_
  ·exact no rfl (oz (ent_fn' Try.func24 isn24 rfl rfl) (spec_Point3_Sub_sim _ _ _ _ _ _ _ _ _ _ _ _ _ _ _ _ _ _ hr18)) fun _ => tk [0,1,2,3,4] (u7 rfl rfl rfl rfl rfl rfl rfl) (p5 rfl rfl rfl rfl rfl) (hN23 q903)
  exact na rfl info39 (C3 false 0 false 0 false 0) fun q8 => tk [1,0,2,3,4,5] (u9 rfl rfl rfl rfl rfl rfl rfl rfl rfl) (p6 rfl rfl rfl rfl rfl rfl) (hN25 (q903, q8))
 intro hN20
 refine an 4 10 159 (fun (v6 : Addr) => ⟨58, [], [(8, (Vp v6)), (15, (Ag (C0 r15.1 r15.2.1 r15.2.2.1 r15.2.2.2.1 r15.2.2.2.2.1 r15.2.2.2.2.2.1 r15.2.2.2.2.2.2.1 r15.2.2.2.2.2.2.2.1 r15.2.2.2.2.2.2.2.2))), (16, (Ag (C0 a0_0 a0_1 a0_2 a0_3 a0_4 a0_5 a0_6 a0_7 a0_8))), (17, (Ag (C0 a1_0 a1_1 a1_2 a1_3 a1_4 a1_5 a1_6 a1_7 a1_8))), (3, (Vp q3)), (4, (Vp q4)), (5, (Vp q5)), (6, (Vp q6))], [(Ur v6 39 (C3 false 0 false 0 false 0)), (Ur q3 39 (C0 a0_0 a0_1 a0_2 a0_3 a0_4 a0_5 a0_6 a0_7 a0_8)), (Ur q4 39 (C0 a1_0 a1_1 a1_2 a1_3 a1_4 a1_5 a1_6 a1_7 a1_8)), (Ur q5 39 (C0 a2_0 a2_1 a2_2 a2_3 a2_4 a2_5 a2_6 a2_7 a2_8)), (Ur q6 36 (C5 false 0 false 0))]⟩) ?_ ?_
 ·rintro q904
  refine al2 5 6 (by kernel_rfl) ?_ ?_
  ·exact no rfl (oz (ent_fn' Try.func24 isn24 rfl rfl) (spec_Point3_Sub_sim _ _ _ _ _ _ _ _ _ _ _ _ _ _ _ _ _ _ hr18)) fun _ => tk [0,1,2,3,4] (u7 rfl rfl rfl rfl rfl rfl rfl) (p5 rfl rfl rfl rfl rfl) (hN24 q904)
  exact na rfl info39 (C3 false 0 false 0 false 0) fun q7 => tk [0,1,2,3,4,5] (u9 rfl rfl rfl rfl rfl rfl rfl rfl rfl) (p6 rfl rfl rfl rfl rfl rfl) (hN25 (q7, q904))
 intro hN21
 refine an 4 10 219 (fun (v7 : A2) => ⟨58, [], [(7, (Vp v7.1)), (8, (Vp v7.2)), (13, (Ag (C0 a2_0 a2_1 a2_2 a2_3 a2_4 a2_5 a2_6 a2_7 a2_8))), (14, (Ag (C0 a1_0 a1_1 a1_2 a1_3 a1_4 a1_5 a1_6 a1_7 a1_8))), (16, (Ag (C0 a0_0 a0_1 a0_2 a0_3 a0_4 a0_5 a0_6 a0_7 a0_8))), (17, (Ag (C0 a1_0 a1_1 a1_2 a1_3 a1_4 a1_5 a1_6 a1_7 a1_8))), (3, (Vp q3)), (4, (Vp q4)), (5, (Vp q5)), (6, (Vp q6))], [(Ur v7.1 39 (C3 false 0 false 0 false 0)), (Ur v7.2 39 (C3 false 0 false 0 false 0)), (Ur q3 39 (C0 a0_0 a0_1 a0_2 a0_3 a0_4 a0_5 a0_6 a0_7 a0_8)), (Ur q4 39 (C0 a1_0 a1_1 a1_2 a1_3 a1_4 a1_5 a1_6 a1_7 a1_8)), (Ur q5 39 (C0 a2_0 a2_1 a2_2 a2_3 a2_4 a2_5 a2_6 a2_7 a2_8)), (Ur q6 36 (C5 false 0 false 0))]⟩) ?_ ?_
 ·rintro ⟨q905, q906⟩
  refine al1 2 (by kernel_rfl) ?_
  ·exact no rfl (oz (ent_fn' Try.func24 isn24 rfl rfl) (spec_Point3_Sub_sim _ _ _ _ _ _ _ _ _ _ _ _ _ _ _ _ _ _ hr15)) fun _ => tk [0,1,2,3,4,5] (u9 rfl rfl rfl rfl rfl rfl rfl rfl rfl) (p6 rfl rfl rfl rfl rfl rfl) (hN25 (q905, q906))
 intro hN22
 refine an 5 10 31 (fun (v1 : Unit) => ⟨58, [], [(15, (Ag (C0 r15.1 r15.2.1 r15.2.2.1 r15.2.2.2.1 r15.2.2.2.2.1 r15.2.2.2.2.2.1 r15.2.2.2.2.2.2.1 r15.2.2.2.2.2.2.2.1 r15.2.2.2.2.2.2.2.2))), (16, (Ag (C0 a0_0 a0_1 a0_2 a0_3 a0_4 a0_5 a0_6 a0_7 a0_8))), (17, (Ag (C0 a1_0 a1_1 a1_2 a1_3 a1_4 a1_5 a1_6 a1_7 a1_8))), (3, (Vp q3)), (4, (Vp q4)), (5, (Vp q5)), (6, (Vp q6))], [(Ur q3 39 (C0 a0_0 a0_1 a0_2 a0_3 a0_4 a0_5 a0_6 a0_7 a0_8)), (Ur q4 39 (C0 a1_0 a1_1 a1_2 a1_3 a1_4 a1_5 a1_6 a1_7 a1_8)), (Ur q5 39 (C0 a2_0 a2_1 a2_2 a2_3 a2_4 a2_5 a2_6 a2_7 a2_8)), (Ur q6 36 (C5 false 0 false 0))]⟩) ?_ ?_
 ·rintro ⟨⟩
  refine al3 5 6 7 (by kernel_rfl) ?_ ?_ ?_
  ·exact no rfl (oz (ent_fn' Try.func24 isn24 rfl rfl) (spec_Point3_Sub_sim _ _ _ _ _ _ _ _ _ _ _ _ _ _ _ _ _ _ hr18)) fun _ => tk [0,1,2,3] (u6 rfl rfl rfl rfl rfl rfl) (p4 rfl rfl rfl rfl) (hN19 ())
  ·exact na rfl info39 (C3 false 0 false 0 false 0) fun q7 => tk [0,1,2,3,4] (u8 rfl rfl rfl rfl rfl rfl rfl rfl) (p5 rfl rfl rfl rfl rfl) (hN20 q7)
  exact na rfl info39 (C3 false 0 false 0 false 0) fun q8 => tk [0,1,2,3,4] (u8 rfl rfl rfl rfl rfl rfl rfl rfl) (p5 rfl rfl rfl rfl rfl) (hN21 q8)
 intro hN16
 refine an 5 10 91 (fun (v2 : Addr) => ⟨58, [], [(7, (Vp v2)), (13, (Ag (C0 a2_0 a2_1 a2_2 a2_3 a2_4 a2_5 a2_6 a2_7 a2_8))), (14, (Ag (C0 a1_0 a1_1 a1_2 a1_3 a1_4 a1_5 a1_6 a1_7 a1_8))), (16, (Ag (C0 a0_0 a0_1 a0_2 a0_3 a0_4 a0_5 a0_6 a0_7 a0_8))), (17, (Ag (C0 a1_0 a1_1 a1_2 a1_3 a1_4 a1_5 a1_6 a1_7 a1_8))), (3, (Vp q3)), (4, (Vp q4)), (5, (Vp q5)), (6, (Vp q6))], [(Ur v2 39 (C3 false 0 false 0 false 0)), (Ur q3 39 (C0 a0_0 a0_1 a0_2 a0_3 a0_4 a0_5 a0_6 a0_7 a0_8)), (Ur q4 39 (C0 a1_0 a1_1 a1_2 a1_3 a1_4 a1_5 a1_6 a1_7 a1_8)), (Ur q5 39 (C0 a2_0 a2_1 a2_2 a2_3 a2_4 a2_5 a2_6 a2_7 a2_8)), (Ur q6 36 (C5 false 0 false 0))]⟩) ?_ ?_
 ·rintro q901
  refine al2 2 7 (by kernel_rfl) ?_ ?_
  ·exact no rfl (oz (ent_fn' Try.func24 isn24 rfl rfl) (spec_Point3_Sub_sim _ _ _ _ _ _ _ _ _ _ _ _ _ _ _ _ _ _ hr15)) fun _ => tk [0,1,2,3,4] (u8 rfl rfl rfl rfl rfl rfl rfl rfl) (p5 rfl rfl rfl rfl rfl) (hN20 q901)
  exact na rfl info39 (C3 false 0 false 0 false 0) fun q8 => tk [1,0,2,3,4,5] (u10 rfl rfl rfl rfl rfl rfl rfl rfl rfl rfl) (p6 rfl rfl rfl rfl rfl rfl) (hN22 (q901, q8))
 intro hN17
 refine an 5 10 155 (fun (v3 : Addr) => ⟨58, [], [(8, (Vp v3)), (13, (Ag (C0 a2_0 a2_1 a2_2 a2_3 a2_4 a2_5 a2_6 a2_7 a2_8))), (14, (Ag (C0 a1_0 a1_1 a1_2 a1_3 a1_4 a1_5 a1_6 a1_7 a1_8))), (16, (Ag (C0 a0_0 a0_1 a0_2 a0_3 a0_4 a0_5 a0_6 a0_7 a0_8))), (17, (Ag (C0 a1_0 a1_1 a1_2 a1_3 a1_4 a1_5 a1_6 a1_7 a1_8))), (3, (Vp q3)), (4, (Vp q4)), (5, (Vp q5)), (6, (Vp q6))], [(Ur v3 39 (C3 false 0 false 0 false 0)), (Ur q3 39 (C0 a0_0 a0_1 a0_2 a0_3 a0_4 a0_5 a0_6 a0_7 a0_8)), (Ur q4 39 (C0 a1_0 a1_1 a1_2 a1_3 a1_4 a1_5 a1_6 a1_7 a1_8)), (Ur q5 39 (C0 a2_0 a2_1 a2_2 a2_3 a2_4 a2_5 a2_6 a2_7 a2_8)), (Ur q6 36 (C5 false 0 false 0))]⟩) ?_ ?_
 ·rintro q902
  refine al2 2 6 (by kernel_rfl) ?_ ?_
  ·exact no rfl (oz (ent_fn' Try.func24 isn24 rfl rfl) (spec_Point3_Sub_sim _ _ _ _ _ _ _ _ _ _ _ _ _ _ _ _ _ _ hr15)) fun _ => tk [0,1,2,3,4] (u8 rfl rfl rfl rfl rfl rfl rfl rfl) (p5 rfl rfl rfl rfl rfl) (hN21 q902)
  exact na rfl info39 (C3 false 0 false 0 false 0) fun q7 => tk [0,1,2,3,4,5] (u10 rfl rfl rfl rfl rfl rfl rfl rfl rfl rfl) (p6 rfl rfl rfl rfl rfl rfl) (hN22 (q7, q902))
 intro hN18
 refine al3 2 6 7 (by kernel_rfl) ?_ ?_ ?_
 ·exact no rfl (oz (ent_fn' Try.func24 isn24 rfl rfl) (spec_Point3_Sub_sim _ _ _ _ _ _ _ _ _ _ _ _ _ _ _ _ _ _ hr15)) fun _ => tk [3,2,1,0] (u7 rfl rfl rfl rfl rfl rfl rfl) (p4 rfl rfl rfl rfl) (hN16 ())
 ·exact na rfl info39 (C3 false 0 false 0 false 0) fun q7 => tk [0,4,3,2,1] (u9 rfl rfl rfl rfl rfl rfl rfl rfl rfl) (p5 rfl rfl rfl rfl rfl) (hN17 q7)
 exact na rfl info39 (C3 false 0 false 0 false 0) fun q8 => tk [0,4,3,2,1] (u9 rfl rfl rfl rfl rfl rfl rfl rfl rfl) (p5 rfl rfl rfl rfl rfl) (hN18 q8)

def spec_Ratio_Cmp (k : Nat) (a0_0 : Bool) (a0_1 : List Int) (a0_2 : Int) (a0_3 : Bool) (a0_4 : List Int) (a0_5 : Int) (a1_0 : Bool) (a1_1 : List Int) (a1_2 : Int) (a1_3 : Bool) (a1_4 : List Int) (a1_5 : Int) : Option (Int) :=
 (spec_Dyadic_Mul k a0_0 a0_1 a0_2 a1_3 a1_4 a1_5) >>= fun r9 =>
 (spec_Dyadic_Mul k a1_0 a1_1 a1_2 a0_3 a0_4 a0_5) >>= fun r14 =>
 (spec_Dyadic_Cmp k r9.1 r9.2.1 r9.2.2 r14.1 r14.2.1 r14.2.2) >>= fun r15 =>
 some r15

theorem spec_Ratio_Cmp_sim {k : Nat}  (a0_0 : Bool) (a0_1 : List Int) (a0_2 : Int) (a0_3 : Bool) (a0_4 : List Int) (a0_5 : Int) (a1_0 : Bool) (a1_1 : List Int) (a1_2 : Int) (a1_3 : Bool) (a1_4 : List Int) (a1_5 : Int) {out : Int} (hp : spec_Ratio_Cmp k a0_0 a0_1 a0_2 a0_3 a0_4 a0_5 a1_0 a1_1 a1_2 a1_3 a1_4 a1_5 = some out) : Sx.Fn Try.prog 59 [(Ag (C4 a0_0 a0_1 a0_2 a0_3 a0_4 a0_5)), (Ag (C4 a1_0 a1_1 a1_2 a1_3 a1_4 a1_5))] [] (fun w : Unit => (Vi out)) (fun w => []) := by
 unfold spec_Ratio_Cmp at hp
 refine fn_of Try.func59 rfl Try.ntmps59 rfl fun E hM => ?_
 refine cr fun K1 hK1 => ?_
 refine so (ox_box' rfl (lv_ag _) rfl rfl) fun q2 => ?_
 refine so (ox_box' rfl (lv_ag _) rfl rfl) fun q3 => ?_
 refine sa rfl ?_
 refine nk hK1 ?_
 refine cx_seq' fun K2 hK2 => ?_
 refine cx_plan' [] [] [(0, 1), (1, 1), (2, 1), (3, 1), (5, 1), (6, 1), (7, 1), (8, 1), (4, 0), (9, 0), (10, 0), (11, 1)] mixed (by kernel_rfl) ?_
 refine pd rfl (rd_field0' rfl Try.underlying36 rfl info34 rfl) ?_
 refine pd rfl (rd_load_agg' (i := 1) (o := 0) (nn := 3) rfl (ar rfl rfl rfl rfl) rfl agg34 (l' := (C2 a0_0 a0_1 a0_2)) rfl) ?_
 refine pd rfl (rd_field' (off := 3) rfl Try.underlying36 rfl info34 rfl) ?_
 refine pd rfl (rd_load_agg' (i := 0) (o := 3) (nn := 3) rfl (ar rfl rfl rfl rfl) rfl agg34 (l' := (C2 a1_3 a1_4 a1_5)) rfl) ?_
 refine pd rfl (rd_field0' rfl Try.underlying36 rfl info34 rfl) ?_
 refine pd rfl (rd_load_agg' (i := 0) (o := 0) (nn := 3) rfl (ar rfl rfl rfl rfl) rfl agg34 (l' := (C2 a1_0 a1_1 a1_2)) rfl) ?_
 refine pd rfl (rd_field' (off := 3) rfl Try.underlying36 rfl info34 rfl) ?_
 refine pd rfl (rd_load_agg' (i := 1) (o := 3) (nn := 3) rfl (ar rfl rfl rfl rfl) rfl agg34 (l' := (C2 a0_3 a0_4 a0_5)) rfl) ?_
 obtain ⟨r9, hr9, hp⟩ := bind_some hp
 refine px_ox' rfl (oz (ent_fn' Try.func26 isn26 rfl rfl) (spec_Dyadic_Mul_sim _ _ _ _ _ _ hr9)) rfl bs_nil (wt_none' rfl) fun ⟨⟩ => ?_
 obtain ⟨r14, hr14, hp⟩ := bind_some hp
 refine px_ox' rfl (oz (ent_fn' Try.func26 isn26 rfl rfl) (spec_Dyadic_Mul_sim _ _ _ _ _ _ hr14)) rfl bs_nil (wt_none' rfl) fun ⟨⟩ => ?_
 obtain ⟨r15, hr15, hp⟩ := bind_some hp
 refine px_ox' rfl (oz (ent_fn' Try.func58 isn58 rfl rfl) (spec_Dyadic_Cmp_sim _ _ _ _ _ _ hr15)) rfl bs_nil (wt_none' rfl) fun ⟨⟩ => ?_
 refine pd rfl (rd_assign' rfl) ?_
 refine px_nil' ?_
 show TX E K2 _
 refine tx_k' hK2 ?_
 refine cx_retc' ?_
 replace hp := sj hp
 subst hp
 refine tk (L' := [(4, (Vi r15))]) (H' := []) [] (uc rfl un) pn ?_
 exact tx_ret1' Try.results59 rfl () (rv_tmp' rfl) lr

def spec_LeastRatio_j2 (k : Nat) (rec1 : (Bool × (List Int) × Int × Bool × (List Int) × Int × Int) → Option (Bool × (List Int) × Int × Bool × (List Int) × Int)) (x19 : Int) (x7 : Bool) (x8 : List Int) (x9 : Int) (x10 : Bool) (x11 : List Int) (x12 : Int) : Option (Bool × (List Int) × Int × Bool × (List Int) × Int) :=
 rec1 (x7, x8, x9, x10, x11, x12, (iadd .i64 x19 1))
def spec_LeastRatio_l1s (a0 : List (Bool × (List Int) × Int × Bool × (List Int) × Int)) (k : Nat) (rec1 : (Bool × (List Int) × Int × Bool × (List Int) × Int × Int) → Option (Bool × (List Int) × Int × Bool × (List Int) × Int)) (x13 : Bool) (x14 : List Int) (x15 : Int) (x16 : Bool) (x17 : List Int) (x18 x19 : Int) : Option (Bool × (List Int) × Int × Bool × (List Int) × Int) :=
 br (decide (x19 < (a0.length : Int)))
  ((idx a0 x19) >>= fun r13 =>
  (spec_Ratio_Cmp k r13.1 r13.2.1 r13.2.2.1 r13.2.2.2.1 r13.2.2.2.2.1 r13.2.2.2.2.2 x13 x14 x15 x16 x17 x18) >>= fun r17 =>
  br (decide (r17 < 0))
   (spec_LeastRatio_j2 k rec1 x19 r13.1 r13.2.1 r13.2.2.1 r13.2.2.2.1 r13.2.2.2.2.1 r13.2.2.2.2.2)
   (spec_LeastRatio_j2 k rec1 x19 x13 x14 x15 x16 x17 x18))
  (some (x13, x14, x15, x16, x17, x18))
def spec_LeastRatio_l1 (a0 : List (Bool × (List Int) × Int × Bool × (List Int) × Int)) : Nat → (Bool × (List Int) × Int × Bool × (List Int) × Int × Int) → Option (Bool × (List Int) × Int × Bool × (List Int) × Int)
 | 0, _ => none
 | k + 1, v => spec_LeastRatio_l1s a0 k (spec_LeastRatio_l1 a0 k) v.1 v.2.1 v.2.2.1 v.2.2.2.1 v.2.2.2.2.1 v.2.2.2.2.2.1 v.2.2.2.2.2.2
def spec_LeastRatio (k : Nat) (a0 : List (Bool × (List Int) × Int × Bool × (List Int) × Int)) : Option (Bool × (List Int) × Int × Bool × (List Int) × Int) :=
 (idx a0 0) >>= fun r7 =>
 (spec_LeastRatio_l1 a0 k (r7.1, r7.2.1, r7.2.2.1, r7.2.2.2.1, r7.2.2.2.2.1, r7.2.2.2.2.2, 0)) >>= fun v4 =>
 some (v4.1, v4.2.1, v4.2.2.1, v4.2.2.2.1, v4.2.2.2.2.1, v4.2.2.2.2.2)

theorem spec_LeastRatio_sim {k : Nat}  (a0 : List (Bool × (List Int) × Int × Bool × (List Int) × Int)) {out : Bool × (List Int) × Int × Bool × (List Int) × Int} (hp : spec_LeastRatio k a0 = some out) : Sx.Fn Try.prog 31 [(Sl KT36 a0)] [] (fun w : Unit => (Ag (C4 out.1 out.2.1 out.2.2.1 out.2.2.2.1 out.2.2.2.2.1 out.2.2.2.2.2))) (fun w => []) := by
 unfold spec_LeastRatio at hp
 refine fn_of Try.func31 rfl Try.ntmps31 rfl fun E hM => ?_
 refine cr fun K1 hK1 => ?_
 refine so (ox_alloc' info36 rfl rfl rfl rfl (l := (C5 false 0 false 0)) rfl) fun q2 => ?_
 refine nk hK1 ?_
 refine cr fun K2 hK2 => ?_
 refine sm rfl ?_
 obtain ⟨r7, hr7, hp⟩ := bind_some hp
 refine s0 (rd_at' (K := KT36) rfl rfl hr7 Try.underlying87 info36) ?_
 refine s0 (rd_load_pt_agg' (nn := 6) rfl rfl agg36 (l' := (C4 r7.1 r7.2.1 r7.2.2.1 r7.2.2.2.1 r7.2.2.2.2.1 r7.2.2.2.2.2)) rfl) ?_
 refine so (ox_alloc' info36 rfl rfl rfl rfl (l := (C5 false 0 false 0)) rfl) fun q3 => ?_
 refine so (ox_store' (i := 0) (o := 0) rfl rfl (lv_ag _) (ar rfl rfl rfl rfl) rfl info36 rfl (H' := [(Ur q3 36 (C4 r7.1 r7.2.1 r7.2.2.1 r7.2.2.2.1 r7.2.2.2.2.1 r7.2.2.2.2.2)), (Ur q2 36 (C5 false 0 false 0))]) rfl) fun _ => ?_
 refine nk hK2 ?_
 refine cx_seq' fun K3 hK3 => ?_
 refine cr fun K4 hK4 => ?_
 refine sm rfl ?_
 refine sk rfl Try.underlying87 ?_
 refine sm rfl ?_
 refine nk hK4 ?_
 refine cx_block' ?_
 obtain ⟨v4, hy1, hp⟩ := bind_some hp
 refine cx_loopg' (F := spec_LeastRatio_l1 a0) (G := fun k R v => spec_LeastRatio_l1s a0 k R v.1 v.2.1 v.2.2.1 v.2.2.2.1 v.2.2.2.2.1 v.2.2.2.2.2.1 v.2.2.2.2.2.2) (x := (r7.1, r7.2.1, r7.2.2.1, r7.2.2.2.1, r7.2.2.2.2.1, r7.2.2.2.2.2, 0)) (gh := ()) (fun (v2 : Bool × (List Int) × Int × Bool × (List Int) × Int × Int) (w2 : Unit) => (⟨22, [], [(2, (Vp q2)), (3, (Vp q3)), (9, (Sl KT36 a0)), (10, (Vi (a0.length : Int))), (11, (Vi v2.2.2.2.2.2.2))], [(Ur q2 36 (C5 false 0 false 0)), (Ur q3 36 (C4 v2.1 v2.2.1 v2.2.2.1 v2.2.2.2.1 v2.2.2.2.2.1 v2.2.2.2.2.2.1))]⟩ : St)) (fun (v4 : Bool × (List Int) × Int × Bool × (List Int) × Int) => Zg E (Exit.exit 0) (fun (w4 : Unit) => (⟨22, [], [(2, (Vp q2)), (3, (Vp q3))], [(Ur q2 36 (C5 false 0 false 0)), (Ur q3 36 (C4 v4.1 v4.2.1 v4.2.2.1 v4.2.2.2.1 v4.2.2.2.2.1 v4.2.2.2.2.2))]⟩ : St))) (fun _ => rfl) (fun _ _ => rfl) ?_ hy1 (tx_to' rfl [1, 0] (u5 rfl rfl rfl rfl rfl) (by decide) (p2 rfl rfl)) ?_
 ·clear hp hy1
  clear v4
  intro k rec1 KY1 ih1
  rintro ⟨x13, x14, x15, x16, x17, x18, x19⟩ ⟨⟩ y1 hp
  replace hp : spec_LeastRatio_l1s a0 k rec1 x13 x14 x15 x16 x17 x18 x19 = some y1 := hp
  unfold spec_LeastRatio_l1s at hp
  refine cr fun K10 hK10 => ?_
  refine sb rfl rfl eg_int ru_lss ?_
  refine nk hK10 ?_
  refine cx_seq' fun K11 hK11 => ?_
  refine cx_cond' rfl (fun h4 => ?_) (fun h4 => ?_)
  ·replace hp := (br_t h4).symm.trans hp
   refine cx_skip' ?_
   show TX E K11 _
   refine tx_k' hK11 ?_
   refine cx_join' (fun (v3 : Bool × (List Int) × Int × Bool × (List Int) × Int) => (⟨22, [], [(2, (Vp q2)), (3, (Vp q3)), (9, (Sl KT36 a0)), (10, (Vi (a0.length : Int))), (11, (Vi x19))], [(Ur q2 36 (C5 false 0 false 0)), (Ur q3 36 (C4 v3.1 v3.2.1 v3.2.2.1 v3.2.2.2.1 v3.2.2.2.2.1 v3.2.2.2.2.2))]⟩ : St)) (fun (v3 : Bool × (List Int) × Int × Bool × (List Int) × Int) => spec_LeastRatio_j2 k rec1 x19 v3.1 v3.2.1 v3.2.2.1 v3.2.2.2.1 v3.2.2.2.2.1 v3.2.2.2.2.2 = some y1) ?_ ?_
   ·rintro ⟨x7, x8, x9, x10, x11, x12⟩ hp
    replace hp : spec_LeastRatio_j2 k rec1 x19 x7 x8 x9 x10 x11 x12 = some y1 := hp
    unfold spec_LeastRatio_j2 at hp
    refine cx_region' ?_
    refine sb rfl rfl eg_int ru_add ?_
    refine sm rfl ?_
    refine sx_nil' ?_
    show TX E (KY1 _) _
    exact tk [0,1] (u5 rfl rfl rfl rfl rfl) (p2 rfl rfl) (ih1 (x7, x8, x9, x10, x11, x12, (iadd .i64 x19 1)) () _ hp)
   intro K12 hK12
   refine cx_block' ?_
   refine cr fun K13 hK13 => ?_
   obtain ⟨r13, hr13, hp⟩ := bind_some hp
   refine s0 (rd_at' (K := KT36) rfl rfl hr13 Try.underlying87 info36) ?_
   refine s0 (rd_load_pt_agg' (nn := 6) rfl rfl agg36 (l' := (C4 r13.1 r13.2.1 r13.2.2.1 r13.2.2.2.1 r13.2.2.2.2.1 r13.2.2.2.2.2)) rfl) ?_
   refine so (ox_alloc' info36 rfl rfl rfl rfl (l := (C5 false 0 false 0)) rfl) fun q5 => ?_
   refine so (ox_store' (i := 0) (o := 0) rfl rfl (lv_ag _) (ar rfl rfl rfl rfl) rfl info36 rfl (H' := [(Ur q5 36 (C4 r13.1 r13.2.1 r13.2.2.1 r13.2.2.2.1 r13.2.2.2.2.1 r13.2.2.2.2.2)), (Ur q2 36 (C5 false 0 false 0)), (Ur q3 36 (C4 x13 x14 x15 x16 x17 x18))]) rfl) fun _ => ?_
   refine nk hK13 ?_
   refine cr fun K14 hK14 => ?_
   refine s0 (rd_load_agg' (i := 0) (o := 0) (nn := 6) rfl (ar rfl rfl rfl rfl) rfl agg36 (l' := (C4 r13.1 r13.2.1 r13.2.2.1 r13.2.2.2.1 r13.2.2.2.2.1 r13.2.2.2.2.2)) rfl) ?_
   refine s0 (rd_load_agg' (i := 2) (o := 0) (nn := 6) rfl (ar rfl rfl rfl rfl) rfl agg36 (l' := (C4 x13 x14 x15 x16 x17 x18)) rfl) ?_
   obtain ⟨r17, hr17, hp⟩ := bind_some hp
   refine so (oz (ent_fn' Try.func59 isn59 rfl rfl) (spec_Ratio_Cmp_sim _ _ _ _ _ _ _ _ _ _ _ _ hr17)) fun ⟨⟩ => ?_
   refine sb rfl rfl eg_int ru_lss ?_
   refine nk hK14 ?_
   refine cx_cond' rfl (fun h5 => ?_) (fun h5 => ?_)
   ·replace hp := (br_t h5).symm.trans hp
    refine cx_region' ?_
    refine s0 (rd_load_agg' (i := 0) (o := 0) (nn := 6) rfl (ar rfl rfl rfl rfl) rfl agg36 (l' := (C4 r13.1 r13.2.1 r13.2.2.1 r13.2.2.2.1 r13.2.2.2.2.1 r13.2.2.2.2.2)) rfl) ?_
    refine so (ox_store' (i := 2) (o := 0) rfl rfl (lv_ag _) (ar rfl rfl rfl rfl) rfl info36 rfl (H' := [(Ur q5 36 (C4 r13.1 r13.2.1 r13.2.2.1 r13.2.2.2.1 r13.2.2.2.2.1 r13.2.2.2.2.2)), (Ur q2 36 (C5 false 0 false 0)), (Ur q3 36 (C4 r13.1 r13.2.1 r13.2.2.1 r13.2.2.2.1 r13.2.2.2.2.1 r13.2.2.2.2.2))]) rfl) fun _ => ?_
    refine sx_nil' ?_
    show TX E K12 _
    exact tk [1,2] (u5 rfl rfl rfl rfl rfl) (p2 rfl rfl) (hK12 (r13.1, r13.2.1, r13.2.2.1, r13.2.2.2.1, r13.2.2.2.2.1, r13.2.2.2.2.2) hp)
   replace hp := (br_f h5).symm.trans hp
   refine cx_skip' ?_
   show TX E K12 _
   exact tk [1,2] (u5 rfl rfl rfl rfl rfl) (p2 rfl rfl) (hK12 (x13, x14, x15, x16, x17, x18) hp)
  replace hp := (br_f h4).symm.trans hp
  refine cx_exit' ?_
  replace hp := sj hp
  subst hp
  show TX E (Zg E (Exit.exit 0) _ (Exit.exit 0)) _
  exact tx_zend' () rfl [0, 1] (u2 rfl rfl) (by decide) (p2 rfl rfl)
 refine zg_out fun w4 => ?_
 show TX E K3 _
 refine tx_k' hK3 ?_
 refine cr fun K15 hK15 => ?_
 refine s0 (rd_load_agg' (i := 1) (o := 0) (nn := 6) rfl (ar rfl rfl rfl rfl) rfl agg36 (l' := (C4 v4.1 v4.2.1 v4.2.2.1 v4.2.2.2.1 v4.2.2.2.2.1 v4.2.2.2.2.2)) rfl) ?_
 refine so (ox_store' (i := 0) (o := 0) rfl rfl (lv_ag _) (ar rfl rfl rfl rfl) rfl info36 rfl (H' := [(Ur q2 36 (C4 v4.1 v4.2.1 v4.2.2.1 v4.2.2.2.1 v4.2.2.2.2.1 v4.2.2.2.2.2)), (Ur q3 36 (C4 v4.1 v4.2.1 v4.2.2.1 v4.2.2.2.1 v4.2.2.2.2.1 v4.2.2.2.2.2))]) rfl) fun _ => ?_
 refine nk hK15 ?_
 refine cx_retc' ?_
 replace hp := sj hp
 subst hp
 refine tk (L' := [(2, (Vp q2))]) (H' := [(Ur q2 36 (C4 v4.1 v4.2.1 v4.2.2.1 v4.2.2.2.1 v4.2.2.2.2.1 v4.2.2.2.2.2))]) [0] (uc rfl un) (pc rfl pn) ?_
 exact tx_ret1' Try.results31 rfl () (rv_cell_agg' (i := 0) (o := 0) (nn := 6) rfl (ar rfl rfl rfl rfl) rfl agg36 rfl) (List.nil_sublist _)

def spec_SquareBetween3_j2 (k : Nat) (r25 : Bool × (List Int) × Int × Bool × (List Int) × Int × Bool × (List Int) × Int) (r28 : Bool × (List Int) × Int × Bool × (List Int) × Int × Bool × (List Int) × Int) (r31 : Bool × (List Int) × Int × Bool × (List Int) × Int × Bool × (List Int) × Int) (a0_0 : Bool) (a0_1 : List Int) (a0_2 : Int) (a0_3 : Bool) (a0_4 : List Int) (a0_5 : Int) (a0_6 : Bool) (a0_7 : List Int) (a0_8 : Int) (a2_0 : Bool) (a2_1 : List Int) (a2_2 : Int) (a2_3 : Bool) (a2_4 : List Int) (a2_5 : Int) (a2_6 : Bool) (a2_7 : List Int) (a2_8 : Int) (a3_0 : Bool) (a3_1 : List Int) (a3_2 : Int) (a3_3 : Bool) (a3_4 : List Int) (a3_5 : Int) (a3_6 : Bool) (a3_7 : List Int) (a3_8 : Int) (a1_0 : Bool) (a1_1 : List Int) (a1_2 : Int) (a1_3 : Bool) (a1_4 : List Int) (a1_5 : Int) (a1_6 : Bool) (a1_7 : List Int) (a1_8 : Int) (x2 : Bool) : Option (Bool × (List Int) × Int × Bool × (List Int) × Int) :=
 br x2
  ((spec_Cross3 k r25.1 r25.2.1 r25.2.2.1 r25.2.2.2.1 r25.2.2.2.2.1 r25.2.2.2.2.2.1 r25.2.2.2.2.2.2.1 r25.2.2.2.2.2.2.2.1 r25.2.2.2.2.2.2.2.2 r28.1 r28.2.1 r28.2.2.1 r28.2.2.2.1 r28.2.2.2.2.1 r28.2.2.2.2.2.1 r28.2.2.2.2.2.2.1 r28.2.2.2.2.2.2.2.1 r28.2.2.2.2.2.2.2.2) >>= fun r86 =>
  (spec_Dot3 k r86.1 r86.2.1 r86.2.2.1 r86.2.2.2.1 r86.2.2.2.2.1 r86.2.2.2.2.2.1 r86.2.2.2.2.2.2.1 r86.2.2.2.2.2.2.2.1 r86.2.2.2.2.2.2.2.2 r31.1 r31.2.1 r31.2.2.1 r31.2.2.2.1 r31.2.2.2.2.1 r31.2.2.2.2.2.1 r31.2.2.2.2.2.2.1 r31.2.2.2.2.2.2.2.1 r31.2.2.2.2.2.2.2.2) >>= fun r89 =>
  (spec_Dyadic_Mul k r89.1 r89.2.1 r89.2.2 r89.1 r89.2.1 r89.2.2) >>= fun r92 =>
  (spec_Dot3 k r86.1 r86.2.1 r86.2.2.1 r86.2.2.2.1 r86.2.2.2.2.1 r86.2.2.2.2.2.1 r86.2.2.2.2.2.2.1 r86.2.2.2.2.2.2.2.1 r86.2.2.2.2.2.2.2.2 r86.1 r86.2.1 r86.2.2.1 r86.2.2.2.1 r86.2.2.2.2.1 r86.2.2.2.2.2.1 r86.2.2.2.2.2.2.1 r86.2.2.2.2.2.2.2.1 r86.2.2.2.2.2.2.2.2) >>= fun r95 =>
  some (r92.1, r92.2.1, r92.2.2, r95.1, r95.2.1, r95.2.2))
  ((spec_SquareTo3 k a0_0 a0_1 a0_2 a0_3 a0_4 a0_5 a0_6 a0_7 a0_8 a2_0 a2_1 a2_2 a2_3 a2_4 a2_5 a2_6 a2_7 a2_8 a3_0 a3_1 a3_2 a3_3 a3_4 a3_5 a3_6 a3_7 a3_8) >>= fun r100 =>
  (spec_SquareTo3 k a1_0 a1_1 a1_2 a1_3 a1_4 a1_5 a1_6 a1_7 a1_8 a2_0 a2_1 a2_2 a2_3 a2_4 a2_5 a2_6 a2_7 a2_8 a3_0 a3_1 a3_2 a3_3 a3_4 a3_5 a3_6 a3_7 a3_8) >>= fun r104 =>
  (spec_SquareTo3 k a2_0 a2_1 a2_2 a2_3 a2_4 a2_5 a2_6 a2_7 a2_8 a0_0 a0_1 a0_2 a0_3 a0_4 a0_5 a0_6 a0_7 a0_8 a1_0 a1_1 a1_2 a1_3 a1_4 a1_5 a1_6 a1_7 a1_8) >>= fun r108 =>
  (spec_SquareTo3 k a3_0 a3_1 a3_2 a3_3 a3_4 a3_5 a3_6 a3_7 a3_8 a0_0 a0_1 a0_2 a0_3 a0_4 a0_5 a0_6 a0_7 a0_8 a1_0 a1_1 a1_2 a1_3 a1_4 a1_5 a1_6 a1_7 a1_8) >>= fun r112 =>
  (spec_LeastRatio k ([(r100.1, r100.2.1, r100.2.2.1, r100.2.2.2.1, r100.2.2.2.2.1, r100.2.2.2.2.2), (r104.1, r104.2.1, r104.2.2.1, r104.2.2.2.1, r104.2.2.2.2.1, r104.2.2.2.2.2), (r108.1, r108.2.1, r108.2.2.1, r108.2.2.2.1, r108.2.2.2.2.1, r108.2.2.2.2.2), (r112.1, r112.2.1, r112.2.2.1, r112.2.2.2.1, r112.2.2.2.2.1, r112.2.2.2.2.2)])) >>= fun r114 =>
  some (r114.1, r114.2.1, r114.2.2.1, r114.2.2.2.1, r114.2.2.2.2.1, r114.2.2.2.2.2))
def spec_SquareBetween3_j1 (k : Nat) (r53 : Bool × (List Int) × Int) (r67 : Bool × (List Int) × Int) (r25 : Bool × (List Int) × Int × Bool × (List Int) × Int × Bool × (List Int) × Int) (r28 : Bool × (List Int) × Int × Bool × (List Int) × Int × Bool × (List Int) × Int) (r31 : Bool × (List Int) × Int × Bool × (List Int) × Int × Bool × (List Int) × Int) (a0_0 : Bool) (a0_1 : List Int) (a0_2 : Int) (a0_3 : Bool) (a0_4 : List Int) (a0_5 : Int) (a0_6 : Bool) (a0_7 : List Int) (a0_8 : Int) (a2_0 : Bool) (a2_1 : List Int) (a2_2 : Int) (a2_3 : Bool) (a2_4 : List Int) (a2_5 : Int) (a2_6 : Bool) (a2_7 : List Int) (a2_8 : Int) (a3_0 : Bool) (a3_1 : List Int) (a3_2 : Int) (a3_3 : Bool) (a3_4 : List Int) (a3_5 : Int) (a3_6 : Bool) (a3_7 : List Int) (a3_8 : Int) (a1_0 : Bool) (a1_1 : List Int) (a1_2 : Int) (a1_3 : Bool) (a1_4 : List Int) (a1_5 : Int) (a1_6 : Bool) (a1_7 : List Int) (a1_8 : Int) (x1 : Bool) : Option (Bool × (List Int) × Int × Bool × (List Int) × Int) :=
 br x1
  ((spec_Between k false [] 0 r53.1 r53.2.1 r53.2.2 r67.1 r67.2.1 r67.2.2) >>= fun r82 =>
  spec_SquareBetween3_j2 k r25 r28 r31 a0_0 a0_1 a0_2 a0_3 a0_4 a0_5 a0_6 a0_7 a0_8 a2_0 a2_1 a2_2 a2_3 a2_4 a2_5 a2_6 a2_7 a2_8 a3_0 a3_1 a3_2 a3_3 a3_4 a3_5 a3_6 a3_7 a3_8 a1_0 a1_1 a1_2 a1_3 a1_4 a1_5 a1_6 a1_7 a1_8 r82)
  (spec_SquareBetween3_j2 k r25 r28 r31 a0_0 a0_1 a0_2 a0_3 a0_4 a0_5 a0_6 a0_7 a0_8 a2_0 a2_1 a2_2 a2_3 a2_4 a2_5 a2_6 a2_7 a2_8 a3_0 a3_1 a3_2 a3_3 a3_4 a3_5 a3_6 a3_7 a3_8 a1_0 a1_1 a1_2 a1_3 a1_4 a1_5 a1_6 a1_7 a1_8 false)
def spec_SquareBetween3 (k : Nat) (a0_0 : Bool) (a0_1 : List Int) (a0_2 : Int) (a0_3 : Bool) (a0_4 : List Int) (a0_5 : Int) (a0_6 : Bool) (a0_7 : List Int) (a0_8 : Int) (a1_0 : Bool) (a1_1 : List Int) (a1_2 : Int) (a1_3 : Bool) (a1_4 : List Int) (a1_5 : Int) (a1_6 : Bool) (a1_7 : List Int) (a1_8 : Int) (a2_0 : Bool) (a2_1 : List Int) (a2_2 : Int) (a2_3 : Bool) (a2_4 : List Int) (a2_5 : Int) (a2_6 : Bool) (a2_7 : List Int) (a2_8 : Int) (a3_0 : Bool) (a3_1 : List Int) (a3_2 : Int) (a3_3 : Bool) (a3_4 : List Int) (a3_5 : Int) (a3_6 : Bool) (a3_7 : List Int) (a3_8 : Int) : Option (Bool × (List Int) × Int × Bool × (List Int) × Int) :=
 (spec_Point3_Sub k a1_0 a1_1 a1_2 a1_3 a1_4 a1_5 a1_6 a1_7 a1_8 a0_0 a0_1 a0_2 a0_3 a0_4 a0_5 a0_6 a0_7 a0_8) >>= fun r25 =>
 (spec_Point3_Sub k a3_0 a3_1 a3_2 a3_3 a3_4 a3_5 a3_6 a3_7 a3_8 a2_0 a2_1 a2_2 a2_3 a2_4 a2_5 a2_6 a2_7 a2_8) >>= fun r28 =>
 (spec_Point3_Sub k a0_0 a0_1 a0_2 a0_3 a0_4 a0_5 a0_6 a0_7 a0_8 a2_0 a2_1 a2_2 a2_3 a2_4 a2_5 a2_6 a2_7 a2_8) >>= fun r31 =>
 (spec_Dot3 k r25.1 r25.2.1 r25.2.2.1 r25.2.2.2.1 r25.2.2.2.2.1 r25.2.2.2.2.2.1 r25.2.2.2.2.2.2.1 r25.2.2.2.2.2.2.2.1 r25.2.2.2.2.2.2.2.2 r25.1 r25.2.1 r25.2.2.1 r25.2.2.2.1 r25.2.2.2.2.1 r25.2.2.2.2.2.1 r25.2.2.2.2.2.2.1 r25.2.2.2.2.2.2.2.1 r25.2.2.2.2.2.2.2.2) >>= fun r34 =>
 (spec_Dot3 k r25.1 r25.2.1 r25.2.2.1 r25.2.2.2.1 r25.2.2.2.2.1 r25.2.2.2.2.2.1 r25.2.2.2.2.2.2.1 r25.2.2.2.2.2.2.2.1 r25.2.2.2.2.2.2.2.2 r28.1 r28.2.1 r28.2.2.1 r28.2.2.2.1 r28.2.2.2.2.1 r28.2.2.2.2.2.1 r28.2.2.2.2.2.2.1 r28.2.2.2.2.2.2.2.1 r28.2.2.2.2.2.2.2.2) >>= fun r37 =>
 (spec_Dot3 k r28.1 r28.2.1 r28.2.2.1 r28.2.2.2.1 r28.2.2.2.2.1 r28.2.2.2.2.2.1 r28.2.2.2.2.2.2.1 r28.2.2.2.2.2.2.2.1 r28.2.2.2.2.2.2.2.2 r28.1 r28.2.1 r28.2.2.1 r28.2.2.2.1 r28.2.2.2.2.1 r28.2.2.2.2.2.1 r28.2.2.2.2.2.2.1 r28.2.2.2.2.2.2.2.1 r28.2.2.2.2.2.2.2.2) >>= fun r40 =>
 (spec_Dot3 k r25.1 r25.2.1 r25.2.2.1 r25.2.2.2.1 r25.2.2.2.2.1 r25.2.2.2.2.2.1 r25.2.2.2.2.2.2.1 r25.2.2.2.2.2.2.2.1 r25.2.2.2.2.2.2.2.2 r31.1 r31.2.1 r31.2.2.1 r31.2.2.2.1 r31.2.2.2.2.1 r31.2.2.2.2.2.1 r31.2.2.2.2.2.2.1 r31.2.2.2.2.2.2.2.1 r31.2.2.2.2.2.2.2.2) >>= fun r43 =>
 (spec_Dot3 k r28.1 r28.2.1 r28.2.2.1 r28.2.2.2.1 r28.2.2.2.2.1 r28.2.2.2.2.2.1 r28.2.2.2.2.2.2.1 r28.2.2.2.2.2.2.2.1 r28.2.2.2.2.2.2.2.2 r31.1 r31.2.1 r31.2.2.1 r31.2.2.2.1 r31.2.2.2.2.1 r31.2.2.2.2.2.1 r31.2.2.2.2.2.2.1 r31.2.2.2.2.2.2.2.1 r31.2.2.2.2.2.2.2.2) >>= fun r46 =>
 (spec_Dyadic_Mul k r34.1 r34.2.1 r34.2.2 r40.1 r40.2.1 r40.2.2) >>= fun r49 =>
 (spec_Dyadic_Mul k r37.1 r37.2.1 r37.2.2 r37.1 r37.2.1 r37.2.2) >>= fun r52 =>
 (spec_Dyadic_Sub k r49.1 r49.2.1 r49.2.2 r52.1 r52.2.1 r52.2.2) >>= fun r53 =>
 (spec_Dyadic_Mul k r37.1 r37.2.1 r37.2.2 r46.1 r46.2.1 r46.2.2) >>= fun r56 =>
 (spec_Dyadic_Mul k r40.1 r40.2.1 r40.2.2 r43.1 r43.2.1 r43.2.2) >>= fun r59 =>
 (spec_Dyadic_Sub k r56.1 r56.2.1 r56.2.2 r59.1 r59.2.1 r59.2.2) >>= fun r60 =>
 (spec_Dyadic_Mul k r34.1 r34.2.1 r34.2.2 r46.1 r46.2.1 r46.2.2) >>= fun r63 =>
 (spec_Dyadic_Mul k r37.1 r37.2.1 r37.2.2 r43.1 r43.2.1 r43.2.2) >>= fun r66 =>
 (spec_Dyadic_Sub k r63.1 r63.2.1 r63.2.2 r66.1 r66.2.1 r66.2.2) >>= fun r67 =>
 (spec_Dyadic_Sign k r53.1 r53.2.1 r53.2.2) >>= fun r70 =>
 br (decide (0 < r70))
  ((spec_Between k false [] 0 r53.1 r53.2.1 r53.2.2 r60.1 r60.2.1 r60.2.2) >>= fun r76 =>
  spec_SquareBetween3_j1 k r53 r67 r25 r28 r31 a0_0 a0_1 a0_2 a0_3 a0_4 a0_5 a0_6 a0_7 a0_8 a2_0 a2_1 a2_2 a2_3 a2_4 a2_5 a2_6 a2_7 a2_8 a3_0 a3_1 a3_2 a3_3 a3_4 a3_5 a3_6 a3_7 a3_8 a1_0 a1_1 a1_2 a1_3 a1_4 a1_5 a1_6 a1_7 a1_8 r76)
  (spec_SquareBetween3_j1 k r53 r67 r25 r28 r31 a0_0 a0_1 a0_2 a0_3 a0_4 a0_5 a0_6 a0_7 a0_8 a2_0 a2_1 a2_2 a2_3 a2_4 a2_5 a2_6 a2_7 a2_8 a3_0 a3_1 a3_2 a3_3 a3_4 a3_5 a3_6 a3_7 a3_8 a1_0 a1_1 a1_2 a1_3 a1_4 a1_5 a1_6 a1_7 a1_8 false)


end Go.Proofs.Ytmkhoplffiakmaa
