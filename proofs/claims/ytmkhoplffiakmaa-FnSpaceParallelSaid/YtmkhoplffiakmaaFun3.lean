/-
  Plain functions for the Go functions that this law reaches, and that each call does what its plain function says. Printed by a program of ours.
-/
import Derived.Test.YtmkhoplffiakmaaProg
import Derived.Test.YtmkhoplffiakmaaSxX
import Derived.Test.YtmkhoplffiakmaaFun2
namespace Go.Proofs.Ytmkhoplffiakmaa
open Go.Sx
set_option linter.unusedVariables false
set_option linter.unusedSimpArgs false
set_option maxRecDepth 100000
set_option maxHeartbeats 4000000

theorem spec_SquareBetween3_sim {k : Nat}  (a0_0 : Bool) (a0_1 : List Int) (a0_2 : Int) (a0_3 : Bool) (a0_4 : List Int) (a0_5 : Int) (a0_6 : Bool) (a0_7 : List Int) (a0_8 : Int) (a1_0 : Bool) (a1_1 : List Int) (a1_2 : Int) (a1_3 : Bool) (a1_4 : List Int) (a1_5 : Int) (a1_6 : Bool) (a1_7 : List Int) (a1_8 : Int) (a2_0 : Bool) (a2_1 : List Int) (a2_2 : Int) (a2_3 : Bool) (a2_4 : List Int) (a2_5 : Int) (a2_6 : Bool) (a2_7 : List Int) (a2_8 : Int) (a3_0 : Bool) (a3_1 : List Int) (a3_2 : Int) (a3_3 : Bool) (a3_4 : List Int) (a3_5 : Int) (a3_6 : Bool) (a3_7 : List Int) (a3_8 : Int) {out : Bool × (List Int) × Int × Bool × (List Int) × Int} (hp : spec_SquareBetween3 k a0_0 a0_1 a0_2 a0_3 a0_4 a0_5 a0_6 a0_7 a0_8 a1_0 a1_1 a1_2 a1_3 a1_4 a1_5 a1_6 a1_7 a1_8 a2_0 a2_1 a2_2 a2_3 a2_4 a2_5 a2_6 a2_7 a2_8 a3_0 a3_1 a3_2 a3_3 a3_4 a3_5 a3_6 a3_7 a3_8 = some out) : Sx.Fn Try.prog 9 [(Ag (C0 a0_0 a0_1 a0_2 a0_3 a0_4 a0_5 a0_6 a0_7 a0_8)), (Ag (C0 a1_0 a1_1 a1_2 a1_3 a1_4 a1_5 a1_6 a1_7 a1_8)), (Ag (C0 a2_0 a2_1 a2_2 a2_3 a2_4 a2_5 a2_6 a2_7 a2_8)), (Ag (C0 a3_0 a3_1 a3_2 a3_3 a3_4 a3_5 a3_6 a3_7 a3_8))] [] (fun w : Unit => (Ag (C4 out.1 out.2.1 out.2.2.1 out.2.2.2.1 out.2.2.2.2.1 out.2.2.2.2.2))) (fun w => []) := by
 unfold spec_SquareBetween3 at hp
 refine fn_of Try.func9 rfl Try.ntmps9 rfl fun E hM => ?_
 refine cr fun K1 hK1 => ?_
 refine so (ox_box' rfl (lv_ag _) rfl rfl) fun q4 => ?_
 refine so (ox_box' rfl (lv_ag _) rfl rfl) fun q5 => ?_
 refine so (ox_box' rfl (lv_ag _) rfl rfl) fun q6 => ?_
 refine so (ox_box' rfl (lv_ag _) rfl rfl) fun q7 => ?_
 refine so (ox_alloc' info36 rfl rfl rfl rfl (l := (C5 false 0 false 0)) rfl) fun q8 => ?_
 refine nk hK1 ?_
 refine cx_seq' fun K2 hK2 => ?_
 refine cx_plana' [] [(12, 1), (13, 1), (14, 1)] [(0, 1), (1, 1), (3, 1), (4, 1), (6, 1), (7, 1)] 9 #[true, true, false, true, true, false, true, true, false, false, false, false, false, false, false] mixed (by kernel_rfl) ?_
 refine pd rfl (rd_load_agg' (i := 3) (o := 0) (nn := 9) rfl (ar rfl rfl rfl rfl) rfl agg39 (l' := (C0 a1_0 a1_1 a1_2 a1_3 a1_4 a1_5 a1_6 a1_7 a1_8)) rfl) ?_
 refine pd rfl (rd_load_agg' (i := 4) (o := 0) (nn := 9) rfl (ar rfl rfl rfl rfl) rfl agg39 (l' := (C0 a0_0 a0_1 a0_2 a0_3 a0_4 a0_5 a0_6 a0_7 a0_8)) rfl) ?_
 refine pd rfl (rd_load_agg' (i := 1) (o := 0) (nn := 9) rfl (ar rfl rfl rfl rfl) rfl agg39 (l' := (C0 a3_0 a3_1 a3_2 a3_3 a3_4 a3_5 a3_6 a3_7 a3_8)) rfl) ?_
 refine pd rfl (rd_load_agg' (i := 2) (o := 0) (nn := 9) rfl (ar rfl rfl rfl rfl) rfl agg39 (l' := (C0 a2_0 a2_1 a2_2 a2_3 a2_4 a2_5 a2_6 a2_7 a2_8)) rfl) ?_
 refine pd rfl (rd_load_agg' (i := 4) (o := 0) (nn := 9) rfl (ar rfl rfl rfl rfl) rfl agg39 (l' := (C0 a0_0 a0_1 a0_2 a0_3 a0_4 a0_5 a0_6 a0_7 a0_8)) rfl) ?_
 refine pd rfl (rd_load_agg' (i := 2) (o := 0) (nn := 9) rfl (ar rfl rfl rfl rfl) rfl agg39 (l' := (C0 a2_0 a2_1 a2_2 a2_3 a2_4 a2_5 a2_6 a2_7 a2_8)) rfl) ?_
 refine px_nil' ?_
 show AX E _ _ _ _ _ _ _ _
 obtain ⟨r25, hr25, hp⟩ := bind_some hp
 obtain ⟨r28, hr28, hp⟩ := bind_some hp
 obtain ⟨r31, hr31, hp⟩ := bind_some hp
 let LP3 : List (Nat × SV) := [(4, (Vp q4)), (5, (Vp q5)), (6, (Vp q6)), (7, (Vp q7)), (8, (Vp q8))]
 let HP3 : List Res := [(Ur q4 39 (C0 a0_0 a0_1 a0_2 a0_3 a0_4 a0_5 a0_6 a0_7 a0_8)), (Ur q5 39 (C0 a1_0 a1_1 a1_2 a1_3 a1_4 a1_5 a1_6 a1_7 a1_8)), (Ur q6 39 (C0 a2_0 a2_1 a2_2 a2_3 a2_4 a2_5 a2_6 a2_7 a2_8)), (Ur q7 39 (C0 a3_0 a3_1 a3_2 a3_3 a3_4 a3_5 a3_6 a3_7 a3_8)), (Ur q8 36 (C5 false 0 false 0))]
 have hLP3 : Sub LP3 LP3 := (u5 rfl rfl rfl rfl rfl)
 have hHP3 : PickAt HP3 [0, 1, 2, 3, 4] HP3 := (p5 rfl rfl rfl rfl rfl)
 have c12 := (spec_Point3_Sub_sim _ _ _ _ _ _ _ _ _ _ _ _ _ _ _ _ _ _ hr25)
 have c13 := (spec_Point3_Sub_sim _ _ _ _ _ _ _ _ _ _ _ _ _ _ _ _ _ _ hr28)
 have c14 := (spec_Point3_Sub_sim _ _ _ _ _ _ _ _ _ _ _ _ _ _ _ _ _ _ hr31)
 let S20 : SV := (Ag (C0 r25.1 r25.2.1 r25.2.2.1 r25.2.2.2.1 r25.2.2.2.2.1 r25.2.2.2.2.2.1 r25.2.2.2.2.2.2.1 r25.2.2.2.2.2.2.2.1 r25.2.2.2.2.2.2.2.2))
 let S21 : SV := (Ag (C0 a3_0 a3_1 a3_2 a3_3 a3_4 a3_5 a3_6 a3_7 a3_8))
 let S22 : SV := (Ag (C0 a2_0 a2_1 a2_2 a2_3 a2_4 a2_5 a2_6 a2_7 a2_8))
 let S23 : SV := (Ag (C0 a0_0 a0_1 a0_2 a0_3 a0_4 a0_5 a0_6 a0_7 a0_8))
 let S24 : SV := (Ag (C0 a1_0 a1_1 a1_2 a1_3 a1_4 a1_5 a1_6 a1_7 a1_8))
 let S25 : SV := (Ag (C0 r28.1 r28.2.1 r28.2.2.1 r28.2.2.2.1 r28.2.2.2.2.1 r28.2.2.2.2.2.1 r28.2.2.2.2.2.2.1 r28.2.2.2.2.2.2.2.1 r28.2.2.2.2.2.2.2.2))
 let S26 : SV := (Ag (C0 r31.1 r31.2.1 r31.2.2.1 r31.2.2.2.1 r31.2.2.2.2.1 r31.2.2.2.2.2.1 r31.2.2.2.2.2.2.1 r31.2.2.2.2.2.2.2.1 r31.2.2.2.2.2.2.2.2))
 refine an 0 15 32767 (fun (v34 : A3) => ⟨115, [], [(9, (Vp v34.1)), (10, (Vp v34.2.1)), (11, (Vp v34.2.2)), (4, (Vp q4)), (5, (Vp q5)), (6, (Vp q6)), (7, (Vp q7)), (8, (Vp q8))], [(Ur v34.1 39 (C0 r25.1 r25.2.1 r25.2.2.1 r25.2.2.2.1 r25.2.2.2.2.1 r25.2.2.2.2.2.1 r25.2.2.2.2.2.2.1 r25.2.2.2.2.2.2.2.1 r25.2.2.2.2.2.2.2.2)), (Ur v34.2.1 39 (C0 r28.1 r28.2.1 r28.2.2.1 r28.2.2.2.1 r28.2.2.2.2.1 r28.2.2.2.2.2.1 r28.2.2.2.2.2.2.1 r28.2.2.2.2.2.2.2.1 r28.2.2.2.2.2.2.2.2)), (Ur v34.2.2 39 (C0 r31.1 r31.2.1 r31.2.2.1 r31.2.2.2.1 r31.2.2.2.2.1 r31.2.2.2.2.2.1 r31.2.2.2.2.2.2.1 r31.2.2.2.2.2.2.2.1 r31.2.2.2.2.2.2.2.2)), (Ur q4 39 (C0 a0_0 a0_1 a0_2 a0_3 a0_4 a0_5 a0_6 a0_7 a0_8)), (Ur q5 39 (C0 a1_0 a1_1 a1_2 a1_3 a1_4 a1_5 a1_6 a1_7 a1_8)), (Ur q6 39 (C0 a2_0 a2_1 a2_2 a2_3 a2_4 a2_5 a2_6 a2_7 a2_8)), (Ur q7 39 (C0 a3_0 a3_1 a3_2 a3_3 a3_4 a3_5 a3_6 a3_7 a3_8)), (Ur q8 36 (C5 false 0 false 0))]⟩) ?_ ?_
 ·rintro ⟨q9055, q9056, q9057⟩
  refine ax_nil (by kernel_rfl) ?_
  show TX E K2 _
  refine tx_k' hK2 ?_
  refine cx_seq' fun K3 hK3 => ?_
  refine cx_plana' [] [(20, 1), (21, 1), (22, 1), (23, 1), (24, 1)] [(0, 1), (1, 1), (3, 1), (4, 1), (6, 1), (7, 1), (9, 1), (10, 1), (12, 1), (13, 1)] 15 #[true, true, false, true, true, false, true, true, false, true, true, false, true, true, false, false, false, false, false, false, false, false, false, false, false] mixed (by kernel_rfl) ?_
  iterate 3 refine pd rfl (rd_load_agg' (i := 0) (o := 0) (nn := 9) rfl (ar rfl rfl rfl rfl) rfl agg39 (l' := (C0 r25.1 r25.2.1 r25.2.2.1 r25.2.2.2.1 r25.2.2.2.2.1 r25.2.2.2.2.2.1 r25.2.2.2.2.2.2.1 r25.2.2.2.2.2.2.2.1 r25.2.2.2.2.2.2.2.2)) rfl) ?_
  iterate 3 refine pd rfl (rd_load_agg' (i := 1) (o := 0) (nn := 9) rfl (ar rfl rfl rfl rfl) rfl agg39 (l' := (C0 r28.1 r28.2.1 r28.2.2.1 r28.2.2.2.1 r28.2.2.2.2.1 r28.2.2.2.2.2.1 r28.2.2.2.2.2.2.1 r28.2.2.2.2.2.2.2.1 r28.2.2.2.2.2.2.2.2)) rfl) ?_
  refine pd rfl (rd_load_agg' (i := 0) (o := 0) (nn := 9) rfl (ar rfl rfl rfl rfl) rfl agg39 (l' := (C0 r25.1 r25.2.1 r25.2.2.1 r25.2.2.2.1 r25.2.2.2.2.1 r25.2.2.2.2.2.1 r25.2.2.2.2.2.2.1 r25.2.2.2.2.2.2.2.1 r25.2.2.2.2.2.2.2.2)) rfl) ?_
  refine pd rfl (rd_load_agg' (i := 2) (o := 0) (nn := 9) rfl (ar rfl rfl rfl rfl) rfl agg39 (l' := (C0 r31.1 r31.2.1 r31.2.2.1 r31.2.2.2.1 r31.2.2.2.2.1 r31.2.2.2.2.2.1 r31.2.2.2.2.2.2.1 r31.2.2.2.2.2.2.2.1 r31.2.2.2.2.2.2.2.2)) rfl) ?_
  refine pd rfl (rd_load_agg' (i := 1) (o := 0) (nn := 9) rfl (ar rfl rfl rfl rfl) rfl agg39 (l' := (C0 r28.1 r28.2.1 r28.2.2.1 r28.2.2.2.1 r28.2.2.2.2.1 r28.2.2.2.2.2.1 r28.2.2.2.2.2.2.1 r28.2.2.2.2.2.2.2.1 r28.2.2.2.2.2.2.2.2)) rfl) ?_
  refine pd rfl (rd_load_agg' (i := 2) (o := 0) (nn := 9) rfl (ar rfl rfl rfl rfl) rfl agg39 (l' := (C0 r31.1 r31.2.1 r31.2.2.1 r31.2.2.2.1 r31.2.2.2.2.1 r31.2.2.2.2.2.1 r31.2.2.2.2.2.2.1 r31.2.2.2.2.2.2.2.1 r31.2.2.2.2.2.2.2.2)) rfl) ?_
  refine px_nil' ?_
  show AX E _ _ _ _ _ _ _ _
  obtain ⟨r34, hr34, hp⟩ := bind_some hp
  obtain ⟨r37, hr37, hp⟩ := bind_some hp
  obtain ⟨r40, hr40, hp⟩ := bind_some hp
  obtain ⟨r43, hr43, hp⟩ := bind_some hp
  obtain ⟨r46, hr46, hp⟩ := bind_some hp
  let LP2 : List (Nat × SV) := [(4, (Vp q4)), (5, (Vp q5)), (6, (Vp q6)), (7, (Vp q7)), (8, (Vp q8)), (9, (Vp q9055)), (10, (Vp q9056)), (11, (Vp q9057))]
  let HP2 : List Res := [(Ur q4 39 (C0 a0_0 a0_1 a0_2 a0_3 a0_4 a0_5 a0_6 a0_7 a0_8)), (Ur q5 39 (C0 a1_0 a1_1 a1_2 a1_3 a1_4 a1_5 a1_6 a1_7 a1_8)), (Ur q6 39 (C0 a2_0 a2_1 a2_2 a2_3 a2_4 a2_5 a2_6 a2_7 a2_8)), (Ur q7 39 (C0 a3_0 a3_1 a3_2 a3_3 a3_4 a3_5 a3_6 a3_7 a3_8)), (Ur q8 36 (C5 false 0 false 0)), (Ur q9055 39 (C0 r25.1 r25.2.1 r25.2.2.1 r25.2.2.2.1 r25.2.2.2.2.1 r25.2.2.2.2.2.1 r25.2.2.2.2.2.2.1 r25.2.2.2.2.2.2.2.1 r25.2.2.2.2.2.2.2.2)), (Ur q9056 39 (C0 r28.1 r28.2.1 r28.2.2.1 r28.2.2.2.1 r28.2.2.2.2.1 r28.2.2.2.2.2.1 r28.2.2.2.2.2.2.1 r28.2.2.2.2.2.2.2.1 r28.2.2.2.2.2.2.2.2)), (Ur q9057 39 (C0 r31.1 r31.2.1 r31.2.2.1 r31.2.2.2.1 r31.2.2.2.2.1 r31.2.2.2.2.2.1 r31.2.2.2.2.2.2.1 r31.2.2.2.2.2.2.2.1 r31.2.2.2.2.2.2.2.2))]
  have hLP2 : Sub LP2 LP2 := (u8 rfl rfl rfl rfl rfl rfl rfl rfl)
  have hHP2 : PickAt HP2 [0, 1, 2, 3, 4, 5, 6, 7] HP2 := (p8 rfl rfl rfl rfl rfl rfl rfl rfl)
  have c7 := (spec_Dot3_sim _ _ _ _ _ _ _ _ _ _ _ _ _ _ _ _ _ _ hr34)
  have c8 := (spec_Dot3_sim _ _ _ _ _ _ _ _ _ _ _ _ _ _ _ _ _ _ hr37)
  have c9 := (spec_Dot3_sim _ _ _ _ _ _ _ _ _ _ _ _ _ _ _ _ _ _ hr40)
  have c10 := (spec_Dot3_sim _ _ _ _ _ _ _ _ _ _ _ _ _ _ _ _ _ _ hr43)
  have c11 := (spec_Dot3_sim _ _ _ _ _ _ _ _ _ _ _ _ _ _ _ _ _ _ hr46)
  let S12 : SV := (Ag (C2 r34.1 r34.2.1 r34.2.2))
  let S13 : SV := (Ag (C0 r25.1 r25.2.1 r25.2.2.1 r25.2.2.2.1 r25.2.2.2.2.1 r25.2.2.2.2.2.1 r25.2.2.2.2.2.2.1 r25.2.2.2.2.2.2.2.1 r25.2.2.2.2.2.2.2.2))
  let S14 : SV := (Ag (C0 r28.1 r28.2.1 r28.2.2.1 r28.2.2.2.1 r28.2.2.2.2.1 r28.2.2.2.2.2.1 r28.2.2.2.2.2.2.1 r28.2.2.2.2.2.2.2.1 r28.2.2.2.2.2.2.2.2))
  let S15 : SV := (Ag (C0 r31.1 r31.2.1 r31.2.2.1 r31.2.2.2.1 r31.2.2.2.2.1 r31.2.2.2.2.2.1 r31.2.2.2.2.2.2.1 r31.2.2.2.2.2.2.2.1 r31.2.2.2.2.2.2.2.2))
  let S16 : SV := (Ag (C2 r37.1 r37.2.1 r37.2.2))
  let S17 : SV := (Ag (C2 r40.1 r40.2.1 r40.2.2))
  let S18 : SV := (Ag (C2 r43.1 r43.2.1 r43.2.2))
  let S19 : SV := (Ag (C2 r46.1 r46.2.1 r46.2.2))
  refine an 0 25 33554431 (fun (v230 : A5) => ⟨115, [], [(12, (Vp v230.1)), (13, (Vp v230.2.1)), (14, (Vp v230.2.2.1)), (15, (Vp v230.2.2.2.1)), (16, (Vp v230.2.2.2.2)), (4, (Vp q4)), (5, (Vp q5)), (6, (Vp q6)), (7, (Vp q7)), (8, (Vp q8)), (9, (Vp q9055)), (10, (Vp q9056)), (11, (Vp q9057))], [(Ur v230.1 34 (C2 r34.1 r34.2.1 r34.2.2)), (Ur v230.2.1 34 (C2 r37.1 r37.2.1 r37.2.2)), (Ur v230.2.2.1 34 (C2 r40.1 r40.2.1 r40.2.2)), (Ur v230.2.2.2.1 34 (C2 r43.1 r43.2.1 r43.2.2)), (Ur v230.2.2.2.2 34 (C2 r46.1 r46.2.1 r46.2.2)), (Ur q4 39 (C0 a0_0 a0_1 a0_2 a0_3 a0_4 a0_5 a0_6 a0_7 a0_8)), (Ur q5 39 (C0 a1_0 a1_1 a1_2 a1_3 a1_4 a1_5 a1_6 a1_7 a1_8)), (Ur q6 39 (C0 a2_0 a2_1 a2_2 a2_3 a2_4 a2_5 a2_6 a2_7 a2_8)), (Ur q7 39 (C0 a3_0 a3_1 a3_2 a3_3 a3_4 a3_5 a3_6 a3_7 a3_8)), (Ur q8 36 (C5 false 0 false 0)), (Ur q9055 39 (C0 r25.1 r25.2.1 r25.2.2.1 r25.2.2.2.1 r25.2.2.2.2.1 r25.2.2.2.2.2.1 r25.2.2.2.2.2.2.1 r25.2.2.2.2.2.2.2.1 r25.2.2.2.2.2.2.2.2)), (Ur q9056 39 (C0 r28.1 r28.2.1 r28.2.2.1 r28.2.2.2.1 r28.2.2.2.2.1 r28.2.2.2.2.2.1 r28.2.2.2.2.2.2.1 r28.2.2.2.2.2.2.2.1 r28.2.2.2.2.2.2.2.2)), (Ur q9057 39 (C0 r31.1 r31.2.1 r31.2.2.1 r31.2.2.2.1 r31.2.2.2.2.1 r31.2.2.2.2.2.1 r31.2.2.2.2.2.2.1 r31.2.2.2.2.2.2.2.1 r31.2.2.2.2.2.2.2.2))]⟩) ?_ ?_
  ·rintro ⟨z0, z1, z2, z3, z4⟩
   refine ax_nil (by kernel_rfl) ?_
   show TX E K3 _
   refine tx_k' hK3 ?_
   refine cx_seq' fun K4 hK4 => ?_
   refine cx_plana' [] [(8, 1)] [(0, 1), (1, 1), (3, 1), (4, 1)] 5 #[true, true, false, true, true, false, false, false, false] mixed (by kernel_rfl) ?_
   refine pd rfl (rd_load_agg' (i := 0) (o := 0) (nn := 3) rfl (ar rfl rfl rfl rfl) rfl agg34 (l' := (C2 r34.1 r34.2.1 r34.2.2)) rfl) ?_
   refine pd rfl (rd_load_agg' (i := 2) (o := 0) (nn := 3) rfl (ar rfl rfl rfl rfl) rfl agg34 (l' := (C2 r40.1 r40.2.1 r40.2.2)) rfl) ?_
   iterate 2 refine pd rfl (rd_load_agg' (i := 1) (o := 0) (nn := 3) rfl (ar rfl rfl rfl rfl) rfl agg34 (l' := (C2 r37.1 r37.2.1 r37.2.2)) rfl) ?_
   refine px_nil' ?_
   show AX E _ _ _ _ _ _ _ _
   obtain ⟨r49, hr49, hp⟩ := bind_some hp
   obtain ⟨r52, hr52, hp⟩ := bind_some hp
   obtain ⟨r53, hr53, hp⟩ := bind_some hp
   refine an 0 9 511 (fun (v238 : Addr) => ⟨115, [], [(17, (Vp v238)), (4, (Vp q4)), (5, (Vp q5)), (6, (Vp q6)), (7, (Vp q7)), (8, (Vp q8)), (9, (Vp q9055)), (10, (Vp q9056)), (11, (Vp q9057)), (12, (Vp z0)), (13, (Vp z1)), (14, (Vp z2)), (15, (Vp z3)), (16, (Vp z4))], [(Ur v238 34 (C2 r53.1 r53.2.1 r53.2.2)), (Ur q4 39 (C0 a0_0 a0_1 a0_2 a0_3 a0_4 a0_5 a0_6 a0_7 a0_8)), (Ur q5 39 (C0 a1_0 a1_1 a1_2 a1_3 a1_4 a1_5 a1_6 a1_7 a1_8)), (Ur q6 39 (C0 a2_0 a2_1 a2_2 a2_3 a2_4 a2_5 a2_6 a2_7 a2_8)), (Ur q7 39 (C0 a3_0 a3_1 a3_2 a3_3 a3_4 a3_5 a3_6 a3_7 a3_8)), (Ur q8 36 (C5 false 0 false 0)), (Ur q9055 39 (C0 r25.1 r25.2.1 r25.2.2.1 r25.2.2.2.1 r25.2.2.2.2.1 r25.2.2.2.2.2.1 r25.2.2.2.2.2.2.1 r25.2.2.2.2.2.2.2.1 r25.2.2.2.2.2.2.2.2)), (Ur q9056 39 (C0 r28.1 r28.2.1 r28.2.2.1 r28.2.2.2.1 r28.2.2.2.2.1 r28.2.2.2.2.2.1 r28.2.2.2.2.2.2.1 r28.2.2.2.2.2.2.2.1 r28.2.2.2.2.2.2.2.2)), (Ur q9057 39 (C0 r31.1 r31.2.1 r31.2.2.1 r31.2.2.2.1 r31.2.2.2.2.1 r31.2.2.2.2.2.1 r31.2.2.2.2.2.2.1 r31.2.2.2.2.2.2.2.1 r31.2.2.2.2.2.2.2.2)), (Ur z0 34 (C2 r34.1 r34.2.1 r34.2.2)), (Ur z1 34 (C2 r37.1 r37.2.1 r37.2.2)), (Ur z2 34 (C2 r40.1 r40.2.1 r40.2.2)), (Ur z3 34 (C2 r43.1 r43.2.1 r43.2.2)), (Ur z4 34 (C2 r46.1 r46.2.1 r46.2.2))]⟩) ?_ ?_
   ·rintro z5
    refine ax_nil (by kernel_rfl) ?_
    show TX E K4 _
    refine tx_k' hK4 ?_
    refine cx_seq' fun K5 hK5 => ?_
    refine cx_plana' [] [(16, 1), (17, 1)] [(0, 1), (1, 1), (3, 1), (4, 1), (7, 1), (8, 1), (10, 1), (11, 1)] 10 #[true, true, false, true, true, false, false, true, true, false, true, true, false, false, false, false, false, false] mixed (by kernel_rfl) ?_
    refine pd rfl (rd_load_agg' (i := 10) (o := 0) (nn := 3) rfl (ar rfl rfl rfl rfl) rfl agg34 (l' := (C2 r37.1 r37.2.1 r37.2.2)) rfl) ?_
    refine pd rfl (rd_load_agg' (i := 13) (o := 0) (nn := 3) rfl (ar rfl rfl rfl rfl) rfl agg34 (l' := (C2 r46.1 r46.2.1 r46.2.2)) rfl) ?_
    refine pd rfl (rd_load_agg' (i := 11) (o := 0) (nn := 3) rfl (ar rfl rfl rfl rfl) rfl agg34 (l' := (C2 r40.1 r40.2.1 r40.2.2)) rfl) ?_
    refine pd rfl (rd_load_agg' (i := 12) (o := 0) (nn := 3) rfl (ar rfl rfl rfl rfl) rfl agg34 (l' := (C2 r43.1 r43.2.1 r43.2.2)) rfl) ?_
    refine pd rfl (rd_load_agg' (i := 9) (o := 0) (nn := 3) rfl (ar rfl rfl rfl rfl) rfl agg34 (l' := (C2 r34.1 r34.2.1 r34.2.2)) rfl) ?_
    refine pd rfl (rd_load_agg' (i := 13) (o := 0) (nn := 3) rfl (ar rfl rfl rfl rfl) rfl agg34 (l' := (C2 r46.1 r46.2.1 r46.2.2)) rfl) ?_
    refine pd rfl (rd_load_agg' (i := 10) (o := 0) (nn := 3) rfl (ar rfl rfl rfl rfl) rfl agg34 (l' := (C2 r37.1 r37.2.1 r37.2.2)) rfl) ?_
    refine pd rfl (rd_load_agg' (i := 12) (o := 0) (nn := 3) rfl (ar rfl rfl rfl rfl) rfl agg34 (l' := (C2 r43.1 r43.2.1 r43.2.2)) rfl) ?_
    refine px_nil' ?_
    show AX E _ _ _ _ _ _ _ _
    obtain ⟨r56, hr56, hp⟩ := bind_some hp
    obtain ⟨r59, hr59, hp⟩ := bind_some hp
    obtain ⟨r60, hr60, hp⟩ := bind_some hp
    obtain ⟨r63, hr63, hp⟩ := bind_some hp
    obtain ⟨r66, hr66, hp⟩ := bind_some hp
    obtain ⟨r67, hr67, hp⟩ := bind_some hp
    let LP1 : List (Nat × SV) := [(4, (Vp q4)), (5, (Vp q5)), (6, (Vp q6)), (7, (Vp q7)), (8, (Vp q8)), (9, (Vp q9055)), (10, (Vp q9056)), (11, (Vp q9057)), (17, (Vp z5))]
    let HP1 : List Res := [(Ur q4 39 (C0 a0_0 a0_1 a0_2 a0_3 a0_4 a0_5 a0_6 a0_7 a0_8)), (Ur q5 39 (C0 a1_0 a1_1 a1_2 a1_3 a1_4 a1_5 a1_6 a1_7 a1_8)), (Ur q6 39 (C0 a2_0 a2_1 a2_2 a2_3 a2_4 a2_5 a2_6 a2_7 a2_8)), (Ur q7 39 (C0 a3_0 a3_1 a3_2 a3_3 a3_4 a3_5 a3_6 a3_7 a3_8)), (Ur q8 36 (C5 false 0 false 0)), (Ur q9055 39 (C0 r25.1 r25.2.1 r25.2.2.1 r25.2.2.2.1 r25.2.2.2.2.1 r25.2.2.2.2.2.1 r25.2.2.2.2.2.2.1 r25.2.2.2.2.2.2.2.1 r25.2.2.2.2.2.2.2.2)), (Ur q9056 39 (C0 r28.1 r28.2.1 r28.2.2.1 r28.2.2.2.1 r28.2.2.2.2.1 r28.2.2.2.2.2.1 r28.2.2.2.2.2.2.1 r28.2.2.2.2.2.2.2.1 r28.2.2.2.2.2.2.2.2)), (Ur q9057 39 (C0 r31.1 r31.2.1 r31.2.2.1 r31.2.2.2.1 r31.2.2.2.2.1 r31.2.2.2.2.2.1 r31.2.2.2.2.2.2.1 r31.2.2.2.2.2.2.2.1 r31.2.2.2.2.2.2.2.2)), (Ur z5 34 (C2 r53.1 r53.2.1 r53.2.2))]
    have hLP1 : Sub LP1 LP1 := (u9 rfl rfl rfl rfl rfl rfl rfl rfl rfl)
    have hHP1 : PickAt HP1 [0, 1, 2, 3, 4, 5, 6, 7, 8] HP1 := (p9 rfl rfl rfl rfl rfl rfl rfl rfl rfl)
    have c1 := (spec_Dyadic_Mul_sim _ _ _ _ _ _ hr56)
    have c2 := (spec_Dyadic_Mul_sim _ _ _ _ _ _ hr59)
    have c3 := (spec_Dyadic_Sub_sim _ _ _ _ _ _ hr60)
    have c4 := (spec_Dyadic_Mul_sim _ _ _ _ _ _ hr63)
    have c5 := (spec_Dyadic_Mul_sim _ _ _ _ _ _ hr66)
    have c6 := (spec_Dyadic_Sub_sim _ _ _ _ _ _ hr67)
    let S1 : SV := (Ag (C2 r56.1 r56.2.1 r56.2.2))
    let S2 : SV := (Ag (C2 r40.1 r40.2.1 r40.2.2))
    let S3 : SV := (Ag (C2 r43.1 r43.2.1 r43.2.2))
    let S4 : SV := (Ag (C2 r34.1 r34.2.1 r34.2.2))
    let S5 : SV := (Ag (C2 r46.1 r46.2.1 r46.2.2))
    let S6 : SV := (Ag (C2 r37.1 r37.2.1 r37.2.2))
    let S7 : SV := (Ag (C2 r59.1 r59.2.1 r59.2.2))
    let S8 : SV := (Ag (C2 r60.1 r60.2.1 r60.2.2))
    let S9 : SV := (Ag (C2 r63.1 r63.2.1 r63.2.2))
    let S10 : SV := (Ag (C2 r66.1 r66.2.1 r66.2.2))
    let S11 : SV := (Ag (C2 r67.1 r67.2.1 r67.2.2))
    refine an 0 18 262143 (fun (v267 : A2) => ⟨115, [], [(18, (Vp v267.1)), (19, (Vp v267.2)), (4, (Vp q4)), (5, (Vp q5)), (6, (Vp q6)), (7, (Vp q7)), (8, (Vp q8)), (9, (Vp q9055)), (10, (Vp q9056)), (11, (Vp q9057)), (17, (Vp z5))], [(Ur v267.1 34 (C2 r60.1 r60.2.1 r60.2.2)), (Ur v267.2 34 (C2 r67.1 r67.2.1 r67.2.2)), (Ur q4 39 (C0 a0_0 a0_1 a0_2 a0_3 a0_4 a0_5 a0_6 a0_7 a0_8)), (Ur q5 39 (C0 a1_0 a1_1 a1_2 a1_3 a1_4 a1_5 a1_6 a1_7 a1_8)), (Ur q6 39 (C0 a2_0 a2_1 a2_2 a2_3 a2_4 a2_5 a2_6 a2_7 a2_8)), (Ur q7 39 (C0 a3_0 a3_1 a3_2 a3_3 a3_4 a3_5 a3_6 a3_7 a3_8)), (Ur q8 36 (C5 false 0 false 0)), (Ur q9055 39 (C0 r25.1 r25.2.1 r25.2.2.1 r25.2.2.2.1 r25.2.2.2.2.1 r25.2.2.2.2.2.1 r25.2.2.2.2.2.2.1 r25.2.2.2.2.2.2.2.1 r25.2.2.2.2.2.2.2.2)), (Ur q9056 39 (C0 r28.1 r28.2.1 r28.2.2.1 r28.2.2.2.1 r28.2.2.2.2.1 r28.2.2.2.2.2.1 r28.2.2.2.2.2.2.1 r28.2.2.2.2.2.2.2.1 r28.2.2.2.2.2.2.2.2)), (Ur q9057 39 (C0 r31.1 r31.2.1 r31.2.2.1 r31.2.2.2.1 r31.2.2.2.2.1 r31.2.2.2.2.2.1 r31.2.2.2.2.2.2.1 r31.2.2.2.2.2.2.2.1 r31.2.2.2.2.2.2.2.2)), (Ur z5 34 (C2 r53.1 r53.2.1 r53.2.2))]⟩) ?_ ?_
    ·rintro ⟨z6, z7⟩
     refine ax_nil (by kernel_rfl) ?_
     show TX E K5 _
     refine tx_k' hK5 ?_
     refine cr fun K6 hK6 => ?_
     refine sv (pls := [(0, 2), (2, 1)]) (qs := []) (r := (C1 false 0)) trivial Try.underlying34 has34 places34 info34 rfl rfl rfl ?_
     refine so (ox_alloc' info34 rfl rfl rfl rfl (l := (C1 false 0)) rfl) fun q20 => ?_
     refine so (ox_store' (i := 0) (o := 0) rfl rfl (lv_ag _) (ar rfl rfl rfl rfl) rfl info34 rfl (H' := [(Ur q20 34 (C1 false 0)), (Ur z6 34 (C2 r60.1 r60.2.1 r60.2.2)), (Ur z7 34 (C2 r67.1 r67.2.1 r67.2.2)), (Ur q4 39 (C0 a0_0 a0_1 a0_2 a0_3 a0_4 a0_5 a0_6 a0_7 a0_8)), (Ur q5 39 (C0 a1_0 a1_1 a1_2 a1_3 a1_4 a1_5 a1_6 a1_7 a1_8)), (Ur q6 39 (C0 a2_0 a2_1 a2_2 a2_3 a2_4 a2_5 a2_6 a2_7 a2_8)), (Ur q7 39 (C0 a3_0 a3_1 a3_2 a3_3 a3_4 a3_5 a3_6 a3_7 a3_8)), (Ur q8 36 (C5 false 0 false 0)), (Ur q9055 39 (C0 r25.1 r25.2.1 r25.2.2.1 r25.2.2.2.1 r25.2.2.2.2.1 r25.2.2.2.2.2.1 r25.2.2.2.2.2.2.1 r25.2.2.2.2.2.2.2.1 r25.2.2.2.2.2.2.2.2)), (Ur q9056 39 (C0 r28.1 r28.2.1 r28.2.2.1 r28.2.2.2.1 r28.2.2.2.2.1 r28.2.2.2.2.2.1 r28.2.2.2.2.2.2.1 r28.2.2.2.2.2.2.2.1 r28.2.2.2.2.2.2.2.2)), (Ur q9057 39 (C0 r31.1 r31.2.1 r31.2.2.1 r31.2.2.2.1 r31.2.2.2.2.1 r31.2.2.2.2.2.1 r31.2.2.2.2.2.2.1 r31.2.2.2.2.2.2.2.1 r31.2.2.2.2.2.2.2.2)), (Ur z5 34 (C2 r53.1 r53.2.1 r53.2.2))]) rfl) fun _ => ?_
     refine nk hK6 ?_
     refine cx_seq' fun K7 hK7 => ?_
     refine cr fun K8 hK8 => ?_
     refine s0 (rd_load_agg' (i := 11) (o := 0) (nn := 3) rfl (ar rfl rfl rfl rfl) rfl agg34 (l' := (C2 r53.1 r53.2.1 r53.2.2)) rfl) ?_
     obtain ⟨r70, hr70, hp⟩ := bind_some hp
     refine so (oz (ent_fn' Try.func28 isn28 rfl rfl) (spec_Dyadic_Sign_sim _ _ _ hr70)) fun ⟨⟩ => ?_
     refine sb rfl rfl eg_int ru_gtr ?_
     refine sm rfl ?_
     refine sx_cutn' 5 (fun (v268 : Bool) => (⟨115, [], [(4, (Vp q4)), (5, (Vp q5)), (6, (Vp q6)), (7, (Vp q7)), (8, (Vp q8)), (9, (Vp q9055)), (10, (Vp q9056)), (11, (Vp q9057)), (17, (Vp z5)), (19, (Vp z7)), (20, (Vp q20)), (77, (Vb v268))], [(Ur q4 39 (C0 a0_0 a0_1 a0_2 a0_3 a0_4 a0_5 a0_6 a0_7 a0_8)), (Ur q5 39 (C0 a1_0 a1_1 a1_2 a1_3 a1_4 a1_5 a1_6 a1_7 a1_8)), (Ur q6 39 (C0 a2_0 a2_1 a2_2 a2_3 a2_4 a2_5 a2_6 a2_7 a2_8)), (Ur q7 39 (C0 a3_0 a3_1 a3_2 a3_3 a3_4 a3_5 a3_6 a3_7 a3_8)), (Ur q8 36 (C5 false 0 false 0)), (Ur q9055 39 (C0 r25.1 r25.2.1 r25.2.2.1 r25.2.2.2.1 r25.2.2.2.2.1 r25.2.2.2.2.2.1 r25.2.2.2.2.2.2.1 r25.2.2.2.2.2.2.2.1 r25.2.2.2.2.2.2.2.2)), (Ur q9056 39 (C0 r28.1 r28.2.1 r28.2.2.1 r28.2.2.2.1 r28.2.2.2.2.1 r28.2.2.2.2.2.1 r28.2.2.2.2.2.2.1 r28.2.2.2.2.2.2.2.1 r28.2.2.2.2.2.2.2.2)), (Ur q9057 39 (C0 r31.1 r31.2.1 r31.2.2.1 r31.2.2.2.1 r31.2.2.2.2.1 r31.2.2.2.2.2.1 r31.2.2.2.2.2.2.1 r31.2.2.2.2.2.2.2.1 r31.2.2.2.2.2.2.2.2)), (Ur z5 34 (C2 r53.1 r53.2.1 r53.2.2)), (Ur z7 34 (C2 r67.1 r67.2.1 r67.2.2)), (Ur q20 34 (C1 false 0))]⟩ : St)) (fun (v268 : Bool) => spec_SquareBetween3_j1 k r53 r67 r25 r28 r31 a0_0 a0_1 a0_2 a0_3 a0_4 a0_5 a0_6 a0_7 a0_8 a2_0 a2_1 a2_2 a2_3 a2_4 a2_5 a2_6 a2_7 a2_8 a3_0 a3_1 a3_2 a3_3 a3_4 a3_5 a3_6 a3_7 a3_8 a1_0 a1_1 a1_2 a1_3 a1_4 a1_5 a1_6 a1_7 a1_8 v268 = some out) ?_ ?_
     ·rintro x1 hp
      replace hp : spec_SquareBetween3_j1 k r53 r67 r25 r28 r31 a0_0 a0_1 a0_2 a0_3 a0_4 a0_5 a0_6 a0_7 a0_8 a2_0 a2_1 a2_2 a2_3 a2_4 a2_5 a2_6 a2_7 a2_8 a3_0 a3_1 a3_2 a3_3 a3_4 a3_5 a3_6 a3_7 a3_8 a1_0 a1_1 a1_2 a1_3 a1_4 a1_5 a1_6 a1_7 a1_8 x1 = some out := hp
      unfold spec_SquareBetween3_j1 at hp
      refine sm rfl ?_
      refine sx_cutn' 5 (fun (v269 : Bool) => (⟨115, [], [(4, (Vp q4)), (5, (Vp q5)), (6, (Vp q6)), (7, (Vp q7)), (8, (Vp q8)), (9, (Vp q9055)), (10, (Vp q9056)), (11, (Vp q9057)), (83, (Vb v269))], [(Ur q4 39 (C0 a0_0 a0_1 a0_2 a0_3 a0_4 a0_5 a0_6 a0_7 a0_8)), (Ur q5 39 (C0 a1_0 a1_1 a1_2 a1_3 a1_4 a1_5 a1_6 a1_7 a1_8)), (Ur q6 39 (C0 a2_0 a2_1 a2_2 a2_3 a2_4 a2_5 a2_6 a2_7 a2_8)), (Ur q7 39 (C0 a3_0 a3_1 a3_2 a3_3 a3_4 a3_5 a3_6 a3_7 a3_8)), (Ur q8 36 (C5 false 0 false 0)), (Ur q9055 39 (C0 r25.1 r25.2.1 r25.2.2.1 r25.2.2.2.1 r25.2.2.2.2.1 r25.2.2.2.2.2.1 r25.2.2.2.2.2.2.1 r25.2.2.2.2.2.2.2.1 r25.2.2.2.2.2.2.2.2)), (Ur q9056 39 (C0 r28.1 r28.2.1 r28.2.2.1 r28.2.2.2.1 r28.2.2.2.2.1 r28.2.2.2.2.2.1 r28.2.2.2.2.2.2.1 r28.2.2.2.2.2.2.2.1 r28.2.2.2.2.2.2.2.2)), (Ur q9057 39 (C0 r31.1 r31.2.1 r31.2.2.1 r31.2.2.2.1 r31.2.2.2.2.1 r31.2.2.2.2.2.1 r31.2.2.2.2.2.2.1 r31.2.2.2.2.2.2.2.1 r31.2.2.2.2.2.2.2.2))]⟩ : St)) (fun (v269 : Bool) => spec_SquareBetween3_j2 k r25 r28 r31 a0_0 a0_1 a0_2 a0_3 a0_4 a0_5 a0_6 a0_7 a0_8 a2_0 a2_1 a2_2 a2_3 a2_4 a2_5 a2_6 a2_7 a2_8 a3_0 a3_1 a3_2 a3_3 a3_4 a3_5 a3_6 a3_7 a3_8 a1_0 a1_1 a1_2 a1_3 a1_4 a1_5 a1_6 a1_7 a1_8 v269 = some out) ?_ ?_
      ·rintro x2 hp
       replace hp : spec_SquareBetween3_j2 k r25 r28 r31 a0_0 a0_1 a0_2 a0_3 a0_4 a0_5 a0_6 a0_7 a0_8 a2_0 a2_1 a2_2 a2_3 a2_4 a2_5 a2_6 a2_7 a2_8 a3_0 a3_1 a3_2 a3_3 a3_4 a3_5 a3_6 a3_7 a3_8 a1_0 a1_1 a1_2 a1_3 a1_4 a1_5 a1_6 a1_7 a1_8 x2 = some out := hp
       unfold spec_SquareBetween3_j2 at hp
       refine nk hK8 ?_
       refine cx_cond' rfl (fun h3 => ?_) (fun h3 => ?_)
       ·replace hp := (br_t h3).symm.trans hp
        refine cr fun K11 hK11 => ?_
        refine s0 (rd_load_agg' (i := 5) (o := 0) (nn := 9) rfl (ar rfl rfl rfl rfl) rfl agg39 (l' := (C0 r25.1 r25.2.1 r25.2.2.1 r25.2.2.2.1 r25.2.2.2.2.1 r25.2.2.2.2.2.1 r25.2.2.2.2.2.2.1 r25.2.2.2.2.2.2.2.1 r25.2.2.2.2.2.2.2.2)) rfl) ?_
        refine s0 (rd_load_agg' (i := 6) (o := 0) (nn := 9) rfl (ar rfl rfl rfl rfl) rfl agg39 (l' := (C0 r28.1 r28.2.1 r28.2.2.1 r28.2.2.2.1 r28.2.2.2.2.1 r28.2.2.2.2.2.1 r28.2.2.2.2.2.2.1 r28.2.2.2.2.2.2.2.1 r28.2.2.2.2.2.2.2.2)) rfl) ?_
        obtain ⟨r86, hr86, hp⟩ := bind_some hp
        refine so (oz (ent_fn' Try.func30 isn30 rfl rfl) (spec_Cross3_sim _ _ _ _ _ _ _ _ _ _ _ _ _ _ _ _ _ _ hr86)) fun ⟨⟩ => ?_
        refine so (ox_alloc' info39 rfl rfl rfl rfl (l := (C3 false 0 false 0 false 0)) rfl) fun q21 => ?_
        refine so (ox_store' (i := 0) (o := 0) rfl rfl (lv_ag _) (ar rfl rfl rfl rfl) rfl info39 rfl (H' := [(Ur q21 39 (C0 r86.1 r86.2.1 r86.2.2.1 r86.2.2.2.1 r86.2.2.2.2.1 r86.2.2.2.2.2.1 r86.2.2.2.2.2.2.1 r86.2.2.2.2.2.2.2.1 r86.2.2.2.2.2.2.2.2)), (Ur q4 39 (C0 a0_0 a0_1 a0_2 a0_3 a0_4 a0_5 a0_6 a0_7 a0_8)), (Ur q5 39 (C0 a1_0 a1_1 a1_2 a1_3 a1_4 a1_5 a1_6 a1_7 a1_8)), (Ur q6 39 (C0 a2_0 a2_1 a2_2 a2_3 a2_4 a2_5 a2_6 a2_7 a2_8)), (Ur q7 39 (C0 a3_0 a3_1 a3_2 a3_3 a3_4 a3_5 a3_6 a3_7 a3_8)), (Ur q8 36 (C5 false 0 false 0)), (Ur q9055 39 (C0 r25.1 r25.2.1 r25.2.2.1 r25.2.2.2.1 r25.2.2.2.2.1 r25.2.2.2.2.2.1 r25.2.2.2.2.2.2.1 r25.2.2.2.2.2.2.2.1 r25.2.2.2.2.2.2.2.2)), (Ur q9056 39 (C0 r28.1 r28.2.1 r28.2.2.1 r28.2.2.2.1 r28.2.2.2.2.1 r28.2.2.2.2.2.1 r28.2.2.2.2.2.2.1 r28.2.2.2.2.2.2.2.1 r28.2.2.2.2.2.2.2.2)), (Ur q9057 39 (C0 r31.1 r31.2.1 r31.2.2.1 r31.2.2.2.1 r31.2.2.2.2.1 r31.2.2.2.2.2.1 r31.2.2.2.2.2.2.1 r31.2.2.2.2.2.2.2.1 r31.2.2.2.2.2.2.2.2))]) rfl) fun _ => ?_
        refine nk hK11 ?_
        refine cr fun K12 hK12 => ?_
        refine s0 (rd_load_agg' (i := 0) (o := 0) (nn := 9) rfl (ar rfl rfl rfl rfl) rfl agg39 (l' := (C0 r86.1 r86.2.1 r86.2.2.1 r86.2.2.2.1 r86.2.2.2.2.1 r86.2.2.2.2.2.1 r86.2.2.2.2.2.2.1 r86.2.2.2.2.2.2.2.1 r86.2.2.2.2.2.2.2.2)) rfl) ?_
        refine s0 (rd_load_agg' (i := 8) (o := 0) (nn := 9) rfl (ar rfl rfl rfl rfl) rfl agg39 (l' := (C0 r31.1 r31.2.1 r31.2.2.1 r31.2.2.2.1 r31.2.2.2.2.1 r31.2.2.2.2.2.1 r31.2.2.2.2.2.2.1 r31.2.2.2.2.2.2.2.1 r31.2.2.2.2.2.2.2.2)) rfl) ?_
        obtain ⟨r89, hr89, hp⟩ := bind_some hp
        refine so (oz (ent_fn' Try.func25 isn25 rfl rfl) (spec_Dot3_sim _ _ _ _ _ _ _ _ _ _ _ _ _ _ _ _ _ _ hr89)) fun ⟨⟩ => ?_
        refine so (ox_alloc' info34 rfl rfl rfl rfl (l := (C1 false 0)) rfl) fun q22 => ?_
        refine so (ox_store' (i := 0) (o := 0) rfl rfl (lv_ag _) (ar rfl rfl rfl rfl) rfl info34 rfl (H' := [(Ur q22 34 (C2 r89.1 r89.2.1 r89.2.2)), (Ur q21 39 (C0 r86.1 r86.2.1 r86.2.2.1 r86.2.2.2.1 r86.2.2.2.2.1 r86.2.2.2.2.2.1 r86.2.2.2.2.2.2.1 r86.2.2.2.2.2.2.2.1 r86.2.2.2.2.2.2.2.2)), (Ur q4 39 (C0 a0_0 a0_1 a0_2 a0_3 a0_4 a0_5 a0_6 a0_7 a0_8)), (Ur q5 39 (C0 a1_0 a1_1 a1_2 a1_3 a1_4 a1_5 a1_6 a1_7 a1_8)), (Ur q6 39 (C0 a2_0 a2_1 a2_2 a2_3 a2_4 a2_5 a2_6 a2_7 a2_8)), (Ur q7 39 (C0 a3_0 a3_1 a3_2 a3_3 a3_4 a3_5 a3_6 a3_7 a3_8)), (Ur q8 36 (C5 false 0 false 0)), (Ur q9055 39 (C0 r25.1 r25.2.1 r25.2.2.1 r25.2.2.2.1 r25.2.2.2.2.1 r25.2.2.2.2.2.1 r25.2.2.2.2.2.2.1 r25.2.2.2.2.2.2.2.1 r25.2.2.2.2.2.2.2.2)), (Ur q9056 39 (C0 r28.1 r28.2.1 r28.2.2.1 r28.2.2.2.1 r28.2.2.2.2.1 r28.2.2.2.2.2.1 r28.2.2.2.2.2.2.1 r28.2.2.2.2.2.2.2.1 r28.2.2.2.2.2.2.2.2)), (Ur q9057 39 (C0 r31.1 r31.2.1 r31.2.2.1 r31.2.2.2.1 r31.2.2.2.2.1 r31.2.2.2.2.2.1 r31.2.2.2.2.2.2.1 r31.2.2.2.2.2.2.2.1 r31.2.2.2.2.2.2.2.2))]) rfl) fun _ => ?_
        refine nk hK12 ?_
        refine cx_seq' fun K13 hK13 => ?_
        refine cx_plan' [] [(7, 1)] [(0, 1), (1, 1), (3, 1), (4, 1), (2, 0), (5, 0), (6, 1), (7, 0)] mixed (by kernel_rfl) ?_
        iterate 2 refine pd rfl (rd_load_agg' (i := 0) (o := 0) (nn := 3) rfl (ar rfl rfl rfl rfl) rfl agg34 (l' := (C2 r89.1 r89.2.1 r89.2.2)) rfl) ?_
        iterate 2 refine pd rfl (rd_load_agg' (i := 1) (o := 0) (nn := 9) rfl (ar rfl rfl rfl rfl) rfl agg39 (l' := (C0 r86.1 r86.2.1 r86.2.2.1 r86.2.2.2.1 r86.2.2.2.2.1 r86.2.2.2.2.2.1 r86.2.2.2.2.2.2.1 r86.2.2.2.2.2.2.2.1 r86.2.2.2.2.2.2.2.2)) rfl) ?_
        obtain ⟨r92, hr92, hp⟩ := bind_some hp
        refine px_ox' rfl (oz (ent_fn' Try.func26 isn26 rfl rfl) (spec_Dyadic_Mul_sim _ _ _ _ _ _ hr92)) rfl bs_nil (wt_none' rfl) fun ⟨⟩ => ?_
        obtain ⟨r95, hr95, hp⟩ := bind_some hp
        refine px_ox' rfl (oz (ent_fn' Try.func25 isn25 rfl rfl) (spec_Dot3_sim _ _ _ _ _ _ _ _ _ _ _ _ _ _ _ _ _ _ hr95)) rfl bs_nil (wt_none' rfl) fun ⟨⟩ => ?_
        refine pd rfl (rd_build' (pls := [(0, 3), (3, 3)]) (qs := [(0, (C2 r92.1 r92.2.1 r92.2.2)), (1, (C2 r95.1 r95.2.1 r95.2.2))]) (r := (C4 r92.1 r92.2.1 r92.2.2 r95.1 r95.2.1 r95.2.2)) ⟨rfl, ⟨_, rfl, (lv_ag _)⟩, ⟨rfl, ⟨_, rfl, (lv_ag _)⟩, trivial⟩⟩ Try.underlying36 has36 places36 info36 rfl rfl rfl) ?_
        refine px_oxv' rfl (oxv_store (i := 6) (o := 0) rfl rfl (lv_ag _) (ar rfl rfl rfl rfl) rfl info36 rfl (H' := [(Ur q22 34 (C2 r89.1 r89.2.1 r89.2.2)), (Ur q21 39 (C0 r86.1 r86.2.1 r86.2.2.1 r86.2.2.2.1 r86.2.2.2.2.1 r86.2.2.2.2.2.1 r86.2.2.2.2.2.2.1 r86.2.2.2.2.2.2.2.1 r86.2.2.2.2.2.2.2.2)), (Ur q4 39 (C0 a0_0 a0_1 a0_2 a0_3 a0_4 a0_5 a0_6 a0_7 a0_8)), (Ur q5 39 (C0 a1_0 a1_1 a1_2 a1_3 a1_4 a1_5 a1_6 a1_7 a1_8)), (Ur q6 39 (C0 a2_0 a2_1 a2_2 a2_3 a2_4 a2_5 a2_6 a2_7 a2_8)), (Ur q7 39 (C0 a3_0 a3_1 a3_2 a3_3 a3_4 a3_5 a3_6 a3_7 a3_8)), (Ur q8 36 (C4 r92.1 r92.2.1 r92.2.2 r95.1 r95.2.1 r95.2.2)), (Ur q9055 39 (C0 r25.1 r25.2.1 r25.2.2.1 r25.2.2.2.1 r25.2.2.2.2.1 r25.2.2.2.2.2.1 r25.2.2.2.2.2.2.1 r25.2.2.2.2.2.2.2.1 r25.2.2.2.2.2.2.2.2)), (Ur q9056 39 (C0 r28.1 r28.2.1 r28.2.2.1 r28.2.2.2.1 r28.2.2.2.2.1 r28.2.2.2.2.2.1 r28.2.2.2.2.2.2.1 r28.2.2.2.2.2.2.2.1 r28.2.2.2.2.2.2.2.2)), (Ur q9057 39 (C0 r31.1 r31.2.1 r31.2.2.1 r31.2.2.2.1 r31.2.2.2.2.1 r31.2.2.2.2.2.1 r31.2.2.2.2.2.2.1 r31.2.2.2.2.2.2.2.1 r31.2.2.2.2.2.2.2.2))]) rfl) rfl rfl bo_nil (wt_none' rfl) fun _ => ?_
        refine px_nil' ?_
        show TX E K13 _
        refine tx_k' hK13 ?_
        refine cx_retc' ?_
        replace hp := sj hp
        subst hp
        refine tk (L' := [(8, (Vp q8))]) (H' := [(Ur q8 36 (C4 r92.1 r92.2.1 r92.2.2 r95.1 r95.2.1 r95.2.2))]) [6] (uc rfl un) (pc rfl pn) ?_
        exact tx_ret1' Try.results9 rfl () (rv_cell_agg' (i := 0) (o := 0) (nn := 6) rfl (ar rfl rfl rfl rfl) rfl agg36 rfl) (List.nil_sublist _)
       replace hp := (br_f h3).symm.trans hp
       refine cx_skip' ?_
       show TX E K7 _
       refine tx_k' hK7 ?_
       refine cx_seq' fun K14 hK14 => ?_
       refine cx_plan' [] [(18, 1)] [(0, 1), (1, 1), (2, 1), (4, 1), (5, 1), (6, 1), (8, 1), (9, 1), (10, 1), (12, 1), (13, 1), (14, 1), (3, 0), (7, 0), (11, 0), (15, 0), (16, 0), (17, 0), (18, 0)] mixed (by kernel_rfl) ?_
       refine pd rfl (rd_load_agg' (i := 0) (o := 0) (nn := 9) rfl (ar rfl rfl rfl rfl) rfl agg39 (l' := (C0 a0_0 a0_1 a0_2 a0_3 a0_4 a0_5 a0_6 a0_7 a0_8)) rfl) ?_
       refine pd rfl (rd_load_agg' (i := 2) (o := 0) (nn := 9) rfl (ar rfl rfl rfl rfl) rfl agg39 (l' := (C0 a2_0 a2_1 a2_2 a2_3 a2_4 a2_5 a2_6 a2_7 a2_8)) rfl) ?_
       refine pd rfl (rd_load_agg' (i := 3) (o := 0) (nn := 9) rfl (ar rfl rfl rfl rfl) rfl agg39 (l' := (C0 a3_0 a3_1 a3_2 a3_3 a3_4 a3_5 a3_6 a3_7 a3_8)) rfl) ?_
       refine pd rfl (rd_load_agg' (i := 1) (o := 0) (nn := 9) rfl (ar rfl rfl rfl rfl) rfl agg39 (l' := (C0 a1_0 a1_1 a1_2 a1_3 a1_4 a1_5 a1_6 a1_7 a1_8)) rfl) ?_
       refine pd rfl (rd_load_agg' (i := 2) (o := 0) (nn := 9) rfl (ar rfl rfl rfl rfl) rfl agg39 (l' := (C0 a2_0 a2_1 a2_2 a2_3 a2_4 a2_5 a2_6 a2_7 a2_8)) rfl) ?_
       refine pd rfl (rd_load_agg' (i := 3) (o := 0) (nn := 9) rfl (ar rfl rfl rfl rfl) rfl agg39 (l' := (C0 a3_0 a3_1 a3_2 a3_3 a3_4 a3_5 a3_6 a3_7 a3_8)) rfl) ?_
       refine pd rfl (rd_load_agg' (i := 2) (o := 0) (nn := 9) rfl (ar rfl rfl rfl rfl) rfl agg39 (l' := (C0 a2_0 a2_1 a2_2 a2_3 a2_4 a2_5 a2_6 a2_7 a2_8)) rfl) ?_
       refine pd rfl (rd_load_agg' (i := 0) (o := 0) (nn := 9) rfl (ar rfl rfl rfl rfl) rfl agg39 (l' := (C0 a0_0 a0_1 a0_2 a0_3 a0_4 a0_5 a0_6 a0_7 a0_8)) rfl) ?_
       refine pd rfl (rd_load_agg' (i := 1) (o := 0) (nn := 9) rfl (ar rfl rfl rfl rfl) rfl agg39 (l' := (C0 a1_0 a1_1 a1_2 a1_3 a1_4 a1_5 a1_6 a1_7 a1_8)) rfl) ?_
       refine pd rfl (rd_load_agg' (i := 3) (o := 0) (nn := 9) rfl (ar rfl rfl rfl rfl) rfl agg39 (l' := (C0 a3_0 a3_1 a3_2 a3_3 a3_4 a3_5 a3_6 a3_7 a3_8)) rfl) ?_
       refine pd rfl (rd_load_agg' (i := 0) (o := 0) (nn := 9) rfl (ar rfl rfl rfl rfl) rfl agg39 (l' := (C0 a0_0 a0_1 a0_2 a0_3 a0_4 a0_5 a0_6 a0_7 a0_8)) rfl) ?_
       refine pd rfl (rd_load_agg' (i := 1) (o := 0) (nn := 9) rfl (ar rfl rfl rfl rfl) rfl agg39 (l' := (C0 a1_0 a1_1 a1_2 a1_3 a1_4 a1_5 a1_6 a1_7 a1_8)) rfl) ?_
       obtain ⟨r100, hr100, hp⟩ := bind_some hp
       refine px_ox' rfl (oz (ent_fn' Try.func32 isn32 rfl rfl) (spec_SquareTo3_sim _ _ _ _ _ _ _ _ _ _ _ _ _ _ _ _ _ _ _ _ _ _ _ _ _ _ _ hr100)) rfl bs_nil (wt_none' rfl) fun ⟨⟩ => ?_
       obtain ⟨r104, hr104, hp⟩ := bind_some hp
       refine px_ox' rfl (oz (ent_fn' Try.func32 isn32 rfl rfl) (spec_SquareTo3_sim _ _ _ _ _ _ _ _ _ _ _ _ _ _ _ _ _ _ _ _ _ _ _ _ _ _ _ hr104)) rfl bs_nil (wt_none' rfl) fun ⟨⟩ => ?_
       obtain ⟨r108, hr108, hp⟩ := bind_some hp
       refine px_ox' rfl (oz (ent_fn' Try.func32 isn32 rfl rfl) (spec_SquareTo3_sim _ _ _ _ _ _ _ _ _ _ _ _ _ _ _ _ _ _ _ _ _ _ _ _ _ _ _ hr108)) rfl bs_nil (wt_none' rfl) fun ⟨⟩ => ?_
       obtain ⟨r112, hr112, hp⟩ := bind_some hp
       refine px_ox' rfl (oz (ent_fn' Try.func32 isn32 rfl rfl) (spec_SquareTo3_sim _ _ _ _ _ _ _ _ _ _ _ _ _ _ _ _ _ _ _ _ _ _ _ _ _ _ _ hr112)) rfl bs_nil (wt_none' rfl) fun ⟨⟩ => ?_
       refine px_ox' rfl (ox_rowlit' (K := KT36) (xs := [(r100.1, r100.2.1, r100.2.2.1, r100.2.2.2.1, r100.2.2.2.2.1, r100.2.2.2.2.2), (r104.1, r104.2.1, r104.2.2.1, r104.2.2.2.1, r104.2.2.2.2.1, r104.2.2.2.2.2), (r108.1, r108.2.1, r108.2.2.1, r108.2.2.2.1, r108.2.2.2.2.1, r108.2.2.2.2.2), (r112.1, r112.2.1, r112.2.2.1, r112.2.2.2.1, r112.2.2.2.2.1, r112.2.2.2.2.2)]) (qs := [(0, (C4 r100.1 r100.2.1 r100.2.2.1 r100.2.2.2.1 r100.2.2.2.2.1 r100.2.2.2.2.2)), (1, (C4 r104.1 r104.2.1 r104.2.2.1 r104.2.2.2.1 r104.2.2.2.2.1 r104.2.2.2.2.2)), (2, (C4 r108.1 r108.2.1 r108.2.2.1 r108.2.2.2.1 r108.2.2.2.2.1 r108.2.2.2.2.2)), (3, (C4 r112.1 r112.2.1 r112.2.2.1 r112.2.2.2.1 r112.2.2.2.2.1 r112.2.2.2.2.2))]) ⟨rfl, ⟨_, rfl, (lv_ag _)⟩, ⟨rfl, ⟨_, rfl, (lv_ag _)⟩, ⟨rfl, ⟨_, rfl, (lv_ag _)⟩, ⟨rfl, ⟨_, rfl, (lv_ag _)⟩, trivial⟩⟩⟩⟩ Try.underlying87 info36 rfl rfl rfl rfl rfl (by kernel_rfl) rfl rfl rfl) rfl bs_nil (wt_none' rfl) fun g113 => ?_
       refine tx_fz' (frz_row 0 [(113, (Vw g113), (Sl KT36 ([(r100.1, r100.2.1, r100.2.2.1, r100.2.2.2.1, r100.2.2.2.2.1, r100.2.2.2.2.2), (r104.1, r104.2.1, r104.2.2.1, r104.2.2.2.1, r104.2.2.2.2.1, r104.2.2.2.2.2), (r108.1, r108.2.1, r108.2.2.1, r108.2.2.2.1, r108.2.2.2.2.1, r108.2.2.2.2.2), (r112.1, r112.2.1, r112.2.2.1, r112.2.2.2.1, r112.2.2.2.2.1, r112.2.2.2.2.2)])))] (K := KT36) (xs := [(r100.1, r100.2.1, r100.2.2.1, r100.2.2.2.1, r100.2.2.2.2.1, r100.2.2.2.2.2), (r104.1, r104.2.1, r104.2.2.1, r104.2.2.2.1, r104.2.2.2.2.1, r104.2.2.2.2.2), (r108.1, r108.2.1, r108.2.2.1, r108.2.2.2.1, r108.2.2.2.2.1, r108.2.2.2.2.2), (r112.1, r112.2.1, r112.2.2.1, r112.2.2.2.1, r112.2.2.2.2.1, r112.2.2.2.2.2)]) (by decide) rfl ⟨⟨rfl, frz_it⟩, trivial⟩ (H' := [(Ur q4 39 (C0 a0_0 a0_1 a0_2 a0_3 a0_4 a0_5 a0_6 a0_7 a0_8)), (Ur q5 39 (C0 a1_0 a1_1 a1_2 a1_3 a1_4 a1_5 a1_6 a1_7 a1_8)), (Ur q6 39 (C0 a2_0 a2_1 a2_2 a2_3 a2_4 a2_5 a2_6 a2_7 a2_8)), (Ur q7 39 (C0 a3_0 a3_1 a3_2 a3_3 a3_4 a3_5 a3_6 a3_7 a3_8)), (Ur q8 36 (C5 false 0 false 0)), (Ur q9055 39 (C0 r25.1 r25.2.1 r25.2.2.1 r25.2.2.2.1 r25.2.2.2.2.1 r25.2.2.2.2.2.1 r25.2.2.2.2.2.2.1 r25.2.2.2.2.2.2.2.1 r25.2.2.2.2.2.2.2.2)), (Ur q9056 39 (C0 r28.1 r28.2.1 r28.2.2.1 r28.2.2.2.1 r28.2.2.2.2.1 r28.2.2.2.2.2.1 r28.2.2.2.2.2.2.1 r28.2.2.2.2.2.2.2.1 r28.2.2.2.2.2.2.2.2)), (Ur q9057 39 (C0 r31.1 r31.2.1 r31.2.2.1 r31.2.2.2.1 r31.2.2.2.2.1 r31.2.2.2.2.2.1 r31.2.2.2.2.2.2.1 r31.2.2.2.2.2.2.2.1 r31.2.2.2.2.2.2.2.2))]) frzH_refl) ?_
       obtain ⟨r114, hr114, hp⟩ := bind_some hp
       refine px_ox' rfl (oz (ent_fn' Try.func31 isn31 rfl rfl) (spec_LeastRatio_sim _ hr114)) rfl bs_nil (wt_none' rfl) fun ⟨⟩ => ?_
       refine px_oxv' rfl (oxv_store (i := 4) (o := 0) rfl rfl (lv_ag _) (ar rfl rfl rfl rfl) rfl info36 rfl (H' := [(Ur q4 39 (C0 a0_0 a0_1 a0_2 a0_3 a0_4 a0_5 a0_6 a0_7 a0_8)), (Ur q5 39 (C0 a1_0 a1_1 a1_2 a1_3 a1_4 a1_5 a1_6 a1_7 a1_8)), (Ur q6 39 (C0 a2_0 a2_1 a2_2 a2_3 a2_4 a2_5 a2_6 a2_7 a2_8)), (Ur q7 39 (C0 a3_0 a3_1 a3_2 a3_3 a3_4 a3_5 a3_6 a3_7 a3_8)), (Ur q8 36 (C4 r114.1 r114.2.1 r114.2.2.1 r114.2.2.2.1 r114.2.2.2.2.1 r114.2.2.2.2.2)), (Ur q9055 39 (C0 r25.1 r25.2.1 r25.2.2.1 r25.2.2.2.1 r25.2.2.2.2.1 r25.2.2.2.2.2.1 r25.2.2.2.2.2.2.1 r25.2.2.2.2.2.2.2.1 r25.2.2.2.2.2.2.2.2)), (Ur q9056 39 (C0 r28.1 r28.2.1 r28.2.2.1 r28.2.2.2.1 r28.2.2.2.2.1 r28.2.2.2.2.2.1 r28.2.2.2.2.2.2.1 r28.2.2.2.2.2.2.2.1 r28.2.2.2.2.2.2.2.2)), (Ur q9057 39 (C0 r31.1 r31.2.1 r31.2.2.1 r31.2.2.2.1 r31.2.2.2.2.1 r31.2.2.2.2.2.1 r31.2.2.2.2.2.2.1 r31.2.2.2.2.2.2.2.1 r31.2.2.2.2.2.2.2.2))]) rfl) rfl rfl bo_nil (wt_none' rfl) fun _ => ?_
       refine px_nil' ?_
       show TX E K14 _
       refine tx_k' hK14 ?_
       refine cx_retc' ?_
       replace hp := sj hp
       subst hp
       refine tk (L' := [(8, (Vp q8))]) (H' := [(Ur q8 36 (C4 r114.1 r114.2.1 r114.2.2.1 r114.2.2.2.1 r114.2.2.2.2.1 r114.2.2.2.2.2))]) [4] (uc rfl un) (pc rfl pn) ?_
       exact tx_ret1' Try.results9 rfl () (rv_cell_agg' (i := 0) (o := 0) (nn := 6) rfl (ar rfl rfl rfl rfl) rfl agg36 rfl) (List.nil_sublist _)
      intro K10 hK10
      rcases br_cases hp with ⟨h2, hp⟩ | ⟨h2, hp⟩
      ·refine sx_rd' (rd_load_agg' (i := 10) (o := 0) (nn := 3) rfl (ar rfl rfl rfl rfl) rfl agg34 (l' := (C1 false 0)) rfl) rfl rfl (wt_is' (wt_guard' rfl rfl rfl) (beq_tt h2)) ?_
       refine sx_rd' (rd_load_agg' (i := 8) (o := 0) (nn := 3) rfl (ar rfl rfl rfl rfl) rfl agg34 (l' := (C2 r53.1 r53.2.1 r53.2.2)) rfl) rfl rfl (wt_is' (wt_guard' rfl rfl rfl) (beq_tt h2)) ?_
       refine sx_rd' (rd_load_agg' (i := 9) (o := 0) (nn := 3) rfl (ar rfl rfl rfl rfl) rfl agg34 (l' := (C2 r67.1 r67.2.1 r67.2.2)) rfl) rfl rfl (wt_is' (wt_guard' rfl rfl rfl) (beq_tt h2)) ?_
       refine tx_slot' 79 (y := (Ag [(Vb false), (Sl (Ki .u32) []), (Vi 0)])) rfl (imp_ag ⟨imp_refl, imp_nil, imp_refl, trivial⟩) ?_
       obtain ⟨r82, hr82, hp⟩ := bind_some hp
       refine sx_ox' (oz (ent_fn' Try.func29 isn29 rfl rfl) (spec_Between_sim _ _ _ _ _ _ _ _ _ hr82)) (wt_is' (wt_guard' rfl rfl rfl) (beq_tt h2)) fun ⟨⟩ => ?_
       refine s0 (rd_pick_true' rfl h2 rfl) ?_
       refine sx_nil' ?_
       show TX E K10 _
       exact tk [0,1,2,3,4,5,6,7] (u9 rfl rfl rfl rfl rfl rfl rfl rfl rfl) (p8 rfl rfl rfl rfl rfl rfl rfl rfl) (hK10 r82 hp)
      iterate 4 refine sx_skip' rfl rfl (wt_is' (wt_guard' rfl rfl rfl) (beq_ft h2)) ?_
      refine s0 (rd_pick_false' rfl h2 rfl) ?_
      refine sx_nil' ?_
      show TX E K10 _
      exact tk [0,1,2,3,4,5,6,7] (u9 rfl rfl rfl rfl rfl rfl rfl rfl rfl) (p8 rfl rfl rfl rfl rfl rfl rfl rfl) (hK10 false hp)
     intro K9 hK9
     rcases br_cases hp with ⟨h1, hp⟩ | ⟨h1, hp⟩
     ·refine sx_rd' (rd_load_agg' (i := 0) (o := 0) (nn := 3) rfl (ar rfl rfl rfl rfl) rfl agg34 (l' := (C1 false 0)) rfl) rfl rfl (wt_is' (wt_guard' rfl rfl rfl) (beq_tt h1)) ?_
      refine sx_rd' (rd_load_agg' (i := 11) (o := 0) (nn := 3) rfl (ar rfl rfl rfl rfl) rfl agg34 (l' := (C2 r53.1 r53.2.1 r53.2.2)) rfl) rfl rfl (wt_is' (wt_guard' rfl rfl rfl) (beq_tt h1)) ?_
      refine sx_rd' (rd_load_agg' (i := 1) (o := 0) (nn := 3) rfl (ar rfl rfl rfl rfl) rfl agg34 (l' := (C2 r60.1 r60.2.1 r60.2.2)) rfl) rfl rfl (wt_is' (wt_guard' rfl rfl rfl) (beq_tt h1)) ?_
      refine tx_slot' 73 (y := (Ag [(Vb false), (Sl (Ki .u32) []), (Vi 0)])) rfl (imp_ag ⟨imp_refl, imp_nil, imp_refl, trivial⟩) ?_
      obtain ⟨r76, hr76, hp⟩ := bind_some hp
      refine sx_ox' (oz (ent_fn' Try.func29 isn29 rfl rfl) (spec_Between_sim _ _ _ _ _ _ _ _ _ hr76)) (wt_is' (wt_guard' rfl rfl rfl) (beq_tt h1)) fun ⟨⟩ => ?_
      refine s0 (rd_pick_true' rfl h1 rfl) ?_
      refine sx_nil' ?_
      show TX E K9 _
      exact tk [3,4,5,6,7,8,9,10,11,2,0] (u12 rfl rfl rfl rfl rfl rfl rfl rfl rfl rfl rfl rfl) (p11 rfl rfl rfl rfl rfl rfl rfl rfl rfl rfl rfl) (hK9 r76 hp)
     iterate 4 refine sx_skip' rfl rfl (wt_is' (wt_guard' rfl rfl rfl) (beq_ft h1)) ?_
     refine s0 (rd_pick_false' rfl h1 rfl) ?_
     refine sx_nil' ?_
     show TX E K9 _
     exact tk [3,4,5,6,7,8,9,10,11,2,0] (u12 rfl rfl rfl rfl rfl rfl rfl rfl rfl rfl rfl rfl) (p11 rfl rfl rfl rfl rfl rfl rfl rfl rfl rfl rfl) (hK9 false hp)
    intro hN30
    refine an 1 18 131071 (fun (v266 : A2) => ⟨115, [], (18, Vp v266.1) :: (19, Vp v266.2) :: (67, S11) :: LP1, Ur v266.1 34 (C2 r60.1 r60.2.1 r60.2.2) :: Ur v266.2 34 (C1 false 0) :: HP1⟩) ?_ ?_
    ·rintro ⟨z8, z9⟩
     refine al1 17 (by kernel_rfl) ?_
     ·refine nx_oxv rfl (oxv_store (i := 1) (o := 0) rfl rfl (lv_ag _) (ar rfl rfl rfl rfl) rfl info34 rfl (H' := [(Ur z8 34 (C2 r60.1 r60.2.1 r60.2.2)), (Ur z9 34 (C2 r67.1 r67.2.1 r67.2.2)), (Ur q4 39 (C0 a0_0 a0_1 a0_2 a0_3 a0_4 a0_5 a0_6 a0_7 a0_8)), (Ur q5 39 (C0 a1_0 a1_1 a1_2 a1_3 a1_4 a1_5 a1_6 a1_7 a1_8)), (Ur q6 39 (C0 a2_0 a2_1 a2_2 a2_3 a2_4 a2_5 a2_6 a2_7 a2_8)), (Ur q7 39 (C0 a3_0 a3_1 a3_2 a3_3 a3_4 a3_5 a3_6 a3_7 a3_8)), (Ur q8 36 (C5 false 0 false 0)), (Ur q9055 39 (C0 r25.1 r25.2.1 r25.2.2.1 r25.2.2.2.1 r25.2.2.2.2.1 r25.2.2.2.2.2.1 r25.2.2.2.2.2.2.1 r25.2.2.2.2.2.2.2.1 r25.2.2.2.2.2.2.2.2)), (Ur q9056 39 (C0 r28.1 r28.2.1 r28.2.2.1 r28.2.2.2.1 r28.2.2.2.2.1 r28.2.2.2.2.2.1 r28.2.2.2.2.2.2.1 r28.2.2.2.2.2.2.2.1 r28.2.2.2.2.2.2.2.2)), (Ur q9057 39 (C0 r31.1 r31.2.1 r31.2.2.1 r31.2.2.2.1 r31.2.2.2.2.1 r31.2.2.2.2.2.1 r31.2.2.2.2.2.2.1 r31.2.2.2.2.2.2.2.1 r31.2.2.2.2.2.2.2.2)), (Ur z5 34 (C2 r53.1 r53.2.1 r53.2.2))]) rfl) rfl rfl bo_nil (wt_none' rfl) rfl fun _ => ?_
      exact tk [0,1,2,3,4,5,6,7,8,9,10] (u11 rfl rfl rfl rfl rfl rfl rfl rfl rfl rfl rfl) (p11 rfl rfl rfl rfl rfl rfl rfl rfl rfl rfl rfl) (hN30 (z8, z9))
    intro hN29
    refine an 2 18 65535 (fun (v265 : A2) => ⟨115, [], (18, Vp v265.1) :: (19, Vp v265.2) :: (60, S8) :: (67, S11) :: LP1, Ur v265.1 34 (C1 false 0) :: Ur v265.2 34 (C1 false 0) :: HP1⟩) ?_ ?_
    ·rintro ⟨z10, z11⟩
     refine al1 16 (by kernel_rfl) ?_
     ·refine nx_oxv rfl (oxv_store (i := 0) (o := 0) rfl rfl (lv_ag _) (ar rfl rfl rfl rfl) rfl info34 rfl (H' := [(Ur z10 34 (C2 r60.1 r60.2.1 r60.2.2)), (Ur z11 34 (C1 false 0)), (Ur q4 39 (C0 a0_0 a0_1 a0_2 a0_3 a0_4 a0_5 a0_6 a0_7 a0_8)), (Ur q5 39 (C0 a1_0 a1_1 a1_2 a1_3 a1_4 a1_5 a1_6 a1_7 a1_8)), (Ur q6 39 (C0 a2_0 a2_1 a2_2 a2_3 a2_4 a2_5 a2_6 a2_7 a2_8)), (Ur q7 39 (C0 a3_0 a3_1 a3_2 a3_3 a3_4 a3_5 a3_6 a3_7 a3_8)), (Ur q8 36 (C5 false 0 false 0)), (Ur q9055 39 (C0 r25.1 r25.2.1 r25.2.2.1 r25.2.2.2.1 r25.2.2.2.2.1 r25.2.2.2.2.2.1 r25.2.2.2.2.2.2.1 r25.2.2.2.2.2.2.2.1 r25.2.2.2.2.2.2.2.2)), (Ur q9056 39 (C0 r28.1 r28.2.1 r28.2.2.1 r28.2.2.2.1 r28.2.2.2.2.1 r28.2.2.2.2.2.1 r28.2.2.2.2.2.2.1 r28.2.2.2.2.2.2.2.1 r28.2.2.2.2.2.2.2.2)), (Ur q9057 39 (C0 r31.1 r31.2.1 r31.2.2.1 r31.2.2.2.1 r31.2.2.2.2.1 r31.2.2.2.2.2.1 r31.2.2.2.2.2.2.1 r31.2.2.2.2.2.2.2.1 r31.2.2.2.2.2.2.2.2)), (Ur z5 34 (C2 r53.1 r53.2.1 r53.2.2))]) rfl) rfl rfl bo_nil (wt_none' rfl) rfl fun _ => ?_
      exact tj [0,1,2,3,4,5,6,7,8,9,10] (hN29 (z10, z11)) (U3 rfl rfl rfl hLP1) (P2 rfl rfl hHP1)
    intro hN28
    refine an 3 18 32767 (fun (v262 : Addr) => ⟨115, [], (18, Vp v262) :: (60, S8) :: (67, S11) :: LP1, Ur v262 34 (C1 false 0) :: HP1⟩) ?_ ?_
    ·rintro z12
     refine al1 15 (by kernel_rfl) ?_
     ·exact na rfl info34 (C1 false 0) fun q19 => tj [1,0,2,3,4,5,6,7,8,9,10] (hN28 (z12, q19)) (U4 rfl rfl rfl rfl hLP1) (P2 rfl rfl hHP1)
    intro hN25
    refine an 3 18 49151 (fun (v263 : Addr) => ⟨115, [], (19, Vp v263) :: (60, S8) :: (67, S11) :: LP1, Ur v263 34 (C1 false 0) :: HP1⟩) ?_ ?_
    ·rintro z13
     refine al1 14 (by kernel_rfl) ?_
     ·exact na rfl info34 (C1 false 0) fun q18 => tj [0,1,2,3,4,5,6,7,8,9,10] (hN28 (q18, z13)) (U4 rfl rfl rfl rfl hLP1) (P2 rfl rfl hHP1)
    intro hN26
    refine an 3 18 57343 (fun (v264 : A2) => ⟨115, [], (18, Vp v264.1) :: (19, Vp v264.2) :: (60, S8) :: (63, S9) :: (66, S10) :: LP1, Ur v264.1 34 (C1 false 0) :: Ur v264.2 34 (C1 false 0) :: HP1⟩) ?_ ?_
    ·rintro ⟨z14, z15⟩
     refine al1 13 (by kernel_rfl) ?_
     ·exact no rfl (oz (ent_fn' Try.func27 isn27 rfl rfl) c6) fun _ => tj [0,1,2,3,4,5,6,7,8,9,10] (hN28 (z14, z15)) (U4 rfl rfl rfl rfl hLP1) (P2 rfl rfl hHP1)
    intro hN27
    refine an 4 18 16383 (fun (v258 : Unit) => ⟨115, [], (60, S8) :: (67, S11) :: LP1, HP1⟩) ?_ ?_
    ·rintro ⟨⟩
     refine al2 14 15 (by kernel_rfl) ?_ ?_
     ·exact na rfl info34 (C1 false 0) fun q18 => tj [0,1,2,3,4,5,6,7,8,9] (hN25 q18) (U3 rfl rfl rfl hLP1) (P1 rfl hHP1)
     exact na rfl info34 (C1 false 0) fun q19 => tj [0,1,2,3,4,5,6,7,8,9] (hN26 q19) (U3 rfl rfl rfl hLP1) (P1 rfl hHP1)
    intro hN21
    refine an 4 18 24575 (fun (v259 : Addr) => ⟨115, [], (18, Vp v259) :: (60, S8) :: (63, S9) :: (66, S10) :: LP1, Ur v259 34 (C1 false 0) :: HP1⟩) ?_ ?_
    ·rintro z16
     refine al2 13 15 (by kernel_rfl) ?_ ?_
     ·exact no rfl (oz (ent_fn' Try.func27 isn27 rfl rfl) c6) fun _ => tj [0,1,2,3,4,5,6,7,8,9] (hN25 z16) (U3 rfl rfl rfl hLP1) (P1 rfl hHP1)
     exact na rfl info34 (C1 false 0) fun q19 => tj [1,0,2,3,4,5,6,7,8,9,10] (hN27 (z16, q19)) (U5 rfl rfl rfl rfl rfl hLP1) (P2 rfl rfl hHP1)
    intro hN22
    refine an 4 18 40959 (fun (v260 : Addr) => ⟨115, [], (19, Vp v260) :: (60, S8) :: (63, S9) :: (66, S10) :: LP1, Ur v260 34 (C1 false 0) :: HP1⟩) ?_ ?_
    ·rintro z17
     refine al2 13 14 (by kernel_rfl) ?_ ?_
     ·exact no rfl (oz (ent_fn' Try.func27 isn27 rfl rfl) c6) fun _ => tj [0,1,2,3,4,5,6,7,8,9] (hN26 z17) (U3 rfl rfl rfl hLP1) (P1 rfl hHP1)
     exact na rfl info34 (C1 false 0) fun q18 => tj [0,1,2,3,4,5,6,7,8,9,10] (hN27 (q18, z17)) (U5 rfl rfl rfl rfl rfl hLP1) (P2 rfl rfl hHP1)
    intro hN23
    refine an 4 18 53247 (fun (v261 : A2) => ⟨115, [], (18, Vp v261.1) :: (19, Vp v261.2) :: (60, S8) :: (63, S9) :: (64, S6) :: (65, S3) :: LP1, Ur v261.1 34 (C1 false 0) :: Ur v261.2 34 (C1 false 0) :: HP1⟩) ?_ ?_
    ·rintro ⟨z18, z19⟩
     refine al1 12 (by kernel_rfl) ?_
     ·exact no rfl (oz (ent_fn' Try.func26 isn26 rfl rfl) c5) fun _ => tj [0,1,2,3,4,5,6,7,8,9,10] (hN27 (z18, z19)) (U5 rfl rfl rfl rfl rfl hLP1) (P2 rfl rfl hHP1)
    intro hN24
    refine an 5 18 8191 (fun (v254 : Unit) => ⟨115, [], (60, S8) :: (63, S9) :: (66, S10) :: LP1, HP1⟩) ?_ ?_
    ·rintro ⟨⟩
     refine al3 13 14 15 (by kernel_rfl) ?_ ?_ ?_
     ·exact no rfl (oz (ent_fn' Try.func27 isn27 rfl rfl) c6) fun _ => tj [0,1,2,3,4,5,6,7,8] (hN21 ()) (U2 rfl rfl hLP1) hHP1
     ·exact na rfl info34 (C1 false 0) fun q18 => tj [0,1,2,3,4,5,6,7,8,9] (hN22 q18) (U4 rfl rfl rfl rfl hLP1) (P1 rfl hHP1)
     exact na rfl info34 (C1 false 0) fun q19 => tj [0,1,2,3,4,5,6,7,8,9] (hN23 q19) (U4 rfl rfl rfl rfl hLP1) (P1 rfl hHP1)
    intro hN17
    refine an 5 18 20479 (fun (v255 : Addr) => ⟨115, [], (18, Vp v255) :: (60, S8) :: (63, S9) :: (64, S6) :: (65, S3) :: LP1, Ur v255 34 (C1 false 0) :: HP1⟩) ?_ ?_
    ·rintro z20
     refine al2 12 15 (by kernel_rfl) ?_ ?_
     ·exact no rfl (oz (ent_fn' Try.func26 isn26 rfl rfl) c5) fun _ => tj [0,1,2,3,4,5,6,7,8,9] (hN22 z20) (U4 rfl rfl rfl rfl hLP1) (P1 rfl hHP1)
     exact na rfl info34 (C1 false 0) fun q19 => tj [1,0,2,3,4,5,6,7,8,9,10] (hN24 (z20, q19)) (U6 rfl rfl rfl rfl rfl rfl hLP1) (P2 rfl rfl hHP1)
    intro hN18
    refine an 5 18 36863 (fun (v256 : Addr) => ⟨115, [], (19, Vp v256) :: (60, S8) :: (63, S9) :: (64, S6) :: (65, S3) :: LP1, Ur v256 34 (C1 false 0) :: HP1⟩) ?_ ?_
    ·rintro z21
     refine al2 12 14 (by kernel_rfl) ?_ ?_
     ·exact no rfl (oz (ent_fn' Try.func26 isn26 rfl rfl) c5) fun _ => tj [0,1,2,3,4,5,6,7,8,9] (hN23 z21) (U4 rfl rfl rfl rfl hLP1) (P1 rfl hHP1)
     exact na rfl info34 (C1 false 0) fun q18 => tj [0,1,2,3,4,5,6,7,8,9,10] (hN24 (q18, z21)) (U6 rfl rfl rfl rfl rfl rfl hLP1) (P2 rfl rfl hHP1)
    intro hN19
    refine an 5 18 52735 (fun (v257 : A2) => ⟨115, [], (18, Vp v257.1) :: (19, Vp v257.2) :: (60, S8) :: (61, S4) :: (62, S5) :: (64, S6) :: (65, S3) :: LP1, Ur v257.1 34 (C1 false 0) :: Ur v257.2 34 (C1 false 0) :: HP1⟩) ?_ ?_
    ·rintro ⟨z22, z23⟩
     refine al1 9 (by kernel_rfl) ?_
     ·exact no rfl (oz (ent_fn' Try.func26 isn26 rfl rfl) c4) fun _ => tj [0,1,2,3,4,5,6,7,8,9,10] (hN24 (z22, z23)) (U6 rfl rfl rfl rfl rfl rfl hLP1) (P2 rfl rfl hHP1)
    intro hN20
    refine an 6 18 4095 (fun (v250 : Unit) => ⟨115, [], (60, S8) :: (63, S9) :: (64, S6) :: (65, S3) :: LP1, HP1⟩) ?_ ?_
    ·rintro ⟨⟩
     refine al3 12 14 15 (by kernel_rfl) ?_ ?_ ?_
     ·exact no rfl (oz (ent_fn' Try.func26 isn26 rfl rfl) c5) fun _ => tj [0,1,2,3,4,5,6,7,8] (hN17 ()) (U3 rfl rfl rfl hLP1) hHP1
     ·exact na rfl info34 (C1 false 0) fun q18 => tj [0,1,2,3,4,5,6,7,8,9] (hN18 q18) (U5 rfl rfl rfl rfl rfl hLP1) (P1 rfl hHP1)
     exact na rfl info34 (C1 false 0) fun q19 => tj [0,1,2,3,4,5,6,7,8,9] (hN19 q19) (U5 rfl rfl rfl rfl rfl hLP1) (P1 rfl hHP1)
    intro hN13
    refine an 6 18 19967 (fun (v251 : Addr) => ⟨115, [], (18, Vp v251) :: (60, S8) :: (61, S4) :: (62, S5) :: (64, S6) :: (65, S3) :: LP1, Ur v251 34 (C1 false 0) :: HP1⟩) ?_ ?_
    ·rintro z24
     refine al2 9 15 (by kernel_rfl) ?_ ?_
     ·exact no rfl (oz (ent_fn' Try.func26 isn26 rfl rfl) c4) fun _ => tj [0,1,2,3,4,5,6,7,8,9] (hN18 z24) (U5 rfl rfl rfl rfl rfl hLP1) (P1 rfl hHP1)
     exact na rfl info34 (C1 false 0) fun q19 => tj [1,0,2,3,4,5,6,7,8,9,10] (hN20 (z24, q19)) (U7 rfl rfl rfl rfl rfl rfl rfl hLP1) (P2 rfl rfl hHP1)
    intro hN14
    refine an 6 18 36351 (fun (v252 : Addr) => ⟨115, [], (19, Vp v252) :: (60, S8) :: (61, S4) :: (62, S5) :: (64, S6) :: (65, S3) :: LP1, Ur v252 34 (C1 false 0) :: HP1⟩) ?_ ?_
    ·rintro z25
     refine al2 9 14 (by kernel_rfl) ?_ ?_
     ·exact no rfl (oz (ent_fn' Try.func26 isn26 rfl rfl) c4) fun _ => tj [0,1,2,3,4,5,6,7,8,9] (hN19 z25) (U5 rfl rfl rfl rfl rfl hLP1) (P1 rfl hHP1)
     exact na rfl info34 (C1 false 0) fun q18 => tj [0,1,2,3,4,5,6,7,8,9,10] (hN20 (q18, z25)) (U7 rfl rfl rfl rfl rfl rfl rfl hLP1) (P2 rfl rfl hHP1)
    intro hN15
    refine an 6 18 52671 (fun (v253 : A2) => ⟨115, [], (18, Vp v253.1) :: (19, Vp v253.2) :: (56, S1) :: (59, S7) :: (61, S4) :: (62, S5) :: (64, S6) :: (65, S3) :: LP1, Ur v253.1 34 (C1 false 0) :: Ur v253.2 34 (C1 false 0) :: HP1⟩) ?_ ?_
    ·rintro ⟨z26, z27⟩
     refine al1 6 (by kernel_rfl) ?_
     ·exact no rfl (oz (ent_fn' Try.func27 isn27 rfl rfl) c3) fun _ => tj [0,1,2,3,4,5,6,7,8,9,10] (hN20 (z26, z27)) (U7 rfl rfl rfl rfl rfl rfl rfl hLP1) (P2 rfl rfl hHP1)
    intro hN16
    refine an 7 18 3583 (fun (v246 : Unit) => ⟨115, [], (60, S8) :: (61, S4) :: (62, S5) :: (64, S6) :: (65, S3) :: LP1, HP1⟩) ?_ ?_
    ·rintro ⟨⟩
     refine al3 9 14 15 (by kernel_rfl) ?_ ?_ ?_
     ·exact no rfl (oz (ent_fn' Try.func26 isn26 rfl rfl) c4) fun _ => tj [0,1,2,3,4,5,6,7,8] (hN13 ()) (U4 rfl rfl rfl rfl hLP1) hHP1
     ·exact na rfl info34 (C1 false 0) fun q18 => tj [0,1,2,3,4,5,6,7,8,9] (hN14 q18) (U6 rfl rfl rfl rfl rfl rfl hLP1) (P1 rfl hHP1)
     exact na rfl info34 (C1 false 0) fun q19 => tj [0,1,2,3,4,5,6,7,8,9] (hN15 q19) (U6 rfl rfl rfl rfl rfl rfl hLP1) (P1 rfl hHP1)
    intro hN9
    refine an 7 18 19903 (fun (v247 : Addr) => ⟨115, [], (18, Vp v247) :: (56, S1) :: (59, S7) :: (61, S4) :: (62, S5) :: (64, S6) :: (65, S3) :: LP1, Ur v247 34 (C1 false 0) :: HP1⟩) ?_ ?_
    ·rintro z28
     refine al2 6 15 (by kernel_rfl) ?_ ?_
     ·exact no rfl (oz (ent_fn' Try.func27 isn27 rfl rfl) c3) fun _ => tj [0,1,2,3,4,5,6,7,8,9] (hN14 z28) (U6 rfl rfl rfl rfl rfl rfl hLP1) (P1 rfl hHP1)
     exact na rfl info34 (C1 false 0) fun q19 => tj [1,0,2,3,4,5,6,7,8,9,10] (hN16 (z28, q19)) (U8 rfl rfl rfl rfl rfl rfl rfl rfl hLP1) (P2 rfl rfl hHP1)
    intro hN10
    refine an 7 18 36287 (fun (v248 : Addr) => ⟨115, [], (19, Vp v248) :: (56, S1) :: (59, S7) :: (61, S4) :: (62, S5) :: (64, S6) :: (65, S3) :: LP1, Ur v248 34 (C1 false 0) :: HP1⟩) ?_ ?_
    ·rintro z29
     refine al2 6 14 (by kernel_rfl) ?_ ?_
     ·exact no rfl (oz (ent_fn' Try.func27 isn27 rfl rfl) c3) fun _ => tj [0,1,2,3,4,5,6,7,8,9] (hN15 z29) (U6 rfl rfl rfl rfl rfl rfl hLP1) (P1 rfl hHP1)
     exact na rfl info34 (C1 false 0) fun q18 => tj [0,1,2,3,4,5,6,7,8,9,10] (hN16 (q18, z29)) (U8 rfl rfl rfl rfl rfl rfl rfl rfl hLP1) (P2 rfl rfl hHP1)
    intro hN11
    refine an 7 18 52639 (fun (v249 : A2) => ⟨115, [], (18, Vp v249.1) :: (19, Vp v249.2) :: (56, S1) :: (57, S2) :: (58, S3) :: (61, S4) :: (62, S5) :: (64, S6) :: (65, S3) :: LP1, Ur v249.1 34 (C1 false 0) :: Ur v249.2 34 (C1 false 0) :: HP1⟩) ?_ ?_
    ·rintro ⟨z30, z31⟩
     refine al1 5 (by kernel_rfl) ?_
     ·exact no rfl (oz (ent_fn' Try.func26 isn26 rfl rfl) c2) fun _ => tj [0,1,2,3,4,5,6,7,8,9,10] (hN16 (z30, z31)) (U8 rfl rfl rfl rfl rfl rfl rfl rfl hLP1) (P2 rfl rfl hHP1)
    intro hN12
    refine an 8 18 3519 (fun (v242 : Unit) => ⟨115, [], (56, S1) :: (59, S7) :: (61, S4) :: (62, S5) :: (64, S6) :: (65, S3) :: LP1, HP1⟩) ?_ ?_
    ·rintro ⟨⟩
     refine al3 6 14 15 (by kernel_rfl) ?_ ?_ ?_
     ·exact no rfl (oz (ent_fn' Try.func27 isn27 rfl rfl) c3) fun _ => tj [0,1,2,3,4,5,6,7,8] (hN9 ()) (U5 rfl rfl rfl rfl rfl hLP1) hHP1
     ·exact na rfl info34 (C1 false 0) fun q18 => tj [0,1,2,3,4,5,6,7,8,9] (hN10 q18) (U7 rfl rfl rfl rfl rfl rfl rfl hLP1) (P1 rfl hHP1)
     exact na rfl info34 (C1 false 0) fun q19 => tj [0,1,2,3,4,5,6,7,8,9] (hN11 q19) (U7 rfl rfl rfl rfl rfl rfl rfl hLP1) (P1 rfl hHP1)
    intro hN5
    refine an 8 18 19871 (fun (v243 : Addr) => ⟨115, [], (18, Vp v243) :: (56, S1) :: (57, S2) :: (58, S3) :: (61, S4) :: (62, S5) :: (64, S6) :: (65, S3) :: LP1, Ur v243 34 (C1 false 0) :: HP1⟩) ?_ ?_
    ·rintro z32
     refine al2 5 15 (by kernel_rfl) ?_ ?_
     ·exact no rfl (oz (ent_fn' Try.func26 isn26 rfl rfl) c2) fun _ => tj [0,1,2,3,4,5,6,7,8,9] (hN10 z32) (U7 rfl rfl rfl rfl rfl rfl rfl hLP1) (P1 rfl hHP1)
     exact na rfl info34 (C1 false 0) fun q19 => tj [1,0,2,3,4,5,6,7,8,9,10] (hN12 (z32, q19)) (U9 rfl rfl rfl rfl rfl rfl rfl rfl rfl hLP1) (P2 rfl rfl hHP1)
    intro hN6
    refine an 8 18 36255 (fun (v244 : Addr) => ⟨115, [], (19, Vp v244) :: (56, S1) :: (57, S2) :: (58, S3) :: (61, S4) :: (62, S5) :: (64, S6) :: (65, S3) :: LP1, Ur v244 34 (C1 false 0) :: HP1⟩) ?_ ?_
    ·rintro z33
     refine al2 5 14 (by kernel_rfl) ?_ ?_
     ·exact no rfl (oz (ent_fn' Try.func26 isn26 rfl rfl) c2) fun _ => tj [0,1,2,3,4,5,6,7,8,9] (hN11 z33) (U7 rfl rfl rfl rfl rfl rfl rfl hLP1) (P1 rfl hHP1)
     exact na rfl info34 (C1 false 0) fun q18 => tj [0,1,2,3,4,5,6,7,8,9,10] (hN12 (q18, z33)) (U9 rfl rfl rfl rfl rfl rfl rfl rfl rfl hLP1) (P2 rfl rfl hHP1)
    intro hN7
    refine an 8 18 52635 (fun (v245 : A2) => ⟨115, [], (18, Vp v245.1) :: (19, Vp v245.2) :: (54, S6) :: (55, S5) :: (57, S2) :: (58, S3) :: (61, S4) :: (62, S5) :: (64, S6) :: (65, S3) :: LP1, Ur v245.1 34 (C1 false 0) :: Ur v245.2 34 (C1 false 0) :: HP1⟩) ?_ ?_
    ·rintro ⟨z34, z35⟩
     refine al1 2 (by kernel_rfl) ?_
     ·exact no rfl (oz (ent_fn' Try.func26 isn26 rfl rfl) c1) fun _ => tj [0,1,2,3,4,5,6,7,8,9,10] (hN12 (z34, z35)) (U9 rfl rfl rfl rfl rfl rfl rfl rfl rfl hLP1) (P2 rfl rfl hHP1)
    intro hN8
    refine an 9 18 3487 (fun (v239 : Unit) => ⟨115, [], (56, S1) :: (57, S2) :: (58, S3) :: (61, S4) :: (62, S5) :: (64, S6) :: (65, S3) :: LP1, HP1⟩) ?_ ?_
    ·rintro ⟨⟩
     refine al3 5 14 15 (by kernel_rfl) ?_ ?_ ?_
     ·exact no rfl (oz (ent_fn' Try.func26 isn26 rfl rfl) c2) fun _ => tj [0,1,2,3,4,5,6,7,8] (hN5 ()) (U6 rfl rfl rfl rfl rfl rfl hLP1) hHP1
     ·exact na rfl info34 (C1 false 0) fun q18 => tj [0,1,2,3,4,5,6,7,8,9] (hN6 q18) (U8 rfl rfl rfl rfl rfl rfl rfl rfl hLP1) (P1 rfl hHP1)
     exact na rfl info34 (C1 false 0) fun q19 => tj [0,1,2,3,4,5,6,7,8,9] (hN7 q19) (U8 rfl rfl rfl rfl rfl rfl rfl rfl hLP1) (P1 rfl hHP1)
    intro hN2
    refine an 9 18 19867 (fun (v240 : Addr) => ⟨115, [], (18, Vp v240) :: (54, S6) :: (55, S5) :: (57, S2) :: (58, S3) :: (61, S4) :: (62, S5) :: (64, S6) :: (65, S3) :: LP1, Ur v240 34 (C1 false 0) :: HP1⟩) ?_ ?_
    ·rintro z36
     refine al2 2 15 (by kernel_rfl) ?_ ?_
     ·exact no rfl (oz (ent_fn' Try.func26 isn26 rfl rfl) c1) fun _ => tj [0,1,2,3,4,5,6,7,8,9] (hN6 z36) (U8 rfl rfl rfl rfl rfl rfl rfl rfl hLP1) (P1 rfl hHP1)
     exact na rfl info34 (C1 false 0) fun q19 => tj [1,0,2,3,4,5,6,7,8,9,10] (hN8 (z36, q19)) (U10 rfl rfl rfl rfl rfl rfl rfl rfl rfl rfl hLP1) (P2 rfl rfl hHP1)
    intro hN3
    refine an 9 18 36251 (fun (v241 : Addr) => ⟨115, [], (19, Vp v241) :: (54, S6) :: (55, S5) :: (57, S2) :: (58, S3) :: (61, S4) :: (62, S5) :: (64, S6) :: (65, S3) :: LP1, Ur v241 34 (C1 false 0) :: HP1⟩) ?_ ?_
    ·rintro z37
     refine al2 2 14 (by kernel_rfl) ?_ ?_
     ·exact no rfl (oz (ent_fn' Try.func26 isn26 rfl rfl) c1) fun _ => tj [0,1,2,3,4,5,6,7,8,9] (hN7 z37) (U8 rfl rfl rfl rfl rfl rfl rfl rfl hLP1) (P1 rfl hHP1)
     exact na rfl info34 (C1 false 0) fun q18 => tj [0,1,2,3,4,5,6,7,8,9,10] (hN8 (q18, z37)) (U10 rfl rfl rfl rfl rfl rfl rfl rfl rfl rfl hLP1) (P2 rfl rfl hHP1)
    intro hN4
    refine al3 2 14 15 (by kernel_rfl) ?_ ?_ ?_
    ·exact no rfl (oz (ent_fn' Try.func26 isn26 rfl rfl) c1) fun _ => tj [1,2,3,4,5,6,7,8,0] (hN2 ()) (U7 rfl rfl rfl rfl rfl rfl rfl hLP1) hHP1
    ·exact na rfl info34 (C1 false 0) fun q18 => tj [0,2,3,4,5,6,7,8,9,1] (hN3 q18) (U9 rfl rfl rfl rfl rfl rfl rfl rfl rfl hLP1) (P1 rfl hHP1)
    exact na rfl info34 (C1 false 0) fun q19 => tj [0,2,3,4,5,6,7,8,9,1] (hN4 q19) (U9 rfl rfl rfl rfl rfl rfl rfl rfl rfl hLP1) (P1 rfl hHP1)
   intro hN39
   refine an 1 9 255 (fun (v237 : Addr) => ⟨115, [], [(17, (Vp v237)), (53, (Ag (C2 r53.1 r53.2.1 r53.2.2))), (4, (Vp q4)), (5, (Vp q5)), (6, (Vp q6)), (7, (Vp q7)), (8, (Vp q8)), (9, (Vp q9055)), (10, (Vp q9056)), (11, (Vp q9057)), (12, (Vp z0)), (13, (Vp z1)), (14, (Vp z2)), (15, (Vp z3)), (16, (Vp z4))], [(Ur v237 34 (C1 false 0)), (Ur q4 39 (C0 a0_0 a0_1 a0_2 a0_3 a0_4 a0_5 a0_6 a0_7 a0_8)), (Ur q5 39 (C0 a1_0 a1_1 a1_2 a1_3 a1_4 a1_5 a1_6 a1_7 a1_8)), (Ur q6 39 (C0 a2_0 a2_1 a2_2 a2_3 a2_4 a2_5 a2_6 a2_7 a2_8)), (Ur q7 39 (C0 a3_0 a3_1 a3_2 a3_3 a3_4 a3_5 a3_6 a3_7 a3_8)), (Ur q8 36 (C5 false 0 false 0)), (Ur q9055 39 (C0 r25.1 r25.2.1 r25.2.2.1 r25.2.2.2.1 r25.2.2.2.2.1 r25.2.2.2.2.2.1 r25.2.2.2.2.2.2.1 r25.2.2.2.2.2.2.2.1 r25.2.2.2.2.2.2.2.2)), (Ur q9056 39 (C0 r28.1 r28.2.1 r28.2.2.1 r28.2.2.2.1 r28.2.2.2.2.1 r28.2.2.2.2.2.1 r28.2.2.2.2.2.2.1 r28.2.2.2.2.2.2.2.1 r28.2.2.2.2.2.2.2.2)), (Ur q9057 39 (C0 r31.1 r31.2.1 r31.2.2.1 r31.2.2.2.1 r31.2.2.2.2.1 r31.2.2.2.2.2.1 r31.2.2.2.2.2.2.1 r31.2.2.2.2.2.2.2.1 r31.2.2.2.2.2.2.2.2)), (Ur z0 34 (C2 r34.1 r34.2.1 r34.2.2)), (Ur z1 34 (C2 r37.1 r37.2.1 r37.2.2)), (Ur z2 34 (C2 r40.1 r40.2.1 r40.2.2)), (Ur z3 34 (C2 r43.1 r43.2.1 r43.2.2)), (Ur z4 34 (C2 r46.1 r46.2.1 r46.2.2))]⟩) ?_ ?_
   ·rintro z38
    refine al1 8 (by kernel_rfl) ?_
    ·refine nx_oxv rfl (oxv_store (i := 0) (o := 0) rfl rfl (lv_ag _) (ar rfl rfl rfl rfl) rfl info34 rfl (H' := [(Ur z38 34 (C2 r53.1 r53.2.1 r53.2.2)), (Ur q4 39 (C0 a0_0 a0_1 a0_2 a0_3 a0_4 a0_5 a0_6 a0_7 a0_8)), (Ur q5 39 (C0 a1_0 a1_1 a1_2 a1_3 a1_4 a1_5 a1_6 a1_7 a1_8)), (Ur q6 39 (C0 a2_0 a2_1 a2_2 a2_3 a2_4 a2_5 a2_6 a2_7 a2_8)), (Ur q7 39 (C0 a3_0 a3_1 a3_2 a3_3 a3_4 a3_5 a3_6 a3_7 a3_8)), (Ur q8 36 (C5 false 0 false 0)), (Ur q9055 39 (C0 r25.1 r25.2.1 r25.2.2.1 r25.2.2.2.1 r25.2.2.2.2.1 r25.2.2.2.2.2.1 r25.2.2.2.2.2.2.1 r25.2.2.2.2.2.2.2.1 r25.2.2.2.2.2.2.2.2)), (Ur q9056 39 (C0 r28.1 r28.2.1 r28.2.2.1 r28.2.2.2.1 r28.2.2.2.2.1 r28.2.2.2.2.2.1 r28.2.2.2.2.2.2.1 r28.2.2.2.2.2.2.2.1 r28.2.2.2.2.2.2.2.2)), (Ur q9057 39 (C0 r31.1 r31.2.1 r31.2.2.1 r31.2.2.2.1 r31.2.2.2.2.1 r31.2.2.2.2.2.1 r31.2.2.2.2.2.2.1 r31.2.2.2.2.2.2.2.1 r31.2.2.2.2.2.2.2.2)), (Ur z0 34 (C2 r34.1 r34.2.1 r34.2.2)), (Ur z1 34 (C2 r37.1 r37.2.1 r37.2.2)), (Ur z2 34 (C2 r40.1 r40.2.1 r40.2.2)), (Ur z3 34 (C2 r43.1 r43.2.1 r43.2.2)), (Ur z4 34 (C2 r46.1 r46.2.1 r46.2.2))]) rfl) rfl rfl bo_nil (wt_none' rfl) rfl fun _ => ?_
     exact tk [0,1,2,3,4,5,6,7,8,9,10,11,12,13] (u14 rfl rfl rfl rfl rfl rfl rfl rfl rfl rfl rfl rfl rfl rfl) (p14 rfl rfl rfl rfl rfl rfl rfl rfl rfl rfl rfl rfl rfl rfl) (hN39 z38)
   intro hN38
   refine an 2 9 127 (fun (v235 : Unit) => ⟨115, [], [(53, (Ag (C2 r53.1 r53.2.1 r53.2.2))), (4, (Vp q4)), (5, (Vp q5)), (6, (Vp q6)), (7, (Vp q7)), (8, (Vp q8)), (9, (Vp q9055)), (10, (Vp q9056)), (11, (Vp q9057)), (12, (Vp z0)), (13, (Vp z1)), (14, (Vp z2)), (15, (Vp z3)), (16, (Vp z4))], [(Ur q4 39 (C0 a0_0 a0_1 a0_2 a0_3 a0_4 a0_5 a0_6 a0_7 a0_8)), (Ur q5 39 (C0 a1_0 a1_1 a1_2 a1_3 a1_4 a1_5 a1_6 a1_7 a1_8)), (Ur q6 39 (C0 a2_0 a2_1 a2_2 a2_3 a2_4 a2_5 a2_6 a2_7 a2_8)), (Ur q7 39 (C0 a3_0 a3_1 a3_2 a3_3 a3_4 a3_5 a3_6 a3_7 a3_8)), (Ur q8 36 (C5 false 0 false 0)), (Ur q9055 39 (C0 r25.1 r25.2.1 r25.2.2.1 r25.2.2.2.1 r25.2.2.2.2.1 r25.2.2.2.2.2.1 r25.2.2.2.2.2.2.1 r25.2.2.2.2.2.2.2.1 r25.2.2.2.2.2.2.2.2)), (Ur q9056 39 (C0 r28.1 r28.2.1 r28.2.2.1 r28.2.2.2.1 r28.2.2.2.2.1 r28.2.2.2.2.2.1 r28.2.2.2.2.2.2.1 r28.2.2.2.2.2.2.2.1 r28.2.2.2.2.2.2.2.2)), (Ur q9057 39 (C0 r31.1 r31.2.1 r31.2.2.1 r31.2.2.2.1 r31.2.2.2.2.1 r31.2.2.2.2.2.1 r31.2.2.2.2.2.2.1 r31.2.2.2.2.2.2.2.1 r31.2.2.2.2.2.2.2.2)), (Ur z0 34 (C2 r34.1 r34.2.1 r34.2.2)), (Ur z1 34 (C2 r37.1 r37.2.1 r37.2.2)), (Ur z2 34 (C2 r40.1 r40.2.1 r40.2.2)), (Ur z3 34 (C2 r43.1 r43.2.1 r43.2.2)), (Ur z4 34 (C2 r46.1 r46.2.1 r46.2.2))]⟩) ?_ ?_
   ·rintro ⟨⟩
    refine al1 7 (by kernel_rfl) ?_
    ·exact na rfl info34 (C1 false 0) fun q17 => tk [0,1,2,3,4,5,6,7,8,9,10,11,12,13] (u15 rfl rfl rfl rfl rfl rfl rfl rfl rfl rfl rfl rfl rfl rfl rfl) (p14 rfl rfl rfl rfl rfl rfl rfl rfl rfl rfl rfl rfl rfl rfl) (hN38 q17)
   intro hN36
   refine an 2 9 191 (fun (v236 : Addr) => ⟨115, [], [(17, (Vp v236)), (49, (Ag (C2 r49.1 r49.2.1 r49.2.2))), (52, (Ag (C2 r52.1 r52.2.1 r52.2.2))), (4, (Vp q4)), (5, (Vp q5)), (6, (Vp q6)), (7, (Vp q7)), (8, (Vp q8)), (9, (Vp q9055)), (10, (Vp q9056)), (11, (Vp q9057)), (12, (Vp z0)), (13, (Vp z1)), (14, (Vp z2)), (15, (Vp z3)), (16, (Vp z4))], [(Ur v236 34 (C1 false 0)), (Ur q4 39 (C0 a0_0 a0_1 a0_2 a0_3 a0_4 a0_5 a0_6 a0_7 a0_8)), (Ur q5 39 (C0 a1_0 a1_1 a1_2 a1_3 a1_4 a1_5 a1_6 a1_7 a1_8)), (Ur q6 39 (C0 a2_0 a2_1 a2_2 a2_3 a2_4 a2_5 a2_6 a2_7 a2_8)), (Ur q7 39 (C0 a3_0 a3_1 a3_2 a3_3 a3_4 a3_5 a3_6 a3_7 a3_8)), (Ur q8 36 (C5 false 0 false 0)), (Ur q9055 39 (C0 r25.1 r25.2.1 r25.2.2.1 r25.2.2.2.1 r25.2.2.2.2.1 r25.2.2.2.2.2.1 r25.2.2.2.2.2.2.1 r25.2.2.2.2.2.2.2.1 r25.2.2.2.2.2.2.2.2)), (Ur q9056 39 (C0 r28.1 r28.2.1 r28.2.2.1 r28.2.2.2.1 r28.2.2.2.2.1 r28.2.2.2.2.2.1 r28.2.2.2.2.2.2.1 r28.2.2.2.2.2.2.2.1 r28.2.2.2.2.2.2.2.2)), (Ur q9057 39 (C0 r31.1 r31.2.1 r31.2.2.1 r31.2.2.2.1 r31.2.2.2.2.1 r31.2.2.2.2.2.1 r31.2.2.2.2.2.2.1 r31.2.2.2.2.2.2.2.1 r31.2.2.2.2.2.2.2.2)), (Ur z0 34 (C2 r34.1 r34.2.1 r34.2.2)), (Ur z1 34 (C2 r37.1 r37.2.1 r37.2.2)), (Ur z2 34 (C2 r40.1 r40.2.1 r40.2.2)), (Ur z3 34 (C2 r43.1 r43.2.1 r43.2.2)), (Ur z4 34 (C2 r46.1 r46.2.1 r46.2.2))]⟩) ?_ ?_
   ·rintro z39
    refine al1 6 (by kernel_rfl) ?_
    ·exact no rfl (oz (ent_fn' Try.func27 isn27 rfl rfl) (spec_Dyadic_Sub_sim _ _ _ _ _ _ hr53)) fun _ => tk [0,1,2,3,4,5,6,7,8,9,10,11,12,13] (u15 rfl rfl rfl rfl rfl rfl rfl rfl rfl rfl rfl rfl rfl rfl rfl) (p14 rfl rfl rfl rfl rfl rfl rfl rfl rfl rfl rfl rfl rfl rfl) (hN38 z39)
   intro hN37
   refine an 3 9 63 (fun (v233 : Unit) => ⟨115, [], [(49, (Ag (C2 r49.1 r49.2.1 r49.2.2))), (52, (Ag (C2 r52.1 r52.2.1 r52.2.2))), (4, (Vp q4)), (5, (Vp q5)), (6, (Vp q6)), (7, (Vp q7)), (8, (Vp q8)), (9, (Vp q9055)), (10, (Vp q9056)), (11, (Vp q9057)), (12, (Vp z0)), (13, (Vp z1)), (14, (Vp z2)), (15, (Vp z3)), (16, (Vp z4))], [(Ur q4 39 (C0 a0_0 a0_1 a0_2 a0_3 a0_4 a0_5 a0_6 a0_7 a0_8)), (Ur q5 39 (C0 a1_0 a1_1 a1_2 a1_3 a1_4 a1_5 a1_6 a1_7 a1_8)), (Ur q6 39 (C0 a2_0 a2_1 a2_2 a2_3 a2_4 a2_5 a2_6 a2_7 a2_8)), (Ur q7 39 (C0 a3_0 a3_1 a3_2 a3_3 a3_4 a3_5 a3_6 a3_7 a3_8)), (Ur q8 36 (C5 false 0 false 0)), (Ur q9055 39 (C0 r25.1 r25.2.1 r25.2.2.1 r25.2.2.2.1 r25.2.2.2.2.1 r25.2.2.2.2.2.1 r25.2.2.2.2.2.2.1 r25.2.2.2.2.2.2.2.1 r25.2.2.2.2.2.2.2.2)), (Ur q9056 39 (C0 r28.1 r28.2.1 r28.2.2.1 r28.2.2.2.1 r28.2.2.2.2.1 r28.2.2.2.2.2.1 r28.2.2.2.2.2.2.1 r28.2.2.2.2.2.2.2.1 r28.2.2.2.2.2.2.2.2)), (Ur q9057 39 (C0 r31.1 r31.2.1 r31.2.2.1 r31.2.2.2.1 r31.2.2.2.2.1 r31.2.2.2.2.2.1 r31.2.2.2.2.2.2.1 r31.2.2.2.2.2.2.2.1 r31.2.2.2.2.2.2.2.2)), (Ur z0 34 (C2 r34.1 r34.2.1 r34.2.2)), (Ur z1 34 (C2 r37.1 r37.2.1 r37.2.2)), (Ur z2 34 (C2 r40.1 r40.2.1 r40.2.2)), (Ur z3 34 (C2 r43.1 r43.2.1 r43.2.2)), (Ur z4 34 (C2 r46.1 r46.2.1 r46.2.2))]⟩) ?_ ?_
   ·rintro ⟨⟩
    refine al2 6 7 (by kernel_rfl) ?_ ?_
    ·exact no rfl (oz (ent_fn' Try.func27 isn27 rfl rfl) (spec_Dyadic_Sub_sim _ _ _ _ _ _ hr53)) fun _ => tk [0,1,2,3,4,5,6,7,8,9,10,11,12] (u14 rfl rfl rfl rfl rfl rfl rfl rfl rfl rfl rfl rfl rfl rfl) (p13 rfl rfl rfl rfl rfl rfl rfl rfl rfl rfl rfl rfl rfl) (hN36 ())
    exact na rfl info34 (C1 false 0) fun q17 => tk [0,1,2,3,4,5,6,7,8,9,10,11,12,13] (u16 rfl rfl rfl rfl rfl rfl rfl rfl rfl rfl rfl rfl rfl rfl rfl rfl) (p14 rfl rfl rfl rfl rfl rfl rfl rfl rfl rfl rfl rfl rfl rfl) (hN37 q17)
   intro hN34
   refine an 3 9 159 (fun (v234 : Addr) => ⟨115, [], [(17, (Vp v234)), (49, (Ag (C2 r49.1 r49.2.1 r49.2.2))), (50, (Ag (C2 r37.1 r37.2.1 r37.2.2))), (51, (Ag (C2 r37.1 r37.2.1 r37.2.2))), (4, (Vp q4)), (5, (Vp q5)), (6, (Vp q6)), (7, (Vp q7)), (8, (Vp q8)), (9, (Vp q9055)), (10, (Vp q9056)), (11, (Vp q9057)), (12, (Vp z0)), (13, (Vp z1)), (14, (Vp z2)), (15, (Vp z3)), (16, (Vp z4))], [(Ur v234 34 (C1 false 0)), (Ur q4 39 (C0 a0_0 a0_1 a0_2 a0_3 a0_4 a0_5 a0_6 a0_7 a0_8)), (Ur q5 39 (C0 a1_0 a1_1 a1_2 a1_3 a1_4 a1_5 a1_6 a1_7 a1_8)), (Ur q6 39 (C0 a2_0 a2_1 a2_2 a2_3 a2_4 a2_5 a2_6 a2_7 a2_8)), (Ur q7 39 (C0 a3_0 a3_1 a3_2 a3_3 a3_4 a3_5 a3_6 a3_7 a3_8)), (Ur q8 36 (C5 false 0 false 0)), (Ur q9055 39 (C0 r25.1 r25.2.1 r25.2.2.1 r25.2.2.2.1 r25.2.2.2.2.1 r25.2.2.2.2.2.1 r25.2.2.2.2.2.2.1 r25.2.2.2.2.2.2.2.1 r25.2.2.2.2.2.2.2.2)), (Ur q9056 39 (C0 r28.1 r28.2.1 r28.2.2.1 r28.2.2.2.1 r28.2.2.2.2.1 r28.2.2.2.2.2.1 r28.2.2.2.2.2.2.1 r28.2.2.2.2.2.2.2.1 r28.2.2.2.2.2.2.2.2)), (Ur q9057 39 (C0 r31.1 r31.2.1 r31.2.2.1 r31.2.2.2.1 r31.2.2.2.2.1 r31.2.2.2.2.2.1 r31.2.2.2.2.2.2.1 r31.2.2.2.2.2.2.2.1 r31.2.2.2.2.2.2.2.2)), (Ur z0 34 (C2 r34.1 r34.2.1 r34.2.2)), (Ur z1 34 (C2 r37.1 r37.2.1 r37.2.2)), (Ur z2 34 (C2 r40.1 r40.2.1 r40.2.2)), (Ur z3 34 (C2 r43.1 r43.2.1 r43.2.2)), (Ur z4 34 (C2 r46.1 r46.2.1 r46.2.2))]⟩) ?_ ?_
   ·rintro z40
    refine al1 5 (by kernel_rfl) ?_
    ·exact no rfl (oz (ent_fn' Try.func26 isn26 rfl rfl) (spec_Dyadic_Mul_sim _ _ _ _ _ _ hr52)) fun _ => tk [0,1,2,3,4,5,6,7,8,9,10,11,12,13] (u16 rfl rfl rfl rfl rfl rfl rfl rfl rfl rfl rfl rfl rfl rfl rfl rfl) (p14 rfl rfl rfl rfl rfl rfl rfl rfl rfl rfl rfl rfl rfl rfl) (hN37 z40)
   intro hN35
   refine an 4 9 31 (fun (v231 : Unit) => ⟨115, [], [(49, (Ag (C2 r49.1 r49.2.1 r49.2.2))), (50, (Ag (C2 r37.1 r37.2.1 r37.2.2))), (51, (Ag (C2 r37.1 r37.2.1 r37.2.2))), (4, (Vp q4)), (5, (Vp q5)), (6, (Vp q6)), (7, (Vp q7)), (8, (Vp q8)), (9, (Vp q9055)), (10, (Vp q9056)), (11, (Vp q9057)), (12, (Vp z0)), (13, (Vp z1)), (14, (Vp z2)), (15, (Vp z3)), (16, (Vp z4))], [(Ur q4 39 (C0 a0_0 a0_1 a0_2 a0_3 a0_4 a0_5 a0_6 a0_7 a0_8)), (Ur q5 39 (C0 a1_0 a1_1 a1_2 a1_3 a1_4 a1_5 a1_6 a1_7 a1_8)), (Ur q6 39 (C0 a2_0 a2_1 a2_2 a2_3 a2_4 a2_5 a2_6 a2_7 a2_8)), (Ur q7 39 (C0 a3_0 a3_1 a3_2 a3_3 a3_4 a3_5 a3_6 a3_7 a3_8)), (Ur q8 36 (C5 false 0 false 0)), (Ur q9055 39 (C0 r25.1 r25.2.1 r25.2.2.1 r25.2.2.2.1 r25.2.2.2.2.1 r25.2.2.2.2.2.1 r25.2.2.2.2.2.2.1 r25.2.2.2.2.2.2.2.1 r25.2.2.2.2.2.2.2.2)), (Ur q9056 39 (C0 r28.1 r28.2.1 r28.2.2.1 r28.2.2.2.1 r28.2.2.2.2.1 r28.2.2.2.2.2.1 r28.2.2.2.2.2.2.1 r28.2.2.2.2.2.2.2.1 r28.2.2.2.2.2.2.2.2)), (Ur q9057 39 (C0 r31.1 r31.2.1 r31.2.2.1 r31.2.2.2.1 r31.2.2.2.2.1 r31.2.2.2.2.2.1 r31.2.2.2.2.2.2.1 r31.2.2.2.2.2.2.2.1 r31.2.2.2.2.2.2.2.2)), (Ur z0 34 (C2 r34.1 r34.2.1 r34.2.2)), (Ur z1 34 (C2 r37.1 r37.2.1 r37.2.2)), (Ur z2 34 (C2 r40.1 r40.2.1 r40.2.2)), (Ur z3 34 (C2 r43.1 r43.2.1 r43.2.2)), (Ur z4 34 (C2 r46.1 r46.2.1 r46.2.2))]⟩) ?_ ?_
   ·rintro ⟨⟩
    refine al2 5 7 (by kernel_rfl) ?_ ?_
    ·exact no rfl (oz (ent_fn' Try.func26 isn26 rfl rfl) (spec_Dyadic_Mul_sim _ _ _ _ _ _ hr52)) fun _ => tk [0,1,2,3,4,5,6,7,8,9,10,11,12] (u15 rfl rfl rfl rfl rfl rfl rfl rfl rfl rfl rfl rfl rfl rfl rfl) (p13 rfl rfl rfl rfl rfl rfl rfl rfl rfl rfl rfl rfl rfl) (hN34 ())
    exact na rfl info34 (C1 false 0) fun q17 => tk [0,1,2,3,4,5,6,7,8,9,10,11,12,13] (u17 rfl rfl rfl rfl rfl rfl rfl rfl rfl rfl rfl rfl rfl rfl rfl rfl rfl) (p14 rfl rfl rfl rfl rfl rfl rfl rfl rfl rfl rfl rfl rfl rfl) (hN35 q17)
   intro hN32
   refine an 4 9 155 (fun (v232 : Addr) => ⟨115, [], [(17, (Vp v232)), (47, (Ag (C2 r34.1 r34.2.1 r34.2.2))), (48, (Ag (C2 r40.1 r40.2.1 r40.2.2))), (50, (Ag (C2 r37.1 r37.2.1 r37.2.2))), (51, (Ag (C2 r37.1 r37.2.1 r37.2.2))), (4, (Vp q4)), (5, (Vp q5)), (6, (Vp q6)), (7, (Vp q7)), (8, (Vp q8)), (9, (Vp q9055)), (10, (Vp q9056)), (11, (Vp q9057)), (12, (Vp z0)), (13, (Vp z1)), (14, (Vp z2)), (15, (Vp z3)), (16, (Vp z4))], [(Ur v232 34 (C1 false 0)), (Ur q4 39 (C0 a0_0 a0_1 a0_2 a0_3 a0_4 a0_5 a0_6 a0_7 a0_8)), (Ur q5 39 (C0 a1_0 a1_1 a1_2 a1_3 a1_4 a1_5 a1_6 a1_7 a1_8)), (Ur q6 39 (C0 a2_0 a2_1 a2_2 a2_3 a2_4 a2_5 a2_6 a2_7 a2_8)), (Ur q7 39 (C0 a3_0 a3_1 a3_2 a3_3 a3_4 a3_5 a3_6 a3_7 a3_8)), (Ur q8 36 (C5 false 0 false 0)), (Ur q9055 39 (C0 r25.1 r25.2.1 r25.2.2.1 r25.2.2.2.1 r25.2.2.2.2.1 r25.2.2.2.2.2.1 r25.2.2.2.2.2.2.1 r25.2.2.2.2.2.2.2.1 r25.2.2.2.2.2.2.2.2)), (Ur q9056 39 (C0 r28.1 r28.2.1 r28.2.2.1 r28.2.2.2.1 r28.2.2.2.2.1 r28.2.2.2.2.2.1 r28.2.2.2.2.2.2.1 r28.2.2.2.2.2.2.2.1 r28.2.2.2.2.2.2.2.2)), (Ur q9057 39 (C0 r31.1 r31.2.1 r31.2.2.1 r31.2.2.2.1 r31.2.2.2.2.1 r31.2.2.2.2.2.1 r31.2.2.2.2.2.2.1 r31.2.2.2.2.2.2.2.1 r31.2.2.2.2.2.2.2.2)), (Ur z0 34 (C2 r34.1 r34.2.1 r34.2.2)), (Ur z1 34 (C2 r37.1 r37.2.1 r37.2.2)), (Ur z2 34 (C2 r40.1 r40.2.1 r40.2.2)), (Ur z3 34 (C2 r43.1 r43.2.1 r43.2.2)), (Ur z4 34 (C2 r46.1 r46.2.1 r46.2.2))]⟩) ?_ ?_
   ·rintro z41
    refine al1 2 (by kernel_rfl) ?_
    ·exact no rfl (oz (ent_fn' Try.func26 isn26 rfl rfl) (spec_Dyadic_Mul_sim _ _ _ _ _ _ hr49)) fun _ => tk [0,1,2,3,4,5,6,7,8,9,10,11,12,13] (u17 rfl rfl rfl rfl rfl rfl rfl rfl rfl rfl rfl rfl rfl rfl rfl rfl rfl) (p14 rfl rfl rfl rfl rfl rfl rfl rfl rfl rfl rfl rfl rfl rfl) (hN35 z41)
   intro hN33
   refine al2 2 7 (by kernel_rfl) ?_ ?_
   ·exact no rfl (oz (ent_fn' Try.func26 isn26 rfl rfl) (spec_Dyadic_Mul_sim _ _ _ _ _ _ hr49)) fun _ => tk [5,6,7,8,9,10,11,12,0,1,2,3,4] (u16 rfl rfl rfl rfl rfl rfl rfl rfl rfl rfl rfl rfl rfl rfl rfl rfl) (p13 rfl rfl rfl rfl rfl rfl rfl rfl rfl rfl rfl rfl rfl) (hN32 ())
   exact na rfl info34 (C1 false 0) fun q17 => tk [0,6,7,8,9,10,11,12,13,1,2,3,4,5] (u18 rfl rfl rfl rfl rfl rfl rfl rfl rfl rfl rfl rfl rfl rfl rfl rfl rfl rfl) (p14 rfl rfl rfl rfl rfl rfl rfl rfl rfl rfl rfl rfl rfl rfl) (hN33 q17)
  intro hN236
  refine an 1 25 16777215 (fun (v229 : A5) => ⟨115, [], (12, Vp v229.1) :: (13, Vp v229.2.1) :: (14, Vp v229.2.2.1) :: (15, Vp v229.2.2.2.1) :: (16, Vp v229.2.2.2.2) :: (46, S19) :: LP2, Ur v229.1 34 (C2 r34.1 r34.2.1 r34.2.2) :: Ur v229.2.1 34 (C2 r37.1 r37.2.1 r37.2.2) :: Ur v229.2.2.1 34 (C2 r40.1 r40.2.1 r40.2.2) :: Ur v229.2.2.2.1 34 (C2 r43.1 r43.2.1 r43.2.2) :: Ur v229.2.2.2.2 34 (C1 false 0) :: HP2⟩) ?_ ?_
  ·rintro ⟨z42, z43, z44, z45, z46⟩
   refine al1 24 (by kernel_rfl) ?_
   ·refine nx_oxv rfl (oxv_store (i := 4) (o := 0) rfl rfl (lv_ag _) (ar rfl rfl rfl rfl) rfl info34 rfl (H' := [(Ur z42 34 (C2 r34.1 r34.2.1 r34.2.2)), (Ur z43 34 (C2 r37.1 r37.2.1 r37.2.2)), (Ur z44 34 (C2 r40.1 r40.2.1 r40.2.2)), (Ur z45 34 (C2 r43.1 r43.2.1 r43.2.2)), (Ur z46 34 (C2 r46.1 r46.2.1 r46.2.2)), (Ur q4 39 (C0 a0_0 a0_1 a0_2 a0_3 a0_4 a0_5 a0_6 a0_7 a0_8)), (Ur q5 39 (C0 a1_0 a1_1 a1_2 a1_3 a1_4 a1_5 a1_6 a1_7 a1_8)), (Ur q6 39 (C0 a2_0 a2_1 a2_2 a2_3 a2_4 a2_5 a2_6 a2_7 a2_8)), (Ur q7 39 (C0 a3_0 a3_1 a3_2 a3_3 a3_4 a3_5 a3_6 a3_7 a3_8)), (Ur q8 36 (C5 false 0 false 0)), (Ur q9055 39 (C0 r25.1 r25.2.1 r25.2.2.1 r25.2.2.2.1 r25.2.2.2.2.1 r25.2.2.2.2.2.1 r25.2.2.2.2.2.2.1 r25.2.2.2.2.2.2.2.1 r25.2.2.2.2.2.2.2.2)), (Ur q9056 39 (C0 r28.1 r28.2.1 r28.2.2.1 r28.2.2.2.1 r28.2.2.2.2.1 r28.2.2.2.2.2.1 r28.2.2.2.2.2.2.1 r28.2.2.2.2.2.2.2.1 r28.2.2.2.2.2.2.2.2)), (Ur q9057 39 (C0 r31.1 r31.2.1 r31.2.2.1 r31.2.2.2.1 r31.2.2.2.2.1 r31.2.2.2.2.2.1 r31.2.2.2.2.2.2.1 r31.2.2.2.2.2.2.2.1 r31.2.2.2.2.2.2.2.2))]) rfl) rfl rfl bo_nil (wt_none' rfl) rfl fun _ => ?_
    exact tk [0,1,2,3,4,5,6,7,8,9,10,11,12] (u13 rfl rfl rfl rfl rfl rfl rfl rfl rfl rfl rfl rfl rfl) (p13 rfl rfl rfl rfl rfl rfl rfl rfl rfl rfl rfl rfl rfl) (hN236 (z42, z43, z44, z45, z46))
  intro hN235
  refine an 2 25 8388607 (fun (v228 : A5) => ⟨115, [], (12, Vp v228.1) :: (13, Vp v228.2.1) :: (14, Vp v228.2.2.1) :: (15, Vp v228.2.2.2.1) :: (16, Vp v228.2.2.2.2) :: (43, S18) :: (46, S19) :: LP2, Ur v228.1 34 (C2 r34.1 r34.2.1 r34.2.2) :: Ur v228.2.1 34 (C2 r37.1 r37.2.1 r37.2.2) :: Ur v228.2.2.1 34 (C2 r40.1 r40.2.1 r40.2.2) :: Ur v228.2.2.2.1 34 (C1 false 0) :: Ur v228.2.2.2.2 34 (C1 false 0) :: HP2⟩) ?_ ?_
  ·rintro ⟨z47, z48, z49, z50, z51⟩
   refine al1 23 (by kernel_rfl) ?_
   ·refine nx_oxv rfl (oxv_store (i := 3) (o := 0) rfl rfl (lv_ag _) (ar rfl rfl rfl rfl) rfl info34 rfl (H' := [(Ur z47 34 (C2 r34.1 r34.2.1 r34.2.2)), (Ur z48 34 (C2 r37.1 r37.2.1 r37.2.2)), (Ur z49 34 (C2 r40.1 r40.2.1 r40.2.2)), (Ur z50 34 (C2 r43.1 r43.2.1 r43.2.2)), (Ur z51 34 (C1 false 0)), (Ur q4 39 (C0 a0_0 a0_1 a0_2 a0_3 a0_4 a0_5 a0_6 a0_7 a0_8)), (Ur q5 39 (C0 a1_0 a1_1 a1_2 a1_3 a1_4 a1_5 a1_6 a1_7 a1_8)), (Ur q6 39 (C0 a2_0 a2_1 a2_2 a2_3 a2_4 a2_5 a2_6 a2_7 a2_8)), (Ur q7 39 (C0 a3_0 a3_1 a3_2 a3_3 a3_4 a3_5 a3_6 a3_7 a3_8)), (Ur q8 36 (C5 false 0 false 0)), (Ur q9055 39 (C0 r25.1 r25.2.1 r25.2.2.1 r25.2.2.2.1 r25.2.2.2.2.1 r25.2.2.2.2.2.1 r25.2.2.2.2.2.2.1 r25.2.2.2.2.2.2.2.1 r25.2.2.2.2.2.2.2.2)), (Ur q9056 39 (C0 r28.1 r28.2.1 r28.2.2.1 r28.2.2.2.1 r28.2.2.2.2.1 r28.2.2.2.2.2.1 r28.2.2.2.2.2.2.1 r28.2.2.2.2.2.2.2.1 r28.2.2.2.2.2.2.2.2)), (Ur q9057 39 (C0 r31.1 r31.2.1 r31.2.2.1 r31.2.2.2.1 r31.2.2.2.2.1 r31.2.2.2.2.2.1 r31.2.2.2.2.2.2.1 r31.2.2.2.2.2.2.2.1 r31.2.2.2.2.2.2.2.2))]) rfl) rfl rfl bo_nil (wt_none' rfl) rfl fun _ => ?_
    exact tj [0,1,2,3,4,5,6,7,8,9,10,11,12] (hN235 (z47, z48, z49, z50, z51)) (U6 rfl rfl rfl rfl rfl rfl hLP2) (P5 rfl rfl rfl rfl rfl hHP2)
  intro hN234
  refine an 3 25 4194303 (fun (v227 : A5) => ⟨115, [], (12, Vp v227.1) :: (13, Vp v227.2.1) :: (14, Vp v227.2.2.1) :: (15, Vp v227.2.2.2.1) :: (16, Vp v227.2.2.2.2) :: (40, S17) :: (43, S18) :: (46, S19) :: LP2, Ur v227.1 34 (C2 r34.1 r34.2.1 r34.2.2) :: Ur v227.2.1 34 (C2 r37.1 r37.2.1 r37.2.2) :: Ur v227.2.2.1 34 (C1 false 0) :: Ur v227.2.2.2.1 34 (C1 false 0) :: Ur v227.2.2.2.2 34 (C1 false 0) :: HP2⟩) ?_ ?_
  ·rintro ⟨z52, z53, z54, z55, z56⟩
   refine al1 22 (by kernel_rfl) ?_
   ·refine nx_oxv rfl (oxv_store (i := 2) (o := 0) rfl rfl (lv_ag _) (ar rfl rfl rfl rfl) rfl info34 rfl (H' := [(Ur z52 34 (C2 r34.1 r34.2.1 r34.2.2)), (Ur z53 34 (C2 r37.1 r37.2.1 r37.2.2)), (Ur z54 34 (C2 r40.1 r40.2.1 r40.2.2)), (Ur z55 34 (C1 false 0)), (Ur z56 34 (C1 false 0)), (Ur q4 39 (C0 a0_0 a0_1 a0_2 a0_3 a0_4 a0_5 a0_6 a0_7 a0_8)), (Ur q5 39 (C0 a1_0 a1_1 a1_2 a1_3 a1_4 a1_5 a1_6 a1_7 a1_8)), (Ur q6 39 (C0 a2_0 a2_1 a2_2 a2_3 a2_4 a2_5 a2_6 a2_7 a2_8)), (Ur q7 39 (C0 a3_0 a3_1 a3_2 a3_3 a3_4 a3_5 a3_6 a3_7 a3_8)), (Ur q8 36 (C5 false 0 false 0)), (Ur q9055 39 (C0 r25.1 r25.2.1 r25.2.2.1 r25.2.2.2.1 r25.2.2.2.2.1 r25.2.2.2.2.2.1 r25.2.2.2.2.2.2.1 r25.2.2.2.2.2.2.2.1 r25.2.2.2.2.2.2.2.2)), (Ur q9056 39 (C0 r28.1 r28.2.1 r28.2.2.1 r28.2.2.2.1 r28.2.2.2.2.1 r28.2.2.2.2.2.1 r28.2.2.2.2.2.2.1 r28.2.2.2.2.2.2.2.1 r28.2.2.2.2.2.2.2.2)), (Ur q9057 39 (C0 r31.1 r31.2.1 r31.2.2.1 r31.2.2.2.1 r31.2.2.2.2.1 r31.2.2.2.2.2.1 r31.2.2.2.2.2.2.1 r31.2.2.2.2.2.2.2.1 r31.2.2.2.2.2.2.2.2))]) rfl) rfl rfl bo_nil (wt_none' rfl) rfl fun _ => ?_
    exact tj [0,1,2,3,4,5,6,7,8,9,10,11,12] (hN234 (z52, z53, z54, z55, z56)) (U7 rfl rfl rfl rfl rfl rfl rfl hLP2) (P5 rfl rfl rfl rfl rfl hHP2)
  intro hN233
  refine an 4 25 2097151 (fun (v226 : A5) => ⟨115, [], (12, Vp v226.1) :: (13, Vp v226.2.1) :: (14, Vp v226.2.2.1) :: (15, Vp v226.2.2.2.1) :: (16, Vp v226.2.2.2.2) :: (37, S16) :: (40, S17) :: (43, S18) :: (46, S19) :: LP2, Ur v226.1 34 (C2 r34.1 r34.2.1 r34.2.2) :: Ur v226.2.1 34 (C1 false 0) :: Ur v226.2.2.1 34 (C1 false 0) :: Ur v226.2.2.2.1 34 (C1 false 0) :: Ur v226.2.2.2.2 34 (C1 false 0) :: HP2⟩) ?_ ?_
  ·rintro ⟨z57, z58, z59, z60, z61⟩
   refine al1 21 (by kernel_rfl) ?_
   ·refine nx_oxv rfl (oxv_store (i := 1) (o := 0) rfl rfl (lv_ag _) (ar rfl rfl rfl rfl) rfl info34 rfl (H' := [(Ur z57 34 (C2 r34.1 r34.2.1 r34.2.2)), (Ur z58 34 (C2 r37.1 r37.2.1 r37.2.2)), (Ur z59 34 (C1 false 0)), (Ur z60 34 (C1 false 0)), (Ur z61 34 (C1 false 0)), (Ur q4 39 (C0 a0_0 a0_1 a0_2 a0_3 a0_4 a0_5 a0_6 a0_7 a0_8)), (Ur q5 39 (C0 a1_0 a1_1 a1_2 a1_3 a1_4 a1_5 a1_6 a1_7 a1_8)), (Ur q6 39 (C0 a2_0 a2_1 a2_2 a2_3 a2_4 a2_5 a2_6 a2_7 a2_8)), (Ur q7 39 (C0 a3_0 a3_1 a3_2 a3_3 a3_4 a3_5 a3_6 a3_7 a3_8)), (Ur q8 36 (C5 false 0 false 0)), (Ur q9055 39 (C0 r25.1 r25.2.1 r25.2.2.1 r25.2.2.2.1 r25.2.2.2.2.1 r25.2.2.2.2.2.1 r25.2.2.2.2.2.2.1 r25.2.2.2.2.2.2.2.1 r25.2.2.2.2.2.2.2.2)), (Ur q9056 39 (C0 r28.1 r28.2.1 r28.2.2.1 r28.2.2.2.1 r28.2.2.2.2.1 r28.2.2.2.2.2.1 r28.2.2.2.2.2.2.1 r28.2.2.2.2.2.2.2.1 r28.2.2.2.2.2.2.2.2)), (Ur q9057 39 (C0 r31.1 r31.2.1 r31.2.2.1 r31.2.2.2.1 r31.2.2.2.2.1 r31.2.2.2.2.2.1 r31.2.2.2.2.2.2.1 r31.2.2.2.2.2.2.2.1 r31.2.2.2.2.2.2.2.2))]) rfl) rfl rfl bo_nil (wt_none' rfl) rfl fun _ => ?_
    exact tj [0,1,2,3,4,5,6,7,8,9,10,11,12] (hN233 (z57, z58, z59, z60, z61)) (U8 rfl rfl rfl rfl rfl rfl rfl rfl hLP2) (P5 rfl rfl rfl rfl rfl hHP2)
  intro hN232
  refine an 5 25 1048575 (fun (v225 : A5) => ⟨115, [], (12, Vp v225.1) :: (13, Vp v225.2.1) :: (14, Vp v225.2.2.1) :: (15, Vp v225.2.2.2.1) :: (16, Vp v225.2.2.2.2) :: (34, S12) :: (37, S16) :: (40, S17) :: (43, S18) :: (46, S19) :: LP2, Ur v225.1 34 (C1 false 0) :: Ur v225.2.1 34 (C1 false 0) :: Ur v225.2.2.1 34 (C1 false 0) :: Ur v225.2.2.2.1 34 (C1 false 0) :: Ur v225.2.2.2.2 34 (C1 false 0) :: HP2⟩) ?_ ?_
  ·rintro ⟨z62, z63, z64, z65, z66⟩
   refine al1 20 (by kernel_rfl) ?_
   ·refine nx_oxv rfl (oxv_store (i := 0) (o := 0) rfl rfl (lv_ag _) (ar rfl rfl rfl rfl) rfl info34 rfl (H' := [(Ur z62 34 (C2 r34.1 r34.2.1 r34.2.2)), (Ur z63 34 (C1 false 0)), (Ur z64 34 (C1 false 0)), (Ur z65 34 (C1 false 0)), (Ur z66 34 (C1 false 0)), (Ur q4 39 (C0 a0_0 a0_1 a0_2 a0_3 a0_4 a0_5 a0_6 a0_7 a0_8)), (Ur q5 39 (C0 a1_0 a1_1 a1_2 a1_3 a1_4 a1_5 a1_6 a1_7 a1_8)), (Ur q6 39 (C0 a2_0 a2_1 a2_2 a2_3 a2_4 a2_5 a2_6 a2_7 a2_8)), (Ur q7 39 (C0 a3_0 a3_1 a3_2 a3_3 a3_4 a3_5 a3_6 a3_7 a3_8)), (Ur q8 36 (C5 false 0 false 0)), (Ur q9055 39 (C0 r25.1 r25.2.1 r25.2.2.1 r25.2.2.2.1 r25.2.2.2.2.1 r25.2.2.2.2.2.1 r25.2.2.2.2.2.2.1 r25.2.2.2.2.2.2.2.1 r25.2.2.2.2.2.2.2.2)), (Ur q9056 39 (C0 r28.1 r28.2.1 r28.2.2.1 r28.2.2.2.1 r28.2.2.2.2.1 r28.2.2.2.2.2.1 r28.2.2.2.2.2.2.1 r28.2.2.2.2.2.2.2.1 r28.2.2.2.2.2.2.2.2)), (Ur q9057 39 (C0 r31.1 r31.2.1 r31.2.2.1 r31.2.2.2.1 r31.2.2.2.2.1 r31.2.2.2.2.2.1 r31.2.2.2.2.2.2.1 r31.2.2.2.2.2.2.2.1 r31.2.2.2.2.2.2.2.2))]) rfl) rfl rfl bo_nil (wt_none' rfl) rfl fun _ => ?_
    exact tj [0,1,2,3,4,5,6,7,8,9,10,11,12] (hN232 (z62, z63, z64, z65, z66)) (U9 rfl rfl rfl rfl rfl rfl rfl rfl rfl hLP2) (P5 rfl rfl rfl rfl rfl hHP2)
  intro hN231
  refine an 6 25 524287 (fun (v219 : A4) => ⟨115, [], (12, Vp v219.1) :: (13, Vp v219.2.1) :: (14, Vp v219.2.2.1) :: (15, Vp v219.2.2.2) :: (34, S12) :: (37, S16) :: (40, S17) :: (43, S18) :: (46, S19) :: LP2, Ur v219.1 34 (C1 false 0) :: Ur v219.2.1 34 (C1 false 0) :: Ur v219.2.2.1 34 (C1 false 0) :: Ur v219.2.2.2 34 (C1 false 0) :: HP2⟩) ?_ ?_
  ·rintro ⟨z67, z68, z69, z70⟩
   refine al1 19 (by kernel_rfl) ?_
   ·exact na rfl info34 (C1 false 0) fun q16 => tj [1,2,3,4,0,5,6,7,8,9,10,11,12] (hN231 (z67, z68, z69, z70, q16)) (U10 rfl rfl rfl rfl rfl rfl rfl rfl rfl rfl hLP2) (P5 rfl rfl rfl rfl rfl hHP2)
  intro hN225
  refine an 6 25 786431 (fun (v220 : A4) => ⟨115, [], (12, Vp v220.1) :: (13, Vp v220.2.1) :: (14, Vp v220.2.2.1) :: (16, Vp v220.2.2.2) :: (34, S12) :: (37, S16) :: (40, S17) :: (43, S18) :: (46, S19) :: LP2, Ur v220.1 34 (C1 false 0) :: Ur v220.2.1 34 (C1 false 0) :: Ur v220.2.2.1 34 (C1 false 0) :: Ur v220.2.2.2 34 (C1 false 0) :: HP2⟩) ?_ ?_
  ·rintro ⟨z71, z72, z73, z74⟩
   refine al1 18 (by kernel_rfl) ?_
   ·exact na rfl info34 (C1 false 0) fun q15 => tj [1,2,3,0,4,5,6,7,8,9,10,11,12] (hN231 (z71, z72, z73, q15, z74)) (U10 rfl rfl rfl rfl rfl rfl rfl rfl rfl rfl hLP2) (P5 rfl rfl rfl rfl rfl hHP2)
  intro hN226
  refine an 6 25 917503 (fun (v221 : A4) => ⟨115, [], (12, Vp v221.1) :: (13, Vp v221.2.1) :: (15, Vp v221.2.2.1) :: (16, Vp v221.2.2.2) :: (34, S12) :: (37, S16) :: (40, S17) :: (43, S18) :: (46, S19) :: LP2, Ur v221.1 34 (C1 false 0) :: Ur v221.2.1 34 (C1 false 0) :: Ur v221.2.2.1 34 (C1 false 0) :: Ur v221.2.2.2 34 (C1 false 0) :: HP2⟩) ?_ ?_
  ·rintro ⟨z75, z76, z77, z78⟩
   refine al1 17 (by kernel_rfl) ?_
   ·exact na rfl info34 (C1 false 0) fun q14 => tj [1,2,0,3,4,5,6,7,8,9,10,11,12] (hN231 (z75, z76, q14, z77, z78)) (U10 rfl rfl rfl rfl rfl rfl rfl rfl rfl rfl hLP2) (P5 rfl rfl rfl rfl rfl hHP2)
  intro hN227
  refine an 6 25 983039 (fun (v222 : A4) => ⟨115, [], (12, Vp v222.1) :: (14, Vp v222.2.1) :: (15, Vp v222.2.2.1) :: (16, Vp v222.2.2.2) :: (34, S12) :: (37, S16) :: (40, S17) :: (43, S18) :: (46, S19) :: LP2, Ur v222.1 34 (C1 false 0) :: Ur v222.2.1 34 (C1 false 0) :: Ur v222.2.2.1 34 (C1 false 0) :: Ur v222.2.2.2 34 (C1 false 0) :: HP2⟩) ?_ ?_
  ·rintro ⟨z79, z80, z81, z82⟩
   refine al1 16 (by kernel_rfl) ?_
   ·exact na rfl info34 (C1 false 0) fun q13 => tj [1,0,2,3,4,5,6,7,8,9,10,11,12] (hN231 (z79, q13, z80, z81, z82)) (U10 rfl rfl rfl rfl rfl rfl rfl rfl rfl rfl hLP2) (P5 rfl rfl rfl rfl rfl hHP2)
  intro hN228
  refine an 6 25 1015807 (fun (v223 : A4) => ⟨115, [], (13, Vp v223.1) :: (14, Vp v223.2.1) :: (15, Vp v223.2.2.1) :: (16, Vp v223.2.2.2) :: (34, S12) :: (37, S16) :: (40, S17) :: (43, S18) :: (46, S19) :: LP2, Ur v223.1 34 (C1 false 0) :: Ur v223.2.1 34 (C1 false 0) :: Ur v223.2.2.1 34 (C1 false 0) :: Ur v223.2.2.2 34 (C1 false 0) :: HP2⟩) ?_ ?_
  ·rintro ⟨z83, z84, z85, z86⟩
   refine al1 15 (by kernel_rfl) ?_
   ·exact na rfl info34 (C1 false 0) fun q12 => tj [0,1,2,3,4,5,6,7,8,9,10,11,12] (hN231 (q12, z83, z84, z85, z86)) (U10 rfl rfl rfl rfl rfl rfl rfl rfl rfl rfl hLP2) (P5 rfl rfl rfl rfl rfl hHP2)
  intro hN229
  refine an 6 25 1032191 (fun (v224 : A5) => ⟨115, [], (12, Vp v224.1) :: (13, Vp v224.2.1) :: (14, Vp v224.2.2.1) :: (15, Vp v224.2.2.2.1) :: (16, Vp v224.2.2.2.2) :: (34, S12) :: (37, S16) :: (40, S17) :: (43, S18) :: (44, S14) :: (45, S15) :: LP2, Ur v224.1 34 (C1 false 0) :: Ur v224.2.1 34 (C1 false 0) :: Ur v224.2.2.1 34 (C1 false 0) :: Ur v224.2.2.2.1 34 (C1 false 0) :: Ur v224.2.2.2.2 34 (C1 false 0) :: HP2⟩) ?_ ?_
  ·rintro ⟨z87, z88, z89, z90, z91⟩
   refine al1 14 (by kernel_rfl) ?_
   ·exact no rfl (oz (ent_fn' Try.func25 isn25 rfl rfl) c11) fun _ => tj [0,1,2,3,4,5,6,7,8,9,10,11,12] (hN231 (z87, z88, z89, z90, z91)) (U10 rfl rfl rfl rfl rfl rfl rfl rfl rfl rfl hLP2) (P5 rfl rfl rfl rfl rfl hHP2)
  intro hN230
  refine an 7 25 262143 (fun (v203 : A3) => ⟨115, [], (12, Vp v203.1) :: (13, Vp v203.2.1) :: (14, Vp v203.2.2) :: (34, S12) :: (37, S16) :: (40, S17) :: (43, S18) :: (46, S19) :: LP2, Ur v203.1 34 (C1 false 0) :: Ur v203.2.1 34 (C1 false 0) :: Ur v203.2.2 34 (C1 false 0) :: HP2⟩) ?_ ?_
  ·rintro ⟨z92, z93, z94⟩
   refine al2 18 19 (by kernel_rfl) ?_ ?_
   ·exact na rfl info34 (C1 false 0) fun q15 => tj [1,2,3,0,4,5,6,7,8,9,10,11] (hN225 (z92, z93, z94, q15)) (U9 rfl rfl rfl rfl rfl rfl rfl rfl rfl hLP2) (P4 rfl rfl rfl rfl hHP2)
   exact na rfl info34 (C1 false 0) fun q16 => tj [1,2,3,0,4,5,6,7,8,9,10,11] (hN226 (z92, z93, z94, q16)) (U9 rfl rfl rfl rfl rfl rfl rfl rfl rfl hLP2) (P4 rfl rfl rfl rfl hHP2)
  intro hN209
  refine an 7 25 393215 (fun (v204 : A3) => ⟨115, [], (12, Vp v204.1) :: (13, Vp v204.2.1) :: (15, Vp v204.2.2) :: (34, S12) :: (37, S16) :: (40, S17) :: (43, S18) :: (46, S19) :: LP2, Ur v204.1 34 (C1 false 0) :: Ur v204.2.1 34 (C1 false 0) :: Ur v204.2.2 34 (C1 false 0) :: HP2⟩) ?_ ?_
  ·rintro ⟨z95, z96, z97⟩
   refine al2 17 19 (by kernel_rfl) ?_ ?_
   ·exact na rfl info34 (C1 false 0) fun q14 => tj [1,2,0,3,4,5,6,7,8,9,10,11] (hN225 (z95, z96, q14, z97)) (U9 rfl rfl rfl rfl rfl rfl rfl rfl rfl hLP2) (P4 rfl rfl rfl rfl hHP2)
   exact na rfl info34 (C1 false 0) fun q16 => tj [1,2,3,0,4,5,6,7,8,9,10,11] (hN227 (z95, z96, z97, q16)) (U9 rfl rfl rfl rfl rfl rfl rfl rfl rfl hLP2) (P4 rfl rfl rfl rfl hHP2)
  intro hN210
  refine an 7 25 655359 (fun (v205 : A3) => ⟨115, [], (12, Vp v205.1) :: (13, Vp v205.2.1) :: (16, Vp v205.2.2) :: (34, S12) :: (37, S16) :: (40, S17) :: (43, S18) :: (46, S19) :: LP2, Ur v205.1 34 (C1 false 0) :: Ur v205.2.1 34 (C1 false 0) :: Ur v205.2.2 34 (C1 false 0) :: HP2⟩) ?_ ?_
  ·rintro ⟨z98, z99, z100⟩
   refine al2 17 18 (by kernel_rfl) ?_ ?_
   ·exact na rfl info34 (C1 false 0) fun q14 => tj [1,2,0,3,4,5,6,7,8,9,10,11] (hN226 (z98, z99, q14, z100)) (U9 rfl rfl rfl rfl rfl rfl rfl rfl rfl hLP2) (P4 rfl rfl rfl rfl hHP2)
   exact na rfl info34 (C1 false 0) fun q15 => tj [1,2,0,3,4,5,6,7,8,9,10,11] (hN227 (z98, z99, q15, z100)) (U9 rfl rfl rfl rfl rfl rfl rfl rfl rfl hLP2) (P4 rfl rfl rfl rfl hHP2)
  intro hN211
  refine an 7 25 458751 (fun (v206 : A3) => ⟨115, [], (12, Vp v206.1) :: (14, Vp v206.2.1) :: (15, Vp v206.2.2) :: (34, S12) :: (37, S16) :: (40, S17) :: (43, S18) :: (46, S19) :: LP2, Ur v206.1 34 (C1 false 0) :: Ur v206.2.1 34 (C1 false 0) :: Ur v206.2.2 34 (C1 false 0) :: HP2⟩) ?_ ?_
  ·rintro ⟨z101, z102, z103⟩
   refine al2 16 19 (by kernel_rfl) ?_ ?_
   ·exact na rfl info34 (C1 false 0) fun q13 => tj [1,0,2,3,4,5,6,7,8,9,10,11] (hN225 (z101, q13, z102, z103)) (U9 rfl rfl rfl rfl rfl rfl rfl rfl rfl hLP2) (P4 rfl rfl rfl rfl hHP2)
   exact na rfl info34 (C1 false 0) fun q16 => tj [1,2,3,0,4,5,6,7,8,9,10,11] (hN228 (z101, z102, z103, q16)) (U9 rfl rfl rfl rfl rfl rfl rfl rfl rfl hLP2) (P4 rfl rfl rfl rfl hHP2)
  intro hN212
  refine an 7 25 720895 (fun (v207 : A3) => ⟨115, [], (12, Vp v207.1) :: (14, Vp v207.2.1) :: (16, Vp v207.2.2) :: (34, S12) :: (37, S16) :: (40, S17) :: (43, S18) :: (46, S19) :: LP2, Ur v207.1 34 (C1 false 0) :: Ur v207.2.1 34 (C1 false 0) :: Ur v207.2.2 34 (C1 false 0) :: HP2⟩) ?_ ?_
  ·rintro ⟨z104, z105, z106⟩
   refine al2 16 18 (by kernel_rfl) ?_ ?_
   ·exact na rfl info34 (C1 false 0) fun q13 => tj [1,0,2,3,4,5,6,7,8,9,10,11] (hN226 (z104, q13, z105, z106)) (U9 rfl rfl rfl rfl rfl rfl rfl rfl rfl hLP2) (P4 rfl rfl rfl rfl hHP2)
   exact na rfl info34 (C1 false 0) fun q15 => tj [1,2,0,3,4,5,6,7,8,9,10,11] (hN228 (z104, z105, q15, z106)) (U9 rfl rfl rfl rfl rfl rfl rfl rfl rfl hLP2) (P4 rfl rfl rfl rfl hHP2)
  intro hN213
  refine an 7 25 851967 (fun (v208 : A3) => ⟨115, [], (12, Vp v208.1) :: (15, Vp v208.2.1) :: (16, Vp v208.2.2) :: (34, S12) :: (37, S16) :: (40, S17) :: (43, S18) :: (46, S19) :: LP2, Ur v208.1 34 (C1 false 0) :: Ur v208.2.1 34 (C1 false 0) :: Ur v208.2.2 34 (C1 false 0) :: HP2⟩) ?_ ?_
  ·rintro ⟨z107, z108, z109⟩
   refine al2 16 17 (by kernel_rfl) ?_ ?_
   ·exact na rfl info34 (C1 false 0) fun q13 => tj [1,0,2,3,4,5,6,7,8,9,10,11] (hN227 (z107, q13, z108, z109)) (U9 rfl rfl rfl rfl rfl rfl rfl rfl rfl hLP2) (P4 rfl rfl rfl rfl hHP2)
   exact na rfl info34 (C1 false 0) fun q14 => tj [1,0,2,3,4,5,6,7,8,9,10,11] (hN228 (z107, q14, z108, z109)) (U9 rfl rfl rfl rfl rfl rfl rfl rfl rfl hLP2) (P4 rfl rfl rfl rfl hHP2)
  intro hN214
  refine an 7 25 491519 (fun (v209 : A3) => ⟨115, [], (13, Vp v209.1) :: (14, Vp v209.2.1) :: (15, Vp v209.2.2) :: (34, S12) :: (37, S16) :: (40, S17) :: (43, S18) :: (46, S19) :: LP2, Ur v209.1 34 (C1 false 0) :: Ur v209.2.1 34 (C1 false 0) :: Ur v209.2.2 34 (C1 false 0) :: HP2⟩) ?_ ?_
  ·rintro ⟨z110, z111, z112⟩
   refine al2 15 19 (by kernel_rfl) ?_ ?_
   ·exact na rfl info34 (C1 false 0) fun q12 => tj [0,1,2,3,4,5,6,7,8,9,10,11] (hN225 (q12, z110, z111, z112)) (U9 rfl rfl rfl rfl rfl rfl rfl rfl rfl hLP2) (P4 rfl rfl rfl rfl hHP2)
   exact na rfl info34 (C1 false 0) fun q16 => tj [1,2,3,0,4,5,6,7,8,9,10,11] (hN229 (z110, z111, z112, q16)) (U9 rfl rfl rfl rfl rfl rfl rfl rfl rfl hLP2) (P4 rfl rfl rfl rfl hHP2)
  intro hN215
  refine an 7 25 753663 (fun (v210 : A3) => ⟨115, [], (13, Vp v210.1) :: (14, Vp v210.2.1) :: (16, Vp v210.2.2) :: (34, S12) :: (37, S16) :: (40, S17) :: (43, S18) :: (46, S19) :: LP2, Ur v210.1 34 (C1 false 0) :: Ur v210.2.1 34 (C1 false 0) :: Ur v210.2.2 34 (C1 false 0) :: HP2⟩) ?_ ?_
  ·rintro ⟨z113, z114, z115⟩
   refine al2 15 18 (by kernel_rfl) ?_ ?_
   ·exact na rfl info34 (C1 false 0) fun q12 => tj [0,1,2,3,4,5,6,7,8,9,10,11] (hN226 (q12, z113, z114, z115)) (U9 rfl rfl rfl rfl rfl rfl rfl rfl rfl hLP2) (P4 rfl rfl rfl rfl hHP2)
   exact na rfl info34 (C1 false 0) fun q15 => tj [1,2,0,3,4,5,6,7,8,9,10,11] (hN229 (z113, z114, q15, z115)) (U9 rfl rfl rfl rfl rfl rfl rfl rfl rfl hLP2) (P4 rfl rfl rfl rfl hHP2)
  intro hN216
  refine an 7 25 884735 (fun (v211 : A3) => ⟨115, [], (13, Vp v211.1) :: (15, Vp v211.2.1) :: (16, Vp v211.2.2) :: (34, S12) :: (37, S16) :: (40, S17) :: (43, S18) :: (46, S19) :: LP2, Ur v211.1 34 (C1 false 0) :: Ur v211.2.1 34 (C1 false 0) :: Ur v211.2.2 34 (C1 false 0) :: HP2⟩) ?_ ?_
  ·rintro ⟨z116, z117, z118⟩
   refine al2 15 17 (by kernel_rfl) ?_ ?_
   ·exact na rfl info34 (C1 false 0) fun q12 => tj [0,1,2,3,4,5,6,7,8,9,10,11] (hN227 (q12, z116, z117, z118)) (U9 rfl rfl rfl rfl rfl rfl rfl rfl rfl hLP2) (P4 rfl rfl rfl rfl hHP2)
   exact na rfl info34 (C1 false 0) fun q14 => tj [1,0,2,3,4,5,6,7,8,9,10,11] (hN229 (z116, q14, z117, z118)) (U9 rfl rfl rfl rfl rfl rfl rfl rfl rfl hLP2) (P4 rfl rfl rfl rfl hHP2)
  intro hN217
  refine an 7 25 950271 (fun (v212 : A3) => ⟨115, [], (14, Vp v212.1) :: (15, Vp v212.2.1) :: (16, Vp v212.2.2) :: (34, S12) :: (37, S16) :: (40, S17) :: (43, S18) :: (46, S19) :: LP2, Ur v212.1 34 (C1 false 0) :: Ur v212.2.1 34 (C1 false 0) :: Ur v212.2.2 34 (C1 false 0) :: HP2⟩) ?_ ?_
  ·rintro ⟨z119, z120, z121⟩
   refine al2 15 16 (by kernel_rfl) ?_ ?_
   ·exact na rfl info34 (C1 false 0) fun q12 => tj [0,1,2,3,4,5,6,7,8,9,10,11] (hN228 (q12, z119, z120, z121)) (U9 rfl rfl rfl rfl rfl rfl rfl rfl rfl hLP2) (P4 rfl rfl rfl rfl hHP2)
   exact na rfl info34 (C1 false 0) fun q13 => tj [0,1,2,3,4,5,6,7,8,9,10,11] (hN229 (q13, z119, z120, z121)) (U9 rfl rfl rfl rfl rfl rfl rfl rfl rfl hLP2) (P4 rfl rfl rfl rfl hHP2)
  intro hN218
  refine an 7 25 507903 (fun (v213 : A4) => ⟨115, [], (12, Vp v213.1) :: (13, Vp v213.2.1) :: (14, Vp v213.2.2.1) :: (15, Vp v213.2.2.2) :: (34, S12) :: (37, S16) :: (40, S17) :: (43, S18) :: (44, S14) :: (45, S15) :: LP2, Ur v213.1 34 (C1 false 0) :: Ur v213.2.1 34 (C1 false 0) :: Ur v213.2.2.1 34 (C1 false 0) :: Ur v213.2.2.2 34 (C1 false 0) :: HP2⟩) ?_ ?_
  ·rintro ⟨z122, z123, z124, z125⟩
   refine al2 14 19 (by kernel_rfl) ?_ ?_
   ·exact no rfl (oz (ent_fn' Try.func25 isn25 rfl rfl) c11) fun _ => tj [0,1,2,3,4,5,6,7,8,9,10,11] (hN225 (z122, z123, z124, z125)) (U9 rfl rfl rfl rfl rfl rfl rfl rfl rfl hLP2) (P4 rfl rfl rfl rfl hHP2)
   exact na rfl info34 (C1 false 0) fun q16 => tj [1,2,3,4,0,5,6,7,8,9,10,11,12] (hN230 (z122, z123, z124, z125, q16)) (U11 rfl rfl rfl rfl rfl rfl rfl rfl rfl rfl rfl hLP2) (P5 rfl rfl rfl rfl rfl hHP2)
  intro hN219
  refine an 7 25 770047 (fun (v214 : A4) => ⟨115, [], (12, Vp v214.1) :: (13, Vp v214.2.1) :: (14, Vp v214.2.2.1) :: (16, Vp v214.2.2.2) :: (34, S12) :: (37, S16) :: (40, S17) :: (43, S18) :: (44, S14) :: (45, S15) :: LP2, Ur v214.1 34 (C1 false 0) :: Ur v214.2.1 34 (C1 false 0) :: Ur v214.2.2.1 34 (C1 false 0) :: Ur v214.2.2.2 34 (C1 false 0) :: HP2⟩) ?_ ?_
  ·rintro ⟨z126, z127, z128, z129⟩
   refine al2 14 18 (by kernel_rfl) ?_ ?_
   ·exact no rfl (oz (ent_fn' Try.func25 isn25 rfl rfl) c11) fun _ => tj [0,1,2,3,4,5,6,7,8,9,10,11] (hN226 (z126, z127, z128, z129)) (U9 rfl rfl rfl rfl rfl rfl rfl rfl rfl hLP2) (P4 rfl rfl rfl rfl hHP2)
   exact na rfl info34 (C1 false 0) fun q15 => tj [1,2,3,0,4,5,6,7,8,9,10,11,12] (hN230 (z126, z127, z128, q15, z129)) (U11 rfl rfl rfl rfl rfl rfl rfl rfl rfl rfl rfl hLP2) (P5 rfl rfl rfl rfl rfl hHP2)
  intro hN220
  refine an 7 25 901119 (fun (v215 : A4) => ⟨115, [], (12, Vp v215.1) :: (13, Vp v215.2.1) :: (15, Vp v215.2.2.1) :: (16, Vp v215.2.2.2) :: (34, S12) :: (37, S16) :: (40, S17) :: (43, S18) :: (44, S14) :: (45, S15) :: LP2, Ur v215.1 34 (C1 false 0) :: Ur v215.2.1 34 (C1 false 0) :: Ur v215.2.2.1 34 (C1 false 0) :: Ur v215.2.2.2 34 (C1 false 0) :: HP2⟩) ?_ ?_
  ·rintro ⟨z130, z131, z132, z133⟩
   refine al2 14 17 (by kernel_rfl) ?_ ?_
   ·exact no rfl (oz (ent_fn' Try.func25 isn25 rfl rfl) c11) fun _ => tj [0,1,2,3,4,5,6,7,8,9,10,11] (hN227 (z130, z131, z132, z133)) (U9 rfl rfl rfl rfl rfl rfl rfl rfl rfl hLP2) (P4 rfl rfl rfl rfl hHP2)
   exact na rfl info34 (C1 false 0) fun q14 => tj [1,2,0,3,4,5,6,7,8,9,10,11,12] (hN230 (z130, z131, q14, z132, z133)) (U11 rfl rfl rfl rfl rfl rfl rfl rfl rfl rfl rfl hLP2) (P5 rfl rfl rfl rfl rfl hHP2)
  intro hN221
  refine an 7 25 966655 (fun (v216 : A4) => ⟨115, [], (12, Vp v216.1) :: (14, Vp v216.2.1) :: (15, Vp v216.2.2.1) :: (16, Vp v216.2.2.2) :: (34, S12) :: (37, S16) :: (40, S17) :: (43, S18) :: (44, S14) :: (45, S15) :: LP2, Ur v216.1 34 (C1 false 0) :: Ur v216.2.1 34 (C1 false 0) :: Ur v216.2.2.1 34 (C1 false 0) :: Ur v216.2.2.2 34 (C1 false 0) :: HP2⟩) ?_ ?_
  ·rintro ⟨z134, z135, z136, z137⟩
   refine al2 14 16 (by kernel_rfl) ?_ ?_
   ·exact no rfl (oz (ent_fn' Try.func25 isn25 rfl rfl) c11) fun _ => tj [0,1,2,3,4,5,6,7,8,9,10,11] (hN228 (z134, z135, z136, z137)) (U9 rfl rfl rfl rfl rfl rfl rfl rfl rfl hLP2) (P4 rfl rfl rfl rfl hHP2)
   exact na rfl info34 (C1 false 0) fun q13 => tj [1,0,2,3,4,5,6,7,8,9,10,11,12] (hN230 (z134, q13, z135, z136, z137)) (U11 rfl rfl rfl rfl rfl rfl rfl rfl rfl rfl rfl hLP2) (P5 rfl rfl rfl rfl rfl hHP2)
  intro hN222
  refine an 7 25 999423 (fun (v217 : A4) => ⟨115, [], (13, Vp v217.1) :: (14, Vp v217.2.1) :: (15, Vp v217.2.2.1) :: (16, Vp v217.2.2.2) :: (34, S12) :: (37, S16) :: (40, S17) :: (43, S18) :: (44, S14) :: (45, S15) :: LP2, Ur v217.1 34 (C1 false 0) :: Ur v217.2.1 34 (C1 false 0) :: Ur v217.2.2.1 34 (C1 false 0) :: Ur v217.2.2.2 34 (C1 false 0) :: HP2⟩) ?_ ?_
  ·rintro ⟨z138, z139, z140, z141⟩
   refine al2 14 15 (by kernel_rfl) ?_ ?_
   ·exact no rfl (oz (ent_fn' Try.func25 isn25 rfl rfl) c11) fun _ => tj [0,1,2,3,4,5,6,7,8,9,10,11] (hN229 (z138, z139, z140, z141)) (U9 rfl rfl rfl rfl rfl rfl rfl rfl rfl hLP2) (P4 rfl rfl rfl rfl hHP2)
   exact na rfl info34 (C1 false 0) fun q12 => tj [0,1,2,3,4,5,6,7,8,9,10,11,12] (hN230 (q12, z138, z139, z140, z141)) (U11 rfl rfl rfl rfl rfl rfl rfl rfl rfl rfl rfl hLP2) (P5 rfl rfl rfl rfl rfl hHP2)
  intro hN223
  refine an 7 25 1030143 (fun (v218 : A5) => ⟨115, [], (12, Vp v218.1) :: (13, Vp v218.2.1) :: (14, Vp v218.2.2.1) :: (15, Vp v218.2.2.2.1) :: (16, Vp v218.2.2.2.2) :: (34, S12) :: (37, S16) :: (40, S17) :: (41, S13) :: (42, S15) :: (44, S14) :: (45, S15) :: LP2, Ur v218.1 34 (C1 false 0) :: Ur v218.2.1 34 (C1 false 0) :: Ur v218.2.2.1 34 (C1 false 0) :: Ur v218.2.2.2.1 34 (C1 false 0) :: Ur v218.2.2.2.2 34 (C1 false 0) :: HP2⟩) ?_ ?_
  ·rintro ⟨z142, z143, z144, z145, z146⟩
   refine al1 11 (by kernel_rfl) ?_
   ·exact no rfl (oz (ent_fn' Try.func25 isn25 rfl rfl) c10) fun _ => tj [0,1,2,3,4,5,6,7,8,9,10,11,12] (hN230 (z142, z143, z144, z145, z146)) (U11 rfl rfl rfl rfl rfl rfl rfl rfl rfl rfl rfl hLP2) (P5 rfl rfl rfl rfl rfl hHP2)
  intro hN224
  refine an 8 25 131071 (fun (v177 : A2) => ⟨115, [], (12, Vp v177.1) :: (13, Vp v177.2) :: (34, S12) :: (37, S16) :: (40, S17) :: (43, S18) :: (46, S19) :: LP2, Ur v177.1 34 (C1 false 0) :: Ur v177.2 34 (C1 false 0) :: HP2⟩) ?_ ?_
  ·rintro ⟨z147, z148⟩
   refine al3 17 18 19 (by kernel_rfl) ?_ ?_ ?_
   ·exact na rfl info34 (C1 false 0) fun q14 => tj [1,2,0,3,4,5,6,7,8,9,10] (hN209 (z147, z148, q14)) (U8 rfl rfl rfl rfl rfl rfl rfl rfl hLP2) (P3 rfl rfl rfl hHP2)
   ·exact na rfl info34 (C1 false 0) fun q15 => tj [1,2,0,3,4,5,6,7,8,9,10] (hN210 (z147, z148, q15)) (U8 rfl rfl rfl rfl rfl rfl rfl rfl hLP2) (P3 rfl rfl rfl hHP2)
   exact na rfl info34 (C1 false 0) fun q16 => tj [1,2,0,3,4,5,6,7,8,9,10] (hN211 (z147, z148, q16)) (U8 rfl rfl rfl rfl rfl rfl rfl rfl hLP2) (P3 rfl rfl rfl hHP2)
  intro hN183
  refine an 8 25 196607 (fun (v178 : A2) => ⟨115, [], (12, Vp v178.1) :: (14, Vp v178.2) :: (34, S12) :: (37, S16) :: (40, S17) :: (43, S18) :: (46, S19) :: LP2, Ur v178.1 34 (C1 false 0) :: Ur v178.2 34 (C1 false 0) :: HP2⟩) ?_ ?_
  ·rintro ⟨z149, z150⟩
   refine al3 16 18 19 (by kernel_rfl) ?_ ?_ ?_
   ·exact na rfl info34 (C1 false 0) fun q13 => tj [1,0,2,3,4,5,6,7,8,9,10] (hN209 (z149, q13, z150)) (U8 rfl rfl rfl rfl rfl rfl rfl rfl hLP2) (P3 rfl rfl rfl hHP2)
   ·exact na rfl info34 (C1 false 0) fun q15 => tj [1,2,0,3,4,5,6,7,8,9,10] (hN212 (z149, z150, q15)) (U8 rfl rfl rfl rfl rfl rfl rfl rfl hLP2) (P3 rfl rfl rfl hHP2)
   exact na rfl info34 (C1 false 0) fun q16 => tj [1,2,0,3,4,5,6,7,8,9,10] (hN213 (z149, z150, q16)) (U8 rfl rfl rfl rfl rfl rfl rfl rfl hLP2) (P3 rfl rfl rfl hHP2)
  intro hN184
  refine an 8 25 327679 (fun (v179 : A2) => ⟨115, [], (12, Vp v179.1) :: (15, Vp v179.2) :: (34, S12) :: (37, S16) :: (40, S17) :: (43, S18) :: (46, S19) :: LP2, Ur v179.1 34 (C1 false 0) :: Ur v179.2 34 (C1 false 0) :: HP2⟩) ?_ ?_
  ·rintro ⟨z151, z152⟩
   refine al3 16 17 19 (by kernel_rfl) ?_ ?_ ?_
   ·exact na rfl info34 (C1 false 0) fun q13 => tj [1,0,2,3,4,5,6,7,8,9,10] (hN210 (z151, q13, z152)) (U8 rfl rfl rfl rfl rfl rfl rfl rfl hLP2) (P3 rfl rfl rfl hHP2)
   ·exact na rfl info34 (C1 false 0) fun q14 => tj [1,0,2,3,4,5,6,7,8,9,10] (hN212 (z151, q14, z152)) (U8 rfl rfl rfl rfl rfl rfl rfl rfl hLP2) (P3 rfl rfl rfl hHP2)
   exact na rfl info34 (C1 false 0) fun q16 => tj [1,2,0,3,4,5,6,7,8,9,10] (hN214 (z151, z152, q16)) (U8 rfl rfl rfl rfl rfl rfl rfl rfl hLP2) (P3 rfl rfl rfl hHP2)
  intro hN185
  refine an 8 25 589823 (fun (v180 : A2) => ⟨115, [], (12, Vp v180.1) :: (16, Vp v180.2) :: (34, S12) :: (37, S16) :: (40, S17) :: (43, S18) :: (46, S19) :: LP2, Ur v180.1 34 (C1 false 0) :: Ur v180.2 34 (C1 false 0) :: HP2⟩) ?_ ?_
  ·rintro ⟨z153, z154⟩
   refine al3 16 17 18 (by kernel_rfl) ?_ ?_ ?_
   ·exact na rfl info34 (C1 false 0) fun q13 => tj [1,0,2,3,4,5,6,7,8,9,10] (hN211 (z153, q13, z154)) (U8 rfl rfl rfl rfl rfl rfl rfl rfl hLP2) (P3 rfl rfl rfl hHP2)
   ·exact na rfl info34 (C1 false 0) fun q14 => tj [1,0,2,3,4,5,6,7,8,9,10] (hN213 (z153, q14, z154)) (U8 rfl rfl rfl rfl rfl rfl rfl rfl hLP2) (P3 rfl rfl rfl hHP2)
   exact na rfl info34 (C1 false 0) fun q15 => tj [1,0,2,3,4,5,6,7,8,9,10] (hN214 (z153, q15, z154)) (U8 rfl rfl rfl rfl rfl rfl rfl rfl hLP2) (P3 rfl rfl rfl hHP2)
  intro hN186
  refine an 8 25 229375 (fun (v181 : A2) => ⟨115, [], (13, Vp v181.1) :: (14, Vp v181.2) :: (34, S12) :: (37, S16) :: (40, S17) :: (43, S18) :: (46, S19) :: LP2, Ur v181.1 34 (C1 false 0) :: Ur v181.2 34 (C1 false 0) :: HP2⟩) ?_ ?_
  ·rintro ⟨z155, z156⟩
   refine al3 15 18 19 (by kernel_rfl) ?_ ?_ ?_
   ·exact na rfl info34 (C1 false 0) fun q12 => tj [0,1,2,3,4,5,6,7,8,9,10] (hN209 (q12, z155, z156)) (U8 rfl rfl rfl rfl rfl rfl rfl rfl hLP2) (P3 rfl rfl rfl hHP2)
   ·exact na rfl info34 (C1 false 0) fun q15 => tj [1,2,0,3,4,5,6,7,8,9,10] (hN215 (z155, z156, q15)) (U8 rfl rfl rfl rfl rfl rfl rfl rfl hLP2) (P3 rfl rfl rfl hHP2)
   exact na rfl info34 (C1 false 0) fun q16 => tj [1,2,0,3,4,5,6,7,8,9,10] (hN216 (z155, z156, q16)) (U8 rfl rfl rfl rfl rfl rfl rfl rfl hLP2) (P3 rfl rfl rfl hHP2)
  intro hN187
  refine an 8 25 360447 (fun (v182 : A2) => ⟨115, [], (13, Vp v182.1) :: (15, Vp v182.2) :: (34, S12) :: (37, S16) :: (40, S17) :: (43, S18) :: (46, S19) :: LP2, Ur v182.1 34 (C1 false 0) :: Ur v182.2 34 (C1 false 0) :: HP2⟩) ?_ ?_
  ·rintro ⟨z157, z158⟩
   refine al3 15 17 19 (by kernel_rfl) ?_ ?_ ?_
   ·exact na rfl info34 (C1 false 0) fun q12 => tj [0,1,2,3,4,5,6,7,8,9,10] (hN210 (q12, z157, z158)) (U8 rfl rfl rfl rfl rfl rfl rfl rfl hLP2) (P3 rfl rfl rfl hHP2)
   ·exact na rfl info34 (C1 false 0) fun q14 => tj [1,0,2,3,4,5,6,7,8,9,10] (hN215 (z157, q14, z158)) (U8 rfl rfl rfl rfl rfl rfl rfl rfl hLP2) (P3 rfl rfl rfl hHP2)
   exact na rfl info34 (C1 false 0) fun q16 => tj [1,2,0,3,4,5,6,7,8,9,10] (hN217 (z157, z158, q16)) (U8 rfl rfl rfl rfl rfl rfl rfl rfl hLP2) (P3 rfl rfl rfl hHP2)
  intro hN188
  refine an 8 25 622591 (fun (v183 : A2) => ⟨115, [], (13, Vp v183.1) :: (16, Vp v183.2) :: (34, S12) :: (37, S16) :: (40, S17) :: (43, S18) :: (46, S19) :: LP2, Ur v183.1 34 (C1 false 0) :: Ur v183.2 34 (C1 false 0) :: HP2⟩) ?_ ?_
  ·rintro ⟨z159, z160⟩
   refine al3 15 17 18 (by kernel_rfl) ?_ ?_ ?_
   ·exact na rfl info34 (C1 false 0) fun q12 => tj [0,1,2,3,4,5,6,7,8,9,10] (hN211 (q12, z159, z160)) (U8 rfl rfl rfl rfl rfl rfl rfl rfl hLP2) (P3 rfl rfl rfl hHP2)
   ·exact na rfl info34 (C1 false 0) fun q14 => tj [1,0,2,3,4,5,6,7,8,9,10] (hN216 (z159, q14, z160)) (U8 rfl rfl rfl rfl rfl rfl rfl rfl hLP2) (P3 rfl rfl rfl hHP2)
   exact na rfl info34 (C1 false 0) fun q15 => tj [1,0,2,3,4,5,6,7,8,9,10] (hN217 (z159, q15, z160)) (U8 rfl rfl rfl rfl rfl rfl rfl rfl hLP2) (P3 rfl rfl rfl hHP2)
  intro hN189
  refine an 8 25 425983 (fun (v184 : A2) => ⟨115, [], (14, Vp v184.1) :: (15, Vp v184.2) :: (34, S12) :: (37, S16) :: (40, S17) :: (43, S18) :: (46, S19) :: LP2, Ur v184.1 34 (C1 false 0) :: Ur v184.2 34 (C1 false 0) :: HP2⟩) ?_ ?_
  ·rintro ⟨z161, z162⟩
   refine al3 15 16 19 (by kernel_rfl) ?_ ?_ ?_
   ·exact na rfl info34 (C1 false 0) fun q12 => tj [0,1,2,3,4,5,6,7,8,9,10] (hN212 (q12, z161, z162)) (U8 rfl rfl rfl rfl rfl rfl rfl rfl hLP2) (P3 rfl rfl rfl hHP2)
   ·exact na rfl info34 (C1 false 0) fun q13 => tj [0,1,2,3,4,5,6,7,8,9,10] (hN215 (q13, z161, z162)) (U8 rfl rfl rfl rfl rfl rfl rfl rfl hLP2) (P3 rfl rfl rfl hHP2)
   exact na rfl info34 (C1 false 0) fun q16 => tj [1,2,0,3,4,5,6,7,8,9,10] (hN218 (z161, z162, q16)) (U8 rfl rfl rfl rfl rfl rfl rfl rfl hLP2) (P3 rfl rfl rfl hHP2)
  intro hN190
  refine an 8 25 688127 (fun (v185 : A2) => ⟨115, [], (14, Vp v185.1) :: (16, Vp v185.2) :: (34, S12) :: (37, S16) :: (40, S17) :: (43, S18) :: (46, S19) :: LP2, Ur v185.1 34 (C1 false 0) :: Ur v185.2 34 (C1 false 0) :: HP2⟩) ?_ ?_
  ·rintro ⟨z163, z164⟩
   refine al3 15 16 18 (by kernel_rfl) ?_ ?_ ?_
   ·exact na rfl info34 (C1 false 0) fun q12 => tj [0,1,2,3,4,5,6,7,8,9,10] (hN213 (q12, z163, z164)) (U8 rfl rfl rfl rfl rfl rfl rfl rfl hLP2) (P3 rfl rfl rfl hHP2)
   ·exact na rfl info34 (C1 false 0) fun q13 => tj [0,1,2,3,4,5,6,7,8,9,10] (hN216 (q13, z163, z164)) (U8 rfl rfl rfl rfl rfl rfl rfl rfl hLP2) (P3 rfl rfl rfl hHP2)
   exact na rfl info34 (C1 false 0) fun q15 => tj [1,0,2,3,4,5,6,7,8,9,10] (hN218 (z163, q15, z164)) (U8 rfl rfl rfl rfl rfl rfl rfl rfl hLP2) (P3 rfl rfl rfl hHP2)
  intro hN191
  refine an 8 25 819199 (fun (v186 : A2) => ⟨115, [], (15, Vp v186.1) :: (16, Vp v186.2) :: (34, S12) :: (37, S16) :: (40, S17) :: (43, S18) :: (46, S19) :: LP2, Ur v186.1 34 (C1 false 0) :: Ur v186.2 34 (C1 false 0) :: HP2⟩) ?_ ?_
  ·rintro ⟨z165, z166⟩
   refine al3 15 16 17 (by kernel_rfl) ?_ ?_ ?_
   ·exact na rfl info34 (C1 false 0) fun q12 => tj [0,1,2,3,4,5,6,7,8,9,10] (hN214 (q12, z165, z166)) (U8 rfl rfl rfl rfl rfl rfl rfl rfl hLP2) (P3 rfl rfl rfl hHP2)
   ·exact na rfl info34 (C1 false 0) fun q13 => tj [0,1,2,3,4,5,6,7,8,9,10] (hN217 (q13, z165, z166)) (U8 rfl rfl rfl rfl rfl rfl rfl rfl hLP2) (P3 rfl rfl rfl hHP2)
   exact na rfl info34 (C1 false 0) fun q14 => tj [0,1,2,3,4,5,6,7,8,9,10] (hN218 (q14, z165, z166)) (U8 rfl rfl rfl rfl rfl rfl rfl rfl hLP2) (P3 rfl rfl rfl hHP2)
  intro hN192
  refine an 8 25 245759 (fun (v187 : A3) => ⟨115, [], (12, Vp v187.1) :: (13, Vp v187.2.1) :: (14, Vp v187.2.2) :: (34, S12) :: (37, S16) :: (40, S17) :: (43, S18) :: (44, S14) :: (45, S15) :: LP2, Ur v187.1 34 (C1 false 0) :: Ur v187.2.1 34 (C1 false 0) :: Ur v187.2.2 34 (C1 false 0) :: HP2⟩) ?_ ?_
  ·rintro ⟨z167, z168, z169⟩
   refine al3 14 18 19 (by kernel_rfl) ?_ ?_ ?_
   ·exact no rfl (oz (ent_fn' Try.func25 isn25 rfl rfl) c11) fun _ => tj [0,1,2,3,4,5,6,7,8,9,10] (hN209 (z167, z168, z169)) (U8 rfl rfl rfl rfl rfl rfl rfl rfl hLP2) (P3 rfl rfl rfl hHP2)
   ·exact na rfl info34 (C1 false 0) fun q15 => tj [1,2,3,0,4,5,6,7,8,9,10,11] (hN219 (z167, z168, z169, q15)) (U10 rfl rfl rfl rfl rfl rfl rfl rfl rfl rfl hLP2) (P4 rfl rfl rfl rfl hHP2)
   exact na rfl info34 (C1 false 0) fun q16 => tj [1,2,3,0,4,5,6,7,8,9,10,11] (hN220 (z167, z168, z169, q16)) (U10 rfl rfl rfl rfl rfl rfl rfl rfl rfl rfl hLP2) (P4 rfl rfl rfl rfl hHP2)
  intro hN193
  refine an 8 25 376831 (fun (v188 : A3) => ⟨115, [], (12, Vp v188.1) :: (13, Vp v188.2.1) :: (15, Vp v188.2.2) :: (34, S12) :: (37, S16) :: (40, S17) :: (43, S18) :: (44, S14) :: (45, S15) :: LP2, Ur v188.1 34 (C1 false 0) :: Ur v188.2.1 34 (C1 false 0) :: Ur v188.2.2 34 (C1 false 0) :: HP2⟩) ?_ ?_
  ·rintro ⟨z170, z171, z172⟩
   refine al3 14 17 19 (by kernel_rfl) ?_ ?_ ?_
   ·exact no rfl (oz (ent_fn' Try.func25 isn25 rfl rfl) c11) fun _ => tj [0,1,2,3,4,5,6,7,8,9,10] (hN210 (z170, z171, z172)) (U8 rfl rfl rfl rfl rfl rfl rfl rfl hLP2) (P3 rfl rfl rfl hHP2)
   ·exact na rfl info34 (C1 false 0) fun q14 => tj [1,2,0,3,4,5,6,7,8,9,10,11] (hN219 (z170, z171, q14, z172)) (U10 rfl rfl rfl rfl rfl rfl rfl rfl rfl rfl hLP2) (P4 rfl rfl rfl rfl hHP2)
   exact na rfl info34 (C1 false 0) fun q16 => tj [1,2,3,0,4,5,6,7,8,9,10,11] (hN221 (z170, z171, z172, q16)) (U10 rfl rfl rfl rfl rfl rfl rfl rfl rfl rfl hLP2) (P4 rfl rfl rfl rfl hHP2)
  intro hN194
  refine an 8 25 638975 (fun (v189 : A3) => ⟨115, [], (12, Vp v189.1) :: (13, Vp v189.2.1) :: (16, Vp v189.2.2) :: (34, S12) :: (37, S16) :: (40, S17) :: (43, S18) :: (44, S14) :: (45, S15) :: LP2, Ur v189.1 34 (C1 false 0) :: Ur v189.2.1 34 (C1 false 0) :: Ur v189.2.2 34 (C1 false 0) :: HP2⟩) ?_ ?_
  ·rintro ⟨z173, z174, z175⟩
   refine al3 14 17 18 (by kernel_rfl) ?_ ?_ ?_
   ·exact no rfl (oz (ent_fn' Try.func25 isn25 rfl rfl) c11) fun _ => tj [0,1,2,3,4,5,6,7,8,9,10] (hN211 (z173, z174, z175)) (U8 rfl rfl rfl rfl rfl rfl rfl rfl hLP2) (P3 rfl rfl rfl hHP2)
   ·exact na rfl info34 (C1 false 0) fun q14 => tj [1,2,0,3,4,5,6,7,8,9,10,11] (hN220 (z173, z174, q14, z175)) (U10 rfl rfl rfl rfl rfl rfl rfl rfl rfl rfl hLP2) (P4 rfl rfl rfl rfl hHP2)
   exact na rfl info34 (C1 false 0) fun q15 => tj [1,2,0,3,4,5,6,7,8,9,10,11] (hN221 (z173, z174, q15, z175)) (U10 rfl rfl rfl rfl rfl rfl rfl rfl rfl rfl hLP2) (P4 rfl rfl rfl rfl hHP2)
  intro hN195
  refine an 8 25 442367 (fun (v190 : A3) => ⟨115, [], (12, Vp v190.1) :: (14, Vp v190.2.1) :: (15, Vp v190.2.2) :: (34, S12) :: (37, S16) :: (40, S17) :: (43, S18) :: (44, S14) :: (45, S15) :: LP2, Ur v190.1 34 (C1 false 0) :: Ur v190.2.1 34 (C1 false 0) :: Ur v190.2.2 34 (C1 false 0) :: HP2⟩) ?_ ?_
  ·rintro ⟨z176, z177, z178⟩
   refine al3 14 16 19 (by kernel_rfl) ?_ ?_ ?_
   ·exact no rfl (oz (ent_fn' Try.func25 isn25 rfl rfl) c11) fun _ => tj [0,1,2,3,4,5,6,7,8,9,10] (hN212 (z176, z177, z178)) (U8 rfl rfl rfl rfl rfl rfl rfl rfl hLP2) (P3 rfl rfl rfl hHP2)
   ·exact na rfl info34 (C1 false 0) fun q13 => tj [1,0,2,3,4,5,6,7,8,9,10,11] (hN219 (z176, q13, z177, z178)) (U10 rfl rfl rfl rfl rfl rfl rfl rfl rfl rfl hLP2) (P4 rfl rfl rfl rfl hHP2)
   exact na rfl info34 (C1 false 0) fun q16 => tj [1,2,3,0,4,5,6,7,8,9,10,11] (hN222 (z176, z177, z178, q16)) (U10 rfl rfl rfl rfl rfl rfl rfl rfl rfl rfl hLP2) (P4 rfl rfl rfl rfl hHP2)
  intro hN196
  refine an 8 25 704511 (fun (v191 : A3) => ⟨115, [], (12, Vp v191.1) :: (14, Vp v191.2.1) :: (16, Vp v191.2.2) :: (34, S12) :: (37, S16) :: (40, S17) :: (43, S18) :: (44, S14) :: (45, S15) :: LP2, Ur v191.1 34 (C1 false 0) :: Ur v191.2.1 34 (C1 false 0) :: Ur v191.2.2 34 (C1 false 0) :: HP2⟩) ?_ ?_
  ·rintro ⟨z179, z180, z181⟩
   refine al3 14 16 18 (by kernel_rfl) ?_ ?_ ?_
   ·exact no rfl (oz (ent_fn' Try.func25 isn25 rfl rfl) c11) fun _ => tj [0,1,2,3,4,5,6,7,8,9,10] (hN213 (z179, z180, z181)) (U8 rfl rfl rfl rfl rfl rfl rfl rfl hLP2) (P3 rfl rfl rfl hHP2)
   ·exact na rfl info34 (C1 false 0) fun q13 => tj [1,0,2,3,4,5,6,7,8,9,10,11] (hN220 (z179, q13, z180, z181)) (U10 rfl rfl rfl rfl rfl rfl rfl rfl rfl rfl hLP2) (P4 rfl rfl rfl rfl hHP2)
   exact na rfl info34 (C1 false 0) fun q15 => tj [1,2,0,3,4,5,6,7,8,9,10,11] (hN222 (z179, z180, q15, z181)) (U10 rfl rfl rfl rfl rfl rfl rfl rfl rfl rfl hLP2) (P4 rfl rfl rfl rfl hHP2)
  intro hN197
  refine an 8 25 835583 (fun (v192 : A3) => ⟨115, [], (12, Vp v192.1) :: (15, Vp v192.2.1) :: (16, Vp v192.2.2) :: (34, S12) :: (37, S16) :: (40, S17) :: (43, S18) :: (44, S14) :: (45, S15) :: LP2, Ur v192.1 34 (C1 false 0) :: Ur v192.2.1 34 (C1 false 0) :: Ur v192.2.2 34 (C1 false 0) :: HP2⟩) ?_ ?_
  ·rintro ⟨z182, z183, z184⟩
   refine al3 14 16 17 (by kernel_rfl) ?_ ?_ ?_
   ·exact no rfl (oz (ent_fn' Try.func25 isn25 rfl rfl) c11) fun _ => tj [0,1,2,3,4,5,6,7,8,9,10] (hN214 (z182, z183, z184)) (U8 rfl rfl rfl rfl rfl rfl rfl rfl hLP2) (P3 rfl rfl rfl hHP2)
   ·exact na rfl info34 (C1 false 0) fun q13 => tj [1,0,2,3,4,5,6,7,8,9,10,11] (hN221 (z182, q13, z183, z184)) (U10 rfl rfl rfl rfl rfl rfl rfl rfl rfl rfl hLP2) (P4 rfl rfl rfl rfl hHP2)
   exact na rfl info34 (C1 false 0) fun q14 => tj [1,0,2,3,4,5,6,7,8,9,10,11] (hN222 (z182, q14, z183, z184)) (U10 rfl rfl rfl rfl rfl rfl rfl rfl rfl rfl hLP2) (P4 rfl rfl rfl rfl hHP2)
  intro hN198
  refine an 8 25 475135 (fun (v193 : A3) => ⟨115, [], (13, Vp v193.1) :: (14, Vp v193.2.1) :: (15, Vp v193.2.2) :: (34, S12) :: (37, S16) :: (40, S17) :: (43, S18) :: (44, S14) :: (45, S15) :: LP2, Ur v193.1 34 (C1 false 0) :: Ur v193.2.1 34 (C1 false 0) :: Ur v193.2.2 34 (C1 false 0) :: HP2⟩) ?_ ?_
  ·rintro ⟨z185, z186, z187⟩
   refine al3 14 15 19 (by kernel_rfl) ?_ ?_ ?_
   ·exact no rfl (oz (ent_fn' Try.func25 isn25 rfl rfl) c11) fun _ => tj [0,1,2,3,4,5,6,7,8,9,10] (hN215 (z185, z186, z187)) (U8 rfl rfl rfl rfl rfl rfl rfl rfl hLP2) (P3 rfl rfl rfl hHP2)
   ·exact na rfl info34 (C1 false 0) fun q12 => tj [0,1,2,3,4,5,6,7,8,9,10,11] (hN219 (q12, z185, z186, z187)) (U10 rfl rfl rfl rfl rfl rfl rfl rfl rfl rfl hLP2) (P4 rfl rfl rfl rfl hHP2)
   exact na rfl info34 (C1 false 0) fun q16 => tj [1,2,3,0,4,5,6,7,8,9,10,11] (hN223 (z185, z186, z187, q16)) (U10 rfl rfl rfl rfl rfl rfl rfl rfl rfl rfl hLP2) (P4 rfl rfl rfl rfl hHP2)
  intro hN199
  refine an 8 25 737279 (fun (v194 : A3) => ⟨115, [], (13, Vp v194.1) :: (14, Vp v194.2.1) :: (16, Vp v194.2.2) :: (34, S12) :: (37, S16) :: (40, S17) :: (43, S18) :: (44, S14) :: (45, S15) :: LP2, Ur v194.1 34 (C1 false 0) :: Ur v194.2.1 34 (C1 false 0) :: Ur v194.2.2 34 (C1 false 0) :: HP2⟩) ?_ ?_
  ·rintro ⟨z188, z189, z190⟩
   refine al3 14 15 18 (by kernel_rfl) ?_ ?_ ?_
   ·exact no rfl (oz (ent_fn' Try.func25 isn25 rfl rfl) c11) fun _ => tj [0,1,2,3,4,5,6,7,8,9,10] (hN216 (z188, z189, z190)) (U8 rfl rfl rfl rfl rfl rfl rfl rfl hLP2) (P3 rfl rfl rfl hHP2)
   ·exact na rfl info34 (C1 false 0) fun q12 => tj [0,1,2,3,4,5,6,7,8,9,10,11] (hN220 (q12, z188, z189, z190)) (U10 rfl rfl rfl rfl rfl rfl rfl rfl rfl rfl hLP2) (P4 rfl rfl rfl rfl hHP2)
   exact na rfl info34 (C1 false 0) fun q15 => tj [1,2,0,3,4,5,6,7,8,9,10,11] (hN223 (z188, z189, q15, z190)) (U10 rfl rfl rfl rfl rfl rfl rfl rfl rfl rfl hLP2) (P4 rfl rfl rfl rfl hHP2)
  intro hN200
  refine an 8 25 868351 (fun (v195 : A3) => ⟨115, [], (13, Vp v195.1) :: (15, Vp v195.2.1) :: (16, Vp v195.2.2) :: (34, S12) :: (37, S16) :: (40, S17) :: (43, S18) :: (44, S14) :: (45, S15) :: LP2, Ur v195.1 34 (C1 false 0) :: Ur v195.2.1 34 (C1 false 0) :: Ur v195.2.2 34 (C1 false 0) :: HP2⟩) ?_ ?_
  ·rintro ⟨z191, z192, z193⟩
   refine al3 14 15 17 (by kernel_rfl) ?_ ?_ ?_
   ·exact no rfl (oz (ent_fn' Try.func25 isn25 rfl rfl) c11) fun _ => tj [0,1,2,3,4,5,6,7,8,9,10] (hN217 (z191, z192, z193)) (U8 rfl rfl rfl rfl rfl rfl rfl rfl hLP2) (P3 rfl rfl rfl hHP2)
   ·exact na rfl info34 (C1 false 0) fun q12 => tj [0,1,2,3,4,5,6,7,8,9,10,11] (hN221 (q12, z191, z192, z193)) (U10 rfl rfl rfl rfl rfl rfl rfl rfl rfl rfl hLP2) (P4 rfl rfl rfl rfl hHP2)
   exact na rfl info34 (C1 false 0) fun q14 => tj [1,0,2,3,4,5,6,7,8,9,10,11] (hN223 (z191, q14, z192, z193)) (U10 rfl rfl rfl rfl rfl rfl rfl rfl rfl rfl hLP2) (P4 rfl rfl rfl rfl hHP2)
  intro hN201
  refine an 8 25 933887 (fun (v196 : A3) => ⟨115, [], (14, Vp v196.1) :: (15, Vp v196.2.1) :: (16, Vp v196.2.2) :: (34, S12) :: (37, S16) :: (40, S17) :: (43, S18) :: (44, S14) :: (45, S15) :: LP2, Ur v196.1 34 (C1 false 0) :: Ur v196.2.1 34 (C1 false 0) :: Ur v196.2.2 34 (C1 false 0) :: HP2⟩) ?_ ?_
  ·rintro ⟨z194, z195, z196⟩
   refine al3 14 15 16 (by kernel_rfl) ?_ ?_ ?_
   ·exact no rfl (oz (ent_fn' Try.func25 isn25 rfl rfl) c11) fun _ => tj [0,1,2,3,4,5,6,7,8,9,10] (hN218 (z194, z195, z196)) (U8 rfl rfl rfl rfl rfl rfl rfl rfl hLP2) (P3 rfl rfl rfl hHP2)
   ·exact na rfl info34 (C1 false 0) fun q12 => tj [0,1,2,3,4,5,6,7,8,9,10,11] (hN222 (q12, z194, z195, z196)) (U10 rfl rfl rfl rfl rfl rfl rfl rfl rfl rfl hLP2) (P4 rfl rfl rfl rfl hHP2)
   exact na rfl info34 (C1 false 0) fun q13 => tj [0,1,2,3,4,5,6,7,8,9,10,11] (hN223 (q13, z194, z195, z196)) (U10 rfl rfl rfl rfl rfl rfl rfl rfl rfl rfl hLP2) (P4 rfl rfl rfl rfl hHP2)
  intro hN202
  refine an 8 25 505855 (fun (v197 : A4) => ⟨115, [], (12, Vp v197.1) :: (13, Vp v197.2.1) :: (14, Vp v197.2.2.1) :: (15, Vp v197.2.2.2) :: (34, S12) :: (37, S16) :: (40, S17) :: (41, S13) :: (42, S15) :: (44, S14) :: (45, S15) :: LP2, Ur v197.1 34 (C1 false 0) :: Ur v197.2.1 34 (C1 false 0) :: Ur v197.2.2.1 34 (C1 false 0) :: Ur v197.2.2.2 34 (C1 false 0) :: HP2⟩) ?_ ?_
  ·rintro ⟨z197, z198, z199, z200⟩
   refine al2 11 19 (by kernel_rfl) ?_ ?_
   ·exact no rfl (oz (ent_fn' Try.func25 isn25 rfl rfl) c10) fun _ => tj [0,1,2,3,4,5,6,7,8,9,10,11] (hN219 (z197, z198, z199, z200)) (U10 rfl rfl rfl rfl rfl rfl rfl rfl rfl rfl hLP2) (P4 rfl rfl rfl rfl hHP2)
   exact na rfl info34 (C1 false 0) fun q16 => tj [1,2,3,4,0,5,6,7,8,9,10,11,12] (hN224 (z197, z198, z199, z200, q16)) (U12 rfl rfl rfl rfl rfl rfl rfl rfl rfl rfl rfl rfl hLP2) (P5 rfl rfl rfl rfl rfl hHP2)
  intro hN203
  refine an 8 25 767999 (fun (v198 : A4) => ⟨115, [], (12, Vp v198.1) :: (13, Vp v198.2.1) :: (14, Vp v198.2.2.1) :: (16, Vp v198.2.2.2) :: (34, S12) :: (37, S16) :: (40, S17) :: (41, S13) :: (42, S15) :: (44, S14) :: (45, S15) :: LP2, Ur v198.1 34 (C1 false 0) :: Ur v198.2.1 34 (C1 false 0) :: Ur v198.2.2.1 34 (C1 false 0) :: Ur v198.2.2.2 34 (C1 false 0) :: HP2⟩) ?_ ?_
  ·rintro ⟨z201, z202, z203, z204⟩
   refine al2 11 18 (by kernel_rfl) ?_ ?_
   ·exact no rfl (oz (ent_fn' Try.func25 isn25 rfl rfl) c10) fun _ => tj [0,1,2,3,4,5,6,7,8,9,10,11] (hN220 (z201, z202, z203, z204)) (U10 rfl rfl rfl rfl rfl rfl rfl rfl rfl rfl hLP2) (P4 rfl rfl rfl rfl hHP2)
   exact na rfl info34 (C1 false 0) fun q15 => tj [1,2,3,0,4,5,6,7,8,9,10,11,12] (hN224 (z201, z202, z203, q15, z204)) (U12 rfl rfl rfl rfl rfl rfl rfl rfl rfl rfl rfl rfl hLP2) (P5 rfl rfl rfl rfl rfl hHP2)
  intro hN204
  refine an 8 25 899071 (fun (v199 : A4) => ⟨115, [], (12, Vp v199.1) :: (13, Vp v199.2.1) :: (15, Vp v199.2.2.1) :: (16, Vp v199.2.2.2) :: (34, S12) :: (37, S16) :: (40, S17) :: (41, S13) :: (42, S15) :: (44, S14) :: (45, S15) :: LP2, Ur v199.1 34 (C1 false 0) :: Ur v199.2.1 34 (C1 false 0) :: Ur v199.2.2.1 34 (C1 false 0) :: Ur v199.2.2.2 34 (C1 false 0) :: HP2⟩) ?_ ?_
  ·rintro ⟨z205, z206, z207, z208⟩
   refine al2 11 17 (by kernel_rfl) ?_ ?_
   ·exact no rfl (oz (ent_fn' Try.func25 isn25 rfl rfl) c10) fun _ => tj [0,1,2,3,4,5,6,7,8,9,10,11] (hN221 (z205, z206, z207, z208)) (U10 rfl rfl rfl rfl rfl rfl rfl rfl rfl rfl hLP2) (P4 rfl rfl rfl rfl hHP2)
   exact na rfl info34 (C1 false 0) fun q14 => tj [1,2,0,3,4,5,6,7,8,9,10,11,12] (hN224 (z205, z206, q14, z207, z208)) (U12 rfl rfl rfl rfl rfl rfl rfl rfl rfl rfl rfl rfl hLP2) (P5 rfl rfl rfl rfl rfl hHP2)
  intro hN205
  refine an 8 25 964607 (fun (v200 : A4) => ⟨115, [], (12, Vp v200.1) :: (14, Vp v200.2.1) :: (15, Vp v200.2.2.1) :: (16, Vp v200.2.2.2) :: (34, S12) :: (37, S16) :: (40, S17) :: (41, S13) :: (42, S15) :: (44, S14) :: (45, S15) :: LP2, Ur v200.1 34 (C1 false 0) :: Ur v200.2.1 34 (C1 false 0) :: Ur v200.2.2.1 34 (C1 false 0) :: Ur v200.2.2.2 34 (C1 false 0) :: HP2⟩) ?_ ?_
  ·rintro ⟨z209, z210, z211, z212⟩
   refine al2 11 16 (by kernel_rfl) ?_ ?_
   ·exact no rfl (oz (ent_fn' Try.func25 isn25 rfl rfl) c10) fun _ => tj [0,1,2,3,4,5,6,7,8,9,10,11] (hN222 (z209, z210, z211, z212)) (U10 rfl rfl rfl rfl rfl rfl rfl rfl rfl rfl hLP2) (P4 rfl rfl rfl rfl hHP2)
   exact na rfl info34 (C1 false 0) fun q13 => tj [1,0,2,3,4,5,6,7,8,9,10,11,12] (hN224 (z209, q13, z210, z211, z212)) (U12 rfl rfl rfl rfl rfl rfl rfl rfl rfl rfl rfl rfl hLP2) (P5 rfl rfl rfl rfl rfl hHP2)
  intro hN206
  refine an 8 25 997375 (fun (v201 : A4) => ⟨115, [], (13, Vp v201.1) :: (14, Vp v201.2.1) :: (15, Vp v201.2.2.1) :: (16, Vp v201.2.2.2) :: (34, S12) :: (37, S16) :: (40, S17) :: (41, S13) :: (42, S15) :: (44, S14) :: (45, S15) :: LP2, Ur v201.1 34 (C1 false 0) :: Ur v201.2.1 34 (C1 false 0) :: Ur v201.2.2.1 34 (C1 false 0) :: Ur v201.2.2.2 34 (C1 false 0) :: HP2⟩) ?_ ?_
  ·rintro ⟨z213, z214, z215, z216⟩
   refine al2 11 15 (by kernel_rfl) ?_ ?_
   ·exact no rfl (oz (ent_fn' Try.func25 isn25 rfl rfl) c10) fun _ => tj [0,1,2,3,4,5,6,7,8,9,10,11] (hN223 (z213, z214, z215, z216)) (U10 rfl rfl rfl rfl rfl rfl rfl rfl rfl rfl hLP2) (P4 rfl rfl rfl rfl hHP2)
   exact na rfl info34 (C1 false 0) fun q12 => tj [0,1,2,3,4,5,6,7,8,9,10,11,12] (hN224 (q12, z213, z214, z215, z216)) (U12 rfl rfl rfl rfl rfl rfl rfl rfl rfl rfl rfl rfl hLP2) (P5 rfl rfl rfl rfl rfl hHP2)
  intro hN207
  refine an 8 25 1029887 (fun (v202 : A5) => ⟨115, [], (12, Vp v202.1) :: (13, Vp v202.2.1) :: (14, Vp v202.2.2.1) :: (15, Vp v202.2.2.2.1) :: (16, Vp v202.2.2.2.2) :: (34, S12) :: (37, S16) :: (38, S14) :: (39, S14) :: (41, S13) :: (42, S15) :: (44, S14) :: (45, S15) :: LP2, Ur v202.1 34 (C1 false 0) :: Ur v202.2.1 34 (C1 false 0) :: Ur v202.2.2.1 34 (C1 false 0) :: Ur v202.2.2.2.1 34 (C1 false 0) :: Ur v202.2.2.2.2 34 (C1 false 0) :: HP2⟩) ?_ ?_
  ·rintro ⟨z217, z218, z219, z220, z221⟩
   refine al1 8 (by kernel_rfl) ?_
   ·exact no rfl (oz (ent_fn' Try.func25 isn25 rfl rfl) c9) fun _ => tj [0,1,2,3,4,5,6,7,8,9,10,11,12] (hN224 (z217, z218, z219, z220, z221)) (U12 rfl rfl rfl rfl rfl rfl rfl rfl rfl rfl rfl rfl hLP2) (P5 rfl rfl rfl rfl rfl hHP2)
  intro hN208
  refine an 9 25 65535 (fun (v146 : Addr) => ⟨115, [], (12, Vp v146) :: (34, S12) :: (37, S16) :: (40, S17) :: (43, S18) :: (46, S19) :: LP2, Ur v146 34 (C1 false 0) :: HP2⟩) ?_ ?_
  ·rintro z222
   refine al4 16 17 18 19 (by kernel_rfl) ?_ ?_ ?_ ?_
   ·exact na rfl info34 (C1 false 0) fun q13 => tj [1,0,2,3,4,5,6,7,8,9] (hN183 (z222, q13)) (U7 rfl rfl rfl rfl rfl rfl rfl hLP2) (P2 rfl rfl hHP2)
   ·exact na rfl info34 (C1 false 0) fun q14 => tj [1,0,2,3,4,5,6,7,8,9] (hN184 (z222, q14)) (U7 rfl rfl rfl rfl rfl rfl rfl hLP2) (P2 rfl rfl hHP2)
   ·exact na rfl info34 (C1 false 0) fun q15 => tj [1,0,2,3,4,5,6,7,8,9] (hN185 (z222, q15)) (U7 rfl rfl rfl rfl rfl rfl rfl hLP2) (P2 rfl rfl hHP2)
   exact na rfl info34 (C1 false 0) fun q16 => tj [1,0,2,3,4,5,6,7,8,9] (hN186 (z222, q16)) (U7 rfl rfl rfl rfl rfl rfl rfl hLP2) (P2 rfl rfl hHP2)
  intro hN152
  refine an 9 25 98303 (fun (v147 : Addr) => ⟨115, [], (13, Vp v147) :: (34, S12) :: (37, S16) :: (40, S17) :: (43, S18) :: (46, S19) :: LP2, Ur v147 34 (C1 false 0) :: HP2⟩) ?_ ?_
  ·rintro z223
   refine al4 15 17 18 19 (by kernel_rfl) ?_ ?_ ?_ ?_
   ·exact na rfl info34 (C1 false 0) fun q12 => tj [0,1,2,3,4,5,6,7,8,9] (hN183 (q12, z223)) (U7 rfl rfl rfl rfl rfl rfl rfl hLP2) (P2 rfl rfl hHP2)
   ·exact na rfl info34 (C1 false 0) fun q14 => tj [1,0,2,3,4,5,6,7,8,9] (hN187 (z223, q14)) (U7 rfl rfl rfl rfl rfl rfl rfl hLP2) (P2 rfl rfl hHP2)
   ·exact na rfl info34 (C1 false 0) fun q15 => tj [1,0,2,3,4,5,6,7,8,9] (hN188 (z223, q15)) (U7 rfl rfl rfl rfl rfl rfl rfl hLP2) (P2 rfl rfl hHP2)
   exact na rfl info34 (C1 false 0) fun q16 => tj [1,0,2,3,4,5,6,7,8,9] (hN189 (z223, q16)) (U7 rfl rfl rfl rfl rfl rfl rfl hLP2) (P2 rfl rfl hHP2)
  intro hN153
  refine an 9 25 163839 (fun (v148 : Addr) => ⟨115, [], (14, Vp v148) :: (34, S12) :: (37, S16) :: (40, S17) :: (43, S18) :: (46, S19) :: LP2, Ur v148 34 (C1 false 0) :: HP2⟩) ?_ ?_
  ·rintro z224
   refine al4 15 16 18 19 (by kernel_rfl) ?_ ?_ ?_ ?_
   ·exact na rfl info34 (C1 false 0) fun q12 => tj [0,1,2,3,4,5,6,7,8,9] (hN184 (q12, z224)) (U7 rfl rfl rfl rfl rfl rfl rfl hLP2) (P2 rfl rfl hHP2)
   ·exact na rfl info34 (C1 false 0) fun q13 => tj [0,1,2,3,4,5,6,7,8,9] (hN187 (q13, z224)) (U7 rfl rfl rfl rfl rfl rfl rfl hLP2) (P2 rfl rfl hHP2)
   ·exact na rfl info34 (C1 false 0) fun q15 => tj [1,0,2,3,4,5,6,7,8,9] (hN190 (z224, q15)) (U7 rfl rfl rfl rfl rfl rfl rfl hLP2) (P2 rfl rfl hHP2)
   exact na rfl info34 (C1 false 0) fun q16 => tj [1,0,2,3,4,5,6,7,8,9] (hN191 (z224, q16)) (U7 rfl rfl rfl rfl rfl rfl rfl hLP2) (P2 rfl rfl hHP2)
  intro hN154
  refine an 9 25 294911 (fun (v149 : Addr) => ⟨115, [], (15, Vp v149) :: (34, S12) :: (37, S16) :: (40, S17) :: (43, S18) :: (46, S19) :: LP2, Ur v149 34 (C1 false 0) :: HP2⟩) ?_ ?_
  ·rintro z225
   refine al4 15 16 17 19 (by kernel_rfl) ?_ ?_ ?_ ?_
   ·exact na rfl info34 (C1 false 0) fun q12 => tj [0,1,2,3,4,5,6,7,8,9] (hN185 (q12, z225)) (U7 rfl rfl rfl rfl rfl rfl rfl hLP2) (P2 rfl rfl hHP2)
   ·exact na rfl info34 (C1 false 0) fun q13 => tj [0,1,2,3,4,5,6,7,8,9] (hN188 (q13, z225)) (U7 rfl rfl rfl rfl rfl rfl rfl hLP2) (P2 rfl rfl hHP2)
   ·exact na rfl info34 (C1 false 0) fun q14 => tj [0,1,2,3,4,5,6,7,8,9] (hN190 (q14, z225)) (U7 rfl rfl rfl rfl rfl rfl rfl hLP2) (P2 rfl rfl hHP2)
   exact na rfl info34 (C1 false 0) fun q16 => tj [1,0,2,3,4,5,6,7,8,9] (hN192 (z225, q16)) (U7 rfl rfl rfl rfl rfl rfl rfl hLP2) (P2 rfl rfl hHP2)
  intro hN155
  refine an 9 25 557055 (fun (v150 : Addr) => ⟨115, [], (16, Vp v150) :: (34, S12) :: (37, S16) :: (40, S17) :: (43, S18) :: (46, S19) :: LP2, Ur v150 34 (C1 false 0) :: HP2⟩) ?_ ?_
  ·rintro z226
   refine al4 15 16 17 18 (by kernel_rfl) ?_ ?_ ?_ ?_
   ·exact na rfl info34 (C1 false 0) fun q12 => tj [0,1,2,3,4,5,6,7,8,9] (hN186 (q12, z226)) (U7 rfl rfl rfl rfl rfl rfl rfl hLP2) (P2 rfl rfl hHP2)
   ·exact na rfl info34 (C1 false 0) fun q13 => tj [0,1,2,3,4,5,6,7,8,9] (hN189 (q13, z226)) (U7 rfl rfl rfl rfl rfl rfl rfl hLP2) (P2 rfl rfl hHP2)
   ·exact na rfl info34 (C1 false 0) fun q14 => tj [0,1,2,3,4,5,6,7,8,9] (hN191 (q14, z226)) (U7 rfl rfl rfl rfl rfl rfl rfl hLP2) (P2 rfl rfl hHP2)
   exact na rfl info34 (C1 false 0) fun q15 => tj [0,1,2,3,4,5,6,7,8,9] (hN192 (q15, z226)) (U7 rfl rfl rfl rfl rfl rfl rfl hLP2) (P2 rfl rfl hHP2)
  intro hN156
  refine an 9 25 114687 (fun (v151 : A2) => ⟨115, [], (12, Vp v151.1) :: (13, Vp v151.2) :: (34, S12) :: (37, S16) :: (40, S17) :: (43, S18) :: (44, S14) :: (45, S15) :: LP2, Ur v151.1 34 (C1 false 0) :: Ur v151.2 34 (C1 false 0) :: HP2⟩) ?_ ?_
  ·rintro ⟨z227, z228⟩
   refine al4 14 17 18 19 (by kernel_rfl) ?_ ?_ ?_ ?_
   ·exact no rfl (oz (ent_fn' Try.func25 isn25 rfl rfl) c11) fun _ => tj [0,1,2,3,4,5,6,7,8,9] (hN183 (z227, z228)) (U7 rfl rfl rfl rfl rfl rfl rfl hLP2) (P2 rfl rfl hHP2)
   ·exact na rfl info34 (C1 false 0) fun q14 => tj [1,2,0,3,4,5,6,7,8,9,10] (hN193 (z227, z228, q14)) (U9 rfl rfl rfl rfl rfl rfl rfl rfl rfl hLP2) (P3 rfl rfl rfl hHP2)
   ·exact na rfl info34 (C1 false 0) fun q15 => tj [1,2,0,3,4,5,6,7,8,9,10] (hN194 (z227, z228, q15)) (U9 rfl rfl rfl rfl rfl rfl rfl rfl rfl hLP2) (P3 rfl rfl rfl hHP2)
   exact na rfl info34 (C1 false 0) fun q16 => tj [1,2,0,3,4,5,6,7,8,9,10] (hN195 (z227, z228, q16)) (U9 rfl rfl rfl rfl rfl rfl rfl rfl rfl hLP2) (P3 rfl rfl rfl hHP2)
  intro hN157
  refine an 9 25 180223 (fun (v152 : A2) => ⟨115, [], (12, Vp v152.1) :: (14, Vp v152.2) :: (34, S12) :: (37, S16) :: (40, S17) :: (43, S18) :: (44, S14) :: (45, S15) :: LP2, Ur v152.1 34 (C1 false 0) :: Ur v152.2 34 (C1 false 0) :: HP2⟩) ?_ ?_
  ·rintro ⟨z229, z230⟩
   refine al4 14 16 18 19 (by kernel_rfl) ?_ ?_ ?_ ?_
   ·exact no rfl (oz (ent_fn' Try.func25 isn25 rfl rfl) c11) fun _ => tj [0,1,2,3,4,5,6,7,8,9] (hN184 (z229, z230)) (U7 rfl rfl rfl rfl rfl rfl rfl hLP2) (P2 rfl rfl hHP2)
   ·exact na rfl info34 (C1 false 0) fun q13 => tj [1,0,2,3,4,5,6,7,8,9,10] (hN193 (z229, q13, z230)) (U9 rfl rfl rfl rfl rfl rfl rfl rfl rfl hLP2) (P3 rfl rfl rfl hHP2)
   ·exact na rfl info34 (C1 false 0) fun q15 => tj [1,2,0,3,4,5,6,7,8,9,10] (hN196 (z229, z230, q15)) (U9 rfl rfl rfl rfl rfl rfl rfl rfl rfl hLP2) (P3 rfl rfl rfl hHP2)
   exact na rfl info34 (C1 false 0) fun q16 => tj [1,2,0,3,4,5,6,7,8,9,10] (hN197 (z229, z230, q16)) (U9 rfl rfl rfl rfl rfl rfl rfl rfl rfl hLP2) (P3 rfl rfl rfl hHP2)
  intro hN158
  refine an 9 25 311295 (fun (v153 : A2) => ⟨115, [], (12, Vp v153.1) :: (15, Vp v153.2) :: (34, S12) :: (37, S16) :: (40, S17) :: (43, S18) :: (44, S14) :: (45, S15) :: LP2, Ur v153.1 34 (C1 false 0) :: Ur v153.2 34 (C1 false 0) :: HP2⟩) ?_ ?_
  ·rintro ⟨z231, z232⟩
   refine al4 14 16 17 19 (by kernel_rfl) ?_ ?_ ?_ ?_
   ·exact no rfl (oz (ent_fn' Try.func25 isn25 rfl rfl) c11) fun _ => tj [0,1,2,3,4,5,6,7,8,9] (hN185 (z231, z232)) (U7 rfl rfl rfl rfl rfl rfl rfl hLP2) (P2 rfl rfl hHP2)
   ·exact na rfl info34 (C1 false 0) fun q13 => tj [1,0,2,3,4,5,6,7,8,9,10] (hN194 (z231, q13, z232)) (U9 rfl rfl rfl rfl rfl rfl rfl rfl rfl hLP2) (P3 rfl rfl rfl hHP2)
   ·exact na rfl info34 (C1 false 0) fun q14 => tj [1,0,2,3,4,5,6,7,8,9,10] (hN196 (z231, q14, z232)) (U9 rfl rfl rfl rfl rfl rfl rfl rfl rfl hLP2) (P3 rfl rfl rfl hHP2)
   exact na rfl info34 (C1 false 0) fun q16 => tj [1,2,0,3,4,5,6,7,8,9,10] (hN198 (z231, z232, q16)) (U9 rfl rfl rfl rfl rfl rfl rfl rfl rfl hLP2) (P3 rfl rfl rfl hHP2)
  intro hN159
  refine an 9 25 573439 (fun (v154 : A2) => ⟨115, [], (12, Vp v154.1) :: (16, Vp v154.2) :: (34, S12) :: (37, S16) :: (40, S17) :: (43, S18) :: (44, S14) :: (45, S15) :: LP2, Ur v154.1 34 (C1 false 0) :: Ur v154.2 34 (C1 false 0) :: HP2⟩) ?_ ?_
  ·rintro ⟨z233, z234⟩
   refine al4 14 16 17 18 (by kernel_rfl) ?_ ?_ ?_ ?_
   ·exact no rfl (oz (ent_fn' Try.func25 isn25 rfl rfl) c11) fun _ => tj [0,1,2,3,4,5,6,7,8,9] (hN186 (z233, z234)) (U7 rfl rfl rfl rfl rfl rfl rfl hLP2) (P2 rfl rfl hHP2)
   ·exact na rfl info34 (C1 false 0) fun q13 => tj [1,0,2,3,4,5,6,7,8,9,10] (hN195 (z233, q13, z234)) (U9 rfl rfl rfl rfl rfl rfl rfl rfl rfl hLP2) (P3 rfl rfl rfl hHP2)
   ·exact na rfl info34 (C1 false 0) fun q14 => tj [1,0,2,3,4,5,6,7,8,9,10] (hN197 (z233, q14, z234)) (U9 rfl rfl rfl rfl rfl rfl rfl rfl rfl hLP2) (P3 rfl rfl rfl hHP2)
   exact na rfl info34 (C1 false 0) fun q15 => tj [1,0,2,3,4,5,6,7,8,9,10] (hN198 (z233, q15, z234)) (U9 rfl rfl rfl rfl rfl rfl rfl rfl rfl hLP2) (P3 rfl rfl rfl hHP2)
  intro hN160
  refine an 9 25 212991 (fun (v155 : A2) => ⟨115, [], (13, Vp v155.1) :: (14, Vp v155.2) :: (34, S12) :: (37, S16) :: (40, S17) :: (43, S18) :: (44, S14) :: (45, S15) :: LP2, Ur v155.1 34 (C1 false 0) :: Ur v155.2 34 (C1 false 0) :: HP2⟩) ?_ ?_
  ·rintro ⟨z235, z236⟩
   refine al4 14 15 18 19 (by kernel_rfl) ?_ ?_ ?_ ?_
   ·exact no rfl (oz (ent_fn' Try.func25 isn25 rfl rfl) c11) fun _ => tj [0,1,2,3,4,5,6,7,8,9] (hN187 (z235, z236)) (U7 rfl rfl rfl rfl rfl rfl rfl hLP2) (P2 rfl rfl hHP2)
   ·exact na rfl info34 (C1 false 0) fun q12 => tj [0,1,2,3,4,5,6,7,8,9,10] (hN193 (q12, z235, z236)) (U9 rfl rfl rfl rfl rfl rfl rfl rfl rfl hLP2) (P3 rfl rfl rfl hHP2)
   ·exact na rfl info34 (C1 false 0) fun q15 => tj [1,2,0,3,4,5,6,7,8,9,10] (hN199 (z235, z236, q15)) (U9 rfl rfl rfl rfl rfl rfl rfl rfl rfl hLP2) (P3 rfl rfl rfl hHP2)
   exact na rfl info34 (C1 false 0) fun q16 => tj [1,2,0,3,4,5,6,7,8,9,10] (hN200 (z235, z236, q16)) (U9 rfl rfl rfl rfl rfl rfl rfl rfl rfl hLP2) (P3 rfl rfl rfl hHP2)
  intro hN161
  refine an 9 25 344063 (fun (v156 : A2) => ⟨115, [], (13, Vp v156.1) :: (15, Vp v156.2) :: (34, S12) :: (37, S16) :: (40, S17) :: (43, S18) :: (44, S14) :: (45, S15) :: LP2, Ur v156.1 34 (C1 false 0) :: Ur v156.2 34 (C1 false 0) :: HP2⟩) ?_ ?_
  ·rintro ⟨z237, z238⟩
   refine al4 14 15 17 19 (by kernel_rfl) ?_ ?_ ?_ ?_
   ·exact no rfl (oz (ent_fn' Try.func25 isn25 rfl rfl) c11) fun _ => tj [0,1,2,3,4,5,6,7,8,9] (hN188 (z237, z238)) (U7 rfl rfl rfl rfl rfl rfl rfl hLP2) (P2 rfl rfl hHP2)
   ·exact na rfl info34 (C1 false 0) fun q12 => tj [0,1,2,3,4,5,6,7,8,9,10] (hN194 (q12, z237, z238)) (U9 rfl rfl rfl rfl rfl rfl rfl rfl rfl hLP2) (P3 rfl rfl rfl hHP2)
   ·exact na rfl info34 (C1 false 0) fun q14 => tj [1,0,2,3,4,5,6,7,8,9,10] (hN199 (z237, q14, z238)) (U9 rfl rfl rfl rfl rfl rfl rfl rfl rfl hLP2) (P3 rfl rfl rfl hHP2)
   exact na rfl info34 (C1 false 0) fun q16 => tj [1,2,0,3,4,5,6,7,8,9,10] (hN201 (z237, z238, q16)) (U9 rfl rfl rfl rfl rfl rfl rfl rfl rfl hLP2) (P3 rfl rfl rfl hHP2)
  intro hN162
  refine an 9 25 606207 (fun (v157 : A2) => ⟨115, [], (13, Vp v157.1) :: (16, Vp v157.2) :: (34, S12) :: (37, S16) :: (40, S17) :: (43, S18) :: (44, S14) :: (45, S15) :: LP2, Ur v157.1 34 (C1 false 0) :: Ur v157.2 34 (C1 false 0) :: HP2⟩) ?_ ?_
  ·rintro ⟨z239, z240⟩
   refine al4 14 15 17 18 (by kernel_rfl) ?_ ?_ ?_ ?_
   ·exact no rfl (oz (ent_fn' Try.func25 isn25 rfl rfl) c11) fun _ => tj [0,1,2,3,4,5,6,7,8,9] (hN189 (z239, z240)) (U7 rfl rfl rfl rfl rfl rfl rfl hLP2) (P2 rfl rfl hHP2)
   ·exact na rfl info34 (C1 false 0) fun q12 => tj [0,1,2,3,4,5,6,7,8,9,10] (hN195 (q12, z239, z240)) (U9 rfl rfl rfl rfl rfl rfl rfl rfl rfl hLP2) (P3 rfl rfl rfl hHP2)
   ·exact na rfl info34 (C1 false 0) fun q14 => tj [1,0,2,3,4,5,6,7,8,9,10] (hN200 (z239, q14, z240)) (U9 rfl rfl rfl rfl rfl rfl rfl rfl rfl hLP2) (P3 rfl rfl rfl hHP2)
   exact na rfl info34 (C1 false 0) fun q15 => tj [1,0,2,3,4,5,6,7,8,9,10] (hN201 (z239, q15, z240)) (U9 rfl rfl rfl rfl rfl rfl rfl rfl rfl hLP2) (P3 rfl rfl rfl hHP2)
  intro hN163
  refine an 9 25 409599 (fun (v158 : A2) => ⟨115, [], (14, Vp v158.1) :: (15, Vp v158.2) :: (34, S12) :: (37, S16) :: (40, S17) :: (43, S18) :: (44, S14) :: (45, S15) :: LP2, Ur v158.1 34 (C1 false 0) :: Ur v158.2 34 (C1 false 0) :: HP2⟩) ?_ ?_
  ·rintro ⟨z241, z242⟩
   refine al4 14 15 16 19 (by kernel_rfl) ?_ ?_ ?_ ?_
   ·exact no rfl (oz (ent_fn' Try.func25 isn25 rfl rfl) c11) fun _ => tj [0,1,2,3,4,5,6,7,8,9] (hN190 (z241, z242)) (U7 rfl rfl rfl rfl rfl rfl rfl hLP2) (P2 rfl rfl hHP2)
   ·exact na rfl info34 (C1 false 0) fun q12 => tj [0,1,2,3,4,5,6,7,8,9,10] (hN196 (q12, z241, z242)) (U9 rfl rfl rfl rfl rfl rfl rfl rfl rfl hLP2) (P3 rfl rfl rfl hHP2)
   ·exact na rfl info34 (C1 false 0) fun q13 => tj [0,1,2,3,4,5,6,7,8,9,10] (hN199 (q13, z241, z242)) (U9 rfl rfl rfl rfl rfl rfl rfl rfl rfl hLP2) (P3 rfl rfl rfl hHP2)
   exact na rfl info34 (C1 false 0) fun q16 => tj [1,2,0,3,4,5,6,7,8,9,10] (hN202 (z241, z242, q16)) (U9 rfl rfl rfl rfl rfl rfl rfl rfl rfl hLP2) (P3 rfl rfl rfl hHP2)
  intro hN164
  refine an 9 25 671743 (fun (v159 : A2) => ⟨115, [], (14, Vp v159.1) :: (16, Vp v159.2) :: (34, S12) :: (37, S16) :: (40, S17) :: (43, S18) :: (44, S14) :: (45, S15) :: LP2, Ur v159.1 34 (C1 false 0) :: Ur v159.2 34 (C1 false 0) :: HP2⟩) ?_ ?_
  ·rintro ⟨z243, z244⟩
   refine al4 14 15 16 18 (by kernel_rfl) ?_ ?_ ?_ ?_
   ·exact no rfl (oz (ent_fn' Try.func25 isn25 rfl rfl) c11) fun _ => tj [0,1,2,3,4,5,6,7,8,9] (hN191 (z243, z244)) (U7 rfl rfl rfl rfl rfl rfl rfl hLP2) (P2 rfl rfl hHP2)
   ·exact na rfl info34 (C1 false 0) fun q12 => tj [0,1,2,3,4,5,6,7,8,9,10] (hN197 (q12, z243, z244)) (U9 rfl rfl rfl rfl rfl rfl rfl rfl rfl hLP2) (P3 rfl rfl rfl hHP2)
   ·exact na rfl info34 (C1 false 0) fun q13 => tj [0,1,2,3,4,5,6,7,8,9,10] (hN200 (q13, z243, z244)) (U9 rfl rfl rfl rfl rfl rfl rfl rfl rfl hLP2) (P3 rfl rfl rfl hHP2)
   exact na rfl info34 (C1 false 0) fun q15 => tj [1,0,2,3,4,5,6,7,8,9,10] (hN202 (z243, q15, z244)) (U9 rfl rfl rfl rfl rfl rfl rfl rfl rfl hLP2) (P3 rfl rfl rfl hHP2)
  intro hN165
  refine an 9 25 802815 (fun (v160 : A2) => ⟨115, [], (15, Vp v160.1) :: (16, Vp v160.2) :: (34, S12) :: (37, S16) :: (40, S17) :: (43, S18) :: (44, S14) :: (45, S15) :: LP2, Ur v160.1 34 (C1 false 0) :: Ur v160.2 34 (C1 false 0) :: HP2⟩) ?_ ?_
  ·rintro ⟨z245, z246⟩
   refine al4 14 15 16 17 (by kernel_rfl) ?_ ?_ ?_ ?_
   ·exact no rfl (oz (ent_fn' Try.func25 isn25 rfl rfl) c11) fun _ => tj [0,1,2,3,4,5,6,7,8,9] (hN192 (z245, z246)) (U7 rfl rfl rfl rfl rfl rfl rfl hLP2) (P2 rfl rfl hHP2)
   ·exact na rfl info34 (C1 false 0) fun q12 => tj [0,1,2,3,4,5,6,7,8,9,10] (hN198 (q12, z245, z246)) (U9 rfl rfl rfl rfl rfl rfl rfl rfl rfl hLP2) (P3 rfl rfl rfl hHP2)
   ·exact na rfl info34 (C1 false 0) fun q13 => tj [0,1,2,3,4,5,6,7,8,9,10] (hN201 (q13, z245, z246)) (U9 rfl rfl rfl rfl rfl rfl rfl rfl rfl hLP2) (P3 rfl rfl rfl hHP2)
   exact na rfl info34 (C1 false 0) fun q14 => tj [0,1,2,3,4,5,6,7,8,9,10] (hN202 (q14, z245, z246)) (U9 rfl rfl rfl rfl rfl rfl rfl rfl rfl hLP2) (P3 rfl rfl rfl hHP2)
  intro hN166
  refine an 9 25 243711 (fun (v161 : A3) => ⟨115, [], (12, Vp v161.1) :: (13, Vp v161.2.1) :: (14, Vp v161.2.2) :: (34, S12) :: (37, S16) :: (40, S17) :: (41, S13) :: (42, S15) :: (44, S14) :: (45, S15) :: LP2, Ur v161.1 34 (C1 false 0) :: Ur v161.2.1 34 (C1 false 0) :: Ur v161.2.2 34 (C1 false 0) :: HP2⟩) ?_ ?_
  ·rintro ⟨z247, z248, z249⟩
   refine al3 11 18 19 (by kernel_rfl) ?_ ?_ ?_
   ·exact no rfl (oz (ent_fn' Try.func25 isn25 rfl rfl) c10) fun _ => tj [0,1,2,3,4,5,6,7,8,9,10] (hN193 (z247, z248, z249)) (U9 rfl rfl rfl rfl rfl rfl rfl rfl rfl hLP2) (P3 rfl rfl rfl hHP2)
   ·exact na rfl info34 (C1 false 0) fun q15 => tj [1,2,3,0,4,5,6,7,8,9,10,11] (hN203 (z247, z248, z249, q15)) (U11 rfl rfl rfl rfl rfl rfl rfl rfl rfl rfl rfl hLP2) (P4 rfl rfl rfl rfl hHP2)
   exact na rfl info34 (C1 false 0) fun q16 => tj [1,2,3,0,4,5,6,7,8,9,10,11] (hN204 (z247, z248, z249, q16)) (U11 rfl rfl rfl rfl rfl rfl rfl rfl rfl rfl rfl hLP2) (P4 rfl rfl rfl rfl hHP2)
  intro hN167
  refine an 9 25 374783 (fun (v162 : A3) => ⟨115, [], (12, Vp v162.1) :: (13, Vp v162.2.1) :: (15, Vp v162.2.2) :: (34, S12) :: (37, S16) :: (40, S17) :: (41, S13) :: (42, S15) :: (44, S14) :: (45, S15) :: LP2, Ur v162.1 34 (C1 false 0) :: Ur v162.2.1 34 (C1 false 0) :: Ur v162.2.2 34 (C1 false 0) :: HP2⟩) ?_ ?_
  ·rintro ⟨z250, z251, z252⟩
   refine al3 11 17 19 (by kernel_rfl) ?_ ?_ ?_
   ·exact no rfl (oz (ent_fn' Try.func25 isn25 rfl rfl) c10) fun _ => tj [0,1,2,3,4,5,6,7,8,9,10] (hN194 (z250, z251, z252)) (U9 rfl rfl rfl rfl rfl rfl rfl rfl rfl hLP2) (P3 rfl rfl rfl hHP2)
   ·exact na rfl info34 (C1 false 0) fun q14 => tj [1,2,0,3,4,5,6,7,8,9,10,11] (hN203 (z250, z251, q14, z252)) (U11 rfl rfl rfl rfl rfl rfl rfl rfl rfl rfl rfl hLP2) (P4 rfl rfl rfl rfl hHP2)
   exact na rfl info34 (C1 false 0) fun q16 => tj [1,2,3,0,4,5,6,7,8,9,10,11] (hN205 (z250, z251, z252, q16)) (U11 rfl rfl rfl rfl rfl rfl rfl rfl rfl rfl rfl hLP2) (P4 rfl rfl rfl rfl hHP2)
  intro hN168
  refine an 9 25 636927 (fun (v163 : A3) => ⟨115, [], (12, Vp v163.1) :: (13, Vp v163.2.1) :: (16, Vp v163.2.2) :: (34, S12) :: (37, S16) :: (40, S17) :: (41, S13) :: (42, S15) :: (44, S14) :: (45, S15) :: LP2, Ur v163.1 34 (C1 false 0) :: Ur v163.2.1 34 (C1 false 0) :: Ur v163.2.2 34 (C1 false 0) :: HP2⟩) ?_ ?_
  ·rintro ⟨z253, z254, z255⟩
   refine al3 11 17 18 (by kernel_rfl) ?_ ?_ ?_
   ·exact no rfl (oz (ent_fn' Try.func25 isn25 rfl rfl) c10) fun _ => tj [0,1,2,3,4,5,6,7,8,9,10] (hN195 (z253, z254, z255)) (U9 rfl rfl rfl rfl rfl rfl rfl rfl rfl hLP2) (P3 rfl rfl rfl hHP2)
   ·exact na rfl info34 (C1 false 0) fun q14 => tj [1,2,0,3,4,5,6,7,8,9,10,11] (hN204 (z253, z254, q14, z255)) (U11 rfl rfl rfl rfl rfl rfl rfl rfl rfl rfl rfl hLP2) (P4 rfl rfl rfl rfl hHP2)
   exact na rfl info34 (C1 false 0) fun q15 => tj [1,2,0,3,4,5,6,7,8,9,10,11] (hN205 (z253, z254, q15, z255)) (U11 rfl rfl rfl rfl rfl rfl rfl rfl rfl rfl rfl hLP2) (P4 rfl rfl rfl rfl hHP2)
  intro hN169
  refine an 9 25 440319 (fun (v164 : A3) => ⟨115, [], (12, Vp v164.1) :: (14, Vp v164.2.1) :: (15, Vp v164.2.2) :: (34, S12) :: (37, S16) :: (40, S17) :: (41, S13) :: (42, S15) :: (44, S14) :: (45, S15) :: LP2, Ur v164.1 34 (C1 false 0) :: Ur v164.2.1 34 (C1 false 0) :: Ur v164.2.2 34 (C1 false 0) :: HP2⟩) ?_ ?_
  ·rintro ⟨z256, z257, z258⟩
   refine al3 11 16 19 (by kernel_rfl) ?_ ?_ ?_
   ·exact no rfl (oz (ent_fn' Try.func25 isn25 rfl rfl) c10) fun _ => tj [0,1,2,3,4,5,6,7,8,9,10] (hN196 (z256, z257, z258)) (U9 rfl rfl rfl rfl rfl rfl rfl rfl rfl hLP2) (P3 rfl rfl rfl hHP2)
   ·exact na rfl info34 (C1 false 0) fun q13 => tj [1,0,2,3,4,5,6,7,8,9,10,11] (hN203 (z256, q13, z257, z258)) (U11 rfl rfl rfl rfl rfl rfl rfl rfl rfl rfl rfl hLP2) (P4 rfl rfl rfl rfl hHP2)
   exact na rfl info34 (C1 false 0) fun q16 => tj [1,2,3,0,4,5,6,7,8,9,10,11] (hN206 (z256, z257, z258, q16)) (U11 rfl rfl rfl rfl rfl rfl rfl rfl rfl rfl rfl hLP2) (P4 rfl rfl rfl rfl hHP2)
  intro hN170
  refine an 9 25 702463 (fun (v165 : A3) => ⟨115, [], (12, Vp v165.1) :: (14, Vp v165.2.1) :: (16, Vp v165.2.2) :: (34, S12) :: (37, S16) :: (40, S17) :: (41, S13) :: (42, S15) :: (44, S14) :: (45, S15) :: LP2, Ur v165.1 34 (C1 false 0) :: Ur v165.2.1 34 (C1 false 0) :: Ur v165.2.2 34 (C1 false 0) :: HP2⟩) ?_ ?_
  ·rintro ⟨z259, z260, z261⟩
   refine al3 11 16 18 (by kernel_rfl) ?_ ?_ ?_
   ·exact no rfl (oz (ent_fn' Try.func25 isn25 rfl rfl) c10) fun _ => tj [0,1,2,3,4,5,6,7,8,9,10] (hN197 (z259, z260, z261)) (U9 rfl rfl rfl rfl rfl rfl rfl rfl rfl hLP2) (P3 rfl rfl rfl hHP2)
   ·exact na rfl info34 (C1 false 0) fun q13 => tj [1,0,2,3,4,5,6,7,8,9,10,11] (hN204 (z259, q13, z260, z261)) (U11 rfl rfl rfl rfl rfl rfl rfl rfl rfl rfl rfl hLP2) (P4 rfl rfl rfl rfl hHP2)
   exact na rfl info34 (C1 false 0) fun q15 => tj [1,2,0,3,4,5,6,7,8,9,10,11] (hN206 (z259, z260, q15, z261)) (U11 rfl rfl rfl rfl rfl rfl rfl rfl rfl rfl rfl hLP2) (P4 rfl rfl rfl rfl hHP2)
  intro hN171
  refine an 9 25 833535 (fun (v166 : A3) => ⟨115, [], (12, Vp v166.1) :: (15, Vp v166.2.1) :: (16, Vp v166.2.2) :: (34, S12) :: (37, S16) :: (40, S17) :: (41, S13) :: (42, S15) :: (44, S14) :: (45, S15) :: LP2, Ur v166.1 34 (C1 false 0) :: Ur v166.2.1 34 (C1 false 0) :: Ur v166.2.2 34 (C1 false 0) :: HP2⟩) ?_ ?_
  ·rintro ⟨z262, z263, z264⟩
   refine al3 11 16 17 (by kernel_rfl) ?_ ?_ ?_
   ·exact no rfl (oz (ent_fn' Try.func25 isn25 rfl rfl) c10) fun _ => tj [0,1,2,3,4,5,6,7,8,9,10] (hN198 (z262, z263, z264)) (U9 rfl rfl rfl rfl rfl rfl rfl rfl rfl hLP2) (P3 rfl rfl rfl hHP2)
   ·exact na rfl info34 (C1 false 0) fun q13 => tj [1,0,2,3,4,5,6,7,8,9,10,11] (hN205 (z262, q13, z263, z264)) (U11 rfl rfl rfl rfl rfl rfl rfl rfl rfl rfl rfl hLP2) (P4 rfl rfl rfl rfl hHP2)
   exact na rfl info34 (C1 false 0) fun q14 => tj [1,0,2,3,4,5,6,7,8,9,10,11] (hN206 (z262, q14, z263, z264)) (U11 rfl rfl rfl rfl rfl rfl rfl rfl rfl rfl rfl hLP2) (P4 rfl rfl rfl rfl hHP2)
  intro hN172
  refine an 9 25 473087 (fun (v167 : A3) => ⟨115, [], (13, Vp v167.1) :: (14, Vp v167.2.1) :: (15, Vp v167.2.2) :: (34, S12) :: (37, S16) :: (40, S17) :: (41, S13) :: (42, S15) :: (44, S14) :: (45, S15) :: LP2, Ur v167.1 34 (C1 false 0) :: Ur v167.2.1 34 (C1 false 0) :: Ur v167.2.2 34 (C1 false 0) :: HP2⟩) ?_ ?_
  ·rintro ⟨z265, z266, z267⟩
   refine al3 11 15 19 (by kernel_rfl) ?_ ?_ ?_
   ·exact no rfl (oz (ent_fn' Try.func25 isn25 rfl rfl) c10) fun _ => tj [0,1,2,3,4,5,6,7,8,9,10] (hN199 (z265, z266, z267)) (U9 rfl rfl rfl rfl rfl rfl rfl rfl rfl hLP2) (P3 rfl rfl rfl hHP2)
   ·exact na rfl info34 (C1 false 0) fun q12 => tj [0,1,2,3,4,5,6,7,8,9,10,11] (hN203 (q12, z265, z266, z267)) (U11 rfl rfl rfl rfl rfl rfl rfl rfl rfl rfl rfl hLP2) (P4 rfl rfl rfl rfl hHP2)
   exact na rfl info34 (C1 false 0) fun q16 => tj [1,2,3,0,4,5,6,7,8,9,10,11] (hN207 (z265, z266, z267, q16)) (U11 rfl rfl rfl rfl rfl rfl rfl rfl rfl rfl rfl hLP2) (P4 rfl rfl rfl rfl hHP2)
  intro hN173
  refine an 9 25 735231 (fun (v168 : A3) => ⟨115, [], (13, Vp v168.1) :: (14, Vp v168.2.1) :: (16, Vp v168.2.2) :: (34, S12) :: (37, S16) :: (40, S17) :: (41, S13) :: (42, S15) :: (44, S14) :: (45, S15) :: LP2, Ur v168.1 34 (C1 false 0) :: Ur v168.2.1 34 (C1 false 0) :: Ur v168.2.2 34 (C1 false 0) :: HP2⟩) ?_ ?_
  ·rintro ⟨z268, z269, z270⟩
   refine al3 11 15 18 (by kernel_rfl) ?_ ?_ ?_
   ·exact no rfl (oz (ent_fn' Try.func25 isn25 rfl rfl) c10) fun _ => tj [0,1,2,3,4,5,6,7,8,9,10] (hN200 (z268, z269, z270)) (U9 rfl rfl rfl rfl rfl rfl rfl rfl rfl hLP2) (P3 rfl rfl rfl hHP2)
   ·exact na rfl info34 (C1 false 0) fun q12 => tj [0,1,2,3,4,5,6,7,8,9,10,11] (hN204 (q12, z268, z269, z270)) (U11 rfl rfl rfl rfl rfl rfl rfl rfl rfl rfl rfl hLP2) (P4 rfl rfl rfl rfl hHP2)
   exact na rfl info34 (C1 false 0) fun q15 => tj [1,2,0,3,4,5,6,7,8,9,10,11] (hN207 (z268, z269, q15, z270)) (U11 rfl rfl rfl rfl rfl rfl rfl rfl rfl rfl rfl hLP2) (P4 rfl rfl rfl rfl hHP2)
  intro hN174
  refine an 9 25 866303 (fun (v169 : A3) => ⟨115, [], (13, Vp v169.1) :: (15, Vp v169.2.1) :: (16, Vp v169.2.2) :: (34, S12) :: (37, S16) :: (40, S17) :: (41, S13) :: (42, S15) :: (44, S14) :: (45, S15) :: LP2, Ur v169.1 34 (C1 false 0) :: Ur v169.2.1 34 (C1 false 0) :: Ur v169.2.2 34 (C1 false 0) :: HP2⟩) ?_ ?_
  ·rintro ⟨z271, z272, z273⟩
   refine al3 11 15 17 (by kernel_rfl) ?_ ?_ ?_
   ·exact no rfl (oz (ent_fn' Try.func25 isn25 rfl rfl) c10) fun _ => tj [0,1,2,3,4,5,6,7,8,9,10] (hN201 (z271, z272, z273)) (U9 rfl rfl rfl rfl rfl rfl rfl rfl rfl hLP2) (P3 rfl rfl rfl hHP2)
   ·exact na rfl info34 (C1 false 0) fun q12 => tj [0,1,2,3,4,5,6,7,8,9,10,11] (hN205 (q12, z271, z272, z273)) (U11 rfl rfl rfl rfl rfl rfl rfl rfl rfl rfl rfl hLP2) (P4 rfl rfl rfl rfl hHP2)
   exact na rfl info34 (C1 false 0) fun q14 => tj [1,0,2,3,4,5,6,7,8,9,10,11] (hN207 (z271, q14, z272, z273)) (U11 rfl rfl rfl rfl rfl rfl rfl rfl rfl rfl rfl hLP2) (P4 rfl rfl rfl rfl hHP2)
  intro hN175
  refine an 9 25 931839 (fun (v170 : A3) => ⟨115, [], (14, Vp v170.1) :: (15, Vp v170.2.1) :: (16, Vp v170.2.2) :: (34, S12) :: (37, S16) :: (40, S17) :: (41, S13) :: (42, S15) :: (44, S14) :: (45, S15) :: LP2, Ur v170.1 34 (C1 false 0) :: Ur v170.2.1 34 (C1 false 0) :: Ur v170.2.2 34 (C1 false 0) :: HP2⟩) ?_ ?_
  ·rintro ⟨z274, z275, z276⟩
   refine al3 11 15 16 (by kernel_rfl) ?_ ?_ ?_
   ·exact no rfl (oz (ent_fn' Try.func25 isn25 rfl rfl) c10) fun _ => tj [0,1,2,3,4,5,6,7,8,9,10] (hN202 (z274, z275, z276)) (U9 rfl rfl rfl rfl rfl rfl rfl rfl rfl hLP2) (P3 rfl rfl rfl hHP2)
   ·exact na rfl info34 (C1 false 0) fun q12 => tj [0,1,2,3,4,5,6,7,8,9,10,11] (hN206 (q12, z274, z275, z276)) (U11 rfl rfl rfl rfl rfl rfl rfl rfl rfl rfl rfl hLP2) (P4 rfl rfl rfl rfl hHP2)
   exact na rfl info34 (C1 false 0) fun q13 => tj [0,1,2,3,4,5,6,7,8,9,10,11] (hN207 (q13, z274, z275, z276)) (U11 rfl rfl rfl rfl rfl rfl rfl rfl rfl rfl rfl hLP2) (P4 rfl rfl rfl rfl hHP2)
  intro hN176
  refine an 9 25 505599 (fun (v171 : A4) => ⟨115, [], (12, Vp v171.1) :: (13, Vp v171.2.1) :: (14, Vp v171.2.2.1) :: (15, Vp v171.2.2.2) :: (34, S12) :: (37, S16) :: (38, S14) :: (39, S14) :: (41, S13) :: (42, S15) :: (44, S14) :: (45, S15) :: LP2, Ur v171.1 34 (C1 false 0) :: Ur v171.2.1 34 (C1 false 0) :: Ur v171.2.2.1 34 (C1 false 0) :: Ur v171.2.2.2 34 (C1 false 0) :: HP2⟩) ?_ ?_
  ·rintro ⟨z277, z278, z279, z280⟩
   refine al2 8 19 (by kernel_rfl) ?_ ?_
   ·exact no rfl (oz (ent_fn' Try.func25 isn25 rfl rfl) c9) fun _ => tj [0,1,2,3,4,5,6,7,8,9,10,11] (hN203 (z277, z278, z279, z280)) (U11 rfl rfl rfl rfl rfl rfl rfl rfl rfl rfl rfl hLP2) (P4 rfl rfl rfl rfl hHP2)
   exact na rfl info34 (C1 false 0) fun q16 => tj [1,2,3,4,0,5,6,7,8,9,10,11,12] (hN208 (z277, z278, z279, z280, q16)) (uc rfl (U12 rfl rfl rfl rfl rfl rfl rfl rfl rfl rfl rfl rfl hLP2)) (P5 rfl rfl rfl rfl rfl hHP2)
  intro hN177
  refine an 9 25 767743 (fun (v172 : A4) => ⟨115, [], (12, Vp v172.1) :: (13, Vp v172.2.1) :: (14, Vp v172.2.2.1) :: (16, Vp v172.2.2.2) :: (34, S12) :: (37, S16) :: (38, S14) :: (39, S14) :: (41, S13) :: (42, S15) :: (44, S14) :: (45, S15) :: LP2, Ur v172.1 34 (C1 false 0) :: Ur v172.2.1 34 (C1 false 0) :: Ur v172.2.2.1 34 (C1 false 0) :: Ur v172.2.2.2 34 (C1 false 0) :: HP2⟩) ?_ ?_
  ·rintro ⟨z281, z282, z283, z284⟩
   refine al2 8 18 (by kernel_rfl) ?_ ?_
   ·exact no rfl (oz (ent_fn' Try.func25 isn25 rfl rfl) c9) fun _ => tj [0,1,2,3,4,5,6,7,8,9,10,11] (hN204 (z281, z282, z283, z284)) (U11 rfl rfl rfl rfl rfl rfl rfl rfl rfl rfl rfl hLP2) (P4 rfl rfl rfl rfl hHP2)
   exact na rfl info34 (C1 false 0) fun q15 => tj [1,2,3,0,4,5,6,7,8,9,10,11,12] (hN208 (z281, z282, z283, q15, z284)) (uc rfl (U12 rfl rfl rfl rfl rfl rfl rfl rfl rfl rfl rfl rfl hLP2)) (P5 rfl rfl rfl rfl rfl hHP2)
  intro hN178
  refine an 9 25 898815 (fun (v173 : A4) => ⟨115, [], (12, Vp v173.1) :: (13, Vp v173.2.1) :: (15, Vp v173.2.2.1) :: (16, Vp v173.2.2.2) :: (34, S12) :: (37, S16) :: (38, S14) :: (39, S14) :: (41, S13) :: (42, S15) :: (44, S14) :: (45, S15) :: LP2, Ur v173.1 34 (C1 false 0) :: Ur v173.2.1 34 (C1 false 0) :: Ur v173.2.2.1 34 (C1 false 0) :: Ur v173.2.2.2 34 (C1 false 0) :: HP2⟩) ?_ ?_
  ·rintro ⟨z285, z286, z287, z288⟩
   refine al2 8 17 (by kernel_rfl) ?_ ?_
   ·exact no rfl (oz (ent_fn' Try.func25 isn25 rfl rfl) c9) fun _ => tj [0,1,2,3,4,5,6,7,8,9,10,11] (hN205 (z285, z286, z287, z288)) (U11 rfl rfl rfl rfl rfl rfl rfl rfl rfl rfl rfl hLP2) (P4 rfl rfl rfl rfl hHP2)
   exact na rfl info34 (C1 false 0) fun q14 => tj [1,2,0,3,4,5,6,7,8,9,10,11,12] (hN208 (z285, z286, q14, z287, z288)) (uc rfl (U12 rfl rfl rfl rfl rfl rfl rfl rfl rfl rfl rfl rfl hLP2)) (P5 rfl rfl rfl rfl rfl hHP2)
  intro hN179
  refine an 9 25 964351 (fun (v174 : A4) => ⟨115, [], (12, Vp v174.1) :: (14, Vp v174.2.1) :: (15, Vp v174.2.2.1) :: (16, Vp v174.2.2.2) :: (34, S12) :: (37, S16) :: (38, S14) :: (39, S14) :: (41, S13) :: (42, S15) :: (44, S14) :: (45, S15) :: LP2, Ur v174.1 34 (C1 false 0) :: Ur v174.2.1 34 (C1 false 0) :: Ur v174.2.2.1 34 (C1 false 0) :: Ur v174.2.2.2 34 (C1 false 0) :: HP2⟩) ?_ ?_
  ·rintro ⟨z289, z290, z291, z292⟩
   refine al2 8 16 (by kernel_rfl) ?_ ?_
   ·exact no rfl (oz (ent_fn' Try.func25 isn25 rfl rfl) c9) fun _ => tj [0,1,2,3,4,5,6,7,8,9,10,11] (hN206 (z289, z290, z291, z292)) (U11 rfl rfl rfl rfl rfl rfl rfl rfl rfl rfl rfl hLP2) (P4 rfl rfl rfl rfl hHP2)
   exact na rfl info34 (C1 false 0) fun q13 => tj [1,0,2,3,4,5,6,7,8,9,10,11,12] (hN208 (z289, q13, z290, z291, z292)) (uc rfl (U12 rfl rfl rfl rfl rfl rfl rfl rfl rfl rfl rfl rfl hLP2)) (P5 rfl rfl rfl rfl rfl hHP2)
  intro hN180
  refine an 9 25 997119 (fun (v175 : A4) => ⟨115, [], (13, Vp v175.1) :: (14, Vp v175.2.1) :: (15, Vp v175.2.2.1) :: (16, Vp v175.2.2.2) :: (34, S12) :: (37, S16) :: (38, S14) :: (39, S14) :: (41, S13) :: (42, S15) :: (44, S14) :: (45, S15) :: LP2, Ur v175.1 34 (C1 false 0) :: Ur v175.2.1 34 (C1 false 0) :: Ur v175.2.2.1 34 (C1 false 0) :: Ur v175.2.2.2 34 (C1 false 0) :: HP2⟩) ?_ ?_
  ·rintro ⟨z293, z294, z295, z296⟩
   refine al2 8 15 (by kernel_rfl) ?_ ?_
   ·exact no rfl (oz (ent_fn' Try.func25 isn25 rfl rfl) c9) fun _ => tj [0,1,2,3,4,5,6,7,8,9,10,11] (hN207 (z293, z294, z295, z296)) (U11 rfl rfl rfl rfl rfl rfl rfl rfl rfl rfl rfl hLP2) (P4 rfl rfl rfl rfl hHP2)
   exact na rfl info34 (C1 false 0) fun q12 => tj [0,1,2,3,4,5,6,7,8,9,10,11,12] (hN208 (q12, z293, z294, z295, z296)) (uc rfl (U12 rfl rfl rfl rfl rfl rfl rfl rfl rfl rfl rfl rfl hLP2)) (P5 rfl rfl rfl rfl rfl hHP2)
  intro hN181
  refine an 9 25 1029855 (fun (v176 : A5) => ⟨115, [], (12, Vp v176.1) :: (13, Vp v176.2.1) :: (14, Vp v176.2.2.1) :: (15, Vp v176.2.2.2.1) :: (16, Vp v176.2.2.2.2) :: (34, S12) :: (35, S13) :: (36, S14) :: (38, S14) :: (39, S14) :: (41, S13) :: (42, S15) :: (44, S14) :: (45, S15) :: LP2, Ur v176.1 34 (C1 false 0) :: Ur v176.2.1 34 (C1 false 0) :: Ur v176.2.2.1 34 (C1 false 0) :: Ur v176.2.2.2.1 34 (C1 false 0) :: Ur v176.2.2.2.2 34 (C1 false 0) :: HP2⟩) ?_ ?_
  ·rintro ⟨z297, z298, z299, z300, z301⟩
   refine al1 5 (by kernel_rfl) ?_
   ·exact no rfl (oz (ent_fn' Try.func25 isn25 rfl rfl) c8) fun _ => tj [0,1,2,3,4,5,6,7,8,9,10,11,12] (hN208 (z297, z298, z299, z300, z301)) (uc rfl (U12 rfl rfl rfl rfl rfl rfl rfl rfl rfl rfl rfl rfl hLP2)) (P5 rfl rfl rfl rfl rfl hHP2)
  intro hN182
  refine an 10 25 32767 (fun (v114 : Unit) => ⟨115, [], (34, S12) :: (37, S16) :: (40, S17) :: (43, S18) :: (46, S19) :: LP2, HP2⟩) ?_ ?_
  ·rintro ⟨⟩
   refine al5 15 16 17 18 19 (by kernel_rfl) ?_ ?_ ?_ ?_ ?_
   ·exact na rfl info34 (C1 false 0) fun q12 => tj [0,1,2,3,4,5,6,7,8] (hN152 q12) (U6 rfl rfl rfl rfl rfl rfl hLP2) (P1 rfl hHP2)
   ·exact na rfl info34 (C1 false 0) fun q13 => tj [0,1,2,3,4,5,6,7,8] (hN153 q13) (U6 rfl rfl rfl rfl rfl rfl hLP2) (P1 rfl hHP2)
   ·exact na rfl info34 (C1 false 0) fun q14 => tj [0,1,2,3,4,5,6,7,8] (hN154 q14) (U6 rfl rfl rfl rfl rfl rfl hLP2) (P1 rfl hHP2)
   ·exact na rfl info34 (C1 false 0) fun q15 => tj [0,1,2,3,4,5,6,7,8] (hN155 q15) (U6 rfl rfl rfl rfl rfl rfl hLP2) (P1 rfl hHP2)
   exact na rfl info34 (C1 false 0) fun q16 => tj [0,1,2,3,4,5,6,7,8] (hN156 q16) (U6 rfl rfl rfl rfl rfl rfl hLP2) (P1 rfl hHP2)
  intro hN120
  refine an 10 25 49151 (fun (v115 : Addr) => ⟨115, [], (12, Vp v115) :: (34, S12) :: (37, S16) :: (40, S17) :: (43, S18) :: (44, S14) :: (45, S15) :: LP2, Ur v115 34 (C1 false 0) :: HP2⟩) ?_ ?_
  ·rintro z302
   refine al5 14 16 17 18 19 (by kernel_rfl) ?_ ?_ ?_ ?_ ?_
   ·exact no rfl (oz (ent_fn' Try.func25 isn25 rfl rfl) c11) fun _ => tj [0,1,2,3,4,5,6,7,8] (hN152 z302) (U6 rfl rfl rfl rfl rfl rfl hLP2) (P1 rfl hHP2)
   ·exact na rfl info34 (C1 false 0) fun q13 => tj [1,0,2,3,4,5,6,7,8,9] (hN157 (z302, q13)) (U8 rfl rfl rfl rfl rfl rfl rfl rfl hLP2) (P2 rfl rfl hHP2)
   ·exact na rfl info34 (C1 false 0) fun q14 => tj [1,0,2,3,4,5,6,7,8,9] (hN158 (z302, q14)) (U8 rfl rfl rfl rfl rfl rfl rfl rfl hLP2) (P2 rfl rfl hHP2)
   ·exact na rfl info34 (C1 false 0) fun q15 => tj [1,0,2,3,4,5,6,7,8,9] (hN159 (z302, q15)) (U8 rfl rfl rfl rfl rfl rfl rfl rfl hLP2) (P2 rfl rfl hHP2)
   exact na rfl info34 (C1 false 0) fun q16 => tj [1,0,2,3,4,5,6,7,8,9] (hN160 (z302, q16)) (U8 rfl rfl rfl rfl rfl rfl rfl rfl hLP2) (P2 rfl rfl hHP2)
  intro hN121
  refine an 10 25 81919 (fun (v116 : Addr) => ⟨115, [], (13, Vp v116) :: (34, S12) :: (37, S16) :: (40, S17) :: (43, S18) :: (44, S14) :: (45, S15) :: LP2, Ur v116 34 (C1 false 0) :: HP2⟩) ?_ ?_
  ·rintro z303
   refine al5 14 15 17 18 19 (by kernel_rfl) ?_ ?_ ?_ ?_ ?_
   ·exact no rfl (oz (ent_fn' Try.func25 isn25 rfl rfl) c11) fun _ => tj [0,1,2,3,4,5,6,7,8] (hN153 z303) (U6 rfl rfl rfl rfl rfl rfl hLP2) (P1 rfl hHP2)
   ·exact na rfl info34 (C1 false 0) fun q12 => tj [0,1,2,3,4,5,6,7,8,9] (hN157 (q12, z303)) (U8 rfl rfl rfl rfl rfl rfl rfl rfl hLP2) (P2 rfl rfl hHP2)
   ·exact na rfl info34 (C1 false 0) fun q14 => tj [1,0,2,3,4,5,6,7,8,9] (hN161 (z303, q14)) (U8 rfl rfl rfl rfl rfl rfl rfl rfl hLP2) (P2 rfl rfl hHP2)
   ·exact na rfl info34 (C1 false 0) fun q15 => tj [1,0,2,3,4,5,6,7,8,9] (hN162 (z303, q15)) (U8 rfl rfl rfl rfl rfl rfl rfl rfl hLP2) (P2 rfl rfl hHP2)
   exact na rfl info34 (C1 false 0) fun q16 => tj [1,0,2,3,4,5,6,7,8,9] (hN163 (z303, q16)) (U8 rfl rfl rfl rfl rfl rfl rfl rfl hLP2) (P2 rfl rfl hHP2)
  intro hN122
  refine an 10 25 147455 (fun (v117 : Addr) => ⟨115, [], (14, Vp v117) :: (34, S12) :: (37, S16) :: (40, S17) :: (43, S18) :: (44, S14) :: (45, S15) :: LP2, Ur v117 34 (C1 false 0) :: HP2⟩) ?_ ?_
  ·rintro z304
   refine al5 14 15 16 18 19 (by kernel_rfl) ?_ ?_ ?_ ?_ ?_
   ·exact no rfl (oz (ent_fn' Try.func25 isn25 rfl rfl) c11) fun _ => tj [0,1,2,3,4,5,6,7,8] (hN154 z304) (U6 rfl rfl rfl rfl rfl rfl hLP2) (P1 rfl hHP2)
   ·exact na rfl info34 (C1 false 0) fun q12 => tj [0,1,2,3,4,5,6,7,8,9] (hN158 (q12, z304)) (U8 rfl rfl rfl rfl rfl rfl rfl rfl hLP2) (P2 rfl rfl hHP2)
   ·exact na rfl info34 (C1 false 0) fun q13 => tj [0,1,2,3,4,5,6,7,8,9] (hN161 (q13, z304)) (U8 rfl rfl rfl rfl rfl rfl rfl rfl hLP2) (P2 rfl rfl hHP2)
   ·exact na rfl info34 (C1 false 0) fun q15 => tj [1,0,2,3,4,5,6,7,8,9] (hN164 (z304, q15)) (U8 rfl rfl rfl rfl rfl rfl rfl rfl hLP2) (P2 rfl rfl hHP2)
   exact na rfl info34 (C1 false 0) fun q16 => tj [1,0,2,3,4,5,6,7,8,9] (hN165 (z304, q16)) (U8 rfl rfl rfl rfl rfl rfl rfl rfl hLP2) (P2 rfl rfl hHP2)
  intro hN123
  refine an 10 25 278527 (fun (v118 : Addr) => ⟨115, [], (15, Vp v118) :: (34, S12) :: (37, S16) :: (40, S17) :: (43, S18) :: (44, S14) :: (45, S15) :: LP2, Ur v118 34 (C1 false 0) :: HP2⟩) ?_ ?_
  ·rintro z305
   refine al5 14 15 16 17 19 (by kernel_rfl) ?_ ?_ ?_ ?_ ?_
   ·exact no rfl (oz (ent_fn' Try.func25 isn25 rfl rfl) c11) fun _ => tj [0,1,2,3,4,5,6,7,8] (hN155 z305) (U6 rfl rfl rfl rfl rfl rfl hLP2) (P1 rfl hHP2)
   ·exact na rfl info34 (C1 false 0) fun q12 => tj [0,1,2,3,4,5,6,7,8,9] (hN159 (q12, z305)) (U8 rfl rfl rfl rfl rfl rfl rfl rfl hLP2) (P2 rfl rfl hHP2)
   ·exact na rfl info34 (C1 false 0) fun q13 => tj [0,1,2,3,4,5,6,7,8,9] (hN162 (q13, z305)) (U8 rfl rfl rfl rfl rfl rfl rfl rfl hLP2) (P2 rfl rfl hHP2)
   ·exact na rfl info34 (C1 false 0) fun q14 => tj [0,1,2,3,4,5,6,7,8,9] (hN164 (q14, z305)) (U8 rfl rfl rfl rfl rfl rfl rfl rfl hLP2) (P2 rfl rfl hHP2)
   exact na rfl info34 (C1 false 0) fun q16 => tj [1,0,2,3,4,5,6,7,8,9] (hN166 (z305, q16)) (U8 rfl rfl rfl rfl rfl rfl rfl rfl hLP2) (P2 rfl rfl hHP2)
  intro hN124
  refine an 10 25 540671 (fun (v119 : Addr) => ⟨115, [], (16, Vp v119) :: (34, S12) :: (37, S16) :: (40, S17) :: (43, S18) :: (44, S14) :: (45, S15) :: LP2, Ur v119 34 (C1 false 0) :: HP2⟩) ?_ ?_
  ·rintro z306
   refine al5 14 15 16 17 18 (by kernel_rfl) ?_ ?_ ?_ ?_ ?_
   ·exact no rfl (oz (ent_fn' Try.func25 isn25 rfl rfl) c11) fun _ => tj [0,1,2,3,4,5,6,7,8] (hN156 z306) (U6 rfl rfl rfl rfl rfl rfl hLP2) (P1 rfl hHP2)
   ·exact na rfl info34 (C1 false 0) fun q12 => tj [0,1,2,3,4,5,6,7,8,9] (hN160 (q12, z306)) (U8 rfl rfl rfl rfl rfl rfl rfl rfl hLP2) (P2 rfl rfl hHP2)
   ·exact na rfl info34 (C1 false 0) fun q13 => tj [0,1,2,3,4,5,6,7,8,9] (hN163 (q13, z306)) (U8 rfl rfl rfl rfl rfl rfl rfl rfl hLP2) (P2 rfl rfl hHP2)
   ·exact na rfl info34 (C1 false 0) fun q14 => tj [0,1,2,3,4,5,6,7,8,9] (hN165 (q14, z306)) (U8 rfl rfl rfl rfl rfl rfl rfl rfl hLP2) (P2 rfl rfl hHP2)
   exact na rfl info34 (C1 false 0) fun q15 => tj [0,1,2,3,4,5,6,7,8,9] (hN166 (q15, z306)) (U8 rfl rfl rfl rfl rfl rfl rfl rfl hLP2) (P2 rfl rfl hHP2)
  intro hN125
  refine an 10 25 112639 (fun (v120 : A2) => ⟨115, [], (12, Vp v120.1) :: (13, Vp v120.2) :: (34, S12) :: (37, S16) :: (40, S17) :: (41, S13) :: (42, S15) :: (44, S14) :: (45, S15) :: LP2, Ur v120.1 34 (C1 false 0) :: Ur v120.2 34 (C1 false 0) :: HP2⟩) ?_ ?_
  ·rintro ⟨z307, z308⟩
   refine al4 11 17 18 19 (by kernel_rfl) ?_ ?_ ?_ ?_
   ·exact no rfl (oz (ent_fn' Try.func25 isn25 rfl rfl) c10) fun _ => tj [0,1,2,3,4,5,6,7,8,9] (hN157 (z307, z308)) (U8 rfl rfl rfl rfl rfl rfl rfl rfl hLP2) (P2 rfl rfl hHP2)
   ·exact na rfl info34 (C1 false 0) fun q14 => tj [1,2,0,3,4,5,6,7,8,9,10] (hN167 (z307, z308, q14)) (U10 rfl rfl rfl rfl rfl rfl rfl rfl rfl rfl hLP2) (P3 rfl rfl rfl hHP2)
   ·exact na rfl info34 (C1 false 0) fun q15 => tj [1,2,0,3,4,5,6,7,8,9,10] (hN168 (z307, z308, q15)) (U10 rfl rfl rfl rfl rfl rfl rfl rfl rfl rfl hLP2) (P3 rfl rfl rfl hHP2)
   exact na rfl info34 (C1 false 0) fun q16 => tj [1,2,0,3,4,5,6,7,8,9,10] (hN169 (z307, z308, q16)) (U10 rfl rfl rfl rfl rfl rfl rfl rfl rfl rfl hLP2) (P3 rfl rfl rfl hHP2)
  intro hN126
  refine an 10 25 178175 (fun (v121 : A2) => ⟨115, [], (12, Vp v121.1) :: (14, Vp v121.2) :: (34, S12) :: (37, S16) :: (40, S17) :: (41, S13) :: (42, S15) :: (44, S14) :: (45, S15) :: LP2, Ur v121.1 34 (C1 false 0) :: Ur v121.2 34 (C1 false 0) :: HP2⟩) ?_ ?_
  ·rintro ⟨z309, z310⟩
   refine al4 11 16 18 19 (by kernel_rfl) ?_ ?_ ?_ ?_
   ·exact no rfl (oz (ent_fn' Try.func25 isn25 rfl rfl) c10) fun _ => tj [0,1,2,3,4,5,6,7,8,9] (hN158 (z309, z310)) (U8 rfl rfl rfl rfl rfl rfl rfl rfl hLP2) (P2 rfl rfl hHP2)
   ·exact na rfl info34 (C1 false 0) fun q13 => tj [1,0,2,3,4,5,6,7,8,9,10] (hN167 (z309, q13, z310)) (U10 rfl rfl rfl rfl rfl rfl rfl rfl rfl rfl hLP2) (P3 rfl rfl rfl hHP2)
   ·exact na rfl info34 (C1 false 0) fun q15 => tj [1,2,0,3,4,5,6,7,8,9,10] (hN170 (z309, z310, q15)) (U10 rfl rfl rfl rfl rfl rfl rfl rfl rfl rfl hLP2) (P3 rfl rfl rfl hHP2)
   exact na rfl info34 (C1 false 0) fun q16 => tj [1,2,0,3,4,5,6,7,8,9,10] (hN171 (z309, z310, q16)) (U10 rfl rfl rfl rfl rfl rfl rfl rfl rfl rfl hLP2) (P3 rfl rfl rfl hHP2)
  intro hN127
  refine an 10 25 309247 (fun (v122 : A2) => ⟨115, [], (12, Vp v122.1) :: (15, Vp v122.2) :: (34, S12) :: (37, S16) :: (40, S17) :: (41, S13) :: (42, S15) :: (44, S14) :: (45, S15) :: LP2, Ur v122.1 34 (C1 false 0) :: Ur v122.2 34 (C1 false 0) :: HP2⟩) ?_ ?_
  ·rintro ⟨z311, z312⟩
   refine al4 11 16 17 19 (by kernel_rfl) ?_ ?_ ?_ ?_
   ·exact no rfl (oz (ent_fn' Try.func25 isn25 rfl rfl) c10) fun _ => tj [0,1,2,3,4,5,6,7,8,9] (hN159 (z311, z312)) (U8 rfl rfl rfl rfl rfl rfl rfl rfl hLP2) (P2 rfl rfl hHP2)
   ·exact na rfl info34 (C1 false 0) fun q13 => tj [1,0,2,3,4,5,6,7,8,9,10] (hN168 (z311, q13, z312)) (U10 rfl rfl rfl rfl rfl rfl rfl rfl rfl rfl hLP2) (P3 rfl rfl rfl hHP2)
   ·exact na rfl info34 (C1 false 0) fun q14 => tj [1,0,2,3,4,5,6,7,8,9,10] (hN170 (z311, q14, z312)) (U10 rfl rfl rfl rfl rfl rfl rfl rfl rfl rfl hLP2) (P3 rfl rfl rfl hHP2)
   exact na rfl info34 (C1 false 0) fun q16 => tj [1,2,0,3,4,5,6,7,8,9,10] (hN172 (z311, z312, q16)) (U10 rfl rfl rfl rfl rfl rfl rfl rfl rfl rfl hLP2) (P3 rfl rfl rfl hHP2)
  intro hN128
  refine an 10 25 571391 (fun (v123 : A2) => ⟨115, [], (12, Vp v123.1) :: (16, Vp v123.2) :: (34, S12) :: (37, S16) :: (40, S17) :: (41, S13) :: (42, S15) :: (44, S14) :: (45, S15) :: LP2, Ur v123.1 34 (C1 false 0) :: Ur v123.2 34 (C1 false 0) :: HP2⟩) ?_ ?_
  ·rintro ⟨z313, z314⟩
   refine al4 11 16 17 18 (by kernel_rfl) ?_ ?_ ?_ ?_
   ·exact no rfl (oz (ent_fn' Try.func25 isn25 rfl rfl) c10) fun _ => tj [0,1,2,3,4,5,6,7,8,9] (hN160 (z313, z314)) (U8 rfl rfl rfl rfl rfl rfl rfl rfl hLP2) (P2 rfl rfl hHP2)
   ·exact na rfl info34 (C1 false 0) fun q13 => tj [1,0,2,3,4,5,6,7,8,9,10] (hN169 (z313, q13, z314)) (U10 rfl rfl rfl rfl rfl rfl rfl rfl rfl rfl hLP2) (P3 rfl rfl rfl hHP2)
   ·exact na rfl info34 (C1 false 0) fun q14 => tj [1,0,2,3,4,5,6,7,8,9,10] (hN171 (z313, q14, z314)) (U10 rfl rfl rfl rfl rfl rfl rfl rfl rfl rfl hLP2) (P3 rfl rfl rfl hHP2)
   exact na rfl info34 (C1 false 0) fun q15 => tj [1,0,2,3,4,5,6,7,8,9,10] (hN172 (z313, q15, z314)) (U10 rfl rfl rfl rfl rfl rfl rfl rfl rfl rfl hLP2) (P3 rfl rfl rfl hHP2)
  intro hN129
  refine an 10 25 210943 (fun (v124 : A2) => ⟨115, [], (13, Vp v124.1) :: (14, Vp v124.2) :: (34, S12) :: (37, S16) :: (40, S17) :: (41, S13) :: (42, S15) :: (44, S14) :: (45, S15) :: LP2, Ur v124.1 34 (C1 false 0) :: Ur v124.2 34 (C1 false 0) :: HP2⟩) ?_ ?_
  ·rintro ⟨z315, z316⟩
   refine al4 11 15 18 19 (by kernel_rfl) ?_ ?_ ?_ ?_
   ·exact no rfl (oz (ent_fn' Try.func25 isn25 rfl rfl) c10) fun _ => tj [0,1,2,3,4,5,6,7,8,9] (hN161 (z315, z316)) (U8 rfl rfl rfl rfl rfl rfl rfl rfl hLP2) (P2 rfl rfl hHP2)
   ·exact na rfl info34 (C1 false 0) fun q12 => tj [0,1,2,3,4,5,6,7,8,9,10] (hN167 (q12, z315, z316)) (U10 rfl rfl rfl rfl rfl rfl rfl rfl rfl rfl hLP2) (P3 rfl rfl rfl hHP2)
   ·exact na rfl info34 (C1 false 0) fun q15 => tj [1,2,0,3,4,5,6,7,8,9,10] (hN173 (z315, z316, q15)) (U10 rfl rfl rfl rfl rfl rfl rfl rfl rfl rfl hLP2) (P3 rfl rfl rfl hHP2)
   exact na rfl info34 (C1 false 0) fun q16 => tj [1,2,0,3,4,5,6,7,8,9,10] (hN174 (z315, z316, q16)) (U10 rfl rfl rfl rfl rfl rfl rfl rfl rfl rfl hLP2) (P3 rfl rfl rfl hHP2)
  intro hN130
  refine an 10 25 342015 (fun (v125 : A2) => ⟨115, [], (13, Vp v125.1) :: (15, Vp v125.2) :: (34, S12) :: (37, S16) :: (40, S17) :: (41, S13) :: (42, S15) :: (44, S14) :: (45, S15) :: LP2, Ur v125.1 34 (C1 false 0) :: Ur v125.2 34 (C1 false 0) :: HP2⟩) ?_ ?_
  ·rintro ⟨z317, z318⟩
   refine al4 11 15 17 19 (by kernel_rfl) ?_ ?_ ?_ ?_
   ·exact no rfl (oz (ent_fn' Try.func25 isn25 rfl rfl) c10) fun _ => tj [0,1,2,3,4,5,6,7,8,9] (hN162 (z317, z318)) (U8 rfl rfl rfl rfl rfl rfl rfl rfl hLP2) (P2 rfl rfl hHP2)
   ·exact na rfl info34 (C1 false 0) fun q12 => tj [0,1,2,3,4,5,6,7,8,9,10] (hN168 (q12, z317, z318)) (U10 rfl rfl rfl rfl rfl rfl rfl rfl rfl rfl hLP2) (P3 rfl rfl rfl hHP2)
   ·exact na rfl info34 (C1 false 0) fun q14 => tj [1,0,2,3,4,5,6,7,8,9,10] (hN173 (z317, q14, z318)) (U10 rfl rfl rfl rfl rfl rfl rfl rfl rfl rfl hLP2) (P3 rfl rfl rfl hHP2)
   exact na rfl info34 (C1 false 0) fun q16 => tj [1,2,0,3,4,5,6,7,8,9,10] (hN175 (z317, z318, q16)) (U10 rfl rfl rfl rfl rfl rfl rfl rfl rfl rfl hLP2) (P3 rfl rfl rfl hHP2)
  intro hN131
  refine an 10 25 604159 (fun (v126 : A2) => ⟨115, [], (13, Vp v126.1) :: (16, Vp v126.2) :: (34, S12) :: (37, S16) :: (40, S17) :: (41, S13) :: (42, S15) :: (44, S14) :: (45, S15) :: LP2, Ur v126.1 34 (C1 false 0) :: Ur v126.2 34 (C1 false 0) :: HP2⟩) ?_ ?_
  ·rintro ⟨z319, z320⟩
   refine al4 11 15 17 18 (by kernel_rfl) ?_ ?_ ?_ ?_
   ·exact no rfl (oz (ent_fn' Try.func25 isn25 rfl rfl) c10) fun _ => tj [0,1,2,3,4,5,6,7,8,9] (hN163 (z319, z320)) (U8 rfl rfl rfl rfl rfl rfl rfl rfl hLP2) (P2 rfl rfl hHP2)
   ·exact na rfl info34 (C1 false 0) fun q12 => tj [0,1,2,3,4,5,6,7,8,9,10] (hN169 (q12, z319, z320)) (U10 rfl rfl rfl rfl rfl rfl rfl rfl rfl rfl hLP2) (P3 rfl rfl rfl hHP2)
   ·exact na rfl info34 (C1 false 0) fun q14 => tj [1,0,2,3,4,5,6,7,8,9,10] (hN174 (z319, q14, z320)) (U10 rfl rfl rfl rfl rfl rfl rfl rfl rfl rfl hLP2) (P3 rfl rfl rfl hHP2)
   exact na rfl info34 (C1 false 0) fun q15 => tj [1,0,2,3,4,5,6,7,8,9,10] (hN175 (z319, q15, z320)) (U10 rfl rfl rfl rfl rfl rfl rfl rfl rfl rfl hLP2) (P3 rfl rfl rfl hHP2)
  intro hN132
  refine an 10 25 407551 (fun (v127 : A2) => ⟨115, [], (14, Vp v127.1) :: (15, Vp v127.2) :: (34, S12) :: (37, S16) :: (40, S17) :: (41, S13) :: (42, S15) :: (44, S14) :: (45, S15) :: LP2, Ur v127.1 34 (C1 false 0) :: Ur v127.2 34 (C1 false 0) :: HP2⟩) ?_ ?_
  ·rintro ⟨z321, z322⟩
   refine al4 11 15 16 19 (by kernel_rfl) ?_ ?_ ?_ ?_
   ·exact no rfl (oz (ent_fn' Try.func25 isn25 rfl rfl) c10) fun _ => tj [0,1,2,3,4,5,6,7,8,9] (hN164 (z321, z322)) (U8 rfl rfl rfl rfl rfl rfl rfl rfl hLP2) (P2 rfl rfl hHP2)
   ·exact na rfl info34 (C1 false 0) fun q12 => tj [0,1,2,3,4,5,6,7,8,9,10] (hN170 (q12, z321, z322)) (U10 rfl rfl rfl rfl rfl rfl rfl rfl rfl rfl hLP2) (P3 rfl rfl rfl hHP2)
   ·exact na rfl info34 (C1 false 0) fun q13 => tj [0,1,2,3,4,5,6,7,8,9,10] (hN173 (q13, z321, z322)) (U10 rfl rfl rfl rfl rfl rfl rfl rfl rfl rfl hLP2) (P3 rfl rfl rfl hHP2)
   exact na rfl info34 (C1 false 0) fun q16 => tj [1,2,0,3,4,5,6,7,8,9,10] (hN176 (z321, z322, q16)) (U10 rfl rfl rfl rfl rfl rfl rfl rfl rfl rfl hLP2) (P3 rfl rfl rfl hHP2)
  intro hN133
  refine an 10 25 669695 (fun (v128 : A2) => ⟨115, [], (14, Vp v128.1) :: (16, Vp v128.2) :: (34, S12) :: (37, S16) :: (40, S17) :: (41, S13) :: (42, S15) :: (44, S14) :: (45, S15) :: LP2, Ur v128.1 34 (C1 false 0) :: Ur v128.2 34 (C1 false 0) :: HP2⟩) ?_ ?_
  ·rintro ⟨z323, z324⟩
   refine al4 11 15 16 18 (by kernel_rfl) ?_ ?_ ?_ ?_
   ·exact no rfl (oz (ent_fn' Try.func25 isn25 rfl rfl) c10) fun _ => tj [0,1,2,3,4,5,6,7,8,9] (hN165 (z323, z324)) (U8 rfl rfl rfl rfl rfl rfl rfl rfl hLP2) (P2 rfl rfl hHP2)
   ·exact na rfl info34 (C1 false 0) fun q12 => tj [0,1,2,3,4,5,6,7,8,9,10] (hN171 (q12, z323, z324)) (U10 rfl rfl rfl rfl rfl rfl rfl rfl rfl rfl hLP2) (P3 rfl rfl rfl hHP2)
   ·exact na rfl info34 (C1 false 0) fun q13 => tj [0,1,2,3,4,5,6,7,8,9,10] (hN174 (q13, z323, z324)) (U10 rfl rfl rfl rfl rfl rfl rfl rfl rfl rfl hLP2) (P3 rfl rfl rfl hHP2)
   exact na rfl info34 (C1 false 0) fun q15 => tj [1,0,2,3,4,5,6,7,8,9,10] (hN176 (z323, q15, z324)) (U10 rfl rfl rfl rfl rfl rfl rfl rfl rfl rfl hLP2) (P3 rfl rfl rfl hHP2)
  intro hN134
  refine an 10 25 800767 (fun (v129 : A2) => ⟨115, [], (15, Vp v129.1) :: (16, Vp v129.2) :: (34, S12) :: (37, S16) :: (40, S17) :: (41, S13) :: (42, S15) :: (44, S14) :: (45, S15) :: LP2, Ur v129.1 34 (C1 false 0) :: Ur v129.2 34 (C1 false 0) :: HP2⟩) ?_ ?_
  ·rintro ⟨z325, z326⟩
   refine al4 11 15 16 17 (by kernel_rfl) ?_ ?_ ?_ ?_
   ·exact no rfl (oz (ent_fn' Try.func25 isn25 rfl rfl) c10) fun _ => tj [0,1,2,3,4,5,6,7,8,9] (hN166 (z325, z326)) (U8 rfl rfl rfl rfl rfl rfl rfl rfl hLP2) (P2 rfl rfl hHP2)
   ·exact na rfl info34 (C1 false 0) fun q12 => tj [0,1,2,3,4,5,6,7,8,9,10] (hN172 (q12, z325, z326)) (U10 rfl rfl rfl rfl rfl rfl rfl rfl rfl rfl hLP2) (P3 rfl rfl rfl hHP2)
   ·exact na rfl info34 (C1 false 0) fun q13 => tj [0,1,2,3,4,5,6,7,8,9,10] (hN175 (q13, z325, z326)) (U10 rfl rfl rfl rfl rfl rfl rfl rfl rfl rfl hLP2) (P3 rfl rfl rfl hHP2)
   exact na rfl info34 (C1 false 0) fun q14 => tj [0,1,2,3,4,5,6,7,8,9,10] (hN176 (q14, z325, z326)) (U10 rfl rfl rfl rfl rfl rfl rfl rfl rfl rfl hLP2) (P3 rfl rfl rfl hHP2)
  intro hN135
  refine an 10 25 243455 (fun (v130 : A3) => ⟨115, [], (12, Vp v130.1) :: (13, Vp v130.2.1) :: (14, Vp v130.2.2) :: (34, S12) :: (37, S16) :: (38, S14) :: (39, S14) :: (41, S13) :: (42, S15) :: (44, S14) :: (45, S15) :: LP2, Ur v130.1 34 (C1 false 0) :: Ur v130.2.1 34 (C1 false 0) :: Ur v130.2.2 34 (C1 false 0) :: HP2⟩) ?_ ?_
  ·rintro ⟨z327, z328, z329⟩
   refine al3 8 18 19 (by kernel_rfl) ?_ ?_ ?_
   ·exact no rfl (oz (ent_fn' Try.func25 isn25 rfl rfl) c9) fun _ => tj [0,1,2,3,4,5,6,7,8,9,10] (hN167 (z327, z328, z329)) (U10 rfl rfl rfl rfl rfl rfl rfl rfl rfl rfl hLP2) (P3 rfl rfl rfl hHP2)
   ·exact na rfl info34 (C1 false 0) fun q15 => tj [1,2,3,0,4,5,6,7,8,9,10,11] (hN177 (z327, z328, z329, q15)) (U12 rfl rfl rfl rfl rfl rfl rfl rfl rfl rfl rfl rfl hLP2) (P4 rfl rfl rfl rfl hHP2)
   exact na rfl info34 (C1 false 0) fun q16 => tj [1,2,3,0,4,5,6,7,8,9,10,11] (hN178 (z327, z328, z329, q16)) (U12 rfl rfl rfl rfl rfl rfl rfl rfl rfl rfl rfl rfl hLP2) (P4 rfl rfl rfl rfl hHP2)
  intro hN136
  refine an 10 25 374527 (fun (v131 : A3) => ⟨115, [], (12, Vp v131.1) :: (13, Vp v131.2.1) :: (15, Vp v131.2.2) :: (34, S12) :: (37, S16) :: (38, S14) :: (39, S14) :: (41, S13) :: (42, S15) :: (44, S14) :: (45, S15) :: LP2, Ur v131.1 34 (C1 false 0) :: Ur v131.2.1 34 (C1 false 0) :: Ur v131.2.2 34 (C1 false 0) :: HP2⟩) ?_ ?_
  ·rintro ⟨z330, z331, z332⟩
   refine al3 8 17 19 (by kernel_rfl) ?_ ?_ ?_
   ·exact no rfl (oz (ent_fn' Try.func25 isn25 rfl rfl) c9) fun _ => tj [0,1,2,3,4,5,6,7,8,9,10] (hN168 (z330, z331, z332)) (U10 rfl rfl rfl rfl rfl rfl rfl rfl rfl rfl hLP2) (P3 rfl rfl rfl hHP2)
   ·exact na rfl info34 (C1 false 0) fun q14 => tj [1,2,0,3,4,5,6,7,8,9,10,11] (hN177 (z330, z331, q14, z332)) (U12 rfl rfl rfl rfl rfl rfl rfl rfl rfl rfl rfl rfl hLP2) (P4 rfl rfl rfl rfl hHP2)
   exact na rfl info34 (C1 false 0) fun q16 => tj [1,2,3,0,4,5,6,7,8,9,10,11] (hN179 (z330, z331, z332, q16)) (U12 rfl rfl rfl rfl rfl rfl rfl rfl rfl rfl rfl rfl hLP2) (P4 rfl rfl rfl rfl hHP2)
  intro hN137
  refine an 10 25 636671 (fun (v132 : A3) => ⟨115, [], (12, Vp v132.1) :: (13, Vp v132.2.1) :: (16, Vp v132.2.2) :: (34, S12) :: (37, S16) :: (38, S14) :: (39, S14) :: (41, S13) :: (42, S15) :: (44, S14) :: (45, S15) :: LP2, Ur v132.1 34 (C1 false 0) :: Ur v132.2.1 34 (C1 false 0) :: Ur v132.2.2 34 (C1 false 0) :: HP2⟩) ?_ ?_
  ·rintro ⟨z333, z334, z335⟩
   refine al3 8 17 18 (by kernel_rfl) ?_ ?_ ?_
   ·exact no rfl (oz (ent_fn' Try.func25 isn25 rfl rfl) c9) fun _ => tj [0,1,2,3,4,5,6,7,8,9,10] (hN169 (z333, z334, z335)) (U10 rfl rfl rfl rfl rfl rfl rfl rfl rfl rfl hLP2) (P3 rfl rfl rfl hHP2)
   ·exact na rfl info34 (C1 false 0) fun q14 => tj [1,2,0,3,4,5,6,7,8,9,10,11] (hN178 (z333, z334, q14, z335)) (U12 rfl rfl rfl rfl rfl rfl rfl rfl rfl rfl rfl rfl hLP2) (P4 rfl rfl rfl rfl hHP2)
   exact na rfl info34 (C1 false 0) fun q15 => tj [1,2,0,3,4,5,6,7,8,9,10,11] (hN179 (z333, z334, q15, z335)) (U12 rfl rfl rfl rfl rfl rfl rfl rfl rfl rfl rfl rfl hLP2) (P4 rfl rfl rfl rfl hHP2)
  intro hN138
  refine an 10 25 440063 (fun (v133 : A3) => ⟨115, [], (12, Vp v133.1) :: (14, Vp v133.2.1) :: (15, Vp v133.2.2) :: (34, S12) :: (37, S16) :: (38, S14) :: (39, S14) :: (41, S13) :: (42, S15) :: (44, S14) :: (45, S15) :: LP2, Ur v133.1 34 (C1 false 0) :: Ur v133.2.1 34 (C1 false 0) :: Ur v133.2.2 34 (C1 false 0) :: HP2⟩) ?_ ?_
  ·rintro ⟨z336, z337, z338⟩
   refine al3 8 16 19 (by kernel_rfl) ?_ ?_ ?_
   ·exact no rfl (oz (ent_fn' Try.func25 isn25 rfl rfl) c9) fun _ => tj [0,1,2,3,4,5,6,7,8,9,10] (hN170 (z336, z337, z338)) (U10 rfl rfl rfl rfl rfl rfl rfl rfl rfl rfl hLP2) (P3 rfl rfl rfl hHP2)
   ·exact na rfl info34 (C1 false 0) fun q13 => tj [1,0,2,3,4,5,6,7,8,9,10,11] (hN177 (z336, q13, z337, z338)) (U12 rfl rfl rfl rfl rfl rfl rfl rfl rfl rfl rfl rfl hLP2) (P4 rfl rfl rfl rfl hHP2)
   exact na rfl info34 (C1 false 0) fun q16 => tj [1,2,3,0,4,5,6,7,8,9,10,11] (hN180 (z336, z337, z338, q16)) (U12 rfl rfl rfl rfl rfl rfl rfl rfl rfl rfl rfl rfl hLP2) (P4 rfl rfl rfl rfl hHP2)
  intro hN139
  refine an 10 25 702207 (fun (v134 : A3) => ⟨115, [], (12, Vp v134.1) :: (14, Vp v134.2.1) :: (16, Vp v134.2.2) :: (34, S12) :: (37, S16) :: (38, S14) :: (39, S14) :: (41, S13) :: (42, S15) :: (44, S14) :: (45, S15) :: LP2, Ur v134.1 34 (C1 false 0) :: Ur v134.2.1 34 (C1 false 0) :: Ur v134.2.2 34 (C1 false 0) :: HP2⟩) ?_ ?_
  ·rintro ⟨z339, z340, z341⟩
   refine al3 8 16 18 (by kernel_rfl) ?_ ?_ ?_
   ·exact no rfl (oz (ent_fn' Try.func25 isn25 rfl rfl) c9) fun _ => tj [0,1,2,3,4,5,6,7,8,9,10] (hN171 (z339, z340, z341)) (U10 rfl rfl rfl rfl rfl rfl rfl rfl rfl rfl hLP2) (P3 rfl rfl rfl hHP2)
   ·exact na rfl info34 (C1 false 0) fun q13 => tj [1,0,2,3,4,5,6,7,8,9,10,11] (hN178 (z339, q13, z340, z341)) (U12 rfl rfl rfl rfl rfl rfl rfl rfl rfl rfl rfl rfl hLP2) (P4 rfl rfl rfl rfl hHP2)
   exact na rfl info34 (C1 false 0) fun q15 => tj [1,2,0,3,4,5,6,7,8,9,10,11] (hN180 (z339, z340, q15, z341)) (U12 rfl rfl rfl rfl rfl rfl rfl rfl rfl rfl rfl rfl hLP2) (P4 rfl rfl rfl rfl hHP2)
  intro hN140
  refine an 10 25 833279 (fun (v135 : A3) => ⟨115, [], (12, Vp v135.1) :: (15, Vp v135.2.1) :: (16, Vp v135.2.2) :: (34, S12) :: (37, S16) :: (38, S14) :: (39, S14) :: (41, S13) :: (42, S15) :: (44, S14) :: (45, S15) :: LP2, Ur v135.1 34 (C1 false 0) :: Ur v135.2.1 34 (C1 false 0) :: Ur v135.2.2 34 (C1 false 0) :: HP2⟩) ?_ ?_
  ·rintro ⟨z342, z343, z344⟩
   refine al3 8 16 17 (by kernel_rfl) ?_ ?_ ?_
   ·exact no rfl (oz (ent_fn' Try.func25 isn25 rfl rfl) c9) fun _ => tj [0,1,2,3,4,5,6,7,8,9,10] (hN172 (z342, z343, z344)) (U10 rfl rfl rfl rfl rfl rfl rfl rfl rfl rfl hLP2) (P3 rfl rfl rfl hHP2)
   ·exact na rfl info34 (C1 false 0) fun q13 => tj [1,0,2,3,4,5,6,7,8,9,10,11] (hN179 (z342, q13, z343, z344)) (U12 rfl rfl rfl rfl rfl rfl rfl rfl rfl rfl rfl rfl hLP2) (P4 rfl rfl rfl rfl hHP2)
   exact na rfl info34 (C1 false 0) fun q14 => tj [1,0,2,3,4,5,6,7,8,9,10,11] (hN180 (z342, q14, z343, z344)) (U12 rfl rfl rfl rfl rfl rfl rfl rfl rfl rfl rfl rfl hLP2) (P4 rfl rfl rfl rfl hHP2)
  intro hN141
  refine an 10 25 472831 (fun (v136 : A3) => ⟨115, [], (13, Vp v136.1) :: (14, Vp v136.2.1) :: (15, Vp v136.2.2) :: (34, S12) :: (37, S16) :: (38, S14) :: (39, S14) :: (41, S13) :: (42, S15) :: (44, S14) :: (45, S15) :: LP2, Ur v136.1 34 (C1 false 0) :: Ur v136.2.1 34 (C1 false 0) :: Ur v136.2.2 34 (C1 false 0) :: HP2⟩) ?_ ?_
  ·rintro ⟨z345, z346, z347⟩
   refine al3 8 15 19 (by kernel_rfl) ?_ ?_ ?_
   ·exact no rfl (oz (ent_fn' Try.func25 isn25 rfl rfl) c9) fun _ => tj [0,1,2,3,4,5,6,7,8,9,10] (hN173 (z345, z346, z347)) (U10 rfl rfl rfl rfl rfl rfl rfl rfl rfl rfl hLP2) (P3 rfl rfl rfl hHP2)
   ·exact na rfl info34 (C1 false 0) fun q12 => tj [0,1,2,3,4,5,6,7,8,9,10,11] (hN177 (q12, z345, z346, z347)) (U12 rfl rfl rfl rfl rfl rfl rfl rfl rfl rfl rfl rfl hLP2) (P4 rfl rfl rfl rfl hHP2)
   exact na rfl info34 (C1 false 0) fun q16 => tj [1,2,3,0,4,5,6,7,8,9,10,11] (hN181 (z345, z346, z347, q16)) (U12 rfl rfl rfl rfl rfl rfl rfl rfl rfl rfl rfl rfl hLP2) (P4 rfl rfl rfl rfl hHP2)
  intro hN142
  refine an 10 25 734975 (fun (v137 : A3) => ⟨115, [], (13, Vp v137.1) :: (14, Vp v137.2.1) :: (16, Vp v137.2.2) :: (34, S12) :: (37, S16) :: (38, S14) :: (39, S14) :: (41, S13) :: (42, S15) :: (44, S14) :: (45, S15) :: LP2, Ur v137.1 34 (C1 false 0) :: Ur v137.2.1 34 (C1 false 0) :: Ur v137.2.2 34 (C1 false 0) :: HP2⟩) ?_ ?_
  ·rintro ⟨z348, z349, z350⟩
   refine al3 8 15 18 (by kernel_rfl) ?_ ?_ ?_
   ·exact no rfl (oz (ent_fn' Try.func25 isn25 rfl rfl) c9) fun _ => tj [0,1,2,3,4,5,6,7,8,9,10] (hN174 (z348, z349, z350)) (U10 rfl rfl rfl rfl rfl rfl rfl rfl rfl rfl hLP2) (P3 rfl rfl rfl hHP2)
   ·exact na rfl info34 (C1 false 0) fun q12 => tj [0,1,2,3,4,5,6,7,8,9,10,11] (hN178 (q12, z348, z349, z350)) (U12 rfl rfl rfl rfl rfl rfl rfl rfl rfl rfl rfl rfl hLP2) (P4 rfl rfl rfl rfl hHP2)
   exact na rfl info34 (C1 false 0) fun q15 => tj [1,2,0,3,4,5,6,7,8,9,10,11] (hN181 (z348, z349, q15, z350)) (U12 rfl rfl rfl rfl rfl rfl rfl rfl rfl rfl rfl rfl hLP2) (P4 rfl rfl rfl rfl hHP2)
  intro hN143
  refine an 10 25 866047 (fun (v138 : A3) => ⟨115, [], (13, Vp v138.1) :: (15, Vp v138.2.1) :: (16, Vp v138.2.2) :: (34, S12) :: (37, S16) :: (38, S14) :: (39, S14) :: (41, S13) :: (42, S15) :: (44, S14) :: (45, S15) :: LP2, Ur v138.1 34 (C1 false 0) :: Ur v138.2.1 34 (C1 false 0) :: Ur v138.2.2 34 (C1 false 0) :: HP2⟩) ?_ ?_
  ·rintro ⟨z351, z352, z353⟩
   refine al3 8 15 17 (by kernel_rfl) ?_ ?_ ?_
   ·exact no rfl (oz (ent_fn' Try.func25 isn25 rfl rfl) c9) fun _ => tj [0,1,2,3,4,5,6,7,8,9,10] (hN175 (z351, z352, z353)) (U10 rfl rfl rfl rfl rfl rfl rfl rfl rfl rfl hLP2) (P3 rfl rfl rfl hHP2)
   ·exact na rfl info34 (C1 false 0) fun q12 => tj [0,1,2,3,4,5,6,7,8,9,10,11] (hN179 (q12, z351, z352, z353)) (U12 rfl rfl rfl rfl rfl rfl rfl rfl rfl rfl rfl rfl hLP2) (P4 rfl rfl rfl rfl hHP2)
   exact na rfl info34 (C1 false 0) fun q14 => tj [1,0,2,3,4,5,6,7,8,9,10,11] (hN181 (z351, q14, z352, z353)) (U12 rfl rfl rfl rfl rfl rfl rfl rfl rfl rfl rfl rfl hLP2) (P4 rfl rfl rfl rfl hHP2)
  intro hN144
  refine an 10 25 931583 (fun (v139 : A3) => ⟨115, [], (14, Vp v139.1) :: (15, Vp v139.2.1) :: (16, Vp v139.2.2) :: (34, S12) :: (37, S16) :: (38, S14) :: (39, S14) :: (41, S13) :: (42, S15) :: (44, S14) :: (45, S15) :: LP2, Ur v139.1 34 (C1 false 0) :: Ur v139.2.1 34 (C1 false 0) :: Ur v139.2.2 34 (C1 false 0) :: HP2⟩) ?_ ?_
  ·rintro ⟨z354, z355, z356⟩
   refine al3 8 15 16 (by kernel_rfl) ?_ ?_ ?_
   ·exact no rfl (oz (ent_fn' Try.func25 isn25 rfl rfl) c9) fun _ => tj [0,1,2,3,4,5,6,7,8,9,10] (hN176 (z354, z355, z356)) (U10 rfl rfl rfl rfl rfl rfl rfl rfl rfl rfl hLP2) (P3 rfl rfl rfl hHP2)
   ·exact na rfl info34 (C1 false 0) fun q12 => tj [0,1,2,3,4,5,6,7,8,9,10,11] (hN180 (q12, z354, z355, z356)) (U12 rfl rfl rfl rfl rfl rfl rfl rfl rfl rfl rfl rfl hLP2) (P4 rfl rfl rfl rfl hHP2)
   exact na rfl info34 (C1 false 0) fun q13 => tj [0,1,2,3,4,5,6,7,8,9,10,11] (hN181 (q13, z354, z355, z356)) (U12 rfl rfl rfl rfl rfl rfl rfl rfl rfl rfl rfl rfl hLP2) (P4 rfl rfl rfl rfl hHP2)
  intro hN145
  refine an 10 25 505567 (fun (v140 : A4) => ⟨115, [], (12, Vp v140.1) :: (13, Vp v140.2.1) :: (14, Vp v140.2.2.1) :: (15, Vp v140.2.2.2) :: (34, S12) :: (35, S13) :: (36, S14) :: (38, S14) :: (39, S14) :: (41, S13) :: (42, S15) :: (44, S14) :: (45, S15) :: LP2, Ur v140.1 34 (C1 false 0) :: Ur v140.2.1 34 (C1 false 0) :: Ur v140.2.2.1 34 (C1 false 0) :: Ur v140.2.2.2 34 (C1 false 0) :: HP2⟩) ?_ ?_
  ·rintro ⟨z357, z358, z359, z360⟩
   refine al2 5 19 (by kernel_rfl) ?_ ?_
   ·exact no rfl (oz (ent_fn' Try.func25 isn25 rfl rfl) c8) fun _ => tj [0,1,2,3,4,5,6,7,8,9,10,11] (hN177 (z357, z358, z359, z360)) (U12 rfl rfl rfl rfl rfl rfl rfl rfl rfl rfl rfl rfl hLP2) (P4 rfl rfl rfl rfl hHP2)
   exact na rfl info34 (C1 false 0) fun q16 => tj [1,2,3,4,0,5,6,7,8,9,10,11,12] (hN182 (z357, z358, z359, z360, q16)) (uc rfl (uc rfl (U12 rfl rfl rfl rfl rfl rfl rfl rfl rfl rfl rfl rfl hLP2))) (P5 rfl rfl rfl rfl rfl hHP2)
  intro hN146
  refine an 10 25 767711 (fun (v141 : A4) => ⟨115, [], (12, Vp v141.1) :: (13, Vp v141.2.1) :: (14, Vp v141.2.2.1) :: (16, Vp v141.2.2.2) :: (34, S12) :: (35, S13) :: (36, S14) :: (38, S14) :: (39, S14) :: (41, S13) :: (42, S15) :: (44, S14) :: (45, S15) :: LP2, Ur v141.1 34 (C1 false 0) :: Ur v141.2.1 34 (C1 false 0) :: Ur v141.2.2.1 34 (C1 false 0) :: Ur v141.2.2.2 34 (C1 false 0) :: HP2⟩) ?_ ?_
  ·rintro ⟨z361, z362, z363, z364⟩
   refine al2 5 18 (by kernel_rfl) ?_ ?_
   ·exact no rfl (oz (ent_fn' Try.func25 isn25 rfl rfl) c8) fun _ => tj [0,1,2,3,4,5,6,7,8,9,10,11] (hN178 (z361, z362, z363, z364)) (U12 rfl rfl rfl rfl rfl rfl rfl rfl rfl rfl rfl rfl hLP2) (P4 rfl rfl rfl rfl hHP2)
   exact na rfl info34 (C1 false 0) fun q15 => tj [1,2,3,0,4,5,6,7,8,9,10,11,12] (hN182 (z361, z362, z363, q15, z364)) (uc rfl (uc rfl (U12 rfl rfl rfl rfl rfl rfl rfl rfl rfl rfl rfl rfl hLP2))) (P5 rfl rfl rfl rfl rfl hHP2)
  intro hN147
  refine an 10 25 898783 (fun (v142 : A4) => ⟨115, [], (12, Vp v142.1) :: (13, Vp v142.2.1) :: (15, Vp v142.2.2.1) :: (16, Vp v142.2.2.2) :: (34, S12) :: (35, S13) :: (36, S14) :: (38, S14) :: (39, S14) :: (41, S13) :: (42, S15) :: (44, S14) :: (45, S15) :: LP2, Ur v142.1 34 (C1 false 0) :: Ur v142.2.1 34 (C1 false 0) :: Ur v142.2.2.1 34 (C1 false 0) :: Ur v142.2.2.2 34 (C1 false 0) :: HP2⟩) ?_ ?_
  ·rintro ⟨z365, z366, z367, z368⟩
   refine al2 5 17 (by kernel_rfl) ?_ ?_
   ·exact no rfl (oz (ent_fn' Try.func25 isn25 rfl rfl) c8) fun _ => tj [0,1,2,3,4,5,6,7,8,9,10,11] (hN179 (z365, z366, z367, z368)) (U12 rfl rfl rfl rfl rfl rfl rfl rfl rfl rfl rfl rfl hLP2) (P4 rfl rfl rfl rfl hHP2)
   exact na rfl info34 (C1 false 0) fun q14 => tj [1,2,0,3,4,5,6,7,8,9,10,11,12] (hN182 (z365, z366, q14, z367, z368)) (uc rfl (uc rfl (U12 rfl rfl rfl rfl rfl rfl rfl rfl rfl rfl rfl rfl hLP2))) (P5 rfl rfl rfl rfl rfl hHP2)
  intro hN148
  refine an 10 25 964319 (fun (v143 : A4) => ⟨115, [], (12, Vp v143.1) :: (14, Vp v143.2.1) :: (15, Vp v143.2.2.1) :: (16, Vp v143.2.2.2) :: (34, S12) :: (35, S13) :: (36, S14) :: (38, S14) :: (39, S14) :: (41, S13) :: (42, S15) :: (44, S14) :: (45, S15) :: LP2, Ur v143.1 34 (C1 false 0) :: Ur v143.2.1 34 (C1 false 0) :: Ur v143.2.2.1 34 (C1 false 0) :: Ur v143.2.2.2 34 (C1 false 0) :: HP2⟩) ?_ ?_
  ·rintro ⟨z369, z370, z371, z372⟩
   refine al2 5 16 (by kernel_rfl) ?_ ?_
   ·exact no rfl (oz (ent_fn' Try.func25 isn25 rfl rfl) c8) fun _ => tj [0,1,2,3,4,5,6,7,8,9,10,11] (hN180 (z369, z370, z371, z372)) (U12 rfl rfl rfl rfl rfl rfl rfl rfl rfl rfl rfl rfl hLP2) (P4 rfl rfl rfl rfl hHP2)
   exact na rfl info34 (C1 false 0) fun q13 => tj [1,0,2,3,4,5,6,7,8,9,10,11,12] (hN182 (z369, q13, z370, z371, z372)) (uc rfl (uc rfl (U12 rfl rfl rfl rfl rfl rfl rfl rfl rfl rfl rfl rfl hLP2))) (P5 rfl rfl rfl rfl rfl hHP2)
  intro hN149
  refine an 10 25 997087 (fun (v144 : A4) => ⟨115, [], (13, Vp v144.1) :: (14, Vp v144.2.1) :: (15, Vp v144.2.2.1) :: (16, Vp v144.2.2.2) :: (34, S12) :: (35, S13) :: (36, S14) :: (38, S14) :: (39, S14) :: (41, S13) :: (42, S15) :: (44, S14) :: (45, S15) :: LP2, Ur v144.1 34 (C1 false 0) :: Ur v144.2.1 34 (C1 false 0) :: Ur v144.2.2.1 34 (C1 false 0) :: Ur v144.2.2.2 34 (C1 false 0) :: HP2⟩) ?_ ?_
  ·rintro ⟨z373, z374, z375, z376⟩
   refine al2 5 15 (by kernel_rfl) ?_ ?_
   ·exact no rfl (oz (ent_fn' Try.func25 isn25 rfl rfl) c8) fun _ => tj [0,1,2,3,4,5,6,7,8,9,10,11] (hN181 (z373, z374, z375, z376)) (U12 rfl rfl rfl rfl rfl rfl rfl rfl rfl rfl rfl rfl hLP2) (P4 rfl rfl rfl rfl hHP2)
   exact na rfl info34 (C1 false 0) fun q12 => tj [0,1,2,3,4,5,6,7,8,9,10,11,12] (hN182 (q12, z373, z374, z375, z376)) (uc rfl (uc rfl (U12 rfl rfl rfl rfl rfl rfl rfl rfl rfl rfl rfl rfl hLP2))) (P5 rfl rfl rfl rfl rfl hHP2)
  intro hN150
  refine an 10 25 1029851 (fun (v145 : A5) => ⟨115, [], (12, Vp v145.1) :: (13, Vp v145.2.1) :: (14, Vp v145.2.2.1) :: (15, Vp v145.2.2.2.1) :: (16, Vp v145.2.2.2.2) :: (32, S13) :: (33, S13) :: (35, S13) :: (36, S14) :: (38, S14) :: (39, S14) :: (41, S13) :: (42, S15) :: (44, S14) :: (45, S15) :: LP2, Ur v145.1 34 (C1 false 0) :: Ur v145.2.1 34 (C1 false 0) :: Ur v145.2.2.1 34 (C1 false 0) :: Ur v145.2.2.2.1 34 (C1 false 0) :: Ur v145.2.2.2.2 34 (C1 false 0) :: HP2⟩) ?_ ?_
  ·rintro ⟨z377, z378, z379, z380, z381⟩
   refine al1 2 (by kernel_rfl) ?_
   ·exact no rfl (oz (ent_fn' Try.func25 isn25 rfl rfl) c7) fun _ => tj [0,1,2,3,4,5,6,7,8,9,10,11,12] (hN182 (z377, z378, z379, z380, z381)) (uc rfl (uc rfl (U12 rfl rfl rfl rfl rfl rfl rfl rfl rfl rfl rfl rfl hLP2))) (P5 rfl rfl rfl rfl rfl hHP2)
  intro hN151
  refine an 11 25 16383 (fun (v83 : Unit) => ⟨115, [], (34, S12) :: (37, S16) :: (40, S17) :: (43, S18) :: (44, S14) :: (45, S15) :: LP2, HP2⟩) ?_ ?_
  ·rintro ⟨⟩
   refine al6 14 15 16 17 18 19 (by kernel_rfl) ?_ ?_ ?_ ?_ ?_ ?_
   ·exact no rfl (oz (ent_fn' Try.func25 isn25 rfl rfl) c11) fun _ => tj [0,1,2,3,4,5,6,7] (hN120 ()) (U5 rfl rfl rfl rfl rfl hLP2) hHP2
   ·exact na rfl info34 (C1 false 0) fun q12 => tj [0,1,2,3,4,5,6,7,8] (hN121 q12) (U7 rfl rfl rfl rfl rfl rfl rfl hLP2) (P1 rfl hHP2)
   ·exact na rfl info34 (C1 false 0) fun q13 => tj [0,1,2,3,4,5,6,7,8] (hN122 q13) (U7 rfl rfl rfl rfl rfl rfl rfl hLP2) (P1 rfl hHP2)
   ·exact na rfl info34 (C1 false 0) fun q14 => tj [0,1,2,3,4,5,6,7,8] (hN123 q14) (U7 rfl rfl rfl rfl rfl rfl rfl hLP2) (P1 rfl hHP2)
   ·exact na rfl info34 (C1 false 0) fun q15 => tj [0,1,2,3,4,5,6,7,8] (hN124 q15) (U7 rfl rfl rfl rfl rfl rfl rfl hLP2) (P1 rfl hHP2)
   exact na rfl info34 (C1 false 0) fun q16 => tj [0,1,2,3,4,5,6,7,8] (hN125 q16) (U7 rfl rfl rfl rfl rfl rfl rfl hLP2) (P1 rfl hHP2)
  intro hN89
  refine an 11 25 47103 (fun (v84 : Addr) => ⟨115, [], (12, Vp v84) :: (34, S12) :: (37, S16) :: (40, S17) :: (41, S13) :: (42, S15) :: (44, S14) :: (45, S15) :: LP2, Ur v84 34 (C1 false 0) :: HP2⟩) ?_ ?_
  ·rintro z382
   refine al5 11 16 17 18 19 (by kernel_rfl) ?_ ?_ ?_ ?_ ?_
   ·exact no rfl (oz (ent_fn' Try.func25 isn25 rfl rfl) c10) fun _ => tj [0,1,2,3,4,5,6,7,8] (hN121 z382) (U7 rfl rfl rfl rfl rfl rfl rfl hLP2) (P1 rfl hHP2)
   ·exact na rfl info34 (C1 false 0) fun q13 => tj [1,0,2,3,4,5,6,7,8,9] (hN126 (z382, q13)) (U9 rfl rfl rfl rfl rfl rfl rfl rfl rfl hLP2) (P2 rfl rfl hHP2)
   ·exact na rfl info34 (C1 false 0) fun q14 => tj [1,0,2,3,4,5,6,7,8,9] (hN127 (z382, q14)) (U9 rfl rfl rfl rfl rfl rfl rfl rfl rfl hLP2) (P2 rfl rfl hHP2)
   ·exact na rfl info34 (C1 false 0) fun q15 => tj [1,0,2,3,4,5,6,7,8,9] (hN128 (z382, q15)) (U9 rfl rfl rfl rfl rfl rfl rfl rfl rfl hLP2) (P2 rfl rfl hHP2)
   exact na rfl info34 (C1 false 0) fun q16 => tj [1,0,2,3,4,5,6,7,8,9] (hN129 (z382, q16)) (U9 rfl rfl rfl rfl rfl rfl rfl rfl rfl hLP2) (P2 rfl rfl hHP2)
  intro hN90
  refine an 11 25 79871 (fun (v85 : Addr) => ⟨115, [], (13, Vp v85) :: (34, S12) :: (37, S16) :: (40, S17) :: (41, S13) :: (42, S15) :: (44, S14) :: (45, S15) :: LP2, Ur v85 34 (C1 false 0) :: HP2⟩) ?_ ?_
  ·rintro z383
   refine al5 11 15 17 18 19 (by kernel_rfl) ?_ ?_ ?_ ?_ ?_
   ·exact no rfl (oz (ent_fn' Try.func25 isn25 rfl rfl) c10) fun _ => tj [0,1,2,3,4,5,6,7,8] (hN122 z383) (U7 rfl rfl rfl rfl rfl rfl rfl hLP2) (P1 rfl hHP2)
   ·exact na rfl info34 (C1 false 0) fun q12 => tj [0,1,2,3,4,5,6,7,8,9] (hN126 (q12, z383)) (U9 rfl rfl rfl rfl rfl rfl rfl rfl rfl hLP2) (P2 rfl rfl hHP2)
   ·exact na rfl info34 (C1 false 0) fun q14 => tj [1,0,2,3,4,5,6,7,8,9] (hN130 (z383, q14)) (U9 rfl rfl rfl rfl rfl rfl rfl rfl rfl hLP2) (P2 rfl rfl hHP2)
   ·exact na rfl info34 (C1 false 0) fun q15 => tj [1,0,2,3,4,5,6,7,8,9] (hN131 (z383, q15)) (U9 rfl rfl rfl rfl rfl rfl rfl rfl rfl hLP2) (P2 rfl rfl hHP2)
   exact na rfl info34 (C1 false 0) fun q16 => tj [1,0,2,3,4,5,6,7,8,9] (hN132 (z383, q16)) (U9 rfl rfl rfl rfl rfl rfl rfl rfl rfl hLP2) (P2 rfl rfl hHP2)
  intro hN91
  refine an 11 25 145407 (fun (v86 : Addr) => ⟨115, [], (14, Vp v86) :: (34, S12) :: (37, S16) :: (40, S17) :: (41, S13) :: (42, S15) :: (44, S14) :: (45, S15) :: LP2, Ur v86 34 (C1 false 0) :: HP2⟩) ?_ ?_
  ·rintro z384
   refine al5 11 15 16 18 19 (by kernel_rfl) ?_ ?_ ?_ ?_ ?_
   ·exact no rfl (oz (ent_fn' Try.func25 isn25 rfl rfl) c10) fun _ => tj [0,1,2,3,4,5,6,7,8] (hN123 z384) (U7 rfl rfl rfl rfl rfl rfl rfl hLP2) (P1 rfl hHP2)
   ·exact na rfl info34 (C1 false 0) fun q12 => tj [0,1,2,3,4,5,6,7,8,9] (hN127 (q12, z384)) (U9 rfl rfl rfl rfl rfl rfl rfl rfl rfl hLP2) (P2 rfl rfl hHP2)
   ·exact na rfl info34 (C1 false 0) fun q13 => tj [0,1,2,3,4,5,6,7,8,9] (hN130 (q13, z384)) (U9 rfl rfl rfl rfl rfl rfl rfl rfl rfl hLP2) (P2 rfl rfl hHP2)
   ·exact na rfl info34 (C1 false 0) fun q15 => tj [1,0,2,3,4,5,6,7,8,9] (hN133 (z384, q15)) (U9 rfl rfl rfl rfl rfl rfl rfl rfl rfl hLP2) (P2 rfl rfl hHP2)
   exact na rfl info34 (C1 false 0) fun q16 => tj [1,0,2,3,4,5,6,7,8,9] (hN134 (z384, q16)) (U9 rfl rfl rfl rfl rfl rfl rfl rfl rfl hLP2) (P2 rfl rfl hHP2)
  intro hN92
  refine an 11 25 276479 (fun (v87 : Addr) => ⟨115, [], (15, Vp v87) :: (34, S12) :: (37, S16) :: (40, S17) :: (41, S13) :: (42, S15) :: (44, S14) :: (45, S15) :: LP2, Ur v87 34 (C1 false 0) :: HP2⟩) ?_ ?_
  ·rintro z385
   refine al5 11 15 16 17 19 (by kernel_rfl) ?_ ?_ ?_ ?_ ?_
   ·exact no rfl (oz (ent_fn' Try.func25 isn25 rfl rfl) c10) fun _ => tj [0,1,2,3,4,5,6,7,8] (hN124 z385) (U7 rfl rfl rfl rfl rfl rfl rfl hLP2) (P1 rfl hHP2)
   ·exact na rfl info34 (C1 false 0) fun q12 => tj [0,1,2,3,4,5,6,7,8,9] (hN128 (q12, z385)) (U9 rfl rfl rfl rfl rfl rfl rfl rfl rfl hLP2) (P2 rfl rfl hHP2)
   ·exact na rfl info34 (C1 false 0) fun q13 => tj [0,1,2,3,4,5,6,7,8,9] (hN131 (q13, z385)) (U9 rfl rfl rfl rfl rfl rfl rfl rfl rfl hLP2) (P2 rfl rfl hHP2)
   ·exact na rfl info34 (C1 false 0) fun q14 => tj [0,1,2,3,4,5,6,7,8,9] (hN133 (q14, z385)) (U9 rfl rfl rfl rfl rfl rfl rfl rfl rfl hLP2) (P2 rfl rfl hHP2)
   exact na rfl info34 (C1 false 0) fun q16 => tj [1,0,2,3,4,5,6,7,8,9] (hN135 (z385, q16)) (U9 rfl rfl rfl rfl rfl rfl rfl rfl rfl hLP2) (P2 rfl rfl hHP2)
  intro hN93
  refine an 11 25 538623 (fun (v88 : Addr) => ⟨115, [], (16, Vp v88) :: (34, S12) :: (37, S16) :: (40, S17) :: (41, S13) :: (42, S15) :: (44, S14) :: (45, S15) :: LP2, Ur v88 34 (C1 false 0) :: HP2⟩) ?_ ?_
  ·rintro z386
   refine al5 11 15 16 17 18 (by kernel_rfl) ?_ ?_ ?_ ?_ ?_
   ·exact no rfl (oz (ent_fn' Try.func25 isn25 rfl rfl) c10) fun _ => tj [0,1,2,3,4,5,6,7,8] (hN125 z386) (U7 rfl rfl rfl rfl rfl rfl rfl hLP2) (P1 rfl hHP2)
   ·exact na rfl info34 (C1 false 0) fun q12 => tj [0,1,2,3,4,5,6,7,8,9] (hN129 (q12, z386)) (U9 rfl rfl rfl rfl rfl rfl rfl rfl rfl hLP2) (P2 rfl rfl hHP2)
   ·exact na rfl info34 (C1 false 0) fun q13 => tj [0,1,2,3,4,5,6,7,8,9] (hN132 (q13, z386)) (U9 rfl rfl rfl rfl rfl rfl rfl rfl rfl hLP2) (P2 rfl rfl hHP2)
   ·exact na rfl info34 (C1 false 0) fun q14 => tj [0,1,2,3,4,5,6,7,8,9] (hN134 (q14, z386)) (U9 rfl rfl rfl rfl rfl rfl rfl rfl rfl hLP2) (P2 rfl rfl hHP2)
   exact na rfl info34 (C1 false 0) fun q15 => tj [0,1,2,3,4,5,6,7,8,9] (hN135 (q15, z386)) (U9 rfl rfl rfl rfl rfl rfl rfl rfl rfl hLP2) (P2 rfl rfl hHP2)
  intro hN94
  refine an 11 25 112383 (fun (v89 : A2) => ⟨115, [], (12, Vp v89.1) :: (13, Vp v89.2) :: (34, S12) :: (37, S16) :: (38, S14) :: (39, S14) :: (41, S13) :: (42, S15) :: (44, S14) :: (45, S15) :: LP2, Ur v89.1 34 (C1 false 0) :: Ur v89.2 34 (C1 false 0) :: HP2⟩) ?_ ?_
  ·rintro ⟨z387, z388⟩
   refine al4 8 17 18 19 (by kernel_rfl) ?_ ?_ ?_ ?_
   ·exact no rfl (oz (ent_fn' Try.func25 isn25 rfl rfl) c9) fun _ => tj [0,1,2,3,4,5,6,7,8,9] (hN126 (z387, z388)) (U9 rfl rfl rfl rfl rfl rfl rfl rfl rfl hLP2) (P2 rfl rfl hHP2)
   ·exact na rfl info34 (C1 false 0) fun q14 => tj [1,2,0,3,4,5,6,7,8,9,10] (hN136 (z387, z388, q14)) (U11 rfl rfl rfl rfl rfl rfl rfl rfl rfl rfl rfl hLP2) (P3 rfl rfl rfl hHP2)
   ·exact na rfl info34 (C1 false 0) fun q15 => tj [1,2,0,3,4,5,6,7,8,9,10] (hN137 (z387, z388, q15)) (U11 rfl rfl rfl rfl rfl rfl rfl rfl rfl rfl rfl hLP2) (P3 rfl rfl rfl hHP2)
   exact na rfl info34 (C1 false 0) fun q16 => tj [1,2,0,3,4,5,6,7,8,9,10] (hN138 (z387, z388, q16)) (U11 rfl rfl rfl rfl rfl rfl rfl rfl rfl rfl rfl hLP2) (P3 rfl rfl rfl hHP2)
  intro hN95
  refine an 11 25 177919 (fun (v90 : A2) => ⟨115, [], (12, Vp v90.1) :: (14, Vp v90.2) :: (34, S12) :: (37, S16) :: (38, S14) :: (39, S14) :: (41, S13) :: (42, S15) :: (44, S14) :: (45, S15) :: LP2, Ur v90.1 34 (C1 false 0) :: Ur v90.2 34 (C1 false 0) :: HP2⟩) ?_ ?_
  ·rintro ⟨z389, z390⟩
   refine al4 8 16 18 19 (by kernel_rfl) ?_ ?_ ?_ ?_
   ·exact no rfl (oz (ent_fn' Try.func25 isn25 rfl rfl) c9) fun _ => tj [0,1,2,3,4,5,6,7,8,9] (hN127 (z389, z390)) (U9 rfl rfl rfl rfl rfl rfl rfl rfl rfl hLP2) (P2 rfl rfl hHP2)
   ·exact na rfl info34 (C1 false 0) fun q13 => tj [1,0,2,3,4,5,6,7,8,9,10] (hN136 (z389, q13, z390)) (U11 rfl rfl rfl rfl rfl rfl rfl rfl rfl rfl rfl hLP2) (P3 rfl rfl rfl hHP2)
   ·exact na rfl info34 (C1 false 0) fun q15 => tj [1,2,0,3,4,5,6,7,8,9,10] (hN139 (z389, z390, q15)) (U11 rfl rfl rfl rfl rfl rfl rfl rfl rfl rfl rfl hLP2) (P3 rfl rfl rfl hHP2)
   exact na rfl info34 (C1 false 0) fun q16 => tj [1,2,0,3,4,5,6,7,8,9,10] (hN140 (z389, z390, q16)) (U11 rfl rfl rfl rfl rfl rfl rfl rfl rfl rfl rfl hLP2) (P3 rfl rfl rfl hHP2)
  intro hN96
  refine an 11 25 308991 (fun (v91 : A2) => ⟨115, [], (12, Vp v91.1) :: (15, Vp v91.2) :: (34, S12) :: (37, S16) :: (38, S14) :: (39, S14) :: (41, S13) :: (42, S15) :: (44, S14) :: (45, S15) :: LP2, Ur v91.1 34 (C1 false 0) :: Ur v91.2 34 (C1 false 0) :: HP2⟩) ?_ ?_
  ·rintro ⟨z391, z392⟩
   refine al4 8 16 17 19 (by kernel_rfl) ?_ ?_ ?_ ?_
   ·exact no rfl (oz (ent_fn' Try.func25 isn25 rfl rfl) c9) fun _ => tj [0,1,2,3,4,5,6,7,8,9] (hN128 (z391, z392)) (U9 rfl rfl rfl rfl rfl rfl rfl rfl rfl hLP2) (P2 rfl rfl hHP2)
   ·exact na rfl info34 (C1 false 0) fun q13 => tj [1,0,2,3,4,5,6,7,8,9,10] (hN137 (z391, q13, z392)) (U11 rfl rfl rfl rfl rfl rfl rfl rfl rfl rfl rfl hLP2) (P3 rfl rfl rfl hHP2)
   ·exact na rfl info34 (C1 false 0) fun q14 => tj [1,0,2,3,4,5,6,7,8,9,10] (hN139 (z391, q14, z392)) (U11 rfl rfl rfl rfl rfl rfl rfl rfl rfl rfl rfl hLP2) (P3 rfl rfl rfl hHP2)
   exact na rfl info34 (C1 false 0) fun q16 => tj [1,2,0,3,4,5,6,7,8,9,10] (hN141 (z391, z392, q16)) (U11 rfl rfl rfl rfl rfl rfl rfl rfl rfl rfl rfl hLP2) (P3 rfl rfl rfl hHP2)
  intro hN97
  refine an 11 25 571135 (fun (v92 : A2) => ⟨115, [], (12, Vp v92.1) :: (16, Vp v92.2) :: (34, S12) :: (37, S16) :: (38, S14) :: (39, S14) :: (41, S13) :: (42, S15) :: (44, S14) :: (45, S15) :: LP2, Ur v92.1 34 (C1 false 0) :: Ur v92.2 34 (C1 false 0) :: HP2⟩) ?_ ?_
  ·rintro ⟨z393, z394⟩
   refine al4 8 16 17 18 (by kernel_rfl) ?_ ?_ ?_ ?_
   ·exact no rfl (oz (ent_fn' Try.func25 isn25 rfl rfl) c9) fun _ => tj [0,1,2,3,4,5,6,7,8,9] (hN129 (z393, z394)) (U9 rfl rfl rfl rfl rfl rfl rfl rfl rfl hLP2) (P2 rfl rfl hHP2)
   ·exact na rfl info34 (C1 false 0) fun q13 => tj [1,0,2,3,4,5,6,7,8,9,10] (hN138 (z393, q13, z394)) (U11 rfl rfl rfl rfl rfl rfl rfl rfl rfl rfl rfl hLP2) (P3 rfl rfl rfl hHP2)
   ·exact na rfl info34 (C1 false 0) fun q14 => tj [1,0,2,3,4,5,6,7,8,9,10] (hN140 (z393, q14, z394)) (U11 rfl rfl rfl rfl rfl rfl rfl rfl rfl rfl rfl hLP2) (P3 rfl rfl rfl hHP2)
   exact na rfl info34 (C1 false 0) fun q15 => tj [1,0,2,3,4,5,6,7,8,9,10] (hN141 (z393, q15, z394)) (U11 rfl rfl rfl rfl rfl rfl rfl rfl rfl rfl rfl hLP2) (P3 rfl rfl rfl hHP2)
  intro hN98
  refine an 11 25 210687 (fun (v93 : A2) => ⟨115, [], (13, Vp v93.1) :: (14, Vp v93.2) :: (34, S12) :: (37, S16) :: (38, S14) :: (39, S14) :: (41, S13) :: (42, S15) :: (44, S14) :: (45, S15) :: LP2, Ur v93.1 34 (C1 false 0) :: Ur v93.2 34 (C1 false 0) :: HP2⟩) ?_ ?_
  ·rintro ⟨z395, z396⟩
   refine al4 8 15 18 19 (by kernel_rfl) ?_ ?_ ?_ ?_
   ·exact no rfl (oz (ent_fn' Try.func25 isn25 rfl rfl) c9) fun _ => tj [0,1,2,3,4,5,6,7,8,9] (hN130 (z395, z396)) (U9 rfl rfl rfl rfl rfl rfl rfl rfl rfl hLP2) (P2 rfl rfl hHP2)
   ·exact na rfl info34 (C1 false 0) fun q12 => tj [0,1,2,3,4,5,6,7,8,9,10] (hN136 (q12, z395, z396)) (U11 rfl rfl rfl rfl rfl rfl rfl rfl rfl rfl rfl hLP2) (P3 rfl rfl rfl hHP2)
   ·exact na rfl info34 (C1 false 0) fun q15 => tj [1,2,0,3,4,5,6,7,8,9,10] (hN142 (z395, z396, q15)) (U11 rfl rfl rfl rfl rfl rfl rfl rfl rfl rfl rfl hLP2) (P3 rfl rfl rfl hHP2)
   exact na rfl info34 (C1 false 0) fun q16 => tj [1,2,0,3,4,5,6,7,8,9,10] (hN143 (z395, z396, q16)) (U11 rfl rfl rfl rfl rfl rfl rfl rfl rfl rfl rfl hLP2) (P3 rfl rfl rfl hHP2)
  intro hN99
  refine an 11 25 341759 (fun (v94 : A2) => ⟨115, [], (13, Vp v94.1) :: (15, Vp v94.2) :: (34, S12) :: (37, S16) :: (38, S14) :: (39, S14) :: (41, S13) :: (42, S15) :: (44, S14) :: (45, S15) :: LP2, Ur v94.1 34 (C1 false 0) :: Ur v94.2 34 (C1 false 0) :: HP2⟩) ?_ ?_
  ·rintro ⟨z397, z398⟩
   refine al4 8 15 17 19 (by kernel_rfl) ?_ ?_ ?_ ?_
   ·exact no rfl (oz (ent_fn' Try.func25 isn25 rfl rfl) c9) fun _ => tj [0,1,2,3,4,5,6,7,8,9] (hN131 (z397, z398)) (U9 rfl rfl rfl rfl rfl rfl rfl rfl rfl hLP2) (P2 rfl rfl hHP2)
   ·exact na rfl info34 (C1 false 0) fun q12 => tj [0,1,2,3,4,5,6,7,8,9,10] (hN137 (q12, z397, z398)) (U11 rfl rfl rfl rfl rfl rfl rfl rfl rfl rfl rfl hLP2) (P3 rfl rfl rfl hHP2)
   ·exact na rfl info34 (C1 false 0) fun q14 => tj [1,0,2,3,4,5,6,7,8,9,10] (hN142 (z397, q14, z398)) (U11 rfl rfl rfl rfl rfl rfl rfl rfl rfl rfl rfl hLP2) (P3 rfl rfl rfl hHP2)
   exact na rfl info34 (C1 false 0) fun q16 => tj [1,2,0,3,4,5,6,7,8,9,10] (hN144 (z397, z398, q16)) (U11 rfl rfl rfl rfl rfl rfl rfl rfl rfl rfl rfl hLP2) (P3 rfl rfl rfl hHP2)
  intro hN100
  refine an 11 25 603903 (fun (v95 : A2) => ⟨115, [], (13, Vp v95.1) :: (16, Vp v95.2) :: (34, S12) :: (37, S16) :: (38, S14) :: (39, S14) :: (41, S13) :: (42, S15) :: (44, S14) :: (45, S15) :: LP2, Ur v95.1 34 (C1 false 0) :: Ur v95.2 34 (C1 false 0) :: HP2⟩) ?_ ?_
  ·rintro ⟨z399, z400⟩
   refine al4 8 15 17 18 (by kernel_rfl) ?_ ?_ ?_ ?_
   ·exact no rfl (oz (ent_fn' Try.func25 isn25 rfl rfl) c9) fun _ => tj [0,1,2,3,4,5,6,7,8,9] (hN132 (z399, z400)) (U9 rfl rfl rfl rfl rfl rfl rfl rfl rfl hLP2) (P2 rfl rfl hHP2)
   ·exact na rfl info34 (C1 false 0) fun q12 => tj [0,1,2,3,4,5,6,7,8,9,10] (hN138 (q12, z399, z400)) (U11 rfl rfl rfl rfl rfl rfl rfl rfl rfl rfl rfl hLP2) (P3 rfl rfl rfl hHP2)
   ·exact na rfl info34 (C1 false 0) fun q14 => tj [1,0,2,3,4,5,6,7,8,9,10] (hN143 (z399, q14, z400)) (U11 rfl rfl rfl rfl rfl rfl rfl rfl rfl rfl rfl hLP2) (P3 rfl rfl rfl hHP2)
   exact na rfl info34 (C1 false 0) fun q15 => tj [1,0,2,3,4,5,6,7,8,9,10] (hN144 (z399, q15, z400)) (U11 rfl rfl rfl rfl rfl rfl rfl rfl rfl rfl rfl hLP2) (P3 rfl rfl rfl hHP2)
  intro hN101
  refine an 11 25 407295 (fun (v96 : A2) => ⟨115, [], (14, Vp v96.1) :: (15, Vp v96.2) :: (34, S12) :: (37, S16) :: (38, S14) :: (39, S14) :: (41, S13) :: (42, S15) :: (44, S14) :: (45, S15) :: LP2, Ur v96.1 34 (C1 false 0) :: Ur v96.2 34 (C1 false 0) :: HP2⟩) ?_ ?_
  ·rintro ⟨z401, z402⟩
   refine al4 8 15 16 19 (by kernel_rfl) ?_ ?_ ?_ ?_
   ·exact no rfl (oz (ent_fn' Try.func25 isn25 rfl rfl) c9) fun _ => tj [0,1,2,3,4,5,6,7,8,9] (hN133 (z401, z402)) (U9 rfl rfl rfl rfl rfl rfl rfl rfl rfl hLP2) (P2 rfl rfl hHP2)
   ·exact na rfl info34 (C1 false 0) fun q12 => tj [0,1,2,3,4,5,6,7,8,9,10] (hN139 (q12, z401, z402)) (U11 rfl rfl rfl rfl rfl rfl rfl rfl rfl rfl rfl hLP2) (P3 rfl rfl rfl hHP2)
   ·exact na rfl info34 (C1 false 0) fun q13 => tj [0,1,2,3,4,5,6,7,8,9,10] (hN142 (q13, z401, z402)) (U11 rfl rfl rfl rfl rfl rfl rfl rfl rfl rfl rfl hLP2) (P3 rfl rfl rfl hHP2)
   exact na rfl info34 (C1 false 0) fun q16 => tj [1,2,0,3,4,5,6,7,8,9,10] (hN145 (z401, z402, q16)) (U11 rfl rfl rfl rfl rfl rfl rfl rfl rfl rfl rfl hLP2) (P3 rfl rfl rfl hHP2)
  intro hN102
  refine an 11 25 669439 (fun (v97 : A2) => ⟨115, [], (14, Vp v97.1) :: (16, Vp v97.2) :: (34, S12) :: (37, S16) :: (38, S14) :: (39, S14) :: (41, S13) :: (42, S15) :: (44, S14) :: (45, S15) :: LP2, Ur v97.1 34 (C1 false 0) :: Ur v97.2 34 (C1 false 0) :: HP2⟩) ?_ ?_
  ·rintro ⟨z403, z404⟩
   refine al4 8 15 16 18 (by kernel_rfl) ?_ ?_ ?_ ?_
   ·exact no rfl (oz (ent_fn' Try.func25 isn25 rfl rfl) c9) fun _ => tj [0,1,2,3,4,5,6,7,8,9] (hN134 (z403, z404)) (U9 rfl rfl rfl rfl rfl rfl rfl rfl rfl hLP2) (P2 rfl rfl hHP2)
   ·exact na rfl info34 (C1 false 0) fun q12 => tj [0,1,2,3,4,5,6,7,8,9,10] (hN140 (q12, z403, z404)) (U11 rfl rfl rfl rfl rfl rfl rfl rfl rfl rfl rfl hLP2) (P3 rfl rfl rfl hHP2)
   ·exact na rfl info34 (C1 false 0) fun q13 => tj [0,1,2,3,4,5,6,7,8,9,10] (hN143 (q13, z403, z404)) (U11 rfl rfl rfl rfl rfl rfl rfl rfl rfl rfl rfl hLP2) (P3 rfl rfl rfl hHP2)
   exact na rfl info34 (C1 false 0) fun q15 => tj [1,0,2,3,4,5,6,7,8,9,10] (hN145 (z403, q15, z404)) (U11 rfl rfl rfl rfl rfl rfl rfl rfl rfl rfl rfl hLP2) (P3 rfl rfl rfl hHP2)
  intro hN103
  refine an 11 25 800511 (fun (v98 : A2) => ⟨115, [], (15, Vp v98.1) :: (16, Vp v98.2) :: (34, S12) :: (37, S16) :: (38, S14) :: (39, S14) :: (41, S13) :: (42, S15) :: (44, S14) :: (45, S15) :: LP2, Ur v98.1 34 (C1 false 0) :: Ur v98.2 34 (C1 false 0) :: HP2⟩) ?_ ?_
  ·rintro ⟨z405, z406⟩
   refine al4 8 15 16 17 (by kernel_rfl) ?_ ?_ ?_ ?_
   ·exact no rfl (oz (ent_fn' Try.func25 isn25 rfl rfl) c9) fun _ => tj [0,1,2,3,4,5,6,7,8,9] (hN135 (z405, z406)) (U9 rfl rfl rfl rfl rfl rfl rfl rfl rfl hLP2) (P2 rfl rfl hHP2)
   ·exact na rfl info34 (C1 false 0) fun q12 => tj [0,1,2,3,4,5,6,7,8,9,10] (hN141 (q12, z405, z406)) (U11 rfl rfl rfl rfl rfl rfl rfl rfl rfl rfl rfl hLP2) (P3 rfl rfl rfl hHP2)
   ·exact na rfl info34 (C1 false 0) fun q13 => tj [0,1,2,3,4,5,6,7,8,9,10] (hN144 (q13, z405, z406)) (U11 rfl rfl rfl rfl rfl rfl rfl rfl rfl rfl rfl hLP2) (P3 rfl rfl rfl hHP2)
   exact na rfl info34 (C1 false 0) fun q14 => tj [0,1,2,3,4,5,6,7,8,9,10] (hN145 (q14, z405, z406)) (U11 rfl rfl rfl rfl rfl rfl rfl rfl rfl rfl rfl hLP2) (P3 rfl rfl rfl hHP2)
  intro hN104
  refine an 11 25 243423 (fun (v99 : A3) => ⟨115, [], (12, Vp v99.1) :: (13, Vp v99.2.1) :: (14, Vp v99.2.2) :: (34, S12) :: (35, S13) :: (36, S14) :: (38, S14) :: (39, S14) :: (41, S13) :: (42, S15) :: (44, S14) :: (45, S15) :: LP2, Ur v99.1 34 (C1 false 0) :: Ur v99.2.1 34 (C1 false 0) :: Ur v99.2.2 34 (C1 false 0) :: HP2⟩) ?_ ?_
  ·rintro ⟨z407, z408, z409⟩
   refine al3 5 18 19 (by kernel_rfl) ?_ ?_ ?_
   ·exact no rfl (oz (ent_fn' Try.func25 isn25 rfl rfl) c8) fun _ => tj [0,1,2,3,4,5,6,7,8,9,10] (hN136 (z407, z408, z409)) (U11 rfl rfl rfl rfl rfl rfl rfl rfl rfl rfl rfl hLP2) (P3 rfl rfl rfl hHP2)
   ·exact na rfl info34 (C1 false 0) fun q15 => tj [1,2,3,0,4,5,6,7,8,9,10,11] (hN146 (z407, z408, z409, q15)) (uc rfl (U12 rfl rfl rfl rfl rfl rfl rfl rfl rfl rfl rfl rfl hLP2)) (P4 rfl rfl rfl rfl hHP2)
   exact na rfl info34 (C1 false 0) fun q16 => tj [1,2,3,0,4,5,6,7,8,9,10,11] (hN147 (z407, z408, z409, q16)) (uc rfl (U12 rfl rfl rfl rfl rfl rfl rfl rfl rfl rfl rfl rfl hLP2)) (P4 rfl rfl rfl rfl hHP2)
  intro hN105
  refine an 11 25 374495 (fun (v100 : A3) => ⟨115, [], (12, Vp v100.1) :: (13, Vp v100.2.1) :: (15, Vp v100.2.2) :: (34, S12) :: (35, S13) :: (36, S14) :: (38, S14) :: (39, S14) :: (41, S13) :: (42, S15) :: (44, S14) :: (45, S15) :: LP2, Ur v100.1 34 (C1 false 0) :: Ur v100.2.1 34 (C1 false 0) :: Ur v100.2.2 34 (C1 false 0) :: HP2⟩) ?_ ?_
  ·rintro ⟨z410, z411, z412⟩
   refine al3 5 17 19 (by kernel_rfl) ?_ ?_ ?_
   ·exact no rfl (oz (ent_fn' Try.func25 isn25 rfl rfl) c8) fun _ => tj [0,1,2,3,4,5,6,7,8,9,10] (hN137 (z410, z411, z412)) (U11 rfl rfl rfl rfl rfl rfl rfl rfl rfl rfl rfl hLP2) (P3 rfl rfl rfl hHP2)
   ·exact na rfl info34 (C1 false 0) fun q14 => tj [1,2,0,3,4,5,6,7,8,9,10,11] (hN146 (z410, z411, q14, z412)) (uc rfl (U12 rfl rfl rfl rfl rfl rfl rfl rfl rfl rfl rfl rfl hLP2)) (P4 rfl rfl rfl rfl hHP2)
   exact na rfl info34 (C1 false 0) fun q16 => tj [1,2,3,0,4,5,6,7,8,9,10,11] (hN148 (z410, z411, z412, q16)) (uc rfl (U12 rfl rfl rfl rfl rfl rfl rfl rfl rfl rfl rfl rfl hLP2)) (P4 rfl rfl rfl rfl hHP2)
  intro hN106
  refine an 11 25 636639 (fun (v101 : A3) => ⟨115, [], (12, Vp v101.1) :: (13, Vp v101.2.1) :: (16, Vp v101.2.2) :: (34, S12) :: (35, S13) :: (36, S14) :: (38, S14) :: (39, S14) :: (41, S13) :: (42, S15) :: (44, S14) :: (45, S15) :: LP2, Ur v101.1 34 (C1 false 0) :: Ur v101.2.1 34 (C1 false 0) :: Ur v101.2.2 34 (C1 false 0) :: HP2⟩) ?_ ?_
  ·rintro ⟨z413, z414, z415⟩
   refine al3 5 17 18 (by kernel_rfl) ?_ ?_ ?_
   ·exact no rfl (oz (ent_fn' Try.func25 isn25 rfl rfl) c8) fun _ => tj [0,1,2,3,4,5,6,7,8,9,10] (hN138 (z413, z414, z415)) (U11 rfl rfl rfl rfl rfl rfl rfl rfl rfl rfl rfl hLP2) (P3 rfl rfl rfl hHP2)
   ·exact na rfl info34 (C1 false 0) fun q14 => tj [1,2,0,3,4,5,6,7,8,9,10,11] (hN147 (z413, z414, q14, z415)) (uc rfl (U12 rfl rfl rfl rfl rfl rfl rfl rfl rfl rfl rfl rfl hLP2)) (P4 rfl rfl rfl rfl hHP2)
   exact na rfl info34 (C1 false 0) fun q15 => tj [1,2,0,3,4,5,6,7,8,9,10,11] (hN148 (z413, z414, q15, z415)) (uc rfl (U12 rfl rfl rfl rfl rfl rfl rfl rfl rfl rfl rfl rfl hLP2)) (P4 rfl rfl rfl rfl hHP2)
  intro hN107
  refine an 11 25 440031 (fun (v102 : A3) => ⟨115, [], (12, Vp v102.1) :: (14, Vp v102.2.1) :: (15, Vp v102.2.2) :: (34, S12) :: (35, S13) :: (36, S14) :: (38, S14) :: (39, S14) :: (41, S13) :: (42, S15) :: (44, S14) :: (45, S15) :: LP2, Ur v102.1 34 (C1 false 0) :: Ur v102.2.1 34 (C1 false 0) :: Ur v102.2.2 34 (C1 false 0) :: HP2⟩) ?_ ?_
  ·rintro ⟨z416, z417, z418⟩
   refine al3 5 16 19 (by kernel_rfl) ?_ ?_ ?_
   ·exact no rfl (oz (ent_fn' Try.func25 isn25 rfl rfl) c8) fun _ => tj [0,1,2,3,4,5,6,7,8,9,10] (hN139 (z416, z417, z418)) (U11 rfl rfl rfl rfl rfl rfl rfl rfl rfl rfl rfl hLP2) (P3 rfl rfl rfl hHP2)
   ·exact na rfl info34 (C1 false 0) fun q13 => tj [1,0,2,3,4,5,6,7,8,9,10,11] (hN146 (z416, q13, z417, z418)) (uc rfl (U12 rfl rfl rfl rfl rfl rfl rfl rfl rfl rfl rfl rfl hLP2)) (P4 rfl rfl rfl rfl hHP2)
   exact na rfl info34 (C1 false 0) fun q16 => tj [1,2,3,0,4,5,6,7,8,9,10,11] (hN149 (z416, z417, z418, q16)) (uc rfl (U12 rfl rfl rfl rfl rfl rfl rfl rfl rfl rfl rfl rfl hLP2)) (P4 rfl rfl rfl rfl hHP2)
  intro hN108
  refine an 11 25 702175 (fun (v103 : A3) => ⟨115, [], (12, Vp v103.1) :: (14, Vp v103.2.1) :: (16, Vp v103.2.2) :: (34, S12) :: (35, S13) :: (36, S14) :: (38, S14) :: (39, S14) :: (41, S13) :: (42, S15) :: (44, S14) :: (45, S15) :: LP2, Ur v103.1 34 (C1 false 0) :: Ur v103.2.1 34 (C1 false 0) :: Ur v103.2.2 34 (C1 false 0) :: HP2⟩) ?_ ?_
  ·rintro ⟨z419, z420, z421⟩
   refine al3 5 16 18 (by kernel_rfl) ?_ ?_ ?_
   ·exact no rfl (oz (ent_fn' Try.func25 isn25 rfl rfl) c8) fun _ => tj [0,1,2,3,4,5,6,7,8,9,10] (hN140 (z419, z420, z421)) (U11 rfl rfl rfl rfl rfl rfl rfl rfl rfl rfl rfl hLP2) (P3 rfl rfl rfl hHP2)
   ·exact na rfl info34 (C1 false 0) fun q13 => tj [1,0,2,3,4,5,6,7,8,9,10,11] (hN147 (z419, q13, z420, z421)) (uc rfl (U12 rfl rfl rfl rfl rfl rfl rfl rfl rfl rfl rfl rfl hLP2)) (P4 rfl rfl rfl rfl hHP2)
   exact na rfl info34 (C1 false 0) fun q15 => tj [1,2,0,3,4,5,6,7,8,9,10,11] (hN149 (z419, z420, q15, z421)) (uc rfl (U12 rfl rfl rfl rfl rfl rfl rfl rfl rfl rfl rfl rfl hLP2)) (P4 rfl rfl rfl rfl hHP2)
  intro hN109
  refine an 11 25 833247 (fun (v104 : A3) => ⟨115, [], (12, Vp v104.1) :: (15, Vp v104.2.1) :: (16, Vp v104.2.2) :: (34, S12) :: (35, S13) :: (36, S14) :: (38, S14) :: (39, S14) :: (41, S13) :: (42, S15) :: (44, S14) :: (45, S15) :: LP2, Ur v104.1 34 (C1 false 0) :: Ur v104.2.1 34 (C1 false 0) :: Ur v104.2.2 34 (C1 false 0) :: HP2⟩) ?_ ?_
  ·rintro ⟨z422, z423, z424⟩
   refine al3 5 16 17 (by kernel_rfl) ?_ ?_ ?_
   ·exact no rfl (oz (ent_fn' Try.func25 isn25 rfl rfl) c8) fun _ => tj [0,1,2,3,4,5,6,7,8,9,10] (hN141 (z422, z423, z424)) (U11 rfl rfl rfl rfl rfl rfl rfl rfl rfl rfl rfl hLP2) (P3 rfl rfl rfl hHP2)
   ·exact na rfl info34 (C1 false 0) fun q13 => tj [1,0,2,3,4,5,6,7,8,9,10,11] (hN148 (z422, q13, z423, z424)) (uc rfl (U12 rfl rfl rfl rfl rfl rfl rfl rfl rfl rfl rfl rfl hLP2)) (P4 rfl rfl rfl rfl hHP2)
   exact na rfl info34 (C1 false 0) fun q14 => tj [1,0,2,3,4,5,6,7,8,9,10,11] (hN149 (z422, q14, z423, z424)) (uc rfl (U12 rfl rfl rfl rfl rfl rfl rfl rfl rfl rfl rfl rfl hLP2)) (P4 rfl rfl rfl rfl hHP2)
  intro hN110
  refine an 11 25 472799 (fun (v105 : A3) => ⟨115, [], (13, Vp v105.1) :: (14, Vp v105.2.1) :: (15, Vp v105.2.2) :: (34, S12) :: (35, S13) :: (36, S14) :: (38, S14) :: (39, S14) :: (41, S13) :: (42, S15) :: (44, S14) :: (45, S15) :: LP2, Ur v105.1 34 (C1 false 0) :: Ur v105.2.1 34 (C1 false 0) :: Ur v105.2.2 34 (C1 false 0) :: HP2⟩) ?_ ?_
  ·rintro ⟨z425, z426, z427⟩
   refine al3 5 15 19 (by kernel_rfl) ?_ ?_ ?_
   ·exact no rfl (oz (ent_fn' Try.func25 isn25 rfl rfl) c8) fun _ => tj [0,1,2,3,4,5,6,7,8,9,10] (hN142 (z425, z426, z427)) (U11 rfl rfl rfl rfl rfl rfl rfl rfl rfl rfl rfl hLP2) (P3 rfl rfl rfl hHP2)
   ·exact na rfl info34 (C1 false 0) fun q12 => tj [0,1,2,3,4,5,6,7,8,9,10,11] (hN146 (q12, z425, z426, z427)) (uc rfl (U12 rfl rfl rfl rfl rfl rfl rfl rfl rfl rfl rfl rfl hLP2)) (P4 rfl rfl rfl rfl hHP2)
   exact na rfl info34 (C1 false 0) fun q16 => tj [1,2,3,0,4,5,6,7,8,9,10,11] (hN150 (z425, z426, z427, q16)) (uc rfl (U12 rfl rfl rfl rfl rfl rfl rfl rfl rfl rfl rfl rfl hLP2)) (P4 rfl rfl rfl rfl hHP2)
  intro hN111
  refine an 11 25 734943 (fun (v106 : A3) => ⟨115, [], (13, Vp v106.1) :: (14, Vp v106.2.1) :: (16, Vp v106.2.2) :: (34, S12) :: (35, S13) :: (36, S14) :: (38, S14) :: (39, S14) :: (41, S13) :: (42, S15) :: (44, S14) :: (45, S15) :: LP2, Ur v106.1 34 (C1 false 0) :: Ur v106.2.1 34 (C1 false 0) :: Ur v106.2.2 34 (C1 false 0) :: HP2⟩) ?_ ?_
  ·rintro ⟨z428, z429, z430⟩
   refine al3 5 15 18 (by kernel_rfl) ?_ ?_ ?_
   ·exact no rfl (oz (ent_fn' Try.func25 isn25 rfl rfl) c8) fun _ => tj [0,1,2,3,4,5,6,7,8,9,10] (hN143 (z428, z429, z430)) (U11 rfl rfl rfl rfl rfl rfl rfl rfl rfl rfl rfl hLP2) (P3 rfl rfl rfl hHP2)
   ·exact na rfl info34 (C1 false 0) fun q12 => tj [0,1,2,3,4,5,6,7,8,9,10,11] (hN147 (q12, z428, z429, z430)) (uc rfl (U12 rfl rfl rfl rfl rfl rfl rfl rfl rfl rfl rfl rfl hLP2)) (P4 rfl rfl rfl rfl hHP2)
   exact na rfl info34 (C1 false 0) fun q15 => tj [1,2,0,3,4,5,6,7,8,9,10,11] (hN150 (z428, z429, q15, z430)) (uc rfl (U12 rfl rfl rfl rfl rfl rfl rfl rfl rfl rfl rfl rfl hLP2)) (P4 rfl rfl rfl rfl hHP2)
  intro hN112
  refine an 11 25 866015 (fun (v107 : A3) => ⟨115, [], (13, Vp v107.1) :: (15, Vp v107.2.1) :: (16, Vp v107.2.2) :: (34, S12) :: (35, S13) :: (36, S14) :: (38, S14) :: (39, S14) :: (41, S13) :: (42, S15) :: (44, S14) :: (45, S15) :: LP2, Ur v107.1 34 (C1 false 0) :: Ur v107.2.1 34 (C1 false 0) :: Ur v107.2.2 34 (C1 false 0) :: HP2⟩) ?_ ?_
  ·rintro ⟨z431, z432, z433⟩
   refine al3 5 15 17 (by kernel_rfl) ?_ ?_ ?_
   ·exact no rfl (oz (ent_fn' Try.func25 isn25 rfl rfl) c8) fun _ => tj [0,1,2,3,4,5,6,7,8,9,10] (hN144 (z431, z432, z433)) (U11 rfl rfl rfl rfl rfl rfl rfl rfl rfl rfl rfl hLP2) (P3 rfl rfl rfl hHP2)
   ·exact na rfl info34 (C1 false 0) fun q12 => tj [0,1,2,3,4,5,6,7,8,9,10,11] (hN148 (q12, z431, z432, z433)) (uc rfl (U12 rfl rfl rfl rfl rfl rfl rfl rfl rfl rfl rfl rfl hLP2)) (P4 rfl rfl rfl rfl hHP2)
   exact na rfl info34 (C1 false 0) fun q14 => tj [1,0,2,3,4,5,6,7,8,9,10,11] (hN150 (z431, q14, z432, z433)) (uc rfl (U12 rfl rfl rfl rfl rfl rfl rfl rfl rfl rfl rfl rfl hLP2)) (P4 rfl rfl rfl rfl hHP2)
  intro hN113
  refine an 11 25 931551 (fun (v108 : A3) => ⟨115, [], (14, Vp v108.1) :: (15, Vp v108.2.1) :: (16, Vp v108.2.2) :: (34, S12) :: (35, S13) :: (36, S14) :: (38, S14) :: (39, S14) :: (41, S13) :: (42, S15) :: (44, S14) :: (45, S15) :: LP2, Ur v108.1 34 (C1 false 0) :: Ur v108.2.1 34 (C1 false 0) :: Ur v108.2.2 34 (C1 false 0) :: HP2⟩) ?_ ?_
  ·rintro ⟨z434, z435, z436⟩
   refine al3 5 15 16 (by kernel_rfl) ?_ ?_ ?_
   ·exact no rfl (oz (ent_fn' Try.func25 isn25 rfl rfl) c8) fun _ => tj [0,1,2,3,4,5,6,7,8,9,10] (hN145 (z434, z435, z436)) (U11 rfl rfl rfl rfl rfl rfl rfl rfl rfl rfl rfl hLP2) (P3 rfl rfl rfl hHP2)
   ·exact na rfl info34 (C1 false 0) fun q12 => tj [0,1,2,3,4,5,6,7,8,9,10,11] (hN149 (q12, z434, z435, z436)) (uc rfl (U12 rfl rfl rfl rfl rfl rfl rfl rfl rfl rfl rfl rfl hLP2)) (P4 rfl rfl rfl rfl hHP2)
   exact na rfl info34 (C1 false 0) fun q13 => tj [0,1,2,3,4,5,6,7,8,9,10,11] (hN150 (q13, z434, z435, z436)) (uc rfl (U12 rfl rfl rfl rfl rfl rfl rfl rfl rfl rfl rfl rfl hLP2)) (P4 rfl rfl rfl rfl hHP2)
  intro hN114
  refine an 11 25 505563 (fun (v109 : A4) => ⟨115, [], (12, Vp v109.1) :: (13, Vp v109.2.1) :: (14, Vp v109.2.2.1) :: (15, Vp v109.2.2.2) :: (32, S13) :: (33, S13) :: (35, S13) :: (36, S14) :: (38, S14) :: (39, S14) :: (41, S13) :: (42, S15) :: (44, S14) :: (45, S15) :: LP2, Ur v109.1 34 (C1 false 0) :: Ur v109.2.1 34 (C1 false 0) :: Ur v109.2.2.1 34 (C1 false 0) :: Ur v109.2.2.2 34 (C1 false 0) :: HP2⟩) ?_ ?_
  ·rintro ⟨z437, z438, z439, z440⟩
   refine al2 2 19 (by kernel_rfl) ?_ ?_
   ·exact no rfl (oz (ent_fn' Try.func25 isn25 rfl rfl) c7) fun _ => tj [0,1,2,3,4,5,6,7,8,9,10,11] (hN146 (z437, z438, z439, z440)) (uc rfl (U12 rfl rfl rfl rfl rfl rfl rfl rfl rfl rfl rfl rfl hLP2)) (P4 rfl rfl rfl rfl hHP2)
   exact na rfl info34 (C1 false 0) fun q16 => tj [1,2,3,4,0,5,6,7,8,9,10,11,12] (hN151 (z437, z438, z439, z440, q16)) (uc rfl (uc rfl (uc rfl (U12 rfl rfl rfl rfl rfl rfl rfl rfl rfl rfl rfl rfl hLP2)))) (P5 rfl rfl rfl rfl rfl hHP2)
  intro hN115
  refine an 11 25 767707 (fun (v110 : A4) => ⟨115, [], (12, Vp v110.1) :: (13, Vp v110.2.1) :: (14, Vp v110.2.2.1) :: (16, Vp v110.2.2.2) :: (32, S13) :: (33, S13) :: (35, S13) :: (36, S14) :: (38, S14) :: (39, S14) :: (41, S13) :: (42, S15) :: (44, S14) :: (45, S15) :: LP2, Ur v110.1 34 (C1 false 0) :: Ur v110.2.1 34 (C1 false 0) :: Ur v110.2.2.1 34 (C1 false 0) :: Ur v110.2.2.2 34 (C1 false 0) :: HP2⟩) ?_ ?_
  ·rintro ⟨z441, z442, z443, z444⟩
   refine al2 2 18 (by kernel_rfl) ?_ ?_
   ·exact no rfl (oz (ent_fn' Try.func25 isn25 rfl rfl) c7) fun _ => tj [0,1,2,3,4,5,6,7,8,9,10,11] (hN147 (z441, z442, z443, z444)) (uc rfl (U12 rfl rfl rfl rfl rfl rfl rfl rfl rfl rfl rfl rfl hLP2)) (P4 rfl rfl rfl rfl hHP2)
   exact na rfl info34 (C1 false 0) fun q15 => tj [1,2,3,0,4,5,6,7,8,9,10,11,12] (hN151 (z441, z442, z443, q15, z444)) (uc rfl (uc rfl (uc rfl (U12 rfl rfl rfl rfl rfl rfl rfl rfl rfl rfl rfl rfl hLP2)))) (P5 rfl rfl rfl rfl rfl hHP2)
  intro hN116
  refine an 11 25 898779 (fun (v111 : A4) => ⟨115, [], (12, Vp v111.1) :: (13, Vp v111.2.1) :: (15, Vp v111.2.2.1) :: (16, Vp v111.2.2.2) :: (32, S13) :: (33, S13) :: (35, S13) :: (36, S14) :: (38, S14) :: (39, S14) :: (41, S13) :: (42, S15) :: (44, S14) :: (45, S15) :: LP2, Ur v111.1 34 (C1 false 0) :: Ur v111.2.1 34 (C1 false 0) :: Ur v111.2.2.1 34 (C1 false 0) :: Ur v111.2.2.2 34 (C1 false 0) :: HP2⟩) ?_ ?_
  ·rintro ⟨z445, z446, z447, z448⟩
   refine al2 2 17 (by kernel_rfl) ?_ ?_
   ·exact no rfl (oz (ent_fn' Try.func25 isn25 rfl rfl) c7) fun _ => tj [0,1,2,3,4,5,6,7,8,9,10,11] (hN148 (z445, z446, z447, z448)) (uc rfl (U12 rfl rfl rfl rfl rfl rfl rfl rfl rfl rfl rfl rfl hLP2)) (P4 rfl rfl rfl rfl hHP2)
   exact na rfl info34 (C1 false 0) fun q14 => tj [1,2,0,3,4,5,6,7,8,9,10,11,12] (hN151 (z445, z446, q14, z447, z448)) (uc rfl (uc rfl (uc rfl (U12 rfl rfl rfl rfl rfl rfl rfl rfl rfl rfl rfl rfl hLP2)))) (P5 rfl rfl rfl rfl rfl hHP2)
  intro hN117
  refine an 11 25 964315 (fun (v112 : A4) => ⟨115, [], (12, Vp v112.1) :: (14, Vp v112.2.1) :: (15, Vp v112.2.2.1) :: (16, Vp v112.2.2.2) :: (32, S13) :: (33, S13) :: (35, S13) :: (36, S14) :: (38, S14) :: (39, S14) :: (41, S13) :: (42, S15) :: (44, S14) :: (45, S15) :: LP2, Ur v112.1 34 (C1 false 0) :: Ur v112.2.1 34 (C1 false 0) :: Ur v112.2.2.1 34 (C1 false 0) :: Ur v112.2.2.2 34 (C1 false 0) :: HP2⟩) ?_ ?_
  ·rintro ⟨z449, z450, z451, z452⟩
   refine al2 2 16 (by kernel_rfl) ?_ ?_
   ·exact no rfl (oz (ent_fn' Try.func25 isn25 rfl rfl) c7) fun _ => tj [0,1,2,3,4,5,6,7,8,9,10,11] (hN149 (z449, z450, z451, z452)) (uc rfl (U12 rfl rfl rfl rfl rfl rfl rfl rfl rfl rfl rfl rfl hLP2)) (P4 rfl rfl rfl rfl hHP2)
   exact na rfl info34 (C1 false 0) fun q13 => tj [1,0,2,3,4,5,6,7,8,9,10,11,12] (hN151 (z449, q13, z450, z451, z452)) (uc rfl (uc rfl (uc rfl (U12 rfl rfl rfl rfl rfl rfl rfl rfl rfl rfl rfl rfl hLP2)))) (P5 rfl rfl rfl rfl rfl hHP2)
  intro hN118
  refine an 11 25 997083 (fun (v113 : A4) => ⟨115, [], (13, Vp v113.1) :: (14, Vp v113.2.1) :: (15, Vp v113.2.2.1) :: (16, Vp v113.2.2.2) :: (32, S13) :: (33, S13) :: (35, S13) :: (36, S14) :: (38, S14) :: (39, S14) :: (41, S13) :: (42, S15) :: (44, S14) :: (45, S15) :: LP2, Ur v113.1 34 (C1 false 0) :: Ur v113.2.1 34 (C1 false 0) :: Ur v113.2.2.1 34 (C1 false 0) :: Ur v113.2.2.2 34 (C1 false 0) :: HP2⟩) ?_ ?_
  ·rintro ⟨z453, z454, z455, z456⟩
   refine al2 2 15 (by kernel_rfl) ?_ ?_
   ·exact no rfl (oz (ent_fn' Try.func25 isn25 rfl rfl) c7) fun _ => tj [0,1,2,3,4,5,6,7,8,9,10,11] (hN150 (z453, z454, z455, z456)) (uc rfl (U12 rfl rfl rfl rfl rfl rfl rfl rfl rfl rfl rfl rfl hLP2)) (P4 rfl rfl rfl rfl hHP2)
   exact na rfl info34 (C1 false 0) fun q12 => tj [0,1,2,3,4,5,6,7,8,9,10,11,12] (hN151 (q12, z453, z454, z455, z456)) (uc rfl (uc rfl (uc rfl (U12 rfl rfl rfl rfl rfl rfl rfl rfl rfl rfl rfl rfl hLP2)))) (P5 rfl rfl rfl rfl rfl hHP2)
  intro hN119
  refine an 12 25 14335 (fun (v57 : Unit) => ⟨115, [], (34, S12) :: (37, S16) :: (40, S17) :: (41, S13) :: (42, S15) :: (44, S14) :: (45, S15) :: LP2, HP2⟩) ?_ ?_
  ·rintro ⟨⟩
   refine al6 11 15 16 17 18 19 (by kernel_rfl) ?_ ?_ ?_ ?_ ?_ ?_
   ·exact no rfl (oz (ent_fn' Try.func25 isn25 rfl rfl) c10) fun _ => tj [0,1,2,3,4,5,6,7] (hN89 ()) (U6 rfl rfl rfl rfl rfl rfl hLP2) hHP2
   ·exact na rfl info34 (C1 false 0) fun q12 => tj [0,1,2,3,4,5,6,7,8] (hN90 q12) (U8 rfl rfl rfl rfl rfl rfl rfl rfl hLP2) (P1 rfl hHP2)
   ·exact na rfl info34 (C1 false 0) fun q13 => tj [0,1,2,3,4,5,6,7,8] (hN91 q13) (U8 rfl rfl rfl rfl rfl rfl rfl rfl hLP2) (P1 rfl hHP2)
   ·exact na rfl info34 (C1 false 0) fun q14 => tj [0,1,2,3,4,5,6,7,8] (hN92 q14) (U8 rfl rfl rfl rfl rfl rfl rfl rfl hLP2) (P1 rfl hHP2)
   ·exact na rfl info34 (C1 false 0) fun q15 => tj [0,1,2,3,4,5,6,7,8] (hN93 q15) (U8 rfl rfl rfl rfl rfl rfl rfl rfl hLP2) (P1 rfl hHP2)
   exact na rfl info34 (C1 false 0) fun q16 => tj [0,1,2,3,4,5,6,7,8] (hN94 q16) (U8 rfl rfl rfl rfl rfl rfl rfl rfl hLP2) (P1 rfl hHP2)
  intro hN63
  refine an 12 25 46847 (fun (v58 : Addr) => ⟨115, [], (12, Vp v58) :: (34, S12) :: (37, S16) :: (38, S14) :: (39, S14) :: (41, S13) :: (42, S15) :: (44, S14) :: (45, S15) :: LP2, Ur v58 34 (C1 false 0) :: HP2⟩) ?_ ?_
  ·rintro q9088
   refine al5 8 16 17 18 19 (by kernel_rfl) ?_ ?_ ?_ ?_ ?_
   ·exact no rfl (oz (ent_fn' Try.func25 isn25 rfl rfl) c9) fun _ => tj [0,1,2,3,4,5,6,7,8] (hN90 q9088) (U8 rfl rfl rfl rfl rfl rfl rfl rfl hLP2) (P1 rfl hHP2)
   ·exact na rfl info34 (C1 false 0) fun q13 => tj [1,0,2,3,4,5,6,7,8,9] (hN95 (q9088, q13)) (U10 rfl rfl rfl rfl rfl rfl rfl rfl rfl rfl hLP2) (P2 rfl rfl hHP2)
   ·exact na rfl info34 (C1 false 0) fun q14 => tj [1,0,2,3,4,5,6,7,8,9] (hN96 (q9088, q14)) (U10 rfl rfl rfl rfl rfl rfl rfl rfl rfl rfl hLP2) (P2 rfl rfl hHP2)
   ·exact na rfl info34 (C1 false 0) fun q15 => tj [1,0,2,3,4,5,6,7,8,9] (hN97 (q9088, q15)) (U10 rfl rfl rfl rfl rfl rfl rfl rfl rfl rfl hLP2) (P2 rfl rfl hHP2)
   exact na rfl info34 (C1 false 0) fun q16 => tj [1,0,2,3,4,5,6,7,8,9] (hN98 (q9088, q16)) (U10 rfl rfl rfl rfl rfl rfl rfl rfl rfl rfl hLP2) (P2 rfl rfl hHP2)
  intro hN64
  refine an 12 25 79615 (fun (v59 : Addr) => ⟨115, [], (13, Vp v59) :: (34, S12) :: (37, S16) :: (38, S14) :: (39, S14) :: (41, S13) :: (42, S15) :: (44, S14) :: (45, S15) :: LP2, Ur v59 34 (C1 false 0) :: HP2⟩) ?_ ?_
  ·rintro q9089
   refine al5 8 15 17 18 19 (by kernel_rfl) ?_ ?_ ?_ ?_ ?_
   ·exact no rfl (oz (ent_fn' Try.func25 isn25 rfl rfl) c9) fun _ => tj [0,1,2,3,4,5,6,7,8] (hN91 q9089) (U8 rfl rfl rfl rfl rfl rfl rfl rfl hLP2) (P1 rfl hHP2)
   ·exact na rfl info34 (C1 false 0) fun q12 => tj [0,1,2,3,4,5,6,7,8,9] (hN95 (q12, q9089)) (U10 rfl rfl rfl rfl rfl rfl rfl rfl rfl rfl hLP2) (P2 rfl rfl hHP2)
   ·exact na rfl info34 (C1 false 0) fun q14 => tj [1,0,2,3,4,5,6,7,8,9] (hN99 (q9089, q14)) (U10 rfl rfl rfl rfl rfl rfl rfl rfl rfl rfl hLP2) (P2 rfl rfl hHP2)
   ·exact na rfl info34 (C1 false 0) fun q15 => tj [1,0,2,3,4,5,6,7,8,9] (hN100 (q9089, q15)) (U10 rfl rfl rfl rfl rfl rfl rfl rfl rfl rfl hLP2) (P2 rfl rfl hHP2)
   exact na rfl info34 (C1 false 0) fun q16 => tj [1,0,2,3,4,5,6,7,8,9] (hN101 (q9089, q16)) (U10 rfl rfl rfl rfl rfl rfl rfl rfl rfl rfl hLP2) (P2 rfl rfl hHP2)
  intro hN65
  refine an 12 25 145151 (fun (v60 : Addr) => ⟨115, [], (14, Vp v60) :: (34, S12) :: (37, S16) :: (38, S14) :: (39, S14) :: (41, S13) :: (42, S15) :: (44, S14) :: (45, S15) :: LP2, Ur v60 34 (C1 false 0) :: HP2⟩) ?_ ?_
  ·rintro q9090
   refine al5 8 15 16 18 19 (by kernel_rfl) ?_ ?_ ?_ ?_ ?_
   ·exact no rfl (oz (ent_fn' Try.func25 isn25 rfl rfl) c9) fun _ => tj [0,1,2,3,4,5,6,7,8] (hN92 q9090) (U8 rfl rfl rfl rfl rfl rfl rfl rfl hLP2) (P1 rfl hHP2)
   ·exact na rfl info34 (C1 false 0) fun q12 => tj [0,1,2,3,4,5,6,7,8,9] (hN96 (q12, q9090)) (U10 rfl rfl rfl rfl rfl rfl rfl rfl rfl rfl hLP2) (P2 rfl rfl hHP2)
   ·exact na rfl info34 (C1 false 0) fun q13 => tj [0,1,2,3,4,5,6,7,8,9] (hN99 (q13, q9090)) (U10 rfl rfl rfl rfl rfl rfl rfl rfl rfl rfl hLP2) (P2 rfl rfl hHP2)
   ·exact na rfl info34 (C1 false 0) fun q15 => tj [1,0,2,3,4,5,6,7,8,9] (hN102 (q9090, q15)) (U10 rfl rfl rfl rfl rfl rfl rfl rfl rfl rfl hLP2) (P2 rfl rfl hHP2)
   exact na rfl info34 (C1 false 0) fun q16 => tj [1,0,2,3,4,5,6,7,8,9] (hN103 (q9090, q16)) (U10 rfl rfl rfl rfl rfl rfl rfl rfl rfl rfl hLP2) (P2 rfl rfl hHP2)
  intro hN66
  refine an 12 25 276223 (fun (v61 : Addr) => ⟨115, [], (15, Vp v61) :: (34, S12) :: (37, S16) :: (38, S14) :: (39, S14) :: (41, S13) :: (42, S15) :: (44, S14) :: (45, S15) :: LP2, Ur v61 34 (C1 false 0) :: HP2⟩) ?_ ?_
  ·rintro q9091
   refine al5 8 15 16 17 19 (by kernel_rfl) ?_ ?_ ?_ ?_ ?_
   ·exact no rfl (oz (ent_fn' Try.func25 isn25 rfl rfl) c9) fun _ => tj [0,1,2,3,4,5,6,7,8] (hN93 q9091) (U8 rfl rfl rfl rfl rfl rfl rfl rfl hLP2) (P1 rfl hHP2)
   ·exact na rfl info34 (C1 false 0) fun q12 => tj [0,1,2,3,4,5,6,7,8,9] (hN97 (q12, q9091)) (U10 rfl rfl rfl rfl rfl rfl rfl rfl rfl rfl hLP2) (P2 rfl rfl hHP2)
   ·exact na rfl info34 (C1 false 0) fun q13 => tj [0,1,2,3,4,5,6,7,8,9] (hN100 (q13, q9091)) (U10 rfl rfl rfl rfl rfl rfl rfl rfl rfl rfl hLP2) (P2 rfl rfl hHP2)
   ·exact na rfl info34 (C1 false 0) fun q14 => tj [0,1,2,3,4,5,6,7,8,9] (hN102 (q14, q9091)) (U10 rfl rfl rfl rfl rfl rfl rfl rfl rfl rfl hLP2) (P2 rfl rfl hHP2)
   exact na rfl info34 (C1 false 0) fun q16 => tj [1,0,2,3,4,5,6,7,8,9] (hN104 (q9091, q16)) (U10 rfl rfl rfl rfl rfl rfl rfl rfl rfl rfl hLP2) (P2 rfl rfl hHP2)
  intro hN67
  refine an 12 25 538367 (fun (v62 : Addr) => ⟨115, [], (16, Vp v62) :: (34, S12) :: (37, S16) :: (38, S14) :: (39, S14) :: (41, S13) :: (42, S15) :: (44, S14) :: (45, S15) :: LP2, Ur v62 34 (C1 false 0) :: HP2⟩) ?_ ?_
  ·rintro q9092
   refine al5 8 15 16 17 18 (by kernel_rfl) ?_ ?_ ?_ ?_ ?_
   ·exact no rfl (oz (ent_fn' Try.func25 isn25 rfl rfl) c9) fun _ => tj [0,1,2,3,4,5,6,7,8] (hN94 q9092) (U8 rfl rfl rfl rfl rfl rfl rfl rfl hLP2) (P1 rfl hHP2)
   ·exact na rfl info34 (C1 false 0) fun q12 => tj [0,1,2,3,4,5,6,7,8,9] (hN98 (q12, q9092)) (U10 rfl rfl rfl rfl rfl rfl rfl rfl rfl rfl hLP2) (P2 rfl rfl hHP2)
   ·exact na rfl info34 (C1 false 0) fun q13 => tj [0,1,2,3,4,5,6,7,8,9] (hN101 (q13, q9092)) (U10 rfl rfl rfl rfl rfl rfl rfl rfl rfl rfl hLP2) (P2 rfl rfl hHP2)
   ·exact na rfl info34 (C1 false 0) fun q14 => tj [0,1,2,3,4,5,6,7,8,9] (hN103 (q14, q9092)) (U10 rfl rfl rfl rfl rfl rfl rfl rfl rfl rfl hLP2) (P2 rfl rfl hHP2)
   exact na rfl info34 (C1 false 0) fun q15 => tj [0,1,2,3,4,5,6,7,8,9] (hN104 (q15, q9092)) (U10 rfl rfl rfl rfl rfl rfl rfl rfl rfl rfl hLP2) (P2 rfl rfl hHP2)
  intro hN68
  refine an 12 25 112351 (fun (v63 : A2) => ⟨115, [], (12, Vp v63.1) :: (13, Vp v63.2) :: (34, S12) :: (35, S13) :: (36, S14) :: (38, S14) :: (39, S14) :: (41, S13) :: (42, S15) :: (44, S14) :: (45, S15) :: LP2, Ur v63.1 34 (C1 false 0) :: Ur v63.2 34 (C1 false 0) :: HP2⟩) ?_ ?_
  ·rintro ⟨q9093, q9094⟩
   refine al4 5 17 18 19 (by kernel_rfl) ?_ ?_ ?_ ?_
   ·exact no rfl (oz (ent_fn' Try.func25 isn25 rfl rfl) c8) fun _ => tj [0,1,2,3,4,5,6,7,8,9] (hN95 (q9093, q9094)) (U10 rfl rfl rfl rfl rfl rfl rfl rfl rfl rfl hLP2) (P2 rfl rfl hHP2)
   ·exact na rfl info34 (C1 false 0) fun q14 => tj [1,2,0,3,4,5,6,7,8,9,10] (hN105 (q9093, q9094, q14)) (U12 rfl rfl rfl rfl rfl rfl rfl rfl rfl rfl rfl rfl hLP2) (P3 rfl rfl rfl hHP2)
   ·exact na rfl info34 (C1 false 0) fun q15 => tj [1,2,0,3,4,5,6,7,8,9,10] (hN106 (q9093, q9094, q15)) (U12 rfl rfl rfl rfl rfl rfl rfl rfl rfl rfl rfl rfl hLP2) (P3 rfl rfl rfl hHP2)
   exact na rfl info34 (C1 false 0) fun q16 => tj [1,2,0,3,4,5,6,7,8,9,10] (hN107 (q9093, q9094, q16)) (U12 rfl rfl rfl rfl rfl rfl rfl rfl rfl rfl rfl rfl hLP2) (P3 rfl rfl rfl hHP2)
  intro hN69
  refine an 12 25 177887 (fun (v64 : A2) => ⟨115, [], (12, Vp v64.1) :: (14, Vp v64.2) :: (34, S12) :: (35, S13) :: (36, S14) :: (38, S14) :: (39, S14) :: (41, S13) :: (42, S15) :: (44, S14) :: (45, S15) :: LP2, Ur v64.1 34 (C1 false 0) :: Ur v64.2 34 (C1 false 0) :: HP2⟩) ?_ ?_
  ·rintro ⟨q9095, q9096⟩
   refine al4 5 16 18 19 (by kernel_rfl) ?_ ?_ ?_ ?_
   ·exact no rfl (oz (ent_fn' Try.func25 isn25 rfl rfl) c8) fun _ => tj [0,1,2,3,4,5,6,7,8,9] (hN96 (q9095, q9096)) (U10 rfl rfl rfl rfl rfl rfl rfl rfl rfl rfl hLP2) (P2 rfl rfl hHP2)
   ·exact na rfl info34 (C1 false 0) fun q13 => tj [1,0,2,3,4,5,6,7,8,9,10] (hN105 (q9095, q13, q9096)) (U12 rfl rfl rfl rfl rfl rfl rfl rfl rfl rfl rfl rfl hLP2) (P3 rfl rfl rfl hHP2)
   ·exact na rfl info34 (C1 false 0) fun q15 => tj [1,2,0,3,4,5,6,7,8,9,10] (hN108 (q9095, q9096, q15)) (U12 rfl rfl rfl rfl rfl rfl rfl rfl rfl rfl rfl rfl hLP2) (P3 rfl rfl rfl hHP2)
   exact na rfl info34 (C1 false 0) fun q16 => tj [1,2,0,3,4,5,6,7,8,9,10] (hN109 (q9095, q9096, q16)) (U12 rfl rfl rfl rfl rfl rfl rfl rfl rfl rfl rfl rfl hLP2) (P3 rfl rfl rfl hHP2)
  intro hN70
  refine an 12 25 308959 (fun (v65 : A2) => ⟨115, [], (12, Vp v65.1) :: (15, Vp v65.2) :: (34, S12) :: (35, S13) :: (36, S14) :: (38, S14) :: (39, S14) :: (41, S13) :: (42, S15) :: (44, S14) :: (45, S15) :: LP2, Ur v65.1 34 (C1 false 0) :: Ur v65.2 34 (C1 false 0) :: HP2⟩) ?_ ?_
  ·rintro ⟨q9097, q9098⟩
   refine al4 5 16 17 19 (by kernel_rfl) ?_ ?_ ?_ ?_
   ·exact no rfl (oz (ent_fn' Try.func25 isn25 rfl rfl) c8) fun _ => tj [0,1,2,3,4,5,6,7,8,9] (hN97 (q9097, q9098)) (U10 rfl rfl rfl rfl rfl rfl rfl rfl rfl rfl hLP2) (P2 rfl rfl hHP2)
   ·exact na rfl info34 (C1 false 0) fun q13 => tj [1,0,2,3,4,5,6,7,8,9,10] (hN106 (q9097, q13, q9098)) (U12 rfl rfl rfl rfl rfl rfl rfl rfl rfl rfl rfl rfl hLP2) (P3 rfl rfl rfl hHP2)
   ·exact na rfl info34 (C1 false 0) fun q14 => tj [1,0,2,3,4,5,6,7,8,9,10] (hN108 (q9097, q14, q9098)) (U12 rfl rfl rfl rfl rfl rfl rfl rfl rfl rfl rfl rfl hLP2) (P3 rfl rfl rfl hHP2)
   exact na rfl info34 (C1 false 0) fun q16 => tj [1,2,0,3,4,5,6,7,8,9,10] (hN110 (q9097, q9098, q16)) (U12 rfl rfl rfl rfl rfl rfl rfl rfl rfl rfl rfl rfl hLP2) (P3 rfl rfl rfl hHP2)
  intro hN71
  refine an 12 25 571103 (fun (v66 : A2) => ⟨115, [], (12, Vp v66.1) :: (16, Vp v66.2) :: (34, S12) :: (35, S13) :: (36, S14) :: (38, S14) :: (39, S14) :: (41, S13) :: (42, S15) :: (44, S14) :: (45, S15) :: LP2, Ur v66.1 34 (C1 false 0) :: Ur v66.2 34 (C1 false 0) :: HP2⟩) ?_ ?_
  ·rintro ⟨q9099, z457⟩
   refine al4 5 16 17 18 (by kernel_rfl) ?_ ?_ ?_ ?_
   ·exact no rfl (oz (ent_fn' Try.func25 isn25 rfl rfl) c8) fun _ => tj [0,1,2,3,4,5,6,7,8,9] (hN98 (q9099, z457)) (U10 rfl rfl rfl rfl rfl rfl rfl rfl rfl rfl hLP2) (P2 rfl rfl hHP2)
   ·exact na rfl info34 (C1 false 0) fun q13 => tj [1,0,2,3,4,5,6,7,8,9,10] (hN107 (q9099, q13, z457)) (U12 rfl rfl rfl rfl rfl rfl rfl rfl rfl rfl rfl rfl hLP2) (P3 rfl rfl rfl hHP2)
   ·exact na rfl info34 (C1 false 0) fun q14 => tj [1,0,2,3,4,5,6,7,8,9,10] (hN109 (q9099, q14, z457)) (U12 rfl rfl rfl rfl rfl rfl rfl rfl rfl rfl rfl rfl hLP2) (P3 rfl rfl rfl hHP2)
   exact na rfl info34 (C1 false 0) fun q15 => tj [1,0,2,3,4,5,6,7,8,9,10] (hN110 (q9099, q15, z457)) (U12 rfl rfl rfl rfl rfl rfl rfl rfl rfl rfl rfl rfl hLP2) (P3 rfl rfl rfl hHP2)
  intro hN72
  refine an 12 25 210655 (fun (v67 : A2) => ⟨115, [], (13, Vp v67.1) :: (14, Vp v67.2) :: (34, S12) :: (35, S13) :: (36, S14) :: (38, S14) :: (39, S14) :: (41, S13) :: (42, S15) :: (44, S14) :: (45, S15) :: LP2, Ur v67.1 34 (C1 false 0) :: Ur v67.2 34 (C1 false 0) :: HP2⟩) ?_ ?_
  ·rintro ⟨z458, z459⟩
   refine al4 5 15 18 19 (by kernel_rfl) ?_ ?_ ?_ ?_
   ·exact no rfl (oz (ent_fn' Try.func25 isn25 rfl rfl) c8) fun _ => tj [0,1,2,3,4,5,6,7,8,9] (hN99 (z458, z459)) (U10 rfl rfl rfl rfl rfl rfl rfl rfl rfl rfl hLP2) (P2 rfl rfl hHP2)
   ·exact na rfl info34 (C1 false 0) fun q12 => tj [0,1,2,3,4,5,6,7,8,9,10] (hN105 (q12, z458, z459)) (U12 rfl rfl rfl rfl rfl rfl rfl rfl rfl rfl rfl rfl hLP2) (P3 rfl rfl rfl hHP2)
   ·exact na rfl info34 (C1 false 0) fun q15 => tj [1,2,0,3,4,5,6,7,8,9,10] (hN111 (z458, z459, q15)) (U12 rfl rfl rfl rfl rfl rfl rfl rfl rfl rfl rfl rfl hLP2) (P3 rfl rfl rfl hHP2)
   exact na rfl info34 (C1 false 0) fun q16 => tj [1,2,0,3,4,5,6,7,8,9,10] (hN112 (z458, z459, q16)) (U12 rfl rfl rfl rfl rfl rfl rfl rfl rfl rfl rfl rfl hLP2) (P3 rfl rfl rfl hHP2)
  intro hN73
  refine an 12 25 341727 (fun (v68 : A2) => ⟨115, [], (13, Vp v68.1) :: (15, Vp v68.2) :: (34, S12) :: (35, S13) :: (36, S14) :: (38, S14) :: (39, S14) :: (41, S13) :: (42, S15) :: (44, S14) :: (45, S15) :: LP2, Ur v68.1 34 (C1 false 0) :: Ur v68.2 34 (C1 false 0) :: HP2⟩) ?_ ?_
  ·rintro ⟨z460, z461⟩
   refine al4 5 15 17 19 (by kernel_rfl) ?_ ?_ ?_ ?_
   ·exact no rfl (oz (ent_fn' Try.func25 isn25 rfl rfl) c8) fun _ => tj [0,1,2,3,4,5,6,7,8,9] (hN100 (z460, z461)) (U10 rfl rfl rfl rfl rfl rfl rfl rfl rfl rfl hLP2) (P2 rfl rfl hHP2)
   ·exact na rfl info34 (C1 false 0) fun q12 => tj [0,1,2,3,4,5,6,7,8,9,10] (hN106 (q12, z460, z461)) (U12 rfl rfl rfl rfl rfl rfl rfl rfl rfl rfl rfl rfl hLP2) (P3 rfl rfl rfl hHP2)
   ·exact na rfl info34 (C1 false 0) fun q14 => tj [1,0,2,3,4,5,6,7,8,9,10] (hN111 (z460, q14, z461)) (U12 rfl rfl rfl rfl rfl rfl rfl rfl rfl rfl rfl rfl hLP2) (P3 rfl rfl rfl hHP2)
   exact na rfl info34 (C1 false 0) fun q16 => tj [1,2,0,3,4,5,6,7,8,9,10] (hN113 (z460, z461, q16)) (U12 rfl rfl rfl rfl rfl rfl rfl rfl rfl rfl rfl rfl hLP2) (P3 rfl rfl rfl hHP2)
  intro hN74
  refine an 12 25 603871 (fun (v69 : A2) => ⟨115, [], (13, Vp v69.1) :: (16, Vp v69.2) :: (34, S12) :: (35, S13) :: (36, S14) :: (38, S14) :: (39, S14) :: (41, S13) :: (42, S15) :: (44, S14) :: (45, S15) :: LP2, Ur v69.1 34 (C1 false 0) :: Ur v69.2 34 (C1 false 0) :: HP2⟩) ?_ ?_
  ·rintro ⟨z462, z463⟩
   refine al4 5 15 17 18 (by kernel_rfl) ?_ ?_ ?_ ?_
   ·exact no rfl (oz (ent_fn' Try.func25 isn25 rfl rfl) c8) fun _ => tj [0,1,2,3,4,5,6,7,8,9] (hN101 (z462, z463)) (U10 rfl rfl rfl rfl rfl rfl rfl rfl rfl rfl hLP2) (P2 rfl rfl hHP2)
   ·exact na rfl info34 (C1 false 0) fun q12 => tj [0,1,2,3,4,5,6,7,8,9,10] (hN107 (q12, z462, z463)) (U12 rfl rfl rfl rfl rfl rfl rfl rfl rfl rfl rfl rfl hLP2) (P3 rfl rfl rfl hHP2)
   ·exact na rfl info34 (C1 false 0) fun q14 => tj [1,0,2,3,4,5,6,7,8,9,10] (hN112 (z462, q14, z463)) (U12 rfl rfl rfl rfl rfl rfl rfl rfl rfl rfl rfl rfl hLP2) (P3 rfl rfl rfl hHP2)
   exact na rfl info34 (C1 false 0) fun q15 => tj [1,0,2,3,4,5,6,7,8,9,10] (hN113 (z462, q15, z463)) (U12 rfl rfl rfl rfl rfl rfl rfl rfl rfl rfl rfl rfl hLP2) (P3 rfl rfl rfl hHP2)
  intro hN75
  refine an 12 25 407263 (fun (v70 : A2) => ⟨115, [], (14, Vp v70.1) :: (15, Vp v70.2) :: (34, S12) :: (35, S13) :: (36, S14) :: (38, S14) :: (39, S14) :: (41, S13) :: (42, S15) :: (44, S14) :: (45, S15) :: LP2, Ur v70.1 34 (C1 false 0) :: Ur v70.2 34 (C1 false 0) :: HP2⟩) ?_ ?_
  ·rintro ⟨z464, z465⟩
   refine al4 5 15 16 19 (by kernel_rfl) ?_ ?_ ?_ ?_
   ·exact no rfl (oz (ent_fn' Try.func25 isn25 rfl rfl) c8) fun _ => tj [0,1,2,3,4,5,6,7,8,9] (hN102 (z464, z465)) (U10 rfl rfl rfl rfl rfl rfl rfl rfl rfl rfl hLP2) (P2 rfl rfl hHP2)
   ·exact na rfl info34 (C1 false 0) fun q12 => tj [0,1,2,3,4,5,6,7,8,9,10] (hN108 (q12, z464, z465)) (U12 rfl rfl rfl rfl rfl rfl rfl rfl rfl rfl rfl rfl hLP2) (P3 rfl rfl rfl hHP2)
   ·exact na rfl info34 (C1 false 0) fun q13 => tj [0,1,2,3,4,5,6,7,8,9,10] (hN111 (q13, z464, z465)) (U12 rfl rfl rfl rfl rfl rfl rfl rfl rfl rfl rfl rfl hLP2) (P3 rfl rfl rfl hHP2)
   exact na rfl info34 (C1 false 0) fun q16 => tj [1,2,0,3,4,5,6,7,8,9,10] (hN114 (z464, z465, q16)) (U12 rfl rfl rfl rfl rfl rfl rfl rfl rfl rfl rfl rfl hLP2) (P3 rfl rfl rfl hHP2)
  intro hN76
  refine an 12 25 669407 (fun (v71 : A2) => ⟨115, [], (14, Vp v71.1) :: (16, Vp v71.2) :: (34, S12) :: (35, S13) :: (36, S14) :: (38, S14) :: (39, S14) :: (41, S13) :: (42, S15) :: (44, S14) :: (45, S15) :: LP2, Ur v71.1 34 (C1 false 0) :: Ur v71.2 34 (C1 false 0) :: HP2⟩) ?_ ?_
  ·rintro ⟨z466, z467⟩
   refine al4 5 15 16 18 (by kernel_rfl) ?_ ?_ ?_ ?_
   ·exact no rfl (oz (ent_fn' Try.func25 isn25 rfl rfl) c8) fun _ => tj [0,1,2,3,4,5,6,7,8,9] (hN103 (z466, z467)) (U10 rfl rfl rfl rfl rfl rfl rfl rfl rfl rfl hLP2) (P2 rfl rfl hHP2)
   ·exact na rfl info34 (C1 false 0) fun q12 => tj [0,1,2,3,4,5,6,7,8,9,10] (hN109 (q12, z466, z467)) (U12 rfl rfl rfl rfl rfl rfl rfl rfl rfl rfl rfl rfl hLP2) (P3 rfl rfl rfl hHP2)
   ·exact na rfl info34 (C1 false 0) fun q13 => tj [0,1,2,3,4,5,6,7,8,9,10] (hN112 (q13, z466, z467)) (U12 rfl rfl rfl rfl rfl rfl rfl rfl rfl rfl rfl rfl hLP2) (P3 rfl rfl rfl hHP2)
   exact na rfl info34 (C1 false 0) fun q15 => tj [1,0,2,3,4,5,6,7,8,9,10] (hN114 (z466, q15, z467)) (U12 rfl rfl rfl rfl rfl rfl rfl rfl rfl rfl rfl rfl hLP2) (P3 rfl rfl rfl hHP2)
  intro hN77
  refine an 12 25 800479 (fun (v72 : A2) => ⟨115, [], (15, Vp v72.1) :: (16, Vp v72.2) :: (34, S12) :: (35, S13) :: (36, S14) :: (38, S14) :: (39, S14) :: (41, S13) :: (42, S15) :: (44, S14) :: (45, S15) :: LP2, Ur v72.1 34 (C1 false 0) :: Ur v72.2 34 (C1 false 0) :: HP2⟩) ?_ ?_
  ·rintro ⟨z468, z469⟩
   refine al4 5 15 16 17 (by kernel_rfl) ?_ ?_ ?_ ?_
   ·exact no rfl (oz (ent_fn' Try.func25 isn25 rfl rfl) c8) fun _ => tj [0,1,2,3,4,5,6,7,8,9] (hN104 (z468, z469)) (U10 rfl rfl rfl rfl rfl rfl rfl rfl rfl rfl hLP2) (P2 rfl rfl hHP2)
   ·exact na rfl info34 (C1 false 0) fun q12 => tj [0,1,2,3,4,5,6,7,8,9,10] (hN110 (q12, z468, z469)) (U12 rfl rfl rfl rfl rfl rfl rfl rfl rfl rfl rfl rfl hLP2) (P3 rfl rfl rfl hHP2)
   ·exact na rfl info34 (C1 false 0) fun q13 => tj [0,1,2,3,4,5,6,7,8,9,10] (hN113 (q13, z468, z469)) (U12 rfl rfl rfl rfl rfl rfl rfl rfl rfl rfl rfl rfl hLP2) (P3 rfl rfl rfl hHP2)
   exact na rfl info34 (C1 false 0) fun q14 => tj [0,1,2,3,4,5,6,7,8,9,10] (hN114 (q14, z468, z469)) (U12 rfl rfl rfl rfl rfl rfl rfl rfl rfl rfl rfl rfl hLP2) (P3 rfl rfl rfl hHP2)
  intro hN78
  refine an 12 25 243419 (fun (v73 : A3) => ⟨115, [], (12, Vp v73.1) :: (13, Vp v73.2.1) :: (14, Vp v73.2.2) :: (32, S13) :: (33, S13) :: (35, S13) :: (36, S14) :: (38, S14) :: (39, S14) :: (41, S13) :: (42, S15) :: (44, S14) :: (45, S15) :: LP2, Ur v73.1 34 (C1 false 0) :: Ur v73.2.1 34 (C1 false 0) :: Ur v73.2.2 34 (C1 false 0) :: HP2⟩) ?_ ?_
  ·rintro ⟨z470, z471, z472⟩
   refine al3 2 18 19 (by kernel_rfl) ?_ ?_ ?_
   ·exact no rfl (oz (ent_fn' Try.func25 isn25 rfl rfl) c7) fun _ => tj [0,1,2,3,4,5,6,7,8,9,10] (hN105 (z470, z471, z472)) (U12 rfl rfl rfl rfl rfl rfl rfl rfl rfl rfl rfl rfl hLP2) (P3 rfl rfl rfl hHP2)
   ·exact na rfl info34 (C1 false 0) fun q15 => tj [1,2,3,0,4,5,6,7,8,9,10,11] (hN115 (z470, z471, z472, q15)) (uc rfl (uc rfl (U12 rfl rfl rfl rfl rfl rfl rfl rfl rfl rfl rfl rfl hLP2))) (P4 rfl rfl rfl rfl hHP2)
   exact na rfl info34 (C1 false 0) fun q16 => tj [1,2,3,0,4,5,6,7,8,9,10,11] (hN116 (z470, z471, z472, q16)) (uc rfl (uc rfl (U12 rfl rfl rfl rfl rfl rfl rfl rfl rfl rfl rfl rfl hLP2))) (P4 rfl rfl rfl rfl hHP2)
  intro hN79
  refine an 12 25 374491 (fun (v74 : A3) => ⟨115, [], (12, Vp v74.1) :: (13, Vp v74.2.1) :: (15, Vp v74.2.2) :: (32, S13) :: (33, S13) :: (35, S13) :: (36, S14) :: (38, S14) :: (39, S14) :: (41, S13) :: (42, S15) :: (44, S14) :: (45, S15) :: LP2, Ur v74.1 34 (C1 false 0) :: Ur v74.2.1 34 (C1 false 0) :: Ur v74.2.2 34 (C1 false 0) :: HP2⟩) ?_ ?_
  ·rintro ⟨z473, z474, z475⟩
   refine al3 2 17 19 (by kernel_rfl) ?_ ?_ ?_
   ·exact no rfl (oz (ent_fn' Try.func25 isn25 rfl rfl) c7) fun _ => tj [0,1,2,3,4,5,6,7,8,9,10] (hN106 (z473, z474, z475)) (U12 rfl rfl rfl rfl rfl rfl rfl rfl rfl rfl rfl rfl hLP2) (P3 rfl rfl rfl hHP2)
   ·exact na rfl info34 (C1 false 0) fun q14 => tj [1,2,0,3,4,5,6,7,8,9,10,11] (hN115 (z473, z474, q14, z475)) (uc rfl (uc rfl (U12 rfl rfl rfl rfl rfl rfl rfl rfl rfl rfl rfl rfl hLP2))) (P4 rfl rfl rfl rfl hHP2)
   exact na rfl info34 (C1 false 0) fun q16 => tj [1,2,3,0,4,5,6,7,8,9,10,11] (hN117 (z473, z474, z475, q16)) (uc rfl (uc rfl (U12 rfl rfl rfl rfl rfl rfl rfl rfl rfl rfl rfl rfl hLP2))) (P4 rfl rfl rfl rfl hHP2)
  intro hN80
  refine an 12 25 636635 (fun (v75 : A3) => ⟨115, [], (12, Vp v75.1) :: (13, Vp v75.2.1) :: (16, Vp v75.2.2) :: (32, S13) :: (33, S13) :: (35, S13) :: (36, S14) :: (38, S14) :: (39, S14) :: (41, S13) :: (42, S15) :: (44, S14) :: (45, S15) :: LP2, Ur v75.1 34 (C1 false 0) :: Ur v75.2.1 34 (C1 false 0) :: Ur v75.2.2 34 (C1 false 0) :: HP2⟩) ?_ ?_
  ·rintro ⟨z476, z477, z478⟩
   refine al3 2 17 18 (by kernel_rfl) ?_ ?_ ?_
   ·exact no rfl (oz (ent_fn' Try.func25 isn25 rfl rfl) c7) fun _ => tj [0,1,2,3,4,5,6,7,8,9,10] (hN107 (z476, z477, z478)) (U12 rfl rfl rfl rfl rfl rfl rfl rfl rfl rfl rfl rfl hLP2) (P3 rfl rfl rfl hHP2)
   ·exact na rfl info34 (C1 false 0) fun q14 => tj [1,2,0,3,4,5,6,7,8,9,10,11] (hN116 (z476, z477, q14, z478)) (uc rfl (uc rfl (U12 rfl rfl rfl rfl rfl rfl rfl rfl rfl rfl rfl rfl hLP2))) (P4 rfl rfl rfl rfl hHP2)
   exact na rfl info34 (C1 false 0) fun q15 => tj [1,2,0,3,4,5,6,7,8,9,10,11] (hN117 (z476, z477, q15, z478)) (uc rfl (uc rfl (U12 rfl rfl rfl rfl rfl rfl rfl rfl rfl rfl rfl rfl hLP2))) (P4 rfl rfl rfl rfl hHP2)
  intro hN81
  refine an 12 25 440027 (fun (v76 : A3) => ⟨115, [], (12, Vp v76.1) :: (14, Vp v76.2.1) :: (15, Vp v76.2.2) :: (32, S13) :: (33, S13) :: (35, S13) :: (36, S14) :: (38, S14) :: (39, S14) :: (41, S13) :: (42, S15) :: (44, S14) :: (45, S15) :: LP2, Ur v76.1 34 (C1 false 0) :: Ur v76.2.1 34 (C1 false 0) :: Ur v76.2.2 34 (C1 false 0) :: HP2⟩) ?_ ?_
  ·rintro ⟨z479, z480, z481⟩
   refine al3 2 16 19 (by kernel_rfl) ?_ ?_ ?_
   ·exact no rfl (oz (ent_fn' Try.func25 isn25 rfl rfl) c7) fun _ => tj [0,1,2,3,4,5,6,7,8,9,10] (hN108 (z479, z480, z481)) (U12 rfl rfl rfl rfl rfl rfl rfl rfl rfl rfl rfl rfl hLP2) (P3 rfl rfl rfl hHP2)
   ·exact na rfl info34 (C1 false 0) fun q13 => tj [1,0,2,3,4,5,6,7,8,9,10,11] (hN115 (z479, q13, z480, z481)) (uc rfl (uc rfl (U12 rfl rfl rfl rfl rfl rfl rfl rfl rfl rfl rfl rfl hLP2))) (P4 rfl rfl rfl rfl hHP2)
   exact na rfl info34 (C1 false 0) fun q16 => tj [1,2,3,0,4,5,6,7,8,9,10,11] (hN118 (z479, z480, z481, q16)) (uc rfl (uc rfl (U12 rfl rfl rfl rfl rfl rfl rfl rfl rfl rfl rfl rfl hLP2))) (P4 rfl rfl rfl rfl hHP2)
  intro hN82
  refine an 12 25 702171 (fun (v77 : A3) => ⟨115, [], (12, Vp v77.1) :: (14, Vp v77.2.1) :: (16, Vp v77.2.2) :: (32, S13) :: (33, S13) :: (35, S13) :: (36, S14) :: (38, S14) :: (39, S14) :: (41, S13) :: (42, S15) :: (44, S14) :: (45, S15) :: LP2, Ur v77.1 34 (C1 false 0) :: Ur v77.2.1 34 (C1 false 0) :: Ur v77.2.2 34 (C1 false 0) :: HP2⟩) ?_ ?_
  ·rintro ⟨z482, z483, z484⟩
   refine al3 2 16 18 (by kernel_rfl) ?_ ?_ ?_
   ·exact no rfl (oz (ent_fn' Try.func25 isn25 rfl rfl) c7) fun _ => tj [0,1,2,3,4,5,6,7,8,9,10] (hN109 (z482, z483, z484)) (U12 rfl rfl rfl rfl rfl rfl rfl rfl rfl rfl rfl rfl hLP2) (P3 rfl rfl rfl hHP2)
   ·exact na rfl info34 (C1 false 0) fun q13 => tj [1,0,2,3,4,5,6,7,8,9,10,11] (hN116 (z482, q13, z483, z484)) (uc rfl (uc rfl (U12 rfl rfl rfl rfl rfl rfl rfl rfl rfl rfl rfl rfl hLP2))) (P4 rfl rfl rfl rfl hHP2)
   exact na rfl info34 (C1 false 0) fun q15 => tj [1,2,0,3,4,5,6,7,8,9,10,11] (hN118 (z482, z483, q15, z484)) (uc rfl (uc rfl (U12 rfl rfl rfl rfl rfl rfl rfl rfl rfl rfl rfl rfl hLP2))) (P4 rfl rfl rfl rfl hHP2)
  intro hN83
  refine an 12 25 833243 (fun (v78 : A3) => ⟨115, [], (12, Vp v78.1) :: (15, Vp v78.2.1) :: (16, Vp v78.2.2) :: (32, S13) :: (33, S13) :: (35, S13) :: (36, S14) :: (38, S14) :: (39, S14) :: (41, S13) :: (42, S15) :: (44, S14) :: (45, S15) :: LP2, Ur v78.1 34 (C1 false 0) :: Ur v78.2.1 34 (C1 false 0) :: Ur v78.2.2 34 (C1 false 0) :: HP2⟩) ?_ ?_
  ·rintro ⟨z485, z486, z487⟩
   refine al3 2 16 17 (by kernel_rfl) ?_ ?_ ?_
   ·exact no rfl (oz (ent_fn' Try.func25 isn25 rfl rfl) c7) fun _ => tj [0,1,2,3,4,5,6,7,8,9,10] (hN110 (z485, z486, z487)) (U12 rfl rfl rfl rfl rfl rfl rfl rfl rfl rfl rfl rfl hLP2) (P3 rfl rfl rfl hHP2)
   ·exact na rfl info34 (C1 false 0) fun q13 => tj [1,0,2,3,4,5,6,7,8,9,10,11] (hN117 (z485, q13, z486, z487)) (uc rfl (uc rfl (U12 rfl rfl rfl rfl rfl rfl rfl rfl rfl rfl rfl rfl hLP2))) (P4 rfl rfl rfl rfl hHP2)
   exact na rfl info34 (C1 false 0) fun q14 => tj [1,0,2,3,4,5,6,7,8,9,10,11] (hN118 (z485, q14, z486, z487)) (uc rfl (uc rfl (U12 rfl rfl rfl rfl rfl rfl rfl rfl rfl rfl rfl rfl hLP2))) (P4 rfl rfl rfl rfl hHP2)
  intro hN84
  refine an 12 25 472795 (fun (v79 : A3) => ⟨115, [], (13, Vp v79.1) :: (14, Vp v79.2.1) :: (15, Vp v79.2.2) :: (32, S13) :: (33, S13) :: (35, S13) :: (36, S14) :: (38, S14) :: (39, S14) :: (41, S13) :: (42, S15) :: (44, S14) :: (45, S15) :: LP2, Ur v79.1 34 (C1 false 0) :: Ur v79.2.1 34 (C1 false 0) :: Ur v79.2.2 34 (C1 false 0) :: HP2⟩) ?_ ?_
  ·rintro ⟨z488, z489, z490⟩
   refine al3 2 15 19 (by kernel_rfl) ?_ ?_ ?_
   ·exact no rfl (oz (ent_fn' Try.func25 isn25 rfl rfl) c7) fun _ => tj [0,1,2,3,4,5,6,7,8,9,10] (hN111 (z488, z489, z490)) (U12 rfl rfl rfl rfl rfl rfl rfl rfl rfl rfl rfl rfl hLP2) (P3 rfl rfl rfl hHP2)
   ·exact na rfl info34 (C1 false 0) fun q12 => tj [0,1,2,3,4,5,6,7,8,9,10,11] (hN115 (q12, z488, z489, z490)) (uc rfl (uc rfl (U12 rfl rfl rfl rfl rfl rfl rfl rfl rfl rfl rfl rfl hLP2))) (P4 rfl rfl rfl rfl hHP2)
   exact na rfl info34 (C1 false 0) fun q16 => tj [1,2,3,0,4,5,6,7,8,9,10,11] (hN119 (z488, z489, z490, q16)) (uc rfl (uc rfl (U12 rfl rfl rfl rfl rfl rfl rfl rfl rfl rfl rfl rfl hLP2))) (P4 rfl rfl rfl rfl hHP2)
  intro hN85
  refine an 12 25 734939 (fun (v80 : A3) => ⟨115, [], (13, Vp v80.1) :: (14, Vp v80.2.1) :: (16, Vp v80.2.2) :: (32, S13) :: (33, S13) :: (35, S13) :: (36, S14) :: (38, S14) :: (39, S14) :: (41, S13) :: (42, S15) :: (44, S14) :: (45, S15) :: LP2, Ur v80.1 34 (C1 false 0) :: Ur v80.2.1 34 (C1 false 0) :: Ur v80.2.2 34 (C1 false 0) :: HP2⟩) ?_ ?_
  ·rintro ⟨z491, z492, z493⟩
   refine al3 2 15 18 (by kernel_rfl) ?_ ?_ ?_
   ·exact no rfl (oz (ent_fn' Try.func25 isn25 rfl rfl) c7) fun _ => tj [0,1,2,3,4,5,6,7,8,9,10] (hN112 (z491, z492, z493)) (U12 rfl rfl rfl rfl rfl rfl rfl rfl rfl rfl rfl rfl hLP2) (P3 rfl rfl rfl hHP2)
   ·exact na rfl info34 (C1 false 0) fun q12 => tj [0,1,2,3,4,5,6,7,8,9,10,11] (hN116 (q12, z491, z492, z493)) (uc rfl (uc rfl (U12 rfl rfl rfl rfl rfl rfl rfl rfl rfl rfl rfl rfl hLP2))) (P4 rfl rfl rfl rfl hHP2)
   exact na rfl info34 (C1 false 0) fun q15 => tj [1,2,0,3,4,5,6,7,8,9,10,11] (hN119 (z491, z492, q15, z493)) (uc rfl (uc rfl (U12 rfl rfl rfl rfl rfl rfl rfl rfl rfl rfl rfl rfl hLP2))) (P4 rfl rfl rfl rfl hHP2)
  intro hN86
  refine an 12 25 866011 (fun (v81 : A3) => ⟨115, [], (13, Vp v81.1) :: (15, Vp v81.2.1) :: (16, Vp v81.2.2) :: (32, S13) :: (33, S13) :: (35, S13) :: (36, S14) :: (38, S14) :: (39, S14) :: (41, S13) :: (42, S15) :: (44, S14) :: (45, S15) :: LP2, Ur v81.1 34 (C1 false 0) :: Ur v81.2.1 34 (C1 false 0) :: Ur v81.2.2 34 (C1 false 0) :: HP2⟩) ?_ ?_
  ·rintro ⟨z494, z495, z496⟩
   refine al3 2 15 17 (by kernel_rfl) ?_ ?_ ?_
   ·exact no rfl (oz (ent_fn' Try.func25 isn25 rfl rfl) c7) fun _ => tj [0,1,2,3,4,5,6,7,8,9,10] (hN113 (z494, z495, z496)) (U12 rfl rfl rfl rfl rfl rfl rfl rfl rfl rfl rfl rfl hLP2) (P3 rfl rfl rfl hHP2)
   ·exact na rfl info34 (C1 false 0) fun q12 => tj [0,1,2,3,4,5,6,7,8,9,10,11] (hN117 (q12, z494, z495, z496)) (uc rfl (uc rfl (U12 rfl rfl rfl rfl rfl rfl rfl rfl rfl rfl rfl rfl hLP2))) (P4 rfl rfl rfl rfl hHP2)
   exact na rfl info34 (C1 false 0) fun q14 => tj [1,0,2,3,4,5,6,7,8,9,10,11] (hN119 (z494, q14, z495, z496)) (uc rfl (uc rfl (U12 rfl rfl rfl rfl rfl rfl rfl rfl rfl rfl rfl rfl hLP2))) (P4 rfl rfl rfl rfl hHP2)
  intro hN87
  refine an 12 25 931547 (fun (v82 : A3) => ⟨115, [], (14, Vp v82.1) :: (15, Vp v82.2.1) :: (16, Vp v82.2.2) :: (32, S13) :: (33, S13) :: (35, S13) :: (36, S14) :: (38, S14) :: (39, S14) :: (41, S13) :: (42, S15) :: (44, S14) :: (45, S15) :: LP2, Ur v82.1 34 (C1 false 0) :: Ur v82.2.1 34 (C1 false 0) :: Ur v82.2.2 34 (C1 false 0) :: HP2⟩) ?_ ?_
  ·rintro ⟨z497, z498, z499⟩
   refine al3 2 15 16 (by kernel_rfl) ?_ ?_ ?_
   ·exact no rfl (oz (ent_fn' Try.func25 isn25 rfl rfl) c7) fun _ => tj [0,1,2,3,4,5,6,7,8,9,10] (hN114 (z497, z498, z499)) (U12 rfl rfl rfl rfl rfl rfl rfl rfl rfl rfl rfl rfl hLP2) (P3 rfl rfl rfl hHP2)
   ·exact na rfl info34 (C1 false 0) fun q12 => tj [0,1,2,3,4,5,6,7,8,9,10,11] (hN118 (q12, z497, z498, z499)) (uc rfl (uc rfl (U12 rfl rfl rfl rfl rfl rfl rfl rfl rfl rfl rfl rfl hLP2))) (P4 rfl rfl rfl rfl hHP2)
   exact na rfl info34 (C1 false 0) fun q13 => tj [0,1,2,3,4,5,6,7,8,9,10,11] (hN119 (q13, z497, z498, z499)) (uc rfl (uc rfl (U12 rfl rfl rfl rfl rfl rfl rfl rfl rfl rfl rfl rfl hLP2))) (P4 rfl rfl rfl rfl hHP2)
  intro hN88
  refine an 13 25 14079 (fun (v41 : Unit) => ⟨115, [], (34, S12) :: (37, S16) :: (38, S14) :: (39, S14) :: (41, S13) :: (42, S15) :: (44, S14) :: (45, S15) :: LP2, HP2⟩) ?_ ?_
  ·rintro ⟨⟩
   refine al6 8 15 16 17 18 19 (by kernel_rfl) ?_ ?_ ?_ ?_ ?_ ?_
   ·exact no rfl (oz (ent_fn' Try.func25 isn25 rfl rfl) c9) fun _ => tj [0,1,2,3,4,5,6,7] (hN63 ()) (U7 rfl rfl rfl rfl rfl rfl rfl hLP2) hHP2
   ·exact na rfl info34 (C1 false 0) fun q12 => tj [0,1,2,3,4,5,6,7,8] (hN64 q12) (U9 rfl rfl rfl rfl rfl rfl rfl rfl rfl hLP2) (P1 rfl hHP2)
   ·exact na rfl info34 (C1 false 0) fun q13 => tj [0,1,2,3,4,5,6,7,8] (hN65 q13) (U9 rfl rfl rfl rfl rfl rfl rfl rfl rfl hLP2) (P1 rfl hHP2)
   ·exact na rfl info34 (C1 false 0) fun q14 => tj [0,1,2,3,4,5,6,7,8] (hN66 q14) (U9 rfl rfl rfl rfl rfl rfl rfl rfl rfl hLP2) (P1 rfl hHP2)
   ·exact na rfl info34 (C1 false 0) fun q15 => tj [0,1,2,3,4,5,6,7,8] (hN67 q15) (U9 rfl rfl rfl rfl rfl rfl rfl rfl rfl hLP2) (P1 rfl hHP2)
   exact na rfl info34 (C1 false 0) fun q16 => tj [0,1,2,3,4,5,6,7,8] (hN68 q16) (U9 rfl rfl rfl rfl rfl rfl rfl rfl rfl hLP2) (P1 rfl hHP2)
  intro hN47
  refine an 13 25 46815 (fun (v42 : Addr) => ⟨115, [], (12, Vp v42) :: (34, S12) :: (35, S13) :: (36, S14) :: (38, S14) :: (39, S14) :: (41, S13) :: (42, S15) :: (44, S14) :: (45, S15) :: LP2, Ur v42 34 (C1 false 0) :: HP2⟩) ?_ ?_
  ·rintro q9063
   refine al5 5 16 17 18 19 (by kernel_rfl) ?_ ?_ ?_ ?_ ?_
   ·exact no rfl (oz (ent_fn' Try.func25 isn25 rfl rfl) c8) fun _ => tj [0,1,2,3,4,5,6,7,8] (hN64 q9063) (U9 rfl rfl rfl rfl rfl rfl rfl rfl rfl hLP2) (P1 rfl hHP2)
   ·exact na rfl info34 (C1 false 0) fun q13 => tj [1,0,2,3,4,5,6,7,8,9] (hN69 (q9063, q13)) (U11 rfl rfl rfl rfl rfl rfl rfl rfl rfl rfl rfl hLP2) (P2 rfl rfl hHP2)
   ·exact na rfl info34 (C1 false 0) fun q14 => tj [1,0,2,3,4,5,6,7,8,9] (hN70 (q9063, q14)) (U11 rfl rfl rfl rfl rfl rfl rfl rfl rfl rfl rfl hLP2) (P2 rfl rfl hHP2)
   ·exact na rfl info34 (C1 false 0) fun q15 => tj [1,0,2,3,4,5,6,7,8,9] (hN71 (q9063, q15)) (U11 rfl rfl rfl rfl rfl rfl rfl rfl rfl rfl rfl hLP2) (P2 rfl rfl hHP2)
   exact na rfl info34 (C1 false 0) fun q16 => tj [1,0,2,3,4,5,6,7,8,9] (hN72 (q9063, q16)) (U11 rfl rfl rfl rfl rfl rfl rfl rfl rfl rfl rfl hLP2) (P2 rfl rfl hHP2)
  intro hN48
  refine an 13 25 79583 (fun (v43 : Addr) => ⟨115, [], (13, Vp v43) :: (34, S12) :: (35, S13) :: (36, S14) :: (38, S14) :: (39, S14) :: (41, S13) :: (42, S15) :: (44, S14) :: (45, S15) :: LP2, Ur v43 34 (C1 false 0) :: HP2⟩) ?_ ?_
  ·rintro q9064
   refine al5 5 15 17 18 19 (by kernel_rfl) ?_ ?_ ?_ ?_ ?_
   ·exact no rfl (oz (ent_fn' Try.func25 isn25 rfl rfl) c8) fun _ => tj [0,1,2,3,4,5,6,7,8] (hN65 q9064) (U9 rfl rfl rfl rfl rfl rfl rfl rfl rfl hLP2) (P1 rfl hHP2)
   ·exact na rfl info34 (C1 false 0) fun q12 => tj [0,1,2,3,4,5,6,7,8,9] (hN69 (q12, q9064)) (U11 rfl rfl rfl rfl rfl rfl rfl rfl rfl rfl rfl hLP2) (P2 rfl rfl hHP2)
   ·exact na rfl info34 (C1 false 0) fun q14 => tj [1,0,2,3,4,5,6,7,8,9] (hN73 (q9064, q14)) (U11 rfl rfl rfl rfl rfl rfl rfl rfl rfl rfl rfl hLP2) (P2 rfl rfl hHP2)
   ·exact na rfl info34 (C1 false 0) fun q15 => tj [1,0,2,3,4,5,6,7,8,9] (hN74 (q9064, q15)) (U11 rfl rfl rfl rfl rfl rfl rfl rfl rfl rfl rfl hLP2) (P2 rfl rfl hHP2)
   exact na rfl info34 (C1 false 0) fun q16 => tj [1,0,2,3,4,5,6,7,8,9] (hN75 (q9064, q16)) (U11 rfl rfl rfl rfl rfl rfl rfl rfl rfl rfl rfl hLP2) (P2 rfl rfl hHP2)
  intro hN49
  refine an 13 25 145119 (fun (v44 : Addr) => ⟨115, [], (14, Vp v44) :: (34, S12) :: (35, S13) :: (36, S14) :: (38, S14) :: (39, S14) :: (41, S13) :: (42, S15) :: (44, S14) :: (45, S15) :: LP2, Ur v44 34 (C1 false 0) :: HP2⟩) ?_ ?_
  ·rintro q9065
   refine al5 5 15 16 18 19 (by kernel_rfl) ?_ ?_ ?_ ?_ ?_
   ·exact no rfl (oz (ent_fn' Try.func25 isn25 rfl rfl) c8) fun _ => tj [0,1,2,3,4,5,6,7,8] (hN66 q9065) (U9 rfl rfl rfl rfl rfl rfl rfl rfl rfl hLP2) (P1 rfl hHP2)
   ·exact na rfl info34 (C1 false 0) fun q12 => tj [0,1,2,3,4,5,6,7,8,9] (hN70 (q12, q9065)) (U11 rfl rfl rfl rfl rfl rfl rfl rfl rfl rfl rfl hLP2) (P2 rfl rfl hHP2)
   ·exact na rfl info34 (C1 false 0) fun q13 => tj [0,1,2,3,4,5,6,7,8,9] (hN73 (q13, q9065)) (U11 rfl rfl rfl rfl rfl rfl rfl rfl rfl rfl rfl hLP2) (P2 rfl rfl hHP2)
   ·exact na rfl info34 (C1 false 0) fun q15 => tj [1,0,2,3,4,5,6,7,8,9] (hN76 (q9065, q15)) (U11 rfl rfl rfl rfl rfl rfl rfl rfl rfl rfl rfl hLP2) (P2 rfl rfl hHP2)
   exact na rfl info34 (C1 false 0) fun q16 => tj [1,0,2,3,4,5,6,7,8,9] (hN77 (q9065, q16)) (U11 rfl rfl rfl rfl rfl rfl rfl rfl rfl rfl rfl hLP2) (P2 rfl rfl hHP2)
  intro hN50
  refine an 13 25 276191 (fun (v45 : Addr) => ⟨115, [], (15, Vp v45) :: (34, S12) :: (35, S13) :: (36, S14) :: (38, S14) :: (39, S14) :: (41, S13) :: (42, S15) :: (44, S14) :: (45, S15) :: LP2, Ur v45 34 (C1 false 0) :: HP2⟩) ?_ ?_
  ·rintro q9066
   refine al5 5 15 16 17 19 (by kernel_rfl) ?_ ?_ ?_ ?_ ?_
   ·exact no rfl (oz (ent_fn' Try.func25 isn25 rfl rfl) c8) fun _ => tj [0,1,2,3,4,5,6,7,8] (hN67 q9066) (U9 rfl rfl rfl rfl rfl rfl rfl rfl rfl hLP2) (P1 rfl hHP2)
   ·exact na rfl info34 (C1 false 0) fun q12 => tj [0,1,2,3,4,5,6,7,8,9] (hN71 (q12, q9066)) (U11 rfl rfl rfl rfl rfl rfl rfl rfl rfl rfl rfl hLP2) (P2 rfl rfl hHP2)
   ·exact na rfl info34 (C1 false 0) fun q13 => tj [0,1,2,3,4,5,6,7,8,9] (hN74 (q13, q9066)) (U11 rfl rfl rfl rfl rfl rfl rfl rfl rfl rfl rfl hLP2) (P2 rfl rfl hHP2)
   ·exact na rfl info34 (C1 false 0) fun q14 => tj [0,1,2,3,4,5,6,7,8,9] (hN76 (q14, q9066)) (U11 rfl rfl rfl rfl rfl rfl rfl rfl rfl rfl rfl hLP2) (P2 rfl rfl hHP2)
   exact na rfl info34 (C1 false 0) fun q16 => tj [1,0,2,3,4,5,6,7,8,9] (hN78 (q9066, q16)) (U11 rfl rfl rfl rfl rfl rfl rfl rfl rfl rfl rfl hLP2) (P2 rfl rfl hHP2)
  intro hN51
  refine an 13 25 538335 (fun (v46 : Addr) => ⟨115, [], (16, Vp v46) :: (34, S12) :: (35, S13) :: (36, S14) :: (38, S14) :: (39, S14) :: (41, S13) :: (42, S15) :: (44, S14) :: (45, S15) :: LP2, Ur v46 34 (C1 false 0) :: HP2⟩) ?_ ?_
  ·rintro q9067
   refine al5 5 15 16 17 18 (by kernel_rfl) ?_ ?_ ?_ ?_ ?_
   ·exact no rfl (oz (ent_fn' Try.func25 isn25 rfl rfl) c8) fun _ => tj [0,1,2,3,4,5,6,7,8] (hN68 q9067) (U9 rfl rfl rfl rfl rfl rfl rfl rfl rfl hLP2) (P1 rfl hHP2)
   ·exact na rfl info34 (C1 false 0) fun q12 => tj [0,1,2,3,4,5,6,7,8,9] (hN72 (q12, q9067)) (U11 rfl rfl rfl rfl rfl rfl rfl rfl rfl rfl rfl hLP2) (P2 rfl rfl hHP2)
   ·exact na rfl info34 (C1 false 0) fun q13 => tj [0,1,2,3,4,5,6,7,8,9] (hN75 (q13, q9067)) (U11 rfl rfl rfl rfl rfl rfl rfl rfl rfl rfl rfl hLP2) (P2 rfl rfl hHP2)
   ·exact na rfl info34 (C1 false 0) fun q14 => tj [0,1,2,3,4,5,6,7,8,9] (hN77 (q14, q9067)) (U11 rfl rfl rfl rfl rfl rfl rfl rfl rfl rfl rfl hLP2) (P2 rfl rfl hHP2)
   exact na rfl info34 (C1 false 0) fun q15 => tj [0,1,2,3,4,5,6,7,8,9] (hN78 (q15, q9067)) (U11 rfl rfl rfl rfl rfl rfl rfl rfl rfl rfl rfl hLP2) (P2 rfl rfl hHP2)
  intro hN52
  refine an 13 25 112347 (fun (v47 : A2) => ⟨115, [], (12, Vp v47.1) :: (13, Vp v47.2) :: (32, S13) :: (33, S13) :: (35, S13) :: (36, S14) :: (38, S14) :: (39, S14) :: (41, S13) :: (42, S15) :: (44, S14) :: (45, S15) :: LP2, Ur v47.1 34 (C1 false 0) :: Ur v47.2 34 (C1 false 0) :: HP2⟩) ?_ ?_
  ·rintro ⟨q9068, q9069⟩
   refine al4 2 17 18 19 (by kernel_rfl) ?_ ?_ ?_ ?_
   ·exact no rfl (oz (ent_fn' Try.func25 isn25 rfl rfl) c7) fun _ => tj [0,1,2,3,4,5,6,7,8,9] (hN69 (q9068, q9069)) (U11 rfl rfl rfl rfl rfl rfl rfl rfl rfl rfl rfl hLP2) (P2 rfl rfl hHP2)
   ·exact na rfl info34 (C1 false 0) fun q14 => tj [1,2,0,3,4,5,6,7,8,9,10] (hN79 (q9068, q9069, q14)) (uc rfl (U12 rfl rfl rfl rfl rfl rfl rfl rfl rfl rfl rfl rfl hLP2)) (P3 rfl rfl rfl hHP2)
   ·exact na rfl info34 (C1 false 0) fun q15 => tj [1,2,0,3,4,5,6,7,8,9,10] (hN80 (q9068, q9069, q15)) (uc rfl (U12 rfl rfl rfl rfl rfl rfl rfl rfl rfl rfl rfl rfl hLP2)) (P3 rfl rfl rfl hHP2)
   exact na rfl info34 (C1 false 0) fun q16 => tj [1,2,0,3,4,5,6,7,8,9,10] (hN81 (q9068, q9069, q16)) (uc rfl (U12 rfl rfl rfl rfl rfl rfl rfl rfl rfl rfl rfl rfl hLP2)) (P3 rfl rfl rfl hHP2)
  intro hN53
  refine an 13 25 177883 (fun (v48 : A2) => ⟨115, [], (12, Vp v48.1) :: (14, Vp v48.2) :: (32, S13) :: (33, S13) :: (35, S13) :: (36, S14) :: (38, S14) :: (39, S14) :: (41, S13) :: (42, S15) :: (44, S14) :: (45, S15) :: LP2, Ur v48.1 34 (C1 false 0) :: Ur v48.2 34 (C1 false 0) :: HP2⟩) ?_ ?_
  ·rintro ⟨q9070, q9071⟩
   refine al4 2 16 18 19 (by kernel_rfl) ?_ ?_ ?_ ?_
   ·exact no rfl (oz (ent_fn' Try.func25 isn25 rfl rfl) c7) fun _ => tj [0,1,2,3,4,5,6,7,8,9] (hN70 (q9070, q9071)) (U11 rfl rfl rfl rfl rfl rfl rfl rfl rfl rfl rfl hLP2) (P2 rfl rfl hHP2)
   ·exact na rfl info34 (C1 false 0) fun q13 => tj [1,0,2,3,4,5,6,7,8,9,10] (hN79 (q9070, q13, q9071)) (uc rfl (U12 rfl rfl rfl rfl rfl rfl rfl rfl rfl rfl rfl rfl hLP2)) (P3 rfl rfl rfl hHP2)
   ·exact na rfl info34 (C1 false 0) fun q15 => tj [1,2,0,3,4,5,6,7,8,9,10] (hN82 (q9070, q9071, q15)) (uc rfl (U12 rfl rfl rfl rfl rfl rfl rfl rfl rfl rfl rfl rfl hLP2)) (P3 rfl rfl rfl hHP2)
   exact na rfl info34 (C1 false 0) fun q16 => tj [1,2,0,3,4,5,6,7,8,9,10] (hN83 (q9070, q9071, q16)) (uc rfl (U12 rfl rfl rfl rfl rfl rfl rfl rfl rfl rfl rfl rfl hLP2)) (P3 rfl rfl rfl hHP2)
  intro hN54
  refine an 13 25 308955 (fun (v49 : A2) => ⟨115, [], (12, Vp v49.1) :: (15, Vp v49.2) :: (32, S13) :: (33, S13) :: (35, S13) :: (36, S14) :: (38, S14) :: (39, S14) :: (41, S13) :: (42, S15) :: (44, S14) :: (45, S15) :: LP2, Ur v49.1 34 (C1 false 0) :: Ur v49.2 34 (C1 false 0) :: HP2⟩) ?_ ?_
  ·rintro ⟨q9072, q9073⟩
   refine al4 2 16 17 19 (by kernel_rfl) ?_ ?_ ?_ ?_
   ·exact no rfl (oz (ent_fn' Try.func25 isn25 rfl rfl) c7) fun _ => tj [0,1,2,3,4,5,6,7,8,9] (hN71 (q9072, q9073)) (U11 rfl rfl rfl rfl rfl rfl rfl rfl rfl rfl rfl hLP2) (P2 rfl rfl hHP2)
   ·exact na rfl info34 (C1 false 0) fun q13 => tj [1,0,2,3,4,5,6,7,8,9,10] (hN80 (q9072, q13, q9073)) (uc rfl (U12 rfl rfl rfl rfl rfl rfl rfl rfl rfl rfl rfl rfl hLP2)) (P3 rfl rfl rfl hHP2)
   ·exact na rfl info34 (C1 false 0) fun q14 => tj [1,0,2,3,4,5,6,7,8,9,10] (hN82 (q9072, q14, q9073)) (uc rfl (U12 rfl rfl rfl rfl rfl rfl rfl rfl rfl rfl rfl rfl hLP2)) (P3 rfl rfl rfl hHP2)
   exact na rfl info34 (C1 false 0) fun q16 => tj [1,2,0,3,4,5,6,7,8,9,10] (hN84 (q9072, q9073, q16)) (uc rfl (U12 rfl rfl rfl rfl rfl rfl rfl rfl rfl rfl rfl rfl hLP2)) (P3 rfl rfl rfl hHP2)
  intro hN55
  refine an 13 25 571099 (fun (v50 : A2) => ⟨115, [], (12, Vp v50.1) :: (16, Vp v50.2) :: (32, S13) :: (33, S13) :: (35, S13) :: (36, S14) :: (38, S14) :: (39, S14) :: (41, S13) :: (42, S15) :: (44, S14) :: (45, S15) :: LP2, Ur v50.1 34 (C1 false 0) :: Ur v50.2 34 (C1 false 0) :: HP2⟩) ?_ ?_
  ·rintro ⟨q9074, q9075⟩
   refine al4 2 16 17 18 (by kernel_rfl) ?_ ?_ ?_ ?_
   ·exact no rfl (oz (ent_fn' Try.func25 isn25 rfl rfl) c7) fun _ => tj [0,1,2,3,4,5,6,7,8,9] (hN72 (q9074, q9075)) (U11 rfl rfl rfl rfl rfl rfl rfl rfl rfl rfl rfl hLP2) (P2 rfl rfl hHP2)
   ·exact na rfl info34 (C1 false 0) fun q13 => tj [1,0,2,3,4,5,6,7,8,9,10] (hN81 (q9074, q13, q9075)) (uc rfl (U12 rfl rfl rfl rfl rfl rfl rfl rfl rfl rfl rfl rfl hLP2)) (P3 rfl rfl rfl hHP2)
   ·exact na rfl info34 (C1 false 0) fun q14 => tj [1,0,2,3,4,5,6,7,8,9,10] (hN83 (q9074, q14, q9075)) (uc rfl (U12 rfl rfl rfl rfl rfl rfl rfl rfl rfl rfl rfl rfl hLP2)) (P3 rfl rfl rfl hHP2)
   exact na rfl info34 (C1 false 0) fun q15 => tj [1,0,2,3,4,5,6,7,8,9,10] (hN84 (q9074, q15, q9075)) (uc rfl (U12 rfl rfl rfl rfl rfl rfl rfl rfl rfl rfl rfl rfl hLP2)) (P3 rfl rfl rfl hHP2)
  intro hN56
  refine an 13 25 210651 (fun (v51 : A2) => ⟨115, [], (13, Vp v51.1) :: (14, Vp v51.2) :: (32, S13) :: (33, S13) :: (35, S13) :: (36, S14) :: (38, S14) :: (39, S14) :: (41, S13) :: (42, S15) :: (44, S14) :: (45, S15) :: LP2, Ur v51.1 34 (C1 false 0) :: Ur v51.2 34 (C1 false 0) :: HP2⟩) ?_ ?_
  ·rintro ⟨q9076, q9077⟩
   refine al4 2 15 18 19 (by kernel_rfl) ?_ ?_ ?_ ?_
   ·exact no rfl (oz (ent_fn' Try.func25 isn25 rfl rfl) c7) fun _ => tj [0,1,2,3,4,5,6,7,8,9] (hN73 (q9076, q9077)) (U11 rfl rfl rfl rfl rfl rfl rfl rfl rfl rfl rfl hLP2) (P2 rfl rfl hHP2)
   ·exact na rfl info34 (C1 false 0) fun q12 => tj [0,1,2,3,4,5,6,7,8,9,10] (hN79 (q12, q9076, q9077)) (uc rfl (U12 rfl rfl rfl rfl rfl rfl rfl rfl rfl rfl rfl rfl hLP2)) (P3 rfl rfl rfl hHP2)
   ·exact na rfl info34 (C1 false 0) fun q15 => tj [1,2,0,3,4,5,6,7,8,9,10] (hN85 (q9076, q9077, q15)) (uc rfl (U12 rfl rfl rfl rfl rfl rfl rfl rfl rfl rfl rfl rfl hLP2)) (P3 rfl rfl rfl hHP2)
   exact na rfl info34 (C1 false 0) fun q16 => tj [1,2,0,3,4,5,6,7,8,9,10] (hN86 (q9076, q9077, q16)) (uc rfl (U12 rfl rfl rfl rfl rfl rfl rfl rfl rfl rfl rfl rfl hLP2)) (P3 rfl rfl rfl hHP2)
  intro hN57
  refine an 13 25 341723 (fun (v52 : A2) => ⟨115, [], (13, Vp v52.1) :: (15, Vp v52.2) :: (32, S13) :: (33, S13) :: (35, S13) :: (36, S14) :: (38, S14) :: (39, S14) :: (41, S13) :: (42, S15) :: (44, S14) :: (45, S15) :: LP2, Ur v52.1 34 (C1 false 0) :: Ur v52.2 34 (C1 false 0) :: HP2⟩) ?_ ?_
  ·rintro ⟨q9078, q9079⟩
   refine al4 2 15 17 19 (by kernel_rfl) ?_ ?_ ?_ ?_
   ·exact no rfl (oz (ent_fn' Try.func25 isn25 rfl rfl) c7) fun _ => tj [0,1,2,3,4,5,6,7,8,9] (hN74 (q9078, q9079)) (U11 rfl rfl rfl rfl rfl rfl rfl rfl rfl rfl rfl hLP2) (P2 rfl rfl hHP2)
   ·exact na rfl info34 (C1 false 0) fun q12 => tj [0,1,2,3,4,5,6,7,8,9,10] (hN80 (q12, q9078, q9079)) (uc rfl (U12 rfl rfl rfl rfl rfl rfl rfl rfl rfl rfl rfl rfl hLP2)) (P3 rfl rfl rfl hHP2)
   ·exact na rfl info34 (C1 false 0) fun q14 => tj [1,0,2,3,4,5,6,7,8,9,10] (hN85 (q9078, q14, q9079)) (uc rfl (U12 rfl rfl rfl rfl rfl rfl rfl rfl rfl rfl rfl rfl hLP2)) (P3 rfl rfl rfl hHP2)
   exact na rfl info34 (C1 false 0) fun q16 => tj [1,2,0,3,4,5,6,7,8,9,10] (hN87 (q9078, q9079, q16)) (uc rfl (U12 rfl rfl rfl rfl rfl rfl rfl rfl rfl rfl rfl rfl hLP2)) (P3 rfl rfl rfl hHP2)
  intro hN58
  refine an 13 25 603867 (fun (v53 : A2) => ⟨115, [], (13, Vp v53.1) :: (16, Vp v53.2) :: (32, S13) :: (33, S13) :: (35, S13) :: (36, S14) :: (38, S14) :: (39, S14) :: (41, S13) :: (42, S15) :: (44, S14) :: (45, S15) :: LP2, Ur v53.1 34 (C1 false 0) :: Ur v53.2 34 (C1 false 0) :: HP2⟩) ?_ ?_
  ·rintro ⟨q9080, q9081⟩
   refine al4 2 15 17 18 (by kernel_rfl) ?_ ?_ ?_ ?_
   ·exact no rfl (oz (ent_fn' Try.func25 isn25 rfl rfl) c7) fun _ => tj [0,1,2,3,4,5,6,7,8,9] (hN75 (q9080, q9081)) (U11 rfl rfl rfl rfl rfl rfl rfl rfl rfl rfl rfl hLP2) (P2 rfl rfl hHP2)
   ·exact na rfl info34 (C1 false 0) fun q12 => tj [0,1,2,3,4,5,6,7,8,9,10] (hN81 (q12, q9080, q9081)) (uc rfl (U12 rfl rfl rfl rfl rfl rfl rfl rfl rfl rfl rfl rfl hLP2)) (P3 rfl rfl rfl hHP2)
   ·exact na rfl info34 (C1 false 0) fun q14 => tj [1,0,2,3,4,5,6,7,8,9,10] (hN86 (q9080, q14, q9081)) (uc rfl (U12 rfl rfl rfl rfl rfl rfl rfl rfl rfl rfl rfl rfl hLP2)) (P3 rfl rfl rfl hHP2)
   exact na rfl info34 (C1 false 0) fun q15 => tj [1,0,2,3,4,5,6,7,8,9,10] (hN87 (q9080, q15, q9081)) (uc rfl (U12 rfl rfl rfl rfl rfl rfl rfl rfl rfl rfl rfl rfl hLP2)) (P3 rfl rfl rfl hHP2)
  intro hN59
  refine an 13 25 407259 (fun (v54 : A2) => ⟨115, [], (14, Vp v54.1) :: (15, Vp v54.2) :: (32, S13) :: (33, S13) :: (35, S13) :: (36, S14) :: (38, S14) :: (39, S14) :: (41, S13) :: (42, S15) :: (44, S14) :: (45, S15) :: LP2, Ur v54.1 34 (C1 false 0) :: Ur v54.2 34 (C1 false 0) :: HP2⟩) ?_ ?_
  ·rintro ⟨q9082, q9083⟩
   refine al4 2 15 16 19 (by kernel_rfl) ?_ ?_ ?_ ?_
   ·exact no rfl (oz (ent_fn' Try.func25 isn25 rfl rfl) c7) fun _ => tj [0,1,2,3,4,5,6,7,8,9] (hN76 (q9082, q9083)) (U11 rfl rfl rfl rfl rfl rfl rfl rfl rfl rfl rfl hLP2) (P2 rfl rfl hHP2)
   ·exact na rfl info34 (C1 false 0) fun q12 => tj [0,1,2,3,4,5,6,7,8,9,10] (hN82 (q12, q9082, q9083)) (uc rfl (U12 rfl rfl rfl rfl rfl rfl rfl rfl rfl rfl rfl rfl hLP2)) (P3 rfl rfl rfl hHP2)
   ·exact na rfl info34 (C1 false 0) fun q13 => tj [0,1,2,3,4,5,6,7,8,9,10] (hN85 (q13, q9082, q9083)) (uc rfl (U12 rfl rfl rfl rfl rfl rfl rfl rfl rfl rfl rfl rfl hLP2)) (P3 rfl rfl rfl hHP2)
   exact na rfl info34 (C1 false 0) fun q16 => tj [1,2,0,3,4,5,6,7,8,9,10] (hN88 (q9082, q9083, q16)) (uc rfl (U12 rfl rfl rfl rfl rfl rfl rfl rfl rfl rfl rfl rfl hLP2)) (P3 rfl rfl rfl hHP2)
  intro hN60
  refine an 13 25 669403 (fun (v55 : A2) => ⟨115, [], (14, Vp v55.1) :: (16, Vp v55.2) :: (32, S13) :: (33, S13) :: (35, S13) :: (36, S14) :: (38, S14) :: (39, S14) :: (41, S13) :: (42, S15) :: (44, S14) :: (45, S15) :: LP2, Ur v55.1 34 (C1 false 0) :: Ur v55.2 34 (C1 false 0) :: HP2⟩) ?_ ?_
  ·rintro ⟨q9084, q9085⟩
   refine al4 2 15 16 18 (by kernel_rfl) ?_ ?_ ?_ ?_
   ·exact no rfl (oz (ent_fn' Try.func25 isn25 rfl rfl) c7) fun _ => tj [0,1,2,3,4,5,6,7,8,9] (hN77 (q9084, q9085)) (U11 rfl rfl rfl rfl rfl rfl rfl rfl rfl rfl rfl hLP2) (P2 rfl rfl hHP2)
   ·exact na rfl info34 (C1 false 0) fun q12 => tj [0,1,2,3,4,5,6,7,8,9,10] (hN83 (q12, q9084, q9085)) (uc rfl (U12 rfl rfl rfl rfl rfl rfl rfl rfl rfl rfl rfl rfl hLP2)) (P3 rfl rfl rfl hHP2)
   ·exact na rfl info34 (C1 false 0) fun q13 => tj [0,1,2,3,4,5,6,7,8,9,10] (hN86 (q13, q9084, q9085)) (uc rfl (U12 rfl rfl rfl rfl rfl rfl rfl rfl rfl rfl rfl rfl hLP2)) (P3 rfl rfl rfl hHP2)
   exact na rfl info34 (C1 false 0) fun q15 => tj [1,0,2,3,4,5,6,7,8,9,10] (hN88 (q9084, q15, q9085)) (uc rfl (U12 rfl rfl rfl rfl rfl rfl rfl rfl rfl rfl rfl rfl hLP2)) (P3 rfl rfl rfl hHP2)
  intro hN61
  refine an 13 25 800475 (fun (v56 : A2) => ⟨115, [], (15, Vp v56.1) :: (16, Vp v56.2) :: (32, S13) :: (33, S13) :: (35, S13) :: (36, S14) :: (38, S14) :: (39, S14) :: (41, S13) :: (42, S15) :: (44, S14) :: (45, S15) :: LP2, Ur v56.1 34 (C1 false 0) :: Ur v56.2 34 (C1 false 0) :: HP2⟩) ?_ ?_
  ·rintro ⟨q9086, q9087⟩
   refine al4 2 15 16 17 (by kernel_rfl) ?_ ?_ ?_ ?_
   ·exact no rfl (oz (ent_fn' Try.func25 isn25 rfl rfl) c7) fun _ => tj [0,1,2,3,4,5,6,7,8,9] (hN78 (q9086, q9087)) (U11 rfl rfl rfl rfl rfl rfl rfl rfl rfl rfl rfl hLP2) (P2 rfl rfl hHP2)
   ·exact na rfl info34 (C1 false 0) fun q12 => tj [0,1,2,3,4,5,6,7,8,9,10] (hN84 (q12, q9086, q9087)) (uc rfl (U12 rfl rfl rfl rfl rfl rfl rfl rfl rfl rfl rfl rfl hLP2)) (P3 rfl rfl rfl hHP2)
   ·exact na rfl info34 (C1 false 0) fun q13 => tj [0,1,2,3,4,5,6,7,8,9,10] (hN87 (q13, q9086, q9087)) (uc rfl (U12 rfl rfl rfl rfl rfl rfl rfl rfl rfl rfl rfl rfl hLP2)) (P3 rfl rfl rfl hHP2)
   exact na rfl info34 (C1 false 0) fun q14 => tj [0,1,2,3,4,5,6,7,8,9,10] (hN88 (q14, q9086, q9087)) (uc rfl (U12 rfl rfl rfl rfl rfl rfl rfl rfl rfl rfl rfl rfl hLP2)) (P3 rfl rfl rfl hHP2)
  intro hN62
  refine an 14 25 14047 (fun (v35 : Unit) => ⟨115, [], (34, S12) :: (35, S13) :: (36, S14) :: (38, S14) :: (39, S14) :: (41, S13) :: (42, S15) :: (44, S14) :: (45, S15) :: LP2, HP2⟩) ?_ ?_
  ·rintro ⟨⟩
   refine al6 5 15 16 17 18 19 (by kernel_rfl) ?_ ?_ ?_ ?_ ?_ ?_
   ·exact no rfl (oz (ent_fn' Try.func25 isn25 rfl rfl) c8) fun _ => tj [0,1,2,3,4,5,6,7] (hN47 ()) (U8 rfl rfl rfl rfl rfl rfl rfl rfl hLP2) hHP2
   ·exact na rfl info34 (C1 false 0) fun q12 => tj [0,1,2,3,4,5,6,7,8] (hN48 q12) (U10 rfl rfl rfl rfl rfl rfl rfl rfl rfl rfl hLP2) (P1 rfl hHP2)
   ·exact na rfl info34 (C1 false 0) fun q13 => tj [0,1,2,3,4,5,6,7,8] (hN49 q13) (U10 rfl rfl rfl rfl rfl rfl rfl rfl rfl rfl hLP2) (P1 rfl hHP2)
   ·exact na rfl info34 (C1 false 0) fun q14 => tj [0,1,2,3,4,5,6,7,8] (hN50 q14) (U10 rfl rfl rfl rfl rfl rfl rfl rfl rfl rfl hLP2) (P1 rfl hHP2)
   ·exact na rfl info34 (C1 false 0) fun q15 => tj [0,1,2,3,4,5,6,7,8] (hN51 q15) (U10 rfl rfl rfl rfl rfl rfl rfl rfl rfl rfl hLP2) (P1 rfl hHP2)
   exact na rfl info34 (C1 false 0) fun q16 => tj [0,1,2,3,4,5,6,7,8] (hN52 q16) (U10 rfl rfl rfl rfl rfl rfl rfl rfl rfl rfl hLP2) (P1 rfl hHP2)
  intro hN41
  refine an 14 25 46811 (fun (v36 : Addr) => ⟨115, [], (12, Vp v36) :: (32, S13) :: (33, S13) :: (35, S13) :: (36, S14) :: (38, S14) :: (39, S14) :: (41, S13) :: (42, S15) :: (44, S14) :: (45, S15) :: LP2, Ur v36 34 (C1 false 0) :: HP2⟩) ?_ ?_
  ·rintro q9058
   refine al5 2 16 17 18 19 (by kernel_rfl) ?_ ?_ ?_ ?_ ?_
   ·exact no rfl (oz (ent_fn' Try.func25 isn25 rfl rfl) c7) fun _ => tj [0,1,2,3,4,5,6,7,8] (hN48 q9058) (U10 rfl rfl rfl rfl rfl rfl rfl rfl rfl rfl hLP2) (P1 rfl hHP2)
   ·exact na rfl info34 (C1 false 0) fun q13 => tj [1,0,2,3,4,5,6,7,8,9] (hN53 (q9058, q13)) (U12 rfl rfl rfl rfl rfl rfl rfl rfl rfl rfl rfl rfl hLP2) (P2 rfl rfl hHP2)
   ·exact na rfl info34 (C1 false 0) fun q14 => tj [1,0,2,3,4,5,6,7,8,9] (hN54 (q9058, q14)) (U12 rfl rfl rfl rfl rfl rfl rfl rfl rfl rfl rfl rfl hLP2) (P2 rfl rfl hHP2)
   ·exact na rfl info34 (C1 false 0) fun q15 => tj [1,0,2,3,4,5,6,7,8,9] (hN55 (q9058, q15)) (U12 rfl rfl rfl rfl rfl rfl rfl rfl rfl rfl rfl rfl hLP2) (P2 rfl rfl hHP2)
   exact na rfl info34 (C1 false 0) fun q16 => tj [1,0,2,3,4,5,6,7,8,9] (hN56 (q9058, q16)) (U12 rfl rfl rfl rfl rfl rfl rfl rfl rfl rfl rfl rfl hLP2) (P2 rfl rfl hHP2)
  intro hN42
  refine an 14 25 79579 (fun (v37 : Addr) => ⟨115, [], (13, Vp v37) :: (32, S13) :: (33, S13) :: (35, S13) :: (36, S14) :: (38, S14) :: (39, S14) :: (41, S13) :: (42, S15) :: (44, S14) :: (45, S15) :: LP2, Ur v37 34 (C1 false 0) :: HP2⟩) ?_ ?_
  ·rintro q9059
   refine al5 2 15 17 18 19 (by kernel_rfl) ?_ ?_ ?_ ?_ ?_
   ·exact no rfl (oz (ent_fn' Try.func25 isn25 rfl rfl) c7) fun _ => tj [0,1,2,3,4,5,6,7,8] (hN49 q9059) (U10 rfl rfl rfl rfl rfl rfl rfl rfl rfl rfl hLP2) (P1 rfl hHP2)
   ·exact na rfl info34 (C1 false 0) fun q12 => tj [0,1,2,3,4,5,6,7,8,9] (hN53 (q12, q9059)) (U12 rfl rfl rfl rfl rfl rfl rfl rfl rfl rfl rfl rfl hLP2) (P2 rfl rfl hHP2)
   ·exact na rfl info34 (C1 false 0) fun q14 => tj [1,0,2,3,4,5,6,7,8,9] (hN57 (q9059, q14)) (U12 rfl rfl rfl rfl rfl rfl rfl rfl rfl rfl rfl rfl hLP2) (P2 rfl rfl hHP2)
   ·exact na rfl info34 (C1 false 0) fun q15 => tj [1,0,2,3,4,5,6,7,8,9] (hN58 (q9059, q15)) (U12 rfl rfl rfl rfl rfl rfl rfl rfl rfl rfl rfl rfl hLP2) (P2 rfl rfl hHP2)
   exact na rfl info34 (C1 false 0) fun q16 => tj [1,0,2,3,4,5,6,7,8,9] (hN59 (q9059, q16)) (U12 rfl rfl rfl rfl rfl rfl rfl rfl rfl rfl rfl rfl hLP2) (P2 rfl rfl hHP2)
  intro hN43
  refine an 14 25 145115 (fun (v38 : Addr) => ⟨115, [], (14, Vp v38) :: (32, S13) :: (33, S13) :: (35, S13) :: (36, S14) :: (38, S14) :: (39, S14) :: (41, S13) :: (42, S15) :: (44, S14) :: (45, S15) :: LP2, Ur v38 34 (C1 false 0) :: HP2⟩) ?_ ?_
  ·rintro q9060
   refine al5 2 15 16 18 19 (by kernel_rfl) ?_ ?_ ?_ ?_ ?_
   ·exact no rfl (oz (ent_fn' Try.func25 isn25 rfl rfl) c7) fun _ => tj [0,1,2,3,4,5,6,7,8] (hN50 q9060) (U10 rfl rfl rfl rfl rfl rfl rfl rfl rfl rfl hLP2) (P1 rfl hHP2)
   ·exact na rfl info34 (C1 false 0) fun q12 => tj [0,1,2,3,4,5,6,7,8,9] (hN54 (q12, q9060)) (U12 rfl rfl rfl rfl rfl rfl rfl rfl rfl rfl rfl rfl hLP2) (P2 rfl rfl hHP2)
   ·exact na rfl info34 (C1 false 0) fun q13 => tj [0,1,2,3,4,5,6,7,8,9] (hN57 (q13, q9060)) (U12 rfl rfl rfl rfl rfl rfl rfl rfl rfl rfl rfl rfl hLP2) (P2 rfl rfl hHP2)
   ·exact na rfl info34 (C1 false 0) fun q15 => tj [1,0,2,3,4,5,6,7,8,9] (hN60 (q9060, q15)) (U12 rfl rfl rfl rfl rfl rfl rfl rfl rfl rfl rfl rfl hLP2) (P2 rfl rfl hHP2)
   exact na rfl info34 (C1 false 0) fun q16 => tj [1,0,2,3,4,5,6,7,8,9] (hN61 (q9060, q16)) (U12 rfl rfl rfl rfl rfl rfl rfl rfl rfl rfl rfl rfl hLP2) (P2 rfl rfl hHP2)
  intro hN44
  refine an 14 25 276187 (fun (v39 : Addr) => ⟨115, [], (15, Vp v39) :: (32, S13) :: (33, S13) :: (35, S13) :: (36, S14) :: (38, S14) :: (39, S14) :: (41, S13) :: (42, S15) :: (44, S14) :: (45, S15) :: LP2, Ur v39 34 (C1 false 0) :: HP2⟩) ?_ ?_
  ·rintro q9061
   refine al5 2 15 16 17 19 (by kernel_rfl) ?_ ?_ ?_ ?_ ?_
   ·exact no rfl (oz (ent_fn' Try.func25 isn25 rfl rfl) c7) fun _ => tj [0,1,2,3,4,5,6,7,8] (hN51 q9061) (U10 rfl rfl rfl rfl rfl rfl rfl rfl rfl rfl hLP2) (P1 rfl hHP2)
   ·exact na rfl info34 (C1 false 0) fun q12 => tj [0,1,2,3,4,5,6,7,8,9] (hN55 (q12, q9061)) (U12 rfl rfl rfl rfl rfl rfl rfl rfl rfl rfl rfl rfl hLP2) (P2 rfl rfl hHP2)
   ·exact na rfl info34 (C1 false 0) fun q13 => tj [0,1,2,3,4,5,6,7,8,9] (hN58 (q13, q9061)) (U12 rfl rfl rfl rfl rfl rfl rfl rfl rfl rfl rfl rfl hLP2) (P2 rfl rfl hHP2)
   ·exact na rfl info34 (C1 false 0) fun q14 => tj [0,1,2,3,4,5,6,7,8,9] (hN60 (q14, q9061)) (U12 rfl rfl rfl rfl rfl rfl rfl rfl rfl rfl rfl rfl hLP2) (P2 rfl rfl hHP2)
   exact na rfl info34 (C1 false 0) fun q16 => tj [1,0,2,3,4,5,6,7,8,9] (hN62 (q9061, q16)) (U12 rfl rfl rfl rfl rfl rfl rfl rfl rfl rfl rfl rfl hLP2) (P2 rfl rfl hHP2)
  intro hN45
  refine an 14 25 538331 (fun (v40 : Addr) => ⟨115, [], (16, Vp v40) :: (32, S13) :: (33, S13) :: (35, S13) :: (36, S14) :: (38, S14) :: (39, S14) :: (41, S13) :: (42, S15) :: (44, S14) :: (45, S15) :: LP2, Ur v40 34 (C1 false 0) :: HP2⟩) ?_ ?_
  ·rintro q9062
   refine al5 2 15 16 17 18 (by kernel_rfl) ?_ ?_ ?_ ?_ ?_
   ·exact no rfl (oz (ent_fn' Try.func25 isn25 rfl rfl) c7) fun _ => tj [0,1,2,3,4,5,6,7,8] (hN52 q9062) (U10 rfl rfl rfl rfl rfl rfl rfl rfl rfl rfl hLP2) (P1 rfl hHP2)
   ·exact na rfl info34 (C1 false 0) fun q12 => tj [0,1,2,3,4,5,6,7,8,9] (hN56 (q12, q9062)) (U12 rfl rfl rfl rfl rfl rfl rfl rfl rfl rfl rfl rfl hLP2) (P2 rfl rfl hHP2)
   ·exact na rfl info34 (C1 false 0) fun q13 => tj [0,1,2,3,4,5,6,7,8,9] (hN59 (q13, q9062)) (U12 rfl rfl rfl rfl rfl rfl rfl rfl rfl rfl rfl rfl hLP2) (P2 rfl rfl hHP2)
   ·exact na rfl info34 (C1 false 0) fun q14 => tj [0,1,2,3,4,5,6,7,8,9] (hN61 (q14, q9062)) (U12 rfl rfl rfl rfl rfl rfl rfl rfl rfl rfl rfl rfl hLP2) (P2 rfl rfl hHP2)
   exact na rfl info34 (C1 false 0) fun q15 => tj [0,1,2,3,4,5,6,7,8,9] (hN62 (q15, q9062)) (U12 rfl rfl rfl rfl rfl rfl rfl rfl rfl rfl rfl rfl hLP2) (P2 rfl rfl hHP2)
  intro hN46
  refine al6 2 15 16 17 18 19 (by kernel_rfl) ?_ ?_ ?_ ?_ ?_ ?_
  ·exact no rfl (oz (ent_fn' Try.func25 isn25 rfl rfl) c7) fun _ => tj [3,4,5,6,7,0,1,2] (hN41 ()) (U9 rfl rfl rfl rfl rfl rfl rfl rfl rfl hLP2) hHP2
  ·exact na rfl info34 (C1 false 0) fun q12 => tj [0,4,5,6,7,8,1,2,3] (hN42 q12) (U11 rfl rfl rfl rfl rfl rfl rfl rfl rfl rfl rfl hLP2) (P1 rfl hHP2)
  ·exact na rfl info34 (C1 false 0) fun q13 => tj [0,4,5,6,7,8,1,2,3] (hN43 q13) (U11 rfl rfl rfl rfl rfl rfl rfl rfl rfl rfl rfl hLP2) (P1 rfl hHP2)
  ·exact na rfl info34 (C1 false 0) fun q14 => tj [0,4,5,6,7,8,1,2,3] (hN44 q14) (U11 rfl rfl rfl rfl rfl rfl rfl rfl rfl rfl rfl hLP2) (P1 rfl hHP2)
  ·exact na rfl info34 (C1 false 0) fun q15 => tj [0,4,5,6,7,8,1,2,3] (hN45 q15) (U11 rfl rfl rfl rfl rfl rfl rfl rfl rfl rfl rfl hLP2) (P1 rfl hHP2)
  exact na rfl info34 (C1 false 0) fun q16 => tj [0,4,5,6,7,8,1,2,3] (hN46 q16) (U11 rfl rfl rfl rfl rfl rfl rfl rfl rfl rfl rfl hLP2) (P1 rfl hHP2)
 intro hN271
 refine an 1 15 16383 (fun (v33 : A3) => ⟨115, [], (9, Vp v33.1) :: (10, Vp v33.2.1) :: (11, Vp v33.2.2) :: (31, S26) :: LP3, Ur v33.1 39 (C0 r25.1 r25.2.1 r25.2.2.1 r25.2.2.2.1 r25.2.2.2.2.1 r25.2.2.2.2.2.1 r25.2.2.2.2.2.2.1 r25.2.2.2.2.2.2.2.1 r25.2.2.2.2.2.2.2.2) :: Ur v33.2.1 39 (C0 r28.1 r28.2.1 r28.2.2.1 r28.2.2.2.1 r28.2.2.2.2.1 r28.2.2.2.2.2.1 r28.2.2.2.2.2.2.1 r28.2.2.2.2.2.2.2.1 r28.2.2.2.2.2.2.2.2) :: Ur v33.2.2 39 (C3 false 0 false 0 false 0) :: HP3⟩) ?_ ?_
 ·rintro ⟨q9052, q9053, q9054⟩
  refine al1 14 (by kernel_rfl) ?_
  ·refine nx_oxv rfl (oxv_store (i := 2) (o := 0) rfl rfl (lv_ag _) (ar rfl rfl rfl rfl) rfl info39 rfl (H' := [(Ur q9052 39 (C0 r25.1 r25.2.1 r25.2.2.1 r25.2.2.2.1 r25.2.2.2.2.1 r25.2.2.2.2.2.1 r25.2.2.2.2.2.2.1 r25.2.2.2.2.2.2.2.1 r25.2.2.2.2.2.2.2.2)), (Ur q9053 39 (C0 r28.1 r28.2.1 r28.2.2.1 r28.2.2.2.1 r28.2.2.2.2.1 r28.2.2.2.2.2.1 r28.2.2.2.2.2.2.1 r28.2.2.2.2.2.2.2.1 r28.2.2.2.2.2.2.2.2)), (Ur q9054 39 (C0 r31.1 r31.2.1 r31.2.2.1 r31.2.2.2.1 r31.2.2.2.2.1 r31.2.2.2.2.2.1 r31.2.2.2.2.2.2.1 r31.2.2.2.2.2.2.2.1 r31.2.2.2.2.2.2.2.2)), (Ur q4 39 (C0 a0_0 a0_1 a0_2 a0_3 a0_4 a0_5 a0_6 a0_7 a0_8)), (Ur q5 39 (C0 a1_0 a1_1 a1_2 a1_3 a1_4 a1_5 a1_6 a1_7 a1_8)), (Ur q6 39 (C0 a2_0 a2_1 a2_2 a2_3 a2_4 a2_5 a2_6 a2_7 a2_8)), (Ur q7 39 (C0 a3_0 a3_1 a3_2 a3_3 a3_4 a3_5 a3_6 a3_7 a3_8)), (Ur q8 36 (C5 false 0 false 0))]) rfl) rfl rfl bo_nil (wt_none' rfl) rfl fun _ => ?_
   exact tk [0,1,2,3,4,5,6,7] (u8 rfl rfl rfl rfl rfl rfl rfl rfl) (p8 rfl rfl rfl rfl rfl rfl rfl rfl) (hN271 (q9052, q9053, q9054))
 intro hN270
 refine an 2 15 8191 (fun (v32 : A3) => ⟨115, [], (9, Vp v32.1) :: (10, Vp v32.2.1) :: (11, Vp v32.2.2) :: (28, S25) :: (31, S26) :: LP3, Ur v32.1 39 (C0 r25.1 r25.2.1 r25.2.2.1 r25.2.2.2.1 r25.2.2.2.2.1 r25.2.2.2.2.2.1 r25.2.2.2.2.2.2.1 r25.2.2.2.2.2.2.2.1 r25.2.2.2.2.2.2.2.2) :: Ur v32.2.1 39 (C3 false 0 false 0 false 0) :: Ur v32.2.2 39 (C3 false 0 false 0 false 0) :: HP3⟩) ?_ ?_
 ·rintro ⟨q9049, q9050, q9051⟩
  refine al1 13 (by kernel_rfl) ?_
  ·refine nx_oxv rfl (oxv_store (i := 1) (o := 0) rfl rfl (lv_ag _) (ar rfl rfl rfl rfl) rfl info39 rfl (H' := [(Ur q9049 39 (C0 r25.1 r25.2.1 r25.2.2.1 r25.2.2.2.1 r25.2.2.2.2.1 r25.2.2.2.2.2.1 r25.2.2.2.2.2.2.1 r25.2.2.2.2.2.2.2.1 r25.2.2.2.2.2.2.2.2)), (Ur q9050 39 (C0 r28.1 r28.2.1 r28.2.2.1 r28.2.2.2.1 r28.2.2.2.2.1 r28.2.2.2.2.2.1 r28.2.2.2.2.2.2.1 r28.2.2.2.2.2.2.2.1 r28.2.2.2.2.2.2.2.2)), (Ur q9051 39 (C3 false 0 false 0 false 0)), (Ur q4 39 (C0 a0_0 a0_1 a0_2 a0_3 a0_4 a0_5 a0_6 a0_7 a0_8)), (Ur q5 39 (C0 a1_0 a1_1 a1_2 a1_3 a1_4 a1_5 a1_6 a1_7 a1_8)), (Ur q6 39 (C0 a2_0 a2_1 a2_2 a2_3 a2_4 a2_5 a2_6 a2_7 a2_8)), (Ur q7 39 (C0 a3_0 a3_1 a3_2 a3_3 a3_4 a3_5 a3_6 a3_7 a3_8)), (Ur q8 36 (C5 false 0 false 0))]) rfl) rfl rfl bo_nil (wt_none' rfl) rfl fun _ => ?_
   exact tj [0,1,2,3,4,5,6,7] (hN270 (q9049, q9050, q9051)) (U4 rfl rfl rfl rfl hLP3) (P3 rfl rfl rfl hHP3)
 intro hN269
 refine an 3 15 4095 (fun (v31 : A3) => ⟨115, [], (9, Vp v31.1) :: (10, Vp v31.2.1) :: (11, Vp v31.2.2) :: (25, S20) :: (28, S25) :: (31, S26) :: LP3, Ur v31.1 39 (C3 false 0 false 0 false 0) :: Ur v31.2.1 39 (C3 false 0 false 0 false 0) :: Ur v31.2.2 39 (C3 false 0 false 0 false 0) :: HP3⟩) ?_ ?_
 ·rintro ⟨q9046, q9047, q9048⟩
  refine al1 12 (by kernel_rfl) ?_
  ·refine nx_oxv rfl (oxv_store (i := 0) (o := 0) rfl rfl (lv_ag _) (ar rfl rfl rfl rfl) rfl info39 rfl (H' := [(Ur q9046 39 (C0 r25.1 r25.2.1 r25.2.2.1 r25.2.2.2.1 r25.2.2.2.2.1 r25.2.2.2.2.2.1 r25.2.2.2.2.2.2.1 r25.2.2.2.2.2.2.2.1 r25.2.2.2.2.2.2.2.2)), (Ur q9047 39 (C3 false 0 false 0 false 0)), (Ur q9048 39 (C3 false 0 false 0 false 0)), (Ur q4 39 (C0 a0_0 a0_1 a0_2 a0_3 a0_4 a0_5 a0_6 a0_7 a0_8)), (Ur q5 39 (C0 a1_0 a1_1 a1_2 a1_3 a1_4 a1_5 a1_6 a1_7 a1_8)), (Ur q6 39 (C0 a2_0 a2_1 a2_2 a2_3 a2_4 a2_5 a2_6 a2_7 a2_8)), (Ur q7 39 (C0 a3_0 a3_1 a3_2 a3_3 a3_4 a3_5 a3_6 a3_7 a3_8)), (Ur q8 36 (C5 false 0 false 0))]) rfl) rfl rfl bo_nil (wt_none' rfl) rfl fun _ => ?_
   exact tj [0,1,2,3,4,5,6,7] (hN269 (q9046, q9047, q9048)) (U5 rfl rfl rfl rfl rfl hLP3) (P3 rfl rfl rfl hHP3)
 intro hN268
 refine an 4 15 2047 (fun (v27 : A2) => ⟨115, [], (9, Vp v27.1) :: (10, Vp v27.2) :: (25, S20) :: (28, S25) :: (31, S26) :: LP3, Ur v27.1 39 (C3 false 0 false 0 false 0) :: Ur v27.2 39 (C3 false 0 false 0 false 0) :: HP3⟩) ?_ ?_
 ·rintro ⟨q9037, q9038⟩
  refine al1 11 (by kernel_rfl) ?_
  ·exact na rfl info39 (C3 false 0 false 0 false 0) fun q11 => tj [1,2,0,3,4,5,6,7] (hN268 (q9037, q9038, q11)) (U6 rfl rfl rfl rfl rfl rfl hLP3) (P3 rfl rfl rfl hHP3)
 intro hN264
 refine an 4 15 3071 (fun (v28 : A2) => ⟨115, [], (9, Vp v28.1) :: (11, Vp v28.2) :: (25, S20) :: (28, S25) :: (31, S26) :: LP3, Ur v28.1 39 (C3 false 0 false 0 false 0) :: Ur v28.2 39 (C3 false 0 false 0 false 0) :: HP3⟩) ?_ ?_
 ·rintro ⟨q9039, q9040⟩
  refine al1 10 (by kernel_rfl) ?_
  ·exact na rfl info39 (C3 false 0 false 0 false 0) fun q10 => tj [1,0,2,3,4,5,6,7] (hN268 (q9039, q10, q9040)) (U6 rfl rfl rfl rfl rfl rfl hLP3) (P3 rfl rfl rfl hHP3)
 intro hN265
 refine an 4 15 3583 (fun (v29 : A2) => ⟨115, [], (10, Vp v29.1) :: (11, Vp v29.2) :: (25, S20) :: (28, S25) :: (31, S26) :: LP3, Ur v29.1 39 (C3 false 0 false 0 false 0) :: Ur v29.2 39 (C3 false 0 false 0 false 0) :: HP3⟩) ?_ ?_
 ·rintro ⟨q9041, q9042⟩
  refine al1 9 (by kernel_rfl) ?_
  ·exact na rfl info39 (C3 false 0 false 0 false 0) fun q9 => tj [0,1,2,3,4,5,6,7] (hN268 (q9, q9041, q9042)) (U6 rfl rfl rfl rfl rfl rfl hLP3) (P3 rfl rfl rfl hHP3)
 intro hN266
 refine an 4 15 3839 (fun (v30 : A3) => ⟨115, [], (9, Vp v30.1) :: (10, Vp v30.2.1) :: (11, Vp v30.2.2) :: (25, S20) :: (28, S25) :: (29, S23) :: (30, S22) :: LP3, Ur v30.1 39 (C3 false 0 false 0 false 0) :: Ur v30.2.1 39 (C3 false 0 false 0 false 0) :: Ur v30.2.2 39 (C3 false 0 false 0 false 0) :: HP3⟩) ?_ ?_
 ·rintro ⟨q9043, q9044, q9045⟩
  refine al1 8 (by kernel_rfl) ?_
  ·exact no rfl (oz (ent_fn' Try.func24 isn24 rfl rfl) c14) fun _ => tj [0,1,2,3,4,5,6,7] (hN268 (q9043, q9044, q9045)) (U6 rfl rfl rfl rfl rfl rfl hLP3) (P3 rfl rfl rfl hHP3)
 intro hN267
 refine an 5 15 1023 (fun (v20 : Addr) => ⟨115, [], (9, Vp v20) :: (25, S20) :: (28, S25) :: (31, S26) :: LP3, Ur v20 39 (C3 false 0 false 0 false 0) :: HP3⟩) ?_ ?_
 ·rintro q9025
  refine al2 10 11 (by kernel_rfl) ?_ ?_
  ·exact na rfl info39 (C3 false 0 false 0 false 0) fun q10 => tj [1,0,2,3,4,5,6] (hN264 (q9025, q10)) (U5 rfl rfl rfl rfl rfl hLP3) (P2 rfl rfl hHP3)
  exact na rfl info39 (C3 false 0 false 0 false 0) fun q11 => tj [1,0,2,3,4,5,6] (hN265 (q9025, q11)) (U5 rfl rfl rfl rfl rfl hLP3) (P2 rfl rfl hHP3)
 intro hN257
 refine an 5 15 1535 (fun (v21 : Addr) => ⟨115, [], (10, Vp v21) :: (25, S20) :: (28, S25) :: (31, S26) :: LP3, Ur v21 39 (C3 false 0 false 0 false 0) :: HP3⟩) ?_ ?_
 ·rintro q9026
  refine al2 9 11 (by kernel_rfl) ?_ ?_
  ·exact na rfl info39 (C3 false 0 false 0 false 0) fun q9 => tj [0,1,2,3,4,5,6] (hN264 (q9, q9026)) (U5 rfl rfl rfl rfl rfl hLP3) (P2 rfl rfl hHP3)
  exact na rfl info39 (C3 false 0 false 0 false 0) fun q11 => tj [1,0,2,3,4,5,6] (hN266 (q9026, q11)) (U5 rfl rfl rfl rfl rfl hLP3) (P2 rfl rfl hHP3)
 intro hN258
 refine an 5 15 2559 (fun (v22 : Addr) => ⟨115, [], (11, Vp v22) :: (25, S20) :: (28, S25) :: (31, S26) :: LP3, Ur v22 39 (C3 false 0 false 0 false 0) :: HP3⟩) ?_ ?_
 ·rintro q9027
  refine al2 9 10 (by kernel_rfl) ?_ ?_
  ·exact na rfl info39 (C3 false 0 false 0 false 0) fun q9 => tj [0,1,2,3,4,5,6] (hN265 (q9, q9027)) (U5 rfl rfl rfl rfl rfl hLP3) (P2 rfl rfl hHP3)
  exact na rfl info39 (C3 false 0 false 0 false 0) fun q10 => tj [0,1,2,3,4,5,6] (hN266 (q10, q9027)) (U5 rfl rfl rfl rfl rfl hLP3) (P2 rfl rfl hHP3)
 intro hN259
 refine an 5 15 1791 (fun (v23 : A2) => ⟨115, [], (9, Vp v23.1) :: (10, Vp v23.2) :: (25, S20) :: (28, S25) :: (29, S23) :: (30, S22) :: LP3, Ur v23.1 39 (C3 false 0 false 0 false 0) :: Ur v23.2 39 (C3 false 0 false 0 false 0) :: HP3⟩) ?_ ?_
 ·rintro ⟨q9028, q9029⟩
  refine al2 8 11 (by kernel_rfl) ?_ ?_
  ·exact no rfl (oz (ent_fn' Try.func24 isn24 rfl rfl) c14) fun _ => tj [0,1,2,3,4,5,6] (hN264 (q9028, q9029)) (U5 rfl rfl rfl rfl rfl hLP3) (P2 rfl rfl hHP3)
  exact na rfl info39 (C3 false 0 false 0 false 0) fun q11 => tj [1,2,0,3,4,5,6,7] (hN267 (q9028, q9029, q11)) (U7 rfl rfl rfl rfl rfl rfl rfl hLP3) (P3 rfl rfl rfl hHP3)
 intro hN260
 refine an 5 15 2815 (fun (v24 : A2) => ⟨115, [], (9, Vp v24.1) :: (11, Vp v24.2) :: (25, S20) :: (28, S25) :: (29, S23) :: (30, S22) :: LP3, Ur v24.1 39 (C3 false 0 false 0 false 0) :: Ur v24.2 39 (C3 false 0 false 0 false 0) :: HP3⟩) ?_ ?_
 ·rintro ⟨q9030, q9031⟩
  refine al2 8 10 (by kernel_rfl) ?_ ?_
  ·exact no rfl (oz (ent_fn' Try.func24 isn24 rfl rfl) c14) fun _ => tj [0,1,2,3,4,5,6] (hN265 (q9030, q9031)) (U5 rfl rfl rfl rfl rfl hLP3) (P2 rfl rfl hHP3)
  exact na rfl info39 (C3 false 0 false 0 false 0) fun q10 => tj [1,0,2,3,4,5,6,7] (hN267 (q9030, q10, q9031)) (U7 rfl rfl rfl rfl rfl rfl rfl hLP3) (P3 rfl rfl rfl hHP3)
 intro hN261
 refine an 5 15 3327 (fun (v25 : A2) => ⟨115, [], (10, Vp v25.1) :: (11, Vp v25.2) :: (25, S20) :: (28, S25) :: (29, S23) :: (30, S22) :: LP3, Ur v25.1 39 (C3 false 0 false 0 false 0) :: Ur v25.2 39 (C3 false 0 false 0 false 0) :: HP3⟩) ?_ ?_
 ·rintro ⟨q9032, q9033⟩
  refine al2 8 9 (by kernel_rfl) ?_ ?_
  ·exact no rfl (oz (ent_fn' Try.func24 isn24 rfl rfl) c14) fun _ => tj [0,1,2,3,4,5,6] (hN266 (q9032, q9033)) (U5 rfl rfl rfl rfl rfl hLP3) (P2 rfl rfl hHP3)
  exact na rfl info39 (C3 false 0 false 0 false 0) fun q9 => tj [0,1,2,3,4,5,6,7] (hN267 (q9, q9032, q9033)) (U7 rfl rfl rfl rfl rfl rfl rfl hLP3) (P3 rfl rfl rfl hHP3)
 intro hN262
 refine an 5 15 3807 (fun (v26 : A3) => ⟨115, [], (9, Vp v26.1) :: (10, Vp v26.2.1) :: (11, Vp v26.2.2) :: (25, S20) :: (26, S21) :: (27, S22) :: (29, S23) :: (30, S22) :: LP3, Ur v26.1 39 (C3 false 0 false 0 false 0) :: Ur v26.2.1 39 (C3 false 0 false 0 false 0) :: Ur v26.2.2 39 (C3 false 0 false 0 false 0) :: HP3⟩) ?_ ?_
 ·rintro ⟨q9034, q9035, q9036⟩
  refine al1 5 (by kernel_rfl) ?_
  ·exact no rfl (oz (ent_fn' Try.func24 isn24 rfl rfl) c13) fun _ => tj [0,1,2,3,4,5,6,7] (hN267 (q9034, q9035, q9036)) (U7 rfl rfl rfl rfl rfl rfl rfl hLP3) (P3 rfl rfl rfl hHP3)
 intro hN263
 refine an 6 15 511 (fun (v12 : Unit) => ⟨115, [], (25, S20) :: (28, S25) :: (31, S26) :: LP3, HP3⟩) ?_ ?_
 ·rintro ⟨⟩
  refine al3 9 10 11 (by kernel_rfl) ?_ ?_ ?_
  ·exact na rfl info39 (C3 false 0 false 0 false 0) fun q9 => tj [0,1,2,3,4,5] (hN257 q9) (U4 rfl rfl rfl rfl hLP3) (P1 rfl hHP3)
  ·exact na rfl info39 (C3 false 0 false 0 false 0) fun q10 => tj [0,1,2,3,4,5] (hN258 q10) (U4 rfl rfl rfl rfl hLP3) (P1 rfl hHP3)
  exact na rfl info39 (C3 false 0 false 0 false 0) fun q11 => tj [0,1,2,3,4,5] (hN259 q11) (U4 rfl rfl rfl rfl hLP3) (P1 rfl hHP3)
 intro hN249
 refine an 6 15 767 (fun (v13 : Addr) => ⟨115, [], (9, Vp v13) :: (25, S20) :: (28, S25) :: (29, S23) :: (30, S22) :: LP3, Ur v13 39 (C3 false 0 false 0 false 0) :: HP3⟩) ?_ ?_
 ·rintro q9013
  refine al3 8 10 11 (by kernel_rfl) ?_ ?_ ?_
  ·exact no rfl (oz (ent_fn' Try.func24 isn24 rfl rfl) c14) fun _ => tj [0,1,2,3,4,5] (hN257 q9013) (U4 rfl rfl rfl rfl hLP3) (P1 rfl hHP3)
  ·exact na rfl info39 (C3 false 0 false 0 false 0) fun q10 => tj [1,0,2,3,4,5,6] (hN260 (q9013, q10)) (U6 rfl rfl rfl rfl rfl rfl hLP3) (P2 rfl rfl hHP3)
  exact na rfl info39 (C3 false 0 false 0 false 0) fun q11 => tj [1,0,2,3,4,5,6] (hN261 (q9013, q11)) (U6 rfl rfl rfl rfl rfl rfl hLP3) (P2 rfl rfl hHP3)
 intro hN250
 refine an 6 15 1279 (fun (v14 : Addr) => ⟨115, [], (10, Vp v14) :: (25, S20) :: (28, S25) :: (29, S23) :: (30, S22) :: LP3, Ur v14 39 (C3 false 0 false 0 false 0) :: HP3⟩) ?_ ?_
 ·rintro q9014
  refine al3 8 9 11 (by kernel_rfl) ?_ ?_ ?_
  ·exact no rfl (oz (ent_fn' Try.func24 isn24 rfl rfl) c14) fun _ => tj [0,1,2,3,4,5] (hN258 q9014) (U4 rfl rfl rfl rfl hLP3) (P1 rfl hHP3)
  ·exact na rfl info39 (C3 false 0 false 0 false 0) fun q9 => tj [0,1,2,3,4,5,6] (hN260 (q9, q9014)) (U6 rfl rfl rfl rfl rfl rfl hLP3) (P2 rfl rfl hHP3)
  exact na rfl info39 (C3 false 0 false 0 false 0) fun q11 => tj [1,0,2,3,4,5,6] (hN262 (q9014, q11)) (U6 rfl rfl rfl rfl rfl rfl hLP3) (P2 rfl rfl hHP3)
 intro hN251
 refine an 6 15 2303 (fun (v15 : Addr) => ⟨115, [], (11, Vp v15) :: (25, S20) :: (28, S25) :: (29, S23) :: (30, S22) :: LP3, Ur v15 39 (C3 false 0 false 0 false 0) :: HP3⟩) ?_ ?_
 ·rintro q9015
  refine al3 8 9 10 (by kernel_rfl) ?_ ?_ ?_
  ·exact no rfl (oz (ent_fn' Try.func24 isn24 rfl rfl) c14) fun _ => tj [0,1,2,3,4,5] (hN259 q9015) (U4 rfl rfl rfl rfl hLP3) (P1 rfl hHP3)
  ·exact na rfl info39 (C3 false 0 false 0 false 0) fun q9 => tj [0,1,2,3,4,5,6] (hN261 (q9, q9015)) (U6 rfl rfl rfl rfl rfl rfl hLP3) (P2 rfl rfl hHP3)
  exact na rfl info39 (C3 false 0 false 0 false 0) fun q10 => tj [0,1,2,3,4,5,6] (hN262 (q10, q9015)) (U6 rfl rfl rfl rfl rfl rfl hLP3) (P2 rfl rfl hHP3)
 intro hN252
 refine an 6 15 1759 (fun (v16 : A2) => ⟨115, [], (9, Vp v16.1) :: (10, Vp v16.2) :: (25, S20) :: (26, S21) :: (27, S22) :: (29, S23) :: (30, S22) :: LP3, Ur v16.1 39 (C3 false 0 false 0 false 0) :: Ur v16.2 39 (C3 false 0 false 0 false 0) :: HP3⟩) ?_ ?_
 ·rintro ⟨q9016, q9017⟩
  refine al2 5 11 (by kernel_rfl) ?_ ?_
  ·exact no rfl (oz (ent_fn' Try.func24 isn24 rfl rfl) c13) fun _ => tj [0,1,2,3,4,5,6] (hN260 (q9016, q9017)) (U6 rfl rfl rfl rfl rfl rfl hLP3) (P2 rfl rfl hHP3)
  exact na rfl info39 (C3 false 0 false 0 false 0) fun q11 => tj [1,2,0,3,4,5,6,7] (hN263 (q9016, q9017, q11)) (U8 rfl rfl rfl rfl rfl rfl rfl rfl hLP3) (P3 rfl rfl rfl hHP3)
 intro hN253
 refine an 6 15 2783 (fun (v17 : A2) => ⟨115, [], (9, Vp v17.1) :: (11, Vp v17.2) :: (25, S20) :: (26, S21) :: (27, S22) :: (29, S23) :: (30, S22) :: LP3, Ur v17.1 39 (C3 false 0 false 0 false 0) :: Ur v17.2 39 (C3 false 0 false 0 false 0) :: HP3⟩) ?_ ?_
 ·rintro ⟨q9018, q9019⟩
  refine al2 5 10 (by kernel_rfl) ?_ ?_
  ·exact no rfl (oz (ent_fn' Try.func24 isn24 rfl rfl) c13) fun _ => tj [0,1,2,3,4,5,6] (hN261 (q9018, q9019)) (U6 rfl rfl rfl rfl rfl rfl hLP3) (P2 rfl rfl hHP3)
  exact na rfl info39 (C3 false 0 false 0 false 0) fun q10 => tj [1,0,2,3,4,5,6,7] (hN263 (q9018, q10, q9019)) (U8 rfl rfl rfl rfl rfl rfl rfl rfl hLP3) (P3 rfl rfl rfl hHP3)
 intro hN254
 refine an 6 15 3295 (fun (v18 : A2) => ⟨115, [], (10, Vp v18.1) :: (11, Vp v18.2) :: (25, S20) :: (26, S21) :: (27, S22) :: (29, S23) :: (30, S22) :: LP3, Ur v18.1 39 (C3 false 0 false 0 false 0) :: Ur v18.2 39 (C3 false 0 false 0 false 0) :: HP3⟩) ?_ ?_
 ·rintro ⟨q9020, q9021⟩
  refine al2 5 9 (by kernel_rfl) ?_ ?_
  ·exact no rfl (oz (ent_fn' Try.func24 isn24 rfl rfl) c13) fun _ => tj [0,1,2,3,4,5,6] (hN262 (q9020, q9021)) (U6 rfl rfl rfl rfl rfl rfl hLP3) (P2 rfl rfl hHP3)
  exact na rfl info39 (C3 false 0 false 0 false 0) fun q9 => tj [0,1,2,3,4,5,6,7] (hN263 (q9, q9020, q9021)) (U8 rfl rfl rfl rfl rfl rfl rfl rfl hLP3) (P3 rfl rfl rfl hHP3)
 intro hN255
 refine an 6 15 3803 (fun (v19 : A3) => ⟨115, [], (9, Vp v19.1) :: (10, Vp v19.2.1) :: (11, Vp v19.2.2) :: (23, S24) :: (24, S23) :: (26, S21) :: (27, S22) :: (29, S23) :: (30, S22) :: LP3, Ur v19.1 39 (C3 false 0 false 0 false 0) :: Ur v19.2.1 39 (C3 false 0 false 0 false 0) :: Ur v19.2.2 39 (C3 false 0 false 0 false 0) :: HP3⟩) ?_ ?_
 ·rintro ⟨q9022, q9023, q9024⟩
  refine al1 2 (by kernel_rfl) ?_
  ·exact no rfl (oz (ent_fn' Try.func24 isn24 rfl rfl) c12) fun _ => tj [0,1,2,3,4,5,6,7] (hN263 (q9022, q9023, q9024)) (U8 rfl rfl rfl rfl rfl rfl rfl rfl hLP3) (P3 rfl rfl rfl hHP3)
 intro hN256
 refine an 7 15 255 (fun (v5 : Unit) => ⟨115, [], (25, S20) :: (28, S25) :: (29, S23) :: (30, S22) :: LP3, HP3⟩) ?_ ?_
 ·rintro ⟨⟩
  refine al4 8 9 10 11 (by kernel_rfl) ?_ ?_ ?_ ?_
  ·exact no rfl (oz (ent_fn' Try.func24 isn24 rfl rfl) c14) fun _ => tj [0,1,2,3,4] (hN249 ()) (U3 rfl rfl rfl hLP3) hHP3
  ·exact na rfl info39 (C3 false 0 false 0 false 0) fun q9 => tj [0,1,2,3,4,5] (hN250 q9) (U5 rfl rfl rfl rfl rfl hLP3) (P1 rfl hHP3)
  ·exact na rfl info39 (C3 false 0 false 0 false 0) fun q10 => tj [0,1,2,3,4,5] (hN251 q10) (U5 rfl rfl rfl rfl rfl hLP3) (P1 rfl hHP3)
  exact na rfl info39 (C3 false 0 false 0 false 0) fun q11 => tj [0,1,2,3,4,5] (hN252 q11) (U5 rfl rfl rfl rfl rfl hLP3) (P1 rfl hHP3)
 intro hN242
 refine an 7 15 735 (fun (v6 : Addr) => ⟨115, [], (9, Vp v6) :: (25, S20) :: (26, S21) :: (27, S22) :: (29, S23) :: (30, S22) :: LP3, Ur v6 39 (C3 false 0 false 0 false 0) :: HP3⟩) ?_ ?_
 ·rintro q904
  refine al3 5 10 11 (by kernel_rfl) ?_ ?_ ?_
  ·exact no rfl (oz (ent_fn' Try.func24 isn24 rfl rfl) c13) fun _ => tj [0,1,2,3,4,5] (hN250 q904) (U5 rfl rfl rfl rfl rfl hLP3) (P1 rfl hHP3)
  ·exact na rfl info39 (C3 false 0 false 0 false 0) fun q10 => tj [1,0,2,3,4,5,6] (hN253 (q904, q10)) (U7 rfl rfl rfl rfl rfl rfl rfl hLP3) (P2 rfl rfl hHP3)
  exact na rfl info39 (C3 false 0 false 0 false 0) fun q11 => tj [1,0,2,3,4,5,6] (hN254 (q904, q11)) (U7 rfl rfl rfl rfl rfl rfl rfl hLP3) (P2 rfl rfl hHP3)
 intro hN243
 refine an 7 15 1247 (fun (v7 : Addr) => ⟨115, [], (10, Vp v7) :: (25, S20) :: (26, S21) :: (27, S22) :: (29, S23) :: (30, S22) :: LP3, Ur v7 39 (C3 false 0 false 0 false 0) :: HP3⟩) ?_ ?_
 ·rintro q905
  refine al3 5 9 11 (by kernel_rfl) ?_ ?_ ?_
  ·exact no rfl (oz (ent_fn' Try.func24 isn24 rfl rfl) c13) fun _ => tj [0,1,2,3,4,5] (hN251 q905) (U5 rfl rfl rfl rfl rfl hLP3) (P1 rfl hHP3)
  ·exact na rfl info39 (C3 false 0 false 0 false 0) fun q9 => tj [0,1,2,3,4,5,6] (hN253 (q9, q905)) (U7 rfl rfl rfl rfl rfl rfl rfl hLP3) (P2 rfl rfl hHP3)
  exact na rfl info39 (C3 false 0 false 0 false 0) fun q11 => tj [1,0,2,3,4,5,6] (hN255 (q905, q11)) (U7 rfl rfl rfl rfl rfl rfl rfl hLP3) (P2 rfl rfl hHP3)
 intro hN244
 refine an 7 15 2271 (fun (v8 : Addr) => ⟨115, [], (11, Vp v8) :: (25, S20) :: (26, S21) :: (27, S22) :: (29, S23) :: (30, S22) :: LP3, Ur v8 39 (C3 false 0 false 0 false 0) :: HP3⟩) ?_ ?_
 ·rintro q906
  refine al3 5 9 10 (by kernel_rfl) ?_ ?_ ?_
  ·exact no rfl (oz (ent_fn' Try.func24 isn24 rfl rfl) c13) fun _ => tj [0,1,2,3,4,5] (hN252 q906) (U5 rfl rfl rfl rfl rfl hLP3) (P1 rfl hHP3)
  ·exact na rfl info39 (C3 false 0 false 0 false 0) fun q9 => tj [0,1,2,3,4,5,6] (hN254 (q9, q906)) (U7 rfl rfl rfl rfl rfl rfl rfl hLP3) (P2 rfl rfl hHP3)
  exact na rfl info39 (C3 false 0 false 0 false 0) fun q10 => tj [0,1,2,3,4,5,6] (hN255 (q10, q906)) (U7 rfl rfl rfl rfl rfl rfl rfl hLP3) (P2 rfl rfl hHP3)
 intro hN245
 refine an 7 15 1755 (fun (v9 : A2) => ⟨115, [], (9, Vp v9.1) :: (10, Vp v9.2) :: (23, S24) :: (24, S23) :: (26, S21) :: (27, S22) :: (29, S23) :: (30, S22) :: LP3, Ur v9.1 39 (C3 false 0 false 0 false 0) :: Ur v9.2 39 (C3 false 0 false 0 false 0) :: HP3⟩) ?_ ?_
 ·rintro ⟨q907, q908⟩
  refine al2 2 11 (by kernel_rfl) ?_ ?_
  ·exact no rfl (oz (ent_fn' Try.func24 isn24 rfl rfl) c12) fun _ => tj [0,1,2,3,4,5,6] (hN253 (q907, q908)) (U7 rfl rfl rfl rfl rfl rfl rfl hLP3) (P2 rfl rfl hHP3)
  exact na rfl info39 (C3 false 0 false 0 false 0) fun q11 => tj [1,2,0,3,4,5,6,7] (hN256 (q907, q908, q11)) (U9 rfl rfl rfl rfl rfl rfl rfl rfl rfl hLP3) (P3 rfl rfl rfl hHP3)
 intro hN246
 refine an 7 15 2779 (fun (v10 : A2) => ⟨115, [], (9, Vp v10.1) :: (11, Vp v10.2) :: (23, S24) :: (24, S23) :: (26, S21) :: (27, S22) :: (29, S23) :: (30, S22) :: LP3, Ur v10.1 39 (C3 false 0 false 0 false 0) :: Ur v10.2 39 (C3 false 0 false 0 false 0) :: HP3⟩) ?_ ?_
 ·rintro ⟨q909, q9010⟩
  refine al2 2 10 (by kernel_rfl) ?_ ?_
  ·exact no rfl (oz (ent_fn' Try.func24 isn24 rfl rfl) c12) fun _ => tj [0,1,2,3,4,5,6] (hN254 (q909, q9010)) (U7 rfl rfl rfl rfl rfl rfl rfl hLP3) (P2 rfl rfl hHP3)
  exact na rfl info39 (C3 false 0 false 0 false 0) fun q10 => tj [1,0,2,3,4,5,6,7] (hN256 (q909, q10, q9010)) (U9 rfl rfl rfl rfl rfl rfl rfl rfl rfl hLP3) (P3 rfl rfl rfl hHP3)
 intro hN247
 refine an 7 15 3291 (fun (v11 : A2) => ⟨115, [], (10, Vp v11.1) :: (11, Vp v11.2) :: (23, S24) :: (24, S23) :: (26, S21) :: (27, S22) :: (29, S23) :: (30, S22) :: LP3, Ur v11.1 39 (C3 false 0 false 0 false 0) :: Ur v11.2 39 (C3 false 0 false 0 false 0) :: HP3⟩) ?_ ?_
 ·rintro ⟨q9011, q9012⟩
  refine al2 2 9 (by kernel_rfl) ?_ ?_
  ·exact no rfl (oz (ent_fn' Try.func24 isn24 rfl rfl) c12) fun _ => tj [0,1,2,3,4,5,6] (hN255 (q9011, q9012)) (U7 rfl rfl rfl rfl rfl rfl rfl hLP3) (P2 rfl rfl hHP3)
  exact na rfl info39 (C3 false 0 false 0 false 0) fun q9 => tj [0,1,2,3,4,5,6,7] (hN256 (q9, q9011, q9012)) (U9 rfl rfl rfl rfl rfl rfl rfl rfl rfl hLP3) (P3 rfl rfl rfl hHP3)
 intro hN248
 refine an 8 15 223 (fun (v1 : Unit) => ⟨115, [], (25, S20) :: (26, S21) :: (27, S22) :: (29, S23) :: (30, S22) :: LP3, HP3⟩) ?_ ?_
 ·rintro ⟨⟩
  refine al4 5 9 10 11 (by kernel_rfl) ?_ ?_ ?_ ?_
  ·exact no rfl (oz (ent_fn' Try.func24 isn24 rfl rfl) c13) fun _ => tj [0,1,2,3,4] (hN242 ()) (U4 rfl rfl rfl rfl hLP3) hHP3
  ·exact na rfl info39 (C3 false 0 false 0 false 0) fun q9 => tj [0,1,2,3,4,5] (hN243 q9) (U6 rfl rfl rfl rfl rfl rfl hLP3) (P1 rfl hHP3)
  ·exact na rfl info39 (C3 false 0 false 0 false 0) fun q10 => tj [0,1,2,3,4,5] (hN244 q10) (U6 rfl rfl rfl rfl rfl rfl hLP3) (P1 rfl hHP3)
  exact na rfl info39 (C3 false 0 false 0 false 0) fun q11 => tj [0,1,2,3,4,5] (hN245 q11) (U6 rfl rfl rfl rfl rfl rfl hLP3) (P1 rfl hHP3)
 intro hN238
 refine an 8 15 731 (fun (v2 : Addr) => ⟨115, [], (9, Vp v2) :: (23, S24) :: (24, S23) :: (26, S21) :: (27, S22) :: (29, S23) :: (30, S22) :: LP3, Ur v2 39 (C3 false 0 false 0 false 0) :: HP3⟩) ?_ ?_
 ·rintro q901
  refine al3 2 10 11 (by kernel_rfl) ?_ ?_ ?_
  ·exact no rfl (oz (ent_fn' Try.func24 isn24 rfl rfl) c12) fun _ => tj [0,1,2,3,4,5] (hN243 q901) (U6 rfl rfl rfl rfl rfl rfl hLP3) (P1 rfl hHP3)
  ·exact na rfl info39 (C3 false 0 false 0 false 0) fun q10 => tj [1,0,2,3,4,5,6] (hN246 (q901, q10)) (U8 rfl rfl rfl rfl rfl rfl rfl rfl hLP3) (P2 rfl rfl hHP3)
  exact na rfl info39 (C3 false 0 false 0 false 0) fun q11 => tj [1,0,2,3,4,5,6] (hN247 (q901, q11)) (U8 rfl rfl rfl rfl rfl rfl rfl rfl hLP3) (P2 rfl rfl hHP3)
 intro hN239
 refine an 8 15 1243 (fun (v3 : Addr) => ⟨115, [], (10, Vp v3) :: (23, S24) :: (24, S23) :: (26, S21) :: (27, S22) :: (29, S23) :: (30, S22) :: LP3, Ur v3 39 (C3 false 0 false 0 false 0) :: HP3⟩) ?_ ?_
 ·rintro q902
  refine al3 2 9 11 (by kernel_rfl) ?_ ?_ ?_
  ·exact no rfl (oz (ent_fn' Try.func24 isn24 rfl rfl) c12) fun _ => tj [0,1,2,3,4,5] (hN244 q902) (U6 rfl rfl rfl rfl rfl rfl hLP3) (P1 rfl hHP3)
  ·exact na rfl info39 (C3 false 0 false 0 false 0) fun q9 => tj [0,1,2,3,4,5,6] (hN246 (q9, q902)) (U8 rfl rfl rfl rfl rfl rfl rfl rfl hLP3) (P2 rfl rfl hHP3)
  exact na rfl info39 (C3 false 0 false 0 false 0) fun q11 => tj [1,0,2,3,4,5,6] (hN248 (q902, q11)) (U8 rfl rfl rfl rfl rfl rfl rfl rfl hLP3) (P2 rfl rfl hHP3)
 intro hN240
 refine an 8 15 2267 (fun (v4 : Addr) => ⟨115, [], (11, Vp v4) :: (23, S24) :: (24, S23) :: (26, S21) :: (27, S22) :: (29, S23) :: (30, S22) :: LP3, Ur v4 39 (C3 false 0 false 0 false 0) :: HP3⟩) ?_ ?_
 ·rintro q903
  refine al3 2 9 10 (by kernel_rfl) ?_ ?_ ?_
  ·exact no rfl (oz (ent_fn' Try.func24 isn24 rfl rfl) c12) fun _ => tj [0,1,2,3,4,5] (hN245 q903) (U6 rfl rfl rfl rfl rfl rfl hLP3) (P1 rfl hHP3)
  ·exact na rfl info39 (C3 false 0 false 0 false 0) fun q9 => tj [0,1,2,3,4,5,6] (hN247 (q9, q903)) (U8 rfl rfl rfl rfl rfl rfl rfl rfl hLP3) (P2 rfl rfl hHP3)
  exact na rfl info39 (C3 false 0 false 0 false 0) fun q10 => tj [0,1,2,3,4,5,6] (hN248 (q10, q903)) (U8 rfl rfl rfl rfl rfl rfl rfl rfl hLP3) (P2 rfl rfl hHP3)
 intro hN241
 refine al4 2 9 10 11 (by kernel_rfl) ?_ ?_ ?_ ?_
 ·exact no rfl (oz (ent_fn' Try.func24 isn24 rfl rfl) c12) fun _ => tj [4,3,2,1,0] (hN238 ()) (U5 rfl rfl rfl rfl rfl hLP3) hHP3
 ·exact na rfl info39 (C3 false 0 false 0 false 0) fun q9 => tj [0,5,4,3,2,1] (hN239 q9) (U7 rfl rfl rfl rfl rfl rfl rfl hLP3) (P1 rfl hHP3)
 ·exact na rfl info39 (C3 false 0 false 0 false 0) fun q10 => tj [0,5,4,3,2,1] (hN240 q10) (U7 rfl rfl rfl rfl rfl rfl rfl hLP3) (P1 rfl hHP3)
 exact na rfl info39 (C3 false 0 false 0 false 0) fun q11 => tj [0,5,4,3,2,1] (hN241 q11) (U7 rfl rfl rfl rfl rfl rfl rfl hLP3) (P1 rfl hHP3)

end Go.Proofs.Ytmkhoplffiakmaa
