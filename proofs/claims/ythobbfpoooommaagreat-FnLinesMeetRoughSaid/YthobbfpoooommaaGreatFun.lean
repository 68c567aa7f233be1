/-
  Plain functions for the Go functions that this law reaches, and that each call does what its plain function says. Printed by a program of ours.
-/
import Derived.Test.YthobbfpoooommaaGreatProg
import Derived.Test.YthobbfpoooommaaGreatSxX
import Derived.Test.YthobbfpoooommaaGreatFun2
namespace Go.Proofs.YthobbfpoooommaaGreat
open Go.Sx
set_option linter.unusedVariables false
set_option linter.unusedSimpArgs false
set_option maxRecDepth 100000
set_option maxHeartbeats 8000000

def laws_FnLinesMeetRough_j6 (k : Nat) (x6 : Bool) : Option (Bool) :=
 some x6
def laws_FnLinesMeetRough_j5 (k : Nat) (x5 : Bool) : Option (Bool) :=
 laws_FnLinesMeetRough_j6 k x5
def laws_FnLinesMeetRough_j4 (k : Nat) (x4 : Bool) : Option (Bool) :=
 laws_FnLinesMeetRough_j5 k x4
def laws_FnLinesMeetRough_j3 (k a0_0 : Nat) (a0_1 a1_0 : Nat) (a1_1 a2_0 : Nat) (a2_1 a3_0 a3_1 : Nat) (r52 : Int × Bool × (List Int) × Int × Bool × (List Int) × Int × Bool × (List Int) × Int × Bool × (List Int) × Int × Bool) (r62 : Bool × (List Int) × Int × Bool × (List Int) × Int × Bool × (List Int) × Int × Bool × (List Int) × Int × Bool) (x3 : Bool) : Option (Bool) :=
 br x3
  (some true)
  ((impl_LinesMeet k a0_0 a0_1 a1_0 a1_1 a2_0 a2_1 a3_0 a3_1) >>= fun r77 =>
  br (!decide (r77.1 = r52.1))
   (some false)
   (br (!decide (r52.1 = 1))
    (laws_FnLinesMeetRough_j6 k true)
    (br (decide ((r77.2.length : Int) = 1))
     ((idx r77.2 0) >>= fun r91 =>
     (laws_nearRatio k r91.1 r62.1 r62.2.1 r62.2.2.1 r62.2.2.2.1 r62.2.2.2.2.1 r62.2.2.2.2.2.1 (-20)) >>= fun r95 =>
     br r95
      ((idx r77.2 0) >>= fun r99 =>
      (laws_nearRatio k r99.2 r62.2.2.2.2.2.2.1 r62.2.2.2.2.2.2.2.1 r62.2.2.2.2.2.2.2.2.1 r62.2.2.2.2.2.2.2.2.2.1 r62.2.2.2.2.2.2.2.2.2.2.1 r62.2.2.2.2.2.2.2.2.2.2.2.1 (-20)) >>= fun r103 =>
      laws_FnLinesMeetRough_j4 k r103)
      (laws_FnLinesMeetRough_j4 k false))
     (laws_FnLinesMeetRough_j5 k false))))
def laws_FnLinesMeetRough_j2 (k a0_0 : Nat) (a0_1 a1_0 : Nat) (a1_1 a2_0 : Nat) (a2_1 a3_0 a3_1 : Nat) (x2 : Bool) : Option (Bool) :=
 br x2
  (some true)
  ((laws_exactly k a0_0 a0_1) >>= fun r40 =>
  (laws_exactly k a1_0 a1_1) >>= fun r42 =>
  (laws_exactly k a2_0 a2_1) >>= fun r44 =>
  (laws_exactly k a3_0 a3_1) >>= fun r46 =>
  (spec_Meet k r40.1 r40.2.1 r40.2.2.1 r40.2.2.2.1 r40.2.2.2.2.1 r40.2.2.2.2.2 r42.1 r42.2.1 r42.2.2.1 r42.2.2.2.1 r42.2.2.2.2.1 r42.2.2.2.2.2 r44.1 r44.2.1 r44.2.2.1 r44.2.2.2.1 r44.2.2.2.2.1 r44.2.2.2.2.2 r46.1 r46.2.1 r46.2.2.1 r46.2.2.2.1 r46.2.2.2.2.1 r46.2.2.2.2.2) >>= fun r52 =>
  (spec_Crossing k r40.1 r40.2.1 r40.2.2.1 r40.2.2.2.1 r40.2.2.2.2.1 r40.2.2.2.2.2 r42.1 r42.2.1 r42.2.2.1 r42.2.2.2.1 r42.2.2.2.2.1 r42.2.2.2.2.2 r44.1 r44.2.1 r44.2.2.1 r44.2.2.2.1 r44.2.2.2.2.1 r44.2.2.2.2.2 r46.1 r46.2.1 r46.2.2.1 r46.2.2.2.1 r46.2.2.2.2.1 r46.2.2.2.2.2) >>= fun r62 =>
  br (decide (r52.1 = 1))
   (laws_FnLinesMeetRough_j3 k a0_0 a0_1 a1_0 a1_1 a2_0 a2_1 a3_0 a3_1 r52 r62 (!r62.2.2.2.2.2.2.2.2.2.2.2.2))
   (laws_FnLinesMeetRough_j3 k a0_0 a0_1 a1_0 a1_1 a2_0 a2_1 a3_0 a3_1 r52 r62 false))
def laws_FnLinesMeetRough_j1 (k a0_0 : Nat) (a0_1 a1_0 : Nat) (a1_1 a2_0 : Nat) (a2_1 a3_0 a3_1 : Nat) (x1 : Bool) : Option (Bool) :=
 br x1
  (laws_FnLinesMeetRough_j2 k a0_0 a0_1 a1_0 a1_1 a2_0 a2_1 a3_0 a3_1 true)
  (laws_FnLinesMeetRough_j2 k a0_0 a0_1 a1_0 a1_1 a2_0 a2_1 a3_0 a3_1 ((feq a2_0 a3_0) && ((feq a2_1 a3_1) && true)))
def laws_FnLinesMeetRough (k a0_0 : Nat) (a0_1 a1_0 : Nat) (a1_1 a2_0 : Nat) (a2_1 a3_0 a3_1 : Nat) : Option (Bool) :=
 (laws_planeTo k 4665729213955833856 ([(a0_0, a0_1), (a1_0, a1_1), (a2_0, a2_1), (a3_0, a3_1)])) >>= fun r27 =>
 br (!r27)
  (laws_FnLinesMeetRough_j1 k a0_0 a0_1 a1_0 a1_1 a2_0 a2_1 a3_0 a3_1 true)
  (laws_FnLinesMeetRough_j1 k a0_0 a0_1 a1_0 a1_1 a2_0 a2_1 a3_0 a3_1 ((feq a0_0 a1_0) && ((feq a0_1 a1_1) && true)))

theorem laws_FnLinesMeetRough_sim {k : Nat}  (a0_0 a0_1 : Nat) (a1_0 a1_1 : Nat) (a2_0 a2_1 : Nat) (a3_0 a3_1 : Nat) {out : Bool} (hp : laws_FnLinesMeetRough k a0_0 a0_1 a1_0 a1_1 a2_0 a2_1 a3_0 a3_1 = some out) : Sx.Fn Tryz.prog 3 [(Ag (C4 a0_0 a0_1)), (Ag (C4 a1_0 a1_1)), (Ag (C4 a2_0 a2_1)), (Ag (C4 a3_0 a3_1))] [] (fun w : Unit => (Vb out)) (fun w => []) := by
 unfold laws_FnLinesMeetRough at hp
 refine fn_of Tryz.func3 rfl Tryz.ntmps3 rfl fun E hM => ?_
 refine cr fun K1 hK1 => ?_
 refine so (ox_box' rfl (lv_ag _) rfl rfl) fun q4 => ?_
 refine so (ox_box' rfl (lv_ag _) rfl rfl) fun q5 => ?_
 refine so (ox_box' rfl (lv_ag _) rfl rfl) fun q6 => ?_
 refine so (ox_box' rfl (lv_ag _) rfl rfl) fun q7 => ?_
 refine sa rfl ?_
 refine nk hK1 ?_
 refine cx_seq' fun K2 hK2 => ?_
 refine cr fun K3 hK3 => ?_
 refine s0 (rd_load_agg' (i := 3) (o := 0) (nn := 2) rfl (ar rfl rfl rfl rfl) rfl agg24 (l' := (C4 a0_0 a0_1)) rfl) ?_
 refine s0 (rd_load_agg' (i := 2) (o := 0) (nn := 2) rfl (ar rfl rfl rfl rfl) rfl agg24 (l' := (C4 a1_0 a1_1)) rfl) ?_
 refine s0 (rd_load_agg' (i := 1) (o := 0) (nn := 2) rfl (ar rfl rfl rfl rfl) rfl agg24 (l' := (C4 a2_0 a2_1)) rfl) ?_
 refine s0 (rd_load_agg' (i := 0) (o := 0) (nn := 2) rfl (ar rfl rfl rfl rfl) rfl agg24 (l' := (C4 a3_0 a3_1)) rfl) ?_
 refine so (ox_rowlit' (K := KT24) (xs := [(a0_0, a0_1), (a1_0, a1_1), (a2_0, a2_1), (a3_0, a3_1)]) (qs := [(0, (C4 a0_0 a0_1)), (1, (C4 a1_0 a1_1)), (2, (C4 a2_0 a2_1)), (3, (C4 a3_0 a3_1))]) ⟨rfl, ⟨_, rfl, (lv_ag _)⟩, ⟨rfl, ⟨_, rfl, (lv_ag _)⟩, ⟨rfl, ⟨_, rfl, (lv_ag _)⟩, ⟨rfl, ⟨_, rfl, (lv_ag _)⟩, trivial⟩⟩⟩⟩ Tryz.underlying40 info24 rfl rfl rfl rfl rfl (by kernel_rfl) rfl rfl rfl) fun g26 => ?_
 obtain ⟨r27, hr27, hp⟩ := bind_some hp
 refine so (ox_brw' (frz_row 0 [(26, (Vw g26), (Sl KT24 ([(a0_0, a0_1), (a1_0, a1_1), (a2_0, a2_1), (a3_0, a3_1)])))] (K := KT24) (xs := [(a0_0, a0_1), (a1_0, a1_1), (a2_0, a2_1), (a3_0, a3_1)]) (by decide) rfl ⟨⟨rfl, frz_it⟩, trivial⟩ (H' := [(Ur q7 24 (C4 a3_0 a3_1)), (Ur q6 24 (C4 a2_0 a2_1)), (Ur q5 24 (C4 a1_0 a1_1)), (Ur q4 24 (C4 a0_0 a0_1))]) frzH_refl) (ent_fn' Tryz.func4 isn4 rfl rfl) (laws_planeTo_sim _ _ hr27 : Sx.Fn Tryz.prog 4 [(Vg 4665729213955833856), (Sl KT24 ([(a0_0, a0_1), (a1_0, a1_1), (a2_0, a2_1), (a3_0, a3_1)]))] [] (fun x : Unit => (Vb r27)) (fun x => [])) pu_vl rfl rfl) fun ⟨⟩ => ?_
 refine s0 (rd_un' rfl ru_not) ?_
 refine sm rfl ?_
 refine sx_cutn' 4 (fun (v1 : Bool) => (⟨106, [], [(4, (Vp q4)), (5, (Vp q5)), (6, (Vp q6)), (7, (Vp q7)), (33, (Vb v1))], [(Ur q4 24 (C4 a0_0 a0_1)), (Ur q5 24 (C4 a1_0 a1_1)), (Ur q6 24 (C4 a2_0 a2_1)), (Ur q7 24 (C4 a3_0 a3_1))]⟩ : St)) (fun (v1 : Bool) => laws_FnLinesMeetRough_j1 k a0_0 a0_1 a1_0 a1_1 a2_0 a2_1 a3_0 a3_1 v1 = some out) ?_ ?_
 ·rintro x1 hp
  replace hp : laws_FnLinesMeetRough_j1 k a0_0 a0_1 a1_0 a1_1 a2_0 a2_1 a3_0 a3_1 x1 = some out := hp
  unfold laws_FnLinesMeetRough_j1 at hp
  refine sm rfl ?_
  refine sx_cutn' 4 (fun (v2 : Bool) => (⟨106, [], [(4, (Vp q4)), (5, (Vp q5)), (6, (Vp q6)), (7, (Vp q7)), (38, (Vb v2))], [(Ur q4 24 (C4 a0_0 a0_1)), (Ur q5 24 (C4 a1_0 a1_1)), (Ur q6 24 (C4 a2_0 a2_1)), (Ur q7 24 (C4 a3_0 a3_1))]⟩ : St)) (fun (v2 : Bool) => laws_FnLinesMeetRough_j2 k a0_0 a0_1 a1_0 a1_1 a2_0 a2_1 a3_0 a3_1 v2 = some out) ?_ ?_
  ·rintro x2 hp
   replace hp : laws_FnLinesMeetRough_j2 k a0_0 a0_1 a1_0 a1_1 a2_0 a2_1 a3_0 a3_1 x2 = some out := hp
   unfold laws_FnLinesMeetRough_j2 at hp
   refine nk hK3 ?_
   refine cx_cond' rfl (fun h3 => ?_) (fun h3 => ?_)
   ·replace hp := (br_t h3).symm.trans hp
    refine cr fun K6 hK6 => ?_
    refine sa rfl ?_
    refine nk hK6 ?_
    refine cx_retc' ?_
    replace hp := sj hp
    subst hp
    refine tk (L' := [(8, (Vb true))]) (H' := []) [] (uc rfl un) pn ?_
    exact tx_ret1' Tryz.results3 rfl () (rv_tmp' rfl) lr
   replace hp := (br_f h3).symm.trans hp
   refine cx_skip' ?_
   show TX E K2 _
   refine tx_k' hK2 ?_
   refine cx_seq' fun K7 hK7 => ?_
   refine cx_plana' [] [(12, 1), (13, 1), (14, 1), (15, 1)] [(0, 1), (2, 1), (4, 1), (6, 1)] 12 #[true, false, true, false, true, false, true, false, false, false, false, false, false, false, false, false] mixed (by kernel_rfl) ?_
   refine pd rfl (rd_load_agg' (i := 0) (o := 0) (nn := 2) rfl (ar rfl rfl rfl rfl) rfl agg24 (l' := (C4 a0_0 a0_1)) rfl) ?_
   refine pd rfl (rd_load_agg' (i := 1) (o := 0) (nn := 2) rfl (ar rfl rfl rfl rfl) rfl agg24 (l' := (C4 a1_0 a1_1)) rfl) ?_
   refine pd rfl (rd_load_agg' (i := 2) (o := 0) (nn := 2) rfl (ar rfl rfl rfl rfl) rfl agg24 (l' := (C4 a2_0 a2_1)) rfl) ?_
   refine pd rfl (rd_load_agg' (i := 3) (o := 0) (nn := 2) rfl (ar rfl rfl rfl rfl) rfl agg24 (l' := (C4 a3_0 a3_1)) rfl) ?_
   refine px_nil' ?_
   show AX E _ _ _ _ _ _ _ _
   obtain ⟨r40, hr40, hp⟩ := bind_some hp
   obtain ⟨r42, hr42, hp⟩ := bind_some hp
   obtain ⟨r44, hr44, hp⟩ := bind_some hp
   obtain ⟨r46, hr46, hp⟩ := bind_some hp
   let LP1 : List (Nat × SV) := [(4, (Vp q4)), (5, (Vp q5)), (6, (Vp q6)), (7, (Vp q7))]
   let HP1 : List Res := [(Ur q4 24 (C4 a0_0 a0_1)), (Ur q5 24 (C4 a1_0 a1_1)), (Ur q6 24 (C4 a2_0 a2_1)), (Ur q7 24 (C4 a3_0 a3_1))]
   have hLP1 : Sub LP1 LP1 := (u4 rfl rfl rfl rfl)
   have hHP1 : PickAt HP1 [0, 1, 2, 3] HP1 := (p4 rfl rfl rfl rfl)
   have c1 := (laws_exactly_sim _ _ hr40)
   have c2 := (laws_exactly_sim _ _ hr42)
   have c3 := (laws_exactly_sim _ _ hr44)
   have c4 := (laws_exactly_sim _ _ hr46)
   let S1 : SV := (Ag (C0 r40.1 r40.2.1 r40.2.2.1 r40.2.2.2.1 r40.2.2.2.2.1 r40.2.2.2.2.2))
   let S2 : SV := (Ag (C4 a1_0 a1_1))
   let S3 : SV := (Ag (C4 a2_0 a2_1))
   let S4 : SV := (Ag (C4 a3_0 a3_1))
   let S5 : SV := (Ag (C4 a0_0 a0_1))
   let S6 : SV := (Ag (C0 r42.1 r42.2.1 r42.2.2.1 r42.2.2.2.1 r42.2.2.2.2.1 r42.2.2.2.2.2))
   let S7 : SV := (Ag (C0 r44.1 r44.2.1 r44.2.2.1 r44.2.2.2.1 r44.2.2.2.2.1 r44.2.2.2.2.2))
   let S8 : SV := (Ag (C0 r46.1 r46.2.1 r46.2.2.1 r46.2.2.2.1 r46.2.2.2.2.1 r46.2.2.2.2.2))
   refine an 0 16 65535 (fun (v85 : A4) => ⟨106, [], [(9, (Vp v85.1)), (10, (Vp v85.2.1)), (11, (Vp v85.2.2.1)), (12, (Vp v85.2.2.2)), (4, (Vp q4)), (5, (Vp q5)), (6, (Vp q6)), (7, (Vp q7))], [(Ur v85.1 32 (C0 r40.1 r40.2.1 r40.2.2.1 r40.2.2.2.1 r40.2.2.2.2.1 r40.2.2.2.2.2)), (Ur v85.2.1 32 (C0 r42.1 r42.2.1 r42.2.2.1 r42.2.2.2.1 r42.2.2.2.2.1 r42.2.2.2.2.2)), (Ur v85.2.2.1 32 (C0 r44.1 r44.2.1 r44.2.2.1 r44.2.2.2.1 r44.2.2.2.2.1 r44.2.2.2.2.2)), (Ur v85.2.2.2 32 (C0 r46.1 r46.2.1 r46.2.2.1 r46.2.2.2.1 r46.2.2.2.2.1 r46.2.2.2.2.2)), (Ur q4 24 (C4 a0_0 a0_1)), (Ur q5 24 (C4 a1_0 a1_1)), (Ur q6 24 (C4 a2_0 a2_1)), (Ur q7 24 (C4 a3_0 a3_1))]⟩) ?_ ?_
   ·rintro ⟨z0, z1, z2, z3⟩
    refine ax_nil (by kernel_rfl) ?_
    show TX E K7 _
    refine tx_k' hK7 ?_
    refine cr fun K8 hK8 => ?_
    refine s0 (rd_load_agg' (i := 0) (o := 0) (nn := 6) rfl (ar rfl rfl rfl rfl) rfl agg32 (l' := (C0 r40.1 r40.2.1 r40.2.2.1 r40.2.2.2.1 r40.2.2.2.2.1 r40.2.2.2.2.2)) rfl) ?_
    refine s0 (rd_load_agg' (i := 1) (o := 0) (nn := 6) rfl (ar rfl rfl rfl rfl) rfl agg32 (l' := (C0 r42.1 r42.2.1 r42.2.2.1 r42.2.2.2.1 r42.2.2.2.2.1 r42.2.2.2.2.2)) rfl) ?_
    refine s0 (rd_load_agg' (i := 2) (o := 0) (nn := 6) rfl (ar rfl rfl rfl rfl) rfl agg32 (l' := (C0 r44.1 r44.2.1 r44.2.2.1 r44.2.2.2.1 r44.2.2.2.2.1 r44.2.2.2.2.2)) rfl) ?_
    refine s0 (rd_load_agg' (i := 3) (o := 0) (nn := 6) rfl (ar rfl rfl rfl rfl) rfl agg32 (l' := (C0 r46.1 r46.2.1 r46.2.2.1 r46.2.2.2.1 r46.2.2.2.2.1 r46.2.2.2.2.2)) rfl) ?_
    obtain ⟨r52, hr52, hp⟩ := bind_some hp
    refine so (oz (ent_fn' Tryz.func6 isn6 rfl rfl) (spec_Meet_sim _ _ _ _ _ _ _ _ _ _ _ _ _ _ _ _ _ _ _ _ _ _ _ _ hr52)) fun ⟨⟩ => ?_
    refine sm rfl ?_
    iterate 4 refine se rfl rfl ?_
    refine so (ox_alloc' info32 rfl rfl rfl rfl (l := (C1 false 0 false 0)) rfl) fun q14 => ?_
    refine so (ox_alloc' info32 rfl rfl rfl rfl (l := (C1 false 0 false 0)) rfl) fun q15 => ?_
    refine sa rfl ?_
    refine so (ox_store' (i := 1) (o := 0) rfl rfl (lv_ag _) (ar rfl rfl rfl rfl) rfl info32 rfl (H' := [(Ur q15 32 (C1 false 0 false 0)), (Ur q14 32 (C0 r52.2.1 r52.2.2.1 r52.2.2.2.1 r52.2.2.2.2.1 r52.2.2.2.2.2.1 r52.2.2.2.2.2.2.1)), (Ur z0 32 (C0 r40.1 r40.2.1 r40.2.2.1 r40.2.2.2.1 r40.2.2.2.2.1 r40.2.2.2.2.2)), (Ur z1 32 (C0 r42.1 r42.2.1 r42.2.2.1 r42.2.2.2.1 r42.2.2.2.2.1 r42.2.2.2.2.2)), (Ur z2 32 (C0 r44.1 r44.2.1 r44.2.2.1 r44.2.2.2.1 r44.2.2.2.2.1 r44.2.2.2.2.2)), (Ur z3 32 (C0 r46.1 r46.2.1 r46.2.2.1 r46.2.2.2.1 r46.2.2.2.2.1 r46.2.2.2.2.2)), (Ur q4 24 (C4 a0_0 a0_1)), (Ur q5 24 (C4 a1_0 a1_1)), (Ur q6 24 (C4 a2_0 a2_1)), (Ur q7 24 (C4 a3_0 a3_1))]) rfl) fun _ => ?_
    refine so (ox_store' (i := 0) (o := 0) rfl rfl (lv_ag _) (ar rfl rfl rfl rfl) rfl info32 rfl (H' := [(Ur q15 32 (C0 r52.2.2.2.2.2.2.2.1 r52.2.2.2.2.2.2.2.2.1 r52.2.2.2.2.2.2.2.2.2.1 r52.2.2.2.2.2.2.2.2.2.2.1 r52.2.2.2.2.2.2.2.2.2.2.2.1 r52.2.2.2.2.2.2.2.2.2.2.2.2.1)), (Ur q14 32 (C0 r52.2.1 r52.2.2.1 r52.2.2.2.1 r52.2.2.2.2.1 r52.2.2.2.2.2.1 r52.2.2.2.2.2.2.1)), (Ur z0 32 (C0 r40.1 r40.2.1 r40.2.2.1 r40.2.2.2.1 r40.2.2.2.2.1 r40.2.2.2.2.2)), (Ur z1 32 (C0 r42.1 r42.2.1 r42.2.2.1 r42.2.2.2.1 r42.2.2.2.2.1 r42.2.2.2.2.2)), (Ur z2 32 (C0 r44.1 r44.2.1 r44.2.2.1 r44.2.2.2.1 r44.2.2.2.2.1 r44.2.2.2.2.2)), (Ur z3 32 (C0 r46.1 r46.2.1 r46.2.2.1 r46.2.2.2.1 r46.2.2.2.2.1 r46.2.2.2.2.2)), (Ur q4 24 (C4 a0_0 a0_1)), (Ur q5 24 (C4 a1_0 a1_1)), (Ur q6 24 (C4 a2_0 a2_1)), (Ur q7 24 (C4 a3_0 a3_1))]) rfl) fun _ => ?_
    refine sa rfl ?_
    refine nk hK8 ?_
    refine cr fun K9 hK9 => ?_
    refine s0 (rd_load_agg' (i := 2) (o := 0) (nn := 6) rfl (ar rfl rfl rfl rfl) rfl agg32 (l' := (C0 r40.1 r40.2.1 r40.2.2.1 r40.2.2.2.1 r40.2.2.2.2.1 r40.2.2.2.2.2)) rfl) ?_
    refine s0 (rd_load_agg' (i := 3) (o := 0) (nn := 6) rfl (ar rfl rfl rfl rfl) rfl agg32 (l' := (C0 r42.1 r42.2.1 r42.2.2.1 r42.2.2.2.1 r42.2.2.2.2.1 r42.2.2.2.2.2)) rfl) ?_
    refine s0 (rd_load_agg' (i := 4) (o := 0) (nn := 6) rfl (ar rfl rfl rfl rfl) rfl agg32 (l' := (C0 r44.1 r44.2.1 r44.2.2.1 r44.2.2.2.1 r44.2.2.2.2.1 r44.2.2.2.2.2)) rfl) ?_
    refine s0 (rd_load_agg' (i := 5) (o := 0) (nn := 6) rfl (ar rfl rfl rfl rfl) rfl agg32 (l' := (C0 r46.1 r46.2.1 r46.2.2.1 r46.2.2.2.1 r46.2.2.2.2.1 r46.2.2.2.2.2)) rfl) ?_
    obtain ⟨r62, hr62, hp⟩ := bind_some hp
    refine so (oz (ent_fn' Tryz.func7 isn7 rfl rfl) (spec_Crossing_sim _ _ _ _ _ _ _ _ _ _ _ _ _ _ _ _ _ _ _ _ _ _ _ _ hr62)) fun ⟨⟩ => ?_
    refine sm rfl ?_
    iterate 3 refine se rfl rfl ?_
    refine so (ox_alloc' info37 rfl rfl rfl rfl (l := (C1 false 0 false 0)) rfl) fun q17 => ?_
    refine so (ox_alloc' info37 rfl rfl rfl rfl (l := (C1 false 0 false 0)) rfl) fun q18 => ?_
    refine so (ox_store' (i := 1) (o := 0) rfl rfl (lv_ag _) (ar rfl rfl rfl rfl) rfl info37 rfl (H' := [(Ur q18 37 (C1 false 0 false 0)), (Ur q17 37 (C0 r62.1 r62.2.1 r62.2.2.1 r62.2.2.2.1 r62.2.2.2.2.1 r62.2.2.2.2.2.1)), (Ur q15 32 (C0 r52.2.2.2.2.2.2.2.1 r52.2.2.2.2.2.2.2.2.1 r52.2.2.2.2.2.2.2.2.2.1 r52.2.2.2.2.2.2.2.2.2.2.1 r52.2.2.2.2.2.2.2.2.2.2.2.1 r52.2.2.2.2.2.2.2.2.2.2.2.2.1)), (Ur q14 32 (C0 r52.2.1 r52.2.2.1 r52.2.2.2.1 r52.2.2.2.2.1 r52.2.2.2.2.2.1 r52.2.2.2.2.2.2.1)), (Ur z0 32 (C0 r40.1 r40.2.1 r40.2.2.1 r40.2.2.2.1 r40.2.2.2.2.1 r40.2.2.2.2.2)), (Ur z1 32 (C0 r42.1 r42.2.1 r42.2.2.1 r42.2.2.2.1 r42.2.2.2.2.1 r42.2.2.2.2.2)), (Ur z2 32 (C0 r44.1 r44.2.1 r44.2.2.1 r44.2.2.2.1 r44.2.2.2.2.1 r44.2.2.2.2.2)), (Ur z3 32 (C0 r46.1 r46.2.1 r46.2.2.1 r46.2.2.2.1 r46.2.2.2.2.1 r46.2.2.2.2.2)), (Ur q4 24 (C4 a0_0 a0_1)), (Ur q5 24 (C4 a1_0 a1_1)), (Ur q6 24 (C4 a2_0 a2_1)), (Ur q7 24 (C4 a3_0 a3_1))]) rfl) fun _ => ?_
    refine so (ox_store' (i := 0) (o := 0) rfl rfl (lv_ag _) (ar rfl rfl rfl rfl) rfl info37 rfl (H' := [(Ur q18 37 (C0 r62.2.2.2.2.2.2.1 r62.2.2.2.2.2.2.2.1 r62.2.2.2.2.2.2.2.2.1 r62.2.2.2.2.2.2.2.2.2.1 r62.2.2.2.2.2.2.2.2.2.2.1 r62.2.2.2.2.2.2.2.2.2.2.2.1)), (Ur q17 37 (C0 r62.1 r62.2.1 r62.2.2.1 r62.2.2.2.1 r62.2.2.2.2.1 r62.2.2.2.2.2.1)), (Ur q15 32 (C0 r52.2.2.2.2.2.2.2.1 r52.2.2.2.2.2.2.2.2.1 r52.2.2.2.2.2.2.2.2.2.1 r52.2.2.2.2.2.2.2.2.2.2.1 r52.2.2.2.2.2.2.2.2.2.2.2.1 r52.2.2.2.2.2.2.2.2.2.2.2.2.1)), (Ur q14 32 (C0 r52.2.1 r52.2.2.1 r52.2.2.2.1 r52.2.2.2.2.1 r52.2.2.2.2.2.1 r52.2.2.2.2.2.2.1)), (Ur z0 32 (C0 r40.1 r40.2.1 r40.2.2.1 r40.2.2.2.1 r40.2.2.2.2.1 r40.2.2.2.2.2)), (Ur z1 32 (C0 r42.1 r42.2.1 r42.2.2.1 r42.2.2.2.1 r42.2.2.2.2.1 r42.2.2.2.2.2)), (Ur z2 32 (C0 r44.1 r44.2.1 r44.2.2.1 r44.2.2.2.1 r44.2.2.2.2.1 r44.2.2.2.2.2)), (Ur z3 32 (C0 r46.1 r46.2.1 r46.2.2.1 r46.2.2.2.1 r46.2.2.2.2.1 r46.2.2.2.2.2)), (Ur q4 24 (C4 a0_0 a0_1)), (Ur q5 24 (C4 a1_0 a1_1)), (Ur q6 24 (C4 a2_0 a2_1)), (Ur q7 24 (C4 a3_0 a3_1))]) rfl) fun _ => ?_
    refine sa rfl ?_
    refine nk hK9 ?_
    refine cx_seq' fun K10 hK10 => ?_
    refine cr fun K11 hK11 => ?_
    refine sm rfl ?_
    refine sb rfl rfl eg_int ru_eql ?_
    refine sm rfl ?_
    refine sx_cutn' 3 (fun (v86 : Bool) => (⟨106, [], [(4, (Vp q4)), (5, (Vp q5)), (6, (Vp q6)), (7, (Vp q7)), (13, (Vi r52.1)), (17, (Vp q17)), (18, (Vp q18)), (71, (Vb v86))], [(Ur q4 24 (C4 a0_0 a0_1)), (Ur q5 24 (C4 a1_0 a1_1)), (Ur q6 24 (C4 a2_0 a2_1)), (Ur q7 24 (C4 a3_0 a3_1)), (Ur q17 37 (C0 r62.1 r62.2.1 r62.2.2.1 r62.2.2.2.1 r62.2.2.2.2.1 r62.2.2.2.2.2.1)), (Ur q18 37 (C0 r62.2.2.2.2.2.2.1 r62.2.2.2.2.2.2.2.1 r62.2.2.2.2.2.2.2.2.1 r62.2.2.2.2.2.2.2.2.2.1 r62.2.2.2.2.2.2.2.2.2.2.1 r62.2.2.2.2.2.2.2.2.2.2.2.1))]⟩ : St)) (fun (v86 : Bool) => laws_FnLinesMeetRough_j3 k a0_0 a0_1 a1_0 a1_1 a2_0 a2_1 a3_0 a3_1 r52 r62 v86 = some out) ?_ ?_
    ·rintro x3 hp
     replace hp : laws_FnLinesMeetRough_j3 k a0_0 a0_1 a1_0 a1_1 a2_0 a2_1 a3_0 a3_1 r52 r62 x3 = some out := hp
     unfold laws_FnLinesMeetRough_j3 at hp
     refine nk hK11 ?_
     refine cx_cond' rfl (fun h5 => ?_) (fun h5 => ?_)
     ·replace hp := (br_t h5).symm.trans hp
      refine cr fun K13 hK13 => ?_
      refine sa rfl ?_
      refine nk hK13 ?_
      refine cx_retc' ?_
      replace hp := sj hp
      subst hp
      refine tk (L' := [(8, (Vb true))]) (H' := []) [] (uc rfl un) pn ?_
      exact tx_ret1' Tryz.results3 rfl () (rv_tmp' rfl) lr
     replace hp := (br_f h5).symm.trans hp
     refine cx_skip' ?_
     show TX E K10 _
     refine tx_k' hK10 ?_
     refine cr fun K14 hK14 => ?_
     refine s0 (rd_load_agg' (i := 0) (o := 0) (nn := 2) rfl (ar rfl rfl rfl rfl) rfl agg24 (l' := (C4 a0_0 a0_1)) rfl) ?_
     refine s0 (rd_load_agg' (i := 1) (o := 0) (nn := 2) rfl (ar rfl rfl rfl rfl) rfl agg24 (l' := (C4 a1_0 a1_1)) rfl) ?_
     refine s0 (rd_load_agg' (i := 2) (o := 0) (nn := 2) rfl (ar rfl rfl rfl rfl) rfl agg24 (l' := (C4 a2_0 a2_1)) rfl) ?_
     refine s0 (rd_load_agg' (i := 3) (o := 0) (nn := 2) rfl (ar rfl rfl rfl rfl) rfl agg24 (l' := (C4 a3_0 a3_1)) rfl) ?_
     obtain ⟨r77, hr77, hp⟩ := bind_some hp
     refine so (oz (ent_fn' Tryz.func8 isn8 rfl rfl) (impl_LinesMeet_sim _ _ _ _ _ _ _ _ hr77)) fun ⟨⟩ => ?_
     refine sm rfl ?_
     iterate 2 refine se rfl rfl ?_
     iterate 2 refine sa rfl ?_
     refine nk hK14 ?_
     refine cx_seq' fun K15 hK15 => ?_
     refine cr fun K16 hK16 => ?_
     iterate 2 refine sm rfl ?_
     refine sb rfl rfl eg_int ru_neq ?_
     refine nk hK16 ?_
     refine cx_cond' rfl (fun h6 => ?_) (fun h6 => ?_)
     ·replace hp := (br_t h6).symm.trans hp
      refine cr fun K17 hK17 => ?_
      refine sa rfl ?_
      refine nk hK17 ?_
      refine cx_retc' ?_
      replace hp := sj hp
      subst hp
      refine tk (L' := [(8, (Vb false))]) (H' := []) [] (uc rfl un) pn ?_
      exact tx_ret1' Tryz.results3 rfl () (rv_tmp' rfl) lr
     replace hp := (br_f h6).symm.trans hp
     refine cx_skip' ?_
     show TX E K15 _
     refine tx_k' hK15 ?_
     refine cx_seq' fun K18 hK18 => ?_
     refine cx_plan' [] [] [(0, 1), (1, 1), (2, 1), (3, 1), (4, 1), (5, 1), (6, 1), (7, 1), (8, 1), (9, 1), (10, 1), (11, 1), (12, 0), (13, 1), (14, 1), (15, 1), (16, 1), (17, 1), (18, 1), (19, 1), (20, 0), (21, 1), (22, 1), (23, 1)] mixed (by kernel_rfl) ?_
     refine pd rfl (rd_move' rfl) ?_
     refine pd rfl (rd_bin' rfl rfl eg_int ru_neq) ?_
     refine pd rfl (rd_move' rfl) ?_
     refine px_cutn' 20 (fun (v89 : Bool) => (⟨106, [], [(105, (Vb v89))], []⟩ : St)) (fun (v89 : Bool) => laws_FnLinesMeetRough_j6 k v89 = some out) ?_ ?_
     ·rintro x6 hp
      replace hp : laws_FnLinesMeetRough_j6 k x6 = some out := hp
      unfold laws_FnLinesMeetRough_j6 at hp
      refine pd rfl (rd_assign' rfl) ?_
      refine px_nil' ?_
      show TX E K18 _
      refine tx_k' hK18 ?_
      refine cx_retc' ?_
      replace hp := sj hp
      subst hp
      refine tk (L' := [(8, (Vb x6))]) (H' := []) [] (uc rfl un) pn ?_
      exact tx_ret1' Tryz.results3 rfl () (rv_tmp' rfl) lr
     intro K21 hK21
     rcases br_cases hp with ⟨h7, hp⟩ | ⟨h7, hp⟩
     ·refine px_skip' rfl rfl rfl (wt_is' (wt_guard' rfl rfl rfl) (beq_tf h7)) ?_
      iterate 3 refine px_skip' rfl rfl rfl (wt_is' (wt_guard' rfl rfl rfl) (beq_tf h7)) ?_
      iterate 5 refine px_skip' rfl rfl rfl (wt_undef' rfl rfl rfl) ?_
      refine px_oskip' rfl rfl rfl (wt_undef' rfl rfl rfl) ?_
      iterate 2 refine px_skip' rfl rfl rfl (wt_is' (wt_guard' rfl rfl rfl) (beq_tf h7)) ?_
      iterate 5 refine px_skip' rfl rfl rfl (wt_undef' rfl rfl rfl) ?_
      refine px_oskip' rfl rfl rfl (wt_undef' rfl rfl rfl) ?_
      refine px_skip' rfl rfl rfl (wt_is' (wt_guard' rfl rfl rfl) (beq_tf h7)) ?_
      refine pd rfl (rd_pick_true' rfl h7 rfl) ?_
      refine px_nil' ?_
      show TX E K21 _
      exact tk [] (uc rfl un) pn (hK21 true hp)
     refine px_rd' rfl (rd_move' rfl) rfl rfl (wt_is' (wt_guard' rfl rfl rfl) (beq_ff h7)) ?_
     refine px_rd' rfl (rd_len' rfl Tryz.underlying40) rfl rfl (wt_is' (wt_guard' rfl rfl rfl) (beq_ff h7)) ?_
     refine px_rd' rfl (rd_bin' rfl rfl eg_int ru_eql) rfl rfl (wt_is' (wt_guard' rfl rfl rfl) (beq_ff h7)) ?_
     refine px_rd' rfl (rd_move' rfl) rfl rfl (wt_is' (wt_guard' rfl rfl rfl) (beq_ff h7)) ?_
     refine px_cutn' 16 (fun (v88 : Bool) => (⟨106, [], [(105, (Vb v88))], []⟩ : St)) (fun (v88 : Bool) => laws_FnLinesMeetRough_j5 k v88 = some out) ?_ ?_
     ·rintro x5 hp
      replace hp : laws_FnLinesMeetRough_j5 k x5 = some out := hp
      unfold laws_FnLinesMeetRough_j5 at hp
      refine px_nil' ?_
      show TX E K21 _
      exact tk [] (uc rfl un) pn (hK21 x5 hp)
     intro K20 hK20
     rcases br_cases hp with ⟨h8, hp⟩ | ⟨h8, hp⟩
     ·refine px_rd' rfl (rd_move' rfl) rfl rfl (wt_is' (wt_guard' rfl rfl rfl) (beq_tt h8)) ?_
      obtain ⟨r91, hr91, hp⟩ := bind_some hp
      refine px_rd' rfl (rd_at' (K := KT24) rfl rfl hr91 Tryz.underlying40 info24) rfl rfl (wt_is' (wt_guard' rfl rfl rfl) (beq_tt h8)) ?_
      refine px_rd' rfl (rd_field_pt' (off := 0) rfl Tryz.underlying24 rfl info22 rfl (l' := (C4 r91.1 r91.2)) rfl) rfl rfl (wt_is' (wt_guard' rfl rfl rfl) (beq_tt h8)) ?_
      refine px_rd' rfl (rd_load_pt' rfl rfl flat22) rfl rfl (wt_is' (wt_guard' rfl rfl rfl) (beq_tt h8)) ?_
      refine px_rd' rfl (rd_load_agg' (i := 4) (o := 0) (nn := 6) rfl (ar rfl rfl rfl rfl) rfl agg37 (l' := (C0 r62.1 r62.2.1 r62.2.2.1 r62.2.2.2.1 r62.2.2.2.2.1 r62.2.2.2.2.2.1)) rfl) rfl rfl (wt_is' (wt_guard' rfl rfl rfl) (beq_tt h8)) ?_
      obtain ⟨r95, hr95, hp⟩ := bind_some hp
      refine px_ox' rfl (oz (ent_fn' Tryz.func9 isn9 rfl rfl) (laws_nearRatio_sim _ _ _ _ _ _ _ _ hr95)) rfl bs_nil (wt_is' (wt_guard' rfl rfl rfl) (beq_tt h8)) fun ⟨⟩ => ?_
      refine px_rd' rfl (rd_pick_true' rfl h8 rfl) rfl rfl (wt_is' (wt_guard' rfl rfl rfl) (beq_ff h7)) ?_
      refine px_rd' rfl (rd_move' rfl) rfl rfl (wt_is' (wt_guard' rfl rfl rfl) (beq_ff h7)) ?_
      refine px_cutn' 8 (fun (v87 : Bool) => (⟨106, [], [(105, (Vb v87))], []⟩ : St)) (fun (v87 : Bool) => laws_FnLinesMeetRough_j4 k v87 = some out) ?_ ?_
      ·rintro x4 hp
       replace hp : laws_FnLinesMeetRough_j4 k x4 = some out := hp
       unfold laws_FnLinesMeetRough_j4 at hp
       refine px_nil' ?_
       show TX E K20 _
       exact tk [] (uc rfl un) pn (hK20 x4 hp)
      intro K19 hK19
      rcases br_cases hp with ⟨h9, hp⟩ | ⟨h9, hp⟩
      ·refine px_rd' rfl (rd_move' rfl) rfl rfl (wt_is' (wt_guard' rfl rfl rfl) (beq_tt h9)) ?_
       obtain ⟨r99, hr99, hp⟩ := bind_some hp
       refine px_rd' rfl (rd_at' (K := KT24) rfl rfl hr99 Tryz.underlying40 info24) rfl rfl (wt_is' (wt_guard' rfl rfl rfl) (beq_tt h9)) ?_
       refine px_rd' rfl (rd_field_pt' (off := 1) rfl Tryz.underlying24 rfl info22 rfl (l' := [(Vg r99.2)]) rfl) rfl rfl (wt_is' (wt_guard' rfl rfl rfl) (beq_tt h9)) ?_
       refine px_rd' rfl (rd_load_pt' rfl rfl flat22) rfl rfl (wt_is' (wt_guard' rfl rfl rfl) (beq_tt h9)) ?_
       refine px_rd' rfl (rd_load_agg' (i := 5) (o := 0) (nn := 6) rfl (ar rfl rfl rfl rfl) rfl agg37 (l' := (C0 r62.2.2.2.2.2.2.1 r62.2.2.2.2.2.2.2.1 r62.2.2.2.2.2.2.2.2.1 r62.2.2.2.2.2.2.2.2.2.1 r62.2.2.2.2.2.2.2.2.2.2.1 r62.2.2.2.2.2.2.2.2.2.2.2.1)) rfl) rfl rfl (wt_is' (wt_guard' rfl rfl rfl) (beq_tt h9)) ?_
       obtain ⟨r103, hr103, hp⟩ := bind_some hp
       refine px_ox' rfl (oz (ent_fn' Tryz.func9 isn9 rfl rfl) (laws_nearRatio_sim _ _ _ _ _ _ _ _ hr103)) rfl bs_nil (wt_is' (wt_guard' rfl rfl rfl) (beq_tt h9)) fun ⟨⟩ => ?_
       refine px_rd' rfl (rd_pick_true' rfl h9 rfl) rfl rfl (wt_is' (wt_guard' rfl rfl rfl) (beq_ff h7)) ?_
       refine pd rfl (rd_pick_false' rfl h7 rfl) ?_
       refine px_nil' ?_
       show TX E K19 _
       exact tk [] (uc rfl un) pn (hK19 r103 hp)
      iterate 5 refine px_skip' rfl rfl rfl (wt_is' (wt_guard' rfl rfl rfl) (beq_ft h9)) ?_
      refine px_oskip' rfl rfl rfl (wt_is' (wt_guard' rfl rfl rfl) (beq_ft h9)) ?_
      refine px_rd' rfl (rd_pick_false' rfl h9 rfl) rfl rfl (wt_is' (wt_guard' rfl rfl rfl) (beq_ff h7)) ?_
      refine pd rfl (rd_pick_false' rfl h7 rfl) ?_
      refine px_nil' ?_
      show TX E K19 _
      exact tk [] (uc rfl un) pn (hK19 false hp)
     iterate 5 refine px_skip' rfl rfl rfl (wt_is' (wt_guard' rfl rfl rfl) (beq_ft h8)) ?_
     refine px_oskip' rfl rfl rfl (wt_is' (wt_guard' rfl rfl rfl) (beq_ft h8)) ?_
     refine px_rd' rfl (rd_pick_false' rfl h8 rfl) rfl rfl (wt_is' (wt_guard' rfl rfl rfl) (beq_ff h7)) ?_
     refine px_rd' rfl (rd_move' rfl) rfl rfl (wt_is' (wt_guard' rfl rfl rfl) (beq_ff h7)) ?_
     iterate 5 refine px_skip' rfl rfl rfl (wt_is' (wt_guard' rfl rfl rfl) (beq_ft rfl)) ?_
     refine px_oskip' rfl rfl rfl (wt_is' (wt_guard' rfl rfl rfl) (beq_ft rfl)) ?_
     refine px_rd' rfl (rd_pick_false' rfl rfl rfl) rfl rfl (wt_is' (wt_guard' rfl rfl rfl) (beq_ff h7)) ?_
     refine pd rfl (rd_pick_false' rfl h7 rfl) ?_
     refine px_nil' ?_
     show TX E K20 _
     exact tk [] (uc rfl un) pn (hK20 false hp)
    intro K12 hK12
    rcases br_cases hp with ⟨h4, hp⟩ | ⟨h4, hp⟩
    ·refine sx_rd' (rd_move' rfl) rfl rfl (wt_is' (wt_guard' rfl rfl rfl) (beq_tt h4)) ?_
     refine sx_rd' (rd_un' rfl ru_not) rfl rfl (wt_is' (wt_guard' rfl rfl rfl) (beq_tt h4)) ?_
     refine s0 (rd_pick_true' rfl h4 rfl) ?_
     refine sx_nil' ?_
     show TX E K12 _
     exact tk [8,9,10,11,1,0] (u8 rfl rfl rfl rfl rfl rfl rfl rfl) (p6 rfl rfl rfl rfl rfl rfl) (hK12 (!r62.2.2.2.2.2.2.2.2.2.2.2.2) hp)
    iterate 2 refine sx_skip' rfl rfl (wt_is' (wt_guard' rfl rfl rfl) (beq_ft h4)) ?_
    refine s0 (rd_pick_false' rfl h4 rfl) ?_
    refine sx_nil' ?_
    show TX E K12 _
    exact tk [8,9,10,11,1,0] (u8 rfl rfl rfl rfl rfl rfl rfl rfl) (p6 rfl rfl rfl rfl rfl rfl) (hK12 false hp)
   intro hN84
   refine an 1 16 32767 (fun (v84 : A4) => ⟨106, [], (9, Vp v84.1) :: (10, Vp v84.2.1) :: (11, Vp v84.2.2.1) :: (12, Vp v84.2.2.2) :: (46, S8) :: LP1, Ur v84.1 32 (C0 r40.1 r40.2.1 r40.2.2.1 r40.2.2.2.1 r40.2.2.2.2.1 r40.2.2.2.2.2) :: Ur v84.2.1 32 (C0 r42.1 r42.2.1 r42.2.2.1 r42.2.2.2.1 r42.2.2.2.2.1 r42.2.2.2.2.2) :: Ur v84.2.2.1 32 (C0 r44.1 r44.2.1 r44.2.2.1 r44.2.2.2.1 r44.2.2.2.2.1 r44.2.2.2.2.2) :: Ur v84.2.2.2 32 (C1 false 0 false 0) :: HP1⟩) ?_ ?_
   ·rintro ⟨z4, z5, z6, z7⟩
    refine al1 15 (by kernel_rfl) ?_
    ·refine nx_oxv rfl (oxv_store (i := 3) (o := 0) rfl rfl (lv_ag _) (ar rfl rfl rfl rfl) rfl info32 rfl (H' := [(Ur z4 32 (C0 r40.1 r40.2.1 r40.2.2.1 r40.2.2.2.1 r40.2.2.2.2.1 r40.2.2.2.2.2)), (Ur z5 32 (C0 r42.1 r42.2.1 r42.2.2.1 r42.2.2.2.1 r42.2.2.2.2.1 r42.2.2.2.2.2)), (Ur z6 32 (C0 r44.1 r44.2.1 r44.2.2.1 r44.2.2.2.1 r44.2.2.2.2.1 r44.2.2.2.2.2)), (Ur z7 32 (C0 r46.1 r46.2.1 r46.2.2.1 r46.2.2.2.1 r46.2.2.2.2.1 r46.2.2.2.2.2)), (Ur q4 24 (C4 a0_0 a0_1)), (Ur q5 24 (C4 a1_0 a1_1)), (Ur q6 24 (C4 a2_0 a2_1)), (Ur q7 24 (C4 a3_0 a3_1))]) rfl) rfl rfl bo_nil (wt_none' rfl) rfl fun _ => ?_
     exact tk [0,1,2,3,4,5,6,7] (u8 rfl rfl rfl rfl rfl rfl rfl rfl) (p8 rfl rfl rfl rfl rfl rfl rfl rfl) (hN84 (z4, z5, z6, z7))
   intro hN83
   refine an 2 16 16383 (fun (v83 : A4) => ⟨106, [], (9, Vp v83.1) :: (10, Vp v83.2.1) :: (11, Vp v83.2.2.1) :: (12, Vp v83.2.2.2) :: (44, S7) :: (46, S8) :: LP1, Ur v83.1 32 (C0 r40.1 r40.2.1 r40.2.2.1 r40.2.2.2.1 r40.2.2.2.2.1 r40.2.2.2.2.2) :: Ur v83.2.1 32 (C0 r42.1 r42.2.1 r42.2.2.1 r42.2.2.2.1 r42.2.2.2.2.1 r42.2.2.2.2.2) :: Ur v83.2.2.1 32 (C1 false 0 false 0) :: Ur v83.2.2.2 32 (C1 false 0 false 0) :: HP1⟩) ?_ ?_
   ·rintro ⟨z8, z9, z10, z11⟩
    refine al1 14 (by kernel_rfl) ?_
    ·refine nx_oxv rfl (oxv_store (i := 2) (o := 0) rfl rfl (lv_ag _) (ar rfl rfl rfl rfl) rfl info32 rfl (H' := [(Ur z8 32 (C0 r40.1 r40.2.1 r40.2.2.1 r40.2.2.2.1 r40.2.2.2.2.1 r40.2.2.2.2.2)), (Ur z9 32 (C0 r42.1 r42.2.1 r42.2.2.1 r42.2.2.2.1 r42.2.2.2.2.1 r42.2.2.2.2.2)), (Ur z10 32 (C0 r44.1 r44.2.1 r44.2.2.1 r44.2.2.2.1 r44.2.2.2.2.1 r44.2.2.2.2.2)), (Ur z11 32 (C1 false 0 false 0)), (Ur q4 24 (C4 a0_0 a0_1)), (Ur q5 24 (C4 a1_0 a1_1)), (Ur q6 24 (C4 a2_0 a2_1)), (Ur q7 24 (C4 a3_0 a3_1))]) rfl) rfl rfl bo_nil (wt_none' rfl) rfl fun _ => ?_
     exact tj [0,1,2,3,4,5,6,7] (hN83 (z8, z9, z10, z11)) (U5 rfl rfl rfl rfl rfl hLP1) (P4 rfl rfl rfl rfl hHP1)
   intro hN82
   refine an 3 16 8191 (fun (v82 : A4) => ⟨106, [], (9, Vp v82.1) :: (10, Vp v82.2.1) :: (11, Vp v82.2.2.1) :: (12, Vp v82.2.2.2) :: (42, S6) :: (44, S7) :: (46, S8) :: LP1, Ur v82.1 32 (C0 r40.1 r40.2.1 r40.2.2.1 r40.2.2.2.1 r40.2.2.2.2.1 r40.2.2.2.2.2) :: Ur v82.2.1 32 (C1 false 0 false 0) :: Ur v82.2.2.1 32 (C1 false 0 false 0) :: Ur v82.2.2.2 32 (C1 false 0 false 0) :: HP1⟩) ?_ ?_
   ·rintro ⟨z12, z13, z14, z15⟩
    refine al1 13 (by kernel_rfl) ?_
    ·refine nx_oxv rfl (oxv_store (i := 1) (o := 0) rfl rfl (lv_ag _) (ar rfl rfl rfl rfl) rfl info32 rfl (H' := [(Ur z12 32 (C0 r40.1 r40.2.1 r40.2.2.1 r40.2.2.2.1 r40.2.2.2.2.1 r40.2.2.2.2.2)), (Ur z13 32 (C0 r42.1 r42.2.1 r42.2.2.1 r42.2.2.2.1 r42.2.2.2.2.1 r42.2.2.2.2.2)), (Ur z14 32 (C1 false 0 false 0)), (Ur z15 32 (C1 false 0 false 0)), (Ur q4 24 (C4 a0_0 a0_1)), (Ur q5 24 (C4 a1_0 a1_1)), (Ur q6 24 (C4 a2_0 a2_1)), (Ur q7 24 (C4 a3_0 a3_1))]) rfl) rfl rfl bo_nil (wt_none' rfl) rfl fun _ => ?_
     exact tj [0,1,2,3,4,5,6,7] (hN82 (z12, z13, z14, z15)) (U6 rfl rfl rfl rfl rfl rfl hLP1) (P4 rfl rfl rfl rfl hHP1)
   intro hN81
   refine an 4 16 4095 (fun (v81 : A4) => ⟨106, [], (9, Vp v81.1) :: (10, Vp v81.2.1) :: (11, Vp v81.2.2.1) :: (12, Vp v81.2.2.2) :: (40, S1) :: (42, S6) :: (44, S7) :: (46, S8) :: LP1, Ur v81.1 32 (C1 false 0 false 0) :: Ur v81.2.1 32 (C1 false 0 false 0) :: Ur v81.2.2.1 32 (C1 false 0 false 0) :: Ur v81.2.2.2 32 (C1 false 0 false 0) :: HP1⟩) ?_ ?_
   ·rintro ⟨z16, z17, z18, z19⟩
    refine al1 12 (by kernel_rfl) ?_
    ·refine nx_oxv rfl (oxv_store (i := 0) (o := 0) rfl rfl (lv_ag _) (ar rfl rfl rfl rfl) rfl info32 rfl (H' := [(Ur z16 32 (C0 r40.1 r40.2.1 r40.2.2.1 r40.2.2.2.1 r40.2.2.2.2.1 r40.2.2.2.2.2)), (Ur z17 32 (C1 false 0 false 0)), (Ur z18 32 (C1 false 0 false 0)), (Ur z19 32 (C1 false 0 false 0)), (Ur q4 24 (C4 a0_0 a0_1)), (Ur q5 24 (C4 a1_0 a1_1)), (Ur q6 24 (C4 a2_0 a2_1)), (Ur q7 24 (C4 a3_0 a3_1))]) rfl) rfl rfl bo_nil (wt_none' rfl) rfl fun _ => ?_
     exact tj [0,1,2,3,4,5,6,7] (hN81 (z16, z17, z18, z19)) (U7 rfl rfl rfl rfl rfl rfl rfl hLP1) (P4 rfl rfl rfl rfl hHP1)
   intro hN80
   refine an 5 16 2047 (fun (v76 : A3) => ⟨106, [], (9, Vp v76.1) :: (10, Vp v76.2.1) :: (11, Vp v76.2.2) :: (40, S1) :: (42, S6) :: (44, S7) :: (46, S8) :: LP1, Ur v76.1 32 (C1 false 0 false 0) :: Ur v76.2.1 32 (C1 false 0 false 0) :: Ur v76.2.2 32 (C1 false 0 false 0) :: HP1⟩) ?_ ?_
   ·rintro ⟨z20, z21, z22⟩
    refine al1 11 (by kernel_rfl) ?_
    ·exact na rfl info32 (C1 false 0 false 0) fun q12 => tj [1,2,3,0,4,5,6,7] (hN80 (z20, z21, z22, q12)) (U8 rfl rfl rfl rfl rfl rfl rfl rfl hLP1) (P4 rfl rfl rfl rfl hHP1)
   intro hN75
   refine an 5 16 3071 (fun (v77 : A3) => ⟨106, [], (9, Vp v77.1) :: (10, Vp v77.2.1) :: (12, Vp v77.2.2) :: (40, S1) :: (42, S6) :: (44, S7) :: (46, S8) :: LP1, Ur v77.1 32 (C1 false 0 false 0) :: Ur v77.2.1 32 (C1 false 0 false 0) :: Ur v77.2.2 32 (C1 false 0 false 0) :: HP1⟩) ?_ ?_
   ·rintro ⟨z23, z24, z25⟩
    refine al1 10 (by kernel_rfl) ?_
    ·exact na rfl info32 (C1 false 0 false 0) fun q11 => tj [1,2,0,3,4,5,6,7] (hN80 (z23, z24, q11, z25)) (U8 rfl rfl rfl rfl rfl rfl rfl rfl hLP1) (P4 rfl rfl rfl rfl hHP1)
   intro hN76
   refine an 5 16 3583 (fun (v78 : A3) => ⟨106, [], (9, Vp v78.1) :: (11, Vp v78.2.1) :: (12, Vp v78.2.2) :: (40, S1) :: (42, S6) :: (44, S7) :: (46, S8) :: LP1, Ur v78.1 32 (C1 false 0 false 0) :: Ur v78.2.1 32 (C1 false 0 false 0) :: Ur v78.2.2 32 (C1 false 0 false 0) :: HP1⟩) ?_ ?_
   ·rintro ⟨z26, z27, z28⟩
    refine al1 9 (by kernel_rfl) ?_
    ·exact na rfl info32 (C1 false 0 false 0) fun q10 => tj [1,0,2,3,4,5,6,7] (hN80 (z26, q10, z27, z28)) (U8 rfl rfl rfl rfl rfl rfl rfl rfl hLP1) (P4 rfl rfl rfl rfl hHP1)
   intro hN77
   refine an 5 16 3839 (fun (v79 : A3) => ⟨106, [], (10, Vp v79.1) :: (11, Vp v79.2.1) :: (12, Vp v79.2.2) :: (40, S1) :: (42, S6) :: (44, S7) :: (46, S8) :: LP1, Ur v79.1 32 (C1 false 0 false 0) :: Ur v79.2.1 32 (C1 false 0 false 0) :: Ur v79.2.2 32 (C1 false 0 false 0) :: HP1⟩) ?_ ?_
   ·rintro ⟨z29, z30, z31⟩
    refine al1 8 (by kernel_rfl) ?_
    ·exact na rfl info32 (C1 false 0 false 0) fun q9 => tj [0,1,2,3,4,5,6,7] (hN80 (q9, z29, z30, z31)) (U8 rfl rfl rfl rfl rfl rfl rfl rfl hLP1) (P4 rfl rfl rfl rfl hHP1)
   intro hN78
   refine an 5 16 3967 (fun (v80 : A4) => ⟨106, [], (9, Vp v80.1) :: (10, Vp v80.2.1) :: (11, Vp v80.2.2.1) :: (12, Vp v80.2.2.2) :: (40, S1) :: (42, S6) :: (44, S7) :: (45, S4) :: LP1, Ur v80.1 32 (C1 false 0 false 0) :: Ur v80.2.1 32 (C1 false 0 false 0) :: Ur v80.2.2.1 32 (C1 false 0 false 0) :: Ur v80.2.2.2 32 (C1 false 0 false 0) :: HP1⟩) ?_ ?_
   ·rintro ⟨z32, z33, z34, z35⟩
    refine al1 7 (by kernel_rfl) ?_
    ·exact no rfl (oz (ent_fn' Tryz.func5 isn5 rfl rfl) c4) fun _ => tj [0,1,2,3,4,5,6,7] (hN80 (z32, z33, z34, z35)) (U8 rfl rfl rfl rfl rfl rfl rfl rfl hLP1) (P4 rfl rfl rfl rfl hHP1)
   intro hN79
   refine an 6 16 1023 (fun (v65 : A2) => ⟨106, [], (9, Vp v65.1) :: (10, Vp v65.2) :: (40, S1) :: (42, S6) :: (44, S7) :: (46, S8) :: LP1, Ur v65.1 32 (C1 false 0 false 0) :: Ur v65.2 32 (C1 false 0 false 0) :: HP1⟩) ?_ ?_
   ·rintro ⟨z36, z37⟩
    refine al2 10 11 (by kernel_rfl) ?_ ?_
    ·exact na rfl info32 (C1 false 0 false 0) fun q11 => tj [1,2,0,3,4,5,6] (hN75 (z36, z37, q11)) (U7 rfl rfl rfl rfl rfl rfl rfl hLP1) (P3 rfl rfl rfl hHP1)
    exact na rfl info32 (C1 false 0 false 0) fun q12 => tj [1,2,0,3,4,5,6] (hN76 (z36, z37, q12)) (U7 rfl rfl rfl rfl rfl rfl rfl hLP1) (P3 rfl rfl rfl hHP1)
   intro hN64
   refine an 6 16 1535 (fun (v66 : A2) => ⟨106, [], (9, Vp v66.1) :: (11, Vp v66.2) :: (40, S1) :: (42, S6) :: (44, S7) :: (46, S8) :: LP1, Ur v66.1 32 (C1 false 0 false 0) :: Ur v66.2 32 (C1 false 0 false 0) :: HP1⟩) ?_ ?_
   ·rintro ⟨z38, z39⟩
    refine al2 9 11 (by kernel_rfl) ?_ ?_
    ·exact na rfl info32 (C1 false 0 false 0) fun q10 => tj [1,0,2,3,4,5,6] (hN75 (z38, q10, z39)) (U7 rfl rfl rfl rfl rfl rfl rfl hLP1) (P3 rfl rfl rfl hHP1)
    exact na rfl info32 (C1 false 0 false 0) fun q12 => tj [1,2,0,3,4,5,6] (hN77 (z38, z39, q12)) (U7 rfl rfl rfl rfl rfl rfl rfl hLP1) (P3 rfl rfl rfl hHP1)
   intro hN65
   refine an 6 16 2559 (fun (v67 : A2) => ⟨106, [], (9, Vp v67.1) :: (12, Vp v67.2) :: (40, S1) :: (42, S6) :: (44, S7) :: (46, S8) :: LP1, Ur v67.1 32 (C1 false 0 false 0) :: Ur v67.2 32 (C1 false 0 false 0) :: HP1⟩) ?_ ?_
   ·rintro ⟨z40, z41⟩
    refine al2 9 10 (by kernel_rfl) ?_ ?_
    ·exact na rfl info32 (C1 false 0 false 0) fun q10 => tj [1,0,2,3,4,5,6] (hN76 (z40, q10, z41)) (U7 rfl rfl rfl rfl rfl rfl rfl hLP1) (P3 rfl rfl rfl hHP1)
    exact na rfl info32 (C1 false 0 false 0) fun q11 => tj [1,0,2,3,4,5,6] (hN77 (z40, q11, z41)) (U7 rfl rfl rfl rfl rfl rfl rfl hLP1) (P3 rfl rfl rfl hHP1)
   intro hN66
   refine an 6 16 1791 (fun (v68 : A2) => ⟨106, [], (10, Vp v68.1) :: (11, Vp v68.2) :: (40, S1) :: (42, S6) :: (44, S7) :: (46, S8) :: LP1, Ur v68.1 32 (C1 false 0 false 0) :: Ur v68.2 32 (C1 false 0 false 0) :: HP1⟩) ?_ ?_
   ·rintro ⟨z42, z43⟩
    refine al2 8 11 (by kernel_rfl) ?_ ?_
    ·exact na rfl info32 (C1 false 0 false 0) fun q9 => tj [0,1,2,3,4,5,6] (hN75 (q9, z42, z43)) (U7 rfl rfl rfl rfl rfl rfl rfl hLP1) (P3 rfl rfl rfl hHP1)
    exact na rfl info32 (C1 false 0 false 0) fun q12 => tj [1,2,0,3,4,5,6] (hN78 (z42, z43, q12)) (U7 rfl rfl rfl rfl rfl rfl rfl hLP1) (P3 rfl rfl rfl hHP1)
   intro hN67
   refine an 6 16 2815 (fun (v69 : A2) => ⟨106, [], (10, Vp v69.1) :: (12, Vp v69.2) :: (40, S1) :: (42, S6) :: (44, S7) :: (46, S8) :: LP1, Ur v69.1 32 (C1 false 0 false 0) :: Ur v69.2 32 (C1 false 0 false 0) :: HP1⟩) ?_ ?_
   ·rintro ⟨z44, z45⟩
    refine al2 8 10 (by kernel_rfl) ?_ ?_
    ·exact na rfl info32 (C1 false 0 false 0) fun q9 => tj [0,1,2,3,4,5,6] (hN76 (q9, z44, z45)) (U7 rfl rfl rfl rfl rfl rfl rfl hLP1) (P3 rfl rfl rfl hHP1)
    exact na rfl info32 (C1 false 0 false 0) fun q11 => tj [1,0,2,3,4,5,6] (hN78 (z44, q11, z45)) (U7 rfl rfl rfl rfl rfl rfl rfl hLP1) (P3 rfl rfl rfl hHP1)
   intro hN68
   refine an 6 16 3327 (fun (v70 : A2) => ⟨106, [], (11, Vp v70.1) :: (12, Vp v70.2) :: (40, S1) :: (42, S6) :: (44, S7) :: (46, S8) :: LP1, Ur v70.1 32 (C1 false 0 false 0) :: Ur v70.2 32 (C1 false 0 false 0) :: HP1⟩) ?_ ?_
   ·rintro ⟨z46, z47⟩
    refine al2 8 9 (by kernel_rfl) ?_ ?_
    ·exact na rfl info32 (C1 false 0 false 0) fun q9 => tj [0,1,2,3,4,5,6] (hN77 (q9, z46, z47)) (U7 rfl rfl rfl rfl rfl rfl rfl hLP1) (P3 rfl rfl rfl hHP1)
    exact na rfl info32 (C1 false 0 false 0) fun q10 => tj [0,1,2,3,4,5,6] (hN78 (q10, z46, z47)) (U7 rfl rfl rfl rfl rfl rfl rfl hLP1) (P3 rfl rfl rfl hHP1)
   intro hN69
   refine an 6 16 1919 (fun (v71 : A3) => ⟨106, [], (9, Vp v71.1) :: (10, Vp v71.2.1) :: (11, Vp v71.2.2) :: (40, S1) :: (42, S6) :: (44, S7) :: (45, S4) :: LP1, Ur v71.1 32 (C1 false 0 false 0) :: Ur v71.2.1 32 (C1 false 0 false 0) :: Ur v71.2.2 32 (C1 false 0 false 0) :: HP1⟩) ?_ ?_
   ·rintro ⟨z48, z49, z50⟩
    refine al2 7 11 (by kernel_rfl) ?_ ?_
    ·exact no rfl (oz (ent_fn' Tryz.func5 isn5 rfl rfl) c4) fun _ => tj [0,1,2,3,4,5,6] (hN75 (z48, z49, z50)) (U7 rfl rfl rfl rfl rfl rfl rfl hLP1) (P3 rfl rfl rfl hHP1)
    exact na rfl info32 (C1 false 0 false 0) fun q12 => tj [1,2,3,0,4,5,6,7] (hN79 (z48, z49, z50, q12)) (U8 rfl rfl rfl rfl rfl rfl rfl rfl hLP1) (P4 rfl rfl rfl rfl hHP1)
   intro hN70
   refine an 6 16 2943 (fun (v72 : A3) => ⟨106, [], (9, Vp v72.1) :: (10, Vp v72.2.1) :: (12, Vp v72.2.2) :: (40, S1) :: (42, S6) :: (44, S7) :: (45, S4) :: LP1, Ur v72.1 32 (C1 false 0 false 0) :: Ur v72.2.1 32 (C1 false 0 false 0) :: Ur v72.2.2 32 (C1 false 0 false 0) :: HP1⟩) ?_ ?_
   ·rintro ⟨z51, z52, z53⟩
    refine al2 7 10 (by kernel_rfl) ?_ ?_
    ·exact no rfl (oz (ent_fn' Tryz.func5 isn5 rfl rfl) c4) fun _ => tj [0,1,2,3,4,5,6] (hN76 (z51, z52, z53)) (U7 rfl rfl rfl rfl rfl rfl rfl hLP1) (P3 rfl rfl rfl hHP1)
    exact na rfl info32 (C1 false 0 false 0) fun q11 => tj [1,2,0,3,4,5,6,7] (hN79 (z51, z52, q11, z53)) (U8 rfl rfl rfl rfl rfl rfl rfl rfl hLP1) (P4 rfl rfl rfl rfl hHP1)
   intro hN71
   refine an 6 16 3455 (fun (v73 : A3) => ⟨106, [], (9, Vp v73.1) :: (11, Vp v73.2.1) :: (12, Vp v73.2.2) :: (40, S1) :: (42, S6) :: (44, S7) :: (45, S4) :: LP1, Ur v73.1 32 (C1 false 0 false 0) :: Ur v73.2.1 32 (C1 false 0 false 0) :: Ur v73.2.2 32 (C1 false 0 false 0) :: HP1⟩) ?_ ?_
   ·rintro ⟨z54, z55, z56⟩
    refine al2 7 9 (by kernel_rfl) ?_ ?_
    ·exact no rfl (oz (ent_fn' Tryz.func5 isn5 rfl rfl) c4) fun _ => tj [0,1,2,3,4,5,6] (hN77 (z54, z55, z56)) (U7 rfl rfl rfl rfl rfl rfl rfl hLP1) (P3 rfl rfl rfl hHP1)
    exact na rfl info32 (C1 false 0 false 0) fun q10 => tj [1,0,2,3,4,5,6,7] (hN79 (z54, q10, z55, z56)) (U8 rfl rfl rfl rfl rfl rfl rfl rfl hLP1) (P4 rfl rfl rfl rfl hHP1)
   intro hN72
   refine an 6 16 3711 (fun (v74 : A3) => ⟨106, [], (10, Vp v74.1) :: (11, Vp v74.2.1) :: (12, Vp v74.2.2) :: (40, S1) :: (42, S6) :: (44, S7) :: (45, S4) :: LP1, Ur v74.1 32 (C1 false 0 false 0) :: Ur v74.2.1 32 (C1 false 0 false 0) :: Ur v74.2.2 32 (C1 false 0 false 0) :: HP1⟩) ?_ ?_
   ·rintro ⟨z57, z58, z59⟩
    refine al2 7 8 (by kernel_rfl) ?_ ?_
    ·exact no rfl (oz (ent_fn' Tryz.func5 isn5 rfl rfl) c4) fun _ => tj [0,1,2,3,4,5,6] (hN78 (z57, z58, z59)) (U7 rfl rfl rfl rfl rfl rfl rfl hLP1) (P3 rfl rfl rfl hHP1)
    exact na rfl info32 (C1 false 0 false 0) fun q9 => tj [0,1,2,3,4,5,6,7] (hN79 (q9, z57, z58, z59)) (U8 rfl rfl rfl rfl rfl rfl rfl rfl hLP1) (P4 rfl rfl rfl rfl hHP1)
   intro hN73
   refine an 6 16 3935 (fun (v75 : A4) => ⟨106, [], (9, Vp v75.1) :: (10, Vp v75.2.1) :: (11, Vp v75.2.2.1) :: (12, Vp v75.2.2.2) :: (40, S1) :: (42, S6) :: (43, S3) :: (45, S4) :: LP1, Ur v75.1 32 (C1 false 0 false 0) :: Ur v75.2.1 32 (C1 false 0 false 0) :: Ur v75.2.2.1 32 (C1 false 0 false 0) :: Ur v75.2.2.2 32 (C1 false 0 false 0) :: HP1⟩) ?_ ?_
   ·rintro ⟨z60, z61, z62, z63⟩
    refine al1 5 (by kernel_rfl) ?_
    ·exact no rfl (oz (ent_fn' Tryz.func5 isn5 rfl rfl) c3) fun _ => tj [0,1,2,3,4,5,6,7] (hN79 (z60, z61, z62, z63)) (U8 rfl rfl rfl rfl rfl rfl rfl rfl hLP1) (P4 rfl rfl rfl rfl hHP1)
   intro hN74
   refine an 7 16 511 (fun (v50 : Addr) => ⟨106, [], (9, Vp v50) :: (40, S1) :: (42, S6) :: (44, S7) :: (46, S8) :: LP1, Ur v50 32 (C1 false 0 false 0) :: HP1⟩) ?_ ?_
   ·rintro q9081
    refine al3 9 10 11 (by kernel_rfl) ?_ ?_ ?_
    ·exact na rfl info32 (C1 false 0 false 0) fun q10 => tj [1,0,2,3,4,5] (hN64 (q9081, q10)) (U6 rfl rfl rfl rfl rfl rfl hLP1) (P2 rfl rfl hHP1)
    ·exact na rfl info32 (C1 false 0 false 0) fun q11 => tj [1,0,2,3,4,5] (hN65 (q9081, q11)) (U6 rfl rfl rfl rfl rfl rfl hLP1) (P2 rfl rfl hHP1)
    exact na rfl info32 (C1 false 0 false 0) fun q12 => tj [1,0,2,3,4,5] (hN66 (q9081, q12)) (U6 rfl rfl rfl rfl rfl rfl hLP1) (P2 rfl rfl hHP1)
   intro hN49
   refine an 7 16 767 (fun (v51 : Addr) => ⟨106, [], (10, Vp v51) :: (40, S1) :: (42, S6) :: (44, S7) :: (46, S8) :: LP1, Ur v51 32 (C1 false 0 false 0) :: HP1⟩) ?_ ?_
   ·rintro q9082
    refine al3 8 10 11 (by kernel_rfl) ?_ ?_ ?_
    ·exact na rfl info32 (C1 false 0 false 0) fun q9 => tj [0,1,2,3,4,5] (hN64 (q9, q9082)) (U6 rfl rfl rfl rfl rfl rfl hLP1) (P2 rfl rfl hHP1)
    ·exact na rfl info32 (C1 false 0 false 0) fun q11 => tj [1,0,2,3,4,5] (hN67 (q9082, q11)) (U6 rfl rfl rfl rfl rfl rfl hLP1) (P2 rfl rfl hHP1)
    exact na rfl info32 (C1 false 0 false 0) fun q12 => tj [1,0,2,3,4,5] (hN68 (q9082, q12)) (U6 rfl rfl rfl rfl rfl rfl hLP1) (P2 rfl rfl hHP1)
   intro hN50
   refine an 7 16 1279 (fun (v52 : Addr) => ⟨106, [], (11, Vp v52) :: (40, S1) :: (42, S6) :: (44, S7) :: (46, S8) :: LP1, Ur v52 32 (C1 false 0 false 0) :: HP1⟩) ?_ ?_
   ·rintro q9083
    refine al3 8 9 11 (by kernel_rfl) ?_ ?_ ?_
    ·exact na rfl info32 (C1 false 0 false 0) fun q9 => tj [0,1,2,3,4,5] (hN65 (q9, q9083)) (U6 rfl rfl rfl rfl rfl rfl hLP1) (P2 rfl rfl hHP1)
    ·exact na rfl info32 (C1 false 0 false 0) fun q10 => tj [0,1,2,3,4,5] (hN67 (q10, q9083)) (U6 rfl rfl rfl rfl rfl rfl hLP1) (P2 rfl rfl hHP1)
    exact na rfl info32 (C1 false 0 false 0) fun q12 => tj [1,0,2,3,4,5] (hN69 (q9083, q12)) (U6 rfl rfl rfl rfl rfl rfl hLP1) (P2 rfl rfl hHP1)
   intro hN51
   refine an 7 16 2303 (fun (v53 : Addr) => ⟨106, [], (12, Vp v53) :: (40, S1) :: (42, S6) :: (44, S7) :: (46, S8) :: LP1, Ur v53 32 (C1 false 0 false 0) :: HP1⟩) ?_ ?_
   ·rintro q9084
    refine al3 8 9 10 (by kernel_rfl) ?_ ?_ ?_
    ·exact na rfl info32 (C1 false 0 false 0) fun q9 => tj [0,1,2,3,4,5] (hN66 (q9, q9084)) (U6 rfl rfl rfl rfl rfl rfl hLP1) (P2 rfl rfl hHP1)
    ·exact na rfl info32 (C1 false 0 false 0) fun q10 => tj [0,1,2,3,4,5] (hN68 (q10, q9084)) (U6 rfl rfl rfl rfl rfl rfl hLP1) (P2 rfl rfl hHP1)
    exact na rfl info32 (C1 false 0 false 0) fun q11 => tj [0,1,2,3,4,5] (hN69 (q11, q9084)) (U6 rfl rfl rfl rfl rfl rfl hLP1) (P2 rfl rfl hHP1)
   intro hN52
   refine an 7 16 895 (fun (v54 : A2) => ⟨106, [], (9, Vp v54.1) :: (10, Vp v54.2) :: (40, S1) :: (42, S6) :: (44, S7) :: (45, S4) :: LP1, Ur v54.1 32 (C1 false 0 false 0) :: Ur v54.2 32 (C1 false 0 false 0) :: HP1⟩) ?_ ?_
   ·rintro ⟨q9085, q9086⟩
    refine al3 7 10 11 (by kernel_rfl) ?_ ?_ ?_
    ·exact no rfl (oz (ent_fn' Tryz.func5 isn5 rfl rfl) c4) fun _ => tj [0,1,2,3,4,5] (hN64 (q9085, q9086)) (U6 rfl rfl rfl rfl rfl rfl hLP1) (P2 rfl rfl hHP1)
    ·exact na rfl info32 (C1 false 0 false 0) fun q11 => tj [1,2,0,3,4,5,6] (hN70 (q9085, q9086, q11)) (U7 rfl rfl rfl rfl rfl rfl rfl hLP1) (P3 rfl rfl rfl hHP1)
    exact na rfl info32 (C1 false 0 false 0) fun q12 => tj [1,2,0,3,4,5,6] (hN71 (q9085, q9086, q12)) (U7 rfl rfl rfl rfl rfl rfl rfl hLP1) (P3 rfl rfl rfl hHP1)
   intro hN53
   refine an 7 16 1407 (fun (v55 : A2) => ⟨106, [], (9, Vp v55.1) :: (11, Vp v55.2) :: (40, S1) :: (42, S6) :: (44, S7) :: (45, S4) :: LP1, Ur v55.1 32 (C1 false 0 false 0) :: Ur v55.2 32 (C1 false 0 false 0) :: HP1⟩) ?_ ?_
   ·rintro ⟨q9087, q9088⟩
    refine al3 7 9 11 (by kernel_rfl) ?_ ?_ ?_
    ·exact no rfl (oz (ent_fn' Tryz.func5 isn5 rfl rfl) c4) fun _ => tj [0,1,2,3,4,5] (hN65 (q9087, q9088)) (U6 rfl rfl rfl rfl rfl rfl hLP1) (P2 rfl rfl hHP1)
    ·exact na rfl info32 (C1 false 0 false 0) fun q10 => tj [1,0,2,3,4,5,6] (hN70 (q9087, q10, q9088)) (U7 rfl rfl rfl rfl rfl rfl rfl hLP1) (P3 rfl rfl rfl hHP1)
    exact na rfl info32 (C1 false 0 false 0) fun q12 => tj [1,2,0,3,4,5,6] (hN72 (q9087, q9088, q12)) (U7 rfl rfl rfl rfl rfl rfl rfl hLP1) (P3 rfl rfl rfl hHP1)
   intro hN54
   refine an 7 16 2431 (fun (v56 : A2) => ⟨106, [], (9, Vp v56.1) :: (12, Vp v56.2) :: (40, S1) :: (42, S6) :: (44, S7) :: (45, S4) :: LP1, Ur v56.1 32 (C1 false 0 false 0) :: Ur v56.2 32 (C1 false 0 false 0) :: HP1⟩) ?_ ?_
   ·rintro ⟨q9089, q9090⟩
    refine al3 7 9 10 (by kernel_rfl) ?_ ?_ ?_
    ·exact no rfl (oz (ent_fn' Tryz.func5 isn5 rfl rfl) c4) fun _ => tj [0,1,2,3,4,5] (hN66 (q9089, q9090)) (U6 rfl rfl rfl rfl rfl rfl hLP1) (P2 rfl rfl hHP1)
    ·exact na rfl info32 (C1 false 0 false 0) fun q10 => tj [1,0,2,3,4,5,6] (hN71 (q9089, q10, q9090)) (U7 rfl rfl rfl rfl rfl rfl rfl hLP1) (P3 rfl rfl rfl hHP1)
    exact na rfl info32 (C1 false 0 false 0) fun q11 => tj [1,0,2,3,4,5,6] (hN72 (q9089, q11, q9090)) (U7 rfl rfl rfl rfl rfl rfl rfl hLP1) (P3 rfl rfl rfl hHP1)
   intro hN55
   refine an 7 16 1663 (fun (v57 : A2) => ⟨106, [], (10, Vp v57.1) :: (11, Vp v57.2) :: (40, S1) :: (42, S6) :: (44, S7) :: (45, S4) :: LP1, Ur v57.1 32 (C1 false 0 false 0) :: Ur v57.2 32 (C1 false 0 false 0) :: HP1⟩) ?_ ?_
   ·rintro ⟨q9091, q9092⟩
    refine al3 7 8 11 (by kernel_rfl) ?_ ?_ ?_
    ·exact no rfl (oz (ent_fn' Tryz.func5 isn5 rfl rfl) c4) fun _ => tj [0,1,2,3,4,5] (hN67 (q9091, q9092)) (U6 rfl rfl rfl rfl rfl rfl hLP1) (P2 rfl rfl hHP1)
    ·exact na rfl info32 (C1 false 0 false 0) fun q9 => tj [0,1,2,3,4,5,6] (hN70 (q9, q9091, q9092)) (U7 rfl rfl rfl rfl rfl rfl rfl hLP1) (P3 rfl rfl rfl hHP1)
    exact na rfl info32 (C1 false 0 false 0) fun q12 => tj [1,2,0,3,4,5,6] (hN73 (q9091, q9092, q12)) (U7 rfl rfl rfl rfl rfl rfl rfl hLP1) (P3 rfl rfl rfl hHP1)
   intro hN56
   refine an 7 16 2687 (fun (v58 : A2) => ⟨106, [], (10, Vp v58.1) :: (12, Vp v58.2) :: (40, S1) :: (42, S6) :: (44, S7) :: (45, S4) :: LP1, Ur v58.1 32 (C1 false 0 false 0) :: Ur v58.2 32 (C1 false 0 false 0) :: HP1⟩) ?_ ?_
   ·rintro ⟨q9093, q9094⟩
    refine al3 7 8 10 (by kernel_rfl) ?_ ?_ ?_
    ·exact no rfl (oz (ent_fn' Tryz.func5 isn5 rfl rfl) c4) fun _ => tj [0,1,2,3,4,5] (hN68 (q9093, q9094)) (U6 rfl rfl rfl rfl rfl rfl hLP1) (P2 rfl rfl hHP1)
    ·exact na rfl info32 (C1 false 0 false 0) fun q9 => tj [0,1,2,3,4,5,6] (hN71 (q9, q9093, q9094)) (U7 rfl rfl rfl rfl rfl rfl rfl hLP1) (P3 rfl rfl rfl hHP1)
    exact na rfl info32 (C1 false 0 false 0) fun q11 => tj [1,0,2,3,4,5,6] (hN73 (q9093, q11, q9094)) (U7 rfl rfl rfl rfl rfl rfl rfl hLP1) (P3 rfl rfl rfl hHP1)
   intro hN57
   refine an 7 16 3199 (fun (v59 : A2) => ⟨106, [], (11, Vp v59.1) :: (12, Vp v59.2) :: (40, S1) :: (42, S6) :: (44, S7) :: (45, S4) :: LP1, Ur v59.1 32 (C1 false 0 false 0) :: Ur v59.2 32 (C1 false 0 false 0) :: HP1⟩) ?_ ?_
   ·rintro ⟨q9095, q9096⟩
    refine al3 7 8 9 (by kernel_rfl) ?_ ?_ ?_
    ·exact no rfl (oz (ent_fn' Tryz.func5 isn5 rfl rfl) c4) fun _ => tj [0,1,2,3,4,5] (hN69 (q9095, q9096)) (U6 rfl rfl rfl rfl rfl rfl hLP1) (P2 rfl rfl hHP1)
    ·exact na rfl info32 (C1 false 0 false 0) fun q9 => tj [0,1,2,3,4,5,6] (hN72 (q9, q9095, q9096)) (U7 rfl rfl rfl rfl rfl rfl rfl hLP1) (P3 rfl rfl rfl hHP1)
    exact na rfl info32 (C1 false 0 false 0) fun q10 => tj [0,1,2,3,4,5,6] (hN73 (q10, q9095, q9096)) (U7 rfl rfl rfl rfl rfl rfl rfl hLP1) (P3 rfl rfl rfl hHP1)
   intro hN58
   refine an 7 16 1887 (fun (v60 : A3) => ⟨106, [], (9, Vp v60.1) :: (10, Vp v60.2.1) :: (11, Vp v60.2.2) :: (40, S1) :: (42, S6) :: (43, S3) :: (45, S4) :: LP1, Ur v60.1 32 (C1 false 0 false 0) :: Ur v60.2.1 32 (C1 false 0 false 0) :: Ur v60.2.2 32 (C1 false 0 false 0) :: HP1⟩) ?_ ?_
   ·rintro ⟨q9097, q9098, q9099⟩
    refine al2 5 11 (by kernel_rfl) ?_ ?_
    ·exact no rfl (oz (ent_fn' Tryz.func5 isn5 rfl rfl) c3) fun _ => tj [0,1,2,3,4,5,6] (hN70 (q9097, q9098, q9099)) (U7 rfl rfl rfl rfl rfl rfl rfl hLP1) (P3 rfl rfl rfl hHP1)
    exact na rfl info32 (C1 false 0 false 0) fun q12 => tj [1,2,3,0,4,5,6,7] (hN74 (q9097, q9098, q9099, q12)) (U8 rfl rfl rfl rfl rfl rfl rfl rfl hLP1) (P4 rfl rfl rfl rfl hHP1)
   intro hN59
   refine an 7 16 2911 (fun (v61 : A3) => ⟨106, [], (9, Vp v61.1) :: (10, Vp v61.2.1) :: (12, Vp v61.2.2) :: (40, S1) :: (42, S6) :: (43, S3) :: (45, S4) :: LP1, Ur v61.1 32 (C1 false 0 false 0) :: Ur v61.2.1 32 (C1 false 0 false 0) :: Ur v61.2.2 32 (C1 false 0 false 0) :: HP1⟩) ?_ ?_
   ·rintro ⟨z64, z65, z66⟩
    refine al2 5 10 (by kernel_rfl) ?_ ?_
    ·exact no rfl (oz (ent_fn' Tryz.func5 isn5 rfl rfl) c3) fun _ => tj [0,1,2,3,4,5,6] (hN71 (z64, z65, z66)) (U7 rfl rfl rfl rfl rfl rfl rfl hLP1) (P3 rfl rfl rfl hHP1)
    exact na rfl info32 (C1 false 0 false 0) fun q11 => tj [1,2,0,3,4,5,6,7] (hN74 (z64, z65, q11, z66)) (U8 rfl rfl rfl rfl rfl rfl rfl rfl hLP1) (P4 rfl rfl rfl rfl hHP1)
   intro hN60
   refine an 7 16 3423 (fun (v62 : A3) => ⟨106, [], (9, Vp v62.1) :: (11, Vp v62.2.1) :: (12, Vp v62.2.2) :: (40, S1) :: (42, S6) :: (43, S3) :: (45, S4) :: LP1, Ur v62.1 32 (C1 false 0 false 0) :: Ur v62.2.1 32 (C1 false 0 false 0) :: Ur v62.2.2 32 (C1 false 0 false 0) :: HP1⟩) ?_ ?_
   ·rintro ⟨z67, z68, z69⟩
    refine al2 5 9 (by kernel_rfl) ?_ ?_
    ·exact no rfl (oz (ent_fn' Tryz.func5 isn5 rfl rfl) c3) fun _ => tj [0,1,2,3,4,5,6] (hN72 (z67, z68, z69)) (U7 rfl rfl rfl rfl rfl rfl rfl hLP1) (P3 rfl rfl rfl hHP1)
    exact na rfl info32 (C1 false 0 false 0) fun q10 => tj [1,0,2,3,4,5,6,7] (hN74 (z67, q10, z68, z69)) (U8 rfl rfl rfl rfl rfl rfl rfl rfl hLP1) (P4 rfl rfl rfl rfl hHP1)
   intro hN61
   refine an 7 16 3679 (fun (v63 : A3) => ⟨106, [], (10, Vp v63.1) :: (11, Vp v63.2.1) :: (12, Vp v63.2.2) :: (40, S1) :: (42, S6) :: (43, S3) :: (45, S4) :: LP1, Ur v63.1 32 (C1 false 0 false 0) :: Ur v63.2.1 32 (C1 false 0 false 0) :: Ur v63.2.2 32 (C1 false 0 false 0) :: HP1⟩) ?_ ?_
   ·rintro ⟨z70, z71, z72⟩
    refine al2 5 8 (by kernel_rfl) ?_ ?_
    ·exact no rfl (oz (ent_fn' Tryz.func5 isn5 rfl rfl) c3) fun _ => tj [0,1,2,3,4,5,6] (hN73 (z70, z71, z72)) (U7 rfl rfl rfl rfl rfl rfl rfl hLP1) (P3 rfl rfl rfl hHP1)
    exact na rfl info32 (C1 false 0 false 0) fun q9 => tj [0,1,2,3,4,5,6,7] (hN74 (q9, z70, z71, z72)) (U8 rfl rfl rfl rfl rfl rfl rfl rfl hLP1) (P4 rfl rfl rfl rfl hHP1)
   intro hN62
   refine an 7 16 3927 (fun (v64 : A4) => ⟨106, [], (9, Vp v64.1) :: (10, Vp v64.2.1) :: (11, Vp v64.2.2.1) :: (12, Vp v64.2.2.2) :: (40, S1) :: (41, S2) :: (43, S3) :: (45, S4) :: LP1, Ur v64.1 32 (C1 false 0 false 0) :: Ur v64.2.1 32 (C1 false 0 false 0) :: Ur v64.2.2.1 32 (C1 false 0 false 0) :: Ur v64.2.2.2 32 (C1 false 0 false 0) :: HP1⟩) ?_ ?_
   ·rintro ⟨z73, z74, z75, z76⟩
    refine al1 3 (by kernel_rfl) ?_
    ·exact no rfl (oz (ent_fn' Tryz.func5 isn5 rfl rfl) c2) fun _ => tj [0,1,2,3,4,5,6,7] (hN74 (z73, z74, z75, z76)) (U8 rfl rfl rfl rfl rfl rfl rfl rfl hLP1) (P4 rfl rfl rfl rfl hHP1)
   intro hN63
   refine an 8 16 255 (fun (v34 : Unit) => ⟨106, [], (40, S1) :: (42, S6) :: (44, S7) :: (46, S8) :: LP1, HP1⟩) ?_ ?_
   ·rintro ⟨⟩
    refine al4 8 9 10 11 (by kernel_rfl) ?_ ?_ ?_ ?_
    ·exact na rfl info32 (C1 false 0 false 0) fun q9 => tj [0,1,2,3,4] (hN49 q9) (U5 rfl rfl rfl rfl rfl hLP1) (P1 rfl hHP1)
    ·exact na rfl info32 (C1 false 0 false 0) fun q10 => tj [0,1,2,3,4] (hN50 q10) (U5 rfl rfl rfl rfl rfl hLP1) (P1 rfl hHP1)
    ·exact na rfl info32 (C1 false 0 false 0) fun q11 => tj [0,1,2,3,4] (hN51 q11) (U5 rfl rfl rfl rfl rfl hLP1) (P1 rfl hHP1)
    exact na rfl info32 (C1 false 0 false 0) fun q12 => tj [0,1,2,3,4] (hN52 q12) (U5 rfl rfl rfl rfl rfl hLP1) (P1 rfl hHP1)
   intro hN33
   refine an 8 16 383 (fun (v35 : Addr) => ⟨106, [], (9, Vp v35) :: (40, S1) :: (42, S6) :: (44, S7) :: (45, S4) :: LP1, Ur v35 32 (C1 false 0 false 0) :: HP1⟩) ?_ ?_
   ·rintro q9049
    refine al4 7 9 10 11 (by kernel_rfl) ?_ ?_ ?_ ?_
    ·exact no rfl (oz (ent_fn' Tryz.func5 isn5 rfl rfl) c4) fun _ => tj [0,1,2,3,4] (hN49 q9049) (U5 rfl rfl rfl rfl rfl hLP1) (P1 rfl hHP1)
    ·exact na rfl info32 (C1 false 0 false 0) fun q10 => tj [1,0,2,3,4,5] (hN53 (q9049, q10)) (U6 rfl rfl rfl rfl rfl rfl hLP1) (P2 rfl rfl hHP1)
    ·exact na rfl info32 (C1 false 0 false 0) fun q11 => tj [1,0,2,3,4,5] (hN54 (q9049, q11)) (U6 rfl rfl rfl rfl rfl rfl hLP1) (P2 rfl rfl hHP1)
    exact na rfl info32 (C1 false 0 false 0) fun q12 => tj [1,0,2,3,4,5] (hN55 (q9049, q12)) (U6 rfl rfl rfl rfl rfl rfl hLP1) (P2 rfl rfl hHP1)
   intro hN34
   refine an 8 16 639 (fun (v36 : Addr) => ⟨106, [], (10, Vp v36) :: (40, S1) :: (42, S6) :: (44, S7) :: (45, S4) :: LP1, Ur v36 32 (C1 false 0 false 0) :: HP1⟩) ?_ ?_
   ·rintro q9050
    refine al4 7 8 10 11 (by kernel_rfl) ?_ ?_ ?_ ?_
    ·exact no rfl (oz (ent_fn' Tryz.func5 isn5 rfl rfl) c4) fun _ => tj [0,1,2,3,4] (hN50 q9050) (U5 rfl rfl rfl rfl rfl hLP1) (P1 rfl hHP1)
    ·exact na rfl info32 (C1 false 0 false 0) fun q9 => tj [0,1,2,3,4,5] (hN53 (q9, q9050)) (U6 rfl rfl rfl rfl rfl rfl hLP1) (P2 rfl rfl hHP1)
    ·exact na rfl info32 (C1 false 0 false 0) fun q11 => tj [1,0,2,3,4,5] (hN56 (q9050, q11)) (U6 rfl rfl rfl rfl rfl rfl hLP1) (P2 rfl rfl hHP1)
    exact na rfl info32 (C1 false 0 false 0) fun q12 => tj [1,0,2,3,4,5] (hN57 (q9050, q12)) (U6 rfl rfl rfl rfl rfl rfl hLP1) (P2 rfl rfl hHP1)
   intro hN35
   refine an 8 16 1151 (fun (v37 : Addr) => ⟨106, [], (11, Vp v37) :: (40, S1) :: (42, S6) :: (44, S7) :: (45, S4) :: LP1, Ur v37 32 (C1 false 0 false 0) :: HP1⟩) ?_ ?_
   ·rintro q9051
    refine al4 7 8 9 11 (by kernel_rfl) ?_ ?_ ?_ ?_
    ·exact no rfl (oz (ent_fn' Tryz.func5 isn5 rfl rfl) c4) fun _ => tj [0,1,2,3,4] (hN51 q9051) (U5 rfl rfl rfl rfl rfl hLP1) (P1 rfl hHP1)
    ·exact na rfl info32 (C1 false 0 false 0) fun q9 => tj [0,1,2,3,4,5] (hN54 (q9, q9051)) (U6 rfl rfl rfl rfl rfl rfl hLP1) (P2 rfl rfl hHP1)
    ·exact na rfl info32 (C1 false 0 false 0) fun q10 => tj [0,1,2,3,4,5] (hN56 (q10, q9051)) (U6 rfl rfl rfl rfl rfl rfl hLP1) (P2 rfl rfl hHP1)
    exact na rfl info32 (C1 false 0 false 0) fun q12 => tj [1,0,2,3,4,5] (hN58 (q9051, q12)) (U6 rfl rfl rfl rfl rfl rfl hLP1) (P2 rfl rfl hHP1)
   intro hN36
   refine an 8 16 2175 (fun (v38 : Addr) => ⟨106, [], (12, Vp v38) :: (40, S1) :: (42, S6) :: (44, S7) :: (45, S4) :: LP1, Ur v38 32 (C1 false 0 false 0) :: HP1⟩) ?_ ?_
   ·rintro q9052
    refine al4 7 8 9 10 (by kernel_rfl) ?_ ?_ ?_ ?_
    ·exact no rfl (oz (ent_fn' Tryz.func5 isn5 rfl rfl) c4) fun _ => tj [0,1,2,3,4] (hN52 q9052) (U5 rfl rfl rfl rfl rfl hLP1) (P1 rfl hHP1)
    ·exact na rfl info32 (C1 false 0 false 0) fun q9 => tj [0,1,2,3,4,5] (hN55 (q9, q9052)) (U6 rfl rfl rfl rfl rfl rfl hLP1) (P2 rfl rfl hHP1)
    ·exact na rfl info32 (C1 false 0 false 0) fun q10 => tj [0,1,2,3,4,5] (hN57 (q10, q9052)) (U6 rfl rfl rfl rfl rfl rfl hLP1) (P2 rfl rfl hHP1)
    exact na rfl info32 (C1 false 0 false 0) fun q11 => tj [0,1,2,3,4,5] (hN58 (q11, q9052)) (U6 rfl rfl rfl rfl rfl rfl hLP1) (P2 rfl rfl hHP1)
   intro hN37
   refine an 8 16 863 (fun (v39 : A2) => ⟨106, [], (9, Vp v39.1) :: (10, Vp v39.2) :: (40, S1) :: (42, S6) :: (43, S3) :: (45, S4) :: LP1, Ur v39.1 32 (C1 false 0 false 0) :: Ur v39.2 32 (C1 false 0 false 0) :: HP1⟩) ?_ ?_
   ·rintro ⟨q9053, q9054⟩
    refine al3 5 10 11 (by kernel_rfl) ?_ ?_ ?_
    ·exact no rfl (oz (ent_fn' Tryz.func5 isn5 rfl rfl) c3) fun _ => tj [0,1,2,3,4,5] (hN53 (q9053, q9054)) (U6 rfl rfl rfl rfl rfl rfl hLP1) (P2 rfl rfl hHP1)
    ·exact na rfl info32 (C1 false 0 false 0) fun q11 => tj [1,2,0,3,4,5,6] (hN59 (q9053, q9054, q11)) (U7 rfl rfl rfl rfl rfl rfl rfl hLP1) (P3 rfl rfl rfl hHP1)
    exact na rfl info32 (C1 false 0 false 0) fun q12 => tj [1,2,0,3,4,5,6] (hN60 (q9053, q9054, q12)) (U7 rfl rfl rfl rfl rfl rfl rfl hLP1) (P3 rfl rfl rfl hHP1)
   intro hN38
   refine an 8 16 1375 (fun (v40 : A2) => ⟨106, [], (9, Vp v40.1) :: (11, Vp v40.2) :: (40, S1) :: (42, S6) :: (43, S3) :: (45, S4) :: LP1, Ur v40.1 32 (C1 false 0 false 0) :: Ur v40.2 32 (C1 false 0 false 0) :: HP1⟩) ?_ ?_
   ·rintro ⟨q9055, q9056⟩
    refine al3 5 9 11 (by kernel_rfl) ?_ ?_ ?_
    ·exact no rfl (oz (ent_fn' Tryz.func5 isn5 rfl rfl) c3) fun _ => tj [0,1,2,3,4,5] (hN54 (q9055, q9056)) (U6 rfl rfl rfl rfl rfl rfl hLP1) (P2 rfl rfl hHP1)
    ·exact na rfl info32 (C1 false 0 false 0) fun q10 => tj [1,0,2,3,4,5,6] (hN59 (q9055, q10, q9056)) (U7 rfl rfl rfl rfl rfl rfl rfl hLP1) (P3 rfl rfl rfl hHP1)
    exact na rfl info32 (C1 false 0 false 0) fun q12 => tj [1,2,0,3,4,5,6] (hN61 (q9055, q9056, q12)) (U7 rfl rfl rfl rfl rfl rfl rfl hLP1) (P3 rfl rfl rfl hHP1)
   intro hN39
   refine an 8 16 2399 (fun (v41 : A2) => ⟨106, [], (9, Vp v41.1) :: (12, Vp v41.2) :: (40, S1) :: (42, S6) :: (43, S3) :: (45, S4) :: LP1, Ur v41.1 32 (C1 false 0 false 0) :: Ur v41.2 32 (C1 false 0 false 0) :: HP1⟩) ?_ ?_
   ·rintro ⟨q9057, q9058⟩
    refine al3 5 9 10 (by kernel_rfl) ?_ ?_ ?_
    ·exact no rfl (oz (ent_fn' Tryz.func5 isn5 rfl rfl) c3) fun _ => tj [0,1,2,3,4,5] (hN55 (q9057, q9058)) (U6 rfl rfl rfl rfl rfl rfl hLP1) (P2 rfl rfl hHP1)
    ·exact na rfl info32 (C1 false 0 false 0) fun q10 => tj [1,0,2,3,4,5,6] (hN60 (q9057, q10, q9058)) (U7 rfl rfl rfl rfl rfl rfl rfl hLP1) (P3 rfl rfl rfl hHP1)
    exact na rfl info32 (C1 false 0 false 0) fun q11 => tj [1,0,2,3,4,5,6] (hN61 (q9057, q11, q9058)) (U7 rfl rfl rfl rfl rfl rfl rfl hLP1) (P3 rfl rfl rfl hHP1)
   intro hN40
   refine an 8 16 1631 (fun (v42 : A2) => ⟨106, [], (10, Vp v42.1) :: (11, Vp v42.2) :: (40, S1) :: (42, S6) :: (43, S3) :: (45, S4) :: LP1, Ur v42.1 32 (C1 false 0 false 0) :: Ur v42.2 32 (C1 false 0 false 0) :: HP1⟩) ?_ ?_
   ·rintro ⟨q9059, q9060⟩
    refine al3 5 8 11 (by kernel_rfl) ?_ ?_ ?_
    ·exact no rfl (oz (ent_fn' Tryz.func5 isn5 rfl rfl) c3) fun _ => tj [0,1,2,3,4,5] (hN56 (q9059, q9060)) (U6 rfl rfl rfl rfl rfl rfl hLP1) (P2 rfl rfl hHP1)
    ·exact na rfl info32 (C1 false 0 false 0) fun q9 => tj [0,1,2,3,4,5,6] (hN59 (q9, q9059, q9060)) (U7 rfl rfl rfl rfl rfl rfl rfl hLP1) (P3 rfl rfl rfl hHP1)
    exact na rfl info32 (C1 false 0 false 0) fun q12 => tj [1,2,0,3,4,5,6] (hN62 (q9059, q9060, q12)) (U7 rfl rfl rfl rfl rfl rfl rfl hLP1) (P3 rfl rfl rfl hHP1)
   intro hN41
   refine an 8 16 2655 (fun (v43 : A2) => ⟨106, [], (10, Vp v43.1) :: (12, Vp v43.2) :: (40, S1) :: (42, S6) :: (43, S3) :: (45, S4) :: LP1, Ur v43.1 32 (C1 false 0 false 0) :: Ur v43.2 32 (C1 false 0 false 0) :: HP1⟩) ?_ ?_
   ·rintro ⟨q9061, q9062⟩
    refine al3 5 8 10 (by kernel_rfl) ?_ ?_ ?_
    ·exact no rfl (oz (ent_fn' Tryz.func5 isn5 rfl rfl) c3) fun _ => tj [0,1,2,3,4,5] (hN57 (q9061, q9062)) (U6 rfl rfl rfl rfl rfl rfl hLP1) (P2 rfl rfl hHP1)
    ·exact na rfl info32 (C1 false 0 false 0) fun q9 => tj [0,1,2,3,4,5,6] (hN60 (q9, q9061, q9062)) (U7 rfl rfl rfl rfl rfl rfl rfl hLP1) (P3 rfl rfl rfl hHP1)
    exact na rfl info32 (C1 false 0 false 0) fun q11 => tj [1,0,2,3,4,5,6] (hN62 (q9061, q11, q9062)) (U7 rfl rfl rfl rfl rfl rfl rfl hLP1) (P3 rfl rfl rfl hHP1)
   intro hN42
   refine an 8 16 3167 (fun (v44 : A2) => ⟨106, [], (11, Vp v44.1) :: (12, Vp v44.2) :: (40, S1) :: (42, S6) :: (43, S3) :: (45, S4) :: LP1, Ur v44.1 32 (C1 false 0 false 0) :: Ur v44.2 32 (C1 false 0 false 0) :: HP1⟩) ?_ ?_
   ·rintro ⟨q9063, q9064⟩
    refine al3 5 8 9 (by kernel_rfl) ?_ ?_ ?_
    ·exact no rfl (oz (ent_fn' Tryz.func5 isn5 rfl rfl) c3) fun _ => tj [0,1,2,3,4,5] (hN58 (q9063, q9064)) (U6 rfl rfl rfl rfl rfl rfl hLP1) (P2 rfl rfl hHP1)
    ·exact na rfl info32 (C1 false 0 false 0) fun q9 => tj [0,1,2,3,4,5,6] (hN61 (q9, q9063, q9064)) (U7 rfl rfl rfl rfl rfl rfl rfl hLP1) (P3 rfl rfl rfl hHP1)
    exact na rfl info32 (C1 false 0 false 0) fun q10 => tj [0,1,2,3,4,5,6] (hN62 (q10, q9063, q9064)) (U7 rfl rfl rfl rfl rfl rfl rfl hLP1) (P3 rfl rfl rfl hHP1)
   intro hN43
   refine an 8 16 1879 (fun (v45 : A3) => ⟨106, [], (9, Vp v45.1) :: (10, Vp v45.2.1) :: (11, Vp v45.2.2) :: (40, S1) :: (41, S2) :: (43, S3) :: (45, S4) :: LP1, Ur v45.1 32 (C1 false 0 false 0) :: Ur v45.2.1 32 (C1 false 0 false 0) :: Ur v45.2.2 32 (C1 false 0 false 0) :: HP1⟩) ?_ ?_
   ·rintro ⟨q9065, q9066, q9067⟩
    refine al2 3 11 (by kernel_rfl) ?_ ?_
    ·exact no rfl (oz (ent_fn' Tryz.func5 isn5 rfl rfl) c2) fun _ => tj [0,1,2,3,4,5,6] (hN59 (q9065, q9066, q9067)) (U7 rfl rfl rfl rfl rfl rfl rfl hLP1) (P3 rfl rfl rfl hHP1)
    exact na rfl info32 (C1 false 0 false 0) fun q12 => tj [1,2,3,0,4,5,6,7] (hN63 (q9065, q9066, q9067, q12)) (U8 rfl rfl rfl rfl rfl rfl rfl rfl hLP1) (P4 rfl rfl rfl rfl hHP1)
   intro hN44
   refine an 8 16 2903 (fun (v46 : A3) => ⟨106, [], (9, Vp v46.1) :: (10, Vp v46.2.1) :: (12, Vp v46.2.2) :: (40, S1) :: (41, S2) :: (43, S3) :: (45, S4) :: LP1, Ur v46.1 32 (C1 false 0 false 0) :: Ur v46.2.1 32 (C1 false 0 false 0) :: Ur v46.2.2 32 (C1 false 0 false 0) :: HP1⟩) ?_ ?_
   ·rintro ⟨q9068, q9069, q9070⟩
    refine al2 3 10 (by kernel_rfl) ?_ ?_
    ·exact no rfl (oz (ent_fn' Tryz.func5 isn5 rfl rfl) c2) fun _ => tj [0,1,2,3,4,5,6] (hN60 (q9068, q9069, q9070)) (U7 rfl rfl rfl rfl rfl rfl rfl hLP1) (P3 rfl rfl rfl hHP1)
    exact na rfl info32 (C1 false 0 false 0) fun q11 => tj [1,2,0,3,4,5,6,7] (hN63 (q9068, q9069, q11, q9070)) (U8 rfl rfl rfl rfl rfl rfl rfl rfl hLP1) (P4 rfl rfl rfl rfl hHP1)
   intro hN45
   refine an 8 16 3415 (fun (v47 : A3) => ⟨106, [], (9, Vp v47.1) :: (11, Vp v47.2.1) :: (12, Vp v47.2.2) :: (40, S1) :: (41, S2) :: (43, S3) :: (45, S4) :: LP1, Ur v47.1 32 (C1 false 0 false 0) :: Ur v47.2.1 32 (C1 false 0 false 0) :: Ur v47.2.2 32 (C1 false 0 false 0) :: HP1⟩) ?_ ?_
   ·rintro ⟨q9071, q9072, q9073⟩
    refine al2 3 9 (by kernel_rfl) ?_ ?_
    ·exact no rfl (oz (ent_fn' Tryz.func5 isn5 rfl rfl) c2) fun _ => tj [0,1,2,3,4,5,6] (hN61 (q9071, q9072, q9073)) (U7 rfl rfl rfl rfl rfl rfl rfl hLP1) (P3 rfl rfl rfl hHP1)
    exact na rfl info32 (C1 false 0 false 0) fun q10 => tj [1,0,2,3,4,5,6,7] (hN63 (q9071, q10, q9072, q9073)) (U8 rfl rfl rfl rfl rfl rfl rfl rfl hLP1) (P4 rfl rfl rfl rfl hHP1)
   intro hN46
   refine an 8 16 3671 (fun (v48 : A3) => ⟨106, [], (10, Vp v48.1) :: (11, Vp v48.2.1) :: (12, Vp v48.2.2) :: (40, S1) :: (41, S2) :: (43, S3) :: (45, S4) :: LP1, Ur v48.1 32 (C1 false 0 false 0) :: Ur v48.2.1 32 (C1 false 0 false 0) :: Ur v48.2.2 32 (C1 false 0 false 0) :: HP1⟩) ?_ ?_
   ·rintro ⟨q9074, q9075, q9076⟩
    refine al2 3 8 (by kernel_rfl) ?_ ?_
    ·exact no rfl (oz (ent_fn' Tryz.func5 isn5 rfl rfl) c2) fun _ => tj [0,1,2,3,4,5,6] (hN62 (q9074, q9075, q9076)) (U7 rfl rfl rfl rfl rfl rfl rfl hLP1) (P3 rfl rfl rfl hHP1)
    exact na rfl info32 (C1 false 0 false 0) fun q9 => tj [0,1,2,3,4,5,6,7] (hN63 (q9, q9074, q9075, q9076)) (U8 rfl rfl rfl rfl rfl rfl rfl rfl hLP1) (P4 rfl rfl rfl rfl hHP1)
   intro hN47
   refine an 8 16 3925 (fun (v49 : A4) => ⟨106, [], (9, Vp v49.1) :: (10, Vp v49.2.1) :: (11, Vp v49.2.2.1) :: (12, Vp v49.2.2.2) :: (39, S5) :: (41, S2) :: (43, S3) :: (45, S4) :: LP1, Ur v49.1 32 (C1 false 0 false 0) :: Ur v49.2.1 32 (C1 false 0 false 0) :: Ur v49.2.2.1 32 (C1 false 0 false 0) :: Ur v49.2.2.2 32 (C1 false 0 false 0) :: HP1⟩) ?_ ?_
   ·rintro ⟨q9077, q9078, q9079, q9080⟩
    refine al1 1 (by kernel_rfl) ?_
    ·exact no rfl (oz (ent_fn' Tryz.func5 isn5 rfl rfl) c1) fun _ => tj [0,1,2,3,4,5,6,7] (hN63 (q9077, q9078, q9079, q9080)) (U8 rfl rfl rfl rfl rfl rfl rfl rfl hLP1) (P4 rfl rfl rfl rfl hHP1)
   intro hN48
   refine an 9 16 127 (fun (v19 : Unit) => ⟨106, [], (40, S1) :: (42, S6) :: (44, S7) :: (45, S4) :: LP1, HP1⟩) ?_ ?_
   ·rintro ⟨⟩
    refine al5 7 8 9 10 11 (by kernel_rfl) ?_ ?_ ?_ ?_ ?_
    ·exact no rfl (oz (ent_fn' Tryz.func5 isn5 rfl rfl) c4) fun _ => tj [0,1,2,3] (hN33 ()) (U4 rfl rfl rfl rfl hLP1) hHP1
    ·exact na rfl info32 (C1 false 0 false 0) fun q9 => tj [0,1,2,3,4] (hN34 q9) (U5 rfl rfl rfl rfl rfl hLP1) (P1 rfl hHP1)
    ·exact na rfl info32 (C1 false 0 false 0) fun q10 => tj [0,1,2,3,4] (hN35 q10) (U5 rfl rfl rfl rfl rfl hLP1) (P1 rfl hHP1)
    ·exact na rfl info32 (C1 false 0 false 0) fun q11 => tj [0,1,2,3,4] (hN36 q11) (U5 rfl rfl rfl rfl rfl hLP1) (P1 rfl hHP1)
    exact na rfl info32 (C1 false 0 false 0) fun q12 => tj [0,1,2,3,4] (hN37 q12) (U5 rfl rfl rfl rfl rfl hLP1) (P1 rfl hHP1)
   intro hN18
   refine an 9 16 351 (fun (v20 : Addr) => ⟨106, [], (9, Vp v20) :: (40, S1) :: (42, S6) :: (43, S3) :: (45, S4) :: LP1, Ur v20 32 (C1 false 0 false 0) :: HP1⟩) ?_ ?_
   ·rintro q9021
    refine al4 5 9 10 11 (by kernel_rfl) ?_ ?_ ?_ ?_
    ·exact no rfl (oz (ent_fn' Tryz.func5 isn5 rfl rfl) c3) fun _ => tj [0,1,2,3,4] (hN34 q9021) (U5 rfl rfl rfl rfl rfl hLP1) (P1 rfl hHP1)
    ·exact na rfl info32 (C1 false 0 false 0) fun q10 => tj [1,0,2,3,4,5] (hN38 (q9021, q10)) (U6 rfl rfl rfl rfl rfl rfl hLP1) (P2 rfl rfl hHP1)
    ·exact na rfl info32 (C1 false 0 false 0) fun q11 => tj [1,0,2,3,4,5] (hN39 (q9021, q11)) (U6 rfl rfl rfl rfl rfl rfl hLP1) (P2 rfl rfl hHP1)
    exact na rfl info32 (C1 false 0 false 0) fun q12 => tj [1,0,2,3,4,5] (hN40 (q9021, q12)) (U6 rfl rfl rfl rfl rfl rfl hLP1) (P2 rfl rfl hHP1)
   intro hN19
   refine an 9 16 607 (fun (v21 : Addr) => ⟨106, [], (10, Vp v21) :: (40, S1) :: (42, S6) :: (43, S3) :: (45, S4) :: LP1, Ur v21 32 (C1 false 0 false 0) :: HP1⟩) ?_ ?_
   ·rintro q9022
    refine al4 5 8 10 11 (by kernel_rfl) ?_ ?_ ?_ ?_
    ·exact no rfl (oz (ent_fn' Tryz.func5 isn5 rfl rfl) c3) fun _ => tj [0,1,2,3,4] (hN35 q9022) (U5 rfl rfl rfl rfl rfl hLP1) (P1 rfl hHP1)
    ·exact na rfl info32 (C1 false 0 false 0) fun q9 => tj [0,1,2,3,4,5] (hN38 (q9, q9022)) (U6 rfl rfl rfl rfl rfl rfl hLP1) (P2 rfl rfl hHP1)
    ·exact na rfl info32 (C1 false 0 false 0) fun q11 => tj [1,0,2,3,4,5] (hN41 (q9022, q11)) (U6 rfl rfl rfl rfl rfl rfl hLP1) (P2 rfl rfl hHP1)
    exact na rfl info32 (C1 false 0 false 0) fun q12 => tj [1,0,2,3,4,5] (hN42 (q9022, q12)) (U6 rfl rfl rfl rfl rfl rfl hLP1) (P2 rfl rfl hHP1)
   intro hN20
   refine an 9 16 1119 (fun (v22 : Addr) => ⟨106, [], (11, Vp v22) :: (40, S1) :: (42, S6) :: (43, S3) :: (45, S4) :: LP1, Ur v22 32 (C1 false 0 false 0) :: HP1⟩) ?_ ?_
   ·rintro q9023
    refine al4 5 8 9 11 (by kernel_rfl) ?_ ?_ ?_ ?_
    ·exact no rfl (oz (ent_fn' Tryz.func5 isn5 rfl rfl) c3) fun _ => tj [0,1,2,3,4] (hN36 q9023) (U5 rfl rfl rfl rfl rfl hLP1) (P1 rfl hHP1)
    ·exact na rfl info32 (C1 false 0 false 0) fun q9 => tj [0,1,2,3,4,5] (hN39 (q9, q9023)) (U6 rfl rfl rfl rfl rfl rfl hLP1) (P2 rfl rfl hHP1)
    ·exact na rfl info32 (C1 false 0 false 0) fun q10 => tj [0,1,2,3,4,5] (hN41 (q10, q9023)) (U6 rfl rfl rfl rfl rfl rfl hLP1) (P2 rfl rfl hHP1)
    exact na rfl info32 (C1 false 0 false 0) fun q12 => tj [1,0,2,3,4,5] (hN43 (q9023, q12)) (U6 rfl rfl rfl rfl rfl rfl hLP1) (P2 rfl rfl hHP1)
   intro hN21
   refine an 9 16 2143 (fun (v23 : Addr) => ⟨106, [], (12, Vp v23) :: (40, S1) :: (42, S6) :: (43, S3) :: (45, S4) :: LP1, Ur v23 32 (C1 false 0 false 0) :: HP1⟩) ?_ ?_
   ·rintro q9024
    refine al4 5 8 9 10 (by kernel_rfl) ?_ ?_ ?_ ?_
    ·exact no rfl (oz (ent_fn' Tryz.func5 isn5 rfl rfl) c3) fun _ => tj [0,1,2,3,4] (hN37 q9024) (U5 rfl rfl rfl rfl rfl hLP1) (P1 rfl hHP1)
    ·exact na rfl info32 (C1 false 0 false 0) fun q9 => tj [0,1,2,3,4,5] (hN40 (q9, q9024)) (U6 rfl rfl rfl rfl rfl rfl hLP1) (P2 rfl rfl hHP1)
    ·exact na rfl info32 (C1 false 0 false 0) fun q10 => tj [0,1,2,3,4,5] (hN42 (q10, q9024)) (U6 rfl rfl rfl rfl rfl rfl hLP1) (P2 rfl rfl hHP1)
    exact na rfl info32 (C1 false 0 false 0) fun q11 => tj [0,1,2,3,4,5] (hN43 (q11, q9024)) (U6 rfl rfl rfl rfl rfl rfl hLP1) (P2 rfl rfl hHP1)
   intro hN22
   refine an 9 16 855 (fun (v24 : A2) => ⟨106, [], (9, Vp v24.1) :: (10, Vp v24.2) :: (40, S1) :: (41, S2) :: (43, S3) :: (45, S4) :: LP1, Ur v24.1 32 (C1 false 0 false 0) :: Ur v24.2 32 (C1 false 0 false 0) :: HP1⟩) ?_ ?_
   ·rintro ⟨q9025, q9026⟩
    refine al3 3 10 11 (by kernel_rfl) ?_ ?_ ?_
    ·exact no rfl (oz (ent_fn' Tryz.func5 isn5 rfl rfl) c2) fun _ => tj [0,1,2,3,4,5] (hN38 (q9025, q9026)) (U6 rfl rfl rfl rfl rfl rfl hLP1) (P2 rfl rfl hHP1)
    ·exact na rfl info32 (C1 false 0 false 0) fun q11 => tj [1,2,0,3,4,5,6] (hN44 (q9025, q9026, q11)) (U7 rfl rfl rfl rfl rfl rfl rfl hLP1) (P3 rfl rfl rfl hHP1)
    exact na rfl info32 (C1 false 0 false 0) fun q12 => tj [1,2,0,3,4,5,6] (hN45 (q9025, q9026, q12)) (U7 rfl rfl rfl rfl rfl rfl rfl hLP1) (P3 rfl rfl rfl hHP1)
   intro hN23
   refine an 9 16 1367 (fun (v25 : A2) => ⟨106, [], (9, Vp v25.1) :: (11, Vp v25.2) :: (40, S1) :: (41, S2) :: (43, S3) :: (45, S4) :: LP1, Ur v25.1 32 (C1 false 0 false 0) :: Ur v25.2 32 (C1 false 0 false 0) :: HP1⟩) ?_ ?_
   ·rintro ⟨q9027, q9028⟩
    refine al3 3 9 11 (by kernel_rfl) ?_ ?_ ?_
    ·exact no rfl (oz (ent_fn' Tryz.func5 isn5 rfl rfl) c2) fun _ => tj [0,1,2,3,4,5] (hN39 (q9027, q9028)) (U6 rfl rfl rfl rfl rfl rfl hLP1) (P2 rfl rfl hHP1)
    ·exact na rfl info32 (C1 false 0 false 0) fun q10 => tj [1,0,2,3,4,5,6] (hN44 (q9027, q10, q9028)) (U7 rfl rfl rfl rfl rfl rfl rfl hLP1) (P3 rfl rfl rfl hHP1)
    exact na rfl info32 (C1 false 0 false 0) fun q12 => tj [1,2,0,3,4,5,6] (hN46 (q9027, q9028, q12)) (U7 rfl rfl rfl rfl rfl rfl rfl hLP1) (P3 rfl rfl rfl hHP1)
   intro hN24
   refine an 9 16 2391 (fun (v26 : A2) => ⟨106, [], (9, Vp v26.1) :: (12, Vp v26.2) :: (40, S1) :: (41, S2) :: (43, S3) :: (45, S4) :: LP1, Ur v26.1 32 (C1 false 0 false 0) :: Ur v26.2 32 (C1 false 0 false 0) :: HP1⟩) ?_ ?_
   ·rintro ⟨q9029, q9030⟩
    refine al3 3 9 10 (by kernel_rfl) ?_ ?_ ?_
    ·exact no rfl (oz (ent_fn' Tryz.func5 isn5 rfl rfl) c2) fun _ => tj [0,1,2,3,4,5] (hN40 (q9029, q9030)) (U6 rfl rfl rfl rfl rfl rfl hLP1) (P2 rfl rfl hHP1)
    ·exact na rfl info32 (C1 false 0 false 0) fun q10 => tj [1,0,2,3,4,5,6] (hN45 (q9029, q10, q9030)) (U7 rfl rfl rfl rfl rfl rfl rfl hLP1) (P3 rfl rfl rfl hHP1)
    exact na rfl info32 (C1 false 0 false 0) fun q11 => tj [1,0,2,3,4,5,6] (hN46 (q9029, q11, q9030)) (U7 rfl rfl rfl rfl rfl rfl rfl hLP1) (P3 rfl rfl rfl hHP1)
   intro hN25
   refine an 9 16 1623 (fun (v27 : A2) => ⟨106, [], (10, Vp v27.1) :: (11, Vp v27.2) :: (40, S1) :: (41, S2) :: (43, S3) :: (45, S4) :: LP1, Ur v27.1 32 (C1 false 0 false 0) :: Ur v27.2 32 (C1 false 0 false 0) :: HP1⟩) ?_ ?_
   ·rintro ⟨q9031, q9032⟩
    refine al3 3 8 11 (by kernel_rfl) ?_ ?_ ?_
    ·exact no rfl (oz (ent_fn' Tryz.func5 isn5 rfl rfl) c2) fun _ => tj [0,1,2,3,4,5] (hN41 (q9031, q9032)) (U6 rfl rfl rfl rfl rfl rfl hLP1) (P2 rfl rfl hHP1)
    ·exact na rfl info32 (C1 false 0 false 0) fun q9 => tj [0,1,2,3,4,5,6] (hN44 (q9, q9031, q9032)) (U7 rfl rfl rfl rfl rfl rfl rfl hLP1) (P3 rfl rfl rfl hHP1)
    exact na rfl info32 (C1 false 0 false 0) fun q12 => tj [1,2,0,3,4,5,6] (hN47 (q9031, q9032, q12)) (U7 rfl rfl rfl rfl rfl rfl rfl hLP1) (P3 rfl rfl rfl hHP1)
   intro hN26
   refine an 9 16 2647 (fun (v28 : A2) => ⟨106, [], (10, Vp v28.1) :: (12, Vp v28.2) :: (40, S1) :: (41, S2) :: (43, S3) :: (45, S4) :: LP1, Ur v28.1 32 (C1 false 0 false 0) :: Ur v28.2 32 (C1 false 0 false 0) :: HP1⟩) ?_ ?_
   ·rintro ⟨q9033, q9034⟩
    refine al3 3 8 10 (by kernel_rfl) ?_ ?_ ?_
    ·exact no rfl (oz (ent_fn' Tryz.func5 isn5 rfl rfl) c2) fun _ => tj [0,1,2,3,4,5] (hN42 (q9033, q9034)) (U6 rfl rfl rfl rfl rfl rfl hLP1) (P2 rfl rfl hHP1)
    ·exact na rfl info32 (C1 false 0 false 0) fun q9 => tj [0,1,2,3,4,5,6] (hN45 (q9, q9033, q9034)) (U7 rfl rfl rfl rfl rfl rfl rfl hLP1) (P3 rfl rfl rfl hHP1)
    exact na rfl info32 (C1 false 0 false 0) fun q11 => tj [1,0,2,3,4,5,6] (hN47 (q9033, q11, q9034)) (U7 rfl rfl rfl rfl rfl rfl rfl hLP1) (P3 rfl rfl rfl hHP1)
   intro hN27
   refine an 9 16 3159 (fun (v29 : A2) => ⟨106, [], (11, Vp v29.1) :: (12, Vp v29.2) :: (40, S1) :: (41, S2) :: (43, S3) :: (45, S4) :: LP1, Ur v29.1 32 (C1 false 0 false 0) :: Ur v29.2 32 (C1 false 0 false 0) :: HP1⟩) ?_ ?_
   ·rintro ⟨q9035, q9036⟩
    refine al3 3 8 9 (by kernel_rfl) ?_ ?_ ?_
    ·exact no rfl (oz (ent_fn' Tryz.func5 isn5 rfl rfl) c2) fun _ => tj [0,1,2,3,4,5] (hN43 (q9035, q9036)) (U6 rfl rfl rfl rfl rfl rfl hLP1) (P2 rfl rfl hHP1)
    ·exact na rfl info32 (C1 false 0 false 0) fun q9 => tj [0,1,2,3,4,5,6] (hN46 (q9, q9035, q9036)) (U7 rfl rfl rfl rfl rfl rfl rfl hLP1) (P3 rfl rfl rfl hHP1)
    exact na rfl info32 (C1 false 0 false 0) fun q10 => tj [0,1,2,3,4,5,6] (hN47 (q10, q9035, q9036)) (U7 rfl rfl rfl rfl rfl rfl rfl hLP1) (P3 rfl rfl rfl hHP1)
   intro hN28
   refine an 9 16 1877 (fun (v30 : A3) => ⟨106, [], (9, Vp v30.1) :: (10, Vp v30.2.1) :: (11, Vp v30.2.2) :: (39, S5) :: (41, S2) :: (43, S3) :: (45, S4) :: LP1, Ur v30.1 32 (C1 false 0 false 0) :: Ur v30.2.1 32 (C1 false 0 false 0) :: Ur v30.2.2 32 (C1 false 0 false 0) :: HP1⟩) ?_ ?_
   ·rintro ⟨q9037, q9038, q9039⟩
    refine al2 1 11 (by kernel_rfl) ?_ ?_
    ·exact no rfl (oz (ent_fn' Tryz.func5 isn5 rfl rfl) c1) fun _ => tj [0,1,2,3,4,5,6] (hN44 (q9037, q9038, q9039)) (U7 rfl rfl rfl rfl rfl rfl rfl hLP1) (P3 rfl rfl rfl hHP1)
    exact na rfl info32 (C1 false 0 false 0) fun q12 => tj [1,2,3,0,4,5,6,7] (hN48 (q9037, q9038, q9039, q12)) (U8 rfl rfl rfl rfl rfl rfl rfl rfl hLP1) (P4 rfl rfl rfl rfl hHP1)
   intro hN29
   refine an 9 16 2901 (fun (v31 : A3) => ⟨106, [], (9, Vp v31.1) :: (10, Vp v31.2.1) :: (12, Vp v31.2.2) :: (39, S5) :: (41, S2) :: (43, S3) :: (45, S4) :: LP1, Ur v31.1 32 (C1 false 0 false 0) :: Ur v31.2.1 32 (C1 false 0 false 0) :: Ur v31.2.2 32 (C1 false 0 false 0) :: HP1⟩) ?_ ?_
   ·rintro ⟨q9040, q9041, q9042⟩
    refine al2 1 10 (by kernel_rfl) ?_ ?_
    ·exact no rfl (oz (ent_fn' Tryz.func5 isn5 rfl rfl) c1) fun _ => tj [0,1,2,3,4,5,6] (hN45 (q9040, q9041, q9042)) (U7 rfl rfl rfl rfl rfl rfl rfl hLP1) (P3 rfl rfl rfl hHP1)
    exact na rfl info32 (C1 false 0 false 0) fun q11 => tj [1,2,0,3,4,5,6,7] (hN48 (q9040, q9041, q11, q9042)) (U8 rfl rfl rfl rfl rfl rfl rfl rfl hLP1) (P4 rfl rfl rfl rfl hHP1)
   intro hN30
   refine an 9 16 3413 (fun (v32 : A3) => ⟨106, [], (9, Vp v32.1) :: (11, Vp v32.2.1) :: (12, Vp v32.2.2) :: (39, S5) :: (41, S2) :: (43, S3) :: (45, S4) :: LP1, Ur v32.1 32 (C1 false 0 false 0) :: Ur v32.2.1 32 (C1 false 0 false 0) :: Ur v32.2.2 32 (C1 false 0 false 0) :: HP1⟩) ?_ ?_
   ·rintro ⟨q9043, q9044, q9045⟩
    refine al2 1 9 (by kernel_rfl) ?_ ?_
    ·exact no rfl (oz (ent_fn' Tryz.func5 isn5 rfl rfl) c1) fun _ => tj [0,1,2,3,4,5,6] (hN46 (q9043, q9044, q9045)) (U7 rfl rfl rfl rfl rfl rfl rfl hLP1) (P3 rfl rfl rfl hHP1)
    exact na rfl info32 (C1 false 0 false 0) fun q10 => tj [1,0,2,3,4,5,6,7] (hN48 (q9043, q10, q9044, q9045)) (U8 rfl rfl rfl rfl rfl rfl rfl rfl hLP1) (P4 rfl rfl rfl rfl hHP1)
   intro hN31
   refine an 9 16 3669 (fun (v33 : A3) => ⟨106, [], (10, Vp v33.1) :: (11, Vp v33.2.1) :: (12, Vp v33.2.2) :: (39, S5) :: (41, S2) :: (43, S3) :: (45, S4) :: LP1, Ur v33.1 32 (C1 false 0 false 0) :: Ur v33.2.1 32 (C1 false 0 false 0) :: Ur v33.2.2 32 (C1 false 0 false 0) :: HP1⟩) ?_ ?_
   ·rintro ⟨q9046, q9047, q9048⟩
    refine al2 1 8 (by kernel_rfl) ?_ ?_
    ·exact no rfl (oz (ent_fn' Tryz.func5 isn5 rfl rfl) c1) fun _ => tj [0,1,2,3,4,5,6] (hN47 (q9046, q9047, q9048)) (U7 rfl rfl rfl rfl rfl rfl rfl hLP1) (P3 rfl rfl rfl hHP1)
    exact na rfl info32 (C1 false 0 false 0) fun q9 => tj [0,1,2,3,4,5,6,7] (hN48 (q9, q9046, q9047, q9048)) (U8 rfl rfl rfl rfl rfl rfl rfl rfl hLP1) (P4 rfl rfl rfl rfl hHP1)
   intro hN32
   refine an 10 16 95 (fun (v8 : Unit) => ⟨106, [], (40, S1) :: (42, S6) :: (43, S3) :: (45, S4) :: LP1, HP1⟩) ?_ ?_
   ·rintro ⟨⟩
    refine al5 5 8 9 10 11 (by kernel_rfl) ?_ ?_ ?_ ?_ ?_
    ·exact no rfl (oz (ent_fn' Tryz.func5 isn5 rfl rfl) c3) fun _ => tj [0,1,2,3] (hN18 ()) (U4 rfl rfl rfl rfl hLP1) hHP1
    ·exact na rfl info32 (C1 false 0 false 0) fun q9 => tj [0,1,2,3,4] (hN19 q9) (U5 rfl rfl rfl rfl rfl hLP1) (P1 rfl hHP1)
    ·exact na rfl info32 (C1 false 0 false 0) fun q10 => tj [0,1,2,3,4] (hN20 q10) (U5 rfl rfl rfl rfl rfl hLP1) (P1 rfl hHP1)
    ·exact na rfl info32 (C1 false 0 false 0) fun q11 => tj [0,1,2,3,4] (hN21 q11) (U5 rfl rfl rfl rfl rfl hLP1) (P1 rfl hHP1)
    exact na rfl info32 (C1 false 0 false 0) fun q12 => tj [0,1,2,3,4] (hN22 q12) (U5 rfl rfl rfl rfl rfl hLP1) (P1 rfl hHP1)
   intro hN7
   refine an 10 16 343 (fun (v9 : Addr) => ⟨106, [], (9, Vp v9) :: (40, S1) :: (41, S2) :: (43, S3) :: (45, S4) :: LP1, Ur v9 32 (C1 false 0 false 0) :: HP1⟩) ?_ ?_
   ·rintro q905
    refine al4 3 9 10 11 (by kernel_rfl) ?_ ?_ ?_ ?_
    ·exact no rfl (oz (ent_fn' Tryz.func5 isn5 rfl rfl) c2) fun _ => tj [0,1,2,3,4] (hN19 q905) (U5 rfl rfl rfl rfl rfl hLP1) (P1 rfl hHP1)
    ·exact na rfl info32 (C1 false 0 false 0) fun q10 => tj [1,0,2,3,4,5] (hN23 (q905, q10)) (U6 rfl rfl rfl rfl rfl rfl hLP1) (P2 rfl rfl hHP1)
    ·exact na rfl info32 (C1 false 0 false 0) fun q11 => tj [1,0,2,3,4,5] (hN24 (q905, q11)) (U6 rfl rfl rfl rfl rfl rfl hLP1) (P2 rfl rfl hHP1)
    exact na rfl info32 (C1 false 0 false 0) fun q12 => tj [1,0,2,3,4,5] (hN25 (q905, q12)) (U6 rfl rfl rfl rfl rfl rfl hLP1) (P2 rfl rfl hHP1)
   intro hN8
   refine an 10 16 599 (fun (v10 : Addr) => ⟨106, [], (10, Vp v10) :: (40, S1) :: (41, S2) :: (43, S3) :: (45, S4) :: LP1, Ur v10 32 (C1 false 0 false 0) :: HP1⟩) ?_ ?_
   ·rintro q906
    refine al4 3 8 10 11 (by kernel_rfl) ?_ ?_ ?_ ?_
    ·exact no rfl (oz (ent_fn' Tryz.func5 isn5 rfl rfl) c2) fun _ => tj [0,1,2,3,4] (hN20 q906) (U5 rfl rfl rfl rfl rfl hLP1) (P1 rfl hHP1)
    ·exact na rfl info32 (C1 false 0 false 0) fun q9 => tj [0,1,2,3,4,5] (hN23 (q9, q906)) (U6 rfl rfl rfl rfl rfl rfl hLP1) (P2 rfl rfl hHP1)
    ·exact na rfl info32 (C1 false 0 false 0) fun q11 => tj [1,0,2,3,4,5] (hN26 (q906, q11)) (U6 rfl rfl rfl rfl rfl rfl hLP1) (P2 rfl rfl hHP1)
    exact na rfl info32 (C1 false 0 false 0) fun q12 => tj [1,0,2,3,4,5] (hN27 (q906, q12)) (U6 rfl rfl rfl rfl rfl rfl hLP1) (P2 rfl rfl hHP1)
   intro hN9
   refine an 10 16 1111 (fun (v11 : Addr) => ⟨106, [], (11, Vp v11) :: (40, S1) :: (41, S2) :: (43, S3) :: (45, S4) :: LP1, Ur v11 32 (C1 false 0 false 0) :: HP1⟩) ?_ ?_
   ·rintro q907
    refine al4 3 8 9 11 (by kernel_rfl) ?_ ?_ ?_ ?_
    ·exact no rfl (oz (ent_fn' Tryz.func5 isn5 rfl rfl) c2) fun _ => tj [0,1,2,3,4] (hN21 q907) (U5 rfl rfl rfl rfl rfl hLP1) (P1 rfl hHP1)
    ·exact na rfl info32 (C1 false 0 false 0) fun q9 => tj [0,1,2,3,4,5] (hN24 (q9, q907)) (U6 rfl rfl rfl rfl rfl rfl hLP1) (P2 rfl rfl hHP1)
    ·exact na rfl info32 (C1 false 0 false 0) fun q10 => tj [0,1,2,3,4,5] (hN26 (q10, q907)) (U6 rfl rfl rfl rfl rfl rfl hLP1) (P2 rfl rfl hHP1)
    exact na rfl info32 (C1 false 0 false 0) fun q12 => tj [1,0,2,3,4,5] (hN28 (q907, q12)) (U6 rfl rfl rfl rfl rfl rfl hLP1) (P2 rfl rfl hHP1)
   intro hN10
   refine an 10 16 2135 (fun (v12 : Addr) => ⟨106, [], (12, Vp v12) :: (40, S1) :: (41, S2) :: (43, S3) :: (45, S4) :: LP1, Ur v12 32 (C1 false 0 false 0) :: HP1⟩) ?_ ?_
   ·rintro q908
    refine al4 3 8 9 10 (by kernel_rfl) ?_ ?_ ?_ ?_
    ·exact no rfl (oz (ent_fn' Tryz.func5 isn5 rfl rfl) c2) fun _ => tj [0,1,2,3,4] (hN22 q908) (U5 rfl rfl rfl rfl rfl hLP1) (P1 rfl hHP1)
    ·exact na rfl info32 (C1 false 0 false 0) fun q9 => tj [0,1,2,3,4,5] (hN25 (q9, q908)) (U6 rfl rfl rfl rfl rfl rfl hLP1) (P2 rfl rfl hHP1)
    ·exact na rfl info32 (C1 false 0 false 0) fun q10 => tj [0,1,2,3,4,5] (hN27 (q10, q908)) (U6 rfl rfl rfl rfl rfl rfl hLP1) (P2 rfl rfl hHP1)
    exact na rfl info32 (C1 false 0 false 0) fun q11 => tj [0,1,2,3,4,5] (hN28 (q11, q908)) (U6 rfl rfl rfl rfl rfl rfl hLP1) (P2 rfl rfl hHP1)
   intro hN11
   refine an 10 16 853 (fun (v13 : A2) => ⟨106, [], (9, Vp v13.1) :: (10, Vp v13.2) :: (39, S5) :: (41, S2) :: (43, S3) :: (45, S4) :: LP1, Ur v13.1 32 (C1 false 0 false 0) :: Ur v13.2 32 (C1 false 0 false 0) :: HP1⟩) ?_ ?_
   ·rintro ⟨q909, q9010⟩
    refine al3 1 10 11 (by kernel_rfl) ?_ ?_ ?_
    ·exact no rfl (oz (ent_fn' Tryz.func5 isn5 rfl rfl) c1) fun _ => tj [0,1,2,3,4,5] (hN23 (q909, q9010)) (U6 rfl rfl rfl rfl rfl rfl hLP1) (P2 rfl rfl hHP1)
    ·exact na rfl info32 (C1 false 0 false 0) fun q11 => tj [1,2,0,3,4,5,6] (hN29 (q909, q9010, q11)) (U7 rfl rfl rfl rfl rfl rfl rfl hLP1) (P3 rfl rfl rfl hHP1)
    exact na rfl info32 (C1 false 0 false 0) fun q12 => tj [1,2,0,3,4,5,6] (hN30 (q909, q9010, q12)) (U7 rfl rfl rfl rfl rfl rfl rfl hLP1) (P3 rfl rfl rfl hHP1)
   intro hN12
   refine an 10 16 1365 (fun (v14 : A2) => ⟨106, [], (9, Vp v14.1) :: (11, Vp v14.2) :: (39, S5) :: (41, S2) :: (43, S3) :: (45, S4) :: LP1, Ur v14.1 32 (C1 false 0 false 0) :: Ur v14.2 32 (C1 false 0 false 0) :: HP1⟩) ?_ ?_
   ·rintro ⟨q9011, q9012⟩
    refine al3 1 9 11 (by kernel_rfl) ?_ ?_ ?_
    ·exact no rfl (oz (ent_fn' Tryz.func5 isn5 rfl rfl) c1) fun _ => tj [0,1,2,3,4,5] (hN24 (q9011, q9012)) (U6 rfl rfl rfl rfl rfl rfl hLP1) (P2 rfl rfl hHP1)
    ·exact na rfl info32 (C1 false 0 false 0) fun q10 => tj [1,0,2,3,4,5,6] (hN29 (q9011, q10, q9012)) (U7 rfl rfl rfl rfl rfl rfl rfl hLP1) (P3 rfl rfl rfl hHP1)
    exact na rfl info32 (C1 false 0 false 0) fun q12 => tj [1,2,0,3,4,5,6] (hN31 (q9011, q9012, q12)) (U7 rfl rfl rfl rfl rfl rfl rfl hLP1) (P3 rfl rfl rfl hHP1)
   intro hN13
   refine an 10 16 2389 (fun (v15 : A2) => ⟨106, [], (9, Vp v15.1) :: (12, Vp v15.2) :: (39, S5) :: (41, S2) :: (43, S3) :: (45, S4) :: LP1, Ur v15.1 32 (C1 false 0 false 0) :: Ur v15.2 32 (C1 false 0 false 0) :: HP1⟩) ?_ ?_
   ·rintro ⟨q9013, q9014⟩
    refine al3 1 9 10 (by kernel_rfl) ?_ ?_ ?_
    ·exact no rfl (oz (ent_fn' Tryz.func5 isn5 rfl rfl) c1) fun _ => tj [0,1,2,3,4,5] (hN25 (q9013, q9014)) (U6 rfl rfl rfl rfl rfl rfl hLP1) (P2 rfl rfl hHP1)
    ·exact na rfl info32 (C1 false 0 false 0) fun q10 => tj [1,0,2,3,4,5,6] (hN30 (q9013, q10, q9014)) (U7 rfl rfl rfl rfl rfl rfl rfl hLP1) (P3 rfl rfl rfl hHP1)
    exact na rfl info32 (C1 false 0 false 0) fun q11 => tj [1,0,2,3,4,5,6] (hN31 (q9013, q11, q9014)) (U7 rfl rfl rfl rfl rfl rfl rfl hLP1) (P3 rfl rfl rfl hHP1)
   intro hN14
   refine an 10 16 1621 (fun (v16 : A2) => ⟨106, [], (10, Vp v16.1) :: (11, Vp v16.2) :: (39, S5) :: (41, S2) :: (43, S3) :: (45, S4) :: LP1, Ur v16.1 32 (C1 false 0 false 0) :: Ur v16.2 32 (C1 false 0 false 0) :: HP1⟩) ?_ ?_
   ·rintro ⟨q9015, q9016⟩
    refine al3 1 8 11 (by kernel_rfl) ?_ ?_ ?_
    ·exact no rfl (oz (ent_fn' Tryz.func5 isn5 rfl rfl) c1) fun _ => tj [0,1,2,3,4,5] (hN26 (q9015, q9016)) (U6 rfl rfl rfl rfl rfl rfl hLP1) (P2 rfl rfl hHP1)
    ·exact na rfl info32 (C1 false 0 false 0) fun q9 => tj [0,1,2,3,4,5,6] (hN29 (q9, q9015, q9016)) (U7 rfl rfl rfl rfl rfl rfl rfl hLP1) (P3 rfl rfl rfl hHP1)
    exact na rfl info32 (C1 false 0 false 0) fun q12 => tj [1,2,0,3,4,5,6] (hN32 (q9015, q9016, q12)) (U7 rfl rfl rfl rfl rfl rfl rfl hLP1) (P3 rfl rfl rfl hHP1)
   intro hN15
   refine an 10 16 2645 (fun (v17 : A2) => ⟨106, [], (10, Vp v17.1) :: (12, Vp v17.2) :: (39, S5) :: (41, S2) :: (43, S3) :: (45, S4) :: LP1, Ur v17.1 32 (C1 false 0 false 0) :: Ur v17.2 32 (C1 false 0 false 0) :: HP1⟩) ?_ ?_
   ·rintro ⟨q9017, q9018⟩
    refine al3 1 8 10 (by kernel_rfl) ?_ ?_ ?_
    ·exact no rfl (oz (ent_fn' Tryz.func5 isn5 rfl rfl) c1) fun _ => tj [0,1,2,3,4,5] (hN27 (q9017, q9018)) (U6 rfl rfl rfl rfl rfl rfl hLP1) (P2 rfl rfl hHP1)
    ·exact na rfl info32 (C1 false 0 false 0) fun q9 => tj [0,1,2,3,4,5,6] (hN30 (q9, q9017, q9018)) (U7 rfl rfl rfl rfl rfl rfl rfl hLP1) (P3 rfl rfl rfl hHP1)
    exact na rfl info32 (C1 false 0 false 0) fun q11 => tj [1,0,2,3,4,5,6] (hN32 (q9017, q11, q9018)) (U7 rfl rfl rfl rfl rfl rfl rfl hLP1) (P3 rfl rfl rfl hHP1)
   intro hN16
   refine an 10 16 3157 (fun (v18 : A2) => ⟨106, [], (11, Vp v18.1) :: (12, Vp v18.2) :: (39, S5) :: (41, S2) :: (43, S3) :: (45, S4) :: LP1, Ur v18.1 32 (C1 false 0 false 0) :: Ur v18.2 32 (C1 false 0 false 0) :: HP1⟩) ?_ ?_
   ·rintro ⟨q9019, q9020⟩
    refine al3 1 8 9 (by kernel_rfl) ?_ ?_ ?_
    ·exact no rfl (oz (ent_fn' Tryz.func5 isn5 rfl rfl) c1) fun _ => tj [0,1,2,3,4,5] (hN28 (q9019, q9020)) (U6 rfl rfl rfl rfl rfl rfl hLP1) (P2 rfl rfl hHP1)
    ·exact na rfl info32 (C1 false 0 false 0) fun q9 => tj [0,1,2,3,4,5,6] (hN31 (q9, q9019, q9020)) (U7 rfl rfl rfl rfl rfl rfl rfl hLP1) (P3 rfl rfl rfl hHP1)
    exact na rfl info32 (C1 false 0 false 0) fun q10 => tj [0,1,2,3,4,5,6] (hN32 (q10, q9019, q9020)) (U7 rfl rfl rfl rfl rfl rfl rfl hLP1) (P3 rfl rfl rfl hHP1)
   intro hN17
   refine an 11 16 87 (fun (v3 : Unit) => ⟨106, [], (40, S1) :: (41, S2) :: (43, S3) :: (45, S4) :: LP1, HP1⟩) ?_ ?_
   ·rintro ⟨⟩
    refine al5 3 8 9 10 11 (by kernel_rfl) ?_ ?_ ?_ ?_ ?_
    ·exact no rfl (oz (ent_fn' Tryz.func5 isn5 rfl rfl) c2) fun _ => tj [0,1,2,3] (hN7 ()) (U4 rfl rfl rfl rfl hLP1) hHP1
    ·exact na rfl info32 (C1 false 0 false 0) fun q9 => tj [0,1,2,3,4] (hN8 q9) (U5 rfl rfl rfl rfl rfl hLP1) (P1 rfl hHP1)
    ·exact na rfl info32 (C1 false 0 false 0) fun q10 => tj [0,1,2,3,4] (hN9 q10) (U5 rfl rfl rfl rfl rfl hLP1) (P1 rfl hHP1)
    ·exact na rfl info32 (C1 false 0 false 0) fun q11 => tj [0,1,2,3,4] (hN10 q11) (U5 rfl rfl rfl rfl rfl hLP1) (P1 rfl hHP1)
    exact na rfl info32 (C1 false 0 false 0) fun q12 => tj [0,1,2,3,4] (hN11 q12) (U5 rfl rfl rfl rfl rfl hLP1) (P1 rfl hHP1)
   intro hN2
   refine an 11 16 341 (fun (v4 : Addr) => ⟨106, [], (9, Vp v4) :: (39, S5) :: (41, S2) :: (43, S3) :: (45, S4) :: LP1, Ur v4 32 (C1 false 0 false 0) :: HP1⟩) ?_ ?_
   ·rintro q901
    refine al4 1 9 10 11 (by kernel_rfl) ?_ ?_ ?_ ?_
    ·exact no rfl (oz (ent_fn' Tryz.func5 isn5 rfl rfl) c1) fun _ => tj [0,1,2,3,4] (hN8 q901) (U5 rfl rfl rfl rfl rfl hLP1) (P1 rfl hHP1)
    ·exact na rfl info32 (C1 false 0 false 0) fun q10 => tj [1,0,2,3,4,5] (hN12 (q901, q10)) (U6 rfl rfl rfl rfl rfl rfl hLP1) (P2 rfl rfl hHP1)
    ·exact na rfl info32 (C1 false 0 false 0) fun q11 => tj [1,0,2,3,4,5] (hN13 (q901, q11)) (U6 rfl rfl rfl rfl rfl rfl hLP1) (P2 rfl rfl hHP1)
    exact na rfl info32 (C1 false 0 false 0) fun q12 => tj [1,0,2,3,4,5] (hN14 (q901, q12)) (U6 rfl rfl rfl rfl rfl rfl hLP1) (P2 rfl rfl hHP1)
   intro hN3
   refine an 11 16 597 (fun (v5 : Addr) => ⟨106, [], (10, Vp v5) :: (39, S5) :: (41, S2) :: (43, S3) :: (45, S4) :: LP1, Ur v5 32 (C1 false 0 false 0) :: HP1⟩) ?_ ?_
   ·rintro q902
    refine al4 1 8 10 11 (by kernel_rfl) ?_ ?_ ?_ ?_
    ·exact no rfl (oz (ent_fn' Tryz.func5 isn5 rfl rfl) c1) fun _ => tj [0,1,2,3,4] (hN9 q902) (U5 rfl rfl rfl rfl rfl hLP1) (P1 rfl hHP1)
    ·exact na rfl info32 (C1 false 0 false 0) fun q9 => tj [0,1,2,3,4,5] (hN12 (q9, q902)) (U6 rfl rfl rfl rfl rfl rfl hLP1) (P2 rfl rfl hHP1)
    ·exact na rfl info32 (C1 false 0 false 0) fun q11 => tj [1,0,2,3,4,5] (hN15 (q902, q11)) (U6 rfl rfl rfl rfl rfl rfl hLP1) (P2 rfl rfl hHP1)
    exact na rfl info32 (C1 false 0 false 0) fun q12 => tj [1,0,2,3,4,5] (hN16 (q902, q12)) (U6 rfl rfl rfl rfl rfl rfl hLP1) (P2 rfl rfl hHP1)
   intro hN4
   refine an 11 16 1109 (fun (v6 : Addr) => ⟨106, [], (11, Vp v6) :: (39, S5) :: (41, S2) :: (43, S3) :: (45, S4) :: LP1, Ur v6 32 (C1 false 0 false 0) :: HP1⟩) ?_ ?_
   ·rintro q903
    refine al4 1 8 9 11 (by kernel_rfl) ?_ ?_ ?_ ?_
    ·exact no rfl (oz (ent_fn' Tryz.func5 isn5 rfl rfl) c1) fun _ => tj [0,1,2,3,4] (hN10 q903) (U5 rfl rfl rfl rfl rfl hLP1) (P1 rfl hHP1)
    ·exact na rfl info32 (C1 false 0 false 0) fun q9 => tj [0,1,2,3,4,5] (hN13 (q9, q903)) (U6 rfl rfl rfl rfl rfl rfl hLP1) (P2 rfl rfl hHP1)
    ·exact na rfl info32 (C1 false 0 false 0) fun q10 => tj [0,1,2,3,4,5] (hN15 (q10, q903)) (U6 rfl rfl rfl rfl rfl rfl hLP1) (P2 rfl rfl hHP1)
    exact na rfl info32 (C1 false 0 false 0) fun q12 => tj [1,0,2,3,4,5] (hN17 (q903, q12)) (U6 rfl rfl rfl rfl rfl rfl hLP1) (P2 rfl rfl hHP1)
   intro hN5
   refine an 11 16 2133 (fun (v7 : Addr) => ⟨106, [], (12, Vp v7) :: (39, S5) :: (41, S2) :: (43, S3) :: (45, S4) :: LP1, Ur v7 32 (C1 false 0 false 0) :: HP1⟩) ?_ ?_
   ·rintro q904
    refine al4 1 8 9 10 (by kernel_rfl) ?_ ?_ ?_ ?_
    ·exact no rfl (oz (ent_fn' Tryz.func5 isn5 rfl rfl) c1) fun _ => tj [0,1,2,3,4] (hN11 q904) (U5 rfl rfl rfl rfl rfl hLP1) (P1 rfl hHP1)
    ·exact na rfl info32 (C1 false 0 false 0) fun q9 => tj [0,1,2,3,4,5] (hN14 (q9, q904)) (U6 rfl rfl rfl rfl rfl rfl hLP1) (P2 rfl rfl hHP1)
    ·exact na rfl info32 (C1 false 0 false 0) fun q10 => tj [0,1,2,3,4,5] (hN16 (q10, q904)) (U6 rfl rfl rfl rfl rfl rfl hLP1) (P2 rfl rfl hHP1)
    exact na rfl info32 (C1 false 0 false 0) fun q11 => tj [0,1,2,3,4,5] (hN17 (q11, q904)) (U6 rfl rfl rfl rfl rfl rfl hLP1) (P2 rfl rfl hHP1)
   intro hN6
   refine al5 1 8 9 10 11 (by kernel_rfl) ?_ ?_ ?_ ?_ ?_
   ·exact no rfl (oz (ent_fn' Tryz.func5 isn5 rfl rfl) c1) fun _ => tj [0,1,2,3] (hN2 ()) (U4 rfl rfl rfl rfl hLP1) hHP1
   ·exact na rfl info32 (C1 false 0 false 0) fun q9 => tj [0,1,2,3,4] (hN3 q9) (U5 rfl rfl rfl rfl rfl hLP1) (P1 rfl hHP1)
   ·exact na rfl info32 (C1 false 0 false 0) fun q10 => tj [0,1,2,3,4] (hN4 q10) (U5 rfl rfl rfl rfl rfl hLP1) (P1 rfl hHP1)
   ·exact na rfl info32 (C1 false 0 false 0) fun q11 => tj [0,1,2,3,4] (hN5 q11) (U5 rfl rfl rfl rfl rfl hLP1) (P1 rfl hHP1)
   exact na rfl info32 (C1 false 0 false 0) fun q12 => tj [0,1,2,3,4] (hN6 q12) (U5 rfl rfl rfl rfl rfl hLP1) (P1 rfl hHP1)
  intro K5 hK5
  rcases br_cases hp with ⟨h2, hp⟩ | ⟨h2, hp⟩
  ·refine sx_skip' rfl rfl (wt_is' (wt_guard' rfl rfl rfl) (beq_tf h2)) ?_
   iterate 2 refine sx_skip' rfl rfl (wt_is' (wt_guard' rfl rfl rfl) (beq_tf h2)) ?_
   refine s0 (rd_pick_true' rfl h2 rfl) ?_
   refine sx_nil' ?_
   show TX E K5 _
   exact tk [0,1,2,3] (u5 rfl rfl rfl rfl rfl) (p4 rfl rfl rfl rfl) (hK5 true hp)
  refine sx_rd' (rd_load_agg' (i := 2) (o := 0) (nn := 2) rfl (ar rfl rfl rfl rfl) rfl agg24 (l' := (C4 a2_0 a2_1)) rfl) rfl rfl (wt_is' (wt_guard' rfl rfl rfl) (beq_ff h2)) ?_
  refine sx_rd' (rd_load_agg' (i := 3) (o := 0) (nn := 2) rfl (ar rfl rfl rfl rfl) rfl agg24 (l' := (C4 a3_0 a3_1)) rfl) rfl rfl (wt_is' (wt_guard' rfl rfl rfl) (beq_ff h2)) ?_
  refine sx_rd' (rd_eq_ag' (us := [.float .f64 a2_0, .float .f64 a2_1]) (vs := [.float .f64 a3_0, .float .f64 a3_1]) rfl rfl eqg24 (eqt_struct Tryz.underlying24 held24 (eqf_cons (by rfl) (part_flat flat22 rfl) (part_flat flat22 rfl) (eqt_flt Tryz.underlying22) (eqf_cons (by rfl) (part_flat flat22 rfl) (part_flat flat22 rfl) (eqt_flt Tryz.underlying22) eqf_nil)))) rfl rfl (wt_is' (wt_guard' rfl rfl rfl) (beq_ff h2)) ?_
  refine s0 (rd_pick_false' rfl h2 rfl) ?_
  refine sx_nil' ?_
  show TX E K5 _
  exact tk [0,1,2,3] (u5 rfl rfl rfl rfl rfl) (p4 rfl rfl rfl rfl) (hK5 ((feq a2_0 a3_0) && ((feq a2_1 a3_1) && true)) hp)
 intro K4 hK4
 rcases br_cases hp with ⟨h1, hp⟩ | ⟨h1, hp⟩
 ·refine sx_skip' rfl rfl (wt_is' (wt_guard' rfl rfl rfl) (beq_tf h1)) ?_
  iterate 2 refine sx_skip' rfl rfl (wt_is' (wt_guard' rfl rfl rfl) (beq_tf h1)) ?_
  refine s0 (rd_pick_true' rfl h1 rfl) ?_
  refine sx_nil' ?_
  show TX E K4 _
  exact tk [4,3,2,1] (u5 rfl rfl rfl rfl rfl) (p4 rfl rfl rfl rfl) (hK4 true hp)
 refine sx_rd' (rd_load_agg' (i := 4) (o := 0) (nn := 2) rfl (ar rfl rfl rfl rfl) rfl agg24 (l' := (C4 a0_0 a0_1)) rfl) rfl rfl (wt_is' (wt_guard' rfl rfl rfl) (beq_ff h1)) ?_
 refine sx_rd' (rd_load_agg' (i := 3) (o := 0) (nn := 2) rfl (ar rfl rfl rfl rfl) rfl agg24 (l' := (C4 a1_0 a1_1)) rfl) rfl rfl (wt_is' (wt_guard' rfl rfl rfl) (beq_ff h1)) ?_
 refine sx_rd' (rd_eq_ag' (us := [.float .f64 a0_0, .float .f64 a0_1]) (vs := [.float .f64 a1_0, .float .f64 a1_1]) rfl rfl eqg24 (eqt_struct Tryz.underlying24 held24 (eqf_cons (by rfl) (part_flat flat22 rfl) (part_flat flat22 rfl) (eqt_flt Tryz.underlying22) (eqf_cons (by rfl) (part_flat flat22 rfl) (part_flat flat22 rfl) (eqt_flt Tryz.underlying22) eqf_nil)))) rfl rfl (wt_is' (wt_guard' rfl rfl rfl) (beq_ff h1)) ?_
 refine s0 (rd_pick_false' rfl h1 rfl) ?_
 refine sx_nil' ?_
 show TX E K4 _
 exact tk [4,3,2,1] (u5 rfl rfl rfl rfl rfl) (p4 rfl rfl rfl rfl) (hK4 ((feq a0_0 a1_0) && ((feq a0_1 a1_1) && true)) hp)

end Go.Proofs.YthobbfpoooommaaGreat
