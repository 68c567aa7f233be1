/-
  Plain functions for the Go functions that this law reaches, and that each call does what its plain function says. Printed by a program of ours.
-/
import Derived.Test.YthobbfpoooommaaGreatProg
import Derived.Test.YthobbfpoooommaaGreatSxX
import Derived.Test.YthobbfpoooommaaGreatFun1
namespace Go.Proofs.YthobbfpoooommaaGreat
open Go.Sx
set_option linter.unusedVariables false
set_option linter.unusedSimpArgs false
set_option maxRecDepth 100000
set_option maxHeartbeats 8000000

def spec_Crossing (k : Nat) (a0_0 : Bool) (a0_1 : List Int) (a0_2 : Int) (a0_3 : Bool) (a0_4 : List Int) (a0_5 : Int) (a1_0 : Bool) (a1_1 : List Int) (a1_2 : Int) (a1_3 : Bool) (a1_4 : List Int) (a1_5 : Int) (a2_0 : Bool) (a2_1 : List Int) (a2_2 : Int) (a2_3 : Bool) (a2_4 : List Int) (a2_5 : Int) (a3_0 : Bool) (a3_1 : List Int) (a3_2 : Int) (a3_3 : Bool) (a3_4 : List Int) (a3_5 : Int) : Option (Bool × (List Int) × Int × Bool × (List Int) × Int × Bool × (List Int) × Int × Bool × (List Int) × Int × Bool) :=
 (spec_Dyadic_Sub k a1_0 a1_1 a1_2 a0_0 a0_1 a0_2) >>= fun r21 =>
 (spec_Dyadic_Sub k a1_3 a1_4 a1_5 a0_3 a0_4 a0_5) >>= fun r26 =>
 (spec_Dyadic_Sub k a3_0 a3_1 a3_2 a2_0 a2_1 a2_2) >>= fun r31 =>
 (spec_Dyadic_Sub k a3_3 a3_4 a3_5 a2_3 a2_4 a2_5) >>= fun r36 =>
 (spec_Dyadic_Mul k r21.1 r21.2.1 r21.2.2 r36.1 r36.2.1 r36.2.2) >>= fun r39 =>
 (spec_Dyadic_Mul k r26.1 r26.2.1 r26.2.2 r31.1 r31.2.1 r31.2.2) >>= fun r42 =>
 (spec_Dyadic_Sub k r39.1 r39.2.1 r39.2.2 r42.1 r42.2.1 r42.2.2) >>= fun r43 =>
 (spec_Dyadic_Sign k r43.1 r43.2.1 r43.2.2) >>= fun r45 =>
 br (decide (r45 = 0))
  (some (false, [], 0, false, [], 0, false, [], 0, false, [], 0, false))
  ((spec_Dyadic_Sub k a2_0 a2_1 a2_2 a0_0 a0_1 a0_2) >>= fun r53 =>
  (spec_Dyadic_Mul k r53.1 r53.2.1 r53.2.2 r36.1 r36.2.1 r36.2.2) >>= fun r55 =>
  (spec_Dyadic_Sub k a2_3 a2_4 a2_5 a0_3 a0_4 a0_5) >>= fun r60 =>
  (spec_Dyadic_Mul k r60.1 r60.2.1 r60.2.2 r31.1 r31.2.1 r31.2.2) >>= fun r62 =>
  (spec_Dyadic_Sub k r55.1 r55.2.1 r55.2.2 r62.1 r62.2.1 r62.2.2) >>= fun r63 =>
  (spec_Dyadic_Mul k a0_0 a0_1 a0_2 r43.1 r43.2.1 r43.2.2) >>= fun r67 =>
  (spec_Dyadic_Mul k r63.1 r63.2.1 r63.2.2 r21.1 r21.2.1 r21.2.2) >>= fun r70 =>
  (spec_Dyadic_Add k r67.1 r67.2.1 r67.2.2 r70.1 r70.2.1 r70.2.2) >>= fun r71 =>
  (spec_RatioOf k r71.1 r71.2.1 r71.2.2 r43.1 r43.2.1 r43.2.2) >>= fun r73 =>
  (spec_Dyadic_Mul k a0_3 a0_4 a0_5 r43.1 r43.2.1 r43.2.2) >>= fun r77 =>
  (spec_Dyadic_Mul k r63.1 r63.2.1 r63.2.2 r26.1 r26.2.1 r26.2.2) >>= fun r80 =>
  (spec_Dyadic_Add k r77.1 r77.2.1 r77.2.2 r80.1 r80.2.1 r80.2.2) >>= fun r81 =>
  (spec_RatioOf k r81.1 r81.2.1 r81.2.2 r43.1 r43.2.1 r43.2.2) >>= fun r83 =>
  some (r73.1, r73.2.1, r73.2.2.1, r73.2.2.2.1, r73.2.2.2.2.1, r73.2.2.2.2.2, r83.1, r83.2.1, r83.2.2.1, r83.2.2.2.1, r83.2.2.2.2.1, r83.2.2.2.2.2, true))

theorem spec_Crossing_sim {k : Nat}  (a0_0 : Bool) (a0_1 : List Int) (a0_2 : Int) (a0_3 : Bool) (a0_4 : List Int) (a0_5 : Int) (a1_0 : Bool) (a1_1 : List Int) (a1_2 : Int) (a1_3 : Bool) (a1_4 : List Int) (a1_5 : Int) (a2_0 : Bool) (a2_1 : List Int) (a2_2 : Int) (a2_3 : Bool) (a2_4 : List Int) (a2_5 : Int) (a3_0 : Bool) (a3_1 : List Int) (a3_2 : Int) (a3_3 : Bool) (a3_4 : List Int) (a3_5 : Int) {out : Bool × (List Int) × Int × Bool × (List Int) × Int × Bool × (List Int) × Int × Bool × (List Int) × Int × Bool} (hp : spec_Crossing k a0_0 a0_1 a0_2 a0_3 a0_4 a0_5 a1_0 a1_1 a1_2 a1_3 a1_4 a1_5 a2_0 a2_1 a2_2 a2_3 a2_4 a2_5 a3_0 a3_1 a3_2 a3_3 a3_4 a3_5 = some out) : Sx.Fn Tryz.prog 7 [(Ag (C0 a0_0 a0_1 a0_2 a0_3 a0_4 a0_5)), (Ag (C0 a1_0 a1_1 a1_2 a1_3 a1_4 a1_5)), (Ag (C0 a2_0 a2_1 a2_2 a2_3 a2_4 a2_5)), (Ag (C0 a3_0 a3_1 a3_2 a3_3 a3_4 a3_5))] [] (fun w : Unit => (Tu [(Ag (C0 out.1 out.2.1 out.2.2.1 out.2.2.2.1 out.2.2.2.2.1 out.2.2.2.2.2.1)), (Ag (C0 out.2.2.2.2.2.2.1 out.2.2.2.2.2.2.2.1 out.2.2.2.2.2.2.2.2.1 out.2.2.2.2.2.2.2.2.2.1 out.2.2.2.2.2.2.2.2.2.2.1 out.2.2.2.2.2.2.2.2.2.2.2.1)), (Vb out.2.2.2.2.2.2.2.2.2.2.2.2)])) (fun w => []) := by
 unfold spec_Crossing at hp
 refine fn_of Tryz.func7 rfl Tryz.ntmps7 rfl fun E hM => ?_
 refine cr fun K1 hK1 => ?_
 refine so (ox_box' rfl (lv_ag _) rfl rfl) fun q4 => ?_
 refine so (ox_box' rfl (lv_ag _) rfl rfl) fun q5 => ?_
 refine so (ox_box' rfl (lv_ag _) rfl rfl) fun q6 => ?_
 refine so (ox_box' rfl (lv_ag _) rfl rfl) fun q7 => ?_
 refine so (ox_alloc' info37 rfl rfl rfl rfl (l := (C1 false 0 false 0)) rfl) fun q8 => ?_
 refine so (ox_alloc' info37 rfl rfl rfl rfl (l := (C1 false 0 false 0)) rfl) fun q9 => ?_
 refine sa rfl ?_
 refine nk hK1 ?_
 refine cx_seq' fun K2 hK2 => ?_
 refine cx_plana' [] [(12, 1), (13, 1)] [(0, 1), (1, 1), (2, 1), (3, 1), (5, 1), (6, 1), (7, 1), (8, 1)] 6 #[true, true, true, true, false, true, true, true, true, false, false, false, false, false] mixed (by kernel_rfl) ?_
 refine pd rfl (rd_field0' rfl Tryz.underlying32 rfl info30 rfl) ?_
 refine pd rfl (rd_load_agg' (i := 4) (o := 0) (nn := 3) rfl (ar rfl rfl rfl rfl) rfl agg30 (l' := (C2 a1_0 a1_1 a1_2)) rfl) ?_
 refine pd rfl (rd_field0' rfl Tryz.underlying32 rfl info30 rfl) ?_
 refine pd rfl (rd_load_agg' (i := 5) (o := 0) (nn := 3) rfl (ar rfl rfl rfl rfl) rfl agg30 (l' := (C2 a0_0 a0_1 a0_2)) rfl) ?_
 refine pd rfl (rd_field' (off := 3) rfl Tryz.underlying32 rfl info30 rfl) ?_
 refine pd rfl (rd_load_agg' (i := 4) (o := 3) (nn := 3) rfl (ar rfl rfl rfl rfl) rfl agg30 (l' := (C2 a1_3 a1_4 a1_5)) rfl) ?_
 refine pd rfl (rd_field' (off := 3) rfl Tryz.underlying32 rfl info30 rfl) ?_
 refine pd rfl (rd_load_agg' (i := 5) (o := 3) (nn := 3) rfl (ar rfl rfl rfl rfl) rfl agg30 (l' := (C2 a0_3 a0_4 a0_5)) rfl) ?_
 refine px_nil' ?_
 show AX E _ _ _ _ _ _ _ _
 obtain ⟨r21, hr21, hp⟩ := bind_some hp
 obtain ⟨r26, hr26, hp⟩ := bind_some hp
 refine an 0 14 16383 (fun (v13 : A2) => ⟨84, [], [(11, (Vp v13.1)), (12, (Vp v13.2)), (4, (Vp q4)), (6, (Vp q6)), (7, (Vp q7)), (8, (Vp q8)), (9, (Vp q9))], [(Ur v13.1 30 (C2 r21.1 r21.2.1 r21.2.2)), (Ur v13.2 30 (C2 r26.1 r26.2.1 r26.2.2)), (Ur q4 32 (C0 a0_0 a0_1 a0_2 a0_3 a0_4 a0_5)), (Ur q6 32 (C0 a2_0 a2_1 a2_2 a2_3 a2_4 a2_5)), (Ur q7 32 (C0 a3_0 a3_1 a3_2 a3_3 a3_4 a3_5)), (Ur q8 37 (C1 false 0 false 0)), (Ur q9 37 (C1 false 0 false 0))]⟩) ?_ ?_
 ·rintro ⟨q9015, q9016⟩
  refine ax_nil (by kernel_rfl) ?_
  show TX E K2 _
  refine tx_k' hK2 ?_
  refine cx_seq' fun K3 hK3 => ?_
  refine cx_plana' [] [(12, 1), (13, 1)] [(0, 1), (1, 1), (2, 1), (3, 1), (5, 1), (6, 1), (7, 1), (8, 1)] 6 #[true, true, true, true, false, true, true, true, true, false, false, false, false, false] mixed (by kernel_rfl) ?_
  refine pd rfl (rd_field0' rfl Tryz.underlying32 rfl info30 rfl) ?_
  refine pd rfl (rd_load_agg' (i := 4) (o := 0) (nn := 3) rfl (ar rfl rfl rfl rfl) rfl agg30 (l' := (C2 a3_0 a3_1 a3_2)) rfl) ?_
  refine pd rfl (rd_field0' rfl Tryz.underlying32 rfl info30 rfl) ?_
  refine pd rfl (rd_load_agg' (i := 3) (o := 0) (nn := 3) rfl (ar rfl rfl rfl rfl) rfl agg30 (l' := (C2 a2_0 a2_1 a2_2)) rfl) ?_
  refine pd rfl (rd_field' (off := 3) rfl Tryz.underlying32 rfl info30 rfl) ?_
  refine pd rfl (rd_load_agg' (i := 4) (o := 3) (nn := 3) rfl (ar rfl rfl rfl rfl) rfl agg30 (l' := (C2 a3_3 a3_4 a3_5)) rfl) ?_
  refine pd rfl (rd_field' (off := 3) rfl Tryz.underlying32 rfl info30 rfl) ?_
  refine pd rfl (rd_load_agg' (i := 3) (o := 3) (nn := 3) rfl (ar rfl rfl rfl rfl) rfl agg30 (l' := (C2 a2_3 a2_4 a2_5)) rfl) ?_
  refine px_nil' ?_
  show AX E _ _ _ _ _ _ _ _
  obtain ⟨r31, hr31, hp⟩ := bind_some hp
  obtain ⟨r36, hr36, hp⟩ := bind_some hp
  refine an 0 14 16383 (fun (v26 : A2) => ⟨84, [], [(13, (Vp v26.1)), (14, (Vp v26.2)), (4, (Vp q4)), (6, (Vp q6)), (8, (Vp q8)), (9, (Vp q9)), (11, (Vp q9015)), (12, (Vp q9016))], [(Ur v26.1 30 (C2 r31.1 r31.2.1 r31.2.2)), (Ur v26.2 30 (C2 r36.1 r36.2.1 r36.2.2)), (Ur q4 32 (C0 a0_0 a0_1 a0_2 a0_3 a0_4 a0_5)), (Ur q6 32 (C0 a2_0 a2_1 a2_2 a2_3 a2_4 a2_5)), (Ur q8 37 (C1 false 0 false 0)), (Ur q9 37 (C1 false 0 false 0)), (Ur q9015 30 (C2 r21.1 r21.2.1 r21.2.2)), (Ur q9016 30 (C2 r26.1 r26.2.1 r26.2.2))]⟩) ?_ ?_
  ·rintro ⟨q9031, q9032⟩
   refine ax_nil (by kernel_rfl) ?_
   show TX E K3 _
   refine tx_k' hK3 ?_
   refine cx_seq' fun K4 hK4 => ?_
   refine cx_plana' [] [(8, 1)] [(0, 1), (1, 1), (3, 1), (4, 1)] 5 #[true, true, false, true, true, false, false, false, false] mixed (by kernel_rfl) ?_
   refine pd rfl (rd_load_agg' (i := 6) (o := 0) (nn := 3) rfl (ar rfl rfl rfl rfl) rfl agg30 (l' := (C2 r21.1 r21.2.1 r21.2.2)) rfl) ?_
   refine pd rfl (rd_load_agg' (i := 1) (o := 0) (nn := 3) rfl (ar rfl rfl rfl rfl) rfl agg30 (l' := (C2 r36.1 r36.2.1 r36.2.2)) rfl) ?_
   refine pd rfl (rd_load_agg' (i := 7) (o := 0) (nn := 3) rfl (ar rfl rfl rfl rfl) rfl agg30 (l' := (C2 r26.1 r26.2.1 r26.2.2)) rfl) ?_
   refine pd rfl (rd_load_agg' (i := 0) (o := 0) (nn := 3) rfl (ar rfl rfl rfl rfl) rfl agg30 (l' := (C2 r31.1 r31.2.1 r31.2.2)) rfl) ?_
   refine px_nil' ?_
   show AX E _ _ _ _ _ _ _ _
   obtain ⟨r39, hr39, hp⟩ := bind_some hp
   obtain ⟨r42, hr42, hp⟩ := bind_some hp
   obtain ⟨r43, hr43, hp⟩ := bind_some hp
   refine an 0 9 511 (fun (v34 : Addr) => ⟨84, [], [(15, (Vp v34)), (4, (Vp q4)), (6, (Vp q6)), (8, (Vp q8)), (9, (Vp q9)), (11, (Vp q9015)), (12, (Vp q9016)), (13, (Vp q9031)), (14, (Vp q9032))], [(Ur v34 30 (C2 r43.1 r43.2.1 r43.2.2)), (Ur q4 32 (C0 a0_0 a0_1 a0_2 a0_3 a0_4 a0_5)), (Ur q6 32 (C0 a2_0 a2_1 a2_2 a2_3 a2_4 a2_5)), (Ur q8 37 (C1 false 0 false 0)), (Ur q9 37 (C1 false 0 false 0)), (Ur q9015 30 (C2 r21.1 r21.2.1 r21.2.2)), (Ur q9016 30 (C2 r26.1 r26.2.1 r26.2.2)), (Ur q9031 30 (C2 r31.1 r31.2.1 r31.2.2)), (Ur q9032 30 (C2 r36.1 r36.2.1 r36.2.2))]⟩) ?_ ?_
   ·rintro q9037
    refine ax_nil (by kernel_rfl) ?_
    show TX E K4 _
    refine tx_k' hK4 ?_
    refine cx_seq' fun K5 hK5 => ?_
    refine cr fun K6 hK6 => ?_
    refine s0 (rd_load_agg' (i := 0) (o := 0) (nn := 3) rfl (ar rfl rfl rfl rfl) rfl agg30 (l' := (C2 r43.1 r43.2.1 r43.2.2)) rfl) ?_
    obtain ⟨r45, hr45, hp⟩ := bind_some hp
    refine so (oz (ent_fn' Tryz.func17 isn17 rfl rfl) (spec_Dyadic_Sign_sim _ _ _ hr45)) fun ⟨⟩ => ?_
    refine sb rfl rfl eg_int ru_eql ?_
    refine nk hK6 ?_
    refine cx_cond' rfl (fun h1 => ?_) (fun h1 => ?_)
    ·replace hp := (br_t h1).symm.trans hp
     refine cr fun K7 hK7 => ?_
     iterate 2 refine sv (pls := [(0, 3), (3, 3)]) (qs := []) (r := (C1 false 0 false 0)) trivial Tryz.underlying37 has37 places37 info37 rfl rfl rfl ?_
     refine so (ox_store' (i := 3) (o := 0) rfl rfl (lv_ag _) (ar rfl rfl rfl rfl) rfl info37 rfl (H' := [(Ur q9037 30 (C2 r43.1 r43.2.1 r43.2.2)), (Ur q4 32 (C0 a0_0 a0_1 a0_2 a0_3 a0_4 a0_5)), (Ur q6 32 (C0 a2_0 a2_1 a2_2 a2_3 a2_4 a2_5)), (Ur q8 37 (C1 false 0 false 0)), (Ur q9 37 (C1 false 0 false 0)), (Ur q9015 30 (C2 r21.1 r21.2.1 r21.2.2)), (Ur q9016 30 (C2 r26.1 r26.2.1 r26.2.2)), (Ur q9031 30 (C2 r31.1 r31.2.1 r31.2.2)), (Ur q9032 30 (C2 r36.1 r36.2.1 r36.2.2))]) rfl) fun _ => ?_
     refine so (ox_store' (i := 4) (o := 0) rfl rfl (lv_ag _) (ar rfl rfl rfl rfl) rfl info37 rfl (H' := [(Ur q9037 30 (C2 r43.1 r43.2.1 r43.2.2)), (Ur q4 32 (C0 a0_0 a0_1 a0_2 a0_3 a0_4 a0_5)), (Ur q6 32 (C0 a2_0 a2_1 a2_2 a2_3 a2_4 a2_5)), (Ur q8 37 (C1 false 0 false 0)), (Ur q9 37 (C1 false 0 false 0)), (Ur q9015 30 (C2 r21.1 r21.2.1 r21.2.2)), (Ur q9016 30 (C2 r26.1 r26.2.1 r26.2.2)), (Ur q9031 30 (C2 r31.1 r31.2.1 r31.2.2)), (Ur q9032 30 (C2 r36.1 r36.2.1 r36.2.2))]) rfl) fun _ => ?_
     refine sa rfl ?_
     refine nk hK7 ?_
     refine cx_retc' ?_
     replace hp := sj hp
     subst hp
     refine tk (L' := [(8, (Vp q8)), (9, (Vp q9)), (10, (Vb false))]) (H' := [(Ur q8 37 (C1 false 0 false 0)), (Ur q9 37 (C1 false 0 false 0))]) [3, 4] (u3 rfl rfl rfl) (p2 rfl rfl) ?_
     exact tx_ret3' Tryz.results7 rfl () (rv_imp' (x := (Ag (C1 false 0 false 0))) (y := (Ag [(Vb false), (Sl (Ki .u32) []), (Vi 0), (Vb false), (Sl (Ki .u32) []), (Vi 0)])) (rv_cell_agg' (i := 0) (o := 0) (nn := 6) rfl (ar rfl rfl rfl rfl) rfl agg37 rfl) (imp_ag ⟨imp_refl, imp_nil, imp_refl, imp_refl, imp_nil, imp_refl, trivial⟩)) (rv_imp' (x := (Ag (C1 false 0 false 0))) (y := (Ag [(Vb false), (Sl (Ki .u32) []), (Vi 0), (Vb false), (Sl (Ki .u32) []), (Vi 0)])) (rv_cell_agg' (i := 1) (o := 0) (nn := 6) rfl (ar rfl rfl rfl rfl) rfl agg37 rfl) (imp_ag ⟨imp_refl, imp_nil, imp_refl, imp_refl, imp_nil, imp_refl, trivial⟩)) (rv_tmp' rfl) rfl (List.nil_sublist _)
    replace hp := (br_f h1).symm.trans hp
    refine cx_skip' ?_
    show TX E K5 _
    refine tx_k' hK5 ?_
    refine cx_seq' fun K8 hK8 => ?_
    refine cx_plana' [] [(16, 1)] [(0, 1), (1, 1), (2, 1), (3, 1), (5, 1), (7, 1), (8, 1), (9, 1), (10, 1), (12, 1)] 7 #[true, true, true, true, false, true, false, true, true, true, true, false, true, false, false, false, false] mixed (by kernel_rfl) ?_
    refine pd rfl (rd_field0' rfl Tryz.underlying32 rfl info30 rfl) ?_
    refine pd rfl (rd_load_agg' (i := 2) (o := 0) (nn := 3) rfl (ar rfl rfl rfl rfl) rfl agg30 (l' := (C2 a2_0 a2_1 a2_2)) rfl) ?_
    refine pd rfl (rd_field0' rfl Tryz.underlying32 rfl info30 rfl) ?_
    refine pd rfl (rd_load_agg' (i := 1) (o := 0) (nn := 3) rfl (ar rfl rfl rfl rfl) rfl agg30 (l' := (C2 a0_0 a0_1 a0_2)) rfl) ?_
    refine pd rfl (rd_load_agg' (i := 8) (o := 0) (nn := 3) rfl (ar rfl rfl rfl rfl) rfl agg30 (l' := (C2 r36.1 r36.2.1 r36.2.2)) rfl) ?_
    refine pd rfl (rd_field' (off := 3) rfl Tryz.underlying32 rfl info30 rfl) ?_
    refine pd rfl (rd_load_agg' (i := 2) (o := 3) (nn := 3) rfl (ar rfl rfl rfl rfl) rfl agg30 (l' := (C2 a2_3 a2_4 a2_5)) rfl) ?_
    refine pd rfl (rd_field' (off := 3) rfl Tryz.underlying32 rfl info30 rfl) ?_
    refine pd rfl (rd_load_agg' (i := 1) (o := 3) (nn := 3) rfl (ar rfl rfl rfl rfl) rfl agg30 (l' := (C2 a0_3 a0_4 a0_5)) rfl) ?_
    refine pd rfl (rd_load_agg' (i := 7) (o := 0) (nn := 3) rfl (ar rfl rfl rfl rfl) rfl agg30 (l' := (C2 r31.1 r31.2.1 r31.2.2)) rfl) ?_
    refine px_nil' ?_
    show AX E _ _ _ _ _ _ _ _
    obtain ⟨r53, hr53, hp⟩ := bind_some hp
    obtain ⟨r55, hr55, hp⟩ := bind_some hp
    obtain ⟨r60, hr60, hp⟩ := bind_some hp
    obtain ⟨r62, hr62, hp⟩ := bind_some hp
    obtain ⟨r63, hr63, hp⟩ := bind_some hp
    refine an 0 17 131071 (fun (v46 : Addr) => ⟨84, [], [(16, (Vp v46)), (4, (Vp q4)), (8, (Vp q8)), (9, (Vp q9)), (11, (Vp q9015)), (12, (Vp q9016)), (15, (Vp q9037))], [(Ur v46 30 (C2 r63.1 r63.2.1 r63.2.2)), (Ur q4 32 (C0 a0_0 a0_1 a0_2 a0_3 a0_4 a0_5)), (Ur q8 37 (C1 false 0 false 0)), (Ur q9 37 (C1 false 0 false 0)), (Ur q9015 30 (C2 r21.1 r21.2.1 r21.2.2)), (Ur q9016 30 (C2 r26.1 r26.2.1 r26.2.2)), (Ur q9037 30 (C2 r43.1 r43.2.1 r43.2.2))]⟩) ?_ ?_
    ·rintro q9044
     refine ax_nil (by kernel_rfl) ?_
     show TX E K8 _
     refine tx_k' hK8 ?_
     refine cx_seq' fun K9 hK9 => ?_
     refine cx_plan' [] [(20, 1), (21, 1)] [(0, 1), (1, 1), (2, 1), (4, 1), (5, 1), (8, 1), (10, 1), (11, 1), (12, 1), (14, 1), (15, 1), (18, 1), (3, 0), (6, 0), (7, 0), (9, 0), (13, 0), (16, 0), (17, 0), (19, 0), (20, 0), (21, 0), (22, 1)] mixed (by kernel_rfl) ?_
     refine pd rfl (rd_field0' rfl Tryz.underlying32 rfl info30 rfl) ?_
     refine pd rfl (rd_load_agg' (i := 1) (o := 0) (nn := 3) rfl (ar rfl rfl rfl rfl) rfl agg30 (l' := (C2 a0_0 a0_1 a0_2)) rfl) ?_
     refine pd rfl (rd_load_agg' (i := 6) (o := 0) (nn := 3) rfl (ar rfl rfl rfl rfl) rfl agg30 (l' := (C2 r43.1 r43.2.1 r43.2.2)) rfl) ?_
     refine pd rfl (rd_load_agg' (i := 0) (o := 0) (nn := 3) rfl (ar rfl rfl rfl rfl) rfl agg30 (l' := (C2 r63.1 r63.2.1 r63.2.2)) rfl) ?_
     refine pd rfl (rd_load_agg' (i := 4) (o := 0) (nn := 3) rfl (ar rfl rfl rfl rfl) rfl agg30 (l' := (C2 r21.1 r21.2.1 r21.2.2)) rfl) ?_
     refine pd rfl (rd_load_agg' (i := 6) (o := 0) (nn := 3) rfl (ar rfl rfl rfl rfl) rfl agg30 (l' := (C2 r43.1 r43.2.1 r43.2.2)) rfl) ?_
     refine pd rfl (rd_field' (off := 3) rfl Tryz.underlying32 rfl info30 rfl) ?_
     refine pd rfl (rd_load_agg' (i := 1) (o := 3) (nn := 3) rfl (ar rfl rfl rfl rfl) rfl agg30 (l' := (C2 a0_3 a0_4 a0_5)) rfl) ?_
     refine pd rfl (rd_load_agg' (i := 6) (o := 0) (nn := 3) rfl (ar rfl rfl rfl rfl) rfl agg30 (l' := (C2 r43.1 r43.2.1 r43.2.2)) rfl) ?_
     refine pd rfl (rd_load_agg' (i := 0) (o := 0) (nn := 3) rfl (ar rfl rfl rfl rfl) rfl agg30 (l' := (C2 r63.1 r63.2.1 r63.2.2)) rfl) ?_
     refine pd rfl (rd_load_agg' (i := 5) (o := 0) (nn := 3) rfl (ar rfl rfl rfl rfl) rfl agg30 (l' := (C2 r26.1 r26.2.1 r26.2.2)) rfl) ?_
     refine pd rfl (rd_load_agg' (i := 6) (o := 0) (nn := 3) rfl (ar rfl rfl rfl rfl) rfl agg30 (l' := (C2 r43.1 r43.2.1 r43.2.2)) rfl) ?_
     obtain ⟨r67, hr67, hp⟩ := bind_some hp
     refine px_ox' rfl (oz (ent_fn' Tryz.func16 isn16 rfl rfl) (spec_Dyadic_Mul_sim _ _ _ _ _ _ hr67)) rfl bs_nil (wt_none' rfl) fun ⟨⟩ => ?_
     obtain ⟨r70, hr70, hp⟩ := bind_some hp
     refine px_ox' rfl (oz (ent_fn' Tryz.func16 isn16 rfl rfl) (spec_Dyadic_Mul_sim _ _ _ _ _ _ hr70)) rfl bs_nil (wt_none' rfl) fun ⟨⟩ => ?_
     obtain ⟨r71, hr71, hp⟩ := bind_some hp
     refine px_ox' rfl (oz (ent_fn' Tryz.func19 isn19 rfl rfl) (spec_Dyadic_Add_sim _ _ _ _ _ _ hr71)) rfl bs_nil (wt_none' rfl) fun ⟨⟩ => ?_
     obtain ⟨r73, hr73, hp⟩ := bind_some hp
     refine px_ox' rfl (oz (ent_fn' Tryz.func18 isn18 rfl rfl) (spec_RatioOf_sim _ _ _ _ _ _ hr73)) rfl bs_nil (wt_none' rfl) fun ⟨⟩ => ?_
     obtain ⟨r77, hr77, hp⟩ := bind_some hp
     refine px_ox' rfl (oz (ent_fn' Tryz.func16 isn16 rfl rfl) (spec_Dyadic_Mul_sim _ _ _ _ _ _ hr77)) rfl bs_nil (wt_none' rfl) fun ⟨⟩ => ?_
     obtain ⟨r80, hr80, hp⟩ := bind_some hp
     refine px_ox' rfl (oz (ent_fn' Tryz.func16 isn16 rfl rfl) (spec_Dyadic_Mul_sim _ _ _ _ _ _ hr80)) rfl bs_nil (wt_none' rfl) fun ⟨⟩ => ?_
     obtain ⟨r81, hr81, hp⟩ := bind_some hp
     refine px_ox' rfl (oz (ent_fn' Tryz.func19 isn19 rfl rfl) (spec_Dyadic_Add_sim _ _ _ _ _ _ hr81)) rfl bs_nil (wt_none' rfl) fun ⟨⟩ => ?_
     obtain ⟨r83, hr83, hp⟩ := bind_some hp
     refine px_ox' rfl (oz (ent_fn' Tryz.func18 isn18 rfl rfl) (spec_RatioOf_sim _ _ _ _ _ _ hr83)) rfl bs_nil (wt_none' rfl) fun ⟨⟩ => ?_
     refine px_oxv' rfl (oxv_store (i := 2) (o := 0) rfl rfl (lv_ag _) (ar rfl rfl rfl rfl) rfl info37 rfl (H' := [(Ur q9044 30 (C2 r63.1 r63.2.1 r63.2.2)), (Ur q4 32 (C0 a0_0 a0_1 a0_2 a0_3 a0_4 a0_5)), (Ur q8 37 (C0 r73.1 r73.2.1 r73.2.2.1 r73.2.2.2.1 r73.2.2.2.2.1 r73.2.2.2.2.2)), (Ur q9 37 (C1 false 0 false 0)), (Ur q9015 30 (C2 r21.1 r21.2.1 r21.2.2)), (Ur q9016 30 (C2 r26.1 r26.2.1 r26.2.2)), (Ur q9037 30 (C2 r43.1 r43.2.1 r43.2.2))]) rfl) rfl rfl bo_nil (wt_none' rfl) fun _ => ?_
     refine px_oxv' rfl (oxv_store (i := 3) (o := 0) rfl rfl (lv_ag _) (ar rfl rfl rfl rfl) rfl info37 rfl (H' := [(Ur q9044 30 (C2 r63.1 r63.2.1 r63.2.2)), (Ur q4 32 (C0 a0_0 a0_1 a0_2 a0_3 a0_4 a0_5)), (Ur q8 37 (C0 r73.1 r73.2.1 r73.2.2.1 r73.2.2.2.1 r73.2.2.2.2.1 r73.2.2.2.2.2)), (Ur q9 37 (C0 r83.1 r83.2.1 r83.2.2.1 r83.2.2.2.1 r83.2.2.2.2.1 r83.2.2.2.2.2)), (Ur q9015 30 (C2 r21.1 r21.2.1 r21.2.2)), (Ur q9016 30 (C2 r26.1 r26.2.1 r26.2.2)), (Ur q9037 30 (C2 r43.1 r43.2.1 r43.2.2))]) rfl) rfl rfl bo_nil (wt_none' rfl) fun _ => ?_
     refine pd rfl (rd_assign' rfl) ?_
     refine px_nil' ?_
     show TX E K9 _
     refine tx_k' hK9 ?_
     refine cx_retc' ?_
     replace hp := sj hp
     subst hp
     refine tk (L' := [(8, (Vp q8)), (9, (Vp q9)), (10, (Vb true))]) (H' := [(Ur q8 37 (C0 r73.1 r73.2.1 r73.2.2.1 r73.2.2.2.1 r73.2.2.2.2.1 r73.2.2.2.2.2)), (Ur q9 37 (C0 r83.1 r83.2.1 r83.2.2.1 r83.2.2.2.1 r83.2.2.2.2.1 r83.2.2.2.2.2))]) [2, 3] (u3 rfl rfl rfl) (p2 rfl rfl) ?_
     exact tx_ret3' Tryz.results7 rfl () (rv_cell_agg' (i := 0) (o := 0) (nn := 6) rfl (ar rfl rfl rfl rfl) rfl agg37 rfl) (rv_cell_agg' (i := 1) (o := 0) (nn := 6) rfl (ar rfl rfl rfl rfl) rfl agg37 rfl) (rv_tmp' rfl) rfl (List.nil_sublist _)
    intro hN13
    refine an 1 17 65535 (fun (v45 : Addr) => ⟨84, [], [(16, (Vp v45)), (63, (Ag (C2 r63.1 r63.2.1 r63.2.2))), (4, (Vp q4)), (8, (Vp q8)), (9, (Vp q9)), (11, (Vp q9015)), (12, (Vp q9016)), (15, (Vp q9037))], [(Ur v45 30 (C5 false 0)), (Ur q4 32 (C0 a0_0 a0_1 a0_2 a0_3 a0_4 a0_5)), (Ur q8 37 (C1 false 0 false 0)), (Ur q9 37 (C1 false 0 false 0)), (Ur q9015 30 (C2 r21.1 r21.2.1 r21.2.2)), (Ur q9016 30 (C2 r26.1 r26.2.1 r26.2.2)), (Ur q9037 30 (C2 r43.1 r43.2.1 r43.2.2))]⟩) ?_ ?_
    ·rintro q9043
     refine al1 16 (by kernel_rfl) ?_
     ·refine nx_oxv rfl (oxv_store (i := 0) (o := 0) rfl rfl (lv_ag _) (ar rfl rfl rfl rfl) rfl info30 rfl (H' := [(Ur q9043 30 (C2 r63.1 r63.2.1 r63.2.2)), (Ur q4 32 (C0 a0_0 a0_1 a0_2 a0_3 a0_4 a0_5)), (Ur q8 37 (C1 false 0 false 0)), (Ur q9 37 (C1 false 0 false 0)), (Ur q9015 30 (C2 r21.1 r21.2.1 r21.2.2)), (Ur q9016 30 (C2 r26.1 r26.2.1 r26.2.2)), (Ur q9037 30 (C2 r43.1 r43.2.1 r43.2.2))]) rfl) rfl rfl bo_nil (wt_none' rfl) rfl fun _ => ?_
      exact tk [0,1,2,3,4,5,6] (u7 rfl rfl rfl rfl rfl rfl rfl) (p7 rfl rfl rfl rfl rfl rfl rfl) (hN13 q9043)
    intro hN12
    refine an 2 17 32767 (fun (v43 : Unit) => ⟨84, [], [(63, (Ag (C2 r63.1 r63.2.1 r63.2.2))), (4, (Vp q4)), (8, (Vp q8)), (9, (Vp q9)), (11, (Vp q9015)), (12, (Vp q9016)), (15, (Vp q9037))], [(Ur q4 32 (C0 a0_0 a0_1 a0_2 a0_3 a0_4 a0_5)), (Ur q8 37 (C1 false 0 false 0)), (Ur q9 37 (C1 false 0 false 0)), (Ur q9015 30 (C2 r21.1 r21.2.1 r21.2.2)), (Ur q9016 30 (C2 r26.1 r26.2.1 r26.2.2)), (Ur q9037 30 (C2 r43.1 r43.2.1 r43.2.2))]⟩) ?_ ?_
    ·rintro ⟨⟩
     refine al1 15 (by kernel_rfl) ?_
     ·exact na rfl info30 (C5 false 0) fun q16 => tk [0,1,2,3,4,5,6] (u8 rfl rfl rfl rfl rfl rfl rfl rfl) (p7 rfl rfl rfl rfl rfl rfl rfl) (hN12 q16)
    intro hN10
    refine an 2 17 49151 (fun (v44 : Addr) => ⟨84, [], [(16, (Vp v44)), (55, (Ag (C2 r55.1 r55.2.1 r55.2.2))), (62, (Ag (C2 r62.1 r62.2.1 r62.2.2))), (4, (Vp q4)), (8, (Vp q8)), (9, (Vp q9)), (11, (Vp q9015)), (12, (Vp q9016)), (15, (Vp q9037))], [(Ur v44 30 (C5 false 0)), (Ur q4 32 (C0 a0_0 a0_1 a0_2 a0_3 a0_4 a0_5)), (Ur q8 37 (C1 false 0 false 0)), (Ur q9 37 (C1 false 0 false 0)), (Ur q9015 30 (C2 r21.1 r21.2.1 r21.2.2)), (Ur q9016 30 (C2 r26.1 r26.2.1 r26.2.2)), (Ur q9037 30 (C2 r43.1 r43.2.1 r43.2.2))]⟩) ?_ ?_
    ·rintro q9042
     refine al1 14 (by kernel_rfl) ?_
     ·exact no rfl (oz (ent_fn' Tryz.func15 isn15 rfl rfl) (spec_Dyadic_Sub_sim _ _ _ _ _ _ hr63)) fun _ => tk [0,1,2,3,4,5,6] (u8 rfl rfl rfl rfl rfl rfl rfl rfl) (p7 rfl rfl rfl rfl rfl rfl rfl) (hN12 q9042)
    intro hN11
    refine an 3 17 16383 (fun (v41 : Unit) => ⟨84, [], [(55, (Ag (C2 r55.1 r55.2.1 r55.2.2))), (62, (Ag (C2 r62.1 r62.2.1 r62.2.2))), (4, (Vp q4)), (8, (Vp q8)), (9, (Vp q9)), (11, (Vp q9015)), (12, (Vp q9016)), (15, (Vp q9037))], [(Ur q4 32 (C0 a0_0 a0_1 a0_2 a0_3 a0_4 a0_5)), (Ur q8 37 (C1 false 0 false 0)), (Ur q9 37 (C1 false 0 false 0)), (Ur q9015 30 (C2 r21.1 r21.2.1 r21.2.2)), (Ur q9016 30 (C2 r26.1 r26.2.1 r26.2.2)), (Ur q9037 30 (C2 r43.1 r43.2.1 r43.2.2))]⟩) ?_ ?_
    ·rintro ⟨⟩
     refine al2 14 15 (by kernel_rfl) ?_ ?_
     ·exact no rfl (oz (ent_fn' Tryz.func15 isn15 rfl rfl) (spec_Dyadic_Sub_sim _ _ _ _ _ _ hr63)) fun _ => tk [0,1,2,3,4,5] (u7 rfl rfl rfl rfl rfl rfl rfl) (p6 rfl rfl rfl rfl rfl rfl) (hN10 ())
     exact na rfl info30 (C5 false 0) fun q16 => tk [0,1,2,3,4,5,6] (u9 rfl rfl rfl rfl rfl rfl rfl rfl rfl) (p7 rfl rfl rfl rfl rfl rfl rfl) (hN11 q16)
    intro hN8
    refine an 3 17 40959 (fun (v42 : Addr) => ⟨84, [], [(16, (Vp v42)), (55, (Ag (C2 r55.1 r55.2.1 r55.2.2))), (60, (Ag (C2 r60.1 r60.2.1 r60.2.2))), (61, (Ag (C2 r31.1 r31.2.1 r31.2.2))), (4, (Vp q4)), (8, (Vp q8)), (9, (Vp q9)), (11, (Vp q9015)), (12, (Vp q9016)), (15, (Vp q9037))], [(Ur v42 30 (C5 false 0)), (Ur q4 32 (C0 a0_0 a0_1 a0_2 a0_3 a0_4 a0_5)), (Ur q8 37 (C1 false 0 false 0)), (Ur q9 37 (C1 false 0 false 0)), (Ur q9015 30 (C2 r21.1 r21.2.1 r21.2.2)), (Ur q9016 30 (C2 r26.1 r26.2.1 r26.2.2)), (Ur q9037 30 (C2 r43.1 r43.2.1 r43.2.2))]⟩) ?_ ?_
    ·rintro q9041
     refine al1 13 (by kernel_rfl) ?_
     ·exact no rfl (oz (ent_fn' Tryz.func16 isn16 rfl rfl) (spec_Dyadic_Mul_sim _ _ _ _ _ _ hr62)) fun _ => tk [0,1,2,3,4,5,6] (u9 rfl rfl rfl rfl rfl rfl rfl rfl rfl) (p7 rfl rfl rfl rfl rfl rfl rfl) (hN11 q9041)
    intro hN9
    refine an 4 17 8191 (fun (v39 : Unit) => ⟨84, [], [(55, (Ag (C2 r55.1 r55.2.1 r55.2.2))), (60, (Ag (C2 r60.1 r60.2.1 r60.2.2))), (61, (Ag (C2 r31.1 r31.2.1 r31.2.2))), (4, (Vp q4)), (8, (Vp q8)), (9, (Vp q9)), (11, (Vp q9015)), (12, (Vp q9016)), (15, (Vp q9037))], [(Ur q4 32 (C0 a0_0 a0_1 a0_2 a0_3 a0_4 a0_5)), (Ur q8 37 (C1 false 0 false 0)), (Ur q9 37 (C1 false 0 false 0)), (Ur q9015 30 (C2 r21.1 r21.2.1 r21.2.2)), (Ur q9016 30 (C2 r26.1 r26.2.1 r26.2.2)), (Ur q9037 30 (C2 r43.1 r43.2.1 r43.2.2))]⟩) ?_ ?_
    ·rintro ⟨⟩
     refine al2 13 15 (by kernel_rfl) ?_ ?_
     ·exact no rfl (oz (ent_fn' Tryz.func16 isn16 rfl rfl) (spec_Dyadic_Mul_sim _ _ _ _ _ _ hr62)) fun _ => tk [0,1,2,3,4,5] (u8 rfl rfl rfl rfl rfl rfl rfl rfl) (p6 rfl rfl rfl rfl rfl rfl) (hN8 ())
     exact na rfl info30 (C5 false 0) fun q16 => tk [0,1,2,3,4,5,6] (u10 rfl rfl rfl rfl rfl rfl rfl rfl rfl rfl) (p7 rfl rfl rfl rfl rfl rfl rfl) (hN9 q16)
    intro hN6
    refine an 4 17 38911 (fun (v40 : Addr) => ⟨84, [], [(16, (Vp v40)), (55, (Ag (C2 r55.1 r55.2.1 r55.2.2))), (57, (Ag (C2 a2_3 a2_4 a2_5))), (59, (Ag (C2 a0_3 a0_4 a0_5))), (61, (Ag (C2 r31.1 r31.2.1 r31.2.2))), (4, (Vp q4)), (8, (Vp q8)), (9, (Vp q9)), (11, (Vp q9015)), (12, (Vp q9016)), (15, (Vp q9037))], [(Ur v40 30 (C5 false 0)), (Ur q4 32 (C0 a0_0 a0_1 a0_2 a0_3 a0_4 a0_5)), (Ur q8 37 (C1 false 0 false 0)), (Ur q9 37 (C1 false 0 false 0)), (Ur q9015 30 (C2 r21.1 r21.2.1 r21.2.2)), (Ur q9016 30 (C2 r26.1 r26.2.1 r26.2.2)), (Ur q9037 30 (C2 r43.1 r43.2.1 r43.2.2))]⟩) ?_ ?_
    ·rintro q9040
     refine al1 11 (by kernel_rfl) ?_
     ·exact no rfl (oz (ent_fn' Tryz.func15 isn15 rfl rfl) (spec_Dyadic_Sub_sim _ _ _ _ _ _ hr60)) fun _ => tk [0,1,2,3,4,5,6] (u10 rfl rfl rfl rfl rfl rfl rfl rfl rfl rfl) (p7 rfl rfl rfl rfl rfl rfl rfl) (hN9 q9040)
    intro hN7
    refine an 5 17 6143 (fun (v37 : Unit) => ⟨84, [], [(55, (Ag (C2 r55.1 r55.2.1 r55.2.2))), (57, (Ag (C2 a2_3 a2_4 a2_5))), (59, (Ag (C2 a0_3 a0_4 a0_5))), (61, (Ag (C2 r31.1 r31.2.1 r31.2.2))), (4, (Vp q4)), (8, (Vp q8)), (9, (Vp q9)), (11, (Vp q9015)), (12, (Vp q9016)), (15, (Vp q9037))], [(Ur q4 32 (C0 a0_0 a0_1 a0_2 a0_3 a0_4 a0_5)), (Ur q8 37 (C1 false 0 false 0)), (Ur q9 37 (C1 false 0 false 0)), (Ur q9015 30 (C2 r21.1 r21.2.1 r21.2.2)), (Ur q9016 30 (C2 r26.1 r26.2.1 r26.2.2)), (Ur q9037 30 (C2 r43.1 r43.2.1 r43.2.2))]⟩) ?_ ?_
    ·rintro ⟨⟩
     refine al2 11 15 (by kernel_rfl) ?_ ?_
     ·exact no rfl (oz (ent_fn' Tryz.func15 isn15 rfl rfl) (spec_Dyadic_Sub_sim _ _ _ _ _ _ hr60)) fun _ => tk [0,1,2,3,4,5] (u9 rfl rfl rfl rfl rfl rfl rfl rfl rfl) (p6 rfl rfl rfl rfl rfl rfl) (hN6 ())
     exact na rfl info30 (C5 false 0) fun q16 => tk [0,1,2,3,4,5,6] (u11 rfl rfl rfl rfl rfl rfl rfl rfl rfl rfl rfl) (p7 rfl rfl rfl rfl rfl rfl rfl) (hN7 q16)
    intro hN4
    refine an 5 17 38847 (fun (v38 : Addr) => ⟨84, [], [(16, (Vp v38)), (53, (Ag (C2 r53.1 r53.2.1 r53.2.2))), (54, (Ag (C2 r36.1 r36.2.1 r36.2.2))), (57, (Ag (C2 a2_3 a2_4 a2_5))), (59, (Ag (C2 a0_3 a0_4 a0_5))), (61, (Ag (C2 r31.1 r31.2.1 r31.2.2))), (4, (Vp q4)), (8, (Vp q8)), (9, (Vp q9)), (11, (Vp q9015)), (12, (Vp q9016)), (15, (Vp q9037))], [(Ur v38 30 (C5 false 0)), (Ur q4 32 (C0 a0_0 a0_1 a0_2 a0_3 a0_4 a0_5)), (Ur q8 37 (C1 false 0 false 0)), (Ur q9 37 (C1 false 0 false 0)), (Ur q9015 30 (C2 r21.1 r21.2.1 r21.2.2)), (Ur q9016 30 (C2 r26.1 r26.2.1 r26.2.2)), (Ur q9037 30 (C2 r43.1 r43.2.1 r43.2.2))]⟩) ?_ ?_
    ·rintro q9039
     refine al1 6 (by kernel_rfl) ?_
     ·exact no rfl (oz (ent_fn' Tryz.func16 isn16 rfl rfl) (spec_Dyadic_Mul_sim _ _ _ _ _ _ hr55)) fun _ => tk [0,1,2,3,4,5,6] (u11 rfl rfl rfl rfl rfl rfl rfl rfl rfl rfl rfl) (p7 rfl rfl rfl rfl rfl rfl rfl) (hN7 q9039)
    intro hN5
    refine an 6 17 6079 (fun (v35 : Unit) => ⟨84, [], [(53, (Ag (C2 r53.1 r53.2.1 r53.2.2))), (54, (Ag (C2 r36.1 r36.2.1 r36.2.2))), (57, (Ag (C2 a2_3 a2_4 a2_5))), (59, (Ag (C2 a0_3 a0_4 a0_5))), (61, (Ag (C2 r31.1 r31.2.1 r31.2.2))), (4, (Vp q4)), (8, (Vp q8)), (9, (Vp q9)), (11, (Vp q9015)), (12, (Vp q9016)), (15, (Vp q9037))], [(Ur q4 32 (C0 a0_0 a0_1 a0_2 a0_3 a0_4 a0_5)), (Ur q8 37 (C1 false 0 false 0)), (Ur q9 37 (C1 false 0 false 0)), (Ur q9015 30 (C2 r21.1 r21.2.1 r21.2.2)), (Ur q9016 30 (C2 r26.1 r26.2.1 r26.2.2)), (Ur q9037 30 (C2 r43.1 r43.2.1 r43.2.2))]⟩) ?_ ?_
    ·rintro ⟨⟩
     refine al2 6 15 (by kernel_rfl) ?_ ?_
     ·exact no rfl (oz (ent_fn' Tryz.func16 isn16 rfl rfl) (spec_Dyadic_Mul_sim _ _ _ _ _ _ hr55)) fun _ => tk [0,1,2,3,4,5] (u10 rfl rfl rfl rfl rfl rfl rfl rfl rfl rfl) (p6 rfl rfl rfl rfl rfl rfl) (hN4 ())
     exact na rfl info30 (C5 false 0) fun q16 => tk [0,1,2,3,4,5,6] (u12 rfl rfl rfl rfl rfl rfl rfl rfl rfl rfl rfl rfl) (p7 rfl rfl rfl rfl rfl rfl rfl) (hN5 q16)
    intro hN2
    refine an 6 17 38831 (fun (v36 : Addr) => ⟨84, [], [(16, (Vp v36)), (50, (Ag (C2 a2_0 a2_1 a2_2))), (52, (Ag (C2 a0_0 a0_1 a0_2))), (54, (Ag (C2 r36.1 r36.2.1 r36.2.2))), (57, (Ag (C2 a2_3 a2_4 a2_5))), (59, (Ag (C2 a0_3 a0_4 a0_5))), (61, (Ag (C2 r31.1 r31.2.1 r31.2.2))), (4, (Vp q4)), (8, (Vp q8)), (9, (Vp q9)), (11, (Vp q9015)), (12, (Vp q9016)), (15, (Vp q9037))], [(Ur v36 30 (C5 false 0)), (Ur q4 32 (C0 a0_0 a0_1 a0_2 a0_3 a0_4 a0_5)), (Ur q8 37 (C1 false 0 false 0)), (Ur q9 37 (C1 false 0 false 0)), (Ur q9015 30 (C2 r21.1 r21.2.1 r21.2.2)), (Ur q9016 30 (C2 r26.1 r26.2.1 r26.2.2)), (Ur q9037 30 (C2 r43.1 r43.2.1 r43.2.2))]⟩) ?_ ?_
    ·rintro q9038
     refine al1 4 (by kernel_rfl) ?_
     ·exact no rfl (oz (ent_fn' Tryz.func15 isn15 rfl rfl) (spec_Dyadic_Sub_sim _ _ _ _ _ _ hr53)) fun _ => tk [0,1,2,3,4,5,6] (u12 rfl rfl rfl rfl rfl rfl rfl rfl rfl rfl rfl rfl) (p7 rfl rfl rfl rfl rfl rfl rfl) (hN5 q9038)
    intro hN3
    refine al2 4 15 (by kernel_rfl) ?_ ?_
    ·exact no rfl (oz (ent_fn' Tryz.func15 isn15 rfl rfl) (spec_Dyadic_Sub_sim _ _ _ _ _ _ hr53)) fun _ => tk [1,3,4,5,6,0] (u11 rfl rfl rfl rfl rfl rfl rfl rfl rfl rfl rfl) (p6 rfl rfl rfl rfl rfl rfl) (hN2 ())
    exact na rfl info30 (C5 false 0) fun q16 => tk [0,2,4,5,6,7,1] (u13 rfl rfl rfl rfl rfl rfl rfl rfl rfl rfl rfl rfl rfl) (p7 rfl rfl rfl rfl rfl rfl rfl) (hN3 q16)
   intro hN22
   refine an 1 9 255 (fun (v33 : Addr) => ⟨84, [], [(15, (Vp v33)), (43, (Ag (C2 r43.1 r43.2.1 r43.2.2))), (4, (Vp q4)), (6, (Vp q6)), (8, (Vp q8)), (9, (Vp q9)), (11, (Vp q9015)), (12, (Vp q9016)), (13, (Vp q9031)), (14, (Vp q9032))], [(Ur v33 30 (C5 false 0)), (Ur q4 32 (C0 a0_0 a0_1 a0_2 a0_3 a0_4 a0_5)), (Ur q6 32 (C0 a2_0 a2_1 a2_2 a2_3 a2_4 a2_5)), (Ur q8 37 (C1 false 0 false 0)), (Ur q9 37 (C1 false 0 false 0)), (Ur q9015 30 (C2 r21.1 r21.2.1 r21.2.2)), (Ur q9016 30 (C2 r26.1 r26.2.1 r26.2.2)), (Ur q9031 30 (C2 r31.1 r31.2.1 r31.2.2)), (Ur q9032 30 (C2 r36.1 r36.2.1 r36.2.2))]⟩) ?_ ?_
   ·rintro q9036
    refine al1 8 (by kernel_rfl) ?_
    ·refine nx_oxv rfl (oxv_store (i := 0) (o := 0) rfl rfl (lv_ag _) (ar rfl rfl rfl rfl) rfl info30 rfl (H' := [(Ur q9036 30 (C2 r43.1 r43.2.1 r43.2.2)), (Ur q4 32 (C0 a0_0 a0_1 a0_2 a0_3 a0_4 a0_5)), (Ur q6 32 (C0 a2_0 a2_1 a2_2 a2_3 a2_4 a2_5)), (Ur q8 37 (C1 false 0 false 0)), (Ur q9 37 (C1 false 0 false 0)), (Ur q9015 30 (C2 r21.1 r21.2.1 r21.2.2)), (Ur q9016 30 (C2 r26.1 r26.2.1 r26.2.2)), (Ur q9031 30 (C2 r31.1 r31.2.1 r31.2.2)), (Ur q9032 30 (C2 r36.1 r36.2.1 r36.2.2))]) rfl) rfl rfl bo_nil (wt_none' rfl) rfl fun _ => ?_
     exact tk [0,1,2,3,4,5,6,7,8] (u9 rfl rfl rfl rfl rfl rfl rfl rfl rfl) (p9 rfl rfl rfl rfl rfl rfl rfl rfl rfl) (hN22 q9036)
   intro hN21
   refine an 2 9 127 (fun (v31 : Unit) => ⟨84, [], [(43, (Ag (C2 r43.1 r43.2.1 r43.2.2))), (4, (Vp q4)), (6, (Vp q6)), (8, (Vp q8)), (9, (Vp q9)), (11, (Vp q9015)), (12, (Vp q9016)), (13, (Vp q9031)), (14, (Vp q9032))], [(Ur q4 32 (C0 a0_0 a0_1 a0_2 a0_3 a0_4 a0_5)), (Ur q6 32 (C0 a2_0 a2_1 a2_2 a2_3 a2_4 a2_5)), (Ur q8 37 (C1 false 0 false 0)), (Ur q9 37 (C1 false 0 false 0)), (Ur q9015 30 (C2 r21.1 r21.2.1 r21.2.2)), (Ur q9016 30 (C2 r26.1 r26.2.1 r26.2.2)), (Ur q9031 30 (C2 r31.1 r31.2.1 r31.2.2)), (Ur q9032 30 (C2 r36.1 r36.2.1 r36.2.2))]⟩) ?_ ?_
   ·rintro ⟨⟩
    refine al1 7 (by kernel_rfl) ?_
    ·exact na rfl info30 (C5 false 0) fun q15 => tk [0,1,2,3,4,5,6,7,8] (u10 rfl rfl rfl rfl rfl rfl rfl rfl rfl rfl) (p9 rfl rfl rfl rfl rfl rfl rfl rfl rfl) (hN21 q15)
   intro hN19
   refine an 2 9 191 (fun (v32 : Addr) => ⟨84, [], [(15, (Vp v32)), (39, (Ag (C2 r39.1 r39.2.1 r39.2.2))), (42, (Ag (C2 r42.1 r42.2.1 r42.2.2))), (4, (Vp q4)), (6, (Vp q6)), (8, (Vp q8)), (9, (Vp q9)), (11, (Vp q9015)), (12, (Vp q9016)), (13, (Vp q9031)), (14, (Vp q9032))], [(Ur v32 30 (C5 false 0)), (Ur q4 32 (C0 a0_0 a0_1 a0_2 a0_3 a0_4 a0_5)), (Ur q6 32 (C0 a2_0 a2_1 a2_2 a2_3 a2_4 a2_5)), (Ur q8 37 (C1 false 0 false 0)), (Ur q9 37 (C1 false 0 false 0)), (Ur q9015 30 (C2 r21.1 r21.2.1 r21.2.2)), (Ur q9016 30 (C2 r26.1 r26.2.1 r26.2.2)), (Ur q9031 30 (C2 r31.1 r31.2.1 r31.2.2)), (Ur q9032 30 (C2 r36.1 r36.2.1 r36.2.2))]⟩) ?_ ?_
   ·rintro q9035
    refine al1 6 (by kernel_rfl) ?_
    ·exact no rfl (oz (ent_fn' Tryz.func15 isn15 rfl rfl) (spec_Dyadic_Sub_sim _ _ _ _ _ _ hr43)) fun _ => tk [0,1,2,3,4,5,6,7,8] (u10 rfl rfl rfl rfl rfl rfl rfl rfl rfl rfl) (p9 rfl rfl rfl rfl rfl rfl rfl rfl rfl) (hN21 q9035)
   intro hN20
   refine an 3 9 63 (fun (v29 : Unit) => ⟨84, [], [(39, (Ag (C2 r39.1 r39.2.1 r39.2.2))), (42, (Ag (C2 r42.1 r42.2.1 r42.2.2))), (4, (Vp q4)), (6, (Vp q6)), (8, (Vp q8)), (9, (Vp q9)), (11, (Vp q9015)), (12, (Vp q9016)), (13, (Vp q9031)), (14, (Vp q9032))], [(Ur q4 32 (C0 a0_0 a0_1 a0_2 a0_3 a0_4 a0_5)), (Ur q6 32 (C0 a2_0 a2_1 a2_2 a2_3 a2_4 a2_5)), (Ur q8 37 (C1 false 0 false 0)), (Ur q9 37 (C1 false 0 false 0)), (Ur q9015 30 (C2 r21.1 r21.2.1 r21.2.2)), (Ur q9016 30 (C2 r26.1 r26.2.1 r26.2.2)), (Ur q9031 30 (C2 r31.1 r31.2.1 r31.2.2)), (Ur q9032 30 (C2 r36.1 r36.2.1 r36.2.2))]⟩) ?_ ?_
   ·rintro ⟨⟩
    refine al2 6 7 (by kernel_rfl) ?_ ?_
    ·exact no rfl (oz (ent_fn' Tryz.func15 isn15 rfl rfl) (spec_Dyadic_Sub_sim _ _ _ _ _ _ hr43)) fun _ => tk [0,1,2,3,4,5,6,7] (u9 rfl rfl rfl rfl rfl rfl rfl rfl rfl) (p8 rfl rfl rfl rfl rfl rfl rfl rfl) (hN19 ())
    exact na rfl info30 (C5 false 0) fun q15 => tk [0,1,2,3,4,5,6,7,8] (u11 rfl rfl rfl rfl rfl rfl rfl rfl rfl rfl rfl) (p9 rfl rfl rfl rfl rfl rfl rfl rfl rfl) (hN20 q15)
   intro hN17
   refine an 3 9 159 (fun (v30 : Addr) => ⟨84, [], [(15, (Vp v30)), (39, (Ag (C2 r39.1 r39.2.1 r39.2.2))), (40, (Ag (C2 r26.1 r26.2.1 r26.2.2))), (41, (Ag (C2 r31.1 r31.2.1 r31.2.2))), (4, (Vp q4)), (6, (Vp q6)), (8, (Vp q8)), (9, (Vp q9)), (11, (Vp q9015)), (12, (Vp q9016)), (13, (Vp q9031)), (14, (Vp q9032))], [(Ur v30 30 (C5 false 0)), (Ur q4 32 (C0 a0_0 a0_1 a0_2 a0_3 a0_4 a0_5)), (Ur q6 32 (C0 a2_0 a2_1 a2_2 a2_3 a2_4 a2_5)), (Ur q8 37 (C1 false 0 false 0)), (Ur q9 37 (C1 false 0 false 0)), (Ur q9015 30 (C2 r21.1 r21.2.1 r21.2.2)), (Ur q9016 30 (C2 r26.1 r26.2.1 r26.2.2)), (Ur q9031 30 (C2 r31.1 r31.2.1 r31.2.2)), (Ur q9032 30 (C2 r36.1 r36.2.1 r36.2.2))]⟩) ?_ ?_
   ·rintro q9034
    refine al1 5 (by kernel_rfl) ?_
    ·exact no rfl (oz (ent_fn' Tryz.func16 isn16 rfl rfl) (spec_Dyadic_Mul_sim _ _ _ _ _ _ hr42)) fun _ => tk [0,1,2,3,4,5,6,7,8] (u11 rfl rfl rfl rfl rfl rfl rfl rfl rfl rfl rfl) (p9 rfl rfl rfl rfl rfl rfl rfl rfl rfl) (hN20 q9034)
   intro hN18
   refine an 4 9 31 (fun (v27 : Unit) => ⟨84, [], [(39, (Ag (C2 r39.1 r39.2.1 r39.2.2))), (40, (Ag (C2 r26.1 r26.2.1 r26.2.2))), (41, (Ag (C2 r31.1 r31.2.1 r31.2.2))), (4, (Vp q4)), (6, (Vp q6)), (8, (Vp q8)), (9, (Vp q9)), (11, (Vp q9015)), (12, (Vp q9016)), (13, (Vp q9031)), (14, (Vp q9032))], [(Ur q4 32 (C0 a0_0 a0_1 a0_2 a0_3 a0_4 a0_5)), (Ur q6 32 (C0 a2_0 a2_1 a2_2 a2_3 a2_4 a2_5)), (Ur q8 37 (C1 false 0 false 0)), (Ur q9 37 (C1 false 0 false 0)), (Ur q9015 30 (C2 r21.1 r21.2.1 r21.2.2)), (Ur q9016 30 (C2 r26.1 r26.2.1 r26.2.2)), (Ur q9031 30 (C2 r31.1 r31.2.1 r31.2.2)), (Ur q9032 30 (C2 r36.1 r36.2.1 r36.2.2))]⟩) ?_ ?_
   ·rintro ⟨⟩
    refine al2 5 7 (by kernel_rfl) ?_ ?_
    ·exact no rfl (oz (ent_fn' Tryz.func16 isn16 rfl rfl) (spec_Dyadic_Mul_sim _ _ _ _ _ _ hr42)) fun _ => tk [0,1,2,3,4,5,6,7] (u10 rfl rfl rfl rfl rfl rfl rfl rfl rfl rfl) (p8 rfl rfl rfl rfl rfl rfl rfl rfl) (hN17 ())
    exact na rfl info30 (C5 false 0) fun q15 => tk [0,1,2,3,4,5,6,7,8] (u12 rfl rfl rfl rfl rfl rfl rfl rfl rfl rfl rfl rfl) (p9 rfl rfl rfl rfl rfl rfl rfl rfl rfl) (hN18 q15)
   intro hN15
   refine an 4 9 155 (fun (v28 : Addr) => ⟨84, [], [(15, (Vp v28)), (37, (Ag (C2 r21.1 r21.2.1 r21.2.2))), (38, (Ag (C2 r36.1 r36.2.1 r36.2.2))), (40, (Ag (C2 r26.1 r26.2.1 r26.2.2))), (41, (Ag (C2 r31.1 r31.2.1 r31.2.2))), (4, (Vp q4)), (6, (Vp q6)), (8, (Vp q8)), (9, (Vp q9)), (11, (Vp q9015)), (12, (Vp q9016)), (13, (Vp q9031)), (14, (Vp q9032))], [(Ur v28 30 (C5 false 0)), (Ur q4 32 (C0 a0_0 a0_1 a0_2 a0_3 a0_4 a0_5)), (Ur q6 32 (C0 a2_0 a2_1 a2_2 a2_3 a2_4 a2_5)), (Ur q8 37 (C1 false 0 false 0)), (Ur q9 37 (C1 false 0 false 0)), (Ur q9015 30 (C2 r21.1 r21.2.1 r21.2.2)), (Ur q9016 30 (C2 r26.1 r26.2.1 r26.2.2)), (Ur q9031 30 (C2 r31.1 r31.2.1 r31.2.2)), (Ur q9032 30 (C2 r36.1 r36.2.1 r36.2.2))]⟩) ?_ ?_
   ·rintro q9033
    refine al1 2 (by kernel_rfl) ?_
    ·exact no rfl (oz (ent_fn' Tryz.func16 isn16 rfl rfl) (spec_Dyadic_Mul_sim _ _ _ _ _ _ hr39)) fun _ => tk [0,1,2,3,4,5,6,7,8] (u12 rfl rfl rfl rfl rfl rfl rfl rfl rfl rfl rfl rfl) (p9 rfl rfl rfl rfl rfl rfl rfl rfl rfl) (hN18 q9033)
   intro hN16
   refine al2 2 7 (by kernel_rfl) ?_ ?_
   ·exact no rfl (oz (ent_fn' Tryz.func16 isn16 rfl rfl) (spec_Dyadic_Mul_sim _ _ _ _ _ _ hr39)) fun _ => tk [2,3,4,5,6,7,0,1] (u11 rfl rfl rfl rfl rfl rfl rfl rfl rfl rfl rfl) (p8 rfl rfl rfl rfl rfl rfl rfl rfl) (hN15 ())
   exact na rfl info30 (C5 false 0) fun q15 => tk [0,3,4,5,6,7,8,1,2] (u13 rfl rfl rfl rfl rfl rfl rfl rfl rfl rfl rfl rfl rfl) (p9 rfl rfl rfl rfl rfl rfl rfl rfl rfl) (hN16 q15)
  intro hN36
  refine an 1 14 8191 (fun (v25 : A2) => ⟨84, [], [(13, (Vp v25.1)), (14, (Vp v25.2)), (36, (Ag (C2 r36.1 r36.2.1 r36.2.2))), (4, (Vp q4)), (6, (Vp q6)), (8, (Vp q8)), (9, (Vp q9)), (11, (Vp q9015)), (12, (Vp q9016))], [(Ur v25.1 30 (C2 r31.1 r31.2.1 r31.2.2)), (Ur v25.2 30 (C5 false 0)), (Ur q4 32 (C0 a0_0 a0_1 a0_2 a0_3 a0_4 a0_5)), (Ur q6 32 (C0 a2_0 a2_1 a2_2 a2_3 a2_4 a2_5)), (Ur q8 37 (C1 false 0 false 0)), (Ur q9 37 (C1 false 0 false 0)), (Ur q9015 30 (C2 r21.1 r21.2.1 r21.2.2)), (Ur q9016 30 (C2 r26.1 r26.2.1 r26.2.2))]⟩) ?_ ?_
  ·rintro ⟨q9029, q9030⟩
   refine al1 13 (by kernel_rfl) ?_
   ·refine nx_oxv rfl (oxv_store (i := 1) (o := 0) rfl rfl (lv_ag _) (ar rfl rfl rfl rfl) rfl info30 rfl (H' := [(Ur q9029 30 (C2 r31.1 r31.2.1 r31.2.2)), (Ur q9030 30 (C2 r36.1 r36.2.1 r36.2.2)), (Ur q4 32 (C0 a0_0 a0_1 a0_2 a0_3 a0_4 a0_5)), (Ur q6 32 (C0 a2_0 a2_1 a2_2 a2_3 a2_4 a2_5)), (Ur q8 37 (C1 false 0 false 0)), (Ur q9 37 (C1 false 0 false 0)), (Ur q9015 30 (C2 r21.1 r21.2.1 r21.2.2)), (Ur q9016 30 (C2 r26.1 r26.2.1 r26.2.2))]) rfl) rfl rfl bo_nil (wt_none' rfl) rfl fun _ => ?_
    exact tk [0,1,2,3,4,5,6,7] (u8 rfl rfl rfl rfl rfl rfl rfl rfl) (p8 rfl rfl rfl rfl rfl rfl rfl rfl) (hN36 (q9029, q9030))
  intro hN35
  refine an 2 14 4095 (fun (v24 : A2) => ⟨84, [], [(13, (Vp v24.1)), (14, (Vp v24.2)), (31, (Ag (C2 r31.1 r31.2.1 r31.2.2))), (36, (Ag (C2 r36.1 r36.2.1 r36.2.2))), (4, (Vp q4)), (6, (Vp q6)), (8, (Vp q8)), (9, (Vp q9)), (11, (Vp q9015)), (12, (Vp q9016))], [(Ur v24.1 30 (C5 false 0)), (Ur v24.2 30 (C5 false 0)), (Ur q4 32 (C0 a0_0 a0_1 a0_2 a0_3 a0_4 a0_5)), (Ur q6 32 (C0 a2_0 a2_1 a2_2 a2_3 a2_4 a2_5)), (Ur q8 37 (C1 false 0 false 0)), (Ur q9 37 (C1 false 0 false 0)), (Ur q9015 30 (C2 r21.1 r21.2.1 r21.2.2)), (Ur q9016 30 (C2 r26.1 r26.2.1 r26.2.2))]⟩) ?_ ?_
  ·rintro ⟨q9027, q9028⟩
   refine al1 12 (by kernel_rfl) ?_
   ·refine nx_oxv rfl (oxv_store (i := 0) (o := 0) rfl rfl (lv_ag _) (ar rfl rfl rfl rfl) rfl info30 rfl (H' := [(Ur q9027 30 (C2 r31.1 r31.2.1 r31.2.2)), (Ur q9028 30 (C5 false 0)), (Ur q4 32 (C0 a0_0 a0_1 a0_2 a0_3 a0_4 a0_5)), (Ur q6 32 (C0 a2_0 a2_1 a2_2 a2_3 a2_4 a2_5)), (Ur q8 37 (C1 false 0 false 0)), (Ur q9 37 (C1 false 0 false 0)), (Ur q9015 30 (C2 r21.1 r21.2.1 r21.2.2)), (Ur q9016 30 (C2 r26.1 r26.2.1 r26.2.2))]) rfl) rfl rfl bo_nil (wt_none' rfl) rfl fun _ => ?_
    exact tk [0,1,2,3,4,5,6,7] (u9 rfl rfl rfl rfl rfl rfl rfl rfl rfl) (p8 rfl rfl rfl rfl rfl rfl rfl rfl) (hN35 (q9027, q9028))
  intro hN34
  refine an 3 14 2047 (fun (v21 : Addr) => ⟨84, [], [(13, (Vp v21)), (31, (Ag (C2 r31.1 r31.2.1 r31.2.2))), (36, (Ag (C2 r36.1 r36.2.1 r36.2.2))), (4, (Vp q4)), (6, (Vp q6)), (8, (Vp q8)), (9, (Vp q9)), (11, (Vp q9015)), (12, (Vp q9016))], [(Ur v21 30 (C5 false 0)), (Ur q4 32 (C0 a0_0 a0_1 a0_2 a0_3 a0_4 a0_5)), (Ur q6 32 (C0 a2_0 a2_1 a2_2 a2_3 a2_4 a2_5)), (Ur q8 37 (C1 false 0 false 0)), (Ur q9 37 (C1 false 0 false 0)), (Ur q9015 30 (C2 r21.1 r21.2.1 r21.2.2)), (Ur q9016 30 (C2 r26.1 r26.2.1 r26.2.2))]⟩) ?_ ?_
  ·rintro q9023
   refine al1 11 (by kernel_rfl) ?_
   ·exact na rfl info30 (C5 false 0) fun q14 => tk [1,0,2,3,4,5,6,7] (u10 rfl rfl rfl rfl rfl rfl rfl rfl rfl rfl) (p8 rfl rfl rfl rfl rfl rfl rfl rfl) (hN34 (q9023, q14))
  intro hN31
  refine an 3 14 3071 (fun (v22 : Addr) => ⟨84, [], [(14, (Vp v22)), (31, (Ag (C2 r31.1 r31.2.1 r31.2.2))), (36, (Ag (C2 r36.1 r36.2.1 r36.2.2))), (4, (Vp q4)), (6, (Vp q6)), (8, (Vp q8)), (9, (Vp q9)), (11, (Vp q9015)), (12, (Vp q9016))], [(Ur v22 30 (C5 false 0)), (Ur q4 32 (C0 a0_0 a0_1 a0_2 a0_3 a0_4 a0_5)), (Ur q6 32 (C0 a2_0 a2_1 a2_2 a2_3 a2_4 a2_5)), (Ur q8 37 (C1 false 0 false 0)), (Ur q9 37 (C1 false 0 false 0)), (Ur q9015 30 (C2 r21.1 r21.2.1 r21.2.2)), (Ur q9016 30 (C2 r26.1 r26.2.1 r26.2.2))]⟩) ?_ ?_
  ·rintro q9024
   refine al1 10 (by kernel_rfl) ?_
   ·exact na rfl info30 (C5 false 0) fun q13 => tk [0,1,2,3,4,5,6,7] (u10 rfl rfl rfl rfl rfl rfl rfl rfl rfl rfl) (p8 rfl rfl rfl rfl rfl rfl rfl rfl) (hN34 (q13, q9024))
  intro hN32
  refine an 3 14 3583 (fun (v23 : A2) => ⟨84, [], [(13, (Vp v23.1)), (14, (Vp v23.2)), (31, (Ag (C2 r31.1 r31.2.1 r31.2.2))), (33, (Ag (C2 a3_3 a3_4 a3_5))), (35, (Ag (C2 a2_3 a2_4 a2_5))), (4, (Vp q4)), (6, (Vp q6)), (8, (Vp q8)), (9, (Vp q9)), (11, (Vp q9015)), (12, (Vp q9016))], [(Ur v23.1 30 (C5 false 0)), (Ur v23.2 30 (C5 false 0)), (Ur q4 32 (C0 a0_0 a0_1 a0_2 a0_3 a0_4 a0_5)), (Ur q6 32 (C0 a2_0 a2_1 a2_2 a2_3 a2_4 a2_5)), (Ur q8 37 (C1 false 0 false 0)), (Ur q9 37 (C1 false 0 false 0)), (Ur q9015 30 (C2 r21.1 r21.2.1 r21.2.2)), (Ur q9016 30 (C2 r26.1 r26.2.1 r26.2.2))]⟩) ?_ ?_
  ·rintro ⟨q9025, q9026⟩
   refine al1 9 (by kernel_rfl) ?_
   ·exact no rfl (oz (ent_fn' Tryz.func15 isn15 rfl rfl) (spec_Dyadic_Sub_sim _ _ _ _ _ _ hr36)) fun _ => tk [0,1,2,3,4,5,6,7] (u10 rfl rfl rfl rfl rfl rfl rfl rfl rfl rfl) (p8 rfl rfl rfl rfl rfl rfl rfl rfl) (hN34 (q9025, q9026))
  intro hN33
  refine an 4 14 1023 (fun (v17 : Unit) => ⟨84, [], [(31, (Ag (C2 r31.1 r31.2.1 r31.2.2))), (36, (Ag (C2 r36.1 r36.2.1 r36.2.2))), (4, (Vp q4)), (6, (Vp q6)), (8, (Vp q8)), (9, (Vp q9)), (11, (Vp q9015)), (12, (Vp q9016))], [(Ur q4 32 (C0 a0_0 a0_1 a0_2 a0_3 a0_4 a0_5)), (Ur q6 32 (C0 a2_0 a2_1 a2_2 a2_3 a2_4 a2_5)), (Ur q8 37 (C1 false 0 false 0)), (Ur q9 37 (C1 false 0 false 0)), (Ur q9015 30 (C2 r21.1 r21.2.1 r21.2.2)), (Ur q9016 30 (C2 r26.1 r26.2.1 r26.2.2))]⟩) ?_ ?_
  ·rintro ⟨⟩
   refine al2 10 11 (by kernel_rfl) ?_ ?_
   ·exact na rfl info30 (C5 false 0) fun q13 => tk [0,1,2,3,4,5,6] (u9 rfl rfl rfl rfl rfl rfl rfl rfl rfl) (p7 rfl rfl rfl rfl rfl rfl rfl) (hN31 q13)
   exact na rfl info30 (C5 false 0) fun q14 => tk [0,1,2,3,4,5,6] (u9 rfl rfl rfl rfl rfl rfl rfl rfl rfl) (p7 rfl rfl rfl rfl rfl rfl rfl) (hN32 q14)
  intro hN27
  refine an 4 14 1535 (fun (v18 : Addr) => ⟨84, [], [(13, (Vp v18)), (31, (Ag (C2 r31.1 r31.2.1 r31.2.2))), (33, (Ag (C2 a3_3 a3_4 a3_5))), (35, (Ag (C2 a2_3 a2_4 a2_5))), (4, (Vp q4)), (6, (Vp q6)), (8, (Vp q8)), (9, (Vp q9)), (11, (Vp q9015)), (12, (Vp q9016))], [(Ur v18 30 (C5 false 0)), (Ur q4 32 (C0 a0_0 a0_1 a0_2 a0_3 a0_4 a0_5)), (Ur q6 32 (C0 a2_0 a2_1 a2_2 a2_3 a2_4 a2_5)), (Ur q8 37 (C1 false 0 false 0)), (Ur q9 37 (C1 false 0 false 0)), (Ur q9015 30 (C2 r21.1 r21.2.1 r21.2.2)), (Ur q9016 30 (C2 r26.1 r26.2.1 r26.2.2))]⟩) ?_ ?_
  ·rintro q9019
   refine al2 9 11 (by kernel_rfl) ?_ ?_
   ·exact no rfl (oz (ent_fn' Tryz.func15 isn15 rfl rfl) (spec_Dyadic_Sub_sim _ _ _ _ _ _ hr36)) fun _ => tk [0,1,2,3,4,5,6] (u9 rfl rfl rfl rfl rfl rfl rfl rfl rfl) (p7 rfl rfl rfl rfl rfl rfl rfl) (hN31 q9019)
   exact na rfl info30 (C5 false 0) fun q14 => tk [1,0,2,3,4,5,6,7] (u11 rfl rfl rfl rfl rfl rfl rfl rfl rfl rfl rfl) (p8 rfl rfl rfl rfl rfl rfl rfl rfl) (hN33 (q9019, q14))
  intro hN28
  refine an 4 14 2559 (fun (v19 : Addr) => ⟨84, [], [(14, (Vp v19)), (31, (Ag (C2 r31.1 r31.2.1 r31.2.2))), (33, (Ag (C2 a3_3 a3_4 a3_5))), (35, (Ag (C2 a2_3 a2_4 a2_5))), (4, (Vp q4)), (6, (Vp q6)), (8, (Vp q8)), (9, (Vp q9)), (11, (Vp q9015)), (12, (Vp q9016))], [(Ur v19 30 (C5 false 0)), (Ur q4 32 (C0 a0_0 a0_1 a0_2 a0_3 a0_4 a0_5)), (Ur q6 32 (C0 a2_0 a2_1 a2_2 a2_3 a2_4 a2_5)), (Ur q8 37 (C1 false 0 false 0)), (Ur q9 37 (C1 false 0 false 0)), (Ur q9015 30 (C2 r21.1 r21.2.1 r21.2.2)), (Ur q9016 30 (C2 r26.1 r26.2.1 r26.2.2))]⟩) ?_ ?_
  ·rintro q9020
   refine al2 9 10 (by kernel_rfl) ?_ ?_
   ·exact no rfl (oz (ent_fn' Tryz.func15 isn15 rfl rfl) (spec_Dyadic_Sub_sim _ _ _ _ _ _ hr36)) fun _ => tk [0,1,2,3,4,5,6] (u9 rfl rfl rfl rfl rfl rfl rfl rfl rfl) (p7 rfl rfl rfl rfl rfl rfl rfl) (hN32 q9020)
   exact na rfl info30 (C5 false 0) fun q13 => tk [0,1,2,3,4,5,6,7] (u11 rfl rfl rfl rfl rfl rfl rfl rfl rfl rfl rfl) (p8 rfl rfl rfl rfl rfl rfl rfl rfl) (hN33 (q13, q9020))
  intro hN29
  refine an 4 14 3567 (fun (v20 : A2) => ⟨84, [], [(13, (Vp v20.1)), (14, (Vp v20.2)), (28, (Ag (C2 a3_0 a3_1 a3_2))), (30, (Ag (C2 a2_0 a2_1 a2_2))), (33, (Ag (C2 a3_3 a3_4 a3_5))), (35, (Ag (C2 a2_3 a2_4 a2_5))), (4, (Vp q4)), (6, (Vp q6)), (8, (Vp q8)), (9, (Vp q9)), (11, (Vp q9015)), (12, (Vp q9016))], [(Ur v20.1 30 (C5 false 0)), (Ur v20.2 30 (C5 false 0)), (Ur q4 32 (C0 a0_0 a0_1 a0_2 a0_3 a0_4 a0_5)), (Ur q6 32 (C0 a2_0 a2_1 a2_2 a2_3 a2_4 a2_5)), (Ur q8 37 (C1 false 0 false 0)), (Ur q9 37 (C1 false 0 false 0)), (Ur q9015 30 (C2 r21.1 r21.2.1 r21.2.2)), (Ur q9016 30 (C2 r26.1 r26.2.1 r26.2.2))]⟩) ?_ ?_
  ·rintro ⟨q9021, q9022⟩
   refine al1 4 (by kernel_rfl) ?_
   ·exact no rfl (oz (ent_fn' Tryz.func15 isn15 rfl rfl) (spec_Dyadic_Sub_sim _ _ _ _ _ _ hr31)) fun _ => tk [0,1,2,3,4,5,6,7] (u11 rfl rfl rfl rfl rfl rfl rfl rfl rfl rfl rfl) (p8 rfl rfl rfl rfl rfl rfl rfl rfl) (hN33 (q9021, q9022))
  intro hN30
  refine an 5 14 511 (fun (v14 : Unit) => ⟨84, [], [(31, (Ag (C2 r31.1 r31.2.1 r31.2.2))), (33, (Ag (C2 a3_3 a3_4 a3_5))), (35, (Ag (C2 a2_3 a2_4 a2_5))), (4, (Vp q4)), (6, (Vp q6)), (8, (Vp q8)), (9, (Vp q9)), (11, (Vp q9015)), (12, (Vp q9016))], [(Ur q4 32 (C0 a0_0 a0_1 a0_2 a0_3 a0_4 a0_5)), (Ur q6 32 (C0 a2_0 a2_1 a2_2 a2_3 a2_4 a2_5)), (Ur q8 37 (C1 false 0 false 0)), (Ur q9 37 (C1 false 0 false 0)), (Ur q9015 30 (C2 r21.1 r21.2.1 r21.2.2)), (Ur q9016 30 (C2 r26.1 r26.2.1 r26.2.2))]⟩) ?_ ?_
  ·rintro ⟨⟩
   refine al3 9 10 11 (by kernel_rfl) ?_ ?_ ?_
   ·exact no rfl (oz (ent_fn' Tryz.func15 isn15 rfl rfl) (spec_Dyadic_Sub_sim _ _ _ _ _ _ hr36)) fun _ => tk [0,1,2,3,4,5] (u8 rfl rfl rfl rfl rfl rfl rfl rfl) (p6 rfl rfl rfl rfl rfl rfl) (hN27 ())
   ·exact na rfl info30 (C5 false 0) fun q13 => tk [0,1,2,3,4,5,6] (u10 rfl rfl rfl rfl rfl rfl rfl rfl rfl rfl) (p7 rfl rfl rfl rfl rfl rfl rfl) (hN28 q13)
   exact na rfl info30 (C5 false 0) fun q14 => tk [0,1,2,3,4,5,6] (u10 rfl rfl rfl rfl rfl rfl rfl rfl rfl rfl) (p7 rfl rfl rfl rfl rfl rfl rfl) (hN29 q14)
  intro hN24
  refine an 5 14 1519 (fun (v15 : Addr) => ⟨84, [], [(13, (Vp v15)), (28, (Ag (C2 a3_0 a3_1 a3_2))), (30, (Ag (C2 a2_0 a2_1 a2_2))), (33, (Ag (C2 a3_3 a3_4 a3_5))), (35, (Ag (C2 a2_3 a2_4 a2_5))), (4, (Vp q4)), (6, (Vp q6)), (8, (Vp q8)), (9, (Vp q9)), (11, (Vp q9015)), (12, (Vp q9016))], [(Ur v15 30 (C5 false 0)), (Ur q4 32 (C0 a0_0 a0_1 a0_2 a0_3 a0_4 a0_5)), (Ur q6 32 (C0 a2_0 a2_1 a2_2 a2_3 a2_4 a2_5)), (Ur q8 37 (C1 false 0 false 0)), (Ur q9 37 (C1 false 0 false 0)), (Ur q9015 30 (C2 r21.1 r21.2.1 r21.2.2)), (Ur q9016 30 (C2 r26.1 r26.2.1 r26.2.2))]⟩) ?_ ?_
  ·rintro q9017
   refine al2 4 11 (by kernel_rfl) ?_ ?_
   ·exact no rfl (oz (ent_fn' Tryz.func15 isn15 rfl rfl) (spec_Dyadic_Sub_sim _ _ _ _ _ _ hr31)) fun _ => tk [0,1,2,3,4,5,6] (u10 rfl rfl rfl rfl rfl rfl rfl rfl rfl rfl) (p7 rfl rfl rfl rfl rfl rfl rfl) (hN28 q9017)
   exact na rfl info30 (C5 false 0) fun q14 => tk [1,0,2,3,4,5,6,7] (u12 rfl rfl rfl rfl rfl rfl rfl rfl rfl rfl rfl rfl) (p8 rfl rfl rfl rfl rfl rfl rfl rfl) (hN30 (q9017, q14))
  intro hN25
  refine an 5 14 2543 (fun (v16 : Addr) => ⟨84, [], [(14, (Vp v16)), (28, (Ag (C2 a3_0 a3_1 a3_2))), (30, (Ag (C2 a2_0 a2_1 a2_2))), (33, (Ag (C2 a3_3 a3_4 a3_5))), (35, (Ag (C2 a2_3 a2_4 a2_5))), (4, (Vp q4)), (6, (Vp q6)), (8, (Vp q8)), (9, (Vp q9)), (11, (Vp q9015)), (12, (Vp q9016))], [(Ur v16 30 (C5 false 0)), (Ur q4 32 (C0 a0_0 a0_1 a0_2 a0_3 a0_4 a0_5)), (Ur q6 32 (C0 a2_0 a2_1 a2_2 a2_3 a2_4 a2_5)), (Ur q8 37 (C1 false 0 false 0)), (Ur q9 37 (C1 false 0 false 0)), (Ur q9015 30 (C2 r21.1 r21.2.1 r21.2.2)), (Ur q9016 30 (C2 r26.1 r26.2.1 r26.2.2))]⟩) ?_ ?_
  ·rintro q9018
   refine al2 4 10 (by kernel_rfl) ?_ ?_
   ·exact no rfl (oz (ent_fn' Tryz.func15 isn15 rfl rfl) (spec_Dyadic_Sub_sim _ _ _ _ _ _ hr31)) fun _ => tk [0,1,2,3,4,5,6] (u10 rfl rfl rfl rfl rfl rfl rfl rfl rfl rfl) (p7 rfl rfl rfl rfl rfl rfl rfl) (hN29 q9018)
   exact na rfl info30 (C5 false 0) fun q13 => tk [0,1,2,3,4,5,6,7] (u12 rfl rfl rfl rfl rfl rfl rfl rfl rfl rfl rfl rfl) (p8 rfl rfl rfl rfl rfl rfl rfl rfl) (hN30 (q13, q9018))
  intro hN26
  refine al3 4 10 11 (by kernel_rfl) ?_ ?_ ?_
  ·exact no rfl (oz (ent_fn' Tryz.func15 isn15 rfl rfl) (spec_Dyadic_Sub_sim _ _ _ _ _ _ hr31)) fun _ => tk [2,3,5,6,0,1] (u9 rfl rfl rfl rfl rfl rfl rfl rfl rfl) (p6 rfl rfl rfl rfl rfl rfl) (hN24 ())
  ·exact na rfl info30 (C5 false 0) fun q13 => tk [0,3,4,6,7,1,2] (u11 rfl rfl rfl rfl rfl rfl rfl rfl rfl rfl rfl) (p7 rfl rfl rfl rfl rfl rfl rfl) (hN25 q13)
  exact na rfl info30 (C5 false 0) fun q14 => tk [0,3,4,6,7,1,2] (u11 rfl rfl rfl rfl rfl rfl rfl rfl rfl rfl rfl) (p7 rfl rfl rfl rfl rfl rfl rfl) (hN26 q14)
 intro hN50
 refine an 1 14 8191 (fun (v12 : A2) => ⟨84, [], [(11, (Vp v12.1)), (12, (Vp v12.2)), (26, (Ag (C2 r26.1 r26.2.1 r26.2.2))), (4, (Vp q4)), (6, (Vp q6)), (7, (Vp q7)), (8, (Vp q8)), (9, (Vp q9))], [(Ur v12.1 30 (C2 r21.1 r21.2.1 r21.2.2)), (Ur v12.2 30 (C5 false 0)), (Ur q4 32 (C0 a0_0 a0_1 a0_2 a0_3 a0_4 a0_5)), (Ur q6 32 (C0 a2_0 a2_1 a2_2 a2_3 a2_4 a2_5)), (Ur q7 32 (C0 a3_0 a3_1 a3_2 a3_3 a3_4 a3_5)), (Ur q8 37 (C1 false 0 false 0)), (Ur q9 37 (C1 false 0 false 0))]⟩) ?_ ?_
 ·rintro ⟨q9013, q9014⟩
  refine al1 13 (by kernel_rfl) ?_
  ·refine nx_oxv rfl (oxv_store (i := 1) (o := 0) rfl rfl (lv_ag _) (ar rfl rfl rfl rfl) rfl info30 rfl (H' := [(Ur q9013 30 (C2 r21.1 r21.2.1 r21.2.2)), (Ur q9014 30 (C2 r26.1 r26.2.1 r26.2.2)), (Ur q4 32 (C0 a0_0 a0_1 a0_2 a0_3 a0_4 a0_5)), (Ur q6 32 (C0 a2_0 a2_1 a2_2 a2_3 a2_4 a2_5)), (Ur q7 32 (C0 a3_0 a3_1 a3_2 a3_3 a3_4 a3_5)), (Ur q8 37 (C1 false 0 false 0)), (Ur q9 37 (C1 false 0 false 0))]) rfl) rfl rfl bo_nil (wt_none' rfl) rfl fun _ => ?_
   exact tk [0,1,2,3,4,5,6] (u7 rfl rfl rfl rfl rfl rfl rfl) (p7 rfl rfl rfl rfl rfl rfl rfl) (hN50 (q9013, q9014))
 intro hN49
 refine an 2 14 4095 (fun (v11 : A2) => ⟨84, [], [(11, (Vp v11.1)), (12, (Vp v11.2)), (21, (Ag (C2 r21.1 r21.2.1 r21.2.2))), (26, (Ag (C2 r26.1 r26.2.1 r26.2.2))), (4, (Vp q4)), (6, (Vp q6)), (7, (Vp q7)), (8, (Vp q8)), (9, (Vp q9))], [(Ur v11.1 30 (C5 false 0)), (Ur v11.2 30 (C5 false 0)), (Ur q4 32 (C0 a0_0 a0_1 a0_2 a0_3 a0_4 a0_5)), (Ur q6 32 (C0 a2_0 a2_1 a2_2 a2_3 a2_4 a2_5)), (Ur q7 32 (C0 a3_0 a3_1 a3_2 a3_3 a3_4 a3_5)), (Ur q8 37 (C1 false 0 false 0)), (Ur q9 37 (C1 false 0 false 0))]⟩) ?_ ?_
 ·rintro ⟨q9011, q9012⟩
  refine al1 12 (by kernel_rfl) ?_
  ·refine nx_oxv rfl (oxv_store (i := 0) (o := 0) rfl rfl (lv_ag _) (ar rfl rfl rfl rfl) rfl info30 rfl (H' := [(Ur q9011 30 (C2 r21.1 r21.2.1 r21.2.2)), (Ur q9012 30 (C5 false 0)), (Ur q4 32 (C0 a0_0 a0_1 a0_2 a0_3 a0_4 a0_5)), (Ur q6 32 (C0 a2_0 a2_1 a2_2 a2_3 a2_4 a2_5)), (Ur q7 32 (C0 a3_0 a3_1 a3_2 a3_3 a3_4 a3_5)), (Ur q8 37 (C1 false 0 false 0)), (Ur q9 37 (C1 false 0 false 0))]) rfl) rfl rfl bo_nil (wt_none' rfl) rfl fun _ => ?_
   exact tk [0,1,2,3,4,5,6] (u8 rfl rfl rfl rfl rfl rfl rfl rfl) (p7 rfl rfl rfl rfl rfl rfl rfl) (hN49 (q9011, q9012))
 intro hN48
 refine an 3 14 2047 (fun (v8 : Addr) => ⟨84, [], [(11, (Vp v8)), (21, (Ag (C2 r21.1 r21.2.1 r21.2.2))), (26, (Ag (C2 r26.1 r26.2.1 r26.2.2))), (4, (Vp q4)), (6, (Vp q6)), (7, (Vp q7)), (8, (Vp q8)), (9, (Vp q9))], [(Ur v8 30 (C5 false 0)), (Ur q4 32 (C0 a0_0 a0_1 a0_2 a0_3 a0_4 a0_5)), (Ur q6 32 (C0 a2_0 a2_1 a2_2 a2_3 a2_4 a2_5)), (Ur q7 32 (C0 a3_0 a3_1 a3_2 a3_3 a3_4 a3_5)), (Ur q8 37 (C1 false 0 false 0)), (Ur q9 37 (C1 false 0 false 0))]⟩) ?_ ?_
 ·rintro q907
  refine al1 11 (by kernel_rfl) ?_
  ·exact na rfl info30 (C5 false 0) fun q12 => tk [1,0,2,3,4,5,6] (u9 rfl rfl rfl rfl rfl rfl rfl rfl rfl) (p7 rfl rfl rfl rfl rfl rfl rfl) (hN48 (q907, q12))
 intro hN45
 refine an 3 14 3071 (fun (v9 : Addr) => ⟨84, [], [(12, (Vp v9)), (21, (Ag (C2 r21.1 r21.2.1 r21.2.2))), (26, (Ag (C2 r26.1 r26.2.1 r26.2.2))), (4, (Vp q4)), (6, (Vp q6)), (7, (Vp q7)), (8, (Vp q8)), (9, (Vp q9))], [(Ur v9 30 (C5 false 0)), (Ur q4 32 (C0 a0_0 a0_1 a0_2 a0_3 a0_4 a0_5)), (Ur q6 32 (C0 a2_0 a2_1 a2_2 a2_3 a2_4 a2_5)), (Ur q7 32 (C0 a3_0 a3_1 a3_2 a3_3 a3_4 a3_5)), (Ur q8 37 (C1 false 0 false 0)), (Ur q9 37 (C1 false 0 false 0))]⟩) ?_ ?_
 ·rintro q908
  refine al1 10 (by kernel_rfl) ?_
  ·exact na rfl info30 (C5 false 0) fun q11 => tk [0,1,2,3,4,5,6] (u9 rfl rfl rfl rfl rfl rfl rfl rfl rfl) (p7 rfl rfl rfl rfl rfl rfl rfl) (hN48 (q11, q908))
 intro hN46
 refine an 3 14 3583 (fun (v10 : A2) => ⟨84, [], [(11, (Vp v10.1)), (12, (Vp v10.2)), (21, (Ag (C2 r21.1 r21.2.1 r21.2.2))), (23, (Ag (C2 a1_3 a1_4 a1_5))), (25, (Ag (C2 a0_3 a0_4 a0_5))), (4, (Vp q4)), (6, (Vp q6)), (7, (Vp q7)), (8, (Vp q8)), (9, (Vp q9))], [(Ur v10.1 30 (C5 false 0)), (Ur v10.2 30 (C5 false 0)), (Ur q4 32 (C0 a0_0 a0_1 a0_2 a0_3 a0_4 a0_5)), (Ur q6 32 (C0 a2_0 a2_1 a2_2 a2_3 a2_4 a2_5)), (Ur q7 32 (C0 a3_0 a3_1 a3_2 a3_3 a3_4 a3_5)), (Ur q8 37 (C1 false 0 false 0)), (Ur q9 37 (C1 false 0 false 0))]⟩) ?_ ?_
 ·rintro ⟨q909, q9010⟩
  refine al1 9 (by kernel_rfl) ?_
  ·exact no rfl (oz (ent_fn' Tryz.func15 isn15 rfl rfl) (spec_Dyadic_Sub_sim _ _ _ _ _ _ hr26)) fun _ => tk [0,1,2,3,4,5,6] (u9 rfl rfl rfl rfl rfl rfl rfl rfl rfl) (p7 rfl rfl rfl rfl rfl rfl rfl) (hN48 (q909, q9010))
 intro hN47
 refine an 4 14 1023 (fun (v4 : Unit) => ⟨84, [], [(21, (Ag (C2 r21.1 r21.2.1 r21.2.2))), (26, (Ag (C2 r26.1 r26.2.1 r26.2.2))), (4, (Vp q4)), (6, (Vp q6)), (7, (Vp q7)), (8, (Vp q8)), (9, (Vp q9))], [(Ur q4 32 (C0 a0_0 a0_1 a0_2 a0_3 a0_4 a0_5)), (Ur q6 32 (C0 a2_0 a2_1 a2_2 a2_3 a2_4 a2_5)), (Ur q7 32 (C0 a3_0 a3_1 a3_2 a3_3 a3_4 a3_5)), (Ur q8 37 (C1 false 0 false 0)), (Ur q9 37 (C1 false 0 false 0))]⟩) ?_ ?_
 ·rintro ⟨⟩
  refine al2 10 11 (by kernel_rfl) ?_ ?_
  ·exact na rfl info30 (C5 false 0) fun q11 => tk [0,1,2,3,4,5] (u8 rfl rfl rfl rfl rfl rfl rfl rfl) (p6 rfl rfl rfl rfl rfl rfl) (hN45 q11)
  exact na rfl info30 (C5 false 0) fun q12 => tk [0,1,2,3,4,5] (u8 rfl rfl rfl rfl rfl rfl rfl rfl) (p6 rfl rfl rfl rfl rfl rfl) (hN46 q12)
 intro hN41
 refine an 4 14 1535 (fun (v5 : Addr) => ⟨84, [], [(11, (Vp v5)), (21, (Ag (C2 r21.1 r21.2.1 r21.2.2))), (23, (Ag (C2 a1_3 a1_4 a1_5))), (25, (Ag (C2 a0_3 a0_4 a0_5))), (4, (Vp q4)), (6, (Vp q6)), (7, (Vp q7)), (8, (Vp q8)), (9, (Vp q9))], [(Ur v5 30 (C5 false 0)), (Ur q4 32 (C0 a0_0 a0_1 a0_2 a0_3 a0_4 a0_5)), (Ur q6 32 (C0 a2_0 a2_1 a2_2 a2_3 a2_4 a2_5)), (Ur q7 32 (C0 a3_0 a3_1 a3_2 a3_3 a3_4 a3_5)), (Ur q8 37 (C1 false 0 false 0)), (Ur q9 37 (C1 false 0 false 0))]⟩) ?_ ?_
 ·rintro q903
  refine al2 9 11 (by kernel_rfl) ?_ ?_
  ·exact no rfl (oz (ent_fn' Tryz.func15 isn15 rfl rfl) (spec_Dyadic_Sub_sim _ _ _ _ _ _ hr26)) fun _ => tk [0,1,2,3,4,5] (u8 rfl rfl rfl rfl rfl rfl rfl rfl) (p6 rfl rfl rfl rfl rfl rfl) (hN45 q903)
  exact na rfl info30 (C5 false 0) fun q12 => tk [1,0,2,3,4,5,6] (u10 rfl rfl rfl rfl rfl rfl rfl rfl rfl rfl) (p7 rfl rfl rfl rfl rfl rfl rfl) (hN47 (q903, q12))
 intro hN42
 refine an 4 14 2559 (fun (v6 : Addr) => ⟨84, [], [(12, (Vp v6)), (21, (Ag (C2 r21.1 r21.2.1 r21.2.2))), (23, (Ag (C2 a1_3 a1_4 a1_5))), (25, (Ag (C2 a0_3 a0_4 a0_5))), (4, (Vp q4)), (6, (Vp q6)), (7, (Vp q7)), (8, (Vp q8)), (9, (Vp q9))], [(Ur v6 30 (C5 false 0)), (Ur q4 32 (C0 a0_0 a0_1 a0_2 a0_3 a0_4 a0_5)), (Ur q6 32 (C0 a2_0 a2_1 a2_2 a2_3 a2_4 a2_5)), (Ur q7 32 (C0 a3_0 a3_1 a3_2 a3_3 a3_4 a3_5)), (Ur q8 37 (C1 false 0 false 0)), (Ur q9 37 (C1 false 0 false 0))]⟩) ?_ ?_
 ·rintro q904
  refine al2 9 10 (by kernel_rfl) ?_ ?_
  ·exact no rfl (oz (ent_fn' Tryz.func15 isn15 rfl rfl) (spec_Dyadic_Sub_sim _ _ _ _ _ _ hr26)) fun _ => tk [0,1,2,3,4,5] (u8 rfl rfl rfl rfl rfl rfl rfl rfl) (p6 rfl rfl rfl rfl rfl rfl) (hN46 q904)
  exact na rfl info30 (C5 false 0) fun q11 => tk [0,1,2,3,4,5,6] (u10 rfl rfl rfl rfl rfl rfl rfl rfl rfl rfl) (p7 rfl rfl rfl rfl rfl rfl rfl) (hN47 (q11, q904))
 intro hN43
 refine an 4 14 3567 (fun (v7 : A2) => ⟨84, [], [(11, (Vp v7.1)), (12, (Vp v7.2)), (18, (Ag (C2 a1_0 a1_1 a1_2))), (20, (Ag (C2 a0_0 a0_1 a0_2))), (23, (Ag (C2 a1_3 a1_4 a1_5))), (25, (Ag (C2 a0_3 a0_4 a0_5))), (4, (Vp q4)), (6, (Vp q6)), (7, (Vp q7)), (8, (Vp q8)), (9, (Vp q9))], [(Ur v7.1 30 (C5 false 0)), (Ur v7.2 30 (C5 false 0)), (Ur q4 32 (C0 a0_0 a0_1 a0_2 a0_3 a0_4 a0_5)), (Ur q6 32 (C0 a2_0 a2_1 a2_2 a2_3 a2_4 a2_5)), (Ur q7 32 (C0 a3_0 a3_1 a3_2 a3_3 a3_4 a3_5)), (Ur q8 37 (C1 false 0 false 0)), (Ur q9 37 (C1 false 0 false 0))]⟩) ?_ ?_
 ·rintro ⟨q905, q906⟩
  refine al1 4 (by kernel_rfl) ?_
  ·exact no rfl (oz (ent_fn' Tryz.func15 isn15 rfl rfl) (spec_Dyadic_Sub_sim _ _ _ _ _ _ hr21)) fun _ => tk [0,1,2,3,4,5,6] (u10 rfl rfl rfl rfl rfl rfl rfl rfl rfl rfl) (p7 rfl rfl rfl rfl rfl rfl rfl) (hN47 (q905, q906))
 intro hN44
 refine an 5 14 511 (fun (v1 : Unit) => ⟨84, [], [(21, (Ag (C2 r21.1 r21.2.1 r21.2.2))), (23, (Ag (C2 a1_3 a1_4 a1_5))), (25, (Ag (C2 a0_3 a0_4 a0_5))), (4, (Vp q4)), (6, (Vp q6)), (7, (Vp q7)), (8, (Vp q8)), (9, (Vp q9))], [(Ur q4 32 (C0 a0_0 a0_1 a0_2 a0_3 a0_4 a0_5)), (Ur q6 32 (C0 a2_0 a2_1 a2_2 a2_3 a2_4 a2_5)), (Ur q7 32 (C0 a3_0 a3_1 a3_2 a3_3 a3_4 a3_5)), (Ur q8 37 (C1 false 0 false 0)), (Ur q9 37 (C1 false 0 false 0))]⟩) ?_ ?_
 ·rintro ⟨⟩
  refine al3 9 10 11 (by kernel_rfl) ?_ ?_ ?_
  ·exact no rfl (oz (ent_fn' Tryz.func15 isn15 rfl rfl) (spec_Dyadic_Sub_sim _ _ _ _ _ _ hr26)) fun _ => tk [0,1,2,3,4] (u7 rfl rfl rfl rfl rfl rfl rfl) (p5 rfl rfl rfl rfl rfl) (hN41 ())
  ·exact na rfl info30 (C5 false 0) fun q11 => tk [0,1,2,3,4,5] (u9 rfl rfl rfl rfl rfl rfl rfl rfl rfl) (p6 rfl rfl rfl rfl rfl rfl) (hN42 q11)
  exact na rfl info30 (C5 false 0) fun q12 => tk [0,1,2,3,4,5] (u9 rfl rfl rfl rfl rfl rfl rfl rfl rfl) (p6 rfl rfl rfl rfl rfl rfl) (hN43 q12)
 intro hN38
 refine an 5 14 1519 (fun (v2 : Addr) => ⟨84, [], [(11, (Vp v2)), (18, (Ag (C2 a1_0 a1_1 a1_2))), (20, (Ag (C2 a0_0 a0_1 a0_2))), (23, (Ag (C2 a1_3 a1_4 a1_5))), (25, (Ag (C2 a0_3 a0_4 a0_5))), (4, (Vp q4)), (6, (Vp q6)), (7, (Vp q7)), (8, (Vp q8)), (9, (Vp q9))], [(Ur v2 30 (C5 false 0)), (Ur q4 32 (C0 a0_0 a0_1 a0_2 a0_3 a0_4 a0_5)), (Ur q6 32 (C0 a2_0 a2_1 a2_2 a2_3 a2_4 a2_5)), (Ur q7 32 (C0 a3_0 a3_1 a3_2 a3_3 a3_4 a3_5)), (Ur q8 37 (C1 false 0 false 0)), (Ur q9 37 (C1 false 0 false 0))]⟩) ?_ ?_
 ·rintro q901
  refine al2 4 11 (by kernel_rfl) ?_ ?_
  ·exact no rfl (oz (ent_fn' Tryz.func15 isn15 rfl rfl) (spec_Dyadic_Sub_sim _ _ _ _ _ _ hr21)) fun _ => tk [0,1,2,3,4,5] (u9 rfl rfl rfl rfl rfl rfl rfl rfl rfl) (p6 rfl rfl rfl rfl rfl rfl) (hN42 q901)
  exact na rfl info30 (C5 false 0) fun q12 => tk [1,0,2,3,4,5,6] (u11 rfl rfl rfl rfl rfl rfl rfl rfl rfl rfl rfl) (p7 rfl rfl rfl rfl rfl rfl rfl) (hN44 (q901, q12))
 intro hN39
 refine an 5 14 2543 (fun (v3 : Addr) => ⟨84, [], [(12, (Vp v3)), (18, (Ag (C2 a1_0 a1_1 a1_2))), (20, (Ag (C2 a0_0 a0_1 a0_2))), (23, (Ag (C2 a1_3 a1_4 a1_5))), (25, (Ag (C2 a0_3 a0_4 a0_5))), (4, (Vp q4)), (6, (Vp q6)), (7, (Vp q7)), (8, (Vp q8)), (9, (Vp q9))], [(Ur v3 30 (C5 false 0)), (Ur q4 32 (C0 a0_0 a0_1 a0_2 a0_3 a0_4 a0_5)), (Ur q6 32 (C0 a2_0 a2_1 a2_2 a2_3 a2_4 a2_5)), (Ur q7 32 (C0 a3_0 a3_1 a3_2 a3_3 a3_4 a3_5)), (Ur q8 37 (C1 false 0 false 0)), (Ur q9 37 (C1 false 0 false 0))]⟩) ?_ ?_
 ·rintro q902
  refine al2 4 10 (by kernel_rfl) ?_ ?_
  ·exact no rfl (oz (ent_fn' Tryz.func15 isn15 rfl rfl) (spec_Dyadic_Sub_sim _ _ _ _ _ _ hr21)) fun _ => tk [0,1,2,3,4,5] (u9 rfl rfl rfl rfl rfl rfl rfl rfl rfl) (p6 rfl rfl rfl rfl rfl rfl) (hN43 q902)
  exact na rfl info30 (C5 false 0) fun q11 => tk [0,1,2,3,4,5,6] (u11 rfl rfl rfl rfl rfl rfl rfl rfl rfl rfl rfl) (p7 rfl rfl rfl rfl rfl rfl rfl) (hN44 (q11, q902))
 intro hN40
 refine al3 4 10 11 (by kernel_rfl) ?_ ?_ ?_
 ·exact no rfl (oz (ent_fn' Tryz.func15 isn15 rfl rfl) (spec_Dyadic_Sub_sim _ _ _ _ _ _ hr21)) fun _ => tk [5,3,2,1,0] (u8 rfl rfl rfl rfl rfl rfl rfl rfl) (p5 rfl rfl rfl rfl rfl) (hN38 ())
 ·exact na rfl info30 (C5 false 0) fun q11 => tk [0,6,4,3,2,1] (u10 rfl rfl rfl rfl rfl rfl rfl rfl rfl rfl) (p6 rfl rfl rfl rfl rfl rfl) (hN39 q11)
 exact na rfl info30 (C5 false 0) fun q12 => tk [0,6,4,3,2,1] (u10 rfl rfl rfl rfl rfl rfl rfl rfl rfl rfl) (p6 rfl rfl rfl rfl rfl rfl) (hN40 q12)

def impl_strategy (k : Nat)  : Option (Unit) :=
 some ()

theorem impl_strategy_sim {k : Nat}   {out : Unit} (hp : impl_strategy k = some out) : Sx.Fn Tryz.prog 21 [(Vb false)] [] (fun w : Unit => (If 88 (Ag []))) (fun w => []) := by
 unfold impl_strategy at hp
 refine fn_of Tryz.func21 rfl Tryz.ntmps21 rfl fun E hM => ?_
 refine cr fun K1 hK1 => ?_
 refine sa rfl ?_
 refine nk hK1 ?_
 refine cx_seq' fun K2 hK2 => ?_
 refine cr fun K3 hK3 => ?_
 refine sm rfl ?_
 refine nk hK3 ?_
 refine cx_cond_f' rfl rfl ?_
 refine cx_skip' ?_
 show TX E K2 _
 refine tx_k' hK2 ?_
 refine cr fun K4 hK4 => ?_
 refine sv (pls := []) (qs := []) (r := []) trivial Tryz.underlying88 has88 places88 info88 rfl rfl rfl ?_
 refine s0 (rd_iface' rfl ⟨_, Tryz.underlying88, fun _ h => (nomatch h)⟩) ?_
 refine sa rfl ?_
 refine nk hK4 ?_
 refine cx_retc' ?_
 replace hp := sj hp
 subst hp
 refine tk (L' := [(2, (If 88 (Ag [])))]) (H' := []) [] (uc rfl un) pn ?_
 exact tx_ret1' Tryz.results21 rfl () (rv_tmp' rfl) lr

def impl_coord (k a0_0 a0_1 : Nat) : Option ((List Nat)) :=
 some ([a0_0, a0_1])

theorem impl_coord_sim {k : Nat}  (a0_0 a0_1 : Nat) {out : (List Nat)} (hp : impl_coord k a0_0 a0_1 = some out) : Sx.Fn Tryz.prog 22 [(Ag (C4 a0_0 a0_1))] [] (fun w : Unit => (Sl Kf out)) (fun w => []) := by
 unfold impl_coord at hp
 refine fn_of Tryz.func22 rfl Tryz.ntmps22 rfl fun E hM => ?_
 refine cr fun K1 hK1 => ?_
 refine so (ox_box' rfl (lv_ag _) rfl rfl) fun q1 => ?_
 refine sa rfl ?_
 refine nk hK1 ?_
 refine cr fun K2 hK2 => ?_
 refine sf rfl Tryz.underlying24 rfl info22 rfl ?_
 refine sl (i := 0) (o := 0) rfl (ar rfl rfl rfl rfl) rfl flat22 ?_
 refine sg (off := 1) rfl Tryz.underlying24 rfl info22 rfl ?_
 refine sl (i := 0) (o := 1) rfl (ar rfl rfl rfl rfl) rfl flat22 ?_
 refine so (ox_rowlit' (K := Kf) (xs := [a0_0, a0_1]) (qs := [(0, [(Vg a0_0)]), (1, [(Vg a0_1)])]) ⟨rfl, ⟨_, rfl, (lv_vl rfl rfl)⟩, ⟨rfl, ⟨_, rfl, (lv_vl rfl rfl)⟩, trivial⟩⟩ Tryz.underlying63 info22 rfl rfl rfl rfl rfl (by kernel_rfl) rfl rfl rfl) fun g7 => ?_
 refine sa rfl ?_
 refine nk hK2 ?_
 refine cx_retc' ?_
 replace hp := sj hp
 subst hp
 refine tx_fz' (frz_row 0 [(2, (Vw g7), (Sl Kf ([a0_0, a0_1]))), (7, (Vw g7), (Sl Kf ([a0_0, a0_1])))] (K := Kf) (xs := [a0_0, a0_1]) (by decide) rfl ⟨⟨rfl, frz_it⟩, ⟨rfl, frz_it⟩, trivial⟩ (H' := [(Ur q1 24 (C4 a0_0 a0_1))]) frzH_refl) ?_
 refine tk (L' := [(2, (Sl Kf ([a0_0, a0_1])))]) (H' := []) [] (uc rfl un) pn ?_
 exact tx_ret1' Tryz.results22 rfl () (rv_tmp' rfl) lr

def inner_IsSameSignAndNonZero_j4 (k : Nat) (x4 : Bool) : Option (Bool) :=
 some x4
def inner_IsSameSignAndNonZero_j3 (k : Nat) (x3 : Bool) : Option (Bool) :=
 inner_IsSameSignAndNonZero_j4 k x3
def inner_IsSameSignAndNonZero_j2 (k a0 a1 : Nat) (x2 : Bool) : Option (Bool) :=
 br x2
  (inner_IsSameSignAndNonZero_j4 k true)
  (br (fgt a0 0)
   (inner_IsSameSignAndNonZero_j3 k (fgt a1 0))
   (inner_IsSameSignAndNonZero_j3 k false))
def inner_IsSameSignAndNonZero_j1 (k a0 a1 : Nat) (x1 : Bool) : Option (Bool) :=
 br x1
  (some false)
  (br (flt a0 0)
   (inner_IsSameSignAndNonZero_j2 k a0 a1 (flt a1 0))
   (inner_IsSameSignAndNonZero_j2 k a0 a1 false))
def inner_IsSameSignAndNonZero (k a0 a1 : Nat) : Option (Bool) :=
 br (feq a0 0)
  (inner_IsSameSignAndNonZero_j1 k a0 a1 true)
  (inner_IsSameSignAndNonZero_j1 k a0 a1 (feq a1 0))

theorem inner_IsSameSignAndNonZero_sim {k : Nat}  (a0 a1 : Nat) {out : Bool} (hp : inner_IsSameSignAndNonZero k a0 a1 = some out) : Sx.Fn Tryz.prog 111 (C4 a0 a1) [] (fun w : Unit => (Vb out)) (fun w => []) := by
 unfold inner_IsSameSignAndNonZero at hp
 refine fn_of Tryz.func111 rfl Tryz.ntmps111 rfl fun E hM => ?_
 refine cr fun K1 hK1 => ?_
 refine sa rfl ?_
 refine nk hK1 ?_
 refine cx_seq' fun K2 hK2 => ?_
 refine cr fun K3 hK3 => ?_
 refine sm rfl ?_
 refine sb rfl rfl eg_flt ru_feq ?_
 refine sm rfl ?_
 refine sx_cutn' 3 (fun (v1 : Bool) => (⟨25, [], [(0, (Vg a0)), (1, (Vg a1)), (10, (Vb v1))], []⟩ : St)) (fun (v1 : Bool) => inner_IsSameSignAndNonZero_j1 k a0 a1 v1 = some out) ?_ ?_
 ·rintro x1 hp
  replace hp : inner_IsSameSignAndNonZero_j1 k a0 a1 x1 = some out := hp
  unfold inner_IsSameSignAndNonZero_j1 at hp
  refine nk hK3 ?_
  refine cx_cond' rfl (fun h2 => ?_) (fun h2 => ?_)
  ·replace hp := (br_t h2).symm.trans hp
   refine cr fun K5 hK5 => ?_
   refine sa rfl ?_
   refine nk hK5 ?_
   refine cx_retc' ?_
   replace hp := sj hp
   subst hp
   refine tk (L' := [(4, (Vb false))]) (H' := []) [] (uc rfl un) pn ?_
   exact tx_ret1' Tryz.results111 rfl () (rv_tmp' rfl) lr
  replace hp := (br_f h2).symm.trans hp
  refine cx_skip' ?_
  show TX E K2 _
  refine tx_k' hK2 ?_
  refine cr fun K6 hK6 => ?_
  refine sm rfl ?_
  refine sb rfl rfl eg_flt ru_flt ?_
  refine sm rfl ?_
  refine sx_cutn' 3 (fun (v2 : Bool) => (⟨25, [], [(0, (Vg a0)), (1, (Vg a1)), (16, (Vb v2))], []⟩ : St)) (fun (v2 : Bool) => inner_IsSameSignAndNonZero_j2 k a0 a1 v2 = some out) ?_ ?_
  ·rintro x2 hp
   replace hp : inner_IsSameSignAndNonZero_j2 k a0 a1 x2 = some out := hp
   unfold inner_IsSameSignAndNonZero_j2 at hp
   refine sm rfl ?_
   refine sx_cutn' 7 (fun (v4 : Bool) => (⟨25, [], [(24, (Vb v4))], []⟩ : St)) (fun (v4 : Bool) => inner_IsSameSignAndNonZero_j4 k v4 = some out) ?_ ?_
   ·rintro x4 hp
    replace hp : inner_IsSameSignAndNonZero_j4 k x4 = some out := hp
    unfold inner_IsSameSignAndNonZero_j4 at hp
    refine sa rfl ?_
    refine nk hK6 ?_
    refine cx_retc' ?_
    replace hp := sj hp
    subst hp
    refine tk (L' := [(4, (Vb x4))]) (H' := []) [] (uc rfl un) pn ?_
    exact tx_ret1' Tryz.results111 rfl () (rv_tmp' rfl) lr
   intro K9 hK9
   rcases br_cases hp with ⟨h4, hp⟩ | ⟨h4, hp⟩
   ·refine sx_skip' rfl rfl (wt_is' (wt_guard' rfl rfl rfl) (beq_tf h4)) ?_
    iterate 2 refine sx_skip' rfl rfl (wt_is' (wt_guard' rfl rfl rfl) (beq_tf h4)) ?_
    iterate 2 refine sx_skip' rfl rfl (wt_undef' rfl rfl rfl) ?_
    refine sx_skip' rfl rfl (wt_is' (wt_guard' rfl rfl rfl) (beq_tf h4)) ?_
    refine s0 (rd_pick_true' rfl h4 rfl) ?_
    refine sx_nil' ?_
    show TX E K9 _
    exact tk [] (uc rfl un) pn (hK9 true hp)
   refine sx_rd' (rd_move' rfl) rfl rfl (wt_is' (wt_guard' rfl rfl rfl) (beq_ff h4)) ?_
   refine sx_rd' (rd_bin' rfl rfl eg_flt ru_fgt) rfl rfl (wt_is' (wt_guard' rfl rfl rfl) (beq_ff h4)) ?_
   refine sx_rd' (rd_move' rfl) rfl rfl (wt_is' (wt_guard' rfl rfl rfl) (beq_ff h4)) ?_
   refine sx_cutn' 4 (fun (v3 : Bool) => (⟨25, [], [(24, (Vb v3))], []⟩ : St)) (fun (v3 : Bool) => inner_IsSameSignAndNonZero_j3 k v3 = some out) ?_ ?_
   ·rintro x3 hp
    replace hp : inner_IsSameSignAndNonZero_j3 k x3 = some out := hp
    unfold inner_IsSameSignAndNonZero_j3 at hp
    refine sx_nil' ?_
    show TX E K9 _
    exact tk [] (uc rfl un) pn (hK9 x3 hp)
   intro K8 hK8
   rcases br_cases hp with ⟨h5, hp⟩ | ⟨h5, hp⟩
   ·refine sx_rd' (rd_move' rfl) rfl rfl (wt_is' (wt_guard' rfl rfl rfl) (beq_tt h5)) ?_
    refine sx_rd' (rd_bin' rfl rfl eg_flt ru_fgt) rfl rfl (wt_is' (wt_guard' rfl rfl rfl) (beq_tt h5)) ?_
    refine sx_rd' (rd_pick_true' rfl h5 rfl) rfl rfl (wt_is' (wt_guard' rfl rfl rfl) (beq_ff h4)) ?_
    refine s0 (rd_pick_false' rfl h4 rfl) ?_
    refine sx_nil' ?_
    show TX E K8 _
    exact tk [] (uc rfl un) pn (hK8 (fgt a1 0) hp)
   iterate 2 refine sx_skip' rfl rfl (wt_is' (wt_guard' rfl rfl rfl) (beq_ft h5)) ?_
   refine sx_rd' (rd_pick_false' rfl h5 rfl) rfl rfl (wt_is' (wt_guard' rfl rfl rfl) (beq_ff h4)) ?_
   refine s0 (rd_pick_false' rfl h4 rfl) ?_
   refine sx_nil' ?_
   show TX E K8 _
   exact tk [] (uc rfl un) pn (hK8 false hp)
  intro K7 hK7
  rcases br_cases hp with ⟨h3, hp⟩ | ⟨h3, hp⟩
  ·refine sx_rd' (rd_move' rfl) rfl rfl (wt_is' (wt_guard' rfl rfl rfl) (beq_tt h3)) ?_
   refine sx_rd' (rd_bin' rfl rfl eg_flt ru_flt) rfl rfl (wt_is' (wt_guard' rfl rfl rfl) (beq_tt h3)) ?_
   refine s0 (rd_pick_true' rfl h3 rfl) ?_
   refine sx_nil' ?_
   show TX E K7 _
   exact tk [] (u3 rfl rfl rfl) pn (hK7 (flt a1 0) hp)
  iterate 2 refine sx_skip' rfl rfl (wt_is' (wt_guard' rfl rfl rfl) (beq_ft h3)) ?_
  refine s0 (rd_pick_false' rfl h3 rfl) ?_
  refine sx_nil' ?_
  show TX E K7 _
  exact tk [] (u3 rfl rfl rfl) pn (hK7 false hp)
 intro K4 hK4
 rcases br_cases hp with ⟨h1, hp⟩ | ⟨h1, hp⟩
 ·refine sx_skip' rfl rfl (wt_is' (wt_guard' rfl rfl rfl) (beq_tf h1)) ?_
  refine sx_skip' rfl rfl (wt_is' (wt_guard' rfl rfl rfl) (beq_tf h1)) ?_
  refine s0 (rd_pick_true' rfl h1 rfl) ?_
  refine sx_nil' ?_
  show TX E K4 _
  exact tk [] (u3 rfl rfl rfl) pn (hK4 true hp)
 refine sx_rd' (rd_move' rfl) rfl rfl (wt_is' (wt_guard' rfl rfl rfl) (beq_ff h1)) ?_
 refine sx_rd' (rd_bin' rfl rfl eg_flt ru_feq) rfl rfl (wt_is' (wt_guard' rfl rfl rfl) (beq_ff h1)) ?_
 refine s0 (rd_pick_false' rfl h1 rfl) ?_
 refine sx_nil' ?_
 show TX E K4 _
 exact tk [] (u3 rfl rfl rfl) pn (hK4 (feq a1 0) hp)

def lineintersector_rParameter_j1 (k x1 : Nat) : Option (Nat) :=
 some x1
def lineintersector_rParameter (k : Nat) (a0 a1 a2 : List Nat) : Option (Nat) :=
 (idx a1 0) >>= fun r11 =>
 (idx a0 0) >>= fun r14 =>
 (fsub r11 r14) >>= fun r16 =>
 (idx a1 1) >>= fun r19 =>
 (idx a0 1) >>= fun r22 =>
 (fsub r19 r22) >>= fun r24 =>
 (math_Abs k r16) >>= fun r17 =>
 (math_Abs k r24) >>= fun r25 =>
 br (fgt r17 r25)
  ((idx a2 0) >>= fun r30 =>
  (idx a0 0) >>= fun r33 =>
  (fsub r30 r33) >>= fun r35 =>
  (idx a1 0) >>= fun r37 =>
  (idx a0 0) >>= fun r40 =>
  (fsub r37 r40) >>= fun r42 =>
  (fdiv r35 r42) >>= fun r43 =>
  lineintersector_rParameter_j1 k r43)
  ((idx a2 1) >>= fun r45 =>
  (idx a0 1) >>= fun r48 =>
  (fsub r45 r48) >>= fun r50 =>
  (idx a1 1) >>= fun r52 =>
  (idx a0 1) >>= fun r55 =>
  (fsub r52 r55) >>= fun r57 =>
  (fdiv r50 r57) >>= fun r58 =>
  lineintersector_rParameter_j1 k r58)

theorem lineintersector_rParameter_sim {k : Nat}  (a0 a1 a2 : List Nat) {out : Nat} (hp : lineintersector_rParameter k a0 a1 a2 = some out) : Sx.Fn Tryz.prog 114 [(Sl Kf a0), (Sl Kf a1), (Sl Kf a2)] [] (fun w : Unit => (Vg out)) (fun w => []) := by
 unfold lineintersector_rParameter at hp
 refine fn_of Tryz.func114 rfl Tryz.ntmps114 rfl fun E hM => ?_
 refine cr fun K1 hK1 => ?_
 refine sa rfl ?_
 refine nk hK1 ?_
 refine cr fun K2 hK2 => ?_
 refine sa rfl ?_
 refine nk hK2 ?_
 refine cx_join' (fun (v1 : Nat) => (⟨60, [], [(7, (Vg v1))], []⟩ : St)) (fun (v1 : Nat) => lineintersector_rParameter_j1 k v1 = some out) ?_ ?_
 ·rintro x1 hp
  replace hp : lineintersector_rParameter_j1 k x1 = some out := hp
  unfold lineintersector_rParameter_j1 at hp
  refine cr fun K6 hK6 => ?_
  refine sm rfl ?_
  refine sa rfl ?_
  refine nk hK6 ?_
  refine cx_retc' ?_
  replace hp := sj hp
  subst hp
  refine tk (L' := [(6, (Vg x1))]) (H' := []) [] (uc rfl un) pn ?_
  exact tx_ret1' Tryz.results114 rfl () (rv_tmp' rfl) lr
 intro K3 hK3
 refine cx_seq' fun K4 hK4 => ?_
 refine cx_plan' [] [] [(0, 1), (1, 1), (2, 1), (3, 1), (4, 1), (5, 1), (6, 1), (8, 1), (9, 1), (10, 1), (11, 1), (12, 1), (13, 1), (14, 1), (7, 0), (15, 0), (16, 1), (17, 1)] mixed (by kernel_rfl) ?_
 refine pd rfl (rd_move' rfl) ?_
 obtain ⟨r11, hr11, hp⟩ := bind_some hp
 refine pd rfl (rd_at' (K := Kf) rfl rfl hr11 Tryz.underlying63 info22) ?_
 refine pd rfl (rd_load_pt' rfl rfl flat22) ?_
 refine pd rfl (rd_move' rfl) ?_
 obtain ⟨r14, hr14, hp⟩ := bind_some hp
 refine pd rfl (rd_at' (K := Kf) rfl rfl hr14 Tryz.underlying63 info22) ?_
 refine pd rfl (rd_load_pt' rfl rfl flat22) ?_
 obtain ⟨r16, hr16, hp⟩ := bind_some hp
 refine pd rfl (rd_bin' rfl rfl eg_flt (ru_fsub hr16)) ?_
 refine pd rfl (rd_move' rfl) ?_
 obtain ⟨r19, hr19, hp⟩ := bind_some hp
 refine pd rfl (rd_at' (K := Kf) rfl rfl hr19 Tryz.underlying63 info22) ?_
 refine pd rfl (rd_load_pt' rfl rfl flat22) ?_
 refine pd rfl (rd_move' rfl) ?_
 obtain ⟨r22, hr22, hp⟩ := bind_some hp
 refine pd rfl (rd_at' (K := Kf) rfl rfl hr22 Tryz.underlying63 info22) ?_
 refine pd rfl (rd_load_pt' rfl rfl flat22) ?_
 obtain ⟨r24, hr24, hp⟩ := bind_some hp
 refine pd rfl (rd_bin' rfl rfl eg_flt (ru_fsub hr24)) ?_
 obtain ⟨r17, hr17, hp⟩ := bind_some hp
 refine px_ox' rfl (oz (ent_fn' Tryz.func32 isn32 rfl rfl) (math_Abs_sim _ hr17)) rfl bs_nil (wt_none' rfl) fun ⟨⟩ => ?_
 obtain ⟨r25, hr25, hp⟩ := bind_some hp
 refine px_ox' rfl (oz (ent_fn' Tryz.func32 isn32 rfl rfl) (math_Abs_sim _ hr25)) rfl bs_nil (wt_none' rfl) fun ⟨⟩ => ?_
 iterate 2 refine pd rfl (rd_assign' rfl) ?_
 refine px_nil' ?_
 show TX E K4 _
 refine tx_k' hK4 ?_
 refine cr fun K5 hK5 => ?_
 iterate 2 refine sm rfl ?_
 refine sb rfl rfl eg_flt ru_fgt ?_
 refine nk hK5 ?_
 refine cx_cond' rfl (fun h1 => ?_) (fun h1 => ?_)
 ·replace hp := (br_t h1).symm.trans hp
  refine cx_draw' mixed (by kernel_rfl) ?_
  refine qd (rd_move' rfl) ?_
  obtain ⟨r30, hr30, hp⟩ := bind_some hp
  refine qd (rd_at' (K := Kf) rfl rfl hr30 Tryz.underlying63 info22) ?_
  refine qd (rd_load_pt' rfl rfl flat22) ?_
  refine qd (rd_move' rfl) ?_
  obtain ⟨r33, hr33, hp⟩ := bind_some hp
  refine qd (rd_at' (K := Kf) rfl rfl hr33 Tryz.underlying63 info22) ?_
  refine qd (rd_load_pt' rfl rfl flat22) ?_
  obtain ⟨r35, hr35, hp⟩ := bind_some hp
  refine qd (rd_bin' rfl rfl eg_flt (ru_fsub hr35)) ?_
  refine qd (rd_move' rfl) ?_
  obtain ⟨r37, hr37, hp⟩ := bind_some hp
  refine qd (rd_at' (K := Kf) rfl rfl hr37 Tryz.underlying63 info22) ?_
  refine qd (rd_load_pt' rfl rfl flat22) ?_
  refine qd (rd_move' rfl) ?_
  obtain ⟨r40, hr40, hp⟩ := bind_some hp
  refine qd (rd_at' (K := Kf) rfl rfl hr40 Tryz.underlying63 info22) ?_
  refine qd (rd_load_pt' rfl rfl flat22) ?_
  obtain ⟨r42, hr42, hp⟩ := bind_some hp
  refine qd (rd_bin' rfl rfl eg_flt (ru_fsub hr42)) ?_
  obtain ⟨r43, hr43, hp⟩ := bind_some hp
  refine qd (rd_bin' rfl rfl eg_flt (ru_fdiv hr43)) ?_
  refine qd (rd_assign' rfl) ?_
  refine qx_nil' ?_
  show TX E K3 _
  exact tk [] (uc rfl un) pn (hK3 r43 hp)
 replace hp := (br_f h1).symm.trans hp
 refine cx_draw' mixed (by kernel_rfl) ?_
 refine qd (rd_move' rfl) ?_
 obtain ⟨r45, hr45, hp⟩ := bind_some hp
 refine qd (rd_at' (K := Kf) rfl rfl hr45 Tryz.underlying63 info22) ?_
 refine qd (rd_load_pt' rfl rfl flat22) ?_
 refine qd (rd_move' rfl) ?_
 obtain ⟨r48, hr48, hp⟩ := bind_some hp
 refine qd (rd_at' (K := Kf) rfl rfl hr48 Tryz.underlying63 info22) ?_
 refine qd (rd_load_pt' rfl rfl flat22) ?_
 obtain ⟨r50, hr50, hp⟩ := bind_some hp
 refine qd (rd_bin' rfl rfl eg_flt (ru_fsub hr50)) ?_
 refine qd (rd_move' rfl) ?_
 obtain ⟨r52, hr52, hp⟩ := bind_some hp
 refine qd (rd_at' (K := Kf) rfl rfl hr52 Tryz.underlying63 info22) ?_
 refine qd (rd_load_pt' rfl rfl flat22) ?_
 refine qd (rd_move' rfl) ?_
 obtain ⟨r55, hr55, hp⟩ := bind_some hp
 refine qd (rd_at' (K := Kf) rfl rfl hr55 Tryz.underlying63 info22) ?_
 refine qd (rd_load_pt' rfl rfl flat22) ?_
 obtain ⟨r57, hr57, hp⟩ := bind_some hp
 refine qd (rd_bin' rfl rfl eg_flt (ru_fsub hr57)) ?_
 obtain ⟨r58, hr58, hp⟩ := bind_some hp
 refine qd (rd_bin' rfl rfl eg_flt (ru_fdiv hr58)) ?_
 refine qd (rd_assign' rfl) ?_
 refine qx_nil' ?_
 show TX E K3 _
 exact tk [] (uc rfl un) pn (hK3 r58 hp)

def lineintersector_NonRobustLineIntersector_computeCollinearIntersection_j4 (k : Nat) (a1_0 a1_1 : List Nat) (a1_2 a1_3 x6 : List Nat) (a1_7 : Bool) (x7 : List Nat) : Option ((List Nat) × (List Nat) × (List Nat) × (List Nat) × (List Nat) × (List Nat) × Int × Bool) :=
 some (a1_0, a1_1, a1_2, a1_3, x6, x7, 2, a1_7)
def lineintersector_NonRobustLineIntersector_computeCollinearIntersection_j3 (k x4 : Nat) (a1_0 a1_1 : List Nat) (a1_2 a1_3 : List Nat) (a1_7 : Bool) (a1_5 a3 : List Nat) (x2 x6 : List Nat) : Option ((List Nat) × (List Nat) × (List Nat) × (List Nat) × (List Nat) × (List Nat) × Int × Bool) :=
 br (flt x4 4607182418800017408)
  (lineintersector_NonRobustLineIntersector_computeCollinearIntersection_j4 k a1_0 a1_1 a1_2 a1_3 x6 a1_7 (cpy (cpy a1_5 a3) x2))
  (lineintersector_NonRobustLineIntersector_computeCollinearIntersection_j4 k a1_0 a1_1 a1_2 a1_3 x6 a1_7 (cpy a1_5 a3))
def lineintersector_NonRobustLineIntersector_computeCollinearIntersection_j2 (k : Nat) (a1_0 a1_1 : List Nat) (a1_2 a1_3 : List Nat) (a1_4 a1_5 : List Nat) (a1_7 : Bool) (x3 x4 : Nat) (a3 x2 : List Nat) (a2 x1 : List Nat) (x5 : Bool) : Option ((List Nat) × (List Nat) × (List Nat) × (List Nat) × (List Nat) × (List Nat) × Int × Bool) :=
 br x5
  (some (a1_0, a1_1, a1_2, a1_3, a1_4, a1_5, 0, a1_7))
  (br (fgt x3 0)
   (lineintersector_NonRobustLineIntersector_computeCollinearIntersection_j3 k x4 a1_0 a1_1 a1_2 a1_3 a1_7 a1_5 a3 x2 (cpy (cpy a1_4 a2) x1))
   (lineintersector_NonRobustLineIntersector_computeCollinearIntersection_j3 k x4 a1_0 a1_1 a1_2 a1_3 a1_7 a1_5 a3 x2 (cpy a1_4 a2)))
def lineintersector_NonRobustLineIntersector_computeCollinearIntersection_j1 (k : Nat) (a1_0 a1_1 : List Nat) (a1_2 a1_3 : List Nat) (a1_4 a1_5 : List Nat) (a1_7 : Bool) (a3 a2 : List Nat) (x1 x2 : List Nat) (x3 x4 : Nat) : Option ((List Nat) × (List Nat) × (List Nat) × (List Nat) × (List Nat) × (List Nat) × Int × Bool) :=
 br (fgt x3 4607182418800017408)
  (lineintersector_NonRobustLineIntersector_computeCollinearIntersection_j2 k a1_0 a1_1 a1_2 a1_3 a1_4 a1_5 a1_7 x3 x4 a3 x2 a2 x1 true)
  (lineintersector_NonRobustLineIntersector_computeCollinearIntersection_j2 k a1_0 a1_1 a1_2 a1_3 a1_4 a1_5 a1_7 x3 x4 a3 x2 a2 x1 (flt x4 0))
def lineintersector_NonRobustLineIntersector_computeCollinearIntersection (k : Nat) (a1_0 a1_1 : List Nat) (a1_2 a1_3 : List Nat) (a1_4 a1_5 : List Nat) (a1_6 : Int) (a1_7 : Bool) (a2 a3 : List Nat) (a4 a5 : List Nat) : Option ((List Nat) × (List Nat) × (List Nat) × (List Nat) × (List Nat) × (List Nat) × Int × Bool) :=
 (lineintersector_rParameter k a2 a3 a4) >>= fun r23 =>
 (lineintersector_rParameter k a2 a3 a5) >>= fun r27 =>
 br (flt r23 r27)
  (lineintersector_NonRobustLineIntersector_computeCollinearIntersection_j1 k a1_0 a1_1 a1_2 a1_3 a1_4 a1_5 a1_7 a3 a2 a4 a5 r23 r27)
  (lineintersector_NonRobustLineIntersector_computeCollinearIntersection_j1 k a1_0 a1_1 a1_2 a1_3 a1_4 a1_5 a1_7 a3 a2 a5 a4 r27 r23)

theorem lineintersector_NonRobustLineIntersector_computeCollinearIntersection_sim {k : Nat} {wa1 : Addr} {wa1_4 wa1_5 : Gs} (a1_0 a1_1 : List Nat) (a1_2 a1_3 : List Nat) (a1_4 a1_5 : List Nat) (a1_6 : Int) (a1_7 : Bool) (a2 a3 : List Nat) (a4 a5 : List Nat) {out : (List Nat) × (List Nat) × (List Nat) × (List Nat) × (List Nat) × (List Nat) × Int × Bool} (hp : lineintersector_NonRobustLineIntersector_computeCollinearIntersection k a1_0 a1_1 a1_2 a1_3 a1_4 a1_5 a1_6 a1_7 a2 a3 a4 a5 = some out) : Sx.Fn Tryz.prog 112 [(Ag []), (Vp wa1), (Sl Kf a2), (Sl Kf a3), (Sl Kf a4), (Sl Kf a5)] [(Ur wa1 83 [(Sl Kf a1_0), (Sl Kf a1_1), (Sl Kf a1_2), (Sl Kf a1_3), (Vw wa1_4), (Vw wa1_5), (Vi a1_6), (Vb a1_7), (Vw wa1_4), (Vw wa1_5), (If 88 (Ag []))]), (Rg Kf 22 wa1_4 a1_4), (Rg Kf 22 wa1_5 a1_5)] (fun w : Unit => (Vl (.tuple #[]))) (fun w => [(Ur wa1 83 [(Sl Kf out.1), (Sl Kf out.2.1), (Sl Kf out.2.2.1), (Sl Kf out.2.2.2.1), (Vw wa1_4), (Vw wa1_5), (Vi out.2.2.2.2.2.2.1), (Vb out.2.2.2.2.2.2.2), (Vw wa1_4), (Vw wa1_5), (If 88 (Ag []))]), (Rg Kf 22 wa1_4 out.2.2.2.2.1), (Rg Kf 22 wa1_5 out.2.2.2.2.2.1)]) := by
 unfold lineintersector_NonRobustLineIntersector_computeCollinearIntersection at hp
 refine fn_of Tryz.func112 rfl Tryz.ntmps112 rfl fun E hM => ?_
 refine cr fun K1 hK1 => ?_
 refine so (ox_box' rfl (lv_ag _) rfl rfl) fun q6 => ?_
 refine so (ox_box' rfl (lv_sl _ _) rfl rfl) fun q8 => ?_
 refine so (ox_box' rfl (lv_sl _ _) rfl rfl) fun q9 => ?_
 refine nk hK1 ?_
 refine cr fun K2 hK2 => ?_
 refine so (ox_alloc' info63 rfl rfl rfl rfl (l := [Vn]) rfl) fun q12 => ?_
 refine so (ox_alloc' info63 rfl rfl rfl rfl (l := [Vn]) rfl) fun q13 => ?_
 refine nk hK2 ?_
 refine cr fun K3 hK3 => ?_
 iterate 2 refine sa rfl ?_
 refine nk hK3 ?_
 refine cr fun K4 hK4 => ?_
 refine sa rfl ?_
 refine nk hK4 ?_
 refine cr fun K5 hK5 => ?_
 refine sa rfl ?_
 refine nk hK5 ?_
 refine cr fun K6 hK6 => ?_
 refine sl (i := 3) (o := 0) rfl (ar rfl rfl rfl rfl) rfl flat63 ?_
 refine sl (i := 2) (o := 0) rfl (ar rfl rfl rfl rfl) rfl flat63 ?_
 refine sm rfl ?_
 obtain ⟨r23, hr23, hp⟩ := bind_some hp
 refine so (oz (ent_fn' Tryz.func114 isn114 rfl rfl) (lineintersector_rParameter_sim _ _ _ hr23)) fun ⟨⟩ => ?_
 refine sa rfl ?_
 refine nk hK6 ?_
 refine cr fun K7 hK7 => ?_
 refine sl (i := 3) (o := 0) rfl (ar rfl rfl rfl rfl) rfl flat63 ?_
 refine sl (i := 2) (o := 0) rfl (ar rfl rfl rfl rfl) rfl flat63 ?_
 refine sm rfl ?_
 obtain ⟨r27, hr27, hp⟩ := bind_some hp
 refine so (oz (ent_fn' Tryz.func114 isn114 rfl rfl) (lineintersector_rParameter_sim _ _ _ hr27)) fun ⟨⟩ => ?_
 refine sa rfl ?_
 refine nk hK7 ?_
 refine cx_join' (fun (v1 : (List Nat) × (List Nat) × Nat × Nat) => (⟨106, [], [(1, (Vp wa1)), (8, (Vp q8)), (9, (Vp q9)), (12, (Vp q12)), (13, (Vp q13)), (14, (Vg v1.2.2.1)), (15, (Vg v1.2.2.2)), (16, (Vg 0)), (17, (Vg 4607182418800017408))], [(Ur wa1 83 [(Sl Kf a1_0), (Sl Kf a1_1), (Sl Kf a1_2), (Sl Kf a1_3), (Vw wa1_4), (Vw wa1_5), (Vi a1_6), (Vb a1_7), (Vw wa1_4), (Vw wa1_5), (If 88 (Ag []))]), (Rg Kf 22 wa1_4 a1_4), (Rg Kf 22 wa1_5 a1_5), (Ur q8 63 [(Sl Kf a2)]), (Ur q9 63 [(Sl Kf a3)]), (Ur q12 63 [(Sl Kf v1.1)]), (Ur q13 63 [(Sl Kf v1.2.1)])]⟩ : St)) (fun (v1 : (List Nat) × (List Nat) × Nat × Nat) => lineintersector_NonRobustLineIntersector_computeCollinearIntersection_j1 k a1_0 a1_1 a1_2 a1_3 a1_4 a1_5 a1_7 a3 a2 v1.1 v1.2.1 v1.2.2.1 v1.2.2.2 = some out) ?_ ?_
 ·rintro ⟨x1, x2, x3, x4⟩ hp
  replace hp : lineintersector_NonRobustLineIntersector_computeCollinearIntersection_j1 k a1_0 a1_1 a1_2 a1_3 a1_4 a1_5 a1_7 a3 a2 x1 x2 x3 x4 = some out := hp
  unfold lineintersector_NonRobustLineIntersector_computeCollinearIntersection_j1 at hp
  refine cx_block' ?_
  refine cr fun K16 hK16 => ?_
  iterate 2 refine sm rfl ?_
  refine sb rfl rfl eg_flt ru_fgt ?_
  refine sm rfl ?_
  refine sx_cutn' 4 (fun (v2 : Bool) => (⟨106, [], [(1, (Vp wa1)), (8, (Vp q8)), (9, (Vp q9)), (12, (Vp q12)), (13, (Vp q13)), (14, (Vg x3)), (15, (Vg x4)), (16, (Vg 0)), (17, (Vg 4607182418800017408)), (80, (Vb v2))], [(Ur wa1 83 [(Sl Kf a1_0), (Sl Kf a1_1), (Sl Kf a1_2), (Sl Kf a1_3), (Vw wa1_4), (Vw wa1_5), (Vi a1_6), (Vb a1_7), (Vw wa1_4), (Vw wa1_5), (If 88 (Ag []))]), (Rg Kf 22 wa1_4 a1_4), (Rg Kf 22 wa1_5 a1_5), (Ur q8 63 [(Sl Kf a2)]), (Ur q9 63 [(Sl Kf a3)]), (Ur q12 63 [(Sl Kf x1)]), (Ur q13 63 [(Sl Kf x2)])]⟩ : St)) (fun (v2 : Bool) => lineintersector_NonRobustLineIntersector_computeCollinearIntersection_j2 k a1_0 a1_1 a1_2 a1_3 a1_4 a1_5 a1_7 x3 x4 a3 x2 a2 x1 v2 = some out) ?_ ?_
  ·rintro x5 hp
   replace hp : lineintersector_NonRobustLineIntersector_computeCollinearIntersection_j2 k a1_0 a1_1 a1_2 a1_3 a1_4 a1_5 a1_7 x3 x4 a3 x2 a2 x1 x5 = some out := hp
   unfold lineintersector_NonRobustLineIntersector_computeCollinearIntersection_j2 at hp
   refine sa rfl ?_
   refine nk hK16 ?_
   refine cx_cond' rfl (fun h3 => ?_) (fun h3 => ?_)
   ·replace hp := (br_t h3).symm.trans hp
    refine cx_region' ?_
    refine sm rfl ?_
    refine sn rfl ?_
    refine sg (off := 6) rfl Tryz.underlying83 rfl info54 rfl ?_
    refine so (ox_store' (i := 0) (o := 6) rfl rfl (lv_vl rfl rfl) (ar rfl rfl rfl rfl) rfl info54 rfl (H' := [(Ur wa1 83 [(Sl Kf a1_0), (Sl Kf a1_1), (Sl Kf a1_2), (Sl Kf a1_3), (Vw wa1_4), (Vw wa1_5), (Vi 0), (Vb a1_7), (Vw wa1_4), (Vw wa1_5), (If 88 (Ag []))]), (Rg Kf 22 wa1_4 a1_4), (Rg Kf 22 wa1_5 a1_5), (Ur q8 63 [(Sl Kf a2)]), (Ur q9 63 [(Sl Kf a3)]), (Ur q12 63 [(Sl Kf x1)]), (Ur q13 63 [(Sl Kf x2)])]) rfl) fun _ => ?_
    refine sx_nil' ?_
    replace hp := sj hp
    subst hp
    refine tk (L' := []) (H' := [(Ur wa1 83 [(Sl Kf a1_0), (Sl Kf a1_1), (Sl Kf a1_2), (Sl Kf a1_3), (Vw wa1_4), (Vw wa1_5), (Vi 0), (Vb a1_7), (Vw wa1_4), (Vw wa1_5), (If 88 (Ag []))]), (Rg Kf 22 wa1_4 a1_4), (Rg Kf 22 wa1_5 a1_5)]) [0, 1, 2] un (p3 rfl rfl rfl) ?_
    exact tx_end0' Tryz.results112 rfl () rfl lr
   replace hp := (br_f h3).symm.trans hp
   refine cr fun K18 hK18 => ?_
   refine s0 (rd_ptr_ne' (i := 6) (j := 3) rfl rfl (ar rfl rfl rfl rfl) (ar rfl rfl rfl rfl) rfl Tryz.underlying152 sz63) ?_
   refine sa rfl ?_
   refine nk hK18 ?_
   refine cx_cond_f' rfl rfl ?_
   refine cr fun K19 hK19 => ?_
   refine s0 (rd_ptr_ne' (i := 5) (j := 4) rfl rfl (ar rfl rfl rfl rfl) (ar rfl rfl rfl rfl) rfl Tryz.underlying152 sz63) ?_
   refine sa rfl ?_
   refine nk hK19 ?_
   refine cx_cond_f' rfl rfl ?_
   refine cx_seq' fun K20 hK20 => ?_
   refine cx_plan' [] [(5, 1)] [(0, 1), (1, 1), (2, 1), (3, 1), (4, 1), (5, 0)] mixed (by kernel_rfl) ?_
   refine pd rfl (rd_move' rfl) ?_
   refine pd rfl (rd_nilck' rfl) ?_
   refine pd rfl (rd_field' (off := 8) rfl Tryz.underlying83 rfl info63 rfl) ?_
   refine pd rfl (rd_load' (i := 0) (o := 8) rfl (ar rfl rfl rfl rfl) rfl flat63) ?_
   refine pd rfl (rd_load' (i := 3) (o := 0) rfl (ar rfl rfl rfl rfl) rfl flat63) ?_
   refine px_ox' rfl (ox_copy' (i := 1) rfl rfl rfl rfl rfl Tryz.underlying63 info22 rfl rfl (H' := [(Ur wa1 83 [(Sl Kf a1_0), (Sl Kf a1_1), (Sl Kf a1_2), (Sl Kf a1_3), (Vw wa1_4), (Vw wa1_5), (Vi a1_6), (Vb a1_7), (Vw wa1_4), (Vw wa1_5), (If 88 (Ag []))]), (Rg Kf 22 wa1_4 (cpy a1_4 a2)), (Rg Kf 22 wa1_5 a1_5), (Ur q8 63 [(Sl Kf a2)]), (Ur q9 63 [(Sl Kf a3)]), (Ur q12 63 [(Sl Kf x1)]), (Ur q13 63 [(Sl Kf x2)])]) rfl) rfl bs_nil (wt_none' rfl) fun _ => ?_
   refine px_nil' ?_
   show TX E K20 _
   refine tx_k' hK20 ?_
   refine cx_join' (fun (v3 : (List Nat)) => (⟨106, [], [(1, (Vp wa1)), (9, (Vp q9)), (13, (Vp q13)), (15, (Vg x4)), (17, (Vg 4607182418800017408))], [(Ur wa1 83 [(Sl Kf a1_0), (Sl Kf a1_1), (Sl Kf a1_2), (Sl Kf a1_3), (Vw wa1_4), (Vw wa1_5), (Vi a1_6), (Vb a1_7), (Vw wa1_4), (Vw wa1_5), (If 88 (Ag []))]), (Rg Kf 22 wa1_4 v3), (Rg Kf 22 wa1_5 a1_5), (Ur q9 63 [(Sl Kf a3)]), (Ur q13 63 [(Sl Kf x2)])]⟩ : St)) (fun (v3 : (List Nat)) => lineintersector_NonRobustLineIntersector_computeCollinearIntersection_j3 k x4 a1_0 a1_1 a1_2 a1_3 a1_7 a1_5 a3 x2 v3 = some out) ?_ ?_
   ·rintro x6 hp
    replace hp : lineintersector_NonRobustLineIntersector_computeCollinearIntersection_j3 k x4 a1_0 a1_1 a1_2 a1_3 a1_7 a1_5 a3 x2 x6 = some out := hp
    unfold lineintersector_NonRobustLineIntersector_computeCollinearIntersection_j3 at hp
    refine cx_seq' fun K23 hK23 => ?_
    refine cx_plan' [] [(5, 1)] [(0, 1), (1, 1), (2, 1), (3, 1), (4, 1), (5, 0)] mixed (by kernel_rfl) ?_
    refine pd rfl (rd_move' rfl) ?_
    refine pd rfl (rd_nilck' rfl) ?_
    refine pd rfl (rd_field' (off := 9) rfl Tryz.underlying83 rfl info63 rfl) ?_
    refine pd rfl (rd_load' (i := 0) (o := 9) rfl (ar rfl rfl rfl rfl) rfl flat63) ?_
    refine pd rfl (rd_load' (i := 3) (o := 0) rfl (ar rfl rfl rfl rfl) rfl flat63) ?_
    refine px_ox' rfl (ox_copy' (i := 2) rfl rfl rfl rfl rfl Tryz.underlying63 info22 rfl rfl (H' := [(Ur wa1 83 [(Sl Kf a1_0), (Sl Kf a1_1), (Sl Kf a1_2), (Sl Kf a1_3), (Vw wa1_4), (Vw wa1_5), (Vi a1_6), (Vb a1_7), (Vw wa1_4), (Vw wa1_5), (If 88 (Ag []))]), (Rg Kf 22 wa1_4 x6), (Rg Kf 22 wa1_5 (cpy a1_5 a3)), (Ur q9 63 [(Sl Kf a3)]), (Ur q13 63 [(Sl Kf x2)])]) rfl) rfl bs_nil (wt_none' rfl) fun _ => ?_
    refine px_nil' ?_
    show TX E K23 _
    refine tx_k' hK23 ?_
    refine cx_join' (fun (v4 : (List Nat)) => (⟨106, [], [(1, (Vp wa1))], [(Ur wa1 83 [(Sl Kf a1_0), (Sl Kf a1_1), (Sl Kf a1_2), (Sl Kf a1_3), (Vw wa1_4), (Vw wa1_5), (Vi a1_6), (Vb a1_7), (Vw wa1_4), (Vw wa1_5), (If 88 (Ag []))]), (Rg Kf 22 wa1_4 x6), (Rg Kf 22 wa1_5 v4)]⟩ : St)) (fun (v4 : (List Nat)) => lineintersector_NonRobustLineIntersector_computeCollinearIntersection_j4 k a1_0 a1_1 a1_2 a1_3 x6 a1_7 v4 = some out) ?_ ?_
    ·rintro x7 hp
     replace hp : lineintersector_NonRobustLineIntersector_computeCollinearIntersection_j4 k a1_0 a1_1 a1_2 a1_3 x6 a1_7 x7 = some out := hp
     unfold lineintersector_NonRobustLineIntersector_computeCollinearIntersection_j4 at hp
     refine cx_region' ?_
     refine sm rfl ?_
     refine sn rfl ?_
     refine sg (off := 6) rfl Tryz.underlying83 rfl info54 rfl ?_
     refine so (ox_store' (i := 0) (o := 6) rfl rfl (lv_vl rfl rfl) (ar rfl rfl rfl rfl) rfl info54 rfl (H' := [(Ur wa1 83 [(Sl Kf a1_0), (Sl Kf a1_1), (Sl Kf a1_2), (Sl Kf a1_3), (Vw wa1_4), (Vw wa1_5), (Vi 2), (Vb a1_7), (Vw wa1_4), (Vw wa1_5), (If 88 (Ag []))]), (Rg Kf 22 wa1_4 x6), (Rg Kf 22 wa1_5 x7)]) rfl) fun _ => ?_
     refine sx_nil' ?_
     replace hp := sj hp
     subst hp
     refine tk (L' := []) (H' := [(Ur wa1 83 [(Sl Kf a1_0), (Sl Kf a1_1), (Sl Kf a1_2), (Sl Kf a1_3), (Vw wa1_4), (Vw wa1_5), (Vi 2), (Vb a1_7), (Vw wa1_4), (Vw wa1_5), (If 88 (Ag []))]), (Rg Kf 22 wa1_4 x6), (Rg Kf 22 wa1_5 x7)]) [0, 1, 2] un (p3 rfl rfl rfl) ?_
     exact tx_end0' Tryz.results112 rfl () rfl lr
    intro K24 hK24
    refine cr fun K25 hK25 => ?_
    iterate 2 refine sm rfl ?_
    refine sb rfl rfl eg_flt ru_flt ?_
    refine nk hK25 ?_
    refine cx_cond' rfl (fun h5 => ?_) (fun h5 => ?_)
    ·replace hp := (br_t h5).symm.trans hp
     refine cx_plan' [] [(5, 1)] [(0, 1), (1, 1), (2, 1), (3, 1), (4, 1), (5, 0)] mixed (by kernel_rfl) ?_
     refine pd rfl (rd_move' rfl) ?_
     refine pd rfl (rd_nilck' rfl) ?_
     refine pd rfl (rd_field' (off := 9) rfl Tryz.underlying83 rfl info63 rfl) ?_
     refine pd rfl (rd_load' (i := 0) (o := 9) rfl (ar rfl rfl rfl rfl) rfl flat63) ?_
     refine pd rfl (rd_load' (i := 4) (o := 0) rfl (ar rfl rfl rfl rfl) rfl flat63) ?_
     refine px_ox' rfl (ox_copy' (i := 2) rfl rfl rfl rfl rfl Tryz.underlying63 info22 rfl rfl (H' := [(Ur wa1 83 [(Sl Kf a1_0), (Sl Kf a1_1), (Sl Kf a1_2), (Sl Kf a1_3), (Vw wa1_4), (Vw wa1_5), (Vi a1_6), (Vb a1_7), (Vw wa1_4), (Vw wa1_5), (If 88 (Ag []))]), (Rg Kf 22 wa1_4 x6), (Rg Kf 22 wa1_5 (cpy (cpy a1_5 a3) x2)), (Ur q9 63 [(Sl Kf a3)]), (Ur q13 63 [(Sl Kf x2)])]) rfl) rfl bs_nil (wt_none' rfl) fun _ => ?_
     refine px_nil' ?_
     show TX E K24 _
     exact tk [0,1,2] (uc rfl un) (p3 rfl rfl rfl) (hK24 (cpy (cpy a1_5 a3) x2) hp)
    replace hp := (br_f h5).symm.trans hp
    refine cx_skip' ?_
    show TX E K24 _
    exact tk [0,1,2] (uc rfl un) (p3 rfl rfl rfl) (hK24 (cpy a1_5 a3) hp)
   intro K21 hK21
   refine cr fun K22 hK22 => ?_
   iterate 2 refine sm rfl ?_
   refine sb rfl rfl eg_flt ru_fgt ?_
   refine nk hK22 ?_
   refine cx_cond' rfl (fun h4 => ?_) (fun h4 => ?_)
   ·replace hp := (br_t h4).symm.trans hp
    refine cx_plan' [] [(5, 1)] [(0, 1), (1, 1), (2, 1), (3, 1), (4, 1), (5, 0)] mixed (by kernel_rfl) ?_
    refine pd rfl (rd_move' rfl) ?_
    refine pd rfl (rd_nilck' rfl) ?_
    refine pd rfl (rd_field' (off := 8) rfl Tryz.underlying83 rfl info63 rfl) ?_
    refine pd rfl (rd_load' (i := 0) (o := 8) rfl (ar rfl rfl rfl rfl) rfl flat63) ?_
    refine pd rfl (rd_load' (i := 5) (o := 0) rfl (ar rfl rfl rfl rfl) rfl flat63) ?_
    refine px_ox' rfl (ox_copy' (i := 1) rfl rfl rfl rfl rfl Tryz.underlying63 info22 rfl rfl (H' := [(Ur wa1 83 [(Sl Kf a1_0), (Sl Kf a1_1), (Sl Kf a1_2), (Sl Kf a1_3), (Vw wa1_4), (Vw wa1_5), (Vi a1_6), (Vb a1_7), (Vw wa1_4), (Vw wa1_5), (If 88 (Ag []))]), (Rg Kf 22 wa1_4 (cpy (cpy a1_4 a2) x1)), (Rg Kf 22 wa1_5 a1_5), (Ur q8 63 [(Sl Kf a2)]), (Ur q9 63 [(Sl Kf a3)]), (Ur q12 63 [(Sl Kf x1)]), (Ur q13 63 [(Sl Kf x2)])]) rfl) rfl bs_nil (wt_none' rfl) fun _ => ?_
    refine px_nil' ?_
    show TX E K21 _
    exact tk [0,1,2,4,6] (u5 rfl rfl rfl rfl rfl) (p5 rfl rfl rfl rfl rfl) (hK21 (cpy (cpy a1_4 a2) x1) hp)
   replace hp := (br_f h4).symm.trans hp
   refine cx_skip' ?_
   show TX E K21 _
   exact tk [0,1,2,4,6] (u5 rfl rfl rfl rfl rfl) (p5 rfl rfl rfl rfl rfl) (hK21 (cpy a1_4 a2) hp)
  intro K17 hK17
  rcases br_cases hp with ⟨h2, hp⟩ | ⟨h2, hp⟩
  ·refine sx_skip' rfl rfl (wt_is' (wt_guard' rfl rfl rfl) (beq_tf h2)) ?_
   iterate 2 refine sx_skip' rfl rfl (wt_is' (wt_guard' rfl rfl rfl) (beq_tf h2)) ?_
   refine s0 (rd_pick_true' rfl h2 rfl) ?_
   refine sx_nil' ?_
   show TX E K17 _
   exact tk [0,1,2,3,4,5,6] (u10 rfl rfl rfl rfl rfl rfl rfl rfl rfl rfl) (p7 rfl rfl rfl rfl rfl rfl rfl) (hK17 true hp)
  iterate 2 refine sx_rd' (rd_move' rfl) rfl rfl (wt_is' (wt_guard' rfl rfl rfl) (beq_ff h2)) ?_
  refine sx_rd' (rd_bin' rfl rfl eg_flt ru_flt) rfl rfl (wt_is' (wt_guard' rfl rfl rfl) (beq_ff h2)) ?_
  refine s0 (rd_pick_false' rfl h2 rfl) ?_
  refine sx_nil' ?_
  show TX E K17 _
  exact tk [0,1,2,3,4,5,6] (u10 rfl rfl rfl rfl rfl rfl rfl rfl rfl rfl) (p7 rfl rfl rfl rfl rfl rfl rfl) (hK17 (flt x4 0) hp)
 intro K8 hK8
 refine cr fun K9 hK9 => ?_
 iterate 2 refine sm rfl ?_
 refine sb rfl rfl eg_flt ru_flt ?_
 refine nk hK9 ?_
 refine cx_cond' rfl (fun h1 => ?_) (fun h1 => ?_)
 ·replace hp := (br_t h1).symm.trans hp
  refine cr fun K10 hK10 => ?_
  refine sm rfl ?_
  refine so (ox_store' (i := 1) (o := 0) rfl rfl (lv_sl _ _) (ar rfl rfl rfl rfl) rfl info63 rfl (H' := [(Ur q13 63 [Vn]), (Ur q12 63 [(Sl Kf a4)]), (Ur q9 63 [(Sl Kf a3)]), (Ur q8 63 [(Sl Kf a2)]), (Ur q6 88 []), (Ur wa1 83 [(Sl Kf a1_0), (Sl Kf a1_1), (Sl Kf a1_2), (Sl Kf a1_3), (Vw wa1_4), (Vw wa1_5), (Vi a1_6), (Vb a1_7), (Vw wa1_4), (Vw wa1_5), (If 88 (Ag []))]), (Rg Kf 22 wa1_4 a1_4), (Rg Kf 22 wa1_5 a1_5)]) rfl) fun _ => ?_
  refine nk hK10 ?_
  refine cr fun K11 hK11 => ?_
  refine sm rfl ?_
  refine sa rfl ?_
  refine nk hK11 ?_
  refine cr fun K12 hK12 => ?_
  refine sm rfl ?_
  refine so (ox_store' (i := 0) (o := 0) rfl rfl (lv_sl _ _) (ar rfl rfl rfl rfl) rfl info63 rfl (H' := [(Ur q13 63 [(Sl Kf a5)]), (Ur q12 63 [(Sl Kf a4)]), (Ur q9 63 [(Sl Kf a3)]), (Ur q8 63 [(Sl Kf a2)]), (Ur q6 88 []), (Ur wa1 83 [(Sl Kf a1_0), (Sl Kf a1_1), (Sl Kf a1_2), (Sl Kf a1_3), (Vw wa1_4), (Vw wa1_5), (Vi a1_6), (Vb a1_7), (Vw wa1_4), (Vw wa1_5), (If 88 (Ag []))]), (Rg Kf 22 wa1_4 a1_4), (Rg Kf 22 wa1_5 a1_5)]) rfl) fun _ => ?_
  refine nk hK12 ?_
  refine cx_region' ?_
  refine sm rfl ?_
  refine sa rfl ?_
  refine sx_nil' ?_
  show TX E K8 _
  exact tk [5,6,7,3,2,1,0] (u9 rfl rfl rfl rfl rfl rfl rfl rfl rfl) (p7 rfl rfl rfl rfl rfl rfl rfl) (hK8 (a4, a5, r23, r27) hp)
 replace hp := (br_f h1).symm.trans hp
 refine cr fun K13 hK13 => ?_
 refine sm rfl ?_
 refine so (ox_store' (i := 1) (o := 0) rfl rfl (lv_sl _ _) (ar rfl rfl rfl rfl) rfl info63 rfl (H' := [(Ur q13 63 [Vn]), (Ur q12 63 [(Sl Kf a5)]), (Ur q9 63 [(Sl Kf a3)]), (Ur q8 63 [(Sl Kf a2)]), (Ur q6 88 []), (Ur wa1 83 [(Sl Kf a1_0), (Sl Kf a1_1), (Sl Kf a1_2), (Sl Kf a1_3), (Vw wa1_4), (Vw wa1_5), (Vi a1_6), (Vb a1_7), (Vw wa1_4), (Vw wa1_5), (If 88 (Ag []))]), (Rg Kf 22 wa1_4 a1_4), (Rg Kf 22 wa1_5 a1_5)]) rfl) fun _ => ?_
 refine nk hK13 ?_
 refine cr fun K14 hK14 => ?_
 refine sm rfl ?_
 refine sa rfl ?_
 refine nk hK14 ?_
 refine cr fun K15 hK15 => ?_
 refine sm rfl ?_
 refine so (ox_store' (i := 0) (o := 0) rfl rfl (lv_sl _ _) (ar rfl rfl rfl rfl) rfl info63 rfl (H' := [(Ur q13 63 [(Sl Kf a4)]), (Ur q12 63 [(Sl Kf a5)]), (Ur q9 63 [(Sl Kf a3)]), (Ur q8 63 [(Sl Kf a2)]), (Ur q6 88 []), (Ur wa1 83 [(Sl Kf a1_0), (Sl Kf a1_1), (Sl Kf a1_2), (Sl Kf a1_3), (Vw wa1_4), (Vw wa1_5), (Vi a1_6), (Vb a1_7), (Vw wa1_4), (Vw wa1_5), (If 88 (Ag []))]), (Rg Kf 22 wa1_4 a1_4), (Rg Kf 22 wa1_5 a1_5)]) rfl) fun _ => ?_
 refine nk hK15 ?_
 refine cx_region' ?_
 refine sm rfl ?_
 refine sa rfl ?_
 refine sx_nil' ?_
 show TX E K8 _
 exact tk [5,6,7,3,2,1,0] (u9 rfl rfl rfl rfl rfl rfl rfl rfl rfl) (p7 rfl rfl rfl rfl rfl rfl rfl) (hK8 (a5, a4, r27, r23) hp)

def gogeom_Layout_Stride (k : Nat) (a0 : Int) : Option (Int) :=
 br (decide (a0 = 0))
  (some 0)
  (br (decide (a0 = 1))
   (some 2)
   (br (decide (a0 = 2))
    (some 3)
    (br (decide (a0 = 3))
     (some 3)
     (br (decide (a0 = 4))
      (some 4)
      (some a0)))))

theorem gogeom_Layout_Stride_sim {k : Nat}  (a0 : Int) {out : Int} (hp : gogeom_Layout_Stride k a0 = some out) : Sx.Fn Tryz.prog 115 [(Vi a0)] [] (fun w : Unit => (Vi out)) (fun w => []) := by
 unfold gogeom_Layout_Stride at hp
 refine fn_of Tryz.func115 rfl Tryz.ntmps115 rfl fun E hM => ?_
 refine cr fun K1 hK1 => ?_
 refine sa rfl ?_
 refine nk hK1 ?_
 refine cr fun K2 hK2 => ?_
 refine sm rfl ?_
 refine nk hK2 ?_
 refine cx_block' ?_
 refine cr fun K3 hK3 => ?_
 refine sb rfl rfl eg_int ru_eql ?_
 refine sa rfl ?_
 refine nk hK3 ?_
 refine cx_cond' rfl (fun h1 => ?_) (fun h1 => ?_)
 ·replace hp := (br_t h1).symm.trans hp
  refine cr fun K4 hK4 => ?_
  refine sa rfl ?_
  refine nk hK4 ?_
  refine cx_retc' ?_
  replace hp := sj hp
  subst hp
  refine tk (L' := [(2, (Vi 0))]) (H' := []) [] (uc rfl un) pn ?_
  exact tx_ret1' Tryz.results115 rfl () (rv_tmp' rfl) lr
 replace hp := (br_f h1).symm.trans hp
 refine cr fun K5 hK5 => ?_
 refine sb rfl rfl eg_int ru_eql ?_
 refine sa rfl ?_
 refine nk hK5 ?_
 refine cx_cond' rfl (fun h2 => ?_) (fun h2 => ?_)
 ·replace hp := (br_t h2).symm.trans hp
  refine cr fun K6 hK6 => ?_
  refine sa rfl ?_
  refine nk hK6 ?_
  refine cx_retc' ?_
  replace hp := sj hp
  subst hp
  refine tk (L' := [(2, (Vi 2))]) (H' := []) [] (uc rfl un) pn ?_
  exact tx_ret1' Tryz.results115 rfl () (rv_tmp' rfl) lr
 replace hp := (br_f h2).symm.trans hp
 refine cr fun K7 hK7 => ?_
 refine sb rfl rfl eg_int ru_eql ?_
 refine sa rfl ?_
 refine nk hK7 ?_
 refine cx_cond' rfl (fun h3 => ?_) (fun h3 => ?_)
 ·replace hp := (br_t h3).symm.trans hp
  refine cr fun K8 hK8 => ?_
  refine sa rfl ?_
  refine nk hK8 ?_
  refine cx_retc' ?_
  replace hp := sj hp
  subst hp
  refine tk (L' := [(2, (Vi 3))]) (H' := []) [] (uc rfl un) pn ?_
  exact tx_ret1' Tryz.results115 rfl () (rv_tmp' rfl) lr
 replace hp := (br_f h3).symm.trans hp
 refine cr fun K9 hK9 => ?_
 refine sb rfl rfl eg_int ru_eql ?_
 refine sa rfl ?_
 refine nk hK9 ?_
 refine cx_cond' rfl (fun h4 => ?_) (fun h4 => ?_)
 ·replace hp := (br_t h4).symm.trans hp
  refine cr fun K10 hK10 => ?_
  refine sa rfl ?_
  refine nk hK10 ?_
  refine cx_retc' ?_
  replace hp := sj hp
  subst hp
  refine tk (L' := [(2, (Vi 3))]) (H' := []) [] (uc rfl un) pn ?_
  exact tx_ret1' Tryz.results115 rfl () (rv_tmp' rfl) lr
 replace hp := (br_f h4).symm.trans hp
 refine cr fun K11 hK11 => ?_
 refine sb rfl rfl eg_int ru_eql ?_
 refine sa rfl ?_
 refine nk hK11 ?_
 refine cx_cond' rfl (fun h5 => ?_) (fun h5 => ?_)
 ·replace hp := (br_t h5).symm.trans hp
  refine cr fun K12 hK12 => ?_
  refine sa rfl ?_
  refine nk hK12 ?_
  refine cx_retc' ?_
  replace hp := sj hp
  subst hp
  refine tk (L' := [(2, (Vi 4))]) (H' := []) [] (uc rfl un) pn ?_
  exact tx_ret1' Tryz.results115 rfl () (rv_tmp' rfl) lr
 replace hp := (br_f h5).symm.trans hp
 refine cr fun K13 hK13 => ?_
 refine sm rfl ?_
 refine sa rfl ?_
 refine nk hK13 ?_
 refine cx_retc' ?_
 replace hp := sj hp
 subst hp
 refine tk (L' := [(2, (Vi a0))]) (H' := []) [] (uc rfl un) pn ?_
 exact tx_ret1' Tryz.results115 rfl () (rv_tmp' rfl) lr

def math_IsNaN (k a0 : Nat) : Option (Bool) :=
 some (fne a0 a0)

theorem math_IsNaN_sim {k : Nat}  (a0 : Nat) {out : Bool} (hp : math_IsNaN k a0 = some out) : Sx.Fn Tryz.prog 99 [(Vg a0)] [] (fun w : Unit => (Vb out)) (fun w => []) := by
 unfold math_IsNaN at hp
 refine fn_of Tryz.func99 rfl Tryz.ntmps99 rfl fun E hM => ?_
 refine cr fun K1 hK1 => ?_
 refine sa rfl ?_
 refine nk hK1 ?_
 refine cr fun K2 hK2 => ?_
 iterate 2 refine sm rfl ?_
 refine sb rfl rfl eg_flt ru_fne ?_
 refine sa rfl ?_
 refine nk hK2 ?_
 refine cx_retc' ?_
 replace hp := sj hp
 subst hp
 refine tk (L' := [(2, (Vb (fne a0 a0)))]) (H' := []) [] (uc rfl un) pn ?_
 exact tx_ret1' Tryz.results99 rfl () (rv_tmp' rfl) lr

def gogeom_Coord_Equal_j8 (k : Nat) (rec1 : Int → Option (Unit ⊕ Unit)) (x7 : Int) : Option (Unit ⊕ Unit) :=
 rec1 (iadd .i64 x7 1)
def gogeom_Coord_Equal_j7 (k : Nat) (rec1 : Int → Option (Unit ⊕ Unit)) (x7 : Int) (x6 : Bool) : Option (Unit ⊕ Unit) :=
 br x6
  (some (.inl ()))
  (gogeom_Coord_Equal_j8 k rec1 x7)
def gogeom_Coord_Equal_j6 (k : Nat) (a0 : List Nat) (x7 : Int) (rec1 : Int → Option (Unit ⊕ Unit)) (a2 : List Nat) (x5 : Bool) : Option (Unit ⊕ Unit) :=
 br x5
  ((idx a0 x7) >>= fun r51 =>
  (math_IsNaN k r51) >>= fun r53 =>
  br (!r53)
   (gogeom_Coord_Equal_j7 k rec1 x7 true)
   ((idx a2 x7) >>= fun r58 =>
   (math_IsNaN k r58) >>= fun r60 =>
   gogeom_Coord_Equal_j7 k rec1 x7 (!r60)))
  ((idx a0 x7) >>= fun r65 =>
  (idx a2 x7) >>= fun r69 =>
  br (fne r65 r69)
   (some (.inl ()))
   (gogeom_Coord_Equal_j8 k rec1 x7))
def gogeom_Coord_Equal_l1s (r10 : Int) (a0 a2 : List Nat) (k : Nat) (rec1 : Int → Option (Unit ⊕ Unit)) (x7 : Int) : Option (Unit ⊕ Unit) :=
 br (decide (x7 < (imin r10 (a0.length : Int))))
  ((idx a0 x7) >>= fun r39 =>
  (math_IsNaN k r39) >>= fun r41 =>
  br r41
   (gogeom_Coord_Equal_j6 k a0 x7 rec1 a2 true)
   ((idx a2 x7) >>= fun r45 =>
   (math_IsNaN k r45) >>= fun r47 =>
   gogeom_Coord_Equal_j6 k a0 x7 rec1 a2 r47))
  (some (.inr ()))
def gogeom_Coord_Equal_l1 (r10 : Int) (a0 a2 : List Nat) : Nat → Int → Option (Unit ⊕ Unit)
 | 0, _ => none
 | k + 1, v => gogeom_Coord_Equal_l1s r10 a0 a2 k (gogeom_Coord_Equal_l1 r10 a0 a2 k) v
def gogeom_Coord_Equal_j2 (k : Nat) (r10 : Int) (a0 a2 : List Nat) (x2 : Bool) : Option (Bool) :=
 br x2
  (some false)
  ((gogeom_Coord_Equal_l1 r10 a0 a2 k 0) >>= fun y1 => match y1 with
   | (.inl v10) =>
    (some false)
   | (.inr v11) =>
    (some true))
def gogeom_Coord_Equal_j1 (k : Nat) (r10 : Int) (a0 a2 : List Nat) (x1 : Bool) : Option (Bool) :=
 br x1
  (gogeom_Coord_Equal_j2 k r10 a0 a2 (!decide ((a0.length : Int) = (a2.length : Int))))
  (gogeom_Coord_Equal_j2 k r10 a0 a2 false)
def gogeom_Coord_Equal (k : Nat) (a0 : List Nat) (a1 : Int) (a2 : List Nat) : Option (Bool) :=
 (gogeom_Layout_Stride k a1) >>= fun r10 =>
 (gogeom_Layout_Stride k a1) >>= fun r17 =>
 br (decide ((a0.length : Int) < r17))
  (gogeom_Coord_Equal_j1 k r10 a0 a2 true)
  ((gogeom_Layout_Stride k a1) >>= fun r23 =>
  gogeom_Coord_Equal_j1 k r10 a0 a2 (decide ((a2.length : Int) < r23)))

theorem gogeom_Coord_Equal_sim {k : Nat}  (a0 : List Nat) (a1 : Int) (a2 : List Nat) {out : Bool} (hp : gogeom_Coord_Equal k a0 a1 a2 = some out) : Sx.Fn Tryz.prog 113 [(Sl Kf a0), (Vi a1), (Sl Kf a2)] [] (fun w : Unit => (Vb out)) (fun w => []) := by
 unfold gogeom_Coord_Equal at hp
 refine fn_of Tryz.func113 rfl Tryz.ntmps113 rfl fun E hM => ?_
 refine cr fun K1 hK1 => ?_
 refine sa rfl ?_
 refine nk hK1 ?_
 refine cr fun K2 hK2 => ?_
 refine sm rfl ?_
 obtain ⟨r10, hr10, hp⟩ := bind_some hp
 refine so (oz (ent_fn' Tryz.func115 isn115 rfl rfl) (gogeom_Layout_Stride_sim _ hr10)) fun ⟨⟩ => ?_
 refine sm rfl ?_
 refine sk rfl Tryz.underlying63 ?_
 refine s0 (rd_imin' rfl rfl) ?_
 refine sa rfl ?_
 refine nk hK2 ?_
 refine cx_seq' fun K3 hK3 => ?_
 refine cr fun K4 hK4 => ?_
 refine sm rfl ?_
 refine sk rfl Tryz.underlying63 ?_
 refine sm rfl ?_
 obtain ⟨r17, hr17, hp⟩ := bind_some hp
 refine so (oz (ent_fn' Tryz.func115 isn115 rfl rfl) (gogeom_Layout_Stride_sim _ hr17)) fun ⟨⟩ => ?_
 refine sb rfl rfl eg_int ru_lss ?_
 refine sm rfl ?_
 refine sx_cutn' 6 (fun (v1 : Bool) => (⟨73, [], [(0, (Sl Kf a0)), (2, (Sl Kf a2)), (7, (Vi (imin r10 (a0.length : Int)))), (25, (Vb v1))], []⟩ : St)) (fun (v1 : Bool) => gogeom_Coord_Equal_j1 k r10 a0 a2 v1 = some out) ?_ ?_
 ·rintro x1 hp
  replace hp : gogeom_Coord_Equal_j1 k r10 a0 a2 x1 = some out := hp
  unfold gogeom_Coord_Equal_j1 at hp
  refine sm rfl ?_
  refine sx_cutn' 6 (fun (v2 : Bool) => (⟨73, [], [(0, (Sl Kf a0)), (2, (Sl Kf a2)), (7, (Vi (imin r10 (a0.length : Int)))), (32, (Vb v2))], []⟩ : St)) (fun (v2 : Bool) => gogeom_Coord_Equal_j2 k r10 a0 a2 v2 = some out) ?_ ?_
  ·rintro x2 hp
   replace hp : gogeom_Coord_Equal_j2 k r10 a0 a2 x2 = some out := hp
   unfold gogeom_Coord_Equal_j2 at hp
   refine nk hK4 ?_
   refine cx_cond' rfl (fun h3 => ?_) (fun h3 => ?_)
   ·replace hp := (br_t h3).symm.trans hp
    refine cr fun K7 hK7 => ?_
    refine sa rfl ?_
    refine nk hK7 ?_
    refine cx_retc' ?_
    replace hp := sj hp
    subst hp
    refine tk (L' := [(6, (Vb false))]) (H' := []) [] (uc rfl un) pn ?_
    exact tx_ret1' Tryz.results113 rfl () (rv_tmp' rfl) lr
   replace hp := (br_f h3).symm.trans hp
   refine cx_skip' ?_
   show TX E K3 _
   refine tx_k' hK3 ?_
   refine cx_seq' fun K8 hK8 => ?_
   refine cr fun K9 hK9 => ?_
   iterate 2 refine sm rfl ?_
   refine nk hK9 ?_
   refine cx_block' ?_
   obtain ⟨y1, hy1, hp⟩ := bind_some hp
   refine cx_loopg' (F := gogeom_Coord_Equal_l1 r10 a0 a2) (G := fun k R v => gogeom_Coord_Equal_l1s r10 a0 a2 k R v) (x := 0) (gh := ()) (fun (v6 : Int) (w6 : Unit) => (⟨73, [], [(0, (Sl Kf a0)), (2, (Sl Kf a2)), (33, (Vi (imin r10 (a0.length : Int)))), (34, (Vi v6))], []⟩ : St)) (fun (y : Unit ⊕ Unit) => match y with | (.inl v10) => Zg E Exit.ret (fun (w10 : Unit) => (⟨73, [], [(6, (Vb false))], []⟩ : St)) | (.inr v11) => Zg E (Exit.exit 0) (fun (w11 : Unit) => (⟨73, [], [], []⟩ : St))) (fun _ => rfl) (fun _ _ => rfl) ?_ hy1 (tx_to' rfl [] (u4 rfl rfl rfl rfl) (by decide) pn) ?_
   ·clear hp hy1
    clear y1
    intro k rec1 KY1 ih1
    rintro x7 ⟨⟩ y1 hp
    replace hp : gogeom_Coord_Equal_l1s r10 a0 a2 k rec1 x7 = some y1 := hp
    unfold gogeom_Coord_Equal_l1s at hp
    refine cr fun K21 hK21 => ?_
    refine sb rfl rfl eg_int ru_lss ?_
    refine nk hK21 ?_
    refine cx_seq' fun K22 hK22 => ?_
    refine cx_cond' rfl (fun h11 => ?_) (fun h11 => ?_)
    ·replace hp := (br_t h11).symm.trans hp
     refine cx_skip' ?_
     show TX E K22 _
     refine tx_k' hK22 ?_
     refine cx_join' (fun (v9 : Unit) => (⟨73, [], [(0, (Sl Kf a0)), (2, (Sl Kf a2)), (33, (Vi (imin r10 (a0.length : Int)))), (34, (Vi x7))], []⟩ : St)) (fun (v9 : Unit) => gogeom_Coord_Equal_j8 k rec1 x7 = some y1) ?_ ?_
     ·rintro ⟨⟩ hp
      replace hp : gogeom_Coord_Equal_j8 k rec1 x7 = some y1 := hp
      unfold gogeom_Coord_Equal_j8 at hp
      refine cx_region' ?_
      refine sb rfl rfl eg_int ru_add ?_
      refine sm rfl ?_
      refine sx_nil' ?_
      show TX E (KY1 _) _
      exact tk [] (u4 rfl rfl rfl rfl) pn (ih1 (iadd .i64 x7 1) () _ hp)
     intro K23 hK23
     refine cx_block' ?_
     refine cr fun K24 hK24 => ?_
     refine sm rfl ?_
     refine sa rfl ?_
     refine nk hK24 ?_
     refine cr fun K25 hK25 => ?_
     iterate 2 refine sm rfl ?_
     obtain ⟨r39, hr39, hp⟩ := bind_some hp
     refine s0 (rd_at' (K := Kf) rfl rfl hr39 Tryz.underlying63 info22) ?_
     refine s0 (rd_load_pt' rfl rfl flat22) ?_
     obtain ⟨r41, hr41, hp⟩ := bind_some hp
     refine so (oz (ent_fn' Tryz.func99 isn99 rfl rfl) (math_IsNaN_sim _ hr41)) fun ⟨⟩ => ?_
     refine sm rfl ?_
     refine sx_cutn' 6 (fun (v7 : Bool) => (⟨73, [], [(0, (Sl Kf a0)), (2, (Sl Kf a2)), (8, (Vi x7)), (33, (Vi (imin r10 (a0.length : Int)))), (34, (Vi x7)), (48, (Vb v7))], []⟩ : St)) (fun (v7 : Bool) => gogeom_Coord_Equal_j6 k a0 x7 rec1 a2 v7 = some y1) ?_ ?_
     ·rintro x5 hp
      replace hp : gogeom_Coord_Equal_j6 k a0 x7 rec1 a2 x5 = some y1 := hp
      unfold gogeom_Coord_Equal_j6 at hp
      refine nk hK25 ?_
      refine cx_cond' rfl (fun h13 => ?_) (fun h13 => ?_)
      ·replace hp := (br_t h13).symm.trans hp
       refine cr fun K27 hK27 => ?_
       iterate 2 refine sm rfl ?_
       obtain ⟨r51, hr51, hp⟩ := bind_some hp
       refine s0 (rd_at' (K := Kf) rfl rfl hr51 Tryz.underlying63 info22) ?_
       refine s0 (rd_load_pt' rfl rfl flat22) ?_
       obtain ⟨r53, hr53, hp⟩ := bind_some hp
       refine so (oz (ent_fn' Tryz.func99 isn99 rfl rfl) (math_IsNaN_sim _ hr53)) fun ⟨⟩ => ?_
       refine s0 (rd_un' rfl ru_not) ?_
       refine sm rfl ?_
       refine sx_cutn' 7 (fun (v8 : Bool) => (⟨73, [], [(0, (Sl Kf a0)), (2, (Sl Kf a2)), (33, (Vi (imin r10 (a0.length : Int)))), (34, (Vi x7)), (62, (Vb v8))], []⟩ : St)) (fun (v8 : Bool) => gogeom_Coord_Equal_j7 k rec1 x7 v8 = some y1) ?_ ?_
       ·rintro x6 hp
        replace hp : gogeom_Coord_Equal_j7 k rec1 x7 x6 = some y1 := hp
        unfold gogeom_Coord_Equal_j7 at hp
        refine nk hK27 ?_
        refine cx_cond' rfl (fun h15 => ?_) (fun h15 => ?_)
        ·replace hp := (br_t h15).symm.trans hp
         refine cr fun K29 hK29 => ?_
         refine sa rfl ?_
         refine nk hK29 ?_
         refine cx_retc' ?_
         replace hp := sj hp
         subst hp
         show TX E (Zg E Exit.ret _ Exit.ret) _
         exact tx_zend' () rfl [] (uc rfl un) (by decide) pn
        replace hp := (br_f h15).symm.trans hp
        refine cx_skip' ?_
        show TX E K23 _
        exact tk [] (u4 rfl rfl rfl rfl) pn (hK23 () hp)
       intro K28 hK28
       rcases br_cases hp with ⟨h14, hp⟩ | ⟨h14, hp⟩
       ·refine sx_skip' rfl rfl (wt_is' (wt_guard' rfl rfl rfl) (beq_tf h14)) ?_
        iterate 5 refine sx_skip' rfl rfl (wt_is' (wt_guard' rfl rfl rfl) (beq_tf h14)) ?_
        refine s0 (rd_pick_true' rfl h14 rfl) ?_
        refine sx_nil' ?_
        show TX E K28 _
        exact tk [] (u5 rfl rfl rfl rfl rfl) pn (hK28 true hp)
       iterate 2 refine sx_rd' (rd_move' rfl) rfl rfl (wt_is' (wt_guard' rfl rfl rfl) (beq_ff h14)) ?_
       obtain ⟨r58, hr58, hp⟩ := bind_some hp
       refine sx_rd' (rd_at' (K := Kf) rfl rfl hr58 Tryz.underlying63 info22) rfl rfl (wt_is' (wt_guard' rfl rfl rfl) (beq_ff h14)) ?_
       refine sx_rd' (rd_load_pt' rfl rfl flat22) rfl rfl (wt_is' (wt_guard' rfl rfl rfl) (beq_ff h14)) ?_
       obtain ⟨r60, hr60, hp⟩ := bind_some hp
       refine sx_ox' (oz (ent_fn' Tryz.func99 isn99 rfl rfl) (math_IsNaN_sim _ hr60)) (wt_is' (wt_guard' rfl rfl rfl) (beq_ff h14)) fun ⟨⟩ => ?_
       refine sx_rd' (rd_un' rfl ru_not) rfl rfl (wt_is' (wt_guard' rfl rfl rfl) (beq_ff h14)) ?_
       refine s0 (rd_pick_false' rfl h14 rfl) ?_
       refine sx_nil' ?_
       show TX E K28 _
       exact tk [] (u5 rfl rfl rfl rfl rfl) pn (hK28 (!r60) hp)
      replace hp := (br_f h13).symm.trans hp
      refine cx_seq' fun K30 hK30 => ?_
      refine cx_draw' mixed (by kernel_rfl) ?_
      iterate 2 refine qd (rd_move' rfl) ?_
      obtain ⟨r65, hr65, hp⟩ := bind_some hp
      refine qd (rd_at' (K := Kf) rfl rfl hr65 Tryz.underlying63 info22) ?_
      refine qd (rd_load_pt' rfl rfl flat22) ?_
      iterate 2 refine qd (rd_move' rfl) ?_
      obtain ⟨r69, hr69, hp⟩ := bind_some hp
      refine qd (rd_at' (K := Kf) rfl rfl hr69 Tryz.underlying63 info22) ?_
      refine qd (rd_load_pt' rfl rfl flat22) ?_
      refine qd (rd_bin' rfl rfl eg_flt ru_fne) ?_
      refine qx_nil' ?_
      show TX E K30 _
      refine tx_k' hK30 ?_
      refine cx_cond' rfl (fun h16 => ?_) (fun h16 => ?_)
      ·replace hp := (br_t h16).symm.trans hp
       refine cr fun K31 hK31 => ?_
       refine sa rfl ?_
       refine nk hK31 ?_
       refine cx_retc' ?_
       replace hp := sj hp
       subst hp
       show TX E (Zg E Exit.ret _ Exit.ret) _
       exact tx_zend' () rfl [] (uc rfl un) (by decide) pn
      replace hp := (br_f h16).symm.trans hp
      refine cx_skip' ?_
      show TX E K23 _
      exact tk [] (u4 rfl rfl rfl rfl) pn (hK23 () hp)
     intro K26 hK26
     rcases br_cases hp with ⟨h12, hp⟩ | ⟨h12, hp⟩
     ·refine sx_skip' rfl rfl (wt_is' (wt_guard' rfl rfl rfl) (beq_tf h12)) ?_
      iterate 4 refine sx_skip' rfl rfl (wt_is' (wt_guard' rfl rfl rfl) (beq_tf h12)) ?_
      refine s0 (rd_pick_true' rfl h12 rfl) ?_
      refine sx_nil' ?_
      show TX E K26 _
      exact tk [] (u6 rfl rfl rfl rfl rfl rfl) pn (hK26 true hp)
     iterate 2 refine sx_rd' (rd_move' rfl) rfl rfl (wt_is' (wt_guard' rfl rfl rfl) (beq_ff h12)) ?_
     obtain ⟨r45, hr45, hp⟩ := bind_some hp
     refine sx_rd' (rd_at' (K := Kf) rfl rfl hr45 Tryz.underlying63 info22) rfl rfl (wt_is' (wt_guard' rfl rfl rfl) (beq_ff h12)) ?_
     refine sx_rd' (rd_load_pt' rfl rfl flat22) rfl rfl (wt_is' (wt_guard' rfl rfl rfl) (beq_ff h12)) ?_
     obtain ⟨r47, hr47, hp⟩ := bind_some hp
     refine sx_ox' (oz (ent_fn' Tryz.func99 isn99 rfl rfl) (math_IsNaN_sim _ hr47)) (wt_is' (wt_guard' rfl rfl rfl) (beq_ff h12)) fun ⟨⟩ => ?_
     refine s0 (rd_pick_false' rfl h12 rfl) ?_
     refine sx_nil' ?_
     show TX E K26 _
     exact tk [] (u6 rfl rfl rfl rfl rfl rfl) pn (hK26 r47 hp)
    replace hp := (br_f h11).symm.trans hp
    refine cx_exit' ?_
    replace hp := sj hp
    subst hp
    show TX E (Zg E (Exit.exit 0) _ (Exit.exit 0)) _
    exact tx_zend' () rfl [] un (by decide) pn
   rcases y1 with v10 | v11
   ·dsimp only at hp
    refine zg_out fun w10 => ?_
    replace hp := sj hp
    subst hp
    refine tk (L' := [(6, (Vb false))]) (H' := []) [] (uc rfl un) pn ?_
    exact tx_ret1' Tryz.results113 rfl () (rv_tmp' rfl) lr
   dsimp only at hp
   refine zg_out fun w11 => ?_
   show TX E K8 _
   refine tx_k' hK8 ?_
   refine cr fun K32 hK32 => ?_
   refine sa rfl ?_
   refine nk hK32 ?_
   refine cx_retc' ?_
   replace hp := sj hp
   subst hp
   refine tk (L' := [(6, (Vb true))]) (H' := []) [] (uc rfl un) pn ?_
   exact tx_ret1' Tryz.results113 rfl () (rv_tmp' rfl) lr
  intro K6 hK6
  rcases br_cases hp with ⟨h2, hp⟩ | ⟨h2, hp⟩
  ·refine sx_rd' (rd_move' rfl) rfl rfl (wt_is' (wt_guard' rfl rfl rfl) (beq_tt h2)) ?_
   refine sx_rd' (rd_len' rfl Tryz.underlying63) rfl rfl (wt_is' (wt_guard' rfl rfl rfl) (beq_tt h2)) ?_
   refine sx_rd' (rd_move' rfl) rfl rfl (wt_is' (wt_guard' rfl rfl rfl) (beq_tt h2)) ?_
   refine sx_rd' (rd_len' rfl Tryz.underlying63) rfl rfl (wt_is' (wt_guard' rfl rfl rfl) (beq_tt h2)) ?_
   refine sx_rd' (rd_bin' rfl rfl eg_int ru_neq) rfl rfl (wt_is' (wt_guard' rfl rfl rfl) (beq_tt h2)) ?_
   refine s0 (rd_pick_true' rfl h2 rfl) ?_
   refine sx_nil' ?_
   show TX E K6 _
   exact tk [] (u4 rfl rfl rfl rfl) pn (hK6 (!decide ((a0.length : Int) = (a2.length : Int))) hp)
  iterate 5 refine sx_skip' rfl rfl (wt_is' (wt_guard' rfl rfl rfl) (beq_ft h2)) ?_
  refine s0 (rd_pick_false' rfl h2 rfl) ?_
  refine sx_nil' ?_
  show TX E K6 _
  exact tk [] (u4 rfl rfl rfl rfl) pn (hK6 false hp)
 intro K5 hK5
 rcases br_cases hp with ⟨h1, hp⟩ | ⟨h1, hp⟩
 ·refine sx_skip' rfl rfl (wt_is' (wt_guard' rfl rfl rfl) (beq_tf h1)) ?_
  iterate 4 refine sx_skip' rfl rfl (wt_is' (wt_guard' rfl rfl rfl) (beq_tf h1)) ?_
  refine s0 (rd_pick_true' rfl h1 rfl) ?_
  refine sx_nil' ?_
  show TX E K5 _
  exact tk [] (u4 rfl rfl rfl rfl) pn (hK5 true hp)
 refine sx_rd' (rd_move' rfl) rfl rfl (wt_is' (wt_guard' rfl rfl rfl) (beq_ff h1)) ?_
 refine sx_rd' (rd_len' rfl Tryz.underlying63) rfl rfl (wt_is' (wt_guard' rfl rfl rfl) (beq_ff h1)) ?_
 refine sx_rd' (rd_move' rfl) rfl rfl (wt_is' (wt_guard' rfl rfl rfl) (beq_ff h1)) ?_
 obtain ⟨r23, hr23, hp⟩ := bind_some hp
 refine sx_ox' (oz (ent_fn' Tryz.func115 isn115 rfl rfl) (gogeom_Layout_Stride_sim _ hr23)) (wt_is' (wt_guard' rfl rfl rfl) (beq_ff h1)) fun ⟨⟩ => ?_
 refine sx_rd' (rd_bin' rfl rfl eg_int ru_lss) rfl rfl (wt_is' (wt_guard' rfl rfl rfl) (beq_ff h1)) ?_
 refine s0 (rd_pick_false' rfl h1 rfl) ?_
 refine sx_nil' ?_
 show TX E K5 _
 exact tk [] (u4 rfl rfl rfl rfl) pn (hK5 (decide ((a2.length : Int) < r23)) hp)

def lineintersector_NonRobustLineIntersector_computeLineOnLineIntersection_j8 (k : Nat) (a1_0 a1_1 : List Nat) (a1_2 a1_3 a1_4 : List Nat) (r195 r210 : Nat) (a1_5 : List Nat) (x8 : Bool) : Option ((List Nat) × (List Nat) × (List Nat) × (List Nat) × (List Nat) × (List Nat) × Int × Bool) :=
 some (a1_0, a1_1, a1_2, a1_3, (a1_4.set (0 : Int).toNat r195).set (1 : Int).toNat r210, a1_5, 1, x8)
def lineintersector_NonRobustLineIntersector_computeLineOnLineIntersection_j7 (k : Nat) (a1_0 a1_1 : List Nat) (a1_2 a1_3 a1_4 : List Nat) (r195 r210 : Nat) (a1_5 : List Nat) (x7 : Bool) : Option ((List Nat) × (List Nat) × (List Nat) × (List Nat) × (List Nat) × (List Nat) × Int × Bool) :=
 br x7
  (lineintersector_NonRobustLineIntersector_computeLineOnLineIntersection_j8 k a1_0 a1_1 a1_2 a1_3 a1_4 r195 r210 a1_5 false)
  (lineintersector_NonRobustLineIntersector_computeLineOnLineIntersection_j8 k a1_0 a1_1 a1_2 a1_3 a1_4 r195 r210 a1_5 true)
def lineintersector_NonRobustLineIntersector_computeLineOnLineIntersection_j6 (k : Nat) (a1_0 a1_1 : List Nat) (a1_2 a1_3 a1_4 : List Nat) (r195 r210 : Nat) (a1_5 a5 : List Nat) (x6 : Bool) : Option ((List Nat) × (List Nat) × (List Nat) × (List Nat) × (List Nat) × (List Nat) × Int × Bool) :=
 br x6
  (lineintersector_NonRobustLineIntersector_computeLineOnLineIntersection_j7 k a1_0 a1_1 a1_2 a1_3 a1_4 r195 r210 a1_5 true)
  ((gogeom_Coord_Equal k ((a1_4.set (0 : Int).toNat r195).set (1 : Int).toNat r210) 1 a5) >>= fun r243 =>
  lineintersector_NonRobustLineIntersector_computeLineOnLineIntersection_j7 k a1_0 a1_1 a1_2 a1_3 a1_4 r195 r210 a1_5 r243)
def lineintersector_NonRobustLineIntersector_computeLineOnLineIntersection_j5 (k : Nat) (a1_0 a1_1 : List Nat) (a1_2 a1_3 a1_4 : List Nat) (r195 r210 : Nat) (a1_5 a5 a4 : List Nat) (x5 : Bool) : Option ((List Nat) × (List Nat) × (List Nat) × (List Nat) × (List Nat) × (List Nat) × Int × Bool) :=
 br x5
  (lineintersector_NonRobustLineIntersector_computeLineOnLineIntersection_j6 k a1_0 a1_1 a1_2 a1_3 a1_4 r195 r210 a1_5 a5 true)
  ((gogeom_Coord_Equal k ((a1_4.set (0 : Int).toNat r195).set (1 : Int).toNat r210) 1 a4) >>= fun r235 =>
  lineintersector_NonRobustLineIntersector_computeLineOnLineIntersection_j6 k a1_0 a1_1 a1_2 a1_3 a1_4 r195 r210 a1_5 a5 r235)
def lineintersector_NonRobustLineIntersector_computeLineOnLineIntersection_j4 (k : Nat) (a1_0 a1_1 : List Nat) (a1_2 a1_3 : List Nat) (a1_4 a1_5 : List Nat) (r34 r110 : Nat) (r103 r41 : Nat) (a1_6 : Int) (a2 a3 : List Nat) (a4 a5 : List Nat) (r125 r56 : Nat) (x4 : Bool) : Option ((List Nat) × (List Nat) × (List Nat) × (List Nat) × (List Nat) × (List Nat) × Int × Bool) :=
 br x4
  (some (a1_0, a1_1, a1_2, a1_3, a1_4, a1_5, 0, false))
  ((some (gmul r34 r110)) >>= fun r168 =>
  (some (gmul r103 r41)) >>= fun r171 =>
  (some (gsub r168 r171)) >>= fun r172 =>
  br (feq r172 0)
   ((lineintersector_NonRobustLineIntersector_computeCollinearIntersection k a1_0 a1_1 a1_2 a1_3 a1_4 a1_5 a1_6 false a2 a3 a4 a5) >>= fun r181 =>
   some (r181.1, r181.2.1, r181.2.2.1, r181.2.2.2.1, r181.2.2.2.2.1, r181.2.2.2.2.2.1, r181.2.2.2.2.2.2.1, r181.2.2.2.2.2.2.2))
   ((some (gmul r41 r125)) >>= fun r184 =>
   (some (gmul r110 r56)) >>= fun r187 =>
   (some (gsub r184 r187)) >>= fun r188 =>
   (some (gdiv r188 r172)) >>= fun r195 =>
   (idx a1_4 0) >>= fun r196 =>
   (num r195) >>= fun nu1 =>
   (some (gmul r103 r56)) >>= fun r199 =>
   (some (gmul r34 r125)) >>= fun r202 =>
   (some (gsub r199 r202)) >>= fun r203 =>
   (some (gdiv r203 r172)) >>= fun r210 =>
   (idx (a1_4.set (0 : Int).toNat r195) 1) >>= fun r211 =>
   (num r210) >>= fun nu2 =>
   (gogeom_Coord_Equal k ((a1_4.set (0 : Int).toNat r195).set (1 : Int).toNat r210) 1 a2) >>= fun r220 =>
   br r220
    (lineintersector_NonRobustLineIntersector_computeLineOnLineIntersection_j5 k a1_0 a1_1 a1_2 a1_3 a1_4 r195 r210 a1_5 a5 a4 true)
    ((gogeom_Coord_Equal k ((a1_4.set (0 : Int).toNat r195).set (1 : Int).toNat r210) 1 a3) >>= fun r227 =>
    lineintersector_NonRobustLineIntersector_computeLineOnLineIntersection_j5 k a1_0 a1_1 a1_2 a1_3 a1_4 r195 r210 a1_5 a5 a4 r227)))
def lineintersector_NonRobustLineIntersector_computeLineOnLineIntersection_j3 (k r138 r151 : Nat) (a1_0 a1_1 : List Nat) (a1_2 a1_3 : List Nat) (a1_4 a1_5 : List Nat) (r34 r110 : Nat) (r103 r41 : Nat) (a1_6 : Int) (a2 a3 : List Nat) (a4 a5 : List Nat) (r125 r56 : Nat) (x3 : Bool) : Option ((List Nat) × (List Nat) × (List Nat) × (List Nat) × (List Nat) × (List Nat) × Int × Bool) :=
 br x3
  ((inner_IsSameSignAndNonZero k r138 r151) >>= fun r161 =>
  lineintersector_NonRobustLineIntersector_computeLineOnLineIntersection_j4 k a1_0 a1_1 a1_2 a1_3 a1_4 a1_5 r34 r110 r103 r41 a1_6 a2 a3 a4 a5 r125 r56 r161)
  (lineintersector_NonRobustLineIntersector_computeLineOnLineIntersection_j4 k a1_0 a1_1 a1_2 a1_3 a1_4 a1_5 r34 r110 r103 r41 a1_6 a2 a3 a4 a5 r125 r56 false)
def lineintersector_NonRobustLineIntersector_computeLineOnLineIntersection_j2 (k : Nat) (a1_0 a1_1 : List Nat) (a1_2 a1_3 : List Nat) (a1_4 a1_5 : List Nat) (a5 a4 : List Nat) (a2 a3 : List Nat) (r34 r41 : Nat) (a1_6 : Int) (r56 : Nat) (x2 : Bool) : Option ((List Nat) × (List Nat) × (List Nat) × (List Nat) × (List Nat) × (List Nat) × Int × Bool) :=
 br x2
  (some (a1_0, a1_1, a1_2, a1_3, a1_4, a1_5, 0, false))
  ((idx a5 1) >>= fun r98 =>
  (idx a4 1) >>= fun r101 =>
  (fsub r98 r101) >>= fun r103 =>
  (idx a4 0) >>= fun r105 =>
  (idx a5 0) >>= fun r108 =>
  (fsub r105 r108) >>= fun r110 =>
  (idx a5 0) >>= fun r112 =>
  (idx a4 1) >>= fun r115 =>
  (fmul r112 r115) >>= fun r117 =>
  (idx a4 0) >>= fun r119 =>
  (idx a5 1) >>= fun r122 =>
  (fmul r119 r122) >>= fun r124 =>
  (fsub r117 r124) >>= fun r125 =>
  (idx a2 0) >>= fun r128 =>
  (fmul r103 r128) >>= fun r130 =>
  (idx a2 1) >>= fun r133 =>
  (fmul r110 r133) >>= fun r135 =>
  (fadd r130 r135) >>= fun r136 =>
  (fadd r136 r125) >>= fun r138 =>
  (idx a3 0) >>= fun r141 =>
  (fmul r103 r141) >>= fun r143 =>
  (idx a3 1) >>= fun r146 =>
  (fmul r110 r146) >>= fun r148 =>
  (fadd r143 r148) >>= fun r149 =>
  (fadd r149 r125) >>= fun r151 =>
  br (fne r138 0)
   (lineintersector_NonRobustLineIntersector_computeLineOnLineIntersection_j3 k r138 r151 a1_0 a1_1 a1_2 a1_3 a1_4 a1_5 r34 r110 r103 r41 a1_6 a2 a3 a4 a5 r125 r56 (fne r151 0))
   (lineintersector_NonRobustLineIntersector_computeLineOnLineIntersection_j3 k r138 r151 a1_0 a1_1 a1_2 a1_3 a1_4 a1_5 r34 r110 r103 r41 a1_6 a2 a3 a4 a5 r125 r56 false))
def lineintersector_NonRobustLineIntersector_computeLineOnLineIntersection_j1 (k r69 r82 : Nat) (a1_0 a1_1 : List Nat) (a1_2 a1_3 : List Nat) (a1_4 a1_5 : List Nat) (a5 a4 : List Nat) (a2 a3 : List Nat) (r34 r41 : Nat) (a1_6 : Int) (r56 : Nat) (x1 : Bool) : Option ((List Nat) × (List Nat) × (List Nat) × (List Nat) × (List Nat) × (List Nat) × Int × Bool) :=
 br x1
  ((inner_IsSameSignAndNonZero k r69 r82) >>= fun r92 =>
  lineintersector_NonRobustLineIntersector_computeLineOnLineIntersection_j2 k a1_0 a1_1 a1_2 a1_3 a1_4 a1_5 a5 a4 a2 a3 r34 r41 a1_6 r56 r92)
  (lineintersector_NonRobustLineIntersector_computeLineOnLineIntersection_j2 k a1_0 a1_1 a1_2 a1_3 a1_4 a1_5 a5 a4 a2 a3 r34 r41 a1_6 r56 false)
def lineintersector_NonRobustLineIntersector_computeLineOnLineIntersection (k : Nat) (a1_0 a1_1 : List Nat) (a1_2 a1_3 : List Nat) (a1_4 a1_5 : List Nat) (a1_6 : Int) (a1_7 : Bool) (a2 a3 : List Nat) (a4 a5 : List Nat) : Option ((List Nat) × (List Nat) × (List Nat) × (List Nat) × (List Nat) × (List Nat) × Int × Bool) :=
 (idx a3 1) >>= fun r29 =>
 (idx a2 1) >>= fun r32 =>
 (fsub r29 r32) >>= fun r34 =>
 (idx a2 0) >>= fun r36 =>
 (idx a3 0) >>= fun r39 =>
 (fsub r36 r39) >>= fun r41 =>
 (idx a3 0) >>= fun r43 =>
 (idx a2 1) >>= fun r46 =>
 (fmul r43 r46) >>= fun r48 =>
 (idx a2 0) >>= fun r50 =>
 (idx a3 1) >>= fun r53 =>
 (fmul r50 r53) >>= fun r55 =>
 (fsub r48 r55) >>= fun r56 =>
 (idx a4 0) >>= fun r59 =>
 (fmul r34 r59) >>= fun r61 =>
 (idx a4 1) >>= fun r64 =>
 (fmul r41 r64) >>= fun r66 =>
 (fadd r61 r66) >>= fun r67 =>
 (fadd r67 r56) >>= fun r69 =>
 (idx a5 0) >>= fun r72 =>
 (fmul r34 r72) >>= fun r74 =>
 (idx a5 1) >>= fun r77 =>
 (fmul r41 r77) >>= fun r79 =>
 (fadd r74 r79) >>= fun r80 =>
 (fadd r80 r56) >>= fun r82 =>
 br (fne r69 0)
  (lineintersector_NonRobustLineIntersector_computeLineOnLineIntersection_j1 k r69 r82 a1_0 a1_1 a1_2 a1_3 a1_4 a1_5 a5 a4 a2 a3 r34 r41 a1_6 r56 (fne r82 0))
  (lineintersector_NonRobustLineIntersector_computeLineOnLineIntersection_j1 k r69 r82 a1_0 a1_1 a1_2 a1_3 a1_4 a1_5 a5 a4 a2 a3 r34 r41 a1_6 r56 false)

theorem lineintersector_NonRobustLineIntersector_computeLineOnLineIntersection_sim {k : Nat} {wa1 : Addr} {wa1_4 wa1_5 : Gs} (a1_0 a1_1 : List Nat) (a1_2 a1_3 : List Nat) (a1_4 a1_5 : List Nat) (a1_6 : Int) (a1_7 : Bool) (a2 a3 : List Nat) (a4 a5 : List Nat) {out : (List Nat) × (List Nat) × (List Nat) × (List Nat) × (List Nat) × (List Nat) × Int × Bool} (hp : lineintersector_NonRobustLineIntersector_computeLineOnLineIntersection k a1_0 a1_1 a1_2 a1_3 a1_4 a1_5 a1_6 a1_7 a2 a3 a4 a5 = some out) : Sx.Fn Tryz.prog 109 [(Ag []), (Vp wa1), (Sl Kf a2), (Sl Kf a3), (Sl Kf a4), (Sl Kf a5)] [(Ur wa1 83 [(Sl Kf a1_0), (Sl Kf a1_1), (Sl Kf a1_2), (Sl Kf a1_3), (Vw wa1_4), (Vw wa1_5), (Vi a1_6), (Vb a1_7), (Vw wa1_4), (Vw wa1_5), (If 88 (Ag []))]), (Rg Kf 22 wa1_4 a1_4), (Rg Kf 22 wa1_5 a1_5)] (fun w : Unit => (Vl (.tuple #[]))) (fun w => [(Ur wa1 83 [(Sl Kf out.1), (Sl Kf out.2.1), (Sl Kf out.2.2.1), (Sl Kf out.2.2.2.1), (Vw wa1_4), (Vw wa1_5), (Vi out.2.2.2.2.2.2.1), (Vb out.2.2.2.2.2.2.2), (Vw wa1_4), (Vw wa1_5), (If 88 (Ag []))]), (Rg Kf 22 wa1_4 out.2.2.2.2.1), (Rg Kf 22 wa1_5 out.2.2.2.2.2.1)]) := by
 unfold lineintersector_NonRobustLineIntersector_computeLineOnLineIntersection at hp
 refine fn_of Tryz.func109 rfl Tryz.ntmps109 rfl fun E hM => ?_
 refine cr fun K1 hK1 => ?_
 refine so (ox_box' rfl (lv_ag _) rfl rfl) fun q6 => ?_
 refine nk hK1 ?_
 refine cr fun K2 hK2 => ?_
 refine sa rfl ?_
 refine nk hK2 ?_
 refine cr fun K3 hK3 => ?_
 refine sa rfl ?_
 refine nk hK3 ?_
 refine cr fun K4 hK4 => ?_
 iterate 5 refine sa rfl ?_
 refine nk hK4 ?_
 refine cr fun K5 hK5 => ?_
 refine sm rfl ?_
 refine sn rfl ?_
 refine sg (off := 7) rfl Tryz.underlying83 rfl info4 rfl ?_
 refine so (ox_store' (i := 1) (o := 7) rfl rfl (lv_vl rfl rfl) (ar rfl rfl rfl rfl) rfl info4 rfl (H' := [(Ur q6 88 []), (Ur wa1 83 [(Sl Kf a1_0), (Sl Kf a1_1), (Sl Kf a1_2), (Sl Kf a1_3), (Vw wa1_4), (Vw wa1_5), (Vi a1_6), (Vb false), (Vw wa1_4), (Vw wa1_5), (If 88 (Ag []))]), (Rg Kf 22 wa1_4 a1_4), (Rg Kf 22 wa1_5 a1_5)]) rfl) fun _ => ?_
 refine nk hK5 ?_
 refine cx_seq' fun K6 hK6 => ?_
 refine cx_draw' mixed (by kernel_rfl) ?_
 refine qd (rd_move' rfl) ?_
 obtain ⟨r29, hr29, hp⟩ := bind_some hp
 refine qd (rd_at' (K := Kf) rfl rfl hr29 Tryz.underlying63 info22) ?_
 refine qd (rd_load_pt' rfl rfl flat22) ?_
 refine qd (rd_move' rfl) ?_
 obtain ⟨r32, hr32, hp⟩ := bind_some hp
 refine qd (rd_at' (K := Kf) rfl rfl hr32 Tryz.underlying63 info22) ?_
 refine qd (rd_load_pt' rfl rfl flat22) ?_
 obtain ⟨r34, hr34, hp⟩ := bind_some hp
 refine qd (rd_bin' rfl rfl eg_flt (ru_fsub hr34)) ?_
 refine qd (rd_assign' rfl) ?_
 refine qx_nil' ?_
 show TX E K6 _
 refine tx_k' hK6 ?_
 refine cx_seq' fun K7 hK7 => ?_
 refine cx_draw' mixed (by kernel_rfl) ?_
 refine qd (rd_move' rfl) ?_
 obtain ⟨r36, hr36, hp⟩ := bind_some hp
 refine qd (rd_at' (K := Kf) rfl rfl hr36 Tryz.underlying63 info22) ?_
 refine qd (rd_load_pt' rfl rfl flat22) ?_
 refine qd (rd_move' rfl) ?_
 obtain ⟨r39, hr39, hp⟩ := bind_some hp
 refine qd (rd_at' (K := Kf) rfl rfl hr39 Tryz.underlying63 info22) ?_
 refine qd (rd_load_pt' rfl rfl flat22) ?_
 obtain ⟨r41, hr41, hp⟩ := bind_some hp
 refine qd (rd_bin' rfl rfl eg_flt (ru_fsub hr41)) ?_
 refine qd (rd_assign' rfl) ?_
 refine qx_nil' ?_
 show TX E K7 _
 refine tx_k' hK7 ?_
 refine cx_seq' fun K8 hK8 => ?_
 refine cx_draw' mixed (by kernel_rfl) ?_
 refine qd (rd_move' rfl) ?_
 obtain ⟨r43, hr43, hp⟩ := bind_some hp
 refine qd (rd_at' (K := Kf) rfl rfl hr43 Tryz.underlying63 info22) ?_
 refine qd (rd_load_pt' rfl rfl flat22) ?_
 refine qd (rd_move' rfl) ?_
 obtain ⟨r46, hr46, hp⟩ := bind_some hp
 refine qd (rd_at' (K := Kf) rfl rfl hr46 Tryz.underlying63 info22) ?_
 refine qd (rd_load_pt' rfl rfl flat22) ?_
 obtain ⟨r48, hr48, hp⟩ := bind_some hp
 refine qd (rd_bin' rfl rfl eg_flt (ru_fmul hr48)) ?_
 refine qd (rd_move' rfl) ?_
 obtain ⟨r50, hr50, hp⟩ := bind_some hp
 refine qd (rd_at' (K := Kf) rfl rfl hr50 Tryz.underlying63 info22) ?_
 refine qd (rd_load_pt' rfl rfl flat22) ?_
 refine qd (rd_move' rfl) ?_
 obtain ⟨r53, hr53, hp⟩ := bind_some hp
 refine qd (rd_at' (K := Kf) rfl rfl hr53 Tryz.underlying63 info22) ?_
 refine qd (rd_load_pt' rfl rfl flat22) ?_
 obtain ⟨r55, hr55, hp⟩ := bind_some hp
 refine qd (rd_bin' rfl rfl eg_flt (ru_fmul hr55)) ?_
 obtain ⟨r56, hr56, hp⟩ := bind_some hp
 refine qd (rd_bin' rfl rfl eg_flt (ru_fsub hr56)) ?_
 refine qd (rd_assign' rfl) ?_
 refine qx_nil' ?_
 show TX E K8 _
 refine tx_k' hK8 ?_
 refine cx_seq' fun K9 hK9 => ?_
 refine cx_draw' mixed (by kernel_rfl) ?_
 iterate 2 refine qd (rd_move' rfl) ?_
 obtain ⟨r59, hr59, hp⟩ := bind_some hp
 refine qd (rd_at' (K := Kf) rfl rfl hr59 Tryz.underlying63 info22) ?_
 refine qd (rd_load_pt' rfl rfl flat22) ?_
 obtain ⟨r61, hr61, hp⟩ := bind_some hp
 refine qd (rd_bin' rfl rfl eg_flt (ru_fmul hr61)) ?_
 iterate 2 refine qd (rd_move' rfl) ?_
 obtain ⟨r64, hr64, hp⟩ := bind_some hp
 refine qd (rd_at' (K := Kf) rfl rfl hr64 Tryz.underlying63 info22) ?_
 refine qd (rd_load_pt' rfl rfl flat22) ?_
 obtain ⟨r66, hr66, hp⟩ := bind_some hp
 refine qd (rd_bin' rfl rfl eg_flt (ru_fmul hr66)) ?_
 obtain ⟨r67, hr67, hp⟩ := bind_some hp
 refine qd (rd_bin' rfl rfl eg_flt (ru_fadd hr67)) ?_
 refine qd (rd_move' rfl) ?_
 obtain ⟨r69, hr69, hp⟩ := bind_some hp
 refine qd (rd_bin' rfl rfl eg_flt (ru_fadd hr69)) ?_
 refine qd (rd_assign' rfl) ?_
 refine qx_nil' ?_
 show TX E K9 _
 refine tx_k' hK9 ?_
 refine cx_seq' fun K10 hK10 => ?_
 refine cx_draw' mixed (by kernel_rfl) ?_
 iterate 2 refine qd (rd_move' rfl) ?_
 obtain ⟨r72, hr72, hp⟩ := bind_some hp
 refine qd (rd_at' (K := Kf) rfl rfl hr72 Tryz.underlying63 info22) ?_
 refine qd (rd_load_pt' rfl rfl flat22) ?_
 obtain ⟨r74, hr74, hp⟩ := bind_some hp
 refine qd (rd_bin' rfl rfl eg_flt (ru_fmul hr74)) ?_
 iterate 2 refine qd (rd_move' rfl) ?_
 obtain ⟨r77, hr77, hp⟩ := bind_some hp
 refine qd (rd_at' (K := Kf) rfl rfl hr77 Tryz.underlying63 info22) ?_
 refine qd (rd_load_pt' rfl rfl flat22) ?_
 obtain ⟨r79, hr79, hp⟩ := bind_some hp
 refine qd (rd_bin' rfl rfl eg_flt (ru_fmul hr79)) ?_
 obtain ⟨r80, hr80, hp⟩ := bind_some hp
 refine qd (rd_bin' rfl rfl eg_flt (ru_fadd hr80)) ?_
 refine qd (rd_move' rfl) ?_
 obtain ⟨r82, hr82, hp⟩ := bind_some hp
 refine qd (rd_bin' rfl rfl eg_flt (ru_fadd hr82)) ?_
 refine qd (rd_assign' rfl) ?_
 refine qx_nil' ?_
 show TX E K10 _
 refine tx_k' hK10 ?_
 refine cx_seq' fun K11 hK11 => ?_
 refine cr fun K12 hK12 => ?_
 refine sm rfl ?_
 refine sb rfl rfl eg_flt ru_fne ?_
 refine sm rfl ?_
 refine sx_cutn' 3 (fun (v1 : Bool) => (⟨251, [], [(1, (Vp wa1)), (2, (Sl Kf a2)), (3, (Sl Kf a3)), (4, (Sl Kf a4)), (5, (Sl Kf a5)), (6, (Vp q6)), (17, (Vg r69)), (18, (Vg r82)), (19, (Vg r34)), (20, (Vg r41)), (21, (Vg r56)), (88, (Vb v1))], [(Ur wa1 83 [(Sl Kf a1_0), (Sl Kf a1_1), (Sl Kf a1_2), (Sl Kf a1_3), (Vw wa1_4), (Vw wa1_5), (Vi a1_6), (Vb false), (Vw wa1_4), (Vw wa1_5), (If 88 (Ag []))]), (Rg Kf 22 wa1_4 a1_4), (Rg Kf 22 wa1_5 a1_5), (Ur q6 88 [])]⟩ : St)) (fun (v1 : Bool) => lineintersector_NonRobustLineIntersector_computeLineOnLineIntersection_j1 k r69 r82 a1_0 a1_1 a1_2 a1_3 a1_4 a1_5 a5 a4 a2 a3 r34 r41 a1_6 r56 v1 = some out) ?_ ?_
 ·rintro x1 hp
  replace hp : lineintersector_NonRobustLineIntersector_computeLineOnLineIntersection_j1 k r69 r82 a1_0 a1_1 a1_2 a1_3 a1_4 a1_5 a5 a4 a2 a3 r34 r41 a1_6 r56 x1 = some out := hp
  unfold lineintersector_NonRobustLineIntersector_computeLineOnLineIntersection_j1 at hp
  refine sm rfl ?_
  refine sx_cutn' 4 (fun (v2 : Bool) => (⟨251, [], [(1, (Vp wa1)), (2, (Sl Kf a2)), (3, (Sl Kf a3)), (4, (Sl Kf a4)), (5, (Sl Kf a5)), (6, (Vp q6)), (19, (Vg r34)), (20, (Vg r41)), (21, (Vg r56)), (93, (Vb v2))], [(Ur wa1 83 [(Sl Kf a1_0), (Sl Kf a1_1), (Sl Kf a1_2), (Sl Kf a1_3), (Vw wa1_4), (Vw wa1_5), (Vi a1_6), (Vb false), (Vw wa1_4), (Vw wa1_5), (If 88 (Ag []))]), (Rg Kf 22 wa1_4 a1_4), (Rg Kf 22 wa1_5 a1_5), (Ur q6 88 [])]⟩ : St)) (fun (v2 : Bool) => lineintersector_NonRobustLineIntersector_computeLineOnLineIntersection_j2 k a1_0 a1_1 a1_2 a1_3 a1_4 a1_5 a5 a4 a2 a3 r34 r41 a1_6 r56 v2 = some out) ?_ ?_
  ·rintro x2 hp
   replace hp : lineintersector_NonRobustLineIntersector_computeLineOnLineIntersection_j2 k a1_0 a1_1 a1_2 a1_3 a1_4 a1_5 a5 a4 a2 a3 r34 r41 a1_6 r56 x2 = some out := hp
   unfold lineintersector_NonRobustLineIntersector_computeLineOnLineIntersection_j2 at hp
   refine nk hK12 ?_
   refine cx_cond' rfl (fun h3 => ?_) (fun h3 => ?_)
   ·replace hp := (br_t h3).symm.trans hp
    refine cr fun K15 hK15 => ?_
    refine sm rfl ?_
    refine sn rfl ?_
    refine sg (off := 6) rfl Tryz.underlying83 rfl info54 rfl ?_
    refine so (ox_store' (i := 0) (o := 6) rfl rfl (lv_vl rfl rfl) (ar rfl rfl rfl rfl) rfl info54 rfl (H' := [(Ur wa1 83 [(Sl Kf a1_0), (Sl Kf a1_1), (Sl Kf a1_2), (Sl Kf a1_3), (Vw wa1_4), (Vw wa1_5), (Vi 0), (Vb false), (Vw wa1_4), (Vw wa1_5), (If 88 (Ag []))]), (Rg Kf 22 wa1_4 a1_4), (Rg Kf 22 wa1_5 a1_5), (Ur q6 88 [])]) rfl) fun _ => ?_
    refine nk hK15 ?_
    refine cx_retc' ?_
    replace hp := sj hp
    subst hp
    refine tk (L' := []) (H' := [(Ur wa1 83 [(Sl Kf a1_0), (Sl Kf a1_1), (Sl Kf a1_2), (Sl Kf a1_3), (Vw wa1_4), (Vw wa1_5), (Vi 0), (Vb false), (Vw wa1_4), (Vw wa1_5), (If 88 (Ag []))]), (Rg Kf 22 wa1_4 a1_4), (Rg Kf 22 wa1_5 a1_5)]) [0, 1, 2] un (p3 rfl rfl rfl) ?_
    exact tx_ret0' Tryz.results109 rfl () rfl lr
   replace hp := (br_f h3).symm.trans hp
   refine cx_skip' ?_
   show TX E K11 _
   refine tx_k' hK11 ?_
   refine cx_seq' fun K16 hK16 => ?_
   refine cx_draw' mixed (by kernel_rfl) ?_
   refine qd (rd_move' rfl) ?_
   obtain ⟨r98, hr98, hp⟩ := bind_some hp
   refine qd (rd_at' (K := Kf) rfl rfl hr98 Tryz.underlying63 info22) ?_
   refine qd (rd_load_pt' rfl rfl flat22) ?_
   refine qd (rd_move' rfl) ?_
   obtain ⟨r101, hr101, hp⟩ := bind_some hp
   refine qd (rd_at' (K := Kf) rfl rfl hr101 Tryz.underlying63 info22) ?_
   refine qd (rd_load_pt' rfl rfl flat22) ?_
   obtain ⟨r103, hr103, hp⟩ := bind_some hp
   refine qd (rd_bin' rfl rfl eg_flt (ru_fsub hr103)) ?_
   refine qd (rd_assign' rfl) ?_
   refine qx_nil' ?_
   show TX E K16 _
   refine tx_k' hK16 ?_
   refine cx_seq' fun K17 hK17 => ?_
   refine cx_draw' mixed (by kernel_rfl) ?_
   refine qd (rd_move' rfl) ?_
   obtain ⟨r105, hr105, hp⟩ := bind_some hp
   refine qd (rd_at' (K := Kf) rfl rfl hr105 Tryz.underlying63 info22) ?_
   refine qd (rd_load_pt' rfl rfl flat22) ?_
   refine qd (rd_move' rfl) ?_
   obtain ⟨r108, hr108, hp⟩ := bind_some hp
   refine qd (rd_at' (K := Kf) rfl rfl hr108 Tryz.underlying63 info22) ?_
   refine qd (rd_load_pt' rfl rfl flat22) ?_
   obtain ⟨r110, hr110, hp⟩ := bind_some hp
   refine qd (rd_bin' rfl rfl eg_flt (ru_fsub hr110)) ?_
   refine qd (rd_assign' rfl) ?_
   refine qx_nil' ?_
   show TX E K17 _
   refine tx_k' hK17 ?_
   refine cx_seq' fun K18 hK18 => ?_
   refine cx_draw' mixed (by kernel_rfl) ?_
   refine qd (rd_move' rfl) ?_
   obtain ⟨r112, hr112, hp⟩ := bind_some hp
   refine qd (rd_at' (K := Kf) rfl rfl hr112 Tryz.underlying63 info22) ?_
   refine qd (rd_load_pt' rfl rfl flat22) ?_
   refine qd (rd_move' rfl) ?_
   obtain ⟨r115, hr115, hp⟩ := bind_some hp
   refine qd (rd_at' (K := Kf) rfl rfl hr115 Tryz.underlying63 info22) ?_
   refine qd (rd_load_pt' rfl rfl flat22) ?_
   obtain ⟨r117, hr117, hp⟩ := bind_some hp
   refine qd (rd_bin' rfl rfl eg_flt (ru_fmul hr117)) ?_
   refine qd (rd_move' rfl) ?_
   obtain ⟨r119, hr119, hp⟩ := bind_some hp
   refine qd (rd_at' (K := Kf) rfl rfl hr119 Tryz.underlying63 info22) ?_
   refine qd (rd_load_pt' rfl rfl flat22) ?_
   refine qd (rd_move' rfl) ?_
   obtain ⟨r122, hr122, hp⟩ := bind_some hp
   refine qd (rd_at' (K := Kf) rfl rfl hr122 Tryz.underlying63 info22) ?_
   refine qd (rd_load_pt' rfl rfl flat22) ?_
   obtain ⟨r124, hr124, hp⟩ := bind_some hp
   refine qd (rd_bin' rfl rfl eg_flt (ru_fmul hr124)) ?_
   obtain ⟨r125, hr125, hp⟩ := bind_some hp
   refine qd (rd_bin' rfl rfl eg_flt (ru_fsub hr125)) ?_
   refine qd (rd_assign' rfl) ?_
   refine qx_nil' ?_
   show TX E K18 _
   refine tx_k' hK18 ?_
   refine cx_seq' fun K19 hK19 => ?_
   refine cx_draw' mixed (by kernel_rfl) ?_
   iterate 2 refine qd (rd_move' rfl) ?_
   obtain ⟨r128, hr128, hp⟩ := bind_some hp
   refine qd (rd_at' (K := Kf) rfl rfl hr128 Tryz.underlying63 info22) ?_
   refine qd (rd_load_pt' rfl rfl flat22) ?_
   obtain ⟨r130, hr130, hp⟩ := bind_some hp
   refine qd (rd_bin' rfl rfl eg_flt (ru_fmul hr130)) ?_
   iterate 2 refine qd (rd_move' rfl) ?_
   obtain ⟨r133, hr133, hp⟩ := bind_some hp
   refine qd (rd_at' (K := Kf) rfl rfl hr133 Tryz.underlying63 info22) ?_
   refine qd (rd_load_pt' rfl rfl flat22) ?_
   obtain ⟨r135, hr135, hp⟩ := bind_some hp
   refine qd (rd_bin' rfl rfl eg_flt (ru_fmul hr135)) ?_
   obtain ⟨r136, hr136, hp⟩ := bind_some hp
   refine qd (rd_bin' rfl rfl eg_flt (ru_fadd hr136)) ?_
   refine qd (rd_move' rfl) ?_
   obtain ⟨r138, hr138, hp⟩ := bind_some hp
   refine qd (rd_bin' rfl rfl eg_flt (ru_fadd hr138)) ?_
   refine qd (rd_assign' rfl) ?_
   refine qx_nil' ?_
   show TX E K19 _
   refine tx_k' hK19 ?_
   refine cx_seq' fun K20 hK20 => ?_
   refine cx_draw' mixed (by kernel_rfl) ?_
   iterate 2 refine qd (rd_move' rfl) ?_
   obtain ⟨r141, hr141, hp⟩ := bind_some hp
   refine qd (rd_at' (K := Kf) rfl rfl hr141 Tryz.underlying63 info22) ?_
   refine qd (rd_load_pt' rfl rfl flat22) ?_
   obtain ⟨r143, hr143, hp⟩ := bind_some hp
   refine qd (rd_bin' rfl rfl eg_flt (ru_fmul hr143)) ?_
   iterate 2 refine qd (rd_move' rfl) ?_
   obtain ⟨r146, hr146, hp⟩ := bind_some hp
   refine qd (rd_at' (K := Kf) rfl rfl hr146 Tryz.underlying63 info22) ?_
   refine qd (rd_load_pt' rfl rfl flat22) ?_
   obtain ⟨r148, hr148, hp⟩ := bind_some hp
   refine qd (rd_bin' rfl rfl eg_flt (ru_fmul hr148)) ?_
   obtain ⟨r149, hr149, hp⟩ := bind_some hp
   refine qd (rd_bin' rfl rfl eg_flt (ru_fadd hr149)) ?_
   refine qd (rd_move' rfl) ?_
   obtain ⟨r151, hr151, hp⟩ := bind_some hp
   refine qd (rd_bin' rfl rfl eg_flt (ru_fadd hr151)) ?_
   refine qd (rd_assign' rfl) ?_
   refine qx_nil' ?_
   show TX E K20 _
   refine tx_k' hK20 ?_
   refine cx_seq' fun K21 hK21 => ?_
   refine cr fun K22 hK22 => ?_
   refine sm rfl ?_
   refine sb rfl rfl eg_flt ru_fne ?_
   refine sm rfl ?_
   refine sx_cutn' 3 (fun (v3 : Bool) => (⟨251, [], [(1, (Vp wa1)), (2, (Sl Kf a2)), (3, (Sl Kf a3)), (4, (Sl Kf a4)), (5, (Sl Kf a5)), (6, (Vp q6)), (12, (Vg r103)), (13, (Vg r110)), (14, (Vg r125)), (15, (Vg r138)), (16, (Vg r151)), (19, (Vg r34)), (20, (Vg r41)), (21, (Vg r56)), (157, (Vb v3))], [(Ur wa1 83 [(Sl Kf a1_0), (Sl Kf a1_1), (Sl Kf a1_2), (Sl Kf a1_3), (Vw wa1_4), (Vw wa1_5), (Vi a1_6), (Vb false), (Vw wa1_4), (Vw wa1_5), (If 88 (Ag []))]), (Rg Kf 22 wa1_4 a1_4), (Rg Kf 22 wa1_5 a1_5), (Ur q6 88 [])]⟩ : St)) (fun (v3 : Bool) => lineintersector_NonRobustLineIntersector_computeLineOnLineIntersection_j3 k r138 r151 a1_0 a1_1 a1_2 a1_3 a1_4 a1_5 r34 r110 r103 r41 a1_6 a2 a3 a4 a5 r125 r56 v3 = some out) ?_ ?_
   ·rintro x3 hp
    replace hp : lineintersector_NonRobustLineIntersector_computeLineOnLineIntersection_j3 k r138 r151 a1_0 a1_1 a1_2 a1_3 a1_4 a1_5 r34 r110 r103 r41 a1_6 a2 a3 a4 a5 r125 r56 x3 = some out := hp
    unfold lineintersector_NonRobustLineIntersector_computeLineOnLineIntersection_j3 at hp
    refine sm rfl ?_
    refine sx_cutn' 4 (fun (v4 : Bool) => (⟨251, [], [(1, (Vp wa1)), (2, (Sl Kf a2)), (3, (Sl Kf a3)), (4, (Sl Kf a4)), (5, (Sl Kf a5)), (6, (Vp q6)), (12, (Vg r103)), (13, (Vg r110)), (14, (Vg r125)), (19, (Vg r34)), (20, (Vg r41)), (21, (Vg r56)), (162, (Vb v4))], [(Ur wa1 83 [(Sl Kf a1_0), (Sl Kf a1_1), (Sl Kf a1_2), (Sl Kf a1_3), (Vw wa1_4), (Vw wa1_5), (Vi a1_6), (Vb false), (Vw wa1_4), (Vw wa1_5), (If 88 (Ag []))]), (Rg Kf 22 wa1_4 a1_4), (Rg Kf 22 wa1_5 a1_5), (Ur q6 88 [])]⟩ : St)) (fun (v4 : Bool) => lineintersector_NonRobustLineIntersector_computeLineOnLineIntersection_j4 k a1_0 a1_1 a1_2 a1_3 a1_4 a1_5 r34 r110 r103 r41 a1_6 a2 a3 a4 a5 r125 r56 v4 = some out) ?_ ?_
    ·rintro x4 hp
     replace hp : lineintersector_NonRobustLineIntersector_computeLineOnLineIntersection_j4 k a1_0 a1_1 a1_2 a1_3 a1_4 a1_5 r34 r110 r103 r41 a1_6 a2 a3 a4 a5 r125 r56 x4 = some out := hp
     unfold lineintersector_NonRobustLineIntersector_computeLineOnLineIntersection_j4 at hp
     refine nk hK22 ?_
     refine cx_cond' rfl (fun h6 => ?_) (fun h6 => ?_)
     ·replace hp := (br_t h6).symm.trans hp
      refine cr fun K25 hK25 => ?_
      refine sm rfl ?_
      refine sn rfl ?_
      refine sg (off := 6) rfl Tryz.underlying83 rfl info54 rfl ?_
      refine so (ox_store' (i := 0) (o := 6) rfl rfl (lv_vl rfl rfl) (ar rfl rfl rfl rfl) rfl info54 rfl (H' := [(Ur wa1 83 [(Sl Kf a1_0), (Sl Kf a1_1), (Sl Kf a1_2), (Sl Kf a1_3), (Vw wa1_4), (Vw wa1_5), (Vi 0), (Vb false), (Vw wa1_4), (Vw wa1_5), (If 88 (Ag []))]), (Rg Kf 22 wa1_4 a1_4), (Rg Kf 22 wa1_5 a1_5), (Ur q6 88 [])]) rfl) fun _ => ?_
      refine nk hK25 ?_
      refine cx_retc' ?_
      replace hp := sj hp
      subst hp
      refine tk (L' := []) (H' := [(Ur wa1 83 [(Sl Kf a1_0), (Sl Kf a1_1), (Sl Kf a1_2), (Sl Kf a1_3), (Vw wa1_4), (Vw wa1_5), (Vi 0), (Vb false), (Vw wa1_4), (Vw wa1_5), (If 88 (Ag []))]), (Rg Kf 22 wa1_4 a1_4), (Rg Kf 22 wa1_5 a1_5)]) [0, 1, 2] un (p3 rfl rfl rfl) ?_
      exact tx_ret0' Tryz.results109 rfl () rfl lr
     replace hp := (br_f h6).symm.trans hp
     refine cx_skip' ?_
     show TX E K21 _
     refine tx_k' hK21 ?_
     refine cr fun K26 hK26 => ?_
     iterate 2 refine sm rfl ?_
     obtain ⟨r168, hr168, hp⟩ := bind_some hp
     refine so (ox_fop' (.inr (.inr (.inl rfl))) (fl_v rfl) (fl_v rfl) (Option.some.inj hr168) rfl rfl) fun _ => ?_
     iterate 2 refine sm rfl ?_
     obtain ⟨r171, hr171, hp⟩ := bind_some hp
     refine so (ox_fop' (.inr (.inr (.inl rfl))) (fl_v rfl) (fl_v rfl) (Option.some.inj hr171) rfl rfl) fun _ => ?_
     obtain ⟨r172, hr172, hp⟩ := bind_some hp
     refine so (ox_fop' (.inr (.inl rfl)) (fl_f rfl) (fl_f rfl) (Option.some.inj hr172) rfl rfl) fun _ => ?_
     refine sa rfl ?_
     refine nk hK26 ?_
     refine cx_seq' fun K27 hK27 => ?_
     refine cr fun K28 hK28 => ?_
     refine sm rfl ?_
     refine s0 (rd_fcmp' (fl_f rfl) (fl_v rfl) rfl) ?_
     refine nk hK28 ?_
     refine cx_cond' rfl (fun h7 => ?_) (fun h7 => ?_)
     ·replace hp := (br_t h7).symm.trans hp
      refine cr fun K29 hK29 => ?_
      refine s0 (rd_load_agg' (i := 3) (o := 0) (nn := 0) rfl (ar rfl rfl rfl rfl) rfl agg88 (l' := []) rfl) ?_
      iterate 5 refine sm rfl ?_
      obtain ⟨r181, hr181, hp⟩ := bind_some hp
      refine so (ox_callg' (ent_fn' Tryz.func112 isn112 rfl rfl) (lineintersector_NonRobustLineIntersector_computeCollinearIntersection_sim _ _ _ _ _ _ _ _ _ _ _ _ hr181 : Sx.Fn Tryz.prog 112 [(Ag []), (Vp wa1), (Sl Kf a2), (Sl Kf a3), (Sl Kf a4), (Sl Kf a5)] [(Ur wa1 83 [(Sl Kf a1_0), (Sl Kf a1_1), (Sl Kf a1_2), (Sl Kf a1_3), (Vw wa1_4), (Vw wa1_5), (Vi a1_6), (Vb false), (Vw wa1_4), (Vw wa1_5), (If 88 (Ag []))]), (Rg Kf 22 wa1_4 a1_4), (Rg Kf 22 wa1_5 a1_5)] (fun x : Unit => (Vl (.tuple #[]))) (fun x => [(Ur wa1 83 [(Sl Kf r181.1), (Sl Kf r181.2.1), (Sl Kf r181.2.2.1), (Sl Kf r181.2.2.2.1), (Vw wa1_4), (Vw wa1_5), (Vi r181.2.2.2.2.2.2.1), (Vb r181.2.2.2.2.2.2.2), (Vw wa1_4), (Vw wa1_5), (If 88 (Ag []))]), (Rg Kf 22 wa1_4 r181.2.2.2.2.1), (Rg Kf 22 wa1_5 r181.2.2.2.2.2.1)])) [0, 1, 2] [3] (by decide) (p3 rfl rfl rfl) (pc rfl pn) (Hn := fun x : Unit => [(Ur wa1 83 [(Sl Kf r181.1), (Sl Kf r181.2.1), (Sl Kf r181.2.2.1), (Sl Kf r181.2.2.2.1), (Vw wa1_4), (Vw wa1_5), (Vi r181.2.2.2.2.2.2.1), (Vb r181.2.2.2.2.2.2.2), (Vw wa1_4), (Vw wa1_5), (If 88 (Ag []))]), (Rg Kf 22 wa1_4 r181.2.2.2.2.1), (Rg Kf 22 wa1_5 r181.2.2.2.2.2.1), (Ur q6 88 [])]) (fun _ => rfl) rfl rfl) fun ⟨⟩ => ?_
      refine nk hK29 ?_
      refine cx_retc' ?_
      replace hp := sj hp
      subst hp
      refine tk (L' := []) (H' := [(Ur wa1 83 [(Sl Kf r181.1), (Sl Kf r181.2.1), (Sl Kf r181.2.2.1), (Sl Kf r181.2.2.2.1), (Vw wa1_4), (Vw wa1_5), (Vi r181.2.2.2.2.2.2.1), (Vb r181.2.2.2.2.2.2.2), (Vw wa1_4), (Vw wa1_5), (If 88 (Ag []))]), (Rg Kf 22 wa1_4 r181.2.2.2.2.1), (Rg Kf 22 wa1_5 r181.2.2.2.2.2.1)]) [0, 1, 2] un (p3 rfl rfl rfl) ?_
      exact tx_ret0' Tryz.results109 rfl () rfl lr
     replace hp := (br_f h7).symm.trans hp
     refine cx_skip' ?_
     show TX E K27 _
     refine tx_k' hK27 ?_
     refine cr fun K30 hK30 => ?_
     iterate 2 refine sm rfl ?_
     obtain ⟨r184, hr184, hp⟩ := bind_some hp
     refine so (ox_fop' (.inr (.inr (.inl rfl))) (fl_v rfl) (fl_v rfl) (Option.some.inj hr184) rfl rfl) fun _ => ?_
     iterate 2 refine sm rfl ?_
     obtain ⟨r187, hr187, hp⟩ := bind_some hp
     refine so (ox_fop' (.inr (.inr (.inl rfl))) (fl_v rfl) (fl_v rfl) (Option.some.inj hr187) rfl rfl) fun _ => ?_
     obtain ⟨r188, hr188, hp⟩ := bind_some hp
     refine so (ox_fop' (.inr (.inl rfl)) (fl_f rfl) (fl_f rfl) (Option.some.inj hr188) rfl rfl) fun _ => ?_
     refine sa rfl ?_
     refine nk hK30 ?_
     refine cr fun K31 hK31 => ?_
     refine sm rfl ?_
     refine sn rfl ?_
     refine sg (off := 8) rfl Tryz.underlying83 rfl info63 rfl ?_
     refine sl (i := 0) (o := 8) rfl (ar rfl rfl rfl rfl) rfl flat63 ?_
     iterate 2 refine sm rfl ?_
     obtain ⟨r195, hr195, hp⟩ := bind_some hp
     refine so (ox_fop' (.inr (.inr (.inr rfl))) (fl_f rfl) (fl_f rfl) (Option.some.inj hr195) rfl rfl) fun _ => ?_
     obtain ⟨r196, hr196, hp⟩ := bind_some hp
     refine s0 (rd_atr' (m := 1) rfl rfl rfl rfl hr196 Tryz.underlying63 info22) ?_
     obtain ⟨nu1, hnu1, hp⟩ := bind_some hp
     refine tx_slot' 195 (y := (Vg r195)) rfl (imp_num (num_some hnu1).2) ?_
     refine so (ox_storer' (m := 1) (i := 0) (j := 0) (x' := r195) rfl rfl (lv_vl rfl rfl) rfl rfl hr196 rfl rfl rfl info22 rfl (H' := [(Ur wa1 83 [(Sl Kf a1_0), (Sl Kf a1_1), (Sl Kf a1_2), (Sl Kf a1_3), (Vw wa1_4), (Vw wa1_5), (Vi a1_6), (Vb false), (Vw wa1_4), (Vw wa1_5), (If 88 (Ag []))]), (Rg Kf 22 wa1_4 (a1_4.set (0 : Int).toNat r195)), (Rg Kf 22 wa1_5 a1_5), (Ur q6 88 [])]) rfl) fun _ => ?_
     refine nk hK31 ?_
     refine cr fun K32 hK32 => ?_
     iterate 2 refine sm rfl ?_
     obtain ⟨r199, hr199, hp⟩ := bind_some hp
     refine so (ox_fop' (.inr (.inr (.inl rfl))) (fl_v rfl) (fl_v rfl) (Option.some.inj hr199) rfl rfl) fun _ => ?_
     iterate 2 refine sm rfl ?_
     obtain ⟨r202, hr202, hp⟩ := bind_some hp
     refine so (ox_fop' (.inr (.inr (.inl rfl))) (fl_v rfl) (fl_v rfl) (Option.some.inj hr202) rfl rfl) fun _ => ?_
     obtain ⟨r203, hr203, hp⟩ := bind_some hp
     refine so (ox_fop' (.inr (.inl rfl)) (fl_f rfl) (fl_f rfl) (Option.some.inj hr203) rfl rfl) fun _ => ?_
     refine sa rfl ?_
     refine nk hK32 ?_
     refine cr fun K33 hK33 => ?_
     refine sm rfl ?_
     refine sn rfl ?_
     refine sg (off := 8) rfl Tryz.underlying83 rfl info63 rfl ?_
     refine sl (i := 0) (o := 8) rfl (ar rfl rfl rfl rfl) rfl flat63 ?_
     iterate 2 refine sm rfl ?_
     obtain ⟨r210, hr210, hp⟩ := bind_some hp
     refine so (ox_fop' (.inr (.inr (.inr rfl))) (fl_f rfl) (fl_f rfl) (Option.some.inj hr210) rfl rfl) fun _ => ?_
     obtain ⟨r211, hr211, hp⟩ := bind_some hp
     refine s0 (rd_atr' (m := 1) rfl rfl rfl rfl hr211 Tryz.underlying63 info22) ?_
     obtain ⟨nu2, hnu2, hp⟩ := bind_some hp
     refine tx_slot' 210 (y := (Vg r210)) rfl (imp_num (num_some hnu2).2) ?_
     refine so (ox_storer' (m := 1) (i := 1) (j := 0) (x' := r210) rfl rfl (lv_vl rfl rfl) rfl rfl hr211 rfl rfl rfl info22 rfl (H' := [(Ur wa1 83 [(Sl Kf a1_0), (Sl Kf a1_1), (Sl Kf a1_2), (Sl Kf a1_3), (Vw wa1_4), (Vw wa1_5), (Vi a1_6), (Vb false), (Vw wa1_4), (Vw wa1_5), (If 88 (Ag []))]), (Rg Kf 22 wa1_4 ((a1_4.set (0 : Int).toNat r195).set (1 : Int).toNat r210)), (Rg Kf 22 wa1_5 a1_5), (Ur q6 88 [])]) rfl) fun _ => ?_
     refine nk hK33 ?_
     refine cr fun K34 hK34 => ?_
     refine sm rfl ?_
     refine sn rfl ?_
     refine sg (off := 7) rfl Tryz.underlying83 rfl info4 rfl ?_
     refine so (ox_store' (i := 0) (o := 7) rfl rfl (lv_vl rfl rfl) (ar rfl rfl rfl rfl) rfl info4 rfl (H' := [(Ur wa1 83 [(Sl Kf a1_0), (Sl Kf a1_1), (Sl Kf a1_2), (Sl Kf a1_3), (Vw wa1_4), (Vw wa1_5), (Vi a1_6), (Vb true), (Vw wa1_4), (Vw wa1_5), (If 88 (Ag []))]), (Rg Kf 22 wa1_4 ((a1_4.set (0 : Int).toNat r195).set (1 : Int).toNat r210)), (Rg Kf 22 wa1_5 a1_5), (Ur q6 88 [])]) rfl) fun _ => ?_
     refine nk hK34 ?_
     refine cx_join' (fun (v8 : Bool) => (⟨251, [], [(1, (Vp wa1))], [(Ur wa1 83 [(Sl Kf a1_0), (Sl Kf a1_1), (Sl Kf a1_2), (Sl Kf a1_3), (Vw wa1_4), (Vw wa1_5), (Vi a1_6), (Vb v8), (Vw wa1_4), (Vw wa1_5), (If 88 (Ag []))]), (Rg Kf 22 wa1_4 ((a1_4.set (0 : Int).toNat r195).set (1 : Int).toNat r210)), (Rg Kf 22 wa1_5 a1_5)]⟩ : St)) (fun (v8 : Bool) => lineintersector_NonRobustLineIntersector_computeLineOnLineIntersection_j8 k a1_0 a1_1 a1_2 a1_3 a1_4 r195 r210 a1_5 v8 = some out) ?_ ?_
     ·rintro x8 hp
      replace hp : lineintersector_NonRobustLineIntersector_computeLineOnLineIntersection_j8 k a1_0 a1_1 a1_2 a1_3 a1_4 r195 r210 a1_5 x8 = some out := hp
      unfold lineintersector_NonRobustLineIntersector_computeLineOnLineIntersection_j8 at hp
      refine cx_region' ?_
      refine sm rfl ?_
      refine sn rfl ?_
      refine sg (off := 6) rfl Tryz.underlying83 rfl info54 rfl ?_
      refine so (ox_store' (i := 0) (o := 6) rfl rfl (lv_vl rfl rfl) (ar rfl rfl rfl rfl) rfl info54 rfl (H' := [(Ur wa1 83 [(Sl Kf a1_0), (Sl Kf a1_1), (Sl Kf a1_2), (Sl Kf a1_3), (Vw wa1_4), (Vw wa1_5), (Vi 1), (Vb x8), (Vw wa1_4), (Vw wa1_5), (If 88 (Ag []))]), (Rg Kf 22 wa1_4 ((a1_4.set (0 : Int).toNat r195).set (1 : Int).toNat r210)), (Rg Kf 22 wa1_5 a1_5)]) rfl) fun _ => ?_
      refine sx_nil' ?_
      replace hp := sj hp
      subst hp
      refine tk (L' := []) (H' := [(Ur wa1 83 [(Sl Kf a1_0), (Sl Kf a1_1), (Sl Kf a1_2), (Sl Kf a1_3), (Vw wa1_4), (Vw wa1_5), (Vi 1), (Vb x8), (Vw wa1_4), (Vw wa1_5), (If 88 (Ag []))]), (Rg Kf 22 wa1_4 ((a1_4.set (0 : Int).toNat r195).set (1 : Int).toNat r210)), (Rg Kf 22 wa1_5 a1_5)]) [0, 1, 2] un (p3 rfl rfl rfl) ?_
      exact tx_end0' Tryz.results109 rfl () rfl lr
     intro K35 hK35
     refine cr fun K36 hK36 => ?_
     refine sm rfl ?_
     refine sn rfl ?_
     refine sg (off := 8) rfl Tryz.underlying83 rfl info63 rfl ?_
     refine sl (i := 0) (o := 8) rfl (ar rfl rfl rfl rfl) rfl flat63 ?_
     refine sm rfl ?_
     obtain ⟨r220, hr220, hp⟩ := bind_some hp
     refine so (ox_brw' (frz_row 1 [(192, (Vw wa1_4), (Sl Kf ((a1_4.set (0 : Int).toNat r195).set (1 : Int).toNat r210))), (207, (Vw wa1_4), (Sl Kf ((a1_4.set (0 : Int).toNat r195).set (1 : Int).toNat r210))), (218, (Vw wa1_4), (Sl Kf ((a1_4.set (0 : Int).toNat r195).set (1 : Int).toNat r210)))] (K := Kf) (xs := (a1_4.set (0 : Int).toNat r195).set (1 : Int).toNat r210) (by decide) rfl ⟨⟨rfl, frz_it⟩, ⟨rfl, frz_it⟩, ⟨rfl, frz_it⟩, trivial⟩ (H' := [(Ur wa1 83 [(Sl Kf a1_0), (Sl Kf a1_1), (Sl Kf a1_2), (Sl Kf a1_3), (Sl Kf ((a1_4.set (0 : Int).toNat r195).set (1 : Int).toNat r210)), (Vw wa1_5), (Vi a1_6), (Vb true), (Sl Kf ((a1_4.set (0 : Int).toNat r195).set (1 : Int).toNat r210)), (Vw wa1_5), (If 88 (Ag []))]), (Rg Kf 22 wa1_5 a1_5), (Ur q6 88 [])]) (fh rfl rfl rfl (fl fs (fl fs (fl fs (fl fs (fl frz_it (fl fs (fl fs (fl fs (fl frz_it (fl fs (fl fs frzL_refl))))))))))) (fk (fk frzH_refl)))) (ent_fn' Tryz.func113 isn113 rfl rfl) (gogeom_Coord_Equal_sim _ _ _ hr220 : Sx.Fn Tryz.prog 113 [(Sl Kf ((a1_4.set (0 : Int).toNat r195).set (1 : Int).toNat r210)), (Vi 1), (Sl Kf a2)] [] (fun x : Unit => (Vb r220)) (fun x => [])) pu_vl rfl rfl) fun ⟨⟩ => ?_
     refine sm rfl ?_
     refine sx_cutn' 7 (fun (v5 : Bool) => (⟨251, [], [(1, (Vp wa1)), (4, (Sl Kf a4)), (5, (Sl Kf a5)), (228, (Vb v5))], [(Ur wa1 83 [(Sl Kf a1_0), (Sl Kf a1_1), (Sl Kf a1_2), (Sl Kf a1_3), (Vw wa1_4), (Vw wa1_5), (Vi a1_6), (Vb true), (Vw wa1_4), (Vw wa1_5), (If 88 (Ag []))]), (Rg Kf 22 wa1_4 ((a1_4.set (0 : Int).toNat r195).set (1 : Int).toNat r210)), (Rg Kf 22 wa1_5 a1_5)]⟩ : St)) (fun (v5 : Bool) => lineintersector_NonRobustLineIntersector_computeLineOnLineIntersection_j5 k a1_0 a1_1 a1_2 a1_3 a1_4 r195 r210 a1_5 a5 a4 v5 = some out) ?_ ?_
     ·rintro x5 hp
      replace hp : lineintersector_NonRobustLineIntersector_computeLineOnLineIntersection_j5 k a1_0 a1_1 a1_2 a1_3 a1_4 r195 r210 a1_5 a5 a4 x5 = some out := hp
      unfold lineintersector_NonRobustLineIntersector_computeLineOnLineIntersection_j5 at hp
      refine sm rfl ?_
      refine sx_cutn' 7 (fun (v6 : Bool) => (⟨251, [], [(1, (Vp wa1)), (5, (Sl Kf a5)), (236, (Vb v6))], [(Ur wa1 83 [(Sl Kf a1_0), (Sl Kf a1_1), (Sl Kf a1_2), (Sl Kf a1_3), (Vw wa1_4), (Vw wa1_5), (Vi a1_6), (Vb true), (Vw wa1_4), (Vw wa1_5), (If 88 (Ag []))]), (Rg Kf 22 wa1_4 ((a1_4.set (0 : Int).toNat r195).set (1 : Int).toNat r210)), (Rg Kf 22 wa1_5 a1_5)]⟩ : St)) (fun (v6 : Bool) => lineintersector_NonRobustLineIntersector_computeLineOnLineIntersection_j6 k a1_0 a1_1 a1_2 a1_3 a1_4 r195 r210 a1_5 a5 v6 = some out) ?_ ?_
      ·rintro x6 hp
       replace hp : lineintersector_NonRobustLineIntersector_computeLineOnLineIntersection_j6 k a1_0 a1_1 a1_2 a1_3 a1_4 r195 r210 a1_5 a5 x6 = some out := hp
       unfold lineintersector_NonRobustLineIntersector_computeLineOnLineIntersection_j6 at hp
       refine sm rfl ?_
       refine sx_cutn' 7 (fun (v7 : Bool) => (⟨251, [], [(1, (Vp wa1)), (244, (Vb v7))], [(Ur wa1 83 [(Sl Kf a1_0), (Sl Kf a1_1), (Sl Kf a1_2), (Sl Kf a1_3), (Vw wa1_4), (Vw wa1_5), (Vi a1_6), (Vb true), (Vw wa1_4), (Vw wa1_5), (If 88 (Ag []))]), (Rg Kf 22 wa1_4 ((a1_4.set (0 : Int).toNat r195).set (1 : Int).toNat r210)), (Rg Kf 22 wa1_5 a1_5)]⟩ : St)) (fun (v7 : Bool) => lineintersector_NonRobustLineIntersector_computeLineOnLineIntersection_j7 k a1_0 a1_1 a1_2 a1_3 a1_4 r195 r210 a1_5 v7 = some out) ?_ ?_
       ·rintro x7 hp
        replace hp : lineintersector_NonRobustLineIntersector_computeLineOnLineIntersection_j7 k a1_0 a1_1 a1_2 a1_3 a1_4 r195 r210 a1_5 x7 = some out := hp
        unfold lineintersector_NonRobustLineIntersector_computeLineOnLineIntersection_j7 at hp
        refine nk hK36 ?_
        refine cx_cond' rfl (fun h11 => ?_) (fun h11 => ?_)
        ·replace hp := (br_t h11).symm.trans hp
         refine cx_region' ?_
         refine sm rfl ?_
         refine sn rfl ?_
         refine sg (off := 7) rfl Tryz.underlying83 rfl info4 rfl ?_
         refine so (ox_store' (i := 0) (o := 7) rfl rfl (lv_vl rfl rfl) (ar rfl rfl rfl rfl) rfl info4 rfl (H' := [(Ur wa1 83 [(Sl Kf a1_0), (Sl Kf a1_1), (Sl Kf a1_2), (Sl Kf a1_3), (Vw wa1_4), (Vw wa1_5), (Vi a1_6), (Vb false), (Vw wa1_4), (Vw wa1_5), (If 88 (Ag []))]), (Rg Kf 22 wa1_4 ((a1_4.set (0 : Int).toNat r195).set (1 : Int).toNat r210)), (Rg Kf 22 wa1_5 a1_5)]) rfl) fun _ => ?_
         refine sx_nil' ?_
         show TX E K35 _
         exact tk [0,1,2] (uc rfl un) (p3 rfl rfl rfl) (hK35 false hp)
        replace hp := (br_f h11).symm.trans hp
        refine cx_skip' ?_
        show TX E K35 _
        exact tk [0,1,2] (uc rfl un) (p3 rfl rfl rfl) (hK35 true hp)
       intro K39 hK39
       rcases br_cases hp with ⟨h10, hp⟩ | ⟨h10, hp⟩
       ·refine sx_skip' rfl rfl (wt_is' (wt_guard' rfl rfl rfl) (beq_tf h10)) ?_
        iterate 5 refine sx_skip' rfl rfl (wt_is' (wt_guard' rfl rfl rfl) (beq_tf h10)) ?_
        refine s0 (rd_pick_true' rfl h10 rfl) ?_
        refine sx_nil' ?_
        show TX E K39 _
        exact tk [0,1,2] (u2 rfl rfl) (p3 rfl rfl rfl) (hK39 true hp)
       refine sx_rd' (rd_move' rfl) rfl rfl (wt_is' (wt_guard' rfl rfl rfl) (beq_ff h10)) ?_
       refine sx_rd' (rd_nilck' rfl) rfl rfl (wt_is' (wt_guard' rfl rfl rfl) (beq_ff h10)) ?_
       refine sx_rd' (rd_field' (off := 8) rfl Tryz.underlying83 rfl info63 rfl) rfl rfl (wt_is' (wt_guard' rfl rfl rfl) (beq_ff h10)) ?_
       refine sx_rd' (rd_load' (i := 0) (o := 8) rfl (ar rfl rfl rfl rfl) rfl flat63) rfl rfl (wt_is' (wt_guard' rfl rfl rfl) (beq_ff h10)) ?_
       refine sx_rd' (rd_move' rfl) rfl rfl (wt_is' (wt_guard' rfl rfl rfl) (beq_ff h10)) ?_
       obtain ⟨r243, hr243, hp⟩ := bind_some hp
       refine sx_ox' (ox_brw' (frz_row 1 [(241, (Vw wa1_4), (Sl Kf ((a1_4.set (0 : Int).toNat r195).set (1 : Int).toNat r210)))] (K := Kf) (xs := (a1_4.set (0 : Int).toNat r195).set (1 : Int).toNat r210) (by decide) rfl ⟨⟨rfl, frz_it⟩, trivial⟩ (H' := [(Ur wa1 83 [(Sl Kf a1_0), (Sl Kf a1_1), (Sl Kf a1_2), (Sl Kf a1_3), (Sl Kf ((a1_4.set (0 : Int).toNat r195).set (1 : Int).toNat r210)), (Vw wa1_5), (Vi a1_6), (Vb true), (Sl Kf ((a1_4.set (0 : Int).toNat r195).set (1 : Int).toNat r210)), (Vw wa1_5), (If 88 (Ag []))]), (Rg Kf 22 wa1_5 a1_5)]) (fh rfl rfl rfl (fl fs (fl fs (fl fs (fl fs (fl frz_it (fl fs (fl fs (fl fs (fl frz_it (fl fs (fl fs frzL_refl))))))))))) (fk frzH_refl))) (ent_fn' Tryz.func113 isn113 rfl rfl) (gogeom_Coord_Equal_sim _ _ _ hr243 : Sx.Fn Tryz.prog 113 [(Sl Kf ((a1_4.set (0 : Int).toNat r195).set (1 : Int).toNat r210)), (Vi 1), (Sl Kf a5)] [] (fun x : Unit => (Vb r243)) (fun x => [])) pu_vl rfl rfl) (wt_is' (wt_guard' rfl rfl rfl) (beq_ff h10)) fun ⟨⟩ => ?_
       refine s0 (rd_pick_false' rfl h10 rfl) ?_
       refine sx_nil' ?_
       show TX E K39 _
       exact tk [0,1,2] (u2 rfl rfl) (p3 rfl rfl rfl) (hK39 r243 hp)
      intro K38 hK38
      rcases br_cases hp with ⟨h9, hp⟩ | ⟨h9, hp⟩
      ·refine sx_skip' rfl rfl (wt_is' (wt_guard' rfl rfl rfl) (beq_tf h9)) ?_
       iterate 5 refine sx_skip' rfl rfl (wt_is' (wt_guard' rfl rfl rfl) (beq_tf h9)) ?_
       refine s0 (rd_pick_true' rfl h9 rfl) ?_
       refine sx_nil' ?_
       show TX E K38 _
       exact tk [0,1,2] (u3 rfl rfl rfl) (p3 rfl rfl rfl) (hK38 true hp)
      refine sx_rd' (rd_move' rfl) rfl rfl (wt_is' (wt_guard' rfl rfl rfl) (beq_ff h9)) ?_
      refine sx_rd' (rd_nilck' rfl) rfl rfl (wt_is' (wt_guard' rfl rfl rfl) (beq_ff h9)) ?_
      refine sx_rd' (rd_field' (off := 8) rfl Tryz.underlying83 rfl info63 rfl) rfl rfl (wt_is' (wt_guard' rfl rfl rfl) (beq_ff h9)) ?_
      refine sx_rd' (rd_load' (i := 0) (o := 8) rfl (ar rfl rfl rfl rfl) rfl flat63) rfl rfl (wt_is' (wt_guard' rfl rfl rfl) (beq_ff h9)) ?_
      refine sx_rd' (rd_move' rfl) rfl rfl (wt_is' (wt_guard' rfl rfl rfl) (beq_ff h9)) ?_
      obtain ⟨r235, hr235, hp⟩ := bind_some hp
      refine sx_ox' (ox_brw' (frz_row 1 [(233, (Vw wa1_4), (Sl Kf ((a1_4.set (0 : Int).toNat r195).set (1 : Int).toNat r210)))] (K := Kf) (xs := (a1_4.set (0 : Int).toNat r195).set (1 : Int).toNat r210) (by decide) rfl ⟨⟨rfl, frz_it⟩, trivial⟩ (H' := [(Ur wa1 83 [(Sl Kf a1_0), (Sl Kf a1_1), (Sl Kf a1_2), (Sl Kf a1_3), (Sl Kf ((a1_4.set (0 : Int).toNat r195).set (1 : Int).toNat r210)), (Vw wa1_5), (Vi a1_6), (Vb true), (Sl Kf ((a1_4.set (0 : Int).toNat r195).set (1 : Int).toNat r210)), (Vw wa1_5), (If 88 (Ag []))]), (Rg Kf 22 wa1_5 a1_5)]) (fh rfl rfl rfl (fl fs (fl fs (fl fs (fl fs (fl frz_it (fl fs (fl fs (fl fs (fl frz_it (fl fs (fl fs frzL_refl))))))))))) (fk frzH_refl))) (ent_fn' Tryz.func113 isn113 rfl rfl) (gogeom_Coord_Equal_sim _ _ _ hr235 : Sx.Fn Tryz.prog 113 [(Sl Kf ((a1_4.set (0 : Int).toNat r195).set (1 : Int).toNat r210)), (Vi 1), (Sl Kf a4)] [] (fun x : Unit => (Vb r235)) (fun x => [])) pu_vl rfl rfl) (wt_is' (wt_guard' rfl rfl rfl) (beq_ff h9)) fun ⟨⟩ => ?_
      refine s0 (rd_pick_false' rfl h9 rfl) ?_
      refine sx_nil' ?_
      show TX E K38 _
      exact tk [0,1,2] (u3 rfl rfl rfl) (p3 rfl rfl rfl) (hK38 r235 hp)
     intro K37 hK37
     rcases br_cases hp with ⟨h8, hp⟩ | ⟨h8, hp⟩
     ·refine sx_skip' rfl rfl (wt_is' (wt_guard' rfl rfl rfl) (beq_tf h8)) ?_
      iterate 5 refine sx_skip' rfl rfl (wt_is' (wt_guard' rfl rfl rfl) (beq_tf h8)) ?_
      refine s0 (rd_pick_true' rfl h8 rfl) ?_
      refine sx_nil' ?_
      show TX E K37 _
      exact tk [0,1,2] (u4 rfl rfl rfl rfl) (p3 rfl rfl rfl) (hK37 true hp)
     refine sx_rd' (rd_move' rfl) rfl rfl (wt_is' (wt_guard' rfl rfl rfl) (beq_ff h8)) ?_
     refine sx_rd' (rd_nilck' rfl) rfl rfl (wt_is' (wt_guard' rfl rfl rfl) (beq_ff h8)) ?_
     refine sx_rd' (rd_field' (off := 8) rfl Tryz.underlying83 rfl info63 rfl) rfl rfl (wt_is' (wt_guard' rfl rfl rfl) (beq_ff h8)) ?_
     refine sx_rd' (rd_load' (i := 0) (o := 8) rfl (ar rfl rfl rfl rfl) rfl flat63) rfl rfl (wt_is' (wt_guard' rfl rfl rfl) (beq_ff h8)) ?_
     refine sx_rd' (rd_move' rfl) rfl rfl (wt_is' (wt_guard' rfl rfl rfl) (beq_ff h8)) ?_
     obtain ⟨r227, hr227, hp⟩ := bind_some hp
     refine sx_ox' (ox_brw' (frz_row 1 [(192, (Vw wa1_4), (Sl Kf ((a1_4.set (0 : Int).toNat r195).set (1 : Int).toNat r210))), (207, (Vw wa1_4), (Sl Kf ((a1_4.set (0 : Int).toNat r195).set (1 : Int).toNat r210))), (218, (Vw wa1_4), (Sl Kf ((a1_4.set (0 : Int).toNat r195).set (1 : Int).toNat r210))), (225, (Vw wa1_4), (Sl Kf ((a1_4.set (0 : Int).toNat r195).set (1 : Int).toNat r210)))] (K := Kf) (xs := (a1_4.set (0 : Int).toNat r195).set (1 : Int).toNat r210) (by decide) rfl ⟨⟨rfl, frz_it⟩, ⟨rfl, frz_it⟩, ⟨rfl, frz_it⟩, ⟨rfl, frz_it⟩, trivial⟩ (H' := [(Ur wa1 83 [(Sl Kf a1_0), (Sl Kf a1_1), (Sl Kf a1_2), (Sl Kf a1_3), (Sl Kf ((a1_4.set (0 : Int).toNat r195).set (1 : Int).toNat r210)), (Vw wa1_5), (Vi a1_6), (Vb true), (Sl Kf ((a1_4.set (0 : Int).toNat r195).set (1 : Int).toNat r210)), (Vw wa1_5), (If 88 (Ag []))]), (Rg Kf 22 wa1_5 a1_5), (Ur q6 88 [])]) (fh rfl rfl rfl (fl fs (fl fs (fl fs (fl fs (fl frz_it (fl fs (fl fs (fl fs (fl frz_it (fl fs (fl fs frzL_refl))))))))))) (fk (fk frzH_refl)))) (ent_fn' Tryz.func113 isn113 rfl rfl) (gogeom_Coord_Equal_sim _ _ _ hr227 : Sx.Fn Tryz.prog 113 [(Sl Kf ((a1_4.set (0 : Int).toNat r195).set (1 : Int).toNat r210)), (Vi 1), (Sl Kf a3)] [] (fun x : Unit => (Vb r227)) (fun x => [])) pu_vl rfl rfl) (wt_is' (wt_guard' rfl rfl rfl) (beq_ff h8)) fun ⟨⟩ => ?_
     refine s0 (rd_pick_false' rfl h8 rfl) ?_
     refine sx_nil' ?_
     show TX E K37 _
     exact tk [0,1,2] (u4 rfl rfl rfl rfl) (p3 rfl rfl rfl) (hK37 r227 hp)
    intro K24 hK24
    rcases br_cases hp with ⟨h5, hp⟩ | ⟨h5, hp⟩
    ·refine sx_rd' (rd_move' rfl) rfl rfl (wt_is' (wt_guard' rfl rfl rfl) (beq_tt h5)) ?_
     refine sx_rd' (rd_move' rfl) rfl rfl (wt_is' (wt_guard' rfl rfl rfl) (beq_tt h5)) ?_
     obtain ⟨r161, hr161, hp⟩ := bind_some hp
     refine sx_ox' (oz (ent_fn' Tryz.func111 isn111 rfl rfl) (inner_IsSameSignAndNonZero_sim _ _ hr161)) (wt_is' (wt_guard' rfl rfl rfl) (beq_tt h5)) fun ⟨⟩ => ?_
     refine s0 (rd_pick_true' rfl h5 rfl) ?_
     refine sx_nil' ?_
     show TX E K24 _
     exact tk [0,1,2,3] (u13 rfl rfl rfl rfl rfl rfl rfl rfl rfl rfl rfl rfl rfl) (p4 rfl rfl rfl rfl) (hK24 r161 hp)
    iterate 3 refine sx_skip' rfl rfl (wt_is' (wt_guard' rfl rfl rfl) (beq_ft h5)) ?_
    refine s0 (rd_pick_false' rfl h5 rfl) ?_
    refine sx_nil' ?_
    show TX E K24 _
    exact tk [0,1,2,3] (u13 rfl rfl rfl rfl rfl rfl rfl rfl rfl rfl rfl rfl rfl) (p4 rfl rfl rfl rfl) (hK24 false hp)
   intro K23 hK23
   rcases br_cases hp with ⟨h4, hp⟩ | ⟨h4, hp⟩
   ·refine sx_rd' (rd_move' rfl) rfl rfl (wt_is' (wt_guard' rfl rfl rfl) (beq_tt h4)) ?_
    refine sx_rd' (rd_bin' rfl rfl eg_flt ru_fne) rfl rfl (wt_is' (wt_guard' rfl rfl rfl) (beq_tt h4)) ?_
    refine s0 (rd_pick_true' rfl h4 rfl) ?_
    refine sx_nil' ?_
    show TX E K23 _
    exact tk [0,1,2,3] (u15 rfl rfl rfl rfl rfl rfl rfl rfl rfl rfl rfl rfl rfl rfl rfl) (p4 rfl rfl rfl rfl) (hK23 (fne r151 0) hp)
   iterate 2 refine sx_skip' rfl rfl (wt_is' (wt_guard' rfl rfl rfl) (beq_ft h4)) ?_
   refine s0 (rd_pick_false' rfl h4 rfl) ?_
   refine sx_nil' ?_
   show TX E K23 _
   exact tk [0,1,2,3] (u15 rfl rfl rfl rfl rfl rfl rfl rfl rfl rfl rfl rfl rfl rfl rfl) (p4 rfl rfl rfl rfl) (hK23 false hp)
  intro K14 hK14
  rcases br_cases hp with ⟨h2, hp⟩ | ⟨h2, hp⟩
  ·refine sx_rd' (rd_move' rfl) rfl rfl (wt_is' (wt_guard' rfl rfl rfl) (beq_tt h2)) ?_
   refine sx_rd' (rd_move' rfl) rfl rfl (wt_is' (wt_guard' rfl rfl rfl) (beq_tt h2)) ?_
   obtain ⟨r92, hr92, hp⟩ := bind_some hp
   refine sx_ox' (oz (ent_fn' Tryz.func111 isn111 rfl rfl) (inner_IsSameSignAndNonZero_sim _ _ hr92)) (wt_is' (wt_guard' rfl rfl rfl) (beq_tt h2)) fun ⟨⟩ => ?_
   refine s0 (rd_pick_true' rfl h2 rfl) ?_
   refine sx_nil' ?_
   show TX E K14 _
   exact tk [0,1,2,3] (u10 rfl rfl rfl rfl rfl rfl rfl rfl rfl rfl) (p4 rfl rfl rfl rfl) (hK14 r92 hp)
  iterate 3 refine sx_skip' rfl rfl (wt_is' (wt_guard' rfl rfl rfl) (beq_ft h2)) ?_
  refine s0 (rd_pick_false' rfl h2 rfl) ?_
  refine sx_nil' ?_
  show TX E K14 _
  exact tk [0,1,2,3] (u10 rfl rfl rfl rfl rfl rfl rfl rfl rfl rfl) (p4 rfl rfl rfl rfl) (hK14 false hp)
 intro K13 hK13
 rcases br_cases hp with ⟨h1, hp⟩ | ⟨h1, hp⟩
 ·refine sx_rd' (rd_move' rfl) rfl rfl (wt_is' (wt_guard' rfl rfl rfl) (beq_tt h1)) ?_
  refine sx_rd' (rd_bin' rfl rfl eg_flt ru_fne) rfl rfl (wt_is' (wt_guard' rfl rfl rfl) (beq_tt h1)) ?_
  refine s0 (rd_pick_true' rfl h1 rfl) ?_
  refine sx_nil' ?_
  show TX E K13 _
  exact tk [1,2,3,0] (u12 rfl rfl rfl rfl rfl rfl rfl rfl rfl rfl rfl rfl) (p4 rfl rfl rfl rfl) (hK13 (fne r82 0) hp)
 iterate 2 refine sx_skip' rfl rfl (wt_is' (wt_guard' rfl rfl rfl) (beq_ft h1)) ?_
 refine s0 (rd_pick_false' rfl h1 rfl) ?_
 refine sx_nil' ?_
 show TX E K13 _
 exact tk [1,2,3,0] (u12 rfl rfl rfl rfl rfl rfl rfl rfl rfl rfl rfl rfl) (p4 rfl rfl rfl rfl) (hK13 false hp)

def lineintersection_NewResult (k : Nat) (a0 : Int) (a1 : List (List Nat)) : Option (Int × (List (List Nat))) :=
 some (a0, a1)

theorem lineintersection_NewResult_sim {k : Nat}  (a0 : Int) (a1 : List (List Nat)) {out : Int × (List (List Nat))} (hp : lineintersection_NewResult k a0 a1 = some out) : Sx.Fn Tryz.prog 42 (C6 a0 a1) [] (fun w : Unit => (Ag (C6 out.1 out.2))) (fun w => []) := by
 unfold lineintersection_NewResult at hp
 refine fn_of Tryz.func42 rfl Tryz.ntmps42 rfl fun E hM => ?_
 refine cr fun K1 hK1 => ?_
 refine so (ox_alloc' info57 rfl rfl rfl rfl (l := [(Vi 0), Vn]) rfl) fun q4 => ?_
 refine nk hK1 ?_
 refine cr fun K2 hK2 => ?_
 iterate 2 refine sm rfl ?_
 refine sv (pls := [(0, 1), (1, 1)]) (qs := [(0, [(Vi a0)]), (1, [(Sl (Kl Kf) a1)])]) (r := (C6 a0 a1)) ⟨rfl, ⟨_, rfl, (lv_vl rfl rfl)⟩, ⟨rfl, ⟨_, rfl, (lv_sl _ _)⟩, trivial⟩⟩ Tryz.underlying57 has57 places57 info57 rfl rfl rfl ?_
 refine so (ox_store' (i := 0) (o := 0) rfl rfl (lv_ag _) (ar rfl rfl rfl rfl) rfl info57 rfl (H' := [(Ur q4 57 (C6 a0 a1))]) rfl) fun _ => ?_
 refine nk hK2 ?_
 refine cx_retc' ?_
 replace hp := sj hp
 subst hp
 refine tk (L' := [(4, (Vp q4))]) (H' := [(Ur q4 57 (C6 a0 a1))]) [0] (uc rfl un) (pc rfl pn) ?_
 exact tx_ret1' Tryz.results42 rfl () (rv_cell_agg' (i := 0) (o := 0) (nn := 2) rfl (ar rfl rfl rfl rfl) rfl agg57 rfl) (List.nil_sublist _)

def lineintersector_LineIntersectsLine_j1a (k : Nat) (r48 : (List Nat) × (List Nat) × (List Nat) × (List Nat) × (List Nat) × (List Nat) × Int × Bool) : Option (Int × (List (List Nat))) :=
 (lineintersection_NewResult k r48.2.2.2.2.2.2.1 []) >>= fun r73 =>
 some (r73.1, r73.2)
def lineintersector_LineIntersectsLine_j1b (k : Nat) (r48 : (List Nat) × (List Nat) × (List Nat) × (List Nat) × (List Nat) × (List Nat) × Int × Bool) (x1 : List (List Nat)) : Option (Int × (List (List Nat))) :=
 (lineintersection_NewResult k r48.2.2.2.2.2.2.1 x1) >>= fun r73 =>
 some (r73.1, r73.2)
def lineintersector_LineIntersectsLine (k : Nat) (a1 a2 : List Nat) (a3 a4 : List Nat) : Option (Int × (List (List Nat))) :=
 (lineintersector_NonRobustLineIntersector_computeLineOnLineIntersection k a3 a4 a1 a2 ([0, 0]) ([0, 0]) 0 false a1 a2 a3 a4) >>= fun r48 =>
 br (decide (r48.2.2.2.2.2.2.1 = 0))
  (lineintersector_LineIntersectsLine_j1a k r48)
  (br (decide (r48.2.2.2.2.2.2.1 = 1))
   ((cut [r48.2.2.2.2.1, r48.2.2.2.2.2.1] 0 1) >>= fun r61 =>
   lineintersector_LineIntersectsLine_j1b k r48 r61)
   (br (decide (r48.2.2.2.2.2.2.1 = 2))
    ((cut [r48.2.2.2.2.1, r48.2.2.2.2.2.1] 0 2) >>= fun r67 =>
    lineintersector_LineIntersectsLine_j1b k r48 r67)
    (lineintersector_LineIntersectsLine_j1a k r48)))

theorem lineintersector_LineIntersectsLine_sim {k : Nat}  (a1 a2 : List Nat) (a3 a4 : List Nat) {out : Int × (List (List Nat))} (hp : lineintersector_LineIntersectsLine k a1 a2 a3 a4 = some out) : Sx.Fn Tryz.prog 20 [(If 88 (Ag [])), (Sl Kf a1), (Sl Kf a2), (Sl Kf a3), (Sl Kf a4)] [] (fun w : Unit => (Ag (C6 out.1 out.2))) (fun w => []) := by
 unfold lineintersector_LineIntersectsLine at hp
 refine fn_of Tryz.func20 rfl Tryz.ntmps20 rfl fun E hM => ?_
 refine cr fun K1 hK1 => ?_
 refine so (ox_alloc' info57 rfl rfl rfl rfl (l := [(Vi 0), Vn]) rfl) fun q10 => ?_
 refine nk hK1 ?_
 refine cr fun K2 hK2 => ?_
 iterate 3 refine sm rfl ?_
 refine s0 (rd_builda' (qs := [(0, [(Sl Kf a3)]), (1, [(Sl Kf a4)])]) (r := [(Sl Kf a3), (Sl Kf a4)]) ⟨rfl, ⟨_, rfl, (lv_sl _ _)⟩, ⟨rfl, ⟨_, rfl, (lv_sl _ _)⟩, trivial⟩⟩ Tryz.underlying80 info63 info80 rfl rfl rfl) ?_
 iterate 2 refine sm rfl ?_
 refine s0 (rd_builda' (qs := [(0, [(Sl Kf a1)]), (1, [(Sl Kf a2)])]) (r := [(Sl Kf a1), (Sl Kf a2)]) ⟨rfl, ⟨_, rfl, (lv_sl _ _)⟩, ⟨rfl, ⟨_, rfl, (lv_sl _ _)⟩, trivial⟩⟩ Tryz.underlying80 info63 info80 rfl rfl rfl) ?_
 refine s0 (rd_builda' (qs := [(0, [(Sl Kf a3), (Sl Kf a4)]), (1, [(Sl Kf a1), (Sl Kf a2)])]) (r := [(Sl Kf a3), (Sl Kf a4), (Sl Kf a1), (Sl Kf a2)]) ⟨rfl, ⟨_, rfl, (lv_ag _)⟩, ⟨rfl, ⟨_, rfl, (lv_ag _)⟩, trivial⟩⟩ Tryz.underlying81 info80 info81 rfl rfl rfl) ?_
 refine so (ox_rowlit' (K := Kf) (xs := [0, 0]) (qs := [(0, [(Vg 0)]), (1, [(Vg 0)])]) ⟨rfl, ⟨_, rfl, (lv_vl rfl rfl)⟩, ⟨rfl, ⟨_, rfl, (lv_vl rfl rfl)⟩, trivial⟩⟩ Tryz.underlying63 info22 rfl rfl rfl rfl rfl (by kernel_rfl) rfl rfl rfl) fun g21 => ?_
 refine so (ox_rowlit' (K := Kf) (xs := [0, 0]) (qs := [(0, [(Vg 0)]), (1, [(Vg 0)])]) ⟨rfl, ⟨_, rfl, (lv_vl rfl rfl)⟩, ⟨rfl, ⟨_, rfl, (lv_vl rfl rfl)⟩, trivial⟩⟩ Tryz.underlying63 info22 rfl rfl rfl rfl rfl (by kernel_rfl) rfl rfl rfl) fun g22 => ?_
 refine s0 (rd_builda' (qs := [(0, [(Vw g21)]), (1, [(Vw g22)])]) (r := [(Vw g21), (Vw g22)]) ⟨rfl, ⟨_, rfl, (lv_vl rfl rfl)⟩, ⟨rfl, ⟨_, rfl, (lv_vl rfl rfl)⟩, trivial⟩⟩ Tryz.underlying80 info63 info80 rfl rfl rfl) ?_
 refine sv (pls := [(0, 4), (4, 2), (6, 1), (7, 1), (8, 1), (9, 1), (10, 1)]) (qs := [(6, [(If 88 (Ag []))]), (0, [(Sl Kf a3), (Sl Kf a4), (Sl Kf a1), (Sl Kf a2)]), (1, [(Vw g21), (Vw g22)])]) (r := [(Sl Kf a3), (Sl Kf a4), (Sl Kf a1), (Sl Kf a2), (Vw g21), (Vw g22), (Vi 0), (Vb false), Vn, Vn, (If 88 (Ag []))]) ⟨rfl, ⟨_, rfl, (lv_if _ _)⟩, ⟨rfl, ⟨_, rfl, (lv_ag _)⟩, ⟨rfl, ⟨_, rfl, (lv_ag _)⟩, trivial⟩⟩⟩ Tryz.underlying83 has83 places83 info83 rfl rfl rfl ?_
 refine so (ox_box' rfl (lv_ag _) rfl rfl) fun q25 => ?_
 refine sa rfl ?_
 refine nk hK2 ?_
 refine cr fun K3 hK3 => ?_
 iterate 2 refine sm rfl ?_
 refine sn rfl ?_
 refine sg (off := 4) rfl Tryz.underlying83 rfl info80 rfl ?_
 refine s0 (rd_ixa' (p' := (q25).add 4) rfl rfl (by decide) (by decide) Tryz.underlying80 info63 (addr_add_add ..)) ?_
 refine sl (i := 0) (o := 4) rfl (ar rfl rfl rfl rfl) rfl flat63 ?_
 refine sn rfl ?_
 refine sg (off := 8) rfl Tryz.underlying83 rfl info63 rfl ?_
 refine so (ox_store' (i := 0) (o := 8) rfl rfl (lv_vl rfl rfl) (ar rfl rfl rfl rfl) rfl info63 rfl (H' := [(Ur q25 83 [(Sl Kf a3), (Sl Kf a4), (Sl Kf a1), (Sl Kf a2), (Vw g21), (Vw g22), (Vi 0), (Vb false), (Vw g21), Vn, (If 88 (Ag []))]), (Rg Kf 22 g22 ([0, 0])), (Rg Kf 22 g21 ([0, 0])), (Ur q10 57 [(Vi 0), Vn])]) rfl) fun _ => ?_
 refine nk hK3 ?_
 refine cr fun K4 hK4 => ?_
 iterate 2 refine sm rfl ?_
 refine sn rfl ?_
 refine sg (off := 4) rfl Tryz.underlying83 rfl info80 rfl ?_
 refine s0 (rd_ixa' (p' := (q25).add 5) rfl rfl (by decide) (by decide) Tryz.underlying80 info63 (addr_add_add ..)) ?_
 refine sl (i := 0) (o := 5) rfl (ar rfl rfl rfl rfl) rfl flat63 ?_
 refine sn rfl ?_
 refine sg (off := 9) rfl Tryz.underlying83 rfl info63 rfl ?_
 refine so (ox_store' (i := 0) (o := 9) rfl rfl (lv_vl rfl rfl) (ar rfl rfl rfl rfl) rfl info63 rfl (H' := [(Ur q25 83 [(Sl Kf a3), (Sl Kf a4), (Sl Kf a1), (Sl Kf a2), (Vw g21), (Vw g22), (Vi 0), (Vb false), (Vw g21), (Vw g22), (If 88 (Ag []))]), (Rg Kf 22 g22 ([0, 0])), (Rg Kf 22 g21 ([0, 0])), (Ur q10 57 [(Vi 0), Vn])]) rfl) fun _ => ?_
 refine nk hK4 ?_
 refine cr fun K5 hK5 => ?_
 iterate 6 refine sm rfl ?_
 obtain ⟨r48, hr48, hp⟩ := bind_some hp
 refine so (ox_callg' (ent_inv' rfl rfl (inv_any5 inv88_pub_orthodrome_pub_gogeom_xy_lineintersector_computeLineOnLineIntersection)) (lineintersector_NonRobustLineIntersector_computeLineOnLineIntersection_sim _ _ _ _ _ _ _ _ _ _ _ _ hr48 : Sx.Fn Tryz.prog 109 [(Ag []), (Vp q25), (Sl Kf a1), (Sl Kf a2), (Sl Kf a3), (Sl Kf a4)] [(Ur q25 83 [(Sl Kf a3), (Sl Kf a4), (Sl Kf a1), (Sl Kf a2), (Vw g21), (Vw g22), (Vi 0), (Vb false), (Vw g21), (Vw g22), (If 88 (Ag []))]), (Rg Kf 22 g21 ([0, 0])), (Rg Kf 22 g22 ([0, 0]))] (fun x : Unit => (Vl (.tuple #[]))) (fun x => [(Ur q25 83 [(Sl Kf r48.1), (Sl Kf r48.2.1), (Sl Kf r48.2.2.1), (Sl Kf r48.2.2.2.1), (Vw g21), (Vw g22), (Vi r48.2.2.2.2.2.2.1), (Vb r48.2.2.2.2.2.2.2), (Vw g21), (Vw g22), (If 88 (Ag []))]), (Rg Kf 22 g21 r48.2.2.2.2.1), (Rg Kf 22 g22 r48.2.2.2.2.2.1)])) [0, 2, 1] [3] (by decide) (p3 rfl rfl rfl) (pc rfl pn) (Hn := fun x : Unit => [(Ur q25 83 [(Sl Kf r48.1), (Sl Kf r48.2.1), (Sl Kf r48.2.2.1), (Sl Kf r48.2.2.2.1), (Vw g21), (Vw g22), (Vi r48.2.2.2.2.2.2.1), (Vb r48.2.2.2.2.2.2.2), (Vw g21), (Vw g22), (If 88 (Ag []))]), (Rg Kf 22 g21 r48.2.2.2.2.1), (Rg Kf 22 g22 r48.2.2.2.2.2.1), (Ur q10 57 [(Vi 0), Vn])]) (fun _ => rfl) rfl rfl) fun ⟨⟩ => ?_
 refine nk hK5 ?_
 refine cr fun K6 hK6 => ?_
 refine sa rfl ?_
 refine nk hK6 ?_
 refine cx_join' (fun (v : Gs ⊕ (List (List Nat))) => match v with | (.inl v1) => (⟨74, [], [(10, (Vp q10)), (11, (Vp q25)), (12, (Vw v1))], [(Ur q10 57 [(Vi 0), Vn]), (Ur q25 83 [(Sl Kf r48.1), (Sl Kf r48.2.1), (Sl Kf r48.2.2.1), (Sl Kf r48.2.2.2.1), (Vw g21), (Vw g22), (Vi r48.2.2.2.2.2.2.1), (Vb r48.2.2.2.2.2.2.2), (Vw g21), (Vw g22), (If 88 (Ag []))]), (Rg Kf 22 g21 r48.2.2.2.2.1), (Rg Kf 22 g22 r48.2.2.2.2.2.1), (Rw (Kl Kf) 63 (Vs v1) [])]⟩ : St) | (.inr v2) => (⟨74, [], [(10, (Vp q10)), (11, (Pt [(Sl Kf r48.1), (Sl Kf r48.2.1), (Sl Kf r48.2.2.1), (Sl Kf r48.2.2.2.1), (Sl Kf r48.2.2.2.2.1), (Sl Kf r48.2.2.2.2.2.1), (Vi r48.2.2.2.2.2.2.1), (Vb r48.2.2.2.2.2.2.2), (Sl Kf r48.2.2.2.2.1), (Sl Kf r48.2.2.2.2.2.1), (If 88 (Ag []))])), (12, (Sl (Kl Kf) v2))], [(Ur q10 57 [(Vi 0), Vn])]⟩ : St)) (fun (v : Gs ⊕ (List (List Nat))) => match v with | (.inl v1) => (lineintersector_LineIntersectsLine_j1a k r48 = some out) | (.inr v2) => (lineintersector_LineIntersectsLine_j1b k r48 v2 = some out)) ?_ ?_
 ·rintro (g901 | x1) hp
  ·replace hp : lineintersector_LineIntersectsLine_j1a k r48 = some out := hp
   unfold lineintersector_LineIntersectsLine_j1a at hp
   refine cr fun K12 hK12 => ?_
   refine sm rfl ?_
   refine sn rfl ?_
   refine sg (off := 6) rfl Tryz.underlying83 rfl info54 rfl ?_
   refine sl (i := 1) (o := 6) rfl (ar rfl rfl rfl rfl) rfl flat54 ?_
   refine sm rfl ?_
   refine tx_fz' (frz_row 4 [(12, (Vw g901), (Sl (Kl Kf) [])), (72, (Vw g901), (Sl (Kl Kf) []))] (K := (Kl Kf)) (xs := []) (by decide) rfl ⟨⟨rfl, frz_it⟩, ⟨rfl, frz_it⟩, trivial⟩ (H' := [(Ur q10 57 [(Vi 0), Vn]), (Ur q25 83 [(Sl Kf r48.1), (Sl Kf r48.2.1), (Sl Kf r48.2.2.1), (Sl Kf r48.2.2.2.1), (Vw g21), (Vw g22), (Vi r48.2.2.2.2.2.2.1), (Vb r48.2.2.2.2.2.2.2), (Vw g21), (Vw g22), (If 88 (Ag []))]), (Rg Kf 22 g21 r48.2.2.2.2.1), (Rg Kf 22 g22 r48.2.2.2.2.2.1)]) frzH_refl) ?_
   obtain ⟨r73, hr73, hp⟩ := bind_some hp
   refine so (oz (ent_fn' Tryz.func42 isn42 rfl rfl) (lineintersection_NewResult_sim _ _ hr73)) fun ⟨⟩ => ?_
   refine so (ox_store' (i := 0) (o := 0) rfl rfl (lv_ag _) (ar rfl rfl rfl rfl) rfl info57 rfl (H' := [(Ur q10 57 (C6 r73.1 r73.2)), (Ur q25 83 [(Sl Kf r48.1), (Sl Kf r48.2.1), (Sl Kf r48.2.2.1), (Sl Kf r48.2.2.2.1), (Vw g21), (Vw g22), (Vi r48.2.2.2.2.2.2.1), (Vb r48.2.2.2.2.2.2.2), (Vw g21), (Vw g22), (If 88 (Ag []))]), (Rg Kf 22 g21 r48.2.2.2.2.1), (Rg Kf 22 g22 r48.2.2.2.2.2.1)]) rfl) fun _ => ?_
   refine nk hK12 ?_
   refine cx_retc' ?_
   replace hp := sj hp
   subst hp
   refine tk (L' := [(10, (Vp q10))]) (H' := [(Ur q10 57 (C6 r73.1 r73.2))]) [0] (uc rfl un) (pc rfl pn) ?_
   exact tx_ret1' Tryz.results20 rfl () (rv_cell_agg' (i := 0) (o := 0) (nn := 2) rfl (ar rfl rfl rfl rfl) rfl agg57 rfl) (List.nil_sublist _)
  replace hp : lineintersector_LineIntersectsLine_j1b k r48 x1 = some out := hp
  unfold lineintersector_LineIntersectsLine_j1b at hp
  refine cr fun K12 hK12 => ?_
  refine sm rfl ?_
  refine s0 (rd_nilck_pt' rfl) ?_
  refine s0 (rd_field_pt' (off := 6) rfl Tryz.underlying83 rfl info54 rfl (l' := [(Vi r48.2.2.2.2.2.2.1), (Vb r48.2.2.2.2.2.2.2), (Sl Kf r48.2.2.2.2.1), (Sl Kf r48.2.2.2.2.2.1), (If 88 (Ag []))]) rfl) ?_
  refine s0 (rd_load_pt' rfl rfl flat54) ?_
  refine sm rfl ?_
  obtain ⟨r73, hr73, hp⟩ := bind_some hp
  refine so (oz (ent_fn' Tryz.func42 isn42 rfl rfl) (lineintersection_NewResult_sim _ _ hr73)) fun ⟨⟩ => ?_
  refine so (ox_store' (i := 0) (o := 0) rfl rfl (lv_ag _) (ar rfl rfl rfl rfl) rfl info57 rfl (H' := [(Ur q10 57 (C6 r73.1 r73.2))]) rfl) fun _ => ?_
  refine nk hK12 ?_
  refine cx_retc' ?_
  replace hp := sj hp
  subst hp
  refine tk (L' := [(10, (Vp q10))]) (H' := [(Ur q10 57 (C6 r73.1 r73.2))]) [0] (uc rfl un) (pc rfl pn) ?_
  exact tx_ret1' Tryz.results20 rfl () (rv_cell_agg' (i := 0) (o := 0) (nn := 2) rfl (ar rfl rfl rfl rfl) rfl agg57 rfl) (List.nil_sublist _)
 intro K7 hK7
 refine cr fun K8 hK8 => ?_
 refine sm rfl ?_
 refine sn rfl ?_
 refine sg (off := 6) rfl Tryz.underlying83 rfl info54 rfl ?_
 refine sl (i := 0) (o := 6) rfl (ar rfl rfl rfl rfl) rfl flat54 ?_
 refine nk hK8 ?_
 refine cx_block' ?_
 refine cr fun K9 hK9 => ?_
 refine sb rfl rfl eg_int ru_eql ?_
 refine sa rfl ?_
 refine nk hK9 ?_
 refine cx_cond' rfl (fun h1 => ?_) (fun h1 => ?_)
 ·replace hp := (br_t h1).symm.trans hp
  refine cx_region' ?_
  refine so (ox_rowlit' (K := (Kl Kf)) (xs := []) (qs := []) trivial Tryz.underlying55 info63 rfl rfl rfl rfl rfl (by kernel_rfl) rfl rfl rfl) fun g55 => ?_
  refine sa rfl ?_
  refine sx_nil' ?_
  show TX E K7 _
  exact tk [4,1,2,3,0] (u3 rfl rfl rfl) (p5 rfl rfl rfl rfl rfl) (hK7 (.inl g55) hp)
 replace hp := (br_f h1).symm.trans hp
 refine cr fun K10 hK10 => ?_
 refine sb rfl rfl eg_int ru_eql ?_
 refine sa rfl ?_
 refine nk hK10 ?_
 refine cx_cond' rfl (fun h2 => ?_) (fun h2 => ?_)
 ·replace hp := (br_t h2).symm.trans hp
  refine cx_region' ?_
  refine sm rfl ?_
  refine sn rfl ?_
  refine sg (off := 4) rfl Tryz.underlying83 rfl info80 rfl ?_
  refine tx_fz' (frz_row 1 [(21, (Vw g21), (Sl Kf r48.2.2.2.2.1)), (23, (Ag [(Vw g21), (Vw g22)]), (Ag [(Sl Kf r48.2.2.2.2.1), (Vw g22)])), (24, (Ag [(Sl Kf a3), (Sl Kf a4), (Sl Kf a1), (Sl Kf a2), (Vw g21), (Vw g22), (Vi 0), (Vb false), Vn, Vn, (If 88 (Ag []))]), (Ag [(Sl Kf a3), (Sl Kf a4), (Sl Kf a1), (Sl Kf a2), (Sl Kf r48.2.2.2.2.1), (Vw g22), (Vi 0), (Vb false), Vn, Vn, (If 88 (Ag []))])), (31, (Vw g21), (Sl Kf r48.2.2.2.2.1))] (K := Kf) (xs := r48.2.2.2.2.1) (by decide) rfl ⟨⟨rfl, frz_it⟩, ⟨rfl, fz_ag (fc fz0_it (fc f0 fz0_nil))⟩, ⟨rfl, fz_ag (fc f0 (fc f0 (fc f0 (fc f0 (fc fz0_it (fc f0 (fc f0 (fc f0 (fc f0 (fc f0 (fc f0 fz0_nil)))))))))))⟩, ⟨rfl, frz_it⟩, trivial⟩ (H' := [(Ur q25 83 [(Sl Kf r48.1), (Sl Kf r48.2.1), (Sl Kf r48.2.2.1), (Sl Kf r48.2.2.2.1), (Sl Kf r48.2.2.2.2.1), (Vw g22), (Vi r48.2.2.2.2.2.2.1), (Vb r48.2.2.2.2.2.2.2), (Sl Kf r48.2.2.2.2.1), (Vw g22), (If 88 (Ag []))]), (Rg Kf 22 g22 r48.2.2.2.2.2.1), (Ur q10 57 [(Vi 0), Vn])]) (fh rfl rfl rfl (fl fs (fl fs (fl fs (fl fs (fl frz_it (fl fs (fl fs (fl fs (fl frz_it (fl fs (fl fs frzL_refl))))))))))) (fk (fk frzH_refl)))) ?_
  refine tx_fz' (frz_row 1 [(22, (Vw g22), (Sl Kf r48.2.2.2.2.2.1)), (23, (Ag [(Sl Kf r48.2.2.2.2.1), (Vw g22)]), (Ag [(Sl Kf r48.2.2.2.2.1), (Sl Kf r48.2.2.2.2.2.1)])), (24, (Ag [(Sl Kf a3), (Sl Kf a4), (Sl Kf a1), (Sl Kf a2), (Sl Kf r48.2.2.2.2.1), (Vw g22), (Vi 0), (Vb false), Vn, Vn, (If 88 (Ag []))]), (Ag [(Sl Kf a3), (Sl Kf a4), (Sl Kf a1), (Sl Kf a2), (Sl Kf r48.2.2.2.2.1), (Sl Kf r48.2.2.2.2.2.1), (Vi 0), (Vb false), Vn, Vn, (If 88 (Ag []))])), (39, (Vw g22), (Sl Kf r48.2.2.2.2.2.1))] (K := Kf) (xs := r48.2.2.2.2.2.1) (by decide) rfl ⟨⟨rfl, frz_it⟩, ⟨rfl, fz_ag (fc f0 (fc fz0_it fz0_nil))⟩, ⟨rfl, fz_ag (fc f0 (fc f0 (fc f0 (fc f0 (fc f0 (fc fz0_it (fc f0 (fc f0 (fc f0 (fc f0 (fc f0 fz0_nil)))))))))))⟩, ⟨rfl, frz_it⟩, trivial⟩ (H' := [(Ur q25 83 [(Sl Kf r48.1), (Sl Kf r48.2.1), (Sl Kf r48.2.2.1), (Sl Kf r48.2.2.2.1), (Sl Kf r48.2.2.2.2.1), (Sl Kf r48.2.2.2.2.2.1), (Vi r48.2.2.2.2.2.2.1), (Vb r48.2.2.2.2.2.2.2), (Sl Kf r48.2.2.2.2.1), (Sl Kf r48.2.2.2.2.2.1), (If 88 (Ag []))]), (Ur q10 57 [(Vi 0), Vn])]) (fh rfl rfl rfl (fl fs (fl fs (fl fs (fl fs (fl fs (fl frz_it (fl fs (fl fs (fl fs (fl frz_it (fl fs frzL_refl))))))))))) (fk frzH_refl))) ?_
  refine tx_fz' (frz_varx 0 [(25, (Vp q25), (Pt [(Sl Kf r48.1), (Sl Kf r48.2.1), (Sl Kf r48.2.2.1), (Sl Kf r48.2.2.2.1), (Sl Kf r48.2.2.2.2.1), (Sl Kf r48.2.2.2.2.2.1), (Vi r48.2.2.2.2.2.2.1), (Vb r48.2.2.2.2.2.2.2), (Sl Kf r48.2.2.2.2.1), (Sl Kf r48.2.2.2.2.2.1), (If 88 (Ag []))])), (11, (Vp q25), (Pt [(Sl Kf r48.1), (Sl Kf r48.2.1), (Sl Kf r48.2.2.1), (Sl Kf r48.2.2.2.1), (Sl Kf r48.2.2.2.2.1), (Sl Kf r48.2.2.2.2.2.1), (Vi r48.2.2.2.2.2.2.1), (Vb r48.2.2.2.2.2.2.2), (Sl Kf r48.2.2.2.2.1), (Sl Kf r48.2.2.2.2.2.1), (If 88 (Ag []))])), (26, (Vp q25), (Pt [(Sl Kf r48.1), (Sl Kf r48.2.1), (Sl Kf r48.2.2.1), (Sl Kf r48.2.2.2.1), (Sl Kf r48.2.2.2.2.1), (Sl Kf r48.2.2.2.2.2.1), (Vi r48.2.2.2.2.2.2.1), (Vb r48.2.2.2.2.2.2.2), (Sl Kf r48.2.2.2.2.1), (Sl Kf r48.2.2.2.2.2.1), (If 88 (Ag []))])), (27, (Vp q25), (Pt [(Sl Kf r48.1), (Sl Kf r48.2.1), (Sl Kf r48.2.2.1), (Sl Kf r48.2.2.2.1), (Sl Kf r48.2.2.2.2.1), (Sl Kf r48.2.2.2.2.2.1), (Vi r48.2.2.2.2.2.2.1), (Vb r48.2.2.2.2.2.2.2), (Sl Kf r48.2.2.2.2.1), (Sl Kf r48.2.2.2.2.2.1), (If 88 (Ag []))])), (28, (Vp q25), (Pt [(Sl Kf r48.1), (Sl Kf r48.2.1), (Sl Kf r48.2.2.1), (Sl Kf r48.2.2.2.1), (Sl Kf r48.2.2.2.2.1), (Sl Kf r48.2.2.2.2.2.1), (Vi r48.2.2.2.2.2.2.1), (Vb r48.2.2.2.2.2.2.2), (Sl Kf r48.2.2.2.2.1), (Sl Kf r48.2.2.2.2.2.1), (If 88 (Ag []))])), (29, (Vp ((q25).add 4)), (Pt [(Sl Kf r48.2.2.2.2.1), (Sl Kf r48.2.2.2.2.2.1), (Vi r48.2.2.2.2.2.2.1), (Vb r48.2.2.2.2.2.2.2), (Sl Kf r48.2.2.2.2.1), (Sl Kf r48.2.2.2.2.2.1), (If 88 (Ag []))])), (30, (Vp ((q25).add 4)), (Pt [(Sl Kf r48.2.2.2.2.1), (Sl Kf r48.2.2.2.2.2.1), (Vi r48.2.2.2.2.2.2.1), (Vb r48.2.2.2.2.2.2.2), (Sl Kf r48.2.2.2.2.1), (Sl Kf r48.2.2.2.2.2.1), (If 88 (Ag []))])), (32, (Vp q25), (Pt [(Sl Kf r48.1), (Sl Kf r48.2.1), (Sl Kf r48.2.2.1), (Sl Kf r48.2.2.2.1), (Sl Kf r48.2.2.2.2.1), (Sl Kf r48.2.2.2.2.2.1), (Vi r48.2.2.2.2.2.2.1), (Vb r48.2.2.2.2.2.2.2), (Sl Kf r48.2.2.2.2.1), (Sl Kf r48.2.2.2.2.2.1), (If 88 (Ag []))])), (33, (Vp ((q25).add 8)), (Pt [(Sl Kf r48.2.2.2.2.1), (Sl Kf r48.2.2.2.2.2.1), (If 88 (Ag []))])), (34, (Vp q25), (Pt [(Sl Kf r48.1), (Sl Kf r48.2.1), (Sl Kf r48.2.2.1), (Sl Kf r48.2.2.2.1), (Sl Kf r48.2.2.2.2.1), (Sl Kf r48.2.2.2.2.2.1), (Vi r48.2.2.2.2.2.2.1), (Vb r48.2.2.2.2.2.2.2), (Sl Kf r48.2.2.2.2.1), (Sl Kf r48.2.2.2.2.2.1), (If 88 (Ag []))])), (35, (Vp q25), (Pt [(Sl Kf r48.1), (Sl Kf r48.2.1), (Sl Kf r48.2.2.1), (Sl Kf r48.2.2.2.1), (Sl Kf r48.2.2.2.2.1), (Sl Kf r48.2.2.2.2.2.1), (Vi r48.2.2.2.2.2.2.1), (Vb r48.2.2.2.2.2.2.2), (Sl Kf r48.2.2.2.2.1), (Sl Kf r48.2.2.2.2.2.1), (If 88 (Ag []))])), (36, (Vp q25), (Pt [(Sl Kf r48.1), (Sl Kf r48.2.1), (Sl Kf r48.2.2.1), (Sl Kf r48.2.2.2.1), (Sl Kf r48.2.2.2.2.1), (Sl Kf r48.2.2.2.2.2.1), (Vi r48.2.2.2.2.2.2.1), (Vb r48.2.2.2.2.2.2.2), (Sl Kf r48.2.2.2.2.1), (Sl Kf r48.2.2.2.2.2.1), (If 88 (Ag []))])), (37, (Vp ((q25).add 4)), (Pt [(Sl Kf r48.2.2.2.2.1), (Sl Kf r48.2.2.2.2.2.1), (Vi r48.2.2.2.2.2.2.1), (Vb r48.2.2.2.2.2.2.2), (Sl Kf r48.2.2.2.2.1), (Sl Kf r48.2.2.2.2.2.1), (If 88 (Ag []))])), (38, (Vp ((q25).add 5)), (Pt [(Sl Kf r48.2.2.2.2.2.1), (Vi r48.2.2.2.2.2.2.1), (Vb r48.2.2.2.2.2.2.2), (Sl Kf r48.2.2.2.2.1), (Sl Kf r48.2.2.2.2.2.1), (If 88 (Ag []))])), (40, (Vp q25), (Pt [(Sl Kf r48.1), (Sl Kf r48.2.1), (Sl Kf r48.2.2.1), (Sl Kf r48.2.2.2.1), (Sl Kf r48.2.2.2.2.1), (Sl Kf r48.2.2.2.2.2.1), (Vi r48.2.2.2.2.2.2.1), (Vb r48.2.2.2.2.2.2.2), (Sl Kf r48.2.2.2.2.1), (Sl Kf r48.2.2.2.2.2.1), (If 88 (Ag []))])), (41, (Vp ((q25).add 9)), (Pt [(Sl Kf r48.2.2.2.2.2.1), (If 88 (Ag []))])), (43, (Vp q25), (Pt [(Sl Kf r48.1), (Sl Kf r48.2.1), (Sl Kf r48.2.2.1), (Sl Kf r48.2.2.2.1), (Sl Kf r48.2.2.2.2.1), (Sl Kf r48.2.2.2.2.2.1), (Vi r48.2.2.2.2.2.2.1), (Vb r48.2.2.2.2.2.2.2), (Sl Kf r48.2.2.2.2.1), (Sl Kf r48.2.2.2.2.2.1), (If 88 (Ag []))])), (49, (Vp q25), (Pt [(Sl Kf r48.1), (Sl Kf r48.2.1), (Sl Kf r48.2.2.1), (Sl Kf r48.2.2.2.1), (Sl Kf r48.2.2.2.2.1), (Sl Kf r48.2.2.2.2.2.1), (Vi r48.2.2.2.2.2.2.1), (Vb r48.2.2.2.2.2.2.2), (Sl Kf r48.2.2.2.2.1), (Sl Kf r48.2.2.2.2.2.1), (If 88 (Ag []))])), (50, (Vp q25), (Pt [(Sl Kf r48.1), (Sl Kf r48.2.1), (Sl Kf r48.2.2.1), (Sl Kf r48.2.2.2.1), (Sl Kf r48.2.2.2.2.1), (Sl Kf r48.2.2.2.2.2.1), (Vi r48.2.2.2.2.2.2.1), (Vb r48.2.2.2.2.2.2.2), (Sl Kf r48.2.2.2.2.1), (Sl Kf r48.2.2.2.2.2.1), (If 88 (Ag []))])), (51, (Vp ((q25).add 6)), (Pt [(Vi r48.2.2.2.2.2.2.1), (Vb r48.2.2.2.2.2.2.2), (Sl Kf r48.2.2.2.2.1), (Sl Kf r48.2.2.2.2.2.1), (If 88 (Ag []))])), (58, (Vp q25), (Pt [(Sl Kf r48.1), (Sl Kf r48.2.1), (Sl Kf r48.2.2.1), (Sl Kf r48.2.2.2.1), (Sl Kf r48.2.2.2.2.1), (Sl Kf r48.2.2.2.2.2.1), (Vi r48.2.2.2.2.2.2.1), (Vb r48.2.2.2.2.2.2.2), (Sl Kf r48.2.2.2.2.1), (Sl Kf r48.2.2.2.2.2.1), (If 88 (Ag []))])), (59, (Vp q25), (Pt [(Sl Kf r48.1), (Sl Kf r48.2.1), (Sl Kf r48.2.2.1), (Sl Kf r48.2.2.2.1), (Sl Kf r48.2.2.2.2.1), (Sl Kf r48.2.2.2.2.2.1), (Vi r48.2.2.2.2.2.2.1), (Vb r48.2.2.2.2.2.2.2), (Sl Kf r48.2.2.2.2.1), (Sl Kf r48.2.2.2.2.2.1), (If 88 (Ag []))])), (60, (Vp ((q25).add 4)), (Pt [(Sl Kf r48.2.2.2.2.1), (Sl Kf r48.2.2.2.2.2.1), (Vi r48.2.2.2.2.2.2.1), (Vb r48.2.2.2.2.2.2.2), (Sl Kf r48.2.2.2.2.1), (Sl Kf r48.2.2.2.2.2.1), (If 88 (Ag []))]))] rfl ⟨⟨rfl, 0, rfl, rfl⟩, ⟨rfl, 0, rfl, rfl⟩, ⟨rfl, 0, rfl, rfl⟩, ⟨rfl, 0, rfl, rfl⟩, ⟨rfl, 0, rfl, rfl⟩, ⟨rfl, 4, rfl, rfl⟩, ⟨rfl, 4, rfl, rfl⟩, ⟨rfl, 0, rfl, rfl⟩, ⟨rfl, 8, rfl, rfl⟩, ⟨rfl, 0, rfl, rfl⟩, ⟨rfl, 0, rfl, rfl⟩, ⟨rfl, 0, rfl, rfl⟩, ⟨rfl, 4, rfl, rfl⟩, ⟨rfl, 5, rfl, rfl⟩, ⟨rfl, 0, rfl, rfl⟩, ⟨rfl, 9, rfl, rfl⟩, ⟨rfl, 0, rfl, rfl⟩, ⟨rfl, 0, rfl, rfl⟩, ⟨rfl, 0, rfl, rfl⟩, ⟨rfl, 6, rfl, rfl⟩, ⟨rfl, 0, rfl, rfl⟩, ⟨rfl, 0, rfl, rfl⟩, ⟨rfl, 4, rfl, rfl⟩, trivial⟩ (H' := [(Ur q10 57 [(Vi 0), Vn])]) rfl) ?_
  obtain ⟨r61, hr61, hp⟩ := bind_some hp
  refine s0 (rd_cut_pt' (K := (Kl Kf)) 2 [r48.2.2.2.2.1, r48.2.2.2.2.2.1] rfl rfl rfl rfl hr61 Tryz.underlying80 info63) ?_
  refine sa rfl ?_
  refine sx_nil' ?_
  show TX E K7 _
  exact tk [0] (u3 rfl rfl rfl) (pc rfl pn) (hK7 (.inr r61) hp)
 replace hp := (br_f h2).symm.trans hp
 refine cr fun K11 hK11 => ?_
 refine sb rfl rfl eg_int ru_eql ?_
 refine sa rfl ?_
 refine nk hK11 ?_
 refine cx_cond' rfl (fun h3 => ?_) (fun h3 => ?_)
 ·replace hp := (br_t h3).symm.trans hp
  refine cx_region' ?_
  refine sm rfl ?_
  refine sn rfl ?_
  refine sg (off := 4) rfl Tryz.underlying83 rfl info80 rfl ?_
  refine tx_fz' (frz_row 1 [(21, (Vw g21), (Sl Kf r48.2.2.2.2.1)), (23, (Ag [(Vw g21), (Vw g22)]), (Ag [(Sl Kf r48.2.2.2.2.1), (Vw g22)])), (24, (Ag [(Sl Kf a3), (Sl Kf a4), (Sl Kf a1), (Sl Kf a2), (Vw g21), (Vw g22), (Vi 0), (Vb false), Vn, Vn, (If 88 (Ag []))]), (Ag [(Sl Kf a3), (Sl Kf a4), (Sl Kf a1), (Sl Kf a2), (Sl Kf r48.2.2.2.2.1), (Vw g22), (Vi 0), (Vb false), Vn, Vn, (If 88 (Ag []))])), (31, (Vw g21), (Sl Kf r48.2.2.2.2.1))] (K := Kf) (xs := r48.2.2.2.2.1) (by decide) rfl ⟨⟨rfl, frz_it⟩, ⟨rfl, fz_ag (fc fz0_it (fc f0 fz0_nil))⟩, ⟨rfl, fz_ag (fc f0 (fc f0 (fc f0 (fc f0 (fc fz0_it (fc f0 (fc f0 (fc f0 (fc f0 (fc f0 (fc f0 fz0_nil)))))))))))⟩, ⟨rfl, frz_it⟩, trivial⟩ (H' := [(Ur q25 83 [(Sl Kf r48.1), (Sl Kf r48.2.1), (Sl Kf r48.2.2.1), (Sl Kf r48.2.2.2.1), (Sl Kf r48.2.2.2.2.1), (Vw g22), (Vi r48.2.2.2.2.2.2.1), (Vb r48.2.2.2.2.2.2.2), (Sl Kf r48.2.2.2.2.1), (Vw g22), (If 88 (Ag []))]), (Rg Kf 22 g22 r48.2.2.2.2.2.1), (Ur q10 57 [(Vi 0), Vn])]) (fh rfl rfl rfl (fl fs (fl fs (fl fs (fl fs (fl frz_it (fl fs (fl fs (fl fs (fl frz_it (fl fs (fl fs frzL_refl))))))))))) (fk (fk frzH_refl)))) ?_
  refine tx_fz' (frz_row 1 [(22, (Vw g22), (Sl Kf r48.2.2.2.2.2.1)), (23, (Ag [(Sl Kf r48.2.2.2.2.1), (Vw g22)]), (Ag [(Sl Kf r48.2.2.2.2.1), (Sl Kf r48.2.2.2.2.2.1)])), (24, (Ag [(Sl Kf a3), (Sl Kf a4), (Sl Kf a1), (Sl Kf a2), (Sl Kf r48.2.2.2.2.1), (Vw g22), (Vi 0), (Vb false), Vn, Vn, (If 88 (Ag []))]), (Ag [(Sl Kf a3), (Sl Kf a4), (Sl Kf a1), (Sl Kf a2), (Sl Kf r48.2.2.2.2.1), (Sl Kf r48.2.2.2.2.2.1), (Vi 0), (Vb false), Vn, Vn, (If 88 (Ag []))])), (39, (Vw g22), (Sl Kf r48.2.2.2.2.2.1))] (K := Kf) (xs := r48.2.2.2.2.2.1) (by decide) rfl ⟨⟨rfl, frz_it⟩, ⟨rfl, fz_ag (fc f0 (fc fz0_it fz0_nil))⟩, ⟨rfl, fz_ag (fc f0 (fc f0 (fc f0 (fc f0 (fc f0 (fc fz0_it (fc f0 (fc f0 (fc f0 (fc f0 (fc f0 fz0_nil)))))))))))⟩, ⟨rfl, frz_it⟩, trivial⟩ (H' := [(Ur q25 83 [(Sl Kf r48.1), (Sl Kf r48.2.1), (Sl Kf r48.2.2.1), (Sl Kf r48.2.2.2.1), (Sl Kf r48.2.2.2.2.1), (Sl Kf r48.2.2.2.2.2.1), (Vi r48.2.2.2.2.2.2.1), (Vb r48.2.2.2.2.2.2.2), (Sl Kf r48.2.2.2.2.1), (Sl Kf r48.2.2.2.2.2.1), (If 88 (Ag []))]), (Ur q10 57 [(Vi 0), Vn])]) (fh rfl rfl rfl (fl fs (fl fs (fl fs (fl fs (fl fs (fl frz_it (fl fs (fl fs (fl fs (fl frz_it (fl fs frzL_refl))))))))))) (fk frzH_refl))) ?_
  refine tx_fz' (frz_varx 0 [(25, (Vp q25), (Pt [(Sl Kf r48.1), (Sl Kf r48.2.1), (Sl Kf r48.2.2.1), (Sl Kf r48.2.2.2.1), (Sl Kf r48.2.2.2.2.1), (Sl Kf r48.2.2.2.2.2.1), (Vi r48.2.2.2.2.2.2.1), (Vb r48.2.2.2.2.2.2.2), (Sl Kf r48.2.2.2.2.1), (Sl Kf r48.2.2.2.2.2.1), (If 88 (Ag []))])), (11, (Vp q25), (Pt [(Sl Kf r48.1), (Sl Kf r48.2.1), (Sl Kf r48.2.2.1), (Sl Kf r48.2.2.2.1), (Sl Kf r48.2.2.2.2.1), (Sl Kf r48.2.2.2.2.2.1), (Vi r48.2.2.2.2.2.2.1), (Vb r48.2.2.2.2.2.2.2), (Sl Kf r48.2.2.2.2.1), (Sl Kf r48.2.2.2.2.2.1), (If 88 (Ag []))])), (26, (Vp q25), (Pt [(Sl Kf r48.1), (Sl Kf r48.2.1), (Sl Kf r48.2.2.1), (Sl Kf r48.2.2.2.1), (Sl Kf r48.2.2.2.2.1), (Sl Kf r48.2.2.2.2.2.1), (Vi r48.2.2.2.2.2.2.1), (Vb r48.2.2.2.2.2.2.2), (Sl Kf r48.2.2.2.2.1), (Sl Kf r48.2.2.2.2.2.1), (If 88 (Ag []))])), (27, (Vp q25), (Pt [(Sl Kf r48.1), (Sl Kf r48.2.1), (Sl Kf r48.2.2.1), (Sl Kf r48.2.2.2.1), (Sl Kf r48.2.2.2.2.1), (Sl Kf r48.2.2.2.2.2.1), (Vi r48.2.2.2.2.2.2.1), (Vb r48.2.2.2.2.2.2.2), (Sl Kf r48.2.2.2.2.1), (Sl Kf r48.2.2.2.2.2.1), (If 88 (Ag []))])), (28, (Vp q25), (Pt [(Sl Kf r48.1), (Sl Kf r48.2.1), (Sl Kf r48.2.2.1), (Sl Kf r48.2.2.2.1), (Sl Kf r48.2.2.2.2.1), (Sl Kf r48.2.2.2.2.2.1), (Vi r48.2.2.2.2.2.2.1), (Vb r48.2.2.2.2.2.2.2), (Sl Kf r48.2.2.2.2.1), (Sl Kf r48.2.2.2.2.2.1), (If 88 (Ag []))])), (29, (Vp ((q25).add 4)), (Pt [(Sl Kf r48.2.2.2.2.1), (Sl Kf r48.2.2.2.2.2.1), (Vi r48.2.2.2.2.2.2.1), (Vb r48.2.2.2.2.2.2.2), (Sl Kf r48.2.2.2.2.1), (Sl Kf r48.2.2.2.2.2.1), (If 88 (Ag []))])), (30, (Vp ((q25).add 4)), (Pt [(Sl Kf r48.2.2.2.2.1), (Sl Kf r48.2.2.2.2.2.1), (Vi r48.2.2.2.2.2.2.1), (Vb r48.2.2.2.2.2.2.2), (Sl Kf r48.2.2.2.2.1), (Sl Kf r48.2.2.2.2.2.1), (If 88 (Ag []))])), (32, (Vp q25), (Pt [(Sl Kf r48.1), (Sl Kf r48.2.1), (Sl Kf r48.2.2.1), (Sl Kf r48.2.2.2.1), (Sl Kf r48.2.2.2.2.1), (Sl Kf r48.2.2.2.2.2.1), (Vi r48.2.2.2.2.2.2.1), (Vb r48.2.2.2.2.2.2.2), (Sl Kf r48.2.2.2.2.1), (Sl Kf r48.2.2.2.2.2.1), (If 88 (Ag []))])), (33, (Vp ((q25).add 8)), (Pt [(Sl Kf r48.2.2.2.2.1), (Sl Kf r48.2.2.2.2.2.1), (If 88 (Ag []))])), (34, (Vp q25), (Pt [(Sl Kf r48.1), (Sl Kf r48.2.1), (Sl Kf r48.2.2.1), (Sl Kf r48.2.2.2.1), (Sl Kf r48.2.2.2.2.1), (Sl Kf r48.2.2.2.2.2.1), (Vi r48.2.2.2.2.2.2.1), (Vb r48.2.2.2.2.2.2.2), (Sl Kf r48.2.2.2.2.1), (Sl Kf r48.2.2.2.2.2.1), (If 88 (Ag []))])), (35, (Vp q25), (Pt [(Sl Kf r48.1), (Sl Kf r48.2.1), (Sl Kf r48.2.2.1), (Sl Kf r48.2.2.2.1), (Sl Kf r48.2.2.2.2.1), (Sl Kf r48.2.2.2.2.2.1), (Vi r48.2.2.2.2.2.2.1), (Vb r48.2.2.2.2.2.2.2), (Sl Kf r48.2.2.2.2.1), (Sl Kf r48.2.2.2.2.2.1), (If 88 (Ag []))])), (36, (Vp q25), (Pt [(Sl Kf r48.1), (Sl Kf r48.2.1), (Sl Kf r48.2.2.1), (Sl Kf r48.2.2.2.1), (Sl Kf r48.2.2.2.2.1), (Sl Kf r48.2.2.2.2.2.1), (Vi r48.2.2.2.2.2.2.1), (Vb r48.2.2.2.2.2.2.2), (Sl Kf r48.2.2.2.2.1), (Sl Kf r48.2.2.2.2.2.1), (If 88 (Ag []))])), (37, (Vp ((q25).add 4)), (Pt [(Sl Kf r48.2.2.2.2.1), (Sl Kf r48.2.2.2.2.2.1), (Vi r48.2.2.2.2.2.2.1), (Vb r48.2.2.2.2.2.2.2), (Sl Kf r48.2.2.2.2.1), (Sl Kf r48.2.2.2.2.2.1), (If 88 (Ag []))])), (38, (Vp ((q25).add 5)), (Pt [(Sl Kf r48.2.2.2.2.2.1), (Vi r48.2.2.2.2.2.2.1), (Vb r48.2.2.2.2.2.2.2), (Sl Kf r48.2.2.2.2.1), (Sl Kf r48.2.2.2.2.2.1), (If 88 (Ag []))])), (40, (Vp q25), (Pt [(Sl Kf r48.1), (Sl Kf r48.2.1), (Sl Kf r48.2.2.1), (Sl Kf r48.2.2.2.1), (Sl Kf r48.2.2.2.2.1), (Sl Kf r48.2.2.2.2.2.1), (Vi r48.2.2.2.2.2.2.1), (Vb r48.2.2.2.2.2.2.2), (Sl Kf r48.2.2.2.2.1), (Sl Kf r48.2.2.2.2.2.1), (If 88 (Ag []))])), (41, (Vp ((q25).add 9)), (Pt [(Sl Kf r48.2.2.2.2.2.1), (If 88 (Ag []))])), (43, (Vp q25), (Pt [(Sl Kf r48.1), (Sl Kf r48.2.1), (Sl Kf r48.2.2.1), (Sl Kf r48.2.2.2.1), (Sl Kf r48.2.2.2.2.1), (Sl Kf r48.2.2.2.2.2.1), (Vi r48.2.2.2.2.2.2.1), (Vb r48.2.2.2.2.2.2.2), (Sl Kf r48.2.2.2.2.1), (Sl Kf r48.2.2.2.2.2.1), (If 88 (Ag []))])), (49, (Vp q25), (Pt [(Sl Kf r48.1), (Sl Kf r48.2.1), (Sl Kf r48.2.2.1), (Sl Kf r48.2.2.2.1), (Sl Kf r48.2.2.2.2.1), (Sl Kf r48.2.2.2.2.2.1), (Vi r48.2.2.2.2.2.2.1), (Vb r48.2.2.2.2.2.2.2), (Sl Kf r48.2.2.2.2.1), (Sl Kf r48.2.2.2.2.2.1), (If 88 (Ag []))])), (50, (Vp q25), (Pt [(Sl Kf r48.1), (Sl Kf r48.2.1), (Sl Kf r48.2.2.1), (Sl Kf r48.2.2.2.1), (Sl Kf r48.2.2.2.2.1), (Sl Kf r48.2.2.2.2.2.1), (Vi r48.2.2.2.2.2.2.1), (Vb r48.2.2.2.2.2.2.2), (Sl Kf r48.2.2.2.2.1), (Sl Kf r48.2.2.2.2.2.1), (If 88 (Ag []))])), (51, (Vp ((q25).add 6)), (Pt [(Vi r48.2.2.2.2.2.2.1), (Vb r48.2.2.2.2.2.2.2), (Sl Kf r48.2.2.2.2.1), (Sl Kf r48.2.2.2.2.2.1), (If 88 (Ag []))])), (64, (Vp q25), (Pt [(Sl Kf r48.1), (Sl Kf r48.2.1), (Sl Kf r48.2.2.1), (Sl Kf r48.2.2.2.1), (Sl Kf r48.2.2.2.2.1), (Sl Kf r48.2.2.2.2.2.1), (Vi r48.2.2.2.2.2.2.1), (Vb r48.2.2.2.2.2.2.2), (Sl Kf r48.2.2.2.2.1), (Sl Kf r48.2.2.2.2.2.1), (If 88 (Ag []))])), (65, (Vp q25), (Pt [(Sl Kf r48.1), (Sl Kf r48.2.1), (Sl Kf r48.2.2.1), (Sl Kf r48.2.2.2.1), (Sl Kf r48.2.2.2.2.1), (Sl Kf r48.2.2.2.2.2.1), (Vi r48.2.2.2.2.2.2.1), (Vb r48.2.2.2.2.2.2.2), (Sl Kf r48.2.2.2.2.1), (Sl Kf r48.2.2.2.2.2.1), (If 88 (Ag []))])), (66, (Vp ((q25).add 4)), (Pt [(Sl Kf r48.2.2.2.2.1), (Sl Kf r48.2.2.2.2.2.1), (Vi r48.2.2.2.2.2.2.1), (Vb r48.2.2.2.2.2.2.2), (Sl Kf r48.2.2.2.2.1), (Sl Kf r48.2.2.2.2.2.1), (If 88 (Ag []))]))] rfl ⟨⟨rfl, 0, rfl, rfl⟩, ⟨rfl, 0, rfl, rfl⟩, ⟨rfl, 0, rfl, rfl⟩, ⟨rfl, 0, rfl, rfl⟩, ⟨rfl, 0, rfl, rfl⟩, ⟨rfl, 4, rfl, rfl⟩, ⟨rfl, 4, rfl, rfl⟩, ⟨rfl, 0, rfl, rfl⟩, ⟨rfl, 8, rfl, rfl⟩, ⟨rfl, 0, rfl, rfl⟩, ⟨rfl, 0, rfl, rfl⟩, ⟨rfl, 0, rfl, rfl⟩, ⟨rfl, 4, rfl, rfl⟩, ⟨rfl, 5, rfl, rfl⟩, ⟨rfl, 0, rfl, rfl⟩, ⟨rfl, 9, rfl, rfl⟩, ⟨rfl, 0, rfl, rfl⟩, ⟨rfl, 0, rfl, rfl⟩, ⟨rfl, 0, rfl, rfl⟩, ⟨rfl, 6, rfl, rfl⟩, ⟨rfl, 0, rfl, rfl⟩, ⟨rfl, 0, rfl, rfl⟩, ⟨rfl, 4, rfl, rfl⟩, trivial⟩ (H' := [(Ur q10 57 [(Vi 0), Vn])]) rfl) ?_
  obtain ⟨r67, hr67, hp⟩ := bind_some hp
  refine s0 (rd_cut_pt' (K := (Kl Kf)) 2 [r48.2.2.2.2.1, r48.2.2.2.2.2.1] rfl rfl rfl rfl hr67 Tryz.underlying80 info63) ?_
  refine sa rfl ?_
  refine sx_nil' ?_
  show TX E K7 _
  exact tk [0] (u3 rfl rfl rfl) (pc rfl pn) (hK7 (.inr r67) hp)
 replace hp := (br_f h3).symm.trans hp
 refine cx_skip' ?_
 show TX E K7 _
 refine tx_nilrow' (Kl Kf) 63 ?_
 exact tk [4,1,2,3,0] (u3 rfl rfl rfl) (p5 rfl rfl rfl rfl rfl) (hK7 (.inl (none, 0, 0)) hp)

def lineintersection_Result_Type (k : Nat) (a0_0 : Int) (a0_1 : List (List Nat)) : Option (Int × (List (List Nat))) :=
 some (a0_0, a0_1)

theorem lineintersection_Result_Type_sim {k : Nat} {wa0 : Addr} (a0_0 : Int) (a0_1 : List (List Nat)) {out : Int × (List (List Nat))} (hp : lineintersection_Result_Type k a0_0 a0_1 = some out) : Sx.Fn Tryz.prog 23 [(Vp wa0)] [(Ur wa0 57 (C6 a0_0 a0_1))] (fun w : Unit => (Vi out.1)) (fun w => [(Ur wa0 57 (C6 out.1 out.2))]) := by
 unfold lineintersection_Result_Type at hp
 refine fn_of Tryz.func23 rfl Tryz.ntmps23 rfl fun E hM => ?_
 refine cr fun K1 hK1 => ?_
 refine sa rfl ?_
 refine nk hK1 ?_
 refine cr fun K2 hK2 => ?_
 refine sm rfl ?_
 refine sn rfl ?_
 refine sf rfl Tryz.underlying57 rfl info54 rfl ?_
 refine sl (i := 0) (o := 0) rfl (ar rfl rfl rfl rfl) rfl flat54 ?_
 refine sa rfl ?_
 refine nk hK2 ?_
 refine cx_retc' ?_
 replace hp := sj hp
 subst hp
 refine tk (L' := [(2, (Vi a0_0))]) (H' := [(Ur wa0 57 (C6 a0_0 a0_1))]) [0] (uc rfl un) (pc rfl pn) ?_
 exact tx_ret1' Tryz.results23 rfl () (rv_tmp' rfl) lr

def lineintersection_Result_Intersection (k : Nat) (a0_0 : Int) (a0_1 : List (List Nat)) : Option (Int × (List (List Nat))) :=
 some (a0_0, a0_1)

theorem lineintersection_Result_Intersection_sim {k : Nat} {wa0 : Addr} (a0_0 : Int) (a0_1 : List (List Nat)) {out : Int × (List (List Nat))} (hp : lineintersection_Result_Intersection k a0_0 a0_1 = some out) : Sx.Fn Tryz.prog 25 [(Vp wa0)] [(Ur wa0 57 (C6 a0_0 a0_1))] (fun w : Unit => (Sl (Kl Kf) out.2)) (fun w => [(Ur wa0 57 (C6 out.1 out.2))]) := by
 unfold lineintersection_Result_Intersection at hp
 refine fn_of Tryz.func25 rfl Tryz.ntmps25 rfl fun E hM => ?_
 refine cr fun K1 hK1 => ?_
 refine sa rfl ?_
 refine nk hK1 ?_
 refine cr fun K2 hK2 => ?_
 refine sm rfl ?_
 refine sn rfl ?_
 refine sg (off := 1) rfl Tryz.underlying57 rfl info55 rfl ?_
 refine sl (i := 0) (o := 1) rfl (ar rfl rfl rfl rfl) rfl flat55 ?_
 refine sa rfl ?_
 refine nk hK2 ?_
 refine cx_retc' ?_
 replace hp := sj hp
 subst hp
 refine tk (L' := [(2, (Sl (Kl Kf) a0_1))]) (H' := [(Ur wa0 57 (C6 a0_0 a0_1))]) [0] (uc rfl un) (pc rfl pn) ?_
 exact tx_ret1' Tryz.results25 rfl () (rv_tmp' rfl) lr

def impl_place (k : Nat) (a0 : List Nat) : Option (Nat × Nat) :=
 (idx a0 0) >>= fun r4 =>
 (idx a0 1) >>= fun r7 =>
 some (r4, r7)

theorem impl_place_sim {k : Nat}  (a0 : List Nat) {out : Nat × Nat} (hp : impl_place k a0 = some out) : Sx.Fn Tryz.prog 43 [(Sl Kf a0)] [] (fun w : Unit => (Ag (C4 out.1 out.2))) (fun w => []) := by
 unfold impl_place at hp
 refine fn_of Tryz.func43 rfl Tryz.ntmps43 rfl fun E hM => ?_
 refine cr fun K1 hK1 => ?_
 refine so (ox_alloc' info24 rfl rfl rfl rfl (l := (C4 0 0)) rfl) fun q2 => ?_
 refine nk hK1 ?_
 refine cx_seq' fun K2 hK2 => ?_
 refine cx_plan' [] [(7, 1)] [(0, 1), (1, 1), (2, 1), (3, 1), (4, 1), (5, 1), (6, 1), (7, 0)] mixed (by kernel_rfl) ?_
 refine pd rfl (rd_move' rfl) ?_
 obtain ⟨r4, hr4, hp⟩ := bind_some hp
 refine pd rfl (rd_at' (K := Kf) rfl rfl hr4 Tryz.underlying63 info22) ?_
 refine pd rfl (rd_load_pt' rfl rfl flat22) ?_
 refine pd rfl (rd_move' rfl) ?_
 obtain ⟨r7, hr7, hp⟩ := bind_some hp
 refine pd rfl (rd_at' (K := Kf) rfl rfl hr7 Tryz.underlying63 info22) ?_
 refine pd rfl (rd_load_pt' rfl rfl flat22) ?_
 refine pd rfl (rd_build' (pls := [(0, 1), (1, 1)]) (qs := [(0, [(Vg r4)]), (1, [(Vg r7)])]) (r := (C4 r4 r7)) ⟨rfl, ⟨_, rfl, (lv_vl rfl rfl)⟩, ⟨rfl, ⟨_, rfl, (lv_vl rfl rfl)⟩, trivial⟩⟩ Tryz.underlying24 has24 places24 info24 rfl rfl rfl) ?_
 refine px_oxv' rfl (oxv_store (i := 0) (o := 0) rfl rfl (lv_ag _) (ar rfl rfl rfl rfl) rfl info24 rfl (H' := [(Ur q2 24 (C4 r4 r7))]) rfl) rfl rfl bo_nil (wt_none' rfl) fun _ => ?_
 refine px_nil' ?_
 show TX E K2 _
 refine tx_k' hK2 ?_
 refine cx_retc' ?_
 replace hp := sj hp
 subst hp
 refine tk (L' := [(2, (Vp q2))]) (H' := [(Ur q2 24 (C4 r4 r7))]) [0] (uc rfl un) (pc rfl pn) ?_
 exact tx_ret1' Tryz.results43 rfl () (rv_cell_agg' (i := 0) (o := 0) (nn := 2) rfl (ar rfl rfl rfl rfl) rfl agg24 rfl) (List.nil_sublist _)

def impl_places_l1s (a0 : List (List Nat)) (k : Nat) (rec1 : ((List (Nat × Nat)) × Int) → Option ((List (Nat × Nat)))) (x1 : List (Nat × Nat)) (x2 : Int) : Option ((List (Nat × Nat))) :=
 br (decide (x2 < (a0.length : Int)))
  ((idx a0 x2) >>= fun r10 =>
  (impl_place k r10) >>= fun r14 =>
  (apd 16 x1 ([(r14.1, r14.2)])) >>= fun r16 =>
  rec1 (r16, (iadd .i64 x2 1)))
  (some x1)
def impl_places_l1 (a0 : List (List Nat)) : Nat → ((List (Nat × Nat)) × Int) → Option ((List (Nat × Nat)))
 | 0, _ => none
 | k + 1, v => impl_places_l1s a0 k (impl_places_l1 a0 k) v.1 v.2
def impl_places (k : Nat) (a0 : List (List Nat)) : Option ((List (Nat × Nat))) :=
 (impl_places_l1 a0 k ([], 0)) >>= fun v2 =>
 some v2

theorem impl_places_sim {k : Nat}  (a0 : List (List Nat)) {out : (List (Nat × Nat))} (hp : impl_places k a0 = some out) : Sx.Fn Tryz.prog 24 [(Sl (Kl Kf) a0)] [] (fun w : Unit => (Sl KT24 out)) (fun w => []) := by
 unfold impl_places at hp
 refine fn_of Tryz.func24 rfl Tryz.ntmps24 rfl fun E hM => ?_
 refine cr fun K1 hK1 => ?_
 refine sa rfl ?_
 refine nk hK1 ?_
 refine cr fun K2 hK2 => ?_
 refine sa rfl ?_
 refine nk hK2 ?_
 refine cx_seq' fun K3 hK3 => ?_
 refine cr fun K4 hK4 => ?_
 refine sm rfl ?_
 refine sk rfl Tryz.underlying55 ?_
 refine sm rfl ?_
 refine nk hK4 ?_
 refine cx_block' ?_
 obtain ⟨v2, hy1, hp⟩ := bind_some hp
 refine tx_nilrow' KT24 24 ?_
 refine cx_loopg' (F := impl_places_l1 a0) (G := fun k R v => impl_places_l1s a0 k R v.1 v.2) (x := ([], 0)) (gh := (none, 0, 0)) (fun (v1 : (List (Nat × Nat)) × Int) (w1 : Gs) => (⟨19, [], [(3, (Vw w1)), (6, (Sl (Kl Kf) a0)), (7, (Vi (a0.length : Int))), (8, (Vi v1.2))], [(Rg KT24 24 w1 v1.1)]⟩ : St)) (fun (v2 : (List (Nat × Nat))) => Zg E (Exit.exit 0) (fun (w2 : Gs) => (⟨19, [], [(3, (Vw w2))], [(Rg KT24 24 w2 v2)]⟩ : St))) (fun _ => rfl) (fun _ _ => rfl) ?_ hy1 (tx_to' rfl [0] (u4 rfl rfl rfl rfl) (by decide) (pc rfl pn)) ?_
 ·clear hp hy1
  clear v2
  intro k rec1 KY1 ih1
  rintro ⟨x1, x2⟩ g901 y1 hp
  replace hp : impl_places_l1s a0 k rec1 x1 x2 = some y1 := hp
  unfold impl_places_l1s at hp
  refine cr fun K9 hK9 => ?_
  refine sb rfl rfl eg_int ru_lss ?_
  refine nk hK9 ?_
  refine cx_seq' fun K10 hK10 => ?_
  refine cx_cond' rfl (fun h3 => ?_) (fun h3 => ?_)
  ·replace hp := (br_t h3).symm.trans hp
   refine cx_skip' ?_
   show TX E K10 _
   refine tx_k' hK10 ?_
   refine cx_seq' fun K11 hK11 => ?_
   refine cx_block' ?_
   refine cr fun K12 hK12 => ?_
   obtain ⟨r10, hr10, hp⟩ := bind_some hp
   refine s0 (rd_at' (K := (Kl Kf)) rfl rfl hr10 Tryz.underlying55 info63) ?_
   refine s0 (rd_load_pt' rfl rfl flat63) ?_
   refine sa rfl ?_
   refine nk hK12 ?_
   refine cx_region' ?_
   iterate 2 refine sm rfl ?_
   obtain ⟨r14, hr14, hp⟩ := bind_some hp
   refine so (oz (ent_fn' Tryz.func43 isn43 rfl rfl) (impl_place_sim _ hr14)) fun ⟨⟩ => ?_
   refine so (ox_rowlit' (K := KT24) (xs := [(r14.1, r14.2)]) (qs := [(0, (C4 r14.1 r14.2))]) ⟨rfl, ⟨_, rfl, (lv_ag _)⟩, trivial⟩ Tryz.underlying40 info24 rfl rfl rfl rfl rfl (by kernel_rfl) rfl rfl rfl) fun g15 => ?_
   obtain ⟨r16, hr16, hp⟩ := bind_some hp
   refine so (ox_append' (K := KT24) (i := 1) (xs := x1) (ys := ([(r14.1, r14.2)])) rfl rfl rfl (sr_row' (j := 0) rfl rfl rfl Tryz.underlying40) hr16 Tryz.underlying40 info24 rfl rfl rfl (H' := [(Rg KT24 24 g15 ([(r14.1, r14.2)]))]) rfl) fun g16 => ?_
   refine sa rfl ?_
   refine nk hK11 ?_
   refine cx_region' ?_
   refine sb rfl rfl eg_int ru_add ?_
   refine sm rfl ?_
   refine sx_nil' ?_
   show TX E (KY1 _) _
   exact tk [0] (u4 rfl rfl rfl rfl) (pc rfl pn) (ih1 (r16, (iadd .i64 x2 1)) g16 _ hp)
  replace hp := (br_f h3).symm.trans hp
  refine cx_exit' ?_
  replace hp := sj hp
  subst hp
  show TX E (Zg E (Exit.exit 0) _ (Exit.exit 0)) _
  exact tx_zend' g901 rfl [0] (uc rfl un) (by decide) (pc rfl pn)
 refine zg_out fun w2 => ?_
 show TX E K3 _
 refine tx_k' hK3 ?_
 refine cr fun K13 hK13 => ?_
 refine sm rfl ?_
 refine sa rfl ?_
 refine nk hK13 ?_
 refine cx_retc' ?_
 replace hp := sj hp
 subst hp
 refine tx_fz' (frz_row 0 [(3, (Vw w2), (Sl KT24 v2)), (18, (Vw w2), (Sl KT24 v2)), (2, (Vw w2), (Sl KT24 v2))] (K := KT24) (xs := v2) (by decide) rfl ⟨⟨rfl, frz_it⟩, ⟨rfl, frz_it⟩, ⟨rfl, frz_it⟩, trivial⟩ (H' := []) frzH_refl) ?_
 refine tk (L' := [(2, (Sl KT24 v2))]) (H' := []) [] (uc rfl un) pn ?_
 exact tx_ret1' Tryz.results24 rfl () (rv_tmp' rfl) lr

def impl_LinesMeet (k a1_0 : Nat) (a1_1 a2_0 : Nat) (a2_1 a3_0 : Nat) (a3_1 a4_0 a4_1 : Nat) : Option (Int × (List (Nat × Nat))) :=
 (impl_strategy k) >>= fun r14 =>
 (impl_coord k a1_0 a1_1) >>= fun r16 =>
 (impl_coord k a2_0 a2_1) >>= fun r18 =>
 (impl_coord k a3_0 a3_1) >>= fun r20 =>
 (impl_coord k a4_0 a4_1) >>= fun r22 =>
 (lineintersector_LineIntersectsLine k r16 r18 r20 r22) >>= fun r23 =>
 (lineintersection_Result_Type k r23.1 r23.2) >>= fun r24 =>
 (lineintersection_Result_Intersection k r24.1 r24.2) >>= fun r25 =>
 (impl_places k r25.2) >>= fun r26 =>
 some (r24.1, r26)

theorem impl_LinesMeet_sim {k : Nat}  (a1_0 a1_1 : Nat) (a2_0 a2_1 : Nat) (a3_0 a3_1 : Nat) (a4_0 a4_1 : Nat) {out : Int × (List (Nat × Nat))} (hp : impl_LinesMeet k a1_0 a1_1 a2_0 a2_1 a3_0 a3_1 a4_0 a4_1 = some out) : Sx.Fn Tryz.prog 8 [(Vb false), (Ag (C4 a1_0 a1_1)), (Ag (C4 a2_0 a2_1)), (Ag (C4 a3_0 a3_1)), (Ag (C4 a4_0 a4_1))] [] (fun w : Unit => (Tu [(Vi out.1), (Sl KT24 out.2)])) (fun w => []) := by
 unfold impl_LinesMeet at hp
 refine fn_of Tryz.func8 rfl Tryz.ntmps8 rfl fun E hM => ?_
 refine cr fun K1 hK1 => ?_
 refine so (ox_box' rfl (lv_ag _) rfl rfl) fun q6 => ?_
 refine so (ox_box' rfl (lv_ag _) rfl rfl) fun q7 => ?_
 refine so (ox_box' rfl (lv_ag _) rfl rfl) fun q8 => ?_
 refine so (ox_box' rfl (lv_ag _) rfl rfl) fun q9 => ?_
 iterate 2 refine sa rfl ?_
 refine nk hK1 ?_
 refine cx_seq' fun K2 hK2 => ?_
 refine cx_plana' [] [(12, 1)] [(0, 1), (2, 1), (4, 1), (6, 1), (8, 1)] 8 #[true, false, true, false, true, false, true, false, true, false, false, false, false] mixed (by kernel_rfl) ?_
 refine pd rfl (rd_move' rfl) ?_
 refine pd rfl (rd_load_agg' (i := 3) (o := 0) (nn := 2) rfl (ar rfl rfl rfl rfl) rfl agg24 (l' := (C4 a1_0 a1_1)) rfl) ?_
 refine pd rfl (rd_load_agg' (i := 2) (o := 0) (nn := 2) rfl (ar rfl rfl rfl rfl) rfl agg24 (l' := (C4 a2_0 a2_1)) rfl) ?_
 refine pd rfl (rd_load_agg' (i := 1) (o := 0) (nn := 2) rfl (ar rfl rfl rfl rfl) rfl agg24 (l' := (C4 a3_0 a3_1)) rfl) ?_
 refine pd rfl (rd_load_agg' (i := 0) (o := 0) (nn := 2) rfl (ar rfl rfl rfl rfl) rfl agg24 (l' := (C4 a4_0 a4_1)) rfl) ?_
 refine px_nil' ?_
 show AX E _ _ _ _ _ _ _ _
 obtain ⟨r14, hr14, hp⟩ := bind_some hp
 obtain ⟨r16, hr16, hp⟩ := bind_some hp
 obtain ⟨r18, hr18, hp⟩ := bind_some hp
 obtain ⟨r20, hr20, hp⟩ := bind_some hp
 obtain ⟨r22, hr22, hp⟩ := bind_some hp
 obtain ⟨r23, hr23, hp⟩ := bind_some hp
 refine an 0 13 8191 (fun (v14 : Addr) => ⟨27, [], [(12, (Vp v14))], [(Ur v14 57 (C6 r23.1 r23.2))]⟩) ?_ ?_
 ·rintro q908
  refine ax_nil (by kernel_rfl) ?_
  show TX E K2 _
  refine tx_k' hK2 ?_
  refine cr fun K3 hK3 => ?_
  obtain ⟨r24, hr24, hp⟩ := bind_some hp
  refine so (ox_callg' (ent_fn' Tryz.func23 isn23 rfl rfl) (lineintersection_Result_Type_sim _ _ hr24 : Sx.Fn Tryz.prog 23 [(Vp q908)] [(Ur q908 57 (C6 r23.1 r23.2))] (fun x : Unit => (Vi r24.1)) (fun x => [(Ur q908 57 (C6 r24.1 r24.2))])) [0] [] (by decide) (pc rfl pn) pn (Hn := fun x : Unit => [(Ur q908 57 (C6 r24.1 r24.2))]) (fun _ => rfl) rfl rfl) fun ⟨⟩ => ?_
  obtain ⟨r25, hr25, hp⟩ := bind_some hp
  refine so (ox_callg' (ent_fn' Tryz.func25 isn25 rfl rfl) (lineintersection_Result_Intersection_sim _ _ hr25 : Sx.Fn Tryz.prog 25 [(Vp q908)] [(Ur q908 57 (C6 r24.1 r24.2))] (fun x : Unit => (Sl (Kl Kf) r25.2)) (fun x => [(Ur q908 57 (C6 r25.1 r25.2))])) [0] [] (by decide) (pc rfl pn) pn (Hn := fun x : Unit => [(Ur q908 57 (C6 r25.1 r25.2))]) (fun _ => rfl) rfl rfl) fun ⟨⟩ => ?_
  obtain ⟨r26, hr26, hp⟩ := bind_some hp
  refine so (oz (ent_fn' Tryz.func24 isn24 rfl rfl) (impl_places_sim _ hr26)) fun ⟨⟩ => ?_
  iterate 2 refine sa rfl ?_
  refine nk hK3 ?_
  refine cx_retc' ?_
  replace hp := sj hp
  subst hp
  refine tk (L' := [(10, (Vi r24.1)), (11, (Sl KT24 r26))]) (H' := []) [] (u2 rfl rfl) pn ?_
  exact tx_ret2' Tryz.results8 rfl () (rv_tmp' rfl) (rv_tmp' rfl) rfl lr
 intro hN15
 refine an 1 13 4095 (fun (v13 : Addr) => ⟨27, [], [(12, (Vp v13)), (23, (Ag (C6 r23.1 r23.2)))], [(Ur v13 57 [(Vi 0), Vn])]⟩) ?_ ?_
 ·rintro q907
  refine al1 12 (by kernel_rfl) ?_
  ·refine nx_oxv rfl (oxv_store (i := 0) (o := 0) rfl rfl (lv_ag _) (ar rfl rfl rfl rfl) rfl info57 rfl (H' := [(Ur q907 57 (C6 r23.1 r23.2))]) rfl) rfl rfl bo_nil (wt_none' rfl) rfl fun _ => ?_
   exact tk [0] (uc rfl un) (pc rfl pn) (hN15 q907)
 intro hN14
 refine an 2 13 2047 (fun (v11 : Unit) => ⟨27, [], [(23, (Ag (C6 r23.1 r23.2)))], []⟩) ?_ ?_
 ·rintro ⟨⟩
  refine al1 11 (by kernel_rfl) ?_
  ·exact na rfl info57 [(Vi 0), Vn] fun q12 => tk [0] (u2 rfl rfl) (pc rfl pn) (hN14 q12)
 intro hN12
 refine an 2 13 3071 (fun (v12 : Addr) => ⟨27, [], [(12, (Vp v12)), (14, (If 88 (Ag []))), (16, (Sl Kf r16)), (18, (Sl Kf r18)), (20, (Sl Kf r20)), (22, (Sl Kf r22))], [(Ur v12 57 [(Vi 0), Vn])]⟩) ?_ ?_
 ·rintro q906
  refine al1 10 (by kernel_rfl) ?_
  ·exact no rfl (oz (ent_fn' Tryz.func20 isn20 rfl rfl) (lineintersector_LineIntersectsLine_sim _ _ _ _ hr23)) fun _ => tk [0] (u2 rfl rfl) (pc rfl pn) (hN14 q906)
 intro hN13
 refine an 3 13 1023 (fun (v9 : Unit) => ⟨27, [], [(14, (If 88 (Ag []))), (16, (Sl Kf r16)), (18, (Sl Kf r18)), (20, (Sl Kf r20)), (22, (Sl Kf r22))], []⟩) ?_ ?_
 ·rintro ⟨⟩
  refine al2 10 11 (by kernel_rfl) ?_ ?_
  ·exact no rfl (oz (ent_fn' Tryz.func20 isn20 rfl rfl) (lineintersector_LineIntersectsLine_sim _ _ _ _ hr23)) fun _ => tk [] (uc rfl un) pn (hN12 ())
  exact na rfl info57 [(Vi 0), Vn] fun q12 => tk [0] (u6 rfl rfl rfl rfl rfl rfl) (pc rfl pn) (hN13 q12)
 intro hN10
 refine an 3 13 2559 (fun (v10 : Addr) => ⟨27, [], [(12, (Vp v10)), (14, (If 88 (Ag []))), (16, (Sl Kf r16)), (18, (Sl Kf r18)), (20, (Sl Kf r20)), (21, (Ag (C4 a4_0 a4_1)))], [(Ur v10 57 [(Vi 0), Vn])]⟩) ?_ ?_
 ·rintro q905
  refine al1 9 (by kernel_rfl) ?_
  ·exact no rfl (oz (ent_fn' Tryz.func22 isn22 rfl rfl) (impl_coord_sim _ _ hr22)) fun _ => tk [0] (u6 rfl rfl rfl rfl rfl rfl) (pc rfl pn) (hN13 q905)
 intro hN11
 refine an 4 13 511 (fun (v7 : Unit) => ⟨27, [], [(14, (If 88 (Ag []))), (16, (Sl Kf r16)), (18, (Sl Kf r18)), (20, (Sl Kf r20)), (21, (Ag (C4 a4_0 a4_1)))], []⟩) ?_ ?_
 ·rintro ⟨⟩
  refine al2 9 11 (by kernel_rfl) ?_ ?_
  ·exact no rfl (oz (ent_fn' Tryz.func22 isn22 rfl rfl) (impl_coord_sim _ _ hr22)) fun _ => tk [] (u5 rfl rfl rfl rfl rfl) pn (hN10 ())
  exact na rfl info57 [(Vi 0), Vn] fun q12 => tk [0] (u6 rfl rfl rfl rfl rfl rfl) (pc rfl pn) (hN11 q12)
 intro hN8
 refine an 4 13 2431 (fun (v8 : Addr) => ⟨27, [], [(12, (Vp v8)), (14, (If 88 (Ag []))), (16, (Sl Kf r16)), (18, (Sl Kf r18)), (19, (Ag (C4 a3_0 a3_1))), (21, (Ag (C4 a4_0 a4_1)))], [(Ur v8 57 [(Vi 0), Vn])]⟩) ?_ ?_
 ·rintro q904
  refine al1 7 (by kernel_rfl) ?_
  ·exact no rfl (oz (ent_fn' Tryz.func22 isn22 rfl rfl) (impl_coord_sim _ _ hr20)) fun _ => tk [0] (u6 rfl rfl rfl rfl rfl rfl) (pc rfl pn) (hN11 q904)
 intro hN9
 refine an 5 13 383 (fun (v5 : Unit) => ⟨27, [], [(14, (If 88 (Ag []))), (16, (Sl Kf r16)), (18, (Sl Kf r18)), (19, (Ag (C4 a3_0 a3_1))), (21, (Ag (C4 a4_0 a4_1)))], []⟩) ?_ ?_
 ·rintro ⟨⟩
  refine al2 7 11 (by kernel_rfl) ?_ ?_
  ·exact no rfl (oz (ent_fn' Tryz.func22 isn22 rfl rfl) (impl_coord_sim _ _ hr20)) fun _ => tk [] (u5 rfl rfl rfl rfl rfl) pn (hN8 ())
  exact na rfl info57 [(Vi 0), Vn] fun q12 => tk [0] (u6 rfl rfl rfl rfl rfl rfl) (pc rfl pn) (hN9 q12)
 intro hN6
 refine an 5 13 2399 (fun (v6 : Addr) => ⟨27, [], [(12, (Vp v6)), (14, (If 88 (Ag []))), (16, (Sl Kf r16)), (17, (Ag (C4 a2_0 a2_1))), (19, (Ag (C4 a3_0 a3_1))), (21, (Ag (C4 a4_0 a4_1)))], [(Ur v6 57 [(Vi 0), Vn])]⟩) ?_ ?_
 ·rintro q903
  refine al1 5 (by kernel_rfl) ?_
  ·exact no rfl (oz (ent_fn' Tryz.func22 isn22 rfl rfl) (impl_coord_sim _ _ hr18)) fun _ => tk [0] (u6 rfl rfl rfl rfl rfl rfl) (pc rfl pn) (hN9 q903)
 intro hN7
 refine an 6 13 351 (fun (v3 : Unit) => ⟨27, [], [(14, (If 88 (Ag []))), (16, (Sl Kf r16)), (17, (Ag (C4 a2_0 a2_1))), (19, (Ag (C4 a3_0 a3_1))), (21, (Ag (C4 a4_0 a4_1)))], []⟩) ?_ ?_
 ·rintro ⟨⟩
  refine al2 5 11 (by kernel_rfl) ?_ ?_
  ·exact no rfl (oz (ent_fn' Tryz.func22 isn22 rfl rfl) (impl_coord_sim _ _ hr18)) fun _ => tk [] (u5 rfl rfl rfl rfl rfl) pn (hN6 ())
  exact na rfl info57 [(Vi 0), Vn] fun q12 => tk [0] (u6 rfl rfl rfl rfl rfl rfl) (pc rfl pn) (hN7 q12)
 intro hN4
 refine an 6 13 2391 (fun (v4 : Addr) => ⟨27, [], [(12, (Vp v4)), (14, (If 88 (Ag []))), (15, (Ag (C4 a1_0 a1_1))), (17, (Ag (C4 a2_0 a2_1))), (19, (Ag (C4 a3_0 a3_1))), (21, (Ag (C4 a4_0 a4_1)))], [(Ur v4 57 [(Vi 0), Vn])]⟩) ?_ ?_
 ·rintro q902
  refine al1 3 (by kernel_rfl) ?_
  ·exact no rfl (oz (ent_fn' Tryz.func22 isn22 rfl rfl) (impl_coord_sim _ _ hr16)) fun _ => tk [0] (u6 rfl rfl rfl rfl rfl rfl) (pc rfl pn) (hN7 q902)
 intro hN5
 refine an 7 13 343 (fun (v1 : Unit) => ⟨27, [], [(14, (If 88 (Ag []))), (15, (Ag (C4 a1_0 a1_1))), (17, (Ag (C4 a2_0 a2_1))), (19, (Ag (C4 a3_0 a3_1))), (21, (Ag (C4 a4_0 a4_1)))], []⟩) ?_ ?_
 ·rintro ⟨⟩
  refine al2 3 11 (by kernel_rfl) ?_ ?_
  ·exact no rfl (oz (ent_fn' Tryz.func22 isn22 rfl rfl) (impl_coord_sim _ _ hr16)) fun _ => tk [] (u5 rfl rfl rfl rfl rfl) pn (hN4 ())
  exact na rfl info57 [(Vi 0), Vn] fun q12 => tk [0] (u6 rfl rfl rfl rfl rfl rfl) (pc rfl pn) (hN5 q12)
 intro hN2
 refine an 7 13 2389 (fun (v2 : Addr) => ⟨27, [], [(12, (Vp v2)), (13, (Vb false)), (15, (Ag (C4 a1_0 a1_1))), (17, (Ag (C4 a2_0 a2_1))), (19, (Ag (C4 a3_0 a3_1))), (21, (Ag (C4 a4_0 a4_1)))], [(Ur v2 57 [(Vi 0), Vn])]⟩) ?_ ?_
 ·rintro q901
  refine al1 1 (by kernel_rfl) ?_
  ·exact no rfl (oz (ent_fn' Tryz.func21 isn21 rfl rfl) (impl_strategy_sim hr14)) fun _ => tk [0] (u6 rfl rfl rfl rfl rfl rfl) (pc rfl pn) (hN5 q901)
 intro hN3
 refine al2 1 11 (by kernel_rfl) ?_ ?_
 ·exact no rfl (oz (ent_fn' Tryz.func21 isn21 rfl rfl) (impl_strategy_sim hr14)) fun _ => tk [] (u5 rfl rfl rfl rfl rfl) pn (hN2 ())
 exact na rfl info57 [(Vi 0), Vn] fun q12 => tk [0] (u6 rfl rfl rfl rfl rfl rfl) (pc rfl pn) (hN3 q12)

def spec_Finite (k a0 : Nat) : Option (Bool) :=
 (some (gsub a0 a0)) >>= fun r5 =>
 some (feq r5 0)

theorem spec_Finite_sim {k : Nat}  (a0 : Nat) {out : Bool} (hp : spec_Finite k a0 = some out) : Sx.Fn Tryz.prog 26 [(Vg a0)] [] (fun w : Unit => (Vb out)) (fun w => []) := by
 unfold spec_Finite at hp
 refine fn_of Tryz.func26 rfl Tryz.ntmps26 rfl fun E hM => ?_
 refine cr fun K1 hK1 => ?_
 refine sa rfl ?_
 refine nk hK1 ?_
 refine cr fun K2 hK2 => ?_
 iterate 2 refine sm rfl ?_
 obtain ⟨r5, hr5, hp⟩ := bind_some hp
 refine so (ox_fop' (.inr (.inl rfl)) (fl_v rfl) (fl_v rfl) (Option.some.inj hr5) rfl rfl) fun _ => ?_
 refine s0 (rd_fcmp' (fl_f rfl) (fl_v rfl) rfl) ?_
 refine sa rfl ?_
 refine nk hK2 ?_
 refine cx_retc' ?_
 replace hp := sj hp
 subst hp
 refine tk (L' := [(2, (Vb (feq r5 0)))]) (H' := []) [] (uc rfl un) pn ?_
 exact tx_ret1' Tryz.results26 rfl () (rv_tmp' rfl) lr

def spec_Dyadic_Abs (k : Nat) (a0_0 : Bool) (a0_1 : List Int) (a0_2 : Int) : Option (Bool × (List Int) × Int) :=
 (spec_Dyadic_Sign k a0_0 a0_1 a0_2) >>= fun r4 =>
 br (decide (r4 < 0))
  ((spec_Dyadic_Minus k a0_0 a0_1 a0_2) >>= fun r7 =>
  some (r7.1, r7.2.1, r7.2.2))
  (some (a0_0, a0_1, a0_2))

theorem spec_Dyadic_Abs_sim {k : Nat}  (a0_0 : Bool) (a0_1 : List Int) (a0_2 : Int) {out : Bool × (List Int) × Int} (hp : spec_Dyadic_Abs k a0_0 a0_1 a0_2 = some out) : Sx.Fn Tryz.prog 28 [(Ag (C2 a0_0 a0_1 a0_2))] [] (fun w : Unit => (Ag (C2 out.1 out.2.1 out.2.2))) (fun w => []) := by
 unfold spec_Dyadic_Abs at hp
 refine fn_of Tryz.func28 rfl Tryz.ntmps28 rfl fun E hM => ?_
 refine cr fun K1 hK1 => ?_
 refine so (ox_box' rfl (lv_ag _) rfl rfl) fun q1 => ?_
 refine so (ox_alloc' info30 rfl rfl rfl rfl (l := (C5 false 0)) rfl) fun q2 => ?_
 refine nk hK1 ?_
 refine cx_seq' fun K2 hK2 => ?_
 refine cr fun K3 hK3 => ?_
 refine s0 (rd_load_agg' (i := 1) (o := 0) (nn := 3) rfl (ar rfl rfl rfl rfl) rfl agg30 (l' := (C2 a0_0 a0_1 a0_2)) rfl) ?_
 obtain ⟨r4, hr4, hp⟩ := bind_some hp
 refine so (oz (ent_fn' Tryz.func17 isn17 rfl rfl) (spec_Dyadic_Sign_sim _ _ _ hr4)) fun ⟨⟩ => ?_
 refine sb rfl rfl eg_int ru_lss ?_
 refine nk hK3 ?_
 refine cx_cond' rfl (fun h1 => ?_) (fun h1 => ?_)
 ·replace hp := (br_t h1).symm.trans hp
  refine cr fun K4 hK4 => ?_
  refine s0 (rd_load_agg' (i := 1) (o := 0) (nn := 3) rfl (ar rfl rfl rfl rfl) rfl agg30 (l' := (C2 a0_0 a0_1 a0_2)) rfl) ?_
  obtain ⟨r7, hr7, hp⟩ := bind_some hp
  refine so (oz (ent_fn' Tryz.func37 isn37 rfl rfl) (spec_Dyadic_Minus_sim _ _ _ hr7)) fun ⟨⟩ => ?_
  refine so (ox_store' (i := 0) (o := 0) rfl rfl (lv_ag _) (ar rfl rfl rfl rfl) rfl info30 rfl (H' := [(Ur q2 30 (C2 r7.1 r7.2.1 r7.2.2)), (Ur q1 30 (C2 a0_0 a0_1 a0_2))]) rfl) fun _ => ?_
  refine nk hK4 ?_
  refine cx_retc' ?_
  replace hp := sj hp
  subst hp
  refine tk (L' := [(2, (Vp q2))]) (H' := [(Ur q2 30 (C2 r7.1 r7.2.1 r7.2.2))]) [0] (uc rfl un) (pc rfl pn) ?_
  exact tx_ret1' Tryz.results28 rfl () (rv_cell_agg' (i := 0) (o := 0) (nn := 3) rfl (ar rfl rfl rfl rfl) rfl agg30 rfl) (List.nil_sublist _)
 replace hp := (br_f h1).symm.trans hp
 refine cx_skip' ?_
 show TX E K2 _
 refine tx_k' hK2 ?_
 refine cr fun K5 hK5 => ?_
 refine s0 (rd_load_agg' (i := 1) (o := 0) (nn := 3) rfl (ar rfl rfl rfl rfl) rfl agg30 (l' := (C2 a0_0 a0_1 a0_2)) rfl) ?_
 refine so (ox_store' (i := 0) (o := 0) rfl rfl (lv_ag _) (ar rfl rfl rfl rfl) rfl info30 rfl (H' := [(Ur q2 30 (C2 a0_0 a0_1 a0_2)), (Ur q1 30 (C2 a0_0 a0_1 a0_2))]) rfl) fun _ => ?_
 refine nk hK5 ?_
 refine cx_retc' ?_
 replace hp := sj hp
 subst hp
 refine tk (L' := [(2, (Vp q2))]) (H' := [(Ur q2 30 (C2 a0_0 a0_1 a0_2))]) [0] (uc rfl un) (pc rfl pn) ?_
 exact tx_ret1' Tryz.results28 rfl () (rv_cell_agg' (i := 0) (o := 0) (nn := 3) rfl (ar rfl rfl rfl rfl) rfl agg30 rfl) (List.nil_sublist _)

def spec_Dyadic_Shift (k : Nat) (a0_0 : Bool) (a0_1 : List Int) (a0_2 a1 : Int) : Option (Bool × (List Int) × Int) :=
 some (a0_0, a0_1, iadd .i64 a0_2 a1)

theorem spec_Dyadic_Shift_sim {k : Nat}  (a0_0 : Bool) (a0_1 : List Int) (a0_2 a1 : Int) {out : Bool × (List Int) × Int} (hp : spec_Dyadic_Shift k a0_0 a0_1 a0_2 a1 = some out) : Sx.Fn Tryz.prog 30 [(Ag (C2 a0_0 a0_1 a0_2)), (Vi a1)] [] (fun w : Unit => (Ag (C2 out.1 out.2.1 out.2.2))) (fun w => []) := by
 unfold spec_Dyadic_Shift at hp
 refine fn_of Tryz.func30 rfl Tryz.ntmps30 rfl fun E hM => ?_
 refine cr fun K1 hK1 => ?_
 refine so (ox_box' rfl (lv_ag _) rfl rfl) fun q2 => ?_
 refine so (ox_alloc' info30 rfl rfl rfl rfl (l := (C5 false 0)) rfl) fun q4 => ?_
 refine nk hK1 ?_
 refine cr fun K2 hK2 => ?_
 refine sf rfl Tryz.underlying30 rfl info28 rfl ?_
 refine s0 (rd_load_agg' (i := 1) (o := 0) (nn := 2) rfl (ar rfl rfl rfl rfl) rfl agg28 (l' := (C3 a0_0 a0_1)) rfl) ?_
 refine sg (off := 2) rfl Tryz.underlying30 rfl info3 rfl ?_
 refine sl (i := 1) (o := 2) rfl (ar rfl rfl rfl rfl) rfl flat3 ?_
 refine sm rfl ?_
 refine sb rfl rfl eg_int ru_add ?_
 refine sv (pls := [(0, 2), (2, 1)]) (qs := [(0, (C3 a0_0 a0_1)), (1, [(Vi (iadd .i64 a0_2 a1))])]) (r := (C2 a0_0 a0_1 (iadd .i64 a0_2 a1))) ⟨rfl, ⟨_, rfl, (lv_ag _)⟩, ⟨rfl, ⟨_, rfl, (lv_vl rfl rfl)⟩, trivial⟩⟩ Tryz.underlying30 has30 places30 info30 rfl rfl rfl ?_
 refine so (ox_store' (i := 0) (o := 0) rfl rfl (lv_ag _) (ar rfl rfl rfl rfl) rfl info30 rfl (H' := [(Ur q4 30 (C2 a0_0 a0_1 (iadd .i64 a0_2 a1))), (Ur q2 30 (C2 a0_0 a0_1 a0_2))]) rfl) fun _ => ?_
 refine nk hK2 ?_
 refine cx_retc' ?_
 replace hp := sj hp
 subst hp
 refine tk (L' := [(4, (Vp q4))]) (H' := [(Ur q4 30 (C2 a0_0 a0_1 (iadd .i64 a0_2 a1)))]) [0] (uc rfl un) (pc rfl pn) ?_
 exact tx_ret1' Tryz.results30 rfl () (rv_cell_agg' (i := 0) (o := 0) (nn := 3) rfl (ar rfl rfl rfl rfl) rfl agg30 rfl) (List.nil_sublist _)

def laws_nearRatio_j1 (k : Nat) (x1 : Bool) : Option (Bool) :=
 some x1
def laws_nearRatio (k a0 : Nat) (a1_0 : Bool) (a1_1 : List Int) (a1_2 : Int) (a1_3 : Bool) (a1_4 : List Int) (a1_5 a2 : Int) : Option (Bool) :=
 (spec_Finite k a0) >>= fun r8 =>
 br r8
  ((spec_DyadicOf k a0) >>= fun r11 =>
  (spec_Dyadic_Mul k r11.1 r11.2.1 r11.2.2 a1_3 a1_4 a1_5) >>= fun r14 =>
  (spec_Dyadic_Sub k r14.1 r14.2.1 r14.2.2 a1_0 a1_1 a1_2) >>= fun r17 =>
  (spec_Dyadic_Abs k r17.1 r17.2.1 r17.2.2) >>= fun r18 =>
  (spec_Dyadic_Shift k a1_3 a1_4 a1_5 a2) >>= fun r22 =>
  (spec_Dyadic_Cmp k r18.1 r18.2.1 r18.2.2 r22.1 r22.2.1 r22.2.2) >>= fun r23 =>
  laws_nearRatio_j1 k (decide (r23 < 0)))
  (laws_nearRatio_j1 k false)

theorem laws_nearRatio_sim {k : Nat}  (a0 : Nat) (a1_0 : Bool) (a1_1 : List Int) (a1_2 : Int) (a1_3 : Bool) (a1_4 : List Int) (a1_5 a2 : Int) {out : Bool} (hp : laws_nearRatio k a0 a1_0 a1_1 a1_2 a1_3 a1_4 a1_5 a2 = some out) : Sx.Fn Tryz.prog 9 [(Vg a0), (Ag (C0 a1_0 a1_1 a1_2 a1_3 a1_4 a1_5)), (Vi a2)] [] (fun w : Unit => (Vb out)) (fun w => []) := by
 unfold laws_nearRatio at hp
 refine fn_of Tryz.func9 rfl Tryz.ntmps9 rfl fun E hM => ?_
 refine cr fun K1 hK1 => ?_
 refine so (ox_box' rfl (lv_ag _) rfl rfl) fun q4 => ?_
 refine sa rfl ?_
 refine nk hK1 ?_
 refine cx_seq' fun K2 hK2 => ?_
 refine cx_plan' [] [] [(0, 1), (1, 0), (2, 1), (3, 1), (5, 1), (6, 1), (8, 1), (9, 1), (12, 1), (13, 1), (14, 1), (4, 0), (7, 0), (10, 0), (11, 0), (15, 0), (16, 0), (17, 1), (18, 1), (19, 1)] mixed (by kernel_rfl) ?_
 refine pd rfl (rd_move' rfl) ?_
 obtain ⟨r8, hr8, hp⟩ := bind_some hp
 refine px_ox' rfl (oz (ent_fn' Tryz.func26 isn26 rfl rfl) (spec_Finite_sim _ hr8)) rfl bs_nil (wt_none' rfl) fun ⟨⟩ => ?_
 refine pd rfl (rd_move' rfl) ?_
 refine px_cutn' 16 (fun (v1 : Bool) => (⟨26, [], [(25, (Vb v1))], []⟩ : St)) (fun (v1 : Bool) => laws_nearRatio_j1 k v1 = some out) ?_ ?_
 ·rintro x1 hp
  replace hp : laws_nearRatio_j1 k x1 = some out := hp
  unfold laws_nearRatio_j1 at hp
  refine pd rfl (rd_assign' rfl) ?_
  refine px_nil' ?_
  show TX E K2 _
  refine tx_k' hK2 ?_
  refine cx_retc' ?_
  replace hp := sj hp
  subst hp
  refine tk (L' := [(6, (Vb x1))]) (H' := []) [] (uc rfl un) pn ?_
  exact tx_ret1' Tryz.results9 rfl () (rv_tmp' rfl) lr
 intro K3 hK3
 rcases br_cases hp with ⟨h1, hp⟩ | ⟨h1, hp⟩
 ·refine px_rd' rfl (rd_move' rfl) rfl rfl (wt_is' (wt_guard' rfl rfl rfl) (beq_tt h1)) ?_
  refine px_rd' rfl (rd_field' (off := 3) rfl Tryz.underlying37 rfl info30 rfl) rfl rfl (wt_is' (wt_guard' rfl rfl rfl) (beq_tt h1)) ?_
  refine px_rd' rfl (rd_load_agg' (i := 0) (o := 3) (nn := 3) rfl (ar rfl rfl rfl rfl) rfl agg30 (l' := (C2 a1_3 a1_4 a1_5)) rfl) rfl rfl (wt_is' (wt_guard' rfl rfl rfl) (beq_tt h1)) ?_
  refine px_rd' rfl (rd_field0' rfl Tryz.underlying37 rfl info30 rfl) rfl rfl (wt_is' (wt_guard' rfl rfl rfl) (beq_tt h1)) ?_
  refine px_rd' rfl (rd_load_agg' (i := 0) (o := 0) (nn := 3) rfl (ar rfl rfl rfl rfl) rfl agg30 (l' := (C2 a1_0 a1_1 a1_2)) rfl) rfl rfl (wt_is' (wt_guard' rfl rfl rfl) (beq_tt h1)) ?_
  refine px_rd' rfl (rd_field' (off := 3) rfl Tryz.underlying37 rfl info30 rfl) rfl rfl (wt_is' (wt_guard' rfl rfl rfl) (beq_tt h1)) ?_
  refine px_rd' rfl (rd_load_agg' (i := 0) (o := 3) (nn := 3) rfl (ar rfl rfl rfl rfl) rfl agg30 (l' := (C2 a1_3 a1_4 a1_5)) rfl) rfl rfl (wt_is' (wt_guard' rfl rfl rfl) (beq_tt h1)) ?_
  refine px_rd' rfl (rd_move' rfl) rfl rfl (wt_is' (wt_guard' rfl rfl rfl) (beq_tt h1)) ?_
  obtain ⟨r11, hr11, hp⟩ := bind_some hp
  refine px_ox' rfl (oz (ent_fn' Tryz.func27 isn27 rfl rfl) (spec_DyadicOf_sim _ hr11)) rfl bs_nil (wt_is' (wt_guard' rfl rfl rfl) (beq_tt h1)) fun ⟨⟩ => ?_
  obtain ⟨r14, hr14, hp⟩ := bind_some hp
  refine px_ox' rfl (oz (ent_fn' Tryz.func16 isn16 rfl rfl) (spec_Dyadic_Mul_sim _ _ _ _ _ _ hr14)) rfl bs_nil (wt_is' (wt_guard' rfl rfl rfl) (beq_tt h1)) fun ⟨⟩ => ?_
  obtain ⟨r17, hr17, hp⟩ := bind_some hp
  refine px_ox' rfl (oz (ent_fn' Tryz.func15 isn15 rfl rfl) (spec_Dyadic_Sub_sim _ _ _ _ _ _ hr17)) rfl bs_nil (wt_is' (wt_guard' rfl rfl rfl) (beq_tt h1)) fun ⟨⟩ => ?_
  obtain ⟨r18, hr18, hp⟩ := bind_some hp
  refine px_ox' rfl (oz (ent_fn' Tryz.func28 isn28 rfl rfl) (spec_Dyadic_Abs_sim _ _ _ hr18)) rfl bs_nil (wt_is' (wt_guard' rfl rfl rfl) (beq_tt h1)) fun ⟨⟩ => ?_
  obtain ⟨r22, hr22, hp⟩ := bind_some hp
  refine px_ox' rfl (oz (ent_fn' Tryz.func30 isn30 rfl rfl) (spec_Dyadic_Shift_sim _ _ _ _ hr22)) rfl bs_nil (wt_is' (wt_guard' rfl rfl rfl) (beq_tt h1)) fun ⟨⟩ => ?_
  obtain ⟨r23, hr23, hp⟩ := bind_some hp
  refine px_ox' rfl (oz (ent_fn' Tryz.func29 isn29 rfl rfl) (spec_Dyadic_Cmp_sim _ _ _ _ _ _ hr23)) rfl bs_nil (wt_is' (wt_guard' rfl rfl rfl) (beq_tt h1)) fun ⟨⟩ => ?_
  refine px_rd' rfl (rd_bin' rfl rfl eg_int ru_lss) rfl rfl (wt_is' (wt_guard' rfl rfl rfl) (beq_tt h1)) ?_
  refine pd rfl (rd_pick_true' rfl h1 rfl) ?_
  refine px_nil' ?_
  show TX E K3 _
  exact tk [] (uc rfl un) pn (hK3 (decide (r23 < 0)) hp)
 iterate 8 refine px_skip' rfl rfl rfl (wt_is' (wt_guard' rfl rfl rfl) (beq_ft h1)) ?_
 iterate 6 refine px_oskip' rfl rfl rfl (wt_is' (wt_guard' rfl rfl rfl) (beq_ft h1)) ?_
 refine px_skip' rfl rfl rfl (wt_is' (wt_guard' rfl rfl rfl) (beq_ft h1)) ?_
 refine pd rfl (rd_pick_false' rfl h1 rfl) ?_
 refine px_nil' ?_
 show TX E K3 _
 exact tk [] (uc rfl un) pn (hK3 false hp)

end Go.Proofs.YthobbfpoooommaaGreat
