/-
  Plain functions for the Go functions that this law reaches, and that each call does what its plain function says. Printed by a program of ours.
-/
import Derived.Test.YtpakkblinocenaaProg
import Derived.Test.YtpakkblinocenaaSxX
import Derived.Test.YtpakkblinocenaaFun1
namespace Go.Proofs.Ytpakkblinocenaa
open Go.Sx
set_option linter.unusedVariables false
set_option maxRecDepth 100000

def spec_subLimbs_j4 (k : Nat) (x5 : List Int) (r18 : Int) (x3 : Int) (rec1 : ((List Int) × Int × Int) → Option ((List Int))) (x7 : Int) (x4 : Int) : Option ((List Int)) :=
 (ishl .u64 x4 32) >>= fun r40 =>
 (apd 4 x5 ([icv .u32 (isub .u64 (iadd .u64 (icv .u64 r18) r40) x3)])) >>= fun r46 =>
 rec1 (r46, x4, (iadd .i64 x7 1))
def spec_subLimbs_j3 (k : Nat) (r18 : Int) (x5 : List Int) (rec1 : ((List Int) × Int × Int) → Option ((List Int))) (x7 : Int) (x3 : Int) : Option ((List Int)) :=
 br (decide ((icv .u64 r18) < x3))
  (spec_subLimbs_j4 k x5 r18 x3 rec1 x7 1)
  (spec_subLimbs_j4 k x5 r18 x3 rec1 x7 0)
def spec_subLimbs_l1s (a0 : List Int) (a1 : List Int) (k : Nat) (rec1 : ((List Int) × Int × Int) → Option ((List Int))) (x5 : List Int) (x6 : Int) (x7 : Int) : Option ((List Int)) :=
 br (decide (x7 < (a0.length : Int)))
  ((idx a0 x7) >>= fun r18 =>
  br (decide (x7 < (a1.length : Int)))
   ((idx a1 x7) >>= fun r28 =>
   spec_subLimbs_j3 k r18 x5 rec1 x7 (iadd .u64 x6 (icv .u64 r28)))
   (spec_subLimbs_j3 k r18 x5 rec1 x7 x6))
  (some x5)
def spec_subLimbs_l1 (a0 : List Int) (a1 : List Int) : Nat → ((List Int) × Int × Int) → Option ((List Int))
 | 0, _ => none
 | k + 1, v => spec_subLimbs_l1s a0 a1 k (spec_subLimbs_l1 a0 a1 k) v.1 v.2.1 v.2.2
def spec_subLimbs (k : Nat) (a0 : List Int) (a1 : List Int) : Option ((List Int)) :=
 (mk 4 0 0 (a0.length : Int)) >>= fun r12 =>
 (spec_subLimbs_l1 a0 a1 k (r12, 0, 0)) >>= fun v6 =>
 (spec_trim k v6) >>= fun r49 =>
 some r49

theorem spec_subLimbs_sim {k : Nat}  (a0 : List Int) (a1 : List Int) {out : (List Int)} (hp : spec_subLimbs k a0 a1 = some out) : Sx.Fn Try.prog 136 [(Sl (Ki .u32) a0), (Sl (Ki .u32) a1)] [] (fun w : Unit => (Sl (Ki .u32) out)) (fun w => []) := by
 unfold spec_subLimbs at hp
 refine fn_of Try.func136 rfl Try.ntmps136 rfl fun E hM => ?_
 refine cr fun K1 hK1 => ?_
 refine s0 (rd_assign' rfl) ?_
 refine nk hK1 ?_
 refine cr fun K2 hK2 => ?_
 refine s0 (rd_move' rfl) ?_
 refine s0 (rd_len' rfl Try.underlying131) ?_
 obtain ⟨r12, hr12, hp⟩ := bind_some hp
 refine sx_ox' (ox_make' (K := (Ki .u32)) rfl rfl hr12 rfl Try.underlying131 info214 rfl rfl rfl rfl rfl) (wt_none' rfl) fun g12 => ?_
 refine s0 (rd_assign' rfl) ?_
 refine nk hK2 ?_
 refine cr fun K3 hK3 => ?_
 refine s0 (rd_assign' rfl) ?_
 refine nk hK3 ?_
 refine cx_seq' fun K4 hK4 => ?_
 refine cr fun K5 hK5 => ?_
 refine s0 (rd_move' rfl) ?_
 refine s0 (rd_len' rfl Try.underlying131) ?_
 refine s0 (rd_move' rfl) ?_
 refine nk hK5 ?_
 refine cx_block' ?_
 obtain ⟨v6, hy1, hp⟩ := bind_some hp
 refine cx_loopg' (F := spec_subLimbs_l1 a0 a1) (G := fun k R v => spec_subLimbs_l1s a0 a1 k R v.1 v.2.1 v.2.2) (x := (r12, 0, 0)) (gh := g12) (fun (v3 : (List Int) × Int × Int) (w3 : Gs) => (⟨50, [], [(1, (Sl (Ki .u32) a1)), (5, (Vl (Vs w3))), (6, (Vl (.int .u64 v3.2.1))), (13, (Sl (Ki .u32) a0)), (14, (Vi (a0.length : Int))), (15, (Vi v3.2.2))], [(Rw (Ki .u32) 214 (Vs w3) v3.1)]⟩ : St)) (fun (v6 : (List Int)) => Zg E (Exit.exit 0) (fun (w6 : Gs) => (⟨50, [], [(5, (Vl (Vs w6)))], [(Rw (Ki .u32) 214 (Vs w6) v6)]⟩ : St))) (fun _ => rfl) (fun _ _ => rfl) ?_ hy1 (tx_to' rfl [0] (sub_cons rfl (sub_cons rfl (sub_cons rfl (sub_cons rfl (sub_cons rfl (sub_cons rfl sub_nil)))))) (by decide) (pick_cons rfl pick_nil)) ?_
 ·clear hp hy1
  clear v6
  intro k rec1 KY1 ih1
  rintro ⟨x5, x6, x7⟩ g901 y1 hp
  replace hp : spec_subLimbs_l1s a0 a1 k rec1 x5 x6 x7 = some y1 := hp
  unfold spec_subLimbs_l1s at hp
  refine cr fun K16 hK16 => ?_
  refine s0 (rd_bin' rfl rfl eg_int ru_lss) ?_
  refine nk hK16 ?_
  refine cx_seq' fun K17 hK17 => ?_
  refine cx_cond' rfl (fun h5 => ?_) (fun h5 => ?_)
  ·replace hp := (br_t h5).symm.trans hp
   refine cx_skip' ?_
   show TX E K17 _
   refine tx_k' hK17 ?_
   refine cx_seq' fun K18 hK18 => ?_
   refine cx_block' ?_
   refine cr fun K19 hK19 => ?_
   refine s0 (rd_move' rfl) ?_
   obtain ⟨r18, hr18, hp⟩ := bind_some hp
   refine s0 (rd_at' (K := (Ki .u32)) rfl rfl hr18 Try.underlying131 info214) ?_
   refine s0 (rd_load_pt' rfl rfl flat214) ?_
   refine s0 (rd_assign' rfl) ?_
   refine s0 (rd_assign' rfl) ?_
   refine nk hK19 ?_
   refine cr fun K20 hK20 => ?_
   refine s0 (rd_move' rfl) ?_
   refine s0 (rd_assign' rfl) ?_
   refine nk hK20 ?_
   refine cx_join' (fun (v4 : Int) => (⟨50, [], [(1, (Sl (Ki .u32) a1)), (5, (Vl (Vs g901))), (8, (Vl (.int .u32 r18))), (9, (Vl (.int .u64 v4))), (13, (Sl (Ki .u32) a0)), (14, (Vi (a0.length : Int))), (15, (Vi x7))], [(Rw (Ki .u32) 214 (Vs g901) x5)]⟩ : St)) (fun (v4 : Int) => spec_subLimbs_j3 k r18 x5 rec1 x7 v4 = some y1) ?_ ?_
   ·rintro x3 hp
    replace hp : spec_subLimbs_j3 k r18 x5 rec1 x7 x3 = some y1 := hp
    unfold spec_subLimbs_j3 at hp
    refine cr fun K23 hK23 => ?_
    refine s0 (rd_assign' rfl) ?_
    refine nk hK23 ?_
    refine cx_join' (fun (v5 : Int) => (⟨50, [], [(1, (Sl (Ki .u32) a1)), (5, (Vl (Vs g901))), (6, (Vl (.int .u64 v5))), (8, (Vl (.int .u32 r18))), (9, (Vl (.int .u64 x3))), (13, (Sl (Ki .u32) a0)), (14, (Vi (a0.length : Int))), (15, (Vi x7))], [(Rw (Ki .u32) 214 (Vs g901) x5)]⟩ : St)) (fun (v5 : Int) => spec_subLimbs_j4 k x5 r18 x3 rec1 x7 v5 = some y1) ?_ ?_
    ·rintro x4 hp
     replace hp : spec_subLimbs_j4 k x5 r18 x3 rec1 x7 x4 = some y1 := hp
     unfold spec_subLimbs_j4 at hp
     refine cx_region' ?_
     refine s0 (rd_move' rfl) ?_
     refine s0 (rd_move' rfl) ?_
     refine s0 (rd_conv' rfl (ru_i2i (by rw [Try.underlying214]; rfl) Try.underlying194)) ?_
     refine s0 (rd_move' rfl) ?_
     obtain ⟨r40, hr40, hp⟩ := bind_some hp
     refine s0 (rd_bin' rfl rfl eg_int (ru_shl hr40)) ?_
     refine s0 (rd_bin' rfl rfl eg_int ru_add) ?_
     refine s0 (rd_move' rfl) ?_
     refine s0 (rd_bin' rfl rfl eg_int ru_sub) ?_
     refine s0 (rd_conv' rfl (ru_i2i (by rw [Try.underlying194]; rfl) Try.underlying214)) ?_
     refine sx_ox' (ox_rowlit' (K := (Ki .u32)) (xs := [icv .u32 (isub .u64 (iadd .u64 (icv .u64 r18) r40) x3)]) (qs := [(0, [(Vl (.int .u32 (icv .u32 (isub .u64 (iadd .u64 (icv .u64 r18) r40) x3))))])]) ⟨rfl, ⟨_, rfl, (lv_vl rfl rfl)⟩, trivial⟩ Try.underlying131 info214 rfl rfl rfl rfl rfl (by kernel_rfl) rfl rfl rfl) (wt_none' rfl) fun g45 => ?_
     obtain ⟨r46, hr46, hp⟩ := bind_some hp
     refine sx_ox' (ox_append' (K := (Ki .u32)) (i := 1) (xs := x5) (ys := ([icv .u32 (isub .u64 (iadd .u64 (icv .u64 r18) r40) x3)])) rfl rfl rfl (sr_row' (j := 0) rfl rfl rfl Try.underlying131) hr46 Try.underlying131 info214 rfl rfl rfl (H' := [(Rw (Ki .u32) 214 (Vs g45) ([icv .u32 (isub .u64 (iadd .u64 (icv .u64 r18) r40) x3)]))]) rfl) (wt_none' rfl) fun g46 => ?_
     refine s0 (rd_assign' rfl) ?_
     refine nk hK18 ?_
     refine cx_region' ?_
     refine s0 (rd_bin' rfl rfl eg_int ru_add) ?_
     refine s0 (rd_move' rfl) ?_
     refine sx_nil' ?_
     show TX E (KY1 _) _
     exact tx_pick' [0] (sub_cons rfl (sub_cons rfl (sub_cons rfl (sub_cons rfl (sub_cons rfl (sub_cons rfl sub_nil)))))) (by decide) (pick_cons rfl pick_nil) (ih1 (r46, x4, (iadd .i64 x7 1)) g46 _ hp)
    intro K24 hK24
    refine cr fun K25 hK25 => ?_
    refine s0 (rd_move' rfl) ?_
    refine s0 (rd_conv' rfl (ru_i2i (by rw [Try.underlying214]; rfl) Try.underlying194)) ?_
    refine s0 (rd_move' rfl) ?_
    refine s0 (rd_bin' rfl rfl eg_int ru_lss) ?_
    refine nk hK25 ?_
    refine cx_cond' rfl (fun h7 => ?_) (fun h7 => ?_)
    ·replace hp := (br_t h7).symm.trans hp
     refine cx_region' ?_
     refine s0 (rd_assign' rfl) ?_
     refine sx_nil' ?_
     show TX E K24 _
     exact tx_pick' [0] (sub_cons rfl (sub_cons rfl (sub_cons rfl (sub_cons rfl (sub_cons rfl (sub_cons rfl (sub_cons rfl (sub_cons rfl sub_nil)))))))) (by decide) (pick_cons rfl pick_nil) (hK24 1 hp)
    replace hp := (br_f h7).symm.trans hp
    refine cx_skip' ?_
    show TX E K24 _
    exact tx_pick' [0] (sub_cons rfl (sub_cons rfl (sub_cons rfl (sub_cons rfl (sub_cons rfl (sub_cons rfl (sub_cons rfl (sub_cons rfl sub_nil)))))))) (by decide) (pick_cons rfl pick_nil) (hK24 0 hp)
   intro K21 hK21
   refine cr fun K22 hK22 => ?_
   refine s0 (rd_move' rfl) ?_
   refine s0 (rd_move' rfl) ?_
   refine s0 (rd_len' rfl Try.underlying131) ?_
   refine s0 (rd_bin' rfl rfl eg_int ru_lss) ?_
   refine nk hK22 ?_
   refine cx_cond' rfl (fun h6 => ?_) (fun h6 => ?_)
   ·replace hp := (br_t h6).symm.trans hp
    refine cx_region' ?_
    refine s0 (rd_move' rfl) ?_
    refine s0 (rd_move' rfl) ?_
    refine s0 (rd_move' rfl) ?_
    obtain ⟨r28, hr28, hp⟩ := bind_some hp
    refine s0 (rd_at' (K := (Ki .u32)) rfl rfl hr28 Try.underlying131 info214) ?_
    refine s0 (rd_load_pt' rfl rfl flat214) ?_
    refine s0 (rd_conv' rfl (ru_i2i (by rw [Try.underlying214]; rfl) Try.underlying194)) ?_
    refine s0 (rd_bin' rfl rfl eg_int ru_add) ?_
    refine s0 (rd_assign' rfl) ?_
    refine sx_nil' ?_
    show TX E K21 _
    exact tx_pick' [0] (sub_cons rfl (sub_cons rfl (sub_cons rfl (sub_cons rfl (sub_cons rfl (sub_cons rfl (sub_cons rfl sub_nil))))))) (by decide) (pick_cons rfl pick_nil) (hK21 (iadd .u64 x6 (icv .u64 r28)) hp)
   replace hp := (br_f h6).symm.trans hp
   refine cx_skip' ?_
   show TX E K21 _
   exact tx_pick' [0] (sub_cons rfl (sub_cons rfl (sub_cons rfl (sub_cons rfl (sub_cons rfl (sub_cons rfl (sub_cons rfl sub_nil))))))) (by decide) (pick_cons rfl pick_nil) (hK21 x6 hp)
  replace hp := (br_f h5).symm.trans hp
  refine cx_exit' ?_
  replace hp := Option.some.inj hp
  subst hp
  show TX E (Zg E (Exit.exit 0) _ (Exit.exit 0)) _
  exact tx_zend' g901 rfl [0] (sub_cons rfl sub_nil) (by decide) (pick_cons rfl pick_nil)
 refine zg_out fun w6 => ?_
 show TX E K4 _
 refine tx_k' hK4 ?_
 refine cr fun K26 hK26 => ?_
 refine s0 (rd_move' rfl) ?_
 refine tx_fz' (frz_row 0 [(5, (Vl (Vs w6)), (Sl (Ki .u32) v6)), (48, (Vl (Vs w6)), (Sl (Ki .u32) v6))] (K := (Ki .u32)) (xs := v6) (by decide) rfl ⟨⟨rfl, frz_it⟩, ⟨rfl, frz_it⟩, trivial⟩ (H' := []) frzH_refl) ?_
 obtain ⟨r49, hr49, hp⟩ := bind_some hp
 refine sx_ox' (ox_calln' (ent_fn' Try.func119 isn119 rfl rfl) (spec_trim_sim _ hr49 : Sx.Fn Try.prog 119 [(Sl (Ki .u32) v6)] [] (fun x : Unit => (Sl (Ki .u32) r49)) (fun x => [])) (Hn := fun x : Unit => []) (fun _ => rfl) rfl rfl) (wt_none' rfl) fun ⟨⟩ => ?_
 refine s0 (rd_assign' rfl) ?_
 refine nk hK26 ?_
 refine cx_retc' ?_
 replace hp := Option.some.inj hp
 subst hp
 refine tx_pick' (L' := [(4, (Sl (Ki .u32) r49))]) (H' := []) [] (sub_cons rfl sub_nil) (by decide) pick_nil ?_
 exact tx_ret1' Try.results136 rfl () (rv_tmp' rfl) (List.Sublist.refl _)

def spec_Whole_Add (k : Nat) (a0_0 : Bool) (a0_1 : List Int) (a1_0 : Bool) (a1_1 : List Int) : Option (Bool × (List Int)) :=
 br (a0_0 == a1_0)
  ((spec_addLimbs k a0_1 a1_1) >>= fun r16 =>
  some (a0_0, r16))
  ((spec_cmpLimbs k a0_1 a1_1) >>= fun r22 =>
  br (decide (r22 = 0))
   (some (false, []))
   (br (decide (r22 = 1))
    ((spec_subLimbs k a0_1 a1_1) >>= fun r34 =>
    some (a0_0, r34))
    ((spec_subLimbs k a1_1 a0_1) >>= fun r42 =>
    some (a1_0, r42))))

theorem spec_Whole_Add_sim {k : Nat}  (a0_0 : Bool) (a0_1 : List Int) (a1_0 : Bool) (a1_1 : List Int) {out : Bool × (List Int)} (hp : spec_Whole_Add k a0_0 a0_1 a1_0 a1_1 = some out) : Sx.Fn Try.prog 131 [(Ag [(Vb a0_0), (Sl (Ki .u32) a0_1)]), (Ag [(Vb a1_0), (Sl (Ki .u32) a1_1)])] [] (fun w : Unit => (Ag [(Vb out.1), (Sl (Ki .u32) out.2)])) (fun w => []) := by
 unfold spec_Whole_Add at hp
 refine fn_of Try.func131 rfl Try.ntmps131 rfl fun E hM => ?_
 refine cr fun K1 hK1 => ?_
 refine sx_ox' (ox_box' rfl (lv_ag _) rfl rfl) (wt_none' rfl) fun q2 => ?_
 refine sx_ox' (ox_box' rfl (lv_ag _) rfl rfl) (wt_none' rfl) fun q3 => ?_
 refine sx_ox' (ox_alloc' info133 rfl rfl rfl rfl (l := [(Vb false), Vn]) rfl) (wt_none' rfl) fun q4 => ?_
 refine nk hK1 ?_
 refine cx_seq' fun K2 hK2 => ?_
 refine cr fun K3 hK3 => ?_
 refine s0 (rd_field0' rfl Try.underlying133 rfl info4 rfl) ?_
 refine s0 (rd_load' (i := 2) (o := 0) rfl ⟨rfl, rfl, rfl, rfl⟩ rfl flat4) ?_
 refine s0 (rd_field0' rfl Try.underlying133 rfl info4 rfl) ?_
 refine s0 (rd_load' (i := 1) (o := 0) rfl ⟨rfl, rfl, rfl, rfl⟩ rfl flat4) ?_
 refine s0 (rd_bin' rfl rfl eg_bool (ru_beq Try.underlying4)) ?_
 refine nk hK3 ?_
 refine cx_cond' rfl (fun h1 => ?_) (fun h1 => ?_)
 ·replace hp := (br_t h1).symm.trans hp
  refine cx_seq' fun K4 hK4 => ?_
  refine cx_plan' [] [(8, 1)] [(0, 1), (1, 1), (2, 1), (3, 1), (4, 1), (5, 1), (6, 0), (7, 1), (8, 0)] mixed (by kernel_rfl) ?_
  refine px_rd' rfl (rd_field0' rfl Try.underlying133 rfl info4 rfl) rfl rfl (wt_none' rfl) ?_
  refine px_rd' rfl (rd_load' (i := 2) (o := 0) rfl ⟨rfl, rfl, rfl, rfl⟩ rfl flat4) rfl rfl (wt_none' rfl) ?_
  refine px_rd' rfl (rd_field' (off := 1) rfl Try.underlying133 rfl info131 rfl) rfl rfl (wt_none' rfl) ?_
  refine px_rd' rfl (rd_load' (i := 2) (o := 1) rfl ⟨rfl, rfl, rfl, rfl⟩ rfl flat131) rfl rfl (wt_none' rfl) ?_
  refine px_rd' rfl (rd_field' (off := 1) rfl Try.underlying133 rfl info131 rfl) rfl rfl (wt_none' rfl) ?_
  refine px_rd' rfl (rd_load' (i := 1) (o := 1) rfl ⟨rfl, rfl, rfl, rfl⟩ rfl flat131) rfl rfl (wt_none' rfl) ?_
  obtain ⟨r16, hr16, hp⟩ := bind_some hp
  refine px_ox' rfl (ox_calln' (ent_fn' Try.func134 isn134 rfl rfl) (spec_addLimbs_sim _ _ hr16 : Sx.Fn Try.prog 134 [(Sl (Ki .u32) a0_1), (Sl (Ki .u32) a1_1)] [] (fun x : Unit => (Sl (Ki .u32) r16)) (fun x => [])) (Hn := fun x : Unit => [⟨.pointer (some q4), [(Vb false), Vn], 133, none⟩, ⟨.pointer (some q3), [(Vb a1_0), (Sl (Ki .u32) a1_1)], 133, none⟩, ⟨.pointer (some q2), [(Vb a0_0), (Sl (Ki .u32) a0_1)], 133, none⟩]) (fun _ => rfl) rfl rfl) rfl bs_nil (wt_none' rfl) fun ⟨⟩ => ?_
  refine px_rd' rfl (rd_build' (pls := [(0, 1), (1, 1)]) (qs := [(0, [(Vb a0_0)]), (1, [(Sl (Ki .u32) r16)])]) (r := [(Vb a0_0), (Sl (Ki .u32) r16)]) ⟨rfl, ⟨_, rfl, (lv_vl rfl rfl)⟩, ⟨rfl, ⟨_, rfl, (lv_sl _ _)⟩, trivial⟩⟩ Try.underlying133 has133 places133 info133 rfl rfl rfl) rfl rfl (wt_none' rfl) ?_
  refine px_oxv' rfl (oxv_store (i := 0) (o := 0) rfl rfl (lv_ag _) ⟨rfl, rfl, rfl, rfl⟩ rfl info133 rfl (H' := [⟨.pointer (some q4), [(Vb a0_0), (Sl (Ki .u32) r16)], 133, none⟩, ⟨.pointer (some q3), [(Vb a1_0), (Sl (Ki .u32) a1_1)], 133, none⟩, ⟨.pointer (some q2), [(Vb a0_0), (Sl (Ki .u32) a0_1)], 133, none⟩]) rfl) rfl rfl bo_nil (wt_none' rfl) fun _ => ?_
  refine px_nil' ?_
  show TX E K4 _
  refine tx_k' hK4 ?_
  refine cx_retc' ?_
  replace hp := Option.some.inj hp
  subst hp
  refine tx_pick' (L' := [(4, (Vp q4))]) (H' := [⟨.pointer (some q4), [(Vb a0_0), (Sl (Ki .u32) r16)], 133, none⟩]) [0] (sub_cons rfl sub_nil) (by decide) (pick_cons rfl pick_nil) ?_
  exact tx_ret1' Try.results131 rfl () (rv_cell_agg' (i := 0) (o := 0) (nn := 2) rfl ⟨rfl, rfl, rfl, rfl⟩ rfl agg133 rfl) (List.nil_sublist _)
 replace hp := (br_f h1).symm.trans hp
 refine cx_skip' ?_
 show TX E K2 _
 refine tx_k' hK2 ?_
 refine cx_seq' fun K5 hK5 => ?_
 refine cr fun K6 hK6 => ?_
 refine s0 (rd_field' (off := 1) rfl Try.underlying133 rfl info131 rfl) ?_
 refine s0 (rd_load' (i := 2) (o := 1) rfl ⟨rfl, rfl, rfl, rfl⟩ rfl flat131) ?_
 refine s0 (rd_field' (off := 1) rfl Try.underlying133 rfl info131 rfl) ?_
 refine s0 (rd_load' (i := 1) (o := 1) rfl ⟨rfl, rfl, rfl, rfl⟩ rfl flat131) ?_
 obtain ⟨r22, hr22, hp⟩ := bind_some hp
 refine sx_ox' (ox_calln' (ent_fn' Try.func135 isn135 rfl rfl) (spec_cmpLimbs_sim _ _ hr22 : Sx.Fn Try.prog 135 [(Sl (Ki .u32) a0_1), (Sl (Ki .u32) a1_1)] [] (fun x : Unit => (Vi r22)) (fun x => [])) (Hn := fun x : Unit => [⟨.pointer (some q4), [(Vb false), Vn], 133, none⟩, ⟨.pointer (some q3), [(Vb a1_0), (Sl (Ki .u32) a1_1)], 133, none⟩, ⟨.pointer (some q2), [(Vb a0_0), (Sl (Ki .u32) a0_1)], 133, none⟩]) (fun _ => rfl) rfl rfl) (wt_none' rfl) fun ⟨⟩ => ?_
 refine nk hK6 ?_
 refine cx_block' ?_
 refine cr fun K7 hK7 => ?_
 refine s0 (rd_bin' rfl rfl eg_int ru_eql) ?_
 refine s0 (rd_assign' rfl) ?_
 refine nk hK7 ?_
 refine cx_cond' rfl (fun h2 => ?_) (fun h2 => ?_)
 ·replace hp := (br_t h2).symm.trans hp
  refine cr fun K8 hK8 => ?_
  refine s0 (rd_build' (pls := [(0, 1), (1, 1)]) (qs := []) (r := [(Vb false), Vn]) trivial Try.underlying133 has133 places133 info133 rfl rfl rfl) ?_
  refine sx_ox' (ox_store' (i := 0) (o := 0) rfl rfl (lv_ag _) ⟨rfl, rfl, rfl, rfl⟩ rfl info133 rfl (H' := [⟨.pointer (some q4), [(Vb false), Vn], 133, none⟩, ⟨.pointer (some q3), [(Vb a1_0), (Sl (Ki .u32) a1_1)], 133, none⟩, ⟨.pointer (some q2), [(Vb a0_0), (Sl (Ki .u32) a0_1)], 133, none⟩]) rfl) (wt_none' rfl) fun _ => ?_
  refine nk hK8 ?_
  refine cx_retc' ?_
  replace hp := Option.some.inj hp
  subst hp
  refine tx_pick' (L' := [(4, (Vp q4))]) (H' := [⟨.pointer (some q4), [(Vb false), Vn], 133, none⟩]) [0] (sub_cons rfl sub_nil) (by decide) (pick_cons rfl pick_nil) ?_
  exact tx_ret1' Try.results131 rfl () (rv_imp' (x := (Ag [(Vb false), Vn])) (y := (Ag [(Vb false), (Sl (Ki .u32) [])])) (rv_cell_agg' (i := 0) (o := 0) (nn := 2) rfl ⟨rfl, rfl, rfl, rfl⟩ rfl agg133 rfl) (imp_ag ⟨imp_refl, imp_nil, trivial⟩)) (List.nil_sublist _)
 replace hp := (br_f h2).symm.trans hp
 refine cr fun K9 hK9 => ?_
 refine s0 (rd_bin' rfl rfl eg_int ru_eql) ?_
 refine s0 (rd_assign' rfl) ?_
 refine nk hK9 ?_
 refine cx_cond' rfl (fun h3 => ?_) (fun h3 => ?_)
 ·replace hp := (br_t h3).symm.trans hp
  refine cx_seq' fun K10 hK10 => ?_
  refine cx_plan' [] [(8, 1)] [(0, 1), (1, 1), (2, 1), (3, 1), (4, 1), (5, 1), (6, 0), (7, 1), (8, 0)] mixed (by kernel_rfl) ?_
  refine px_rd' rfl (rd_field0' rfl Try.underlying133 rfl info4 rfl) rfl rfl (wt_none' rfl) ?_
  refine px_rd' rfl (rd_load' (i := 2) (o := 0) rfl ⟨rfl, rfl, rfl, rfl⟩ rfl flat4) rfl rfl (wt_none' rfl) ?_
  refine px_rd' rfl (rd_field' (off := 1) rfl Try.underlying133 rfl info131 rfl) rfl rfl (wt_none' rfl) ?_
  refine px_rd' rfl (rd_load' (i := 2) (o := 1) rfl ⟨rfl, rfl, rfl, rfl⟩ rfl flat131) rfl rfl (wt_none' rfl) ?_
  refine px_rd' rfl (rd_field' (off := 1) rfl Try.underlying133 rfl info131 rfl) rfl rfl (wt_none' rfl) ?_
  refine px_rd' rfl (rd_load' (i := 1) (o := 1) rfl ⟨rfl, rfl, rfl, rfl⟩ rfl flat131) rfl rfl (wt_none' rfl) ?_
  obtain ⟨r34, hr34, hp⟩ := bind_some hp
  refine px_ox' rfl (ox_calln' (ent_fn' Try.func136 isn136 rfl rfl) (spec_subLimbs_sim _ _ hr34 : Sx.Fn Try.prog 136 [(Sl (Ki .u32) a0_1), (Sl (Ki .u32) a1_1)] [] (fun x : Unit => (Sl (Ki .u32) r34)) (fun x => [])) (Hn := fun x : Unit => [⟨.pointer (some q4), [(Vb false), Vn], 133, none⟩, ⟨.pointer (some q3), [(Vb a1_0), (Sl (Ki .u32) a1_1)], 133, none⟩, ⟨.pointer (some q2), [(Vb a0_0), (Sl (Ki .u32) a0_1)], 133, none⟩]) (fun _ => rfl) rfl rfl) rfl bs_nil (wt_none' rfl) fun ⟨⟩ => ?_
  refine px_rd' rfl (rd_build' (pls := [(0, 1), (1, 1)]) (qs := [(0, [(Vb a0_0)]), (1, [(Sl (Ki .u32) r34)])]) (r := [(Vb a0_0), (Sl (Ki .u32) r34)]) ⟨rfl, ⟨_, rfl, (lv_vl rfl rfl)⟩, ⟨rfl, ⟨_, rfl, (lv_sl _ _)⟩, trivial⟩⟩ Try.underlying133 has133 places133 info133 rfl rfl rfl) rfl rfl (wt_none' rfl) ?_
  refine px_oxv' rfl (oxv_store (i := 0) (o := 0) rfl rfl (lv_ag _) ⟨rfl, rfl, rfl, rfl⟩ rfl info133 rfl (H' := [⟨.pointer (some q4), [(Vb a0_0), (Sl (Ki .u32) r34)], 133, none⟩, ⟨.pointer (some q3), [(Vb a1_0), (Sl (Ki .u32) a1_1)], 133, none⟩, ⟨.pointer (some q2), [(Vb a0_0), (Sl (Ki .u32) a0_1)], 133, none⟩]) rfl) rfl rfl bo_nil (wt_none' rfl) fun _ => ?_
  refine px_nil' ?_
  show TX E K10 _
  refine tx_k' hK10 ?_
  refine cx_retc' ?_
  replace hp := Option.some.inj hp
  subst hp
  refine tx_pick' (L' := [(4, (Vp q4))]) (H' := [⟨.pointer (some q4), [(Vb a0_0), (Sl (Ki .u32) r34)], 133, none⟩]) [0] (sub_cons rfl sub_nil) (by decide) (pick_cons rfl pick_nil) ?_
  exact tx_ret1' Try.results131 rfl () (rv_cell_agg' (i := 0) (o := 0) (nn := 2) rfl ⟨rfl, rfl, rfl, rfl⟩ rfl agg133 rfl) (List.nil_sublist _)
 replace hp := (br_f h3).symm.trans hp
 refine cx_skip' ?_
 show TX E K5 _
 refine tx_k' hK5 ?_
 refine cx_seq' fun K11 hK11 => ?_
 refine cx_plan' [] [(8, 1)] [(0, 1), (1, 1), (2, 1), (3, 1), (4, 1), (5, 1), (6, 0), (7, 1), (8, 0)] mixed (by kernel_rfl) ?_
 refine px_rd' rfl (rd_field0' rfl Try.underlying133 rfl info4 rfl) rfl rfl (wt_none' rfl) ?_
 refine px_rd' rfl (rd_load' (i := 1) (o := 0) rfl ⟨rfl, rfl, rfl, rfl⟩ rfl flat4) rfl rfl (wt_none' rfl) ?_
 refine px_rd' rfl (rd_field' (off := 1) rfl Try.underlying133 rfl info131 rfl) rfl rfl (wt_none' rfl) ?_
 refine px_rd' rfl (rd_load' (i := 1) (o := 1) rfl ⟨rfl, rfl, rfl, rfl⟩ rfl flat131) rfl rfl (wt_none' rfl) ?_
 refine px_rd' rfl (rd_field' (off := 1) rfl Try.underlying133 rfl info131 rfl) rfl rfl (wt_none' rfl) ?_
 refine px_rd' rfl (rd_load' (i := 2) (o := 1) rfl ⟨rfl, rfl, rfl, rfl⟩ rfl flat131) rfl rfl (wt_none' rfl) ?_
 obtain ⟨r42, hr42, hp⟩ := bind_some hp
 refine px_ox' rfl (ox_calln' (ent_fn' Try.func136 isn136 rfl rfl) (spec_subLimbs_sim _ _ hr42 : Sx.Fn Try.prog 136 [(Sl (Ki .u32) a1_1), (Sl (Ki .u32) a0_1)] [] (fun x : Unit => (Sl (Ki .u32) r42)) (fun x => [])) (Hn := fun x : Unit => [⟨.pointer (some q4), [(Vb false), Vn], 133, none⟩, ⟨.pointer (some q3), [(Vb a1_0), (Sl (Ki .u32) a1_1)], 133, none⟩, ⟨.pointer (some q2), [(Vb a0_0), (Sl (Ki .u32) a0_1)], 133, none⟩]) (fun _ => rfl) rfl rfl) rfl bs_nil (wt_none' rfl) fun ⟨⟩ => ?_
 refine px_rd' rfl (rd_build' (pls := [(0, 1), (1, 1)]) (qs := [(0, [(Vb a1_0)]), (1, [(Sl (Ki .u32) r42)])]) (r := [(Vb a1_0), (Sl (Ki .u32) r42)]) ⟨rfl, ⟨_, rfl, (lv_vl rfl rfl)⟩, ⟨rfl, ⟨_, rfl, (lv_sl _ _)⟩, trivial⟩⟩ Try.underlying133 has133 places133 info133 rfl rfl rfl) rfl rfl (wt_none' rfl) ?_
 refine px_oxv' rfl (oxv_store (i := 0) (o := 0) rfl rfl (lv_ag _) ⟨rfl, rfl, rfl, rfl⟩ rfl info133 rfl (H' := [⟨.pointer (some q4), [(Vb a1_0), (Sl (Ki .u32) r42)], 133, none⟩, ⟨.pointer (some q3), [(Vb a1_0), (Sl (Ki .u32) a1_1)], 133, none⟩, ⟨.pointer (some q2), [(Vb a0_0), (Sl (Ki .u32) a0_1)], 133, none⟩]) rfl) rfl rfl bo_nil (wt_none' rfl) fun _ => ?_
 refine px_nil' ?_
 show TX E K11 _
 refine tx_k' hK11 ?_
 refine cx_retc' ?_
 replace hp := Option.some.inj hp
 subst hp
 refine tx_pick' (L' := [(4, (Vp q4))]) (H' := [⟨.pointer (some q4), [(Vb a1_0), (Sl (Ki .u32) r42)], 133, none⟩]) [0] (sub_cons rfl sub_nil) (by decide) (pick_cons rfl pick_nil) ?_
 exact tx_ret1' Try.results131 rfl () (rv_cell_agg' (i := 0) (o := 0) (nn := 2) rfl ⟨rfl, rfl, rfl, rfl⟩ rfl agg133 rfl) (List.nil_sublist _)

def spec_Dyadic_Add (k : Nat) (a0_0 : Bool) (a0_1 : List Int) (a0_2 : Int) (a1_0 : Bool) (a1_1 : List Int) (a1_2 : Int) : Option (Bool × (List Int) × Int) :=
 (spec_Dyadic_Sign k a0_0 a0_1 a0_2) >>= fun r7 =>
 br (decide (r7 = 0))
  (some (a1_0, a1_1, a1_2))
  ((spec_Dyadic_Sign k a1_0 a1_1 a1_2) >>= fun r12 =>
  br (decide (r12 = 0))
   (some (a0_0, a0_1, a0_2))
   (br (decide (a1_2 < a0_2))
    ((spec_Whole_Up k a0_0 a0_1 (isub .i64 a0_2 a1_2)) >>= fun r28 =>
    (spec_Whole_Add k r28.1 r28.2 a1_0 a1_1) >>= fun r31 =>
    some (r31.1, r31.2, a1_2))
    ((spec_Whole_Up k a1_0 a1_1 (isub .i64 a1_2 a0_2)) >>= fun r42 =>
    (spec_Whole_Add k r42.1 r42.2 a0_0 a0_1) >>= fun r45 =>
    some (r45.1, r45.2, a0_2))))

theorem spec_Dyadic_Add_sim {k : Nat}  (a0_0 : Bool) (a0_1 : List Int) (a0_2 : Int) (a1_0 : Bool) (a1_1 : List Int) (a1_2 : Int) {out : Bool × (List Int) × Int} (hp : spec_Dyadic_Add k a0_0 a0_1 a0_2 a1_0 a1_1 a1_2 = some out) : Sx.Fn Try.prog 120 [(Ag [(Vb a0_0), (Sl (Ki .u32) a0_1), (Vi a0_2)]), (Ag [(Vb a1_0), (Sl (Ki .u32) a1_1), (Vi a1_2)])] [] (fun w : Unit => (Ag [(Vb out.1), (Sl (Ki .u32) out.2.1), (Vi out.2.2)])) (fun w => []) := by
 unfold spec_Dyadic_Add at hp
 refine fn_of Try.func120 rfl Try.ntmps120 rfl fun E hM => ?_
 refine cr fun K1 hK1 => ?_
 refine sx_ox' (ox_box' rfl (lv_ag _) rfl rfl) (wt_none' rfl) fun q2 => ?_
 refine sx_ox' (ox_box' rfl (lv_ag _) rfl rfl) (wt_none' rfl) fun q3 => ?_
 refine sx_ox' (ox_alloc' info135 rfl rfl rfl rfl (l := [(Vb false), Vn, (Vi 0)]) rfl) (wt_none' rfl) fun q4 => ?_
 refine nk hK1 ?_
 refine cx_seq' fun K2 hK2 => ?_
 refine cx_block' ?_
 refine cr fun K3 hK3 => ?_
 refine s0 (rd_load_agg' (i := 2) (o := 0) (nn := 3) rfl ⟨rfl, rfl, rfl, rfl⟩ rfl agg135 (l' := [(Vb a0_0), (Sl (Ki .u32) a0_1), (Vi a0_2)]) rfl) ?_
 obtain ⟨r7, hr7, hp⟩ := bind_some hp
 refine sx_ox' (ox_calln' (ent_fn' Try.func103 isn103 rfl rfl) (spec_Dyadic_Sign_sim _ _ _ hr7 : Sx.Fn Try.prog 103 [(Ag [(Vb a0_0), (Sl (Ki .u32) a0_1), (Vi a0_2)])] [] (fun x : Unit => (Vi r7)) (fun x => [])) (Hn := fun x : Unit => [⟨.pointer (some q4), [(Vb false), Vn, (Vi 0)], 135, none⟩, ⟨.pointer (some q3), [(Vb a1_0), (Sl (Ki .u32) a1_1), (Vi a1_2)], 135, none⟩, ⟨.pointer (some q2), [(Vb a0_0), (Sl (Ki .u32) a0_1), (Vi a0_2)], 135, none⟩]) (fun _ => rfl) rfl rfl) (wt_none' rfl) fun ⟨⟩ => ?_
 refine s0 (rd_bin' rfl rfl eg_int ru_eql) ?_
 refine s0 (rd_assign' rfl) ?_
 refine nk hK3 ?_
 refine cx_cond' rfl (fun h1 => ?_) (fun h1 => ?_)
 ·replace hp := (br_t h1).symm.trans hp
  refine cr fun K4 hK4 => ?_
  refine s0 (rd_load_agg' (i := 1) (o := 0) (nn := 3) rfl ⟨rfl, rfl, rfl, rfl⟩ rfl agg135 (l' := [(Vb a1_0), (Sl (Ki .u32) a1_1), (Vi a1_2)]) rfl) ?_
  refine sx_ox' (ox_store' (i := 0) (o := 0) rfl rfl (lv_ag _) ⟨rfl, rfl, rfl, rfl⟩ rfl info135 rfl (H' := [⟨.pointer (some q4), [(Vb a1_0), (Sl (Ki .u32) a1_1), (Vi a1_2)], 135, none⟩, ⟨.pointer (some q3), [(Vb a1_0), (Sl (Ki .u32) a1_1), (Vi a1_2)], 135, none⟩, ⟨.pointer (some q2), [(Vb a0_0), (Sl (Ki .u32) a0_1), (Vi a0_2)], 135, none⟩]) rfl) (wt_none' rfl) fun _ => ?_
  refine nk hK4 ?_
  refine cx_retc' ?_
  replace hp := Option.some.inj hp
  subst hp
  refine tx_pick' (L' := [(4, (Vp q4))]) (H' := [⟨.pointer (some q4), [(Vb a1_0), (Sl (Ki .u32) a1_1), (Vi a1_2)], 135, none⟩]) [0] (sub_cons rfl sub_nil) (by decide) (pick_cons rfl pick_nil) ?_
  exact tx_ret1' Try.results120 rfl () (rv_cell_agg' (i := 0) (o := 0) (nn := 3) rfl ⟨rfl, rfl, rfl, rfl⟩ rfl agg135 rfl) (List.nil_sublist _)
 replace hp := (br_f h1).symm.trans hp
 refine cr fun K5 hK5 => ?_
 refine s0 (rd_load_agg' (i := 1) (o := 0) (nn := 3) rfl ⟨rfl, rfl, rfl, rfl⟩ rfl agg135 (l' := [(Vb a1_0), (Sl (Ki .u32) a1_1), (Vi a1_2)]) rfl) ?_
 obtain ⟨r12, hr12, hp⟩ := bind_some hp
 refine sx_ox' (ox_calln' (ent_fn' Try.func103 isn103 rfl rfl) (spec_Dyadic_Sign_sim _ _ _ hr12 : Sx.Fn Try.prog 103 [(Ag [(Vb a1_0), (Sl (Ki .u32) a1_1), (Vi a1_2)])] [] (fun x : Unit => (Vi r12)) (fun x => [])) (Hn := fun x : Unit => [⟨.pointer (some q4), [(Vb false), Vn, (Vi 0)], 135, none⟩, ⟨.pointer (some q3), [(Vb a1_0), (Sl (Ki .u32) a1_1), (Vi a1_2)], 135, none⟩, ⟨.pointer (some q2), [(Vb a0_0), (Sl (Ki .u32) a0_1), (Vi a0_2)], 135, none⟩]) (fun _ => rfl) rfl rfl) (wt_none' rfl) fun ⟨⟩ => ?_
 refine s0 (rd_bin' rfl rfl eg_int ru_eql) ?_
 refine s0 (rd_assign' rfl) ?_
 refine nk hK5 ?_
 refine cx_cond' rfl (fun h2 => ?_) (fun h2 => ?_)
 ·replace hp := (br_t h2).symm.trans hp
  refine cr fun K6 hK6 => ?_
  refine s0 (rd_load_agg' (i := 2) (o := 0) (nn := 3) rfl ⟨rfl, rfl, rfl, rfl⟩ rfl agg135 (l' := [(Vb a0_0), (Sl (Ki .u32) a0_1), (Vi a0_2)]) rfl) ?_
  refine sx_ox' (ox_store' (i := 0) (o := 0) rfl rfl (lv_ag _) ⟨rfl, rfl, rfl, rfl⟩ rfl info135 rfl (H' := [⟨.pointer (some q4), [(Vb a0_0), (Sl (Ki .u32) a0_1), (Vi a0_2)], 135, none⟩, ⟨.pointer (some q3), [(Vb a1_0), (Sl (Ki .u32) a1_1), (Vi a1_2)], 135, none⟩, ⟨.pointer (some q2), [(Vb a0_0), (Sl (Ki .u32) a0_1), (Vi a0_2)], 135, none⟩]) rfl) (wt_none' rfl) fun _ => ?_
  refine nk hK6 ?_
  refine cx_retc' ?_
  replace hp := Option.some.inj hp
  subst hp
  refine tx_pick' (L' := [(4, (Vp q4))]) (H' := [⟨.pointer (some q4), [(Vb a0_0), (Sl (Ki .u32) a0_1), (Vi a0_2)], 135, none⟩]) [0] (sub_cons rfl sub_nil) (by decide) (pick_cons rfl pick_nil) ?_
  exact tx_ret1' Try.results120 rfl () (rv_cell_agg' (i := 0) (o := 0) (nn := 3) rfl ⟨rfl, rfl, rfl, rfl⟩ rfl agg135 rfl) (List.nil_sublist _)
 replace hp := (br_f h2).symm.trans hp
 refine cr fun K7 hK7 => ?_
 refine s0 (rd_field' (off := 2) rfl Try.underlying135 rfl info3 rfl) ?_
 refine s0 (rd_load' (i := 2) (o := 2) rfl ⟨rfl, rfl, rfl, rfl⟩ rfl flat3) ?_
 refine s0 (rd_field' (off := 2) rfl Try.underlying135 rfl info3 rfl) ?_
 refine s0 (rd_load' (i := 1) (o := 2) rfl ⟨rfl, rfl, rfl, rfl⟩ rfl flat3) ?_
 refine s0 (rd_bin' rfl rfl eg_int ru_gtr) ?_
 refine s0 (rd_assign' rfl) ?_
 refine nk hK7 ?_
 refine cx_cond' rfl (fun h3 => ?_) (fun h3 => ?_)
 ·replace hp := (br_t h3).symm.trans hp
  refine cx_seq' fun K8 hK8 => ?_
  refine cx_plan' [] [(14, 1)] [(0, 1), (1, 1), (2, 1), (3, 1), (4, 1), (5, 1), (6, 1), (8, 1), (9, 1), (11, 1), (12, 1), (7, 0), (10, 0), (13, 1), (14, 0)] mixed (by kernel_rfl) ?_
  refine px_rd' rfl (rd_field0' rfl Try.underlying135 rfl info133 rfl) rfl rfl (wt_none' rfl) ?_
  refine px_rd' rfl (rd_load_agg' (i := 2) (o := 0) (nn := 2) rfl ⟨rfl, rfl, rfl, rfl⟩ rfl agg133 (l' := [(Vb a0_0), (Sl (Ki .u32) a0_1)]) rfl) rfl rfl (wt_none' rfl) ?_
  refine px_rd' rfl (rd_field' (off := 2) rfl Try.underlying135 rfl info3 rfl) rfl rfl (wt_none' rfl) ?_
  refine px_rd' rfl (rd_load' (i := 2) (o := 2) rfl ⟨rfl, rfl, rfl, rfl⟩ rfl flat3) rfl rfl (wt_none' rfl) ?_
  refine px_rd' rfl (rd_field' (off := 2) rfl Try.underlying135 rfl info3 rfl) rfl rfl (wt_none' rfl) ?_
  refine px_rd' rfl (rd_load' (i := 1) (o := 2) rfl ⟨rfl, rfl, rfl, rfl⟩ rfl flat3) rfl rfl (wt_none' rfl) ?_
  refine px_rd' rfl (rd_bin' rfl rfl eg_int ru_sub) rfl rfl (wt_none' rfl) ?_
  refine px_rd' rfl (rd_field0' rfl Try.underlying135 rfl info133 rfl) rfl rfl (wt_none' rfl) ?_
  refine px_rd' rfl (rd_load_agg' (i := 1) (o := 0) (nn := 2) rfl ⟨rfl, rfl, rfl, rfl⟩ rfl agg133 (l' := [(Vb a1_0), (Sl (Ki .u32) a1_1)]) rfl) rfl rfl (wt_none' rfl) ?_
  refine px_rd' rfl (rd_field' (off := 2) rfl Try.underlying135 rfl info3 rfl) rfl rfl (wt_none' rfl) ?_
  refine px_rd' rfl (rd_load' (i := 1) (o := 2) rfl ⟨rfl, rfl, rfl, rfl⟩ rfl flat3) rfl rfl (wt_none' rfl) ?_
  obtain ⟨r28, hr28, hp⟩ := bind_some hp
  refine px_ox' rfl (ox_calln' (ent_fn' Try.func130 isn130 rfl rfl) (spec_Whole_Up_sim _ _ _ hr28 : Sx.Fn Try.prog 130 [(Ag [(Vb a0_0), (Sl (Ki .u32) a0_1)]), (Vi (isub .i64 a0_2 a1_2))] [] (fun x : Unit => (Ag [(Vb r28.1), (Sl (Ki .u32) r28.2)])) (fun x => [])) (Hn := fun x : Unit => [⟨.pointer (some q4), [(Vb false), Vn, (Vi 0)], 135, none⟩, ⟨.pointer (some q3), [(Vb a1_0), (Sl (Ki .u32) a1_1), (Vi a1_2)], 135, none⟩, ⟨.pointer (some q2), [(Vb a0_0), (Sl (Ki .u32) a0_1), (Vi a0_2)], 135, none⟩]) (fun _ => rfl) rfl rfl) rfl bs_nil (wt_none' rfl) fun ⟨⟩ => ?_
  obtain ⟨r31, hr31, hp⟩ := bind_some hp
  refine px_ox' rfl (ox_calln' (ent_fn' Try.func131 isn131 rfl rfl) (spec_Whole_Add_sim _ _ _ _ hr31 : Sx.Fn Try.prog 131 [(Ag [(Vb r28.1), (Sl (Ki .u32) r28.2)]), (Ag [(Vb a1_0), (Sl (Ki .u32) a1_1)])] [] (fun x : Unit => (Ag [(Vb r31.1), (Sl (Ki .u32) r31.2)])) (fun x => [])) (Hn := fun x : Unit => [⟨.pointer (some q4), [(Vb false), Vn, (Vi 0)], 135, none⟩, ⟨.pointer (some q3), [(Vb a1_0), (Sl (Ki .u32) a1_1), (Vi a1_2)], 135, none⟩, ⟨.pointer (some q2), [(Vb a0_0), (Sl (Ki .u32) a0_1), (Vi a0_2)], 135, none⟩]) (fun _ => rfl) rfl rfl) rfl bs_nil (wt_none' rfl) fun ⟨⟩ => ?_
  refine px_rd' rfl (rd_build' (pls := [(0, 2), (2, 1)]) (qs := [(0, [(Vb r31.1), (Sl (Ki .u32) r31.2)]), (1, [(Vi a1_2)])]) (r := [(Vb r31.1), (Sl (Ki .u32) r31.2), (Vi a1_2)]) ⟨rfl, ⟨_, rfl, (lv_ag _)⟩, ⟨rfl, ⟨_, rfl, (lv_vl rfl rfl)⟩, trivial⟩⟩ Try.underlying135 has135 places135 info135 rfl rfl rfl) rfl rfl (wt_none' rfl) ?_
  refine px_oxv' rfl (oxv_store (i := 0) (o := 0) rfl rfl (lv_ag _) ⟨rfl, rfl, rfl, rfl⟩ rfl info135 rfl (H' := [⟨.pointer (some q4), [(Vb r31.1), (Sl (Ki .u32) r31.2), (Vi a1_2)], 135, none⟩, ⟨.pointer (some q3), [(Vb a1_0), (Sl (Ki .u32) a1_1), (Vi a1_2)], 135, none⟩, ⟨.pointer (some q2), [(Vb a0_0), (Sl (Ki .u32) a0_1), (Vi a0_2)], 135, none⟩]) rfl) rfl rfl bo_nil (wt_none' rfl) fun _ => ?_
  refine px_nil' ?_
  show TX E K8 _
  refine tx_k' hK8 ?_
  refine cx_retc' ?_
  replace hp := Option.some.inj hp
  subst hp
  refine tx_pick' (L' := [(4, (Vp q4))]) (H' := [⟨.pointer (some q4), [(Vb r31.1), (Sl (Ki .u32) r31.2), (Vi a1_2)], 135, none⟩]) [0] (sub_cons rfl sub_nil) (by decide) (pick_cons rfl pick_nil) ?_
  exact tx_ret1' Try.results120 rfl () (rv_cell_agg' (i := 0) (o := 0) (nn := 3) rfl ⟨rfl, rfl, rfl, rfl⟩ rfl agg135 rfl) (List.nil_sublist _)
 replace hp := (br_f h3).symm.trans hp
 refine cx_skip' ?_
 show TX E K2 _
 refine tx_k' hK2 ?_
 refine cx_seq' fun K9 hK9 => ?_
 refine cx_plan' [] [(14, 1)] [(0, 1), (1, 1), (2, 1), (3, 1), (4, 1), (5, 1), (6, 1), (8, 1), (9, 1), (11, 1), (12, 1), (7, 0), (10, 0), (13, 1), (14, 0)] mixed (by kernel_rfl) ?_
 refine px_rd' rfl (rd_field0' rfl Try.underlying135 rfl info133 rfl) rfl rfl (wt_none' rfl) ?_
 refine px_rd' rfl (rd_load_agg' (i := 1) (o := 0) (nn := 2) rfl ⟨rfl, rfl, rfl, rfl⟩ rfl agg133 (l' := [(Vb a1_0), (Sl (Ki .u32) a1_1)]) rfl) rfl rfl (wt_none' rfl) ?_
 refine px_rd' rfl (rd_field' (off := 2) rfl Try.underlying135 rfl info3 rfl) rfl rfl (wt_none' rfl) ?_
 refine px_rd' rfl (rd_load' (i := 1) (o := 2) rfl ⟨rfl, rfl, rfl, rfl⟩ rfl flat3) rfl rfl (wt_none' rfl) ?_
 refine px_rd' rfl (rd_field' (off := 2) rfl Try.underlying135 rfl info3 rfl) rfl rfl (wt_none' rfl) ?_
 refine px_rd' rfl (rd_load' (i := 2) (o := 2) rfl ⟨rfl, rfl, rfl, rfl⟩ rfl flat3) rfl rfl (wt_none' rfl) ?_
 refine px_rd' rfl (rd_bin' rfl rfl eg_int ru_sub) rfl rfl (wt_none' rfl) ?_
 refine px_rd' rfl (rd_field0' rfl Try.underlying135 rfl info133 rfl) rfl rfl (wt_none' rfl) ?_
 refine px_rd' rfl (rd_load_agg' (i := 2) (o := 0) (nn := 2) rfl ⟨rfl, rfl, rfl, rfl⟩ rfl agg133 (l' := [(Vb a0_0), (Sl (Ki .u32) a0_1)]) rfl) rfl rfl (wt_none' rfl) ?_
 refine px_rd' rfl (rd_field' (off := 2) rfl Try.underlying135 rfl info3 rfl) rfl rfl (wt_none' rfl) ?_
 refine px_rd' rfl (rd_load' (i := 2) (o := 2) rfl ⟨rfl, rfl, rfl, rfl⟩ rfl flat3) rfl rfl (wt_none' rfl) ?_
 obtain ⟨r42, hr42, hp⟩ := bind_some hp
 refine px_ox' rfl (ox_calln' (ent_fn' Try.func130 isn130 rfl rfl) (spec_Whole_Up_sim _ _ _ hr42 : Sx.Fn Try.prog 130 [(Ag [(Vb a1_0), (Sl (Ki .u32) a1_1)]), (Vi (isub .i64 a1_2 a0_2))] [] (fun x : Unit => (Ag [(Vb r42.1), (Sl (Ki .u32) r42.2)])) (fun x => [])) (Hn := fun x : Unit => [⟨.pointer (some q4), [(Vb false), Vn, (Vi 0)], 135, none⟩, ⟨.pointer (some q3), [(Vb a1_0), (Sl (Ki .u32) a1_1), (Vi a1_2)], 135, none⟩, ⟨.pointer (some q2), [(Vb a0_0), (Sl (Ki .u32) a0_1), (Vi a0_2)], 135, none⟩]) (fun _ => rfl) rfl rfl) rfl bs_nil (wt_none' rfl) fun ⟨⟩ => ?_
 obtain ⟨r45, hr45, hp⟩ := bind_some hp
 refine px_ox' rfl (ox_calln' (ent_fn' Try.func131 isn131 rfl rfl) (spec_Whole_Add_sim _ _ _ _ hr45 : Sx.Fn Try.prog 131 [(Ag [(Vb r42.1), (Sl (Ki .u32) r42.2)]), (Ag [(Vb a0_0), (Sl (Ki .u32) a0_1)])] [] (fun x : Unit => (Ag [(Vb r45.1), (Sl (Ki .u32) r45.2)])) (fun x => [])) (Hn := fun x : Unit => [⟨.pointer (some q4), [(Vb false), Vn, (Vi 0)], 135, none⟩, ⟨.pointer (some q3), [(Vb a1_0), (Sl (Ki .u32) a1_1), (Vi a1_2)], 135, none⟩, ⟨.pointer (some q2), [(Vb a0_0), (Sl (Ki .u32) a0_1), (Vi a0_2)], 135, none⟩]) (fun _ => rfl) rfl rfl) rfl bs_nil (wt_none' rfl) fun ⟨⟩ => ?_
 refine px_rd' rfl (rd_build' (pls := [(0, 2), (2, 1)]) (qs := [(0, [(Vb r45.1), (Sl (Ki .u32) r45.2)]), (1, [(Vi a0_2)])]) (r := [(Vb r45.1), (Sl (Ki .u32) r45.2), (Vi a0_2)]) ⟨rfl, ⟨_, rfl, (lv_ag _)⟩, ⟨rfl, ⟨_, rfl, (lv_vl rfl rfl)⟩, trivial⟩⟩ Try.underlying135 has135 places135 info135 rfl rfl rfl) rfl rfl (wt_none' rfl) ?_
 refine px_oxv' rfl (oxv_store (i := 0) (o := 0) rfl rfl (lv_ag _) ⟨rfl, rfl, rfl, rfl⟩ rfl info135 rfl (H' := [⟨.pointer (some q4), [(Vb r45.1), (Sl (Ki .u32) r45.2), (Vi a0_2)], 135, none⟩, ⟨.pointer (some q3), [(Vb a1_0), (Sl (Ki .u32) a1_1), (Vi a1_2)], 135, none⟩, ⟨.pointer (some q2), [(Vb a0_0), (Sl (Ki .u32) a0_1), (Vi a0_2)], 135, none⟩]) rfl) rfl rfl bo_nil (wt_none' rfl) fun _ => ?_
 refine px_nil' ?_
 show TX E K9 _
 refine tx_k' hK9 ?_
 refine cx_retc' ?_
 replace hp := Option.some.inj hp
 subst hp
 refine tx_pick' (L' := [(4, (Vp q4))]) (H' := [⟨.pointer (some q4), [(Vb r45.1), (Sl (Ki .u32) r45.2), (Vi a0_2)], 135, none⟩]) [0] (sub_cons rfl sub_nil) (by decide) (pick_cons rfl pick_nil) ?_
 exact tx_ret1' Try.results120 rfl () (rv_cell_agg' (i := 0) (o := 0) (nn := 3) rfl ⟨rfl, rfl, rfl, rfl⟩ rfl agg135 rfl) (List.nil_sublist _)

def spec_Dyadic_Sub (k : Nat) (a0_0 : Bool) (a0_1 : List Int) (a0_2 : Int) (a1_0 : Bool) (a1_1 : List Int) (a1_2 : Int) : Option (Bool × (List Int) × Int) :=
 (spec_Dyadic_Minus k a1_0 a1_1 a1_2) >>= fun r7 =>
 (spec_Dyadic_Add k a0_0 a0_1 a0_2 r7.1 r7.2.1 r7.2.2) >>= fun r8 =>
 some (r8.1, r8.2.1, r8.2.2)

theorem spec_Dyadic_Sub_sim {k : Nat}  (a0_0 : Bool) (a0_1 : List Int) (a0_2 : Int) (a1_0 : Bool) (a1_1 : List Int) (a1_2 : Int) {out : Bool × (List Int) × Int} (hp : spec_Dyadic_Sub k a0_0 a0_1 a0_2 a1_0 a1_1 a1_2 = some out) : Sx.Fn Try.prog 102 [(Ag [(Vb a0_0), (Sl (Ki .u32) a0_1), (Vi a0_2)]), (Ag [(Vb a1_0), (Sl (Ki .u32) a1_1), (Vi a1_2)])] [] (fun w : Unit => (Ag [(Vb out.1), (Sl (Ki .u32) out.2.1), (Vi out.2.2)])) (fun w => []) := by
 unfold spec_Dyadic_Sub at hp
 refine fn_of Try.func102 rfl Try.ntmps102 rfl fun E hM => ?_
 refine cr fun K1 hK1 => ?_
 refine sx_ox' (ox_box' rfl (lv_ag _) rfl rfl) (wt_none' rfl) fun q2 => ?_
 refine sx_ox' (ox_box' rfl (lv_ag _) rfl rfl) (wt_none' rfl) fun q3 => ?_
 refine sx_ox' (ox_alloc' info135 rfl rfl rfl rfl (l := [(Vb false), Vn, (Vi 0)]) rfl) (wt_none' rfl) fun q4 => ?_
 refine nk hK1 ?_
 refine cx_seq' fun K2 hK2 => ?_
 refine cx_plan' [] [(4, 1)] [(0, 1), (1, 1), (2, 0), (3, 0), (4, 0)] mixed (by kernel_rfl) ?_
 refine px_rd' rfl (rd_load_agg' (i := 2) (o := 0) (nn := 3) rfl ⟨rfl, rfl, rfl, rfl⟩ rfl agg135 (l' := [(Vb a0_0), (Sl (Ki .u32) a0_1), (Vi a0_2)]) rfl) rfl rfl (wt_none' rfl) ?_
 refine px_rd' rfl (rd_load_agg' (i := 1) (o := 0) (nn := 3) rfl ⟨rfl, rfl, rfl, rfl⟩ rfl agg135 (l' := [(Vb a1_0), (Sl (Ki .u32) a1_1), (Vi a1_2)]) rfl) rfl rfl (wt_none' rfl) ?_
 obtain ⟨r7, hr7, hp⟩ := bind_some hp
 refine px_ox' rfl (ox_calln' (ent_fn' Try.func121 isn121 rfl rfl) (spec_Dyadic_Minus_sim _ _ _ hr7 : Sx.Fn Try.prog 121 [(Ag [(Vb a1_0), (Sl (Ki .u32) a1_1), (Vi a1_2)])] [] (fun x : Unit => (Ag [(Vb r7.1), (Sl (Ki .u32) r7.2.1), (Vi r7.2.2)])) (fun x => [])) (Hn := fun x : Unit => [⟨.pointer (some q4), [(Vb false), Vn, (Vi 0)], 135, none⟩, ⟨.pointer (some q3), [(Vb a1_0), (Sl (Ki .u32) a1_1), (Vi a1_2)], 135, none⟩, ⟨.pointer (some q2), [(Vb a0_0), (Sl (Ki .u32) a0_1), (Vi a0_2)], 135, none⟩]) (fun _ => rfl) rfl rfl) rfl bs_nil (wt_none' rfl) fun ⟨⟩ => ?_
 obtain ⟨r8, hr8, hp⟩ := bind_some hp
 refine px_ox' rfl (ox_calln' (ent_fn' Try.func120 isn120 rfl rfl) (spec_Dyadic_Add_sim _ _ _ _ _ _ hr8 : Sx.Fn Try.prog 120 [(Ag [(Vb a0_0), (Sl (Ki .u32) a0_1), (Vi a0_2)]), (Ag [(Vb r7.1), (Sl (Ki .u32) r7.2.1), (Vi r7.2.2)])] [] (fun x : Unit => (Ag [(Vb r8.1), (Sl (Ki .u32) r8.2.1), (Vi r8.2.2)])) (fun x => [])) (Hn := fun x : Unit => [⟨.pointer (some q4), [(Vb false), Vn, (Vi 0)], 135, none⟩, ⟨.pointer (some q3), [(Vb a1_0), (Sl (Ki .u32) a1_1), (Vi a1_2)], 135, none⟩, ⟨.pointer (some q2), [(Vb a0_0), (Sl (Ki .u32) a0_1), (Vi a0_2)], 135, none⟩]) (fun _ => rfl) rfl rfl) rfl bs_nil (wt_none' rfl) fun ⟨⟩ => ?_
 refine px_oxv' rfl (oxv_store (i := 0) (o := 0) rfl rfl (lv_ag _) ⟨rfl, rfl, rfl, rfl⟩ rfl info135 rfl (H' := [⟨.pointer (some q4), [(Vb r8.1), (Sl (Ki .u32) r8.2.1), (Vi r8.2.2)], 135, none⟩, ⟨.pointer (some q3), [(Vb a1_0), (Sl (Ki .u32) a1_1), (Vi a1_2)], 135, none⟩, ⟨.pointer (some q2), [(Vb a0_0), (Sl (Ki .u32) a0_1), (Vi a0_2)], 135, none⟩]) rfl) rfl rfl bo_nil (wt_none' rfl) fun _ => ?_
 refine px_nil' ?_
 show TX E K2 _
 refine tx_k' hK2 ?_
 refine cx_retc' ?_
 replace hp := Option.some.inj hp
 subst hp
 refine tx_pick' (L' := [(4, (Vp q4))]) (H' := [⟨.pointer (some q4), [(Vb r8.1), (Sl (Ki .u32) r8.2.1), (Vi r8.2.2)], 135, none⟩]) [0] (sub_cons rfl sub_nil) (by decide) (pick_cons rfl pick_nil) ?_
 exact tx_ret1' Try.results102 rfl () (rv_cell_agg' (i := 0) (o := 0) (nn := 3) rfl ⟨rfl, rfl, rfl, rfl⟩ rfl agg135 rfl) (List.nil_sublist _)

def spec_Dyadic_Cmp (k : Nat) (a0_0 : Bool) (a0_1 : List Int) (a0_2 : Int) (a1_0 : Bool) (a1_1 : List Int) (a1_2 : Int) : Option (Int) :=
 (spec_Dyadic_Sub k a0_0 a0_1 a0_2 a1_0 a1_1 a1_2) >>= fun r7 =>
 (spec_Dyadic_Sign k r7.1 r7.2.1 r7.2.2) >>= fun r8 =>
 some r8

theorem spec_Dyadic_Cmp_sim {k : Nat}  (a0_0 : Bool) (a0_1 : List Int) (a0_2 : Int) (a1_0 : Bool) (a1_1 : List Int) (a1_2 : Int) {out : Int} (hp : spec_Dyadic_Cmp k a0_0 a0_1 a0_2 a1_0 a1_1 a1_2 = some out) : Sx.Fn Try.prog 78 [(Ag [(Vb a0_0), (Sl (Ki .u32) a0_1), (Vi a0_2)]), (Ag [(Vb a1_0), (Sl (Ki .u32) a1_1), (Vi a1_2)])] [] (fun w : Unit => (Vi out)) (fun w => []) := by
 unfold spec_Dyadic_Cmp at hp
 refine fn_of Try.func78 rfl Try.ntmps78 rfl fun E hM => ?_
 refine cr fun K1 hK1 => ?_
 refine sx_ox' (ox_box' rfl (lv_ag _) rfl rfl) (wt_none' rfl) fun q2 => ?_
 refine sx_ox' (ox_box' rfl (lv_ag _) rfl rfl) (wt_none' rfl) fun q3 => ?_
 refine s0 (rd_assign' rfl) ?_
 refine nk hK1 ?_
 refine cr fun K2 hK2 => ?_
 refine s0 (rd_load_agg' (i := 1) (o := 0) (nn := 3) rfl ⟨rfl, rfl, rfl, rfl⟩ rfl agg135 (l' := [(Vb a0_0), (Sl (Ki .u32) a0_1), (Vi a0_2)]) rfl) ?_
 refine s0 (rd_load_agg' (i := 0) (o := 0) (nn := 3) rfl ⟨rfl, rfl, rfl, rfl⟩ rfl agg135 (l' := [(Vb a1_0), (Sl (Ki .u32) a1_1), (Vi a1_2)]) rfl) ?_
 obtain ⟨r7, hr7, hp⟩ := bind_some hp
 refine sx_ox' (ox_calln' (ent_fn' Try.func102 isn102 rfl rfl) (spec_Dyadic_Sub_sim _ _ _ _ _ _ hr7 : Sx.Fn Try.prog 102 [(Ag [(Vb a0_0), (Sl (Ki .u32) a0_1), (Vi a0_2)]), (Ag [(Vb a1_0), (Sl (Ki .u32) a1_1), (Vi a1_2)])] [] (fun x : Unit => (Ag [(Vb r7.1), (Sl (Ki .u32) r7.2.1), (Vi r7.2.2)])) (fun x => [])) (Hn := fun x : Unit => [⟨.pointer (some q3), [(Vb a1_0), (Sl (Ki .u32) a1_1), (Vi a1_2)], 135, none⟩, ⟨.pointer (some q2), [(Vb a0_0), (Sl (Ki .u32) a0_1), (Vi a0_2)], 135, none⟩]) (fun _ => rfl) rfl rfl) (wt_none' rfl) fun ⟨⟩ => ?_
 obtain ⟨r8, hr8, hp⟩ := bind_some hp
 refine sx_ox' (ox_calln' (ent_fn' Try.func103 isn103 rfl rfl) (spec_Dyadic_Sign_sim _ _ _ hr8 : Sx.Fn Try.prog 103 [(Ag [(Vb r7.1), (Sl (Ki .u32) r7.2.1), (Vi r7.2.2)])] [] (fun x : Unit => (Vi r8)) (fun x => [])) (Hn := fun x : Unit => [⟨.pointer (some q3), [(Vb a1_0), (Sl (Ki .u32) a1_1), (Vi a1_2)], 135, none⟩, ⟨.pointer (some q2), [(Vb a0_0), (Sl (Ki .u32) a0_1), (Vi a0_2)], 135, none⟩]) (fun _ => rfl) rfl rfl) (wt_none' rfl) fun ⟨⟩ => ?_
 refine s0 (rd_assign' rfl) ?_
 refine nk hK2 ?_
 refine cx_retc' ?_
 replace hp := Option.some.inj hp
 subst hp
 refine tx_pick' (L' := [(4, (Vi r8))]) (H' := []) [] (sub_cons rfl sub_nil) (by decide) pick_nil ?_
 exact tx_ret1' Try.results78 rfl () (rv_tmp' rfl) (List.Sublist.refl _)

def spec_IsV_j4 (k : Nat) (rec1 : Int → Option (Unit ⊕ Unit)) (x5 : Int) (x4 : Bool) : Option (Unit ⊕ Unit) :=
 br x4
  (some (.inl ()))
  (rec1 (iadd .i64 x5 1))
def spec_IsV_j3 (k : Nat) (rec1 : Int → Option (Unit ⊕ Unit)) (x5 : Int) (a0 : List ((List Nat) × Nat × Int × Int)) (r33 : Int) (x3 : Bool) : Option (Unit ⊕ Unit) :=
 br x3
  (spec_IsV_j4 k rec1 x5 true)
  ((idx a0 r33) >>= fun r55 =>
  spec_IsV_j4 k rec1 x5 (flt r55.2.1 0))
def spec_IsV_l1s (r23 : (List Int) × (List Int) × Bool) (a0 : List ((List Nat) × Nat × Int × Int)) (a2 : Int) (k : Nat) (rec1 : Int → Option (Unit ⊕ Unit)) (x5 : Int) : Option (Unit ⊕ Unit) :=
 br (decide (x5 < (r23.1.length : Int)))
  ((idx r23.1 x5) >>= fun r33 =>
  (idx a0 r33) >>= fun r37 =>
  br (!decide ((r37.1.length : Int) = a2))
   (spec_IsV_j3 k rec1 x5 a0 r33 true)
   ((idx a0 r33) >>= fun r46 =>
   (spec_Finite k r46.2.1) >>= fun r49 =>
   spec_IsV_j3 k rec1 x5 a0 r33 (!r49)))
  (some (.inr ()))
def spec_IsV_l1 (r23 : (List Int) × (List Int) × Bool) (a0 : List ((List Nat) × Nat × Int × Int)) (a2 : Int) : Nat → Int → Option (Unit ⊕ Unit)
 | 0, _ => none
 | k + 1, v => spec_IsV_l1s r23 a0 a2 k (spec_IsV_l1 r23 a0 a2 k) v
def spec_IsV_l4s (r81 : (List (List Nat))) (r69 : (List Nat) × Nat × Int × Int) (r77 : Bool × (List Int) × Int) (k : Nat) (rec4 : Int → Option (Unit ⊕ Unit)) (x8 : Int) : Option (Unit ⊕ Unit) :=
 br (decide (x8 < (r81.length : Int)))
  ((idx r81 x8) >>= fun r85 =>
  (spec_SquareN k r85 r69.1) >>= fun r90 =>
  (spec_DyadicOf k r90) >>= fun r91 =>
  (spec_Dyadic_Cmp k r91.1 r91.2.1 r91.2.2 r77.1 r77.2.1 r77.2.2) >>= fun r93 =>
  br (decide (0 < r93))
   (some (.inl ()))
   (rec4 (iadd .i64 x8 1)))
  (some (.inr ()))
def spec_IsV_l4 (r81 : (List (List Nat))) (r69 : (List Nat) × Nat × Int × Int) (r77 : Bool × (List Int) × Int) : Nat → Int → Option (Unit ⊕ Unit)
 | 0, _ => none
 | k + 1, v => spec_IsV_l4s r81 r69 r77 k (spec_IsV_l4 r81 r69 r77 k) v
def spec_IsV_l5s (r99 : (List (List Nat))) (r69 : (List Nat) × Nat × Int × Int) (r77 : Bool × (List Int) × Int) (k : Nat) (rec5 : Int → Option (Unit ⊕ Unit)) (x9 : Int) : Option (Unit ⊕ Unit) :=
 br (decide (x9 < (r99.length : Int)))
  ((idx r99 x9) >>= fun r103 =>
  (spec_SquareN k r103 r69.1) >>= fun r108 =>
  (spec_DyadicOf k r108) >>= fun r109 =>
  (spec_Dyadic_Cmp k r109.1 r109.2.1 r109.2.2 r77.1 r77.2.1 r77.2.2) >>= fun r111 =>
  br (decide (r111 < 0))
   (some (.inl ()))
   (rec5 (iadd .i64 x9 1)))
  (some (.inr ()))
def spec_IsV_l5 (r99 : (List (List Nat))) (r69 : (List Nat) × Nat × Int × Int) (r77 : Bool × (List Int) × Int) : Nat → Int → Option (Unit ⊕ Unit)
 | 0, _ => none
 | k + 1, v => spec_IsV_l5s r99 r69 r77 k (spec_IsV_l5 r99 r69 r77 k) v
def spec_IsV_l6s (r23 : (List Int) × (List Int) × Bool) (a0 : List ((List Nat) × Nat × Int × Int)) (k : Nat) (rec6 : Int → Option (Unit ⊕ Unit)) (x10 : Int) : Option (Unit ⊕ Unit) :=
 br (decide (x10 < (r23.1.length : Int)))
  ((idx r23.1 x10) >>= fun r65 =>
  (idx a0 r65) >>= fun r69 =>
  (spec_DyadicOf k r69.2.1) >>= fun r73 =>
  (spec_DyadicOf k r69.2.1) >>= fun r76 =>
  (spec_Dyadic_Mul k r73.1 r73.2.1 r73.2.2 r76.1 r76.2.1 r76.2.2) >>= fun r77 =>
  (spec_VPoints k a0 r69.2.2.1) >>= fun r81 =>
  (spec_IsV_l4 r81 r69 r77 k 0) >>= fun y4 => match y4 with
   | (.inl v32) =>
    (some (.inl ()))
   | (.inr v33) =>
    ((spec_VPoints k a0 r69.2.2.2) >>= fun r99 =>
    (spec_IsV_l5 r99 r69 r77 k 0) >>= fun y5 => match y5 with
     | (.inl v35) =>
      (some (.inl ()))
     | (.inr v36) =>
      (rec6 (iadd .i64 x10 1))))
  (some (.inr ()))
def spec_IsV_l6 (r23 : (List Int) × (List Int) × Bool) (a0 : List ((List Nat) × Nat × Int × Int)) : Nat → Int → Option (Unit ⊕ Unit)
 | 0, _ => none
 | k + 1, v => spec_IsV_l6s r23 a0 k (spec_IsV_l6 r23 a0 k) v
def spec_IsV (k : Nat) (a0 : List ((List Nat) × Nat × Int × Int)) (a1 : Int) (a2 : Int) : Option (Bool) :=
 (spec_VWalk k a0 a1) >>= fun r23 =>
 br (!r23.2.2)
  (some false)
  ((spec_IsV_l1 r23 a0 a2 k 0) >>= fun y1 => match y1 with
   | (.inl v6) =>
    (some false)
   | (.inr v7) =>
    ((spec_IsV_l6 r23 a0 k 0) >>= fun y6 => match y6 with
     | (.inl v37) =>
      (some false)
     | (.inr v38) =>
      (some true)))

theorem spec_IsV_sim {k : Nat}  (a0 : List ((List Nat) × Nat × Int × Int)) (a1 : Int) (a2 : Int) {out : Bool} (hp : spec_IsV k a0 a1 a2 = some out) : Sx.Fn Try.prog 33 [(Sl KT35 a0), (Vi a1), (Vi a2)] [] (fun w : Unit => (Vb out)) (fun w => []) := by
 unfold spec_IsV at hp
 refine fn_of Try.func33 rfl Try.ntmps33 rfl fun E hM => ?_
 refine cr fun K1 hK1 => ?_
 refine s0 (rd_assign' rfl) ?_
 refine nk hK1 ?_
 refine cr fun K2 hK2 => ?_
 refine s0 (rd_move' rfl) ?_
 refine s0 (rd_move' rfl) ?_
 obtain ⟨r23, hr23, hp⟩ := bind_some hp
 refine sx_ox' (ox_calln' (ent_fn' Try.func11 isn11 rfl rfl) (spec_VWalk_sim _ _ hr23 : Sx.Fn Try.prog 11 [(Sl KT35 a0), (Vi a1)] [] (fun x : Unit => (Tu [(Sl (Ki .i64) r23.1), (Sl (Ki .i64) r23.2.1), (Vb r23.2.2)])) (fun x => [])) (Hn := fun x : Unit => []) (fun _ => rfl) rfl rfl) (wt_none' rfl) fun ⟨⟩ => ?_
 refine s0 (rd_move' rfl) ?_
 refine s0 (rd_extract' rfl rfl) ?_
 refine s0 (rd_extract' rfl rfl) ?_
 refine s0 (rd_extract' rfl rfl) ?_
 refine s0 (rd_assign' rfl) ?_
 refine s0 (rd_assign' rfl) ?_
 refine s0 (rd_assign' rfl) ?_
 refine nk hK2 ?_
 refine cx_seq' fun K3 hK3 => ?_
 refine cr fun K4 hK4 => ?_
 refine s0 (rd_move' rfl) ?_
 refine s0 (rd_un' rfl ru_not) ?_
 refine nk hK4 ?_
 refine cx_cond' rfl (fun h1 => ?_) (fun h1 => ?_)
 ·replace hp := (br_t h1).symm.trans hp
  refine cr fun K5 hK5 => ?_
  refine s0 (rd_assign' rfl) ?_
  refine nk hK5 ?_
  refine cx_retc' ?_
  replace hp := Option.some.inj hp
  subst hp
  refine tx_pick' (L' := [(6, (Vb false))]) (H' := []) [] (sub_cons rfl sub_nil) (by decide) pick_nil ?_
  exact tx_ret1' Try.results33 rfl () (rv_tmp' rfl) (List.Sublist.refl _)
 replace hp := (br_f h1).symm.trans hp
 refine cx_skip' ?_
 show TX E K3 _
 refine tx_k' hK3 ?_
 refine cx_seq' fun K6 hK6 => ?_
 refine cr fun K7 hK7 => ?_
 refine s0 (rd_move' rfl) ?_
 refine s0 (rd_len' rfl Try.underlying27) ?_
 refine s0 (rd_move' rfl) ?_
 refine nk hK7 ?_
 refine cx_block' ?_
 obtain ⟨y1, hy1, hp⟩ := bind_some hp
 refine cx_loopg' (F := spec_IsV_l1 r23 a0 a2) (G := fun k R v => spec_IsV_l1s r23 a0 a2 k R v) (x := 0) (gh := ()) (fun (v3 : Int) (w3 : Unit) => (⟨115, [], [(0, (Sl KT35 a0)), (2, (Vi a2)), (7, (Sl (Ki .i64) r23.1)), (29, (Sl (Ki .i64) r23.1)), (30, (Vi (r23.1.length : Int))), (31, (Vi v3))], []⟩ : St)) (fun (y : Unit ⊕ Unit) => match y with | (.inl v6) => Zg E Exit.ret (fun (w6 : Unit) => (⟨115, [], [(6, (Vb false))], []⟩ : St)) | (.inr v7) => Zg E (Exit.exit 0) (fun (w7 : Unit) => (⟨115, [], [(0, (Sl KT35 a0)), (7, (Sl (Ki .i64) r23.1))], []⟩ : St))) (fun _ => rfl) (fun _ _ => rfl) ?_ hy1 (tx_to' rfl [] (sub_cons rfl (sub_cons rfl (sub_cons rfl (sub_cons rfl (sub_cons rfl (sub_cons rfl sub_nil)))))) (by decide) pick_nil) ?_
 ·clear hp hy1
  clear y1
  intro k rec1 KY1 ih1
  rintro x5 ⟨⟩ y1 hp
  replace hp : spec_IsV_l1s r23 a0 a2 k rec1 x5 = some y1 := hp
  unfold spec_IsV_l1s at hp
  refine cr fun K16 hK16 => ?_
  refine s0 (rd_bin' rfl rfl eg_int ru_lss) ?_
  refine nk hK16 ?_
  refine cx_seq' fun K17 hK17 => ?_
  refine cx_cond' rfl (fun h7 => ?_) (fun h7 => ?_)
  ·replace hp := (br_t h7).symm.trans hp
   refine cx_skip' ?_
   show TX E K17 _
   refine tx_k' hK17 ?_
   refine cx_seq' fun K18 hK18 => ?_
   refine cx_block' ?_
   refine cr fun K19 hK19 => ?_
   obtain ⟨r33, hr33, hp⟩ := bind_some hp
   refine s0 (rd_at' (K := (Ki .i64)) rfl rfl hr33 Try.underlying27 info3) ?_
   refine s0 (rd_load_pt' rfl rfl flat3) ?_
   refine s0 (rd_assign' rfl) ?_
   refine nk hK19 ?_
   refine cr fun K20 hK20 => ?_
   refine s0 (rd_move' rfl) ?_
   refine s0 (rd_move' rfl) ?_
   obtain ⟨r37, hr37, hp⟩ := bind_some hp
   refine s0 (rd_at' (K := KT35) rfl rfl hr37 Try.underlying22 info35) ?_
   refine s0 (rd_field_pt' (off := 0) rfl Try.underlying35 rfl info25 rfl (l' := [(Sl Kf r37.1), (Vg r37.2.1), (Vi r37.2.2.1), (Vi r37.2.2.2)]) rfl) ?_
   refine s0 (rd_load_pt' rfl rfl flat25) ?_
   refine s0 (rd_len' rfl Try.underlying25) ?_
   refine s0 (rd_move' rfl) ?_
   refine s0 (rd_bin' rfl rfl eg_int ru_neq) ?_
   refine s0 (rd_move' rfl) ?_
   refine sx_cutn' 8 (fun (v4 : Bool) => (⟨115, [], [(0, (Sl KT35 a0)), (2, (Vi a2)), (7, (Sl (Ki .i64) r23.1)), (11, (Vi r33)), (29, (Sl (Ki .i64) r23.1)), (30, (Vi (r23.1.length : Int))), (31, (Vi x5)), (51, (Vb v4))], []⟩ : St)) (fun (v4 : Bool) => spec_IsV_j3 k rec1 x5 a0 r33 v4 = some y1) ?_ ?_
   ·rintro x3 hp
    replace hp : spec_IsV_j3 k rec1 x5 a0 r33 x3 = some y1 := hp
    unfold spec_IsV_j3 at hp
    refine s0 (rd_move' rfl) ?_
    refine sx_cutn' 7 (fun (v5 : Bool) => (⟨115, [], [(0, (Sl KT35 a0)), (2, (Vi a2)), (7, (Sl (Ki .i64) r23.1)), (29, (Sl (Ki .i64) r23.1)), (30, (Vi (r23.1.length : Int))), (31, (Vi x5)), (59, (Vb v5))], []⟩ : St)) (fun (v5 : Bool) => spec_IsV_j4 k rec1 x5 v5 = some y1) ?_ ?_
    ·rintro x4 hp
     replace hp : spec_IsV_j4 k rec1 x5 x4 = some y1 := hp
     unfold spec_IsV_j4 at hp
     refine nk hK20 ?_
     refine cx_cond' rfl (fun h10 => ?_) (fun h10 => ?_)
     ·replace hp := (br_t h10).symm.trans hp
      refine cr fun K23 hK23 => ?_
      refine s0 (rd_assign' rfl) ?_
      refine nk hK23 ?_
      refine cx_retc' ?_
      replace hp := Option.some.inj hp
      subst hp
      show TX E (Zg E Exit.ret _ Exit.ret) _
      exact tx_zend' () rfl [] (sub_cons rfl sub_nil) (by decide) pick_nil
     replace hp := (br_f h10).symm.trans hp
     refine cx_skip' ?_
     show TX E K18 _
     refine tx_k' hK18 ?_
     refine cx_region' ?_
     refine s0 (rd_bin' rfl rfl eg_int ru_add) ?_
     refine s0 (rd_move' rfl) ?_
     refine sx_nil' ?_
     show TX E (KY1 _) _
     exact tx_pick' [] (sub_cons rfl (sub_cons rfl (sub_cons rfl (sub_cons rfl (sub_cons rfl (sub_cons rfl sub_nil)))))) (by decide) pick_nil (ih1 (iadd .i64 x5 1) () _ hp)
    intro K22 hK22
    rcases br_cases hp with ⟨h9, hp⟩ | ⟨h9, hp⟩
    ·refine sx_skip' rfl rfl (wt_is' (wt_guard' rfl rfl rfl) (beq_tf h9)) ?_
     refine sx_skip' rfl rfl (wt_is' (wt_guard' rfl rfl rfl) (beq_tf h9)) ?_
     refine sx_skip' rfl rfl (wt_is' (wt_guard' rfl rfl rfl) (beq_tf h9)) ?_
     refine sx_skip' rfl rfl (wt_is' (wt_guard' rfl rfl rfl) (beq_tf h9)) ?_
     refine sx_skip' rfl rfl (wt_is' (wt_guard' rfl rfl rfl) (beq_tf h9)) ?_
     refine sx_skip' rfl rfl (wt_is' (wt_guard' rfl rfl rfl) (beq_tf h9)) ?_
     refine s0 (rd_pick_true' rfl h9 rfl) ?_
     refine sx_nil' ?_
     show TX E K22 _
     exact tx_pick' [] (sub_cons rfl (sub_cons rfl (sub_cons rfl (sub_cons rfl (sub_cons rfl (sub_cons rfl (sub_cons rfl sub_nil))))))) (by decide) pick_nil (hK22 true hp)
    refine sx_rd' (rd_move' rfl) rfl rfl (wt_is' (wt_guard' rfl rfl rfl) (beq_ff h9)) ?_
    refine sx_rd' (rd_move' rfl) rfl rfl (wt_is' (wt_guard' rfl rfl rfl) (beq_ff h9)) ?_
    obtain ⟨r55, hr55, hp⟩ := bind_some hp
    refine sx_rd' (rd_at' (K := KT35) rfl rfl hr55 Try.underlying22 info35) rfl rfl (wt_is' (wt_guard' rfl rfl rfl) (beq_ff h9)) ?_
    refine sx_rd' (rd_field_pt' (off := 1) rfl Try.underlying35 rfl info33 rfl (l' := [(Vg r55.2.1), (Vi r55.2.2.1), (Vi r55.2.2.2)]) rfl) rfl rfl (wt_is' (wt_guard' rfl rfl rfl) (beq_ff h9)) ?_
    refine sx_rd' (rd_load_pt' rfl rfl flat33) rfl rfl (wt_is' (wt_guard' rfl rfl rfl) (beq_ff h9)) ?_
    refine sx_rd' (rd_bin' rfl rfl eg_flt ru_flt) rfl rfl (wt_is' (wt_guard' rfl rfl rfl) (beq_ff h9)) ?_
    refine s0 (rd_pick_false' rfl h9 rfl) ?_
    refine sx_nil' ?_
    show TX E K22 _
    exact tx_pick' [] (sub_cons rfl (sub_cons rfl (sub_cons rfl (sub_cons rfl (sub_cons rfl (sub_cons rfl (sub_cons rfl sub_nil))))))) (by decide) pick_nil (hK22 (flt r55.2.1 0) hp)
   intro K21 hK21
   rcases br_cases hp with ⟨h8, hp⟩ | ⟨h8, hp⟩
   ·refine sx_skip' rfl rfl (wt_is' (wt_guard' rfl rfl rfl) (beq_tf h8)) ?_
    refine sx_skip' rfl rfl (wt_is' (wt_guard' rfl rfl rfl) (beq_tf h8)) ?_
    refine sx_skip' rfl rfl (wt_is' (wt_guard' rfl rfl rfl) (beq_tf h8)) ?_
    refine sx_skip' rfl rfl (wt_is' (wt_guard' rfl rfl rfl) (beq_tf h8)) ?_
    refine sx_skip' rfl rfl (wt_is' (wt_guard' rfl rfl rfl) (beq_tf h8)) ?_
    refine sx_skip' rfl rfl (wt_is' (wt_guard' rfl rfl rfl) (beq_tf h8)) ?_
    refine sx_skip' rfl rfl (wt_is' (wt_guard' rfl rfl rfl) (beq_tf h8)) ?_
    refine s0 (rd_pick_true' rfl h8 rfl) ?_
    refine sx_nil' ?_
    show TX E K21 _
    exact tx_pick' [] (sub_cons rfl (sub_cons rfl (sub_cons rfl (sub_cons rfl (sub_cons rfl (sub_cons rfl (sub_cons rfl (sub_cons rfl sub_nil)))))))) (by decide) pick_nil (hK21 true hp)
   refine sx_rd' (rd_move' rfl) rfl rfl (wt_is' (wt_guard' rfl rfl rfl) (beq_ff h8)) ?_
   refine sx_rd' (rd_move' rfl) rfl rfl (wt_is' (wt_guard' rfl rfl rfl) (beq_ff h8)) ?_
   obtain ⟨r46, hr46, hp⟩ := bind_some hp
   refine sx_rd' (rd_at' (K := KT35) rfl rfl hr46 Try.underlying22 info35) rfl rfl (wt_is' (wt_guard' rfl rfl rfl) (beq_ff h8)) ?_
   refine sx_rd' (rd_field_pt' (off := 1) rfl Try.underlying35 rfl info33 rfl (l' := [(Vg r46.2.1), (Vi r46.2.2.1), (Vi r46.2.2.2)]) rfl) rfl rfl (wt_is' (wt_guard' rfl rfl rfl) (beq_ff h8)) ?_
   refine sx_rd' (rd_load_pt' rfl rfl flat33) rfl rfl (wt_is' (wt_guard' rfl rfl rfl) (beq_ff h8)) ?_
   obtain ⟨r49, hr49, hp⟩ := bind_some hp
   refine sx_ox' (ox_calln' (ent_fn' Try.func75 isn75 rfl rfl) (spec_Finite_sim _ hr49 : Sx.Fn Try.prog 75 [(Vg r46.2.1)] [] (fun x : Unit => (Vb r49)) (fun x => [])) (Hn := fun x : Unit => []) (fun _ => rfl) rfl rfl) (wt_is' (wt_guard' rfl rfl rfl) (beq_ff h8)) fun ⟨⟩ => ?_
   refine sx_rd' (rd_un' rfl ru_not) rfl rfl (wt_is' (wt_guard' rfl rfl rfl) (beq_ff h8)) ?_
   refine s0 (rd_pick_false' rfl h8 rfl) ?_
   refine sx_nil' ?_
   show TX E K21 _
   exact tx_pick' [] (sub_cons rfl (sub_cons rfl (sub_cons rfl (sub_cons rfl (sub_cons rfl (sub_cons rfl (sub_cons rfl (sub_cons rfl sub_nil)))))))) (by decide) pick_nil (hK21 (!r49) hp)
  replace hp := (br_f h7).symm.trans hp
  refine cx_exit' ?_
  replace hp := Option.some.inj hp
  subst hp
  show TX E (Zg E (Exit.exit 0) _ (Exit.exit 0)) _
  exact tx_zend' () rfl [] (sub_cons rfl (sub_cons rfl sub_nil)) (by decide) pick_nil
 rcases y1 with v6 | v7
 ·dsimp only at hp
  refine zg_out fun w6 => ?_
  replace hp := Option.some.inj hp
  subst hp
  refine tx_pick' (L' := [(6, (Vb false))]) (H' := []) [] (sub_cons rfl sub_nil) (by decide) pick_nil ?_
  exact tx_ret1' Try.results33 rfl () (rv_tmp' rfl) (List.Sublist.refl _)
 dsimp only at hp
 refine zg_out fun w7 => ?_
 show TX E K6 _
 refine tx_k' hK6 ?_
 refine cx_seq' fun K24 hK24 => ?_
 refine cr fun K25 hK25 => ?_
 refine s0 (rd_move' rfl) ?_
 refine s0 (rd_len' rfl Try.underlying27) ?_
 refine s0 (rd_move' rfl) ?_
 refine nk hK25 ?_
 refine cx_block' ?_
 obtain ⟨y6, hy6, hp⟩ := bind_some hp
 refine cx_loopg' (F := spec_IsV_l6 r23 a0) (G := fun k R v => spec_IsV_l6s r23 a0 k R v) (x := 0) (gh := ()) (fun (v22 : Int) (w22 : Unit) => (⟨115, [], [(0, (Sl KT35 a0)), (61, (Sl (Ki .i64) r23.1)), (62, (Vi (r23.1.length : Int))), (63, (Vi v22))], []⟩ : St)) (fun (y : Unit ⊕ Unit) => match y with | (.inl v37) => Zg E Exit.ret (fun (w37 : Unit) => (⟨115, [], [(6, (Vb false))], []⟩ : St)) | (.inr v38) => Zg E (Exit.exit 2) (fun (w38 : Unit) => (⟨115, [], [], []⟩ : St))) (fun _ => rfl) (fun _ _ => rfl) ?_ hy6 (tx_to' rfl [] (sub_cons rfl (sub_cons rfl (sub_cons rfl (sub_cons rfl sub_nil)))) (by decide) pick_nil) ?_
 ·clear hp hy6
  clear y6
  intro k rec6 KY6 ih6
  rintro x10 ⟨⟩ y6 hp
  replace hp : spec_IsV_l6s r23 a0 k rec6 x10 = some y6 := hp
  unfold spec_IsV_l6s at hp
  refine cr fun K59 hK59 => ?_
  refine s0 (rd_bin' rfl rfl eg_int ru_lss) ?_
  refine nk hK59 ?_
  refine cx_seq' fun K60 hK60 => ?_
  refine cx_cond' rfl (fun h23 => ?_) (fun h23 => ?_)
  ·replace hp := (br_t h23).symm.trans hp
   refine cx_skip' ?_
   show TX E K60 _
   refine tx_k' hK60 ?_
   refine cx_seq' fun K61 hK61 => ?_
   refine cx_block' ?_
   refine cr fun K62 hK62 => ?_
   obtain ⟨r65, hr65, hp⟩ := bind_some hp
   refine s0 (rd_at' (K := (Ki .i64)) rfl rfl hr65 Try.underlying27 info3) ?_
   refine s0 (rd_load_pt' rfl rfl flat3) ?_
   refine s0 (rd_assign' rfl) ?_
   refine nk hK62 ?_
   refine cr fun K63 hK63 => ?_
   refine s0 (rd_move' rfl) ?_
   refine s0 (rd_move' rfl) ?_
   obtain ⟨r69, hr69, hp⟩ := bind_some hp
   refine s0 (rd_at' (K := KT35) rfl rfl hr69 Try.underlying22 info35) ?_
   refine s0 (rd_load_pt_agg' (nn := 4) rfl rfl agg35 (l' := [(Sl Kf r69.1), (Vg r69.2.1), (Vi r69.2.2.1), (Vi r69.2.2.2)]) rfl) ?_
   refine sx_ox' (ox_alloc' info35 rfl rfl rfl rfl (l := [Vn, (Vg 0), (Vi 0), (Vi 0)]) rfl) (wt_none' rfl) fun q14 => ?_
   refine sx_ox' (ox_store' (i := 0) (o := 0) rfl rfl (lv_ag _) ⟨rfl, rfl, rfl, rfl⟩ rfl info35 rfl (H' := [⟨.pointer (some q14), [(Sl Kf r69.1), (Vg r69.2.1), (Vi r69.2.2.1), (Vi r69.2.2.2)], 35, none⟩]) rfl) (wt_none' rfl) fun _ => ?_
   refine nk hK63 ?_
   refine cx_seq' fun K64 hK64 => ?_
   refine cx_plana' [] [(8, 1)] [(0, 1), (1, 1), (3, 1), (4, 1)] 5 #[true, true, false, true, true, false, false, false, false] mixed (by kernel_rfl) ?_
   refine px_rd' rfl (rd_field' (off := 1) rfl Try.underlying35 rfl info33 rfl) rfl rfl (wt_none' rfl) ?_
   refine px_rd' rfl (rd_load' (i := 0) (o := 1) rfl ⟨rfl, rfl, rfl, rfl⟩ rfl flat33) rfl rfl (wt_none' rfl) ?_
   refine px_rd' rfl (rd_field' (off := 1) rfl Try.underlying35 rfl info33 rfl) rfl rfl (wt_none' rfl) ?_
   refine px_rd' rfl (rd_load' (i := 0) (o := 1) rfl ⟨rfl, rfl, rfl, rfl⟩ rfl flat33) rfl rfl (wt_none' rfl) ?_
   refine px_nil' ?_
   show AX E _ _ _ _ _ _ _ _
   obtain ⟨r73, hr73, hp⟩ := bind_some hp
   obtain ⟨r76, hr76, hp⟩ := bind_some hp
   obtain ⟨r77, hr77, hp⟩ := bind_some hp
   refine ax_node (f' := 0) #[true, true, true, true, true, true, true, true, true] (fun (v30 : Addr) => (⟨115, [], [(0, (Sl KT35 a0)), (14, (Vp q14)), (15, (Vp v30)), (61, (Sl (Ki .i64) r23.1)), (62, (Vi (r23.1.length : Int))), (63, (Vi x10))], [⟨.pointer (some q14), [(Sl Kf r69.1), (Vg r69.2.1), (Vi r69.2.2.1), (Vi r69.2.2.2)], 35, none⟩, ⟨.pointer (some v30), [(Vb r77.1), (Sl (Ki .u32) r77.2.1), (Vi r77.2.2)], 135, none⟩]⟩ : St)) ?_ ?_
   ·rintro q9010
    refine ax_nil (by kernel_rfl) ?_
    show TX E K64 _
    refine tx_k' hK64 ?_
    refine cx_seq' fun K65 hK65 => ?_
    refine cr fun K66 hK66 => ?_
    refine s0 (rd_move' rfl) ?_
    refine s0 (rd_field' (off := 2) rfl Try.underlying35 rfl info3 rfl) ?_
    refine s0 (rd_load' (i := 0) (o := 2) rfl ⟨rfl, rfl, rfl, rfl⟩ rfl flat3) ?_
    obtain ⟨r81, hr81, hp⟩ := bind_some hp
    refine sx_ox' (ox_calln' (ent_fn' Try.func34 isn34 rfl rfl) (spec_VPoints_sim _ _ hr81 : Sx.Fn Try.prog 34 [(Sl KT35 a0), (Vi r69.2.2.1)] [] (fun x : Unit => (Sl (Kl Kf) r81)) (fun x => [])) (Hn := fun x : Unit => [⟨.pointer (some q14), [(Sl Kf r69.1), (Vg r69.2.1), (Vi r69.2.2.1), (Vi r69.2.2.2)], 35, none⟩, ⟨.pointer (some q9010), [(Vb r77.1), (Sl (Ki .u32) r77.2.1), (Vi r77.2.2)], 135, none⟩]) (fun _ => rfl) rfl rfl) (wt_none' rfl) fun ⟨⟩ => ?_
    refine s0 (rd_len' rfl Try.underlying26) ?_
    refine s0 (rd_move' rfl) ?_
    refine nk hK66 ?_
    refine cx_block' ?_
    obtain ⟨y4, hy4, hp⟩ := bind_some hp
    refine cx_loopg' (F := spec_IsV_l4 r81 r69 r77) (G := fun k R v => spec_IsV_l4s r81 r69 r77 k R v) (x := 0) (gh := ()) (fun (v31 : Int) (w31 : Unit) => (⟨115, [], [(0, (Sl KT35 a0)), (14, (Vp q14)), (15, (Vp q9010)), (61, (Sl (Ki .i64) r23.1)), (62, (Vi (r23.1.length : Int))), (63, (Vi x10)), (81, (Sl (Kl Kf) r81)), (82, (Vi (r81.length : Int))), (83, (Vi v31))], [⟨.pointer (some q14), [(Sl Kf r69.1), (Vg r69.2.1), (Vi r69.2.2.1), (Vi r69.2.2.2)], 35, none⟩, ⟨.pointer (some q9010), [(Vb r77.1), (Sl (Ki .u32) r77.2.1), (Vi r77.2.2)], 135, none⟩]⟩ : St)) (fun (y : Unit ⊕ Unit) => match y with | (.inl v32) => Zg E Exit.ret (fun (w32 : Unit) => (⟨115, [], [(6, (Vb false))], []⟩ : St)) | (.inr v33) => Zg E (Exit.exit 4) (fun (w33 : Unit) => (⟨115, [], [(0, (Sl KT35 a0)), (14, (Vp q14)), (15, (Vp q9010)), (61, (Sl (Ki .i64) r23.1)), (62, (Vi (r23.1.length : Int))), (63, (Vi x10))], [⟨.pointer (some q14), [(Sl Kf r69.1), (Vg r69.2.1), (Vi r69.2.2.1), (Vi r69.2.2.2)], 35, none⟩, ⟨.pointer (some q9010), [(Vb r77.1), (Sl (Ki .u32) r77.2.1), (Vi r77.2.2)], 135, none⟩]⟩ : St))) (fun _ => rfl) (fun _ _ => rfl) ?_ hy4 (tx_to' rfl [0, 1] (sub_cons rfl (sub_cons rfl (sub_cons rfl (sub_cons rfl (sub_cons rfl (sub_cons rfl (sub_cons rfl (sub_cons rfl (sub_cons rfl sub_nil))))))))) (by decide) (pick_cons rfl (pick_cons rfl pick_nil))) ?_
    ·clear hp hy4
     clear y4
     intro k rec4 KY4 ih4
     rintro x8 ⟨⟩ y4 hp
     replace hp : spec_IsV_l4s r81 r69 r77 k rec4 x8 = some y4 := hp
     unfold spec_IsV_l4s at hp
     refine cr fun K73 hK73 => ?_
     refine s0 (rd_bin' rfl rfl eg_int ru_lss) ?_
     refine nk hK73 ?_
     refine cx_seq' fun K74 hK74 => ?_
     refine cx_cond' rfl (fun h27 => ?_) (fun h27 => ?_)
     ·replace hp := (br_t h27).symm.trans hp
      refine cx_skip' ?_
      show TX E K74 _
      refine tx_k' hK74 ?_
      refine cx_seq' fun K75 hK75 => ?_
      refine cx_block' ?_
      refine cr fun K76 hK76 => ?_
      obtain ⟨r85, hr85, hp⟩ := bind_some hp
      refine s0 (rd_at' (K := (Kl Kf)) rfl rfl hr85 Try.underlying26 info25) ?_
      refine s0 (rd_load_pt' rfl rfl flat25) ?_
      refine s0 (rd_assign' rfl) ?_
      refine nk hK76 ?_
      refine cx_seq' fun K77 hK77 => ?_
      refine cx_plan' [] [] [(0, 1), (1, 1), (2, 1), (5, 1), (3, 0), (4, 0), (6, 0), (7, 1)] mixed (by kernel_rfl) ?_
      refine px_rd' rfl (rd_move' rfl) rfl rfl (wt_none' rfl) ?_
      refine px_rd' rfl (rd_field0' rfl Try.underlying35 rfl info25 rfl) rfl rfl (wt_none' rfl) ?_
      refine px_rd' rfl (rd_load' (i := 0) (o := 0) rfl ⟨rfl, rfl, rfl, rfl⟩ rfl flat25) rfl rfl (wt_none' rfl) ?_
      refine px_rd' rfl (rd_load_agg' (i := 1) (o := 0) (nn := 3) rfl ⟨rfl, rfl, rfl, rfl⟩ rfl agg135 (l' := [(Vb r77.1), (Sl (Ki .u32) r77.2.1), (Vi r77.2.2)]) rfl) rfl rfl (wt_none' rfl) ?_
      obtain ⟨r90, hr90, hp⟩ := bind_some hp
      refine px_ox' rfl (ox_calln' (ent_fn' Try.func59 isn59 rfl rfl) (spec_SquareN_sim _ _ hr90 : Sx.Fn Try.prog 59 [(Sl Kf r85), (Sl Kf r69.1)] [] (fun x : Unit => (Fl r90)) (fun x => [])) (Hn := fun x : Unit => [⟨.pointer (some q14), [(Sl Kf r69.1), (Vg r69.2.1), (Vi r69.2.2.1), (Vi r69.2.2.2)], 35, none⟩, ⟨.pointer (some q9010), [(Vb r77.1), (Sl (Ki .u32) r77.2.1), (Vi r77.2.2)], 135, none⟩]) (fun _ => rfl) rfl rfl) rfl bs_nil (wt_none' rfl) fun ⟨⟩ => ?_
      refine tx_anynan' 90 rfl fun ny6 hny6 => ?_
      obtain ⟨r91, hr91, hp⟩ := bind_some hp
      replace hr91 := anynan_eq (f := fun z => spec_DyadicOf k z) hny6 (fun h1 h2 => spec_DyadicOf_nan h1 h2) hr91
      refine px_ox' rfl (ox_calln' (ent_fn' Try.func76 isn76 rfl rfl) (spec_DyadicOf_sim _ hr91 : Sx.Fn Try.prog 76 [(Vg ny6)] [] (fun x : Unit => (Ag [(Vb r91.1), (Sl (Ki .u32) r91.2.1), (Vi r91.2.2)])) (fun x => [])) (Hn := fun x : Unit => [⟨.pointer (some q14), [(Sl Kf r69.1), (Vg r69.2.1), (Vi r69.2.2.1), (Vi r69.2.2.2)], 35, none⟩, ⟨.pointer (some q9010), [(Vb r77.1), (Sl (Ki .u32) r77.2.1), (Vi r77.2.2)], 135, none⟩]) (fun _ => rfl) rfl rfl) rfl bs_nil (wt_none' rfl) fun ⟨⟩ => ?_
      obtain ⟨r93, hr93, hp⟩ := bind_some hp
      refine px_ox' rfl (ox_calln' (ent_fn' Try.func78 isn78 rfl rfl) (spec_Dyadic_Cmp_sim _ _ _ _ _ _ hr93 : Sx.Fn Try.prog 78 [(Ag [(Vb r91.1), (Sl (Ki .u32) r91.2.1), (Vi r91.2.2)]), (Ag [(Vb r77.1), (Sl (Ki .u32) r77.2.1), (Vi r77.2.2)])] [] (fun x : Unit => (Vi r93)) (fun x => [])) (Hn := fun x : Unit => [⟨.pointer (some q14), [(Sl Kf r69.1), (Vg r69.2.1), (Vi r69.2.2.1), (Vi r69.2.2.2)], 35, none⟩, ⟨.pointer (some q9010), [(Vb r77.1), (Sl (Ki .u32) r77.2.1), (Vi r77.2.2)], 135, none⟩]) (fun _ => rfl) rfl rfl) rfl bs_nil (wt_none' rfl) fun ⟨⟩ => ?_
      refine px_rd' rfl (rd_bin' rfl rfl eg_int ru_gtr) rfl rfl (wt_none' rfl) ?_
      refine px_nil' ?_
      show TX E K77 _
      refine tx_k' hK77 ?_
      refine cx_cond' rfl (fun h28 => ?_) (fun h28 => ?_)
      ·replace hp := (br_t h28).symm.trans hp
       refine cr fun K78 hK78 => ?_
       refine s0 (rd_assign' rfl) ?_
       refine nk hK78 ?_
       refine cx_retc' ?_
       replace hp := Option.some.inj hp
       subst hp
       show TX E (Zg E Exit.ret _ Exit.ret) _
       exact tx_zend' () rfl [] (sub_cons rfl sub_nil) (by decide) pick_nil
      replace hp := (br_f h28).symm.trans hp
      refine cx_skip' ?_
      show TX E K75 _
      refine tx_k' hK75 ?_
      refine cx_region' ?_
      refine s0 (rd_bin' rfl rfl eg_int ru_add) ?_
      refine s0 (rd_move' rfl) ?_
      refine sx_nil' ?_
      show TX E (KY4 _) _
      exact tx_pick' [0, 1] (sub_cons rfl (sub_cons rfl (sub_cons rfl (sub_cons rfl (sub_cons rfl (sub_cons rfl (sub_cons rfl (sub_cons rfl (sub_cons rfl sub_nil))))))))) (by decide) (pick_cons rfl (pick_cons rfl pick_nil)) (ih4 (iadd .i64 x8 1) () _ hp)
     replace hp := (br_f h27).symm.trans hp
     refine cx_exit' ?_
     replace hp := Option.some.inj hp
     subst hp
     show TX E (Zg E (Exit.exit 4) _ (Exit.exit 4)) _
     exact tx_zend' () rfl [0, 1] (sub_cons rfl (sub_cons rfl (sub_cons rfl (sub_cons rfl (sub_cons rfl (sub_cons rfl sub_nil)))))) (by decide) (pick_cons rfl (pick_cons rfl pick_nil))
    rcases y4 with v32 | v33
    ·dsimp only at hp
     refine zg_out fun w32 => ?_
     replace hp := Option.some.inj hp
     subst hp
     show TX E (Zg E Exit.ret _ Exit.ret) _
     exact tx_zend' () rfl [] (sub_cons rfl sub_nil) (by decide) pick_nil
    dsimp only at hp
    refine zg_out fun w33 => ?_
    show TX E K65 _
    refine tx_k' hK65 ?_
    refine cr fun K79 hK79 => ?_
    refine s0 (rd_move' rfl) ?_
    refine s0 (rd_field' (off := 3) rfl Try.underlying35 rfl info3 rfl) ?_
    refine s0 (rd_load' (i := 0) (o := 3) rfl ⟨rfl, rfl, rfl, rfl⟩ rfl flat3) ?_
    obtain ⟨r99, hr99, hp⟩ := bind_some hp
    refine sx_ox' (ox_calln' (ent_fn' Try.func34 isn34 rfl rfl) (spec_VPoints_sim _ _ hr99 : Sx.Fn Try.prog 34 [(Sl KT35 a0), (Vi r69.2.2.2)] [] (fun x : Unit => (Sl (Kl Kf) r99)) (fun x => [])) (Hn := fun x : Unit => [⟨.pointer (some q14), [(Sl Kf r69.1), (Vg r69.2.1), (Vi r69.2.2.1), (Vi r69.2.2.2)], 35, none⟩, ⟨.pointer (some q9010), [(Vb r77.1), (Sl (Ki .u32) r77.2.1), (Vi r77.2.2)], 135, none⟩]) (fun _ => rfl) rfl rfl) (wt_none' rfl) fun ⟨⟩ => ?_
    refine s0 (rd_len' rfl Try.underlying26) ?_
    refine s0 (rd_move' rfl) ?_
    refine nk hK79 ?_
    refine cx_block' ?_
    obtain ⟨y5, hy5, hp⟩ := bind_some hp
    refine cx_loopg' (F := spec_IsV_l5 r99 r69 r77) (G := fun k R v => spec_IsV_l5s r99 r69 r77 k R v) (x := 0) (gh := ()) (fun (v34 : Int) (w34 : Unit) => (⟨115, [], [(0, (Sl KT35 a0)), (14, (Vp q14)), (15, (Vp q9010)), (61, (Sl (Ki .i64) r23.1)), (62, (Vi (r23.1.length : Int))), (63, (Vi x10)), (99, (Sl (Kl Kf) r99)), (100, (Vi (r99.length : Int))), (101, (Vi v34))], [⟨.pointer (some q14), [(Sl Kf r69.1), (Vg r69.2.1), (Vi r69.2.2.1), (Vi r69.2.2.2)], 35, none⟩, ⟨.pointer (some q9010), [(Vb r77.1), (Sl (Ki .u32) r77.2.1), (Vi r77.2.2)], 135, none⟩]⟩ : St)) (fun (y : Unit ⊕ Unit) => match y with | (.inl v35) => Zg E Exit.ret (fun (w35 : Unit) => (⟨115, [], [(6, (Vb false))], []⟩ : St)) | (.inr v36) => Zg E (Exit.exit 6) (fun (w36 : Unit) => (⟨115, [], [(0, (Sl KT35 a0)), (61, (Sl (Ki .i64) r23.1)), (62, (Vi (r23.1.length : Int))), (63, (Vi x10))], []⟩ : St))) (fun _ => rfl) (fun _ _ => rfl) ?_ hy5 (tx_to' rfl [0, 1] (sub_cons rfl (sub_cons rfl (sub_cons rfl (sub_cons rfl (sub_cons rfl (sub_cons rfl (sub_cons rfl (sub_cons rfl (sub_cons rfl sub_nil))))))))) (by decide) (pick_cons rfl (pick_cons rfl pick_nil))) ?_
    ·clear hp hy5
     clear y5
     intro k rec5 KY5 ih5
     rintro x9 ⟨⟩ y5 hp
     replace hp : spec_IsV_l5s r99 r69 r77 k rec5 x9 = some y5 := hp
     unfold spec_IsV_l5s at hp
     refine cr fun K86 hK86 => ?_
     refine s0 (rd_bin' rfl rfl eg_int ru_lss) ?_
     refine nk hK86 ?_
     refine cx_seq' fun K87 hK87 => ?_
     refine cx_cond' rfl (fun h32 => ?_) (fun h32 => ?_)
     ·replace hp := (br_t h32).symm.trans hp
      refine cx_skip' ?_
      show TX E K87 _
      refine tx_k' hK87 ?_
      refine cx_seq' fun K88 hK88 => ?_
      refine cx_block' ?_
      refine cr fun K89 hK89 => ?_
      obtain ⟨r103, hr103, hp⟩ := bind_some hp
      refine s0 (rd_at' (K := (Kl Kf)) rfl rfl hr103 Try.underlying26 info25) ?_
      refine s0 (rd_load_pt' rfl rfl flat25) ?_
      refine s0 (rd_assign' rfl) ?_
      refine nk hK89 ?_
      refine cx_seq' fun K90 hK90 => ?_
      refine cx_plan' [] [] [(0, 1), (1, 1), (2, 1), (5, 1), (3, 0), (4, 0), (6, 0), (7, 1)] mixed (by kernel_rfl) ?_
      refine px_rd' rfl (rd_move' rfl) rfl rfl (wt_none' rfl) ?_
      refine px_rd' rfl (rd_field0' rfl Try.underlying35 rfl info25 rfl) rfl rfl (wt_none' rfl) ?_
      refine px_rd' rfl (rd_load' (i := 0) (o := 0) rfl ⟨rfl, rfl, rfl, rfl⟩ rfl flat25) rfl rfl (wt_none' rfl) ?_
      refine px_rd' rfl (rd_load_agg' (i := 1) (o := 0) (nn := 3) rfl ⟨rfl, rfl, rfl, rfl⟩ rfl agg135 (l' := [(Vb r77.1), (Sl (Ki .u32) r77.2.1), (Vi r77.2.2)]) rfl) rfl rfl (wt_none' rfl) ?_
      obtain ⟨r108, hr108, hp⟩ := bind_some hp
      refine px_ox' rfl (ox_calln' (ent_fn' Try.func59 isn59 rfl rfl) (spec_SquareN_sim _ _ hr108 : Sx.Fn Try.prog 59 [(Sl Kf r103), (Sl Kf r69.1)] [] (fun x : Unit => (Fl r108)) (fun x => [])) (Hn := fun x : Unit => [⟨.pointer (some q14), [(Sl Kf r69.1), (Vg r69.2.1), (Vi r69.2.2.1), (Vi r69.2.2.2)], 35, none⟩, ⟨.pointer (some q9010), [(Vb r77.1), (Sl (Ki .u32) r77.2.1), (Vi r77.2.2)], 135, none⟩]) (fun _ => rfl) rfl rfl) rfl bs_nil (wt_none' rfl) fun ⟨⟩ => ?_
      refine tx_anynan' 108 rfl fun ny8 hny8 => ?_
      obtain ⟨r109, hr109, hp⟩ := bind_some hp
      replace hr109 := anynan_eq (f := fun z => spec_DyadicOf k z) hny8 (fun h1 h2 => spec_DyadicOf_nan h1 h2) hr109
      refine px_ox' rfl (ox_calln' (ent_fn' Try.func76 isn76 rfl rfl) (spec_DyadicOf_sim _ hr109 : Sx.Fn Try.prog 76 [(Vg ny8)] [] (fun x : Unit => (Ag [(Vb r109.1), (Sl (Ki .u32) r109.2.1), (Vi r109.2.2)])) (fun x => [])) (Hn := fun x : Unit => [⟨.pointer (some q14), [(Sl Kf r69.1), (Vg r69.2.1), (Vi r69.2.2.1), (Vi r69.2.2.2)], 35, none⟩, ⟨.pointer (some q9010), [(Vb r77.1), (Sl (Ki .u32) r77.2.1), (Vi r77.2.2)], 135, none⟩]) (fun _ => rfl) rfl rfl) rfl bs_nil (wt_none' rfl) fun ⟨⟩ => ?_
      obtain ⟨r111, hr111, hp⟩ := bind_some hp
      refine px_ox' rfl (ox_calln' (ent_fn' Try.func78 isn78 rfl rfl) (spec_Dyadic_Cmp_sim _ _ _ _ _ _ hr111 : Sx.Fn Try.prog 78 [(Ag [(Vb r109.1), (Sl (Ki .u32) r109.2.1), (Vi r109.2.2)]), (Ag [(Vb r77.1), (Sl (Ki .u32) r77.2.1), (Vi r77.2.2)])] [] (fun x : Unit => (Vi r111)) (fun x => [])) (Hn := fun x : Unit => [⟨.pointer (some q14), [(Sl Kf r69.1), (Vg r69.2.1), (Vi r69.2.2.1), (Vi r69.2.2.2)], 35, none⟩, ⟨.pointer (some q9010), [(Vb r77.1), (Sl (Ki .u32) r77.2.1), (Vi r77.2.2)], 135, none⟩]) (fun _ => rfl) rfl rfl) rfl bs_nil (wt_none' rfl) fun ⟨⟩ => ?_
      refine px_rd' rfl (rd_bin' rfl rfl eg_int ru_lss) rfl rfl (wt_none' rfl) ?_
      refine px_nil' ?_
      show TX E K90 _
      refine tx_k' hK90 ?_
      refine cx_cond' rfl (fun h33 => ?_) (fun h33 => ?_)
      ·replace hp := (br_t h33).symm.trans hp
       refine cr fun K91 hK91 => ?_
       refine s0 (rd_assign' rfl) ?_
       refine nk hK91 ?_
       refine cx_retc' ?_
       replace hp := Option.some.inj hp
       subst hp
       show TX E (Zg E Exit.ret _ Exit.ret) _
       exact tx_zend' () rfl [] (sub_cons rfl sub_nil) (by decide) pick_nil
      replace hp := (br_f h33).symm.trans hp
      refine cx_skip' ?_
      show TX E K88 _
      refine tx_k' hK88 ?_
      refine cx_region' ?_
      refine s0 (rd_bin' rfl rfl eg_int ru_add) ?_
      refine s0 (rd_move' rfl) ?_
      refine sx_nil' ?_
      show TX E (KY5 _) _
      exact tx_pick' [0, 1] (sub_cons rfl (sub_cons rfl (sub_cons rfl (sub_cons rfl (sub_cons rfl (sub_cons rfl (sub_cons rfl (sub_cons rfl (sub_cons rfl sub_nil))))))))) (by decide) (pick_cons rfl (pick_cons rfl pick_nil)) (ih5 (iadd .i64 x9 1) () _ hp)
     replace hp := (br_f h32).symm.trans hp
     refine cx_exit' ?_
     replace hp := Option.some.inj hp
     subst hp
     show TX E (Zg E (Exit.exit 6) _ (Exit.exit 6)) _
     exact tx_zend' () rfl [] (sub_cons rfl (sub_cons rfl (sub_cons rfl (sub_cons rfl sub_nil)))) (by decide) pick_nil
    rcases y5 with v35 | v36
    ·dsimp only at hp
     refine zg_out fun w35 => ?_
     replace hp := Option.some.inj hp
     subst hp
     show TX E (Zg E Exit.ret _ Exit.ret) _
     exact tx_zend' () rfl [] (sub_cons rfl sub_nil) (by decide) pick_nil
    dsimp only at hp
    refine zg_out fun w36 => ?_
    show TX E K61 _
    refine tx_k' hK61 ?_
    refine cx_region' ?_
    refine s0 (rd_bin' rfl rfl eg_int ru_add) ?_
    refine s0 (rd_move' rfl) ?_
    refine sx_nil' ?_
    show TX E (KY6 _) _
    exact tx_pick' [] (sub_cons rfl (sub_cons rfl (sub_cons rfl (sub_cons rfl sub_nil)))) (by decide) pick_nil (ih6 (iadd .i64 x10 1) () _ hp)
   intro hN18
   refine ax_node (f' := 1) #[true, true, true, true, true, true, true, true, false] (fun (v29 : Addr) => (⟨115, [], [(0, (Sl KT35 a0)), (14, (Vp q14)), (15, (Vp v29)), (61, (Sl (Ki .i64) r23.1)), (62, (Vi (r23.1.length : Int))), (63, (Vi x10)), (77, (Ag [(Vb r77.1), (Sl (Ki .u32) r77.2.1), (Vi r77.2.2)]))], [⟨.pointer (some q14), [(Sl Kf r69.1), (Vg r69.2.1), (Vi r69.2.2.1), (Vi r69.2.2.2)], 35, none⟩, ⟨.pointer (some v29), [(Vb false), Vn, (Vi 0)], 135, none⟩]⟩ : St)) ?_ ?_
   ·rintro q909
    refine ax_all (i := 8) (is := []) (by kernel_rfl) (all_cons ?_ all_nil)
    ·refine nx_oxv (last := #[true, true, true, true, true, true, true, true, true]) rfl (oxv_store (i := 1) (o := 0) rfl rfl (lv_ag _) ⟨rfl, rfl, rfl, rfl⟩ rfl info135 rfl (H' := [⟨.pointer (some q14), [(Sl Kf r69.1), (Vg r69.2.1), (Vi r69.2.2.1), (Vi r69.2.2.2)], 35, none⟩, ⟨.pointer (some q909), [(Vb r77.1), (Sl (Ki .u32) r77.2.1), (Vi r77.2.2)], 135, none⟩]) rfl) rfl rfl bo_nil (wt_none' rfl) rfl fun _ => ?_
     exact tx_pick' [0, 1] (sub_cons rfl (sub_cons rfl (sub_cons rfl (sub_cons rfl (sub_cons rfl (sub_cons rfl sub_nil)))))) (by decide) (pick_cons rfl (pick_cons rfl pick_nil)) (hN18 q909)
   intro hN17
   refine ax_node (f' := 2) #[true, true, true, true, true, true, true, false, false] (fun (v27 : Unit) => (⟨115, [], [(0, (Sl KT35 a0)), (14, (Vp q14)), (61, (Sl (Ki .i64) r23.1)), (62, (Vi (r23.1.length : Int))), (63, (Vi x10)), (77, (Ag [(Vb r77.1), (Sl (Ki .u32) r77.2.1), (Vi r77.2.2)]))], [⟨.pointer (some q14), [(Sl Kf r69.1), (Vg r69.2.1), (Vi r69.2.2.1), (Vi r69.2.2.2)], 35, none⟩]⟩ : St)) ?_ ?_
   ·rintro ⟨⟩
    refine ax_all (i := 7) (is := []) (by kernel_rfl) (all_cons ?_ all_nil)
    ·refine nx_ox (last := #[true, true, true, true, true, true, true, true, false]) rfl (ox_alloc' info135 rfl rfl rfl rfl (l := [(Vb false), Vn, (Vi 0)]) rfl) rfl bs_nil (wt_none' rfl) rfl fun q15 => ?_
     exact tx_pick' [1, 0] (sub_cons rfl (sub_cons rfl (sub_cons rfl (sub_cons rfl (sub_cons rfl (sub_cons rfl (sub_cons rfl sub_nil))))))) (by decide) (pick_cons rfl (pick_cons rfl pick_nil)) (hN17 q15)
   intro hN15
   refine ax_node (f' := 2) #[true, true, true, true, true, true, false, true, false] (fun (v28 : Addr) => (⟨115, [], [(0, (Sl KT35 a0)), (14, (Vp q14)), (15, (Vp v28)), (61, (Sl (Ki .i64) r23.1)), (62, (Vi (r23.1.length : Int))), (63, (Vi x10)), (73, (Ag [(Vb r73.1), (Sl (Ki .u32) r73.2.1), (Vi r73.2.2)])), (76, (Ag [(Vb r76.1), (Sl (Ki .u32) r76.2.1), (Vi r76.2.2)]))], [⟨.pointer (some q14), [(Sl Kf r69.1), (Vg r69.2.1), (Vi r69.2.2.1), (Vi r69.2.2.2)], 35, none⟩, ⟨.pointer (some v28), [(Vb false), Vn, (Vi 0)], 135, none⟩]⟩ : St)) ?_ ?_
   ·rintro q908
    refine ax_all (i := 6) (is := []) (by kernel_rfl) (all_cons ?_ all_nil)
    ·refine nx_ox (last := #[true, true, true, true, true, true, true, true, false]) rfl (ox_calln' (ent_fn' Try.func77 isn77 rfl rfl) (spec_Dyadic_Mul_sim _ _ _ _ _ _ hr77 : Sx.Fn Try.prog 77 [(Ag [(Vb r73.1), (Sl (Ki .u32) r73.2.1), (Vi r73.2.2)]), (Ag [(Vb r76.1), (Sl (Ki .u32) r76.2.1), (Vi r76.2.2)])] [] (fun x : Unit => (Ag [(Vb r77.1), (Sl (Ki .u32) r77.2.1), (Vi r77.2.2)])) (fun x => [])) (Hn := fun x : Unit => [⟨.pointer (some q14), [(Sl Kf r69.1), (Vg r69.2.1), (Vi r69.2.2.1), (Vi r69.2.2.2)], 35, none⟩, ⟨.pointer (some q908), [(Vb false), Vn, (Vi 0)], 135, none⟩]) (fun _ => rfl) rfl rfl) rfl bs_nil (wt_none' rfl) rfl fun ⟨⟩ => ?_
     exact tx_pick' [0, 1] (sub_cons rfl (sub_cons rfl (sub_cons rfl (sub_cons rfl (sub_cons rfl (sub_cons rfl (sub_cons rfl sub_nil))))))) (by decide) (pick_cons rfl (pick_cons rfl pick_nil)) (hN17 q908)
   intro hN16
   refine ax_node (f' := 3) #[true, true, true, true, true, true, false, false, false] (fun (v25 : Unit) => (⟨115, [], [(0, (Sl KT35 a0)), (14, (Vp q14)), (61, (Sl (Ki .i64) r23.1)), (62, (Vi (r23.1.length : Int))), (63, (Vi x10)), (73, (Ag [(Vb r73.1), (Sl (Ki .u32) r73.2.1), (Vi r73.2.2)])), (76, (Ag [(Vb r76.1), (Sl (Ki .u32) r76.2.1), (Vi r76.2.2)]))], [⟨.pointer (some q14), [(Sl Kf r69.1), (Vg r69.2.1), (Vi r69.2.2.1), (Vi r69.2.2.2)], 35, none⟩]⟩ : St)) ?_ ?_
   ·rintro ⟨⟩
    refine ax_all (i := 6) (is := [7]) (by kernel_rfl) (all_cons ?_ (all_cons ?_ all_nil))
    ·refine nx_ox (last := #[true, true, true, true, true, true, true, false, false]) rfl (ox_calln' (ent_fn' Try.func77 isn77 rfl rfl) (spec_Dyadic_Mul_sim _ _ _ _ _ _ hr77 : Sx.Fn Try.prog 77 [(Ag [(Vb r73.1), (Sl (Ki .u32) r73.2.1), (Vi r73.2.2)]), (Ag [(Vb r76.1), (Sl (Ki .u32) r76.2.1), (Vi r76.2.2)])] [] (fun x : Unit => (Ag [(Vb r77.1), (Sl (Ki .u32) r77.2.1), (Vi r77.2.2)])) (fun x => [])) (Hn := fun x : Unit => [⟨.pointer (some q14), [(Sl Kf r69.1), (Vg r69.2.1), (Vi r69.2.2.1), (Vi r69.2.2.2)], 35, none⟩]) (fun _ => rfl) rfl rfl) rfl bs_nil (wt_none' rfl) rfl fun ⟨⟩ => ?_
     exact tx_pick' [0] (sub_cons rfl (sub_cons rfl (sub_cons rfl (sub_cons rfl (sub_cons rfl (sub_cons rfl sub_nil)))))) (by decide) (pick_cons rfl pick_nil) (hN15 ())
    refine nx_ox (last := #[true, true, true, true, true, true, false, true, false]) rfl (ox_alloc' info135 rfl rfl rfl rfl (l := [(Vb false), Vn, (Vi 0)]) rfl) rfl bs_nil (wt_none' rfl) rfl fun q15 => ?_
    exact tx_pick' [1, 0] (sub_cons rfl (sub_cons rfl (sub_cons rfl (sub_cons rfl (sub_cons rfl (sub_cons rfl (sub_cons rfl (sub_cons rfl sub_nil)))))))) (by decide) (pick_cons rfl (pick_cons rfl pick_nil)) (hN16 q15)
   intro hN13
   refine ax_node (f' := 3) #[true, true, true, true, true, false, false, true, false] (fun (v26 : Addr) => (⟨115, [], [(0, (Sl KT35 a0)), (14, (Vp q14)), (15, (Vp v26)), (61, (Sl (Ki .i64) r23.1)), (62, (Vi (r23.1.length : Int))), (63, (Vi x10)), (73, (Ag [(Vb r73.1), (Sl (Ki .u32) r73.2.1), (Vi r73.2.2)])), (75, (Vg r69.2.1))], [⟨.pointer (some q14), [(Sl Kf r69.1), (Vg r69.2.1), (Vi r69.2.2.1), (Vi r69.2.2.2)], 35, none⟩, ⟨.pointer (some v26), [(Vb false), Vn, (Vi 0)], 135, none⟩]⟩ : St)) ?_ ?_
   ·rintro q907
    refine ax_all (i := 5) (is := []) (by kernel_rfl) (all_cons ?_ all_nil)
    ·refine nx_ox (last := #[true, true, true, true, true, true, false, true, false]) rfl (ox_calln' (ent_fn' Try.func76 isn76 rfl rfl) (spec_DyadicOf_sim _ hr76 : Sx.Fn Try.prog 76 [(Vg r69.2.1)] [] (fun x : Unit => (Ag [(Vb r76.1), (Sl (Ki .u32) r76.2.1), (Vi r76.2.2)])) (fun x => [])) (Hn := fun x : Unit => [⟨.pointer (some q14), [(Sl Kf r69.1), (Vg r69.2.1), (Vi r69.2.2.1), (Vi r69.2.2.2)], 35, none⟩, ⟨.pointer (some q907), [(Vb false), Vn, (Vi 0)], 135, none⟩]) (fun _ => rfl) rfl rfl) rfl bs_nil (wt_none' rfl) rfl fun ⟨⟩ => ?_
     exact tx_pick' [0, 1] (sub_cons rfl (sub_cons rfl (sub_cons rfl (sub_cons rfl (sub_cons rfl (sub_cons rfl (sub_cons rfl (sub_cons rfl sub_nil)))))))) (by decide) (pick_cons rfl (pick_cons rfl pick_nil)) (hN16 q907)
   intro hN14
   refine ax_node (f' := 4) #[true, true, true, true, true, false, false, false, false] (fun (v23 : Unit) => (⟨115, [], [(0, (Sl KT35 a0)), (14, (Vp q14)), (61, (Sl (Ki .i64) r23.1)), (62, (Vi (r23.1.length : Int))), (63, (Vi x10)), (73, (Ag [(Vb r73.1), (Sl (Ki .u32) r73.2.1), (Vi r73.2.2)])), (75, (Vg r69.2.1))], [⟨.pointer (some q14), [(Sl Kf r69.1), (Vg r69.2.1), (Vi r69.2.2.1), (Vi r69.2.2.2)], 35, none⟩]⟩ : St)) ?_ ?_
   ·rintro ⟨⟩
    refine ax_all (i := 5) (is := [7]) (by kernel_rfl) (all_cons ?_ (all_cons ?_ all_nil))
    ·refine nx_ox (last := #[true, true, true, true, true, true, false, false, false]) rfl (ox_calln' (ent_fn' Try.func76 isn76 rfl rfl) (spec_DyadicOf_sim _ hr76 : Sx.Fn Try.prog 76 [(Vg r69.2.1)] [] (fun x : Unit => (Ag [(Vb r76.1), (Sl (Ki .u32) r76.2.1), (Vi r76.2.2)])) (fun x => [])) (Hn := fun x : Unit => [⟨.pointer (some q14), [(Sl Kf r69.1), (Vg r69.2.1), (Vi r69.2.2.1), (Vi r69.2.2.2)], 35, none⟩]) (fun _ => rfl) rfl rfl) rfl bs_nil (wt_none' rfl) rfl fun ⟨⟩ => ?_
     exact tx_pick' [0] (sub_cons rfl (sub_cons rfl (sub_cons rfl (sub_cons rfl (sub_cons rfl (sub_cons rfl (sub_cons rfl sub_nil))))))) (by decide) (pick_cons rfl pick_nil) (hN13 ())
    refine nx_ox (last := #[true, true, true, true, true, false, false, true, false]) rfl (ox_alloc' info135 rfl rfl rfl rfl (l := [(Vb false), Vn, (Vi 0)]) rfl) rfl bs_nil (wt_none' rfl) rfl fun q15 => ?_
    exact tx_pick' [1, 0] (sub_cons rfl (sub_cons rfl (sub_cons rfl (sub_cons rfl (sub_cons rfl (sub_cons rfl (sub_cons rfl (sub_cons rfl sub_nil)))))))) (by decide) (pick_cons rfl (pick_cons rfl pick_nil)) (hN14 q15)
   intro hN11
   refine ax_node (f' := 4) #[true, true, false, true, true, false, false, true, false] (fun (v24 : Addr) => (⟨115, [], [(0, (Sl KT35 a0)), (14, (Vp q14)), (15, (Vp v24)), (61, (Sl (Ki .i64) r23.1)), (62, (Vi (r23.1.length : Int))), (63, (Vi x10)), (72, (Vg r69.2.1)), (75, (Vg r69.2.1))], [⟨.pointer (some q14), [(Sl Kf r69.1), (Vg r69.2.1), (Vi r69.2.2.1), (Vi r69.2.2.2)], 35, none⟩, ⟨.pointer (some v24), [(Vb false), Vn, (Vi 0)], 135, none⟩]⟩ : St)) ?_ ?_
   ·rintro q906
    refine ax_all (i := 2) (is := []) (by kernel_rfl) (all_cons ?_ all_nil)
    ·refine nx_ox (last := #[true, true, true, true, true, false, false, true, false]) rfl (ox_calln' (ent_fn' Try.func76 isn76 rfl rfl) (spec_DyadicOf_sim _ hr73 : Sx.Fn Try.prog 76 [(Vg r69.2.1)] [] (fun x : Unit => (Ag [(Vb r73.1), (Sl (Ki .u32) r73.2.1), (Vi r73.2.2)])) (fun x => [])) (Hn := fun x : Unit => [⟨.pointer (some q14), [(Sl Kf r69.1), (Vg r69.2.1), (Vi r69.2.2.1), (Vi r69.2.2.2)], 35, none⟩, ⟨.pointer (some q906), [(Vb false), Vn, (Vi 0)], 135, none⟩]) (fun _ => rfl) rfl rfl) rfl bs_nil (wt_none' rfl) rfl fun ⟨⟩ => ?_
     exact tx_pick' [0, 1] (sub_cons rfl (sub_cons rfl (sub_cons rfl (sub_cons rfl (sub_cons rfl (sub_cons rfl (sub_cons rfl (sub_cons rfl sub_nil)))))))) (by decide) (pick_cons rfl (pick_cons rfl pick_nil)) (hN14 q906)
   intro hN12
   refine ax_all (i := 2) (is := [7]) (by kernel_rfl) (all_cons ?_ (all_cons ?_ all_nil))
   ·refine nx_ox (last := #[true, true, true, true, true, false, false, false, false]) rfl (ox_calln' (ent_fn' Try.func76 isn76 rfl rfl) (spec_DyadicOf_sim _ hr73 : Sx.Fn Try.prog 76 [(Vg r69.2.1)] [] (fun x : Unit => (Ag [(Vb r73.1), (Sl (Ki .u32) r73.2.1), (Vi r73.2.2)])) (fun x => [])) (Hn := fun x : Unit => [⟨.pointer (some q14), [(Sl Kf r69.1), (Vg r69.2.1), (Vi r69.2.2.1), (Vi r69.2.2.2)], 35, none⟩]) (fun _ => rfl) rfl rfl) rfl bs_nil (wt_none' rfl) rfl fun ⟨⟩ => ?_
    exact tx_pick' [0] (sub_cons rfl (sub_cons rfl (sub_cons rfl (sub_cons rfl (sub_cons rfl (sub_cons rfl (sub_cons rfl sub_nil))))))) (by decide) (pick_cons rfl pick_nil) (hN11 ())
   refine nx_ox (last := #[true, true, false, true, true, false, false, true, false]) rfl (ox_alloc' info135 rfl rfl rfl rfl (l := [(Vb false), Vn, (Vi 0)]) rfl) rfl bs_nil (wt_none' rfl) rfl fun q15 => ?_
   exact tx_pick' [1, 0] (sub_cons rfl (sub_cons rfl (sub_cons rfl (sub_cons rfl (sub_cons rfl (sub_cons rfl (sub_cons rfl (sub_cons rfl sub_nil)))))))) (by decide) (pick_cons rfl (pick_cons rfl pick_nil)) (hN12 q15)
  replace hp := (br_f h23).symm.trans hp
  refine cx_exit' ?_
  replace hp := Option.some.inj hp
  subst hp
  show TX E (Zg E (Exit.exit 2) _ (Exit.exit 2)) _
  exact tx_zend' () rfl [] sub_nil (by decide) pick_nil
 rcases y6 with v37 | v38
 ·dsimp only at hp
  refine zg_out fun w37 => ?_
  replace hp := Option.some.inj hp
  subst hp
  refine tx_pick' (L' := [(6, (Vb false))]) (H' := []) [] (sub_cons rfl sub_nil) (by decide) pick_nil ?_
  exact tx_ret1' Try.results33 rfl () (rv_tmp' rfl) (List.Sublist.refl _)
 dsimp only at hp
 refine zg_out fun w38 => ?_
 show TX E K24 _
 refine tx_k' hK24 ?_
 refine cr fun K92 hK92 => ?_
 refine s0 (rd_assign' rfl) ?_
 refine nk hK92 ?_
 refine cx_retc' ?_
 replace hp := Option.some.inj hp
 subst hp
 refine tx_pick' (L' := [(6, (Vb true))]) (H' := []) [] (sub_cons rfl sub_nil) (by decide) pick_nil ?_
 exact tx_ret1' Try.results33 rfl () (rv_tmp' rfl) (List.Sublist.refl _)

def math_Trunc (k : Nat) (a0 : Nat) : Option (Nat) :=
 (some (gint .zero a0)) >>= fun r4 =>
 some r4

theorem math_Trunc_sim {k : Nat}  (a0 : Nat) {out : Nat} (hp : math_Trunc k a0 = some out) : Sx.Fn Try.prog 82 [(Vg a0)] [] (fun w : Unit => (Fl out)) (fun w => []) := by
 unfold math_Trunc at hp
 refine fn_of Try.func82 rfl Try.ntmps82 rfl fun E hM => ?_
 refine cr fun K1 hK1 => ?_
 refine s0 (rd_assign' rfl) ?_
 refine nk hK1 ?_
 refine cx_seq' fun K2 hK2 => ?_
 refine cx_cond_t' rfl rfl ?_
 refine cr fun K3 hK3 => ?_
 refine s0 (rd_move' rfl) ?_
 obtain ⟨r4, hr4, hp⟩ := bind_some hp
 refine sx_ox' (ox_extf' rfl (fl_v rfl) Try.func104 (extf104 (Option.some.inj hr4)) rfl rfl) (wt_none' rfl) fun _ => ?_
 refine s0 (rd_assign' rfl) ?_
 refine nk hK3 ?_
 refine cx_retc' ?_
 replace hp := Option.some.inj hp
 subst hp
 refine tx_pick' (L' := [(2, (Fl r4))]) (H' := []) [] (sub_cons rfl sub_nil) (by decide) pick_nil ?_
 exact tx_ret1' Try.results82 rfl () (rv_tmp' rfl) (List.Sublist.refl _)

def spec_Grid_j8 (k : Nat) (rec2 : Int → Option (Unit ⊕ Unit)) (x10 : Int) (x9 : Bool) : Option (Unit ⊕ Unit) :=
 br x9
  (some (.inl ()))
  (rec2 (iadd .i64 x10 1))
def spec_Grid_j7 (k : Nat) (rec2 : Int → Option (Unit ⊕ Unit)) (x10 : Int) (r25 : Nat) (x8 : Bool) : Option (Unit ⊕ Unit) :=
 br (!x8)
  (spec_Grid_j8 k rec2 x10 true)
  ((math_Trunc k r25) >>= fun r40 =>
  spec_Grid_j8 k rec2 x10 (fne r25 r40))
def spec_Grid_l2s (r15 : List Nat) (a2 : Nat) (k : Nat) (rec2 : Int → Option (Unit ⊕ Unit)) (x10 : Int) : Option (Unit ⊕ Unit) :=
 br (decide (x10 < (r15.length : Int)))
  ((idx r15 x10) >>= fun r25 =>
  br (fge r25 (fneg a2))
   (spec_Grid_j7 k rec2 x10 r25 (fle r25 a2))
   (spec_Grid_j7 k rec2 x10 r25 false))
  (some (.inr ()))
def spec_Grid_l2 (r15 : List Nat) (a2 : Nat) : Nat → Int → Option (Unit ⊕ Unit)
 | 0, _ => none
 | k + 1, v => spec_Grid_l2s r15 a2 k (spec_Grid_l2 r15 a2 k) v
def spec_Grid_l3s (a0 : List (List Nat)) (a1 : Int) (a2 : Nat) (k : Nat) (rec3 : Int → Option (Unit ⊕ Unit)) (x11 : Int) : Option (Unit ⊕ Unit) :=
 br (decide (x11 < (a0.length : Int)))
  ((idx a0 x11) >>= fun r15 =>
  br (!decide ((r15.length : Int) = a1))
   (some (.inl ()))
   ((spec_Grid_l2 r15 a2 k 0) >>= fun y2 => match y2 with
    | (.inl v14) =>
     (some (.inl ()))
    | (.inr v15) =>
     (rec3 (iadd .i64 x11 1))))
  (some (.inr ()))
def spec_Grid_l3 (a0 : List (List Nat)) (a1 : Int) (a2 : Nat) : Nat → Int → Option (Unit ⊕ Unit)
 | 0, _ => none
 | k + 1, v => spec_Grid_l3s a0 a1 a2 k (spec_Grid_l3 a0 a1 a2 k) v
def spec_Grid (k : Nat) (a0 : List (List Nat)) (a1 : Int) (a2 : Nat) : Option (Bool) :=
 (spec_Grid_l3 a0 a1 a2 k 0) >>= fun y3 => match y3 with
  | (.inl v16) =>
   (some false)
  | (.inr v17) =>
   (some (decide (0 < a1)))

theorem spec_Grid_sim {k : Nat}  (a0 : List (List Nat)) (a1 : Int) (a2 : Nat) {out : Bool} (hp : spec_Grid k a0 a1 a2 = some out) : Sx.Fn Try.prog 43 [(Sl (Kl Kf) a0), (Vi a1), (Vg a2)] [] (fun w : Unit => (Vb out)) (fun w => []) := by
 unfold spec_Grid at hp
 refine fn_of Try.func43 rfl Try.ntmps43 rfl fun E hM => ?_
 refine cr fun K1 hK1 => ?_
 refine s0 (rd_assign' rfl) ?_
 refine nk hK1 ?_
 refine cx_seq' fun K2 hK2 => ?_
 refine cr fun K3 hK3 => ?_
 refine s0 (rd_move' rfl) ?_
 refine s0 (rd_len' rfl Try.underlying26) ?_
 refine s0 (rd_move' rfl) ?_
 refine nk hK3 ?_
 refine cx_block' ?_
 obtain ⟨y3, hy3, hp⟩ := bind_some hp
 refine cx_loopg' (F := spec_Grid_l3 a0 a1 a2) (G := fun k R v => spec_Grid_l3s a0 a1 a2 k R v) (x := 0) (gh := ()) (fun (v8 : Int) (w8 : Unit) => (⟨47, [], [(1, (Vi a1)), (2, (Vg a2)), (11, (Sl (Kl Kf) a0)), (12, (Vi (a0.length : Int))), (13, (Vi v8))], []⟩ : St)) (fun (y : Unit ⊕ Unit) => match y with | (.inl v16) => Zg E Exit.ret (fun (w16 : Unit) => (⟨47, [], [(6, (Vb false))], []⟩ : St)) | (.inr v17) => Zg E (Exit.exit 0) (fun (w17 : Unit) => (⟨47, [], [(1, (Vi a1))], []⟩ : St))) (fun _ => rfl) (fun _ _ => rfl) ?_ hy3 (tx_to' rfl [] (sub_cons rfl (sub_cons rfl (sub_cons rfl (sub_cons rfl (sub_cons rfl sub_nil))))) (by decide) pick_nil) ?_
 ·clear hp hy3
  clear y3
  intro k rec3 KY3 ih3
  rintro x11 ⟨⟩ y3 hp
  replace hp : spec_Grid_l3s a0 a1 a2 k rec3 x11 = some y3 := hp
  unfold spec_Grid_l3s at hp
  refine cr fun K28 hK28 => ?_
  refine s0 (rd_bin' rfl rfl eg_int ru_lss) ?_
  refine nk hK28 ?_
  refine cx_seq' fun K29 hK29 => ?_
  refine cx_cond' rfl (fun h13 => ?_) (fun h13 => ?_)
  ·replace hp := (br_t h13).symm.trans hp
   refine cx_skip' ?_
   show TX E K29 _
   refine tx_k' hK29 ?_
   refine cx_seq' fun K30 hK30 => ?_
   refine cx_block' ?_
   refine cr fun K31 hK31 => ?_
   obtain ⟨r15, hr15, hp⟩ := bind_some hp
   refine s0 (rd_at' (K := (Kl Kf)) rfl rfl hr15 Try.underlying26 info25) ?_
   refine s0 (rd_load_pt' rfl rfl flat25) ?_
   refine s0 (rd_assign' rfl) ?_
   refine nk hK31 ?_
   refine cx_seq' fun K32 hK32 => ?_
   refine cr fun K33 hK33 => ?_
   refine s0 (rd_move' rfl) ?_
   refine s0 (rd_len' rfl Try.underlying25) ?_
   refine s0 (rd_move' rfl) ?_
   refine s0 (rd_bin' rfl rfl eg_int ru_neq) ?_
   refine nk hK33 ?_
   refine cx_cond' rfl (fun h14 => ?_) (fun h14 => ?_)
   ·replace hp := (br_t h14).symm.trans hp
    refine cr fun K34 hK34 => ?_
    refine s0 (rd_assign' rfl) ?_
    refine nk hK34 ?_
    refine cx_retc' ?_
    replace hp := Option.some.inj hp
    subst hp
    show TX E (Zg E Exit.ret _ Exit.ret) _
    exact tx_zend' () rfl [] (sub_cons rfl sub_nil) (by decide) pick_nil
   replace hp := (br_f h14).symm.trans hp
   refine cx_skip' ?_
   show TX E K32 _
   refine tx_k' hK32 ?_
   refine cr fun K35 hK35 => ?_
   refine s0 (rd_move' rfl) ?_
   refine s0 (rd_len' rfl Try.underlying25) ?_
   refine s0 (rd_move' rfl) ?_
   refine nk hK35 ?_
   refine cx_block' ?_
   obtain ⟨y2, hy2, hp⟩ := bind_some hp
   refine cx_loopg' (F := spec_Grid_l2 r15 a2) (G := fun k R v => spec_Grid_l2s r15 a2 k R v) (x := 0) (gh := ()) (fun (v11 : Int) (w11 : Unit) => (⟨47, [], [(1, (Vi a1)), (2, (Vg a2)), (11, (Sl (Kl Kf) a0)), (12, (Vi (a0.length : Int))), (13, (Vi x11)), (21, (Sl Kf r15)), (22, (Vi (r15.length : Int))), (23, (Vi v11))], []⟩ : St)) (fun (y : Unit ⊕ Unit) => match y with | (.inl v14) => Zg E Exit.ret (fun (w14 : Unit) => (⟨47, [], [(6, (Vb false))], []⟩ : St)) | (.inr v15) => Zg E (Exit.exit 2) (fun (w15 : Unit) => (⟨47, [], [(1, (Vi a1)), (2, (Vg a2)), (11, (Sl (Kl Kf) a0)), (12, (Vi (a0.length : Int))), (13, (Vi x11))], []⟩ : St))) (fun _ => rfl) (fun _ _ => rfl) ?_ hy2 (tx_to' rfl [] (sub_cons rfl (sub_cons rfl (sub_cons rfl (sub_cons rfl (sub_cons rfl (sub_cons rfl (sub_cons rfl (sub_cons rfl sub_nil)))))))) (by decide) pick_nil) ?_
   ·clear hp hy2
    clear y2
    intro k rec2 KY2 ih2
    rintro x10 ⟨⟩ y2 hp
    replace hp : spec_Grid_l2s r15 a2 k rec2 x10 = some y2 := hp
    unfold spec_Grid_l2s at hp
    refine cr fun K44 hK44 => ?_
    refine s0 (rd_bin' rfl rfl eg_int ru_lss) ?_
    refine nk hK44 ?_
    refine cx_seq' fun K45 hK45 => ?_
    refine cx_cond' rfl (fun h20 => ?_) (fun h20 => ?_)
    ·replace hp := (br_t h20).symm.trans hp
     refine cx_skip' ?_
     show TX E K45 _
     refine tx_k' hK45 ?_
     refine cx_seq' fun K46 hK46 => ?_
     refine cx_block' ?_
     refine cr fun K47 hK47 => ?_
     obtain ⟨r25, hr25, hp⟩ := bind_some hp
     refine s0 (rd_at' (K := Kf) rfl rfl hr25 Try.underlying25 info33) ?_
     refine s0 (rd_load_pt' rfl rfl flat33) ?_
     refine s0 (rd_assign' rfl) ?_
     refine nk hK47 ?_
     refine cr fun K48 hK48 => ?_
     refine s0 (rd_move' rfl) ?_
     refine s0 (rd_move' rfl) ?_
     refine s0 (rd_un' rfl ru_fneg) ?_
     refine s0 (rd_bin' rfl rfl eg_flt ru_fge) ?_
     refine s0 (rd_move' rfl) ?_
     refine sx_cutn' 4 (fun (v12 : Bool) => (⟨47, [], [(1, (Vi a1)), (2, (Vg a2)), (10, (Vg r25)), (11, (Sl (Kl Kf) a0)), (12, (Vi (a0.length : Int))), (13, (Vi x11)), (21, (Sl Kf r15)), (22, (Vi (r15.length : Int))), (23, (Vi x10)), (35, (Vb v12))], []⟩ : St)) (fun (v12 : Bool) => spec_Grid_j7 k rec2 x10 r25 v12 = some y2) ?_ ?_
     ·rintro x8 hp
      replace hp : spec_Grid_j7 k rec2 x10 r25 x8 = some y2 := hp
      unfold spec_Grid_j7 at hp
      refine s0 (rd_un' rfl ru_not) ?_
      refine s0 (rd_move' rfl) ?_
      refine sx_cutn' 5 (fun (v13 : Bool) => (⟨47, [], [(1, (Vi a1)), (2, (Vg a2)), (11, (Sl (Kl Kf) a0)), (12, (Vi (a0.length : Int))), (13, (Vi x11)), (21, (Sl Kf r15)), (22, (Vi (r15.length : Int))), (23, (Vi x10)), (42, (Vb v13))], []⟩ : St)) (fun (v13 : Bool) => spec_Grid_j8 k rec2 x10 v13 = some y2) ?_ ?_
      ·rintro x9 hp
       replace hp : spec_Grid_j8 k rec2 x10 x9 = some y2 := hp
       unfold spec_Grid_j8 at hp
       refine nk hK48 ?_
       refine cx_cond' rfl (fun h23 => ?_) (fun h23 => ?_)
       ·replace hp := (br_t h23).symm.trans hp
        refine cr fun K51 hK51 => ?_
        refine s0 (rd_assign' rfl) ?_
        refine nk hK51 ?_
        refine cx_retc' ?_
        replace hp := Option.some.inj hp
        subst hp
        show TX E (Zg E Exit.ret _ Exit.ret) _
        exact tx_zend' () rfl [] (sub_cons rfl sub_nil) (by decide) pick_nil
       replace hp := (br_f h23).symm.trans hp
       refine cx_skip' ?_
       show TX E K46 _
       refine tx_k' hK46 ?_
       refine cx_region' ?_
       refine s0 (rd_bin' rfl rfl eg_int ru_add) ?_
       refine s0 (rd_move' rfl) ?_
       refine sx_nil' ?_
       show TX E (KY2 _) _
       exact tx_pick' [] (sub_cons rfl (sub_cons rfl (sub_cons rfl (sub_cons rfl (sub_cons rfl (sub_cons rfl (sub_cons rfl (sub_cons rfl sub_nil)))))))) (by decide) pick_nil (ih2 (iadd .i64 x10 1) () _ hp)
      intro K50 hK50
      rcases br_cases hp with ⟨h22, hp⟩ | ⟨h22, hp⟩
      ·refine sx_skip' rfl rfl (wt_is' (wt_guard' rfl rfl rfl) (beq_tf h22)) ?_
       refine sx_skip' rfl rfl (wt_is' (wt_guard' rfl rfl rfl) (beq_tf h22)) ?_
       refine sx_skip' rfl rfl (wt_is' (wt_guard' rfl rfl rfl) (beq_tf h22)) ?_
       refine sx_skip' rfl rfl (wt_is' (wt_guard' rfl rfl rfl) (beq_tf h22)) ?_
       refine s0 (rd_pick_true' rfl h22 rfl) ?_
       refine sx_nil' ?_
       show TX E K50 _
       exact tx_pick' [] (sub_cons rfl (sub_cons rfl (sub_cons rfl (sub_cons rfl (sub_cons rfl (sub_cons rfl (sub_cons rfl (sub_cons rfl (sub_cons rfl sub_nil))))))))) (by decide) pick_nil (hK50 true hp)
      refine sx_rd' (rd_move' rfl) rfl rfl (wt_is' (wt_guard' rfl rfl rfl) (beq_ff h22)) ?_
      refine sx_rd' (rd_move' rfl) rfl rfl (wt_is' (wt_guard' rfl rfl rfl) (beq_ff h22)) ?_
      obtain ⟨r40, hr40, hp⟩ := bind_some hp
      refine sx_ox' (ox_calln' (ent_fn' Try.func82 isn82 rfl rfl) (math_Trunc_sim _ hr40 : Sx.Fn Try.prog 82 [(Vg r25)] [] (fun x : Unit => (Fl r40)) (fun x => [])) (Hn := fun x : Unit => []) (fun _ => rfl) rfl rfl) (wt_is' (wt_guard' rfl rfl rfl) (beq_ff h22)) fun ⟨⟩ => ?_
      refine sx_rd' (rd_fcmp' (fl_v rfl) (fl_f rfl) rfl) rfl rfl (wt_is' (wt_guard' rfl rfl rfl) (beq_ff h22)) ?_
      refine s0 (rd_pick_false' rfl h22 rfl) ?_
      refine sx_nil' ?_
      show TX E K50 _
      exact tx_pick' [] (sub_cons rfl (sub_cons rfl (sub_cons rfl (sub_cons rfl (sub_cons rfl (sub_cons rfl (sub_cons rfl (sub_cons rfl (sub_cons rfl sub_nil))))))))) (by decide) pick_nil (hK50 (fne r25 r40) hp)
     intro K49 hK49
     rcases br_cases hp with ⟨h21, hp⟩ | ⟨h21, hp⟩
     ·refine sx_rd' (rd_move' rfl) rfl rfl (wt_is' (wt_guard' rfl rfl rfl) (beq_tt h21)) ?_
      refine sx_rd' (rd_move' rfl) rfl rfl (wt_is' (wt_guard' rfl rfl rfl) (beq_tt h21)) ?_
      refine sx_rd' (rd_bin' rfl rfl eg_flt ru_fle) rfl rfl (wt_is' (wt_guard' rfl rfl rfl) (beq_tt h21)) ?_
      refine s0 (rd_pick_true' rfl h21 rfl) ?_
      refine sx_nil' ?_
      show TX E K49 _
      exact tx_pick' [] (sub_cons rfl (sub_cons rfl (sub_cons rfl (sub_cons rfl (sub_cons rfl (sub_cons rfl (sub_cons rfl (sub_cons rfl (sub_cons rfl (sub_cons rfl sub_nil)))))))))) (by decide) pick_nil (hK49 (fle r25 a2) hp)
     refine sx_skip' rfl rfl (wt_is' (wt_guard' rfl rfl rfl) (beq_ft h21)) ?_
     refine sx_skip' rfl rfl (wt_is' (wt_guard' rfl rfl rfl) (beq_ft h21)) ?_
     refine sx_skip' rfl rfl (wt_is' (wt_guard' rfl rfl rfl) (beq_ft h21)) ?_
     refine s0 (rd_pick_false' rfl h21 rfl) ?_
     refine sx_nil' ?_
     show TX E K49 _
     exact tx_pick' [] (sub_cons rfl (sub_cons rfl (sub_cons rfl (sub_cons rfl (sub_cons rfl (sub_cons rfl (sub_cons rfl (sub_cons rfl (sub_cons rfl (sub_cons rfl sub_nil)))))))))) (by decide) pick_nil (hK49 false hp)
    replace hp := (br_f h20).symm.trans hp
    refine cx_exit' ?_
    replace hp := Option.some.inj hp
    subst hp
    show TX E (Zg E (Exit.exit 2) _ (Exit.exit 2)) _
    exact tx_zend' () rfl [] (sub_cons rfl (sub_cons rfl (sub_cons rfl (sub_cons rfl (sub_cons rfl sub_nil))))) (by decide) pick_nil
   rcases y2 with v14 | v15
   ·dsimp only at hp
    refine zg_out fun w14 => ?_
    replace hp := Option.some.inj hp
    subst hp
    show TX E (Zg E Exit.ret _ Exit.ret) _
    exact tx_zend' () rfl [] (sub_cons rfl sub_nil) (by decide) pick_nil
   dsimp only at hp
   refine zg_out fun w15 => ?_
   show TX E K30 _
   refine tx_k' hK30 ?_
   refine cx_region' ?_
   refine s0 (rd_bin' rfl rfl eg_int ru_add) ?_
   refine s0 (rd_move' rfl) ?_
   refine sx_nil' ?_
   show TX E (KY3 _) _
   exact tx_pick' [] (sub_cons rfl (sub_cons rfl (sub_cons rfl (sub_cons rfl (sub_cons rfl sub_nil))))) (by decide) pick_nil (ih3 (iadd .i64 x11 1) () _ hp)
  replace hp := (br_f h13).symm.trans hp
  refine cx_exit' ?_
  replace hp := Option.some.inj hp
  subst hp
  show TX E (Zg E (Exit.exit 0) _ (Exit.exit 0)) _
  exact tx_zend' () rfl [] (sub_cons rfl sub_nil) (by decide) pick_nil
 rcases y3 with v16 | v17
 ·dsimp only at hp
  refine zg_out fun w16 => ?_
  replace hp := Option.some.inj hp
  subst hp
  refine tx_pick' (L' := [(6, (Vb false))]) (H' := []) [] (sub_cons rfl sub_nil) (by decide) pick_nil ?_
  exact tx_ret1' Try.results43 rfl () (rv_tmp' rfl) (List.Sublist.refl _)
 dsimp only at hp
 refine zg_out fun w17 => ?_
 show TX E K2 _
 refine tx_k' hK2 ?_
 refine cr fun K52 hK52 => ?_
 refine s0 (rd_move' rfl) ?_
 refine s0 (rd_bin' rfl rfl eg_int ru_gtr) ?_
 refine s0 (rd_assign' rfl) ?_
 refine nk hK52 ?_
 refine cx_retc' ?_
 replace hp := Option.some.inj hp
 subst hp
 refine tx_pick' (L' := [(6, (Vb (decide (0 < a1))))]) (H' := []) [] (sub_cons rfl sub_nil) (by decide) pick_nil ?_
 exact tx_ret1' Try.results43 rfl () (rv_tmp' rfl) (List.Sublist.refl _)

def laws_wide_j5 (k : Nat) (x5 : Bool) : Option (Bool) :=
 some x5
def laws_wide_j4 (k : Nat) (a1 : List Nat) (x4 : Bool) : Option (Bool) :=
 br x4
  ((spec_Grid k ([a1]) (a1.length : Int) 4652218415073722368) >>= fun r34 =>
  laws_wide_j5 k r34)
  (laws_wide_j5 k false)
def laws_wide_j3 (k : Nat) (a0 : List (List Nat)) (a1 : List Nat) (x3 : Bool) : Option (Bool) :=
 br x3
  ((spec_Grid k a0 (a1.length : Int) 4652218415073722368) >>= fun r27 =>
  laws_wide_j4 k a1 r27)
  (laws_wide_j4 k a1 false)
def laws_wide_j2 (k : Nat) (a0 : List (List Nat)) (a1 : List Nat) (x2 : Bool) : Option (Bool) :=
 br x2
  (laws_wide_j3 k a0 a1 (decide ((a1.length : Int) ≤ 6)))
  (laws_wide_j3 k a0 a1 false)
def laws_wide_j1 (k : Nat) (a0 : List (List Nat)) (a1 : List Nat) (x1 : Bool) : Option (Bool) :=
 br x1
  (laws_wide_j2 k a0 a1 (decide (0 < (a1.length : Int))))
  (laws_wide_j2 k a0 a1 false)
def laws_wide (k : Nat) (a0 : List (List Nat)) (a1 : List Nat) : Option (Bool) :=
 br (decide (0 < (a0.length : Int)))
  (laws_wide_j1 k a0 a1 (decide ((a0.length : Int) ≤ 100)))
  (laws_wide_j1 k a0 a1 false)

theorem laws_wide_sim {k : Nat}  (a0 : List (List Nat)) (a1 : List Nat) {out : Bool} (hp : laws_wide k a0 a1 = some out) : Sx.Fn Try.prog 35 [(Sl (Kl Kf) a0), (Sl Kf a1)] [] (fun w : Unit => (Vb out)) (fun w => []) := by
 unfold laws_wide at hp
 refine fn_of Try.func35 rfl Try.ntmps35 rfl fun E hM => ?_
 refine cr fun K1 hK1 => ?_
 refine s0 (rd_assign' rfl) ?_
 refine nk hK1 ?_
 refine cr fun K2 hK2 => ?_
 refine s0 (rd_move' rfl) ?_
 refine s0 (rd_len' rfl Try.underlying26) ?_
 refine s0 (rd_bin' rfl rfl eg_int ru_gtr) ?_
 refine s0 (rd_move' rfl) ?_
 refine sx_cutn' 4 (fun (v1 : Bool) => (⟨36, [], [(0, (Sl (Kl Kf) a0)), (1, (Sl Kf a1)), (12, (Vb v1))], []⟩ : St)) (fun (v1 : Bool) => laws_wide_j1 k a0 a1 v1 = some out) ?_ ?_
 ·rintro x1 hp
  replace hp : laws_wide_j1 k a0 a1 x1 = some out := hp
  unfold laws_wide_j1 at hp
  refine s0 (rd_move' rfl) ?_
  refine sx_cutn' 4 (fun (v2 : Bool) => (⟨36, [], [(0, (Sl (Kl Kf) a0)), (1, (Sl Kf a1)), (17, (Vb v2))], []⟩ : St)) (fun (v2 : Bool) => laws_wide_j2 k a0 a1 v2 = some out) ?_ ?_
  ·rintro x2 hp
   replace hp : laws_wide_j2 k a0 a1 x2 = some out := hp
   unfold laws_wide_j2 at hp
   refine s0 (rd_move' rfl) ?_
   refine sx_cutn' 4 (fun (v3 : Bool) => (⟨36, [], [(0, (Sl (Kl Kf) a0)), (1, (Sl Kf a1)), (22, (Vb v3))], []⟩ : St)) (fun (v3 : Bool) => laws_wide_j3 k a0 a1 v3 = some out) ?_ ?_
   ·rintro x3 hp
    replace hp : laws_wide_j3 k a0 a1 x3 = some out := hp
    unfold laws_wide_j3 at hp
    refine s0 (rd_move' rfl) ?_
    refine sx_cutn' 5 (fun (v4 : Bool) => (⟨36, [], [(1, (Sl Kf a1)), (28, (Vb v4))], []⟩ : St)) (fun (v4 : Bool) => laws_wide_j4 k a1 v4 = some out) ?_ ?_
    ·rintro x4 hp
     replace hp : laws_wide_j4 k a1 x4 = some out := hp
     unfold laws_wide_j4 at hp
     refine s0 (rd_move' rfl) ?_
     refine sx_cutn' 6 (fun (v5 : Bool) => (⟨36, [], [(35, (Vb v5))], []⟩ : St)) (fun (v5 : Bool) => laws_wide_j5 k v5 = some out) ?_ ?_
     ·rintro x5 hp
      replace hp : laws_wide_j5 k x5 = some out := hp
      unfold laws_wide_j5 at hp
      refine s0 (rd_assign' rfl) ?_
      refine nk hK2 ?_
      refine cx_retc' ?_
      replace hp := Option.some.inj hp
      subst hp
      refine tx_pick' (L' := [(4, (Vb x5))]) (H' := []) [] (sub_cons rfl sub_nil) (by decide) pick_nil ?_
      exact tx_ret1' Try.results35 rfl () (rv_tmp' rfl) (List.Sublist.refl _)
     intro K7 hK7
     rcases br_cases hp with ⟨h5, hp⟩ | ⟨h5, hp⟩
     ·refine sx_rd' (rd_move' rfl) rfl rfl (wt_is' (wt_guard' rfl rfl rfl) (beq_tt h5)) ?_
      refine sx_ox' (ox_rowlit' (K := (Kl Kf)) (xs := [a1]) (qs := [(0, [(Sl Kf a1)])]) ⟨rfl, ⟨_, rfl, (lv_sl _ _)⟩, trivial⟩ Try.underlying26 info25 rfl rfl rfl rfl rfl (by kernel_rfl) rfl rfl rfl) (wt_is' (wt_guard' rfl rfl rfl) (beq_tt h5)) fun g31 => ?_
      refine sx_rd' (rd_move' rfl) rfl rfl (wt_is' (wt_guard' rfl rfl rfl) (beq_tt h5)) ?_
      refine sx_rd' (rd_len' rfl Try.underlying25) rfl rfl (wt_is' (wt_guard' rfl rfl rfl) (beq_tt h5)) ?_
      obtain ⟨r34, hr34, hp⟩ := bind_some hp
      refine sx_ox' (ox_brw' (frz_row 0 [(31, (Vl (Vs g31)), (Sl (Kl Kf) ([a1])))] (K := (Kl Kf)) (xs := [a1]) (by decide) rfl ⟨⟨rfl, frz_it⟩, trivial⟩ (H' := []) frzH_refl) (ent_fn' Try.func43 isn43 rfl rfl) (spec_Grid_sim _ _ _ hr34 : Sx.Fn Try.prog 43 [(Sl (Kl Kf) ([a1])), (Vi (a1.length : Int)), (Vg 4652218415073722368)] [] (fun x : Unit => (Vb r34)) (fun x => [])) pu_vl rfl rfl) (wt_is' (wt_guard' rfl rfl rfl) (beq_tt h5)) fun ⟨⟩ => ?_
      refine s0 (rd_pick_true' rfl h5 rfl) ?_
      refine sx_nil' ?_
      show TX E K7 _
      exact tx_pick' [] (sub_cons rfl sub_nil) (by decide) pick_nil (hK7 r34 hp)
     refine sx_skip' rfl rfl (wt_is' (wt_guard' rfl rfl rfl) (beq_ft h5)) ?_
     refine sx_skip' rfl rfl (wt_is' (wt_guard' rfl rfl rfl) (beq_ft h5)) ?_
     refine sx_skip' rfl rfl (wt_is' (wt_guard' rfl rfl rfl) (beq_ft h5)) ?_
     refine sx_skip' rfl rfl (wt_is' (wt_guard' rfl rfl rfl) (beq_ft h5)) ?_
     refine sx_skip' rfl rfl (wt_is' (wt_guard' rfl rfl rfl) (beq_ft h5)) ?_
     refine s0 (rd_pick_false' rfl h5 rfl) ?_
     refine sx_nil' ?_
     show TX E K7 _
     exact tx_pick' [] (sub_cons rfl sub_nil) (by decide) pick_nil (hK7 false hp)
    intro K6 hK6
    rcases br_cases hp with ⟨h4, hp⟩ | ⟨h4, hp⟩
    ·refine sx_rd' (rd_move' rfl) rfl rfl (wt_is' (wt_guard' rfl rfl rfl) (beq_tt h4)) ?_
     refine sx_rd' (rd_move' rfl) rfl rfl (wt_is' (wt_guard' rfl rfl rfl) (beq_tt h4)) ?_
     refine sx_rd' (rd_len' rfl Try.underlying25) rfl rfl (wt_is' (wt_guard' rfl rfl rfl) (beq_tt h4)) ?_
     obtain ⟨r27, hr27, hp⟩ := bind_some hp
     refine sx_ox' (ox_calln' (ent_fn' Try.func43 isn43 rfl rfl) (spec_Grid_sim _ _ _ hr27 : Sx.Fn Try.prog 43 [(Sl (Kl Kf) a0), (Vi (a1.length : Int)), (Vg 4652218415073722368)] [] (fun x : Unit => (Vb r27)) (fun x => [])) (Hn := fun x : Unit => []) (fun _ => rfl) rfl rfl) (wt_is' (wt_guard' rfl rfl rfl) (beq_tt h4)) fun ⟨⟩ => ?_
     refine s0 (rd_pick_true' rfl h4 rfl) ?_
     refine sx_nil' ?_
     show TX E K6 _
     exact tx_pick' [] (sub_cons rfl (sub_cons rfl sub_nil)) (by decide) pick_nil (hK6 r27 hp)
    refine sx_skip' rfl rfl (wt_is' (wt_guard' rfl rfl rfl) (beq_ft h4)) ?_
    refine sx_skip' rfl rfl (wt_is' (wt_guard' rfl rfl rfl) (beq_ft h4)) ?_
    refine sx_skip' rfl rfl (wt_is' (wt_guard' rfl rfl rfl) (beq_ft h4)) ?_
    refine sx_skip' rfl rfl (wt_is' (wt_guard' rfl rfl rfl) (beq_ft h4)) ?_
    refine s0 (rd_pick_false' rfl h4 rfl) ?_
    refine sx_nil' ?_
    show TX E K6 _
    exact tx_pick' [] (sub_cons rfl (sub_cons rfl sub_nil)) (by decide) pick_nil (hK6 false hp)
   intro K5 hK5
   rcases br_cases hp with ⟨h3, hp⟩ | ⟨h3, hp⟩
   ·refine sx_rd' (rd_move' rfl) rfl rfl (wt_is' (wt_guard' rfl rfl rfl) (beq_tt h3)) ?_
    refine sx_rd' (rd_len' rfl Try.underlying25) rfl rfl (wt_is' (wt_guard' rfl rfl rfl) (beq_tt h3)) ?_
    refine sx_rd' (rd_bin' rfl rfl eg_int ru_leq) rfl rfl (wt_is' (wt_guard' rfl rfl rfl) (beq_tt h3)) ?_
    refine s0 (rd_pick_true' rfl h3 rfl) ?_
    refine sx_nil' ?_
    show TX E K5 _
    exact tx_pick' [] (sub_cons rfl (sub_cons rfl (sub_cons rfl sub_nil))) (by decide) pick_nil (hK5 (decide ((a1.length : Int) ≤ 6)) hp)
   refine sx_skip' rfl rfl (wt_is' (wt_guard' rfl rfl rfl) (beq_ft h3)) ?_
   refine sx_skip' rfl rfl (wt_is' (wt_guard' rfl rfl rfl) (beq_ft h3)) ?_
   refine sx_skip' rfl rfl (wt_is' (wt_guard' rfl rfl rfl) (beq_ft h3)) ?_
   refine s0 (rd_pick_false' rfl h3 rfl) ?_
   refine sx_nil' ?_
   show TX E K5 _
   exact tx_pick' [] (sub_cons rfl (sub_cons rfl (sub_cons rfl sub_nil))) (by decide) pick_nil (hK5 false hp)
  intro K4 hK4
  rcases br_cases hp with ⟨h2, hp⟩ | ⟨h2, hp⟩
  ·refine sx_rd' (rd_move' rfl) rfl rfl (wt_is' (wt_guard' rfl rfl rfl) (beq_tt h2)) ?_
   refine sx_rd' (rd_len' rfl Try.underlying25) rfl rfl (wt_is' (wt_guard' rfl rfl rfl) (beq_tt h2)) ?_
   refine sx_rd' (rd_bin' rfl rfl eg_int ru_gtr) rfl rfl (wt_is' (wt_guard' rfl rfl rfl) (beq_tt h2)) ?_
   refine s0 (rd_pick_true' rfl h2 rfl) ?_
   refine sx_nil' ?_
   show TX E K4 _
   exact tx_pick' [] (sub_cons rfl (sub_cons rfl (sub_cons rfl sub_nil))) (by decide) pick_nil (hK4 (decide (0 < (a1.length : Int))) hp)
  refine sx_skip' rfl rfl (wt_is' (wt_guard' rfl rfl rfl) (beq_ft h2)) ?_
  refine sx_skip' rfl rfl (wt_is' (wt_guard' rfl rfl rfl) (beq_ft h2)) ?_
  refine sx_skip' rfl rfl (wt_is' (wt_guard' rfl rfl rfl) (beq_ft h2)) ?_
  refine s0 (rd_pick_false' rfl h2 rfl) ?_
  refine sx_nil' ?_
  show TX E K4 _
  exact tx_pick' [] (sub_cons rfl (sub_cons rfl (sub_cons rfl sub_nil))) (by decide) pick_nil (hK4 false hp)
 intro K3 hK3
 rcases br_cases hp with ⟨h1, hp⟩ | ⟨h1, hp⟩
 ·refine sx_rd' (rd_move' rfl) rfl rfl (wt_is' (wt_guard' rfl rfl rfl) (beq_tt h1)) ?_
  refine sx_rd' (rd_len' rfl Try.underlying26) rfl rfl (wt_is' (wt_guard' rfl rfl rfl) (beq_tt h1)) ?_
  refine sx_rd' (rd_bin' rfl rfl eg_int ru_leq) rfl rfl (wt_is' (wt_guard' rfl rfl rfl) (beq_tt h1)) ?_
  refine s0 (rd_pick_true' rfl h1 rfl) ?_
  refine sx_nil' ?_
  show TX E K3 _
  exact tx_pick' [] (sub_cons rfl (sub_cons rfl (sub_cons rfl sub_nil))) (by decide) pick_nil (hK3 (decide ((a0.length : Int) ≤ 100)) hp)
 refine sx_skip' rfl rfl (wt_is' (wt_guard' rfl rfl rfl) (beq_ft h1)) ?_
 refine sx_skip' rfl rfl (wt_is' (wt_guard' rfl rfl rfl) (beq_ft h1)) ?_
 refine sx_skip' rfl rfl (wt_is' (wt_guard' rfl rfl rfl) (beq_ft h1)) ?_
 refine s0 (rd_pick_false' rfl h1 rfl) ?_
 refine sx_nil' ?_
 show TX E K3 _
 exact tx_pick' [] (sub_cons rfl (sub_cons rfl (sub_cons rfl sub_nil))) (by decide) pick_nil (hK3 false hp)

def laws_vp_j5 (k : Nat) (x5 : Bool) : Option (Bool) :=
 some x5
def laws_vp_j4 (k : Nat) (a0 : List ((List Nat) × Nat × Int × Int)) (a1 : Int) (a2 : List Nat) (x4 : Bool) : Option (Bool) :=
 br x4
  (some false)
  ((spec_VPoints k a0 a1) >>= fun r36 =>
  br (decide ((r36.length : Int) = (a0.length : Int)))
   ((laws_wide k r36 a2) >>= fun r45 =>
   laws_vp_j5 k r45)
   (laws_vp_j5 k false))
def laws_vp_j3 (k : Nat) (a0 : List ((List Nat) × Nat × Int × Int)) (a1 : Int) (a2 : List Nat) (x3 : Bool) : Option (Bool) :=
 br x3
  (laws_vp_j4 k a0 a1 a2 true)
  ((spec_IsV k a0 a1 (a2.length : Int)) >>= fun r31 =>
  laws_vp_j4 k a0 a1 a2 (!r31))
def laws_vp_j2 (k : Nat) (a0 : List ((List Nat) × Nat × Int × Int)) (a1 : Int) (a2 : List Nat) (x2 : Bool) : Option (Bool) :=
 br x2
  (laws_vp_j3 k a0 a1 a2 true)
  (laws_vp_j3 k a0 a1 a2 (decide (6 < (a2.length : Int))))
def laws_vp_j1 (k : Nat) (a0 : List ((List Nat) × Nat × Int × Int)) (a1 : Int) (a2 : List Nat) (x1 : Bool) : Option (Bool) :=
 br x1
  (laws_vp_j2 k a0 a1 a2 true)
  (laws_vp_j2 k a0 a1 a2 (decide ((a2.length : Int) < 1)))
def laws_vp (k : Nat) (a0 : List ((List Nat) × Nat × Int × Int)) (a1 : Int) (a2 : List Nat) : Option (Bool) :=
 br (decide ((a0.length : Int) < 1))
  (laws_vp_j1 k a0 a1 a2 true)
  (laws_vp_j1 k a0 a1 a2 (decide (100 < (a0.length : Int))))

theorem laws_vp_sim {k : Nat}  (a0 : List ((List Nat) × Nat × Int × Int)) (a1 : Int) (a2 : List Nat) {out : Bool} (hp : laws_vp k a0 a1 a2 = some out) : Sx.Fn Try.prog 9 [(Sl KT35 a0), (Vi a1), (Sl Kf a2)] [] (fun w : Unit => (Vb out)) (fun w => []) := by
 unfold laws_vp at hp
 refine fn_of Try.func9 rfl Try.ntmps9 rfl fun E hM => ?_
 refine cr fun K1 hK1 => ?_
 refine s0 (rd_assign' rfl) ?_
 refine nk hK1 ?_
 refine cx_seq' fun K2 hK2 => ?_
 refine cr fun K3 hK3 => ?_
 refine s0 (rd_move' rfl) ?_
 refine s0 (rd_len' rfl Try.underlying22) ?_
 refine s0 (rd_bin' rfl rfl eg_int ru_lss) ?_
 refine s0 (rd_move' rfl) ?_
 refine sx_cutn' 4 (fun (v1 : Bool) => (⟨47, [], [(0, (Sl KT35 a0)), (1, (Vi a1)), (2, (Sl Kf a2)), (15, (Vb v1))], []⟩ : St)) (fun (v1 : Bool) => laws_vp_j1 k a0 a1 a2 v1 = some out) ?_ ?_
 ·rintro x1 hp
  replace hp : laws_vp_j1 k a0 a1 a2 x1 = some out := hp
  unfold laws_vp_j1 at hp
  refine s0 (rd_move' rfl) ?_
  refine sx_cutn' 4 (fun (v2 : Bool) => (⟨47, [], [(0, (Sl KT35 a0)), (1, (Vi a1)), (2, (Sl Kf a2)), (20, (Vb v2))], []⟩ : St)) (fun (v2 : Bool) => laws_vp_j2 k a0 a1 a2 v2 = some out) ?_ ?_
  ·rintro x2 hp
   replace hp : laws_vp_j2 k a0 a1 a2 x2 = some out := hp
   unfold laws_vp_j2 at hp
   refine s0 (rd_move' rfl) ?_
   refine sx_cutn' 4 (fun (v3 : Bool) => (⟨47, [], [(0, (Sl KT35 a0)), (1, (Vi a1)), (2, (Sl Kf a2)), (25, (Vb v3))], []⟩ : St)) (fun (v3 : Bool) => laws_vp_j3 k a0 a1 a2 v3 = some out) ?_ ?_
   ·rintro x3 hp
    replace hp : laws_vp_j3 k a0 a1 a2 x3 = some out := hp
    unfold laws_vp_j3 at hp
    refine s0 (rd_move' rfl) ?_
    refine sx_cutn' 7 (fun (v4 : Bool) => (⟨47, [], [(0, (Sl KT35 a0)), (1, (Vi a1)), (2, (Sl Kf a2)), (33, (Vb v4))], []⟩ : St)) (fun (v4 : Bool) => laws_vp_j4 k a0 a1 a2 v4 = some out) ?_ ?_
    ·rintro x4 hp
     replace hp : laws_vp_j4 k a0 a1 a2 x4 = some out := hp
     unfold laws_vp_j4 at hp
     refine nk hK3 ?_
     refine cx_cond' rfl (fun h5 => ?_) (fun h5 => ?_)
     ·replace hp := (br_t h5).symm.trans hp
      refine cr fun K8 hK8 => ?_
      refine s0 (rd_assign' rfl) ?_
      refine nk hK8 ?_
      refine cx_retc' ?_
      replace hp := Option.some.inj hp
      subst hp
      refine tx_pick' (L' := [(6, (Vb false))]) (H' := []) [] (sub_cons rfl sub_nil) (by decide) pick_nil ?_
      exact tx_ret1' Try.results9 rfl () (rv_tmp' rfl) (List.Sublist.refl _)
     replace hp := (br_f h5).symm.trans hp
     refine cx_skip' ?_
     show TX E K2 _
     refine tx_k' hK2 ?_
     refine cr fun K9 hK9 => ?_
     refine s0 (rd_move' rfl) ?_
     refine s0 (rd_move' rfl) ?_
     obtain ⟨r36, hr36, hp⟩ := bind_some hp
     refine sx_ox' (ox_calln' (ent_fn' Try.func34 isn34 rfl rfl) (spec_VPoints_sim _ _ hr36 : Sx.Fn Try.prog 34 [(Sl KT35 a0), (Vi a1)] [] (fun x : Unit => (Sl (Kl Kf) r36)) (fun x => [])) (Hn := fun x : Unit => []) (fun _ => rfl) rfl rfl) (wt_none' rfl) fun ⟨⟩ => ?_
     refine s0 (rd_assign' rfl) ?_
     refine nk hK9 ?_
     refine cr fun K10 hK10 => ?_
     refine s0 (rd_move' rfl) ?_
     refine s0 (rd_len' rfl Try.underlying26) ?_
     refine s0 (rd_move' rfl) ?_
     refine s0 (rd_len' rfl Try.underlying22) ?_
     refine s0 (rd_bin' rfl rfl eg_int ru_eql) ?_
     refine s0 (rd_move' rfl) ?_
     refine sx_cutn' 4 (fun (v5 : Bool) => (⟨47, [], [(46, (Vb v5))], []⟩ : St)) (fun (v5 : Bool) => laws_vp_j5 k v5 = some out) ?_ ?_
     ·rintro x5 hp
      replace hp : laws_vp_j5 k x5 = some out := hp
      unfold laws_vp_j5 at hp
      refine s0 (rd_assign' rfl) ?_
      refine nk hK10 ?_
      refine cx_retc' ?_
      replace hp := Option.some.inj hp
      subst hp
      refine tx_pick' (L' := [(6, (Vb x5))]) (H' := []) [] (sub_cons rfl sub_nil) (by decide) pick_nil ?_
      exact tx_ret1' Try.results9 rfl () (rv_tmp' rfl) (List.Sublist.refl _)
     intro K11 hK11
     rcases br_cases hp with ⟨h6, hp⟩ | ⟨h6, hp⟩
     ·refine sx_rd' (rd_move' rfl) rfl rfl (wt_is' (wt_guard' rfl rfl rfl) (beq_tt h6)) ?_
      refine sx_rd' (rd_move' rfl) rfl rfl (wt_is' (wt_guard' rfl rfl rfl) (beq_tt h6)) ?_
      obtain ⟨r45, hr45, hp⟩ := bind_some hp
      refine sx_ox' (ox_calln' (ent_fn' Try.func35 isn35 rfl rfl) (laws_wide_sim _ _ hr45 : Sx.Fn Try.prog 35 [(Sl (Kl Kf) r36), (Sl Kf a2)] [] (fun x : Unit => (Vb r45)) (fun x => [])) (Hn := fun x : Unit => []) (fun _ => rfl) rfl rfl) (wt_is' (wt_guard' rfl rfl rfl) (beq_tt h6)) fun ⟨⟩ => ?_
      refine s0 (rd_pick_true' rfl h6 rfl) ?_
      refine sx_nil' ?_
      show TX E K11 _
      exact tx_pick' [] (sub_cons rfl sub_nil) (by decide) pick_nil (hK11 r45 hp)
     refine sx_skip' rfl rfl (wt_is' (wt_guard' rfl rfl rfl) (beq_ft h6)) ?_
     refine sx_skip' rfl rfl (wt_is' (wt_guard' rfl rfl rfl) (beq_ft h6)) ?_
     refine sx_skip' rfl rfl (wt_is' (wt_guard' rfl rfl rfl) (beq_ft h6)) ?_
     refine s0 (rd_pick_false' rfl h6 rfl) ?_
     refine sx_nil' ?_
     show TX E K11 _
     exact tx_pick' [] (sub_cons rfl sub_nil) (by decide) pick_nil (hK11 false hp)
    intro K7 hK7
    rcases br_cases hp with ⟨h4, hp⟩ | ⟨h4, hp⟩
    ·refine sx_skip' rfl rfl (wt_is' (wt_guard' rfl rfl rfl) (beq_tf h4)) ?_
     refine sx_skip' rfl rfl (wt_is' (wt_guard' rfl rfl rfl) (beq_tf h4)) ?_
     refine sx_skip' rfl rfl (wt_is' (wt_guard' rfl rfl rfl) (beq_tf h4)) ?_
     refine sx_skip' rfl rfl (wt_is' (wt_guard' rfl rfl rfl) (beq_tf h4)) ?_
     refine sx_skip' rfl rfl (wt_is' (wt_guard' rfl rfl rfl) (beq_tf h4)) ?_
     refine sx_skip' rfl rfl (wt_is' (wt_guard' rfl rfl rfl) (beq_tf h4)) ?_
     refine s0 (rd_pick_true' rfl h4 rfl) ?_
     refine sx_nil' ?_
     show TX E K7 _
     exact tx_pick' [] (sub_cons rfl (sub_cons rfl (sub_cons rfl (sub_cons rfl sub_nil)))) (by decide) pick_nil (hK7 true hp)
    refine sx_rd' (rd_move' rfl) rfl rfl (wt_is' (wt_guard' rfl rfl rfl) (beq_ff h4)) ?_
    refine sx_rd' (rd_move' rfl) rfl rfl (wt_is' (wt_guard' rfl rfl rfl) (beq_ff h4)) ?_
    refine sx_rd' (rd_move' rfl) rfl rfl (wt_is' (wt_guard' rfl rfl rfl) (beq_ff h4)) ?_
    refine sx_rd' (rd_len' rfl Try.underlying25) rfl rfl (wt_is' (wt_guard' rfl rfl rfl) (beq_ff h4)) ?_
    obtain ⟨r31, hr31, hp⟩ := bind_some hp
    refine sx_ox' (ox_calln' (ent_fn' Try.func33 isn33 rfl rfl) (spec_IsV_sim _ _ _ hr31 : Sx.Fn Try.prog 33 [(Sl KT35 a0), (Vi a1), (Vi (a2.length : Int))] [] (fun x : Unit => (Vb r31)) (fun x => [])) (Hn := fun x : Unit => []) (fun _ => rfl) rfl rfl) (wt_is' (wt_guard' rfl rfl rfl) (beq_ff h4)) fun ⟨⟩ => ?_
    refine sx_rd' (rd_un' rfl ru_not) rfl rfl (wt_is' (wt_guard' rfl rfl rfl) (beq_ff h4)) ?_
    refine s0 (rd_pick_false' rfl h4 rfl) ?_
    refine sx_nil' ?_
    show TX E K7 _
    exact tx_pick' [] (sub_cons rfl (sub_cons rfl (sub_cons rfl (sub_cons rfl sub_nil)))) (by decide) pick_nil (hK7 (!r31) hp)
   intro K6 hK6
   rcases br_cases hp with ⟨h3, hp⟩ | ⟨h3, hp⟩
   ·refine sx_skip' rfl rfl (wt_is' (wt_guard' rfl rfl rfl) (beq_tf h3)) ?_
    refine sx_skip' rfl rfl (wt_is' (wt_guard' rfl rfl rfl) (beq_tf h3)) ?_
    refine sx_skip' rfl rfl (wt_is' (wt_guard' rfl rfl rfl) (beq_tf h3)) ?_
    refine s0 (rd_pick_true' rfl h3 rfl) ?_
    refine sx_nil' ?_
    show TX E K6 _
    exact tx_pick' [] (sub_cons rfl (sub_cons rfl (sub_cons rfl (sub_cons rfl sub_nil)))) (by decide) pick_nil (hK6 true hp)
   refine sx_rd' (rd_move' rfl) rfl rfl (wt_is' (wt_guard' rfl rfl rfl) (beq_ff h3)) ?_
   refine sx_rd' (rd_len' rfl Try.underlying25) rfl rfl (wt_is' (wt_guard' rfl rfl rfl) (beq_ff h3)) ?_
   refine sx_rd' (rd_bin' rfl rfl eg_int ru_gtr) rfl rfl (wt_is' (wt_guard' rfl rfl rfl) (beq_ff h3)) ?_
   refine s0 (rd_pick_false' rfl h3 rfl) ?_
   refine sx_nil' ?_
   show TX E K6 _
   exact tx_pick' [] (sub_cons rfl (sub_cons rfl (sub_cons rfl (sub_cons rfl sub_nil)))) (by decide) pick_nil (hK6 (decide (6 < (a2.length : Int))) hp)
  intro K5 hK5
  rcases br_cases hp with ⟨h2, hp⟩ | ⟨h2, hp⟩
  ·refine sx_skip' rfl rfl (wt_is' (wt_guard' rfl rfl rfl) (beq_tf h2)) ?_
   refine sx_skip' rfl rfl (wt_is' (wt_guard' rfl rfl rfl) (beq_tf h2)) ?_
   refine sx_skip' rfl rfl (wt_is' (wt_guard' rfl rfl rfl) (beq_tf h2)) ?_
   refine s0 (rd_pick_true' rfl h2 rfl) ?_
   refine sx_nil' ?_
   show TX E K5 _
   exact tx_pick' [] (sub_cons rfl (sub_cons rfl (sub_cons rfl (sub_cons rfl sub_nil)))) (by decide) pick_nil (hK5 true hp)
  refine sx_rd' (rd_move' rfl) rfl rfl (wt_is' (wt_guard' rfl rfl rfl) (beq_ff h2)) ?_
  refine sx_rd' (rd_len' rfl Try.underlying25) rfl rfl (wt_is' (wt_guard' rfl rfl rfl) (beq_ff h2)) ?_
  refine sx_rd' (rd_bin' rfl rfl eg_int ru_lss) rfl rfl (wt_is' (wt_guard' rfl rfl rfl) (beq_ff h2)) ?_
  refine s0 (rd_pick_false' rfl h2 rfl) ?_
  refine sx_nil' ?_
  show TX E K5 _
  exact tx_pick' [] (sub_cons rfl (sub_cons rfl (sub_cons rfl (sub_cons rfl sub_nil)))) (by decide) pick_nil (hK5 (decide ((a2.length : Int) < 1)) hp)
 intro K4 hK4
 rcases br_cases hp with ⟨h1, hp⟩ | ⟨h1, hp⟩
 ·refine sx_skip' rfl rfl (wt_is' (wt_guard' rfl rfl rfl) (beq_tf h1)) ?_
  refine sx_skip' rfl rfl (wt_is' (wt_guard' rfl rfl rfl) (beq_tf h1)) ?_
  refine sx_skip' rfl rfl (wt_is' (wt_guard' rfl rfl rfl) (beq_tf h1)) ?_
  refine s0 (rd_pick_true' rfl h1 rfl) ?_
  refine sx_nil' ?_
  show TX E K4 _
  exact tx_pick' [] (sub_cons rfl (sub_cons rfl (sub_cons rfl (sub_cons rfl sub_nil)))) (by decide) pick_nil (hK4 true hp)
 refine sx_rd' (rd_move' rfl) rfl rfl (wt_is' (wt_guard' rfl rfl rfl) (beq_ff h1)) ?_
 refine sx_rd' (rd_len' rfl Try.underlying22) rfl rfl (wt_is' (wt_guard' rfl rfl rfl) (beq_ff h1)) ?_
 refine sx_rd' (rd_bin' rfl rfl eg_int ru_gtr) rfl rfl (wt_is' (wt_guard' rfl rfl rfl) (beq_ff h1)) ?_
 refine s0 (rd_pick_false' rfl h1 rfl) ?_
 refine sx_nil' ?_
 show TX E K4 _
 exact tx_pick' [] (sub_cons rfl (sub_cons rfl (sub_cons rfl (sub_cons rfl sub_nil)))) (by decide) pick_nil (hK4 (decide (100 < (a0.length : Int))) hp)

def impl_floats (k : Nat) (a0 : List Nat) : Option ((List Nat)) :=
 (apd 8 [] a0) >>= fun r4 =>
 some r4

theorem impl_floats_sim {k : Nat}  (a0 : List Nat) {out : (List Nat)} (hp : impl_floats k a0 = some out) : Sx.Fn Try.prog 40 [(Sl Kf a0)] [] (fun w : Unit => (Sl Kf out)) (fun w => []) := by
 unfold impl_floats at hp
 refine fn_of Try.func40 rfl Try.ntmps40 rfl fun E hM => ?_
 refine cr fun K1 hK1 => ?_
 refine s0 (rd_assign' rfl) ?_
 refine nk hK1 ?_
 refine cr fun K2 hK2 => ?_
 refine s0 (rd_move' rfl) ?_
 refine tx_nilrow' Kf 33 ?_
 obtain ⟨r4, hr4, hp⟩ := bind_some hp
 refine sx_ox' (ox_append' (K := Kf) (i := 0) (xs := []) (ys := a0) rfl rfl rfl (sr_sl' rfl Try.underlying25) hr4 Try.underlying25 info33 rfl rfl rfl (H' := []) rfl) (wt_none' rfl) fun g4 => ?_
 refine s0 (rd_assign' rfl) ?_
 refine nk hK2 ?_
 refine cx_retc' ?_
 replace hp := Option.some.inj hp
 subst hp
 refine tx_fz' (frz_row 0 [(2, (Vl (Vs g4)), (Sl Kf r4)), (4, (Vl (Vs g4)), (Sl Kf r4))] (K := Kf) (xs := r4) (by decide) rfl ⟨⟨rfl, frz_it⟩, ⟨rfl, frz_it⟩, trivial⟩ (H' := []) frzH_refl) ?_
 refine tx_pick' (L' := [(2, (Sl Kf r4))]) (H' := []) [] (sub_cons rfl sub_nil) (by decide) pick_nil ?_
 exact tx_ret1' Try.results40 rfl () (rv_tmp' rfl) (List.Sublist.refl _)

def impl_vnode_j3 (k : Nat) (r21 : (List Nat)) (r17 : (List Nat) × Nat × Int × Int) (x3 : G139) (x4 : G139) : Option (G139) :=
 some (G139.c1 (G73.c0 r21) r17.2.1 x3 x4)
def impl_vnode_j2 (k : Nat) (a1 : Int) (r17 : (List Nat) × Nat × Int × Int) (recf : (List ((List Nat) × Nat × Int × Int)) → Int → Option (G139)) (a0 : List ((List Nat) × Nat × Int × Int)) (r21 : (List Nat)) (x3 : G139) : Option (G139) :=
 br (decide (a1 < r17.2.2.2))
  ((recf a0 r17.2.2.2) >>= fun r46 =>
  impl_vnode_j3 k r21 r17 x3 r46)
  (impl_vnode_j3 k r21 r17 x3 G139.c0)
def impl_vnode_j1 (k : Nat) (a0 : List ((List Nat) × Nat × Int × Int)) (a1 : Int) (recf : (List ((List Nat) × Nat × Int × Int)) → Int → Option (G139)) (x1 : Bool) : Option (G139) :=
 br x1
  (some G139.c0)
  ((idx a0 a1) >>= fun r17 =>
  (impl_floats k r17.1) >>= fun r21 =>
  br (decide (a1 < r17.2.2.1))
   ((recf a0 r17.2.2.1) >>= fun r35 =>
   impl_vnode_j2 k a1 r17 recf a0 r21 r35)
   (impl_vnode_j2 k a1 r17 recf a0 r21 G139.c0))
def impl_vnode_b (recf : (List ((List Nat) × Nat × Int × Int)) → Int → Option (G139)) (k : Nat) (a0 : List ((List Nat) × Nat × Int × Int)) (a1 : Int) : Option (G139) :=
 br (decide (a1 < 0))
  (impl_vnode_j1 k a0 a1 recf true)
  (impl_vnode_j1 k a0 a1 recf (decide ((a0.length : Int) ≤ a1)))
def impl_vnode : Nat → (List ((List Nat) × Nat × Int × Int)) → Int → Option (G139)
 | 0 => fun _ _ => none
 | k + 1 => fun a0 a1 => impl_vnode_b (impl_vnode k) k a0 a1

theorem impl_vnode_b_sim {recf : (List ((List Nat) × Nat × Int × Int)) → Int → Option (G139)} (hrec : ∀  (a0 : List ((List Nat) × Nat × Int × Int)) (a1 : Int) (out : G139), recf a0 a1 = some out → Sx.Fn Try.prog 79 [(Sl KT35 a0), (Vi a1)] [] (fun w : Unit => (SG139 out)) (fun w => [])) {k : Nat}  (a0 : List ((List Nat) × Nat × Int × Int)) (a1 : Int) {out : G139} (hp : impl_vnode_b recf k a0 a1 = some out) : Sx.Fn Try.prog 79 [(Sl KT35 a0), (Vi a1)] [] (fun w : Unit => (SG139 out)) (fun w => []) := by
 unfold impl_vnode_b at hp
 refine fn_of Try.func79 rfl Try.ntmps79 rfl fun E hM => ?_
 refine cr fun K1 hK1 => ?_
 refine s0 (rd_assign' rfl) ?_
 refine nk hK1 ?_
 refine cx_seq' fun K2 hK2 => ?_
 refine cr fun K3 hK3 => ?_
 refine s0 (rd_move' rfl) ?_
 refine s0 (rd_bin' rfl rfl eg_int ru_lss) ?_
 refine s0 (rd_move' rfl) ?_
 refine sx_cutn' 5 (fun (v1 : Bool) => (⟨50, [], [(0, (Sl KT35 a0)), (1, (Vi a1)), (14, (Vb v1))], []⟩ : St)) (fun (v1 : Bool) => impl_vnode_j1 k a0 a1 recf v1 = some out) ?_ ?_
 ·rintro x1 hp
  replace hp : impl_vnode_j1 k a0 a1 recf x1 = some out := hp
  unfold impl_vnode_j1 at hp
  refine nk hK3 ?_
  refine cx_cond' rfl (fun h2 => ?_) (fun h2 => ?_)
  ·replace hp := (br_t h2).symm.trans hp
   refine cr fun K5 hK5 => ?_
   refine s0 (rd_assign' rfl) ?_
   refine nk hK5 ?_
   refine cx_retc' ?_
   replace hp := Option.some.inj hp
   subst hp
   refine tx_slot' 4 (y := (SG139 G139.c0)) rfl (imp_eq SG139_c0.symm) ?_
   refine tx_pick' (L' := [(4, (SG139 G139.c0))]) (H' := []) [] (sub_cons rfl sub_nil) (by decide) pick_nil ?_
   exact tx_ret1' Try.results79 rfl () (rv_tmp' rfl) (List.Sublist.refl _)
  replace hp := (br_f h2).symm.trans hp
  refine cx_skip' ?_
  show TX E K2 _
  refine tx_k' hK2 ?_
  refine cr fun K6 hK6 => ?_
  refine s0 (rd_move' rfl) ?_
  refine s0 (rd_move' rfl) ?_
  obtain ⟨r17, hr17, hp⟩ := bind_some hp
  refine s0 (rd_at' (K := KT35) rfl rfl hr17 Try.underlying22 info35) ?_
  refine s0 (rd_load_pt_agg' (nn := 4) rfl rfl agg35 (l' := [(Sl Kf r17.1), (Vg r17.2.1), (Vi r17.2.2.1), (Vi r17.2.2.2)]) rfl) ?_
  refine sx_ox' (ox_alloc' info35 rfl rfl rfl rfl (l := [Vn, (Vg 0), (Vi 0), (Vi 0)]) rfl) (wt_none' rfl) fun q5 => ?_
  refine sx_ox' (ox_store' (i := 0) (o := 0) rfl rfl (lv_ag _) ⟨rfl, rfl, rfl, rfl⟩ rfl info35 rfl (H' := [⟨.pointer (some q5), [(Sl Kf r17.1), (Vg r17.2.1), (Vi r17.2.2.1), (Vi r17.2.2.2)], 35, none⟩]) rfl) (wt_none' rfl) fun _ => ?_
  refine nk hK6 ?_
  refine cx_seq' fun K7 hK7 => ?_
  refine cx_plan' [] [] [(0, 1), (1, 1), (4, 1), (5, 1), (2, 0), (3, 1), (6, 1), (7, 0), (8, 1)] mixed (by kernel_rfl) ?_
  refine px_rd' rfl (rd_field0' rfl Try.underlying35 rfl info25 rfl) rfl rfl (wt_none' rfl) ?_
  refine px_rd' rfl (rd_load' (i := 0) (o := 0) rfl ⟨rfl, rfl, rfl, rfl⟩ rfl flat25) rfl rfl (wt_none' rfl) ?_
  refine px_rd' rfl (rd_field' (off := 1) rfl Try.underlying35 rfl info33 rfl) rfl rfl (wt_none' rfl) ?_
  refine px_rd' rfl (rd_load' (i := 0) (o := 1) rfl ⟨rfl, rfl, rfl, rfl⟩ rfl flat33) rfl rfl (wt_none' rfl) ?_
  obtain ⟨r21, hr21, hp⟩ := bind_some hp
  refine px_ox' rfl (ox_calln' (ent_fn' Try.func40 isn40 rfl rfl) (impl_floats_sim _ hr21 : Sx.Fn Try.prog 40 [(Sl Kf r17.1)] [] (fun x : Unit => (Sl Kf r21)) (fun x => [])) (Hn := fun x : Unit => [⟨.pointer (some q5), [(Sl Kf r17.1), (Vg r17.2.1), (Vi r17.2.2.1), (Vi r17.2.2.2)], 35, none⟩]) (fun _ => rfl) rfl rfl) rfl bs_nil (wt_none' rfl) fun ⟨⟩ => ?_
  refine px_rd' rfl (rd_iface' rfl ⟨_, Try.underlying75, fun _ h => (nomatch h)⟩) rfl rfl (wt_none' rfl) ?_
  refine px_rd' rfl (rd_build' (pls := [(0, 1), (1, 1), (2, 1), (3, 1)]) (qs := [(0, [(If 75 (Sl Kf r21))]), (1, [(Vg r17.2.1)])]) (r := [(If 75 (Sl Kf r21)), (Vg r17.2.1), (SG139 G139.c0), (SG139 G139.c0)]) ⟨rfl, ⟨_, rfl, (lv_if _ _)⟩, ⟨rfl, ⟨_, rfl, (lv_vl rfl rfl)⟩, trivial⟩⟩ Try.underlying199 has199 places199 info199 rfl rfl rfl) rfl rfl (wt_none' rfl) ?_
  refine px_ox' rfl (ox_box' rfl (lv_ag _) rfl rfl) rfl bs_nil (wt_none' rfl) fun q26 => ?_
  refine px_rd' rfl (rd_assign' rfl) rfl rfl (wt_none' rfl) ?_
  refine px_nil' ?_
  show TX E K7 _
  refine tx_k' hK7 ?_
  refine cx_join' (fun (v3 : G139) => (⟨50, [], [(0, (Sl KT35 a0)), (1, (Vi a1)), (5, (Vp q5)), (6, (Vp q26))], [⟨.pointer (some q5), [(Sl Kf r17.1), (Vg r17.2.1), (Vi r17.2.2.1), (Vi r17.2.2.2)], 35, none⟩, ⟨.pointer (some q26), [(If 75 (Sl Kf r21)), (Vg r17.2.1), (SG139 v3), (SG139 G139.c0)], 199, none⟩]⟩ : St)) (fun (v3 : G139) => impl_vnode_j2 k a1 r17 recf a0 r21 v3 = some out) ?_ ?_
  ·rintro x3 hp
   replace hp : impl_vnode_j2 k a1 r17 recf a0 r21 x3 = some out := hp
   unfold impl_vnode_j2 at hp
   refine cx_join' (fun (v4 : G139) => (⟨50, [], [(6, (Vp q26))], [⟨.pointer (some q26), [(If 75 (Sl Kf r21)), (Vg r17.2.1), (SG139 x3), (SG139 v4)], 199, none⟩]⟩ : St)) (fun (v4 : G139) => impl_vnode_j3 k r21 r17 x3 v4 = some out) ?_ ?_
   ·rintro x4 hp
    replace hp : impl_vnode_j3 k r21 r17 x3 x4 = some out := hp
    unfold impl_vnode_j3 at hp
    refine cr fun K12 hK12 => ?_
    refine s0 (rd_move' rfl) ?_
    refine s0 (rd_assign' rfl) ?_
    refine nk hK12 ?_
    refine cx_retc' ?_
    replace hp := Option.some.inj hp
    subst hp
    refine tx_cell' 0 0 (y := (SG73 (G73.c0 r21))) rfl rfl (imp_eq (SG73_c0 r21).symm) (H' := [⟨.pointer (some q26), [(SG73 (G73.c0 r21)), (Vg r17.2.1), (SG139 x3), (SG139 x4)], 199, none⟩]) rfl ?_
    refine tx_fz' (frz_var 0 [(6, (Vp q26), (Pt [(SG73 (G73.c0 r21)), (Vg r17.2.1), (SG139 x3), (SG139 x4)])), (49, (Vp q26), (Pt [(SG73 (G73.c0 r21)), (Vg r17.2.1), (SG139 x3), (SG139 x4)])), (4, (Vp q26), (Pt [(SG73 (G73.c0 r21)), (Vg r17.2.1), (SG139 x3), (SG139 x4)]))] rfl ⟨⟨rfl, frz_it⟩, ⟨rfl, frz_it⟩, ⟨rfl, frz_it⟩, trivial⟩ (H' := []) frzH_refl) ?_
    refine tx_slot' 4 (y := (SG139 (G139.c1 (G73.c0 r21) r17.2.1 x3 x4))) rfl (imp_eq (SG139_c1 (G73.c0 r21) r17.2.1 x3 x4).symm) ?_
    refine tx_pick' (L' := [(4, (SG139 (G139.c1 (G73.c0 r21) r17.2.1 x3 x4)))]) (H' := []) [] (sub_cons rfl sub_nil) (by decide) pick_nil ?_
    exact tx_ret1' Try.results79 rfl () (rv_tmp' rfl) (List.Sublist.refl _)
   intro K10 hK10
   refine cr fun K11 hK11 => ?_
   refine s0 (rd_field' (off := 3) rfl Try.underlying35 rfl info3 rfl) ?_
   refine s0 (rd_load' (i := 0) (o := 3) rfl ⟨rfl, rfl, rfl, rfl⟩ rfl flat3) ?_
   refine s0 (rd_move' rfl) ?_
   refine s0 (rd_bin' rfl rfl eg_int ru_gtr) ?_
   refine nk hK11 ?_
   refine cx_cond' rfl (fun h4 => ?_) (fun h4 => ?_)
   ·replace hp := (br_t h4).symm.trans hp
    refine cx_region' ?_
    refine s0 (rd_move' rfl) ?_
    refine s0 (rd_move' rfl) ?_
    refine s0 (rd_field' (off := 3) rfl Try.underlying35 rfl info3 rfl) ?_
    refine s0 (rd_load' (i := 0) (o := 3) rfl ⟨rfl, rfl, rfl, rfl⟩ rfl flat3) ?_
    obtain ⟨r46, hr46, hp⟩ := bind_some hp
    refine sx_ox' (ox_calln' (ent_fn' Try.func79 isn79 rfl rfl) (hrec _ _ _ hr46 : Sx.Fn Try.prog 79 [(Sl KT35 a0), (Vi r17.2.2.2)] [] (fun x : Unit => (SG139 r46)) (fun x => [])) (Hn := fun x : Unit => [⟨.pointer (some q5), [(Sl Kf r17.1), (Vg r17.2.1), (Vi r17.2.2.1), (Vi r17.2.2.2)], 35, none⟩, ⟨.pointer (some q26), [(If 75 (Sl Kf r21)), (Vg r17.2.1), (SG139 x3), (SG139 G139.c0)], 199, none⟩]) (fun _ => rfl) rfl rfl) (wt_none' rfl) fun ⟨⟩ => ?_
    refine s0 (rd_nilck' rfl) ?_
    refine s0 (rd_field' (off := 3) rfl Try.underlying199 rfl info139 rfl) ?_
    refine sx_ox' (ox_store' (i := 1) (o := 3) rfl rfl (SG139_lv r46) ⟨rfl, rfl, rfl, rfl⟩ rfl info139 rfl (H' := [⟨.pointer (some q5), [(Sl Kf r17.1), (Vg r17.2.1), (Vi r17.2.2.1), (Vi r17.2.2.2)], 35, none⟩, ⟨.pointer (some q26), [(If 75 (Sl Kf r21)), (Vg r17.2.1), (SG139 x3), (SG139 r46)], 199, none⟩]) rfl) (wt_none' rfl) fun _ => ?_
    refine sx_nil' ?_
    show TX E K10 _
    exact tx_pick' [1] (sub_cons rfl sub_nil) (by decide) (pick_cons rfl pick_nil) (hK10 r46 hp)
   replace hp := (br_f h4).symm.trans hp
   refine cx_skip' ?_
   show TX E K10 _
   exact tx_pick' [1] (sub_cons rfl sub_nil) (by decide) (pick_cons rfl pick_nil) (hK10 G139.c0 hp)
  intro K8 hK8
  refine cr fun K9 hK9 => ?_
  refine s0 (rd_field' (off := 2) rfl Try.underlying35 rfl info3 rfl) ?_
  refine s0 (rd_load' (i := 1) (o := 2) rfl ⟨rfl, rfl, rfl, rfl⟩ rfl flat3) ?_
  refine s0 (rd_move' rfl) ?_
  refine s0 (rd_bin' rfl rfl eg_int ru_gtr) ?_
  refine nk hK9 ?_
  refine cx_cond' rfl (fun h3 => ?_) (fun h3 => ?_)
  ·replace hp := (br_t h3).symm.trans hp
   refine cx_region' ?_
   refine s0 (rd_move' rfl) ?_
   refine s0 (rd_move' rfl) ?_
   refine s0 (rd_field' (off := 2) rfl Try.underlying35 rfl info3 rfl) ?_
   refine s0 (rd_load' (i := 1) (o := 2) rfl ⟨rfl, rfl, rfl, rfl⟩ rfl flat3) ?_
   obtain ⟨r35, hr35, hp⟩ := bind_some hp
   refine sx_ox' (ox_calln' (ent_fn' Try.func79 isn79 rfl rfl) (hrec _ _ _ hr35 : Sx.Fn Try.prog 79 [(Sl KT35 a0), (Vi r17.2.2.1)] [] (fun x : Unit => (SG139 r35)) (fun x => [])) (Hn := fun x : Unit => [⟨.pointer (some q26), [(If 75 (Sl Kf r21)), (Vg r17.2.1), (SG139 G139.c0), (SG139 G139.c0)], 199, none⟩, ⟨.pointer (some q5), [(Sl Kf r17.1), (Vg r17.2.1), (Vi r17.2.2.1), (Vi r17.2.2.2)], 35, none⟩]) (fun _ => rfl) rfl rfl) (wt_none' rfl) fun ⟨⟩ => ?_
   refine s0 (rd_nilck' rfl) ?_
   refine s0 (rd_field' (off := 2) rfl Try.underlying199 rfl info139 rfl) ?_
   refine sx_ox' (ox_store' (i := 0) (o := 2) rfl rfl (SG139_lv r35) ⟨rfl, rfl, rfl, rfl⟩ rfl info139 rfl (H' := [⟨.pointer (some q26), [(If 75 (Sl Kf r21)), (Vg r17.2.1), (SG139 r35), (SG139 G139.c0)], 199, none⟩, ⟨.pointer (some q5), [(Sl Kf r17.1), (Vg r17.2.1), (Vi r17.2.2.1), (Vi r17.2.2.2)], 35, none⟩]) rfl) (wt_none' rfl) fun _ => ?_
   refine sx_nil' ?_
   show TX E K8 _
   exact tx_pick' [1, 0] (sub_cons rfl (sub_cons rfl (sub_cons rfl (sub_cons rfl sub_nil)))) (by decide) (pick_cons rfl (pick_cons rfl pick_nil)) (hK8 r35 hp)
  replace hp := (br_f h3).symm.trans hp
  refine cx_skip' ?_
  show TX E K8 _
  exact tx_pick' [1, 0] (sub_cons rfl (sub_cons rfl (sub_cons rfl (sub_cons rfl sub_nil)))) (by decide) (pick_cons rfl (pick_cons rfl pick_nil)) (hK8 G139.c0 hp)
 intro K4 hK4
 rcases br_cases hp with ⟨h1, hp⟩ | ⟨h1, hp⟩
 ·refine sx_skip' rfl rfl (wt_is' (wt_guard' rfl rfl rfl) (beq_tf h1)) ?_
  refine sx_skip' rfl rfl (wt_is' (wt_guard' rfl rfl rfl) (beq_tf h1)) ?_
  refine sx_skip' rfl rfl (wt_is' (wt_guard' rfl rfl rfl) (beq_tf h1)) ?_
  refine sx_skip' rfl rfl (wt_is' (wt_guard' rfl rfl rfl) (beq_tf h1)) ?_
  refine s0 (rd_pick_true' rfl h1 rfl) ?_
  refine sx_nil' ?_
  show TX E K4 _
  exact tx_pick' [] (sub_cons rfl (sub_cons rfl (sub_cons rfl sub_nil))) (by decide) pick_nil (hK4 true hp)
 refine sx_rd' (rd_move' rfl) rfl rfl (wt_is' (wt_guard' rfl rfl rfl) (beq_ff h1)) ?_
 refine sx_rd' (rd_move' rfl) rfl rfl (wt_is' (wt_guard' rfl rfl rfl) (beq_ff h1)) ?_
 refine sx_rd' (rd_len' rfl Try.underlying22) rfl rfl (wt_is' (wt_guard' rfl rfl rfl) (beq_ff h1)) ?_
 refine sx_rd' (rd_bin' rfl rfl eg_int ru_geq) rfl rfl (wt_is' (wt_guard' rfl rfl rfl) (beq_ff h1)) ?_
 refine s0 (rd_pick_false' rfl h1 rfl) ?_
 refine sx_nil' ?_
 show TX E K4 _
 exact tx_pick' [] (sub_cons rfl (sub_cons rfl (sub_cons rfl sub_nil))) (by decide) pick_nil (hK4 (decide ((a0.length : Int) ≤ a1)) hp)
theorem impl_vnode_simA : ∀ (k : Nat)  (a0 : List ((List Nat) × Nat × Int × Int)) (a1 : Int) (out : G139), impl_vnode k a0 a1 = some out → Sx.Fn Try.prog 79 [(Sl KT35 a0), (Vi a1)] [] (fun w : Unit => (SG139 out)) (fun w => []) := by
 intro k
 induction k with
 | zero => intro a0 a1 out hp; cases hp
 | succ k ih => intro a0 a1 out hp; exact impl_vnode_b_sim ih a0 a1 hp
theorem impl_vnode_sim {k : Nat}  (a0 : List ((List Nat) × Nat × Int × Int)) (a1 : Int) {out : G139} (hp : impl_vnode k a0 a1 = some out) : Sx.Fn Try.prog 79 [(Sl KT35 a0), (Vi a1)] [] (fun w : Unit => (SG139 out)) (fun w => []) := impl_vnode_simA k a0 a1 out hp

def impl_vtree (k : Nat) (a0 : List ((List Nat) × Nat × Int × Int)) (a1 : Int) : Option (G139 × Int) :=
 (impl_vnode k a0 a1) >>= fun r7 =>
 some (r7, (a0.length : Int))

theorem impl_vtree_sim {k : Nat}  (a0 : List ((List Nat) × Nat × Int × Int)) (a1 : Int) {out : G139 × Int} (hp : impl_vtree k a0 a1 = some out) : Sx.Fn Try.prog 37 [(Sl KT35 a0), (Vi a1)] [] (fun w : Addr => (Vp w)) (fun w => [⟨.pointer (some w), [(SG139 out.1), (Vi out.2)], 142, none⟩]) := by
 unfold impl_vtree at hp
 refine fn_of Try.func37 rfl Try.ntmps37 rfl fun E hM => ?_
 refine cr fun K1 hK1 => ?_
 refine s0 (rd_assign' rfl) ?_
 refine nk hK1 ?_
 refine cr fun K2 hK2 => ?_
 refine s0 (rd_move' rfl) ?_
 refine s0 (rd_move' rfl) ?_
 obtain ⟨r7, hr7, hp⟩ := bind_some hp
 refine sx_ox' (ox_calln' (ent_fn' Try.func79 isn79 rfl rfl) (impl_vnode_sim _ _ hr7 : Sx.Fn Try.prog 79 [(Sl KT35 a0), (Vi a1)] [] (fun x : Unit => (SG139 r7)) (fun x => [])) (Hn := fun x : Unit => []) (fun _ => rfl) rfl rfl) (wt_none' rfl) fun ⟨⟩ => ?_
 refine s0 (rd_move' rfl) ?_
 refine s0 (rd_len' rfl Try.underlying22) ?_
 refine s0 (rd_build' (pls := [(0, 1), (1, 1)]) (qs := [(0, [(SG139 r7)]), (1, [(Vi (a0.length : Int))])]) (r := [(SG139 r7), (Vi (a0.length : Int))]) ⟨rfl, ⟨_, rfl, (SG139_lv r7)⟩, ⟨rfl, ⟨_, rfl, (lv_vl rfl rfl)⟩, trivial⟩⟩ Try.underlying142 has142 places142 info142 rfl rfl rfl) ?_
 refine sx_ox' (ox_box' rfl (lv_ag _) rfl rfl) (wt_none' rfl) fun q11 => ?_
 refine s0 (rd_assign' rfl) ?_
 refine nk hK2 ?_
 refine cx_retc' ?_
 replace hp := Option.some.inj hp
 subst hp
 refine tx_pick' (L' := [(4, (Vp q11))]) (H' := [⟨.pointer (some q11), [(SG139 r7), (Vi (a0.length : Int))], 142, none⟩]) [0] (sub_cons rfl sub_nil) (by decide) (pick_cons rfl pick_nil) ?_
 exact tx_ret1' Try.results37 rfl q11 (rv_tmp' rfl) (List.Sublist.refl _)

def impl_VDo_2 (k : Nat) (a0 : G73) (a1 : Int) : Option ((List (List Nat)) × (List Int) × Bool) :=
 match a0 with
  | .c0 a0_0a =>
   ((impl_floats k a0_0a) >>= fun r10 =>
   (apd 24 [] ([r10])) >>= fun r12 =>
   (apd 8 [] ([a1])) >>= fun r16 =>
   some (r12, r16, false))

def impl_VDo_2_v2 (k : Nat) (a0 : G73) (a1 : Int) (a2_0 : List (List Nat)) (a3_0 : List Int) : Option ((List (List Nat)) × (List Int) × Bool) :=
 match a0 with
  | .c0 a0_0a =>
   ((impl_floats k a0_0a) >>= fun r10 =>
   (apd 24 a2_0 ([r10])) >>= fun r12 =>
   (apd 8 a3_0 ([a1])) >>= fun r16 =>
   some (r12, r16, false))

theorem impl_VDo_2_v2_sim {k : Nat} {wa2 : Addr} {wa2_0 : Gs} {wa3 : Addr} {wa3_0 : Gs} (a0 : G73) (a1 : Int) (a2_0 : List (List Nat)) (a3_0 : List Int) {out : (List (List Nat)) × (List Int) × Bool} (hp : impl_VDo_2_v2 k a0 a1 a2_0 a3_0 = some out) : Sx.Fn Try.prog 39 [(SG73 a0), (Vi a1), (Vp wa2), (Vp wa3)] [⟨.pointer (some wa2), [(Vl (Vs wa2_0))], 26, none⟩, (Rw (Kl Kf) 25 (Vs wa2_0) a2_0), ⟨.pointer (some wa3), [(Vl (Vs wa3_0))], 27, none⟩, (Rw (Ki .i64) 3 (Vs wa3_0) a3_0)] (fun w : Gs × Gs => (Vb out.2.2)) (fun w => [⟨.pointer (some wa2), [(Vl (Vs w.1))], 26, none⟩, (Rw (Kl Kf) 25 (Vs w.1) out.1), ⟨.pointer (some wa3), [(Vl (Vs w.2))], 27, none⟩, (Rw (Ki .i64) 3 (Vs w.2) out.2.1)]) := by
 unfold impl_VDo_2_v2 at hp
 refine fn_of Try.func39 rfl Try.ntmps39 rfl fun E hM => ?_
 refine cr fun K1 hK1 => ?_
 refine s0 (rd_assign' rfl) ?_
 refine nk hK1 ?_
 refine cx_seq' fun K2 hK2 => ?_
 refine cx_plana' [wa3.block] [(5, 1), (9, 1), (10, 1), (11, 2)] [(0, 1), (1, 1), (2, 1), (6, 2), (7, 2)] 7 #[true, true, true, false, false, false, true, true, false, false, false, false] mixed (by kernel_rfl) ?_
 refine px_rd' rfl (rd_load' (i := 0) (o := 0) rfl ⟨rfl, rfl, rfl, rfl⟩ rfl flat26) rfl rfl (wt_none' rfl) ?_
 refine px_rd' rfl (rd_move' rfl) rfl rfl (wt_none' rfl) ?_
 rcases a0 with ⟨a0_0a⟩
 ·dsimp only at hp
  refine tx_slot' 0 (y := (If 75 (Sl Kf a0_0a))) rfl (imp_eq (SG73_c0 a0_0a)) ?_
  refine tx_slot' 8 (y := (If 75 (Sl Kf a0_0a))) rfl (imp_eq (SG73_c0 a0_0a)) ?_
  refine px_rd' rfl (rd_assert' rfl (F := fun v => v) as75_73_75 as_id) rfl rfl (wt_none' rfl) ?_
  refine px_rb' rfl (rb_load' (i := 2) (o := 0) rfl ⟨rfl, rfl, rfl, rfl⟩ rfl flat27 (by simp)) rfl rfl (wt_none' rfl) ?_
  refine px_rb' rfl (rb_move' rfl) rfl rfl (wt_none' rfl) ?_
  refine px_nil' ?_
  show AX E _ _ _ _ _ _ _ _
  obtain ⟨r10, hr10, hp⟩ := bind_some hp
  obtain ⟨r12, hr12, hp⟩ := bind_some hp
  obtain ⟨r16, hr16, hp⟩ := bind_some hp
  refine ax_node (f' := 0) #[true, true, true, true, true, true, true, true, true, true, true, true] (fun (v10 : Gs × Gs) => (⟨17, [], [(3, (Vp wa3))], [⟨.pointer (some wa3), [(Vl (Vs v10.1))], 27, none⟩, (Rw (Ki .i64) 3 (Vs v10.1) r16), ⟨.pointer (some wa2), [(Vl (Vs v10.2))], 26, none⟩, (Rw (Kl Kf) 25 (Vs v10.2) r12)]⟩ : St)) ?_ ?_
  ·rintro ⟨g9013, g9014⟩
   refine ax_nil (by kernel_rfl) ?_
   show TX E K2 _
   refine tx_k' hK2 ?_
   refine cr fun K3 hK3 => ?_
   refine s0 (rd_assign' rfl) ?_
   refine nk hK3 ?_
   refine cx_retc' ?_
   replace hp := Option.some.inj hp
   subst hp
   refine tx_pick' (L' := [(6, (Vb false))]) (H' := [⟨.pointer (some wa2), [(Vl (Vs g9014))], 26, none⟩, (Rw (Kl Kf) 25 (Vs g9014) r12), ⟨.pointer (some wa3), [(Vl (Vs g9013))], 27, none⟩, (Rw (Ki .i64) 3 (Vs g9013) r16)]) [2, 3, 0, 1] (sub_cons rfl sub_nil) (by decide) (pick_cons rfl (pick_cons rfl (pick_cons rfl (pick_cons rfl pick_nil)))) ?_
   exact tx_ret1' Try.results39 rfl (g9014, g9013) (rv_tmp' rfl) (List.Sublist.refl _)
  intro hN11
  refine ax_node (f' := 1) #[true, true, true, true, true, true, true, true, true, true, true, false] (fun (v9 : Gs × Gs) => (⟨17, [], [(3, (Vp wa3)), (16, (Vl (Vs v9.1)))], [⟨.pointer (some wa3), [(Vl (Vs wa3_0))], 27, none⟩, (Rw (Ki .i64) 3 (Vs v9.1) r16), ⟨.pointer (some wa2), [(Vl (Vs v9.2))], 26, none⟩, (Rw (Kl Kf) 25 (Vs v9.2) r12)]⟩ : St)) ?_ ?_
  ·rintro ⟨g9011, g9012⟩
   refine ax_all (i := 11) (is := []) (by kernel_rfl) (all_cons ?_ all_nil)
   ·refine nx_ox (last := #[true, true, true, true, true, true, true, true, true, true, true, true]) rfl (ox_store' (i := 0) (o := 0) rfl rfl (lv_vl rfl rfl) ⟨rfl, rfl, rfl, rfl⟩ rfl info27 rfl (H' := [⟨.pointer (some wa3), [(Vl (Vs g9011))], 27, none⟩, (Rw (Ki .i64) 3 (Vs g9011) r16), ⟨.pointer (some wa2), [(Vl (Vs g9012))], 26, none⟩, (Rw (Kl Kf) 25 (Vs g9012) r12)]) rfl) rfl (bs_cons (m := 0) rfl rfl rfl bs_nil) (wt_none' rfl) rfl fun _ => ?_
    exact tx_pick' [0, 1, 2, 3] (sub_cons rfl sub_nil) (by decide) (pick_cons rfl (pick_cons rfl (pick_cons rfl (pick_cons rfl pick_nil)))) (hN11 (g9011, g9012))
  intro hN10
  refine ax_node (f' := 2) #[true, true, true, true, true, true, true, true, true, true, false, false] (fun (v8 : Gs × Gs) => (⟨17, [], [(2, (Vp wa2)), (3, (Vp wa3)), (12, (Vl (Vs v8.1))), (16, (Vl (Vs v8.2)))], [⟨.pointer (some wa2), [(Vl (Vs wa2_0))], 26, none⟩, ⟨.pointer (some wa3), [(Vl (Vs wa3_0))], 27, none⟩, (Rw (Kl Kf) 25 (Vs v8.1) r12), (Rw (Ki .i64) 3 (Vs v8.2) r16)]⟩ : St)) ?_ ?_
  ·rintro ⟨g909, g9010⟩
   refine ax_all (i := 10) (is := []) (by kernel_rfl) (all_cons ?_ all_nil)
   ·refine nx_oxv (last := #[true, true, true, true, true, true, true, true, true, true, true, false]) rfl (oxv_store (i := 0) (o := 0) rfl rfl (lv_vl rfl rfl) ⟨rfl, rfl, rfl, rfl⟩ rfl info26 rfl (H' := [⟨.pointer (some wa2), [(Vl (Vs g909))], 26, none⟩, ⟨.pointer (some wa3), [(Vl (Vs wa3_0))], 27, none⟩, (Rw (Kl Kf) 25 (Vs g909) r12), (Rw (Ki .i64) 3 (Vs g9010) r16)]) rfl) rfl rfl (bo_cons (m := 1) (by decide) rfl rfl bo_nil) (wt_none' rfl) rfl fun _ => ?_
    exact tx_pick' [1, 3, 0, 2] (sub_cons rfl (sub_cons rfl sub_nil)) (by decide) (pick_cons rfl (pick_cons rfl (pick_cons rfl (pick_cons rfl pick_nil)))) (hN10 (g9010, g909))
  intro hN9
  refine ax_node (f' := 3) #[true, true, true, true, true, true, true, true, true, false, false, false] (fun (v7 : Gs × Gs) => (⟨17, [], [(2, (Vp wa2)), (3, (Vp wa3)), (12, (Vl (Vs v7.1))), (13, (Vl (Vs wa3_0))), (15, (Vl (Vs v7.2)))], [⟨.pointer (some wa2), [(Vl (Vs wa2_0))], 26, none⟩, ⟨.pointer (some wa3), [(Vl (Vs wa3_0))], 27, none⟩, (Rw (Ki .i64) 3 (Vs wa3_0) a3_0), (Rw (Kl Kf) 25 (Vs v7.1) r12), (Rw (Ki .i64) 3 (Vs v7.2) ([a1]))]⟩ : St)) ?_ ?_
  ·rintro ⟨g907, g908⟩
   refine ax_all (i := 9) (is := []) (by kernel_rfl) (all_cons ?_ all_nil)
   ·refine nx_ox (last := #[true, true, true, true, true, true, true, true, true, true, false, false]) rfl (ox_append' (K := (Ki .i64)) (i := 2) (xs := a3_0) (ys := ([a1])) rfl rfl rfl (sr_row' (j := 4) rfl rfl rfl Try.underlying27) hr16 Try.underlying27 info3 rfl rfl rfl (H' := [⟨.pointer (some wa2), [(Vl (Vs wa2_0))], 26, none⟩, ⟨.pointer (some wa3), [(Vl (Vs wa3_0))], 27, none⟩, (Rw (Kl Kf) 25 (Vs g907) r12), (Rw (Ki .i64) 3 (Vs g908) ([a1]))]) rfl) rfl (bs_cons (m := 1) rfl rfl rfl bs_nil) (wt_none' rfl) rfl fun g16 => ?_
    exact tx_pick' [1, 2, 3, 0] (sub_cons rfl (sub_cons rfl (sub_cons rfl (sub_cons rfl sub_nil)))) (by decide) (pick_cons rfl (pick_cons rfl (pick_cons rfl (pick_cons rfl pick_nil)))) (hN9 (g907, g16))
  intro hN8
  refine ax_node (f' := 4) #[true, true, true, true, true, true, true, true, false, false, false, false] (fun (v5 : Gs) => (⟨17, [], [(2, (Vp wa2)), (3, (Vp wa3)), (12, (Vl (Vs v5))), (13, (Vl (Vs wa3_0))), (14, (Vi a1))], [⟨.pointer (some wa2), [(Vl (Vs wa2_0))], 26, none⟩, ⟨.pointer (some wa3), [(Vl (Vs wa3_0))], 27, none⟩, (Rw (Ki .i64) 3 (Vs wa3_0) a3_0), (Rw (Kl Kf) 25 (Vs v5) r12)]⟩ : St)) ?_ ?_
  ·rintro g904
   refine ax_all (i := 8) (is := []) (by kernel_rfl) (all_cons ?_ all_nil)
   ·refine nx_ox (last := #[true, true, true, true, true, true, true, true, true, false, false, false]) rfl (ox_rowlit' (K := (Ki .i64)) (xs := [a1]) (qs := [(0, [(Vi a1)])]) ⟨rfl, ⟨_, rfl, (lv_vl rfl rfl)⟩, trivial⟩ Try.underlying27 info3 rfl rfl rfl rfl rfl (by kernel_rfl) rfl rfl rfl) rfl (bs_cons (m := 1) rfl rfl rfl bs_nil) (wt_none' rfl) rfl fun g15 => ?_
    exact tx_pick' [1, 2, 3, 4, 0] (sub_cons rfl (sub_cons rfl (sub_cons rfl (sub_cons rfl (sub_cons rfl sub_nil))))) (by decide) (pick_cons rfl (pick_cons rfl (pick_cons rfl (pick_cons rfl (pick_cons rfl pick_nil))))) (hN8 (g904, g15))
  intro hN6
  refine ax_node (f' := 4) #[true, true, true, true, true, false, true, true, true, false, false, false] (fun (v6 : Gs × Gs) => (⟨17, [], [(2, (Vp wa2)), (3, (Vp wa3)), (7, (Vl (Vs wa2_0))), (11, (Vl (Vs v6.1))), (13, (Vl (Vs wa3_0))), (15, (Vl (Vs v6.2)))], [⟨.pointer (some wa2), [(Vl (Vs wa2_0))], 26, none⟩, (Rw (Kl Kf) 25 (Vs wa2_0) a2_0), ⟨.pointer (some wa3), [(Vl (Vs wa3_0))], 27, none⟩, (Rw (Ki .i64) 3 (Vs wa3_0) a3_0), (Rw (Kl Kf) 25 (Vs v6.1) ([r10])), (Rw (Ki .i64) 3 (Vs v6.2) ([a1]))]⟩ : St)) ?_ ?_
  ·rintro ⟨g905, g906⟩
   refine ax_all (i := 5) (is := []) (by kernel_rfl) (all_cons ?_ all_nil)
   ·refine nx_ox (last := #[true, true, true, true, true, true, true, true, true, false, false, false]) rfl (ox_append' (K := (Kl Kf)) (i := 1) (xs := a2_0) (ys := ([r10])) rfl rfl rfl (sr_row' (j := 4) rfl rfl rfl Try.underlying26) hr12 Try.underlying26 info25 rfl rfl rfl (H' := [⟨.pointer (some wa2), [(Vl (Vs wa2_0))], 26, none⟩, ⟨.pointer (some wa3), [(Vl (Vs wa3_0))], 27, none⟩, (Rw (Ki .i64) 3 (Vs wa3_0) a3_0), (Rw (Kl Kf) 25 (Vs g905) ([r10])), (Rw (Ki .i64) 3 (Vs g906) ([a1]))]) rfl) rfl (bs_cons (m := 2) rfl rfl rfl bs_nil) (wt_none' rfl) rfl fun g12 => ?_
    exact tx_pick' [1, 2, 3, 0, 5] (sub_cons rfl (sub_cons rfl (sub_cons rfl (sub_cons rfl (sub_cons rfl sub_nil))))) (by decide) (pick_cons rfl (pick_cons rfl (pick_cons rfl (pick_cons rfl (pick_cons rfl pick_nil))))) (hN8 (g12, g906))
  intro hN7
  refine ax_node (f' := 5) #[true, true, true, true, true, false, true, true, false, false, false, false] (fun (v3 : Gs) => (⟨17, [], [(2, (Vp wa2)), (3, (Vp wa3)), (7, (Vl (Vs wa2_0))), (11, (Vl (Vs v3))), (13, (Vl (Vs wa3_0))), (14, (Vi a1))], [⟨.pointer (some wa2), [(Vl (Vs wa2_0))], 26, none⟩, (Rw (Kl Kf) 25 (Vs wa2_0) a2_0), ⟨.pointer (some wa3), [(Vl (Vs wa3_0))], 27, none⟩, (Rw (Ki .i64) 3 (Vs wa3_0) a3_0), (Rw (Kl Kf) 25 (Vs v3) ([r10]))]⟩ : St)) ?_ ?_
  ·rintro g902
   refine ax_all (i := 5) (is := [8]) (by kernel_rfl) (all_cons ?_ (all_cons ?_ all_nil))
   ·refine nx_ox (last := #[true, true, true, true, true, true, true, true, false, false, false, false]) rfl (ox_append' (K := (Kl Kf)) (i := 1) (xs := a2_0) (ys := ([r10])) rfl rfl rfl (sr_row' (j := 4) rfl rfl rfl Try.underlying26) hr12 Try.underlying26 info25 rfl rfl rfl (H' := [⟨.pointer (some wa2), [(Vl (Vs wa2_0))], 26, none⟩, ⟨.pointer (some wa3), [(Vl (Vs wa3_0))], 27, none⟩, (Rw (Ki .i64) 3 (Vs wa3_0) a3_0), (Rw (Kl Kf) 25 (Vs g902) ([r10]))]) rfl) rfl (bs_cons (m := 2) rfl rfl rfl bs_nil) (wt_none' rfl) rfl fun g12 => ?_
    exact tx_pick' [1, 2, 3, 0] (sub_cons rfl (sub_cons rfl (sub_cons rfl (sub_cons rfl (sub_cons rfl sub_nil))))) (by decide) (pick_cons rfl (pick_cons rfl (pick_cons rfl (pick_cons rfl pick_nil)))) (hN6 g12)
   refine nx_ox (last := #[true, true, true, true, true, false, true, true, true, false, false, false]) rfl (ox_rowlit' (K := (Ki .i64)) (xs := [a1]) (qs := [(0, [(Vi a1)])]) ⟨rfl, ⟨_, rfl, (lv_vl rfl rfl)⟩, trivial⟩ Try.underlying27 info3 rfl rfl rfl rfl rfl (by kernel_rfl) rfl rfl rfl) rfl (bs_cons (m := 2) rfl rfl rfl bs_nil) (wt_none' rfl) rfl fun g15 => ?_
   exact tx_pick' [1, 2, 3, 4, 5, 0] (sub_cons rfl (sub_cons rfl (sub_cons rfl (sub_cons rfl (sub_cons rfl (sub_cons rfl sub_nil)))))) (by decide) (pick_cons rfl (pick_cons rfl (pick_cons rfl (pick_cons rfl (pick_cons rfl (pick_cons rfl pick_nil)))))) (hN7 (g902, g15))
  intro hN4
  refine ax_node (f' := 5) #[true, true, true, true, false, false, true, true, true, false, false, false] (fun (v4 : Gs) => (⟨17, [], [(2, (Vp wa2)), (3, (Vp wa3)), (7, (Vl (Vs wa2_0))), (10, (Sl Kf r10)), (13, (Vl (Vs wa3_0))), (15, (Vl (Vs v4)))], [⟨.pointer (some wa2), [(Vl (Vs wa2_0))], 26, none⟩, (Rw (Kl Kf) 25 (Vs wa2_0) a2_0), ⟨.pointer (some wa3), [(Vl (Vs wa3_0))], 27, none⟩, (Rw (Ki .i64) 3 (Vs wa3_0) a3_0), (Rw (Ki .i64) 3 (Vs v4) ([a1]))]⟩ : St)) ?_ ?_
  ·rintro g903
   refine ax_all (i := 4) (is := []) (by kernel_rfl) (all_cons ?_ all_nil)
   ·refine nx_ox (last := #[true, true, true, true, true, false, true, true, true, false, false, false]) rfl (ox_rowlit' (K := (Kl Kf)) (xs := [r10]) (qs := [(0, [(Sl Kf r10)])]) ⟨rfl, ⟨_, rfl, (lv_sl _ _)⟩, trivial⟩ Try.underlying26 info25 rfl rfl rfl rfl rfl (by kernel_rfl) rfl rfl rfl) rfl (bs_cons (m := 2) rfl rfl rfl bs_nil) (wt_none' rfl) rfl fun g11 => ?_
    exact tx_pick' [1, 2, 3, 4, 0, 5] (sub_cons rfl (sub_cons rfl (sub_cons rfl (sub_cons rfl (sub_cons rfl (sub_cons rfl sub_nil)))))) (by decide) (pick_cons rfl (pick_cons rfl (pick_cons rfl (pick_cons rfl (pick_cons rfl (pick_cons rfl pick_nil)))))) (hN7 (g11, g903))
  intro hN5
  refine ax_node (f' := 6) #[true, true, true, true, false, false, true, true, false, false, false, false] (fun (v1 : Unit) => (⟨17, [], [(2, (Vp wa2)), (3, (Vp wa3)), (7, (Vl (Vs wa2_0))), (10, (Sl Kf r10)), (13, (Vl (Vs wa3_0))), (14, (Vi a1))], [⟨.pointer (some wa2), [(Vl (Vs wa2_0))], 26, none⟩, (Rw (Kl Kf) 25 (Vs wa2_0) a2_0), ⟨.pointer (some wa3), [(Vl (Vs wa3_0))], 27, none⟩, (Rw (Ki .i64) 3 (Vs wa3_0) a3_0)]⟩ : St)) ?_ ?_
  ·rintro ⟨⟩
   refine ax_all (i := 4) (is := [8]) (by kernel_rfl) (all_cons ?_ (all_cons ?_ all_nil))
   ·refine nx_ox (last := #[true, true, true, true, true, false, true, true, false, false, false, false]) rfl (ox_rowlit' (K := (Kl Kf)) (xs := [r10]) (qs := [(0, [(Sl Kf r10)])]) ⟨rfl, ⟨_, rfl, (lv_sl _ _)⟩, trivial⟩ Try.underlying26 info25 rfl rfl rfl rfl rfl (by kernel_rfl) rfl rfl rfl) rfl (bs_cons (m := 2) rfl rfl rfl bs_nil) (wt_none' rfl) rfl fun g11 => ?_
    exact tx_pick' [1, 2, 3, 4, 0] (sub_cons rfl (sub_cons rfl (sub_cons rfl (sub_cons rfl (sub_cons rfl (sub_cons rfl sub_nil)))))) (by decide) (pick_cons rfl (pick_cons rfl (pick_cons rfl (pick_cons rfl (pick_cons rfl pick_nil))))) (hN4 g11)
   refine nx_ox (last := #[true, true, true, true, false, false, true, true, true, false, false, false]) rfl (ox_rowlit' (K := (Ki .i64)) (xs := [a1]) (qs := [(0, [(Vi a1)])]) ⟨rfl, ⟨_, rfl, (lv_vl rfl rfl)⟩, trivial⟩ Try.underlying27 info3 rfl rfl rfl rfl rfl (by kernel_rfl) rfl rfl rfl) rfl (bs_cons (m := 2) rfl rfl rfl bs_nil) (wt_none' rfl) rfl fun g15 => ?_
   exact tx_pick' [1, 2, 3, 4, 0] (sub_cons rfl (sub_cons rfl (sub_cons rfl (sub_cons rfl (sub_cons rfl (sub_cons rfl sub_nil)))))) (by decide) (pick_cons rfl (pick_cons rfl (pick_cons rfl (pick_cons rfl (pick_cons rfl pick_nil))))) (hN5 g15)
  intro hN2
  refine ax_node (f' := 6) #[true, true, true, false, false, false, true, true, true, false, false, false] (fun (v2 : Gs) => (⟨17, [], [(2, (Vp wa2)), (3, (Vp wa3)), (7, (Vl (Vs wa2_0))), (9, (Sl Kf a0_0a)), (13, (Vl (Vs wa3_0))), (15, (Vl (Vs v2)))], [⟨.pointer (some wa2), [(Vl (Vs wa2_0))], 26, none⟩, (Rw (Kl Kf) 25 (Vs wa2_0) a2_0), ⟨.pointer (some wa3), [(Vl (Vs wa3_0))], 27, none⟩, (Rw (Ki .i64) 3 (Vs wa3_0) a3_0), (Rw (Ki .i64) 3 (Vs v2) ([a1]))]⟩ : St)) ?_ ?_
  ·rintro g901
   refine ax_all (i := 3) (is := []) (by kernel_rfl) (all_cons ?_ all_nil)
   ·refine nx_ox (last := #[true, true, true, true, false, false, true, true, true, false, false, false]) rfl (ox_calln' (ent_fn' Try.func40 isn40 rfl rfl) (impl_floats_sim _ hr10 : Sx.Fn Try.prog 40 [(Sl Kf a0_0a)] [] (fun x : Unit => (Sl Kf r10)) (fun x => [])) (Hn := fun x : Unit => [⟨.pointer (some wa2), [(Vl (Vs wa2_0))], 26, none⟩, (Rw (Kl Kf) 25 (Vs wa2_0) a2_0), ⟨.pointer (some wa3), [(Vl (Vs wa3_0))], 27, none⟩, (Rw (Ki .i64) 3 (Vs wa3_0) a3_0), (Rw (Ki .i64) 3 (Vs g901) ([a1]))]) (fun _ => rfl) rfl rfl) rfl (bs_cons (m := 2) rfl rfl rfl bs_nil) (wt_none' rfl) rfl fun ⟨⟩ => ?_
    exact tx_pick' [0, 1, 2, 3, 4] (sub_cons rfl (sub_cons rfl (sub_cons rfl (sub_cons rfl (sub_cons rfl (sub_cons rfl sub_nil)))))) (by decide) (pick_cons rfl (pick_cons rfl (pick_cons rfl (pick_cons rfl (pick_cons rfl pick_nil))))) (hN5 g901)
  intro hN3
  refine ax_all (i := 3) (is := [8]) (by kernel_rfl) (all_cons ?_ (all_cons ?_ all_nil))
  ·refine nx_ox (last := #[true, true, true, true, false, false, true, true, false, false, false, false]) rfl (ox_calln' (ent_fn' Try.func40 isn40 rfl rfl) (impl_floats_sim _ hr10 : Sx.Fn Try.prog 40 [(Sl Kf a0_0a)] [] (fun x : Unit => (Sl Kf r10)) (fun x => [])) (Hn := fun x : Unit => [⟨.pointer (some wa2), [(Vl (Vs wa2_0))], 26, none⟩, (Rw (Kl Kf) 25 (Vs wa2_0) a2_0), ⟨.pointer (some wa3), [(Vl (Vs wa3_0))], 27, none⟩, (Rw (Ki .i64) 3 (Vs wa3_0) a3_0)]) (fun _ => rfl) rfl rfl) rfl (bs_cons (m := 2) rfl rfl rfl bs_nil) (wt_none' rfl) rfl fun ⟨⟩ => ?_
   exact tx_pick' [0, 1, 2, 3] (sub_cons rfl (sub_cons rfl (sub_cons rfl (sub_cons rfl (sub_cons rfl (sub_cons rfl sub_nil)))))) (by decide) (pick_cons rfl (pick_cons rfl (pick_cons rfl (pick_cons rfl pick_nil)))) (hN2 ())
  refine nx_ox (last := #[true, true, true, false, false, false, true, true, true, false, false, false]) rfl (ox_rowlit' (K := (Ki .i64)) (xs := [a1]) (qs := [(0, [(Vi a1)])]) ⟨rfl, ⟨_, rfl, (lv_vl rfl rfl)⟩, trivial⟩ Try.underlying27 info3 rfl rfl rfl rfl rfl (by kernel_rfl) rfl rfl rfl) rfl (bs_cons (m := 2) rfl rfl rfl bs_nil) (wt_none' rfl) rfl fun g15 => ?_
  exact tx_pick' [1, 2, 3, 4, 0] (sub_cons rfl (sub_cons rfl (sub_cons rfl (sub_cons rfl (sub_cons rfl (sub_cons rfl sub_nil)))))) (by decide) (pick_cons rfl (pick_cons rfl (pick_cons rfl (pick_cons rfl (pick_cons rfl pick_nil))))) (hN3 g15)

def vptree_Node_do_v2_j2 (k : Nat) (x10 : Bool) (x11 : List (List Nat)) (x12 : List Int) : Option ((List (List Nat)) × (List Int) × Bool) :=
 some (x11, x12, x10)
def vptree_Node_do_v2_j1 (k : Nat) (a2 : Int) (recf : G139 → (List (List Nat)) → (List Int) → Int → Option ((List (List Nat)) × (List Int) × Bool)) (x4 : G73) (x5 : Nat) (x6 : G139) (x7 : G139) (x8 : List (List Nat)) (x9 : List Int) : Option ((List (List Nat)) × (List Int) × Bool) :=
 (impl_VDo_2_v2 k x4 a2 x8 x9) >>= fun r27 =>
 br r27.2.2
  (some (r27.1, r27.2.1, r27.2.2))
  (match x7 with
   | .c0 =>
    (vptree_Node_do_v2_j2 k r27.2.2 r27.1 r27.2.1)
   | .c1 x7_1a x7_1b x7_1c x7_1d =>
    ((recf (G139.c1 x7_1a x7_1b x7_1c x7_1d) r27.1 r27.2.1 (iadd .i64 a2 1)) >>= fun r41 =>
    vptree_Node_do_v2_j2 k r41.2.2 r41.1 r41.2.1))
def vptree_Node_do_v2_b (recf : G139 → (List (List Nat)) → (List Int) → Int → Option ((List (List Nat)) × (List Int) × Bool)) (k : Nat) (a0 : G139) (a1_0_0 : List (List Nat)) (a1_1_0 : List Int) (a2 : Int) : Option ((List (List Nat)) × (List Int) × Bool) :=
 match a0 with
  | .c0 =>
   (none)
  | .c1 a0_1a a0_1b a0_1c a0_1d =>
   (match a0_1c with
    | .c0 =>
     (vptree_Node_do_v2_j1 k a2 recf a0_1a a0_1b G139.c0 a0_1d a1_0_0 a1_1_0)
    | .c1 a0_1c_1a a0_1c_1b a0_1c_1c a0_1c_1d =>
     ((recf (G139.c1 a0_1c_1a a0_1c_1b a0_1c_1c a0_1c_1d) a1_0_0 a1_1_0 (iadd .i64 a2 1)) >>= fun r19 =>
     br r19.2.2
      (some (r19.1, r19.2.1, r19.2.2))
      (vptree_Node_do_v2_j1 k a2 recf a0_1a a0_1b (G139.c1 a0_1c_1a a0_1c_1b a0_1c_1c a0_1c_1d) a0_1d r19.1 r19.2.1)))
def vptree_Node_do_v2 : Nat → G139 → (List (List Nat)) → (List Int) → Int → Option ((List (List Nat)) × (List Int) × Bool)
 | 0 => fun _ _ _ _ => none
 | k + 1 => fun a0 a1_0_0 a1_1_0 a2 => vptree_Node_do_v2_b (vptree_Node_do_v2 k) k a0 a1_0_0 a1_1_0 a2

theorem vptree_Node_do_v2_b_sim {recf : G139 → (List (List Nat)) → (List Int) → Int → Option ((List (List Nat)) × (List Int) × Bool)} (hrec : ∀ (wa1_0 : Addr) (wa1_0_0 : Gs) (wa1_1 : Addr) (wa1_1_0 : Gs) (a0 : G139) (a1_0_0 : List (List Nat)) (a1_1_0 : List Int) (a2 : Int) (out : (List (List Nat)) × (List Int) × Bool), recf a0 a1_0_0 a1_1_0 a2 = some out → Sx.Fn Try.prog 80 [(SG139 a0), (Vl (.func (.func 39) #[] ⟨[.pointer (some wa1_0), .pointer (some wa1_1)]⟩)), (Vi a2)] [⟨.pointer (some wa1_0), [(Vl (Vs wa1_0_0))], 26, none⟩, (Rw (Kl Kf) 25 (Vs wa1_0_0) a1_0_0), ⟨.pointer (some wa1_1), [(Vl (Vs wa1_1_0))], 27, none⟩, (Rw (Ki .i64) 3 (Vs wa1_1_0) a1_1_0)] (fun w : Gs × Gs => (Vb out.2.2)) (fun w => [⟨.pointer (some wa1_0), [(Vl (Vs w.1))], 26, none⟩, (Rw (Kl Kf) 25 (Vs w.1) out.1), ⟨.pointer (some wa1_1), [(Vl (Vs w.2))], 27, none⟩, (Rw (Ki .i64) 3 (Vs w.2) out.2.1)])) {k : Nat} {wa1_0 : Addr} {wa1_0_0 : Gs} {wa1_1 : Addr} {wa1_1_0 : Gs} (a0 : G139) (a1_0_0 : List (List Nat)) (a1_1_0 : List Int) (a2 : Int) {out : (List (List Nat)) × (List Int) × Bool} (hp : vptree_Node_do_v2_b recf k a0 a1_0_0 a1_1_0 a2 = some out) : Sx.Fn Try.prog 80 [(SG139 a0), (Vl (.func (.func 39) #[] ⟨[.pointer (some wa1_0), .pointer (some wa1_1)]⟩)), (Vi a2)] [⟨.pointer (some wa1_0), [(Vl (Vs wa1_0_0))], 26, none⟩, (Rw (Kl Kf) 25 (Vs wa1_0_0) a1_0_0), ⟨.pointer (some wa1_1), [(Vl (Vs wa1_1_0))], 27, none⟩, (Rw (Ki .i64) 3 (Vs wa1_1_0) a1_1_0)] (fun w : Gs × Gs => (Vb out.2.2)) (fun w => [⟨.pointer (some wa1_0), [(Vl (Vs w.1))], 26, none⟩, (Rw (Kl Kf) 25 (Vs w.1) out.1), ⟨.pointer (some wa1_1), [(Vl (Vs w.2))], 27, none⟩, (Rw (Ki .i64) 3 (Vs w.2) out.2.1)]) := by
 unfold vptree_Node_do_v2_b at hp
 refine fn_of Try.func80 rfl Try.ntmps80 rfl fun E hM => ?_
 refine cr fun K1 hK1 => ?_
 refine s0 (rd_assign' rfl) ?_
 refine nk hK1 ?_
 refine cx_join' (fun (v2 : G73 × Nat × G139 × G139 × (List (List Nat)) × (List Int) × Gs × Gs) => (⟨42, [], [(0, (Pt [(SG73 v2.1), (Vg v2.2.1), (SG139 v2.2.2.1), (SG139 v2.2.2.2.1)])), (1, (Vl (.func (.func 39) #[] ⟨[.pointer (some wa1_0), .pointer (some wa1_1)]⟩))), (2, (Vi a2))], [⟨.pointer (some wa1_0), [(Vl (Vs v2.2.2.2.2.2.2.1))], 26, none⟩, (Rw (Kl Kf) 25 (Vs v2.2.2.2.2.2.2.1) v2.2.2.2.2.1), ⟨.pointer (some wa1_1), [(Vl (Vs v2.2.2.2.2.2.2.2))], 27, none⟩, (Rw (Ki .i64) 3 (Vs v2.2.2.2.2.2.2.2) v2.2.2.2.2.2.1)]⟩ : St)) (fun (v2 : G73 × Nat × G139 × G139 × (List (List Nat)) × (List Int) × Gs × Gs) => vptree_Node_do_v2_j1 k a2 recf v2.1 v2.2.1 v2.2.2.1 v2.2.2.2.1 v2.2.2.2.2.1 v2.2.2.2.2.2.1 = some out) ?_ ?_
 ·rintro ⟨x4, x5, x6, x7, x8, x9, g903, g904⟩ hp
  replace hp : vptree_Node_do_v2_j1 k a2 recf x4 x5 x6 x7 x8 x9 = some out := hp
  unfold vptree_Node_do_v2_j1 at hp
  refine cr fun K5 hK5 => ?_
  refine s0 (rd_move' rfl) ?_
  refine s0 (rd_move' rfl) ?_
  refine s0 (rd_nilck_pt' rfl) ?_
  refine s0 (rd_field_pt' (off := 0) rfl Try.underlying199 rfl info73 rfl (l' := [(SG73 x4), (Vg x5), (SG139 x6), (SG139 x7)]) rfl) ?_
  refine s0 (rd_load_pt' rfl rfl flat73) ?_
  refine s0 (rd_move' rfl) ?_
  obtain ⟨r27, hr27, hp⟩ := bind_some hp
  refine sx_ox' (ox_callg' (ent_clo' (us := [.pointer (some wa1_0), .pointer (some wa1_1)]) rfl Try.func39 isn39 rfl rfl) (impl_VDo_2_v2_sim _ _ _ _ hr27 : Sx.Fn Try.prog 39 [(SG73 x4), (Vi a2), (Vp wa1_0), (Vp wa1_1)] [⟨.pointer (some wa1_0), [(Vl (Vs g903))], 26, none⟩, (Rw (Kl Kf) 25 (Vs g903) x8), ⟨.pointer (some wa1_1), [(Vl (Vs g904))], 27, none⟩, (Rw (Ki .i64) 3 (Vs g904) x9)] (fun x : Gs × Gs => (Vb r27.2.2)) (fun x => [⟨.pointer (some wa1_0), [(Vl (Vs x.1))], 26, none⟩, (Rw (Kl Kf) 25 (Vs x.1) r27.1), ⟨.pointer (some wa1_1), [(Vl (Vs x.2))], 27, none⟩, (Rw (Ki .i64) 3 (Vs x.2) r27.2.1)])) [0, 1, 2, 3] [] (by decide) (pick_cons rfl (pick_cons rfl (pick_cons rfl (pick_cons rfl pick_nil)))) pick_nil (Hn := fun x : Gs × Gs => [⟨.pointer (some wa1_0), [(Vl (Vs x.1))], 26, none⟩, (Rw (Kl Kf) 25 (Vs x.1) r27.1), ⟨.pointer (some wa1_1), [(Vl (Vs x.2))], 27, none⟩, (Rw (Ki .i64) 3 (Vs x.2) r27.2.1)]) (fun _ => rfl) rfl rfl) (wt_none' rfl) fun ⟨g27, gz1⟩ => ?_
  refine s0 (rd_assign' rfl) ?_
  refine nk hK5 ?_
  refine cx_seq' fun K6 hK6 => ?_
  refine cr fun K7 hK7 => ?_
  refine s0 (rd_move' rfl) ?_
  refine nk hK7 ?_
  refine cx_cond' rfl (fun h1 => ?_) (fun h1 => ?_)
  ·replace hp := (br_t h1).symm.trans hp
   refine cx_retc' ?_
   replace hp := Option.some.inj hp
   subst hp
   refine tx_pick' (L' := [(6, (Vb r27.2.2))]) (H' := [⟨.pointer (some wa1_0), [(Vl (Vs g27))], 26, none⟩, (Rw (Kl Kf) 25 (Vs g27) r27.1), ⟨.pointer (some wa1_1), [(Vl (Vs gz1))], 27, none⟩, (Rw (Ki .i64) 3 (Vs gz1) r27.2.1)]) [0, 1, 2, 3] (sub_cons rfl sub_nil) (by decide) (pick_cons rfl (pick_cons rfl (pick_cons rfl (pick_cons rfl pick_nil)))) ?_
   exact tx_ret1' Try.results80 rfl (g27, gz1) (rv_tmp' rfl) (List.Sublist.refl _)
  replace hp := (br_f h1).symm.trans hp
  refine cx_skip' ?_
  show TX E K6 _
  refine tx_k' hK6 ?_
  refine cx_join' (fun (v3 : Bool × (List (List Nat)) × (List Int) × Gs × Gs) => (⟨42, [], [(6, (Vb v3.1))], [⟨.pointer (some wa1_0), [(Vl (Vs v3.2.2.2.1))], 26, none⟩, (Rw (Kl Kf) 25 (Vs v3.2.2.2.1) v3.2.1), ⟨.pointer (some wa1_1), [(Vl (Vs v3.2.2.2.2))], 27, none⟩, (Rw (Ki .i64) 3 (Vs v3.2.2.2.2) v3.2.2.1)]⟩ : St)) (fun (v3 : Bool × (List (List Nat)) × (List Int) × Gs × Gs) => vptree_Node_do_v2_j2 k v3.1 v3.2.1 v3.2.2.1 = some out) ?_ ?_
  ·rintro ⟨x10, x11, x12, g905, g906⟩ hp
   replace hp : vptree_Node_do_v2_j2 k x10 x11 x12 = some out := hp
   unfold vptree_Node_do_v2_j2 at hp
   refine cx_retc' ?_
   replace hp := Option.some.inj hp
   subst hp
   refine tx_pick' (L' := [(6, (Vb x10))]) (H' := [⟨.pointer (some wa1_0), [(Vl (Vs g905))], 26, none⟩, (Rw (Kl Kf) 25 (Vs g905) x11), ⟨.pointer (some wa1_1), [(Vl (Vs g906))], 27, none⟩, (Rw (Ki .i64) 3 (Vs g906) x12)]) [0, 1, 2, 3] (sub_cons rfl sub_nil) (by decide) (pick_cons rfl (pick_cons rfl (pick_cons rfl (pick_cons rfl pick_nil)))) ?_
   exact tx_ret1' Try.results80 rfl (g905, g906) (rv_tmp' rfl) (List.Sublist.refl _)
  intro K8 hK8
  refine cr fun K9 hK9 => ?_
  refine s0 (rd_move' rfl) ?_
  refine s0 (rd_nilck_pt' rfl) ?_
  refine s0 (rd_field_pt' (off := 3) rfl Try.underlying199 rfl info139 rfl (l' := [(SG139 x7)]) rfl) ?_
  refine s0 (rd_load_pt' rfl rfl flat139) ?_
  rcases x7 with ⟨⟩ | ⟨x7_1a, x7_1b, x7_1c, x7_1d⟩
  ·dsimp only at hp
   refine tx_slot' 32 (y := (Vl (.pointer none))) rfl (imp_eq (SG139_c0 )) ?_
   refine s0 (rd_binf' rfl rfl (bf_vl (fun _ => by kernel_rfl) nil_neq139_nilptr)) ?_
   refine nk hK9 ?_
   refine cx_cond_f' rfl rfl ?_
   refine cx_skip' ?_
   show TX E K8 _
   exact tx_pick' [0, 1, 2, 3] (sub_cons rfl sub_nil) (by decide) (pick_cons rfl (pick_cons rfl (pick_cons rfl (pick_cons rfl pick_nil)))) (hK8 (r27.2.2, r27.1, r27.2.1, g27, gz1) hp)
  dsimp only at hp
  refine tx_slot' 32 (y := (Pt [(SG73 x7_1a), (Vg x7_1b), (SG139 x7_1c), (SG139 x7_1d)])) rfl (imp_eq (SG139_c1 x7_1a x7_1b x7_1c x7_1d)) ?_
  refine s0 (rd_binf' rfl rfl (bf_pt (fun _ _ => by kernel_rfl) nil_neq139_pt)) ?_
  refine nk hK9 ?_
  refine cx_cond_t' rfl rfl ?_
  refine cx_region' ?_
  refine s0 (rd_move' rfl) ?_
  refine s0 (rd_nilck_pt' rfl) ?_
  refine s0 (rd_field_pt' (off := 3) rfl Try.underlying199 rfl info139 rfl (l' := [(SG139 (G139.c1 x7_1a x7_1b x7_1c x7_1d))]) rfl) ?_
  refine s0 (rd_load_pt' rfl rfl flat139) ?_
  refine s0 (rd_move' rfl) ?_
  refine s0 (rd_move' rfl) ?_
  refine s0 (rd_bin' rfl rfl eg_int ru_add) ?_
  obtain ⟨r41, hr41, hp⟩ := bind_some hp
  refine sx_ox' (ox_callg' (ent_fn' Try.func80 isn80 rfl rfl) (hrec _ _ _ _ _ _ _ _ _ hr41 : Sx.Fn Try.prog 80 [(SG139 (G139.c1 x7_1a x7_1b x7_1c x7_1d)), (Vl (.func (.func 39) #[] ⟨[.pointer (some wa1_0), .pointer (some wa1_1)]⟩)), (Vi (iadd .i64 a2 1))] [⟨.pointer (some wa1_0), [(Vl (Vs g27))], 26, none⟩, (Rw (Kl Kf) 25 (Vs g27) r27.1), ⟨.pointer (some wa1_1), [(Vl (Vs gz1))], 27, none⟩, (Rw (Ki .i64) 3 (Vs gz1) r27.2.1)] (fun x : Gs × Gs => (Vb r41.2.2)) (fun x => [⟨.pointer (some wa1_0), [(Vl (Vs x.1))], 26, none⟩, (Rw (Kl Kf) 25 (Vs x.1) r41.1), ⟨.pointer (some wa1_1), [(Vl (Vs x.2))], 27, none⟩, (Rw (Ki .i64) 3 (Vs x.2) r41.2.1)])) [0, 1, 2, 3] [] (by decide) (pick_cons rfl (pick_cons rfl (pick_cons rfl (pick_cons rfl pick_nil)))) pick_nil (Hn := fun x : Gs × Gs => [⟨.pointer (some wa1_0), [(Vl (Vs x.1))], 26, none⟩, (Rw (Kl Kf) 25 (Vs x.1) r41.1), ⟨.pointer (some wa1_1), [(Vl (Vs x.2))], 27, none⟩, (Rw (Ki .i64) 3 (Vs x.2) r41.2.1)]) (fun _ => rfl) rfl rfl) (wt_none' rfl) fun ⟨g41, gz3⟩ => ?_
  refine s0 (rd_assign' rfl) ?_
  refine sx_nil' ?_
  show TX E K8 _
  exact tx_pick' [0, 1, 2, 3] (sub_cons rfl sub_nil) (by decide) (pick_cons rfl (pick_cons rfl (pick_cons rfl (pick_cons rfl pick_nil)))) (hK8 (r41.2.2, r41.1, r41.2.1, g41, gz3) hp)
 intro K2 hK2
 refine cr fun K3 hK3 => ?_
 refine s0 (rd_move' rfl) ?_
 rcases a0 with ⟨⟩ | ⟨a0_1a, a0_1b, a0_1c, a0_1d⟩
 ·dsimp only at hp
  refine tx_slot' 0 (y := (Vl (.pointer none))) rfl (imp_eq (SG139_c0 )) ?_
  refine tx_slot' 7 (y := (Vl (.pointer none))) rfl (imp_eq (SG139_c0 )) ?_
  cases hp
 dsimp only at hp
 refine tx_slot' 0 (y := (Pt [(SG73 a0_1a), (Vg a0_1b), (SG139 a0_1c), (SG139 a0_1d)])) rfl (imp_eq (SG139_c1 a0_1a a0_1b a0_1c a0_1d)) ?_
 refine tx_slot' 7 (y := (Pt [(SG73 a0_1a), (Vg a0_1b), (SG139 a0_1c), (SG139 a0_1d)])) rfl (imp_eq (SG139_c1 a0_1a a0_1b a0_1c a0_1d)) ?_
 refine s0 (rd_nilck_pt' rfl) ?_
 refine s0 (rd_field_pt' (off := 2) rfl Try.underlying199 rfl info139 rfl (l' := [(SG139 a0_1c), (SG139 a0_1d)]) rfl) ?_
 refine s0 (rd_load_pt' rfl rfl flat139) ?_
 rcases a0_1c with ⟨⟩ | ⟨a0_1c_1a, a0_1c_1b, a0_1c_1c, a0_1c_1d⟩
 ·dsimp only at hp
  refine tx_slot' 10 (y := (Vl (.pointer none))) rfl (imp_eq (SG139_c0 )) ?_
  refine s0 (rd_binf' rfl rfl (bf_vl (fun _ => by kernel_rfl) nil_neq139_nilptr)) ?_
  refine nk hK3 ?_
  refine cx_cond_f' rfl rfl ?_
  refine cx_skip' ?_
  show TX E K2 _
  exact tx_pick' [0, 1, 2, 3] (sub_cons rfl (sub_cons rfl (sub_cons rfl sub_nil))) (by decide) (pick_cons rfl (pick_cons rfl (pick_cons rfl (pick_cons rfl pick_nil)))) (hK2 (a0_1a, a0_1b, G139.c0, a0_1d, a1_0_0, a1_1_0, wa1_0_0, wa1_1_0) hp)
 dsimp only at hp
 refine tx_slot' 10 (y := (Pt [(SG73 a0_1c_1a), (Vg a0_1c_1b), (SG139 a0_1c_1c), (SG139 a0_1c_1d)])) rfl (imp_eq (SG139_c1 a0_1c_1a a0_1c_1b a0_1c_1c a0_1c_1d)) ?_
 refine s0 (rd_binf' rfl rfl (bf_pt (fun _ _ => by kernel_rfl) nil_neq139_pt)) ?_
 refine nk hK3 ?_
 refine cx_cond_t' rfl rfl ?_
 refine cr fun K4 hK4 => ?_
 refine s0 (rd_move' rfl) ?_
 refine s0 (rd_nilck_pt' rfl) ?_
 refine s0 (rd_field_pt' (off := 2) rfl Try.underlying199 rfl info139 rfl (l' := [(SG139 (G139.c1 a0_1c_1a a0_1c_1b a0_1c_1c a0_1c_1d)), (SG139 a0_1d)]) rfl) ?_
 refine s0 (rd_load_pt' rfl rfl flat139) ?_
 refine s0 (rd_move' rfl) ?_
 refine s0 (rd_move' rfl) ?_
 refine s0 (rd_bin' rfl rfl eg_int ru_add) ?_
 obtain ⟨r19, hr19, hp⟩ := bind_some hp
 refine sx_ox' (ox_callg' (ent_fn' Try.func80 isn80 rfl rfl) (hrec _ _ _ _ _ _ _ _ _ hr19 : Sx.Fn Try.prog 80 [(SG139 (G139.c1 a0_1c_1a a0_1c_1b a0_1c_1c a0_1c_1d)), (Vl (.func (.func 39) #[] ⟨[.pointer (some wa1_0), .pointer (some wa1_1)]⟩)), (Vi (iadd .i64 a2 1))] [⟨.pointer (some wa1_0), [(Vl (Vs wa1_0_0))], 26, none⟩, (Rw (Kl Kf) 25 (Vs wa1_0_0) a1_0_0), ⟨.pointer (some wa1_1), [(Vl (Vs wa1_1_0))], 27, none⟩, (Rw (Ki .i64) 3 (Vs wa1_1_0) a1_1_0)] (fun x : Gs × Gs => (Vb r19.2.2)) (fun x => [⟨.pointer (some wa1_0), [(Vl (Vs x.1))], 26, none⟩, (Rw (Kl Kf) 25 (Vs x.1) r19.1), ⟨.pointer (some wa1_1), [(Vl (Vs x.2))], 27, none⟩, (Rw (Ki .i64) 3 (Vs x.2) r19.2.1)])) [0, 1, 2, 3] [] (by decide) (pick_cons rfl (pick_cons rfl (pick_cons rfl (pick_cons rfl pick_nil)))) pick_nil (Hn := fun x : Gs × Gs => [⟨.pointer (some wa1_0), [(Vl (Vs x.1))], 26, none⟩, (Rw (Kl Kf) 25 (Vs x.1) r19.1), ⟨.pointer (some wa1_1), [(Vl (Vs x.2))], 27, none⟩, (Rw (Ki .i64) 3 (Vs x.2) r19.2.1)]) (fun _ => rfl) rfl rfl) (wt_none' rfl) fun ⟨g19, gz2⟩ => ?_
 refine s0 (rd_assign' rfl) ?_
 refine nk hK4 ?_
 refine cr fun K10 hK10 => ?_
 refine s0 (rd_move' rfl) ?_
 refine nk hK10 ?_
 refine cx_cond' rfl (fun h2 => ?_) (fun h2 => ?_)
 ·replace hp := (br_t h2).symm.trans hp
  refine cx_retc' ?_
  replace hp := Option.some.inj hp
  subst hp
  refine tx_pick' (L' := [(6, (Vb r19.2.2))]) (H' := [⟨.pointer (some wa1_0), [(Vl (Vs g19))], 26, none⟩, (Rw (Kl Kf) 25 (Vs g19) r19.1), ⟨.pointer (some wa1_1), [(Vl (Vs gz2))], 27, none⟩, (Rw (Ki .i64) 3 (Vs gz2) r19.2.1)]) [0, 1, 2, 3] (sub_cons rfl sub_nil) (by decide) (pick_cons rfl (pick_cons rfl (pick_cons rfl (pick_cons rfl pick_nil)))) ?_
  exact tx_ret1' Try.results80 rfl (g19, gz2) (rv_tmp' rfl) (List.Sublist.refl _)
 replace hp := (br_f h2).symm.trans hp
 refine cx_skip' ?_
 show TX E K2 _
 exact tx_pick' [0, 1, 2, 3] (sub_cons rfl (sub_cons rfl (sub_cons rfl sub_nil))) (by decide) (pick_cons rfl (pick_cons rfl (pick_cons rfl (pick_cons rfl pick_nil)))) (hK2 (a0_1a, a0_1b, (G139.c1 a0_1c_1a a0_1c_1b a0_1c_1c a0_1c_1d), a0_1d, r19.1, r19.2.1, g19, gz2) hp)
theorem vptree_Node_do_v2_simA : ∀ (k : Nat) (wa1_0 : Addr) (wa1_0_0 : Gs) (wa1_1 : Addr) (wa1_1_0 : Gs) (a0 : G139) (a1_0_0 : List (List Nat)) (a1_1_0 : List Int) (a2 : Int) (out : (List (List Nat)) × (List Int) × Bool), vptree_Node_do_v2 k a0 a1_0_0 a1_1_0 a2 = some out → Sx.Fn Try.prog 80 [(SG139 a0), (Vl (.func (.func 39) #[] ⟨[.pointer (some wa1_0), .pointer (some wa1_1)]⟩)), (Vi a2)] [⟨.pointer (some wa1_0), [(Vl (Vs wa1_0_0))], 26, none⟩, (Rw (Kl Kf) 25 (Vs wa1_0_0) a1_0_0), ⟨.pointer (some wa1_1), [(Vl (Vs wa1_1_0))], 27, none⟩, (Rw (Ki .i64) 3 (Vs wa1_1_0) a1_1_0)] (fun w : Gs × Gs => (Vb out.2.2)) (fun w => [⟨.pointer (some wa1_0), [(Vl (Vs w.1))], 26, none⟩, (Rw (Kl Kf) 25 (Vs w.1) out.1), ⟨.pointer (some wa1_1), [(Vl (Vs w.2))], 27, none⟩, (Rw (Ki .i64) 3 (Vs w.2) out.2.1)]) := by
 intro k
 induction k with
 | zero => intro wa1_0 wa1_0_0 wa1_1 wa1_1_0 a0 a1_0_0 a1_1_0 a2 out hp; cases hp
 | succ k ih => intro wa1_0 wa1_0_0 wa1_1 wa1_1_0 a0 a1_0_0 a1_1_0 a2 out hp; exact vptree_Node_do_v2_b_sim ih a0 a1_0_0 a1_1_0 a2 hp
theorem vptree_Node_do_v2_sim {k : Nat} {wa1_0 : Addr} {wa1_0_0 : Gs} {wa1_1 : Addr} {wa1_1_0 : Gs} (a0 : G139) (a1_0_0 : List (List Nat)) (a1_1_0 : List Int) (a2 : Int) {out : (List (List Nat)) × (List Int) × Bool} (hp : vptree_Node_do_v2 k a0 a1_0_0 a1_1_0 a2 = some out) : Sx.Fn Try.prog 80 [(SG139 a0), (Vl (.func (.func 39) #[] ⟨[.pointer (some wa1_0), .pointer (some wa1_1)]⟩)), (Vi a2)] [⟨.pointer (some wa1_0), [(Vl (Vs wa1_0_0))], 26, none⟩, (Rw (Kl Kf) 25 (Vs wa1_0_0) a1_0_0), ⟨.pointer (some wa1_1), [(Vl (Vs wa1_1_0))], 27, none⟩, (Rw (Ki .i64) 3 (Vs wa1_1_0) a1_1_0)] (fun w : Gs × Gs => (Vb out.2.2)) (fun w => [⟨.pointer (some wa1_0), [(Vl (Vs w.1))], 26, none⟩, (Rw (Kl Kf) 25 (Vs w.1) out.1), ⟨.pointer (some wa1_1), [(Vl (Vs w.2))], 27, none⟩, (Rw (Ki .i64) 3 (Vs w.2) out.2.1)]) := vptree_Node_do_v2_simA k wa1_0 wa1_0_0 wa1_1 wa1_1_0 a0 a1_0_0 a1_1_0 a2 out hp

def vptree_Node_do_j1 (k : Nat) (x1 : Bool) (x2 : List (List Nat)) (x3 : List Int) : Option ((List (List Nat)) × (List Int) × Bool) :=
 some (x2, x3, x1)
def vptree_Node_do_j2 (k : Nat) (a2 : Int) (x7 : G73) (x8 : Nat) (x9 : G139) (x10 : G139) (x11 : List (List Nat)) (x12 : List Int) : Option ((List (List Nat)) × (List Int) × Bool) :=
 (impl_VDo_2_v2 k x7 a2 x11 x12) >>= fun r27 =>
 br r27.2.2
  (some (r27.1, r27.2.1, r27.2.2))
  (match x10 with
   | .c0 =>
    (vptree_Node_do_j1 k r27.2.2 r27.1 r27.2.1)
   | .c1 x10_1a x10_1b x10_1c x10_1d =>
    ((vptree_Node_do_v2 k (G139.c1 x10_1a x10_1b x10_1c x10_1d) r27.1 r27.2.1 (iadd .i64 a2 1)) >>= fun r41 =>
    vptree_Node_do_j1 k r41.2.2 r41.1 r41.2.1))
def vptree_Node_do_b (recf : G139 → Int → Option ((List (List Nat)) × (List Int) × Bool)) (k : Nat) (a0 : G139) (a2 : Int) : Option ((List (List Nat)) × (List Int) × Bool) :=
 match a0 with
  | .c0 =>
   (none)
  | .c1 a0_1a a0_1b a0_1c a0_1d =>
   (match a0_1c with
    | .c0 =>
     (vptree_Node_do_j2 k a2 a0_1a a0_1b G139.c0 a0_1d [] [])
    | .c1 a0_1c_1a a0_1c_1b a0_1c_1c a0_1c_1d =>
     ((recf (G139.c1 a0_1c_1a a0_1c_1b a0_1c_1c a0_1c_1d) (iadd .i64 a2 1)) >>= fun r19 =>
     br r19.2.2
      (some (r19.1, r19.2.1, r19.2.2))
      (vptree_Node_do_j2 k a2 a0_1a a0_1b (G139.c1 a0_1c_1a a0_1c_1b a0_1c_1c a0_1c_1d) a0_1d r19.1 r19.2.1)))
def vptree_Node_do : Nat → G139 → Int → Option ((List (List Nat)) × (List Int) × Bool)
 | 0 => fun _ _ => none
 | k + 1 => fun a0 a2 => vptree_Node_do_b (vptree_Node_do k) k a0 a2

theorem vptree_Node_do_b_sim {recf : G139 → Int → Option ((List (List Nat)) × (List Int) × Bool)} (hrec : ∀ (wa1_0 : Addr) (wa1_1 : Addr) (a0 : G139) (a2 : Int) (out : (List (List Nat)) × (List Int) × Bool), recf a0 a2 = some out → Sx.Fn Try.prog 80 [(SG139 a0), (Vl (.func (.func 39) #[] ⟨[.pointer (some wa1_0), .pointer (some wa1_1)]⟩)), (Vi a2)] [⟨.pointer (some wa1_0), [Vn], 26, none⟩, ⟨.pointer (some wa1_1), [Vn], 27, none⟩] (fun w : Gs × Gs => (Vb out.2.2)) (fun w => [⟨.pointer (some wa1_0), [(Vl (Vs w.1))], 26, none⟩, (Rw (Kl Kf) 25 (Vs w.1) out.1), ⟨.pointer (some wa1_1), [(Vl (Vs w.2))], 27, none⟩, (Rw (Ki .i64) 3 (Vs w.2) out.2.1)])) {k : Nat} {wa1_0 : Addr} {wa1_1 : Addr} (a0 : G139) (a2 : Int) {out : (List (List Nat)) × (List Int) × Bool} (hp : vptree_Node_do_b recf k a0 a2 = some out) : Sx.Fn Try.prog 80 [(SG139 a0), (Vl (.func (.func 39) #[] ⟨[.pointer (some wa1_0), .pointer (some wa1_1)]⟩)), (Vi a2)] [⟨.pointer (some wa1_0), [Vn], 26, none⟩, ⟨.pointer (some wa1_1), [Vn], 27, none⟩] (fun w : Gs × Gs => (Vb out.2.2)) (fun w => [⟨.pointer (some wa1_0), [(Vl (Vs w.1))], 26, none⟩, (Rw (Kl Kf) 25 (Vs w.1) out.1), ⟨.pointer (some wa1_1), [(Vl (Vs w.2))], 27, none⟩, (Rw (Ki .i64) 3 (Vs w.2) out.2.1)]) := by
 unfold vptree_Node_do_b at hp
 refine fn_of Try.func80 rfl Try.ntmps80 rfl fun E hM => ?_
 refine cr fun K1 hK1 => ?_
 refine s0 (rd_assign' rfl) ?_
 refine nk hK1 ?_
 refine cx_join' (fun (v3 : G73 × Nat × G139 × G139 × (List (List Nat)) × (List Int) × Gs × Gs) => (⟨42, [], [(0, (Pt [(SG73 v3.1), (Vg v3.2.1), (SG139 v3.2.2.1), (SG139 v3.2.2.2.1)])), (1, (Vl (.func (.func 39) #[] ⟨[.pointer (some wa1_0), .pointer (some wa1_1)]⟩))), (2, (Vi a2))], [⟨.pointer (some wa1_0), [(Vl (Vs v3.2.2.2.2.2.2.1))], 26, none⟩, (Rw (Kl Kf) 25 (Vs v3.2.2.2.2.2.2.1) v3.2.2.2.2.1), ⟨.pointer (some wa1_1), [(Vl (Vs v3.2.2.2.2.2.2.2))], 27, none⟩, (Rw (Ki .i64) 3 (Vs v3.2.2.2.2.2.2.2) v3.2.2.2.2.2.1)]⟩ : St)) (fun (v3 : G73 × Nat × G139 × G139 × (List (List Nat)) × (List Int) × Gs × Gs) => vptree_Node_do_j2 k a2 v3.1 v3.2.1 v3.2.2.1 v3.2.2.2.1 v3.2.2.2.2.1 v3.2.2.2.2.2.1 = some out) ?_ ?_
 ·rintro ⟨x7, x8, x9, x10, x11, x12, g905, g906⟩ hp
  replace hp : vptree_Node_do_j2 k a2 x7 x8 x9 x10 x11 x12 = some out := hp
  unfold vptree_Node_do_j2 at hp
  refine cr fun K5 hK5 => ?_
  refine s0 (rd_move' rfl) ?_
  refine s0 (rd_move' rfl) ?_
  refine s0 (rd_nilck_pt' rfl) ?_
  refine s0 (rd_field_pt' (off := 0) rfl Try.underlying199 rfl info73 rfl (l' := [(SG73 x7), (Vg x8), (SG139 x9), (SG139 x10)]) rfl) ?_
  refine s0 (rd_load_pt' rfl rfl flat73) ?_
  refine s0 (rd_move' rfl) ?_
  obtain ⟨r27, hr27, hp⟩ := bind_some hp
  refine sx_ox' (ox_callg' (ent_clo' (us := [.pointer (some wa1_0), .pointer (some wa1_1)]) rfl Try.func39 isn39 rfl rfl) (impl_VDo_2_v2_sim _ _ _ _ hr27 : Sx.Fn Try.prog 39 [(SG73 x7), (Vi a2), (Vp wa1_0), (Vp wa1_1)] [⟨.pointer (some wa1_0), [(Vl (Vs g905))], 26, none⟩, (Rw (Kl Kf) 25 (Vs g905) x11), ⟨.pointer (some wa1_1), [(Vl (Vs g906))], 27, none⟩, (Rw (Ki .i64) 3 (Vs g906) x12)] (fun x : Gs × Gs => (Vb r27.2.2)) (fun x => [⟨.pointer (some wa1_0), [(Vl (Vs x.1))], 26, none⟩, (Rw (Kl Kf) 25 (Vs x.1) r27.1), ⟨.pointer (some wa1_1), [(Vl (Vs x.2))], 27, none⟩, (Rw (Ki .i64) 3 (Vs x.2) r27.2.1)])) [0, 1, 2, 3] [] (by decide) (pick_cons rfl (pick_cons rfl (pick_cons rfl (pick_cons rfl pick_nil)))) pick_nil (Hn := fun x : Gs × Gs => [⟨.pointer (some wa1_0), [(Vl (Vs x.1))], 26, none⟩, (Rw (Kl Kf) 25 (Vs x.1) r27.1), ⟨.pointer (some wa1_1), [(Vl (Vs x.2))], 27, none⟩, (Rw (Ki .i64) 3 (Vs x.2) r27.2.1)]) (fun _ => rfl) rfl rfl) (wt_none' rfl) fun ⟨g27, gz1⟩ => ?_
  refine s0 (rd_assign' rfl) ?_
  refine nk hK5 ?_
  refine cx_seq' fun K6 hK6 => ?_
  refine cr fun K7 hK7 => ?_
  refine s0 (rd_move' rfl) ?_
  refine nk hK7 ?_
  refine cx_cond' rfl (fun h1 => ?_) (fun h1 => ?_)
  ·replace hp := (br_t h1).symm.trans hp
   refine cx_retc' ?_
   replace hp := Option.some.inj hp
   subst hp
   refine tx_pick' (L' := [(6, (Vb r27.2.2))]) (H' := [⟨.pointer (some wa1_0), [(Vl (Vs g27))], 26, none⟩, (Rw (Kl Kf) 25 (Vs g27) r27.1), ⟨.pointer (some wa1_1), [(Vl (Vs gz1))], 27, none⟩, (Rw (Ki .i64) 3 (Vs gz1) r27.2.1)]) [0, 1, 2, 3] (sub_cons rfl sub_nil) (by decide) (pick_cons rfl (pick_cons rfl (pick_cons rfl (pick_cons rfl pick_nil)))) ?_
   exact tx_ret1' Try.results80 rfl (g27, gz1) (rv_tmp' rfl) (List.Sublist.refl _)
  replace hp := (br_f h1).symm.trans hp
  refine cx_skip' ?_
  show TX E K6 _
  refine tx_k' hK6 ?_
  refine cx_join' (fun (v1 : Bool × (List (List Nat)) × (List Int) × Gs × Gs) => (⟨42, [], [(6, (Vb v1.1))], [⟨.pointer (some wa1_0), [(Vl (Vs v1.2.2.2.1))], 26, none⟩, (Rw (Kl Kf) 25 (Vs v1.2.2.2.1) v1.2.1), ⟨.pointer (some wa1_1), [(Vl (Vs v1.2.2.2.2))], 27, none⟩, (Rw (Ki .i64) 3 (Vs v1.2.2.2.2) v1.2.2.1)]⟩ : St)) (fun (v1 : Bool × (List (List Nat)) × (List Int) × Gs × Gs) => vptree_Node_do_j1 k v1.1 v1.2.1 v1.2.2.1 = some out) ?_ ?_
  ·rintro ⟨x1, x2, x3, g901, g902⟩ hp
   replace hp : vptree_Node_do_j1 k x1 x2 x3 = some out := hp
   unfold vptree_Node_do_j1 at hp
   refine cx_retc' ?_
   replace hp := Option.some.inj hp
   subst hp
   refine tx_pick' (L' := [(6, (Vb x1))]) (H' := [⟨.pointer (some wa1_0), [(Vl (Vs g901))], 26, none⟩, (Rw (Kl Kf) 25 (Vs g901) x2), ⟨.pointer (some wa1_1), [(Vl (Vs g902))], 27, none⟩, (Rw (Ki .i64) 3 (Vs g902) x3)]) [0, 1, 2, 3] (sub_cons rfl sub_nil) (by decide) (pick_cons rfl (pick_cons rfl (pick_cons rfl (pick_cons rfl pick_nil)))) ?_
   exact tx_ret1' Try.results80 rfl (g901, g902) (rv_tmp' rfl) (List.Sublist.refl _)
  intro K8 hK8
  refine cr fun K9 hK9 => ?_
  refine s0 (rd_move' rfl) ?_
  refine s0 (rd_nilck_pt' rfl) ?_
  refine s0 (rd_field_pt' (off := 3) rfl Try.underlying199 rfl info139 rfl (l' := [(SG139 x10)]) rfl) ?_
  refine s0 (rd_load_pt' rfl rfl flat139) ?_
  rcases x10 with ⟨⟩ | ⟨x10_1a, x10_1b, x10_1c, x10_1d⟩
  ·dsimp only at hp
   refine tx_slot' 32 (y := (Vl (.pointer none))) rfl (imp_eq (SG139_c0 )) ?_
   refine s0 (rd_binf' rfl rfl (bf_vl (fun _ => by kernel_rfl) nil_neq139_nilptr)) ?_
   refine nk hK9 ?_
   refine cx_cond_f' rfl rfl ?_
   refine cx_skip' ?_
   show TX E K8 _
   exact tx_pick' [0, 1, 2, 3] (sub_cons rfl sub_nil) (by decide) (pick_cons rfl (pick_cons rfl (pick_cons rfl (pick_cons rfl pick_nil)))) (hK8 (r27.2.2, r27.1, r27.2.1, g27, gz1) hp)
  dsimp only at hp
  refine tx_slot' 32 (y := (Pt [(SG73 x10_1a), (Vg x10_1b), (SG139 x10_1c), (SG139 x10_1d)])) rfl (imp_eq (SG139_c1 x10_1a x10_1b x10_1c x10_1d)) ?_
  refine s0 (rd_binf' rfl rfl (bf_pt (fun _ _ => by kernel_rfl) nil_neq139_pt)) ?_
  refine nk hK9 ?_
  refine cx_cond_t' rfl rfl ?_
  refine cx_region' ?_
  refine s0 (rd_move' rfl) ?_
  refine s0 (rd_nilck_pt' rfl) ?_
  refine s0 (rd_field_pt' (off := 3) rfl Try.underlying199 rfl info139 rfl (l' := [(SG139 (G139.c1 x10_1a x10_1b x10_1c x10_1d))]) rfl) ?_
  refine s0 (rd_load_pt' rfl rfl flat139) ?_
  refine s0 (rd_move' rfl) ?_
  refine s0 (rd_move' rfl) ?_
  refine s0 (rd_bin' rfl rfl eg_int ru_add) ?_
  obtain ⟨r41, hr41, hp⟩ := bind_some hp
  refine sx_ox' (ox_callg' (ent_fn' Try.func80 isn80 rfl rfl) (vptree_Node_do_v2_sim _ _ _ _ hr41 : Sx.Fn Try.prog 80 [(SG139 (G139.c1 x10_1a x10_1b x10_1c x10_1d)), (Vl (.func (.func 39) #[] ⟨[.pointer (some wa1_0), .pointer (some wa1_1)]⟩)), (Vi (iadd .i64 a2 1))] [⟨.pointer (some wa1_0), [(Vl (Vs g27))], 26, none⟩, (Rw (Kl Kf) 25 (Vs g27) r27.1), ⟨.pointer (some wa1_1), [(Vl (Vs gz1))], 27, none⟩, (Rw (Ki .i64) 3 (Vs gz1) r27.2.1)] (fun x : Gs × Gs => (Vb r41.2.2)) (fun x => [⟨.pointer (some wa1_0), [(Vl (Vs x.1))], 26, none⟩, (Rw (Kl Kf) 25 (Vs x.1) r41.1), ⟨.pointer (some wa1_1), [(Vl (Vs x.2))], 27, none⟩, (Rw (Ki .i64) 3 (Vs x.2) r41.2.1)])) [0, 1, 2, 3] [] (by decide) (pick_cons rfl (pick_cons rfl (pick_cons rfl (pick_cons rfl pick_nil)))) pick_nil (Hn := fun x : Gs × Gs => [⟨.pointer (some wa1_0), [(Vl (Vs x.1))], 26, none⟩, (Rw (Kl Kf) 25 (Vs x.1) r41.1), ⟨.pointer (some wa1_1), [(Vl (Vs x.2))], 27, none⟩, (Rw (Ki .i64) 3 (Vs x.2) r41.2.1)]) (fun _ => rfl) rfl rfl) (wt_none' rfl) fun ⟨g41, gz2⟩ => ?_
  refine s0 (rd_assign' rfl) ?_
  refine sx_nil' ?_
  show TX E K8 _
  exact tx_pick' [0, 1, 2, 3] (sub_cons rfl sub_nil) (by decide) (pick_cons rfl (pick_cons rfl (pick_cons rfl (pick_cons rfl pick_nil)))) (hK8 (r41.2.2, r41.1, r41.2.1, g41, gz2) hp)
 intro K2 hK2
 refine cr fun K3 hK3 => ?_
 refine s0 (rd_move' rfl) ?_
 rcases a0 with ⟨⟩ | ⟨a0_1a, a0_1b, a0_1c, a0_1d⟩
 ·dsimp only at hp
  refine tx_slot' 0 (y := (Vl (.pointer none))) rfl (imp_eq (SG139_c0 )) ?_
  refine tx_slot' 7 (y := (Vl (.pointer none))) rfl (imp_eq (SG139_c0 )) ?_
  cases hp
 dsimp only at hp
 refine tx_slot' 0 (y := (Pt [(SG73 a0_1a), (Vg a0_1b), (SG139 a0_1c), (SG139 a0_1d)])) rfl (imp_eq (SG139_c1 a0_1a a0_1b a0_1c a0_1d)) ?_
 refine tx_slot' 7 (y := (Pt [(SG73 a0_1a), (Vg a0_1b), (SG139 a0_1c), (SG139 a0_1d)])) rfl (imp_eq (SG139_c1 a0_1a a0_1b a0_1c a0_1d)) ?_
 refine s0 (rd_nilck_pt' rfl) ?_
 refine s0 (rd_field_pt' (off := 2) rfl Try.underlying199 rfl info139 rfl (l' := [(SG139 a0_1c), (SG139 a0_1d)]) rfl) ?_
 refine s0 (rd_load_pt' rfl rfl flat139) ?_
 rcases a0_1c with ⟨⟩ | ⟨a0_1c_1a, a0_1c_1b, a0_1c_1c, a0_1c_1d⟩
 ·dsimp only at hp
  refine tx_slot' 10 (y := (Vl (.pointer none))) rfl (imp_eq (SG139_c0 )) ?_
  refine s0 (rd_binf' rfl rfl (bf_vl (fun _ => by kernel_rfl) nil_neq139_nilptr)) ?_
  refine nk hK3 ?_
  refine cx_cond_f' rfl rfl ?_
  refine cx_skip' ?_
  show TX E K2 _
  refine tx_nilrow' (Kl Kf) 25 ?_
  refine tx_nilrow' (Ki .i64) 3 ?_
  exact tx_pick' [2, 1, 3, 0] (sub_cons rfl (sub_cons rfl (sub_cons rfl sub_nil))) (by decide) (pick_cons rfl (pick_cons rfl (pick_cons rfl (pick_cons rfl pick_nil)))) (hK2 (a0_1a, a0_1b, G139.c0, a0_1d, [], [], (none, 0, 0), (none, 0, 0)) hp)
 dsimp only at hp
 refine tx_slot' 10 (y := (Pt [(SG73 a0_1c_1a), (Vg a0_1c_1b), (SG139 a0_1c_1c), (SG139 a0_1c_1d)])) rfl (imp_eq (SG139_c1 a0_1c_1a a0_1c_1b a0_1c_1c a0_1c_1d)) ?_
 refine s0 (rd_binf' rfl rfl (bf_pt (fun _ _ => by kernel_rfl) nil_neq139_pt)) ?_
 refine nk hK3 ?_
 refine cx_cond_t' rfl rfl ?_
 refine cr fun K4 hK4 => ?_
 refine s0 (rd_move' rfl) ?_
 refine s0 (rd_nilck_pt' rfl) ?_
 refine s0 (rd_field_pt' (off := 2) rfl Try.underlying199 rfl info139 rfl (l' := [(SG139 (G139.c1 a0_1c_1a a0_1c_1b a0_1c_1c a0_1c_1d)), (SG139 a0_1d)]) rfl) ?_
 refine s0 (rd_load_pt' rfl rfl flat139) ?_
 refine s0 (rd_move' rfl) ?_
 refine s0 (rd_move' rfl) ?_
 refine s0 (rd_bin' rfl rfl eg_int ru_add) ?_
 obtain ⟨r19, hr19, hp⟩ := bind_some hp
 refine sx_ox' (ox_callg' (ent_fn' Try.func80 isn80 rfl rfl) (hrec _ _ _ _ _ hr19 : Sx.Fn Try.prog 80 [(SG139 (G139.c1 a0_1c_1a a0_1c_1b a0_1c_1c a0_1c_1d)), (Vl (.func (.func 39) #[] ⟨[.pointer (some wa1_0), .pointer (some wa1_1)]⟩)), (Vi (iadd .i64 a2 1))] [⟨.pointer (some wa1_0), [Vn], 26, none⟩, ⟨.pointer (some wa1_1), [Vn], 27, none⟩] (fun x : Gs × Gs => (Vb r19.2.2)) (fun x => [⟨.pointer (some wa1_0), [(Vl (Vs x.1))], 26, none⟩, (Rw (Kl Kf) 25 (Vs x.1) r19.1), ⟨.pointer (some wa1_1), [(Vl (Vs x.2))], 27, none⟩, (Rw (Ki .i64) 3 (Vs x.2) r19.2.1)])) [0, 1] [] (by decide) (pick_cons rfl (pick_cons rfl pick_nil)) pick_nil (Hn := fun x : Gs × Gs => [⟨.pointer (some wa1_0), [(Vl (Vs x.1))], 26, none⟩, (Rw (Kl Kf) 25 (Vs x.1) r19.1), ⟨.pointer (some wa1_1), [(Vl (Vs x.2))], 27, none⟩, (Rw (Ki .i64) 3 (Vs x.2) r19.2.1)]) (fun _ => rfl) rfl rfl) (wt_none' rfl) fun ⟨g19, gz3⟩ => ?_
 refine s0 (rd_assign' rfl) ?_
 refine nk hK4 ?_
 refine cr fun K10 hK10 => ?_
 refine s0 (rd_move' rfl) ?_
 refine nk hK10 ?_
 refine cx_cond' rfl (fun h2 => ?_) (fun h2 => ?_)
 ·replace hp := (br_t h2).symm.trans hp
  refine cx_retc' ?_
  replace hp := Option.some.inj hp
  subst hp
  refine tx_pick' (L' := [(6, (Vb r19.2.2))]) (H' := [⟨.pointer (some wa1_0), [(Vl (Vs g19))], 26, none⟩, (Rw (Kl Kf) 25 (Vs g19) r19.1), ⟨.pointer (some wa1_1), [(Vl (Vs gz3))], 27, none⟩, (Rw (Ki .i64) 3 (Vs gz3) r19.2.1)]) [0, 1, 2, 3] (sub_cons rfl sub_nil) (by decide) (pick_cons rfl (pick_cons rfl (pick_cons rfl (pick_cons rfl pick_nil)))) ?_
  exact tx_ret1' Try.results80 rfl (g19, gz3) (rv_tmp' rfl) (List.Sublist.refl _)
 replace hp := (br_f h2).symm.trans hp
 refine cx_skip' ?_
 show TX E K2 _
 exact tx_pick' [0, 1, 2, 3] (sub_cons rfl (sub_cons rfl (sub_cons rfl sub_nil))) (by decide) (pick_cons rfl (pick_cons rfl (pick_cons rfl (pick_cons rfl pick_nil)))) (hK2 (a0_1a, a0_1b, (G139.c1 a0_1c_1a a0_1c_1b a0_1c_1c a0_1c_1d), a0_1d, r19.1, r19.2.1, g19, gz3) hp)
theorem vptree_Node_do_simA : ∀ (k : Nat) (wa1_0 : Addr) (wa1_1 : Addr) (a0 : G139) (a2 : Int) (out : (List (List Nat)) × (List Int) × Bool), vptree_Node_do k a0 a2 = some out → Sx.Fn Try.prog 80 [(SG139 a0), (Vl (.func (.func 39) #[] ⟨[.pointer (some wa1_0), .pointer (some wa1_1)]⟩)), (Vi a2)] [⟨.pointer (some wa1_0), [Vn], 26, none⟩, ⟨.pointer (some wa1_1), [Vn], 27, none⟩] (fun w : Gs × Gs => (Vb out.2.2)) (fun w => [⟨.pointer (some wa1_0), [(Vl (Vs w.1))], 26, none⟩, (Rw (Kl Kf) 25 (Vs w.1) out.1), ⟨.pointer (some wa1_1), [(Vl (Vs w.2))], 27, none⟩, (Rw (Ki .i64) 3 (Vs w.2) out.2.1)]) := by
 intro k
 induction k with
 | zero => intro wa1_0 wa1_1 a0 a2 out hp; cases hp
 | succ k ih => intro wa1_0 wa1_1 a0 a2 out hp; exact vptree_Node_do_b_sim ih a0 a2 hp
theorem vptree_Node_do_sim {k : Nat} {wa1_0 : Addr} {wa1_1 : Addr} (a0 : G139) (a2 : Int) {out : (List (List Nat)) × (List Int) × Bool} (hp : vptree_Node_do k a0 a2 = some out) : Sx.Fn Try.prog 80 [(SG139 a0), (Vl (.func (.func 39) #[] ⟨[.pointer (some wa1_0), .pointer (some wa1_1)]⟩)), (Vi a2)] [⟨.pointer (some wa1_0), [Vn], 26, none⟩, ⟨.pointer (some wa1_1), [Vn], 27, none⟩] (fun w : Gs × Gs => (Vb out.2.2)) (fun w => [⟨.pointer (some wa1_0), [(Vl (Vs w.1))], 26, none⟩, (Rw (Kl Kf) 25 (Vs w.1) out.1), ⟨.pointer (some wa1_1), [(Vl (Vs w.2))], 27, none⟩, (Rw (Ki .i64) 3 (Vs w.2) out.2.1)]) := vptree_Node_do_simA k wa1_0 wa1_1 a0 a2 out hp

def vptree_Tree_Do (k : Nat) (a0_0 : G139) (a0_1 : Int) : Option (G139 × Int × (List (List Nat)) × (List Int) × Bool) :=
 match a0_0 with
  | .c0 =>
   (some (G139.c0, a0_1, [], [], false))
  | .c1 a0_0_1a a0_0_1b a0_0_1c a0_0_1d =>
   ((vptree_Node_do k (G139.c1 a0_0_1a a0_0_1b a0_0_1c a0_0_1d) 0) >>= fun r15 =>
   some ((G139.c1 a0_0_1a a0_0_1b a0_0_1c a0_0_1d), a0_1, r15.1, r15.2.1, r15.2.2))

theorem vptree_Tree_Do_sim {k : Nat} {wa0 : Addr} {wa1_0 : Addr} {wa1_1 : Addr} (a0_0 : G139) (a0_1 : Int) {out : G139 × Int × (List (List Nat)) × (List Int) × Bool} (hp : vptree_Tree_Do k a0_0 a0_1 = some out) : Sx.Fn Try.prog 38 [(Vp wa0), (Vl (.func (.func 39) #[] ⟨[.pointer (some wa1_0), .pointer (some wa1_1)]⟩))] [⟨.pointer (some wa0), [(SG139 a0_0), (Vi a0_1)], 142, none⟩, ⟨.pointer (some wa1_0), [Vn], 26, none⟩, ⟨.pointer (some wa1_1), [Vn], 27, none⟩] (fun w : Gs × Gs => (Vb out.2.2.2.2)) (fun w => [⟨.pointer (some wa0), [(SG139 out.1), (Vi out.2.1)], 142, none⟩, ⟨.pointer (some wa1_0), [(Vl (Vs w.1))], 26, none⟩, (Rw (Kl Kf) 25 (Vs w.1) out.2.2.1), ⟨.pointer (some wa1_1), [(Vl (Vs w.2))], 27, none⟩, (Rw (Ki .i64) 3 (Vs w.2) out.2.2.2.1)]) := by
 unfold vptree_Tree_Do at hp
 refine fn_of Try.func38 rfl Try.ntmps38 rfl fun E hM => ?_
 refine cr fun K1 hK1 => ?_
 refine s0 (rd_assign' rfl) ?_
 refine nk hK1 ?_
 refine cx_seq' fun K2 hK2 => ?_
 refine cr fun K3 hK3 => ?_
 refine s0 (rd_move' rfl) ?_
 refine s0 (rd_nilck' rfl) ?_
 refine s0 (rd_field0' rfl Try.underlying142 rfl info139 rfl) ?_
 refine s0 (rd_load' (i := 0) (o := 0) rfl ⟨rfl, rfl, rfl, rfl⟩ rfl flat139) ?_
 rcases a0_0 with ⟨⟩ | ⟨a0_0_1a, a0_0_1b, a0_0_1c, a0_0_1d⟩
 ·dsimp only at hp
  refine tx_slot' 8 (y := (Vl (.pointer none))) rfl (imp_eq (SG139_c0 )) ?_
  refine s0 (rd_binf' rfl rfl (bf_vl (fun _ => by kernel_rfl) nil_eql139_nilptr)) ?_
  refine nk hK3 ?_
  refine cx_cond_t' rfl rfl ?_
  refine cr fun K4 hK4 => ?_
  refine s0 (rd_assign' rfl) ?_
  refine nk hK4 ?_
  refine cx_retc' ?_
  replace hp := Option.some.inj hp
  subst hp
  refine tx_nilrow' (Kl Kf) 25 ?_
  refine tx_nilrow' (Ki .i64) 3 ?_
  refine tx_pick' (L' := [(4, (Vb false))]) (H' := [⟨.pointer (some wa0), [(SG139 G139.c0), (Vi a0_1)], 142, none⟩, ⟨.pointer (some wa1_0), [Vn], 26, none⟩, (Rw (Kl Kf) 25 (Vs (none, 0, 0)) []), ⟨.pointer (some wa1_1), [Vn], 27, none⟩, (Rw (Ki .i64) 3 (Vs (none, 0, 0)) [])]) [2, 3, 1, 4, 0] (sub_cons rfl sub_nil) (by decide) (pick_cons rfl (pick_cons rfl (pick_cons rfl (pick_cons rfl (pick_cons rfl pick_nil))))) ?_
  exact tx_ret1' Try.results38 rfl ((none, 0, 0), (none, 0, 0)) (rv_tmp' rfl) (List.Sublist.refl _)
 dsimp only at hp
 refine tx_slot' 8 (y := (Pt [(SG73 a0_0_1a), (Vg a0_0_1b), (SG139 a0_0_1c), (SG139 a0_0_1d)])) rfl (imp_eq (SG139_c1 a0_0_1a a0_0_1b a0_0_1c a0_0_1d)) ?_
 refine s0 (rd_binf' rfl rfl (bf_pt (fun _ _ => by kernel_rfl) nil_eql139_pt)) ?_
 refine nk hK3 ?_
 refine cx_cond_f' rfl rfl ?_
 refine cx_skip' ?_
 show TX E K2 _
 refine tx_k' hK2 ?_
 refine cr fun K5 hK5 => ?_
 refine s0 (rd_move' rfl) ?_
 refine s0 (rd_nilck' rfl) ?_
 refine s0 (rd_field0' rfl Try.underlying142 rfl info139 rfl) ?_
 refine s0 (rd_load' (i := 0) (o := 0) rfl ⟨rfl, rfl, rfl, rfl⟩ rfl flat139) ?_
 refine s0 (rd_move' rfl) ?_
 obtain ⟨r15, hr15, hp⟩ := bind_some hp
 refine sx_ox' (ox_callg' (ent_fn' Try.func80 isn80 rfl rfl) (vptree_Node_do_sim _ _ hr15 : Sx.Fn Try.prog 80 [(SG139 (G139.c1 a0_0_1a a0_0_1b a0_0_1c a0_0_1d)), (Vl (.func (.func 39) #[] ⟨[.pointer (some wa1_0), .pointer (some wa1_1)]⟩)), (Vi 0)] [⟨.pointer (some wa1_0), [Vn], 26, none⟩, ⟨.pointer (some wa1_1), [Vn], 27, none⟩] (fun x : Gs × Gs => (Vb r15.2.2)) (fun x => [⟨.pointer (some wa1_0), [(Vl (Vs x.1))], 26, none⟩, (Rw (Kl Kf) 25 (Vs x.1) r15.1), ⟨.pointer (some wa1_1), [(Vl (Vs x.2))], 27, none⟩, (Rw (Ki .i64) 3 (Vs x.2) r15.2.1)])) [1, 2] [0] (by decide) (pick_cons rfl (pick_cons rfl pick_nil)) (pick_cons rfl pick_nil) (Hn := fun x : Gs × Gs => [⟨.pointer (some wa1_0), [(Vl (Vs x.1))], 26, none⟩, (Rw (Kl Kf) 25 (Vs x.1) r15.1), ⟨.pointer (some wa1_1), [(Vl (Vs x.2))], 27, none⟩, (Rw (Ki .i64) 3 (Vs x.2) r15.2.1), ⟨.pointer (some wa0), [(SG139 (G139.c1 a0_0_1a a0_0_1b a0_0_1c a0_0_1d)), (Vi a0_1)], 142, none⟩]) (fun _ => rfl) rfl rfl) (wt_none' rfl) fun ⟨g15, gz1⟩ => ?_
 refine s0 (rd_assign' rfl) ?_
 refine nk hK5 ?_
 refine cx_retc' ?_
 replace hp := Option.some.inj hp
 subst hp
 refine tx_pick' (L' := [(4, (Vb r15.2.2))]) (H' := [⟨.pointer (some wa0), [(SG139 (G139.c1 a0_0_1a a0_0_1b a0_0_1c a0_0_1d)), (Vi a0_1)], 142, none⟩, ⟨.pointer (some wa1_0), [(Vl (Vs g15))], 26, none⟩, (Rw (Kl Kf) 25 (Vs g15) r15.1), ⟨.pointer (some wa1_1), [(Vl (Vs gz1))], 27, none⟩, (Rw (Ki .i64) 3 (Vs gz1) r15.2.1)]) [4, 0, 1, 2, 3] (sub_cons rfl sub_nil) (by decide) (pick_cons rfl (pick_cons rfl (pick_cons rfl (pick_cons rfl (pick_cons rfl pick_nil))))) ?_
 exact tx_ret1' Try.results38 rfl (g15, gz1) (rv_tmp' rfl) (List.Sublist.refl _)

def impl_VDo (k : Nat) (a0 : List ((List Nat) × Nat × Int × Int)) (a1 : Int) : Option ((List (List Nat)) × (List Int) × Bool) :=
 (impl_vtree k a0 a1) >>= fun r11 =>
 (vptree_Tree_Do k r11.1 r11.2) >>= fun r14 =>
 some (r14.2.2.1, r14.2.2.2.1, true)

theorem impl_VDo_sim {k : Nat}  (a0 : List ((List Nat) × Nat × Int × Int)) (a1 : Int) {out : (List (List Nat)) × (List Int) × Bool} (hp : impl_VDo k a0 a1 = some out) : Sx.Fn Try.prog 10 [(Sl KT35 a0), (Vi a1)] [] (fun w : Unit => (Tu [(Sl (Kl Kf) out.1), (Sl (Ki .i64) out.2.1), (Vb out.2.2)])) (fun w => []) := by
 unfold impl_VDo at hp
 refine fnD_of Try.func10 rfl Try.ntmps10 rfl fun E hM => ?_
 refine cr fun K1 hK1 => ?_
 refine sx_ox' (ox_alloc' info26 rfl rfl rfl rfl (l := [Vn]) rfl) (wt_none' rfl) fun q4 => ?_
 refine sx_ox' (ox_alloc' info27 rfl rfl rfl rfl (l := [Vn]) rfl) (wt_none' rfl) fun q5 => ?_
 refine sx_ox' (ox_alloc' info4 rfl rfl rfl rfl (l := [(Vb false)]) rfl) (wt_none' rfl) fun q6 => ?_
 refine nk hK1 ?_
 refine cr fun K2 hK2 => ?_
 refine s0 (rd_mkfunc' (us := [.pointer (some q4), .pointer (some q5), .pointer (some q6)]) rfl) ?_
 refine sx_ox' (ox_defer' rfl rfl) (wt_none' rfl) fun _ => ?_
 refine nk hK2 ?_
 refine cr fun K3 hK3 => ?_
 refine s0 (rd_move' rfl) ?_
 refine s0 (rd_move' rfl) ?_
 obtain ⟨r11, hr11, hp⟩ := bind_some hp
 refine sx_ox' (ox_calln' (ent_fn' Try.func37 isn37 rfl rfl) (impl_vtree_sim _ _ hr11 : Sx.Fn Try.prog 37 [(Sl KT35 a0), (Vi a1)] [] (fun x : Addr => (Vp x)) (fun x => [⟨.pointer (some x), [(SG139 r11.1), (Vi r11.2)], 142, none⟩])) (Hn := fun x : Addr => [⟨.pointer (some x), [(SG139 r11.1), (Vi r11.2)], 142, none⟩, ⟨.pointer (some q6), [(Vb false)], 4, none⟩, ⟨.pointer (some q5), [Vn], 27, none⟩, ⟨.pointer (some q4), [Vn], 26, none⟩]) (fun _ => rfl) rfl rfl) (wt_none' rfl) fun q11 => ?_
 refine s0 (rd_assign' rfl) ?_
 refine nk hK3 ?_
 refine cr fun K4 hK4 => ?_
 refine s0 (rd_move' rfl) ?_
 refine s0 (rd_mkfunc' (us := [.pointer (some q4), .pointer (some q5)]) rfl) ?_
 obtain ⟨r14, hr14, hp⟩ := bind_some hp
 refine sx_ox' (ox_callg' (ent_fn' Try.func38 isn38 rfl rfl) (vptree_Tree_Do_sim _ _ hr14 : Sx.Fn Try.prog 38 [(Vp q11), (Vl (.func (.func 39) #[] ⟨[.pointer (some q4), .pointer (some q5)]⟩))] [⟨.pointer (some q11), [(SG139 r11.1), (Vi r11.2)], 142, none⟩, ⟨.pointer (some q4), [Vn], 26, none⟩, ⟨.pointer (some q5), [Vn], 27, none⟩] (fun x : Gs × Gs => (Vb r14.2.2.2.2)) (fun x => [⟨.pointer (some q11), [(SG139 r14.1), (Vi r14.2.1)], 142, none⟩, ⟨.pointer (some q4), [(Vl (Vs x.1))], 26, none⟩, (Rw (Kl Kf) 25 (Vs x.1) r14.2.2.1), ⟨.pointer (some q5), [(Vl (Vs x.2))], 27, none⟩, (Rw (Ki .i64) 3 (Vs x.2) r14.2.2.2.1)])) [0, 3, 2] [1] (by decide) (pick_cons rfl (pick_cons rfl (pick_cons rfl pick_nil))) (pick_cons rfl pick_nil) (Hn := fun x : Gs × Gs => [⟨.pointer (some q11), [(SG139 r14.1), (Vi r14.2.1)], 142, none⟩, ⟨.pointer (some q4), [(Vl (Vs x.1))], 26, none⟩, (Rw (Kl Kf) 25 (Vs x.1) r14.2.2.1), ⟨.pointer (some q5), [(Vl (Vs x.2))], 27, none⟩, (Rw (Ki .i64) 3 (Vs x.2) r14.2.2.2.1), ⟨.pointer (some q6), [(Vb false)], 4, none⟩]) (fun _ => rfl) rfl rfl) (wt_none' rfl) fun ⟨g14, gz1⟩ => ?_
 refine nk hK4 ?_
 refine cx_seq' fun K5 hK5 => ?_
 refine cx_plan' [q5.block] [(2, 1), (3, 2), (4, 1)] [(0, 1), (1, 2), (2, 0), (3, 0), (4, 0)] mixed (by kernel_rfl) ?_
 refine px_rd' rfl (rd_load' (i := 1) (o := 0) rfl ⟨rfl, rfl, rfl, rfl⟩ rfl flat26) rfl rfl (wt_none' rfl) ?_
 refine px_rb' rfl (rb_load' (i := 3) (o := 0) rfl ⟨rfl, rfl, rfl, rfl⟩ rfl flat27 (by simp)) rfl rfl (wt_none' rfl) ?_
 refine px_oxv' rfl (oxv_store (i := 1) (o := 0) rfl rfl (lv_vl rfl rfl) ⟨rfl, rfl, rfl, rfl⟩ rfl info26 rfl (H' := [⟨.pointer (some q11), [(SG139 r14.1), (Vi r14.2.1)], 142, none⟩, ⟨.pointer (some q4), [(Vl (Vs g14))], 26, none⟩, (Rw (Kl Kf) 25 (Vs g14) r14.2.2.1), ⟨.pointer (some q5), [(Vl (Vs gz1))], 27, none⟩, (Rw (Ki .i64) 3 (Vs gz1) r14.2.2.2.1), ⟨.pointer (some q6), [(Vb false)], 4, none⟩]) rfl) rfl rfl (bo_cons (m := 3) (by decide) rfl rfl bo_nil) (wt_none' rfl) fun _ => ?_
 refine px_ox' rfl (ox_store' (i := 3) (o := 0) rfl rfl (lv_vl rfl rfl) ⟨rfl, rfl, rfl, rfl⟩ rfl info27 rfl (H' := [⟨.pointer (some q11), [(SG139 r14.1), (Vi r14.2.1)], 142, none⟩, ⟨.pointer (some q4), [(Vl (Vs g14))], 26, none⟩, (Rw (Kl Kf) 25 (Vs g14) r14.2.2.1), ⟨.pointer (some q5), [(Vl (Vs gz1))], 27, none⟩, (Rw (Ki .i64) 3 (Vs gz1) r14.2.2.2.1), ⟨.pointer (some q6), [(Vb false)], 4, none⟩]) rfl) rfl (bs_cons (m := 3) rfl rfl rfl bs_nil) (wt_none' rfl) fun _ => ?_
 refine px_oxv' rfl (oxv_store (i := 5) (o := 0) rfl rfl (lv_vl rfl rfl) ⟨rfl, rfl, rfl, rfl⟩ rfl info4 rfl (H' := [⟨.pointer (some q11), [(SG139 r14.1), (Vi r14.2.1)], 142, none⟩, ⟨.pointer (some q4), [(Vl (Vs g14))], 26, none⟩, (Rw (Kl Kf) 25 (Vs g14) r14.2.2.1), ⟨.pointer (some q5), [(Vl (Vs gz1))], 27, none⟩, (Rw (Ki .i64) 3 (Vs gz1) r14.2.2.2.1), ⟨.pointer (some q6), [(Vb true)], 4, none⟩]) rfl) rfl rfl (bo_cons (m := 3) (by decide) rfl rfl bo_nil) (wt_none' rfl) fun _ => ?_
 refine px_nil' ?_
 show TX E K5 _
 refine tx_k' hK5 ?_
 refine cx_retc' ?_
 replace hp := Option.some.inj hp
 subst hp
 refine tx_leave' (.inl rfl) rfl idle36 rfl Try.func36 isn36 rfl ?_
 refine tx_fz' (frz_row 2 [(15, (Vl (Vs g14)), (Sl (Kl Kf) r14.2.2.1))] (K := (Kl Kf)) (xs := r14.2.2.1) (by decide) rfl ⟨⟨rfl, frz_it⟩, trivial⟩ (H' := [⟨.pointer (some q11), [(SG139 r14.1), (Vi r14.2.1)], 142, none⟩, ⟨.pointer (some q4), [(Sl (Kl Kf) r14.2.2.1)], 26, none⟩, ⟨.pointer (some q5), [(Vl (Vs gz1))], 27, none⟩, (Rw (Ki .i64) 3 (Vs gz1) r14.2.2.2.1), ⟨.pointer (some q6), [(Vb true)], 4, none⟩]) (frzH_cons rfl rfl rfl frzL_refl (frzH_cons rfl rfl rfl (frzL_cons frz_it frzL_refl) (frzH_cons rfl rfl rfl frzL_refl (frzH_cons rfl rfl rfl frzL_refl (frzH_cons rfl rfl rfl frzL_refl frzH_refl)))))) ?_
 refine tx_fz' (frz_row 3 [(16, (Vl (Vs gz1)), (Sl (Ki .i64) r14.2.2.2.1))] (K := (Ki .i64)) (xs := r14.2.2.2.1) (by decide) rfl ⟨⟨rfl, frz_it⟩, trivial⟩ (H' := [⟨.pointer (some q11), [(SG139 r14.1), (Vi r14.2.1)], 142, none⟩, ⟨.pointer (some q4), [(Sl (Kl Kf) r14.2.2.1)], 26, none⟩, ⟨.pointer (some q5), [(Sl (Ki .i64) r14.2.2.2.1)], 27, none⟩, ⟨.pointer (some q6), [(Vb true)], 4, none⟩]) (frzH_cons rfl rfl rfl frzL_refl (frzH_cons rfl rfl rfl frzL_refl (frzH_cons rfl rfl rfl (frzL_cons frz_it frzL_refl) (frzH_cons rfl rfl rfl frzL_refl frzH_refl))))) ?_
 refine tx_pick' (L' := [(4, (Vp q4)), (5, (Vp q5)), (6, (Vp q6))]) (H' := [⟨.pointer (some q4), [(Sl (Kl Kf) r14.2.2.1)], 26, none⟩, ⟨.pointer (some q5), [(Sl (Ki .i64) r14.2.2.2.1)], 27, none⟩, ⟨.pointer (some q6), [(Vb true)], 4, none⟩]) [1, 2, 3] (sub_cons rfl (sub_cons rfl (sub_cons rfl sub_nil))) (by decide) (pick_cons rfl (pick_cons rfl (pick_cons rfl pick_nil))) ?_
 exact tx_ret3' Try.results10 rfl () (rv_cell' (i := 0) (o := 0) rfl ⟨rfl, rfl, rfl, rfl⟩ rfl flat26) (rv_cell' (i := 1) (o := 0) rfl ⟨rfl, rfl, rfl, rfl⟩ rfl flat27) (rv_cell' (i := 2) (o := 0) rfl ⟨rfl, rfl, rfl, rfl⟩ rfl flat4) rfl (List.nil_sublist _)

def spec_SamePoint_l1s (a0 : List Nat) (a1 : List Nat) (k : Nat) (rec1 : Int → Option (Unit ⊕ Unit)) (x1 : Int) : Option (Unit ⊕ Unit) :=
 br (decide (x1 < (a0.length : Int)))
  ((idx a0 x1) >>= fun r17 =>
  (idx a1 x1) >>= fun r22 =>
  br (fne r17 r22)
   (some (.inl ()))
   (rec1 (iadd .i64 x1 1)))
  (some (.inr ()))
def spec_SamePoint_l1 (a0 : List Nat) (a1 : List Nat) : Nat → Int → Option (Unit ⊕ Unit)
 | 0, _ => none
 | k + 1, v => spec_SamePoint_l1s a0 a1 k (spec_SamePoint_l1 a0 a1 k) v
def spec_SamePoint (k : Nat) (a0 : List Nat) (a1 : List Nat) : Option (Bool) :=
 br (!decide ((a0.length : Int) = (a1.length : Int)))
  (some false)
  ((spec_SamePoint_l1 a0 a1 k 0) >>= fun y1 => match y1 with
   | (.inl v2) =>
    (some false)
   | (.inr v3) =>
    (some true))

theorem spec_SamePoint_sim {k : Nat}  (a0 : List Nat) (a1 : List Nat) {out : Bool} (hp : spec_SamePoint k a0 a1 = some out) : Sx.Fn Try.prog 12 [(Sl Kf a0), (Sl Kf a1)] [] (fun w : Unit => (Vb out)) (fun w => []) := by
 unfold spec_SamePoint at hp
 refine fn_of Try.func12 rfl Try.ntmps12 rfl fun E hM => ?_
 refine cr fun K1 hK1 => ?_
 refine s0 (rd_assign' rfl) ?_
 refine nk hK1 ?_
 refine cx_seq' fun K2 hK2 => ?_
 refine cr fun K3 hK3 => ?_
 refine s0 (rd_move' rfl) ?_
 refine s0 (rd_len' rfl Try.underlying25) ?_
 refine s0 (rd_move' rfl) ?_
 refine s0 (rd_len' rfl Try.underlying25) ?_
 refine s0 (rd_bin' rfl rfl eg_int ru_neq) ?_
 refine nk hK3 ?_
 refine cx_cond' rfl (fun h1 => ?_) (fun h1 => ?_)
 ·replace hp := (br_t h1).symm.trans hp
  refine cr fun K4 hK4 => ?_
  refine s0 (rd_assign' rfl) ?_
  refine nk hK4 ?_
  refine cx_retc' ?_
  replace hp := Option.some.inj hp
  subst hp
  refine tx_pick' (L' := [(4, (Vb false))]) (H' := []) [] (sub_cons rfl sub_nil) (by decide) pick_nil ?_
  exact tx_ret1' Try.results12 rfl () (rv_tmp' rfl) (List.Sublist.refl _)
 replace hp := (br_f h1).symm.trans hp
 refine cx_skip' ?_
 show TX E K2 _
 refine tx_k' hK2 ?_
 refine cx_seq' fun K5 hK5 => ?_
 refine cr fun K6 hK6 => ?_
 refine s0 (rd_move' rfl) ?_
 refine s0 (rd_len' rfl Try.underlying25) ?_
 refine s0 (rd_move' rfl) ?_
 refine nk hK6 ?_
 refine cx_block' ?_
 obtain ⟨y1, hy1, hp⟩ := bind_some hp
 refine cx_loopg' (F := spec_SamePoint_l1 a0 a1) (G := fun k R v => spec_SamePoint_l1s a0 a1 k R v) (x := 0) (gh := ()) (fun (v1 : Int) (w1 : Unit) => (⟨26, [], [(1, (Sl Kf a1)), (12, (Sl Kf a0)), (13, (Vi (a0.length : Int))), (14, (Vi v1))], []⟩ : St)) (fun (y : Unit ⊕ Unit) => match y with | (.inl v2) => Zg E Exit.ret (fun (w2 : Unit) => (⟨26, [], [(4, (Vb false))], []⟩ : St)) | (.inr v3) => Zg E (Exit.exit 0) (fun (w3 : Unit) => (⟨26, [], [], []⟩ : St))) (fun _ => rfl) (fun _ _ => rfl) ?_ hy1 (tx_to' rfl [] (sub_cons rfl (sub_cons rfl (sub_cons rfl (sub_cons rfl sub_nil)))) (by decide) pick_nil) ?_
 ·clear hp hy1
  clear y1
  intro k rec1 KY1 ih1
  rintro x1 ⟨⟩ y1 hp
  replace hp : spec_SamePoint_l1s a0 a1 k rec1 x1 = some y1 := hp
  unfold spec_SamePoint_l1s at hp
  refine cr fun K13 hK13 => ?_
  refine s0 (rd_bin' rfl rfl eg_int ru_lss) ?_
  refine nk hK13 ?_
  refine cx_seq' fun K14 hK14 => ?_
  refine cx_cond' rfl (fun h5 => ?_) (fun h5 => ?_)
  ·replace hp := (br_t h5).symm.trans hp
   refine cx_skip' ?_
   show TX E K14 _
   refine tx_k' hK14 ?_
   refine cx_seq' fun K15 hK15 => ?_
   refine cx_block' ?_
   refine cr fun K16 hK16 => ?_
   refine s0 (rd_move' rfl) ?_
   obtain ⟨r17, hr17, hp⟩ := bind_some hp
   refine s0 (rd_at' (K := Kf) rfl rfl hr17 Try.underlying25 info33) ?_
   refine s0 (rd_load_pt' rfl rfl flat33) ?_
   refine s0 (rd_assign' rfl) ?_
   refine s0 (rd_assign' rfl) ?_
   refine nk hK16 ?_
   refine cr fun K17 hK17 => ?_
   refine s0 (rd_move' rfl) ?_
   refine s0 (rd_move' rfl) ?_
   refine s0 (rd_move' rfl) ?_
   obtain ⟨r22, hr22, hp⟩ := bind_some hp
   refine s0 (rd_at' (K := Kf) rfl rfl hr22 Try.underlying25 info33) ?_
   refine s0 (rd_load_pt' rfl rfl flat33) ?_
   refine s0 (rd_bin' rfl rfl eg_flt ru_fne) ?_
   refine nk hK17 ?_
   refine cx_cond' rfl (fun h6 => ?_) (fun h6 => ?_)
   ·replace hp := (br_t h6).symm.trans hp
    refine cr fun K18 hK18 => ?_
    refine s0 (rd_assign' rfl) ?_
    refine nk hK18 ?_
    refine cx_retc' ?_
    replace hp := Option.some.inj hp
    subst hp
    show TX E (Zg E Exit.ret _ Exit.ret) _
    exact tx_zend' () rfl [] (sub_cons rfl sub_nil) (by decide) pick_nil
   replace hp := (br_f h6).symm.trans hp
   refine cx_skip' ?_
   show TX E K15 _
   refine tx_k' hK15 ?_
   refine cx_region' ?_
   refine s0 (rd_bin' rfl rfl eg_int ru_add) ?_
   refine s0 (rd_move' rfl) ?_
   refine sx_nil' ?_
   show TX E (KY1 _) _
   exact tx_pick' [] (sub_cons rfl (sub_cons rfl (sub_cons rfl (sub_cons rfl sub_nil)))) (by decide) pick_nil (ih1 (iadd .i64 x1 1) () _ hp)
  replace hp := (br_f h5).symm.trans hp
  refine cx_exit' ?_
  replace hp := Option.some.inj hp
  subst hp
  show TX E (Zg E (Exit.exit 0) _ (Exit.exit 0)) _
  exact tx_zend' () rfl [] sub_nil (by decide) pick_nil
 rcases y1 with v2 | v3
 ·dsimp only at hp
  refine zg_out fun w2 => ?_
  replace hp := Option.some.inj hp
  subst hp
  refine tx_pick' (L' := [(4, (Vb false))]) (H' := []) [] (sub_cons rfl sub_nil) (by decide) pick_nil ?_
  exact tx_ret1' Try.results12 rfl () (rv_tmp' rfl) (List.Sublist.refl _)
 dsimp only at hp
 refine zg_out fun w3 => ?_
 show TX E K5 _
 refine tx_k' hK5 ?_
 refine cr fun K19 hK19 => ?_
 refine s0 (rd_assign' rfl) ?_
 refine nk hK19 ?_
 refine cx_retc' ?_
 replace hp := Option.some.inj hp
 subst hp
 refine tx_pick' (L' := [(4, (Vb true))]) (H' := []) [] (sub_cons rfl sub_nil) (by decide) pick_nil ?_
 exact tx_ret1' Try.results12 rfl () (rv_tmp' rfl) (List.Sublist.refl _)

def laws_FnVDo_j6 (k : Nat) (rec1 : Int → Option (Unit ⊕ Unit)) (x7 : Int) (x6 : Bool) : Option (Unit ⊕ Unit) :=
 br x6
  (some (.inl ()))
  (rec1 (iadd .i64 x7 1))
def laws_FnVDo_l1s (r42 : (List Int) × (List Int) × Bool) (r35 : (List (List Nat)) × (List Int) × Bool) (a0 : List ((List Nat) × Nat × Int × Int)) (k : Nat) (rec1 : Int → Option (Unit ⊕ Unit)) (x7 : Int) : Option (Unit ⊕ Unit) :=
 br (decide (x7 < (r42.1.length : Int)))
  ((idx r42.1 x7) >>= fun r67 =>
  (idx r35.2.1 x7) >>= fun r71 =>
  (idx r42.2.1 x7) >>= fun r75 =>
  br (!decide (r71 = r75))
   (laws_FnVDo_j6 k rec1 x7 true)
   ((idx r35.1 x7) >>= fun r81 =>
   (idx a0 r67) >>= fun r85 =>
   (spec_SamePoint k r81 r85.1) >>= fun r88 =>
   laws_FnVDo_j6 k rec1 x7 (!r88)))
  (some (.inr ()))
def laws_FnVDo_l1 (r42 : (List Int) × (List Int) × Bool) (r35 : (List (List Nat)) × (List Int) × Bool) (a0 : List ((List Nat) × Nat × Int × Int)) : Nat → Int → Option (Unit ⊕ Unit)
 | 0, _ => none
 | k + 1, v => laws_FnVDo_l1s r42 r35 a0 k (laws_FnVDo_l1 r42 r35 a0 k) v
def laws_FnVDo_j4 (k : Nat) (r42 : (List Int) × (List Int) × Bool) (r35 : (List (List Nat)) × (List Int) × Bool) (a0 : List ((List Nat) × Nat × Int × Int)) (x4 : Bool) : Option (Bool) :=
 br x4
  (some false)
  ((laws_FnVDo_l1 r42 r35 a0 k 0) >>= fun y1 => match y1 with
   | (.inl v8) =>
    (some false)
   | (.inr v9) =>
    (some true))
def laws_FnVDo_j3 (k : Nat) (r42 : (List Int) × (List Int) × Bool) (r35 : (List (List Nat)) × (List Int) × Bool) (a0 : List ((List Nat) × Nat × Int × Int)) (x3 : Bool) : Option (Bool) :=
 br x3
  (laws_FnVDo_j4 k r42 r35 a0 true)
  (laws_FnVDo_j4 k r42 r35 a0 (!decide ((r35.2.1.length : Int) = (r42.1.length : Int))))
def laws_FnVDo_j2 (k : Nat) (a0 : List ((List Nat) × Nat × Int × Int)) (a1 : Int) (x2 : Bool) : Option (Bool) :=
 br x2
  (some true)
  ((impl_VDo k a0 a1) >>= fun r35 =>
  (spec_VWalk k a0 a1) >>= fun r42 =>
  br (!r35.2.2)
   (laws_FnVDo_j3 k r42 r35 a0 true)
   (laws_FnVDo_j3 k r42 r35 a0 (!decide ((r35.1.length : Int) = (r42.1.length : Int)))))
def laws_FnVDo_j1 (k : Nat) (a0 : List ((List Nat) × Nat × Int × Int)) (a1 : Int) (a2 : Int) (x1 : Bool) : Option (Bool) :=
 br x1
  (laws_FnVDo_j2 k a0 a1 true)
  ((mk 8 0 a2 a2) >>= fun r28 =>
  (laws_vp k a0 a1 r28) >>= fun r29 =>
  laws_FnVDo_j2 k a0 a1 (!r29))
def laws_FnVDo (k : Nat) (a0 : List ((List Nat) × Nat × Int × Int)) (a1 : Int) (a2 : Int) : Option (Bool) :=
 (laws_zzFits10 k a0) >>= fun r16 =>
 br (!r16)
  (some true)
  (br (decide (a2 < 1))
   (laws_FnVDo_j1 k a0 a1 a2 true)
   (laws_FnVDo_j1 k a0 a1 a2 (decide (6 < a2))))

theorem laws_FnVDo_sim {k : Nat}  (a0 : List ((List Nat) × Nat × Int × Int)) (a1 : Int) (a2 : Int) {out : Bool} (hp : laws_FnVDo k a0 a1 a2 = some out) : Sx.Fn Try.prog 3 [(Sl KT35 a0), (Vi a1), (Vi a2)] [] (fun w : Unit => (Vb out)) (fun w => []) := by
 unfold laws_FnVDo at hp
 refine fn_of Try.func3 rfl Try.ntmps3 rfl fun E hM => ?_
 refine cr fun K1 hK1 => ?_
 refine s0 (rd_assign' rfl) ?_
 refine nk hK1 ?_
 refine cx_seq' fun K2 hK2 => ?_
 refine cr fun K3 hK3 => ?_
 refine s0 (rd_move' rfl) ?_
 obtain ⟨r16, hr16, hp⟩ := bind_some hp
 refine sx_ox' (ox_calln' (ent_fn' Try.func8 isn8 rfl rfl) (laws_zzFits10_sim _ hr16 : Sx.Fn Try.prog 8 [(Sl KT35 a0)] [] (fun x : Unit => (Vb r16)) (fun x => [])) (Hn := fun x : Unit => []) (fun _ => rfl) rfl rfl) (wt_none' rfl) fun ⟨⟩ => ?_
 refine s0 (rd_un' rfl ru_not) ?_
 refine nk hK3 ?_
 refine cx_cond' rfl (fun h1 => ?_) (fun h1 => ?_)
 ·replace hp := (br_t h1).symm.trans hp
  refine cr fun K4 hK4 => ?_
  refine s0 (rd_assign' rfl) ?_
  refine nk hK4 ?_
  refine cx_retc' ?_
  replace hp := Option.some.inj hp
  subst hp
  refine tx_pick' (L' := [(6, (Vb true))]) (H' := []) [] (sub_cons rfl sub_nil) (by decide) pick_nil ?_
  exact tx_ret1' Try.results3 rfl () (rv_tmp' rfl) (List.Sublist.refl _)
 replace hp := (br_f h1).symm.trans hp
 refine cx_skip' ?_
 show TX E K2 _
 refine tx_k' hK2 ?_
 refine cx_seq' fun K5 hK5 => ?_
 refine cr fun K6 hK6 => ?_
 refine s0 (rd_move' rfl) ?_
 refine s0 (rd_bin' rfl rfl eg_int ru_lss) ?_
 refine s0 (rd_move' rfl) ?_
 refine sx_cutn' 3 (fun (v1 : Bool) => (⟨92, [], [(0, (Sl KT35 a0)), (1, (Vi a1)), (2, (Vi a2)), (23, (Vb v1))], []⟩ : St)) (fun (v1 : Bool) => laws_FnVDo_j1 k a0 a1 a2 v1 = some out) ?_ ?_
 ·rintro x1 hp
  replace hp : laws_FnVDo_j1 k a0 a1 a2 x1 = some out := hp
  unfold laws_FnVDo_j1 at hp
  refine s0 (rd_move' rfl) ?_
  refine sx_cutn' 7 (fun (v2 : Bool) => (⟨92, [], [(0, (Sl KT35 a0)), (1, (Vi a1)), (31, (Vb v2))], []⟩ : St)) (fun (v2 : Bool) => laws_FnVDo_j2 k a0 a1 v2 = some out) ?_ ?_
  ·rintro x2 hp
   replace hp : laws_FnVDo_j2 k a0 a1 x2 = some out := hp
   unfold laws_FnVDo_j2 at hp
   refine nk hK6 ?_
   refine cx_cond' rfl (fun h4 => ?_) (fun h4 => ?_)
   ·replace hp := (br_t h4).symm.trans hp
    refine cr fun K9 hK9 => ?_
    refine s0 (rd_assign' rfl) ?_
    refine nk hK9 ?_
    refine cx_retc' ?_
    replace hp := Option.some.inj hp
    subst hp
    refine tx_pick' (L' := [(6, (Vb true))]) (H' := []) [] (sub_cons rfl sub_nil) (by decide) pick_nil ?_
    exact tx_ret1' Try.results3 rfl () (rv_tmp' rfl) (List.Sublist.refl _)
   replace hp := (br_f h4).symm.trans hp
   refine cx_skip' ?_
   show TX E K5 _
   refine tx_k' hK5 ?_
   refine cr fun K10 hK10 => ?_
   refine s0 (rd_move' rfl) ?_
   refine s0 (rd_move' rfl) ?_
   obtain ⟨r35, hr35, hp⟩ := bind_some hp
   refine sx_ox' (ox_calln' (ent_fn' Try.func10 isn10 rfl rfl) (impl_VDo_sim _ _ hr35 : Sx.Fn Try.prog 10 [(Sl KT35 a0), (Vi a1)] [] (fun x : Unit => (Tu [(Sl (Kl Kf) r35.1), (Sl (Ki .i64) r35.2.1), (Vb r35.2.2)])) (fun x => [])) (Hn := fun x : Unit => []) (fun _ => rfl) rfl rfl) (wt_none' rfl) fun ⟨⟩ => ?_
   refine s0 (rd_move' rfl) ?_
   refine s0 (rd_extract' rfl rfl) ?_
   refine s0 (rd_extract' rfl rfl) ?_
   refine s0 (rd_extract' rfl rfl) ?_
   refine s0 (rd_assign' rfl) ?_
   refine s0 (rd_assign' rfl) ?_
   refine s0 (rd_assign' rfl) ?_
   refine nk hK10 ?_
   refine cr fun K11 hK11 => ?_
   refine s0 (rd_move' rfl) ?_
   refine s0 (rd_move' rfl) ?_
   obtain ⟨r42, hr42, hp⟩ := bind_some hp
   refine sx_ox' (ox_calln' (ent_fn' Try.func11 isn11 rfl rfl) (spec_VWalk_sim _ _ hr42 : Sx.Fn Try.prog 11 [(Sl KT35 a0), (Vi a1)] [] (fun x : Unit => (Tu [(Sl (Ki .i64) r42.1), (Sl (Ki .i64) r42.2.1), (Vb r42.2.2)])) (fun x => [])) (Hn := fun x : Unit => []) (fun _ => rfl) rfl rfl) (wt_none' rfl) fun ⟨⟩ => ?_
   refine s0 (rd_move' rfl) ?_
   refine s0 (rd_extract' rfl rfl) ?_
   refine s0 (rd_extract' rfl rfl) ?_
   refine s0 (rd_extract' rfl rfl) ?_
   refine s0 (rd_assign' rfl) ?_
   refine s0 (rd_assign' rfl) ?_
   refine s0 (rd_assign' rfl) ?_
   refine nk hK11 ?_
   refine cx_seq' fun K12 hK12 => ?_
   refine cr fun K13 hK13 => ?_
   refine s0 (rd_move' rfl) ?_
   refine s0 (rd_un' rfl ru_not) ?_
   refine s0 (rd_move' rfl) ?_
   refine sx_cutn' 6 (fun (v3 : Bool) => (⟨92, [], [(0, (Sl KT35 a0)), (7, (Sl (Kl Kf) r35.1)), (8, (Sl (Ki .i64) r35.2.1)), (10, (Sl (Ki .i64) r42.1)), (11, (Sl (Ki .i64) r42.2.1)), (54, (Vb v3))], []⟩ : St)) (fun (v3 : Bool) => laws_FnVDo_j3 k r42 r35 a0 v3 = some out) ?_ ?_
   ·rintro x3 hp
    replace hp : laws_FnVDo_j3 k r42 r35 a0 x3 = some out := hp
    unfold laws_FnVDo_j3 at hp
    refine s0 (rd_move' rfl) ?_
    refine sx_cutn' 6 (fun (v4 : Bool) => (⟨92, [], [(0, (Sl KT35 a0)), (7, (Sl (Kl Kf) r35.1)), (8, (Sl (Ki .i64) r35.2.1)), (10, (Sl (Ki .i64) r42.1)), (11, (Sl (Ki .i64) r42.2.1)), (61, (Vb v4))], []⟩ : St)) (fun (v4 : Bool) => laws_FnVDo_j4 k r42 r35 a0 v4 = some out) ?_ ?_
    ·rintro x4 hp
     replace hp : laws_FnVDo_j4 k r42 r35 a0 x4 = some out := hp
     unfold laws_FnVDo_j4 at hp
     refine nk hK13 ?_
     refine cx_cond' rfl (fun h7 => ?_) (fun h7 => ?_)
     ·replace hp := (br_t h7).symm.trans hp
      refine cr fun K16 hK16 => ?_
      refine s0 (rd_assign' rfl) ?_
      refine nk hK16 ?_
      refine cx_retc' ?_
      replace hp := Option.some.inj hp
      subst hp
      refine tx_pick' (L' := [(6, (Vb false))]) (H' := []) [] (sub_cons rfl sub_nil) (by decide) pick_nil ?_
      exact tx_ret1' Try.results3 rfl () (rv_tmp' rfl) (List.Sublist.refl _)
     replace hp := (br_f h7).symm.trans hp
     refine cx_skip' ?_
     show TX E K12 _
     refine tx_k' hK12 ?_
     refine cx_seq' fun K17 hK17 => ?_
     refine cr fun K18 hK18 => ?_
     refine s0 (rd_move' rfl) ?_
     refine s0 (rd_len' rfl Try.underlying27) ?_
     refine s0 (rd_move' rfl) ?_
     refine nk hK18 ?_
     refine cx_block' ?_
     obtain ⟨y1, hy1, hp⟩ := bind_some hp
     refine cx_loopg' (F := laws_FnVDo_l1 r42 r35 a0) (G := fun k R v => laws_FnVDo_l1s r42 r35 a0 k R v) (x := 0) (gh := ()) (fun (v6 : Int) (w6 : Unit) => (⟨92, [], [(0, (Sl KT35 a0)), (7, (Sl (Kl Kf) r35.1)), (8, (Sl (Ki .i64) r35.2.1)), (11, (Sl (Ki .i64) r42.2.1)), (62, (Sl (Ki .i64) r42.1)), (63, (Vi (r42.1.length : Int))), (64, (Vi v6))], []⟩ : St)) (fun (y : Unit ⊕ Unit) => match y with | (.inl v8) => Zg E Exit.ret (fun (w8 : Unit) => (⟨92, [], [(6, (Vb false))], []⟩ : St)) | (.inr v9) => Zg E (Exit.exit 0) (fun (w9 : Unit) => (⟨92, [], [], []⟩ : St))) (fun _ => rfl) (fun _ _ => rfl) ?_ hy1 (tx_to' rfl [] (sub_cons rfl (sub_cons rfl (sub_cons rfl (sub_cons rfl (sub_cons rfl (sub_cons rfl (sub_cons rfl sub_nil))))))) (by decide) pick_nil) ?_
     ·clear hp hy1
      clear y1
      intro k rec1 KY1 ih1
      rintro x7 ⟨⟩ y1 hp
      replace hp : laws_FnVDo_l1s r42 r35 a0 k rec1 x7 = some y1 := hp
      unfold laws_FnVDo_l1s at hp
      refine cr fun K26 hK26 => ?_
      refine s0 (rd_bin' rfl rfl eg_int ru_lss) ?_
      refine nk hK26 ?_
      refine cx_seq' fun K27 hK27 => ?_
      refine cx_cond' rfl (fun h12 => ?_) (fun h12 => ?_)
      ·replace hp := (br_t h12).symm.trans hp
       refine cx_skip' ?_
       show TX E K27 _
       refine tx_k' hK27 ?_
       refine cx_seq' fun K28 hK28 => ?_
       refine cx_block' ?_
       refine cr fun K29 hK29 => ?_
       refine s0 (rd_move' rfl) ?_
       obtain ⟨r67, hr67, hp⟩ := bind_some hp
       refine s0 (rd_at' (K := (Ki .i64)) rfl rfl hr67 Try.underlying27 info3) ?_
       refine s0 (rd_load_pt' rfl rfl flat3) ?_
       refine s0 (rd_assign' rfl) ?_
       refine s0 (rd_assign' rfl) ?_
       refine nk hK29 ?_
       refine cx_seq' fun K30 hK30 => ?_
       refine cx_plan' [] [] [(0, 1), (1, 1), (2, 1), (3, 1), (4, 1), (5, 1), (6, 1), (7, 1), (8, 1), (9, 1), (10, 1), (11, 1), (12, 1), (13, 1), (14, 1), (15, 1), (16, 1), (17, 1), (18, 1), (19, 0), (20, 1), (21, 1)] mixed (by kernel_rfl) ?_
       refine px_rd' rfl (rd_move' rfl) rfl rfl (wt_none' rfl) ?_
       refine px_rd' rfl (rd_move' rfl) rfl rfl (wt_none' rfl) ?_
       obtain ⟨r71, hr71, hp⟩ := bind_some hp
       refine px_rd' rfl (rd_at' (K := (Ki .i64)) rfl rfl hr71 Try.underlying27 info3) rfl rfl (wt_none' rfl) ?_
       refine px_rd' rfl (rd_load_pt' rfl rfl flat3) rfl rfl (wt_none' rfl) ?_
       refine px_rd' rfl (rd_move' rfl) rfl rfl (wt_none' rfl) ?_
       refine px_rd' rfl (rd_move' rfl) rfl rfl (wt_none' rfl) ?_
       obtain ⟨r75, hr75, hp⟩ := bind_some hp
       refine px_rd' rfl (rd_at' (K := (Ki .i64)) rfl rfl hr75 Try.underlying27 info3) rfl rfl (wt_none' rfl) ?_
       refine px_rd' rfl (rd_load_pt' rfl rfl flat3) rfl rfl (wt_none' rfl) ?_
       refine px_rd' rfl (rd_bin' rfl rfl eg_int ru_neq) rfl rfl (wt_none' rfl) ?_
       refine px_rd' rfl (rd_move' rfl) rfl rfl (wt_none' rfl) ?_
       refine px_cutn' 12 (fun (v7 : Bool) => (⟨92, [], [(0, (Sl KT35 a0)), (7, (Sl (Kl Kf) r35.1)), (8, (Sl (Ki .i64) r35.2.1)), (11, (Sl (Ki .i64) r42.2.1)), (62, (Sl (Ki .i64) r42.1)), (63, (Vi (r42.1.length : Int))), (64, (Vi x7)), (90, (Vb v7))], []⟩ : St)) (fun (v7 : Bool) => laws_FnVDo_j6 k rec1 x7 v7 = some y1) ?_ ?_
       ·rintro x6 hp
        replace hp : laws_FnVDo_j6 k rec1 x7 x6 = some y1 := hp
        unfold laws_FnVDo_j6 at hp
        refine px_nil' ?_
        show TX E K30 _
        refine tx_k' hK30 ?_
        refine cx_cond' rfl (fun h14 => ?_) (fun h14 => ?_)
        ·replace hp := (br_t h14).symm.trans hp
         refine cr fun K32 hK32 => ?_
         refine s0 (rd_assign' rfl) ?_
         refine nk hK32 ?_
         refine cx_retc' ?_
         replace hp := Option.some.inj hp
         subst hp
         show TX E (Zg E Exit.ret _ Exit.ret) _
         exact tx_zend' () rfl [] (sub_cons rfl sub_nil) (by decide) pick_nil
        replace hp := (br_f h14).symm.trans hp
        refine cx_skip' ?_
        show TX E K28 _
        refine tx_k' hK28 ?_
        refine cx_region' ?_
        refine s0 (rd_bin' rfl rfl eg_int ru_add) ?_
        refine s0 (rd_move' rfl) ?_
        refine sx_nil' ?_
        show TX E (KY1 _) _
        exact tx_pick' [] (sub_cons rfl (sub_cons rfl (sub_cons rfl (sub_cons rfl (sub_cons rfl (sub_cons rfl (sub_cons rfl sub_nil))))))) (by decide) pick_nil (ih1 (iadd .i64 x7 1) () _ hp)
       intro K31 hK31
       rcases br_cases hp with ⟨h13, hp⟩ | ⟨h13, hp⟩
       ·refine px_skip' rfl rfl rfl (wt_is' (wt_guard' rfl rfl rfl) (beq_tf h13)) ?_
        refine px_skip' rfl rfl rfl (wt_is' (wt_guard' rfl rfl rfl) (beq_tf h13)) ?_
        refine px_skip' rfl rfl rfl (wt_is' (wt_guard' rfl rfl rfl) (beq_tf h13)) ?_
        refine px_skip' rfl rfl rfl (wt_is' (wt_guard' rfl rfl rfl) (beq_tf h13)) ?_
        refine px_skip' rfl rfl rfl (wt_is' (wt_guard' rfl rfl rfl) (beq_tf h13)) ?_
        refine px_skip' rfl rfl rfl (wt_is' (wt_guard' rfl rfl rfl) (beq_tf h13)) ?_
        refine px_skip' rfl rfl rfl (wt_is' (wt_guard' rfl rfl rfl) (beq_tf h13)) ?_
        refine px_skip' rfl rfl rfl (wt_is' (wt_guard' rfl rfl rfl) (beq_tf h13)) ?_
        refine px_skip' rfl rfl rfl (wt_is' (wt_guard' rfl rfl rfl) (beq_tf h13)) ?_
        refine px_oskip' rfl rfl rfl (wt_is' (wt_guard' rfl rfl rfl) (beq_tf h13)) ?_
        refine px_skip' rfl rfl rfl (wt_is' (wt_guard' rfl rfl rfl) (beq_tf h13)) ?_
        refine px_rd' rfl (rd_pick_true' rfl h13 rfl) rfl rfl (wt_none' rfl) ?_
        refine px_nil' ?_
        show TX E K31 _
        exact tx_pick' [] (sub_cons rfl (sub_cons rfl (sub_cons rfl (sub_cons rfl (sub_cons rfl (sub_cons rfl (sub_cons rfl (sub_cons rfl sub_nil)))))))) (by decide) pick_nil (hK31 true hp)
       refine px_rd' rfl (rd_move' rfl) rfl rfl (wt_is' (wt_guard' rfl rfl rfl) (beq_ff h13)) ?_
       refine px_rd' rfl (rd_move' rfl) rfl rfl (wt_is' (wt_guard' rfl rfl rfl) (beq_ff h13)) ?_
       obtain ⟨r81, hr81, hp⟩ := bind_some hp
       refine px_rd' rfl (rd_at' (K := (Kl Kf)) rfl rfl hr81 Try.underlying26 info25) rfl rfl (wt_is' (wt_guard' rfl rfl rfl) (beq_ff h13)) ?_
       refine px_rd' rfl (rd_load_pt' rfl rfl flat25) rfl rfl (wt_is' (wt_guard' rfl rfl rfl) (beq_ff h13)) ?_
       refine px_rd' rfl (rd_move' rfl) rfl rfl (wt_is' (wt_guard' rfl rfl rfl) (beq_ff h13)) ?_
       refine px_rd' rfl (rd_move' rfl) rfl rfl (wt_is' (wt_guard' rfl rfl rfl) (beq_ff h13)) ?_
       obtain ⟨r85, hr85, hp⟩ := bind_some hp
       refine px_rd' rfl (rd_at' (K := KT35) rfl rfl hr85 Try.underlying22 info35) rfl rfl (wt_is' (wt_guard' rfl rfl rfl) (beq_ff h13)) ?_
       refine px_rd' rfl (rd_field_pt' (off := 0) rfl Try.underlying35 rfl info25 rfl (l' := [(Sl Kf r85.1), (Vg r85.2.1), (Vi r85.2.2.1), (Vi r85.2.2.2)]) rfl) rfl rfl (wt_is' (wt_guard' rfl rfl rfl) (beq_ff h13)) ?_
       refine px_rd' rfl (rd_load_pt' rfl rfl flat25) rfl rfl (wt_is' (wt_guard' rfl rfl rfl) (beq_ff h13)) ?_
       obtain ⟨r88, hr88, hp⟩ := bind_some hp
       refine px_ox' rfl (ox_calln' (ent_fn' Try.func12 isn12 rfl rfl) (spec_SamePoint_sim _ _ hr88 : Sx.Fn Try.prog 12 [(Sl Kf r81), (Sl Kf r85.1)] [] (fun x : Unit => (Vb r88)) (fun x => [])) (Hn := fun x : Unit => []) (fun _ => rfl) rfl rfl) rfl bs_nil (wt_is' (wt_guard' rfl rfl rfl) (beq_ff h13)) fun ⟨⟩ => ?_
       refine px_rd' rfl (rd_un' rfl ru_not) rfl rfl (wt_is' (wt_guard' rfl rfl rfl) (beq_ff h13)) ?_
       refine px_rd' rfl (rd_pick_false' rfl h13 rfl) rfl rfl (wt_none' rfl) ?_
       refine px_nil' ?_
       show TX E K31 _
       exact tx_pick' [] (sub_cons rfl (sub_cons rfl (sub_cons rfl (sub_cons rfl (sub_cons rfl (sub_cons rfl (sub_cons rfl (sub_cons rfl sub_nil)))))))) (by decide) pick_nil (hK31 (!r88) hp)
      replace hp := (br_f h12).symm.trans hp
      refine cx_exit' ?_
      replace hp := Option.some.inj hp
      subst hp
      show TX E (Zg E (Exit.exit 0) _ (Exit.exit 0)) _
      exact tx_zend' () rfl [] sub_nil (by decide) pick_nil
     rcases y1 with v8 | v9
     ·dsimp only at hp
      refine zg_out fun w8 => ?_
      replace hp := Option.some.inj hp
      subst hp
      refine tx_pick' (L' := [(6, (Vb false))]) (H' := []) [] (sub_cons rfl sub_nil) (by decide) pick_nil ?_
      exact tx_ret1' Try.results3 rfl () (rv_tmp' rfl) (List.Sublist.refl _)
     dsimp only at hp
     refine zg_out fun w9 => ?_
     show TX E K17 _
     refine tx_k' hK17 ?_
     refine cr fun K33 hK33 => ?_
     refine s0 (rd_assign' rfl) ?_
     refine nk hK33 ?_
     refine cx_retc' ?_
     replace hp := Option.some.inj hp
     subst hp
     refine tx_pick' (L' := [(6, (Vb true))]) (H' := []) [] (sub_cons rfl sub_nil) (by decide) pick_nil ?_
     exact tx_ret1' Try.results3 rfl () (rv_tmp' rfl) (List.Sublist.refl _)
    intro K15 hK15
    rcases br_cases hp with ⟨h6, hp⟩ | ⟨h6, hp⟩
    ·refine sx_skip' rfl rfl (wt_is' (wt_guard' rfl rfl rfl) (beq_tf h6)) ?_
     refine sx_skip' rfl rfl (wt_is' (wt_guard' rfl rfl rfl) (beq_tf h6)) ?_
     refine sx_skip' rfl rfl (wt_is' (wt_guard' rfl rfl rfl) (beq_tf h6)) ?_
     refine sx_skip' rfl rfl (wt_is' (wt_guard' rfl rfl rfl) (beq_tf h6)) ?_
     refine sx_skip' rfl rfl (wt_is' (wt_guard' rfl rfl rfl) (beq_tf h6)) ?_
     refine s0 (rd_pick_true' rfl h6 rfl) ?_
     refine sx_nil' ?_
     show TX E K15 _
     exact tx_pick' [] (sub_cons rfl (sub_cons rfl (sub_cons rfl (sub_cons rfl (sub_cons rfl (sub_cons rfl sub_nil)))))) (by decide) pick_nil (hK15 true hp)
    refine sx_rd' (rd_move' rfl) rfl rfl (wt_is' (wt_guard' rfl rfl rfl) (beq_ff h6)) ?_
    refine sx_rd' (rd_len' rfl Try.underlying27) rfl rfl (wt_is' (wt_guard' rfl rfl rfl) (beq_ff h6)) ?_
    refine sx_rd' (rd_move' rfl) rfl rfl (wt_is' (wt_guard' rfl rfl rfl) (beq_ff h6)) ?_
    refine sx_rd' (rd_len' rfl Try.underlying27) rfl rfl (wt_is' (wt_guard' rfl rfl rfl) (beq_ff h6)) ?_
    refine sx_rd' (rd_bin' rfl rfl eg_int ru_neq) rfl rfl (wt_is' (wt_guard' rfl rfl rfl) (beq_ff h6)) ?_
    refine s0 (rd_pick_false' rfl h6 rfl) ?_
    refine sx_nil' ?_
    show TX E K15 _
    exact tx_pick' [] (sub_cons rfl (sub_cons rfl (sub_cons rfl (sub_cons rfl (sub_cons rfl (sub_cons rfl sub_nil)))))) (by decide) pick_nil (hK15 (!decide ((r35.2.1.length : Int) = (r42.1.length : Int))) hp)
   intro K14 hK14
   rcases br_cases hp with ⟨h5, hp⟩ | ⟨h5, hp⟩
   ·refine sx_skip' rfl rfl (wt_is' (wt_guard' rfl rfl rfl) (beq_tf h5)) ?_
    refine sx_skip' rfl rfl (wt_is' (wt_guard' rfl rfl rfl) (beq_tf h5)) ?_
    refine sx_skip' rfl rfl (wt_is' (wt_guard' rfl rfl rfl) (beq_tf h5)) ?_
    refine sx_skip' rfl rfl (wt_is' (wt_guard' rfl rfl rfl) (beq_tf h5)) ?_
    refine sx_skip' rfl rfl (wt_is' (wt_guard' rfl rfl rfl) (beq_tf h5)) ?_
    refine s0 (rd_pick_true' rfl h5 rfl) ?_
    refine sx_nil' ?_
    show TX E K14 _
    exact tx_pick' [] (sub_cons rfl (sub_cons rfl (sub_cons rfl (sub_cons rfl (sub_cons rfl (sub_cons rfl sub_nil)))))) (by decide) pick_nil (hK14 true hp)
   refine sx_rd' (rd_move' rfl) rfl rfl (wt_is' (wt_guard' rfl rfl rfl) (beq_ff h5)) ?_
   refine sx_rd' (rd_len' rfl Try.underlying26) rfl rfl (wt_is' (wt_guard' rfl rfl rfl) (beq_ff h5)) ?_
   refine sx_rd' (rd_move' rfl) rfl rfl (wt_is' (wt_guard' rfl rfl rfl) (beq_ff h5)) ?_
   refine sx_rd' (rd_len' rfl Try.underlying27) rfl rfl (wt_is' (wt_guard' rfl rfl rfl) (beq_ff h5)) ?_
   refine sx_rd' (rd_bin' rfl rfl eg_int ru_neq) rfl rfl (wt_is' (wt_guard' rfl rfl rfl) (beq_ff h5)) ?_
   refine s0 (rd_pick_false' rfl h5 rfl) ?_
   refine sx_nil' ?_
   show TX E K14 _
   exact tx_pick' [] (sub_cons rfl (sub_cons rfl (sub_cons rfl (sub_cons rfl (sub_cons rfl (sub_cons rfl sub_nil)))))) (by decide) pick_nil (hK14 (!decide ((r35.1.length : Int) = (r42.1.length : Int))) hp)
  intro K8 hK8
  rcases br_cases hp with ⟨h3, hp⟩ | ⟨h3, hp⟩
  ·refine sx_skip' rfl rfl (wt_is' (wt_guard' rfl rfl rfl) (beq_tf h3)) ?_
   refine sx_skip' rfl rfl (wt_is' (wt_guard' rfl rfl rfl) (beq_tf h3)) ?_
   refine sx_skip' rfl rfl (wt_is' (wt_guard' rfl rfl rfl) (beq_tf h3)) ?_
   refine sx_skip' rfl rfl (wt_is' (wt_guard' rfl rfl rfl) (beq_tf h3)) ?_
   refine sx_skip' rfl rfl (wt_is' (wt_guard' rfl rfl rfl) (beq_tf h3)) ?_
   refine sx_skip' rfl rfl (wt_is' (wt_guard' rfl rfl rfl) (beq_tf h3)) ?_
   refine s0 (rd_pick_true' rfl h3 rfl) ?_
   refine sx_nil' ?_
   show TX E K8 _
   exact tx_pick' [] (sub_cons rfl (sub_cons rfl (sub_cons rfl sub_nil))) (by decide) pick_nil (hK8 true hp)
  refine sx_rd' (rd_move' rfl) rfl rfl (wt_is' (wt_guard' rfl rfl rfl) (beq_ff h3)) ?_
  refine sx_rd' (rd_move' rfl) rfl rfl (wt_is' (wt_guard' rfl rfl rfl) (beq_ff h3)) ?_
  refine sx_rd' (rd_move' rfl) rfl rfl (wt_is' (wt_guard' rfl rfl rfl) (beq_ff h3)) ?_
  obtain ⟨r28, hr28, hp⟩ := bind_some hp
  refine sx_ox' (ox_make' (K := Kf) rfl rfl hr28 rfl Try.underlying25 info33 rfl rfl rfl rfl rfl) (wt_is' (wt_guard' rfl rfl rfl) (beq_ff h3)) fun g28 => ?_
  obtain ⟨r29, hr29, hp⟩ := bind_some hp
  refine sx_ox' (ox_brw' (frz_row 0 [(28, (Vl (Vs g28)), (Sl Kf r28))] (K := Kf) (xs := r28) (by decide) rfl ⟨⟨rfl, frz_it⟩, trivial⟩ (H' := []) frzH_refl) (ent_fn' Try.func9 isn9 rfl rfl) (laws_vp_sim _ _ _ hr29 : Sx.Fn Try.prog 9 [(Sl KT35 a0), (Vi a1), (Sl Kf r28)] [] (fun x : Unit => (Vb r29)) (fun x => [])) pu_vl rfl rfl) (wt_is' (wt_guard' rfl rfl rfl) (beq_ff h3)) fun ⟨⟩ => ?_
  refine sx_rd' (rd_un' rfl ru_not) rfl rfl (wt_is' (wt_guard' rfl rfl rfl) (beq_ff h3)) ?_
  refine s0 (rd_pick_false' rfl h3 rfl) ?_
  refine sx_nil' ?_
  show TX E K8 _
  exact tx_pick' [] (sub_cons rfl (sub_cons rfl (sub_cons rfl sub_nil))) (by decide) pick_nil (hK8 (!r29) hp)
 intro K7 hK7
 rcases br_cases hp with ⟨h2, hp⟩ | ⟨h2, hp⟩
 ·refine sx_skip' rfl rfl (wt_is' (wt_guard' rfl rfl rfl) (beq_tf h2)) ?_
  refine sx_skip' rfl rfl (wt_is' (wt_guard' rfl rfl rfl) (beq_tf h2)) ?_
  refine s0 (rd_pick_true' rfl h2 rfl) ?_
  refine sx_nil' ?_
  show TX E K7 _
  exact tx_pick' [] (sub_cons rfl (sub_cons rfl (sub_cons rfl (sub_cons rfl sub_nil)))) (by decide) pick_nil (hK7 true hp)
 refine sx_rd' (rd_move' rfl) rfl rfl (wt_is' (wt_guard' rfl rfl rfl) (beq_ff h2)) ?_
 refine sx_rd' (rd_bin' rfl rfl eg_int ru_gtr) rfl rfl (wt_is' (wt_guard' rfl rfl rfl) (beq_ff h2)) ?_
 refine s0 (rd_pick_false' rfl h2 rfl) ?_
 refine sx_nil' ?_
 show TX E K7 _
 exact tx_pick' [] (sub_cons rfl (sub_cons rfl (sub_cons rfl (sub_cons rfl sub_nil)))) (by decide) pick_nil (hK7 (decide (6 < a2)) hp)

end Go.Proofs.Ytpakkblinocenaa
