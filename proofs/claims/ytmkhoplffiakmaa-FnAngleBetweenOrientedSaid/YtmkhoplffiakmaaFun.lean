/-
  Plain functions for the Go functions that this law reaches, and that each call does what its plain function says. Printed by a program of ours.
-/
import Derived.Test.YtmkhoplffiakmaaProg
import Derived.Test.YtmkhoplffiakmaaSxX
import Derived.Test.YtmkhoplffiakmaaFun1
namespace Go.Proofs.Ytmkhoplffiakmaa
open Go.Sx
set_option linter.unusedVariables false
set_option linter.unusedSimpArgs false
set_option maxRecDepth 100000

def spec_Dyadic_Float_j2 (k : Nat) (rec1 : (Int × Int) → Option (Int)) (x4 : Int) (x2 : Int) : Option (Int) :=
 rec1 (x2, (iadd .i64 x4 1))
def spec_Dyadic_Float_l1s (r13 : Int) (a0_2 : Int) (a0_0 : Bool) (a0_1 : List Int) (k : Nat) (rec1 : (Int × Int) → Option (Int)) (x3 : Int) (x4 : Int) : Option (Int) :=
 br (decide (x4 < (imin 53 (iadd .i64 (iadd .i64 r13 a0_2) 1074))))
  ((ishl .u64 x3 1) >>= fun r30 =>
  (spec_Whole_top k a0_0 a0_1) >>= fun r35 =>
  (spec_Whole_bit k a0_0 a0_1 (isub .i64 (isub .i64 r35 1) x4)) >>= fun r39 =>
  br r39
   (spec_Dyadic_Float_j2 k rec1 x4 (iadd .u64 r30 1))
   (spec_Dyadic_Float_j2 k rec1 x4 r30))
  (some x3)
def spec_Dyadic_Float_l1 (r13 : Int) (a0_2 : Int) (a0_0 : Bool) (a0_1 : List Int) : Nat → (Int × Int) → Option (Int)
 | 0, _ => none
 | k + 1, v => spec_Dyadic_Float_l1s r13 a0_2 a0_0 a0_1 k (spec_Dyadic_Float_l1 r13 a0_2 a0_0 a0_1 k) v.1 v.2
def spec_Dyadic_Float_j6 (k : Nat) (a0_2 : Int) (r21 : Int) (r13 : Int) (a0_0 : Bool) (x9 : Int) : Option (Nat) :=
 (math_Ldexp k (i2f x9) (iadd .i64 a0_2 (isub .i64 r21 (imin 53 (iadd .i64 (iadd .i64 r13 a0_2) 1074))))) >>= fun r71 =>
 br a0_0
  (some (fneg r71))
  (some r71)
def spec_Dyadic_Float_j5 (k : Nat) (a0_2 : Int) (r21 : Int) (r13 : Int) (a0_0 : Bool) (v4 : Int) (x8 : Bool) : Option (Nat) :=
 br x8
  (spec_Dyadic_Float_j6 k a0_2 r21 r13 a0_0 (iadd .u64 v4 1))
  (spec_Dyadic_Float_j6 k a0_2 r21 r13 a0_0 v4)
def spec_Dyadic_Float_j4 (k : Nat) (a0_2 : Int) (r21 : Int) (r13 : Int) (a0_0 : Bool) (v4 : Int) (x7 : Bool) : Option (Nat) :=
 spec_Dyadic_Float_j5 k a0_2 r21 r13 a0_0 v4 x7
def spec_Dyadic_Float_j3 (k : Nat) (v4 : Int) (a0_2 : Int) (r21 : Int) (r13 : Int) (a0_0 : Bool) (a0_1 : List Int) (x6 : Bool) : Option (Nat) :=
 br x6
  ((irem v4 2) >>= fun r53 =>
  br (decide (r53 = 1))
   (spec_Dyadic_Float_j4 k a0_2 r21 r13 a0_0 v4 true)
   ((spec_Whole_low k a0_0 a0_1 (isub .i64 (isub .i64 r21 (imin 53 (iadd .i64 (iadd .i64 r13 a0_2) 1074))) 1)) >>= fun r60 =>
   spec_Dyadic_Float_j4 k a0_2 r21 r13 a0_0 v4 r60))
  (spec_Dyadic_Float_j5 k a0_2 r21 r13 a0_0 v4 false)
def spec_Dyadic_Float (k : Nat) (a0_0 : Bool) (a0_1 : List Int) (a0_2 : Int) : Option (Nat) :=
 (spec_Dyadic_Sign k a0_0 a0_1 a0_2) >>= fun r9 =>
 br (decide (r9 = 0))
  (some 0)
  ((spec_Whole_top k a0_0 a0_1) >>= fun r13 =>
  (spec_Whole_top k a0_0 a0_1) >>= fun r21 =>
  (spec_Dyadic_Float_l1 r13 a0_2 a0_0 a0_1 k (0, 0)) >>= fun v4 =>
  br (decide (0 < (isub .i64 r21 (imin 53 (iadd .i64 (iadd .i64 r13 a0_2) 1074)))))
   ((spec_Whole_bit k a0_0 a0_1 (isub .i64 (isub .i64 r21 (imin 53 (iadd .i64 (iadd .i64 r13 a0_2) 1074))) 1)) >>= fun r49 =>
   spec_Dyadic_Float_j3 k v4 a0_2 r21 r13 a0_0 a0_1 r49)
   (spec_Dyadic_Float_j3 k v4 a0_2 r21 r13 a0_0 a0_1 false))

theorem spec_Dyadic_Float_sim {k : Nat}  (a0_0 : Bool) (a0_1 : List Int) (a0_2 : Int) {out : Nat} (hp : spec_Dyadic_Float k a0_0 a0_1 a0_2 = some out) : Sx.Fn Try.prog 23 [(Ag [(Vb a0_0), (Sl (Ki .u32) a0_1), (Vi a0_2)])] [] (fun w : Unit => (Fl out)) (fun w => []) := by
 unfold spec_Dyadic_Float at hp
 refine fn_of Try.func23 rfl Try.ntmps23 rfl fun E hM => ?_
 refine cr fun K1 hK1 => ?_
 refine sx_ox' (ox_box' rfl (lv_ag _) rfl rfl) (wt_none' rfl) fun q1 => ?_
 refine s0 (rd_assign' rfl) ?_
 refine nk hK1 ?_
 refine cx_seq' fun K2 hK2 => ?_
 refine cr fun K3 hK3 => ?_
 refine s0 (rd_load_agg' (i := 0) (o := 0) (nn := 3) rfl ⟨rfl, rfl, rfl, rfl⟩ rfl agg34 (l' := [(Vb a0_0), (Sl (Ki .u32) a0_1), (Vi a0_2)]) rfl) ?_
 obtain ⟨r9, hr9, hp⟩ := bind_some hp
 refine sx_ox' (ox_calln' (ent_fn' Try.func28 isn28 rfl rfl) (spec_Dyadic_Sign_sim _ _ _ hr9 : Sx.Fn Try.prog 28 [(Ag [(Vb a0_0), (Sl (Ki .u32) a0_1), (Vi a0_2)])] [] (fun x : Unit => (Vi r9)) (fun x => [])) (Hn := fun x : Unit => [⟨.pointer (some q1), [(Vb a0_0), (Sl (Ki .u32) a0_1), (Vi a0_2)], 34, none⟩]) (fun _ => rfl) rfl rfl) (wt_none' rfl) fun ⟨⟩ => ?_
 refine s0 (rd_bin' rfl rfl eg_int ru_eql) ?_
 refine nk hK3 ?_
 refine cx_cond' rfl (fun h1 => ?_) (fun h1 => ?_)
 ·replace hp := (br_t h1).symm.trans hp
  refine cr fun K4 hK4 => ?_
  refine s0 (rd_assign' rfl) ?_
  refine nk hK4 ?_
  refine cx_retc' ?_
  replace hp := Option.some.inj hp
  subst hp
  refine tx_pick' (L' := [(2, (Vg 0))]) (H' := []) [] (sub_cons rfl sub_nil) (by decide) pick_nil ?_
  exact tx_ret1' Try.results23 rfl () (rv_imp' (x := (Vg 0)) (y := (Fl 0)) (rv_tmp' rfl) imp_vf) (List.Sublist.refl _)
 replace hp := (br_f h1).symm.trans hp
 refine cx_skip' ?_
 show TX E K2 _
 refine tx_k' hK2 ?_
 refine cx_seq' fun K5 hK5 => ?_
 refine cx_plan' [] [] [(0, 1), (1, 1), (3, 1), (4, 1), (2, 0), (5, 1), (6, 1), (7, 1), (8, 1)] mixed (by kernel_rfl) ?_
 refine px_rd' rfl (rd_field0' rfl Try.underlying34 rfl info32 rfl) rfl rfl (wt_none' rfl) ?_
 refine px_rd' rfl (rd_load_agg' (i := 0) (o := 0) (nn := 2) rfl ⟨rfl, rfl, rfl, rfl⟩ rfl agg32 (l' := [(Vb a0_0), (Sl (Ki .u32) a0_1)]) rfl) rfl rfl (wt_none' rfl) ?_
 refine px_rd' rfl (rd_field' (off := 2) rfl Try.underlying34 rfl info3 rfl) rfl rfl (wt_none' rfl) ?_
 refine px_rd' rfl (rd_load' (i := 0) (o := 2) rfl ⟨rfl, rfl, rfl, rfl⟩ rfl flat3) rfl rfl (wt_none' rfl) ?_
 obtain ⟨r13, hr13, hp⟩ := bind_some hp
 refine px_ox' rfl (ox_calln' (ent_fn' Try.func50 isn50 rfl rfl) (spec_Whole_top_sim _ _ hr13 : Sx.Fn Try.prog 50 [(Ag [(Vb a0_0), (Sl (Ki .u32) a0_1)])] [] (fun x : Unit => (Vi r13)) (fun x => [])) (Hn := fun x : Unit => [⟨.pointer (some q1), [(Vb a0_0), (Sl (Ki .u32) a0_1), (Vi a0_2)], 34, none⟩]) (fun _ => rfl) rfl rfl) rfl bs_nil (wt_none' rfl) fun ⟨⟩ => ?_
 refine px_rd' rfl (rd_bin' rfl rfl eg_int ru_add) rfl rfl (wt_none' rfl) ?_
 refine px_rd' rfl (rd_bin' rfl rfl eg_int ru_add) rfl rfl (wt_none' rfl) ?_
 refine px_rd' rfl (rd_imin' rfl rfl) rfl rfl (wt_none' rfl) ?_
 refine px_rd' rfl (rd_assign' rfl) rfl rfl (wt_none' rfl) ?_
 refine px_nil' ?_
 show TX E K5 _
 refine tx_k' hK5 ?_
 refine cr fun K6 hK6 => ?_
 refine s0 (rd_field0' rfl Try.underlying34 rfl info32 rfl) ?_
 refine s0 (rd_load_agg' (i := 0) (o := 0) (nn := 2) rfl ⟨rfl, rfl, rfl, rfl⟩ rfl agg32 (l' := [(Vb a0_0), (Sl (Ki .u32) a0_1)]) rfl) ?_
 obtain ⟨r21, hr21, hp⟩ := bind_some hp
 refine sx_ox' (ox_calln' (ent_fn' Try.func50 isn50 rfl rfl) (spec_Whole_top_sim _ _ hr21 : Sx.Fn Try.prog 50 [(Ag [(Vb a0_0), (Sl (Ki .u32) a0_1)])] [] (fun x : Unit => (Vi r21)) (fun x => [])) (Hn := fun x : Unit => [⟨.pointer (some q1), [(Vb a0_0), (Sl (Ki .u32) a0_1), (Vi a0_2)], 34, none⟩]) (fun _ => rfl) rfl rfl) (wt_none' rfl) fun ⟨⟩ => ?_
 refine s0 (rd_move' rfl) ?_
 refine s0 (rd_bin' rfl rfl eg_int ru_sub) ?_
 refine s0 (rd_assign' rfl) ?_
 refine nk hK6 ?_
 refine cr fun K7 hK7 => ?_
 refine s0 (rd_assign' rfl) ?_
 refine nk hK7 ?_
 refine cx_seq' fun K8 hK8 => ?_
 refine cr fun K9 hK9 => ?_
 refine s0 (rd_assign' rfl) ?_
 refine nk hK9 ?_
 refine cx_block' ?_
 obtain ⟨v4, hy1, hp⟩ := bind_some hp
 refine cx_loopg' (F := spec_Dyadic_Float_l1 r13 a0_2 a0_0 a0_1) (G := fun k R v => spec_Dyadic_Float_l1s r13 a0_2 a0_0 a0_1 k R v.1 v.2) (x := (0, 0)) (gh := ()) (fun (v2 : Int × Int) (w2 : Unit) => (⟨78, [], [(1, (Vp q1)), (3, (Vi (imin 53 (iadd .i64 (iadd .i64 r13 a0_2) 1074)))), (4, (Vi (isub .i64 r21 (imin 53 (iadd .i64 (iadd .i64 r13 a0_2) 1074))))), (5, (Vl (.int .u64 v2.1))), (6, (Vi v2.2))], [⟨.pointer (some q1), [(Vb a0_0), (Sl (Ki .u32) a0_1), (Vi a0_2)], 34, none⟩]⟩ : St)) (fun (v4 : Int) => Zg E (Exit.exit 0) (fun (w4 : Unit) => (⟨78, [], [(1, (Vp q1)), (4, (Vi (isub .i64 r21 (imin 53 (iadd .i64 (iadd .i64 r13 a0_2) 1074))))), (5, (Vl (.int .u64 v4)))], [⟨.pointer (some q1), [(Vb a0_0), (Sl (Ki .u32) a0_1), (Vi a0_2)], 34, none⟩]⟩ : St))) (fun _ => rfl) (fun _ _ => rfl) ?_ hy1 (tx_to' rfl [0] (sub_cons rfl (sub_cons rfl (sub_cons rfl (sub_cons rfl (sub_cons rfl sub_nil))))) (by decide) (pick_cons rfl pick_nil)) ?_
 ·clear hp hy1
  clear v4
  intro k rec1 KY1 ih1
  rintro ⟨x3, x4⟩ ⟨⟩ y1 hp
  replace hp : spec_Dyadic_Float_l1s r13 a0_2 a0_0 a0_1 k rec1 x3 x4 = some y1 := hp
  unfold spec_Dyadic_Float_l1s at hp
  refine cx_seq' fun K15 hK15 => ?_
  refine cr fun K16 hK16 => ?_
  refine s0 (rd_move' rfl) ?_
  refine s0 (rd_move' rfl) ?_
  refine s0 (rd_bin' rfl rfl eg_int ru_lss) ?_
  refine nk hK16 ?_
  refine cx_cond' rfl (fun h5 => ?_) (fun h5 => ?_)
  ·replace hp := (br_t h5).symm.trans hp
   refine cx_skip' ?_
   show TX E K15 _
   refine tx_k' hK15 ?_
   refine cx_join' (fun (v3 : Int) => (⟨78, [], [(1, (Vp q1)), (3, (Vi (imin 53 (iadd .i64 (iadd .i64 r13 a0_2) 1074)))), (4, (Vi (isub .i64 r21 (imin 53 (iadd .i64 (iadd .i64 r13 a0_2) 1074))))), (5, (Vl (.int .u64 v3))), (6, (Vi x4))], [⟨.pointer (some q1), [(Vb a0_0), (Sl (Ki .u32) a0_1), (Vi a0_2)], 34, none⟩]⟩ : St)) (fun (v3 : Int) => spec_Dyadic_Float_j2 k rec1 x4 v3 = some y1) ?_ ?_
   ·rintro x2 hp
    replace hp : spec_Dyadic_Float_j2 k rec1 x4 x2 = some y1 := hp
    unfold spec_Dyadic_Float_j2 at hp
    refine cx_region' ?_
    refine s0 (rd_move' rfl) ?_
    refine s0 (rd_bin' rfl rfl eg_int ru_add) ?_
    refine s0 (rd_assign' rfl) ?_
    refine sx_nil' ?_
    show TX E (KY1 _) _
    exact tx_pick' [0] (sub_cons rfl (sub_cons rfl (sub_cons rfl (sub_cons rfl (sub_cons rfl sub_nil))))) (by decide) (pick_cons rfl pick_nil) (ih1 (x2, (iadd .i64 x4 1)) () _ hp)
   intro K17 hK17
   refine cx_block' ?_
   refine cr fun K18 hK18 => ?_
   refine s0 (rd_move' rfl) ?_
   obtain ⟨r30, hr30, hp⟩ := bind_some hp
   refine s0 (rd_bin' rfl rfl eg_int (ru_shl hr30)) ?_
   refine s0 (rd_assign' rfl) ?_
   refine nk hK18 ?_
   refine cx_seq' fun K19 hK19 => ?_
   refine cx_plan' [] [] [(0, 1), (1, 1), (2, 1), (3, 1), (6, 1), (4, 0), (5, 1), (7, 1), (8, 0)] mixed (by kernel_rfl) ?_
   refine px_rd' rfl (rd_field0' rfl Try.underlying34 rfl info32 rfl) rfl rfl (wt_none' rfl) ?_
   refine px_rd' rfl (rd_load_agg' (i := 0) (o := 0) (nn := 2) rfl ⟨rfl, rfl, rfl, rfl⟩ rfl agg32 (l' := [(Vb a0_0), (Sl (Ki .u32) a0_1)]) rfl) rfl rfl (wt_none' rfl) ?_
   refine px_rd' rfl (rd_field0' rfl Try.underlying34 rfl info32 rfl) rfl rfl (wt_none' rfl) ?_
   refine px_rd' rfl (rd_load_agg' (i := 0) (o := 0) (nn := 2) rfl ⟨rfl, rfl, rfl, rfl⟩ rfl agg32 (l' := [(Vb a0_0), (Sl (Ki .u32) a0_1)]) rfl) rfl rfl (wt_none' rfl) ?_
   refine px_rd' rfl (rd_move' rfl) rfl rfl (wt_none' rfl) ?_
   obtain ⟨r35, hr35, hp⟩ := bind_some hp
   refine px_ox' rfl (ox_calln' (ent_fn' Try.func50 isn50 rfl rfl) (spec_Whole_top_sim _ _ hr35 : Sx.Fn Try.prog 50 [(Ag [(Vb a0_0), (Sl (Ki .u32) a0_1)])] [] (fun x : Unit => (Vi r35)) (fun x => [])) (Hn := fun x : Unit => [⟨.pointer (some q1), [(Vb a0_0), (Sl (Ki .u32) a0_1), (Vi a0_2)], 34, none⟩]) (fun _ => rfl) rfl rfl) rfl bs_nil (wt_none' rfl) fun ⟨⟩ => ?_
   refine px_rd' rfl (rd_bin' rfl rfl eg_int ru_sub) rfl rfl (wt_none' rfl) ?_
   refine px_rd' rfl (rd_bin' rfl rfl eg_int ru_sub) rfl rfl (wt_none' rfl) ?_
   obtain ⟨r39, hr39, hp⟩ := bind_some hp
   refine px_ox' rfl (ox_calln' (ent_fn' Try.func51 isn51 rfl rfl) (spec_Whole_bit_sim _ _ _ hr39 : Sx.Fn Try.prog 51 [(Ag [(Vb a0_0), (Sl (Ki .u32) a0_1)]), (Vi (isub .i64 (isub .i64 r35 1) x4))] [] (fun x : Unit => (Vb r39)) (fun x => [])) (Hn := fun x : Unit => [⟨.pointer (some q1), [(Vb a0_0), (Sl (Ki .u32) a0_1), (Vi a0_2)], 34, none⟩]) (fun _ => rfl) rfl rfl) rfl bs_nil (wt_none' rfl) fun ⟨⟩ => ?_
   refine px_nil' ?_
   show TX E K19 _
   refine tx_k' hK19 ?_
   refine cx_cond' rfl (fun h6 => ?_) (fun h6 => ?_)
   ·replace hp := (br_t h6).symm.trans hp
    refine cx_region' ?_
    refine s0 (rd_move' rfl) ?_
    refine s0 (rd_bin' rfl rfl eg_int ru_add) ?_
    refine s0 (rd_assign' rfl) ?_
    refine sx_nil' ?_
    show TX E K17 _
    exact tx_pick' [0] (sub_cons rfl (sub_cons rfl (sub_cons rfl (sub_cons rfl (sub_cons rfl sub_nil))))) (by decide) (pick_cons rfl pick_nil) (hK17 (iadd .u64 r30 1) hp)
   replace hp := (br_f h6).symm.trans hp
   refine cx_skip' ?_
   show TX E K17 _
   exact tx_pick' [0] (sub_cons rfl (sub_cons rfl (sub_cons rfl (sub_cons rfl (sub_cons rfl sub_nil))))) (by decide) (pick_cons rfl pick_nil) (hK17 r30 hp)
  replace hp := (br_f h5).symm.trans hp
  refine cx_exit' ?_
  replace hp := Option.some.inj hp
  subst hp
  show TX E (Zg E (Exit.exit 0) _ (Exit.exit 0)) _
  exact tx_zend' () rfl [0] (sub_cons rfl (sub_cons rfl (sub_cons rfl sub_nil))) (by decide) (pick_cons rfl pick_nil)
 refine zg_out fun w4 => ?_
 show TX E K8 _
 refine tx_k' hK8 ?_
 refine cx_join' (fun (v8 : Int) => (⟨78, [], [(1, (Vp q1)), (4, (Vi (isub .i64 r21 (imin 53 (iadd .i64 (iadd .i64 r13 a0_2) 1074))))), (5, (Vl (.int .u64 v8)))], [⟨.pointer (some q1), [(Vb a0_0), (Sl (Ki .u32) a0_1), (Vi a0_2)], 34, none⟩]⟩ : St)) (fun (v8 : Int) => spec_Dyadic_Float_j6 k a0_2 r21 r13 a0_0 v8 = some out) ?_ ?_
 ·rintro x9 hp
  replace hp : spec_Dyadic_Float_j6 k a0_2 r21 r13 a0_0 x9 = some out := hp
  unfold spec_Dyadic_Float_j6 at hp
  refine cr fun K25 hK25 => ?_
  refine s0 (rd_move' rfl) ?_
  refine s0 (rd_conv' rfl (ru_i2f (by rw [Try.underlying74]; rfl) Try.underlying22)) ?_
  refine s0 (rd_field' (off := 2) rfl Try.underlying34 rfl info3 rfl) ?_
  refine s0 (rd_load' (i := 0) (o := 2) rfl ⟨rfl, rfl, rfl, rfl⟩ rfl flat3) ?_
  refine s0 (rd_move' rfl) ?_
  refine s0 (rd_bin' rfl rfl eg_int ru_add) ?_
  obtain ⟨r71, hr71, hp⟩ := bind_some hp
  refine sx_ox' (ox_calln' (ent_fn' Try.func53 isn53 rfl rfl) (math_Ldexp_sim _ _ hr71 : Sx.Fn Try.prog 53 [(Vg (i2f x9)), (Vi (iadd .i64 a0_2 (isub .i64 r21 (imin 53 (iadd .i64 (iadd .i64 r13 a0_2) 1074)))))] [] (fun x : Unit => (Fl r71)) (fun x => [])) (Hn := fun x : Unit => [⟨.pointer (some q1), [(Vb a0_0), (Sl (Ki .u32) a0_1), (Vi a0_2)], 34, none⟩]) (fun _ => rfl) rfl rfl) (wt_none' rfl) fun ⟨⟩ => ?_
  refine s0 (rd_assign' rfl) ?_
  refine nk hK25 ?_
  refine cx_seq' fun K26 hK26 => ?_
  refine cr fun K27 hK27 => ?_
  refine s0 (rd_field0' rfl Try.underlying34 rfl info32 rfl) ?_
  refine s0 (rd_field0' rfl Try.underlying32 rfl info4 rfl) ?_
  refine s0 (rd_load' (i := 0) (o := 0) rfl ⟨rfl, rfl, rfl, rfl⟩ rfl flat4) ?_
  refine nk hK27 ?_
  refine cx_cond' rfl (fun h11 => ?_) (fun h11 => ?_)
  ·replace hp := (br_t h11).symm.trans hp
   refine cr fun K28 hK28 => ?_
   refine s0 (rd_move' rfl) ?_
   refine s0 (rd_fneg_fl' (fl_f rfl)) ?_
   refine s0 (rd_assign' rfl) ?_
   refine nk hK28 ?_
   refine cx_retc' ?_
   replace hp := Option.some.inj hp
   subst hp
   refine tx_pick' (L' := [(2, (Fl (fneg r71)))]) (H' := []) [] (sub_cons rfl sub_nil) (by decide) pick_nil ?_
   exact tx_ret1' Try.results23 rfl () (rv_tmp' rfl) (List.Sublist.refl _)
  replace hp := (br_f h11).symm.trans hp
  refine cx_skip' ?_
  show TX E K26 _
  refine tx_k' hK26 ?_
  refine cr fun K29 hK29 => ?_
  refine s0 (rd_move' rfl) ?_
  refine s0 (rd_assign' rfl) ?_
  refine nk hK29 ?_
  refine cx_retc' ?_
  replace hp := Option.some.inj hp
  subst hp
  refine tx_pick' (L' := [(2, (Fl r71))]) (H' := []) [] (sub_cons rfl sub_nil) (by decide) pick_nil ?_
  exact tx_ret1' Try.results23 rfl () (rv_tmp' rfl) (List.Sublist.refl _)
 intro K20 hK20
 refine cr fun K21 hK21 => ?_
 refine s0 (rd_move' rfl) ?_
 refine s0 (rd_bin' rfl rfl eg_int ru_gtr) ?_
 refine s0 (rd_move' rfl) ?_
 refine sx_cutn' 6 (fun (v5 : Bool) => (⟨78, [], [(1, (Vp q1)), (4, (Vi (isub .i64 r21 (imin 53 (iadd .i64 (iadd .i64 r13 a0_2) 1074))))), (5, (Vl (.int .u64 v4))), (50, (Vb v5))], [⟨.pointer (some q1), [(Vb a0_0), (Sl (Ki .u32) a0_1), (Vi a0_2)], 34, none⟩]⟩ : St)) (fun (v5 : Bool) => spec_Dyadic_Float_j3 k v4 a0_2 r21 r13 a0_0 a0_1 v5 = some out) ?_ ?_
 ·rintro x6 hp
  replace hp : spec_Dyadic_Float_j3 k v4 a0_2 r21 r13 a0_0 a0_1 x6 = some out := hp
  unfold spec_Dyadic_Float_j3 at hp
  refine s0 (rd_move' rfl) ?_
  refine sx_cutn' 11 (fun (v7 : Bool) => (⟨78, [], [(1, (Vp q1)), (4, (Vi (isub .i64 r21 (imin 53 (iadd .i64 (iadd .i64 r13 a0_2) 1074))))), (5, (Vl (.int .u64 v4))), (62, (Vb v7))], [⟨.pointer (some q1), [(Vb a0_0), (Sl (Ki .u32) a0_1), (Vi a0_2)], 34, none⟩]⟩ : St)) (fun (v7 : Bool) => spec_Dyadic_Float_j5 k a0_2 r21 r13 a0_0 v4 v7 = some out) ?_ ?_
  ·rintro x8 hp
   replace hp : spec_Dyadic_Float_j5 k a0_2 r21 r13 a0_0 v4 x8 = some out := hp
   unfold spec_Dyadic_Float_j5 at hp
   refine nk hK21 ?_
   refine cx_cond' rfl (fun h10 => ?_) (fun h10 => ?_)
   ·replace hp := (br_t h10).symm.trans hp
    refine cx_region' ?_
    refine s0 (rd_move' rfl) ?_
    refine s0 (rd_bin' rfl rfl eg_int ru_add) ?_
    refine s0 (rd_assign' rfl) ?_
    refine sx_nil' ?_
    show TX E K20 _
    exact tx_pick' [0] (sub_cons rfl (sub_cons rfl (sub_cons rfl sub_nil))) (by decide) (pick_cons rfl pick_nil) (hK20 (iadd .u64 v4 1) hp)
   replace hp := (br_f h10).symm.trans hp
   refine cx_skip' ?_
   show TX E K20 _
   exact tx_pick' [0] (sub_cons rfl (sub_cons rfl (sub_cons rfl sub_nil))) (by decide) (pick_cons rfl pick_nil) (hK20 v4 hp)
  intro K24 hK24
  rcases br_cases hp with ⟨h8, hp⟩ | ⟨h8, hp⟩
  ·refine sx_rd' (rd_move' rfl) rfl rfl (wt_is' (wt_guard' rfl rfl rfl) (beq_tt h8)) ?_
   obtain ⟨r53, hr53, hp⟩ := bind_some hp
   refine sx_rd' (rd_bin' rfl rfl eg_int (ru_rem hr53)) rfl rfl (wt_is' (wt_guard' rfl rfl rfl) (beq_tt h8)) ?_
   refine sx_rd' (rd_bin' rfl rfl eg_int ru_eql) rfl rfl (wt_is' (wt_guard' rfl rfl rfl) (beq_tt h8)) ?_
   refine sx_rd' (rd_move' rfl) rfl rfl (wt_is' (wt_guard' rfl rfl rfl) (beq_tt h8)) ?_
   refine sx_cutn' 7 (fun (v6 : Bool) => (⟨78, [], [(1, (Vp q1)), (4, (Vi (isub .i64 r21 (imin 53 (iadd .i64 (iadd .i64 r13 a0_2) 1074))))), (5, (Vl (.int .u64 v4))), (62, (Vb v6))], [⟨.pointer (some q1), [(Vb a0_0), (Sl (Ki .u32) a0_1), (Vi a0_2)], 34, none⟩]⟩ : St)) (fun (v6 : Bool) => spec_Dyadic_Float_j4 k a0_2 r21 r13 a0_0 v4 v6 = some out) ?_ ?_
   ·rintro x7 hp
    replace hp : spec_Dyadic_Float_j4 k a0_2 r21 r13 a0_0 v4 x7 = some out := hp
    unfold spec_Dyadic_Float_j4 at hp
    refine sx_nil' ?_
    show TX E K24 _
    exact tx_pick' [0] (sub_cons rfl (sub_cons rfl (sub_cons rfl (sub_cons rfl sub_nil)))) (by decide) (pick_cons rfl pick_nil) (hK24 x7 hp)
   intro K23 hK23
   rcases br_cases hp with ⟨h9, hp⟩ | ⟨h9, hp⟩
   ·refine sx_skip' rfl rfl (wt_is' (wt_guard' rfl rfl rfl) (beq_tf h9)) ?_
    refine sx_skip' rfl rfl (wt_is' (wt_guard' rfl rfl rfl) (beq_tf h9)) ?_
    refine sx_skip' rfl rfl (wt_is' (wt_guard' rfl rfl rfl) (beq_tf h9)) ?_
    refine sx_skip' rfl rfl (wt_is' (wt_guard' rfl rfl rfl) (beq_tf h9)) ?_
    refine sx_skip' rfl rfl (wt_is' (wt_guard' rfl rfl rfl) (beq_tf h9)) ?_
    refine sx_rd' (rd_pick_true' rfl h9 rfl) rfl rfl (wt_is' (wt_guard' rfl rfl rfl) (beq_tt h8)) ?_
    refine s0 (rd_pick_true' rfl h8 rfl) ?_
    refine sx_nil' ?_
    show TX E K23 _
    exact tx_pick' [0] (sub_cons rfl (sub_cons rfl (sub_cons rfl (sub_cons rfl sub_nil)))) (by decide) (pick_cons rfl pick_nil) (hK23 true hp)
   refine sx_rd' (rd_field0' rfl Try.underlying34 rfl info32 rfl) rfl rfl (wt_is' (wt_guard' rfl rfl rfl) (beq_ff h9)) ?_
   refine sx_rd' (rd_load_agg' (i := 0) (o := 0) (nn := 2) rfl ⟨rfl, rfl, rfl, rfl⟩ rfl agg32 (l' := [(Vb a0_0), (Sl (Ki .u32) a0_1)]) rfl) rfl rfl (wt_is' (wt_guard' rfl rfl rfl) (beq_ff h9)) ?_
   refine sx_rd' (rd_move' rfl) rfl rfl (wt_is' (wt_guard' rfl rfl rfl) (beq_ff h9)) ?_
   refine sx_rd' (rd_bin' rfl rfl eg_int ru_sub) rfl rfl (wt_is' (wt_guard' rfl rfl rfl) (beq_ff h9)) ?_
   obtain ⟨r60, hr60, hp⟩ := bind_some hp
   refine sx_ox' (ox_calln' (ent_fn' Try.func52 isn52 rfl rfl) (spec_Whole_low_sim _ _ _ hr60 : Sx.Fn Try.prog 52 [(Ag [(Vb a0_0), (Sl (Ki .u32) a0_1)]), (Vi (isub .i64 (isub .i64 r21 (imin 53 (iadd .i64 (iadd .i64 r13 a0_2) 1074))) 1))] [] (fun x : Unit => (Vb r60)) (fun x => [])) (Hn := fun x : Unit => [⟨.pointer (some q1), [(Vb a0_0), (Sl (Ki .u32) a0_1), (Vi a0_2)], 34, none⟩]) (fun _ => rfl) rfl rfl) (wt_is' (wt_guard' rfl rfl rfl) (beq_ff h9)) fun ⟨⟩ => ?_
   refine sx_rd' (rd_pick_false' rfl h9 rfl) rfl rfl (wt_is' (wt_guard' rfl rfl rfl) (beq_tt h8)) ?_
   refine s0 (rd_pick_true' rfl h8 rfl) ?_
   refine sx_nil' ?_
   show TX E K23 _
   exact tx_pick' [0] (sub_cons rfl (sub_cons rfl (sub_cons rfl (sub_cons rfl sub_nil)))) (by decide) (pick_cons rfl pick_nil) (hK23 r60 hp)
  refine sx_skip' rfl rfl (wt_is' (wt_guard' rfl rfl rfl) (beq_ft h8)) ?_
  refine sx_skip' rfl rfl (wt_is' (wt_guard' rfl rfl rfl) (beq_ft h8)) ?_
  refine sx_skip' rfl rfl (wt_is' (wt_guard' rfl rfl rfl) (beq_ft h8)) ?_
  refine sx_skip' rfl rfl (wt_is' (wt_guard' rfl rfl rfl) (beq_ft h8)) ?_
  refine sx_skip' rfl rfl (wt_undef' rfl rfl rfl) ?_
  refine sx_skip' rfl rfl (wt_undef' rfl rfl rfl) ?_
  refine sx_skip' rfl rfl (wt_undef' rfl rfl rfl) ?_
  refine sx_skip' rfl rfl (wt_undef' rfl rfl rfl) ?_
  refine sx_skip' rfl rfl (wt_undef' rfl rfl rfl) ?_
  refine sx_skip' rfl rfl (wt_is' (wt_guard' rfl rfl rfl) (beq_ft h8)) ?_
  refine s0 (rd_pick_false' rfl h8 rfl) ?_
  refine sx_nil' ?_
  show TX E K24 _
  exact tx_pick' [0] (sub_cons rfl (sub_cons rfl (sub_cons rfl (sub_cons rfl sub_nil)))) (by decide) (pick_cons rfl pick_nil) (hK24 false hp)
 intro K22 hK22
 rcases br_cases hp with ⟨h7, hp⟩ | ⟨h7, hp⟩
 ·refine sx_rd' (rd_field0' rfl Try.underlying34 rfl info32 rfl) rfl rfl (wt_is' (wt_guard' rfl rfl rfl) (beq_tt h7)) ?_
  refine sx_rd' (rd_load_agg' (i := 0) (o := 0) (nn := 2) rfl ⟨rfl, rfl, rfl, rfl⟩ rfl agg32 (l' := [(Vb a0_0), (Sl (Ki .u32) a0_1)]) rfl) rfl rfl (wt_is' (wt_guard' rfl rfl rfl) (beq_tt h7)) ?_
  refine sx_rd' (rd_move' rfl) rfl rfl (wt_is' (wt_guard' rfl rfl rfl) (beq_tt h7)) ?_
  refine sx_rd' (rd_bin' rfl rfl eg_int ru_sub) rfl rfl (wt_is' (wt_guard' rfl rfl rfl) (beq_tt h7)) ?_
  obtain ⟨r49, hr49, hp⟩ := bind_some hp
  refine sx_ox' (ox_calln' (ent_fn' Try.func51 isn51 rfl rfl) (spec_Whole_bit_sim _ _ _ hr49 : Sx.Fn Try.prog 51 [(Ag [(Vb a0_0), (Sl (Ki .u32) a0_1)]), (Vi (isub .i64 (isub .i64 r21 (imin 53 (iadd .i64 (iadd .i64 r13 a0_2) 1074))) 1))] [] (fun x : Unit => (Vb r49)) (fun x => [])) (Hn := fun x : Unit => [⟨.pointer (some q1), [(Vb a0_0), (Sl (Ki .u32) a0_1), (Vi a0_2)], 34, none⟩]) (fun _ => rfl) rfl rfl) (wt_is' (wt_guard' rfl rfl rfl) (beq_tt h7)) fun ⟨⟩ => ?_
  refine s0 (rd_pick_true' rfl h7 rfl) ?_
  refine sx_nil' ?_
  show TX E K22 _
  exact tx_pick' [0] (sub_cons rfl (sub_cons rfl (sub_cons rfl (sub_cons rfl sub_nil)))) (by decide) (pick_cons rfl pick_nil) (hK22 r49 hp)
 refine sx_skip' rfl rfl (wt_is' (wt_guard' rfl rfl rfl) (beq_ft h7)) ?_
 refine sx_skip' rfl rfl (wt_is' (wt_guard' rfl rfl rfl) (beq_ft h7)) ?_
 refine sx_skip' rfl rfl (wt_is' (wt_guard' rfl rfl rfl) (beq_ft h7)) ?_
 refine sx_skip' rfl rfl (wt_is' (wt_guard' rfl rfl rfl) (beq_ft h7)) ?_
 refine sx_skip' rfl rfl (wt_is' (wt_guard' rfl rfl rfl) (beq_ft h7)) ?_
 refine s0 (rd_pick_false' rfl h7 rfl) ?_
 refine sx_nil' ?_
 show TX E K22 _
 exact tx_pick' [0] (sub_cons rfl (sub_cons rfl (sub_cons rfl (sub_cons rfl sub_nil)))) (by decide) (pick_cons rfl pick_nil) (hK22 false hp)

def spec_Dot (k : Nat) (a0_0 : Bool) (a0_1 : List Int) (a0_2 : Int) (a0_3 : Bool) (a0_4 : List Int) (a0_5 : Int) (a1_0 : Bool) (a1_1 : List Int) (a1_2 : Int) (a1_3 : Bool) (a1_4 : List Int) (a1_5 : Int) (a2_0 : Bool) (a2_1 : List Int) (a2_2 : Int) (a2_3 : Bool) (a2_4 : List Int) (a2_5 : Int) (a3_0 : Bool) (a3_1 : List Int) (a3_2 : Int) (a3_3 : Bool) (a3_4 : List Int) (a3_5 : Int) : Option (Bool × (List Int) × Int) :=
 (spec_Dyadic_Sub k a1_0 a1_1 a1_2 a0_0 a0_1 a0_2) >>= fun r13 =>
 (spec_Dyadic_Sub k a3_0 a3_1 a3_2 a2_0 a2_1 a2_2) >>= fun r18 =>
 (spec_Dyadic_Mul k r13.1 r13.2.1 r13.2.2 r18.1 r18.2.1 r18.2.2) >>= fun r19 =>
 (spec_Dyadic_Sub k a1_3 a1_4 a1_5 a0_3 a0_4 a0_5) >>= fun r24 =>
 (spec_Dyadic_Sub k a3_3 a3_4 a3_5 a2_3 a2_4 a2_5) >>= fun r29 =>
 (spec_Dyadic_Mul k r24.1 r24.2.1 r24.2.2 r29.1 r29.2.1 r29.2.2) >>= fun r30 =>
 (spec_Dyadic_Add k r19.1 r19.2.1 r19.2.2 r30.1 r30.2.1 r30.2.2) >>= fun r31 =>
 some (r31.1, r31.2.1, r31.2.2)

theorem spec_Dot_sim {k : Nat}  (a0_0 : Bool) (a0_1 : List Int) (a0_2 : Int) (a0_3 : Bool) (a0_4 : List Int) (a0_5 : Int) (a1_0 : Bool) (a1_1 : List Int) (a1_2 : Int) (a1_3 : Bool) (a1_4 : List Int) (a1_5 : Int) (a2_0 : Bool) (a2_1 : List Int) (a2_2 : Int) (a2_3 : Bool) (a2_4 : List Int) (a2_5 : Int) (a3_0 : Bool) (a3_1 : List Int) (a3_2 : Int) (a3_3 : Bool) (a3_4 : List Int) (a3_5 : Int) {out : Bool × (List Int) × Int} (hp : spec_Dot k a0_0 a0_1 a0_2 a0_3 a0_4 a0_5 a1_0 a1_1 a1_2 a1_3 a1_4 a1_5 a2_0 a2_1 a2_2 a2_3 a2_4 a2_5 a3_0 a3_1 a3_2 a3_3 a3_4 a3_5 = some out) : Sx.Fn Try.prog 42 [(Ag [(Vb a0_0), (Sl (Ki .u32) a0_1), (Vi a0_2), (Vb a0_3), (Sl (Ki .u32) a0_4), (Vi a0_5)]), (Ag [(Vb a1_0), (Sl (Ki .u32) a1_1), (Vi a1_2), (Vb a1_3), (Sl (Ki .u32) a1_4), (Vi a1_5)]), (Ag [(Vb a2_0), (Sl (Ki .u32) a2_1), (Vi a2_2), (Vb a2_3), (Sl (Ki .u32) a2_4), (Vi a2_5)]), (Ag [(Vb a3_0), (Sl (Ki .u32) a3_1), (Vi a3_2), (Vb a3_3), (Sl (Ki .u32) a3_4), (Vi a3_5)])] [] (fun w : Unit => (Ag [(Vb out.1), (Sl (Ki .u32) out.2.1), (Vi out.2.2)])) (fun w => []) := by
 unfold spec_Dot at hp
 refine fn_of Try.func42 rfl Try.ntmps42 rfl fun E hM => ?_
 refine cr fun K1 hK1 => ?_
 refine sx_ox' (ox_box' rfl (lv_ag _) rfl rfl) (wt_none' rfl) fun q4 => ?_
 refine sx_ox' (ox_box' rfl (lv_ag _) rfl rfl) (wt_none' rfl) fun q5 => ?_
 refine sx_ox' (ox_box' rfl (lv_ag _) rfl rfl) (wt_none' rfl) fun q6 => ?_
 refine sx_ox' (ox_box' rfl (lv_ag _) rfl rfl) (wt_none' rfl) fun q7 => ?_
 refine sx_ox' (ox_alloc' info34 rfl rfl rfl rfl (l := [(Vb false), Vn, (Vi 0)]) rfl) (wt_none' rfl) fun q8 => ?_
 refine nk hK1 ?_
 refine cx_seq' fun K2 hK2 => ?_
 refine cx_plan' [] [(23, 1)] [(0, 1), (1, 1), (2, 1), (3, 1), (5, 1), (6, 1), (7, 1), (8, 1), (11, 1), (12, 1), (13, 1), (14, 1), (16, 1), (17, 1), (18, 1), (19, 1), (4, 0), (9, 0), (10, 0), (15, 0), (20, 0), (21, 0), (22, 0), (23, 0)] mixed (by kernel_rfl) ?_
 refine px_rd' rfl (rd_field0' rfl Try.underlying48 rfl info34 rfl) rfl rfl (wt_none' rfl) ?_
 refine px_rd' rfl (rd_load_agg' (i := 3) (o := 0) (nn := 3) rfl ⟨rfl, rfl, rfl, rfl⟩ rfl agg34 (l' := [(Vb a1_0), (Sl (Ki .u32) a1_1), (Vi a1_2)]) rfl) rfl rfl (wt_none' rfl) ?_
 refine px_rd' rfl (rd_field0' rfl Try.underlying48 rfl info34 rfl) rfl rfl (wt_none' rfl) ?_
 refine px_rd' rfl (rd_load_agg' (i := 4) (o := 0) (nn := 3) rfl ⟨rfl, rfl, rfl, rfl⟩ rfl agg34 (l' := [(Vb a0_0), (Sl (Ki .u32) a0_1), (Vi a0_2)]) rfl) rfl rfl (wt_none' rfl) ?_
 refine px_rd' rfl (rd_field0' rfl Try.underlying48 rfl info34 rfl) rfl rfl (wt_none' rfl) ?_
 refine px_rd' rfl (rd_load_agg' (i := 1) (o := 0) (nn := 3) rfl ⟨rfl, rfl, rfl, rfl⟩ rfl agg34 (l' := [(Vb a3_0), (Sl (Ki .u32) a3_1), (Vi a3_2)]) rfl) rfl rfl (wt_none' rfl) ?_
 refine px_rd' rfl (rd_field0' rfl Try.underlying48 rfl info34 rfl) rfl rfl (wt_none' rfl) ?_
 refine px_rd' rfl (rd_load_agg' (i := 2) (o := 0) (nn := 3) rfl ⟨rfl, rfl, rfl, rfl⟩ rfl agg34 (l' := [(Vb a2_0), (Sl (Ki .u32) a2_1), (Vi a2_2)]) rfl) rfl rfl (wt_none' rfl) ?_
 refine px_rd' rfl (rd_field' (off := 3) rfl Try.underlying48 rfl info34 rfl) rfl rfl (wt_none' rfl) ?_
 refine px_rd' rfl (rd_load_agg' (i := 3) (o := 3) (nn := 3) rfl ⟨rfl, rfl, rfl, rfl⟩ rfl agg34 (l' := [(Vb a1_3), (Sl (Ki .u32) a1_4), (Vi a1_5)]) rfl) rfl rfl (wt_none' rfl) ?_
 refine px_rd' rfl (rd_field' (off := 3) rfl Try.underlying48 rfl info34 rfl) rfl rfl (wt_none' rfl) ?_
 refine px_rd' rfl (rd_load_agg' (i := 4) (o := 3) (nn := 3) rfl ⟨rfl, rfl, rfl, rfl⟩ rfl agg34 (l' := [(Vb a0_3), (Sl (Ki .u32) a0_4), (Vi a0_5)]) rfl) rfl rfl (wt_none' rfl) ?_
 refine px_rd' rfl (rd_field' (off := 3) rfl Try.underlying48 rfl info34 rfl) rfl rfl (wt_none' rfl) ?_
 refine px_rd' rfl (rd_load_agg' (i := 1) (o := 3) (nn := 3) rfl ⟨rfl, rfl, rfl, rfl⟩ rfl agg34 (l' := [(Vb a3_3), (Sl (Ki .u32) a3_4), (Vi a3_5)]) rfl) rfl rfl (wt_none' rfl) ?_
 refine px_rd' rfl (rd_field' (off := 3) rfl Try.underlying48 rfl info34 rfl) rfl rfl (wt_none' rfl) ?_
 refine px_rd' rfl (rd_load_agg' (i := 2) (o := 3) (nn := 3) rfl ⟨rfl, rfl, rfl, rfl⟩ rfl agg34 (l' := [(Vb a2_3), (Sl (Ki .u32) a2_4), (Vi a2_5)]) rfl) rfl rfl (wt_none' rfl) ?_
 obtain ⟨r13, hr13, hp⟩ := bind_some hp
 refine px_ox' rfl (ox_calln' (ent_fn' Try.func27 isn27 rfl rfl) (spec_Dyadic_Sub_sim _ _ _ _ _ _ hr13 : Sx.Fn Try.prog 27 [(Ag [(Vb a1_0), (Sl (Ki .u32) a1_1), (Vi a1_2)]), (Ag [(Vb a0_0), (Sl (Ki .u32) a0_1), (Vi a0_2)])] [] (fun x : Unit => (Ag [(Vb r13.1), (Sl (Ki .u32) r13.2.1), (Vi r13.2.2)])) (fun x => [])) (Hn := fun x : Unit => [⟨.pointer (some q8), [(Vb false), Vn, (Vi 0)], 34, none⟩, ⟨.pointer (some q7), [(Vb a3_0), (Sl (Ki .u32) a3_1), (Vi a3_2), (Vb a3_3), (Sl (Ki .u32) a3_4), (Vi a3_5)], 48, none⟩, ⟨.pointer (some q6), [(Vb a2_0), (Sl (Ki .u32) a2_1), (Vi a2_2), (Vb a2_3), (Sl (Ki .u32) a2_4), (Vi a2_5)], 48, none⟩, ⟨.pointer (some q5), [(Vb a1_0), (Sl (Ki .u32) a1_1), (Vi a1_2), (Vb a1_3), (Sl (Ki .u32) a1_4), (Vi a1_5)], 48, none⟩, ⟨.pointer (some q4), [(Vb a0_0), (Sl (Ki .u32) a0_1), (Vi a0_2), (Vb a0_3), (Sl (Ki .u32) a0_4), (Vi a0_5)], 48, none⟩]) (fun _ => rfl) rfl rfl) rfl bs_nil (wt_none' rfl) fun ⟨⟩ => ?_
 obtain ⟨r18, hr18, hp⟩ := bind_some hp
 refine px_ox' rfl (ox_calln' (ent_fn' Try.func27 isn27 rfl rfl) (spec_Dyadic_Sub_sim _ _ _ _ _ _ hr18 : Sx.Fn Try.prog 27 [(Ag [(Vb a3_0), (Sl (Ki .u32) a3_1), (Vi a3_2)]), (Ag [(Vb a2_0), (Sl (Ki .u32) a2_1), (Vi a2_2)])] [] (fun x : Unit => (Ag [(Vb r18.1), (Sl (Ki .u32) r18.2.1), (Vi r18.2.2)])) (fun x => [])) (Hn := fun x : Unit => [⟨.pointer (some q8), [(Vb false), Vn, (Vi 0)], 34, none⟩, ⟨.pointer (some q7), [(Vb a3_0), (Sl (Ki .u32) a3_1), (Vi a3_2), (Vb a3_3), (Sl (Ki .u32) a3_4), (Vi a3_5)], 48, none⟩, ⟨.pointer (some q6), [(Vb a2_0), (Sl (Ki .u32) a2_1), (Vi a2_2), (Vb a2_3), (Sl (Ki .u32) a2_4), (Vi a2_5)], 48, none⟩, ⟨.pointer (some q5), [(Vb a1_0), (Sl (Ki .u32) a1_1), (Vi a1_2), (Vb a1_3), (Sl (Ki .u32) a1_4), (Vi a1_5)], 48, none⟩, ⟨.pointer (some q4), [(Vb a0_0), (Sl (Ki .u32) a0_1), (Vi a0_2), (Vb a0_3), (Sl (Ki .u32) a0_4), (Vi a0_5)], 48, none⟩]) (fun _ => rfl) rfl rfl) rfl bs_nil (wt_none' rfl) fun ⟨⟩ => ?_
 obtain ⟨r19, hr19, hp⟩ := bind_some hp
 refine px_ox' rfl (ox_calln' (ent_fn' Try.func26 isn26 rfl rfl) (spec_Dyadic_Mul_sim _ _ _ _ _ _ hr19 : Sx.Fn Try.prog 26 [(Ag [(Vb r13.1), (Sl (Ki .u32) r13.2.1), (Vi r13.2.2)]), (Ag [(Vb r18.1), (Sl (Ki .u32) r18.2.1), (Vi r18.2.2)])] [] (fun x : Unit => (Ag [(Vb r19.1), (Sl (Ki .u32) r19.2.1), (Vi r19.2.2)])) (fun x => [])) (Hn := fun x : Unit => [⟨.pointer (some q8), [(Vb false), Vn, (Vi 0)], 34, none⟩, ⟨.pointer (some q7), [(Vb a3_0), (Sl (Ki .u32) a3_1), (Vi a3_2), (Vb a3_3), (Sl (Ki .u32) a3_4), (Vi a3_5)], 48, none⟩, ⟨.pointer (some q6), [(Vb a2_0), (Sl (Ki .u32) a2_1), (Vi a2_2), (Vb a2_3), (Sl (Ki .u32) a2_4), (Vi a2_5)], 48, none⟩, ⟨.pointer (some q5), [(Vb a1_0), (Sl (Ki .u32) a1_1), (Vi a1_2), (Vb a1_3), (Sl (Ki .u32) a1_4), (Vi a1_5)], 48, none⟩, ⟨.pointer (some q4), [(Vb a0_0), (Sl (Ki .u32) a0_1), (Vi a0_2), (Vb a0_3), (Sl (Ki .u32) a0_4), (Vi a0_5)], 48, none⟩]) (fun _ => rfl) rfl rfl) rfl bs_nil (wt_none' rfl) fun ⟨⟩ => ?_
 obtain ⟨r24, hr24, hp⟩ := bind_some hp
 refine px_ox' rfl (ox_calln' (ent_fn' Try.func27 isn27 rfl rfl) (spec_Dyadic_Sub_sim _ _ _ _ _ _ hr24 : Sx.Fn Try.prog 27 [(Ag [(Vb a1_3), (Sl (Ki .u32) a1_4), (Vi a1_5)]), (Ag [(Vb a0_3), (Sl (Ki .u32) a0_4), (Vi a0_5)])] [] (fun x : Unit => (Ag [(Vb r24.1), (Sl (Ki .u32) r24.2.1), (Vi r24.2.2)])) (fun x => [])) (Hn := fun x : Unit => [⟨.pointer (some q8), [(Vb false), Vn, (Vi 0)], 34, none⟩, ⟨.pointer (some q7), [(Vb a3_0), (Sl (Ki .u32) a3_1), (Vi a3_2), (Vb a3_3), (Sl (Ki .u32) a3_4), (Vi a3_5)], 48, none⟩, ⟨.pointer (some q6), [(Vb a2_0), (Sl (Ki .u32) a2_1), (Vi a2_2), (Vb a2_3), (Sl (Ki .u32) a2_4), (Vi a2_5)], 48, none⟩, ⟨.pointer (some q5), [(Vb a1_0), (Sl (Ki .u32) a1_1), (Vi a1_2), (Vb a1_3), (Sl (Ki .u32) a1_4), (Vi a1_5)], 48, none⟩, ⟨.pointer (some q4), [(Vb a0_0), (Sl (Ki .u32) a0_1), (Vi a0_2), (Vb a0_3), (Sl (Ki .u32) a0_4), (Vi a0_5)], 48, none⟩]) (fun _ => rfl) rfl rfl) rfl bs_nil (wt_none' rfl) fun ⟨⟩ => ?_
 obtain ⟨r29, hr29, hp⟩ := bind_some hp
 refine px_ox' rfl (ox_calln' (ent_fn' Try.func27 isn27 rfl rfl) (spec_Dyadic_Sub_sim _ _ _ _ _ _ hr29 : Sx.Fn Try.prog 27 [(Ag [(Vb a3_3), (Sl (Ki .u32) a3_4), (Vi a3_5)]), (Ag [(Vb a2_3), (Sl (Ki .u32) a2_4), (Vi a2_5)])] [] (fun x : Unit => (Ag [(Vb r29.1), (Sl (Ki .u32) r29.2.1), (Vi r29.2.2)])) (fun x => [])) (Hn := fun x : Unit => [⟨.pointer (some q8), [(Vb false), Vn, (Vi 0)], 34, none⟩, ⟨.pointer (some q7), [(Vb a3_0), (Sl (Ki .u32) a3_1), (Vi a3_2), (Vb a3_3), (Sl (Ki .u32) a3_4), (Vi a3_5)], 48, none⟩, ⟨.pointer (some q6), [(Vb a2_0), (Sl (Ki .u32) a2_1), (Vi a2_2), (Vb a2_3), (Sl (Ki .u32) a2_4), (Vi a2_5)], 48, none⟩, ⟨.pointer (some q5), [(Vb a1_0), (Sl (Ki .u32) a1_1), (Vi a1_2), (Vb a1_3), (Sl (Ki .u32) a1_4), (Vi a1_5)], 48, none⟩, ⟨.pointer (some q4), [(Vb a0_0), (Sl (Ki .u32) a0_1), (Vi a0_2), (Vb a0_3), (Sl (Ki .u32) a0_4), (Vi a0_5)], 48, none⟩]) (fun _ => rfl) rfl rfl) rfl bs_nil (wt_none' rfl) fun ⟨⟩ => ?_
 obtain ⟨r30, hr30, hp⟩ := bind_some hp
 refine px_ox' rfl (ox_calln' (ent_fn' Try.func26 isn26 rfl rfl) (spec_Dyadic_Mul_sim _ _ _ _ _ _ hr30 : Sx.Fn Try.prog 26 [(Ag [(Vb r24.1), (Sl (Ki .u32) r24.2.1), (Vi r24.2.2)]), (Ag [(Vb r29.1), (Sl (Ki .u32) r29.2.1), (Vi r29.2.2)])] [] (fun x : Unit => (Ag [(Vb r30.1), (Sl (Ki .u32) r30.2.1), (Vi r30.2.2)])) (fun x => [])) (Hn := fun x : Unit => [⟨.pointer (some q8), [(Vb false), Vn, (Vi 0)], 34, none⟩, ⟨.pointer (some q7), [(Vb a3_0), (Sl (Ki .u32) a3_1), (Vi a3_2), (Vb a3_3), (Sl (Ki .u32) a3_4), (Vi a3_5)], 48, none⟩, ⟨.pointer (some q6), [(Vb a2_0), (Sl (Ki .u32) a2_1), (Vi a2_2), (Vb a2_3), (Sl (Ki .u32) a2_4), (Vi a2_5)], 48, none⟩, ⟨.pointer (some q5), [(Vb a1_0), (Sl (Ki .u32) a1_1), (Vi a1_2), (Vb a1_3), (Sl (Ki .u32) a1_4), (Vi a1_5)], 48, none⟩, ⟨.pointer (some q4), [(Vb a0_0), (Sl (Ki .u32) a0_1), (Vi a0_2), (Vb a0_3), (Sl (Ki .u32) a0_4), (Vi a0_5)], 48, none⟩]) (fun _ => rfl) rfl rfl) rfl bs_nil (wt_none' rfl) fun ⟨⟩ => ?_
 obtain ⟨r31, hr31, hp⟩ := bind_some hp
 refine px_ox' rfl (ox_calln' (ent_fn' Try.func54 isn54 rfl rfl) (spec_Dyadic_Add_sim _ _ _ _ _ _ hr31 : Sx.Fn Try.prog 54 [(Ag [(Vb r19.1), (Sl (Ki .u32) r19.2.1), (Vi r19.2.2)]), (Ag [(Vb r30.1), (Sl (Ki .u32) r30.2.1), (Vi r30.2.2)])] [] (fun x : Unit => (Ag [(Vb r31.1), (Sl (Ki .u32) r31.2.1), (Vi r31.2.2)])) (fun x => [])) (Hn := fun x : Unit => [⟨.pointer (some q8), [(Vb false), Vn, (Vi 0)], 34, none⟩, ⟨.pointer (some q7), [(Vb a3_0), (Sl (Ki .u32) a3_1), (Vi a3_2), (Vb a3_3), (Sl (Ki .u32) a3_4), (Vi a3_5)], 48, none⟩, ⟨.pointer (some q6), [(Vb a2_0), (Sl (Ki .u32) a2_1), (Vi a2_2), (Vb a2_3), (Sl (Ki .u32) a2_4), (Vi a2_5)], 48, none⟩, ⟨.pointer (some q5), [(Vb a1_0), (Sl (Ki .u32) a1_1), (Vi a1_2), (Vb a1_3), (Sl (Ki .u32) a1_4), (Vi a1_5)], 48, none⟩, ⟨.pointer (some q4), [(Vb a0_0), (Sl (Ki .u32) a0_1), (Vi a0_2), (Vb a0_3), (Sl (Ki .u32) a0_4), (Vi a0_5)], 48, none⟩]) (fun _ => rfl) rfl rfl) rfl bs_nil (wt_none' rfl) fun ⟨⟩ => ?_
 refine px_oxv' rfl (oxv_store (i := 0) (o := 0) rfl rfl (lv_ag _) ⟨rfl, rfl, rfl, rfl⟩ rfl info34 rfl (H' := [⟨.pointer (some q8), [(Vb r31.1), (Sl (Ki .u32) r31.2.1), (Vi r31.2.2)], 34, none⟩, ⟨.pointer (some q7), [(Vb a3_0), (Sl (Ki .u32) a3_1), (Vi a3_2), (Vb a3_3), (Sl (Ki .u32) a3_4), (Vi a3_5)], 48, none⟩, ⟨.pointer (some q6), [(Vb a2_0), (Sl (Ki .u32) a2_1), (Vi a2_2), (Vb a2_3), (Sl (Ki .u32) a2_4), (Vi a2_5)], 48, none⟩, ⟨.pointer (some q5), [(Vb a1_0), (Sl (Ki .u32) a1_1), (Vi a1_2), (Vb a1_3), (Sl (Ki .u32) a1_4), (Vi a1_5)], 48, none⟩, ⟨.pointer (some q4), [(Vb a0_0), (Sl (Ki .u32) a0_1), (Vi a0_2), (Vb a0_3), (Sl (Ki .u32) a0_4), (Vi a0_5)], 48, none⟩]) rfl) rfl rfl bo_nil (wt_none' rfl) fun _ => ?_
 refine px_nil' ?_
 show TX E K2 _
 refine tx_k' hK2 ?_
 refine cx_retc' ?_
 replace hp := Option.some.inj hp
 subst hp
 refine tx_pick' (L' := [(8, (Vp q8))]) (H' := [⟨.pointer (some q8), [(Vb r31.1), (Sl (Ki .u32) r31.2.1), (Vi r31.2.2)], 34, none⟩]) [0] (sub_cons rfl sub_nil) (by decide) (pick_cons rfl pick_nil) ?_
 exact tx_ret1' Try.results42 rfl () (rv_cell_agg' (i := 0) (o := 0) (nn := 3) rfl ⟨rfl, rfl, rfl, rfl⟩ rfl agg34 rfl) (List.nil_sublist _)

def laws_turned (k : Nat) (a0_0 : Nat) (a0_1 : Nat) (a1_0 : Nat) (a1_1 : Nat) (a2_0 : Nat) (a2_1 : Nat) : Option (Nat) :=
 (laws_exactly k a0_0 a0_1) >>= fun r11 =>
 (laws_exactly k a1_0 a1_1) >>= fun r13 =>
 (laws_exactly k a2_0 a2_1) >>= fun r15 =>
 (spec_Cross k r13.1 r13.2.1 r13.2.2.1 r13.2.2.2.1 r13.2.2.2.2.1 r13.2.2.2.2.2 r11.1 r11.2.1 r11.2.2.1 r11.2.2.2.1 r11.2.2.2.2.1 r11.2.2.2.2.2 r15.1 r15.2.1 r15.2.2.1 r15.2.2.2.1 r15.2.2.2.2.1 r15.2.2.2.2.2) >>= fun r19 =>
 (spec_Dyadic_Float k r19.1 r19.2.1 r19.2.2) >>= fun r20 =>
 (spec_Dot k r13.1 r13.2.1 r13.2.2.1 r13.2.2.2.1 r13.2.2.2.2.1 r13.2.2.2.2.2 r11.1 r11.2.1 r11.2.2.1 r11.2.2.2.1 r11.2.2.2.2.1 r11.2.2.2.2.2 r13.1 r13.2.1 r13.2.2.1 r13.2.2.2.1 r13.2.2.2.2.1 r13.2.2.2.2.2 r15.1 r15.2.1 r15.2.2.1 r15.2.2.2.1 r15.2.2.2.2.1 r15.2.2.2.2.2) >>= fun r25 =>
 (spec_Dyadic_Float k r25.1 r25.2.1 r25.2.2) >>= fun r26 =>
 (num r20) >>= fun u1 =>
 (num r26) >>= fun u2 =>
 (math_Atan2 k r20 r26) >>= fun r27 =>
 some r27

theorem laws_turned_sim {k : Nat}  (a0_0 : Nat) (a0_1 : Nat) (a1_0 : Nat) (a1_1 : Nat) (a2_0 : Nat) (a2_1 : Nat) {out : Nat} (hp : laws_turned k a0_0 a0_1 a1_0 a1_1 a2_0 a2_1 = some out) : Sx.Fn Try.prog 17 [(Ag [(Vg a0_0), (Vg a0_1)]), (Ag [(Vg a1_0), (Vg a1_1)]), (Ag [(Vg a2_0), (Vg a2_1)])] [] (fun w : Unit => (Fl out)) (fun w => []) := by
 unfold laws_turned at hp
 refine fn_of Try.func17 rfl Try.ntmps17 rfl fun E hM => ?_
 refine cr fun K1 hK1 => ?_
 refine sx_ox' (ox_box' rfl (lv_ag _) rfl rfl) (wt_none' rfl) fun q3 => ?_
 refine sx_ox' (ox_box' rfl (lv_ag _) rfl rfl) (wt_none' rfl) fun q4 => ?_
 refine sx_ox' (ox_box' rfl (lv_ag _) rfl rfl) (wt_none' rfl) fun q5 => ?_
 refine s0 (rd_assign' rfl) ?_
 refine nk hK1 ?_
 refine cx_seq' fun K2 hK2 => ?_
 refine cx_plana' [] [(9, 1), (10, 1), (11, 1)] [(0, 1), (2, 1), (4, 1)] 9 #[true, false, true, false, true, false, false, false, false, false, false, false] mixed (by kernel_rfl) ?_
 refine px_rd' rfl (rd_load_agg' (i := 2) (o := 0) (nn := 2) rfl ⟨rfl, rfl, rfl, rfl⟩ rfl agg43 (l' := [(Vg a0_0), (Vg a0_1)]) rfl) rfl rfl (wt_none' rfl) ?_
 refine px_rd' rfl (rd_load_agg' (i := 1) (o := 0) (nn := 2) rfl ⟨rfl, rfl, rfl, rfl⟩ rfl agg43 (l' := [(Vg a1_0), (Vg a1_1)]) rfl) rfl rfl (wt_none' rfl) ?_
 refine px_rd' rfl (rd_load_agg' (i := 0) (o := 0) (nn := 2) rfl ⟨rfl, rfl, rfl, rfl⟩ rfl agg43 (l' := [(Vg a2_0), (Vg a2_1)]) rfl) rfl rfl (wt_none' rfl) ?_
 refine px_nil' ?_
 show AX E _ _ _ _ _ _ _ _
 obtain ⟨r11, hr11, hp⟩ := bind_some hp
 obtain ⟨r13, hr13, hp⟩ := bind_some hp
 obtain ⟨r15, hr15, hp⟩ := bind_some hp
 let LP1 : List (Nat × SV) := []
 let HP1 : List Res := []
 have hLP1 : Sub LP1 LP1 := sub_nil
 have hHP1 : PickAt HP1 [] HP1 := pick_nil
 have c1 := (laws_exactly_sim _ _ hr11 : Sx.Fn Try.prog 14 [(Ag [(Vg a0_0), (Vg a0_1)])] [] (fun x : Unit => (Ag [(Vb r11.1), (Sl (Ki .u32) r11.2.1), (Vi r11.2.2.1), (Vb r11.2.2.2.1), (Sl (Ki .u32) r11.2.2.2.2.1), (Vi r11.2.2.2.2.2)])) (fun x => []))
 have c2 := (laws_exactly_sim _ _ hr13 : Sx.Fn Try.prog 14 [(Ag [(Vg a1_0), (Vg a1_1)])] [] (fun x : Unit => (Ag [(Vb r13.1), (Sl (Ki .u32) r13.2.1), (Vi r13.2.2.1), (Vb r13.2.2.2.1), (Sl (Ki .u32) r13.2.2.2.2.1), (Vi r13.2.2.2.2.2)])) (fun x => []))
 have c3 := (laws_exactly_sim _ _ hr15 : Sx.Fn Try.prog 14 [(Ag [(Vg a2_0), (Vg a2_1)])] [] (fun x : Unit => (Ag [(Vb r15.1), (Sl (Ki .u32) r15.2.1), (Vi r15.2.2.1), (Vb r15.2.2.2.1), (Sl (Ki .u32) r15.2.2.2.2.1), (Vi r15.2.2.2.2.2)])) (fun x => []))
 let S1 : SV := (Ag [(Vb r11.1), (Sl (Ki .u32) r11.2.1), (Vi r11.2.2.1), (Vb r11.2.2.2.1), (Sl (Ki .u32) r11.2.2.2.2.1), (Vi r11.2.2.2.2.2)])
 let S2 : SV := (Ag [(Vg a1_0), (Vg a1_1)])
 let S3 : SV := (Ag [(Vg a2_0), (Vg a2_1)])
 let S4 : SV := (Ag [(Vg a0_0), (Vg a0_1)])
 let S5 : SV := (Ag [(Vb r13.1), (Sl (Ki .u32) r13.2.1), (Vi r13.2.2.1), (Vb r13.2.2.2.1), (Sl (Ki .u32) r13.2.2.2.2.1), (Vi r13.2.2.2.2.2)])
 let S6 : SV := (Ag [(Vb r15.1), (Sl (Ki .u32) r15.2.1), (Vi r15.2.2.1), (Vb r15.2.2.2.1), (Sl (Ki .u32) r15.2.2.2.2.1), (Vi r15.2.2.2.2.2)])
 refine ax_node (f' := 0) #[true, true, true, true, true, true, true, true, true, true, true, true] (fun (v34 : Addr × Addr × Addr) => (⟨28, [], [(7, (Vp v34.1)), (8, (Vp v34.2.1)), (9, (Vp v34.2.2))], [⟨.pointer (some v34.1), [(Vb r11.1), (Sl (Ki .u32) r11.2.1), (Vi r11.2.2.1), (Vb r11.2.2.2.1), (Sl (Ki .u32) r11.2.2.2.2.1), (Vi r11.2.2.2.2.2)], 48, none⟩, ⟨.pointer (some v34.2.1), [(Vb r13.1), (Sl (Ki .u32) r13.2.1), (Vi r13.2.2.1), (Vb r13.2.2.2.1), (Sl (Ki .u32) r13.2.2.2.2.1), (Vi r13.2.2.2.2.2)], 48, none⟩, ⟨.pointer (some v34.2.2), [(Vb r15.1), (Sl (Ki .u32) r15.2.1), (Vi r15.2.2.1), (Vb r15.2.2.2.1), (Sl (Ki .u32) r15.2.2.2.2.1), (Vi r15.2.2.2.2.2)], 48, none⟩]⟩ : St)) ?_ ?_
 ·rintro ⟨q9055, q9056, q9057⟩
  refine ax_nil (by kernel_rfl) ?_
  show TX E K2 _
  refine tx_k' hK2 ?_
  refine cx_seq' fun K3 hK3 => ?_
  refine cx_plan' [] [] [(0, 1), (1, 1), (2, 1), (5, 1), (6, 1), (7, 1), (8, 1), (3, 0), (4, 0), (9, 0), (10, 0), (11, 0), (12, 1)] mixed (by kernel_rfl) ?_
  refine px_rd' rfl (rd_load_agg' (i := 1) (o := 0) (nn := 6) rfl ⟨rfl, rfl, rfl, rfl⟩ rfl agg48 (l' := [(Vb r13.1), (Sl (Ki .u32) r13.2.1), (Vi r13.2.2.1), (Vb r13.2.2.2.1), (Sl (Ki .u32) r13.2.2.2.2.1), (Vi r13.2.2.2.2.2)]) rfl) rfl rfl (wt_none' rfl) ?_
  refine px_rd' rfl (rd_load_agg' (i := 0) (o := 0) (nn := 6) rfl ⟨rfl, rfl, rfl, rfl⟩ rfl agg48 (l' := [(Vb r11.1), (Sl (Ki .u32) r11.2.1), (Vi r11.2.2.1), (Vb r11.2.2.2.1), (Sl (Ki .u32) r11.2.2.2.2.1), (Vi r11.2.2.2.2.2)]) rfl) rfl rfl (wt_none' rfl) ?_
  refine px_rd' rfl (rd_load_agg' (i := 2) (o := 0) (nn := 6) rfl ⟨rfl, rfl, rfl, rfl⟩ rfl agg48 (l' := [(Vb r15.1), (Sl (Ki .u32) r15.2.1), (Vi r15.2.2.1), (Vb r15.2.2.2.1), (Sl (Ki .u32) r15.2.2.2.2.1), (Vi r15.2.2.2.2.2)]) rfl) rfl rfl (wt_none' rfl) ?_
  refine px_rd' rfl (rd_load_agg' (i := 1) (o := 0) (nn := 6) rfl ⟨rfl, rfl, rfl, rfl⟩ rfl agg48 (l' := [(Vb r13.1), (Sl (Ki .u32) r13.2.1), (Vi r13.2.2.1), (Vb r13.2.2.2.1), (Sl (Ki .u32) r13.2.2.2.2.1), (Vi r13.2.2.2.2.2)]) rfl) rfl rfl (wt_none' rfl) ?_
  refine px_rd' rfl (rd_load_agg' (i := 0) (o := 0) (nn := 6) rfl ⟨rfl, rfl, rfl, rfl⟩ rfl agg48 (l' := [(Vb r11.1), (Sl (Ki .u32) r11.2.1), (Vi r11.2.2.1), (Vb r11.2.2.2.1), (Sl (Ki .u32) r11.2.2.2.2.1), (Vi r11.2.2.2.2.2)]) rfl) rfl rfl (wt_none' rfl) ?_
  refine px_rd' rfl (rd_load_agg' (i := 1) (o := 0) (nn := 6) rfl ⟨rfl, rfl, rfl, rfl⟩ rfl agg48 (l' := [(Vb r13.1), (Sl (Ki .u32) r13.2.1), (Vi r13.2.2.1), (Vb r13.2.2.2.1), (Sl (Ki .u32) r13.2.2.2.2.1), (Vi r13.2.2.2.2.2)]) rfl) rfl rfl (wt_none' rfl) ?_
  refine px_rd' rfl (rd_load_agg' (i := 2) (o := 0) (nn := 6) rfl ⟨rfl, rfl, rfl, rfl⟩ rfl agg48 (l' := [(Vb r15.1), (Sl (Ki .u32) r15.2.1), (Vi r15.2.2.1), (Vb r15.2.2.2.1), (Sl (Ki .u32) r15.2.2.2.2.1), (Vi r15.2.2.2.2.2)]) rfl) rfl rfl (wt_none' rfl) ?_
  obtain ⟨r19, hr19, hp⟩ := bind_some hp
  refine px_ox' rfl (ox_calln' (ent_fn' Try.func36 isn36 rfl rfl) (spec_Cross_sim _ _ _ _ _ _ _ _ _ _ _ _ _ _ _ _ _ _ hr19 : Sx.Fn Try.prog 36 [(Ag [(Vb r13.1), (Sl (Ki .u32) r13.2.1), (Vi r13.2.2.1), (Vb r13.2.2.2.1), (Sl (Ki .u32) r13.2.2.2.2.1), (Vi r13.2.2.2.2.2)]), (Ag [(Vb r11.1), (Sl (Ki .u32) r11.2.1), (Vi r11.2.2.1), (Vb r11.2.2.2.1), (Sl (Ki .u32) r11.2.2.2.2.1), (Vi r11.2.2.2.2.2)]), (Ag [(Vb r15.1), (Sl (Ki .u32) r15.2.1), (Vi r15.2.2.1), (Vb r15.2.2.2.1), (Sl (Ki .u32) r15.2.2.2.2.1), (Vi r15.2.2.2.2.2)])] [] (fun x : Unit => (Ag [(Vb r19.1), (Sl (Ki .u32) r19.2.1), (Vi r19.2.2)])) (fun x => [])) (Hn := fun x : Unit => [⟨.pointer (some q9055), [(Vb r11.1), (Sl (Ki .u32) r11.2.1), (Vi r11.2.2.1), (Vb r11.2.2.2.1), (Sl (Ki .u32) r11.2.2.2.2.1), (Vi r11.2.2.2.2.2)], 48, none⟩, ⟨.pointer (some q9056), [(Vb r13.1), (Sl (Ki .u32) r13.2.1), (Vi r13.2.2.1), (Vb r13.2.2.2.1), (Sl (Ki .u32) r13.2.2.2.2.1), (Vi r13.2.2.2.2.2)], 48, none⟩, ⟨.pointer (some q9057), [(Vb r15.1), (Sl (Ki .u32) r15.2.1), (Vi r15.2.2.1), (Vb r15.2.2.2.1), (Sl (Ki .u32) r15.2.2.2.2.1), (Vi r15.2.2.2.2.2)], 48, none⟩]) (fun _ => rfl) rfl rfl) rfl bs_nil (wt_none' rfl) fun ⟨⟩ => ?_
  obtain ⟨r20, hr20, hp⟩ := bind_some hp
  refine px_ox' rfl (ox_calln' (ent_fn' Try.func23 isn23 rfl rfl) (spec_Dyadic_Float_sim _ _ _ hr20 : Sx.Fn Try.prog 23 [(Ag [(Vb r19.1), (Sl (Ki .u32) r19.2.1), (Vi r19.2.2)])] [] (fun x : Unit => (Fl r20)) (fun x => [])) (Hn := fun x : Unit => [⟨.pointer (some q9055), [(Vb r11.1), (Sl (Ki .u32) r11.2.1), (Vi r11.2.2.1), (Vb r11.2.2.2.1), (Sl (Ki .u32) r11.2.2.2.2.1), (Vi r11.2.2.2.2.2)], 48, none⟩, ⟨.pointer (some q9056), [(Vb r13.1), (Sl (Ki .u32) r13.2.1), (Vi r13.2.2.1), (Vb r13.2.2.2.1), (Sl (Ki .u32) r13.2.2.2.2.1), (Vi r13.2.2.2.2.2)], 48, none⟩, ⟨.pointer (some q9057), [(Vb r15.1), (Sl (Ki .u32) r15.2.1), (Vi r15.2.2.1), (Vb r15.2.2.2.1), (Sl (Ki .u32) r15.2.2.2.2.1), (Vi r15.2.2.2.2.2)], 48, none⟩]) (fun _ => rfl) rfl rfl) rfl bs_nil (wt_none' rfl) fun ⟨⟩ => ?_
  obtain ⟨r25, hr25, hp⟩ := bind_some hp
  refine px_ox' rfl (ox_calln' (ent_fn' Try.func42 isn42 rfl rfl) (spec_Dot_sim _ _ _ _ _ _ _ _ _ _ _ _ _ _ _ _ _ _ _ _ _ _ _ _ hr25 : Sx.Fn Try.prog 42 [(Ag [(Vb r13.1), (Sl (Ki .u32) r13.2.1), (Vi r13.2.2.1), (Vb r13.2.2.2.1), (Sl (Ki .u32) r13.2.2.2.2.1), (Vi r13.2.2.2.2.2)]), (Ag [(Vb r11.1), (Sl (Ki .u32) r11.2.1), (Vi r11.2.2.1), (Vb r11.2.2.2.1), (Sl (Ki .u32) r11.2.2.2.2.1), (Vi r11.2.2.2.2.2)]), (Ag [(Vb r13.1), (Sl (Ki .u32) r13.2.1), (Vi r13.2.2.1), (Vb r13.2.2.2.1), (Sl (Ki .u32) r13.2.2.2.2.1), (Vi r13.2.2.2.2.2)]), (Ag [(Vb r15.1), (Sl (Ki .u32) r15.2.1), (Vi r15.2.2.1), (Vb r15.2.2.2.1), (Sl (Ki .u32) r15.2.2.2.2.1), (Vi r15.2.2.2.2.2)])] [] (fun x : Unit => (Ag [(Vb r25.1), (Sl (Ki .u32) r25.2.1), (Vi r25.2.2)])) (fun x => [])) (Hn := fun x : Unit => [⟨.pointer (some q9055), [(Vb r11.1), (Sl (Ki .u32) r11.2.1), (Vi r11.2.2.1), (Vb r11.2.2.2.1), (Sl (Ki .u32) r11.2.2.2.2.1), (Vi r11.2.2.2.2.2)], 48, none⟩, ⟨.pointer (some q9056), [(Vb r13.1), (Sl (Ki .u32) r13.2.1), (Vi r13.2.2.1), (Vb r13.2.2.2.1), (Sl (Ki .u32) r13.2.2.2.2.1), (Vi r13.2.2.2.2.2)], 48, none⟩, ⟨.pointer (some q9057), [(Vb r15.1), (Sl (Ki .u32) r15.2.1), (Vi r15.2.2.1), (Vb r15.2.2.2.1), (Sl (Ki .u32) r15.2.2.2.2.1), (Vi r15.2.2.2.2.2)], 48, none⟩]) (fun _ => rfl) rfl rfl) rfl bs_nil (wt_none' rfl) fun ⟨⟩ => ?_
  obtain ⟨r26, hr26, hp⟩ := bind_some hp
  refine px_ox' rfl (ox_calln' (ent_fn' Try.func23 isn23 rfl rfl) (spec_Dyadic_Float_sim _ _ _ hr26 : Sx.Fn Try.prog 23 [(Ag [(Vb r25.1), (Sl (Ki .u32) r25.2.1), (Vi r25.2.2)])] [] (fun x : Unit => (Fl r26)) (fun x => [])) (Hn := fun x : Unit => [⟨.pointer (some q9055), [(Vb r11.1), (Sl (Ki .u32) r11.2.1), (Vi r11.2.2.1), (Vb r11.2.2.2.1), (Sl (Ki .u32) r11.2.2.2.2.1), (Vi r11.2.2.2.2.2)], 48, none⟩, ⟨.pointer (some q9056), [(Vb r13.1), (Sl (Ki .u32) r13.2.1), (Vi r13.2.2.1), (Vb r13.2.2.2.1), (Sl (Ki .u32) r13.2.2.2.2.1), (Vi r13.2.2.2.2.2)], 48, none⟩, ⟨.pointer (some q9057), [(Vb r15.1), (Sl (Ki .u32) r15.2.1), (Vi r15.2.2.1), (Vb r15.2.2.2.1), (Sl (Ki .u32) r15.2.2.2.2.1), (Vi r15.2.2.2.2.2)], 48, none⟩]) (fun _ => rfl) rfl rfl) rfl bs_nil (wt_none' rfl) fun ⟨⟩ => ?_
  obtain ⟨u1, hu1, hp⟩ := bind_some hp
  refine tx_slot' 20 (y := (Vg r20)) rfl (imp_num (num_some hu1).2) ?_
  obtain ⟨u2, hu2, hp⟩ := bind_some hp
  refine tx_slot' 26 (y := (Vg r26)) rfl (imp_num (num_some hu2).2) ?_
  obtain ⟨r27, hr27, hp⟩ := bind_some hp
  refine px_ox' rfl (ox_calln' (ent_fn' Try.func41 isn41 rfl rfl) (math_Atan2_sim _ _ hr27 : Sx.Fn Try.prog 41 [(Vg r20), (Vg r26)] [] (fun x : Unit => (Fl r27)) (fun x => [])) (Hn := fun x : Unit => [⟨.pointer (some q9055), [(Vb r11.1), (Sl (Ki .u32) r11.2.1), (Vi r11.2.2.1), (Vb r11.2.2.2.1), (Sl (Ki .u32) r11.2.2.2.2.1), (Vi r11.2.2.2.2.2)], 48, none⟩, ⟨.pointer (some q9056), [(Vb r13.1), (Sl (Ki .u32) r13.2.1), (Vi r13.2.2.1), (Vb r13.2.2.2.1), (Sl (Ki .u32) r13.2.2.2.2.1), (Vi r13.2.2.2.2.2)], 48, none⟩, ⟨.pointer (some q9057), [(Vb r15.1), (Sl (Ki .u32) r15.2.1), (Vi r15.2.2.1), (Vb r15.2.2.2.1), (Sl (Ki .u32) r15.2.2.2.2.1), (Vi r15.2.2.2.2.2)], 48, none⟩]) (fun _ => rfl) rfl rfl) rfl bs_nil (wt_none' rfl) fun ⟨⟩ => ?_
  refine px_rd' rfl (rd_assign' rfl) rfl rfl (wt_none' rfl) ?_
  refine px_nil' ?_
  show TX E K3 _
  refine tx_k' hK3 ?_
  refine cx_retc' ?_
  replace hp := Option.some.inj hp
  subst hp
  refine tx_pick' (L' := [(6, (Fl r27))]) (H' := []) [] (sub_cons rfl sub_nil) (by decide) pick_nil ?_
  exact tx_ret1' Try.results17 rfl () (rv_tmp' rfl) (List.Sublist.refl _)
 intro hN35
 refine ax_node (f' := 1) #[true, true, true, true, true, true, true, true, true, true, true, false] (fun (v33 : Addr × Addr × Addr) => (⟨28, [], (7, (Vp v33.1)) :: (8, (Vp v33.2.1)) :: (9, (Vp v33.2.2)) :: (15, S6) :: LP1, ⟨.pointer (some v33.1), [(Vb r11.1), (Sl (Ki .u32) r11.2.1), (Vi r11.2.2.1), (Vb r11.2.2.2.1), (Sl (Ki .u32) r11.2.2.2.2.1), (Vi r11.2.2.2.2.2)], 48, none⟩ :: ⟨.pointer (some v33.2.1), [(Vb r13.1), (Sl (Ki .u32) r13.2.1), (Vi r13.2.2.1), (Vb r13.2.2.2.1), (Sl (Ki .u32) r13.2.2.2.2.1), (Vi r13.2.2.2.2.2)], 48, none⟩ :: ⟨.pointer (some v33.2.2), [(Vb false), Vn, (Vi 0), (Vb false), Vn, (Vi 0)], 48, none⟩ :: HP1⟩ : St)) ?_ ?_
 ·rintro ⟨q9052, q9053, q9054⟩
  refine ax_all (i := 11) (is := []) (by kernel_rfl) (all_cons ?_ all_nil)
  ·refine nx_oxv (last := #[true, true, true, true, true, true, true, true, true, true, true, true]) rfl (oxv_store (i := 2) (o := 0) rfl rfl (lv_ag _) ⟨rfl, rfl, rfl, rfl⟩ rfl info48 rfl (H' := [⟨.pointer (some q9052), [(Vb r11.1), (Sl (Ki .u32) r11.2.1), (Vi r11.2.2.1), (Vb r11.2.2.2.1), (Sl (Ki .u32) r11.2.2.2.2.1), (Vi r11.2.2.2.2.2)], 48, none⟩, ⟨.pointer (some q9053), [(Vb r13.1), (Sl (Ki .u32) r13.2.1), (Vi r13.2.2.1), (Vb r13.2.2.2.1), (Sl (Ki .u32) r13.2.2.2.2.1), (Vi r13.2.2.2.2.2)], 48, none⟩, ⟨.pointer (some q9054), [(Vb r15.1), (Sl (Ki .u32) r15.2.1), (Vi r15.2.2.1), (Vb r15.2.2.2.1), (Sl (Ki .u32) r15.2.2.2.2.1), (Vi r15.2.2.2.2.2)], 48, none⟩]) rfl) rfl rfl bo_nil (wt_none' rfl) rfl fun _ => ?_
   exact tx_pick' [0, 1, 2] (sub_cons rfl (sub_cons rfl (sub_cons rfl sub_nil))) (by decide) (pick_cons rfl (pick_cons rfl (pick_cons rfl pick_nil))) (hN35 (q9052, q9053, q9054))
 intro hN34
 refine ax_node (f' := 2) #[true, true, true, true, true, true, true, true, true, true, false, false] (fun (v32 : Addr × Addr × Addr) => (⟨28, [], (7, (Vp v32.1)) :: (8, (Vp v32.2.1)) :: (9, (Vp v32.2.2)) :: (13, S5) :: (15, S6) :: LP1, ⟨.pointer (some v32.1), [(Vb r11.1), (Sl (Ki .u32) r11.2.1), (Vi r11.2.2.1), (Vb r11.2.2.2.1), (Sl (Ki .u32) r11.2.2.2.2.1), (Vi r11.2.2.2.2.2)], 48, none⟩ :: ⟨.pointer (some v32.2.1), [(Vb false), Vn, (Vi 0), (Vb false), Vn, (Vi 0)], 48, none⟩ :: ⟨.pointer (some v32.2.2), [(Vb false), Vn, (Vi 0), (Vb false), Vn, (Vi 0)], 48, none⟩ :: HP1⟩ : St)) ?_ ?_
 ·rintro ⟨q9049, q9050, q9051⟩
  refine ax_all (i := 10) (is := []) (by kernel_rfl) (all_cons ?_ all_nil)
  ·refine nx_oxv (last := #[true, true, true, true, true, true, true, true, true, true, true, false]) rfl (oxv_store (i := 1) (o := 0) rfl rfl (lv_ag _) ⟨rfl, rfl, rfl, rfl⟩ rfl info48 rfl (H' := [⟨.pointer (some q9049), [(Vb r11.1), (Sl (Ki .u32) r11.2.1), (Vi r11.2.2.1), (Vb r11.2.2.2.1), (Sl (Ki .u32) r11.2.2.2.2.1), (Vi r11.2.2.2.2.2)], 48, none⟩, ⟨.pointer (some q9050), [(Vb r13.1), (Sl (Ki .u32) r13.2.1), (Vi r13.2.2.1), (Vb r13.2.2.2.1), (Sl (Ki .u32) r13.2.2.2.2.1), (Vi r13.2.2.2.2.2)], 48, none⟩, ⟨.pointer (some q9051), [(Vb false), Vn, (Vi 0), (Vb false), Vn, (Vi 0)], 48, none⟩]) rfl) rfl rfl bo_nil (wt_none' rfl) rfl fun _ => ?_
   exact tx_pick' [0, 1, 2] (sub_cons rfl (sub_cons rfl (sub_cons rfl (sub_cons rfl sub_nil)))) (by decide) (pick_cons rfl (pick_cons rfl (pick_cons rfl pick_nil))) (hN34 (q9049, q9050, q9051))
 intro hN33
 refine ax_node (f' := 3) #[true, true, true, true, true, true, true, true, true, false, false, false] (fun (v31 : Addr × Addr × Addr) => (⟨28, [], (7, (Vp v31.1)) :: (8, (Vp v31.2.1)) :: (9, (Vp v31.2.2)) :: (11, S1) :: (13, S5) :: (15, S6) :: LP1, ⟨.pointer (some v31.1), [(Vb false), Vn, (Vi 0), (Vb false), Vn, (Vi 0)], 48, none⟩ :: ⟨.pointer (some v31.2.1), [(Vb false), Vn, (Vi 0), (Vb false), Vn, (Vi 0)], 48, none⟩ :: ⟨.pointer (some v31.2.2), [(Vb false), Vn, (Vi 0), (Vb false), Vn, (Vi 0)], 48, none⟩ :: HP1⟩ : St)) ?_ ?_
 ·rintro ⟨q9046, q9047, q9048⟩
  refine ax_all (i := 9) (is := []) (by kernel_rfl) (all_cons ?_ all_nil)
  ·refine nx_oxv (last := #[true, true, true, true, true, true, true, true, true, true, false, false]) rfl (oxv_store (i := 0) (o := 0) rfl rfl (lv_ag _) ⟨rfl, rfl, rfl, rfl⟩ rfl info48 rfl (H' := [⟨.pointer (some q9046), [(Vb r11.1), (Sl (Ki .u32) r11.2.1), (Vi r11.2.2.1), (Vb r11.2.2.2.1), (Sl (Ki .u32) r11.2.2.2.2.1), (Vi r11.2.2.2.2.2)], 48, none⟩, ⟨.pointer (some q9047), [(Vb false), Vn, (Vi 0), (Vb false), Vn, (Vi 0)], 48, none⟩, ⟨.pointer (some q9048), [(Vb false), Vn, (Vi 0), (Vb false), Vn, (Vi 0)], 48, none⟩]) rfl) rfl rfl bo_nil (wt_none' rfl) rfl fun _ => ?_
   exact tx_pick' [0, 1, 2] (sub_cons rfl (sub_cons rfl (sub_cons rfl (sub_cons rfl (sub_cons rfl sub_nil))))) (by decide) (pick_cons rfl (pick_cons rfl (pick_cons rfl pick_nil))) (hN33 (q9046, q9047, q9048))
 intro hN32
 refine ax_node (f' := 4) #[true, true, true, true, true, true, true, true, false, false, false, false] (fun (v27 : Addr × Addr) => (⟨28, [], (7, (Vp v27.1)) :: (8, (Vp v27.2)) :: (11, S1) :: (13, S5) :: (15, S6) :: LP1, ⟨.pointer (some v27.1), [(Vb false), Vn, (Vi 0), (Vb false), Vn, (Vi 0)], 48, none⟩ :: ⟨.pointer (some v27.2), [(Vb false), Vn, (Vi 0), (Vb false), Vn, (Vi 0)], 48, none⟩ :: HP1⟩ : St)) ?_ ?_
 ·rintro ⟨q9037, q9038⟩
  refine ax_all (i := 8) (is := []) (by kernel_rfl) (all_cons ?_ all_nil)
  ·refine nx_ox (last := #[true, true, true, true, true, true, true, true, true, false, false, false]) rfl (ox_alloc' info48 rfl rfl rfl rfl (l := [(Vb false), Vn, (Vi 0), (Vb false), Vn, (Vi 0)]) rfl) rfl bs_nil (wt_none' rfl) rfl fun q9 => ?_
   exact tx_pick' [1, 2, 0] (sub_cons rfl (sub_cons rfl (sub_cons rfl (sub_cons rfl (sub_cons rfl (sub_cons rfl sub_nil)))))) (by decide) (pick_cons rfl (pick_cons rfl (pick_cons rfl pick_nil))) (hN32 (q9037, q9038, q9))
 intro hN28
 refine ax_node (f' := 4) #[true, true, true, true, true, true, true, false, true, false, false, false] (fun (v28 : Addr × Addr) => (⟨28, [], (7, (Vp v28.1)) :: (9, (Vp v28.2)) :: (11, S1) :: (13, S5) :: (15, S6) :: LP1, ⟨.pointer (some v28.1), [(Vb false), Vn, (Vi 0), (Vb false), Vn, (Vi 0)], 48, none⟩ :: ⟨.pointer (some v28.2), [(Vb false), Vn, (Vi 0), (Vb false), Vn, (Vi 0)], 48, none⟩ :: HP1⟩ : St)) ?_ ?_
 ·rintro ⟨q9039, q9040⟩
  refine ax_all (i := 7) (is := []) (by kernel_rfl) (all_cons ?_ all_nil)
  ·refine nx_ox (last := #[true, true, true, true, true, true, true, true, true, false, false, false]) rfl (ox_alloc' info48 rfl rfl rfl rfl (l := [(Vb false), Vn, (Vi 0), (Vb false), Vn, (Vi 0)]) rfl) rfl bs_nil (wt_none' rfl) rfl fun q8 => ?_
   exact tx_pick' [1, 0, 2] (sub_cons rfl (sub_cons rfl (sub_cons rfl (sub_cons rfl (sub_cons rfl (sub_cons rfl sub_nil)))))) (by decide) (pick_cons rfl (pick_cons rfl (pick_cons rfl pick_nil))) (hN32 (q9039, q8, q9040))
 intro hN29
 refine ax_node (f' := 4) #[true, true, true, true, true, true, false, true, true, false, false, false] (fun (v29 : Addr × Addr) => (⟨28, [], (8, (Vp v29.1)) :: (9, (Vp v29.2)) :: (11, S1) :: (13, S5) :: (15, S6) :: LP1, ⟨.pointer (some v29.1), [(Vb false), Vn, (Vi 0), (Vb false), Vn, (Vi 0)], 48, none⟩ :: ⟨.pointer (some v29.2), [(Vb false), Vn, (Vi 0), (Vb false), Vn, (Vi 0)], 48, none⟩ :: HP1⟩ : St)) ?_ ?_
 ·rintro ⟨q9041, q9042⟩
  refine ax_all (i := 6) (is := []) (by kernel_rfl) (all_cons ?_ all_nil)
  ·refine nx_ox (last := #[true, true, true, true, true, true, true, true, true, false, false, false]) rfl (ox_alloc' info48 rfl rfl rfl rfl (l := [(Vb false), Vn, (Vi 0), (Vb false), Vn, (Vi 0)]) rfl) rfl bs_nil (wt_none' rfl) rfl fun q7 => ?_
   exact tx_pick' [0, 1, 2] (sub_cons rfl (sub_cons rfl (sub_cons rfl (sub_cons rfl (sub_cons rfl (sub_cons rfl sub_nil)))))) (by decide) (pick_cons rfl (pick_cons rfl (pick_cons rfl pick_nil))) (hN32 (q7, q9041, q9042))
 intro hN30
 refine ax_node (f' := 4) #[true, true, true, true, true, false, true, true, true, false, false, false] (fun (v30 : Addr × Addr × Addr) => (⟨28, [], (7, (Vp v30.1)) :: (8, (Vp v30.2.1)) :: (9, (Vp v30.2.2)) :: (11, S1) :: (13, S5) :: (14, S3) :: LP1, ⟨.pointer (some v30.1), [(Vb false), Vn, (Vi 0), (Vb false), Vn, (Vi 0)], 48, none⟩ :: ⟨.pointer (some v30.2.1), [(Vb false), Vn, (Vi 0), (Vb false), Vn, (Vi 0)], 48, none⟩ :: ⟨.pointer (some v30.2.2), [(Vb false), Vn, (Vi 0), (Vb false), Vn, (Vi 0)], 48, none⟩ :: HP1⟩ : St)) ?_ ?_
 ·rintro ⟨q9043, q9044, q9045⟩
  refine ax_all (i := 5) (is := []) (by kernel_rfl) (all_cons ?_ all_nil)
  ·refine nx_ox (last := #[true, true, true, true, true, true, true, true, true, false, false, false]) rfl (ox_calln' (ent_fn' Try.func14 isn14 rfl rfl) c3 (Hn := fun x : Unit => [⟨.pointer (some q9043), [(Vb false), Vn, (Vi 0), (Vb false), Vn, (Vi 0)], 48, none⟩, ⟨.pointer (some q9044), [(Vb false), Vn, (Vi 0), (Vb false), Vn, (Vi 0)], 48, none⟩, ⟨.pointer (some q9045), [(Vb false), Vn, (Vi 0), (Vb false), Vn, (Vi 0)], 48, none⟩]) (fun _ => rfl) rfl rfl) rfl bs_nil (wt_none' rfl) rfl fun ⟨⟩ => ?_
   exact tx_pick' [0, 1, 2] (sub_cons rfl (sub_cons rfl (sub_cons rfl (sub_cons rfl (sub_cons rfl (sub_cons rfl sub_nil)))))) (by decide) (pick_cons rfl (pick_cons rfl (pick_cons rfl pick_nil))) (hN32 (q9043, q9044, q9045))
 intro hN31
 refine ax_node (f' := 5) #[true, true, true, true, true, true, true, false, false, false, false, false] (fun (v20 : Addr) => (⟨28, [], (7, (Vp v20)) :: (11, S1) :: (13, S5) :: (15, S6) :: LP1, ⟨.pointer (some v20), [(Vb false), Vn, (Vi 0), (Vb false), Vn, (Vi 0)], 48, none⟩ :: HP1⟩ : St)) ?_ ?_
 ·rintro q9025
  refine ax_all (i := 7) (is := [8]) (by kernel_rfl) (all_cons ?_ (all_cons ?_ all_nil))
  ·refine nx_ox (last := #[true, true, true, true, true, true, true, true, false, false, false, false]) rfl (ox_alloc' info48 rfl rfl rfl rfl (l := [(Vb false), Vn, (Vi 0), (Vb false), Vn, (Vi 0)]) rfl) rfl bs_nil (wt_none' rfl) rfl fun q8 => ?_
   exact tx_pick' [1, 0] (sub_cons rfl (sub_cons rfl (sub_cons rfl (sub_cons rfl (sub_cons rfl sub_nil))))) (by decide) (pick_cons rfl (pick_cons rfl pick_nil)) (hN28 (q9025, q8))
  refine nx_ox (last := #[true, true, true, true, true, true, true, false, true, false, false, false]) rfl (ox_alloc' info48 rfl rfl rfl rfl (l := [(Vb false), Vn, (Vi 0), (Vb false), Vn, (Vi 0)]) rfl) rfl bs_nil (wt_none' rfl) rfl fun q9 => ?_
  exact tx_pick' [1, 0] (sub_cons rfl (sub_cons rfl (sub_cons rfl (sub_cons rfl (sub_cons rfl sub_nil))))) (by decide) (pick_cons rfl (pick_cons rfl pick_nil)) (hN29 (q9025, q9))
 intro hN21
 refine ax_node (f' := 5) #[true, true, true, true, true, true, false, true, false, false, false, false] (fun (v21 : Addr) => (⟨28, [], (8, (Vp v21)) :: (11, S1) :: (13, S5) :: (15, S6) :: LP1, ⟨.pointer (some v21), [(Vb false), Vn, (Vi 0), (Vb false), Vn, (Vi 0)], 48, none⟩ :: HP1⟩ : St)) ?_ ?_
 ·rintro q9026
  refine ax_all (i := 6) (is := [8]) (by kernel_rfl) (all_cons ?_ (all_cons ?_ all_nil))
  ·refine nx_ox (last := #[true, true, true, true, true, true, true, true, false, false, false, false]) rfl (ox_alloc' info48 rfl rfl rfl rfl (l := [(Vb false), Vn, (Vi 0), (Vb false), Vn, (Vi 0)]) rfl) rfl bs_nil (wt_none' rfl) rfl fun q7 => ?_
   exact tx_pick' [0, 1] (sub_cons rfl (sub_cons rfl (sub_cons rfl (sub_cons rfl (sub_cons rfl sub_nil))))) (by decide) (pick_cons rfl (pick_cons rfl pick_nil)) (hN28 (q7, q9026))
  refine nx_ox (last := #[true, true, true, true, true, true, false, true, true, false, false, false]) rfl (ox_alloc' info48 rfl rfl rfl rfl (l := [(Vb false), Vn, (Vi 0), (Vb false), Vn, (Vi 0)]) rfl) rfl bs_nil (wt_none' rfl) rfl fun q9 => ?_
  exact tx_pick' [1, 0] (sub_cons rfl (sub_cons rfl (sub_cons rfl (sub_cons rfl (sub_cons rfl sub_nil))))) (by decide) (pick_cons rfl (pick_cons rfl pick_nil)) (hN30 (q9026, q9))
 intro hN22
 refine ax_node (f' := 5) #[true, true, true, true, true, true, false, false, true, false, false, false] (fun (v22 : Addr) => (⟨28, [], (9, (Vp v22)) :: (11, S1) :: (13, S5) :: (15, S6) :: LP1, ⟨.pointer (some v22), [(Vb false), Vn, (Vi 0), (Vb false), Vn, (Vi 0)], 48, none⟩ :: HP1⟩ : St)) ?_ ?_
 ·rintro q9027
  refine ax_all (i := 6) (is := [7]) (by kernel_rfl) (all_cons ?_ (all_cons ?_ all_nil))
  ·refine nx_ox (last := #[true, true, true, true, true, true, true, false, true, false, false, false]) rfl (ox_alloc' info48 rfl rfl rfl rfl (l := [(Vb false), Vn, (Vi 0), (Vb false), Vn, (Vi 0)]) rfl) rfl bs_nil (wt_none' rfl) rfl fun q7 => ?_
   exact tx_pick' [0, 1] (sub_cons rfl (sub_cons rfl (sub_cons rfl (sub_cons rfl (sub_cons rfl sub_nil))))) (by decide) (pick_cons rfl (pick_cons rfl pick_nil)) (hN29 (q7, q9027))
  refine nx_ox (last := #[true, true, true, true, true, true, false, true, true, false, false, false]) rfl (ox_alloc' info48 rfl rfl rfl rfl (l := [(Vb false), Vn, (Vi 0), (Vb false), Vn, (Vi 0)]) rfl) rfl bs_nil (wt_none' rfl) rfl fun q8 => ?_
  exact tx_pick' [0, 1] (sub_cons rfl (sub_cons rfl (sub_cons rfl (sub_cons rfl (sub_cons rfl sub_nil))))) (by decide) (pick_cons rfl (pick_cons rfl pick_nil)) (hN30 (q8, q9027))
 intro hN23
 refine ax_node (f' := 5) #[true, true, true, true, true, false, true, true, false, false, false, false] (fun (v23 : Addr × Addr) => (⟨28, [], (7, (Vp v23.1)) :: (8, (Vp v23.2)) :: (11, S1) :: (13, S5) :: (14, S3) :: LP1, ⟨.pointer (some v23.1), [(Vb false), Vn, (Vi 0), (Vb false), Vn, (Vi 0)], 48, none⟩ :: ⟨.pointer (some v23.2), [(Vb false), Vn, (Vi 0), (Vb false), Vn, (Vi 0)], 48, none⟩ :: HP1⟩ : St)) ?_ ?_
 ·rintro ⟨q9028, q9029⟩
  refine ax_all (i := 5) (is := [8]) (by kernel_rfl) (all_cons ?_ (all_cons ?_ all_nil))
  ·refine nx_ox (last := #[true, true, true, true, true, true, true, true, false, false, false, false]) rfl (ox_calln' (ent_fn' Try.func14 isn14 rfl rfl) c3 (Hn := fun x : Unit => [⟨.pointer (some q9028), [(Vb false), Vn, (Vi 0), (Vb false), Vn, (Vi 0)], 48, none⟩, ⟨.pointer (some q9029), [(Vb false), Vn, (Vi 0), (Vb false), Vn, (Vi 0)], 48, none⟩]) (fun _ => rfl) rfl rfl) rfl bs_nil (wt_none' rfl) rfl fun ⟨⟩ => ?_
   exact tx_pick' [0, 1] (sub_cons rfl (sub_cons rfl (sub_cons rfl (sub_cons rfl (sub_cons rfl sub_nil))))) (by decide) (pick_cons rfl (pick_cons rfl pick_nil)) (hN28 (q9028, q9029))
  refine nx_ox (last := #[true, true, true, true, true, false, true, true, true, false, false, false]) rfl (ox_alloc' info48 rfl rfl rfl rfl (l := [(Vb false), Vn, (Vi 0), (Vb false), Vn, (Vi 0)]) rfl) rfl bs_nil (wt_none' rfl) rfl fun q9 => ?_
  exact tx_pick' [1, 2, 0] (sub_cons rfl (sub_cons rfl (sub_cons rfl (sub_cons rfl (sub_cons rfl (sub_cons rfl sub_nil)))))) (by decide) (pick_cons rfl (pick_cons rfl (pick_cons rfl pick_nil))) (hN31 (q9028, q9029, q9))
 intro hN24
 refine ax_node (f' := 5) #[true, true, true, true, true, false, true, false, true, false, false, false] (fun (v24 : Addr × Addr) => (⟨28, [], (7, (Vp v24.1)) :: (9, (Vp v24.2)) :: (11, S1) :: (13, S5) :: (14, S3) :: LP1, ⟨.pointer (some v24.1), [(Vb false), Vn, (Vi 0), (Vb false), Vn, (Vi 0)], 48, none⟩ :: ⟨.pointer (some v24.2), [(Vb false), Vn, (Vi 0), (Vb false), Vn, (Vi 0)], 48, none⟩ :: HP1⟩ : St)) ?_ ?_
 ·rintro ⟨q9030, q9031⟩
  refine ax_all (i := 5) (is := [7]) (by kernel_rfl) (all_cons ?_ (all_cons ?_ all_nil))
  ·refine nx_ox (last := #[true, true, true, true, true, true, true, false, true, false, false, false]) rfl (ox_calln' (ent_fn' Try.func14 isn14 rfl rfl) c3 (Hn := fun x : Unit => [⟨.pointer (some q9030), [(Vb false), Vn, (Vi 0), (Vb false), Vn, (Vi 0)], 48, none⟩, ⟨.pointer (some q9031), [(Vb false), Vn, (Vi 0), (Vb false), Vn, (Vi 0)], 48, none⟩]) (fun _ => rfl) rfl rfl) rfl bs_nil (wt_none' rfl) rfl fun ⟨⟩ => ?_
   exact tx_pick' [0, 1] (sub_cons rfl (sub_cons rfl (sub_cons rfl (sub_cons rfl (sub_cons rfl sub_nil))))) (by decide) (pick_cons rfl (pick_cons rfl pick_nil)) (hN29 (q9030, q9031))
  refine nx_ox (last := #[true, true, true, true, true, false, true, true, true, false, false, false]) rfl (ox_alloc' info48 rfl rfl rfl rfl (l := [(Vb false), Vn, (Vi 0), (Vb false), Vn, (Vi 0)]) rfl) rfl bs_nil (wt_none' rfl) rfl fun q8 => ?_
  exact tx_pick' [1, 0, 2] (sub_cons rfl (sub_cons rfl (sub_cons rfl (sub_cons rfl (sub_cons rfl (sub_cons rfl sub_nil)))))) (by decide) (pick_cons rfl (pick_cons rfl (pick_cons rfl pick_nil))) (hN31 (q9030, q8, q9031))
 intro hN25
 refine ax_node (f' := 5) #[true, true, true, true, true, false, false, true, true, false, false, false] (fun (v25 : Addr × Addr) => (⟨28, [], (8, (Vp v25.1)) :: (9, (Vp v25.2)) :: (11, S1) :: (13, S5) :: (14, S3) :: LP1, ⟨.pointer (some v25.1), [(Vb false), Vn, (Vi 0), (Vb false), Vn, (Vi 0)], 48, none⟩ :: ⟨.pointer (some v25.2), [(Vb false), Vn, (Vi 0), (Vb false), Vn, (Vi 0)], 48, none⟩ :: HP1⟩ : St)) ?_ ?_
 ·rintro ⟨q9032, q9033⟩
  refine ax_all (i := 5) (is := [6]) (by kernel_rfl) (all_cons ?_ (all_cons ?_ all_nil))
  ·refine nx_ox (last := #[true, true, true, true, true, true, false, true, true, false, false, false]) rfl (ox_calln' (ent_fn' Try.func14 isn14 rfl rfl) c3 (Hn := fun x : Unit => [⟨.pointer (some q9032), [(Vb false), Vn, (Vi 0), (Vb false), Vn, (Vi 0)], 48, none⟩, ⟨.pointer (some q9033), [(Vb false), Vn, (Vi 0), (Vb false), Vn, (Vi 0)], 48, none⟩]) (fun _ => rfl) rfl rfl) rfl bs_nil (wt_none' rfl) rfl fun ⟨⟩ => ?_
   exact tx_pick' [0, 1] (sub_cons rfl (sub_cons rfl (sub_cons rfl (sub_cons rfl (sub_cons rfl sub_nil))))) (by decide) (pick_cons rfl (pick_cons rfl pick_nil)) (hN30 (q9032, q9033))
  refine nx_ox (last := #[true, true, true, true, true, false, true, true, true, false, false, false]) rfl (ox_alloc' info48 rfl rfl rfl rfl (l := [(Vb false), Vn, (Vi 0), (Vb false), Vn, (Vi 0)]) rfl) rfl bs_nil (wt_none' rfl) rfl fun q7 => ?_
  exact tx_pick' [0, 1, 2] (sub_cons rfl (sub_cons rfl (sub_cons rfl (sub_cons rfl (sub_cons rfl (sub_cons rfl sub_nil)))))) (by decide) (pick_cons rfl (pick_cons rfl (pick_cons rfl pick_nil))) (hN31 (q7, q9032, q9033))
 intro hN26
 refine ax_node (f' := 5) #[true, true, true, false, true, false, true, true, true, false, false, false] (fun (v26 : Addr × Addr × Addr) => (⟨28, [], (7, (Vp v26.1)) :: (8, (Vp v26.2.1)) :: (9, (Vp v26.2.2)) :: (11, S1) :: (12, S2) :: (14, S3) :: LP1, ⟨.pointer (some v26.1), [(Vb false), Vn, (Vi 0), (Vb false), Vn, (Vi 0)], 48, none⟩ :: ⟨.pointer (some v26.2.1), [(Vb false), Vn, (Vi 0), (Vb false), Vn, (Vi 0)], 48, none⟩ :: ⟨.pointer (some v26.2.2), [(Vb false), Vn, (Vi 0), (Vb false), Vn, (Vi 0)], 48, none⟩ :: HP1⟩ : St)) ?_ ?_
 ·rintro ⟨q9034, q9035, q9036⟩
  refine ax_all (i := 3) (is := []) (by kernel_rfl) (all_cons ?_ all_nil)
  ·refine nx_ox (last := #[true, true, true, true, true, false, true, true, true, false, false, false]) rfl (ox_calln' (ent_fn' Try.func14 isn14 rfl rfl) c2 (Hn := fun x : Unit => [⟨.pointer (some q9034), [(Vb false), Vn, (Vi 0), (Vb false), Vn, (Vi 0)], 48, none⟩, ⟨.pointer (some q9035), [(Vb false), Vn, (Vi 0), (Vb false), Vn, (Vi 0)], 48, none⟩, ⟨.pointer (some q9036), [(Vb false), Vn, (Vi 0), (Vb false), Vn, (Vi 0)], 48, none⟩]) (fun _ => rfl) rfl rfl) rfl bs_nil (wt_none' rfl) rfl fun ⟨⟩ => ?_
   exact tx_pick' [0, 1, 2] (sub_cons rfl (sub_cons rfl (sub_cons rfl (sub_cons rfl (sub_cons rfl (sub_cons rfl sub_nil)))))) (by decide) (pick_cons rfl (pick_cons rfl (pick_cons rfl pick_nil))) (hN31 (q9034, q9035, q9036))
 intro hN27
 refine ax_node (f' := 6) #[true, true, true, true, true, true, false, false, false, false, false, false] (fun (v12 : Unit) => (⟨28, [], (11, S1) :: (13, S5) :: (15, S6) :: LP1, HP1⟩ : St)) ?_ ?_
 ·rintro ⟨⟩
  refine ax_all (i := 6) (is := [7, 8]) (by kernel_rfl) (all_cons ?_ (all_cons ?_ (all_cons ?_ all_nil)))
  ·refine nx_ox (last := #[true, true, true, true, true, true, true, false, false, false, false, false]) rfl (ox_alloc' info48 rfl rfl rfl rfl (l := [(Vb false), Vn, (Vi 0), (Vb false), Vn, (Vi 0)]) rfl) rfl bs_nil (wt_none' rfl) rfl fun q7 => ?_
   exact tx_pick' [0] (sub_cons rfl (sub_cons rfl (sub_cons rfl (sub_cons rfl sub_nil)))) (by decide) (pick_cons rfl pick_nil) (hN21 q7)
  ·refine nx_ox (last := #[true, true, true, true, true, true, false, true, false, false, false, false]) rfl (ox_alloc' info48 rfl rfl rfl rfl (l := [(Vb false), Vn, (Vi 0), (Vb false), Vn, (Vi 0)]) rfl) rfl bs_nil (wt_none' rfl) rfl fun q8 => ?_
   exact tx_pick' [0] (sub_cons rfl (sub_cons rfl (sub_cons rfl (sub_cons rfl sub_nil)))) (by decide) (pick_cons rfl pick_nil) (hN22 q8)
  refine nx_ox (last := #[true, true, true, true, true, true, false, false, true, false, false, false]) rfl (ox_alloc' info48 rfl rfl rfl rfl (l := [(Vb false), Vn, (Vi 0), (Vb false), Vn, (Vi 0)]) rfl) rfl bs_nil (wt_none' rfl) rfl fun q9 => ?_
  exact tx_pick' [0] (sub_cons rfl (sub_cons rfl (sub_cons rfl (sub_cons rfl sub_nil)))) (by decide) (pick_cons rfl pick_nil) (hN23 q9)
 intro hN13
 refine ax_node (f' := 6) #[true, true, true, true, true, false, true, false, false, false, false, false] (fun (v13 : Addr) => (⟨28, [], (7, (Vp v13)) :: (11, S1) :: (13, S5) :: (14, S3) :: LP1, ⟨.pointer (some v13), [(Vb false), Vn, (Vi 0), (Vb false), Vn, (Vi 0)], 48, none⟩ :: HP1⟩ : St)) ?_ ?_
 ·rintro q9013
  refine ax_all (i := 5) (is := [7, 8]) (by kernel_rfl) (all_cons ?_ (all_cons ?_ (all_cons ?_ all_nil)))
  ·refine nx_ox (last := #[true, true, true, true, true, true, true, false, false, false, false, false]) rfl (ox_calln' (ent_fn' Try.func14 isn14 rfl rfl) c3 (Hn := fun x : Unit => [⟨.pointer (some q9013), [(Vb false), Vn, (Vi 0), (Vb false), Vn, (Vi 0)], 48, none⟩]) (fun _ => rfl) rfl rfl) rfl bs_nil (wt_none' rfl) rfl fun ⟨⟩ => ?_
   exact tx_pick' [0] (sub_cons rfl (sub_cons rfl (sub_cons rfl (sub_cons rfl sub_nil)))) (by decide) (pick_cons rfl pick_nil) (hN21 q9013)
  ·refine nx_ox (last := #[true, true, true, true, true, false, true, true, false, false, false, false]) rfl (ox_alloc' info48 rfl rfl rfl rfl (l := [(Vb false), Vn, (Vi 0), (Vb false), Vn, (Vi 0)]) rfl) rfl bs_nil (wt_none' rfl) rfl fun q8 => ?_
   exact tx_pick' [1, 0] (sub_cons rfl (sub_cons rfl (sub_cons rfl (sub_cons rfl (sub_cons rfl sub_nil))))) (by decide) (pick_cons rfl (pick_cons rfl pick_nil)) (hN24 (q9013, q8))
  refine nx_ox (last := #[true, true, true, true, true, false, true, false, true, false, false, false]) rfl (ox_alloc' info48 rfl rfl rfl rfl (l := [(Vb false), Vn, (Vi 0), (Vb false), Vn, (Vi 0)]) rfl) rfl bs_nil (wt_none' rfl) rfl fun q9 => ?_
  exact tx_pick' [1, 0] (sub_cons rfl (sub_cons rfl (sub_cons rfl (sub_cons rfl (sub_cons rfl sub_nil))))) (by decide) (pick_cons rfl (pick_cons rfl pick_nil)) (hN25 (q9013, q9))
 intro hN14
 refine ax_node (f' := 6) #[true, true, true, true, true, false, false, true, false, false, false, false] (fun (v14 : Addr) => (⟨28, [], (8, (Vp v14)) :: (11, S1) :: (13, S5) :: (14, S3) :: LP1, ⟨.pointer (some v14), [(Vb false), Vn, (Vi 0), (Vb false), Vn, (Vi 0)], 48, none⟩ :: HP1⟩ : St)) ?_ ?_
 ·rintro q9014
  refine ax_all (i := 5) (is := [6, 8]) (by kernel_rfl) (all_cons ?_ (all_cons ?_ (all_cons ?_ all_nil)))
  ·refine nx_ox (last := #[true, true, true, true, true, true, false, true, false, false, false, false]) rfl (ox_calln' (ent_fn' Try.func14 isn14 rfl rfl) c3 (Hn := fun x : Unit => [⟨.pointer (some q9014), [(Vb false), Vn, (Vi 0), (Vb false), Vn, (Vi 0)], 48, none⟩]) (fun _ => rfl) rfl rfl) rfl bs_nil (wt_none' rfl) rfl fun ⟨⟩ => ?_
   exact tx_pick' [0] (sub_cons rfl (sub_cons rfl (sub_cons rfl (sub_cons rfl sub_nil)))) (by decide) (pick_cons rfl pick_nil) (hN22 q9014)
  ·refine nx_ox (last := #[true, true, true, true, true, false, true, true, false, false, false, false]) rfl (ox_alloc' info48 rfl rfl rfl rfl (l := [(Vb false), Vn, (Vi 0), (Vb false), Vn, (Vi 0)]) rfl) rfl bs_nil (wt_none' rfl) rfl fun q7 => ?_
   exact tx_pick' [0, 1] (sub_cons rfl (sub_cons rfl (sub_cons rfl (sub_cons rfl (sub_cons rfl sub_nil))))) (by decide) (pick_cons rfl (pick_cons rfl pick_nil)) (hN24 (q7, q9014))
  refine nx_ox (last := #[true, true, true, true, true, false, false, true, true, false, false, false]) rfl (ox_alloc' info48 rfl rfl rfl rfl (l := [(Vb false), Vn, (Vi 0), (Vb false), Vn, (Vi 0)]) rfl) rfl bs_nil (wt_none' rfl) rfl fun q9 => ?_
  exact tx_pick' [1, 0] (sub_cons rfl (sub_cons rfl (sub_cons rfl (sub_cons rfl (sub_cons rfl sub_nil))))) (by decide) (pick_cons rfl (pick_cons rfl pick_nil)) (hN26 (q9014, q9))
 intro hN15
 refine ax_node (f' := 6) #[true, true, true, true, true, false, false, false, true, false, false, false] (fun (v15 : Addr) => (⟨28, [], (9, (Vp v15)) :: (11, S1) :: (13, S5) :: (14, S3) :: LP1, ⟨.pointer (some v15), [(Vb false), Vn, (Vi 0), (Vb false), Vn, (Vi 0)], 48, none⟩ :: HP1⟩ : St)) ?_ ?_
 ·rintro q9015
  refine ax_all (i := 5) (is := [6, 7]) (by kernel_rfl) (all_cons ?_ (all_cons ?_ (all_cons ?_ all_nil)))
  ·refine nx_ox (last := #[true, true, true, true, true, true, false, false, true, false, false, false]) rfl (ox_calln' (ent_fn' Try.func14 isn14 rfl rfl) c3 (Hn := fun x : Unit => [⟨.pointer (some q9015), [(Vb false), Vn, (Vi 0), (Vb false), Vn, (Vi 0)], 48, none⟩]) (fun _ => rfl) rfl rfl) rfl bs_nil (wt_none' rfl) rfl fun ⟨⟩ => ?_
   exact tx_pick' [0] (sub_cons rfl (sub_cons rfl (sub_cons rfl (sub_cons rfl sub_nil)))) (by decide) (pick_cons rfl pick_nil) (hN23 q9015)
  ·refine nx_ox (last := #[true, true, true, true, true, false, true, false, true, false, false, false]) rfl (ox_alloc' info48 rfl rfl rfl rfl (l := [(Vb false), Vn, (Vi 0), (Vb false), Vn, (Vi 0)]) rfl) rfl bs_nil (wt_none' rfl) rfl fun q7 => ?_
   exact tx_pick' [0, 1] (sub_cons rfl (sub_cons rfl (sub_cons rfl (sub_cons rfl (sub_cons rfl sub_nil))))) (by decide) (pick_cons rfl (pick_cons rfl pick_nil)) (hN25 (q7, q9015))
  refine nx_ox (last := #[true, true, true, true, true, false, false, true, true, false, false, false]) rfl (ox_alloc' info48 rfl rfl rfl rfl (l := [(Vb false), Vn, (Vi 0), (Vb false), Vn, (Vi 0)]) rfl) rfl bs_nil (wt_none' rfl) rfl fun q8 => ?_
  exact tx_pick' [0, 1] (sub_cons rfl (sub_cons rfl (sub_cons rfl (sub_cons rfl (sub_cons rfl sub_nil))))) (by decide) (pick_cons rfl (pick_cons rfl pick_nil)) (hN26 (q8, q9015))
 intro hN16
 refine ax_node (f' := 6) #[true, true, true, false, true, false, true, true, false, false, false, false] (fun (v16 : Addr × Addr) => (⟨28, [], (7, (Vp v16.1)) :: (8, (Vp v16.2)) :: (11, S1) :: (12, S2) :: (14, S3) :: LP1, ⟨.pointer (some v16.1), [(Vb false), Vn, (Vi 0), (Vb false), Vn, (Vi 0)], 48, none⟩ :: ⟨.pointer (some v16.2), [(Vb false), Vn, (Vi 0), (Vb false), Vn, (Vi 0)], 48, none⟩ :: HP1⟩ : St)) ?_ ?_
 ·rintro ⟨q9016, q9017⟩
  refine ax_all (i := 3) (is := [8]) (by kernel_rfl) (all_cons ?_ (all_cons ?_ all_nil))
  ·refine nx_ox (last := #[true, true, true, true, true, false, true, true, false, false, false, false]) rfl (ox_calln' (ent_fn' Try.func14 isn14 rfl rfl) c2 (Hn := fun x : Unit => [⟨.pointer (some q9016), [(Vb false), Vn, (Vi 0), (Vb false), Vn, (Vi 0)], 48, none⟩, ⟨.pointer (some q9017), [(Vb false), Vn, (Vi 0), (Vb false), Vn, (Vi 0)], 48, none⟩]) (fun _ => rfl) rfl rfl) rfl bs_nil (wt_none' rfl) rfl fun ⟨⟩ => ?_
   exact tx_pick' [0, 1] (sub_cons rfl (sub_cons rfl (sub_cons rfl (sub_cons rfl (sub_cons rfl sub_nil))))) (by decide) (pick_cons rfl (pick_cons rfl pick_nil)) (hN24 (q9016, q9017))
  refine nx_ox (last := #[true, true, true, false, true, false, true, true, true, false, false, false]) rfl (ox_alloc' info48 rfl rfl rfl rfl (l := [(Vb false), Vn, (Vi 0), (Vb false), Vn, (Vi 0)]) rfl) rfl bs_nil (wt_none' rfl) rfl fun q9 => ?_
  exact tx_pick' [1, 2, 0] (sub_cons rfl (sub_cons rfl (sub_cons rfl (sub_cons rfl (sub_cons rfl (sub_cons rfl sub_nil)))))) (by decide) (pick_cons rfl (pick_cons rfl (pick_cons rfl pick_nil))) (hN27 (q9016, q9017, q9))
 intro hN17
 refine ax_node (f' := 6) #[true, true, true, false, true, false, true, false, true, false, false, false] (fun (v17 : Addr × Addr) => (⟨28, [], (7, (Vp v17.1)) :: (9, (Vp v17.2)) :: (11, S1) :: (12, S2) :: (14, S3) :: LP1, ⟨.pointer (some v17.1), [(Vb false), Vn, (Vi 0), (Vb false), Vn, (Vi 0)], 48, none⟩ :: ⟨.pointer (some v17.2), [(Vb false), Vn, (Vi 0), (Vb false), Vn, (Vi 0)], 48, none⟩ :: HP1⟩ : St)) ?_ ?_
 ·rintro ⟨q9018, q9019⟩
  refine ax_all (i := 3) (is := [7]) (by kernel_rfl) (all_cons ?_ (all_cons ?_ all_nil))
  ·refine nx_ox (last := #[true, true, true, true, true, false, true, false, true, false, false, false]) rfl (ox_calln' (ent_fn' Try.func14 isn14 rfl rfl) c2 (Hn := fun x : Unit => [⟨.pointer (some q9018), [(Vb false), Vn, (Vi 0), (Vb false), Vn, (Vi 0)], 48, none⟩, ⟨.pointer (some q9019), [(Vb false), Vn, (Vi 0), (Vb false), Vn, (Vi 0)], 48, none⟩]) (fun _ => rfl) rfl rfl) rfl bs_nil (wt_none' rfl) rfl fun ⟨⟩ => ?_
   exact tx_pick' [0, 1] (sub_cons rfl (sub_cons rfl (sub_cons rfl (sub_cons rfl (sub_cons rfl sub_nil))))) (by decide) (pick_cons rfl (pick_cons rfl pick_nil)) (hN25 (q9018, q9019))
  refine nx_ox (last := #[true, true, true, false, true, false, true, true, true, false, false, false]) rfl (ox_alloc' info48 rfl rfl rfl rfl (l := [(Vb false), Vn, (Vi 0), (Vb false), Vn, (Vi 0)]) rfl) rfl bs_nil (wt_none' rfl) rfl fun q8 => ?_
  exact tx_pick' [1, 0, 2] (sub_cons rfl (sub_cons rfl (sub_cons rfl (sub_cons rfl (sub_cons rfl (sub_cons rfl sub_nil)))))) (by decide) (pick_cons rfl (pick_cons rfl (pick_cons rfl pick_nil))) (hN27 (q9018, q8, q9019))
 intro hN18
 refine ax_node (f' := 6) #[true, true, true, false, true, false, false, true, true, false, false, false] (fun (v18 : Addr × Addr) => (⟨28, [], (8, (Vp v18.1)) :: (9, (Vp v18.2)) :: (11, S1) :: (12, S2) :: (14, S3) :: LP1, ⟨.pointer (some v18.1), [(Vb false), Vn, (Vi 0), (Vb false), Vn, (Vi 0)], 48, none⟩ :: ⟨.pointer (some v18.2), [(Vb false), Vn, (Vi 0), (Vb false), Vn, (Vi 0)], 48, none⟩ :: HP1⟩ : St)) ?_ ?_
 ·rintro ⟨q9020, q9021⟩
  refine ax_all (i := 3) (is := [6]) (by kernel_rfl) (all_cons ?_ (all_cons ?_ all_nil))
  ·refine nx_ox (last := #[true, true, true, true, true, false, false, true, true, false, false, false]) rfl (ox_calln' (ent_fn' Try.func14 isn14 rfl rfl) c2 (Hn := fun x : Unit => [⟨.pointer (some q9020), [(Vb false), Vn, (Vi 0), (Vb false), Vn, (Vi 0)], 48, none⟩, ⟨.pointer (some q9021), [(Vb false), Vn, (Vi 0), (Vb false), Vn, (Vi 0)], 48, none⟩]) (fun _ => rfl) rfl rfl) rfl bs_nil (wt_none' rfl) rfl fun ⟨⟩ => ?_
   exact tx_pick' [0, 1] (sub_cons rfl (sub_cons rfl (sub_cons rfl (sub_cons rfl (sub_cons rfl sub_nil))))) (by decide) (pick_cons rfl (pick_cons rfl pick_nil)) (hN26 (q9020, q9021))
  refine nx_ox (last := #[true, true, true, false, true, false, true, true, true, false, false, false]) rfl (ox_alloc' info48 rfl rfl rfl rfl (l := [(Vb false), Vn, (Vi 0), (Vb false), Vn, (Vi 0)]) rfl) rfl bs_nil (wt_none' rfl) rfl fun q7 => ?_
  exact tx_pick' [0, 1, 2] (sub_cons rfl (sub_cons rfl (sub_cons rfl (sub_cons rfl (sub_cons rfl (sub_cons rfl sub_nil)))))) (by decide) (pick_cons rfl (pick_cons rfl (pick_cons rfl pick_nil))) (hN27 (q7, q9020, q9021))
 intro hN19
 refine ax_node (f' := 6) #[true, false, true, false, true, false, true, true, true, false, false, false] (fun (v19 : Addr × Addr × Addr) => (⟨28, [], (7, (Vp v19.1)) :: (8, (Vp v19.2.1)) :: (9, (Vp v19.2.2)) :: (10, S4) :: (12, S2) :: (14, S3) :: LP1, ⟨.pointer (some v19.1), [(Vb false), Vn, (Vi 0), (Vb false), Vn, (Vi 0)], 48, none⟩ :: ⟨.pointer (some v19.2.1), [(Vb false), Vn, (Vi 0), (Vb false), Vn, (Vi 0)], 48, none⟩ :: ⟨.pointer (some v19.2.2), [(Vb false), Vn, (Vi 0), (Vb false), Vn, (Vi 0)], 48, none⟩ :: HP1⟩ : St)) ?_ ?_
 ·rintro ⟨q9022, q9023, q9024⟩
  refine ax_all (i := 1) (is := []) (by kernel_rfl) (all_cons ?_ all_nil)
  ·refine nx_ox (last := #[true, true, true, false, true, false, true, true, true, false, false, false]) rfl (ox_calln' (ent_fn' Try.func14 isn14 rfl rfl) c1 (Hn := fun x : Unit => [⟨.pointer (some q9022), [(Vb false), Vn, (Vi 0), (Vb false), Vn, (Vi 0)], 48, none⟩, ⟨.pointer (some q9023), [(Vb false), Vn, (Vi 0), (Vb false), Vn, (Vi 0)], 48, none⟩, ⟨.pointer (some q9024), [(Vb false), Vn, (Vi 0), (Vb false), Vn, (Vi 0)], 48, none⟩]) (fun _ => rfl) rfl rfl) rfl bs_nil (wt_none' rfl) rfl fun ⟨⟩ => ?_
   exact tx_pick' [0, 1, 2] (sub_cons rfl (sub_cons rfl (sub_cons rfl (sub_cons rfl (sub_cons rfl (sub_cons rfl sub_nil)))))) (by decide) (pick_cons rfl (pick_cons rfl (pick_cons rfl pick_nil))) (hN27 (q9022, q9023, q9024))
 intro hN20
 refine ax_node (f' := 7) #[true, true, true, true, true, false, false, false, false, false, false, false] (fun (v5 : Unit) => (⟨28, [], (11, S1) :: (13, S5) :: (14, S3) :: LP1, HP1⟩ : St)) ?_ ?_
 ·rintro ⟨⟩
  refine ax_all (i := 5) (is := [6, 7, 8]) (by kernel_rfl) (all_cons ?_ (all_cons ?_ (all_cons ?_ (all_cons ?_ all_nil))))
  ·refine nx_ox (last := #[true, true, true, true, true, true, false, false, false, false, false, false]) rfl (ox_calln' (ent_fn' Try.func14 isn14 rfl rfl) c3 (Hn := fun x : Unit => []) (fun _ => rfl) rfl rfl) rfl bs_nil (wt_none' rfl) rfl fun ⟨⟩ => ?_
   exact tx_pick' [] (sub_cons rfl (sub_cons rfl (sub_cons rfl sub_nil))) (by decide) pick_nil (hN13 ())
  ·refine nx_ox (last := #[true, true, true, true, true, false, true, false, false, false, false, false]) rfl (ox_alloc' info48 rfl rfl rfl rfl (l := [(Vb false), Vn, (Vi 0), (Vb false), Vn, (Vi 0)]) rfl) rfl bs_nil (wt_none' rfl) rfl fun q7 => ?_
   exact tx_pick' [0] (sub_cons rfl (sub_cons rfl (sub_cons rfl (sub_cons rfl sub_nil)))) (by decide) (pick_cons rfl pick_nil) (hN14 q7)
  ·refine nx_ox (last := #[true, true, true, true, true, false, false, true, false, false, false, false]) rfl (ox_alloc' info48 rfl rfl rfl rfl (l := [(Vb false), Vn, (Vi 0), (Vb false), Vn, (Vi 0)]) rfl) rfl bs_nil (wt_none' rfl) rfl fun q8 => ?_
   exact tx_pick' [0] (sub_cons rfl (sub_cons rfl (sub_cons rfl (sub_cons rfl sub_nil)))) (by decide) (pick_cons rfl pick_nil) (hN15 q8)
  refine nx_ox (last := #[true, true, true, true, true, false, false, false, true, false, false, false]) rfl (ox_alloc' info48 rfl rfl rfl rfl (l := [(Vb false), Vn, (Vi 0), (Vb false), Vn, (Vi 0)]) rfl) rfl bs_nil (wt_none' rfl) rfl fun q9 => ?_
  exact tx_pick' [0] (sub_cons rfl (sub_cons rfl (sub_cons rfl (sub_cons rfl sub_nil)))) (by decide) (pick_cons rfl pick_nil) (hN16 q9)
 intro hN6
 refine ax_node (f' := 7) #[true, true, true, false, true, false, true, false, false, false, false, false] (fun (v6 : Addr) => (⟨28, [], (7, (Vp v6)) :: (11, S1) :: (12, S2) :: (14, S3) :: LP1, ⟨.pointer (some v6), [(Vb false), Vn, (Vi 0), (Vb false), Vn, (Vi 0)], 48, none⟩ :: HP1⟩ : St)) ?_ ?_
 ·rintro q904
  refine ax_all (i := 3) (is := [7, 8]) (by kernel_rfl) (all_cons ?_ (all_cons ?_ (all_cons ?_ all_nil)))
  ·refine nx_ox (last := #[true, true, true, true, true, false, true, false, false, false, false, false]) rfl (ox_calln' (ent_fn' Try.func14 isn14 rfl rfl) c2 (Hn := fun x : Unit => [⟨.pointer (some q904), [(Vb false), Vn, (Vi 0), (Vb false), Vn, (Vi 0)], 48, none⟩]) (fun _ => rfl) rfl rfl) rfl bs_nil (wt_none' rfl) rfl fun ⟨⟩ => ?_
   exact tx_pick' [0] (sub_cons rfl (sub_cons rfl (sub_cons rfl (sub_cons rfl sub_nil)))) (by decide) (pick_cons rfl pick_nil) (hN14 q904)
  ·refine nx_ox (last := #[true, true, true, false, true, false, true, true, false, false, false, false]) rfl (ox_alloc' info48 rfl rfl rfl rfl (l := [(Vb false), Vn, (Vi 0), (Vb false), Vn, (Vi 0)]) rfl) rfl bs_nil (wt_none' rfl) rfl fun q8 => ?_
   exact tx_pick' [1, 0] (sub_cons rfl (sub_cons rfl (sub_cons rfl (sub_cons rfl (sub_cons rfl sub_nil))))) (by decide) (pick_cons rfl (pick_cons rfl pick_nil)) (hN17 (q904, q8))
  refine nx_ox (last := #[true, true, true, false, true, false, true, false, true, false, false, false]) rfl (ox_alloc' info48 rfl rfl rfl rfl (l := [(Vb false), Vn, (Vi 0), (Vb false), Vn, (Vi 0)]) rfl) rfl bs_nil (wt_none' rfl) rfl fun q9 => ?_
  exact tx_pick' [1, 0] (sub_cons rfl (sub_cons rfl (sub_cons rfl (sub_cons rfl (sub_cons rfl sub_nil))))) (by decide) (pick_cons rfl (pick_cons rfl pick_nil)) (hN18 (q904, q9))
 intro hN7
 refine ax_node (f' := 7) #[true, true, true, false, true, false, false, true, false, false, false, false] (fun (v7 : Addr) => (⟨28, [], (8, (Vp v7)) :: (11, S1) :: (12, S2) :: (14, S3) :: LP1, ⟨.pointer (some v7), [(Vb false), Vn, (Vi 0), (Vb false), Vn, (Vi 0)], 48, none⟩ :: HP1⟩ : St)) ?_ ?_
 ·rintro q905
  refine ax_all (i := 3) (is := [6, 8]) (by kernel_rfl) (all_cons ?_ (all_cons ?_ (all_cons ?_ all_nil)))
  ·refine nx_ox (last := #[true, true, true, true, true, false, false, true, false, false, false, false]) rfl (ox_calln' (ent_fn' Try.func14 isn14 rfl rfl) c2 (Hn := fun x : Unit => [⟨.pointer (some q905), [(Vb false), Vn, (Vi 0), (Vb false), Vn, (Vi 0)], 48, none⟩]) (fun _ => rfl) rfl rfl) rfl bs_nil (wt_none' rfl) rfl fun ⟨⟩ => ?_
   exact tx_pick' [0] (sub_cons rfl (sub_cons rfl (sub_cons rfl (sub_cons rfl sub_nil)))) (by decide) (pick_cons rfl pick_nil) (hN15 q905)
  ·refine nx_ox (last := #[true, true, true, false, true, false, true, true, false, false, false, false]) rfl (ox_alloc' info48 rfl rfl rfl rfl (l := [(Vb false), Vn, (Vi 0), (Vb false), Vn, (Vi 0)]) rfl) rfl bs_nil (wt_none' rfl) rfl fun q7 => ?_
   exact tx_pick' [0, 1] (sub_cons rfl (sub_cons rfl (sub_cons rfl (sub_cons rfl (sub_cons rfl sub_nil))))) (by decide) (pick_cons rfl (pick_cons rfl pick_nil)) (hN17 (q7, q905))
  refine nx_ox (last := #[true, true, true, false, true, false, false, true, true, false, false, false]) rfl (ox_alloc' info48 rfl rfl rfl rfl (l := [(Vb false), Vn, (Vi 0), (Vb false), Vn, (Vi 0)]) rfl) rfl bs_nil (wt_none' rfl) rfl fun q9 => ?_
  exact tx_pick' [1, 0] (sub_cons rfl (sub_cons rfl (sub_cons rfl (sub_cons rfl (sub_cons rfl sub_nil))))) (by decide) (pick_cons rfl (pick_cons rfl pick_nil)) (hN19 (q905, q9))
 intro hN8
 refine ax_node (f' := 7) #[true, true, true, false, true, false, false, false, true, false, false, false] (fun (v8 : Addr) => (⟨28, [], (9, (Vp v8)) :: (11, S1) :: (12, S2) :: (14, S3) :: LP1, ⟨.pointer (some v8), [(Vb false), Vn, (Vi 0), (Vb false), Vn, (Vi 0)], 48, none⟩ :: HP1⟩ : St)) ?_ ?_
 ·rintro q906
  refine ax_all (i := 3) (is := [6, 7]) (by kernel_rfl) (all_cons ?_ (all_cons ?_ (all_cons ?_ all_nil)))
  ·refine nx_ox (last := #[true, true, true, true, true, false, false, false, true, false, false, false]) rfl (ox_calln' (ent_fn' Try.func14 isn14 rfl rfl) c2 (Hn := fun x : Unit => [⟨.pointer (some q906), [(Vb false), Vn, (Vi 0), (Vb false), Vn, (Vi 0)], 48, none⟩]) (fun _ => rfl) rfl rfl) rfl bs_nil (wt_none' rfl) rfl fun ⟨⟩ => ?_
   exact tx_pick' [0] (sub_cons rfl (sub_cons rfl (sub_cons rfl (sub_cons rfl sub_nil)))) (by decide) (pick_cons rfl pick_nil) (hN16 q906)
  ·refine nx_ox (last := #[true, true, true, false, true, false, true, false, true, false, false, false]) rfl (ox_alloc' info48 rfl rfl rfl rfl (l := [(Vb false), Vn, (Vi 0), (Vb false), Vn, (Vi 0)]) rfl) rfl bs_nil (wt_none' rfl) rfl fun q7 => ?_
   exact tx_pick' [0, 1] (sub_cons rfl (sub_cons rfl (sub_cons rfl (sub_cons rfl (sub_cons rfl sub_nil))))) (by decide) (pick_cons rfl (pick_cons rfl pick_nil)) (hN18 (q7, q906))
  refine nx_ox (last := #[true, true, true, false, true, false, false, true, true, false, false, false]) rfl (ox_alloc' info48 rfl rfl rfl rfl (l := [(Vb false), Vn, (Vi 0), (Vb false), Vn, (Vi 0)]) rfl) rfl bs_nil (wt_none' rfl) rfl fun q8 => ?_
  exact tx_pick' [0, 1] (sub_cons rfl (sub_cons rfl (sub_cons rfl (sub_cons rfl (sub_cons rfl sub_nil))))) (by decide) (pick_cons rfl (pick_cons rfl pick_nil)) (hN19 (q8, q906))
 intro hN9
 refine ax_node (f' := 7) #[true, false, true, false, true, false, true, true, false, false, false, false] (fun (v9 : Addr × Addr) => (⟨28, [], (7, (Vp v9.1)) :: (8, (Vp v9.2)) :: (10, S4) :: (12, S2) :: (14, S3) :: LP1, ⟨.pointer (some v9.1), [(Vb false), Vn, (Vi 0), (Vb false), Vn, (Vi 0)], 48, none⟩ :: ⟨.pointer (some v9.2), [(Vb false), Vn, (Vi 0), (Vb false), Vn, (Vi 0)], 48, none⟩ :: HP1⟩ : St)) ?_ ?_
 ·rintro ⟨q907, q908⟩
  refine ax_all (i := 1) (is := [8]) (by kernel_rfl) (all_cons ?_ (all_cons ?_ all_nil))
  ·refine nx_ox (last := #[true, true, true, false, true, false, true, true, false, false, false, false]) rfl (ox_calln' (ent_fn' Try.func14 isn14 rfl rfl) c1 (Hn := fun x : Unit => [⟨.pointer (some q907), [(Vb false), Vn, (Vi 0), (Vb false), Vn, (Vi 0)], 48, none⟩, ⟨.pointer (some q908), [(Vb false), Vn, (Vi 0), (Vb false), Vn, (Vi 0)], 48, none⟩]) (fun _ => rfl) rfl rfl) rfl bs_nil (wt_none' rfl) rfl fun ⟨⟩ => ?_
   exact tx_pick' [0, 1] (sub_cons rfl (sub_cons rfl (sub_cons rfl (sub_cons rfl (sub_cons rfl sub_nil))))) (by decide) (pick_cons rfl (pick_cons rfl pick_nil)) (hN17 (q907, q908))
  refine nx_ox (last := #[true, false, true, false, true, false, true, true, true, false, false, false]) rfl (ox_alloc' info48 rfl rfl rfl rfl (l := [(Vb false), Vn, (Vi 0), (Vb false), Vn, (Vi 0)]) rfl) rfl bs_nil (wt_none' rfl) rfl fun q9 => ?_
  exact tx_pick' [1, 2, 0] (sub_cons rfl (sub_cons rfl (sub_cons rfl (sub_cons rfl (sub_cons rfl (sub_cons rfl sub_nil)))))) (by decide) (pick_cons rfl (pick_cons rfl (pick_cons rfl pick_nil))) (hN20 (q907, q908, q9))
 intro hN10
 refine ax_node (f' := 7) #[true, false, true, false, true, false, true, false, true, false, false, false] (fun (v10 : Addr × Addr) => (⟨28, [], (7, (Vp v10.1)) :: (9, (Vp v10.2)) :: (10, S4) :: (12, S2) :: (14, S3) :: LP1, ⟨.pointer (some v10.1), [(Vb false), Vn, (Vi 0), (Vb false), Vn, (Vi 0)], 48, none⟩ :: ⟨.pointer (some v10.2), [(Vb false), Vn, (Vi 0), (Vb false), Vn, (Vi 0)], 48, none⟩ :: HP1⟩ : St)) ?_ ?_
 ·rintro ⟨q909, q9010⟩
  refine ax_all (i := 1) (is := [7]) (by kernel_rfl) (all_cons ?_ (all_cons ?_ all_nil))
  ·refine nx_ox (last := #[true, true, true, false, true, false, true, false, true, false, false, false]) rfl (ox_calln' (ent_fn' Try.func14 isn14 rfl rfl) c1 (Hn := fun x : Unit => [⟨.pointer (some q909), [(Vb false), Vn, (Vi 0), (Vb false), Vn, (Vi 0)], 48, none⟩, ⟨.pointer (some q9010), [(Vb false), Vn, (Vi 0), (Vb false), Vn, (Vi 0)], 48, none⟩]) (fun _ => rfl) rfl rfl) rfl bs_nil (wt_none' rfl) rfl fun ⟨⟩ => ?_
   exact tx_pick' [0, 1] (sub_cons rfl (sub_cons rfl (sub_cons rfl (sub_cons rfl (sub_cons rfl sub_nil))))) (by decide) (pick_cons rfl (pick_cons rfl pick_nil)) (hN18 (q909, q9010))
  refine nx_ox (last := #[true, false, true, false, true, false, true, true, true, false, false, false]) rfl (ox_alloc' info48 rfl rfl rfl rfl (l := [(Vb false), Vn, (Vi 0), (Vb false), Vn, (Vi 0)]) rfl) rfl bs_nil (wt_none' rfl) rfl fun q8 => ?_
  exact tx_pick' [1, 0, 2] (sub_cons rfl (sub_cons rfl (sub_cons rfl (sub_cons rfl (sub_cons rfl (sub_cons rfl sub_nil)))))) (by decide) (pick_cons rfl (pick_cons rfl (pick_cons rfl pick_nil))) (hN20 (q909, q8, q9010))
 intro hN11
 refine ax_node (f' := 7) #[true, false, true, false, true, false, false, true, true, false, false, false] (fun (v11 : Addr × Addr) => (⟨28, [], (8, (Vp v11.1)) :: (9, (Vp v11.2)) :: (10, S4) :: (12, S2) :: (14, S3) :: LP1, ⟨.pointer (some v11.1), [(Vb false), Vn, (Vi 0), (Vb false), Vn, (Vi 0)], 48, none⟩ :: ⟨.pointer (some v11.2), [(Vb false), Vn, (Vi 0), (Vb false), Vn, (Vi 0)], 48, none⟩ :: HP1⟩ : St)) ?_ ?_
 ·rintro ⟨q9011, q9012⟩
  refine ax_all (i := 1) (is := [6]) (by kernel_rfl) (all_cons ?_ (all_cons ?_ all_nil))
  ·refine nx_ox (last := #[true, true, true, false, true, false, false, true, true, false, false, false]) rfl (ox_calln' (ent_fn' Try.func14 isn14 rfl rfl) c1 (Hn := fun x : Unit => [⟨.pointer (some q9011), [(Vb false), Vn, (Vi 0), (Vb false), Vn, (Vi 0)], 48, none⟩, ⟨.pointer (some q9012), [(Vb false), Vn, (Vi 0), (Vb false), Vn, (Vi 0)], 48, none⟩]) (fun _ => rfl) rfl rfl) rfl bs_nil (wt_none' rfl) rfl fun ⟨⟩ => ?_
   exact tx_pick' [0, 1] (sub_cons rfl (sub_cons rfl (sub_cons rfl (sub_cons rfl (sub_cons rfl sub_nil))))) (by decide) (pick_cons rfl (pick_cons rfl pick_nil)) (hN19 (q9011, q9012))
  refine nx_ox (last := #[true, false, true, false, true, false, true, true, true, false, false, false]) rfl (ox_alloc' info48 rfl rfl rfl rfl (l := [(Vb false), Vn, (Vi 0), (Vb false), Vn, (Vi 0)]) rfl) rfl bs_nil (wt_none' rfl) rfl fun q7 => ?_
  exact tx_pick' [0, 1, 2] (sub_cons rfl (sub_cons rfl (sub_cons rfl (sub_cons rfl (sub_cons rfl (sub_cons rfl sub_nil)))))) (by decide) (pick_cons rfl (pick_cons rfl (pick_cons rfl pick_nil))) (hN20 (q7, q9011, q9012))
 intro hN12
 refine ax_node (f' := 8) #[true, true, true, false, true, false, false, false, false, false, false, false] (fun (v1 : Unit) => (⟨28, [], (11, S1) :: (12, S2) :: (14, S3) :: LP1, HP1⟩ : St)) ?_ ?_
 ·rintro ⟨⟩
  refine ax_all (i := 3) (is := [6, 7, 8]) (by kernel_rfl) (all_cons ?_ (all_cons ?_ (all_cons ?_ (all_cons ?_ all_nil))))
  ·refine nx_ox (last := #[true, true, true, true, true, false, false, false, false, false, false, false]) rfl (ox_calln' (ent_fn' Try.func14 isn14 rfl rfl) c2 (Hn := fun x : Unit => []) (fun _ => rfl) rfl rfl) rfl bs_nil (wt_none' rfl) rfl fun ⟨⟩ => ?_
   exact tx_pick' [] (sub_cons rfl (sub_cons rfl (sub_cons rfl sub_nil))) (by decide) pick_nil (hN6 ())
  ·refine nx_ox (last := #[true, true, true, false, true, false, true, false, false, false, false, false]) rfl (ox_alloc' info48 rfl rfl rfl rfl (l := [(Vb false), Vn, (Vi 0), (Vb false), Vn, (Vi 0)]) rfl) rfl bs_nil (wt_none' rfl) rfl fun q7 => ?_
   exact tx_pick' [0] (sub_cons rfl (sub_cons rfl (sub_cons rfl (sub_cons rfl sub_nil)))) (by decide) (pick_cons rfl pick_nil) (hN7 q7)
  ·refine nx_ox (last := #[true, true, true, false, true, false, false, true, false, false, false, false]) rfl (ox_alloc' info48 rfl rfl rfl rfl (l := [(Vb false), Vn, (Vi 0), (Vb false), Vn, (Vi 0)]) rfl) rfl bs_nil (wt_none' rfl) rfl fun q8 => ?_
   exact tx_pick' [0] (sub_cons rfl (sub_cons rfl (sub_cons rfl (sub_cons rfl sub_nil)))) (by decide) (pick_cons rfl pick_nil) (hN8 q8)
  refine nx_ox (last := #[true, true, true, false, true, false, false, false, true, false, false, false]) rfl (ox_alloc' info48 rfl rfl rfl rfl (l := [(Vb false), Vn, (Vi 0), (Vb false), Vn, (Vi 0)]) rfl) rfl bs_nil (wt_none' rfl) rfl fun q9 => ?_
  exact tx_pick' [0] (sub_cons rfl (sub_cons rfl (sub_cons rfl (sub_cons rfl sub_nil)))) (by decide) (pick_cons rfl pick_nil) (hN9 q9)
 intro hN2
 refine ax_node (f' := 8) #[true, false, true, false, true, false, true, false, false, false, false, false] (fun (v2 : Addr) => (⟨28, [], (7, (Vp v2)) :: (10, S4) :: (12, S2) :: (14, S3) :: LP1, ⟨.pointer (some v2), [(Vb false), Vn, (Vi 0), (Vb false), Vn, (Vi 0)], 48, none⟩ :: HP1⟩ : St)) ?_ ?_
 ·rintro q901
  refine ax_all (i := 1) (is := [7, 8]) (by kernel_rfl) (all_cons ?_ (all_cons ?_ (all_cons ?_ all_nil)))
  ·refine nx_ox (last := #[true, true, true, false, true, false, true, false, false, false, false, false]) rfl (ox_calln' (ent_fn' Try.func14 isn14 rfl rfl) c1 (Hn := fun x : Unit => [⟨.pointer (some q901), [(Vb false), Vn, (Vi 0), (Vb false), Vn, (Vi 0)], 48, none⟩]) (fun _ => rfl) rfl rfl) rfl bs_nil (wt_none' rfl) rfl fun ⟨⟩ => ?_
   exact tx_pick' [0] (sub_cons rfl (sub_cons rfl (sub_cons rfl (sub_cons rfl sub_nil)))) (by decide) (pick_cons rfl pick_nil) (hN7 q901)
  ·refine nx_ox (last := #[true, false, true, false, true, false, true, true, false, false, false, false]) rfl (ox_alloc' info48 rfl rfl rfl rfl (l := [(Vb false), Vn, (Vi 0), (Vb false), Vn, (Vi 0)]) rfl) rfl bs_nil (wt_none' rfl) rfl fun q8 => ?_
   exact tx_pick' [1, 0] (sub_cons rfl (sub_cons rfl (sub_cons rfl (sub_cons rfl (sub_cons rfl sub_nil))))) (by decide) (pick_cons rfl (pick_cons rfl pick_nil)) (hN10 (q901, q8))
  refine nx_ox (last := #[true, false, true, false, true, false, true, false, true, false, false, false]) rfl (ox_alloc' info48 rfl rfl rfl rfl (l := [(Vb false), Vn, (Vi 0), (Vb false), Vn, (Vi 0)]) rfl) rfl bs_nil (wt_none' rfl) rfl fun q9 => ?_
  exact tx_pick' [1, 0] (sub_cons rfl (sub_cons rfl (sub_cons rfl (sub_cons rfl (sub_cons rfl sub_nil))))) (by decide) (pick_cons rfl (pick_cons rfl pick_nil)) (hN11 (q901, q9))
 intro hN3
 refine ax_node (f' := 8) #[true, false, true, false, true, false, false, true, false, false, false, false] (fun (v3 : Addr) => (⟨28, [], (8, (Vp v3)) :: (10, S4) :: (12, S2) :: (14, S3) :: LP1, ⟨.pointer (some v3), [(Vb false), Vn, (Vi 0), (Vb false), Vn, (Vi 0)], 48, none⟩ :: HP1⟩ : St)) ?_ ?_
 ·rintro q902
  refine ax_all (i := 1) (is := [6, 8]) (by kernel_rfl) (all_cons ?_ (all_cons ?_ (all_cons ?_ all_nil)))
  ·refine nx_ox (last := #[true, true, true, false, true, false, false, true, false, false, false, false]) rfl (ox_calln' (ent_fn' Try.func14 isn14 rfl rfl) c1 (Hn := fun x : Unit => [⟨.pointer (some q902), [(Vb false), Vn, (Vi 0), (Vb false), Vn, (Vi 0)], 48, none⟩]) (fun _ => rfl) rfl rfl) rfl bs_nil (wt_none' rfl) rfl fun ⟨⟩ => ?_
   exact tx_pick' [0] (sub_cons rfl (sub_cons rfl (sub_cons rfl (sub_cons rfl sub_nil)))) (by decide) (pick_cons rfl pick_nil) (hN8 q902)
  ·refine nx_ox (last := #[true, false, true, false, true, false, true, true, false, false, false, false]) rfl (ox_alloc' info48 rfl rfl rfl rfl (l := [(Vb false), Vn, (Vi 0), (Vb false), Vn, (Vi 0)]) rfl) rfl bs_nil (wt_none' rfl) rfl fun q7 => ?_
   exact tx_pick' [0, 1] (sub_cons rfl (sub_cons rfl (sub_cons rfl (sub_cons rfl (sub_cons rfl sub_nil))))) (by decide) (pick_cons rfl (pick_cons rfl pick_nil)) (hN10 (q7, q902))
  refine nx_ox (last := #[true, false, true, false, true, false, false, true, true, false, false, false]) rfl (ox_alloc' info48 rfl rfl rfl rfl (l := [(Vb false), Vn, (Vi 0), (Vb false), Vn, (Vi 0)]) rfl) rfl bs_nil (wt_none' rfl) rfl fun q9 => ?_
  exact tx_pick' [1, 0] (sub_cons rfl (sub_cons rfl (sub_cons rfl (sub_cons rfl (sub_cons rfl sub_nil))))) (by decide) (pick_cons rfl (pick_cons rfl pick_nil)) (hN12 (q902, q9))
 intro hN4
 refine ax_node (f' := 8) #[true, false, true, false, true, false, false, false, true, false, false, false] (fun (v4 : Addr) => (⟨28, [], (9, (Vp v4)) :: (10, S4) :: (12, S2) :: (14, S3) :: LP1, ⟨.pointer (some v4), [(Vb false), Vn, (Vi 0), (Vb false), Vn, (Vi 0)], 48, none⟩ :: HP1⟩ : St)) ?_ ?_
 ·rintro q903
  refine ax_all (i := 1) (is := [6, 7]) (by kernel_rfl) (all_cons ?_ (all_cons ?_ (all_cons ?_ all_nil)))
  ·refine nx_ox (last := #[true, true, true, false, true, false, false, false, true, false, false, false]) rfl (ox_calln' (ent_fn' Try.func14 isn14 rfl rfl) c1 (Hn := fun x : Unit => [⟨.pointer (some q903), [(Vb false), Vn, (Vi 0), (Vb false), Vn, (Vi 0)], 48, none⟩]) (fun _ => rfl) rfl rfl) rfl bs_nil (wt_none' rfl) rfl fun ⟨⟩ => ?_
   exact tx_pick' [0] (sub_cons rfl (sub_cons rfl (sub_cons rfl (sub_cons rfl sub_nil)))) (by decide) (pick_cons rfl pick_nil) (hN9 q903)
  ·refine nx_ox (last := #[true, false, true, false, true, false, true, false, true, false, false, false]) rfl (ox_alloc' info48 rfl rfl rfl rfl (l := [(Vb false), Vn, (Vi 0), (Vb false), Vn, (Vi 0)]) rfl) rfl bs_nil (wt_none' rfl) rfl fun q7 => ?_
   exact tx_pick' [0, 1] (sub_cons rfl (sub_cons rfl (sub_cons rfl (sub_cons rfl (sub_cons rfl sub_nil))))) (by decide) (pick_cons rfl (pick_cons rfl pick_nil)) (hN11 (q7, q903))
  refine nx_ox (last := #[true, false, true, false, true, false, false, true, true, false, false, false]) rfl (ox_alloc' info48 rfl rfl rfl rfl (l := [(Vb false), Vn, (Vi 0), (Vb false), Vn, (Vi 0)]) rfl) rfl bs_nil (wt_none' rfl) rfl fun q8 => ?_
  exact tx_pick' [0, 1] (sub_cons rfl (sub_cons rfl (sub_cons rfl (sub_cons rfl (sub_cons rfl sub_nil))))) (by decide) (pick_cons rfl (pick_cons rfl pick_nil)) (hN12 (q8, q903))
 intro hN5
 refine ax_all (i := 1) (is := [6, 7, 8]) (by kernel_rfl) (all_cons ?_ (all_cons ?_ (all_cons ?_ (all_cons ?_ all_nil))))
 ·refine nx_ox (last := #[true, true, true, false, true, false, false, false, false, false, false, false]) rfl (ox_calln' (ent_fn' Try.func14 isn14 rfl rfl) c1 (Hn := fun x : Unit => [⟨.pointer (some q5), [(Vg a2_0), (Vg a2_1)], 43, none⟩, ⟨.pointer (some q4), [(Vg a1_0), (Vg a1_1)], 43, none⟩, ⟨.pointer (some q3), [(Vg a0_0), (Vg a0_1)], 43, none⟩]) (fun _ => rfl) rfl rfl) rfl bs_nil (wt_none' rfl) rfl fun ⟨⟩ => ?_
  exact tx_pick' [] (sub_cons rfl (sub_cons rfl (sub_cons rfl sub_nil))) (by decide) pick_nil (hN2 ())
 ·refine nx_ox (last := #[true, false, true, false, true, false, true, false, false, false, false, false]) rfl (ox_alloc' info48 rfl rfl rfl rfl (l := [(Vb false), Vn, (Vi 0), (Vb false), Vn, (Vi 0)]) rfl) rfl bs_nil (wt_none' rfl) rfl fun q7 => ?_
  exact tx_pick' [0] (sub_cons rfl (sub_cons rfl (sub_cons rfl (sub_cons rfl sub_nil)))) (by decide) (pick_cons rfl pick_nil) (hN3 q7)
 ·refine nx_ox (last := #[true, false, true, false, true, false, false, true, false, false, false, false]) rfl (ox_alloc' info48 rfl rfl rfl rfl (l := [(Vb false), Vn, (Vi 0), (Vb false), Vn, (Vi 0)]) rfl) rfl bs_nil (wt_none' rfl) rfl fun q8 => ?_
  exact tx_pick' [0] (sub_cons rfl (sub_cons rfl (sub_cons rfl (sub_cons rfl sub_nil)))) (by decide) (pick_cons rfl pick_nil) (hN4 q8)
 refine nx_ox (last := #[true, false, true, false, true, false, false, false, true, false, false, false]) rfl (ox_alloc' info48 rfl rfl rfl rfl (l := [(Vb false), Vn, (Vi 0), (Vb false), Vn, (Vi 0)]) rfl) rfl bs_nil (wt_none' rfl) rfl fun q9 => ?_
 exact tx_pick' [0] (sub_cons rfl (sub_cons rfl (sub_cons rfl (sub_cons rfl sub_nil)))) (by decide) (pick_cons rfl pick_nil) (hN5 q9)

def math_frexp_j1 (k : Nat) (a0 : Nat) (x1 : Bool) : Option (Nat × Int) :=
 br x1
  (some (a0, 0))
  ((math_normalize k a0) >>= fun r19 =>
  (num r19.1) >>= fun u1 =>
  (ishr .u64 (fbits r19.1) 52) >>= fun r26 =>
  some (ffrom (ior .u64 (iandn .u64 (fbits r19.1) 9218868437227405312) 4602678819172646912), iadd .i64 r19.2 (iadd .i64 (isub .i64 (icv .i64 (iand .u64 r26 2047)) 1023) 1)))
def math_frexp (k : Nat) (a0 : Nat) : Option (Nat × Int) :=
 br (feq a0 0)
  (some (a0, 0))
  ((math_IsInf k a0 0) >>= fun r11 =>
  br r11
   (math_frexp_j1 k a0 true)
   ((math_IsNaN k a0) >>= fun r14 =>
   math_frexp_j1 k a0 r14))

theorem math_frexp_sim {k : Nat}  (a0 : Nat) {out : Nat × Int} (hp : math_frexp k a0 = some out) : Sx.Fn Try.prog 98 [(Vg a0)] [] (fun w : Unit => (Tu [(Vg out.1), (Vi out.2)])) (fun w => []) := by
 unfold math_frexp at hp
 refine fn_of Try.func98 rfl Try.ntmps98 rfl fun E hM => ?_
 refine cr fun K1 hK1 => ?_
 refine s0 (rd_assign' rfl) ?_
 refine s0 (rd_assign' rfl) ?_
 refine nk hK1 ?_
 refine cx_seq' fun K2 hK2 => ?_
 refine cx_block' ?_
 refine cr fun K3 hK3 => ?_
 refine s0 (rd_move' rfl) ?_
 refine s0 (rd_bin' rfl rfl eg_flt ru_feq) ?_
 refine s0 (rd_assign' rfl) ?_
 refine nk hK3 ?_
 refine cx_cond' rfl (fun h1 => ?_) (fun h1 => ?_)
 ·replace hp := (br_t h1).symm.trans hp
  refine cr fun K4 hK4 => ?_
  refine s0 (rd_move' rfl) ?_
  refine s0 (rd_assign' rfl) ?_
  refine s0 (rd_assign' rfl) ?_
  refine nk hK4 ?_
  refine cx_retc' ?_
  replace hp := Option.some.inj hp
  subst hp
  refine tx_pick' (L' := [(2, (Vg a0)), (3, (Vi 0))]) (H' := []) [] (sub_cons rfl (sub_cons rfl sub_nil)) (by decide) pick_nil ?_
  exact tx_ret2' Try.results98 rfl () (rv_tmp' rfl) (rv_tmp' rfl) rfl (List.Sublist.refl _)
 replace hp := (br_f h1).symm.trans hp
 refine cr fun K5 hK5 => ?_
 refine s0 (rd_move' rfl) ?_
 obtain ⟨r11, hr11, hp⟩ := bind_some hp
 refine sx_ox' (ox_calln' (ent_fn' Try.func79 isn79 rfl rfl) (math_IsInf_sim _ _ hr11 : Sx.Fn Try.prog 79 [(Vg a0), (Vi 0)] [] (fun x : Unit => (Vb r11)) (fun x => [])) (Hn := fun x : Unit => []) (fun _ => rfl) rfl rfl) (wt_none' rfl) fun ⟨⟩ => ?_
 refine s0 (rd_move' rfl) ?_
 refine sx_cutn' 3 (fun (v1 : Bool) => (⟨38, [], [(0, (Vg a0)), (15, (Vb v1))], []⟩ : St)) (fun (v1 : Bool) => math_frexp_j1 k a0 v1 = some out) ?_ ?_
 ·rintro x1 hp
  replace hp : math_frexp_j1 k a0 x1 = some out := hp
  unfold math_frexp_j1 at hp
  refine s0 (rd_assign' rfl) ?_
  refine nk hK5 ?_
  refine cx_cond' rfl (fun h3 => ?_) (fun h3 => ?_)
  ·replace hp := (br_t h3).symm.trans hp
   refine cr fun K7 hK7 => ?_
   refine s0 (rd_move' rfl) ?_
   refine s0 (rd_assign' rfl) ?_
   refine s0 (rd_assign' rfl) ?_
   refine nk hK7 ?_
   refine cx_retc' ?_
   replace hp := Option.some.inj hp
   subst hp
   refine tx_pick' (L' := [(2, (Vg a0)), (3, (Vi 0))]) (H' := []) [] (sub_cons rfl (sub_cons rfl sub_nil)) (by decide) pick_nil ?_
   exact tx_ret2' Try.results98 rfl () (rv_tmp' rfl) (rv_tmp' rfl) rfl (List.Sublist.refl _)
  replace hp := (br_f h3).symm.trans hp
  refine cx_skip' ?_
  show TX E K2 _
  refine tx_k' hK2 ?_
  refine cr fun K8 hK8 => ?_
  refine s0 (rd_move' rfl) ?_
  obtain ⟨r19, hr19, hp⟩ := bind_some hp
  refine sx_ox' (ox_calln' (ent_fn' Try.func86 isn86 rfl rfl) (math_normalize_sim _ hr19 : Sx.Fn Try.prog 86 [(Vg a0)] [] (fun x : Unit => (Tu [(Fl r19.1), (Vi r19.2)])) (fun x => [])) (Hn := fun x : Unit => []) (fun _ => rfl) rfl rfl) (wt_none' rfl) fun ⟨⟩ => ?_
  refine s0 (rd_move' rfl) ?_
  refine s0 (rd_extract' rfl rfl) ?_
  refine s0 (rd_extract' rfl rfl) ?_
  refine s0 (rd_assign' rfl) ?_
  refine s0 (rd_assign' rfl) ?_
  refine nk hK8 ?_
  refine cr fun K9 hK9 => ?_
  refine s0 (rd_move' rfl) ?_
  obtain ⟨u1, hu1, hp⟩ := bind_some hp
  refine tx_slot' 22 (y := (Vg r19.1)) rfl (imp_num (num_some hu1).2) ?_
  refine s0 (rd_ext' (us := [.float .f64 r19.1]) rfl (ext39 ex_bits)) ?_
  refine s0 (rd_assign' rfl) ?_
  refine nk hK9 ?_
  refine cr fun K10 hK10 => ?_
  refine s0 (rd_move' rfl) ?_
  refine s0 (rd_move' rfl) ?_
  obtain ⟨r26, hr26, hp⟩ := bind_some hp
  refine s0 (rd_bin' rfl rfl eg_int (ru_shr hr26)) ?_
  refine s0 (rd_bin' rfl rfl eg_int ru_and) ?_
  refine s0 (rd_conv' rfl (ru_i2i (by rw [Try.underlying74]; rfl) Try.underlying3)) ?_
  refine s0 (rd_bin' rfl rfl eg_int ru_sub) ?_
  refine s0 (rd_bin' rfl rfl eg_int ru_add) ?_
  refine s0 (rd_bin' rfl rfl eg_int ru_add) ?_
  refine s0 (rd_assign' rfl) ?_
  refine nk hK10 ?_
  refine cr fun K11 hK11 => ?_
  refine s0 (rd_move' rfl) ?_
  refine s0 (rd_bin' rfl rfl eg_int ru_andn) ?_
  refine s0 (rd_assign' rfl) ?_
  refine nk hK11 ?_
  refine cr fun K12 hK12 => ?_
  refine s0 (rd_move' rfl) ?_
  refine s0 (rd_bin' rfl rfl eg_int ru_or) ?_
  refine s0 (rd_assign' rfl) ?_
  refine nk hK12 ?_
  refine cr fun K13 hK13 => ?_
  refine s0 (rd_move' rfl) ?_
  refine s0 (rd_ext' (us := [.int .u64 (ior .u64 (iandn .u64 (fbits r19.1) 9218868437227405312) 4602678819172646912)]) rfl (ext38 ex_from)) ?_
  refine s0 (rd_assign' rfl) ?_
  refine nk hK13 ?_
  refine cx_retc' ?_
  replace hp := Option.some.inj hp
  subst hp
  refine tx_pick' (L' := [(2, (Vg (ffrom (ior .u64 (iandn .u64 (fbits r19.1) 9218868437227405312) 4602678819172646912)))), (3, (Vi (iadd .i64 r19.2 (iadd .i64 (isub .i64 (icv .i64 (iand .u64 r26 2047)) 1023) 1))))]) (H' := []) [] (sub_cons rfl (sub_cons rfl sub_nil)) (by decide) pick_nil ?_
  exact tx_ret2' Try.results98 rfl () (rv_tmp' rfl) (rv_tmp' rfl) rfl (List.Sublist.refl _)
 intro K6 hK6
 rcases br_cases hp with ⟨h2, hp⟩ | ⟨h2, hp⟩
 ·refine sx_skip' rfl rfl (wt_is' (wt_guard' rfl rfl rfl) (beq_tf h2)) ?_
  refine sx_skip' rfl rfl (wt_is' (wt_guard' rfl rfl rfl) (beq_tf h2)) ?_
  refine s0 (rd_pick_true' rfl h2 rfl) ?_
  refine sx_nil' ?_
  show TX E K6 _
  exact tx_pick' [] (sub_cons rfl (sub_cons rfl sub_nil)) (by decide) pick_nil (hK6 true hp)
 refine sx_rd' (rd_move' rfl) rfl rfl (wt_is' (wt_guard' rfl rfl rfl) (beq_ff h2)) ?_
 obtain ⟨r14, hr14, hp⟩ := bind_some hp
 refine sx_ox' (ox_calln' (ent_fn' Try.func47 isn47 rfl rfl) (math_IsNaN_sim _ hr14 : Sx.Fn Try.prog 47 [(Vg a0)] [] (fun x : Unit => (Vb r14)) (fun x => [])) (Hn := fun x : Unit => []) (fun _ => rfl) rfl rfl) (wt_is' (wt_guard' rfl rfl rfl) (beq_ff h2)) fun ⟨⟩ => ?_
 refine s0 (rd_pick_false' rfl h2 rfl) ?_
 refine sx_nil' ?_
 show TX E K6 _
 exact tx_pick' [] (sub_cons rfl (sub_cons rfl sub_nil)) (by decide) pick_nil (hK6 r14 hp)

def math_Frexp (k : Nat) (a0 : Nat) : Option (Nat × Int) :=
 (math_frexp k a0) >>= fun r9 =>
 some (r9.1, r9.2)

theorem math_Frexp_sim {k : Nat}  (a0 : Nat) {out : Nat × Int} (hp : math_Frexp k a0 = some out) : Sx.Fn Try.prog 95 [(Vg a0)] [] (fun w : Unit => (Tu [(Vg out.1), (Vi out.2)])) (fun w => []) := by
 unfold math_Frexp at hp
 refine fn_of Try.func95 rfl Try.ntmps95 rfl fun E hM => ?_
 refine cr fun K1 hK1 => ?_
 refine s0 (rd_assign' rfl) ?_
 refine s0 (rd_assign' rfl) ?_
 refine nk hK1 ?_
 refine cx_seq' fun K2 hK2 => ?_
 refine cx_cond_f' rfl rfl ?_
 refine cx_skip' ?_
 show TX E K2 _
 refine tx_k' hK2 ?_
 refine cr fun K3 hK3 => ?_
 refine s0 (rd_move' rfl) ?_
 obtain ⟨r9, hr9, hp⟩ := bind_some hp
 refine sx_ox' (ox_calln' (ent_fn' Try.func98 isn98 rfl rfl) (math_frexp_sim _ hr9 : Sx.Fn Try.prog 98 [(Vg a0)] [] (fun x : Unit => (Tu [(Vg r9.1), (Vi r9.2)])) (fun x => [])) (Hn := fun x : Unit => []) (fun _ => rfl) rfl rfl) (wt_none' rfl) fun ⟨⟩ => ?_
 refine s0 (rd_extract' rfl rfl) ?_
 refine s0 (rd_extract' rfl rfl) ?_
 refine s0 (rd_assign' rfl) ?_
 refine s0 (rd_assign' rfl) ?_
 refine nk hK3 ?_
 refine cx_retc' ?_
 replace hp := Option.some.inj hp
 subst hp
 refine tx_pick' (L' := [(2, (Vg r9.1)), (3, (Vi r9.2))]) (H' := []) [] (sub_cons rfl (sub_cons rfl sub_nil)) (by decide) pick_nil ?_
 exact tx_ret2' Try.results95 rfl () (rv_tmp' rfl) (rv_tmp' rfl) rfl (List.Sublist.refl _)

def math_mod_j6 (k : Nat) (r26 : Nat) (r29 : Nat × Int) (x7 : Nat) (rec1 : Nat → Option (Nat)) (x6 : Int) : Option (Nat) :=
 (math_Ldexp k r26 (isub .i64 x6 r29.2)) >>= fun r55 =>
 (some (gsub x7 r55)) >>= fun r56 =>
 rec1 r56
def math_mod_l1s (r26 : Nat) (r29 : Nat × Int) (k : Nat) (rec1 : Nat → Option (Nat)) (x7 : Nat) : Option (Nat) :=
 br (fge x7 r26)
  ((num x7) >>= fun u1 =>
  (math_Frexp k x7) >>= fun r42 =>
  br (flt r42.1 r29.1)
   (math_mod_j6 k r26 r29 x7 rec1 (isub .i64 r42.2 1))
   (math_mod_j6 k r26 r29 x7 rec1 r42.2))
  (some x7)
def math_mod_l1 (r26 : Nat) (r29 : Nat × Int) : Nat → Nat → Option (Nat)
 | 0, _ => none
 | k + 1, v => math_mod_l1s r26 r29 k (math_mod_l1 r26 r29 k) v
def math_mod_j7 (k : Nat) (x9 : Nat) : Option (Nat) :=
 some x9
def math_mod_j4 (k : Nat) (r26 : Nat) (r29 : Nat × Int) (a0 : Nat) (x4 : Nat) : Option (Nat) :=
 (math_mod_l1 r26 r29 k x4) >>= fun v8 =>
 br (flt a0 0)
  (math_mod_j7 k (fneg v8))
  (math_mod_j7 k v8)
def math_mod_j3 (k : Nat) (a1 : Nat) (a0 : Nat) (x3 : Bool) : Option (Nat) :=
 br x3
  ((math_NaN k) >>= fun r24 =>
  some r24)
  ((math_Abs k a1) >>= fun r26 =>
  (math_Frexp k r26) >>= fun r29 =>
  br (flt a0 0)
   (math_mod_j4 k r26 r29 a0 (fneg a0))
   (math_mod_j4 k r26 r29 a0 a0))
def math_mod_j2 (k : Nat) (a1 : Nat) (a0 : Nat) (x2 : Bool) : Option (Nat) :=
 br x2
  (math_mod_j3 k a1 a0 true)
  ((math_IsNaN k a1) >>= fun r22 =>
  math_mod_j3 k a1 a0 r22)
def math_mod_j1 (k : Nat) (a1 : Nat) (a0 : Nat) (x1 : Bool) : Option (Nat) :=
 br x1
  (math_mod_j2 k a1 a0 true)
  ((math_IsNaN k a0) >>= fun r18 =>
  math_mod_j2 k a1 a0 r18)
def math_mod (k : Nat) (a0 : Nat) (a1 : Nat) : Option (Nat) :=
 br (feq a1 0)
  (math_mod_j1 k a1 a0 true)
  ((math_IsInf k a0 0) >>= fun r14 =>
  math_mod_j1 k a1 a0 r14)

theorem math_mod_sim {k : Nat}  (a0 : Nat) (a1 : Nat) {out : Nat} (hp : math_mod k a0 a1 = some out) : Sx.Fn Try.prog 92 [(Vg a0), (Vg a1)] [] (fun w : Unit => (Fl out)) (fun w => []) := by
 unfold math_mod at hp
 refine fn_of Try.func92 rfl Try.ntmps92 rfl fun E hM => ?_
 refine cr fun K1 hK1 => ?_
 refine s0 (rd_assign' rfl) ?_
 refine nk hK1 ?_
 refine cx_seq' fun K2 hK2 => ?_
 refine cr fun K3 hK3 => ?_
 refine s0 (rd_move' rfl) ?_
 refine s0 (rd_bin' rfl rfl eg_flt ru_feq) ?_
 refine s0 (rd_move' rfl) ?_
 refine sx_cutn' 3 (fun (v1 : Bool) => (⟨62, [], [(0, (Vg a0)), (1, (Vg a1)), (15, (Vb v1))], []⟩ : St)) (fun (v1 : Bool) => math_mod_j1 k a1 a0 v1 = some out) ?_ ?_
 ·rintro x1 hp
  replace hp : math_mod_j1 k a1 a0 x1 = some out := hp
  unfold math_mod_j1 at hp
  refine s0 (rd_move' rfl) ?_
  refine sx_cutn' 3 (fun (v2 : Bool) => (⟨62, [], [(0, (Vg a0)), (1, (Vg a1)), (19, (Vb v2))], []⟩ : St)) (fun (v2 : Bool) => math_mod_j2 k a1 a0 v2 = some out) ?_ ?_
  ·rintro x2 hp
   replace hp : math_mod_j2 k a1 a0 x2 = some out := hp
   unfold math_mod_j2 at hp
   refine s0 (rd_move' rfl) ?_
   refine sx_cutn' 3 (fun (v3 : Bool) => (⟨62, [], [(0, (Vg a0)), (1, (Vg a1)), (23, (Vb v3))], []⟩ : St)) (fun (v3 : Bool) => math_mod_j3 k a1 a0 v3 = some out) ?_ ?_
   ·rintro x3 hp
    replace hp : math_mod_j3 k a1 a0 x3 = some out := hp
    unfold math_mod_j3 at hp
    refine nk hK3 ?_
    refine cx_cond' rfl (fun h4 => ?_) (fun h4 => ?_)
    ·replace hp := (br_t h4).symm.trans hp
     refine cr fun K7 hK7 => ?_
     obtain ⟨r24, hr24, hp⟩ := bind_some hp
     refine sx_ox' (ox_calln' (ent_fn' Try.func80 isn80 rfl rfl) (math_NaN_sim hr24 : Sx.Fn Try.prog 80 [] [] (fun x : Unit => (Vg r24)) (fun x => [])) (Hn := fun x : Unit => []) (fun _ => rfl) rfl rfl) (wt_none' rfl) fun ⟨⟩ => ?_
     refine s0 (rd_assign' rfl) ?_
     refine nk hK7 ?_
     refine cx_retc' ?_
     replace hp := Option.some.inj hp
     subst hp
     refine tx_pick' (L' := [(4, (Vg r24))]) (H' := []) [] (sub_cons rfl sub_nil) (by decide) pick_nil ?_
     exact tx_ret1' Try.results92 rfl () (rv_imp' (x := (Vg r24)) (y := (Fl r24)) (rv_tmp' rfl) imp_vf) (List.Sublist.refl _)
    replace hp := (br_f h4).symm.trans hp
    refine cx_skip' ?_
    show TX E K2 _
    refine tx_k' hK2 ?_
    refine cr fun K8 hK8 => ?_
    refine s0 (rd_move' rfl) ?_
    obtain ⟨r26, hr26, hp⟩ := bind_some hp
    refine sx_ox' (ox_calln' (ent_fn' Try.func15 isn15 rfl rfl) (math_Abs_sim _ hr26 : Sx.Fn Try.prog 15 [(Vg a1)] [] (fun x : Unit => (Vg r26)) (fun x => [])) (Hn := fun x : Unit => []) (fun _ => rfl) rfl rfl) (wt_none' rfl) fun ⟨⟩ => ?_
    refine s0 (rd_assign' rfl) ?_
    refine nk hK8 ?_
    refine cr fun K9 hK9 => ?_
    refine s0 (rd_move' rfl) ?_
    obtain ⟨r29, hr29, hp⟩ := bind_some hp
    refine sx_ox' (ox_calln' (ent_fn' Try.func95 isn95 rfl rfl) (math_Frexp_sim _ hr29 : Sx.Fn Try.prog 95 [(Vg r26)] [] (fun x : Unit => (Tu [(Vg r29.1), (Vi r29.2)])) (fun x => [])) (Hn := fun x : Unit => []) (fun _ => rfl) rfl rfl) (wt_none' rfl) fun ⟨⟩ => ?_
    refine s0 (rd_move' rfl) ?_
    refine s0 (rd_extract' rfl rfl) ?_
    refine s0 (rd_extract' rfl rfl) ?_
    refine s0 (rd_assign' rfl) ?_
    refine s0 (rd_assign' rfl) ?_
    refine nk hK9 ?_
    refine cr fun K10 hK10 => ?_
    refine s0 (rd_move' rfl) ?_
    refine s0 (rd_assign' rfl) ?_
    refine nk hK10 ?_
    refine cx_join' (fun (v4 : Nat) => (⟨62, [], [(0, (Vg a0)), (1, (Vg r26)), (5, (Vg r29.1)), (6, (Vi r29.2)), (7, (Vg v4))], []⟩ : St)) (fun (v4 : Nat) => math_mod_j4 k r26 r29 a0 v4 = some out) ?_ ?_
    ·rintro x4 hp
     replace hp : math_mod_j4 k r26 r29 a0 x4 = some out := hp
     unfold math_mod_j4 at hp
     refine cx_seq' fun K13 hK13 => ?_
     refine cx_block' ?_
     obtain ⟨v8, hy1, hp⟩ := bind_some hp
     refine tx_slot' 7 (y := (Fl x4)) rfl imp_vf ?_
     refine cx_loopg' (F := math_mod_l1 r26 r29) (G := fun k R v => math_mod_l1s r26 r29 k R v) (x := x4) (gh := ()) (fun (v6 : Nat) (w6 : Unit) => (⟨62, [], [(0, (Vg a0)), (1, (Vg r26)), (5, (Vg r29.1)), (6, (Vi r29.2)), (7, (Fl v6))], []⟩ : St)) (fun (v8 : Nat) => Zg E (Exit.exit 0) (fun (w8 : Unit) => (⟨62, [], [(0, (Vg a0)), (7, (Fl v8))], []⟩ : St))) (fun _ => rfl) (fun _ _ => rfl) ?_ hy1 (tx_to' rfl [] (sub_cons rfl (sub_cons rfl (sub_cons rfl (sub_cons rfl (sub_cons rfl sub_nil))))) (by decide) pick_nil) ?_
     ·clear hp hy1
      clear v8
      intro k rec1 KY1 ih1
      rintro x7 ⟨⟩ y1 hp
      replace hp : math_mod_l1s r26 r29 k rec1 x7 = some y1 := hp
      unfold math_mod_l1s at hp
      refine cx_seq' fun K19 hK19 => ?_
      refine cr fun K20 hK20 => ?_
      refine s0 (rd_move' rfl) ?_
      refine s0 (rd_move' rfl) ?_
      refine s0 (rd_fcmp' (fl_f rfl) (fl_v rfl) rfl) ?_
      refine nk hK20 ?_
      refine cx_cond' rfl (fun h9 => ?_) (fun h9 => ?_)
      ·replace hp := (br_t h9).symm.trans hp
       refine cx_skip' ?_
       show TX E K19 _
       refine tx_k' hK19 ?_
       refine cx_block' ?_
       refine cr fun K21 hK21 => ?_
       refine s0 (rd_move' rfl) ?_
       obtain ⟨u1, hu1, hp⟩ := bind_some hp
       refine tx_slot' 41 (y := (Vg x7)) rfl (imp_num (num_some hu1).2) ?_
       obtain ⟨r42, hr42, hp⟩ := bind_some hp
       refine sx_ox' (ox_calln' (ent_fn' Try.func95 isn95 rfl rfl) (math_Frexp_sim _ hr42 : Sx.Fn Try.prog 95 [(Vg x7)] [] (fun x : Unit => (Tu [(Vg r42.1), (Vi r42.2)])) (fun x => [])) (Hn := fun x : Unit => []) (fun _ => rfl) rfl rfl) (wt_none' rfl) fun ⟨⟩ => ?_
       refine s0 (rd_move' rfl) ?_
       refine s0 (rd_extract' rfl rfl) ?_
       refine s0 (rd_extract' rfl rfl) ?_
       refine s0 (rd_assign' rfl) ?_
       refine s0 (rd_assign' rfl) ?_
       refine nk hK21 ?_
       refine cx_join' (fun (v7 : Int) => (⟨62, [], [(0, (Vg a0)), (1, (Vg r26)), (5, (Vg r29.1)), (6, (Vi r29.2)), (7, (Fl x7)), (9, (Vi v7))], []⟩ : St)) (fun (v7 : Int) => math_mod_j6 k r26 r29 x7 rec1 v7 = some y1) ?_ ?_
       ·rintro x6 hp
        replace hp : math_mod_j6 k r26 r29 x7 rec1 x6 = some y1 := hp
        unfold math_mod_j6 at hp
        refine cx_region' ?_
        refine s0 (rd_move' rfl) ?_
        refine s0 (rd_move' rfl) ?_
        refine s0 (rd_move' rfl) ?_
        refine s0 (rd_move' rfl) ?_
        refine s0 (rd_bin' rfl rfl eg_int ru_sub) ?_
        obtain ⟨r55, hr55, hp⟩ := bind_some hp
        refine sx_ox' (ox_calln' (ent_fn' Try.func53 isn53 rfl rfl) (math_Ldexp_sim _ _ hr55 : Sx.Fn Try.prog 53 [(Vg r26), (Vi (isub .i64 x6 r29.2))] [] (fun x : Unit => (Fl r55)) (fun x => [])) (Hn := fun x : Unit => []) (fun _ => rfl) rfl rfl) (wt_none' rfl) fun ⟨⟩ => ?_
        obtain ⟨r56, hr56, hp⟩ := bind_some hp
        refine sx_ox' (ox_fop' (.inr (.inl rfl)) (fl_f rfl) (fl_f rfl) (Option.some.inj hr56) rfl rfl) (wt_none' rfl) fun _ => ?_
        refine s0 (rd_assign' rfl) ?_
        refine sx_nil' ?_
        show TX E (KY1 _) _
        exact tx_pick' [] (sub_cons rfl (sub_cons rfl (sub_cons rfl (sub_cons rfl (sub_cons rfl sub_nil))))) (by decide) pick_nil (ih1 r56 () _ hp)
       intro K22 hK22
       refine cr fun K23 hK23 => ?_
       refine s0 (rd_move' rfl) ?_
       refine s0 (rd_move' rfl) ?_
       refine s0 (rd_bin' rfl rfl eg_flt ru_flt) ?_
       refine nk hK23 ?_
       refine cx_cond' rfl (fun h10 => ?_) (fun h10 => ?_)
       ·replace hp := (br_t h10).symm.trans hp
        refine cx_region' ?_
        refine s0 (rd_move' rfl) ?_
        refine s0 (rd_bin' rfl rfl eg_int ru_sub) ?_
        refine s0 (rd_assign' rfl) ?_
        refine sx_nil' ?_
        show TX E K22 _
        exact tx_pick' [] (sub_cons rfl (sub_cons rfl (sub_cons rfl (sub_cons rfl (sub_cons rfl (sub_cons rfl sub_nil)))))) (by decide) pick_nil (hK22 (isub .i64 r42.2 1) hp)
       replace hp := (br_f h10).symm.trans hp
       refine cx_skip' ?_
       show TX E K22 _
       exact tx_pick' [] (sub_cons rfl (sub_cons rfl (sub_cons rfl (sub_cons rfl (sub_cons rfl (sub_cons rfl sub_nil)))))) (by decide) pick_nil (hK22 r42.2 hp)
      replace hp := (br_f h9).symm.trans hp
      refine cx_exit' ?_
      replace hp := Option.some.inj hp
      subst hp
      show TX E (Zg E (Exit.exit 0) _ (Exit.exit 0)) _
      exact tx_zend' () rfl [] (sub_cons rfl (sub_cons rfl sub_nil)) (by decide) pick_nil
     refine zg_out fun w8 => ?_
     show TX E K13 _
     refine tx_k' hK13 ?_
     refine cx_join' (fun (v9 : Nat) => (⟨62, [], [(7, (Fl v9))], []⟩ : St)) (fun (v9 : Nat) => math_mod_j7 k v9 = some out) ?_ ?_
     ·rintro x9 hp
      replace hp : math_mod_j7 k x9 = some out := hp
      unfold math_mod_j7 at hp
      refine cr fun K26 hK26 => ?_
      refine s0 (rd_move' rfl) ?_
      refine s0 (rd_assign' rfl) ?_
      refine nk hK26 ?_
      refine cx_retc' ?_
      replace hp := Option.some.inj hp
      subst hp
      refine tx_pick' (L' := [(4, (Fl x9))]) (H' := []) [] (sub_cons rfl sub_nil) (by decide) pick_nil ?_
      exact tx_ret1' Try.results92 rfl () (rv_tmp' rfl) (List.Sublist.refl _)
     intro K24 hK24
     refine cr fun K25 hK25 => ?_
     refine s0 (rd_move' rfl) ?_
     refine s0 (rd_bin' rfl rfl eg_flt ru_flt) ?_
     refine nk hK25 ?_
     refine cx_cond' rfl (fun h11 => ?_) (fun h11 => ?_)
     ·replace hp := (br_t h11).symm.trans hp
      refine cx_region' ?_
      refine s0 (rd_move' rfl) ?_
      refine s0 (rd_fneg_fl' (fl_f rfl)) ?_
      refine s0 (rd_assign' rfl) ?_
      refine sx_nil' ?_
      show TX E K24 _
      exact tx_pick' [] (sub_cons rfl sub_nil) (by decide) pick_nil (hK24 (fneg v8) hp)
     replace hp := (br_f h11).symm.trans hp
     refine cx_skip' ?_
     show TX E K24 _
     exact tx_pick' [] (sub_cons rfl sub_nil) (by decide) pick_nil (hK24 v8 hp)
    intro K11 hK11
    refine cr fun K12 hK12 => ?_
    refine s0 (rd_move' rfl) ?_
    refine s0 (rd_bin' rfl rfl eg_flt ru_flt) ?_
    refine nk hK12 ?_
    refine cx_cond' rfl (fun h5 => ?_) (fun h5 => ?_)
    ·replace hp := (br_t h5).symm.trans hp
     refine cx_region' ?_
     refine s0 (rd_move' rfl) ?_
     refine s0 (rd_un' rfl ru_fneg) ?_
     refine s0 (rd_assign' rfl) ?_
     refine sx_nil' ?_
     show TX E K11 _
     exact tx_pick' [] (sub_cons rfl (sub_cons rfl (sub_cons rfl (sub_cons rfl (sub_cons rfl sub_nil))))) (by decide) pick_nil (hK11 (fneg a0) hp)
    replace hp := (br_f h5).symm.trans hp
    refine cx_skip' ?_
    show TX E K11 _
    exact tx_pick' [] (sub_cons rfl (sub_cons rfl (sub_cons rfl (sub_cons rfl (sub_cons rfl sub_nil))))) (by decide) pick_nil (hK11 a0 hp)
   intro K6 hK6
   rcases br_cases hp with ⟨h3, hp⟩ | ⟨h3, hp⟩
   ·refine sx_skip' rfl rfl (wt_is' (wt_guard' rfl rfl rfl) (beq_tf h3)) ?_
    refine sx_skip' rfl rfl (wt_is' (wt_guard' rfl rfl rfl) (beq_tf h3)) ?_
    refine s0 (rd_pick_true' rfl h3 rfl) ?_
    refine sx_nil' ?_
    show TX E K6 _
    exact tx_pick' [] (sub_cons rfl (sub_cons rfl (sub_cons rfl sub_nil))) (by decide) pick_nil (hK6 true hp)
   refine sx_rd' (rd_move' rfl) rfl rfl (wt_is' (wt_guard' rfl rfl rfl) (beq_ff h3)) ?_
   obtain ⟨r22, hr22, hp⟩ := bind_some hp
   refine sx_ox' (ox_calln' (ent_fn' Try.func47 isn47 rfl rfl) (math_IsNaN_sim _ hr22 : Sx.Fn Try.prog 47 [(Vg a1)] [] (fun x : Unit => (Vb r22)) (fun x => [])) (Hn := fun x : Unit => []) (fun _ => rfl) rfl rfl) (wt_is' (wt_guard' rfl rfl rfl) (beq_ff h3)) fun ⟨⟩ => ?_
   refine s0 (rd_pick_false' rfl h3 rfl) ?_
   refine sx_nil' ?_
   show TX E K6 _
   exact tx_pick' [] (sub_cons rfl (sub_cons rfl (sub_cons rfl sub_nil))) (by decide) pick_nil (hK6 r22 hp)
  intro K5 hK5
  rcases br_cases hp with ⟨h2, hp⟩ | ⟨h2, hp⟩
  ·refine sx_skip' rfl rfl (wt_is' (wt_guard' rfl rfl rfl) (beq_tf h2)) ?_
   refine sx_skip' rfl rfl (wt_is' (wt_guard' rfl rfl rfl) (beq_tf h2)) ?_
   refine s0 (rd_pick_true' rfl h2 rfl) ?_
   refine sx_nil' ?_
   show TX E K5 _
   exact tx_pick' [] (sub_cons rfl (sub_cons rfl (sub_cons rfl sub_nil))) (by decide) pick_nil (hK5 true hp)
  refine sx_rd' (rd_move' rfl) rfl rfl (wt_is' (wt_guard' rfl rfl rfl) (beq_ff h2)) ?_
  obtain ⟨r18, hr18, hp⟩ := bind_some hp
  refine sx_ox' (ox_calln' (ent_fn' Try.func47 isn47 rfl rfl) (math_IsNaN_sim _ hr18 : Sx.Fn Try.prog 47 [(Vg a0)] [] (fun x : Unit => (Vb r18)) (fun x => [])) (Hn := fun x : Unit => []) (fun _ => rfl) rfl rfl) (wt_is' (wt_guard' rfl rfl rfl) (beq_ff h2)) fun ⟨⟩ => ?_
  refine s0 (rd_pick_false' rfl h2 rfl) ?_
  refine sx_nil' ?_
  show TX E K5 _
  exact tx_pick' [] (sub_cons rfl (sub_cons rfl (sub_cons rfl sub_nil))) (by decide) pick_nil (hK5 r18 hp)
 intro K4 hK4
 rcases br_cases hp with ⟨h1, hp⟩ | ⟨h1, hp⟩
 ·refine sx_skip' rfl rfl (wt_is' (wt_guard' rfl rfl rfl) (beq_tf h1)) ?_
  refine sx_skip' rfl rfl (wt_is' (wt_guard' rfl rfl rfl) (beq_tf h1)) ?_
  refine s0 (rd_pick_true' rfl h1 rfl) ?_
  refine sx_nil' ?_
  show TX E K4 _
  exact tx_pick' [] (sub_cons rfl (sub_cons rfl (sub_cons rfl sub_nil))) (by decide) pick_nil (hK4 true hp)
 refine sx_rd' (rd_move' rfl) rfl rfl (wt_is' (wt_guard' rfl rfl rfl) (beq_ff h1)) ?_
 obtain ⟨r14, hr14, hp⟩ := bind_some hp
 refine sx_ox' (ox_calln' (ent_fn' Try.func79 isn79 rfl rfl) (math_IsInf_sim _ _ hr14 : Sx.Fn Try.prog 79 [(Vg a0), (Vi 0)] [] (fun x : Unit => (Vb r14)) (fun x => [])) (Hn := fun x : Unit => []) (fun _ => rfl) rfl rfl) (wt_is' (wt_guard' rfl rfl rfl) (beq_ff h1)) fun ⟨⟩ => ?_
 refine s0 (rd_pick_false' rfl h1 rfl) ?_
 refine sx_nil' ?_
 show TX E K4 _
 exact tx_pick' [] (sub_cons rfl (sub_cons rfl (sub_cons rfl sub_nil))) (by decide) pick_nil (hK4 r14 hp)

def math_Mod (k : Nat) (a0 : Nat) (a1 : Nat) : Option (Nat) :=
 (math_mod k a0 a1) >>= fun r10 =>
 some r10

theorem math_Mod_sim {k : Nat}  (a0 : Nat) (a1 : Nat) {out : Nat} (hp : math_Mod k a0 a1 = some out) : Sx.Fn Try.prog 81 [(Vg a0), (Vg a1)] [] (fun w : Unit => (Fl out)) (fun w => []) := by
 unfold math_Mod at hp
 refine fn_of Try.func81 rfl Try.ntmps81 rfl fun E hM => ?_
 refine cr fun K1 hK1 => ?_
 refine s0 (rd_assign' rfl) ?_
 refine nk hK1 ?_
 refine cx_seq' fun K2 hK2 => ?_
 refine cx_cond_f' rfl rfl ?_
 refine cx_skip' ?_
 show TX E K2 _
 refine tx_k' hK2 ?_
 refine cr fun K3 hK3 => ?_
 refine s0 (rd_move' rfl) ?_
 refine s0 (rd_move' rfl) ?_
 obtain ⟨r10, hr10, hp⟩ := bind_some hp
 refine sx_ox' (ox_calln' (ent_fn' Try.func92 isn92 rfl rfl) (math_mod_sim _ _ hr10 : Sx.Fn Try.prog 92 [(Vg a0), (Vg a1)] [] (fun x : Unit => (Fl r10)) (fun x => [])) (Hn := fun x : Unit => []) (fun _ => rfl) rfl rfl) (wt_none' rfl) fun ⟨⟩ => ?_
 refine s0 (rd_assign' rfl) ?_
 refine nk hK3 ?_
 refine cx_retc' ?_
 replace hp := Option.some.inj hp
 subst hp
 refine tx_pick' (L' := [(4, (Fl r10))]) (H' := []) [] (sub_cons rfl sub_nil) (by decide) pick_nil ?_
 exact tx_ret1' Try.results81 rfl () (rv_tmp' rfl) (List.Sublist.refl _)

def math_remainder_j8 (k : Nat) (x9 : Nat) : Option (Nat) :=
 some x9
def math_remainder_j7 (k : Nat) (x5 : Bool) (x8 : Nat) : Option (Nat) :=
 br x5
  (math_remainder_j8 k (fneg x8))
  (math_remainder_j8 k x8)
def math_remainder_j6 (k : Nat) (x6 : Nat) (x5 : Bool) (x7 : Nat) : Option (Nat) :=
 br (flt x6 9007199254740992)
  ((some (gadd x7 x7)) >>= fun r53 =>
  br (fgt r53 x6)
   ((some (gsub x7 x6)) >>= fun r58 =>
   (some (gadd r58 r58)) >>= fun r61 =>
   br (fge r61 x6)
    ((some (gsub r58 x6)) >>= fun r66 =>
    math_remainder_j7 k x5 r66)
    (math_remainder_j7 k x5 r58))
   (math_remainder_j7 k x5 x7))
  ((some (gmul 4602678819172646912 x6)) >>= fun r68 =>
  br (fgt x7 r68)
   ((some (gsub x7 x6)) >>= fun r74 =>
   br (fge r74 r68)
    ((some (gsub r74 x6)) >>= fun r80 =>
    math_remainder_j7 k x5 r80)
    (math_remainder_j7 k x5 r74))
   (math_remainder_j7 k x5 x7))
def math_remainder_j5 (k : Nat) (x4 : Nat) (x5 : Bool) (x6 : Nat) : Option (Nat) :=
 br (feq x4 x6)
  (br x5
   (some (fneg 0))
   (some 0))
  (br (fle x6 9214364837600034815)
   ((some (gadd x6 x6)) >>= fun r47 =>
   (num r47) >>= fun u1 =>
   (math_Mod k x4 r47) >>= fun r48 =>
   math_remainder_j6 k x6 x5 r48)
   (math_remainder_j6 k x6 x5 x4))
def math_remainder_j4 (k : Nat) (a1 : Nat) (x4 : Nat) (x5 : Bool) : Option (Nat) :=
 br (flt a1 0)
  (math_remainder_j5 k x4 x5 (fneg a1))
  (math_remainder_j5 k x4 x5 a1)
def math_remainder_j3 (k : Nat) (a1 : Nat) (a0 : Nat) (x3 : Bool) : Option (Nat) :=
 br x3
  ((math_NaN k) >>= fun r23 =>
  some r23)
  ((math_IsInf k a1 0) >>= fun r26 =>
  br r26
   (some a0)
   (br (flt a0 0)
    (math_remainder_j4 k a1 (fneg a0) true)
    (math_remainder_j4 k a1 a0 false)))
def math_remainder_j2 (k : Nat) (a1 : Nat) (a0 : Nat) (x2 : Bool) : Option (Nat) :=
 br x2
  (math_remainder_j3 k a1 a0 true)
  (math_remainder_j3 k a1 a0 (feq a1 0))
def math_remainder_j1 (k : Nat) (a1 : Nat) (a0 : Nat) (x1 : Bool) : Option (Nat) :=
 br x1
  (math_remainder_j2 k a1 a0 true)
  ((math_IsInf k a0 0) >>= fun r17 =>
  math_remainder_j2 k a1 a0 r17)
def math_remainder (k : Nat) (a0 : Nat) (a1 : Nat) : Option (Nat) :=
 (math_IsNaN k a0) >>= fun r10 =>
 br r10
  (math_remainder_j1 k a1 a0 true)
  ((math_IsNaN k a1) >>= fun r13 =>
  math_remainder_j1 k a1 a0 r13)

theorem math_remainder_sim {k : Nat}  (a0 : Nat) (a1 : Nat) {out : Nat} (hp : math_remainder k a0 a1 = some out) : Sx.Fn Try.prog 66 [(Vg a0), (Vg a1)] [] (fun w : Unit => (Fl out)) (fun w => []) := by
 unfold math_remainder at hp
 refine fn_of Try.func66 rfl Try.ntmps66 rfl fun E hM => ?_
 refine cr fun K1 hK1 => ?_
 refine s0 (rd_assign' rfl) ?_
 refine nk hK1 ?_
 refine cx_seq' fun K2 hK2 => ?_
 refine cx_block' ?_
 refine cr fun K3 hK3 => ?_
 refine s0 (rd_move' rfl) ?_
 obtain ⟨r10, hr10, hp⟩ := bind_some hp
 refine sx_ox' (ox_calln' (ent_fn' Try.func47 isn47 rfl rfl) (math_IsNaN_sim _ hr10 : Sx.Fn Try.prog 47 [(Vg a0)] [] (fun x : Unit => (Vb r10)) (fun x => [])) (Hn := fun x : Unit => []) (fun _ => rfl) rfl rfl) (wt_none' rfl) fun ⟨⟩ => ?_
 refine s0 (rd_move' rfl) ?_
 refine sx_cutn' 3 (fun (v1 : Bool) => (⟨85, [], [(0, (Vg a0)), (1, (Vg a1)), (14, (Vb v1))], []⟩ : St)) (fun (v1 : Bool) => math_remainder_j1 k a1 a0 v1 = some out) ?_ ?_
 ·rintro x1 hp
  replace hp : math_remainder_j1 k a1 a0 x1 = some out := hp
  unfold math_remainder_j1 at hp
  refine s0 (rd_move' rfl) ?_
  refine sx_cutn' 3 (fun (v2 : Bool) => (⟨85, [], [(0, (Vg a0)), (1, (Vg a1)), (18, (Vb v2))], []⟩ : St)) (fun (v2 : Bool) => math_remainder_j2 k a1 a0 v2 = some out) ?_ ?_
  ·rintro x2 hp
   replace hp : math_remainder_j2 k a1 a0 x2 = some out := hp
   unfold math_remainder_j2 at hp
   refine s0 (rd_move' rfl) ?_
   refine sx_cutn' 3 (fun (v3 : Bool) => (⟨85, [], [(0, (Vg a0)), (1, (Vg a1)), (22, (Vb v3))], []⟩ : St)) (fun (v3 : Bool) => math_remainder_j3 k a1 a0 v3 = some out) ?_ ?_
   ·rintro x3 hp
    replace hp : math_remainder_j3 k a1 a0 x3 = some out := hp
    unfold math_remainder_j3 at hp
    refine s0 (rd_assign' rfl) ?_
    refine nk hK3 ?_
    refine cx_cond' rfl (fun h4 => ?_) (fun h4 => ?_)
    ·replace hp := (br_t h4).symm.trans hp
     refine cr fun K7 hK7 => ?_
     obtain ⟨r23, hr23, hp⟩ := bind_some hp
     refine sx_ox' (ox_calln' (ent_fn' Try.func80 isn80 rfl rfl) (math_NaN_sim hr23 : Sx.Fn Try.prog 80 [] [] (fun x : Unit => (Vg r23)) (fun x => [])) (Hn := fun x : Unit => []) (fun _ => rfl) rfl rfl) (wt_none' rfl) fun ⟨⟩ => ?_
     refine s0 (rd_assign' rfl) ?_
     refine nk hK7 ?_
     refine cx_retc' ?_
     replace hp := Option.some.inj hp
     subst hp
     refine tx_pick' (L' := [(4, (Vg r23))]) (H' := []) [] (sub_cons rfl sub_nil) (by decide) pick_nil ?_
     exact tx_ret1' Try.results66 rfl () (rv_imp' (x := (Vg r23)) (y := (Fl r23)) (rv_tmp' rfl) imp_vf) (List.Sublist.refl _)
    replace hp := (br_f h4).symm.trans hp
    refine cr fun K8 hK8 => ?_
    refine s0 (rd_move' rfl) ?_
    obtain ⟨r26, hr26, hp⟩ := bind_some hp
    refine sx_ox' (ox_calln' (ent_fn' Try.func79 isn79 rfl rfl) (math_IsInf_sim _ _ hr26 : Sx.Fn Try.prog 79 [(Vg a1), (Vi 0)] [] (fun x : Unit => (Vb r26)) (fun x => [])) (Hn := fun x : Unit => []) (fun _ => rfl) rfl rfl) (wt_none' rfl) fun ⟨⟩ => ?_
    refine s0 (rd_assign' rfl) ?_
    refine nk hK8 ?_
    refine cx_cond' rfl (fun h5 => ?_) (fun h5 => ?_)
    ·replace hp := (br_t h5).symm.trans hp
     refine cr fun K9 hK9 => ?_
     refine s0 (rd_move' rfl) ?_
     refine s0 (rd_assign' rfl) ?_
     refine nk hK9 ?_
     refine cx_retc' ?_
     replace hp := Option.some.inj hp
     subst hp
     refine tx_pick' (L' := [(4, (Vg a0))]) (H' := []) [] (sub_cons rfl sub_nil) (by decide) pick_nil ?_
     exact tx_ret1' Try.results66 rfl () (rv_imp' (x := (Vg a0)) (y := (Fl a0)) (rv_tmp' rfl) imp_vf) (List.Sublist.refl _)
    replace hp := (br_f h5).symm.trans hp
    refine cx_skip' ?_
    show TX E K2 _
    refine tx_k' hK2 ?_
    refine cr fun K10 hK10 => ?_
    refine s0 (rd_assign' rfl) ?_
    refine nk hK10 ?_
    refine cx_join' (fun (v4 : Nat × Bool) => (⟨85, [], [(0, (Vg v4.1)), (1, (Vg a1)), (5, (Vb v4.2))], []⟩ : St)) (fun (v4 : Nat × Bool) => math_remainder_j4 k a1 v4.1 v4.2 = some out) ?_ ?_
    ·rintro ⟨x4, x5⟩ hp
     replace hp : math_remainder_j4 k a1 x4 x5 = some out := hp
     unfold math_remainder_j4 at hp
     refine cx_join' (fun (v5 : Nat) => (⟨85, [], [(0, (Vg x4)), (1, (Vg v5)), (5, (Vb x5))], []⟩ : St)) (fun (v5 : Nat) => math_remainder_j5 k x4 x5 v5 = some out) ?_ ?_
     ·rintro x6 hp
      replace hp : math_remainder_j5 k x4 x5 x6 = some out := hp
      unfold math_remainder_j5 at hp
      refine cx_seq' fun K16 hK16 => ?_
      refine cr fun K17 hK17 => ?_
      refine s0 (rd_move' rfl) ?_
      refine s0 (rd_move' rfl) ?_
      refine s0 (rd_bin' rfl rfl eg_flt ru_feq) ?_
      refine nk hK17 ?_
      refine cx_cond' rfl (fun h8 => ?_) (fun h8 => ?_)
      ·replace hp := (br_t h8).symm.trans hp
       refine cx_seq' fun K18 hK18 => ?_
       refine cr fun K19 hK19 => ?_
       refine s0 (rd_move' rfl) ?_
       refine nk hK19 ?_
       refine cx_cond' rfl (fun h9 => ?_) (fun h9 => ?_)
       ·replace hp := (br_t h9).symm.trans hp
        refine cr fun K20 hK20 => ?_
        refine s0 (rd_assign' rfl) ?_
        refine nk hK20 ?_
        refine cr fun K21 hK21 => ?_
        refine s0 (rd_move' rfl) ?_
        refine s0 (rd_un' rfl ru_fneg) ?_
        refine s0 (rd_assign' rfl) ?_
        refine nk hK21 ?_
        refine cx_retc' ?_
        replace hp := Option.some.inj hp
        subst hp
        refine tx_pick' (L' := [(4, (Vg (fneg 0)))]) (H' := []) [] (sub_cons rfl sub_nil) (by decide) pick_nil ?_
        exact tx_ret1' Try.results66 rfl () (rv_imp' (x := (Vg (fneg 0))) (y := (Fl (fneg 0))) (rv_tmp' rfl) imp_vf) (List.Sublist.refl _)
       replace hp := (br_f h9).symm.trans hp
       refine cx_skip' ?_
       show TX E K18 _
       refine tx_k' hK18 ?_
       refine cr fun K22 hK22 => ?_
       refine s0 (rd_assign' rfl) ?_
       refine nk hK22 ?_
       refine cx_retc' ?_
       replace hp := Option.some.inj hp
       subst hp
       refine tx_pick' (L' := [(4, (Vg 0))]) (H' := []) [] (sub_cons rfl sub_nil) (by decide) pick_nil ?_
       exact tx_ret1' Try.results66 rfl () (rv_imp' (x := (Vg 0)) (y := (Fl 0)) (rv_tmp' rfl) imp_vf) (List.Sublist.refl _)
      replace hp := (br_f h8).symm.trans hp
      refine cx_skip' ?_
      show TX E K16 _
      refine tx_k' hK16 ?_
      refine cx_join' (fun (v6 : Nat) => (⟨85, [], [(0, (Fl v6)), (1, (Vg x6)), (5, (Vb x5))], []⟩ : St)) (fun (v6 : Nat) => math_remainder_j6 k x6 x5 v6 = some out) ?_ ?_
      ·rintro x7 hp
       replace hp : math_remainder_j6 k x6 x5 x7 = some out := hp
       unfold math_remainder_j6 at hp
       refine cx_join' (fun (v7 : Nat) => (⟨85, [], [(0, (Fl v7)), (5, (Vb x5))], []⟩ : St)) (fun (v7 : Nat) => math_remainder_j7 k x5 v7 = some out) ?_ ?_
       ·rintro x8 hp
        replace hp : math_remainder_j7 k x5 x8 = some out := hp
        unfold math_remainder_j7 at hp
        refine cx_join' (fun (v8 : Nat) => (⟨85, [], [(0, (Fl v8))], []⟩ : St)) (fun (v8 : Nat) => math_remainder_j8 k v8 = some out) ?_ ?_
        ·rintro x9 hp
         replace hp : math_remainder_j8 k x9 = some out := hp
         unfold math_remainder_j8 at hp
         refine cr fun K36 hK36 => ?_
         refine s0 (rd_move' rfl) ?_
         refine s0 (rd_assign' rfl) ?_
         refine nk hK36 ?_
         refine cx_retc' ?_
         replace hp := Option.some.inj hp
         subst hp
         refine tx_pick' (L' := [(4, (Fl x9))]) (H' := []) [] (sub_cons rfl sub_nil) (by decide) pick_nil ?_
         exact tx_ret1' Try.results66 rfl () (rv_tmp' rfl) (List.Sublist.refl _)
        intro K34 hK34
        refine cr fun K35 hK35 => ?_
        refine s0 (rd_move' rfl) ?_
        refine nk hK35 ?_
        refine cx_cond' rfl (fun h16 => ?_) (fun h16 => ?_)
        ·replace hp := (br_t h16).symm.trans hp
         refine cx_region' ?_
         refine s0 (rd_move' rfl) ?_
         refine s0 (rd_fneg_fl' (fl_f rfl)) ?_
         refine s0 (rd_assign' rfl) ?_
         refine sx_nil' ?_
         show TX E K34 _
         exact tx_pick' [] (sub_cons rfl sub_nil) (by decide) pick_nil (hK34 (fneg x8) hp)
        replace hp := (br_f h16).symm.trans hp
        refine cx_skip' ?_
        show TX E K34 _
        exact tx_pick' [] (sub_cons rfl sub_nil) (by decide) pick_nil (hK34 x8 hp)
       intro K25 hK25
       refine cr fun K26 hK26 => ?_
       refine s0 (rd_move' rfl) ?_
       refine s0 (rd_bin' rfl rfl eg_flt ru_flt) ?_
       refine nk hK26 ?_
       refine cx_cond' rfl (fun h11 => ?_) (fun h11 => ?_)
       ·replace hp := (br_t h11).symm.trans hp
        refine cr fun K27 hK27 => ?_
        refine s0 (rd_move' rfl) ?_
        refine s0 (rd_move' rfl) ?_
        obtain ⟨r53, hr53, hp⟩ := bind_some hp
        refine sx_ox' (ox_fop' (.inl rfl) (fl_f rfl) (fl_f rfl) (Option.some.inj hr53) rfl rfl) (wt_none' rfl) fun _ => ?_
        refine s0 (rd_move' rfl) ?_
        refine s0 (rd_fcmp' (fl_f rfl) (fl_v rfl) rfl) ?_
        refine nk hK27 ?_
        refine cx_cond' rfl (fun h12 => ?_) (fun h12 => ?_)
        ·replace hp := (br_t h12).symm.trans hp
         refine cr fun K28 hK28 => ?_
         refine s0 (rd_move' rfl) ?_
         refine s0 (rd_move' rfl) ?_
         obtain ⟨r58, hr58, hp⟩ := bind_some hp
         refine sx_ox' (ox_fop' (.inr (.inl rfl)) (fl_f rfl) (fl_v rfl) (Option.some.inj hr58) rfl rfl) (wt_none' rfl) fun _ => ?_
         refine s0 (rd_assign' rfl) ?_
         refine nk hK28 ?_
         refine cr fun K29 hK29 => ?_
         refine s0 (rd_move' rfl) ?_
         refine s0 (rd_move' rfl) ?_
         obtain ⟨r61, hr61, hp⟩ := bind_some hp
         refine sx_ox' (ox_fop' (.inl rfl) (fl_f rfl) (fl_f rfl) (Option.some.inj hr61) rfl rfl) (wt_none' rfl) fun _ => ?_
         refine s0 (rd_move' rfl) ?_
         refine s0 (rd_fcmp' (fl_f rfl) (fl_v rfl) rfl) ?_
         refine nk hK29 ?_
         refine cx_cond' rfl (fun h13 => ?_) (fun h13 => ?_)
         ·replace hp := (br_t h13).symm.trans hp
          refine cx_region' ?_
          refine s0 (rd_move' rfl) ?_
          refine s0 (rd_move' rfl) ?_
          obtain ⟨r66, hr66, hp⟩ := bind_some hp
          refine sx_ox' (ox_fop' (.inr (.inl rfl)) (fl_f rfl) (fl_v rfl) (Option.some.inj hr66) rfl rfl) (wt_none' rfl) fun _ => ?_
          refine s0 (rd_assign' rfl) ?_
          refine sx_nil' ?_
          show TX E K25 _
          exact tx_pick' [] (sub_cons rfl (sub_cons rfl sub_nil)) (by decide) pick_nil (hK25 r66 hp)
         replace hp := (br_f h13).symm.trans hp
         refine cx_skip' ?_
         show TX E K25 _
         exact tx_pick' [] (sub_cons rfl (sub_cons rfl sub_nil)) (by decide) pick_nil (hK25 r58 hp)
        replace hp := (br_f h12).symm.trans hp
        refine cx_skip' ?_
        show TX E K25 _
        exact tx_pick' [] (sub_cons rfl (sub_cons rfl sub_nil)) (by decide) pick_nil (hK25 x7 hp)
       replace hp := (br_f h11).symm.trans hp
       refine cr fun K30 hK30 => ?_
       refine s0 (rd_move' rfl) ?_
       obtain ⟨r68, hr68, hp⟩ := bind_some hp
       refine sx_ox' (ox_fop' (.inr (.inr (.inl rfl))) (fl_v rfl) (fl_v rfl) (Option.some.inj hr68) rfl rfl) (wt_none' rfl) fun _ => ?_
       refine s0 (rd_assign' rfl) ?_
       refine nk hK30 ?_
       refine cr fun K31 hK31 => ?_
       refine s0 (rd_move' rfl) ?_
       refine s0 (rd_move' rfl) ?_
       refine s0 (rd_fcmp' (fl_f rfl) (fl_f rfl) rfl) ?_
       refine nk hK31 ?_
       refine cx_cond' rfl (fun h14 => ?_) (fun h14 => ?_)
       ·replace hp := (br_t h14).symm.trans hp
        refine cr fun K32 hK32 => ?_
        refine s0 (rd_move' rfl) ?_
        refine s0 (rd_move' rfl) ?_
        obtain ⟨r74, hr74, hp⟩ := bind_some hp
        refine sx_ox' (ox_fop' (.inr (.inl rfl)) (fl_f rfl) (fl_v rfl) (Option.some.inj hr74) rfl rfl) (wt_none' rfl) fun _ => ?_
        refine s0 (rd_assign' rfl) ?_
        refine nk hK32 ?_
        refine cr fun K33 hK33 => ?_
        refine s0 (rd_move' rfl) ?_
        refine s0 (rd_move' rfl) ?_
        refine s0 (rd_fcmp' (fl_f rfl) (fl_f rfl) rfl) ?_
        refine nk hK33 ?_
        refine cx_cond' rfl (fun h15 => ?_) (fun h15 => ?_)
        ·replace hp := (br_t h15).symm.trans hp
         refine cx_region' ?_
         refine s0 (rd_move' rfl) ?_
         refine s0 (rd_move' rfl) ?_
         obtain ⟨r80, hr80, hp⟩ := bind_some hp
         refine sx_ox' (ox_fop' (.inr (.inl rfl)) (fl_f rfl) (fl_v rfl) (Option.some.inj hr80) rfl rfl) (wt_none' rfl) fun _ => ?_
         refine s0 (rd_assign' rfl) ?_
         refine sx_nil' ?_
         show TX E K25 _
         exact tx_pick' [] (sub_cons rfl (sub_cons rfl sub_nil)) (by decide) pick_nil (hK25 r80 hp)
        replace hp := (br_f h15).symm.trans hp
        refine cx_skip' ?_
        show TX E K25 _
        exact tx_pick' [] (sub_cons rfl (sub_cons rfl sub_nil)) (by decide) pick_nil (hK25 r74 hp)
       replace hp := (br_f h14).symm.trans hp
       refine cx_skip' ?_
       show TX E K25 _
       exact tx_pick' [] (sub_cons rfl (sub_cons rfl sub_nil)) (by decide) pick_nil (hK25 x7 hp)
      intro K23 hK23
      refine cr fun K24 hK24 => ?_
      refine s0 (rd_move' rfl) ?_
      refine s0 (rd_bin' rfl rfl eg_flt ru_fle) ?_
      refine nk hK24 ?_
      refine cx_cond' rfl (fun h10 => ?_) (fun h10 => ?_)
      ·replace hp := (br_t h10).symm.trans hp
       refine cx_region' ?_
       refine s0 (rd_move' rfl) ?_
       refine s0 (rd_move' rfl) ?_
       refine s0 (rd_move' rfl) ?_
       obtain ⟨r47, hr47, hp⟩ := bind_some hp
       refine sx_ox' (ox_fop' (.inl rfl) (fl_v rfl) (fl_v rfl) (Option.some.inj hr47) rfl rfl) (wt_none' rfl) fun _ => ?_
       obtain ⟨u1, hu1, hp⟩ := bind_some hp
       refine tx_slot' 47 (y := (Vg r47)) rfl (imp_num (num_some hu1).2) ?_
       obtain ⟨r48, hr48, hp⟩ := bind_some hp
       refine sx_ox' (ox_calln' (ent_fn' Try.func81 isn81 rfl rfl) (math_Mod_sim _ _ hr48 : Sx.Fn Try.prog 81 [(Vg x4), (Vg r47)] [] (fun x : Unit => (Fl r48)) (fun x => [])) (Hn := fun x : Unit => []) (fun _ => rfl) rfl rfl) (wt_none' rfl) fun ⟨⟩ => ?_
       refine s0 (rd_assign' rfl) ?_
       refine sx_nil' ?_
       show TX E K23 _
       exact tx_pick' [] (sub_cons rfl (sub_cons rfl (sub_cons rfl sub_nil))) (by decide) pick_nil (hK23 r48 hp)
      replace hp := (br_f h10).symm.trans hp
      refine cx_skip' ?_
      show TX E K23 _
      refine tx_slot' 0 (y := (Fl x4)) rfl imp_vf ?_
      exact tx_pick' [] (sub_cons rfl (sub_cons rfl (sub_cons rfl sub_nil))) (by decide) pick_nil (hK23 x4 hp)
     intro K14 hK14
     refine cr fun K15 hK15 => ?_
     refine s0 (rd_move' rfl) ?_
     refine s0 (rd_bin' rfl rfl eg_flt ru_flt) ?_
     refine nk hK15 ?_
     refine cx_cond' rfl (fun h7 => ?_) (fun h7 => ?_)
     ·replace hp := (br_t h7).symm.trans hp
      refine cx_region' ?_
      refine s0 (rd_move' rfl) ?_
      refine s0 (rd_un' rfl ru_fneg) ?_
      refine s0 (rd_assign' rfl) ?_
      refine sx_nil' ?_
      show TX E K14 _
      exact tx_pick' [] (sub_cons rfl (sub_cons rfl (sub_cons rfl sub_nil))) (by decide) pick_nil (hK14 (fneg a1) hp)
     replace hp := (br_f h7).symm.trans hp
     refine cx_skip' ?_
     show TX E K14 _
     exact tx_pick' [] (sub_cons rfl (sub_cons rfl (sub_cons rfl sub_nil))) (by decide) pick_nil (hK14 a1 hp)
    intro K11 hK11
    refine cr fun K12 hK12 => ?_
    refine s0 (rd_move' rfl) ?_
    refine s0 (rd_bin' rfl rfl eg_flt ru_flt) ?_
    refine nk hK12 ?_
    refine cx_cond' rfl (fun h6 => ?_) (fun h6 => ?_)
    ·replace hp := (br_t h6).symm.trans hp
     refine cr fun K13 hK13 => ?_
     refine s0 (rd_move' rfl) ?_
     refine s0 (rd_un' rfl ru_fneg) ?_
     refine s0 (rd_assign' rfl) ?_
     refine nk hK13 ?_
     refine cx_region' ?_
     refine s0 (rd_assign' rfl) ?_
     refine sx_nil' ?_
     show TX E K11 _
     exact tx_pick' [] (sub_cons rfl (sub_cons rfl (sub_cons rfl sub_nil))) (by decide) pick_nil (hK11 ((fneg a0), true) hp)
    replace hp := (br_f h6).symm.trans hp
    refine cx_skip' ?_
    show TX E K11 _
    exact tx_pick' [] (sub_cons rfl (sub_cons rfl (sub_cons rfl sub_nil))) (by decide) pick_nil (hK11 (a0, false) hp)
   intro K6 hK6
   rcases br_cases hp with ⟨h3, hp⟩ | ⟨h3, hp⟩
   ·refine sx_skip' rfl rfl (wt_is' (wt_guard' rfl rfl rfl) (beq_tf h3)) ?_
    refine sx_skip' rfl rfl (wt_is' (wt_guard' rfl rfl rfl) (beq_tf h3)) ?_
    refine s0 (rd_pick_true' rfl h3 rfl) ?_
    refine sx_nil' ?_
    show TX E K6 _
    exact tx_pick' [] (sub_cons rfl (sub_cons rfl (sub_cons rfl sub_nil))) (by decide) pick_nil (hK6 true hp)
   refine sx_rd' (rd_move' rfl) rfl rfl (wt_is' (wt_guard' rfl rfl rfl) (beq_ff h3)) ?_
   refine sx_rd' (rd_bin' rfl rfl eg_flt ru_feq) rfl rfl (wt_is' (wt_guard' rfl rfl rfl) (beq_ff h3)) ?_
   refine s0 (rd_pick_false' rfl h3 rfl) ?_
   refine sx_nil' ?_
   show TX E K6 _
   exact tx_pick' [] (sub_cons rfl (sub_cons rfl (sub_cons rfl sub_nil))) (by decide) pick_nil (hK6 (feq a1 0) hp)
  intro K5 hK5
  rcases br_cases hp with ⟨h2, hp⟩ | ⟨h2, hp⟩
  ·refine sx_skip' rfl rfl (wt_is' (wt_guard' rfl rfl rfl) (beq_tf h2)) ?_
   refine sx_skip' rfl rfl (wt_is' (wt_guard' rfl rfl rfl) (beq_tf h2)) ?_
   refine s0 (rd_pick_true' rfl h2 rfl) ?_
   refine sx_nil' ?_
   show TX E K5 _
   exact tx_pick' [] (sub_cons rfl (sub_cons rfl (sub_cons rfl sub_nil))) (by decide) pick_nil (hK5 true hp)
  refine sx_rd' (rd_move' rfl) rfl rfl (wt_is' (wt_guard' rfl rfl rfl) (beq_ff h2)) ?_
  obtain ⟨r17, hr17, hp⟩ := bind_some hp
  refine sx_ox' (ox_calln' (ent_fn' Try.func79 isn79 rfl rfl) (math_IsInf_sim _ _ hr17 : Sx.Fn Try.prog 79 [(Vg a0), (Vi 0)] [] (fun x : Unit => (Vb r17)) (fun x => [])) (Hn := fun x : Unit => []) (fun _ => rfl) rfl rfl) (wt_is' (wt_guard' rfl rfl rfl) (beq_ff h2)) fun ⟨⟩ => ?_
  refine s0 (rd_pick_false' rfl h2 rfl) ?_
  refine sx_nil' ?_
  show TX E K5 _
  exact tx_pick' [] (sub_cons rfl (sub_cons rfl (sub_cons rfl sub_nil))) (by decide) pick_nil (hK5 r17 hp)
 intro K4 hK4
 rcases br_cases hp with ⟨h1, hp⟩ | ⟨h1, hp⟩
 ·refine sx_skip' rfl rfl (wt_is' (wt_guard' rfl rfl rfl) (beq_tf h1)) ?_
  refine sx_skip' rfl rfl (wt_is' (wt_guard' rfl rfl rfl) (beq_tf h1)) ?_
  refine s0 (rd_pick_true' rfl h1 rfl) ?_
  refine sx_nil' ?_
  show TX E K4 _
  exact tx_pick' [] (sub_cons rfl (sub_cons rfl (sub_cons rfl sub_nil))) (by decide) pick_nil (hK4 true hp)
 refine sx_rd' (rd_move' rfl) rfl rfl (wt_is' (wt_guard' rfl rfl rfl) (beq_ff h1)) ?_
 obtain ⟨r13, hr13, hp⟩ := bind_some hp
 refine sx_ox' (ox_calln' (ent_fn' Try.func47 isn47 rfl rfl) (math_IsNaN_sim _ hr13 : Sx.Fn Try.prog 47 [(Vg a1)] [] (fun x : Unit => (Vb r13)) (fun x => [])) (Hn := fun x : Unit => []) (fun _ => rfl) rfl rfl) (wt_is' (wt_guard' rfl rfl rfl) (beq_ff h1)) fun ⟨⟩ => ?_
 refine s0 (rd_pick_false' rfl h1 rfl) ?_
 refine sx_nil' ?_
 show TX E K4 _
 exact tx_pick' [] (sub_cons rfl (sub_cons rfl (sub_cons rfl sub_nil))) (by decide) pick_nil (hK4 r13 hp)

def math_Remainder (k : Nat) (a0 : Nat) (a1 : Nat) : Option (Nat) :=
 (math_remainder k a0 a1) >>= fun r10 =>
 some r10

theorem math_Remainder_sim {k : Nat}  (a0 : Nat) (a1 : Nat) {out : Nat} (hp : math_Remainder k a0 a1 = some out) : Sx.Fn Try.prog 40 [(Vg a0), (Vg a1)] [] (fun w : Unit => (Fl out)) (fun w => []) := by
 unfold math_Remainder at hp
 refine fn_of Try.func40 rfl Try.ntmps40 rfl fun E hM => ?_
 refine cr fun K1 hK1 => ?_
 refine s0 (rd_assign' rfl) ?_
 refine nk hK1 ?_
 refine cx_seq' fun K2 hK2 => ?_
 refine cx_cond_f' rfl rfl ?_
 refine cx_skip' ?_
 show TX E K2 _
 refine tx_k' hK2 ?_
 refine cr fun K3 hK3 => ?_
 refine s0 (rd_move' rfl) ?_
 refine s0 (rd_move' rfl) ?_
 obtain ⟨r10, hr10, hp⟩ := bind_some hp
 refine sx_ox' (ox_calln' (ent_fn' Try.func66 isn66 rfl rfl) (math_remainder_sim _ _ hr10 : Sx.Fn Try.prog 66 [(Vg a0), (Vg a1)] [] (fun x : Unit => (Fl r10)) (fun x => [])) (Hn := fun x : Unit => []) (fun _ => rfl) rfl rfl) (wt_none' rfl) fun ⟨⟩ => ?_
 refine s0 (rd_assign' rfl) ?_
 refine nk hK3 ?_
 refine cx_retc' ?_
 replace hp := Option.some.inj hp
 subst hp
 refine tx_pick' (L' := [(4, (Fl r10))]) (H' := []) [] (sub_cons rfl sub_nil) (by decide) pick_nil ?_
 exact tx_ret1' Try.results40 rfl () (rv_tmp' rfl) (List.Sublist.refl _)

def laws_round (k : Nat) (a0 : Nat) (a1 : Nat) : Option (Bool) :=
 (some (gsub a0 a1)) >>= fun r7 =>
 (num r7) >>= fun u1 =>
 (math_Remainder k r7 4618760256179416344) >>= fun r8 =>
 (num r8) >>= fun u2 =>
 (math_Abs k r8) >>= fun r9 =>
 some (flt r9 4472074429978902528)

theorem laws_round_sim {k : Nat}  (a0 : Nat) (a1 : Nat) {out : Bool} (hp : laws_round k a0 a1 = some out) : Sx.Fn Try.prog 16 [(Vg a0), (Vg a1)] [] (fun w : Unit => (Vb out)) (fun w => []) := by
 unfold laws_round at hp
 refine fn_of Try.func16 rfl Try.ntmps16 rfl fun E hM => ?_
 refine cr fun K1 hK1 => ?_
 refine s0 (rd_assign' rfl) ?_
 refine nk hK1 ?_
 refine cr fun K2 hK2 => ?_
 refine s0 (rd_move' rfl) ?_
 refine s0 (rd_move' rfl) ?_
 obtain ⟨r7, hr7, hp⟩ := bind_some hp
 refine sx_ox' (ox_fop' (.inr (.inl rfl)) (fl_v rfl) (fl_v rfl) (Option.some.inj hr7) rfl rfl) (wt_none' rfl) fun _ => ?_
 obtain ⟨u1, hu1, hp⟩ := bind_some hp
 refine tx_slot' 7 (y := (Vg r7)) rfl (imp_num (num_some hu1).2) ?_
 obtain ⟨r8, hr8, hp⟩ := bind_some hp
 refine sx_ox' (ox_calln' (ent_fn' Try.func40 isn40 rfl rfl) (math_Remainder_sim _ _ hr8 : Sx.Fn Try.prog 40 [(Vg r7), (Vg 4618760256179416344)] [] (fun x : Unit => (Fl r8)) (fun x => [])) (Hn := fun x : Unit => []) (fun _ => rfl) rfl rfl) (wt_none' rfl) fun ⟨⟩ => ?_
 obtain ⟨u2, hu2, hp⟩ := bind_some hp
 refine tx_slot' 8 (y := (Vg r8)) rfl (imp_num (num_some hu2).2) ?_
 obtain ⟨r9, hr9, hp⟩ := bind_some hp
 refine sx_ox' (ox_calln' (ent_fn' Try.func15 isn15 rfl rfl) (math_Abs_sim _ hr9 : Sx.Fn Try.prog 15 [(Vg r8)] [] (fun x : Unit => (Vg r9)) (fun x => [])) (Hn := fun x : Unit => []) (fun _ => rfl) rfl rfl) (wt_none' rfl) fun ⟨⟩ => ?_
 refine s0 (rd_bin' rfl rfl eg_flt ru_flt) ?_
 refine s0 (rd_assign' rfl) ?_
 refine nk hK2 ?_
 refine cx_retc' ?_
 replace hp := Option.some.inj hp
 subst hp
 refine tx_pick' (L' := [(4, (Vb (flt r9 4472074429978902528)))]) (H' := []) [] (sub_cons rfl sub_nil) (by decide) pick_nil ?_
 exact tx_ret1' Try.results16 rfl () (rv_tmp' rfl) (List.Sublist.refl _)

def laws_FnAngleBetweenOriented_j5 (k : Nat) (x5 : Bool) : Option (Bool) :=
 some x5
def laws_FnAngleBetweenOriented_j4 (k : Nat) (x4 : Bool) : Option (Bool) :=
 laws_FnAngleBetweenOriented_j5 k x4
def laws_FnAngleBetweenOriented_j3 (k : Nat) (r35 : Int) (r28 : Nat) (x3 : Bool) : Option (Bool) :=
 br x3
  (br (decide (r35 = 0))
   (laws_FnAngleBetweenOriented_j4 k true)
   (laws_FnAngleBetweenOriented_j4 k ((fgt r28 0) == (decide (0 < r35)))))
  (laws_FnAngleBetweenOriented_j5 k false)
def laws_FnAngleBetweenOriented_j2 (k : Nat) (a0_0 : Nat) (a0_1 : Nat) (a1_0 : Nat) (a1_1 : Nat) (a2_0 : Nat) (a2_1 : Nat) (x2 : Bool) : Option (Bool) :=
 br x2
  (some true)
  ((impl_AngleBetweenOriented k a0_0 a0_1 a1_0 a1_1 a2_0 a2_1) >>= fun r28 =>
  (laws_exactly k a1_0 a1_1) >>= fun r30 =>
  (laws_exactly k a0_0 a0_1) >>= fun r32 =>
  (laws_exactly k a2_0 a2_1) >>= fun r34 =>
  (spec_Orient k r30.1 r30.2.1 r30.2.2.1 r30.2.2.2.1 r30.2.2.2.2.1 r30.2.2.2.2.2 r32.1 r32.2.1 r32.2.2.1 r32.2.2.2.1 r32.2.2.2.2.1 r32.2.2.2.2.2 r34.1 r34.2.1 r34.2.2.1 r34.2.2.2.1 r34.2.2.2.2.1 r34.2.2.2.2.2) >>= fun r35 =>
  (num r28) >>= fun u1 =>
  (math_Abs k r28) >>= fun r37 =>
  br (fle r37 4614256656554143000)
   ((laws_turned k a0_0 a0_1 a1_0 a1_1 a2_0 a2_1) >>= fun r44 =>
   (num r28) >>= fun u2 =>
   (num r44) >>= fun u3 =>
   (laws_round k r28 r44) >>= fun r45 =>
   laws_FnAngleBetweenOriented_j3 k r35 r28 r45)
   (laws_FnAngleBetweenOriented_j3 k r35 r28 false))
def laws_FnAngleBetweenOriented_j1 (k : Nat) (a0_0 : Nat) (a0_1 : Nat) (a1_0 : Nat) (a1_1 : Nat) (a2_0 : Nat) (a2_1 : Nat) (x1 : Bool) : Option (Bool) :=
 br x1
  (laws_FnAngleBetweenOriented_j2 k a0_0 a0_1 a1_0 a1_1 a2_0 a2_1 true)
  (laws_FnAngleBetweenOriented_j2 k a0_0 a0_1 a1_0 a1_1 a2_0 a2_1 ((feq a2_0 a1_0) && ((feq a2_1 a1_1) && true)))
def laws_FnAngleBetweenOriented (k : Nat) (a0_0 : Nat) (a0_1 : Nat) (a1_0 : Nat) (a1_1 : Nat) (a2_0 : Nat) (a2_1 : Nat) : Option (Bool) :=
 (laws_planeTo k 4697254411347427328 ([(a0_0, a0_1), (a1_0, a1_1), (a2_0, a2_1)])) >>= fun r13 =>
 br (!r13)
  (laws_FnAngleBetweenOriented_j1 k a0_0 a0_1 a1_0 a1_1 a2_0 a2_1 true)
  (laws_FnAngleBetweenOriented_j1 k a0_0 a0_1 a1_0 a1_1 a2_0 a2_1 ((feq a0_0 a1_0) && ((feq a0_1 a1_1) && true)))

theorem laws_FnAngleBetweenOriented_sim {k : Nat}  (a0_0 : Nat) (a0_1 : Nat) (a1_0 : Nat) (a1_1 : Nat) (a2_0 : Nat) (a2_1 : Nat) {out : Bool} (hp : laws_FnAngleBetweenOriented k a0_0 a0_1 a1_0 a1_1 a2_0 a2_1 = some out) : Sx.Fn Try.prog 4 [(Ag [(Vg a0_0), (Vg a0_1)]), (Ag [(Vg a1_0), (Vg a1_1)]), (Ag [(Vg a2_0), (Vg a2_1)])] [] (fun w : Unit => (Vb out)) (fun w => []) := by
 unfold laws_FnAngleBetweenOriented at hp
 refine fn_of Try.func4 rfl Try.ntmps4 rfl fun E hM => ?_
 refine cr fun K1 hK1 => ?_
 refine sx_ox' (ox_box' rfl (lv_ag _) rfl rfl) (wt_none' rfl) fun q3 => ?_
 refine sx_ox' (ox_box' rfl (lv_ag _) rfl rfl) (wt_none' rfl) fun q4 => ?_
 refine sx_ox' (ox_box' rfl (lv_ag _) rfl rfl) (wt_none' rfl) fun q5 => ?_
 refine s0 (rd_assign' rfl) ?_
 refine nk hK1 ?_
 refine cx_seq' fun K2 hK2 => ?_
 refine cr fun K3 hK3 => ?_
 refine s0 (rd_load_agg' (i := 2) (o := 0) (nn := 2) rfl ⟨rfl, rfl, rfl, rfl⟩ rfl agg43 (l' := [(Vg a0_0), (Vg a0_1)]) rfl) ?_
 refine s0 (rd_load_agg' (i := 1) (o := 0) (nn := 2) rfl ⟨rfl, rfl, rfl, rfl⟩ rfl agg43 (l' := [(Vg a1_0), (Vg a1_1)]) rfl) ?_
 refine s0 (rd_load_agg' (i := 0) (o := 0) (nn := 2) rfl ⟨rfl, rfl, rfl, rfl⟩ rfl agg43 (l' := [(Vg a2_0), (Vg a2_1)]) rfl) ?_
 refine sx_ox' (ox_rowlit' (K := KT43) (xs := [(a0_0, a0_1), (a1_0, a1_1), (a2_0, a2_1)]) (qs := [(0, [(Vg a0_0), (Vg a0_1)]), (1, [(Vg a1_0), (Vg a1_1)]), (2, [(Vg a2_0), (Vg a2_1)])]) ⟨rfl, ⟨_, rfl, (lv_ag _)⟩, ⟨rfl, ⟨_, rfl, (lv_ag _)⟩, ⟨rfl, ⟨_, rfl, (lv_ag _)⟩, trivial⟩⟩⟩ Try.underlying68 info43 rfl rfl rfl rfl rfl (by kernel_rfl) rfl rfl rfl) (wt_none' rfl) fun g12 => ?_
 obtain ⟨r13, hr13, hp⟩ := bind_some hp
 refine sx_ox' (ox_brw' (frz_row 0 [(12, (Vl (Vs g12)), (Sl KT43 ([(a0_0, a0_1), (a1_0, a1_1), (a2_0, a2_1)])))] (K := KT43) (xs := [(a0_0, a0_1), (a1_0, a1_1), (a2_0, a2_1)]) (by decide) rfl ⟨⟨rfl, frz_it⟩, trivial⟩ (H' := [⟨.pointer (some q5), [(Vg a2_0), (Vg a2_1)], 43, none⟩, ⟨.pointer (some q4), [(Vg a1_0), (Vg a1_1)], 43, none⟩, ⟨.pointer (some q3), [(Vg a0_0), (Vg a0_1)], 43, none⟩]) frzH_refl) (ent_fn' Try.func11 isn11 rfl rfl) (laws_planeTo_sim _ _ hr13 : Sx.Fn Try.prog 11 [(Vg 4697254411347427328), (Sl KT43 ([(a0_0, a0_1), (a1_0, a1_1), (a2_0, a2_1)]))] [] (fun x : Unit => (Vb r13)) (fun x => [])) pu_vl rfl rfl) (wt_none' rfl) fun ⟨⟩ => ?_
 refine s0 (rd_un' rfl ru_not) ?_
 refine s0 (rd_move' rfl) ?_
 refine sx_cutn' 4 (fun (v1 : Bool) => (⟨58, [], [(3, (Vp q3)), (4, (Vp q4)), (5, (Vp q5)), (19, (Vb v1))], [⟨.pointer (some q3), [(Vg a0_0), (Vg a0_1)], 43, none⟩, ⟨.pointer (some q4), [(Vg a1_0), (Vg a1_1)], 43, none⟩, ⟨.pointer (some q5), [(Vg a2_0), (Vg a2_1)], 43, none⟩]⟩ : St)) (fun (v1 : Bool) => laws_FnAngleBetweenOriented_j1 k a0_0 a0_1 a1_0 a1_1 a2_0 a2_1 v1 = some out) ?_ ?_
 ·rintro x1 hp
  replace hp : laws_FnAngleBetweenOriented_j1 k a0_0 a0_1 a1_0 a1_1 a2_0 a2_1 x1 = some out := hp
  unfold laws_FnAngleBetweenOriented_j1 at hp
  refine s0 (rd_move' rfl) ?_
  refine sx_cutn' 4 (fun (v2 : Bool) => (⟨58, [], [(3, (Vp q3)), (4, (Vp q4)), (5, (Vp q5)), (24, (Vb v2))], [⟨.pointer (some q3), [(Vg a0_0), (Vg a0_1)], 43, none⟩, ⟨.pointer (some q4), [(Vg a1_0), (Vg a1_1)], 43, none⟩, ⟨.pointer (some q5), [(Vg a2_0), (Vg a2_1)], 43, none⟩]⟩ : St)) (fun (v2 : Bool) => laws_FnAngleBetweenOriented_j2 k a0_0 a0_1 a1_0 a1_1 a2_0 a2_1 v2 = some out) ?_ ?_
  ·rintro x2 hp
   replace hp : laws_FnAngleBetweenOriented_j2 k a0_0 a0_1 a1_0 a1_1 a2_0 a2_1 x2 = some out := hp
   unfold laws_FnAngleBetweenOriented_j2 at hp
   refine nk hK3 ?_
   refine cx_cond' rfl (fun h3 => ?_) (fun h3 => ?_)
   ·replace hp := (br_t h3).symm.trans hp
    refine cr fun K6 hK6 => ?_
    refine s0 (rd_assign' rfl) ?_
    refine nk hK6 ?_
    refine cx_retc' ?_
    replace hp := Option.some.inj hp
    subst hp
    refine tx_pick' (L' := [(6, (Vb true))]) (H' := []) [] (sub_cons rfl sub_nil) (by decide) pick_nil ?_
    exact tx_ret1' Try.results4 rfl () (rv_tmp' rfl) (List.Sublist.refl _)
   replace hp := (br_f h3).symm.trans hp
   refine cx_skip' ?_
   show TX E K2 _
   refine tx_k' hK2 ?_
   refine cx_seq' fun K7 hK7 => ?_
   refine cx_plan' [] [] [(0, 1), (1, 1), (2, 1), (4, 1), (6, 1), (8, 1), (3, 0), (5, 0), (7, 0), (9, 0), (10, 0), (11, 1), (12, 1)] mixed (by kernel_rfl) ?_
   refine px_rd' rfl (rd_load_agg' (i := 0) (o := 0) (nn := 2) rfl ⟨rfl, rfl, rfl, rfl⟩ rfl agg43 (l' := [(Vg a0_0), (Vg a0_1)]) rfl) rfl rfl (wt_none' rfl) ?_
   refine px_rd' rfl (rd_load_agg' (i := 1) (o := 0) (nn := 2) rfl ⟨rfl, rfl, rfl, rfl⟩ rfl agg43 (l' := [(Vg a1_0), (Vg a1_1)]) rfl) rfl rfl (wt_none' rfl) ?_
   refine px_rd' rfl (rd_load_agg' (i := 2) (o := 0) (nn := 2) rfl ⟨rfl, rfl, rfl, rfl⟩ rfl agg43 (l' := [(Vg a2_0), (Vg a2_1)]) rfl) rfl rfl (wt_none' rfl) ?_
   refine px_rd' rfl (rd_load_agg' (i := 1) (o := 0) (nn := 2) rfl ⟨rfl, rfl, rfl, rfl⟩ rfl agg43 (l' := [(Vg a1_0), (Vg a1_1)]) rfl) rfl rfl (wt_none' rfl) ?_
   refine px_rd' rfl (rd_load_agg' (i := 0) (o := 0) (nn := 2) rfl ⟨rfl, rfl, rfl, rfl⟩ rfl agg43 (l' := [(Vg a0_0), (Vg a0_1)]) rfl) rfl rfl (wt_none' rfl) ?_
   refine px_rd' rfl (rd_load_agg' (i := 2) (o := 0) (nn := 2) rfl ⟨rfl, rfl, rfl, rfl⟩ rfl agg43 (l' := [(Vg a2_0), (Vg a2_1)]) rfl) rfl rfl (wt_none' rfl) ?_
   obtain ⟨r28, hr28, hp⟩ := bind_some hp
   refine px_ox' rfl (ox_calln' (ent_fn' Try.func12 isn12 rfl rfl) (impl_AngleBetweenOriented_sim _ _ _ _ _ _ hr28 : Sx.Fn Try.prog 12 [(Ag [(Vg a0_0), (Vg a0_1)]), (Ag [(Vg a1_0), (Vg a1_1)]), (Ag [(Vg a2_0), (Vg a2_1)])] [] (fun x : Unit => (Fl r28)) (fun x => [])) (Hn := fun x : Unit => [⟨.pointer (some q3), [(Vg a0_0), (Vg a0_1)], 43, none⟩, ⟨.pointer (some q4), [(Vg a1_0), (Vg a1_1)], 43, none⟩, ⟨.pointer (some q5), [(Vg a2_0), (Vg a2_1)], 43, none⟩]) (fun _ => rfl) rfl rfl) rfl bs_nil (wt_none' rfl) fun ⟨⟩ => ?_
   obtain ⟨r30, hr30, hp⟩ := bind_some hp
   refine px_ox' rfl (ox_calln' (ent_fn' Try.func14 isn14 rfl rfl) (laws_exactly_sim _ _ hr30 : Sx.Fn Try.prog 14 [(Ag [(Vg a1_0), (Vg a1_1)])] [] (fun x : Unit => (Ag [(Vb r30.1), (Sl (Ki .u32) r30.2.1), (Vi r30.2.2.1), (Vb r30.2.2.2.1), (Sl (Ki .u32) r30.2.2.2.2.1), (Vi r30.2.2.2.2.2)])) (fun x => [])) (Hn := fun x : Unit => [⟨.pointer (some q3), [(Vg a0_0), (Vg a0_1)], 43, none⟩, ⟨.pointer (some q4), [(Vg a1_0), (Vg a1_1)], 43, none⟩, ⟨.pointer (some q5), [(Vg a2_0), (Vg a2_1)], 43, none⟩]) (fun _ => rfl) rfl rfl) rfl bs_nil (wt_none' rfl) fun ⟨⟩ => ?_
   obtain ⟨r32, hr32, hp⟩ := bind_some hp
   refine px_ox' rfl (ox_calln' (ent_fn' Try.func14 isn14 rfl rfl) (laws_exactly_sim _ _ hr32 : Sx.Fn Try.prog 14 [(Ag [(Vg a0_0), (Vg a0_1)])] [] (fun x : Unit => (Ag [(Vb r32.1), (Sl (Ki .u32) r32.2.1), (Vi r32.2.2.1), (Vb r32.2.2.2.1), (Sl (Ki .u32) r32.2.2.2.2.1), (Vi r32.2.2.2.2.2)])) (fun x => [])) (Hn := fun x : Unit => [⟨.pointer (some q3), [(Vg a0_0), (Vg a0_1)], 43, none⟩, ⟨.pointer (some q4), [(Vg a1_0), (Vg a1_1)], 43, none⟩, ⟨.pointer (some q5), [(Vg a2_0), (Vg a2_1)], 43, none⟩]) (fun _ => rfl) rfl rfl) rfl bs_nil (wt_none' rfl) fun ⟨⟩ => ?_
   obtain ⟨r34, hr34, hp⟩ := bind_some hp
   refine px_ox' rfl (ox_calln' (ent_fn' Try.func14 isn14 rfl rfl) (laws_exactly_sim _ _ hr34 : Sx.Fn Try.prog 14 [(Ag [(Vg a2_0), (Vg a2_1)])] [] (fun x : Unit => (Ag [(Vb r34.1), (Sl (Ki .u32) r34.2.1), (Vi r34.2.2.1), (Vb r34.2.2.2.1), (Sl (Ki .u32) r34.2.2.2.2.1), (Vi r34.2.2.2.2.2)])) (fun x => [])) (Hn := fun x : Unit => [⟨.pointer (some q3), [(Vg a0_0), (Vg a0_1)], 43, none⟩, ⟨.pointer (some q4), [(Vg a1_0), (Vg a1_1)], 43, none⟩, ⟨.pointer (some q5), [(Vg a2_0), (Vg a2_1)], 43, none⟩]) (fun _ => rfl) rfl rfl) rfl bs_nil (wt_none' rfl) fun ⟨⟩ => ?_
   obtain ⟨r35, hr35, hp⟩ := bind_some hp
   refine px_ox' rfl (ox_calln' (ent_fn' Try.func13 isn13 rfl rfl) (spec_Orient_sim _ _ _ _ _ _ _ _ _ _ _ _ _ _ _ _ _ _ hr35 : Sx.Fn Try.prog 13 [(Ag [(Vb r30.1), (Sl (Ki .u32) r30.2.1), (Vi r30.2.2.1), (Vb r30.2.2.2.1), (Sl (Ki .u32) r30.2.2.2.2.1), (Vi r30.2.2.2.2.2)]), (Ag [(Vb r32.1), (Sl (Ki .u32) r32.2.1), (Vi r32.2.2.1), (Vb r32.2.2.2.1), (Sl (Ki .u32) r32.2.2.2.2.1), (Vi r32.2.2.2.2.2)]), (Ag [(Vb r34.1), (Sl (Ki .u32) r34.2.1), (Vi r34.2.2.1), (Vb r34.2.2.2.1), (Sl (Ki .u32) r34.2.2.2.2.1), (Vi r34.2.2.2.2.2)])] [] (fun x : Unit => (Vi r35)) (fun x => [])) (Hn := fun x : Unit => [⟨.pointer (some q3), [(Vg a0_0), (Vg a0_1)], 43, none⟩, ⟨.pointer (some q4), [(Vg a1_0), (Vg a1_1)], 43, none⟩, ⟨.pointer (some q5), [(Vg a2_0), (Vg a2_1)], 43, none⟩]) (fun _ => rfl) rfl rfl) rfl bs_nil (wt_none' rfl) fun ⟨⟩ => ?_
   refine px_rd' rfl (rd_assign' rfl) rfl rfl (wt_none' rfl) ?_
   refine px_rd' rfl (rd_assign' rfl) rfl rfl (wt_none' rfl) ?_
   refine px_nil' ?_
   show TX E K7 _
   refine tx_k' hK7 ?_
   refine cr fun K8 hK8 => ?_
   refine s0 (rd_move' rfl) ?_
   obtain ⟨u1, hu1, hp⟩ := bind_some hp
   refine tx_slot' 36 (y := (Vg r28)) rfl (imp_num (num_some hu1).2) ?_
   obtain ⟨r37, hr37, hp⟩ := bind_some hp
   refine sx_ox' (ox_calln' (ent_fn' Try.func15 isn15 rfl rfl) (math_Abs_sim _ hr37 : Sx.Fn Try.prog 15 [(Vg r28)] [] (fun x : Unit => (Vg r37)) (fun x => [])) (Hn := fun x : Unit => [⟨.pointer (some q3), [(Vg a0_0), (Vg a0_1)], 43, none⟩, ⟨.pointer (some q4), [(Vg a1_0), (Vg a1_1)], 43, none⟩, ⟨.pointer (some q5), [(Vg a2_0), (Vg a2_1)], 43, none⟩]) (fun _ => rfl) rfl rfl) (wt_none' rfl) fun ⟨⟩ => ?_
   refine s0 (rd_bin' rfl rfl eg_flt ru_fle) ?_
   refine s0 (rd_move' rfl) ?_
   refine sx_cutn' 7 (fun (v3 : Bool) => (⟨58, [], [(7, (Fl r28)), (8, (Vi r35)), (46, (Vb v3))], []⟩ : St)) (fun (v3 : Bool) => laws_FnAngleBetweenOriented_j3 k r35 r28 v3 = some out) ?_ ?_
   ·rintro x3 hp
    replace hp : laws_FnAngleBetweenOriented_j3 k r35 r28 x3 = some out := hp
    unfold laws_FnAngleBetweenOriented_j3 at hp
    refine s0 (rd_move' rfl) ?_
    refine sx_cutn' 10 (fun (v5 : Bool) => (⟨58, [], [(57, (Vb v5))], []⟩ : St)) (fun (v5 : Bool) => laws_FnAngleBetweenOriented_j5 k v5 = some out) ?_ ?_
    ·rintro x5 hp
     replace hp : laws_FnAngleBetweenOriented_j5 k x5 = some out := hp
     unfold laws_FnAngleBetweenOriented_j5 at hp
     refine s0 (rd_assign' rfl) ?_
     refine nk hK8 ?_
     refine cx_retc' ?_
     replace hp := Option.some.inj hp
     subst hp
     refine tx_pick' (L' := [(6, (Vb x5))]) (H' := []) [] (sub_cons rfl sub_nil) (by decide) pick_nil ?_
     exact tx_ret1' Try.results4 rfl () (rv_tmp' rfl) (List.Sublist.refl _)
    intro K11 hK11
    rcases br_cases hp with ⟨h5, hp⟩ | ⟨h5, hp⟩
    ·refine sx_rd' (rd_move' rfl) rfl rfl (wt_is' (wt_guard' rfl rfl rfl) (beq_tt h5)) ?_
     refine sx_rd' (rd_bin' rfl rfl eg_int ru_eql) rfl rfl (wt_is' (wt_guard' rfl rfl rfl) (beq_tt h5)) ?_
     refine sx_rd' (rd_move' rfl) rfl rfl (wt_is' (wt_guard' rfl rfl rfl) (beq_tt h5)) ?_
     refine sx_cutn' 7 (fun (v4 : Bool) => (⟨58, [], [(57, (Vb v4))], []⟩ : St)) (fun (v4 : Bool) => laws_FnAngleBetweenOriented_j4 k v4 = some out) ?_ ?_
     ·rintro x4 hp
      replace hp : laws_FnAngleBetweenOriented_j4 k x4 = some out := hp
      unfold laws_FnAngleBetweenOriented_j4 at hp
      refine sx_nil' ?_
      show TX E K11 _
      exact tx_pick' [] (sub_cons rfl sub_nil) (by decide) pick_nil (hK11 x4 hp)
     intro K10 hK10
     rcases br_cases hp with ⟨h6, hp⟩ | ⟨h6, hp⟩
     ·refine sx_skip' rfl rfl (wt_is' (wt_guard' rfl rfl rfl) (beq_tf h6)) ?_
      refine sx_skip' rfl rfl (wt_is' (wt_guard' rfl rfl rfl) (beq_tf h6)) ?_
      refine sx_skip' rfl rfl (wt_is' (wt_guard' rfl rfl rfl) (beq_tf h6)) ?_
      refine sx_skip' rfl rfl (wt_is' (wt_guard' rfl rfl rfl) (beq_tf h6)) ?_
      refine sx_skip' rfl rfl (wt_is' (wt_guard' rfl rfl rfl) (beq_tf h6)) ?_
      refine sx_rd' (rd_pick_true' rfl h6 rfl) rfl rfl (wt_is' (wt_guard' rfl rfl rfl) (beq_tt h5)) ?_
      refine s0 (rd_pick_true' rfl h5 rfl) ?_
      refine sx_nil' ?_
      show TX E K10 _
      exact tx_pick' [] (sub_cons rfl sub_nil) (by decide) pick_nil (hK10 true hp)
     refine sx_rd' (rd_move' rfl) rfl rfl (wt_is' (wt_guard' rfl rfl rfl) (beq_ff h6)) ?_
     refine sx_rd' (rd_fcmp' (fl_f rfl) (fl_v rfl) rfl) rfl rfl (wt_is' (wt_guard' rfl rfl rfl) (beq_ff h6)) ?_
     refine sx_rd' (rd_move' rfl) rfl rfl (wt_is' (wt_guard' rfl rfl rfl) (beq_ff h6)) ?_
     refine sx_rd' (rd_bin' rfl rfl eg_int ru_gtr) rfl rfl (wt_is' (wt_guard' rfl rfl rfl) (beq_ff h6)) ?_
     refine sx_rd' (rd_bin' rfl rfl eg_bool (ru_beq Try.underlying4)) rfl rfl (wt_is' (wt_guard' rfl rfl rfl) (beq_ff h6)) ?_
     refine sx_rd' (rd_pick_false' rfl h6 rfl) rfl rfl (wt_is' (wt_guard' rfl rfl rfl) (beq_tt h5)) ?_
     refine s0 (rd_pick_true' rfl h5 rfl) ?_
     refine sx_nil' ?_
     show TX E K10 _
     exact tx_pick' [] (sub_cons rfl sub_nil) (by decide) pick_nil (hK10 ((fgt r28 0) == (decide (0 < r35))) hp)
    refine sx_skip' rfl rfl (wt_is' (wt_guard' rfl rfl rfl) (beq_ft h5)) ?_
    refine sx_skip' rfl rfl (wt_is' (wt_guard' rfl rfl rfl) (beq_ft h5)) ?_
    refine sx_skip' rfl rfl (wt_is' (wt_guard' rfl rfl rfl) (beq_ft h5)) ?_
    refine sx_skip' rfl rfl (wt_undef' rfl rfl rfl) ?_
    refine sx_skip' rfl rfl (wt_undef' rfl rfl rfl) ?_
    refine sx_skip' rfl rfl (wt_undef' rfl rfl rfl) ?_
    refine sx_skip' rfl rfl (wt_undef' rfl rfl rfl) ?_
    refine sx_skip' rfl rfl (wt_undef' rfl rfl rfl) ?_
    refine sx_skip' rfl rfl (wt_is' (wt_guard' rfl rfl rfl) (beq_ft h5)) ?_
    refine s0 (rd_pick_false' rfl h5 rfl) ?_
    refine sx_nil' ?_
    show TX E K11 _
    exact tx_pick' [] (sub_cons rfl sub_nil) (by decide) pick_nil (hK11 false hp)
   intro K9 hK9
   rcases br_cases hp with ⟨h4, hp⟩ | ⟨h4, hp⟩
   ·refine sx_rd' (rd_move' rfl) rfl rfl (wt_is' (wt_guard' rfl rfl rfl) (beq_tt h4)) ?_
    refine sx_rd' (rd_load_agg' (i := 0) (o := 0) (nn := 2) rfl ⟨rfl, rfl, rfl, rfl⟩ rfl agg43 (l' := [(Vg a0_0), (Vg a0_1)]) rfl) rfl rfl (wt_is' (wt_guard' rfl rfl rfl) (beq_tt h4)) ?_
    refine sx_rd' (rd_load_agg' (i := 1) (o := 0) (nn := 2) rfl ⟨rfl, rfl, rfl, rfl⟩ rfl agg43 (l' := [(Vg a1_0), (Vg a1_1)]) rfl) rfl rfl (wt_is' (wt_guard' rfl rfl rfl) (beq_tt h4)) ?_
    refine sx_rd' (rd_load_agg' (i := 2) (o := 0) (nn := 2) rfl ⟨rfl, rfl, rfl, rfl⟩ rfl agg43 (l' := [(Vg a2_0), (Vg a2_1)]) rfl) rfl rfl (wt_is' (wt_guard' rfl rfl rfl) (beq_tt h4)) ?_
    obtain ⟨r44, hr44, hp⟩ := bind_some hp
    refine sx_ox' (ox_calln' (ent_fn' Try.func17 isn17 rfl rfl) (laws_turned_sim _ _ _ _ _ _ hr44 : Sx.Fn Try.prog 17 [(Ag [(Vg a0_0), (Vg a0_1)]), (Ag [(Vg a1_0), (Vg a1_1)]), (Ag [(Vg a2_0), (Vg a2_1)])] [] (fun x : Unit => (Fl r44)) (fun x => [])) (Hn := fun x : Unit => [⟨.pointer (some q3), [(Vg a0_0), (Vg a0_1)], 43, none⟩, ⟨.pointer (some q4), [(Vg a1_0), (Vg a1_1)], 43, none⟩, ⟨.pointer (some q5), [(Vg a2_0), (Vg a2_1)], 43, none⟩]) (fun _ => rfl) rfl rfl) (wt_is' (wt_guard' rfl rfl rfl) (beq_tt h4)) fun ⟨⟩ => ?_
    obtain ⟨u2, hu2, hp⟩ := bind_some hp
    refine tx_slot' 40 (y := (Vg r28)) rfl (imp_num (num_some hu2).2) ?_
    obtain ⟨u3, hu3, hp⟩ := bind_some hp
    refine tx_slot' 44 (y := (Vg r44)) rfl (imp_num (num_some hu3).2) ?_
    obtain ⟨r45, hr45, hp⟩ := bind_some hp
    refine sx_ox' (ox_calln' (ent_fn' Try.func16 isn16 rfl rfl) (laws_round_sim _ _ hr45 : Sx.Fn Try.prog 16 [(Vg r28), (Vg r44)] [] (fun x : Unit => (Vb r45)) (fun x => [])) (Hn := fun x : Unit => [⟨.pointer (some q3), [(Vg a0_0), (Vg a0_1)], 43, none⟩, ⟨.pointer (some q4), [(Vg a1_0), (Vg a1_1)], 43, none⟩, ⟨.pointer (some q5), [(Vg a2_0), (Vg a2_1)], 43, none⟩]) (fun _ => rfl) rfl rfl) (wt_is' (wt_guard' rfl rfl rfl) (beq_tt h4)) fun ⟨⟩ => ?_
    refine s0 (rd_pick_true' rfl h4 rfl) ?_
    refine sx_nil' ?_
    show TX E K9 _
    exact tx_pick' [] (sub_cons rfl (sub_cons rfl (sub_cons rfl sub_nil))) (by decide) pick_nil (hK9 r45 hp)
   refine sx_skip' rfl rfl (wt_is' (wt_guard' rfl rfl rfl) (beq_ft h4)) ?_
   refine sx_skip' rfl rfl (wt_is' (wt_guard' rfl rfl rfl) (beq_ft h4)) ?_
   refine sx_skip' rfl rfl (wt_is' (wt_guard' rfl rfl rfl) (beq_ft h4)) ?_
   refine sx_skip' rfl rfl (wt_is' (wt_guard' rfl rfl rfl) (beq_ft h4)) ?_
   refine sx_skip' rfl rfl (wt_is' (wt_guard' rfl rfl rfl) (beq_ft h4)) ?_
   refine sx_skip' rfl rfl (wt_is' (wt_guard' rfl rfl rfl) (beq_ft h4)) ?_
   refine s0 (rd_pick_false' rfl h4 rfl) ?_
   refine sx_nil' ?_
   show TX E K9 _
   exact tx_pick' [] (sub_cons rfl (sub_cons rfl (sub_cons rfl sub_nil))) (by decide) pick_nil (hK9 false hp)
  intro K5 hK5
  rcases br_cases hp with ⟨h2, hp⟩ | ⟨h2, hp⟩
  ·refine sx_skip' rfl rfl (wt_is' (wt_guard' rfl rfl rfl) (beq_tf h2)) ?_
   refine sx_skip' rfl rfl (wt_is' (wt_guard' rfl rfl rfl) (beq_tf h2)) ?_
   refine sx_skip' rfl rfl (wt_is' (wt_guard' rfl rfl rfl) (beq_tf h2)) ?_
   refine s0 (rd_pick_true' rfl h2 rfl) ?_
   refine sx_nil' ?_
   show TX E K5 _
   exact tx_pick' [0, 1, 2] (sub_cons rfl (sub_cons rfl (sub_cons rfl (sub_cons rfl sub_nil)))) (by decide) (pick_cons rfl (pick_cons rfl (pick_cons rfl pick_nil))) (hK5 true hp)
  refine sx_rd' (rd_load_agg' (i := 2) (o := 0) (nn := 2) rfl ⟨rfl, rfl, rfl, rfl⟩ rfl agg43 (l' := [(Vg a2_0), (Vg a2_1)]) rfl) rfl rfl (wt_is' (wt_guard' rfl rfl rfl) (beq_ff h2)) ?_
  refine sx_rd' (rd_load_agg' (i := 1) (o := 0) (nn := 2) rfl ⟨rfl, rfl, rfl, rfl⟩ rfl agg43 (l' := [(Vg a1_0), (Vg a1_1)]) rfl) rfl rfl (wt_is' (wt_guard' rfl rfl rfl) (beq_ff h2)) ?_
  refine sx_rd' (rd_eq_ag' (us := [.float .f64 a2_0, .float .f64 a2_1]) (vs := [.float .f64 a1_0, .float .f64 a1_1]) rfl rfl eqg43 (eqt_struct Try.underlying43 held43 (eqf_cons (by rfl) (part_flat flat22 rfl) (part_flat flat22 rfl) (eqt_flt Try.underlying22) (eqf_cons (by rfl) (part_flat flat22 rfl) (part_flat flat22 rfl) (eqt_flt Try.underlying22) eqf_nil)))) rfl rfl (wt_is' (wt_guard' rfl rfl rfl) (beq_ff h2)) ?_
  refine s0 (rd_pick_false' rfl h2 rfl) ?_
  refine sx_nil' ?_
  show TX E K5 _
  exact tx_pick' [0, 1, 2] (sub_cons rfl (sub_cons rfl (sub_cons rfl (sub_cons rfl sub_nil)))) (by decide) (pick_cons rfl (pick_cons rfl (pick_cons rfl pick_nil))) (hK5 ((feq a2_0 a1_0) && ((feq a2_1 a1_1) && true)) hp)
 intro K4 hK4
 rcases br_cases hp with ⟨h1, hp⟩ | ⟨h1, hp⟩
 ·refine sx_skip' rfl rfl (wt_is' (wt_guard' rfl rfl rfl) (beq_tf h1)) ?_
  refine sx_skip' rfl rfl (wt_is' (wt_guard' rfl rfl rfl) (beq_tf h1)) ?_
  refine sx_skip' rfl rfl (wt_is' (wt_guard' rfl rfl rfl) (beq_tf h1)) ?_
  refine s0 (rd_pick_true' rfl h1 rfl) ?_
  refine sx_nil' ?_
  show TX E K4 _
  exact tx_pick' [3, 2, 1] (sub_cons rfl (sub_cons rfl (sub_cons rfl (sub_cons rfl sub_nil)))) (by decide) (pick_cons rfl (pick_cons rfl (pick_cons rfl pick_nil))) (hK4 true hp)
 refine sx_rd' (rd_load_agg' (i := 3) (o := 0) (nn := 2) rfl ⟨rfl, rfl, rfl, rfl⟩ rfl agg43 (l' := [(Vg a0_0), (Vg a0_1)]) rfl) rfl rfl (wt_is' (wt_guard' rfl rfl rfl) (beq_ff h1)) ?_
 refine sx_rd' (rd_load_agg' (i := 2) (o := 0) (nn := 2) rfl ⟨rfl, rfl, rfl, rfl⟩ rfl agg43 (l' := [(Vg a1_0), (Vg a1_1)]) rfl) rfl rfl (wt_is' (wt_guard' rfl rfl rfl) (beq_ff h1)) ?_
 refine sx_rd' (rd_eq_ag' (us := [.float .f64 a0_0, .float .f64 a0_1]) (vs := [.float .f64 a1_0, .float .f64 a1_1]) rfl rfl eqg43 (eqt_struct Try.underlying43 held43 (eqf_cons (by rfl) (part_flat flat22 rfl) (part_flat flat22 rfl) (eqt_flt Try.underlying22) (eqf_cons (by rfl) (part_flat flat22 rfl) (part_flat flat22 rfl) (eqt_flt Try.underlying22) eqf_nil)))) rfl rfl (wt_is' (wt_guard' rfl rfl rfl) (beq_ff h1)) ?_
 refine s0 (rd_pick_false' rfl h1 rfl) ?_
 refine sx_nil' ?_
 show TX E K4 _
 exact tx_pick' [3, 2, 1] (sub_cons rfl (sub_cons rfl (sub_cons rfl (sub_cons rfl sub_nil)))) (by decide) (pick_cons rfl (pick_cons rfl (pick_cons rfl pick_nil))) (hK4 ((feq a0_0 a1_0) && ((feq a0_1 a1_1) && true)) hp)

end Go.Proofs.Ytmkhoplffiakmaa
