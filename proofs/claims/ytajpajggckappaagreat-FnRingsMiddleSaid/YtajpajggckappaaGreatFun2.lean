/-
  Plain functions for the Go functions that this law reaches, and that each call does what its plain function says. Printed by a program of ours.
-/
import Derived.Test.YtajpajggckappaaGreatProg
import Derived.Test.YtajpajggckappaaGreatSxX
import Derived.Test.YtajpajggckappaaGreatFun1
namespace Go.Proofs.YtajpajggckappaaGreat
open Go.Sx
set_option linter.unusedVariables false
set_option maxRecDepth 100000

def spec_Whole_Add (k : Nat) (a0_0 : Bool) (a0_1 : List Int) (a1_0 : Bool) (a1_1 : List Int) : Option (Bool × (List Int)) :=
 br (a0_0 == a1_0)
  ((spec_addLimbs k a0_1 a1_1) >>= fun r16 =>
  some (a0_0, r16))
  ((spec_cmpLimbs k a0_1 a1_1) >>= fun r22 =>
  br (decide (r22 = 0))
   (some (false, []))
   (br (decide (r22 = 1))
    ((spec_subLimbs k a0_1 a1_1) >>= fun r34 =>
    some (a0_0, r34))
    ((spec_subLimbs k a1_1 a0_1) >>= fun r42 =>
    some (a1_0, r42))))

theorem spec_Whole_Add_sim {k : Nat}  (a0_0 : Bool) (a0_1 : List Int) (a1_0 : Bool) (a1_1 : List Int) {out : Bool × (List Int)} (hp : spec_Whole_Add k a0_0 a0_1 a1_0 a1_1 = some out) : Sx.Fn Tryz.prog 35 [(Ag [(Vb a0_0), (Sl (Ki .u32) a0_1)]), (Ag [(Vb a1_0), (Sl (Ki .u32) a1_1)])] [] (fun w : Unit => (Ag [(Vb out.1), (Sl (Ki .u32) out.2)])) (fun w => []) := by
 unfold spec_Whole_Add at hp
 refine fn_of Tryz.func35 rfl Tryz.ntmps35 rfl fun E hM => ?_
 refine cr fun K1 hK1 => ?_
 refine sx_ox' (ox_box' rfl (lv_ag _) rfl rfl) (wt_none' rfl) fun q2 => ?_
 refine sx_ox' (ox_box' rfl (lv_ag _) rfl rfl) (wt_none' rfl) fun q3 => ?_
 refine sx_ox' (ox_alloc' info48 rfl rfl rfl rfl (l := [(Vb false), Vn]) rfl) (wt_none' rfl) fun q4 => ?_
 refine nk hK1 ?_
 refine cx_seq' fun K2 hK2 => ?_
 refine cr fun K3 hK3 => ?_
 refine s0 (rd_field0' rfl Tryz.underlying48 rfl info4 rfl) ?_
 refine s0 (rd_load' (i := 2) (o := 0) rfl ⟨rfl, rfl, rfl, rfl⟩ rfl flat4) ?_
 refine s0 (rd_field0' rfl Tryz.underlying48 rfl info4 rfl) ?_
 refine s0 (rd_load' (i := 1) (o := 0) rfl ⟨rfl, rfl, rfl, rfl⟩ rfl flat4) ?_
 refine s0 (rd_bin' rfl rfl eg_bool (ru_beq Tryz.underlying4)) ?_
 refine nk hK3 ?_
 refine cx_cond' rfl (fun h1 => ?_) (fun h1 => ?_)
 ·replace hp := (br_t h1).symm.trans hp
  refine cx_seq' fun K4 hK4 => ?_
  refine cx_plan' [] [(8, 1)] [(0, 1), (1, 1), (2, 1), (3, 1), (4, 1), (5, 1), (6, 0), (7, 1), (8, 0)] mixed (by kernel_rfl) ?_
  refine px_rd' rfl (rd_field0' rfl Tryz.underlying48 rfl info4 rfl) rfl rfl (wt_none' rfl) ?_
  refine px_rd' rfl (rd_load' (i := 2) (o := 0) rfl ⟨rfl, rfl, rfl, rfl⟩ rfl flat4) rfl rfl (wt_none' rfl) ?_
  refine px_rd' rfl (rd_field' (off := 1) rfl Tryz.underlying48 rfl info46 rfl) rfl rfl (wt_none' rfl) ?_
  refine px_rd' rfl (rd_load' (i := 2) (o := 1) rfl ⟨rfl, rfl, rfl, rfl⟩ rfl flat46) rfl rfl (wt_none' rfl) ?_
  refine px_rd' rfl (rd_field' (off := 1) rfl Tryz.underlying48 rfl info46 rfl) rfl rfl (wt_none' rfl) ?_
  refine px_rd' rfl (rd_load' (i := 1) (o := 1) rfl ⟨rfl, rfl, rfl, rfl⟩ rfl flat46) rfl rfl (wt_none' rfl) ?_
  obtain ⟨r16, hr16, hp⟩ := bind_some hp
  refine px_ox' rfl (ox_calln' (ent_fn' Tryz.func70 isn70 rfl rfl) (spec_addLimbs_sim _ _ hr16 : Sx.Fn Tryz.prog 70 [(Sl (Ki .u32) a0_1), (Sl (Ki .u32) a1_1)] [] (fun x : Unit => (Sl (Ki .u32) r16)) (fun x => [])) (Hn := fun x : Unit => [⟨.pointer (some q4), [(Vb false), Vn], 48, none⟩, ⟨.pointer (some q3), [(Vb a1_0), (Sl (Ki .u32) a1_1)], 48, none⟩, ⟨.pointer (some q2), [(Vb a0_0), (Sl (Ki .u32) a0_1)], 48, none⟩]) (fun _ => rfl) rfl rfl) rfl bs_nil (wt_none' rfl) fun ⟨⟩ => ?_
  refine px_rd' rfl (rd_build' (pls := [(0, 1), (1, 1)]) (qs := [(0, [(Vb a0_0)]), (1, [(Sl (Ki .u32) r16)])]) (r := [(Vb a0_0), (Sl (Ki .u32) r16)]) ⟨rfl, ⟨_, rfl, (lv_vl rfl rfl)⟩, ⟨rfl, ⟨_, rfl, (lv_sl _ _)⟩, trivial⟩⟩ Tryz.underlying48 has48 places48 info48 rfl rfl rfl) rfl rfl (wt_none' rfl) ?_
  refine px_oxv' rfl (oxv_store (i := 0) (o := 0) rfl rfl (lv_ag _) ⟨rfl, rfl, rfl, rfl⟩ rfl info48 rfl (H' := [⟨.pointer (some q4), [(Vb a0_0), (Sl (Ki .u32) r16)], 48, none⟩, ⟨.pointer (some q3), [(Vb a1_0), (Sl (Ki .u32) a1_1)], 48, none⟩, ⟨.pointer (some q2), [(Vb a0_0), (Sl (Ki .u32) a0_1)], 48, none⟩]) rfl) rfl rfl bo_nil (wt_none' rfl) fun _ => ?_
  refine px_nil' ?_
  show TX E K4 _
  refine tx_k' hK4 ?_
  refine cx_retc' ?_
  replace hp := Option.some.inj hp
  subst hp
  refine tx_pick' (L' := [(4, (Vp q4))]) (H' := [⟨.pointer (some q4), [(Vb a0_0), (Sl (Ki .u32) r16)], 48, none⟩]) [0] (sub_cons rfl sub_nil) (by decide) (pick_cons rfl pick_nil) ?_
  exact tx_ret1' Tryz.results35 rfl () (rv_cell_agg' (i := 0) (o := 0) (nn := 2) rfl ⟨rfl, rfl, rfl, rfl⟩ rfl agg48 rfl) (List.nil_sublist _)
 replace hp := (br_f h1).symm.trans hp
 refine cx_skip' ?_
 show TX E K2 _
 refine tx_k' hK2 ?_
 refine cx_seq' fun K5 hK5 => ?_
 refine cr fun K6 hK6 => ?_
 refine s0 (rd_field' (off := 1) rfl Tryz.underlying48 rfl info46 rfl) ?_
 refine s0 (rd_load' (i := 2) (o := 1) rfl ⟨rfl, rfl, rfl, rfl⟩ rfl flat46) ?_
 refine s0 (rd_field' (off := 1) rfl Tryz.underlying48 rfl info46 rfl) ?_
 refine s0 (rd_load' (i := 1) (o := 1) rfl ⟨rfl, rfl, rfl, rfl⟩ rfl flat46) ?_
 obtain ⟨r22, hr22, hp⟩ := bind_some hp
 refine sx_ox' (ox_calln' (ent_fn' Tryz.func71 isn71 rfl rfl) (spec_cmpLimbs_sim _ _ hr22 : Sx.Fn Tryz.prog 71 [(Sl (Ki .u32) a0_1), (Sl (Ki .u32) a1_1)] [] (fun x : Unit => (Vi r22)) (fun x => [])) (Hn := fun x : Unit => [⟨.pointer (some q4), [(Vb false), Vn], 48, none⟩, ⟨.pointer (some q3), [(Vb a1_0), (Sl (Ki .u32) a1_1)], 48, none⟩, ⟨.pointer (some q2), [(Vb a0_0), (Sl (Ki .u32) a0_1)], 48, none⟩]) (fun _ => rfl) rfl rfl) (wt_none' rfl) fun ⟨⟩ => ?_
 refine nk hK6 ?_
 refine cx_block' ?_
 refine cr fun K7 hK7 => ?_
 refine s0 (rd_bin' rfl rfl eg_int ru_eql) ?_
 refine s0 (rd_assign' rfl) ?_
 refine nk hK7 ?_
 refine cx_cond' rfl (fun h2 => ?_) (fun h2 => ?_)
 ·replace hp := (br_t h2).symm.trans hp
  refine cr fun K8 hK8 => ?_
  refine s0 (rd_build' (pls := [(0, 1), (1, 1)]) (qs := []) (r := [(Vb false), Vn]) trivial Tryz.underlying48 has48 places48 info48 rfl rfl rfl) ?_
  refine sx_ox' (ox_store' (i := 0) (o := 0) rfl rfl (lv_ag _) ⟨rfl, rfl, rfl, rfl⟩ rfl info48 rfl (H' := [⟨.pointer (some q4), [(Vb false), Vn], 48, none⟩, ⟨.pointer (some q3), [(Vb a1_0), (Sl (Ki .u32) a1_1)], 48, none⟩, ⟨.pointer (some q2), [(Vb a0_0), (Sl (Ki .u32) a0_1)], 48, none⟩]) rfl) (wt_none' rfl) fun _ => ?_
  refine nk hK8 ?_
  refine cx_retc' ?_
  replace hp := Option.some.inj hp
  subst hp
  refine tx_pick' (L' := [(4, (Vp q4))]) (H' := [⟨.pointer (some q4), [(Vb false), Vn], 48, none⟩]) [0] (sub_cons rfl sub_nil) (by decide) (pick_cons rfl pick_nil) ?_
  exact tx_ret1' Tryz.results35 rfl () (rv_imp' (x := (Ag [(Vb false), Vn])) (y := (Ag [(Vb false), (Sl (Ki .u32) [])])) (rv_cell_agg' (i := 0) (o := 0) (nn := 2) rfl ⟨rfl, rfl, rfl, rfl⟩ rfl agg48 rfl) (imp_ag ⟨imp_refl, imp_nil, trivial⟩)) (List.nil_sublist _)
 replace hp := (br_f h2).symm.trans hp
 refine cr fun K9 hK9 => ?_
 refine s0 (rd_bin' rfl rfl eg_int ru_eql) ?_
 refine s0 (rd_assign' rfl) ?_
 refine nk hK9 ?_
 refine cx_cond' rfl (fun h3 => ?_) (fun h3 => ?_)
 ·replace hp := (br_t h3).symm.trans hp
  refine cx_seq' fun K10 hK10 => ?_
  refine cx_plan' [] [(8, 1)] [(0, 1), (1, 1), (2, 1), (3, 1), (4, 1), (5, 1), (6, 0), (7, 1), (8, 0)] mixed (by kernel_rfl) ?_
  refine px_rd' rfl (rd_field0' rfl Tryz.underlying48 rfl info4 rfl) rfl rfl (wt_none' rfl) ?_
  refine px_rd' rfl (rd_load' (i := 2) (o := 0) rfl ⟨rfl, rfl, rfl, rfl⟩ rfl flat4) rfl rfl (wt_none' rfl) ?_
  refine px_rd' rfl (rd_field' (off := 1) rfl Tryz.underlying48 rfl info46 rfl) rfl rfl (wt_none' rfl) ?_
  refine px_rd' rfl (rd_load' (i := 2) (o := 1) rfl ⟨rfl, rfl, rfl, rfl⟩ rfl flat46) rfl rfl (wt_none' rfl) ?_
  refine px_rd' rfl (rd_field' (off := 1) rfl Tryz.underlying48 rfl info46 rfl) rfl rfl (wt_none' rfl) ?_
  refine px_rd' rfl (rd_load' (i := 1) (o := 1) rfl ⟨rfl, rfl, rfl, rfl⟩ rfl flat46) rfl rfl (wt_none' rfl) ?_
  obtain ⟨r34, hr34, hp⟩ := bind_some hp
  refine px_ox' rfl (ox_calln' (ent_fn' Tryz.func72 isn72 rfl rfl) (spec_subLimbs_sim _ _ hr34 : Sx.Fn Tryz.prog 72 [(Sl (Ki .u32) a0_1), (Sl (Ki .u32) a1_1)] [] (fun x : Unit => (Sl (Ki .u32) r34)) (fun x => [])) (Hn := fun x : Unit => [⟨.pointer (some q4), [(Vb false), Vn], 48, none⟩, ⟨.pointer (some q3), [(Vb a1_0), (Sl (Ki .u32) a1_1)], 48, none⟩, ⟨.pointer (some q2), [(Vb a0_0), (Sl (Ki .u32) a0_1)], 48, none⟩]) (fun _ => rfl) rfl rfl) rfl bs_nil (wt_none' rfl) fun ⟨⟩ => ?_
  refine px_rd' rfl (rd_build' (pls := [(0, 1), (1, 1)]) (qs := [(0, [(Vb a0_0)]), (1, [(Sl (Ki .u32) r34)])]) (r := [(Vb a0_0), (Sl (Ki .u32) r34)]) ⟨rfl, ⟨_, rfl, (lv_vl rfl rfl)⟩, ⟨rfl, ⟨_, rfl, (lv_sl _ _)⟩, trivial⟩⟩ Tryz.underlying48 has48 places48 info48 rfl rfl rfl) rfl rfl (wt_none' rfl) ?_
  refine px_oxv' rfl (oxv_store (i := 0) (o := 0) rfl rfl (lv_ag _) ⟨rfl, rfl, rfl, rfl⟩ rfl info48 rfl (H' := [⟨.pointer (some q4), [(Vb a0_0), (Sl (Ki .u32) r34)], 48, none⟩, ⟨.pointer (some q3), [(Vb a1_0), (Sl (Ki .u32) a1_1)], 48, none⟩, ⟨.pointer (some q2), [(Vb a0_0), (Sl (Ki .u32) a0_1)], 48, none⟩]) rfl) rfl rfl bo_nil (wt_none' rfl) fun _ => ?_
  refine px_nil' ?_
  show TX E K10 _
  refine tx_k' hK10 ?_
  refine cx_retc' ?_
  replace hp := Option.some.inj hp
  subst hp
  refine tx_pick' (L' := [(4, (Vp q4))]) (H' := [⟨.pointer (some q4), [(Vb a0_0), (Sl (Ki .u32) r34)], 48, none⟩]) [0] (sub_cons rfl sub_nil) (by decide) (pick_cons rfl pick_nil) ?_
  exact tx_ret1' Tryz.results35 rfl () (rv_cell_agg' (i := 0) (o := 0) (nn := 2) rfl ⟨rfl, rfl, rfl, rfl⟩ rfl agg48 rfl) (List.nil_sublist _)
 replace hp := (br_f h3).symm.trans hp
 refine cx_skip' ?_
 show TX E K5 _
 refine tx_k' hK5 ?_
 refine cx_seq' fun K11 hK11 => ?_
 refine cx_plan' [] [(8, 1)] [(0, 1), (1, 1), (2, 1), (3, 1), (4, 1), (5, 1), (6, 0), (7, 1), (8, 0)] mixed (by kernel_rfl) ?_
 refine px_rd' rfl (rd_field0' rfl Tryz.underlying48 rfl info4 rfl) rfl rfl (wt_none' rfl) ?_
 refine px_rd' rfl (rd_load' (i := 1) (o := 0) rfl ⟨rfl, rfl, rfl, rfl⟩ rfl flat4) rfl rfl (wt_none' rfl) ?_
 refine px_rd' rfl (rd_field' (off := 1) rfl Tryz.underlying48 rfl info46 rfl) rfl rfl (wt_none' rfl) ?_
 refine px_rd' rfl (rd_load' (i := 1) (o := 1) rfl ⟨rfl, rfl, rfl, rfl⟩ rfl flat46) rfl rfl (wt_none' rfl) ?_
 refine px_rd' rfl (rd_field' (off := 1) rfl Tryz.underlying48 rfl info46 rfl) rfl rfl (wt_none' rfl) ?_
 refine px_rd' rfl (rd_load' (i := 2) (o := 1) rfl ⟨rfl, rfl, rfl, rfl⟩ rfl flat46) rfl rfl (wt_none' rfl) ?_
 obtain ⟨r42, hr42, hp⟩ := bind_some hp
 refine px_ox' rfl (ox_calln' (ent_fn' Tryz.func72 isn72 rfl rfl) (spec_subLimbs_sim _ _ hr42 : Sx.Fn Tryz.prog 72 [(Sl (Ki .u32) a1_1), (Sl (Ki .u32) a0_1)] [] (fun x : Unit => (Sl (Ki .u32) r42)) (fun x => [])) (Hn := fun x : Unit => [⟨.pointer (some q4), [(Vb false), Vn], 48, none⟩, ⟨.pointer (some q3), [(Vb a1_0), (Sl (Ki .u32) a1_1)], 48, none⟩, ⟨.pointer (some q2), [(Vb a0_0), (Sl (Ki .u32) a0_1)], 48, none⟩]) (fun _ => rfl) rfl rfl) rfl bs_nil (wt_none' rfl) fun ⟨⟩ => ?_
 refine px_rd' rfl (rd_build' (pls := [(0, 1), (1, 1)]) (qs := [(0, [(Vb a1_0)]), (1, [(Sl (Ki .u32) r42)])]) (r := [(Vb a1_0), (Sl (Ki .u32) r42)]) ⟨rfl, ⟨_, rfl, (lv_vl rfl rfl)⟩, ⟨rfl, ⟨_, rfl, (lv_sl _ _)⟩, trivial⟩⟩ Tryz.underlying48 has48 places48 info48 rfl rfl rfl) rfl rfl (wt_none' rfl) ?_
 refine px_oxv' rfl (oxv_store (i := 0) (o := 0) rfl rfl (lv_ag _) ⟨rfl, rfl, rfl, rfl⟩ rfl info48 rfl (H' := [⟨.pointer (some q4), [(Vb a1_0), (Sl (Ki .u32) r42)], 48, none⟩, ⟨.pointer (some q3), [(Vb a1_0), (Sl (Ki .u32) a1_1)], 48, none⟩, ⟨.pointer (some q2), [(Vb a0_0), (Sl (Ki .u32) a0_1)], 48, none⟩]) rfl) rfl rfl bo_nil (wt_none' rfl) fun _ => ?_
 refine px_nil' ?_
 show TX E K11 _
 refine tx_k' hK11 ?_
 refine cx_retc' ?_
 replace hp := Option.some.inj hp
 subst hp
 refine tx_pick' (L' := [(4, (Vp q4))]) (H' := [⟨.pointer (some q4), [(Vb a1_0), (Sl (Ki .u32) r42)], 48, none⟩]) [0] (sub_cons rfl sub_nil) (by decide) (pick_cons rfl pick_nil) ?_
 exact tx_ret1' Tryz.results35 rfl () (rv_cell_agg' (i := 0) (o := 0) (nn := 2) rfl ⟨rfl, rfl, rfl, rfl⟩ rfl agg48 rfl) (List.nil_sublist _)

def spec_Dyadic_Add (k : Nat) (a0_0 : Bool) (a0_1 : List Int) (a0_2 : Int) (a1_0 : Bool) (a1_1 : List Int) (a1_2 : Int) : Option (Bool × (List Int) × Int) :=
 (spec_Dyadic_Sign k a0_0 a0_1 a0_2) >>= fun r7 =>
 br (decide (r7 = 0))
  (some (a1_0, a1_1, a1_2))
  ((spec_Dyadic_Sign k a1_0 a1_1 a1_2) >>= fun r12 =>
  br (decide (r12 = 0))
   (some (a0_0, a0_1, a0_2))
   (br (decide (a1_2 < a0_2))
    ((spec_Whole_Up k a0_0 a0_1 (isub .i64 a0_2 a1_2)) >>= fun r28 =>
    (spec_Whole_Add k r28.1 r28.2 a1_0 a1_1) >>= fun r31 =>
    some (r31.1, r31.2, a1_2))
    ((spec_Whole_Up k a1_0 a1_1 (isub .i64 a1_2 a0_2)) >>= fun r42 =>
    (spec_Whole_Add k r42.1 r42.2 a0_0 a0_1) >>= fun r45 =>
    some (r45.1, r45.2, a0_2))))

theorem spec_Dyadic_Add_sim {k : Nat}  (a0_0 : Bool) (a0_1 : List Int) (a0_2 : Int) (a1_0 : Bool) (a1_1 : List Int) (a1_2 : Int) {out : Bool × (List Int) × Int} (hp : spec_Dyadic_Add k a0_0 a0_1 a0_2 a1_0 a1_1 a1_2 = some out) : Sx.Fn Tryz.prog 15 [(Ag [(Vb a0_0), (Sl (Ki .u32) a0_1), (Vi a0_2)]), (Ag [(Vb a1_0), (Sl (Ki .u32) a1_1), (Vi a1_2)])] [] (fun w : Unit => (Ag [(Vb out.1), (Sl (Ki .u32) out.2.1), (Vi out.2.2)])) (fun w => []) := by
 unfold spec_Dyadic_Add at hp
 refine fn_of Tryz.func15 rfl Tryz.ntmps15 rfl fun E hM => ?_
 refine cr fun K1 hK1 => ?_
 refine sx_ox' (ox_box' rfl (lv_ag _) rfl rfl) (wt_none' rfl) fun q2 => ?_
 refine sx_ox' (ox_box' rfl (lv_ag _) rfl rfl) (wt_none' rfl) fun q3 => ?_
 refine sx_ox' (ox_alloc' info50 rfl rfl rfl rfl (l := [(Vb false), Vn, (Vi 0)]) rfl) (wt_none' rfl) fun q4 => ?_
 refine nk hK1 ?_
 refine cx_seq' fun K2 hK2 => ?_
 refine cx_block' ?_
 refine cr fun K3 hK3 => ?_
 refine s0 (rd_load_agg' (i := 2) (o := 0) (nn := 3) rfl ⟨rfl, rfl, rfl, rfl⟩ rfl agg50 (l' := [(Vb a0_0), (Sl (Ki .u32) a0_1), (Vi a0_2)]) rfl) ?_
 obtain ⟨r7, hr7, hp⟩ := bind_some hp
 refine sx_ox' (ox_calln' (ent_fn' Tryz.func29 isn29 rfl rfl) (spec_Dyadic_Sign_sim _ _ _ hr7 : Sx.Fn Tryz.prog 29 [(Ag [(Vb a0_0), (Sl (Ki .u32) a0_1), (Vi a0_2)])] [] (fun x : Unit => (Vi r7)) (fun x => [])) (Hn := fun x : Unit => [⟨.pointer (some q4), [(Vb false), Vn, (Vi 0)], 50, none⟩, ⟨.pointer (some q3), [(Vb a1_0), (Sl (Ki .u32) a1_1), (Vi a1_2)], 50, none⟩, ⟨.pointer (some q2), [(Vb a0_0), (Sl (Ki .u32) a0_1), (Vi a0_2)], 50, none⟩]) (fun _ => rfl) rfl rfl) (wt_none' rfl) fun ⟨⟩ => ?_
 refine s0 (rd_bin' rfl rfl eg_int ru_eql) ?_
 refine s0 (rd_assign' rfl) ?_
 refine nk hK3 ?_
 refine cx_cond' rfl (fun h1 => ?_) (fun h1 => ?_)
 ·replace hp := (br_t h1).symm.trans hp
  refine cr fun K4 hK4 => ?_
  refine s0 (rd_load_agg' (i := 1) (o := 0) (nn := 3) rfl ⟨rfl, rfl, rfl, rfl⟩ rfl agg50 (l' := [(Vb a1_0), (Sl (Ki .u32) a1_1), (Vi a1_2)]) rfl) ?_
  refine sx_ox' (ox_store' (i := 0) (o := 0) rfl rfl (lv_ag _) ⟨rfl, rfl, rfl, rfl⟩ rfl info50 rfl (H' := [⟨.pointer (some q4), [(Vb a1_0), (Sl (Ki .u32) a1_1), (Vi a1_2)], 50, none⟩, ⟨.pointer (some q3), [(Vb a1_0), (Sl (Ki .u32) a1_1), (Vi a1_2)], 50, none⟩, ⟨.pointer (some q2), [(Vb a0_0), (Sl (Ki .u32) a0_1), (Vi a0_2)], 50, none⟩]) rfl) (wt_none' rfl) fun _ => ?_
  refine nk hK4 ?_
  refine cx_retc' ?_
  replace hp := Option.some.inj hp
  subst hp
  refine tx_pick' (L' := [(4, (Vp q4))]) (H' := [⟨.pointer (some q4), [(Vb a1_0), (Sl (Ki .u32) a1_1), (Vi a1_2)], 50, none⟩]) [0] (sub_cons rfl sub_nil) (by decide) (pick_cons rfl pick_nil) ?_
  exact tx_ret1' Tryz.results15 rfl () (rv_cell_agg' (i := 0) (o := 0) (nn := 3) rfl ⟨rfl, rfl, rfl, rfl⟩ rfl agg50 rfl) (List.nil_sublist _)
 replace hp := (br_f h1).symm.trans hp
 refine cr fun K5 hK5 => ?_
 refine s0 (rd_load_agg' (i := 1) (o := 0) (nn := 3) rfl ⟨rfl, rfl, rfl, rfl⟩ rfl agg50 (l' := [(Vb a1_0), (Sl (Ki .u32) a1_1), (Vi a1_2)]) rfl) ?_
 obtain ⟨r12, hr12, hp⟩ := bind_some hp
 refine sx_ox' (ox_calln' (ent_fn' Tryz.func29 isn29 rfl rfl) (spec_Dyadic_Sign_sim _ _ _ hr12 : Sx.Fn Tryz.prog 29 [(Ag [(Vb a1_0), (Sl (Ki .u32) a1_1), (Vi a1_2)])] [] (fun x : Unit => (Vi r12)) (fun x => [])) (Hn := fun x : Unit => [⟨.pointer (some q4), [(Vb false), Vn, (Vi 0)], 50, none⟩, ⟨.pointer (some q3), [(Vb a1_0), (Sl (Ki .u32) a1_1), (Vi a1_2)], 50, none⟩, ⟨.pointer (some q2), [(Vb a0_0), (Sl (Ki .u32) a0_1), (Vi a0_2)], 50, none⟩]) (fun _ => rfl) rfl rfl) (wt_none' rfl) fun ⟨⟩ => ?_
 refine s0 (rd_bin' rfl rfl eg_int ru_eql) ?_
 refine s0 (rd_assign' rfl) ?_
 refine nk hK5 ?_
 refine cx_cond' rfl (fun h2 => ?_) (fun h2 => ?_)
 ·replace hp := (br_t h2).symm.trans hp
  refine cr fun K6 hK6 => ?_
  refine s0 (rd_load_agg' (i := 2) (o := 0) (nn := 3) rfl ⟨rfl, rfl, rfl, rfl⟩ rfl agg50 (l' := [(Vb a0_0), (Sl (Ki .u32) a0_1), (Vi a0_2)]) rfl) ?_
  refine sx_ox' (ox_store' (i := 0) (o := 0) rfl rfl (lv_ag _) ⟨rfl, rfl, rfl, rfl⟩ rfl info50 rfl (H' := [⟨.pointer (some q4), [(Vb a0_0), (Sl (Ki .u32) a0_1), (Vi a0_2)], 50, none⟩, ⟨.pointer (some q3), [(Vb a1_0), (Sl (Ki .u32) a1_1), (Vi a1_2)], 50, none⟩, ⟨.pointer (some q2), [(Vb a0_0), (Sl (Ki .u32) a0_1), (Vi a0_2)], 50, none⟩]) rfl) (wt_none' rfl) fun _ => ?_
  refine nk hK6 ?_
  refine cx_retc' ?_
  replace hp := Option.some.inj hp
  subst hp
  refine tx_pick' (L' := [(4, (Vp q4))]) (H' := [⟨.pointer (some q4), [(Vb a0_0), (Sl (Ki .u32) a0_1), (Vi a0_2)], 50, none⟩]) [0] (sub_cons rfl sub_nil) (by decide) (pick_cons rfl pick_nil) ?_
  exact tx_ret1' Tryz.results15 rfl () (rv_cell_agg' (i := 0) (o := 0) (nn := 3) rfl ⟨rfl, rfl, rfl, rfl⟩ rfl agg50 rfl) (List.nil_sublist _)
 replace hp := (br_f h2).symm.trans hp
 refine cr fun K7 hK7 => ?_
 refine s0 (rd_field' (off := 2) rfl Tryz.underlying50 rfl info3 rfl) ?_
 refine s0 (rd_load' (i := 2) (o := 2) rfl ⟨rfl, rfl, rfl, rfl⟩ rfl flat3) ?_
 refine s0 (rd_field' (off := 2) rfl Tryz.underlying50 rfl info3 rfl) ?_
 refine s0 (rd_load' (i := 1) (o := 2) rfl ⟨rfl, rfl, rfl, rfl⟩ rfl flat3) ?_
 refine s0 (rd_bin' rfl rfl eg_int ru_gtr) ?_
 refine s0 (rd_assign' rfl) ?_
 refine nk hK7 ?_
 refine cx_cond' rfl (fun h3 => ?_) (fun h3 => ?_)
 ·replace hp := (br_t h3).symm.trans hp
  refine cx_seq' fun K8 hK8 => ?_
  refine cx_plan' [] [(14, 1)] [(0, 1), (1, 1), (2, 1), (3, 1), (4, 1), (5, 1), (6, 1), (8, 1), (9, 1), (11, 1), (12, 1), (7, 0), (10, 0), (13, 1), (14, 0)] mixed (by kernel_rfl) ?_
  refine px_rd' rfl (rd_field0' rfl Tryz.underlying50 rfl info48 rfl) rfl rfl (wt_none' rfl) ?_
  refine px_rd' rfl (rd_load_agg' (i := 2) (o := 0) (nn := 2) rfl ⟨rfl, rfl, rfl, rfl⟩ rfl agg48 (l' := [(Vb a0_0), (Sl (Ki .u32) a0_1)]) rfl) rfl rfl (wt_none' rfl) ?_
  refine px_rd' rfl (rd_field' (off := 2) rfl Tryz.underlying50 rfl info3 rfl) rfl rfl (wt_none' rfl) ?_
  refine px_rd' rfl (rd_load' (i := 2) (o := 2) rfl ⟨rfl, rfl, rfl, rfl⟩ rfl flat3) rfl rfl (wt_none' rfl) ?_
  refine px_rd' rfl (rd_field' (off := 2) rfl Tryz.underlying50 rfl info3 rfl) rfl rfl (wt_none' rfl) ?_
  refine px_rd' rfl (rd_load' (i := 1) (o := 2) rfl ⟨rfl, rfl, rfl, rfl⟩ rfl flat3) rfl rfl (wt_none' rfl) ?_
  refine px_rd' rfl (rd_bin' rfl rfl eg_int ru_sub) rfl rfl (wt_none' rfl) ?_
  refine px_rd' rfl (rd_field0' rfl Tryz.underlying50 rfl info48 rfl) rfl rfl (wt_none' rfl) ?_
  refine px_rd' rfl (rd_load_agg' (i := 1) (o := 0) (nn := 2) rfl ⟨rfl, rfl, rfl, rfl⟩ rfl agg48 (l' := [(Vb a1_0), (Sl (Ki .u32) a1_1)]) rfl) rfl rfl (wt_none' rfl) ?_
  refine px_rd' rfl (rd_field' (off := 2) rfl Tryz.underlying50 rfl info3 rfl) rfl rfl (wt_none' rfl) ?_
  refine px_rd' rfl (rd_load' (i := 1) (o := 2) rfl ⟨rfl, rfl, rfl, rfl⟩ rfl flat3) rfl rfl (wt_none' rfl) ?_
  obtain ⟨r28, hr28, hp⟩ := bind_some hp
  refine px_ox' rfl (ox_calln' (ent_fn' Tryz.func34 isn34 rfl rfl) (spec_Whole_Up_sim _ _ _ hr28 : Sx.Fn Tryz.prog 34 [(Ag [(Vb a0_0), (Sl (Ki .u32) a0_1)]), (Vi (isub .i64 a0_2 a1_2))] [] (fun x : Unit => (Ag [(Vb r28.1), (Sl (Ki .u32) r28.2)])) (fun x => [])) (Hn := fun x : Unit => [⟨.pointer (some q4), [(Vb false), Vn, (Vi 0)], 50, none⟩, ⟨.pointer (some q3), [(Vb a1_0), (Sl (Ki .u32) a1_1), (Vi a1_2)], 50, none⟩, ⟨.pointer (some q2), [(Vb a0_0), (Sl (Ki .u32) a0_1), (Vi a0_2)], 50, none⟩]) (fun _ => rfl) rfl rfl) rfl bs_nil (wt_none' rfl) fun ⟨⟩ => ?_
  obtain ⟨r31, hr31, hp⟩ := bind_some hp
  refine px_ox' rfl (ox_calln' (ent_fn' Tryz.func35 isn35 rfl rfl) (spec_Whole_Add_sim _ _ _ _ hr31 : Sx.Fn Tryz.prog 35 [(Ag [(Vb r28.1), (Sl (Ki .u32) r28.2)]), (Ag [(Vb a1_0), (Sl (Ki .u32) a1_1)])] [] (fun x : Unit => (Ag [(Vb r31.1), (Sl (Ki .u32) r31.2)])) (fun x => [])) (Hn := fun x : Unit => [⟨.pointer (some q4), [(Vb false), Vn, (Vi 0)], 50, none⟩, ⟨.pointer (some q3), [(Vb a1_0), (Sl (Ki .u32) a1_1), (Vi a1_2)], 50, none⟩, ⟨.pointer (some q2), [(Vb a0_0), (Sl (Ki .u32) a0_1), (Vi a0_2)], 50, none⟩]) (fun _ => rfl) rfl rfl) rfl bs_nil (wt_none' rfl) fun ⟨⟩ => ?_
  refine px_rd' rfl (rd_build' (pls := [(0, 2), (2, 1)]) (qs := [(0, [(Vb r31.1), (Sl (Ki .u32) r31.2)]), (1, [(Vi a1_2)])]) (r := [(Vb r31.1), (Sl (Ki .u32) r31.2), (Vi a1_2)]) ⟨rfl, ⟨_, rfl, (lv_ag _)⟩, ⟨rfl, ⟨_, rfl, (lv_vl rfl rfl)⟩, trivial⟩⟩ Tryz.underlying50 has50 places50 info50 rfl rfl rfl) rfl rfl (wt_none' rfl) ?_
  refine px_oxv' rfl (oxv_store (i := 0) (o := 0) rfl rfl (lv_ag _) ⟨rfl, rfl, rfl, rfl⟩ rfl info50 rfl (H' := [⟨.pointer (some q4), [(Vb r31.1), (Sl (Ki .u32) r31.2), (Vi a1_2)], 50, none⟩, ⟨.pointer (some q3), [(Vb a1_0), (Sl (Ki .u32) a1_1), (Vi a1_2)], 50, none⟩, ⟨.pointer (some q2), [(Vb a0_0), (Sl (Ki .u32) a0_1), (Vi a0_2)], 50, none⟩]) rfl) rfl rfl bo_nil (wt_none' rfl) fun _ => ?_
  refine px_nil' ?_
  show TX E K8 _
  refine tx_k' hK8 ?_
  refine cx_retc' ?_
  replace hp := Option.some.inj hp
  subst hp
  refine tx_pick' (L' := [(4, (Vp q4))]) (H' := [⟨.pointer (some q4), [(Vb r31.1), (Sl (Ki .u32) r31.2), (Vi a1_2)], 50, none⟩]) [0] (sub_cons rfl sub_nil) (by decide) (pick_cons rfl pick_nil) ?_
  exact tx_ret1' Tryz.results15 rfl () (rv_cell_agg' (i := 0) (o := 0) (nn := 3) rfl ⟨rfl, rfl, rfl, rfl⟩ rfl agg50 rfl) (List.nil_sublist _)
 replace hp := (br_f h3).symm.trans hp
 refine cx_skip' ?_
 show TX E K2 _
 refine tx_k' hK2 ?_
 refine cx_seq' fun K9 hK9 => ?_
 refine cx_plan' [] [(14, 1)] [(0, 1), (1, 1), (2, 1), (3, 1), (4, 1), (5, 1), (6, 1), (8, 1), (9, 1), (11, 1), (12, 1), (7, 0), (10, 0), (13, 1), (14, 0)] mixed (by kernel_rfl) ?_
 refine px_rd' rfl (rd_field0' rfl Tryz.underlying50 rfl info48 rfl) rfl rfl (wt_none' rfl) ?_
 refine px_rd' rfl (rd_load_agg' (i := 1) (o := 0) (nn := 2) rfl ⟨rfl, rfl, rfl, rfl⟩ rfl agg48 (l' := [(Vb a1_0), (Sl (Ki .u32) a1_1)]) rfl) rfl rfl (wt_none' rfl) ?_
 refine px_rd' rfl (rd_field' (off := 2) rfl Tryz.underlying50 rfl info3 rfl) rfl rfl (wt_none' rfl) ?_
 refine px_rd' rfl (rd_load' (i := 1) (o := 2) rfl ⟨rfl, rfl, rfl, rfl⟩ rfl flat3) rfl rfl (wt_none' rfl) ?_
 refine px_rd' rfl (rd_field' (off := 2) rfl Tryz.underlying50 rfl info3 rfl) rfl rfl (wt_none' rfl) ?_
 refine px_rd' rfl (rd_load' (i := 2) (o := 2) rfl ⟨rfl, rfl, rfl, rfl⟩ rfl flat3) rfl rfl (wt_none' rfl) ?_
 refine px_rd' rfl (rd_bin' rfl rfl eg_int ru_sub) rfl rfl (wt_none' rfl) ?_
 refine px_rd' rfl (rd_field0' rfl Tryz.underlying50 rfl info48 rfl) rfl rfl (wt_none' rfl) ?_
 refine px_rd' rfl (rd_load_agg' (i := 2) (o := 0) (nn := 2) rfl ⟨rfl, rfl, rfl, rfl⟩ rfl agg48 (l' := [(Vb a0_0), (Sl (Ki .u32) a0_1)]) rfl) rfl rfl (wt_none' rfl) ?_
 refine px_rd' rfl (rd_field' (off := 2) rfl Tryz.underlying50 rfl info3 rfl) rfl rfl (wt_none' rfl) ?_
 refine px_rd' rfl (rd_load' (i := 2) (o := 2) rfl ⟨rfl, rfl, rfl, rfl⟩ rfl flat3) rfl rfl (wt_none' rfl) ?_
 obtain ⟨r42, hr42, hp⟩ := bind_some hp
 refine px_ox' rfl (ox_calln' (ent_fn' Tryz.func34 isn34 rfl rfl) (spec_Whole_Up_sim _ _ _ hr42 : Sx.Fn Tryz.prog 34 [(Ag [(Vb a1_0), (Sl (Ki .u32) a1_1)]), (Vi (isub .i64 a1_2 a0_2))] [] (fun x : Unit => (Ag [(Vb r42.1), (Sl (Ki .u32) r42.2)])) (fun x => [])) (Hn := fun x : Unit => [⟨.pointer (some q4), [(Vb false), Vn, (Vi 0)], 50, none⟩, ⟨.pointer (some q3), [(Vb a1_0), (Sl (Ki .u32) a1_1), (Vi a1_2)], 50, none⟩, ⟨.pointer (some q2), [(Vb a0_0), (Sl (Ki .u32) a0_1), (Vi a0_2)], 50, none⟩]) (fun _ => rfl) rfl rfl) rfl bs_nil (wt_none' rfl) fun ⟨⟩ => ?_
 obtain ⟨r45, hr45, hp⟩ := bind_some hp
 refine px_ox' rfl (ox_calln' (ent_fn' Tryz.func35 isn35 rfl rfl) (spec_Whole_Add_sim _ _ _ _ hr45 : Sx.Fn Tryz.prog 35 [(Ag [(Vb r42.1), (Sl (Ki .u32) r42.2)]), (Ag [(Vb a0_0), (Sl (Ki .u32) a0_1)])] [] (fun x : Unit => (Ag [(Vb r45.1), (Sl (Ki .u32) r45.2)])) (fun x => [])) (Hn := fun x : Unit => [⟨.pointer (some q4), [(Vb false), Vn, (Vi 0)], 50, none⟩, ⟨.pointer (some q3), [(Vb a1_0), (Sl (Ki .u32) a1_1), (Vi a1_2)], 50, none⟩, ⟨.pointer (some q2), [(Vb a0_0), (Sl (Ki .u32) a0_1), (Vi a0_2)], 50, none⟩]) (fun _ => rfl) rfl rfl) rfl bs_nil (wt_none' rfl) fun ⟨⟩ => ?_
 refine px_rd' rfl (rd_build' (pls := [(0, 2), (2, 1)]) (qs := [(0, [(Vb r45.1), (Sl (Ki .u32) r45.2)]), (1, [(Vi a0_2)])]) (r := [(Vb r45.1), (Sl (Ki .u32) r45.2), (Vi a0_2)]) ⟨rfl, ⟨_, rfl, (lv_ag _)⟩, ⟨rfl, ⟨_, rfl, (lv_vl rfl rfl)⟩, trivial⟩⟩ Tryz.underlying50 has50 places50 info50 rfl rfl rfl) rfl rfl (wt_none' rfl) ?_
 refine px_oxv' rfl (oxv_store (i := 0) (o := 0) rfl rfl (lv_ag _) ⟨rfl, rfl, rfl, rfl⟩ rfl info50 rfl (H' := [⟨.pointer (some q4), [(Vb r45.1), (Sl (Ki .u32) r45.2), (Vi a0_2)], 50, none⟩, ⟨.pointer (some q3), [(Vb a1_0), (Sl (Ki .u32) a1_1), (Vi a1_2)], 50, none⟩, ⟨.pointer (some q2), [(Vb a0_0), (Sl (Ki .u32) a0_1), (Vi a0_2)], 50, none⟩]) rfl) rfl rfl bo_nil (wt_none' rfl) fun _ => ?_
 refine px_nil' ?_
 show TX E K9 _
 refine tx_k' hK9 ?_
 refine cx_retc' ?_
 replace hp := Option.some.inj hp
 subst hp
 refine tx_pick' (L' := [(4, (Vp q4))]) (H' := [⟨.pointer (some q4), [(Vb r45.1), (Sl (Ki .u32) r45.2), (Vi a0_2)], 50, none⟩]) [0] (sub_cons rfl sub_nil) (by decide) (pick_cons rfl pick_nil) ?_
 exact tx_ret1' Tryz.results15 rfl () (rv_cell_agg' (i := 0) (o := 0) (nn := 3) rfl ⟨rfl, rfl, rfl, rfl⟩ rfl agg50 rfl) (List.nil_sublist _)

def spec_Dyadic_Sub (k : Nat) (a0_0 : Bool) (a0_1 : List Int) (a0_2 : Int) (a1_0 : Bool) (a1_1 : List Int) (a1_2 : Int) : Option (Bool × (List Int) × Int) :=
 (spec_Dyadic_Minus k a1_0 a1_1 a1_2) >>= fun r7 =>
 (spec_Dyadic_Add k a0_0 a0_1 a0_2 r7.1 r7.2.1 r7.2.2) >>= fun r8 =>
 some (r8.1, r8.2.1, r8.2.2)

theorem spec_Dyadic_Sub_sim {k : Nat}  (a0_0 : Bool) (a0_1 : List Int) (a0_2 : Int) (a1_0 : Bool) (a1_1 : List Int) (a1_2 : Int) {out : Bool × (List Int) × Int} (hp : spec_Dyadic_Sub k a0_0 a0_1 a0_2 a1_0 a1_1 a1_2 = some out) : Sx.Fn Tryz.prog 64 [(Ag [(Vb a0_0), (Sl (Ki .u32) a0_1), (Vi a0_2)]), (Ag [(Vb a1_0), (Sl (Ki .u32) a1_1), (Vi a1_2)])] [] (fun w : Unit => (Ag [(Vb out.1), (Sl (Ki .u32) out.2.1), (Vi out.2.2)])) (fun w => []) := by
 unfold spec_Dyadic_Sub at hp
 refine fn_of Tryz.func64 rfl Tryz.ntmps64 rfl fun E hM => ?_
 refine cr fun K1 hK1 => ?_
 refine sx_ox' (ox_box' rfl (lv_ag _) rfl rfl) (wt_none' rfl) fun q2 => ?_
 refine sx_ox' (ox_box' rfl (lv_ag _) rfl rfl) (wt_none' rfl) fun q3 => ?_
 refine sx_ox' (ox_alloc' info50 rfl rfl rfl rfl (l := [(Vb false), Vn, (Vi 0)]) rfl) (wt_none' rfl) fun q4 => ?_
 refine nk hK1 ?_
 refine cx_seq' fun K2 hK2 => ?_
 refine cx_plan' [] [(4, 1)] [(0, 1), (1, 1), (2, 0), (3, 0), (4, 0)] mixed (by kernel_rfl) ?_
 refine px_rd' rfl (rd_load_agg' (i := 2) (o := 0) (nn := 3) rfl ⟨rfl, rfl, rfl, rfl⟩ rfl agg50 (l' := [(Vb a0_0), (Sl (Ki .u32) a0_1), (Vi a0_2)]) rfl) rfl rfl (wt_none' rfl) ?_
 refine px_rd' rfl (rd_load_agg' (i := 1) (o := 0) (nn := 3) rfl ⟨rfl, rfl, rfl, rfl⟩ rfl agg50 (l' := [(Vb a1_0), (Sl (Ki .u32) a1_1), (Vi a1_2)]) rfl) rfl rfl (wt_none' rfl) ?_
 obtain ⟨r7, hr7, hp⟩ := bind_some hp
 refine px_ox' rfl (ox_calln' (ent_fn' Tryz.func81 isn81 rfl rfl) (spec_Dyadic_Minus_sim _ _ _ hr7 : Sx.Fn Tryz.prog 81 [(Ag [(Vb a1_0), (Sl (Ki .u32) a1_1), (Vi a1_2)])] [] (fun x : Unit => (Ag [(Vb r7.1), (Sl (Ki .u32) r7.2.1), (Vi r7.2.2)])) (fun x => [])) (Hn := fun x : Unit => [⟨.pointer (some q4), [(Vb false), Vn, (Vi 0)], 50, none⟩, ⟨.pointer (some q3), [(Vb a1_0), (Sl (Ki .u32) a1_1), (Vi a1_2)], 50, none⟩, ⟨.pointer (some q2), [(Vb a0_0), (Sl (Ki .u32) a0_1), (Vi a0_2)], 50, none⟩]) (fun _ => rfl) rfl rfl) rfl bs_nil (wt_none' rfl) fun ⟨⟩ => ?_
 obtain ⟨r8, hr8, hp⟩ := bind_some hp
 refine px_ox' rfl (ox_calln' (ent_fn' Tryz.func15 isn15 rfl rfl) (spec_Dyadic_Add_sim _ _ _ _ _ _ hr8 : Sx.Fn Tryz.prog 15 [(Ag [(Vb a0_0), (Sl (Ki .u32) a0_1), (Vi a0_2)]), (Ag [(Vb r7.1), (Sl (Ki .u32) r7.2.1), (Vi r7.2.2)])] [] (fun x : Unit => (Ag [(Vb r8.1), (Sl (Ki .u32) r8.2.1), (Vi r8.2.2)])) (fun x => [])) (Hn := fun x : Unit => [⟨.pointer (some q4), [(Vb false), Vn, (Vi 0)], 50, none⟩, ⟨.pointer (some q3), [(Vb a1_0), (Sl (Ki .u32) a1_1), (Vi a1_2)], 50, none⟩, ⟨.pointer (some q2), [(Vb a0_0), (Sl (Ki .u32) a0_1), (Vi a0_2)], 50, none⟩]) (fun _ => rfl) rfl rfl) rfl bs_nil (wt_none' rfl) fun ⟨⟩ => ?_
 refine px_oxv' rfl (oxv_store (i := 0) (o := 0) rfl rfl (lv_ag _) ⟨rfl, rfl, rfl, rfl⟩ rfl info50 rfl (H' := [⟨.pointer (some q4), [(Vb r8.1), (Sl (Ki .u32) r8.2.1), (Vi r8.2.2)], 50, none⟩, ⟨.pointer (some q3), [(Vb a1_0), (Sl (Ki .u32) a1_1), (Vi a1_2)], 50, none⟩, ⟨.pointer (some q2), [(Vb a0_0), (Sl (Ki .u32) a0_1), (Vi a0_2)], 50, none⟩]) rfl) rfl rfl bo_nil (wt_none' rfl) fun _ => ?_
 refine px_nil' ?_
 show TX E K2 _
 refine tx_k' hK2 ?_
 refine cx_retc' ?_
 replace hp := Option.some.inj hp
 subst hp
 refine tx_pick' (L' := [(4, (Vp q4))]) (H' := [⟨.pointer (some q4), [(Vb r8.1), (Sl (Ki .u32) r8.2.1), (Vi r8.2.2)], 50, none⟩]) [0] (sub_cons rfl sub_nil) (by decide) (pick_cons rfl pick_nil) ?_
 exact tx_ret1' Tryz.results64 rfl () (rv_cell_agg' (i := 0) (o := 0) (nn := 3) rfl ⟨rfl, rfl, rfl, rfl⟩ rfl agg50 rfl) (List.nil_sublist _)

def spec_Whole_Mul_l2s (a1_1 : List Int) (x12 : Int) (r26 : Int) (k : Nat) (rec2 : ((List Int) × Int × Int) → Option ((List Int) × Int)) (x6 : List Int) (x7 : Int) (x8 : Int) : Option ((List Int) × Int) :=
 br (decide (x8 < (a1_1.length : Int)))
  ((idx a1_1 x8) >>= fun r34 =>
  (idx x6 (iadd .i64 x12 x8)) >>= fun r45 =>
  (idx x6 (iadd .i64 x12 x8)) >>= fun r57 =>
  (ishr .u64 (iadd .u64 (iadd .u64 (imul .u64 (icv .u64 r26) (icv .u64 r34)) (icv .u64 r45)) x7) 32) >>= fun r59 =>
  rec2 ((x6.set (iadd .i64 x12 x8).toNat (icv .u32 (iadd .u64 (iadd .u64 (imul .u64 (icv .u64 r26) (icv .u64 r34)) (icv .u64 r45)) x7))), r59, (iadd .i64 x8 1)))
  (some (x6, x7))
def spec_Whole_Mul_l2 (a1_1 : List Int) (x12 : Int) (r26 : Int) : Nat → ((List Int) × Int × Int) → Option ((List Int) × Int)
 | 0, _ => none
 | k + 1, v => spec_Whole_Mul_l2s a1_1 x12 r26 k (spec_Whole_Mul_l2 a1_1 x12 r26 k) v.1 v.2.1 v.2.2
def spec_Whole_Mul_l3s (a0_1 : List Int) (a1_1 : List Int) (k : Nat) (rec3 : ((List Int) × Int) → Option ((List Int))) (x11 : List Int) (x12 : Int) : Option ((List Int)) :=
 br (decide (x12 < (a0_1.length : Int)))
  ((idx a0_1 x12) >>= fun r26 =>
  (spec_Whole_Mul_l2 a1_1 x12 r26 k (x11, 0, 0)) >>= fun v5 =>
  (idx v5.1 (iadd .i64 x12 (a1_1.length : Int))) >>= fun r69 =>
  rec3 ((v5.1.set (iadd .i64 x12 (a1_1.length : Int)).toNat (icv .u32 v5.2)), (iadd .i64 x12 1)))
  (some x11)
def spec_Whole_Mul_l3 (a0_1 : List Int) (a1_1 : List Int) : Nat → ((List Int) × Int) → Option ((List Int))
 | 0, _ => none
 | k + 1, v => spec_Whole_Mul_l3s a0_1 a1_1 k (spec_Whole_Mul_l3 a0_1 a1_1 k) v.1 v.2
def spec_Whole_Mul_j1 (k : Nat) (r72 : (List Int)) (x14 : Bool) : Option (Bool × (List Int)) :=
 some (x14, r72)
def spec_Whole_Mul (k : Nat) (a0_0 : Bool) (a0_1 : List Int) (a1_0 : Bool) (a1_1 : List Int) : Option (Bool × (List Int)) :=
 (mk 4 0 (iadd .i64 (a0_1.length : Int) (a1_1.length : Int)) (iadd .i64 (a0_1.length : Int) (a1_1.length : Int))) >>= fun r19 =>
 (spec_Whole_Mul_l3 a0_1 a1_1 k (r19, 0)) >>= fun v6 =>
 (spec_trim k v6) >>= fun r72 =>
 br (decide (0 < (r72.length : Int)))
  (spec_Whole_Mul_j1 k r72 (!(a0_0 == a1_0)))
  (spec_Whole_Mul_j1 k r72 false)

theorem spec_Whole_Mul_sim {k : Nat}  (a0_0 : Bool) (a0_1 : List Int) (a1_0 : Bool) (a1_1 : List Int) {out : Bool × (List Int)} (hp : spec_Whole_Mul k a0_0 a0_1 a1_0 a1_1 = some out) : Sx.Fn Tryz.prog 82 [(Ag [(Vb a0_0), (Sl (Ki .u32) a0_1)]), (Ag [(Vb a1_0), (Sl (Ki .u32) a1_1)])] [] (fun w : Unit => (Ag [(Vb out.1), (Sl (Ki .u32) out.2)])) (fun w => []) := by
 unfold spec_Whole_Mul at hp
 refine fn_of Tryz.func82 rfl Tryz.ntmps82 rfl fun E hM => ?_
 refine cr fun K1 hK1 => ?_
 refine sx_ox' (ox_box' rfl (lv_ag _) rfl rfl) (wt_none' rfl) fun q2 => ?_
 refine sx_ox' (ox_box' rfl (lv_ag _) rfl rfl) (wt_none' rfl) fun q3 => ?_
 refine sx_ox' (ox_alloc' info48 rfl rfl rfl rfl (l := [(Vb false), Vn]) rfl) (wt_none' rfl) fun q4 => ?_
 refine nk hK1 ?_
 refine cr fun K2 hK2 => ?_
 refine s0 (rd_field' (off := 1) rfl Tryz.underlying48 rfl info46 rfl) ?_
 refine s0 (rd_load' (i := 2) (o := 1) rfl ⟨rfl, rfl, rfl, rfl⟩ rfl flat46) ?_
 refine s0 (rd_len' rfl Tryz.underlying46) ?_
 refine s0 (rd_field' (off := 1) rfl Tryz.underlying48 rfl info46 rfl) ?_
 refine s0 (rd_load' (i := 1) (o := 1) rfl ⟨rfl, rfl, rfl, rfl⟩ rfl flat46) ?_
 refine s0 (rd_len' rfl Tryz.underlying46) ?_
 refine s0 (rd_bin' rfl rfl eg_int ru_add) ?_
 obtain ⟨r19, hr19, hp⟩ := bind_some hp
 refine sx_ox' (ox_make' (K := (Ki .u32)) rfl rfl hr19 rfl Tryz.underlying46 info126 rfl rfl rfl rfl rfl) (wt_none' rfl) fun g19 => ?_
 refine s0 (rd_assign' rfl) ?_
 refine nk hK2 ?_
 refine cx_seq' fun K3 hK3 => ?_
 refine cr fun K4 hK4 => ?_
 refine s0 (rd_field' (off := 1) rfl Tryz.underlying48 rfl info46 rfl) ?_
 refine s0 (rd_load' (i := 3) (o := 1) rfl ⟨rfl, rfl, rfl, rfl⟩ rfl flat46) ?_
 refine s0 (rd_len' rfl Tryz.underlying46) ?_
 refine s0 (rd_move' rfl) ?_
 refine nk hK4 ?_
 refine cx_block' ?_
 obtain ⟨v6, hy3, hp⟩ := bind_some hp
 refine cx_loopg' (F := spec_Whole_Mul_l3 a0_1 a1_1) (G := fun k R v => spec_Whole_Mul_l3s a0_1 a1_1 k R v.1 v.2) (x := (r19, 0)) (gh := ()) (fun (v3 : (List Int) × Int) (w3 : Unit) => (⟨85, [], [(2, (Vp q2)), (3, (Vp q3)), (4, (Vp q4)), (5, (Vl (Vs g19))), (21, (Sl (Ki .u32) a0_1)), (22, (Vi (a0_1.length : Int))), (23, (Vi v3.2))], [⟨.pointer (some q2), [(Vb a0_0), (Sl (Ki .u32) a0_1)], 48, none⟩, ⟨.pointer (some q3), [(Vb a1_0), (Sl (Ki .u32) a1_1)], 48, none⟩, ⟨.pointer (some q4), [(Vb false), Vn], 48, none⟩, (Rw (Ki .u32) 126 (Vs g19) v3.1)]⟩ : St)) (fun (v6 : (List Int)) => Zg E (Exit.exit 0) (fun (w6 : Unit) => (⟨85, [], [(2, (Vp q2)), (3, (Vp q3)), (4, (Vp q4)), (5, (Vl (Vs g19)))], [⟨.pointer (some q2), [(Vb a0_0), (Sl (Ki .u32) a0_1)], 48, none⟩, ⟨.pointer (some q3), [(Vb a1_0), (Sl (Ki .u32) a1_1)], 48, none⟩, ⟨.pointer (some q4), [(Vb false), Vn], 48, none⟩, (Rw (Ki .u32) 126 (Vs g19) v6)]⟩ : St))) (fun _ => rfl) (fun _ _ => rfl) ?_ hy3 (tx_to' rfl [3, 2, 1, 0] (sub_cons rfl (sub_cons rfl (sub_cons rfl (sub_cons rfl (sub_cons rfl (sub_cons rfl (sub_cons rfl sub_nil))))))) (by decide) (pick_cons rfl (pick_cons rfl (pick_cons rfl (pick_cons rfl pick_nil))))) ?_
 ·clear hp hy3
  clear v6
  intro k rec3 KY3 ih3
  rintro ⟨x11, x12⟩ ⟨⟩ y3 hp
  replace hp : spec_Whole_Mul_l3s a0_1 a1_1 k rec3 x11 x12 = some y3 := hp
  unfold spec_Whole_Mul_l3s at hp
  refine cr fun K24 hK24 => ?_
  refine s0 (rd_bin' rfl rfl eg_int ru_lss) ?_
  refine nk hK24 ?_
  refine cx_seq' fun K25 hK25 => ?_
  refine cx_cond' rfl (fun h6 => ?_) (fun h6 => ?_)
  ·replace hp := (br_t h6).symm.trans hp
   refine cx_skip' ?_
   show TX E K25 _
   refine tx_k' hK25 ?_
   refine cx_seq' fun K26 hK26 => ?_
   refine cx_block' ?_
   refine cr fun K27 hK27 => ?_
   refine s0 (rd_move' rfl) ?_
   obtain ⟨r26, hr26, hp⟩ := bind_some hp
   refine s0 (rd_at' (K := (Ki .u32)) rfl rfl hr26 Tryz.underlying46 info126) ?_
   refine s0 (rd_load_pt' rfl rfl flat126) ?_
   refine s0 (rd_assign' rfl) ?_
   refine s0 (rd_assign' rfl) ?_
   refine nk hK27 ?_
   refine cr fun K28 hK28 => ?_
   refine s0 (rd_assign' rfl) ?_
   refine nk hK28 ?_
   refine cx_seq' fun K29 hK29 => ?_
   refine cr fun K30 hK30 => ?_
   refine s0 (rd_field' (off := 1) rfl Tryz.underlying48 rfl info46 rfl) ?_
   refine s0 (rd_load' (i := 1) (o := 1) rfl ⟨rfl, rfl, rfl, rfl⟩ rfl flat46) ?_
   refine s0 (rd_len' rfl Tryz.underlying46) ?_
   refine s0 (rd_move' rfl) ?_
   refine nk hK30 ?_
   refine cx_block' ?_
   obtain ⟨v5, hy2, hp⟩ := bind_some hp
   refine cx_loopg' (F := spec_Whole_Mul_l2 a1_1 x12 r26) (G := fun k R v => spec_Whole_Mul_l2s a1_1 x12 r26 k R v.1 v.2.1 v.2.2) (x := (x11, 0, 0)) (gh := ()) (fun (v4 : (List Int) × Int × Int) (w4 : Unit) => (⟨85, [], [(2, (Vp q2)), (3, (Vp q3)), (4, (Vp q4)), (5, (Vl (Vs g19))), (6, (Vi x12)), (7, (Vl (.int .u32 r26))), (8, (Vl (.int .u64 v4.2.1))), (21, (Sl (Ki .u32) a0_1)), (22, (Vi (a0_1.length : Int))), (23, (Vi x12)), (29, (Sl (Ki .u32) a1_1)), (30, (Vi (a1_1.length : Int))), (31, (Vi v4.2.2))], [⟨.pointer (some q2), [(Vb a0_0), (Sl (Ki .u32) a0_1)], 48, none⟩, ⟨.pointer (some q3), [(Vb a1_0), (Sl (Ki .u32) a1_1)], 48, none⟩, ⟨.pointer (some q4), [(Vb false), Vn], 48, none⟩, (Rw (Ki .u32) 126 (Vs g19) v4.1)]⟩ : St)) (fun (v5 : (List Int) × Int) => Zg E (Exit.exit 2) (fun (w5 : Unit) => (⟨85, [], [(2, (Vp q2)), (3, (Vp q3)), (4, (Vp q4)), (5, (Vl (Vs g19))), (6, (Vi x12)), (8, (Vl (.int .u64 v5.2))), (21, (Sl (Ki .u32) a0_1)), (22, (Vi (a0_1.length : Int))), (23, (Vi x12))], [⟨.pointer (some q2), [(Vb a0_0), (Sl (Ki .u32) a0_1)], 48, none⟩, ⟨.pointer (some q3), [(Vb a1_0), (Sl (Ki .u32) a1_1)], 48, none⟩, ⟨.pointer (some q4), [(Vb false), Vn], 48, none⟩, (Rw (Ki .u32) 126 (Vs g19) v5.1)]⟩ : St))) (fun _ => rfl) (fun _ _ => rfl) ?_ hy2 (tx_to' rfl [0, 1, 2, 3] (sub_cons rfl (sub_cons rfl (sub_cons rfl (sub_cons rfl (sub_cons rfl (sub_cons rfl (sub_cons rfl (sub_cons rfl (sub_cons rfl (sub_cons rfl (sub_cons rfl (sub_cons rfl (sub_cons rfl sub_nil))))))))))))) (by decide) (pick_cons rfl (pick_cons rfl (pick_cons rfl (pick_cons rfl pick_nil))))) ?_
   ·clear hp hy2
    clear v5
    intro k rec2 KY2 ih2
    rintro ⟨x6, x7, x8⟩ ⟨⟩ y2 hp
    replace hp : spec_Whole_Mul_l2s a1_1 x12 r26 k rec2 x6 x7 x8 = some y2 := hp
    unfold spec_Whole_Mul_l2s at hp
    refine cr fun K37 hK37 => ?_
    refine s0 (rd_bin' rfl rfl eg_int ru_lss) ?_
    refine nk hK37 ?_
    refine cx_seq' fun K38 hK38 => ?_
    refine cx_cond' rfl (fun h9 => ?_) (fun h9 => ?_)
    ·replace hp := (br_t h9).symm.trans hp
     refine cx_skip' ?_
     show TX E K38 _
     refine tx_k' hK38 ?_
     refine cx_seq' fun K39 hK39 => ?_
     refine cx_block' ?_
     refine cr fun K40 hK40 => ?_
     refine s0 (rd_move' rfl) ?_
     obtain ⟨r34, hr34, hp⟩ := bind_some hp
     refine s0 (rd_at' (K := (Ki .u32)) rfl rfl hr34 Tryz.underlying46 info126) ?_
     refine s0 (rd_load_pt' rfl rfl flat126) ?_
     refine s0 (rd_assign' rfl) ?_
     refine s0 (rd_assign' rfl) ?_
     refine nk hK40 ?_
     refine cr fun K41 hK41 => ?_
     refine s0 (rd_move' rfl) ?_
     refine s0 (rd_conv' rfl (ru_i2i (by rw [Tryz.underlying126]; rfl) Tryz.underlying77)) ?_
     refine s0 (rd_move' rfl) ?_
     refine s0 (rd_conv' rfl (ru_i2i (by rw [Tryz.underlying126]; rfl) Tryz.underlying77)) ?_
     refine s0 (rd_bin' rfl rfl eg_int ru_mul) ?_
     refine s0 (rd_move' rfl) ?_
     refine s0 (rd_move' rfl) ?_
     refine s0 (rd_move' rfl) ?_
     refine s0 (rd_bin' rfl rfl eg_int ru_add) ?_
     obtain ⟨r45, hr45, hp⟩ := bind_some hp
     refine s0 (rd_atr' (m := 3) rfl rfl rfl rfl hr45 Tryz.underlying46 info126) ?_
     refine s0 (rd_loadr' rfl (m := 3) (i := (iadd .i64 x12 x8)) (j := 0) rfl rfl hr45 rfl rfl flat126) ?_
     refine s0 (rd_conv' rfl (ru_i2i (by rw [Tryz.underlying126]; rfl) Tryz.underlying77)) ?_
     refine s0 (rd_bin' rfl rfl eg_int ru_add) ?_
     refine s0 (rd_move' rfl) ?_
     refine s0 (rd_bin' rfl rfl eg_int ru_add) ?_
     refine s0 (rd_assign' rfl) ?_
     refine nk hK41 ?_
     refine cr fun K42 hK42 => ?_
     refine s0 (rd_move' rfl) ?_
     refine s0 (rd_move' rfl) ?_
     refine s0 (rd_move' rfl) ?_
     refine s0 (rd_bin' rfl rfl eg_int ru_add) ?_
     refine s0 (rd_move' rfl) ?_
     refine s0 (rd_conv' rfl (ru_i2i (by rw [Tryz.underlying77]; rfl) Tryz.underlying126)) ?_
     obtain ⟨r57, hr57, hp⟩ := bind_some hp
     refine s0 (rd_atr' (m := 3) rfl rfl rfl rfl hr57 Tryz.underlying46 info126) ?_
     refine sx_ox' (ox_storer' (m := 3) (i := (iadd .i64 x12 x8)) (j := 0) (x' := (icv .u32 (iadd .u64 (iadd .u64 (imul .u64 (icv .u64 r26) (icv .u64 r34)) (icv .u64 r45)) x7))) rfl rfl (lv_vl rfl rfl) rfl rfl hr57 rfl rfl rfl info126 rfl (H' := [⟨.pointer (some q2), [(Vb a0_0), (Sl (Ki .u32) a0_1)], 48, none⟩, ⟨.pointer (some q3), [(Vb a1_0), (Sl (Ki .u32) a1_1)], 48, none⟩, ⟨.pointer (some q4), [(Vb false), Vn], 48, none⟩, (Rw (Ki .u32) 126 (Vs g19) (x6.set (iadd .i64 x12 x8).toNat (icv .u32 (iadd .u64 (iadd .u64 (imul .u64 (icv .u64 r26) (icv .u64 r34)) (icv .u64 r45)) x7))))]) rfl) (wt_none' rfl) fun _ => ?_
     refine nk hK42 ?_
     refine cx_region' ?_
     refine s0 (rd_move' rfl) ?_
     obtain ⟨r59, hr59, hp⟩ := bind_some hp
     refine s0 (rd_bin' rfl rfl eg_int (ru_shr hr59)) ?_
     refine s0 (rd_assign' rfl) ?_
     refine nk hK39 ?_
     refine cx_region' ?_
     refine s0 (rd_bin' rfl rfl eg_int ru_add) ?_
     refine s0 (rd_move' rfl) ?_
     refine sx_nil' ?_
     show TX E (KY2 _) _
     exact tx_pick' [0, 1, 2, 3] (sub_cons rfl (sub_cons rfl (sub_cons rfl (sub_cons rfl (sub_cons rfl (sub_cons rfl (sub_cons rfl (sub_cons rfl (sub_cons rfl (sub_cons rfl (sub_cons rfl (sub_cons rfl (sub_cons rfl sub_nil))))))))))))) (by decide) (pick_cons rfl (pick_cons rfl (pick_cons rfl (pick_cons rfl pick_nil)))) (ih2 ((x6.set (iadd .i64 x12 x8).toNat (icv .u32 (iadd .u64 (iadd .u64 (imul .u64 (icv .u64 r26) (icv .u64 r34)) (icv .u64 r45)) x7))), r59, (iadd .i64 x8 1)) () _ hp)
    replace hp := (br_f h9).symm.trans hp
    refine cx_exit' ?_
    replace hp := Option.some.inj hp
    subst hp
    show TX E (Zg E (Exit.exit 2) _ (Exit.exit 2)) _
    exact tx_zend' () rfl [0, 1, 2, 3] (sub_cons rfl (sub_cons rfl (sub_cons rfl (sub_cons rfl (sub_cons rfl (sub_cons rfl (sub_cons rfl (sub_cons rfl (sub_cons rfl sub_nil))))))))) (by decide) (pick_cons rfl (pick_cons rfl (pick_cons rfl (pick_cons rfl pick_nil))))
   refine zg_out fun w5 => ?_
   show TX E K29 _
   refine tx_k' hK29 ?_
   refine cx_region' ?_
   refine s0 (rd_move' rfl) ?_
   refine s0 (rd_move' rfl) ?_
   refine s0 (rd_field' (off := 1) rfl Tryz.underlying48 rfl info46 rfl) ?_
   refine s0 (rd_load' (i := 1) (o := 1) rfl ⟨rfl, rfl, rfl, rfl⟩ rfl flat46) ?_
   refine s0 (rd_len' rfl Tryz.underlying46) ?_
   refine s0 (rd_bin' rfl rfl eg_int ru_add) ?_
   refine s0 (rd_move' rfl) ?_
   refine s0 (rd_conv' rfl (ru_i2i (by rw [Tryz.underlying77]; rfl) Tryz.underlying126)) ?_
   obtain ⟨r69, hr69, hp⟩ := bind_some hp
   refine s0 (rd_atr' (m := 3) rfl rfl rfl rfl hr69 Tryz.underlying46 info126) ?_
   refine sx_ox' (ox_storer' (m := 3) (i := (iadd .i64 x12 (a1_1.length : Int))) (j := 0) (x' := (icv .u32 v5.2)) rfl rfl (lv_vl rfl rfl) rfl rfl hr69 rfl rfl rfl info126 rfl (H' := [⟨.pointer (some q2), [(Vb a0_0), (Sl (Ki .u32) a0_1)], 48, none⟩, ⟨.pointer (some q3), [(Vb a1_0), (Sl (Ki .u32) a1_1)], 48, none⟩, ⟨.pointer (some q4), [(Vb false), Vn], 48, none⟩, (Rw (Ki .u32) 126 (Vs g19) (v5.1.set (iadd .i64 x12 (a1_1.length : Int)).toNat (icv .u32 v5.2)))]) rfl) (wt_none' rfl) fun _ => ?_
   refine nk hK26 ?_
   refine cx_region' ?_
   refine s0 (rd_bin' rfl rfl eg_int ru_add) ?_
   refine s0 (rd_move' rfl) ?_
   refine sx_nil' ?_
   show TX E (KY3 _) _
   exact tx_pick' [0, 1, 2, 3] (sub_cons rfl (sub_cons rfl (sub_cons rfl (sub_cons rfl (sub_cons rfl (sub_cons rfl (sub_cons rfl sub_nil))))))) (by decide) (pick_cons rfl (pick_cons rfl (pick_cons rfl (pick_cons rfl pick_nil)))) (ih3 ((v5.1.set (iadd .i64 x12 (a1_1.length : Int)).toNat (icv .u32 v5.2)), (iadd .i64 x12 1)) () _ hp)
  replace hp := (br_f h6).symm.trans hp
  refine cx_exit' ?_
  replace hp := Option.some.inj hp
  subst hp
  show TX E (Zg E (Exit.exit 0) _ (Exit.exit 0)) _
  exact tx_zend' () rfl [0, 1, 2, 3] (sub_cons rfl (sub_cons rfl (sub_cons rfl (sub_cons rfl sub_nil)))) (by decide) (pick_cons rfl (pick_cons rfl (pick_cons rfl (pick_cons rfl pick_nil))))
 refine zg_out fun w6 => ?_
 show TX E K3 _
 refine tx_k' hK3 ?_
 refine cr fun K43 hK43 => ?_
 refine s0 (rd_move' rfl) ?_
 refine tx_fz' (frz_row 3 [(5, (Vl (Vs g19)), (Sl (Ki .u32) v6)), (71, (Vl (Vs g19)), (Sl (Ki .u32) v6))] (K := (Ki .u32)) (xs := v6) (by decide) rfl ⟨⟨rfl, frz_it⟩, ⟨rfl, frz_it⟩, trivial⟩ (H' := [⟨.pointer (some q2), [(Vb a0_0), (Sl (Ki .u32) a0_1)], 48, none⟩, ⟨.pointer (some q3), [(Vb a1_0), (Sl (Ki .u32) a1_1)], 48, none⟩, ⟨.pointer (some q4), [(Vb false), Vn], 48, none⟩]) frzH_refl) ?_
 obtain ⟨r72, hr72, hp⟩ := bind_some hp
 refine sx_ox' (ox_calln' (ent_fn' Tryz.func69 isn69 rfl rfl) (spec_trim_sim _ hr72 : Sx.Fn Tryz.prog 69 [(Sl (Ki .u32) v6)] [] (fun x : Unit => (Sl (Ki .u32) r72)) (fun x => [])) (Hn := fun x : Unit => [⟨.pointer (some q2), [(Vb a0_0), (Sl (Ki .u32) a0_1)], 48, none⟩, ⟨.pointer (some q3), [(Vb a1_0), (Sl (Ki .u32) a1_1)], 48, none⟩, ⟨.pointer (some q4), [(Vb false), Vn], 48, none⟩]) (fun _ => rfl) rfl rfl) (wt_none' rfl) fun ⟨⟩ => ?_
 refine s0 (rd_assign' rfl) ?_
 refine nk hK43 ?_
 refine cr fun K44 hK44 => ?_
 refine s0 (rd_move' rfl) ?_
 refine s0 (rd_len' rfl Tryz.underlying46) ?_
 refine s0 (rd_bin' rfl rfl eg_int ru_gtr) ?_
 refine s0 (rd_move' rfl) ?_
 refine sx_cutn' 6 (fun (v7 : Bool) => (⟨85, [], [(4, (Vp q4)), (5, (Sl (Ki .u32) r72)), (82, (Vb v7))], [⟨.pointer (some q4), [(Vb false), Vn], 48, none⟩]⟩ : St)) (fun (v7 : Bool) => spec_Whole_Mul_j1 k r72 v7 = some out) ?_ ?_
 ·rintro x14 hp
  replace hp : spec_Whole_Mul_j1 k r72 x14 = some out := hp
  unfold spec_Whole_Mul_j1 at hp
  refine s0 (rd_move' rfl) ?_
  refine s0 (rd_build' (pls := [(0, 1), (1, 1)]) (qs := [(0, [(Vb x14)]), (1, [(Sl (Ki .u32) r72)])]) (r := [(Vb x14), (Sl (Ki .u32) r72)]) ⟨rfl, ⟨_, rfl, (lv_vl rfl rfl)⟩, ⟨rfl, ⟨_, rfl, (lv_sl _ _)⟩, trivial⟩⟩ Tryz.underlying48 has48 places48 info48 rfl rfl rfl) ?_
  refine sx_ox' (ox_store' (i := 0) (o := 0) rfl rfl (lv_ag _) ⟨rfl, rfl, rfl, rfl⟩ rfl info48 rfl (H' := [⟨.pointer (some q4), [(Vb x14), (Sl (Ki .u32) r72)], 48, none⟩]) rfl) (wt_none' rfl) fun _ => ?_
  refine nk hK44 ?_
  refine cx_retc' ?_
  replace hp := Option.some.inj hp
  subst hp
  refine tx_pick' (L' := [(4, (Vp q4))]) (H' := [⟨.pointer (some q4), [(Vb x14), (Sl (Ki .u32) r72)], 48, none⟩]) [0] (sub_cons rfl sub_nil) (by decide) (pick_cons rfl pick_nil) ?_
  exact tx_ret1' Tryz.results82 rfl () (rv_cell_agg' (i := 0) (o := 0) (nn := 2) rfl ⟨rfl, rfl, rfl, rfl⟩ rfl agg48 rfl) (List.nil_sublist _)
 intro K45 hK45
 rcases br_cases hp with ⟨h10, hp⟩ | ⟨h10, hp⟩
 ·refine sx_rd' (rd_field0' rfl Tryz.underlying48 rfl info4 rfl) rfl rfl (wt_is' (wt_guard' rfl rfl rfl) (beq_tt h10)) ?_
  refine sx_rd' (rd_load' (i := 0) (o := 0) rfl ⟨rfl, rfl, rfl, rfl⟩ rfl flat4) rfl rfl (wt_is' (wt_guard' rfl rfl rfl) (beq_tt h10)) ?_
  refine sx_rd' (rd_field0' rfl Tryz.underlying48 rfl info4 rfl) rfl rfl (wt_is' (wt_guard' rfl rfl rfl) (beq_tt h10)) ?_
  refine sx_rd' (rd_load' (i := 1) (o := 0) rfl ⟨rfl, rfl, rfl, rfl⟩ rfl flat4) rfl rfl (wt_is' (wt_guard' rfl rfl rfl) (beq_tt h10)) ?_
  refine sx_rd' (rd_bin' rfl rfl eg_bool (ru_bne Tryz.underlying4)) rfl rfl (wt_is' (wt_guard' rfl rfl rfl) (beq_tt h10)) ?_
  refine s0 (rd_pick_true' rfl h10 rfl) ?_
  refine sx_nil' ?_
  show TX E K45 _
  exact tx_pick' [2] (sub_cons rfl (sub_cons rfl (sub_cons rfl sub_nil))) (by decide) (pick_cons rfl pick_nil) (hK45 (!(a0_0 == a1_0)) hp)
 refine sx_skip' rfl rfl (wt_is' (wt_guard' rfl rfl rfl) (beq_ft h10)) ?_
 refine sx_skip' rfl rfl (wt_is' (wt_guard' rfl rfl rfl) (beq_ft h10)) ?_
 refine sx_skip' rfl rfl (wt_is' (wt_guard' rfl rfl rfl) (beq_ft h10)) ?_
 refine sx_skip' rfl rfl (wt_is' (wt_guard' rfl rfl rfl) (beq_ft h10)) ?_
 refine sx_skip' rfl rfl (wt_is' (wt_guard' rfl rfl rfl) (beq_ft h10)) ?_
 refine s0 (rd_pick_false' rfl h10 rfl) ?_
 refine sx_nil' ?_
 show TX E K45 _
 exact tx_pick' [2] (sub_cons rfl (sub_cons rfl (sub_cons rfl sub_nil))) (by decide) (pick_cons rfl pick_nil) (hK45 false hp)

def spec_Dyadic_Mul (k : Nat) (a0_0 : Bool) (a0_1 : List Int) (a0_2 : Int) (a1_0 : Bool) (a1_1 : List Int) (a1_2 : Int) : Option (Bool × (List Int) × Int) :=
 (spec_Whole_Mul k a0_0 a0_1 a1_0 a1_1) >>= fun r9 =>
 some (r9.1, r9.2, iadd .i64 a0_2 a1_2)

theorem spec_Dyadic_Mul_sim {k : Nat}  (a0_0 : Bool) (a0_1 : List Int) (a0_2 : Int) (a1_0 : Bool) (a1_1 : List Int) (a1_2 : Int) {out : Bool × (List Int) × Int} (hp : spec_Dyadic_Mul k a0_0 a0_1 a0_2 a1_0 a1_1 a1_2 = some out) : Sx.Fn Tryz.prog 65 [(Ag [(Vb a0_0), (Sl (Ki .u32) a0_1), (Vi a0_2)]), (Ag [(Vb a1_0), (Sl (Ki .u32) a1_1), (Vi a1_2)])] [] (fun w : Unit => (Ag [(Vb out.1), (Sl (Ki .u32) out.2.1), (Vi out.2.2)])) (fun w => []) := by
 unfold spec_Dyadic_Mul at hp
 refine fn_of Tryz.func65 rfl Tryz.ntmps65 rfl fun E hM => ?_
 refine cr fun K1 hK1 => ?_
 refine sx_ox' (ox_box' rfl (lv_ag _) rfl rfl) (wt_none' rfl) fun q2 => ?_
 refine sx_ox' (ox_box' rfl (lv_ag _) rfl rfl) (wt_none' rfl) fun q3 => ?_
 refine sx_ox' (ox_alloc' info50 rfl rfl rfl rfl (l := [(Vb false), Vn, (Vi 0)]) rfl) (wt_none' rfl) fun q4 => ?_
 refine nk hK1 ?_
 refine cx_seq' fun K2 hK2 => ?_
 refine cx_plan' [] [(11, 1)] [(0, 1), (1, 1), (2, 1), (3, 1), (5, 1), (6, 1), (7, 1), (8, 1), (9, 1), (4, 0), (10, 1), (11, 0)] mixed (by kernel_rfl) ?_
 refine px_rd' rfl (rd_field0' rfl Tryz.underlying50 rfl info48 rfl) rfl rfl (wt_none' rfl) ?_
 refine px_rd' rfl (rd_load_agg' (i := 2) (o := 0) (nn := 2) rfl ⟨rfl, rfl, rfl, rfl⟩ rfl agg48 (l' := [(Vb a0_0), (Sl (Ki .u32) a0_1)]) rfl) rfl rfl (wt_none' rfl) ?_
 refine px_rd' rfl (rd_field0' rfl Tryz.underlying50 rfl info48 rfl) rfl rfl (wt_none' rfl) ?_
 refine px_rd' rfl (rd_load_agg' (i := 1) (o := 0) (nn := 2) rfl ⟨rfl, rfl, rfl, rfl⟩ rfl agg48 (l' := [(Vb a1_0), (Sl (Ki .u32) a1_1)]) rfl) rfl rfl (wt_none' rfl) ?_
 refine px_rd' rfl (rd_field' (off := 2) rfl Tryz.underlying50 rfl info3 rfl) rfl rfl (wt_none' rfl) ?_
 refine px_rd' rfl (rd_load' (i := 2) (o := 2) rfl ⟨rfl, rfl, rfl, rfl⟩ rfl flat3) rfl rfl (wt_none' rfl) ?_
 refine px_rd' rfl (rd_field' (off := 2) rfl Tryz.underlying50 rfl info3 rfl) rfl rfl (wt_none' rfl) ?_
 refine px_rd' rfl (rd_load' (i := 1) (o := 2) rfl ⟨rfl, rfl, rfl, rfl⟩ rfl flat3) rfl rfl (wt_none' rfl) ?_
 refine px_rd' rfl (rd_bin' rfl rfl eg_int ru_add) rfl rfl (wt_none' rfl) ?_
 obtain ⟨r9, hr9, hp⟩ := bind_some hp
 refine px_ox' rfl (ox_calln' (ent_fn' Tryz.func82 isn82 rfl rfl) (spec_Whole_Mul_sim _ _ _ _ hr9 : Sx.Fn Tryz.prog 82 [(Ag [(Vb a0_0), (Sl (Ki .u32) a0_1)]), (Ag [(Vb a1_0), (Sl (Ki .u32) a1_1)])] [] (fun x : Unit => (Ag [(Vb r9.1), (Sl (Ki .u32) r9.2)])) (fun x => [])) (Hn := fun x : Unit => [⟨.pointer (some q4), [(Vb false), Vn, (Vi 0)], 50, none⟩, ⟨.pointer (some q3), [(Vb a1_0), (Sl (Ki .u32) a1_1), (Vi a1_2)], 50, none⟩, ⟨.pointer (some q2), [(Vb a0_0), (Sl (Ki .u32) a0_1), (Vi a0_2)], 50, none⟩]) (fun _ => rfl) rfl rfl) rfl bs_nil (wt_none' rfl) fun ⟨⟩ => ?_
 refine px_rd' rfl (rd_build' (pls := [(0, 2), (2, 1)]) (qs := [(0, [(Vb r9.1), (Sl (Ki .u32) r9.2)]), (1, [(Vi (iadd .i64 a0_2 a1_2))])]) (r := [(Vb r9.1), (Sl (Ki .u32) r9.2), (Vi (iadd .i64 a0_2 a1_2))]) ⟨rfl, ⟨_, rfl, (lv_ag _)⟩, ⟨rfl, ⟨_, rfl, (lv_vl rfl rfl)⟩, trivial⟩⟩ Tryz.underlying50 has50 places50 info50 rfl rfl rfl) rfl rfl (wt_none' rfl) ?_
 refine px_oxv' rfl (oxv_store (i := 0) (o := 0) rfl rfl (lv_ag _) ⟨rfl, rfl, rfl, rfl⟩ rfl info50 rfl (H' := [⟨.pointer (some q4), [(Vb r9.1), (Sl (Ki .u32) r9.2), (Vi (iadd .i64 a0_2 a1_2))], 50, none⟩, ⟨.pointer (some q3), [(Vb a1_0), (Sl (Ki .u32) a1_1), (Vi a1_2)], 50, none⟩, ⟨.pointer (some q2), [(Vb a0_0), (Sl (Ki .u32) a0_1), (Vi a0_2)], 50, none⟩]) rfl) rfl rfl bo_nil (wt_none' rfl) fun _ => ?_
 refine px_nil' ?_
 show TX E K2 _
 refine tx_k' hK2 ?_
 refine cx_retc' ?_
 replace hp := Option.some.inj hp
 subst hp
 refine tx_pick' (L' := [(4, (Vp q4))]) (H' := [⟨.pointer (some q4), [(Vb r9.1), (Sl (Ki .u32) r9.2), (Vi (iadd .i64 a0_2 a1_2))], 50, none⟩]) [0] (sub_cons rfl sub_nil) (by decide) (pick_cons rfl pick_nil) ?_
 exact tx_ret1' Tryz.results65 rfl () (rv_cell_agg' (i := 0) (o := 0) (nn := 3) rfl ⟨rfl, rfl, rfl, rfl⟩ rfl agg50 rfl) (List.nil_sublist _)

def spec_Dot (k : Nat) (a0_0 : Bool) (a0_1 : List Int) (a0_2 : Int) (a0_3 : Bool) (a0_4 : List Int) (a0_5 : Int) (a1_0 : Bool) (a1_1 : List Int) (a1_2 : Int) (a1_3 : Bool) (a1_4 : List Int) (a1_5 : Int) (a2_0 : Bool) (a2_1 : List Int) (a2_2 : Int) (a2_3 : Bool) (a2_4 : List Int) (a2_5 : Int) (a3_0 : Bool) (a3_1 : List Int) (a3_2 : Int) (a3_3 : Bool) (a3_4 : List Int) (a3_5 : Int) : Option (Bool × (List Int) × Int) :=
 (spec_Dyadic_Sub k a1_0 a1_1 a1_2 a0_0 a0_1 a0_2) >>= fun r13 =>
 (spec_Dyadic_Sub k a3_0 a3_1 a3_2 a2_0 a2_1 a2_2) >>= fun r18 =>
 (spec_Dyadic_Mul k r13.1 r13.2.1 r13.2.2 r18.1 r18.2.1 r18.2.2) >>= fun r19 =>
 (spec_Dyadic_Sub k a1_3 a1_4 a1_5 a0_3 a0_4 a0_5) >>= fun r24 =>
 (spec_Dyadic_Sub k a3_3 a3_4 a3_5 a2_3 a2_4 a2_5) >>= fun r29 =>
 (spec_Dyadic_Mul k r24.1 r24.2.1 r24.2.2 r29.1 r29.2.1 r29.2.2) >>= fun r30 =>
 (spec_Dyadic_Add k r19.1 r19.2.1 r19.2.2 r30.1 r30.2.1 r30.2.2) >>= fun r31 =>
 some (r31.1, r31.2.1, r31.2.2)

theorem spec_Dot_sim {k : Nat}  (a0_0 : Bool) (a0_1 : List Int) (a0_2 : Int) (a0_3 : Bool) (a0_4 : List Int) (a0_5 : Int) (a1_0 : Bool) (a1_1 : List Int) (a1_2 : Int) (a1_3 : Bool) (a1_4 : List Int) (a1_5 : Int) (a2_0 : Bool) (a2_1 : List Int) (a2_2 : Int) (a2_3 : Bool) (a2_4 : List Int) (a2_5 : Int) (a3_0 : Bool) (a3_1 : List Int) (a3_2 : Int) (a3_3 : Bool) (a3_4 : List Int) (a3_5 : Int) {out : Bool × (List Int) × Int} (hp : spec_Dot k a0_0 a0_1 a0_2 a0_3 a0_4 a0_5 a1_0 a1_1 a1_2 a1_3 a1_4 a1_5 a2_0 a2_1 a2_2 a2_3 a2_4 a2_5 a3_0 a3_1 a3_2 a3_3 a3_4 a3_5 = some out) : Sx.Fn Tryz.prog 28 [(Ag [(Vb a0_0), (Sl (Ki .u32) a0_1), (Vi a0_2), (Vb a0_3), (Sl (Ki .u32) a0_4), (Vi a0_5)]), (Ag [(Vb a1_0), (Sl (Ki .u32) a1_1), (Vi a1_2), (Vb a1_3), (Sl (Ki .u32) a1_4), (Vi a1_5)]), (Ag [(Vb a2_0), (Sl (Ki .u32) a2_1), (Vi a2_2), (Vb a2_3), (Sl (Ki .u32) a2_4), (Vi a2_5)]), (Ag [(Vb a3_0), (Sl (Ki .u32) a3_1), (Vi a3_2), (Vb a3_3), (Sl (Ki .u32) a3_4), (Vi a3_5)])] [] (fun w : Unit => (Ag [(Vb out.1), (Sl (Ki .u32) out.2.1), (Vi out.2.2)])) (fun w => []) := by
 unfold spec_Dot at hp
 refine fn_of Tryz.func28 rfl Tryz.ntmps28 rfl fun E hM => ?_
 refine cr fun K1 hK1 => ?_
 refine sx_ox' (ox_box' rfl (lv_ag _) rfl rfl) (wt_none' rfl) fun q4 => ?_
 refine sx_ox' (ox_box' rfl (lv_ag _) rfl rfl) (wt_none' rfl) fun q5 => ?_
 refine sx_ox' (ox_box' rfl (lv_ag _) rfl rfl) (wt_none' rfl) fun q6 => ?_
 refine sx_ox' (ox_box' rfl (lv_ag _) rfl rfl) (wt_none' rfl) fun q7 => ?_
 refine sx_ox' (ox_alloc' info50 rfl rfl rfl rfl (l := [(Vb false), Vn, (Vi 0)]) rfl) (wt_none' rfl) fun q8 => ?_
 refine nk hK1 ?_
 refine cx_seq' fun K2 hK2 => ?_
 refine cx_plan' [] [(23, 1)] [(0, 1), (1, 1), (2, 1), (3, 1), (5, 1), (6, 1), (7, 1), (8, 1), (11, 1), (12, 1), (13, 1), (14, 1), (16, 1), (17, 1), (18, 1), (19, 1), (4, 0), (9, 0), (10, 0), (15, 0), (20, 0), (21, 0), (22, 0), (23, 0)] mixed (by kernel_rfl) ?_
 refine px_rd' rfl (rd_field0' rfl Tryz.underlying53 rfl info50 rfl) rfl rfl (wt_none' rfl) ?_
 refine px_rd' rfl (rd_load_agg' (i := 3) (o := 0) (nn := 3) rfl ⟨rfl, rfl, rfl, rfl⟩ rfl agg50 (l' := [(Vb a1_0), (Sl (Ki .u32) a1_1), (Vi a1_2)]) rfl) rfl rfl (wt_none' rfl) ?_
 refine px_rd' rfl (rd_field0' rfl Tryz.underlying53 rfl info50 rfl) rfl rfl (wt_none' rfl) ?_
 refine px_rd' rfl (rd_load_agg' (i := 4) (o := 0) (nn := 3) rfl ⟨rfl, rfl, rfl, rfl⟩ rfl agg50 (l' := [(Vb a0_0), (Sl (Ki .u32) a0_1), (Vi a0_2)]) rfl) rfl rfl (wt_none' rfl) ?_
 refine px_rd' rfl (rd_field0' rfl Tryz.underlying53 rfl info50 rfl) rfl rfl (wt_none' rfl) ?_
 refine px_rd' rfl (rd_load_agg' (i := 1) (o := 0) (nn := 3) rfl ⟨rfl, rfl, rfl, rfl⟩ rfl agg50 (l' := [(Vb a3_0), (Sl (Ki .u32) a3_1), (Vi a3_2)]) rfl) rfl rfl (wt_none' rfl) ?_
 refine px_rd' rfl (rd_field0' rfl Tryz.underlying53 rfl info50 rfl) rfl rfl (wt_none' rfl) ?_
 refine px_rd' rfl (rd_load_agg' (i := 2) (o := 0) (nn := 3) rfl ⟨rfl, rfl, rfl, rfl⟩ rfl agg50 (l' := [(Vb a2_0), (Sl (Ki .u32) a2_1), (Vi a2_2)]) rfl) rfl rfl (wt_none' rfl) ?_
 refine px_rd' rfl (rd_field' (off := 3) rfl Tryz.underlying53 rfl info50 rfl) rfl rfl (wt_none' rfl) ?_
 refine px_rd' rfl (rd_load_agg' (i := 3) (o := 3) (nn := 3) rfl ⟨rfl, rfl, rfl, rfl⟩ rfl agg50 (l' := [(Vb a1_3), (Sl (Ki .u32) a1_4), (Vi a1_5)]) rfl) rfl rfl (wt_none' rfl) ?_
 refine px_rd' rfl (rd_field' (off := 3) rfl Tryz.underlying53 rfl info50 rfl) rfl rfl (wt_none' rfl) ?_
 refine px_rd' rfl (rd_load_agg' (i := 4) (o := 3) (nn := 3) rfl ⟨rfl, rfl, rfl, rfl⟩ rfl agg50 (l' := [(Vb a0_3), (Sl (Ki .u32) a0_4), (Vi a0_5)]) rfl) rfl rfl (wt_none' rfl) ?_
 refine px_rd' rfl (rd_field' (off := 3) rfl Tryz.underlying53 rfl info50 rfl) rfl rfl (wt_none' rfl) ?_
 refine px_rd' rfl (rd_load_agg' (i := 1) (o := 3) (nn := 3) rfl ⟨rfl, rfl, rfl, rfl⟩ rfl agg50 (l' := [(Vb a3_3), (Sl (Ki .u32) a3_4), (Vi a3_5)]) rfl) rfl rfl (wt_none' rfl) ?_
 refine px_rd' rfl (rd_field' (off := 3) rfl Tryz.underlying53 rfl info50 rfl) rfl rfl (wt_none' rfl) ?_
 refine px_rd' rfl (rd_load_agg' (i := 2) (o := 3) (nn := 3) rfl ⟨rfl, rfl, rfl, rfl⟩ rfl agg50 (l' := [(Vb a2_3), (Sl (Ki .u32) a2_4), (Vi a2_5)]) rfl) rfl rfl (wt_none' rfl) ?_
 obtain ⟨r13, hr13, hp⟩ := bind_some hp
 refine px_ox' rfl (ox_calln' (ent_fn' Tryz.func64 isn64 rfl rfl) (spec_Dyadic_Sub_sim _ _ _ _ _ _ hr13 : Sx.Fn Tryz.prog 64 [(Ag [(Vb a1_0), (Sl (Ki .u32) a1_1), (Vi a1_2)]), (Ag [(Vb a0_0), (Sl (Ki .u32) a0_1), (Vi a0_2)])] [] (fun x : Unit => (Ag [(Vb r13.1), (Sl (Ki .u32) r13.2.1), (Vi r13.2.2)])) (fun x => [])) (Hn := fun x : Unit => [⟨.pointer (some q8), [(Vb false), Vn, (Vi 0)], 50, none⟩, ⟨.pointer (some q7), [(Vb a3_0), (Sl (Ki .u32) a3_1), (Vi a3_2), (Vb a3_3), (Sl (Ki .u32) a3_4), (Vi a3_5)], 53, none⟩, ⟨.pointer (some q6), [(Vb a2_0), (Sl (Ki .u32) a2_1), (Vi a2_2), (Vb a2_3), (Sl (Ki .u32) a2_4), (Vi a2_5)], 53, none⟩, ⟨.pointer (some q5), [(Vb a1_0), (Sl (Ki .u32) a1_1), (Vi a1_2), (Vb a1_3), (Sl (Ki .u32) a1_4), (Vi a1_5)], 53, none⟩, ⟨.pointer (some q4), [(Vb a0_0), (Sl (Ki .u32) a0_1), (Vi a0_2), (Vb a0_3), (Sl (Ki .u32) a0_4), (Vi a0_5)], 53, none⟩]) (fun _ => rfl) rfl rfl) rfl bs_nil (wt_none' rfl) fun ⟨⟩ => ?_
 obtain ⟨r18, hr18, hp⟩ := bind_some hp
 refine px_ox' rfl (ox_calln' (ent_fn' Tryz.func64 isn64 rfl rfl) (spec_Dyadic_Sub_sim _ _ _ _ _ _ hr18 : Sx.Fn Tryz.prog 64 [(Ag [(Vb a3_0), (Sl (Ki .u32) a3_1), (Vi a3_2)]), (Ag [(Vb a2_0), (Sl (Ki .u32) a2_1), (Vi a2_2)])] [] (fun x : Unit => (Ag [(Vb r18.1), (Sl (Ki .u32) r18.2.1), (Vi r18.2.2)])) (fun x => [])) (Hn := fun x : Unit => [⟨.pointer (some q8), [(Vb false), Vn, (Vi 0)], 50, none⟩, ⟨.pointer (some q7), [(Vb a3_0), (Sl (Ki .u32) a3_1), (Vi a3_2), (Vb a3_3), (Sl (Ki .u32) a3_4), (Vi a3_5)], 53, none⟩, ⟨.pointer (some q6), [(Vb a2_0), (Sl (Ki .u32) a2_1), (Vi a2_2), (Vb a2_3), (Sl (Ki .u32) a2_4), (Vi a2_5)], 53, none⟩, ⟨.pointer (some q5), [(Vb a1_0), (Sl (Ki .u32) a1_1), (Vi a1_2), (Vb a1_3), (Sl (Ki .u32) a1_4), (Vi a1_5)], 53, none⟩, ⟨.pointer (some q4), [(Vb a0_0), (Sl (Ki .u32) a0_1), (Vi a0_2), (Vb a0_3), (Sl (Ki .u32) a0_4), (Vi a0_5)], 53, none⟩]) (fun _ => rfl) rfl rfl) rfl bs_nil (wt_none' rfl) fun ⟨⟩ => ?_
 obtain ⟨r19, hr19, hp⟩ := bind_some hp
 refine px_ox' rfl (ox_calln' (ent_fn' Tryz.func65 isn65 rfl rfl) (spec_Dyadic_Mul_sim _ _ _ _ _ _ hr19 : Sx.Fn Tryz.prog 65 [(Ag [(Vb r13.1), (Sl (Ki .u32) r13.2.1), (Vi r13.2.2)]), (Ag [(Vb r18.1), (Sl (Ki .u32) r18.2.1), (Vi r18.2.2)])] [] (fun x : Unit => (Ag [(Vb r19.1), (Sl (Ki .u32) r19.2.1), (Vi r19.2.2)])) (fun x => [])) (Hn := fun x : Unit => [⟨.pointer (some q8), [(Vb false), Vn, (Vi 0)], 50, none⟩, ⟨.pointer (some q7), [(Vb a3_0), (Sl (Ki .u32) a3_1), (Vi a3_2), (Vb a3_3), (Sl (Ki .u32) a3_4), (Vi a3_5)], 53, none⟩, ⟨.pointer (some q6), [(Vb a2_0), (Sl (Ki .u32) a2_1), (Vi a2_2), (Vb a2_3), (Sl (Ki .u32) a2_4), (Vi a2_5)], 53, none⟩, ⟨.pointer (some q5), [(Vb a1_0), (Sl (Ki .u32) a1_1), (Vi a1_2), (Vb a1_3), (Sl (Ki .u32) a1_4), (Vi a1_5)], 53, none⟩, ⟨.pointer (some q4), [(Vb a0_0), (Sl (Ki .u32) a0_1), (Vi a0_2), (Vb a0_3), (Sl (Ki .u32) a0_4), (Vi a0_5)], 53, none⟩]) (fun _ => rfl) rfl rfl) rfl bs_nil (wt_none' rfl) fun ⟨⟩ => ?_
 obtain ⟨r24, hr24, hp⟩ := bind_some hp
 refine px_ox' rfl (ox_calln' (ent_fn' Tryz.func64 isn64 rfl rfl) (spec_Dyadic_Sub_sim _ _ _ _ _ _ hr24 : Sx.Fn Tryz.prog 64 [(Ag [(Vb a1_3), (Sl (Ki .u32) a1_4), (Vi a1_5)]), (Ag [(Vb a0_3), (Sl (Ki .u32) a0_4), (Vi a0_5)])] [] (fun x : Unit => (Ag [(Vb r24.1), (Sl (Ki .u32) r24.2.1), (Vi r24.2.2)])) (fun x => [])) (Hn := fun x : Unit => [⟨.pointer (some q8), [(Vb false), Vn, (Vi 0)], 50, none⟩, ⟨.pointer (some q7), [(Vb a3_0), (Sl (Ki .u32) a3_1), (Vi a3_2), (Vb a3_3), (Sl (Ki .u32) a3_4), (Vi a3_5)], 53, none⟩, ⟨.pointer (some q6), [(Vb a2_0), (Sl (Ki .u32) a2_1), (Vi a2_2), (Vb a2_3), (Sl (Ki .u32) a2_4), (Vi a2_5)], 53, none⟩, ⟨.pointer (some q5), [(Vb a1_0), (Sl (Ki .u32) a1_1), (Vi a1_2), (Vb a1_3), (Sl (Ki .u32) a1_4), (Vi a1_5)], 53, none⟩, ⟨.pointer (some q4), [(Vb a0_0), (Sl (Ki .u32) a0_1), (Vi a0_2), (Vb a0_3), (Sl (Ki .u32) a0_4), (Vi a0_5)], 53, none⟩]) (fun _ => rfl) rfl rfl) rfl bs_nil (wt_none' rfl) fun ⟨⟩ => ?_
 obtain ⟨r29, hr29, hp⟩ := bind_some hp
 refine px_ox' rfl (ox_calln' (ent_fn' Tryz.func64 isn64 rfl rfl) (spec_Dyadic_Sub_sim _ _ _ _ _ _ hr29 : Sx.Fn Tryz.prog 64 [(Ag [(Vb a3_3), (Sl (Ki .u32) a3_4), (Vi a3_5)]), (Ag [(Vb a2_3), (Sl (Ki .u32) a2_4), (Vi a2_5)])] [] (fun x : Unit => (Ag [(Vb r29.1), (Sl (Ki .u32) r29.2.1), (Vi r29.2.2)])) (fun x => [])) (Hn := fun x : Unit => [⟨.pointer (some q8), [(Vb false), Vn, (Vi 0)], 50, none⟩, ⟨.pointer (some q7), [(Vb a3_0), (Sl (Ki .u32) a3_1), (Vi a3_2), (Vb a3_3), (Sl (Ki .u32) a3_4), (Vi a3_5)], 53, none⟩, ⟨.pointer (some q6), [(Vb a2_0), (Sl (Ki .u32) a2_1), (Vi a2_2), (Vb a2_3), (Sl (Ki .u32) a2_4), (Vi a2_5)], 53, none⟩, ⟨.pointer (some q5), [(Vb a1_0), (Sl (Ki .u32) a1_1), (Vi a1_2), (Vb a1_3), (Sl (Ki .u32) a1_4), (Vi a1_5)], 53, none⟩, ⟨.pointer (some q4), [(Vb a0_0), (Sl (Ki .u32) a0_1), (Vi a0_2), (Vb a0_3), (Sl (Ki .u32) a0_4), (Vi a0_5)], 53, none⟩]) (fun _ => rfl) rfl rfl) rfl bs_nil (wt_none' rfl) fun ⟨⟩ => ?_
 obtain ⟨r30, hr30, hp⟩ := bind_some hp
 refine px_ox' rfl (ox_calln' (ent_fn' Tryz.func65 isn65 rfl rfl) (spec_Dyadic_Mul_sim _ _ _ _ _ _ hr30 : Sx.Fn Tryz.prog 65 [(Ag [(Vb r24.1), (Sl (Ki .u32) r24.2.1), (Vi r24.2.2)]), (Ag [(Vb r29.1), (Sl (Ki .u32) r29.2.1), (Vi r29.2.2)])] [] (fun x : Unit => (Ag [(Vb r30.1), (Sl (Ki .u32) r30.2.1), (Vi r30.2.2)])) (fun x => [])) (Hn := fun x : Unit => [⟨.pointer (some q8), [(Vb false), Vn, (Vi 0)], 50, none⟩, ⟨.pointer (some q7), [(Vb a3_0), (Sl (Ki .u32) a3_1), (Vi a3_2), (Vb a3_3), (Sl (Ki .u32) a3_4), (Vi a3_5)], 53, none⟩, ⟨.pointer (some q6), [(Vb a2_0), (Sl (Ki .u32) a2_1), (Vi a2_2), (Vb a2_3), (Sl (Ki .u32) a2_4), (Vi a2_5)], 53, none⟩, ⟨.pointer (some q5), [(Vb a1_0), (Sl (Ki .u32) a1_1), (Vi a1_2), (Vb a1_3), (Sl (Ki .u32) a1_4), (Vi a1_5)], 53, none⟩, ⟨.pointer (some q4), [(Vb a0_0), (Sl (Ki .u32) a0_1), (Vi a0_2), (Vb a0_3), (Sl (Ki .u32) a0_4), (Vi a0_5)], 53, none⟩]) (fun _ => rfl) rfl rfl) rfl bs_nil (wt_none' rfl) fun ⟨⟩ => ?_
 obtain ⟨r31, hr31, hp⟩ := bind_some hp
 refine px_ox' rfl (ox_calln' (ent_fn' Tryz.func15 isn15 rfl rfl) (spec_Dyadic_Add_sim _ _ _ _ _ _ hr31 : Sx.Fn Tryz.prog 15 [(Ag [(Vb r19.1), (Sl (Ki .u32) r19.2.1), (Vi r19.2.2)]), (Ag [(Vb r30.1), (Sl (Ki .u32) r30.2.1), (Vi r30.2.2)])] [] (fun x : Unit => (Ag [(Vb r31.1), (Sl (Ki .u32) r31.2.1), (Vi r31.2.2)])) (fun x => [])) (Hn := fun x : Unit => [⟨.pointer (some q8), [(Vb false), Vn, (Vi 0)], 50, none⟩, ⟨.pointer (some q7), [(Vb a3_0), (Sl (Ki .u32) a3_1), (Vi a3_2), (Vb a3_3), (Sl (Ki .u32) a3_4), (Vi a3_5)], 53, none⟩, ⟨.pointer (some q6), [(Vb a2_0), (Sl (Ki .u32) a2_1), (Vi a2_2), (Vb a2_3), (Sl (Ki .u32) a2_4), (Vi a2_5)], 53, none⟩, ⟨.pointer (some q5), [(Vb a1_0), (Sl (Ki .u32) a1_1), (Vi a1_2), (Vb a1_3), (Sl (Ki .u32) a1_4), (Vi a1_5)], 53, none⟩, ⟨.pointer (some q4), [(Vb a0_0), (Sl (Ki .u32) a0_1), (Vi a0_2), (Vb a0_3), (Sl (Ki .u32) a0_4), (Vi a0_5)], 53, none⟩]) (fun _ => rfl) rfl rfl) rfl bs_nil (wt_none' rfl) fun ⟨⟩ => ?_
 refine px_oxv' rfl (oxv_store (i := 0) (o := 0) rfl rfl (lv_ag _) ⟨rfl, rfl, rfl, rfl⟩ rfl info50 rfl (H' := [⟨.pointer (some q8), [(Vb r31.1), (Sl (Ki .u32) r31.2.1), (Vi r31.2.2)], 50, none⟩, ⟨.pointer (some q7), [(Vb a3_0), (Sl (Ki .u32) a3_1), (Vi a3_2), (Vb a3_3), (Sl (Ki .u32) a3_4), (Vi a3_5)], 53, none⟩, ⟨.pointer (some q6), [(Vb a2_0), (Sl (Ki .u32) a2_1), (Vi a2_2), (Vb a2_3), (Sl (Ki .u32) a2_4), (Vi a2_5)], 53, none⟩, ⟨.pointer (some q5), [(Vb a1_0), (Sl (Ki .u32) a1_1), (Vi a1_2), (Vb a1_3), (Sl (Ki .u32) a1_4), (Vi a1_5)], 53, none⟩, ⟨.pointer (some q4), [(Vb a0_0), (Sl (Ki .u32) a0_1), (Vi a0_2), (Vb a0_3), (Sl (Ki .u32) a0_4), (Vi a0_5)], 53, none⟩]) rfl) rfl rfl bo_nil (wt_none' rfl) fun _ => ?_
 refine px_nil' ?_
 show TX E K2 _
 refine tx_k' hK2 ?_
 refine cx_retc' ?_
 replace hp := Option.some.inj hp
 subst hp
 refine tx_pick' (L' := [(8, (Vp q8))]) (H' := [⟨.pointer (some q8), [(Vb r31.1), (Sl (Ki .u32) r31.2.1), (Vi r31.2.2)], 50, none⟩]) [0] (sub_cons rfl sub_nil) (by decide) (pick_cons rfl pick_nil) ?_
 exact tx_ret1' Tryz.results28 rfl () (rv_cell_agg' (i := 0) (o := 0) (nn := 3) rfl ⟨rfl, rfl, rfl, rfl⟩ rfl agg50 rfl) (List.nil_sublist _)

def spec_Square (k : Nat) (a0_0 : Bool) (a0_1 : List Int) (a0_2 : Int) (a0_3 : Bool) (a0_4 : List Int) (a0_5 : Int) (a1_0 : Bool) (a1_1 : List Int) (a1_2 : Int) (a1_3 : Bool) (a1_4 : List Int) (a1_5 : Int) : Option (Bool × (List Int) × Int) :=
 (spec_Dot k a0_0 a0_1 a0_2 a0_3 a0_4 a0_5 a1_0 a1_1 a1_2 a1_3 a1_4 a1_5 a0_0 a0_1 a0_2 a0_3 a0_4 a0_5 a1_0 a1_1 a1_2 a1_3 a1_4 a1_5) >>= fun r9 =>
 some (r9.1, r9.2.1, r9.2.2)

theorem spec_Square_sim {k : Nat}  (a0_0 : Bool) (a0_1 : List Int) (a0_2 : Int) (a0_3 : Bool) (a0_4 : List Int) (a0_5 : Int) (a1_0 : Bool) (a1_1 : List Int) (a1_2 : Int) (a1_3 : Bool) (a1_4 : List Int) (a1_5 : Int) {out : Bool × (List Int) × Int} (hp : spec_Square k a0_0 a0_1 a0_2 a0_3 a0_4 a0_5 a1_0 a1_1 a1_2 a1_3 a1_4 a1_5 = some out) : Sx.Fn Tryz.prog 13 [(Ag [(Vb a0_0), (Sl (Ki .u32) a0_1), (Vi a0_2), (Vb a0_3), (Sl (Ki .u32) a0_4), (Vi a0_5)]), (Ag [(Vb a1_0), (Sl (Ki .u32) a1_1), (Vi a1_2), (Vb a1_3), (Sl (Ki .u32) a1_4), (Vi a1_5)])] [] (fun w : Unit => (Ag [(Vb out.1), (Sl (Ki .u32) out.2.1), (Vi out.2.2)])) (fun w => []) := by
 unfold spec_Square at hp
 refine fn_of Tryz.func13 rfl Tryz.ntmps13 rfl fun E hM => ?_
 refine cr fun K1 hK1 => ?_
 refine sx_ox' (ox_box' rfl (lv_ag _) rfl rfl) (wt_none' rfl) fun q2 => ?_
 refine sx_ox' (ox_box' rfl (lv_ag _) rfl rfl) (wt_none' rfl) fun q3 => ?_
 refine sx_ox' (ox_alloc' info50 rfl rfl rfl rfl (l := [(Vb false), Vn, (Vi 0)]) rfl) (wt_none' rfl) fun q4 => ?_
 refine nk hK1 ?_
 refine cr fun K2 hK2 => ?_
 refine s0 (rd_load_agg' (i := 2) (o := 0) (nn := 6) rfl ⟨rfl, rfl, rfl, rfl⟩ rfl agg53 (l' := [(Vb a0_0), (Sl (Ki .u32) a0_1), (Vi a0_2), (Vb a0_3), (Sl (Ki .u32) a0_4), (Vi a0_5)]) rfl) ?_
 refine s0 (rd_load_agg' (i := 1) (o := 0) (nn := 6) rfl ⟨rfl, rfl, rfl, rfl⟩ rfl agg53 (l' := [(Vb a1_0), (Sl (Ki .u32) a1_1), (Vi a1_2), (Vb a1_3), (Sl (Ki .u32) a1_4), (Vi a1_5)]) rfl) ?_
 refine s0 (rd_load_agg' (i := 2) (o := 0) (nn := 6) rfl ⟨rfl, rfl, rfl, rfl⟩ rfl agg53 (l' := [(Vb a0_0), (Sl (Ki .u32) a0_1), (Vi a0_2), (Vb a0_3), (Sl (Ki .u32) a0_4), (Vi a0_5)]) rfl) ?_
 refine s0 (rd_load_agg' (i := 1) (o := 0) (nn := 6) rfl ⟨rfl, rfl, rfl, rfl⟩ rfl agg53 (l' := [(Vb a1_0), (Sl (Ki .u32) a1_1), (Vi a1_2), (Vb a1_3), (Sl (Ki .u32) a1_4), (Vi a1_5)]) rfl) ?_
 obtain ⟨r9, hr9, hp⟩ := bind_some hp
 refine sx_ox' (ox_calln' (ent_fn' Tryz.func28 isn28 rfl rfl) (spec_Dot_sim _ _ _ _ _ _ _ _ _ _ _ _ _ _ _ _ _ _ _ _ _ _ _ _ hr9 : Sx.Fn Tryz.prog 28 [(Ag [(Vb a0_0), (Sl (Ki .u32) a0_1), (Vi a0_2), (Vb a0_3), (Sl (Ki .u32) a0_4), (Vi a0_5)]), (Ag [(Vb a1_0), (Sl (Ki .u32) a1_1), (Vi a1_2), (Vb a1_3), (Sl (Ki .u32) a1_4), (Vi a1_5)]), (Ag [(Vb a0_0), (Sl (Ki .u32) a0_1), (Vi a0_2), (Vb a0_3), (Sl (Ki .u32) a0_4), (Vi a0_5)]), (Ag [(Vb a1_0), (Sl (Ki .u32) a1_1), (Vi a1_2), (Vb a1_3), (Sl (Ki .u32) a1_4), (Vi a1_5)])] [] (fun x : Unit => (Ag [(Vb r9.1), (Sl (Ki .u32) r9.2.1), (Vi r9.2.2)])) (fun x => [])) (Hn := fun x : Unit => [⟨.pointer (some q4), [(Vb false), Vn, (Vi 0)], 50, none⟩, ⟨.pointer (some q3), [(Vb a1_0), (Sl (Ki .u32) a1_1), (Vi a1_2), (Vb a1_3), (Sl (Ki .u32) a1_4), (Vi a1_5)], 53, none⟩, ⟨.pointer (some q2), [(Vb a0_0), (Sl (Ki .u32) a0_1), (Vi a0_2), (Vb a0_3), (Sl (Ki .u32) a0_4), (Vi a0_5)], 53, none⟩]) (fun _ => rfl) rfl rfl) (wt_none' rfl) fun ⟨⟩ => ?_
 refine sx_ox' (ox_store' (i := 0) (o := 0) rfl rfl (lv_ag _) ⟨rfl, rfl, rfl, rfl⟩ rfl info50 rfl (H' := [⟨.pointer (some q4), [(Vb r9.1), (Sl (Ki .u32) r9.2.1), (Vi r9.2.2)], 50, none⟩, ⟨.pointer (some q3), [(Vb a1_0), (Sl (Ki .u32) a1_1), (Vi a1_2), (Vb a1_3), (Sl (Ki .u32) a1_4), (Vi a1_5)], 53, none⟩, ⟨.pointer (some q2), [(Vb a0_0), (Sl (Ki .u32) a0_1), (Vi a0_2), (Vb a0_3), (Sl (Ki .u32) a0_4), (Vi a0_5)], 53, none⟩]) rfl) (wt_none' rfl) fun _ => ?_
 refine nk hK2 ?_
 refine cx_retc' ?_
 replace hp := Option.some.inj hp
 subst hp
 refine tx_pick' (L' := [(4, (Vp q4))]) (H' := [⟨.pointer (some q4), [(Vb r9.1), (Sl (Ki .u32) r9.2.1), (Vi r9.2.2)], 50, none⟩]) [0] (sub_cons rfl sub_nil) (by decide) (pick_cons rfl pick_nil) ?_
 exact tx_ret1' Tryz.results13 rfl () (rv_cell_agg' (i := 0) (o := 0) (nn := 3) rfl ⟨rfl, rfl, rfl, rfl⟩ rfl agg50 rfl) (List.nil_sublist _)

def spec_Whole_top_l1s  (k : Nat) (rec1 : (Int × Int) → Option (Int)) (x1 : Int) (x2 : Int) : Option (Int) :=
 br (decide (x2 < 2147483648))
  ((ishl .u32 x2 1) >>= fun r24 =>
  rec1 ((isub .i64 x1 1), r24))
  (some x1)
def spec_Whole_top_l1  : Nat → (Int × Int) → Option (Int)
 | 0, _ => none
 | k + 1, v => spec_Whole_top_l1s k (spec_Whole_top_l1 k) v.1 v.2
def spec_Whole_top (k : Nat) (a0_0 : Bool) (a0_1 : List Int) : Option (Int) :=
 br (decide ((a0_1.length : Int) = 0))
  (some 0)
  ((idx a0_1 (isub .i64 (a0_1.length : Int) 1)) >>= fun r19 =>
  (spec_Whole_top_l1 k ((imul .i64 32 (a0_1.length : Int)), r19)) >>= fun v2 =>
  some v2)

theorem spec_Whole_top_sim {k : Nat}  (a0_0 : Bool) (a0_1 : List Int) {out : Int} (hp : spec_Whole_top k a0_0 a0_1 = some out) : Sx.Fn Tryz.prog 30 [(Ag [(Vb a0_0), (Sl (Ki .u32) a0_1)])] [] (fun w : Unit => (Vi out)) (fun w => []) := by
 unfold spec_Whole_top at hp
 refine fn_of Tryz.func30 rfl Tryz.ntmps30 rfl fun E hM => ?_
 refine cr fun K1 hK1 => ?_
 refine sx_ox' (ox_box' rfl (lv_ag _) rfl rfl) (wt_none' rfl) fun q1 => ?_
 refine s0 (rd_assign' rfl) ?_
 refine nk hK1 ?_
 refine cx_seq' fun K2 hK2 => ?_
 refine cr fun K3 hK3 => ?_
 refine s0 (rd_field' (off := 1) rfl Tryz.underlying48 rfl info46 rfl) ?_
 refine s0 (rd_load' (i := 0) (o := 1) rfl ⟨rfl, rfl, rfl, rfl⟩ rfl flat46) ?_
 refine s0 (rd_len' rfl Tryz.underlying46) ?_
 refine s0 (rd_bin' rfl rfl eg_int ru_eql) ?_
 refine nk hK3 ?_
 refine cx_cond' rfl (fun h1 => ?_) (fun h1 => ?_)
 ·replace hp := (br_t h1).symm.trans hp
  refine cr fun K4 hK4 => ?_
  refine s0 (rd_assign' rfl) ?_
  refine nk hK4 ?_
  refine cx_retc' ?_
  replace hp := Option.some.inj hp
  subst hp
  refine tx_pick' (L' := [(2, (Vi 0))]) (H' := []) [] (sub_cons rfl sub_nil) (by decide) pick_nil ?_
  exact tx_ret1' Tryz.results30 rfl () (rv_tmp' rfl) (List.Sublist.refl _)
 replace hp := (br_f h1).symm.trans hp
 refine cx_skip' ?_
 show TX E K2 _
 refine tx_k' hK2 ?_
 refine cr fun K5 hK5 => ?_
 refine s0 (rd_field' (off := 1) rfl Tryz.underlying48 rfl info46 rfl) ?_
 refine s0 (rd_load' (i := 0) (o := 1) rfl ⟨rfl, rfl, rfl, rfl⟩ rfl flat46) ?_
 refine s0 (rd_len' rfl Tryz.underlying46) ?_
 refine s0 (rd_bin' rfl rfl eg_int ru_mul) ?_
 refine s0 (rd_assign' rfl) ?_
 refine nk hK5 ?_
 refine cx_seq' fun K6 hK6 => ?_
 refine cr fun K7 hK7 => ?_
 refine s0 (rd_field' (off := 1) rfl Tryz.underlying48 rfl info46 rfl) ?_
 refine s0 (rd_load' (i := 0) (o := 1) rfl ⟨rfl, rfl, rfl, rfl⟩ rfl flat46) ?_
 refine s0 (rd_field' (off := 1) rfl Tryz.underlying48 rfl info46 rfl) ?_
 refine s0 (rd_load' (i := 0) (o := 1) rfl ⟨rfl, rfl, rfl, rfl⟩ rfl flat46) ?_
 refine s0 (rd_len' rfl Tryz.underlying46) ?_
 refine s0 (rd_bin' rfl rfl eg_int ru_sub) ?_
 obtain ⟨r19, hr19, hp⟩ := bind_some hp
 refine s0 (rd_at' (K := (Ki .u32)) rfl rfl hr19 Tryz.underlying46 info126) ?_
 refine s0 (rd_load_pt' rfl rfl flat126) ?_
 refine s0 (rd_assign' rfl) ?_
 refine nk hK7 ?_
 refine cx_block' ?_
 obtain ⟨v2, hy1, hp⟩ := bind_some hp
 refine cx_loopg' (F := spec_Whole_top_l1) (G := fun k R v => spec_Whole_top_l1s k R v.1 v.2) (x := ((imul .i64 32 (a0_1.length : Int)), r19)) (gh := ()) (fun (v1 : Int × Int) (w1 : Unit) => (⟨28, [], [(3, (Vi v1.1)), (4, (Vl (.int .u32 v1.2)))], []⟩ : St)) (fun (v2 : Int) => Zg E (Exit.exit 0) (fun (w2 : Unit) => (⟨28, [], [(3, (Vi v2))], []⟩ : St))) (fun _ => rfl) (fun _ _ => rfl) ?_ hy1 (tx_to' rfl [] (sub_cons rfl (sub_cons rfl sub_nil)) (by decide) pick_nil) ?_
 ·clear hp hy1
  clear v2
  intro k rec1 KY1 ih1
  rintro ⟨x1, x2⟩ ⟨⟩ y1 hp
  replace hp : spec_Whole_top_l1s k rec1 x1 x2 = some y1 := hp
  unfold spec_Whole_top_l1s at hp
  refine cx_seq' fun K11 hK11 => ?_
  refine cr fun K12 hK12 => ?_
  refine s0 (rd_move' rfl) ?_
  refine s0 (rd_bin' rfl rfl eg_int ru_lss) ?_
  refine nk hK12 ?_
  refine cx_cond' rfl (fun h4 => ?_) (fun h4 => ?_)
  ·replace hp := (br_t h4).symm.trans hp
   refine cx_skip' ?_
   show TX E K11 _
   refine tx_k' hK11 ?_
   refine cx_seq' fun K13 hK13 => ?_
   refine cx_block' ?_
   refine cx_region' ?_
   refine s0 (rd_move' rfl) ?_
   refine s0 (rd_bin' rfl rfl eg_int ru_sub) ?_
   refine s0 (rd_assign' rfl) ?_
   refine nk hK13 ?_
   refine cx_region' ?_
   refine s0 (rd_move' rfl) ?_
   obtain ⟨r24, hr24, hp⟩ := bind_some hp
   refine s0 (rd_bin' rfl rfl eg_int (ru_shl hr24)) ?_
   refine s0 (rd_assign' rfl) ?_
   refine sx_nil' ?_
   show TX E (KY1 _) _
   exact tx_pick' [] (sub_cons rfl (sub_cons rfl sub_nil)) (by decide) pick_nil (ih1 ((isub .i64 x1 1), r24) () _ hp)
  replace hp := (br_f h4).symm.trans hp
  refine cx_exit' ?_
  replace hp := Option.some.inj hp
  subst hp
  show TX E (Zg E (Exit.exit 0) _ (Exit.exit 0)) _
  exact tx_zend' () rfl [] (sub_cons rfl sub_nil) (by decide) pick_nil
 refine zg_out fun w2 => ?_
 show TX E K6 _
 refine tx_k' hK6 ?_
 refine cr fun K14 hK14 => ?_
 refine s0 (rd_move' rfl) ?_
 refine s0 (rd_assign' rfl) ?_
 refine nk hK14 ?_
 refine cx_retc' ?_
 replace hp := Option.some.inj hp
 subst hp
 refine tx_pick' (L' := [(2, (Vi v2))]) (H' := []) [] (sub_cons rfl sub_nil) (by decide) pick_nil ?_
 exact tx_ret1' Tryz.results30 rfl () (rv_tmp' rfl) (List.Sublist.refl _)

def spec_Whole_bit_j2 (k : Nat) (x2 : Bool) : Option (Bool) :=
 some x2
def spec_Whole_bit_j1 (k : Nat) (a1 : Int) (a0_1 : List Int) (x1 : Bool) : Option (Bool) :=
 br x1
  ((iquo .i64 a1 32) >>= fun r19 =>
  (idx a0_1 r19) >>= fun r20 =>
  (irem a1 32) >>= fun r23 =>
  (ishr .u32 r20 r23) >>= fun r24 =>
  spec_Whole_bit_j2 k (decide ((iand .u32 r24 1) = 1)))
  (spec_Whole_bit_j2 k false)
def spec_Whole_bit (k : Nat) (a0_0 : Bool) (a0_1 : List Int) (a1 : Int) : Option (Bool) :=
 br (decide (0 ≤ a1))
  ((iquo .i64 a1 32) >>= fun r9 =>
  spec_Whole_bit_j1 k a1 a0_1 (decide (r9 < (a0_1.length : Int))))
  (spec_Whole_bit_j1 k a1 a0_1 false)

theorem spec_Whole_bit_sim {k : Nat}  (a0_0 : Bool) (a0_1 : List Int) (a1 : Int) {out : Bool} (hp : spec_Whole_bit k a0_0 a0_1 a1 = some out) : Sx.Fn Tryz.prog 31 [(Ag [(Vb a0_0), (Sl (Ki .u32) a0_1)]), (Vi a1)] [] (fun w : Unit => (Vb out)) (fun w => []) := by
 unfold spec_Whole_bit at hp
 refine fn_of Tryz.func31 rfl Tryz.ntmps31 rfl fun E hM => ?_
 refine cr fun K1 hK1 => ?_
 refine sx_ox' (ox_box' rfl (lv_ag _) rfl rfl) (wt_none' rfl) fun q2 => ?_
 refine s0 (rd_assign' rfl) ?_
 refine nk hK1 ?_
 refine cr fun K2 hK2 => ?_
 refine s0 (rd_move' rfl) ?_
 refine s0 (rd_bin' rfl rfl eg_int ru_geq) ?_
 refine s0 (rd_move' rfl) ?_
 refine sx_cutn' 7 (fun (v1 : Bool) => (⟨28, [], [(1, (Vi a1)), (2, (Vp q2)), (14, (Vb v1))], [⟨.pointer (some q2), [(Vb a0_0), (Sl (Ki .u32) a0_1)], 48, none⟩]⟩ : St)) (fun (v1 : Bool) => spec_Whole_bit_j1 k a1 a0_1 v1 = some out) ?_ ?_
 ·rintro x1 hp
  replace hp : spec_Whole_bit_j1 k a1 a0_1 x1 = some out := hp
  unfold spec_Whole_bit_j1 at hp
  refine s0 (rd_move' rfl) ?_
  refine sx_cutn' 12 (fun (v2 : Bool) => (⟨28, [], [(27, (Vb v2))], []⟩ : St)) (fun (v2 : Bool) => spec_Whole_bit_j2 k v2 = some out) ?_ ?_
  ·rintro x2 hp
   replace hp : spec_Whole_bit_j2 k x2 = some out := hp
   unfold spec_Whole_bit_j2 at hp
   refine s0 (rd_assign' rfl) ?_
   refine nk hK2 ?_
   refine cx_retc' ?_
   replace hp := Option.some.inj hp
   subst hp
   refine tx_pick' (L' := [(4, (Vb x2))]) (H' := []) [] (sub_cons rfl sub_nil) (by decide) pick_nil ?_
   exact tx_ret1' Tryz.results31 rfl () (rv_tmp' rfl) (List.Sublist.refl _)
  intro K4 hK4
  rcases br_cases hp with ⟨h2, hp⟩ | ⟨h2, hp⟩
  ·refine sx_rd' (rd_field' (off := 1) rfl Tryz.underlying48 rfl info46 rfl) rfl rfl (wt_is' (wt_guard' rfl rfl rfl) (beq_tt h2)) ?_
   refine sx_rd' (rd_load' (i := 0) (o := 1) rfl ⟨rfl, rfl, rfl, rfl⟩ rfl flat46) rfl rfl (wt_is' (wt_guard' rfl rfl rfl) (beq_tt h2)) ?_
   refine sx_rd' (rd_move' rfl) rfl rfl (wt_is' (wt_guard' rfl rfl rfl) (beq_tt h2)) ?_
   obtain ⟨r19, hr19, hp⟩ := bind_some hp
   refine sx_rd' (rd_bin' rfl rfl eg_int (ru_quo hr19)) rfl rfl (wt_is' (wt_guard' rfl rfl rfl) (beq_tt h2)) ?_
   obtain ⟨r20, hr20, hp⟩ := bind_some hp
   refine sx_rd' (rd_at' (K := (Ki .u32)) rfl rfl hr20 Tryz.underlying46 info126) rfl rfl (wt_is' (wt_guard' rfl rfl rfl) (beq_tt h2)) ?_
   refine sx_rd' (rd_load_pt' rfl rfl flat126) rfl rfl (wt_is' (wt_guard' rfl rfl rfl) (beq_tt h2)) ?_
   refine sx_rd' (rd_move' rfl) rfl rfl (wt_is' (wt_guard' rfl rfl rfl) (beq_tt h2)) ?_
   obtain ⟨r23, hr23, hp⟩ := bind_some hp
   refine sx_rd' (rd_bin' rfl rfl eg_int (ru_rem hr23)) rfl rfl (wt_is' (wt_guard' rfl rfl rfl) (beq_tt h2)) ?_
   obtain ⟨r24, hr24, hp⟩ := bind_some hp
   refine sx_rd' (rd_bin' rfl rfl eg_int (ru_shr hr24)) rfl rfl (wt_is' (wt_guard' rfl rfl rfl) (beq_tt h2)) ?_
   refine sx_rd' (rd_bin' rfl rfl eg_int ru_and) rfl rfl (wt_is' (wt_guard' rfl rfl rfl) (beq_tt h2)) ?_
   refine sx_rd' (rd_bin' rfl rfl eg_int ru_eql) rfl rfl (wt_is' (wt_guard' rfl rfl rfl) (beq_tt h2)) ?_
   refine s0 (rd_pick_true' rfl h2 rfl) ?_
   refine sx_nil' ?_
   show TX E K4 _
   exact tx_pick' [] (sub_cons rfl sub_nil) (by decide) pick_nil (hK4 (decide ((iand .u32 r24 1) = 1)) hp)
  refine sx_skip' rfl rfl (wt_is' (wt_guard' rfl rfl rfl) (beq_ft h2)) ?_
  refine sx_skip' rfl rfl (wt_is' (wt_guard' rfl rfl rfl) (beq_ft h2)) ?_
  refine sx_skip' rfl rfl (wt_is' (wt_guard' rfl rfl rfl) (beq_ft h2)) ?_
  refine sx_skip' rfl rfl (wt_is' (wt_guard' rfl rfl rfl) (beq_ft h2)) ?_
  refine sx_skip' rfl rfl (wt_is' (wt_guard' rfl rfl rfl) (beq_ft h2)) ?_
  refine sx_skip' rfl rfl (wt_is' (wt_guard' rfl rfl rfl) (beq_ft h2)) ?_
  refine sx_skip' rfl rfl (wt_is' (wt_guard' rfl rfl rfl) (beq_ft h2)) ?_
  refine sx_skip' rfl rfl (wt_is' (wt_guard' rfl rfl rfl) (beq_ft h2)) ?_
  refine sx_skip' rfl rfl (wt_is' (wt_guard' rfl rfl rfl) (beq_ft h2)) ?_
  refine sx_skip' rfl rfl (wt_is' (wt_guard' rfl rfl rfl) (beq_ft h2)) ?_
  refine sx_skip' rfl rfl (wt_is' (wt_guard' rfl rfl rfl) (beq_ft h2)) ?_
  refine s0 (rd_pick_false' rfl h2 rfl) ?_
  refine sx_nil' ?_
  show TX E K4 _
  exact tx_pick' [] (sub_cons rfl sub_nil) (by decide) pick_nil (hK4 false hp)
 intro K3 hK3
 rcases br_cases hp with ⟨h1, hp⟩ | ⟨h1, hp⟩
 ·refine sx_rd' (rd_move' rfl) rfl rfl (wt_is' (wt_guard' rfl rfl rfl) (beq_tt h1)) ?_
  obtain ⟨r9, hr9, hp⟩ := bind_some hp
  refine sx_rd' (rd_bin' rfl rfl eg_int (ru_quo hr9)) rfl rfl (wt_is' (wt_guard' rfl rfl rfl) (beq_tt h1)) ?_
  refine sx_rd' (rd_field' (off := 1) rfl Tryz.underlying48 rfl info46 rfl) rfl rfl (wt_is' (wt_guard' rfl rfl rfl) (beq_tt h1)) ?_
  refine sx_rd' (rd_load' (i := 0) (o := 1) rfl ⟨rfl, rfl, rfl, rfl⟩ rfl flat46) rfl rfl (wt_is' (wt_guard' rfl rfl rfl) (beq_tt h1)) ?_
  refine sx_rd' (rd_len' rfl Tryz.underlying46) rfl rfl (wt_is' (wt_guard' rfl rfl rfl) (beq_tt h1)) ?_
  refine sx_rd' (rd_bin' rfl rfl eg_int ru_lss) rfl rfl (wt_is' (wt_guard' rfl rfl rfl) (beq_tt h1)) ?_
  refine s0 (rd_pick_true' rfl h1 rfl) ?_
  refine sx_nil' ?_
  show TX E K3 _
  exact tx_pick' [0] (sub_cons rfl (sub_cons rfl (sub_cons rfl sub_nil))) (by decide) (pick_cons rfl pick_nil) (hK3 (decide (r9 < (a0_1.length : Int))) hp)
 refine sx_skip' rfl rfl (wt_is' (wt_guard' rfl rfl rfl) (beq_ft h1)) ?_
 refine sx_skip' rfl rfl (wt_is' (wt_guard' rfl rfl rfl) (beq_ft h1)) ?_
 refine sx_skip' rfl rfl (wt_is' (wt_guard' rfl rfl rfl) (beq_ft h1)) ?_
 refine sx_skip' rfl rfl (wt_is' (wt_guard' rfl rfl rfl) (beq_ft h1)) ?_
 refine sx_skip' rfl rfl (wt_is' (wt_guard' rfl rfl rfl) (beq_ft h1)) ?_
 refine sx_skip' rfl rfl (wt_is' (wt_guard' rfl rfl rfl) (beq_ft h1)) ?_
 refine s0 (rd_pick_false' rfl h1 rfl) ?_
 refine sx_nil' ?_
 show TX E K3 _
 exact tx_pick' [0] (sub_cons rfl (sub_cons rfl (sub_cons rfl sub_nil))) (by decide) (pick_cons rfl pick_nil) (hK3 false hp)

def spec_Whole_low_l1s (a1 : Int) (a0_0 : Bool) (a0_1 : List Int) (k : Nat) (rec1 : Int → Option (Unit ⊕ Unit)) (x1 : Int) : Option (Unit ⊕ Unit) :=
 br (decide (x1 < a1))
  ((spec_Whole_bit k a0_0 a0_1 x1) >>= fun r13 =>
  br r13
   (some (.inl ()))
   (rec1 (iadd .i64 x1 1)))
  (some (.inr ()))
def spec_Whole_low_l1 (a1 : Int) (a0_0 : Bool) (a0_1 : List Int) : Nat → Int → Option (Unit ⊕ Unit)
 | 0, _ => none
 | k + 1, v => spec_Whole_low_l1s a1 a0_0 a0_1 k (spec_Whole_low_l1 a1 a0_0 a0_1 k) v
def spec_Whole_low (k : Nat) (a0_0 : Bool) (a0_1 : List Int) (a1 : Int) : Option (Bool) :=
 (spec_Whole_low_l1 a1 a0_0 a0_1 k 0) >>= fun y1 => match y1 with
  | (.inl v2) =>
   (some true)
  | (.inr v3) =>
   (some false)

theorem spec_Whole_low_sim {k : Nat}  (a0_0 : Bool) (a0_1 : List Int) (a1 : Int) {out : Bool} (hp : spec_Whole_low k a0_0 a0_1 a1 = some out) : Sx.Fn Tryz.prog 32 [(Ag [(Vb a0_0), (Sl (Ki .u32) a0_1)]), (Vi a1)] [] (fun w : Unit => (Vb out)) (fun w => []) := by
 unfold spec_Whole_low at hp
 refine fn_of Tryz.func32 rfl Tryz.ntmps32 rfl fun E hM => ?_
 refine cr fun K1 hK1 => ?_
 refine sx_ox' (ox_box' rfl (lv_ag _) rfl rfl) (wt_none' rfl) fun q2 => ?_
 refine s0 (rd_assign' rfl) ?_
 refine nk hK1 ?_
 refine cx_seq' fun K2 hK2 => ?_
 refine cr fun K3 hK3 => ?_
 refine s0 (rd_assign' rfl) ?_
 refine nk hK3 ?_
 refine cx_block' ?_
 obtain ⟨y1, hy1, hp⟩ := bind_some hp
 refine cx_loopg' (F := spec_Whole_low_l1 a1 a0_0 a0_1) (G := fun k R v => spec_Whole_low_l1s a1 a0_0 a0_1 k R v) (x := 0) (gh := ()) (fun (v1 : Int) (w1 : Unit) => (⟨14, [], [(1, (Vi a1)), (2, (Vp q2)), (5, (Vi v1))], [⟨.pointer (some q2), [(Vb a0_0), (Sl (Ki .u32) a0_1)], 48, none⟩]⟩ : St)) (fun (y : Unit ⊕ Unit) => match y with | (.inl v2) => Zg E Exit.ret (fun (w2 : Unit) => (⟨14, [], [(4, (Vb true))], []⟩ : St)) | (.inr v3) => Zg E (Exit.exit 0) (fun (w3 : Unit) => (⟨14, [], [], []⟩ : St))) (fun _ => rfl) (fun _ _ => rfl) ?_ hy1 (tx_to' rfl [0] (sub_cons rfl (sub_cons rfl (sub_cons rfl sub_nil))) (by decide) (pick_cons rfl pick_nil)) ?_
 ·clear hp hy1
  clear y1
  intro k rec1 KY1 ih1
  rintro x1 ⟨⟩ y1 hp
  replace hp : spec_Whole_low_l1s a1 a0_0 a0_1 k rec1 x1 = some y1 := hp
  unfold spec_Whole_low_l1s at hp
  refine cx_seq' fun K9 hK9 => ?_
  refine cr fun K10 hK10 => ?_
  refine s0 (rd_move' rfl) ?_
  refine s0 (rd_move' rfl) ?_
  refine s0 (rd_bin' rfl rfl eg_int ru_lss) ?_
  refine nk hK10 ?_
  refine cx_cond' rfl (fun h4 => ?_) (fun h4 => ?_)
  ·replace hp := (br_t h4).symm.trans hp
   refine cx_skip' ?_
   show TX E K9 _
   refine tx_k' hK9 ?_
   refine cx_seq' fun K11 hK11 => ?_
   refine cx_block' ?_
   refine cr fun K12 hK12 => ?_
   refine s0 (rd_load_agg' (i := 0) (o := 0) (nn := 2) rfl ⟨rfl, rfl, rfl, rfl⟩ rfl agg48 (l' := [(Vb a0_0), (Sl (Ki .u32) a0_1)]) rfl) ?_
   refine s0 (rd_move' rfl) ?_
   obtain ⟨r13, hr13, hp⟩ := bind_some hp
   refine sx_ox' (ox_calln' (ent_fn' Tryz.func31 isn31 rfl rfl) (spec_Whole_bit_sim _ _ _ hr13 : Sx.Fn Tryz.prog 31 [(Ag [(Vb a0_0), (Sl (Ki .u32) a0_1)]), (Vi x1)] [] (fun x : Unit => (Vb r13)) (fun x => [])) (Hn := fun x : Unit => [⟨.pointer (some q2), [(Vb a0_0), (Sl (Ki .u32) a0_1)], 48, none⟩]) (fun _ => rfl) rfl rfl) (wt_none' rfl) fun ⟨⟩ => ?_
   refine nk hK12 ?_
   refine cx_cond' rfl (fun h5 => ?_) (fun h5 => ?_)
   ·replace hp := (br_t h5).symm.trans hp
    refine cr fun K13 hK13 => ?_
    refine s0 (rd_assign' rfl) ?_
    refine nk hK13 ?_
    refine cx_retc' ?_
    replace hp := Option.some.inj hp
    subst hp
    show TX E (Zg E Exit.ret _ Exit.ret) _
    exact tx_zend' () rfl [] (sub_cons rfl sub_nil) (by decide) pick_nil
   replace hp := (br_f h5).symm.trans hp
   refine cx_skip' ?_
   show TX E K11 _
   refine tx_k' hK11 ?_
   refine cx_region' ?_
   refine s0 (rd_move' rfl) ?_
   refine s0 (rd_bin' rfl rfl eg_int ru_add) ?_
   refine s0 (rd_assign' rfl) ?_
   refine sx_nil' ?_
   show TX E (KY1 _) _
   exact tx_pick' [0] (sub_cons rfl (sub_cons rfl (sub_cons rfl sub_nil))) (by decide) (pick_cons rfl pick_nil) (ih1 (iadd .i64 x1 1) () _ hp)
  replace hp := (br_f h4).symm.trans hp
  refine cx_exit' ?_
  replace hp := Option.some.inj hp
  subst hp
  show TX E (Zg E (Exit.exit 0) _ (Exit.exit 0)) _
  exact tx_zend' () rfl [] sub_nil (by decide) pick_nil
 rcases y1 with v2 | v3
 ·dsimp only at hp
  refine zg_out fun w2 => ?_
  replace hp := Option.some.inj hp
  subst hp
  refine tx_pick' (L' := [(4, (Vb true))]) (H' := []) [] (sub_cons rfl sub_nil) (by decide) pick_nil ?_
  exact tx_ret1' Tryz.results32 rfl () (rv_tmp' rfl) (List.Sublist.refl _)
 dsimp only at hp
 refine zg_out fun w3 => ?_
 show TX E K2 _
 refine tx_k' hK2 ?_
 refine cr fun K14 hK14 => ?_
 refine s0 (rd_assign' rfl) ?_
 refine nk hK14 ?_
 refine cx_retc' ?_
 replace hp := Option.some.inj hp
 subst hp
 refine tx_pick' (L' := [(4, (Vb false))]) (H' := []) [] (sub_cons rfl sub_nil) (by decide) pick_nil ?_
 exact tx_ret1' Tryz.results32 rfl () (rv_tmp' rfl) (List.Sublist.refl _)

def math_IsInf_j1 (k : Nat) (x1 : Nat) : Option (Bool) :=
 some (fgt x1 9218868437227405311)
def math_IsInf (k : Nat) (a0 : Nat) (a1 : Int) : Option (Bool) :=
 br (decide (a1 = 0))
  ((math_Abs k a0) >>= fun r8 =>
  math_IsInf_j1 k r8)
  (br (decide (a1 < 0))
   (math_IsInf_j1 k (fneg a0))
   (math_IsInf_j1 k a0))

theorem math_IsInf_sim {k : Nat}  (a0 : Nat) (a1 : Int) {out : Bool} (hp : math_IsInf k a0 a1 = some out) : Sx.Fn Tryz.prog 83 [(Vg a0), (Vi a1)] [] (fun w : Unit => (Vb out)) (fun w => []) := by
 unfold math_IsInf at hp
 refine fn_of Tryz.func83 rfl Tryz.ntmps83 rfl fun E hM => ?_
 refine cr fun K1 hK1 => ?_
 refine s0 (rd_assign' rfl) ?_
 refine nk hK1 ?_
 refine cx_join' (fun (v1 : Nat) => (⟨15, [], [(0, (Vg v1))], []⟩ : St)) (fun (v1 : Nat) => math_IsInf_j1 k v1 = some out) ?_ ?_
 ·rintro x1 hp
  replace hp : math_IsInf_j1 k x1 = some out := hp
  unfold math_IsInf_j1 at hp
  refine cr fun K5 hK5 => ?_
  refine s0 (rd_move' rfl) ?_
  refine s0 (rd_bin' rfl rfl eg_flt ru_fgt) ?_
  refine s0 (rd_assign' rfl) ?_
  refine nk hK5 ?_
  refine cx_retc' ?_
  replace hp := Option.some.inj hp
  subst hp
  refine tx_pick' (L' := [(4, (Vb (fgt x1 9218868437227405311)))]) (H' := []) [] (sub_cons rfl sub_nil) (by decide) pick_nil ?_
  exact tx_ret1' Tryz.results83 rfl () (rv_tmp' rfl) (List.Sublist.refl _)
 intro K2 hK2
 refine cr fun K3 hK3 => ?_
 refine s0 (rd_move' rfl) ?_
 refine s0 (rd_bin' rfl rfl eg_int ru_eql) ?_
 refine nk hK3 ?_
 refine cx_cond' rfl (fun h1 => ?_) (fun h1 => ?_)
 ·replace hp := (br_t h1).symm.trans hp
  refine cx_region' ?_
  refine s0 (rd_move' rfl) ?_
  obtain ⟨r8, hr8, hp⟩ := bind_some hp
  refine sx_ox' (ox_calln' (ent_fn' Tryz.func60 isn60 rfl rfl) (math_Abs_sim _ hr8 : Sx.Fn Tryz.prog 60 [(Vg a0)] [] (fun x : Unit => (Vg r8)) (fun x => [])) (Hn := fun x : Unit => []) (fun _ => rfl) rfl rfl) (wt_none' rfl) fun ⟨⟩ => ?_
  refine s0 (rd_assign' rfl) ?_
  refine sx_nil' ?_
  show TX E K2 _
  exact tx_pick' [] (sub_cons rfl sub_nil) (by decide) pick_nil (hK2 r8 hp)
 replace hp := (br_f h1).symm.trans hp
 refine cr fun K4 hK4 => ?_
 refine s0 (rd_move' rfl) ?_
 refine s0 (rd_bin' rfl rfl eg_int ru_lss) ?_
 refine nk hK4 ?_
 refine cx_cond' rfl (fun h2 => ?_) (fun h2 => ?_)
 ·replace hp := (br_t h2).symm.trans hp
  refine cx_region' ?_
  refine s0 (rd_move' rfl) ?_
  refine s0 (rd_un' rfl ru_fneg) ?_
  refine s0 (rd_assign' rfl) ?_
  refine sx_nil' ?_
  show TX E K2 _
  exact tx_pick' [] (sub_cons rfl sub_nil) (by decide) pick_nil (hK2 (fneg a0) hp)
 replace hp := (br_f h2).symm.trans hp
 refine cx_skip' ?_
 show TX E K2 _
 exact tx_pick' [] (sub_cons rfl sub_nil) (by decide) pick_nil (hK2 a0 hp)

def math_IsNaN (k : Nat) (a0 : Nat) : Option (Bool) :=
 some (fne a0 a0)

theorem math_IsNaN_sim {k : Nat}  (a0 : Nat) {out : Bool} (hp : math_IsNaN k a0 = some out) : Sx.Fn Tryz.prog 84 [(Vg a0)] [] (fun w : Unit => (Vb out)) (fun w => []) := by
 unfold math_IsNaN at hp
 refine fn_of Tryz.func84 rfl Tryz.ntmps84 rfl fun E hM => ?_
 refine cr fun K1 hK1 => ?_
 refine s0 (rd_assign' rfl) ?_
 refine nk hK1 ?_
 refine cr fun K2 hK2 => ?_
 refine s0 (rd_move' rfl) ?_
 refine s0 (rd_move' rfl) ?_
 refine s0 (rd_bin' rfl rfl eg_flt ru_fne) ?_
 refine s0 (rd_assign' rfl) ?_
 refine nk hK2 ?_
 refine cx_retc' ?_
 replace hp := Option.some.inj hp
 subst hp
 refine tx_pick' (L' := [(2, (Vb (fne a0 a0)))]) (H' := []) [] (sub_cons rfl sub_nil) (by decide) pick_nil ?_
 exact tx_ret1' Tryz.results84 rfl () (rv_tmp' rfl) (List.Sublist.refl _)

def math_normalize (k : Nat) (a0 : Nat) : Option (Nat × Int) :=
 (math_Abs k a0) >>= fun r5 =>
 br (flt r5 4503599627370496)
  ((some (gmul a0 4841369599423283200)) >>= fun r8 =>
  some (r8, (-52)))
  (some (a0, 0))

theorem math_normalize_sim {k : Nat}  (a0 : Nat) {out : Nat × Int} (hp : math_normalize k a0 = some out) : Sx.Fn Tryz.prog 85 [(Vg a0)] [] (fun w : Unit => (Tu [(Fl out.1), (Vi out.2)])) (fun w => []) := by
 unfold math_normalize at hp
 refine fn_of Tryz.func85 rfl Tryz.ntmps85 rfl fun E hM => ?_
 refine cr fun K1 hK1 => ?_
 refine s0 (rd_assign' rfl) ?_
 refine s0 (rd_assign' rfl) ?_
 refine nk hK1 ?_
 refine cx_seq' fun K2 hK2 => ?_
 refine cr fun K3 hK3 => ?_
 refine s0 (rd_move' rfl) ?_
 obtain ⟨r5, hr5, hp⟩ := bind_some hp
 refine sx_ox' (ox_calln' (ent_fn' Tryz.func60 isn60 rfl rfl) (math_Abs_sim _ hr5 : Sx.Fn Tryz.prog 60 [(Vg a0)] [] (fun x : Unit => (Vg r5)) (fun x => [])) (Hn := fun x : Unit => []) (fun _ => rfl) rfl rfl) (wt_none' rfl) fun ⟨⟩ => ?_
 refine s0 (rd_bin' rfl rfl eg_flt ru_flt) ?_
 refine nk hK3 ?_
 refine cx_cond' rfl (fun h1 => ?_) (fun h1 => ?_)
 ·replace hp := (br_t h1).symm.trans hp
  refine cr fun K4 hK4 => ?_
  refine s0 (rd_move' rfl) ?_
  obtain ⟨r8, hr8, hp⟩ := bind_some hp
  refine sx_ox' (ox_fop' (.inr (.inr (.inl rfl))) (fl_v rfl) (fl_v rfl) (Option.some.inj hr8) rfl rfl) (wt_none' rfl) fun _ => ?_
  refine s0 (rd_assign' rfl) ?_
  refine s0 (rd_assign' rfl) ?_
  refine nk hK4 ?_
  refine cx_retc' ?_
  replace hp := Option.some.inj hp
  subst hp
  refine tx_pick' (L' := [(2, (Fl r8)), (3, (Vi (-52)))]) (H' := []) [] (sub_cons rfl (sub_cons rfl sub_nil)) (by decide) pick_nil ?_
  exact tx_ret2' Tryz.results85 rfl () (rv_tmp' rfl) (rv_tmp' rfl) rfl (List.Sublist.refl _)
 replace hp := (br_f h1).symm.trans hp
 refine cx_skip' ?_
 show TX E K2 _
 refine tx_k' hK2 ?_
 refine cr fun K5 hK5 => ?_
 refine s0 (rd_move' rfl) ?_
 refine s0 (rd_assign' rfl) ?_
 refine s0 (rd_assign' rfl) ?_
 refine nk hK5 ?_
 refine cx_retc' ?_
 replace hp := Option.some.inj hp
 subst hp
 refine tx_pick' (L' := [(2, (Vg a0)), (3, (Vi 0))]) (H' := []) [] (sub_cons rfl (sub_cons rfl sub_nil)) (by decide) pick_nil ?_
 exact tx_ret2' Tryz.results85 rfl () (rv_imp' (x := (Vg a0)) (y := (Fl a0)) (rv_tmp' rfl) imp_vf) (rv_tmp' rfl) rfl (List.Sublist.refl _)

def math_Copysign (k : Nat) (a0 : Nat) (a1 : Nat) : Option (Nat) :=
 some (ffrom (ior .u64 (iandn .u64 (fbits a0) 9223372036854775808) (iand .u64 (fbits a1) 9223372036854775808)))

theorem math_Copysign_sim {k : Nat}  (a0 : Nat) (a1 : Nat) {out : Nat} (hp : math_Copysign k a0 a1 = some out) : Sx.Fn Tryz.prog 86 [(Vg a0), (Vg a1)] [] (fun w : Unit => (Vg out)) (fun w => []) := by
 unfold math_Copysign at hp
 refine fn_of Tryz.func86 rfl Tryz.ntmps86 rfl fun E hM => ?_
 refine cr fun K1 hK1 => ?_
 refine s0 (rd_assign' rfl) ?_
 refine nk hK1 ?_
 refine cr fun K2 hK2 => ?_
 refine s0 (rd_move' rfl) ?_
 refine s0 (rd_ext' (us := [.float .f64 a0]) rfl (ext78 ex_bits)) ?_
 refine s0 (rd_bin' rfl rfl eg_int ru_andn) ?_
 refine s0 (rd_move' rfl) ?_
 refine s0 (rd_ext' (us := [.float .f64 a1]) rfl (ext78 ex_bits)) ?_
 refine s0 (rd_bin' rfl rfl eg_int ru_and) ?_
 refine s0 (rd_bin' rfl rfl eg_int ru_or) ?_
 refine s0 (rd_ext' (us := [.int .u64 (ior .u64 (iandn .u64 (fbits a0) 9223372036854775808) (iand .u64 (fbits a1) 9223372036854775808))]) rfl (ext77 ex_from)) ?_
 refine s0 (rd_assign' rfl) ?_
 refine nk hK2 ?_
 refine cx_retc' ?_
 replace hp := Option.some.inj hp
 subst hp
 refine tx_pick' (L' := [(4, (Vg (ffrom (ior .u64 (iandn .u64 (fbits a0) 9223372036854775808) (iand .u64 (fbits a1) 9223372036854775808)))))]) (H' := []) [] (sub_cons rfl sub_nil) (by decide) pick_nil ?_
 exact tx_ret1' Tryz.results86 rfl () (rv_tmp' rfl) (List.Sublist.refl _)

def math_Inf_j1 (k : Nat) (x1 : Int) : Option (Nat) :=
 some (ffrom x1)
def math_Inf (k : Nat) (a0 : Int) : Option (Nat) :=
 br (decide (0 ≤ a0))
  (math_Inf_j1 k 9218868437227405312)
  (math_Inf_j1 k 18442240474082181120)

theorem math_Inf_sim {k : Nat}  (a0 : Int) {out : Nat} (hp : math_Inf k a0 = some out) : Sx.Fn Tryz.prog 87 [(Vi a0)] [] (fun w : Unit => (Vg out)) (fun w => []) := by
 unfold math_Inf at hp
 refine fn_of Tryz.func87 rfl Tryz.ntmps87 rfl fun E hM => ?_
 refine cr fun K1 hK1 => ?_
 refine s0 (rd_assign' rfl) ?_
 refine nk hK1 ?_
 refine cr fun K2 hK2 => ?_
 refine s0 (rd_assign' rfl) ?_
 refine nk hK2 ?_
 refine cx_join' (fun (v1 : Int) => (⟨8, [], [(3, (Vl (.int .u64 v1)))], []⟩ : St)) (fun (v1 : Int) => math_Inf_j1 k v1 = some out) ?_ ?_
 ·rintro x1 hp
  replace hp : math_Inf_j1 k x1 = some out := hp
  unfold math_Inf_j1 at hp
  refine cr fun K5 hK5 => ?_
  refine s0 (rd_move' rfl) ?_
  refine s0 (rd_ext' (us := [.int .u64 x1]) rfl (ext77 ex_from)) ?_
  refine s0 (rd_assign' rfl) ?_
  refine nk hK5 ?_
  refine cx_retc' ?_
  replace hp := Option.some.inj hp
  subst hp
  refine tx_pick' (L' := [(2, (Vg (ffrom x1)))]) (H' := []) [] (sub_cons rfl sub_nil) (by decide) pick_nil ?_
  exact tx_ret1' Tryz.results87 rfl () (rv_tmp' rfl) (List.Sublist.refl _)
 intro K3 hK3
 refine cr fun K4 hK4 => ?_
 refine s0 (rd_move' rfl) ?_
 refine s0 (rd_bin' rfl rfl eg_int ru_geq) ?_
 refine nk hK4 ?_
 refine cx_cond' rfl (fun h1 => ?_) (fun h1 => ?_)
 ·replace hp := (br_t h1).symm.trans hp
  refine cx_region' ?_
  refine s0 (rd_assign' rfl) ?_
  refine sx_nil' ?_
  show TX E K3 _
  exact tx_pick' [] (sub_cons rfl sub_nil) (by decide) pick_nil (hK3 9218868437227405312 hp)
 replace hp := (br_f h1).symm.trans hp
 refine cx_region' ?_
 refine s0 (rd_assign' rfl) ?_
 refine sx_nil' ?_
 show TX E K3 _
 exact tx_pick' [] (sub_cons rfl sub_nil) (by decide) pick_nil (hK3 18442240474082181120 hp)

def math_ldexp_j2 (k : Nat) (r22 : Nat × Int) (x2 : Int) (x3 : Nat) : Option (Nat) :=
 (ishl .u64 (icv .u64 (iadd .i64 x2 1023)) 52) >>= fun r57 =>
 (some (gmul x3 (ffrom (ior .u64 (iandn .u64 (fbits r22.1) 9218868437227405312) r57)))) >>= fun r62 =>
 some r62
def math_ldexp_j1 (k : Nat) (a0 : Nat) (a1 : Int) (x1 : Bool) : Option (Nat) :=
 br x1
  (some a0)
  ((math_normalize k a0) >>= fun r22 =>
  (num r22.1) >>= fun u1 =>
  (ishr .u64 (fbits r22.1) 52) >>= fun r32 =>
  br (decide ((iadd .i64 (iadd .i64 a1 r22.2) (isub .i64 (iand .i64 (icv .i64 r32) 2047) 1023)) < (-1075)))
   ((num r22.1) >>= fun u2 =>
   (math_Copysign k 0 r22.1) >>= fun r40 =>
   some r40)
   (br (decide (1023 < (iadd .i64 (iadd .i64 a1 r22.2) (isub .i64 (iand .i64 (icv .i64 r32) 2047) 1023))))
    (br (flt r22.1 0)
     ((math_Inf k (-1)) >>= fun r45 =>
     some r45)
     ((math_Inf k 1) >>= fun r46 =>
     some r46))
    (br (decide ((iadd .i64 (iadd .i64 a1 r22.2) (isub .i64 (iand .i64 (icv .i64 r32) 2047) 1023)) < (-1022)))
     (math_ldexp_j2 k r22 (iadd .i64 (iadd .i64 (iadd .i64 a1 r22.2) (isub .i64 (iand .i64 (icv .i64 r32) 2047) 1023)) 53) 4368491638549381120)
     (math_ldexp_j2 k r22 (iadd .i64 (iadd .i64 a1 r22.2) (isub .i64 (iand .i64 (icv .i64 r32) 2047) 1023)) 4607182418800017408))))
def math_ldexp (k : Nat) (a0 : Nat) (a1 : Int) : Option (Nat) :=
 br (feq a0 0)
  (some a0)
  ((math_IsInf k a0 0) >>= fun r14 =>
  br r14
   (math_ldexp_j1 k a0 a1 true)
   ((math_IsNaN k a0) >>= fun r17 =>
   math_ldexp_j1 k a0 a1 r17))

theorem math_ldexp_sim {k : Nat}  (a0 : Nat) (a1 : Int) {out : Nat} (hp : math_ldexp k a0 a1 = some out) : Sx.Fn Tryz.prog 68 [(Vg a0), (Vi a1)] [] (fun w : Unit => (Fl out)) (fun w => []) := by
 unfold math_ldexp at hp
 refine fn_of Tryz.func68 rfl Tryz.ntmps68 rfl fun E hM => ?_
 refine cr fun K1 hK1 => ?_
 refine s0 (rd_assign' rfl) ?_
 refine nk hK1 ?_
 refine cx_seq' fun K2 hK2 => ?_
 refine cx_block' ?_
 refine cr fun K3 hK3 => ?_
 refine s0 (rd_move' rfl) ?_
 refine s0 (rd_bin' rfl rfl eg_flt ru_feq) ?_
 refine s0 (rd_assign' rfl) ?_
 refine nk hK3 ?_
 refine cx_cond' rfl (fun h1 => ?_) (fun h1 => ?_)
 ·replace hp := (br_t h1).symm.trans hp
  refine cr fun K4 hK4 => ?_
  refine s0 (rd_move' rfl) ?_
  refine s0 (rd_assign' rfl) ?_
  refine nk hK4 ?_
  refine cx_retc' ?_
  replace hp := Option.some.inj hp
  subst hp
  refine tx_pick' (L' := [(4, (Vg a0))]) (H' := []) [] (sub_cons rfl sub_nil) (by decide) pick_nil ?_
  exact tx_ret1' Tryz.results68 rfl () (rv_imp' (x := (Vg a0)) (y := (Fl a0)) (rv_tmp' rfl) imp_vf) (List.Sublist.refl _)
 replace hp := (br_f h1).symm.trans hp
 refine cr fun K5 hK5 => ?_
 refine s0 (rd_move' rfl) ?_
 obtain ⟨r14, hr14, hp⟩ := bind_some hp
 refine sx_ox' (ox_calln' (ent_fn' Tryz.func83 isn83 rfl rfl) (math_IsInf_sim _ _ hr14 : Sx.Fn Tryz.prog 83 [(Vg a0), (Vi 0)] [] (fun x : Unit => (Vb r14)) (fun x => [])) (Hn := fun x : Unit => []) (fun _ => rfl) rfl rfl) (wt_none' rfl) fun ⟨⟩ => ?_
 refine s0 (rd_move' rfl) ?_
 refine sx_cutn' 3 (fun (v1 : Bool) => (⟨63, [], [(0, (Vg a0)), (1, (Vi a1)), (18, (Vb v1))], []⟩ : St)) (fun (v1 : Bool) => math_ldexp_j1 k a0 a1 v1 = some out) ?_ ?_
 ·rintro x1 hp
  replace hp : math_ldexp_j1 k a0 a1 x1 = some out := hp
  unfold math_ldexp_j1 at hp
  refine s0 (rd_assign' rfl) ?_
  refine nk hK5 ?_
  refine cx_cond' rfl (fun h3 => ?_) (fun h3 => ?_)
  ·replace hp := (br_t h3).symm.trans hp
   refine cr fun K7 hK7 => ?_
   refine s0 (rd_move' rfl) ?_
   refine s0 (rd_assign' rfl) ?_
   refine nk hK7 ?_
   refine cx_retc' ?_
   replace hp := Option.some.inj hp
   subst hp
   refine tx_pick' (L' := [(4, (Vg a0))]) (H' := []) [] (sub_cons rfl sub_nil) (by decide) pick_nil ?_
   exact tx_ret1' Tryz.results68 rfl () (rv_imp' (x := (Vg a0)) (y := (Fl a0)) (rv_tmp' rfl) imp_vf) (List.Sublist.refl _)
  replace hp := (br_f h3).symm.trans hp
  refine cx_skip' ?_
  show TX E K2 _
  refine tx_k' hK2 ?_
  refine cr fun K8 hK8 => ?_
  refine s0 (rd_move' rfl) ?_
  obtain ⟨r22, hr22, hp⟩ := bind_some hp
  refine sx_ox' (ox_calln' (ent_fn' Tryz.func85 isn85 rfl rfl) (math_normalize_sim _ hr22 : Sx.Fn Tryz.prog 85 [(Vg a0)] [] (fun x : Unit => (Tu [(Fl r22.1), (Vi r22.2)])) (fun x => [])) (Hn := fun x : Unit => []) (fun _ => rfl) rfl rfl) (wt_none' rfl) fun ⟨⟩ => ?_
  refine s0 (rd_move' rfl) ?_
  refine s0 (rd_extract' rfl rfl) ?_
  refine s0 (rd_extract' rfl rfl) ?_
  refine s0 (rd_assign' rfl) ?_
  refine s0 (rd_assign' rfl) ?_
  refine nk hK8 ?_
  refine cr fun K9 hK9 => ?_
  refine s0 (rd_move' rfl) ?_
  refine s0 (rd_move' rfl) ?_
  refine s0 (rd_bin' rfl rfl eg_int ru_add) ?_
  refine s0 (rd_assign' rfl) ?_
  refine nk hK9 ?_
  refine cr fun K10 hK10 => ?_
  refine s0 (rd_move' rfl) ?_
  obtain ⟨u1, hu1, hp⟩ := bind_some hp
  refine tx_slot' 28 (y := (Vg r22.1)) rfl (imp_num (num_some hu1).2) ?_
  refine s0 (rd_ext' (us := [.float .f64 r22.1]) rfl (ext78 ex_bits)) ?_
  refine s0 (rd_assign' rfl) ?_
  refine nk hK10 ?_
  refine cr fun K11 hK11 => ?_
  refine s0 (rd_move' rfl) ?_
  refine s0 (rd_move' rfl) ?_
  obtain ⟨r32, hr32, hp⟩ := bind_some hp
  refine s0 (rd_bin' rfl rfl eg_int (ru_shr hr32)) ?_
  refine s0 (rd_conv' rfl (ru_i2i (by rw [Tryz.underlying77]; rfl) Tryz.underlying3)) ?_
  refine s0 (rd_bin' rfl rfl eg_int ru_and) ?_
  refine s0 (rd_bin' rfl rfl eg_int ru_sub) ?_
  refine s0 (rd_bin' rfl rfl eg_int ru_add) ?_
  refine s0 (rd_assign' rfl) ?_
  refine nk hK11 ?_
  refine cx_seq' fun K12 hK12 => ?_
  refine cr fun K13 hK13 => ?_
  refine s0 (rd_move' rfl) ?_
  refine s0 (rd_bin' rfl rfl eg_int ru_lss) ?_
  refine nk hK13 ?_
  refine cx_cond' rfl (fun h4 => ?_) (fun h4 => ?_)
  ·replace hp := (br_t h4).symm.trans hp
   refine cr fun K14 hK14 => ?_
   refine s0 (rd_move' rfl) ?_
   obtain ⟨u2, hu2, hp⟩ := bind_some hp
   refine tx_slot' 39 (y := (Vg r22.1)) rfl (imp_num (num_some hu2).2) ?_
   obtain ⟨r40, hr40, hp⟩ := bind_some hp
   refine sx_ox' (ox_calln' (ent_fn' Tryz.func86 isn86 rfl rfl) (math_Copysign_sim _ _ hr40 : Sx.Fn Tryz.prog 86 [(Vg 0), (Vg r22.1)] [] (fun x : Unit => (Vg r40)) (fun x => [])) (Hn := fun x : Unit => []) (fun _ => rfl) rfl rfl) (wt_none' rfl) fun ⟨⟩ => ?_
   refine s0 (rd_assign' rfl) ?_
   refine nk hK14 ?_
   refine cx_retc' ?_
   replace hp := Option.some.inj hp
   subst hp
   refine tx_pick' (L' := [(4, (Vg r40))]) (H' := []) [] (sub_cons rfl sub_nil) (by decide) pick_nil ?_
   exact tx_ret1' Tryz.results68 rfl () (rv_imp' (x := (Vg r40)) (y := (Fl r40)) (rv_tmp' rfl) imp_vf) (List.Sublist.refl _)
  replace hp := (br_f h4).symm.trans hp
  refine cx_skip' ?_
  show TX E K12 _
  refine tx_k' hK12 ?_
  refine cx_seq' fun K15 hK15 => ?_
  refine cr fun K16 hK16 => ?_
  refine s0 (rd_move' rfl) ?_
  refine s0 (rd_bin' rfl rfl eg_int ru_gtr) ?_
  refine nk hK16 ?_
  refine cx_cond' rfl (fun h5 => ?_) (fun h5 => ?_)
  ·replace hp := (br_t h5).symm.trans hp
   refine cx_seq' fun K17 hK17 => ?_
   refine cr fun K18 hK18 => ?_
   refine s0 (rd_move' rfl) ?_
   refine s0 (rd_fcmp' (fl_f rfl) (fl_v rfl) rfl) ?_
   refine nk hK18 ?_
   refine cx_cond' rfl (fun h6 => ?_) (fun h6 => ?_)
   ·replace hp := (br_t h6).symm.trans hp
    refine cr fun K19 hK19 => ?_
    obtain ⟨r45, hr45, hp⟩ := bind_some hp
    refine sx_ox' (ox_calln' (ent_fn' Tryz.func87 isn87 rfl rfl) (math_Inf_sim _ hr45 : Sx.Fn Tryz.prog 87 [(Vi (-1))] [] (fun x : Unit => (Vg r45)) (fun x => [])) (Hn := fun x : Unit => []) (fun _ => rfl) rfl rfl) (wt_none' rfl) fun ⟨⟩ => ?_
    refine s0 (rd_assign' rfl) ?_
    refine nk hK19 ?_
    refine cx_retc' ?_
    replace hp := Option.some.inj hp
    subst hp
    refine tx_pick' (L' := [(4, (Vg r45))]) (H' := []) [] (sub_cons rfl sub_nil) (by decide) pick_nil ?_
    exact tx_ret1' Tryz.results68 rfl () (rv_imp' (x := (Vg r45)) (y := (Fl r45)) (rv_tmp' rfl) imp_vf) (List.Sublist.refl _)
   replace hp := (br_f h6).symm.trans hp
   refine cx_skip' ?_
   show TX E K17 _
   refine tx_k' hK17 ?_
   refine cr fun K20 hK20 => ?_
   obtain ⟨r46, hr46, hp⟩ := bind_some hp
   refine sx_ox' (ox_calln' (ent_fn' Tryz.func87 isn87 rfl rfl) (math_Inf_sim _ hr46 : Sx.Fn Tryz.prog 87 [(Vi 1)] [] (fun x : Unit => (Vg r46)) (fun x => [])) (Hn := fun x : Unit => []) (fun _ => rfl) rfl rfl) (wt_none' rfl) fun ⟨⟩ => ?_
   refine s0 (rd_assign' rfl) ?_
   refine nk hK20 ?_
   refine cx_retc' ?_
   replace hp := Option.some.inj hp
   subst hp
   refine tx_pick' (L' := [(4, (Vg r46))]) (H' := []) [] (sub_cons rfl sub_nil) (by decide) pick_nil ?_
   exact tx_ret1' Tryz.results68 rfl () (rv_imp' (x := (Vg r46)) (y := (Fl r46)) (rv_tmp' rfl) imp_vf) (List.Sublist.refl _)
  replace hp := (br_f h5).symm.trans hp
  refine cx_skip' ?_
  show TX E K15 _
  refine tx_k' hK15 ?_
  refine cr fun K21 hK21 => ?_
  refine s0 (rd_assign' rfl) ?_
  refine nk hK21 ?_
  refine cx_join' (fun (v2 : Int × Nat) => (⟨63, [], [(1, (Vi v2.1)), (6, (Vl (.int .u64 (fbits r22.1)))), (7, (Vg v2.2))], []⟩ : St)) (fun (v2 : Int × Nat) => math_ldexp_j2 k r22 v2.1 v2.2 = some out) ?_ ?_
  ·rintro ⟨x2, x3⟩ hp
   replace hp : math_ldexp_j2 k r22 x2 x3 = some out := hp
   unfold math_ldexp_j2 at hp
   refine cr fun K25 hK25 => ?_
   refine s0 (rd_move' rfl) ?_
   refine s0 (rd_bin' rfl rfl eg_int ru_andn) ?_
   refine s0 (rd_assign' rfl) ?_
   refine nk hK25 ?_
   refine cr fun K26 hK26 => ?_
   refine s0 (rd_move' rfl) ?_
   refine s0 (rd_move' rfl) ?_
   refine s0 (rd_bin' rfl rfl eg_int ru_add) ?_
   refine s0 (rd_conv' rfl (ru_i2i (by rw [Tryz.underlying3]; rfl) Tryz.underlying77)) ?_
   obtain ⟨r57, hr57, hp⟩ := bind_some hp
   refine s0 (rd_bin' rfl rfl eg_int (ru_shl hr57)) ?_
   refine s0 (rd_bin' rfl rfl eg_int ru_or) ?_
   refine s0 (rd_assign' rfl) ?_
   refine nk hK26 ?_
   refine cr fun K27 hK27 => ?_
   refine s0 (rd_move' rfl) ?_
   refine s0 (rd_move' rfl) ?_
   refine s0 (rd_ext' (us := [.int .u64 (ior .u64 (iandn .u64 (fbits r22.1) 9218868437227405312) r57)]) rfl (ext77 ex_from)) ?_
   obtain ⟨r62, hr62, hp⟩ := bind_some hp
   refine sx_ox' (ox_fop' (.inr (.inr (.inl rfl))) (fl_v rfl) (fl_v rfl) (Option.some.inj hr62) rfl rfl) (wt_none' rfl) fun _ => ?_
   refine s0 (rd_assign' rfl) ?_
   refine nk hK27 ?_
   refine cx_retc' ?_
   replace hp := Option.some.inj hp
   subst hp
   refine tx_pick' (L' := [(4, (Fl r62))]) (H' := []) [] (sub_cons rfl sub_nil) (by decide) pick_nil ?_
   exact tx_ret1' Tryz.results68 rfl () (rv_tmp' rfl) (List.Sublist.refl _)
  intro K22 hK22
  refine cr fun K23 hK23 => ?_
  refine s0 (rd_move' rfl) ?_
  refine s0 (rd_bin' rfl rfl eg_int ru_lss) ?_
  refine nk hK23 ?_
  refine cx_cond' rfl (fun h7 => ?_) (fun h7 => ?_)
  ·replace hp := (br_t h7).symm.trans hp
   refine cr fun K24 hK24 => ?_
   refine s0 (rd_move' rfl) ?_
   refine s0 (rd_bin' rfl rfl eg_int ru_add) ?_
   refine s0 (rd_assign' rfl) ?_
   refine nk hK24 ?_
   refine cx_region' ?_
   refine s0 (rd_assign' rfl) ?_
   refine sx_nil' ?_
   show TX E K22 _
   exact tx_pick' [] (sub_cons rfl (sub_cons rfl (sub_cons rfl sub_nil))) (by decide) pick_nil (hK22 ((iadd .i64 (iadd .i64 (iadd .i64 a1 r22.2) (isub .i64 (iand .i64 (icv .i64 r32) 2047) 1023)) 53), 4368491638549381120) hp)
  replace hp := (br_f h7).symm.trans hp
  refine cx_skip' ?_
  show TX E K22 _
  exact tx_pick' [] (sub_cons rfl (sub_cons rfl (sub_cons rfl sub_nil))) (by decide) pick_nil (hK22 ((iadd .i64 (iadd .i64 a1 r22.2) (isub .i64 (iand .i64 (icv .i64 r32) 2047) 1023)), 4607182418800017408) hp)
 intro K6 hK6
 rcases br_cases hp with ⟨h2, hp⟩ | ⟨h2, hp⟩
 ·refine sx_skip' rfl rfl (wt_is' (wt_guard' rfl rfl rfl) (beq_tf h2)) ?_
  refine sx_skip' rfl rfl (wt_is' (wt_guard' rfl rfl rfl) (beq_tf h2)) ?_
  refine s0 (rd_pick_true' rfl h2 rfl) ?_
  refine sx_nil' ?_
  show TX E K6 _
  exact tx_pick' [] (sub_cons rfl (sub_cons rfl (sub_cons rfl sub_nil))) (by decide) pick_nil (hK6 true hp)
 refine sx_rd' (rd_move' rfl) rfl rfl (wt_is' (wt_guard' rfl rfl rfl) (beq_ff h2)) ?_
 obtain ⟨r17, hr17, hp⟩ := bind_some hp
 refine sx_ox' (ox_calln' (ent_fn' Tryz.func84 isn84 rfl rfl) (math_IsNaN_sim _ hr17 : Sx.Fn Tryz.prog 84 [(Vg a0)] [] (fun x : Unit => (Vb r17)) (fun x => [])) (Hn := fun x : Unit => []) (fun _ => rfl) rfl rfl) (wt_is' (wt_guard' rfl rfl rfl) (beq_ff h2)) fun ⟨⟩ => ?_
 refine s0 (rd_pick_false' rfl h2 rfl) ?_
 refine sx_nil' ?_
 show TX E K6 _
 exact tx_pick' [] (sub_cons rfl (sub_cons rfl (sub_cons rfl sub_nil))) (by decide) pick_nil (hK6 r17 hp)

def math_Ldexp (k : Nat) (a0 : Nat) (a1 : Int) : Option (Nat) :=
 (math_ldexp k a0 a1) >>= fun r10 =>
 some r10

theorem math_Ldexp_sim {k : Nat}  (a0 : Nat) (a1 : Int) {out : Nat} (hp : math_Ldexp k a0 a1 = some out) : Sx.Fn Tryz.prog 33 [(Vg a0), (Vi a1)] [] (fun w : Unit => (Fl out)) (fun w => []) := by
 unfold math_Ldexp at hp
 refine fn_of Tryz.func33 rfl Tryz.ntmps33 rfl fun E hM => ?_
 refine cr fun K1 hK1 => ?_
 refine s0 (rd_assign' rfl) ?_
 refine nk hK1 ?_
 refine cx_seq' fun K2 hK2 => ?_
 refine cx_cond_f' rfl rfl ?_
 refine cx_skip' ?_
 show TX E K2 _
 refine tx_k' hK2 ?_
 refine cr fun K3 hK3 => ?_
 refine s0 (rd_move' rfl) ?_
 refine s0 (rd_move' rfl) ?_
 obtain ⟨r10, hr10, hp⟩ := bind_some hp
 refine sx_ox' (ox_calln' (ent_fn' Tryz.func68 isn68 rfl rfl) (math_ldexp_sim _ _ hr10 : Sx.Fn Tryz.prog 68 [(Vg a0), (Vi a1)] [] (fun x : Unit => (Fl r10)) (fun x => [])) (Hn := fun x : Unit => []) (fun _ => rfl) rfl rfl) (wt_none' rfl) fun ⟨⟩ => ?_
 refine s0 (rd_assign' rfl) ?_
 refine nk hK3 ?_
 refine cx_retc' ?_
 replace hp := Option.some.inj hp
 subst hp
 refine tx_pick' (L' := [(4, (Fl r10))]) (H' := []) [] (sub_cons rfl sub_nil) (by decide) pick_nil ?_
 exact tx_ret1' Tryz.results33 rfl () (rv_tmp' rfl) (List.Sublist.refl _)

def spec_Dyadic_Float_j2 (k : Nat) (rec1 : (Int × Int) → Option (Int)) (x4 : Int) (x2 : Int) : Option (Int) :=
 rec1 (x2, (iadd .i64 x4 1))
def spec_Dyadic_Float_l1s (r13 : Int) (a0_2 : Int) (a0_0 : Bool) (a0_1 : List Int) (k : Nat) (rec1 : (Int × Int) → Option (Int)) (x3 : Int) (x4 : Int) : Option (Int) :=
 br (decide (x4 < (imin 53 (iadd .i64 (iadd .i64 r13 a0_2) 1074))))
  ((ishl .u64 x3 1) >>= fun r30 =>
  (spec_Whole_top k a0_0 a0_1) >>= fun r35 =>
  (spec_Whole_bit k a0_0 a0_1 (isub .i64 (isub .i64 r35 1) x4)) >>= fun r39 =>
  br r39
   (spec_Dyadic_Float_j2 k rec1 x4 (iadd .u64 r30 1))
   (spec_Dyadic_Float_j2 k rec1 x4 r30))
  (some x3)
def spec_Dyadic_Float_l1 (r13 : Int) (a0_2 : Int) (a0_0 : Bool) (a0_1 : List Int) : Nat → (Int × Int) → Option (Int)
 | 0, _ => none
 | k + 1, v => spec_Dyadic_Float_l1s r13 a0_2 a0_0 a0_1 k (spec_Dyadic_Float_l1 r13 a0_2 a0_0 a0_1 k) v.1 v.2
def spec_Dyadic_Float_j6 (k : Nat) (a0_2 : Int) (r21 : Int) (r13 : Int) (a0_0 : Bool) (x9 : Int) : Option (Nat) :=
 (math_Ldexp k (i2f x9) (iadd .i64 a0_2 (isub .i64 r21 (imin 53 (iadd .i64 (iadd .i64 r13 a0_2) 1074))))) >>= fun r71 =>
 br a0_0
  (some (fneg r71))
  (some r71)
def spec_Dyadic_Float_j5 (k : Nat) (a0_2 : Int) (r21 : Int) (r13 : Int) (a0_0 : Bool) (v4 : Int) (x8 : Bool) : Option (Nat) :=
 br x8
  (spec_Dyadic_Float_j6 k a0_2 r21 r13 a0_0 (iadd .u64 v4 1))
  (spec_Dyadic_Float_j6 k a0_2 r21 r13 a0_0 v4)
def spec_Dyadic_Float_j4 (k : Nat) (a0_2 : Int) (r21 : Int) (r13 : Int) (a0_0 : Bool) (v4 : Int) (x7 : Bool) : Option (Nat) :=
 spec_Dyadic_Float_j5 k a0_2 r21 r13 a0_0 v4 x7
def spec_Dyadic_Float_j3 (k : Nat) (v4 : Int) (a0_2 : Int) (r21 : Int) (r13 : Int) (a0_0 : Bool) (a0_1 : List Int) (x6 : Bool) : Option (Nat) :=
 br x6
  ((irem v4 2) >>= fun r53 =>
  br (decide (r53 = 1))
   (spec_Dyadic_Float_j4 k a0_2 r21 r13 a0_0 v4 true)
   ((spec_Whole_low k a0_0 a0_1 (isub .i64 (isub .i64 r21 (imin 53 (iadd .i64 (iadd .i64 r13 a0_2) 1074))) 1)) >>= fun r60 =>
   spec_Dyadic_Float_j4 k a0_2 r21 r13 a0_0 v4 r60))
  (spec_Dyadic_Float_j5 k a0_2 r21 r13 a0_0 v4 false)
def spec_Dyadic_Float (k : Nat) (a0_0 : Bool) (a0_1 : List Int) (a0_2 : Int) : Option (Nat) :=
 (spec_Dyadic_Sign k a0_0 a0_1 a0_2) >>= fun r9 =>
 br (decide (r9 = 0))
  (some 0)
  ((spec_Whole_top k a0_0 a0_1) >>= fun r13 =>
  (spec_Whole_top k a0_0 a0_1) >>= fun r21 =>
  (spec_Dyadic_Float_l1 r13 a0_2 a0_0 a0_1 k (0, 0)) >>= fun v4 =>
  br (decide (0 < (isub .i64 r21 (imin 53 (iadd .i64 (iadd .i64 r13 a0_2) 1074)))))
   ((spec_Whole_bit k a0_0 a0_1 (isub .i64 (isub .i64 r21 (imin 53 (iadd .i64 (iadd .i64 r13 a0_2) 1074))) 1)) >>= fun r49 =>
   spec_Dyadic_Float_j3 k v4 a0_2 r21 r13 a0_0 a0_1 r49)
   (spec_Dyadic_Float_j3 k v4 a0_2 r21 r13 a0_0 a0_1 false))

theorem spec_Dyadic_Float_sim {k : Nat}  (a0_0 : Bool) (a0_1 : List Int) (a0_2 : Int) {out : Nat} (hp : spec_Dyadic_Float k a0_0 a0_1 a0_2 = some out) : Sx.Fn Tryz.prog 14 [(Ag [(Vb a0_0), (Sl (Ki .u32) a0_1), (Vi a0_2)])] [] (fun w : Unit => (Fl out)) (fun w => []) := by
 unfold spec_Dyadic_Float at hp
 refine fn_of Tryz.func14 rfl Tryz.ntmps14 rfl fun E hM => ?_
 refine cr fun K1 hK1 => ?_
 refine sx_ox' (ox_box' rfl (lv_ag _) rfl rfl) (wt_none' rfl) fun q1 => ?_
 refine s0 (rd_assign' rfl) ?_
 refine nk hK1 ?_
 refine cx_seq' fun K2 hK2 => ?_
 refine cr fun K3 hK3 => ?_
 refine s0 (rd_load_agg' (i := 0) (o := 0) (nn := 3) rfl ⟨rfl, rfl, rfl, rfl⟩ rfl agg50 (l' := [(Vb a0_0), (Sl (Ki .u32) a0_1), (Vi a0_2)]) rfl) ?_
 obtain ⟨r9, hr9, hp⟩ := bind_some hp
 refine sx_ox' (ox_calln' (ent_fn' Tryz.func29 isn29 rfl rfl) (spec_Dyadic_Sign_sim _ _ _ hr9 : Sx.Fn Tryz.prog 29 [(Ag [(Vb a0_0), (Sl (Ki .u32) a0_1), (Vi a0_2)])] [] (fun x : Unit => (Vi r9)) (fun x => [])) (Hn := fun x : Unit => [⟨.pointer (some q1), [(Vb a0_0), (Sl (Ki .u32) a0_1), (Vi a0_2)], 50, none⟩]) (fun _ => rfl) rfl rfl) (wt_none' rfl) fun ⟨⟩ => ?_
 refine s0 (rd_bin' rfl rfl eg_int ru_eql) ?_
 refine nk hK3 ?_
 refine cx_cond' rfl (fun h1 => ?_) (fun h1 => ?_)
 ·replace hp := (br_t h1).symm.trans hp
  refine cr fun K4 hK4 => ?_
  refine s0 (rd_assign' rfl) ?_
  refine nk hK4 ?_
  refine cx_retc' ?_
  replace hp := Option.some.inj hp
  subst hp
  refine tx_pick' (L' := [(2, (Vg 0))]) (H' := []) [] (sub_cons rfl sub_nil) (by decide) pick_nil ?_
  exact tx_ret1' Tryz.results14 rfl () (rv_imp' (x := (Vg 0)) (y := (Fl 0)) (rv_tmp' rfl) imp_vf) (List.Sublist.refl _)
 replace hp := (br_f h1).symm.trans hp
 refine cx_skip' ?_
 show TX E K2 _
 refine tx_k' hK2 ?_
 refine cx_seq' fun K5 hK5 => ?_
 refine cx_plan' [] [] [(0, 1), (1, 1), (3, 1), (4, 1), (2, 0), (5, 1), (6, 1), (7, 1), (8, 1)] mixed (by kernel_rfl) ?_
 refine px_rd' rfl (rd_field0' rfl Tryz.underlying50 rfl info48 rfl) rfl rfl (wt_none' rfl) ?_
 refine px_rd' rfl (rd_load_agg' (i := 0) (o := 0) (nn := 2) rfl ⟨rfl, rfl, rfl, rfl⟩ rfl agg48 (l' := [(Vb a0_0), (Sl (Ki .u32) a0_1)]) rfl) rfl rfl (wt_none' rfl) ?_
 refine px_rd' rfl (rd_field' (off := 2) rfl Tryz.underlying50 rfl info3 rfl) rfl rfl (wt_none' rfl) ?_
 refine px_rd' rfl (rd_load' (i := 0) (o := 2) rfl ⟨rfl, rfl, rfl, rfl⟩ rfl flat3) rfl rfl (wt_none' rfl) ?_
 obtain ⟨r13, hr13, hp⟩ := bind_some hp
 refine px_ox' rfl (ox_calln' (ent_fn' Tryz.func30 isn30 rfl rfl) (spec_Whole_top_sim _ _ hr13 : Sx.Fn Tryz.prog 30 [(Ag [(Vb a0_0), (Sl (Ki .u32) a0_1)])] [] (fun x : Unit => (Vi r13)) (fun x => [])) (Hn := fun x : Unit => [⟨.pointer (some q1), [(Vb a0_0), (Sl (Ki .u32) a0_1), (Vi a0_2)], 50, none⟩]) (fun _ => rfl) rfl rfl) rfl bs_nil (wt_none' rfl) fun ⟨⟩ => ?_
 refine px_rd' rfl (rd_bin' rfl rfl eg_int ru_add) rfl rfl (wt_none' rfl) ?_
 refine px_rd' rfl (rd_bin' rfl rfl eg_int ru_add) rfl rfl (wt_none' rfl) ?_
 refine px_rd' rfl (rd_imin' rfl rfl) rfl rfl (wt_none' rfl) ?_
 refine px_rd' rfl (rd_assign' rfl) rfl rfl (wt_none' rfl) ?_
 refine px_nil' ?_
 show TX E K5 _
 refine tx_k' hK5 ?_
 refine cr fun K6 hK6 => ?_
 refine s0 (rd_field0' rfl Tryz.underlying50 rfl info48 rfl) ?_
 refine s0 (rd_load_agg' (i := 0) (o := 0) (nn := 2) rfl ⟨rfl, rfl, rfl, rfl⟩ rfl agg48 (l' := [(Vb a0_0), (Sl (Ki .u32) a0_1)]) rfl) ?_
 obtain ⟨r21, hr21, hp⟩ := bind_some hp
 refine sx_ox' (ox_calln' (ent_fn' Tryz.func30 isn30 rfl rfl) (spec_Whole_top_sim _ _ hr21 : Sx.Fn Tryz.prog 30 [(Ag [(Vb a0_0), (Sl (Ki .u32) a0_1)])] [] (fun x : Unit => (Vi r21)) (fun x => [])) (Hn := fun x : Unit => [⟨.pointer (some q1), [(Vb a0_0), (Sl (Ki .u32) a0_1), (Vi a0_2)], 50, none⟩]) (fun _ => rfl) rfl rfl) (wt_none' rfl) fun ⟨⟩ => ?_
 refine s0 (rd_move' rfl) ?_
 refine s0 (rd_bin' rfl rfl eg_int ru_sub) ?_
 refine s0 (rd_assign' rfl) ?_
 refine nk hK6 ?_
 refine cr fun K7 hK7 => ?_
 refine s0 (rd_assign' rfl) ?_
 refine nk hK7 ?_
 refine cx_seq' fun K8 hK8 => ?_
 refine cr fun K9 hK9 => ?_
 refine s0 (rd_assign' rfl) ?_
 refine nk hK9 ?_
 refine cx_block' ?_
 obtain ⟨v4, hy1, hp⟩ := bind_some hp
 refine cx_loopg' (F := spec_Dyadic_Float_l1 r13 a0_2 a0_0 a0_1) (G := fun k R v => spec_Dyadic_Float_l1s r13 a0_2 a0_0 a0_1 k R v.1 v.2) (x := (0, 0)) (gh := ()) (fun (v2 : Int × Int) (w2 : Unit) => (⟨78, [], [(1, (Vp q1)), (3, (Vi (imin 53 (iadd .i64 (iadd .i64 r13 a0_2) 1074)))), (4, (Vi (isub .i64 r21 (imin 53 (iadd .i64 (iadd .i64 r13 a0_2) 1074))))), (5, (Vl (.int .u64 v2.1))), (6, (Vi v2.2))], [⟨.pointer (some q1), [(Vb a0_0), (Sl (Ki .u32) a0_1), (Vi a0_2)], 50, none⟩]⟩ : St)) (fun (v4 : Int) => Zg E (Exit.exit 0) (fun (w4 : Unit) => (⟨78, [], [(1, (Vp q1)), (4, (Vi (isub .i64 r21 (imin 53 (iadd .i64 (iadd .i64 r13 a0_2) 1074))))), (5, (Vl (.int .u64 v4)))], [⟨.pointer (some q1), [(Vb a0_0), (Sl (Ki .u32) a0_1), (Vi a0_2)], 50, none⟩]⟩ : St))) (fun _ => rfl) (fun _ _ => rfl) ?_ hy1 (tx_to' rfl [0] (sub_cons rfl (sub_cons rfl (sub_cons rfl (sub_cons rfl (sub_cons rfl sub_nil))))) (by decide) (pick_cons rfl pick_nil)) ?_
 ·clear hp hy1
  clear v4
  intro k rec1 KY1 ih1
  rintro ⟨x3, x4⟩ ⟨⟩ y1 hp
  replace hp : spec_Dyadic_Float_l1s r13 a0_2 a0_0 a0_1 k rec1 x3 x4 = some y1 := hp
  unfold spec_Dyadic_Float_l1s at hp
  refine cx_seq' fun K15 hK15 => ?_
  refine cr fun K16 hK16 => ?_
  refine s0 (rd_move' rfl) ?_
  refine s0 (rd_move' rfl) ?_
  refine s0 (rd_bin' rfl rfl eg_int ru_lss) ?_
  refine nk hK16 ?_
  refine cx_cond' rfl (fun h5 => ?_) (fun h5 => ?_)
  ·replace hp := (br_t h5).symm.trans hp
   refine cx_skip' ?_
   show TX E K15 _
   refine tx_k' hK15 ?_
   refine cx_join' (fun (v3 : Int) => (⟨78, [], [(1, (Vp q1)), (3, (Vi (imin 53 (iadd .i64 (iadd .i64 r13 a0_2) 1074)))), (4, (Vi (isub .i64 r21 (imin 53 (iadd .i64 (iadd .i64 r13 a0_2) 1074))))), (5, (Vl (.int .u64 v3))), (6, (Vi x4))], [⟨.pointer (some q1), [(Vb a0_0), (Sl (Ki .u32) a0_1), (Vi a0_2)], 50, none⟩]⟩ : St)) (fun (v3 : Int) => spec_Dyadic_Float_j2 k rec1 x4 v3 = some y1) ?_ ?_
   ·rintro x2 hp
    replace hp : spec_Dyadic_Float_j2 k rec1 x4 x2 = some y1 := hp
    unfold spec_Dyadic_Float_j2 at hp
    refine cx_region' ?_
    refine s0 (rd_move' rfl) ?_
    refine s0 (rd_bin' rfl rfl eg_int ru_add) ?_
    refine s0 (rd_assign' rfl) ?_
    refine sx_nil' ?_
    show TX E (KY1 _) _
    exact tx_pick' [0] (sub_cons rfl (sub_cons rfl (sub_cons rfl (sub_cons rfl (sub_cons rfl sub_nil))))) (by decide) (pick_cons rfl pick_nil) (ih1 (x2, (iadd .i64 x4 1)) () _ hp)
   intro K17 hK17
   refine cx_block' ?_
   refine cr fun K18 hK18 => ?_
   refine s0 (rd_move' rfl) ?_
   obtain ⟨r30, hr30, hp⟩ := bind_some hp
   refine s0 (rd_bin' rfl rfl eg_int (ru_shl hr30)) ?_
   refine s0 (rd_assign' rfl) ?_
   refine nk hK18 ?_
   refine cx_seq' fun K19 hK19 => ?_
   refine cx_plan' [] [] [(0, 1), (1, 1), (2, 1), (3, 1), (6, 1), (4, 0), (5, 1), (7, 1), (8, 0)] mixed (by kernel_rfl) ?_
   refine px_rd' rfl (rd_field0' rfl Tryz.underlying50 rfl info48 rfl) rfl rfl (wt_none' rfl) ?_
   refine px_rd' rfl (rd_load_agg' (i := 0) (o := 0) (nn := 2) rfl ⟨rfl, rfl, rfl, rfl⟩ rfl agg48 (l' := [(Vb a0_0), (Sl (Ki .u32) a0_1)]) rfl) rfl rfl (wt_none' rfl) ?_
   refine px_rd' rfl (rd_field0' rfl Tryz.underlying50 rfl info48 rfl) rfl rfl (wt_none' rfl) ?_
   refine px_rd' rfl (rd_load_agg' (i := 0) (o := 0) (nn := 2) rfl ⟨rfl, rfl, rfl, rfl⟩ rfl agg48 (l' := [(Vb a0_0), (Sl (Ki .u32) a0_1)]) rfl) rfl rfl (wt_none' rfl) ?_
   refine px_rd' rfl (rd_move' rfl) rfl rfl (wt_none' rfl) ?_
   obtain ⟨r35, hr35, hp⟩ := bind_some hp
   refine px_ox' rfl (ox_calln' (ent_fn' Tryz.func30 isn30 rfl rfl) (spec_Whole_top_sim _ _ hr35 : Sx.Fn Tryz.prog 30 [(Ag [(Vb a0_0), (Sl (Ki .u32) a0_1)])] [] (fun x : Unit => (Vi r35)) (fun x => [])) (Hn := fun x : Unit => [⟨.pointer (some q1), [(Vb a0_0), (Sl (Ki .u32) a0_1), (Vi a0_2)], 50, none⟩]) (fun _ => rfl) rfl rfl) rfl bs_nil (wt_none' rfl) fun ⟨⟩ => ?_
   refine px_rd' rfl (rd_bin' rfl rfl eg_int ru_sub) rfl rfl (wt_none' rfl) ?_
   refine px_rd' rfl (rd_bin' rfl rfl eg_int ru_sub) rfl rfl (wt_none' rfl) ?_
   obtain ⟨r39, hr39, hp⟩ := bind_some hp
   refine px_ox' rfl (ox_calln' (ent_fn' Tryz.func31 isn31 rfl rfl) (spec_Whole_bit_sim _ _ _ hr39 : Sx.Fn Tryz.prog 31 [(Ag [(Vb a0_0), (Sl (Ki .u32) a0_1)]), (Vi (isub .i64 (isub .i64 r35 1) x4))] [] (fun x : Unit => (Vb r39)) (fun x => [])) (Hn := fun x : Unit => [⟨.pointer (some q1), [(Vb a0_0), (Sl (Ki .u32) a0_1), (Vi a0_2)], 50, none⟩]) (fun _ => rfl) rfl rfl) rfl bs_nil (wt_none' rfl) fun ⟨⟩ => ?_
   refine px_nil' ?_
   show TX E K19 _
   refine tx_k' hK19 ?_
   refine cx_cond' rfl (fun h6 => ?_) (fun h6 => ?_)
   ·replace hp := (br_t h6).symm.trans hp
    refine cx_region' ?_
    refine s0 (rd_move' rfl) ?_
    refine s0 (rd_bin' rfl rfl eg_int ru_add) ?_
    refine s0 (rd_assign' rfl) ?_
    refine sx_nil' ?_
    show TX E K17 _
    exact tx_pick' [0] (sub_cons rfl (sub_cons rfl (sub_cons rfl (sub_cons rfl (sub_cons rfl sub_nil))))) (by decide) (pick_cons rfl pick_nil) (hK17 (iadd .u64 r30 1) hp)
   replace hp := (br_f h6).symm.trans hp
   refine cx_skip' ?_
   show TX E K17 _
   exact tx_pick' [0] (sub_cons rfl (sub_cons rfl (sub_cons rfl (sub_cons rfl (sub_cons rfl sub_nil))))) (by decide) (pick_cons rfl pick_nil) (hK17 r30 hp)
  replace hp := (br_f h5).symm.trans hp
  refine cx_exit' ?_
  replace hp := Option.some.inj hp
  subst hp
  show TX E (Zg E (Exit.exit 0) _ (Exit.exit 0)) _
  exact tx_zend' () rfl [0] (sub_cons rfl (sub_cons rfl (sub_cons rfl sub_nil))) (by decide) (pick_cons rfl pick_nil)
 refine zg_out fun w4 => ?_
 show TX E K8 _
 refine tx_k' hK8 ?_
 refine cx_join' (fun (v8 : Int) => (⟨78, [], [(1, (Vp q1)), (4, (Vi (isub .i64 r21 (imin 53 (iadd .i64 (iadd .i64 r13 a0_2) 1074))))), (5, (Vl (.int .u64 v8)))], [⟨.pointer (some q1), [(Vb a0_0), (Sl (Ki .u32) a0_1), (Vi a0_2)], 50, none⟩]⟩ : St)) (fun (v8 : Int) => spec_Dyadic_Float_j6 k a0_2 r21 r13 a0_0 v8 = some out) ?_ ?_
 ·rintro x9 hp
  replace hp : spec_Dyadic_Float_j6 k a0_2 r21 r13 a0_0 x9 = some out := hp
  unfold spec_Dyadic_Float_j6 at hp
  refine cr fun K25 hK25 => ?_
  refine s0 (rd_move' rfl) ?_
  refine s0 (rd_conv' rfl (ru_i2f (by rw [Tryz.underlying77]; rfl) Tryz.underlying26)) ?_
  refine s0 (rd_field' (off := 2) rfl Tryz.underlying50 rfl info3 rfl) ?_
  refine s0 (rd_load' (i := 0) (o := 2) rfl ⟨rfl, rfl, rfl, rfl⟩ rfl flat3) ?_
  refine s0 (rd_move' rfl) ?_
  refine s0 (rd_bin' rfl rfl eg_int ru_add) ?_
  obtain ⟨r71, hr71, hp⟩ := bind_some hp
  refine sx_ox' (ox_calln' (ent_fn' Tryz.func33 isn33 rfl rfl) (math_Ldexp_sim _ _ hr71 : Sx.Fn Tryz.prog 33 [(Vg (i2f x9)), (Vi (iadd .i64 a0_2 (isub .i64 r21 (imin 53 (iadd .i64 (iadd .i64 r13 a0_2) 1074)))))] [] (fun x : Unit => (Fl r71)) (fun x => [])) (Hn := fun x : Unit => [⟨.pointer (some q1), [(Vb a0_0), (Sl (Ki .u32) a0_1), (Vi a0_2)], 50, none⟩]) (fun _ => rfl) rfl rfl) (wt_none' rfl) fun ⟨⟩ => ?_
  refine s0 (rd_assign' rfl) ?_
  refine nk hK25 ?_
  refine cx_seq' fun K26 hK26 => ?_
  refine cr fun K27 hK27 => ?_
  refine s0 (rd_field0' rfl Tryz.underlying50 rfl info48 rfl) ?_
  refine s0 (rd_field0' rfl Tryz.underlying48 rfl info4 rfl) ?_
  refine s0 (rd_load' (i := 0) (o := 0) rfl ⟨rfl, rfl, rfl, rfl⟩ rfl flat4) ?_
  refine nk hK27 ?_
  refine cx_cond' rfl (fun h11 => ?_) (fun h11 => ?_)
  ·replace hp := (br_t h11).symm.trans hp
   refine cr fun K28 hK28 => ?_
   refine s0 (rd_move' rfl) ?_
   refine s0 (rd_fneg_fl' (fl_f rfl)) ?_
   refine s0 (rd_assign' rfl) ?_
   refine nk hK28 ?_
   refine cx_retc' ?_
   replace hp := Option.some.inj hp
   subst hp
   refine tx_pick' (L' := [(2, (Fl (fneg r71)))]) (H' := []) [] (sub_cons rfl sub_nil) (by decide) pick_nil ?_
   exact tx_ret1' Tryz.results14 rfl () (rv_tmp' rfl) (List.Sublist.refl _)
  replace hp := (br_f h11).symm.trans hp
  refine cx_skip' ?_
  show TX E K26 _
  refine tx_k' hK26 ?_
  refine cr fun K29 hK29 => ?_
  refine s0 (rd_move' rfl) ?_
  refine s0 (rd_assign' rfl) ?_
  refine nk hK29 ?_
  refine cx_retc' ?_
  replace hp := Option.some.inj hp
  subst hp
  refine tx_pick' (L' := [(2, (Fl r71))]) (H' := []) [] (sub_cons rfl sub_nil) (by decide) pick_nil ?_
  exact tx_ret1' Tryz.results14 rfl () (rv_tmp' rfl) (List.Sublist.refl _)
 intro K20 hK20
 refine cr fun K21 hK21 => ?_
 refine s0 (rd_move' rfl) ?_
 refine s0 (rd_bin' rfl rfl eg_int ru_gtr) ?_
 refine s0 (rd_move' rfl) ?_
 refine sx_cutn' 6 (fun (v5 : Bool) => (⟨78, [], [(1, (Vp q1)), (4, (Vi (isub .i64 r21 (imin 53 (iadd .i64 (iadd .i64 r13 a0_2) 1074))))), (5, (Vl (.int .u64 v4))), (50, (Vb v5))], [⟨.pointer (some q1), [(Vb a0_0), (Sl (Ki .u32) a0_1), (Vi a0_2)], 50, none⟩]⟩ : St)) (fun (v5 : Bool) => spec_Dyadic_Float_j3 k v4 a0_2 r21 r13 a0_0 a0_1 v5 = some out) ?_ ?_
 ·rintro x6 hp
  replace hp : spec_Dyadic_Float_j3 k v4 a0_2 r21 r13 a0_0 a0_1 x6 = some out := hp
  unfold spec_Dyadic_Float_j3 at hp
  refine s0 (rd_move' rfl) ?_
  refine sx_cutn' 11 (fun (v7 : Bool) => (⟨78, [], [(1, (Vp q1)), (4, (Vi (isub .i64 r21 (imin 53 (iadd .i64 (iadd .i64 r13 a0_2) 1074))))), (5, (Vl (.int .u64 v4))), (62, (Vb v7))], [⟨.pointer (some q1), [(Vb a0_0), (Sl (Ki .u32) a0_1), (Vi a0_2)], 50, none⟩]⟩ : St)) (fun (v7 : Bool) => spec_Dyadic_Float_j5 k a0_2 r21 r13 a0_0 v4 v7 = some out) ?_ ?_
  ·rintro x8 hp
   replace hp : spec_Dyadic_Float_j5 k a0_2 r21 r13 a0_0 v4 x8 = some out := hp
   unfold spec_Dyadic_Float_j5 at hp
   refine nk hK21 ?_
   refine cx_cond' rfl (fun h10 => ?_) (fun h10 => ?_)
   ·replace hp := (br_t h10).symm.trans hp
    refine cx_region' ?_
    refine s0 (rd_move' rfl) ?_
    refine s0 (rd_bin' rfl rfl eg_int ru_add) ?_
    refine s0 (rd_assign' rfl) ?_
    refine sx_nil' ?_
    show TX E K20 _
    exact tx_pick' [0] (sub_cons rfl (sub_cons rfl (sub_cons rfl sub_nil))) (by decide) (pick_cons rfl pick_nil) (hK20 (iadd .u64 v4 1) hp)
   replace hp := (br_f h10).symm.trans hp
   refine cx_skip' ?_
   show TX E K20 _
   exact tx_pick' [0] (sub_cons rfl (sub_cons rfl (sub_cons rfl sub_nil))) (by decide) (pick_cons rfl pick_nil) (hK20 v4 hp)
  intro K24 hK24
  rcases br_cases hp with ⟨h8, hp⟩ | ⟨h8, hp⟩
  ·refine sx_rd' (rd_move' rfl) rfl rfl (wt_is' (wt_guard' rfl rfl rfl) (beq_tt h8)) ?_
   obtain ⟨r53, hr53, hp⟩ := bind_some hp
   refine sx_rd' (rd_bin' rfl rfl eg_int (ru_rem hr53)) rfl rfl (wt_is' (wt_guard' rfl rfl rfl) (beq_tt h8)) ?_
   refine sx_rd' (rd_bin' rfl rfl eg_int ru_eql) rfl rfl (wt_is' (wt_guard' rfl rfl rfl) (beq_tt h8)) ?_
   refine sx_rd' (rd_move' rfl) rfl rfl (wt_is' (wt_guard' rfl rfl rfl) (beq_tt h8)) ?_
   refine sx_cutn' 7 (fun (v6 : Bool) => (⟨78, [], [(1, (Vp q1)), (4, (Vi (isub .i64 r21 (imin 53 (iadd .i64 (iadd .i64 r13 a0_2) 1074))))), (5, (Vl (.int .u64 v4))), (62, (Vb v6))], [⟨.pointer (some q1), [(Vb a0_0), (Sl (Ki .u32) a0_1), (Vi a0_2)], 50, none⟩]⟩ : St)) (fun (v6 : Bool) => spec_Dyadic_Float_j4 k a0_2 r21 r13 a0_0 v4 v6 = some out) ?_ ?_
   ·rintro x7 hp
    replace hp : spec_Dyadic_Float_j4 k a0_2 r21 r13 a0_0 v4 x7 = some out := hp
    unfold spec_Dyadic_Float_j4 at hp
    refine sx_nil' ?_
    show TX E K24 _
    exact tx_pick' [0] (sub_cons rfl (sub_cons rfl (sub_cons rfl (sub_cons rfl sub_nil)))) (by decide) (pick_cons rfl pick_nil) (hK24 x7 hp)
   intro K23 hK23
   rcases br_cases hp with ⟨h9, hp⟩ | ⟨h9, hp⟩
   ·refine sx_skip' rfl rfl (wt_is' (wt_guard' rfl rfl rfl) (beq_tf h9)) ?_
    refine sx_skip' rfl rfl (wt_is' (wt_guard' rfl rfl rfl) (beq_tf h9)) ?_
    refine sx_skip' rfl rfl (wt_is' (wt_guard' rfl rfl rfl) (beq_tf h9)) ?_
    refine sx_skip' rfl rfl (wt_is' (wt_guard' rfl rfl rfl) (beq_tf h9)) ?_
    refine sx_skip' rfl rfl (wt_is' (wt_guard' rfl rfl rfl) (beq_tf h9)) ?_
    refine sx_rd' (rd_pick_true' rfl h9 rfl) rfl rfl (wt_is' (wt_guard' rfl rfl rfl) (beq_tt h8)) ?_
    refine s0 (rd_pick_true' rfl h8 rfl) ?_
    refine sx_nil' ?_
    show TX E K23 _
    exact tx_pick' [0] (sub_cons rfl (sub_cons rfl (sub_cons rfl (sub_cons rfl sub_nil)))) (by decide) (pick_cons rfl pick_nil) (hK23 true hp)
   refine sx_rd' (rd_field0' rfl Tryz.underlying50 rfl info48 rfl) rfl rfl (wt_is' (wt_guard' rfl rfl rfl) (beq_ff h9)) ?_
   refine sx_rd' (rd_load_agg' (i := 0) (o := 0) (nn := 2) rfl ⟨rfl, rfl, rfl, rfl⟩ rfl agg48 (l' := [(Vb a0_0), (Sl (Ki .u32) a0_1)]) rfl) rfl rfl (wt_is' (wt_guard' rfl rfl rfl) (beq_ff h9)) ?_
   refine sx_rd' (rd_move' rfl) rfl rfl (wt_is' (wt_guard' rfl rfl rfl) (beq_ff h9)) ?_
   refine sx_rd' (rd_bin' rfl rfl eg_int ru_sub) rfl rfl (wt_is' (wt_guard' rfl rfl rfl) (beq_ff h9)) ?_
   obtain ⟨r60, hr60, hp⟩ := bind_some hp
   refine sx_ox' (ox_calln' (ent_fn' Tryz.func32 isn32 rfl rfl) (spec_Whole_low_sim _ _ _ hr60 : Sx.Fn Tryz.prog 32 [(Ag [(Vb a0_0), (Sl (Ki .u32) a0_1)]), (Vi (isub .i64 (isub .i64 r21 (imin 53 (iadd .i64 (iadd .i64 r13 a0_2) 1074))) 1))] [] (fun x : Unit => (Vb r60)) (fun x => [])) (Hn := fun x : Unit => [⟨.pointer (some q1), [(Vb a0_0), (Sl (Ki .u32) a0_1), (Vi a0_2)], 50, none⟩]) (fun _ => rfl) rfl rfl) (wt_is' (wt_guard' rfl rfl rfl) (beq_ff h9)) fun ⟨⟩ => ?_
   refine sx_rd' (rd_pick_false' rfl h9 rfl) rfl rfl (wt_is' (wt_guard' rfl rfl rfl) (beq_tt h8)) ?_
   refine s0 (rd_pick_true' rfl h8 rfl) ?_
   refine sx_nil' ?_
   show TX E K23 _
   exact tx_pick' [0] (sub_cons rfl (sub_cons rfl (sub_cons rfl (sub_cons rfl sub_nil)))) (by decide) (pick_cons rfl pick_nil) (hK23 r60 hp)
  refine sx_skip' rfl rfl (wt_is' (wt_guard' rfl rfl rfl) (beq_ft h8)) ?_
  refine sx_skip' rfl rfl (wt_is' (wt_guard' rfl rfl rfl) (beq_ft h8)) ?_
  refine sx_skip' rfl rfl (wt_is' (wt_guard' rfl rfl rfl) (beq_ft h8)) ?_
  refine sx_skip' rfl rfl (wt_is' (wt_guard' rfl rfl rfl) (beq_ft h8)) ?_
  refine sx_skip' rfl rfl (wt_undef' rfl rfl rfl) ?_
  refine sx_skip' rfl rfl (wt_undef' rfl rfl rfl) ?_
  refine sx_skip' rfl rfl (wt_undef' rfl rfl rfl) ?_
  refine sx_skip' rfl rfl (wt_undef' rfl rfl rfl) ?_
  refine sx_skip' rfl rfl (wt_undef' rfl rfl rfl) ?_
  refine sx_skip' rfl rfl (wt_is' (wt_guard' rfl rfl rfl) (beq_ft h8)) ?_
  refine s0 (rd_pick_false' rfl h8 rfl) ?_
  refine sx_nil' ?_
  show TX E K24 _
  exact tx_pick' [0] (sub_cons rfl (sub_cons rfl (sub_cons rfl (sub_cons rfl sub_nil)))) (by decide) (pick_cons rfl pick_nil) (hK24 false hp)
 intro K22 hK22
 rcases br_cases hp with ⟨h7, hp⟩ | ⟨h7, hp⟩
 ·refine sx_rd' (rd_field0' rfl Tryz.underlying50 rfl info48 rfl) rfl rfl (wt_is' (wt_guard' rfl rfl rfl) (beq_tt h7)) ?_
  refine sx_rd' (rd_load_agg' (i := 0) (o := 0) (nn := 2) rfl ⟨rfl, rfl, rfl, rfl⟩ rfl agg48 (l' := [(Vb a0_0), (Sl (Ki .u32) a0_1)]) rfl) rfl rfl (wt_is' (wt_guard' rfl rfl rfl) (beq_tt h7)) ?_
  refine sx_rd' (rd_move' rfl) rfl rfl (wt_is' (wt_guard' rfl rfl rfl) (beq_tt h7)) ?_
  refine sx_rd' (rd_bin' rfl rfl eg_int ru_sub) rfl rfl (wt_is' (wt_guard' rfl rfl rfl) (beq_tt h7)) ?_
  obtain ⟨r49, hr49, hp⟩ := bind_some hp
  refine sx_ox' (ox_calln' (ent_fn' Tryz.func31 isn31 rfl rfl) (spec_Whole_bit_sim _ _ _ hr49 : Sx.Fn Tryz.prog 31 [(Ag [(Vb a0_0), (Sl (Ki .u32) a0_1)]), (Vi (isub .i64 (isub .i64 r21 (imin 53 (iadd .i64 (iadd .i64 r13 a0_2) 1074))) 1))] [] (fun x : Unit => (Vb r49)) (fun x => [])) (Hn := fun x : Unit => [⟨.pointer (some q1), [(Vb a0_0), (Sl (Ki .u32) a0_1), (Vi a0_2)], 50, none⟩]) (fun _ => rfl) rfl rfl) (wt_is' (wt_guard' rfl rfl rfl) (beq_tt h7)) fun ⟨⟩ => ?_
  refine s0 (rd_pick_true' rfl h7 rfl) ?_
  refine sx_nil' ?_
  show TX E K22 _
  exact tx_pick' [0] (sub_cons rfl (sub_cons rfl (sub_cons rfl (sub_cons rfl sub_nil)))) (by decide) (pick_cons rfl pick_nil) (hK22 r49 hp)
 refine sx_skip' rfl rfl (wt_is' (wt_guard' rfl rfl rfl) (beq_ft h7)) ?_
 refine sx_skip' rfl rfl (wt_is' (wt_guard' rfl rfl rfl) (beq_ft h7)) ?_
 refine sx_skip' rfl rfl (wt_is' (wt_guard' rfl rfl rfl) (beq_ft h7)) ?_
 refine sx_skip' rfl rfl (wt_is' (wt_guard' rfl rfl rfl) (beq_ft h7)) ?_
 refine sx_skip' rfl rfl (wt_is' (wt_guard' rfl rfl rfl) (beq_ft h7)) ?_
 refine s0 (rd_pick_false' rfl h7 rfl) ?_
 refine sx_nil' ?_
 show TX E K22 _
 exact tx_pick' [0] (sub_cons rfl (sub_cons rfl (sub_cons rfl (sub_cons rfl sub_nil)))) (by decide) (pick_cons rfl pick_nil) (hK22 false hp)

def math_Sqrt (k : Nat) (a0 : Nat) : Option (Nat) :=
 (some (gsqrt a0)) >>= fun r4 =>
 some r4

theorem math_Sqrt_sim {k : Nat}  (a0 : Nat) {out : Nat} (hp : math_Sqrt k a0 = some out) : Sx.Fn Tryz.prog 12 [(Vg a0)] [] (fun w : Unit => (Fl out)) (fun w => []) := by
 unfold math_Sqrt at hp
 refine fn_of Tryz.func12 rfl Tryz.ntmps12 rfl fun E hM => ?_
 refine cr fun K1 hK1 => ?_
 refine s0 (rd_assign' rfl) ?_
 refine nk hK1 ?_
 refine cr fun K2 hK2 => ?_
 refine s0 (rd_move' rfl) ?_
 obtain ⟨r4, hr4, hp⟩ := bind_some hp
 refine sx_ox' (ox_extf' rfl (fl_v rfl) Tryz.func27 (extf27 (Option.some.inj hr4)) rfl rfl) (wt_none' rfl) fun _ => ?_
 refine s0 (rd_assign' rfl) ?_
 refine nk hK2 ?_
 refine cx_retc' ?_
 replace hp := Option.some.inj hp
 subst hp
 refine tx_pick' (L' := [(2, (Fl r4))]) (H' := []) [] (sub_cons rfl sub_nil) (by decide) pick_nil ?_
 exact tx_ret1' Tryz.results12 rfl () (rv_tmp' rfl) (List.Sublist.refl _)

def laws_middles_l2s (r14 : List (Bool × (List Int) × Int × Bool × (List Int) × Int)) (k : Nat) (rec2 : (Nat × Nat × Nat × Int) → Option (Nat × Nat × Nat)) (x8 : Nat) (x9 : Nat) (x10 : Nat) (x11 : Int) : Option (Nat × Nat × Nat) :=
 br (decide (x11 < (r14.length : Int)))
  ((idx r14 (isub .i64 x11 1)) >>= fun r25 =>
  (idx r14 x11) >>= fun r29 =>
  (spec_Square k r25.1 r25.2.1 r25.2.2.1 r25.2.2.2.1 r25.2.2.2.2.1 r25.2.2.2.2.2 r29.1 r29.2.1 r29.2.2.1 r29.2.2.2.1 r29.2.2.2.2.1 r29.2.2.2.2.2) >>= fun r31 =>
  (spec_Dyadic_Float k r31.1 r31.2.1 r31.2.2) >>= fun r32 =>
  (num r32) >>= fun u16 =>
  (math_Sqrt k r32) >>= fun r33 =>
  (some (gadd x10 r33)) >>= fun r36 =>
  (idx r14 (isub .i64 x11 1)) >>= fun r42 =>
  (idx r14 x11) >>= fun r47 =>
  (spec_Dyadic_Add k r42.1 r42.2.1 r42.2.2.1 r47.1 r47.2.1 r47.2.2.1) >>= fun r50 =>
  (spec_Dyadic_Float k r50.1 r50.2.1 r50.2.2) >>= fun r51 =>
  (num r33) >>= fun u17 =>
  (num r51) >>= fun u18 =>
  (fmul r33 r51) >>= fun r52 =>
  (fdiv r52 4611686018427387904) >>= fun r53 =>
  (fadd x8 r53) >>= fun r54 =>
  (idx r14 (isub .i64 x11 1)) >>= fun r60 =>
  (idx r14 x11) >>= fun r65 =>
  (spec_Dyadic_Add k r60.2.2.2.1 r60.2.2.2.2.1 r60.2.2.2.2.2 r65.2.2.2.1 r65.2.2.2.2.1 r65.2.2.2.2.2) >>= fun r68 =>
  (spec_Dyadic_Float k r68.1 r68.2.1 r68.2.2) >>= fun r69 =>
  (num r33) >>= fun u19 =>
  (num r69) >>= fun u20 =>
  (fmul r33 r69) >>= fun r70 =>
  (fdiv r70 4611686018427387904) >>= fun r71 =>
  (fadd x9 r71) >>= fun r72 =>
  rec2 (r54, r72, r36, (iadd .i64 x11 1)))
  (some (x8, x9, x10))
def laws_middles_l2 (r14 : List (Bool × (List Int) × Int × Bool × (List Int) × Int)) : Nat → (Nat × Nat × Nat × Int) → Option (Nat × Nat × Nat)
 | 0, _ => none
 | k + 1, v => laws_middles_l2s r14 k (laws_middles_l2 r14 k) v.1 v.2.1 v.2.2.1 v.2.2.2
def laws_middles_l3s (a0 : List (List (Bool × (List Int) × Int × Bool × (List Int) × Int))) (k : Nat) (rec3 : (Nat × Nat × Nat × Int) → Option (Nat × Nat × Nat)) (x15 : Nat) (x16 : Nat) (x17 : Nat) (x18 : Int) : Option (Nat × Nat × Nat) :=
 br (decide (x18 < (a0.length : Int)))
  ((idx a0 x18) >>= fun r14 =>
  (laws_middles_l2 r14 k (x15, x16, x17, 1)) >>= fun v5 =>
  rec3 (v5.1, v5.2.1, v5.2.2, (iadd .i64 x18 1)))
  (some (x15, x16, x17))
def laws_middles_l3 (a0 : List (List (Bool × (List Int) × Int × Bool × (List Int) × Int))) : Nat → (Nat × Nat × Nat × Int) → Option (Nat × Nat × Nat)
 | 0, _ => none
 | k + 1, v => laws_middles_l3s a0 k (laws_middles_l3 a0 k) v.1 v.2.1 v.2.2.1 v.2.2.2
def laws_middles (k : Nat) (a0 : List (List (Bool × (List Int) × Int × Bool × (List Int) × Int))) : Option (Nat × Nat × Bool) :=
 (laws_middles_l3 a0 k (0, 0, 0, 0)) >>= fun v6 =>
 (some (gdiv v6.1 v6.2.2)) >>= fun r76 =>
 (some (gdiv v6.2.1 v6.2.2)) >>= fun r79 =>
 some (r76, r79, fgt v6.2.2 0)

theorem laws_middles_sim {k : Nat}  (a0 : List (List (Bool × (List Int) × Int × Bool × (List Int) × Int))) {out : Nat × Nat × Bool} (hp : laws_middles k a0 = some out) : Sx.Fn Tryz.prog 5 [(Sl (Kl KT53) a0)] [] (fun w : Unit => (Tu [(Fl out.1), (Fl out.2.1), (Vb out.2.2)])) (fun w => []) := by
 unfold laws_middles at hp
 refine fn_of Tryz.func5 rfl Tryz.ntmps5 rfl fun E hM => ?_
 refine cr fun K1 hK1 => ?_
 refine s0 (rd_assign' rfl) ?_
 refine s0 (rd_assign' rfl) ?_
 refine s0 (rd_assign' rfl) ?_
 refine nk hK1 ?_
 refine cr fun K2 hK2 => ?_
 refine s0 (rd_assign' rfl) ?_
 refine nk hK2 ?_
 refine cx_seq' fun K3 hK3 => ?_
 refine cr fun K4 hK4 => ?_
 refine s0 (rd_move' rfl) ?_
 refine s0 (rd_len' rfl Tryz.underlying23) ?_
 refine s0 (rd_move' rfl) ?_
 refine nk hK4 ?_
 refine cx_block' ?_
 obtain ⟨v6, hy3, hp⟩ := bind_some hp
 refine tx_slot' 5 (y := (Fl 0)) rfl imp_vf ?_
 refine cx_loopg' (F := laws_middles_l3 a0) (G := fun k R v => laws_middles_l3s a0 k R v.1 v.2.1 v.2.2.1 v.2.2.2) (x := (0, 0, 0, 0)) (gh := ()) (fun (v3 : Nat × Nat × Nat × Int) (w3 : Unit) => (⟨82, [], [(2, (Vg v3.1)), (3, (Vg v3.2.1)), (5, (Fl v3.2.2.1)), (10, (Sl (Kl KT53) a0)), (11, (Vi (a0.length : Int))), (12, (Vi v3.2.2.2))], []⟩ : St)) (fun (v6 : Nat × Nat × Nat) => Zg E (Exit.exit 0) (fun (w6 : Unit) => (⟨82, [], [(2, (Vg v6.1)), (3, (Vg v6.2.1)), (5, (Fl v6.2.2))], []⟩ : St))) (fun _ => rfl) (fun _ _ => rfl) ?_ hy3 (tx_to' rfl [] (sub_cons rfl (sub_cons rfl (sub_cons rfl (sub_cons rfl (sub_cons rfl (sub_cons rfl sub_nil)))))) (by decide) pick_nil) ?_
 ·clear hp hy3
  clear v6
  intro k rec3 KY3 ih3
  rintro ⟨x15, x16, x17, x18⟩ ⟨⟩ y3 hp
  replace hp : laws_middles_l3s a0 k rec3 x15 x16 x17 x18 = some y3 := hp
  unfold laws_middles_l3s at hp
  refine cr fun K22 hK22 => ?_
  refine s0 (rd_bin' rfl rfl eg_int ru_lss) ?_
  refine nk hK22 ?_
  refine cx_seq' fun K23 hK23 => ?_
  refine cx_cond' rfl (fun h6 => ?_) (fun h6 => ?_)
  ·replace hp := (br_t h6).symm.trans hp
   refine cx_skip' ?_
   show TX E K23 _
   refine tx_k' hK23 ?_
   refine cx_seq' fun K24 hK24 => ?_
   refine cx_block' ?_
   refine cr fun K25 hK25 => ?_
   obtain ⟨r14, hr14, hp⟩ := bind_some hp
   refine s0 (rd_at' (K := (Kl KT53)) rfl rfl hr14 Tryz.underlying23 info44) ?_
   refine s0 (rd_load_pt' rfl rfl flat44) ?_
   refine s0 (rd_assign' rfl) ?_
   refine nk hK25 ?_
   refine cr fun K26 hK26 => ?_
   refine s0 (rd_assign' rfl) ?_
   refine nk hK26 ?_
   refine cx_block' ?_
   obtain ⟨v5, hy2, hp⟩ := bind_some hp
   refine cx_loopg' (F := laws_middles_l2 r14) (G := fun k R v => laws_middles_l2s r14 k R v.1 v.2.1 v.2.2.1 v.2.2.2) (x := (x15, x16, x17, 1)) (gh := ()) (fun (v4 : Nat × Nat × Nat × Int) (w4 : Unit) => (⟨82, [], [(2, (Vg v4.1)), (3, (Vg v4.2.1)), (5, (Fl v4.2.2.1)), (7, (Sl KT53 r14)), (8, (Vi v4.2.2.2)), (10, (Sl (Kl KT53) a0)), (11, (Vi (a0.length : Int))), (12, (Vi x18))], []⟩ : St)) (fun (v5 : Nat × Nat × Nat) => Zg E (Exit.exit 2) (fun (w5 : Unit) => (⟨82, [], [(2, (Vg v5.1)), (3, (Vg v5.2.1)), (5, (Fl v5.2.2)), (10, (Sl (Kl KT53) a0)), (11, (Vi (a0.length : Int))), (12, (Vi x18))], []⟩ : St))) (fun _ => rfl) (fun _ _ => rfl) ?_ hy2 (tx_to' rfl [] (sub_cons rfl (sub_cons rfl (sub_cons rfl (sub_cons rfl (sub_cons rfl (sub_cons rfl (sub_cons rfl (sub_cons rfl sub_nil)))))))) (by decide) pick_nil) ?_
   ·clear hp hy2
    clear v5
    intro k rec2 KY2 ih2
    rintro ⟨x8, x9, x10, x11⟩ ⟨⟩ y2 hp
    replace hp : laws_middles_l2s r14 k rec2 x8 x9 x10 x11 = some y2 := hp
    unfold laws_middles_l2s at hp
    refine cx_seq' fun K33 hK33 => ?_
    refine cr fun K34 hK34 => ?_
    refine s0 (rd_move' rfl) ?_
    refine s0 (rd_move' rfl) ?_
    refine s0 (rd_len' rfl Tryz.underlying44) ?_
    refine s0 (rd_bin' rfl rfl eg_int ru_lss) ?_
    refine nk hK34 ?_
    refine cx_cond' rfl (fun h9 => ?_) (fun h9 => ?_)
    ·replace hp := (br_t h9).symm.trans hp
     refine cx_skip' ?_
     show TX E K33 _
     refine tx_k' hK33 ?_
     refine cx_seq' fun K35 hK35 => ?_
     refine cx_block' ?_
     refine cx_seq' fun K36 hK36 => ?_
     refine cx_plan' [] [] [(0, 1), (1, 1), (2, 1), (3, 1), (4, 1), (5, 1), (6, 1), (7, 1), (8, 1), (9, 0), (10, 0), (11, 0), (12, 1)] mixed (by kernel_rfl) ?_
     refine px_rd' rfl (rd_move' rfl) rfl rfl (wt_none' rfl) ?_
     refine px_rd' rfl (rd_move' rfl) rfl rfl (wt_none' rfl) ?_
     refine px_rd' rfl (rd_bin' rfl rfl eg_int ru_sub) rfl rfl (wt_none' rfl) ?_
     obtain ⟨r25, hr25, hp⟩ := bind_some hp
     refine px_rd' rfl (rd_at' (K := KT53) rfl rfl hr25 Tryz.underlying44 info53) rfl rfl (wt_none' rfl) ?_
     refine px_rd' rfl (rd_load_pt_agg' (nn := 6) rfl rfl agg53 (l' := [(Vb r25.1), (Sl (Ki .u32) r25.2.1), (Vi r25.2.2.1), (Vb r25.2.2.2.1), (Sl (Ki .u32) r25.2.2.2.2.1), (Vi r25.2.2.2.2.2)]) rfl) rfl rfl (wt_none' rfl) ?_
     refine px_rd' rfl (rd_move' rfl) rfl rfl (wt_none' rfl) ?_
     refine px_rd' rfl (rd_move' rfl) rfl rfl (wt_none' rfl) ?_
     obtain ⟨r29, hr29, hp⟩ := bind_some hp
     refine px_rd' rfl (rd_at' (K := KT53) rfl rfl hr29 Tryz.underlying44 info53) rfl rfl (wt_none' rfl) ?_
     refine px_rd' rfl (rd_load_pt_agg' (nn := 6) rfl rfl agg53 (l' := [(Vb r29.1), (Sl (Ki .u32) r29.2.1), (Vi r29.2.2.1), (Vb r29.2.2.2.1), (Sl (Ki .u32) r29.2.2.2.2.1), (Vi r29.2.2.2.2.2)]) rfl) rfl rfl (wt_none' rfl) ?_
     obtain ⟨r31, hr31, hp⟩ := bind_some hp
     refine px_ox' rfl (ox_calln' (ent_fn' Tryz.func13 isn13 rfl rfl) (spec_Square_sim _ _ _ _ _ _ _ _ _ _ _ _ hr31 : Sx.Fn Tryz.prog 13 [(Ag [(Vb r25.1), (Sl (Ki .u32) r25.2.1), (Vi r25.2.2.1), (Vb r25.2.2.2.1), (Sl (Ki .u32) r25.2.2.2.2.1), (Vi r25.2.2.2.2.2)]), (Ag [(Vb r29.1), (Sl (Ki .u32) r29.2.1), (Vi r29.2.2.1), (Vb r29.2.2.2.1), (Sl (Ki .u32) r29.2.2.2.2.1), (Vi r29.2.2.2.2.2)])] [] (fun x : Unit => (Ag [(Vb r31.1), (Sl (Ki .u32) r31.2.1), (Vi r31.2.2)])) (fun x => [])) (Hn := fun x : Unit => []) (fun _ => rfl) rfl rfl) rfl bs_nil (wt_none' rfl) fun ⟨⟩ => ?_
     obtain ⟨r32, hr32, hp⟩ := bind_some hp
     refine px_ox' rfl (ox_calln' (ent_fn' Tryz.func14 isn14 rfl rfl) (spec_Dyadic_Float_sim _ _ _ hr32 : Sx.Fn Tryz.prog 14 [(Ag [(Vb r31.1), (Sl (Ki .u32) r31.2.1), (Vi r31.2.2)])] [] (fun x : Unit => (Fl r32)) (fun x => [])) (Hn := fun x : Unit => []) (fun _ => rfl) rfl rfl) rfl bs_nil (wt_none' rfl) fun ⟨⟩ => ?_
     obtain ⟨u16, hu16, hp⟩ := bind_some hp
     refine tx_slot' 32 (y := (Vg r32)) rfl (imp_num (num_some hu16).2) ?_
     obtain ⟨r33, hr33, hp⟩ := bind_some hp
     refine px_ox' rfl (ox_calln' (ent_fn' Tryz.func12 isn12 rfl rfl) (math_Sqrt_sim _ hr33 : Sx.Fn Tryz.prog 12 [(Vg r32)] [] (fun x : Unit => (Fl r33)) (fun x => [])) (Hn := fun x : Unit => []) (fun _ => rfl) rfl rfl) rfl bs_nil (wt_none' rfl) fun ⟨⟩ => ?_
     refine px_rd' rfl (rd_assign' rfl) rfl rfl (wt_none' rfl) ?_
     refine px_nil' ?_
     show TX E K36 _
     refine tx_k' hK36 ?_
     refine cr fun K37 hK37 => ?_
     refine s0 (rd_move' rfl) ?_
     refine s0 (rd_move' rfl) ?_
     obtain ⟨r36, hr36, hp⟩ := bind_some hp
     refine sx_ox' (ox_fop' (.inl rfl) (fl_f rfl) (fl_f rfl) (Option.some.inj hr36) rfl rfl) (wt_none' rfl) fun _ => ?_
     refine s0 (rd_assign' rfl) ?_
     refine nk hK37 ?_
     refine cx_seq' fun K38 hK38 => ?_
     refine cx_plan' [] [] [(0, 1), (1, 1), (2, 1), (3, 1), (4, 1), (5, 1), (6, 1), (7, 1), (8, 1), (9, 1), (10, 1), (11, 1), (12, 1), (13, 0), (14, 0), (15, 1), (16, 1), (17, 1), (18, 1)] mixed (by kernel_rfl) ?_
     refine px_rd' rfl (rd_move' rfl) rfl rfl (wt_none' rfl) ?_
     refine px_rd' rfl (rd_move' rfl) rfl rfl (wt_none' rfl) ?_
     refine px_rd' rfl (rd_move' rfl) rfl rfl (wt_none' rfl) ?_
     refine px_rd' rfl (rd_move' rfl) rfl rfl (wt_none' rfl) ?_
     refine px_rd' rfl (rd_bin' rfl rfl eg_int ru_sub) rfl rfl (wt_none' rfl) ?_
     obtain ⟨r42, hr42, hp⟩ := bind_some hp
     refine px_rd' rfl (rd_at' (K := KT53) rfl rfl hr42 Tryz.underlying44 info53) rfl rfl (wt_none' rfl) ?_
     refine px_rd' rfl (rd_field_pt' (off := 0) rfl Tryz.underlying53 rfl info50 rfl (l' := [(Vb r42.1), (Sl (Ki .u32) r42.2.1), (Vi r42.2.2.1), (Vb r42.2.2.2.1), (Sl (Ki .u32) r42.2.2.2.2.1), (Vi r42.2.2.2.2.2)]) rfl) rfl rfl (wt_none' rfl) ?_
     refine px_rd' rfl (rd_load_pt_agg' (nn := 3) rfl rfl agg50 (l' := [(Vb r42.1), (Sl (Ki .u32) r42.2.1), (Vi r42.2.2.1)]) rfl) rfl rfl (wt_none' rfl) ?_
     refine px_rd' rfl (rd_move' rfl) rfl rfl (wt_none' rfl) ?_
     refine px_rd' rfl (rd_move' rfl) rfl rfl (wt_none' rfl) ?_
     obtain ⟨r47, hr47, hp⟩ := bind_some hp
     refine px_rd' rfl (rd_at' (K := KT53) rfl rfl hr47 Tryz.underlying44 info53) rfl rfl (wt_none' rfl) ?_
     refine px_rd' rfl (rd_field_pt' (off := 0) rfl Tryz.underlying53 rfl info50 rfl (l' := [(Vb r47.1), (Sl (Ki .u32) r47.2.1), (Vi r47.2.2.1), (Vb r47.2.2.2.1), (Sl (Ki .u32) r47.2.2.2.2.1), (Vi r47.2.2.2.2.2)]) rfl) rfl rfl (wt_none' rfl) ?_
     refine px_rd' rfl (rd_load_pt_agg' (nn := 3) rfl rfl agg50 (l' := [(Vb r47.1), (Sl (Ki .u32) r47.2.1), (Vi r47.2.2.1)]) rfl) rfl rfl (wt_none' rfl) ?_
     obtain ⟨r50, hr50, hp⟩ := bind_some hp
     refine px_ox' rfl (ox_calln' (ent_fn' Tryz.func15 isn15 rfl rfl) (spec_Dyadic_Add_sim _ _ _ _ _ _ hr50 : Sx.Fn Tryz.prog 15 [(Ag [(Vb r42.1), (Sl (Ki .u32) r42.2.1), (Vi r42.2.2.1)]), (Ag [(Vb r47.1), (Sl (Ki .u32) r47.2.1), (Vi r47.2.2.1)])] [] (fun x : Unit => (Ag [(Vb r50.1), (Sl (Ki .u32) r50.2.1), (Vi r50.2.2)])) (fun x => [])) (Hn := fun x : Unit => []) (fun _ => rfl) rfl rfl) rfl bs_nil (wt_none' rfl) fun ⟨⟩ => ?_
     obtain ⟨r51, hr51, hp⟩ := bind_some hp
     refine px_ox' rfl (ox_calln' (ent_fn' Tryz.func14 isn14 rfl rfl) (spec_Dyadic_Float_sim _ _ _ hr51 : Sx.Fn Tryz.prog 14 [(Ag [(Vb r50.1), (Sl (Ki .u32) r50.2.1), (Vi r50.2.2)])] [] (fun x : Unit => (Fl r51)) (fun x => [])) (Hn := fun x : Unit => []) (fun _ => rfl) rfl rfl) rfl bs_nil (wt_none' rfl) fun ⟨⟩ => ?_
     obtain ⟨u17, hu17, hp⟩ := bind_some hp
     refine tx_slot' 38 (y := (Vg r33)) rfl (imp_num (num_some hu17).2) ?_
     obtain ⟨u18, hu18, hp⟩ := bind_some hp
     refine tx_slot' 51 (y := (Vg r51)) rfl (imp_num (num_some hu18).2) ?_
     obtain ⟨r52, hr52, hp⟩ := bind_some hp
     refine px_rd' rfl (rd_bin' rfl rfl eg_flt (ru_fmul hr52)) rfl rfl (wt_none' rfl) ?_
     obtain ⟨r53, hr53, hp⟩ := bind_some hp
     refine px_rd' rfl (rd_bin' rfl rfl eg_flt (ru_fdiv hr53)) rfl rfl (wt_none' rfl) ?_
     obtain ⟨r54, hr54, hp⟩ := bind_some hp
     refine px_rd' rfl (rd_bin' rfl rfl eg_flt (ru_fadd hr54)) rfl rfl (wt_none' rfl) ?_
     refine px_rd' rfl (rd_assign' rfl) rfl rfl (wt_none' rfl) ?_
     refine px_nil' ?_
     show TX E K38 _
     refine tx_k' hK38 ?_
     refine cx_plan' [] [] [(0, 1), (1, 1), (2, 1), (3, 1), (4, 1), (5, 1), (6, 1), (7, 1), (8, 1), (9, 1), (10, 1), (11, 1), (12, 1), (13, 0), (14, 0), (15, 1), (16, 1), (17, 1), (18, 1)] mixed (by kernel_rfl) ?_
     refine px_rd' rfl (rd_move' rfl) rfl rfl (wt_none' rfl) ?_
     refine px_rd' rfl (rd_move' rfl) rfl rfl (wt_none' rfl) ?_
     refine px_rd' rfl (rd_move' rfl) rfl rfl (wt_none' rfl) ?_
     refine px_rd' rfl (rd_move' rfl) rfl rfl (wt_none' rfl) ?_
     refine px_rd' rfl (rd_bin' rfl rfl eg_int ru_sub) rfl rfl (wt_none' rfl) ?_
     obtain ⟨r60, hr60, hp⟩ := bind_some hp
     refine px_rd' rfl (rd_at' (K := KT53) rfl rfl hr60 Tryz.underlying44 info53) rfl rfl (wt_none' rfl) ?_
     refine px_rd' rfl (rd_field_pt' (off := 3) rfl Tryz.underlying53 rfl info50 rfl (l' := [(Vb r60.2.2.2.1), (Sl (Ki .u32) r60.2.2.2.2.1), (Vi r60.2.2.2.2.2)]) rfl) rfl rfl (wt_none' rfl) ?_
     refine px_rd' rfl (rd_load_pt_agg' (nn := 3) rfl rfl agg50 (l' := [(Vb r60.2.2.2.1), (Sl (Ki .u32) r60.2.2.2.2.1), (Vi r60.2.2.2.2.2)]) rfl) rfl rfl (wt_none' rfl) ?_
     refine px_rd' rfl (rd_move' rfl) rfl rfl (wt_none' rfl) ?_
     refine px_rd' rfl (rd_move' rfl) rfl rfl (wt_none' rfl) ?_
     obtain ⟨r65, hr65, hp⟩ := bind_some hp
     refine px_rd' rfl (rd_at' (K := KT53) rfl rfl hr65 Tryz.underlying44 info53) rfl rfl (wt_none' rfl) ?_
     refine px_rd' rfl (rd_field_pt' (off := 3) rfl Tryz.underlying53 rfl info50 rfl (l' := [(Vb r65.2.2.2.1), (Sl (Ki .u32) r65.2.2.2.2.1), (Vi r65.2.2.2.2.2)]) rfl) rfl rfl (wt_none' rfl) ?_
     refine px_rd' rfl (rd_load_pt_agg' (nn := 3) rfl rfl agg50 (l' := [(Vb r65.2.2.2.1), (Sl (Ki .u32) r65.2.2.2.2.1), (Vi r65.2.2.2.2.2)]) rfl) rfl rfl (wt_none' rfl) ?_
     obtain ⟨r68, hr68, hp⟩ := bind_some hp
     refine px_ox' rfl (ox_calln' (ent_fn' Tryz.func15 isn15 rfl rfl) (spec_Dyadic_Add_sim _ _ _ _ _ _ hr68 : Sx.Fn Tryz.prog 15 [(Ag [(Vb r60.2.2.2.1), (Sl (Ki .u32) r60.2.2.2.2.1), (Vi r60.2.2.2.2.2)]), (Ag [(Vb r65.2.2.2.1), (Sl (Ki .u32) r65.2.2.2.2.1), (Vi r65.2.2.2.2.2)])] [] (fun x : Unit => (Ag [(Vb r68.1), (Sl (Ki .u32) r68.2.1), (Vi r68.2.2)])) (fun x => [])) (Hn := fun x : Unit => []) (fun _ => rfl) rfl rfl) rfl bs_nil (wt_none' rfl) fun ⟨⟩ => ?_
     obtain ⟨r69, hr69, hp⟩ := bind_some hp
     refine px_ox' rfl (ox_calln' (ent_fn' Tryz.func14 isn14 rfl rfl) (spec_Dyadic_Float_sim _ _ _ hr69 : Sx.Fn Tryz.prog 14 [(Ag [(Vb r68.1), (Sl (Ki .u32) r68.2.1), (Vi r68.2.2)])] [] (fun x : Unit => (Fl r69)) (fun x => [])) (Hn := fun x : Unit => []) (fun _ => rfl) rfl rfl) rfl bs_nil (wt_none' rfl) fun ⟨⟩ => ?_
     obtain ⟨u19, hu19, hp⟩ := bind_some hp
     refine tx_slot' 56 (y := (Vg r33)) rfl (imp_num (num_some hu19).2) ?_
     obtain ⟨u20, hu20, hp⟩ := bind_some hp
     refine tx_slot' 69 (y := (Vg r69)) rfl (imp_num (num_some hu20).2) ?_
     obtain ⟨r70, hr70, hp⟩ := bind_some hp
     refine px_rd' rfl (rd_bin' rfl rfl eg_flt (ru_fmul hr70)) rfl rfl (wt_none' rfl) ?_
     obtain ⟨r71, hr71, hp⟩ := bind_some hp
     refine px_rd' rfl (rd_bin' rfl rfl eg_flt (ru_fdiv hr71)) rfl rfl (wt_none' rfl) ?_
     obtain ⟨r72, hr72, hp⟩ := bind_some hp
     refine px_rd' rfl (rd_bin' rfl rfl eg_flt (ru_fadd hr72)) rfl rfl (wt_none' rfl) ?_
     refine px_rd' rfl (rd_assign' rfl) rfl rfl (wt_none' rfl) ?_
     refine px_nil' ?_
     show TX E K35 _
     refine tx_k' hK35 ?_
     refine cx_region' ?_
     refine s0 (rd_move' rfl) ?_
     refine s0 (rd_bin' rfl rfl eg_int ru_add) ?_
     refine s0 (rd_assign' rfl) ?_
     refine sx_nil' ?_
     show TX E (KY2 _) _
     exact tx_pick' [] (sub_cons rfl (sub_cons rfl (sub_cons rfl (sub_cons rfl (sub_cons rfl (sub_cons rfl (sub_cons rfl (sub_cons rfl sub_nil)))))))) (by decide) pick_nil (ih2 (r54, r72, r36, (iadd .i64 x11 1)) () _ hp)
    replace hp := (br_f h9).symm.trans hp
    refine cx_exit' ?_
    replace hp := Option.some.inj hp
    subst hp
    show TX E (Zg E (Exit.exit 2) _ (Exit.exit 2)) _
    exact tx_zend' () rfl [] (sub_cons rfl (sub_cons rfl (sub_cons rfl (sub_cons rfl (sub_cons rfl (sub_cons rfl sub_nil)))))) (by decide) pick_nil
   refine zg_out fun w5 => ?_
   show TX E K24 _
   refine tx_k' hK24 ?_
   refine cx_region' ?_
   refine s0 (rd_bin' rfl rfl eg_int ru_add) ?_
   refine s0 (rd_move' rfl) ?_
   refine sx_nil' ?_
   show TX E (KY3 _) _
   exact tx_pick' [] (sub_cons rfl (sub_cons rfl (sub_cons rfl (sub_cons rfl (sub_cons rfl (sub_cons rfl sub_nil)))))) (by decide) pick_nil (ih3 (v5.1, v5.2.1, v5.2.2, (iadd .i64 x18 1)) () _ hp)
  replace hp := (br_f h6).symm.trans hp
  refine cx_exit' ?_
  replace hp := Option.some.inj hp
  subst hp
  show TX E (Zg E (Exit.exit 0) _ (Exit.exit 0)) _
  exact tx_zend' () rfl [] (sub_cons rfl (sub_cons rfl (sub_cons rfl sub_nil))) (by decide) pick_nil
 refine zg_out fun w6 => ?_
 show TX E K3 _
 refine tx_k' hK3 ?_
 refine cr fun K39 hK39 => ?_
 refine s0 (rd_move' rfl) ?_
 refine s0 (rd_move' rfl) ?_
 obtain ⟨r76, hr76, hp⟩ := bind_some hp
 refine sx_ox' (ox_fop' (.inr (.inr (.inr rfl))) (fl_v rfl) (fl_f rfl) (Option.some.inj hr76) rfl rfl) (wt_none' rfl) fun _ => ?_
 refine s0 (rd_move' rfl) ?_
 refine s0 (rd_move' rfl) ?_
 obtain ⟨r79, hr79, hp⟩ := bind_some hp
 refine sx_ox' (ox_fop' (.inr (.inr (.inr rfl))) (fl_v rfl) (fl_f rfl) (Option.some.inj hr79) rfl rfl) (wt_none' rfl) fun _ => ?_
 refine s0 (rd_move' rfl) ?_
 refine s0 (rd_fcmp' (fl_f rfl) (fl_v rfl) rfl) ?_
 refine s0 (rd_assign' rfl) ?_
 refine s0 (rd_assign' rfl) ?_
 refine s0 (rd_assign' rfl) ?_
 refine nk hK39 ?_
 refine cx_retc' ?_
 replace hp := Option.some.inj hp
 subst hp
 refine tx_pick' (L' := [(2, (Fl r76)), (3, (Fl r79)), (4, (Vb (fgt v6.2.2 0)))]) (H' := []) [] (sub_cons rfl (sub_cons rfl (sub_cons rfl sub_nil))) (by decide) pick_nil ?_
 exact tx_ret3' Tryz.results5 rfl () (rv_tmp' rfl) (rv_tmp' rfl) (rv_tmp' rfl) rfl (List.Sublist.refl _)

def gogeom_Layout_Stride (k : Nat) (a0 : Int) : Option (Int) :=
 br (decide (a0 = 0))
  (some 0)
  (br (decide (a0 = 1))
   (some 2)
   (br (decide (a0 = 2))
    (some 3)
    (br (decide (a0 = 3))
     (some 3)
     (br (decide (a0 = 4))
      (some 4)
      (some a0)))))

theorem gogeom_Layout_Stride_sim {k : Nat}  (a0 : Int) {out : Int} (hp : gogeom_Layout_Stride k a0 = some out) : Sx.Fn Tryz.prog 36 [(Vi a0)] [] (fun w : Unit => (Vi out)) (fun w => []) := by
 unfold gogeom_Layout_Stride at hp
 refine fn_of Tryz.func36 rfl Tryz.ntmps36 rfl fun E hM => ?_
 refine cr fun K1 hK1 => ?_
 refine s0 (rd_assign' rfl) ?_
 refine nk hK1 ?_
 refine cr fun K2 hK2 => ?_
 refine s0 (rd_move' rfl) ?_
 refine nk hK2 ?_
 refine cx_block' ?_
 refine cr fun K3 hK3 => ?_
 refine s0 (rd_bin' rfl rfl eg_int ru_eql) ?_
 refine s0 (rd_assign' rfl) ?_
 refine nk hK3 ?_
 refine cx_cond' rfl (fun h1 => ?_) (fun h1 => ?_)
 ·replace hp := (br_t h1).symm.trans hp
  refine cr fun K4 hK4 => ?_
  refine s0 (rd_assign' rfl) ?_
  refine nk hK4 ?_
  refine cx_retc' ?_
  replace hp := Option.some.inj hp
  subst hp
  refine tx_pick' (L' := [(2, (Vi 0))]) (H' := []) [] (sub_cons rfl sub_nil) (by decide) pick_nil ?_
  exact tx_ret1' Tryz.results36 rfl () (rv_tmp' rfl) (List.Sublist.refl _)
 replace hp := (br_f h1).symm.trans hp
 refine cr fun K5 hK5 => ?_
 refine s0 (rd_bin' rfl rfl eg_int ru_eql) ?_
 refine s0 (rd_assign' rfl) ?_
 refine nk hK5 ?_
 refine cx_cond' rfl (fun h2 => ?_) (fun h2 => ?_)
 ·replace hp := (br_t h2).symm.trans hp
  refine cr fun K6 hK6 => ?_
  refine s0 (rd_assign' rfl) ?_
  refine nk hK6 ?_
  refine cx_retc' ?_
  replace hp := Option.some.inj hp
  subst hp
  refine tx_pick' (L' := [(2, (Vi 2))]) (H' := []) [] (sub_cons rfl sub_nil) (by decide) pick_nil ?_
  exact tx_ret1' Tryz.results36 rfl () (rv_tmp' rfl) (List.Sublist.refl _)
 replace hp := (br_f h2).symm.trans hp
 refine cr fun K7 hK7 => ?_
 refine s0 (rd_bin' rfl rfl eg_int ru_eql) ?_
 refine s0 (rd_assign' rfl) ?_
 refine nk hK7 ?_
 refine cx_cond' rfl (fun h3 => ?_) (fun h3 => ?_)
 ·replace hp := (br_t h3).symm.trans hp
  refine cr fun K8 hK8 => ?_
  refine s0 (rd_assign' rfl) ?_
  refine nk hK8 ?_
  refine cx_retc' ?_
  replace hp := Option.some.inj hp
  subst hp
  refine tx_pick' (L' := [(2, (Vi 3))]) (H' := []) [] (sub_cons rfl sub_nil) (by decide) pick_nil ?_
  exact tx_ret1' Tryz.results36 rfl () (rv_tmp' rfl) (List.Sublist.refl _)
 replace hp := (br_f h3).symm.trans hp
 refine cr fun K9 hK9 => ?_
 refine s0 (rd_bin' rfl rfl eg_int ru_eql) ?_
 refine s0 (rd_assign' rfl) ?_
 refine nk hK9 ?_
 refine cx_cond' rfl (fun h4 => ?_) (fun h4 => ?_)
 ·replace hp := (br_t h4).symm.trans hp
  refine cr fun K10 hK10 => ?_
  refine s0 (rd_assign' rfl) ?_
  refine nk hK10 ?_
  refine cx_retc' ?_
  replace hp := Option.some.inj hp
  subst hp
  refine tx_pick' (L' := [(2, (Vi 3))]) (H' := []) [] (sub_cons rfl sub_nil) (by decide) pick_nil ?_
  exact tx_ret1' Tryz.results36 rfl () (rv_tmp' rfl) (List.Sublist.refl _)
 replace hp := (br_f h4).symm.trans hp
 refine cr fun K11 hK11 => ?_
 refine s0 (rd_bin' rfl rfl eg_int ru_eql) ?_
 refine s0 (rd_assign' rfl) ?_
 refine nk hK11 ?_
 refine cx_cond' rfl (fun h5 => ?_) (fun h5 => ?_)
 ·replace hp := (br_t h5).symm.trans hp
  refine cr fun K12 hK12 => ?_
  refine s0 (rd_assign' rfl) ?_
  refine nk hK12 ?_
  refine cx_retc' ?_
  replace hp := Option.some.inj hp
  subst hp
  refine tx_pick' (L' := [(2, (Vi 4))]) (H' := []) [] (sub_cons rfl sub_nil) (by decide) pick_nil ?_
  exact tx_ret1' Tryz.results36 rfl () (rv_tmp' rfl) (List.Sublist.refl _)
 replace hp := (br_f h5).symm.trans hp
 refine cr fun K13 hK13 => ?_
 refine s0 (rd_move' rfl) ?_
 refine s0 (rd_assign' rfl) ?_
 refine nk hK13 ?_
 refine cx_retc' ?_
 replace hp := Option.some.inj hp
 subst hp
 refine tx_pick' (L' := [(2, (Vi a0))]) (H' := []) [] (sub_cons rfl sub_nil) (by decide) pick_nil ?_
 exact tx_ret1' Tryz.results36 rfl () (rv_tmp' rfl) (List.Sublist.refl _)

def xy_NewLineCentroidCalculator (k : Nat) (a0 : Int) : Option (Int × Int × (List Nat) × Nat) :=
 (gogeom_Layout_Stride k a0) >>= fun r5 =>
 (gogeom_Layout_Stride k a0) >>= fun r7 =>
 (mk 8 0 r7 r7) >>= fun r8 =>
 some (a0, r5, r8, 0)

theorem xy_NewLineCentroidCalculator_sim {k : Nat}  (a0 : Int) {out : Int × Int × (List Nat) × Nat} (hp : xy_NewLineCentroidCalculator k a0 = some out) : Sx.Fn Tryz.prog 17 [(Vi a0)] [] (fun w : Addr × Gs => (Vp w.1)) (fun w => [⟨.pointer (some w.1), [(Vi out.1), (Vi out.2.1), (Vl (Vs w.2)), (Vg out.2.2.2)], 84, none⟩, (Rw Kf 26 (Vs w.2) out.2.2.1)]) := by
 unfold xy_NewLineCentroidCalculator at hp
 refine fn_of Tryz.func17 rfl Tryz.ntmps17 rfl fun E hM => ?_
 refine cr fun K1 hK1 => ?_
 refine s0 (rd_assign' rfl) ?_
 refine nk hK1 ?_
 refine cr fun K2 hK2 => ?_
 refine s0 (rd_move' rfl) ?_
 refine s0 (rd_move' rfl) ?_
 obtain ⟨r5, hr5, hp⟩ := bind_some hp
 refine sx_ox' (ox_calln' (ent_fn' Tryz.func36 isn36 rfl rfl) (gogeom_Layout_Stride_sim _ hr5 : Sx.Fn Tryz.prog 36 [(Vi a0)] [] (fun x : Unit => (Vi r5)) (fun x => [])) (Hn := fun x : Unit => []) (fun _ => rfl) rfl rfl) (wt_none' rfl) fun ⟨⟩ => ?_
 refine s0 (rd_move' rfl) ?_
 obtain ⟨r7, hr7, hp⟩ := bind_some hp
 refine sx_ox' (ox_calln' (ent_fn' Tryz.func36 isn36 rfl rfl) (gogeom_Layout_Stride_sim _ hr7 : Sx.Fn Tryz.prog 36 [(Vi a0)] [] (fun x : Unit => (Vi r7)) (fun x => [])) (Hn := fun x : Unit => []) (fun _ => rfl) rfl rfl) (wt_none' rfl) fun ⟨⟩ => ?_
 obtain ⟨r8, hr8, hp⟩ := bind_some hp
 refine sx_ox' (ox_make' (K := Kf) rfl rfl hr8 rfl Tryz.underlying29 info26 rfl rfl rfl rfl rfl) (wt_none' rfl) fun g8 => ?_
 refine s0 (rd_build' (pls := [(0, 1), (1, 1), (2, 1), (3, 1)]) (qs := [(0, [(Vi a0)]), (1, [(Vi r5)]), (2, [(Vl (Vs g8))])]) (r := [(Vi a0), (Vi r5), (Vl (Vs g8)), (Vg 0)]) ⟨rfl, ⟨_, rfl, (lv_vl rfl rfl)⟩, ⟨rfl, ⟨_, rfl, (lv_vl rfl rfl)⟩, ⟨rfl, ⟨_, rfl, (lv_vl rfl rfl)⟩, trivial⟩⟩⟩ Tryz.underlying84 has84 places84 info84 rfl rfl rfl) ?_
 refine sx_ox' (ox_box' rfl (lv_ag _) rfl rfl) (wt_none' rfl) fun q10 => ?_
 refine s0 (rd_assign' rfl) ?_
 refine nk hK2 ?_
 refine cx_retc' ?_
 replace hp := Option.some.inj hp
 subst hp
 refine tx_pick' (L' := [(2, (Vp q10))]) (H' := [⟨.pointer (some q10), [(Vi a0), (Vi r5), (Vl (Vs g8)), (Vg 0)], 84, none⟩, (Rw Kf 26 (Vs g8) r8)]) [0, 1] (sub_cons rfl sub_nil) (by decide) (pick_cons rfl (pick_cons rfl pick_nil)) ?_
 exact tx_ret1' Tryz.results17 rfl (q10, g8) (rv_tmp' rfl) (List.Sublist.refl _)

def impl_floats (k : Nat) (a0 : List Nat) : Option ((List Nat)) :=
 (apd 8 [] a0) >>= fun r4 =>
 some r4

theorem impl_floats_sim {k : Nat}  (a0 : List Nat) {out : (List Nat)} (hp : impl_floats k a0 = some out) : Sx.Fn Tryz.prog 20 [(Sl Kf a0)] [] (fun w : Unit => (Sl Kf out)) (fun w => []) := by
 unfold impl_floats at hp
 refine fn_of Tryz.func20 rfl Tryz.ntmps20 rfl fun E hM => ?_
 refine cr fun K1 hK1 => ?_
 refine s0 (rd_assign' rfl) ?_
 refine nk hK1 ?_
 refine cr fun K2 hK2 => ?_
 refine s0 (rd_move' rfl) ?_
 refine tx_nilrow' Kf 26 ?_
 obtain ⟨r4, hr4, hp⟩ := bind_some hp
 refine sx_ox' (ox_append' (K := Kf) (i := 0) (xs := []) (ys := a0) rfl rfl rfl (sr_sl' rfl Tryz.underlying29) hr4 Tryz.underlying29 info26 rfl rfl rfl (H' := []) rfl) (wt_none' rfl) fun g4 => ?_
 refine s0 (rd_assign' rfl) ?_
 refine nk hK2 ?_
 refine cx_retc' ?_
 replace hp := Option.some.inj hp
 subst hp
 refine tx_fz' (frz_row 0 [(2, (Vl (Vs g4)), (Sl Kf r4)), (4, (Vl (Vs g4)), (Sl Kf r4))] (K := Kf) (xs := r4) (by decide) rfl ⟨⟨rfl, frz_it⟩, ⟨rfl, frz_it⟩, trivial⟩ (H' := []) frzH_refl) ?_
 refine tx_pick' (L' := [(2, (Sl Kf r4))]) (H' := []) [] (sub_cons rfl sub_nil) (by decide) pick_nil ?_
 exact tx_ret1' Tryz.results20 rfl () (rv_tmp' rfl) (List.Sublist.refl _)

def gogeom_NewPointFlat (k : Nat) (a0 : Int) (a1 : List Nat) : Option (Int × Int × (List Nat) × Int) :=
 (gogeom_Layout_Stride k a0) >>= fun r14 =>
 some (a0, r14, a1, 0)

theorem gogeom_NewPointFlat_sim {k : Nat}  (a0 : Int) (a1 : List Nat) {out : Int × Int × (List Nat) × Int} (hp : gogeom_NewPointFlat k a0 a1 = some out) : Sx.Fn Tryz.prog 39 [(Vi a0), (Sl Kf a1)] [] (fun w : Addr => (Vp w)) (fun w => [⟨.pointer (some w), [(Vi out.1), (Vi out.2.1), (Sl Kf out.2.2.1), (Vi out.2.2.2)], 132, none⟩]) := by
 unfold gogeom_NewPointFlat at hp
 refine fn_of Tryz.func39 rfl Tryz.ntmps39 rfl fun E hM => ?_
 refine cr fun K1 hK1 => ?_
 refine s0 (rd_assign' rfl) ?_
 refine nk hK1 ?_
 refine cr fun K2 hK2 => ?_
 refine sx_ox' (ox_alloc' info132 rfl rfl rfl rfl (l := [(Vi 0), (Vi 0), Vn, (Vi 0)]) rfl) (wt_none' rfl) fun q6 => ?_
 refine s0 (rd_assign' rfl) ?_
 refine nk hK2 ?_
 refine cr fun K3 hK3 => ?_
 refine s0 (rd_move' rfl) ?_
 refine s0 (rd_move' rfl) ?_
 refine s0 (rd_nilck' rfl) ?_
 refine s0 (rd_field0' rfl Tryz.underlying132 rfl info87 rfl) ?_
 refine s0 (rd_field0' rfl Tryz.underlying87 rfl info58 rfl) ?_
 refine sx_ox' (ox_store' (i := 0) (o := 0) rfl rfl (lv_vl rfl rfl) ⟨rfl, rfl, rfl, rfl⟩ rfl info58 rfl (H' := [⟨.pointer (some q6), [(Vi a0), (Vi 0), Vn, (Vi 0)], 132, none⟩]) rfl) (wt_none' rfl) fun _ => ?_
 refine nk hK3 ?_
 refine cr fun K4 hK4 => ?_
 refine s0 (rd_move' rfl) ?_
 refine s0 (rd_move' rfl) ?_
 obtain ⟨r14, hr14, hp⟩ := bind_some hp
 refine sx_ox' (ox_calln' (ent_fn' Tryz.func36 isn36 rfl rfl) (gogeom_Layout_Stride_sim _ hr14 : Sx.Fn Tryz.prog 36 [(Vi a0)] [] (fun x : Unit => (Vi r14)) (fun x => [])) (Hn := fun x : Unit => [⟨.pointer (some q6), [(Vi a0), (Vi 0), Vn, (Vi 0)], 132, none⟩]) (fun _ => rfl) rfl rfl) (wt_none' rfl) fun ⟨⟩ => ?_
 refine s0 (rd_nilck' rfl) ?_
 refine s0 (rd_field0' rfl Tryz.underlying132 rfl info87 rfl) ?_
 refine s0 (rd_field' (off := 1) rfl Tryz.underlying87 rfl info3 rfl) ?_
 refine sx_ox' (ox_store' (i := 0) (o := 1) rfl rfl (lv_vl rfl rfl) ⟨rfl, rfl, rfl, rfl⟩ rfl info3 rfl (H' := [⟨.pointer (some q6), [(Vi a0), (Vi r14), Vn, (Vi 0)], 132, none⟩]) rfl) (wt_none' rfl) fun _ => ?_
 refine nk hK4 ?_
 refine cr fun K5 hK5 => ?_
 refine s0 (rd_move' rfl) ?_
 refine s0 (rd_move' rfl) ?_
 refine s0 (rd_nilck' rfl) ?_
 refine s0 (rd_field0' rfl Tryz.underlying132 rfl info87 rfl) ?_
 refine s0 (rd_field' (off := 2) rfl Tryz.underlying87 rfl info29 rfl) ?_
 refine sx_ox' (ox_store' (i := 0) (o := 2) rfl rfl (lv_sl _ _) ⟨rfl, rfl, rfl, rfl⟩ rfl info29 rfl (H' := [⟨.pointer (some q6), [(Vi a0), (Vi r14), (Sl Kf a1), (Vi 0)], 132, none⟩]) rfl) (wt_none' rfl) fun _ => ?_
 refine nk hK5 ?_
 refine cr fun K6 hK6 => ?_
 refine s0 (rd_move' rfl) ?_
 refine s0 (rd_assign' rfl) ?_
 refine nk hK6 ?_
 refine cx_retc' ?_
 replace hp := Option.some.inj hp
 subst hp
 refine tx_pick' (L' := [(4, (Vp q6))]) (H' := [⟨.pointer (some q6), [(Vi a0), (Vi r14), (Sl Kf a1), (Vi 0)], 132, none⟩]) [0] (sub_cons rfl sub_nil) (by decide) (pick_cons rfl pick_nil) ?_
 exact tx_ret1' Tryz.results39 rfl q6 (rv_tmp' rfl) (List.Sublist.refl _)

def gogeom_Point_SetSRID (k : Nat) (a0_0 : Int) (a0_1 : Int) (a0_2 : List Nat) (a0_3 : Int) (a1 : Int) : Option (Int × Int × (List Nat) × Int) :=
 some (a0_0, a0_1, a0_2, a1)

theorem gogeom_Point_SetSRID_sim {k : Nat} {wa0 : Addr} (a0_0 : Int) (a0_1 : Int) (a0_2 : List Nat) (a0_3 : Int) (a1 : Int) {out : Int × Int × (List Nat) × Int} (hp : gogeom_Point_SetSRID k a0_0 a0_1 a0_2 a0_3 a1 = some out) : Sx.Fn Tryz.prog 40 [(Vp wa0), (Vi a1)] [⟨.pointer (some wa0), [(Vi a0_0), (Vi a0_1), (Sl Kf a0_2), (Vi a0_3)], 132, none⟩] (fun w : Unit => (Vp wa0)) (fun w => [⟨.pointer (some wa0), [(Vi out.1), (Vi out.2.1), (Sl Kf out.2.2.1), (Vi out.2.2.2)], 132, none⟩]) := by
 unfold gogeom_Point_SetSRID at hp
 refine fn_of Tryz.func40 rfl Tryz.ntmps40 rfl fun E hM => ?_
 refine cr fun K1 hK1 => ?_
 refine s0 (rd_assign' rfl) ?_
 refine nk hK1 ?_
 refine cr fun K2 hK2 => ?_
 refine s0 (rd_move' rfl) ?_
 refine s0 (rd_move' rfl) ?_
 refine s0 (rd_nilck' rfl) ?_
 refine s0 (rd_field0' rfl Tryz.underlying132 rfl info87 rfl) ?_
 refine s0 (rd_field' (off := 3) rfl Tryz.underlying87 rfl info3 rfl) ?_
 refine sx_ox' (ox_store' (i := 0) (o := 3) rfl rfl (lv_vl rfl rfl) ⟨rfl, rfl, rfl, rfl⟩ rfl info3 rfl (H' := [⟨.pointer (some wa0), [(Vi a0_0), (Vi a0_1), (Sl Kf a0_2), (Vi a1)], 132, none⟩]) rfl) (wt_none' rfl) fun _ => ?_
 refine nk hK2 ?_
 refine cr fun K3 hK3 => ?_
 refine s0 (rd_move' rfl) ?_
 refine s0 (rd_assign' rfl) ?_
 refine nk hK3 ?_
 refine cx_retc' ?_
 replace hp := Option.some.inj hp
 subst hp
 refine tx_pick' (L' := [(4, (Vp wa0))]) (H' := [⟨.pointer (some wa0), [(Vi a0_0), (Vi a0_1), (Sl Kf a0_2), (Vi a1)], 132, none⟩]) [0] (sub_cons rfl sub_nil) (by decide) (pick_cons rfl pick_nil) ?_
 exact tx_ret1' Tryz.results40 rfl () (rv_tmp' rfl) (List.Sublist.refl _)

def gogeom_NewLineStringFlat (k : Nat) (a0 : Int) (a1 : List Nat) : Option (Int × Int × (List Nat) × Int) :=
 (gogeom_Layout_Stride k a0) >>= fun r15 =>
 some (a0, r15, a1, 0)

theorem gogeom_NewLineStringFlat_sim {k : Nat}  (a0 : Int) (a1 : List Nat) {out : Int × Int × (List Nat) × Int} (hp : gogeom_NewLineStringFlat k a0 a1 = some out) : Sx.Fn Tryz.prog 41 [(Vi a0), (Sl Kf a1)] [] (fun w : Addr => (Vp w)) (fun w => [⟨.pointer (some w), [(Vi out.1), (Vi out.2.1), (Sl Kf out.2.2.1), (Vi out.2.2.2)], 133, none⟩]) := by
 unfold gogeom_NewLineStringFlat at hp
 refine fn_of Tryz.func41 rfl Tryz.ntmps41 rfl fun E hM => ?_
 refine cr fun K1 hK1 => ?_
 refine s0 (rd_assign' rfl) ?_
 refine nk hK1 ?_
 refine cr fun K2 hK2 => ?_
 refine sx_ox' (ox_alloc' info133 rfl rfl rfl rfl (l := [(Vi 0), (Vi 0), Vn, (Vi 0)]) rfl) (wt_none' rfl) fun q6 => ?_
 refine s0 (rd_assign' rfl) ?_
 refine nk hK2 ?_
 refine cr fun K3 hK3 => ?_
 refine s0 (rd_move' rfl) ?_
 refine s0 (rd_move' rfl) ?_
 refine s0 (rd_nilck' rfl) ?_
 refine s0 (rd_field0' rfl Tryz.underlying133 rfl info89 rfl) ?_
 refine s0 (rd_field0' rfl Tryz.underlying89 rfl info87 rfl) ?_
 refine s0 (rd_field0' rfl Tryz.underlying87 rfl info58 rfl) ?_
 refine sx_ox' (ox_store' (i := 0) (o := 0) rfl rfl (lv_vl rfl rfl) ⟨rfl, rfl, rfl, rfl⟩ rfl info58 rfl (H' := [⟨.pointer (some q6), [(Vi a0), (Vi 0), Vn, (Vi 0)], 133, none⟩]) rfl) (wt_none' rfl) fun _ => ?_
 refine nk hK3 ?_
 refine cr fun K4 hK4 => ?_
 refine s0 (rd_move' rfl) ?_
 refine s0 (rd_move' rfl) ?_
 obtain ⟨r15, hr15, hp⟩ := bind_some hp
 refine sx_ox' (ox_calln' (ent_fn' Tryz.func36 isn36 rfl rfl) (gogeom_Layout_Stride_sim _ hr15 : Sx.Fn Tryz.prog 36 [(Vi a0)] [] (fun x : Unit => (Vi r15)) (fun x => [])) (Hn := fun x : Unit => [⟨.pointer (some q6), [(Vi a0), (Vi 0), Vn, (Vi 0)], 133, none⟩]) (fun _ => rfl) rfl rfl) (wt_none' rfl) fun ⟨⟩ => ?_
 refine s0 (rd_nilck' rfl) ?_
 refine s0 (rd_field0' rfl Tryz.underlying133 rfl info89 rfl) ?_
 refine s0 (rd_field0' rfl Tryz.underlying89 rfl info87 rfl) ?_
 refine s0 (rd_field' (off := 1) rfl Tryz.underlying87 rfl info3 rfl) ?_
 refine sx_ox' (ox_store' (i := 0) (o := 1) rfl rfl (lv_vl rfl rfl) ⟨rfl, rfl, rfl, rfl⟩ rfl info3 rfl (H' := [⟨.pointer (some q6), [(Vi a0), (Vi r15), Vn, (Vi 0)], 133, none⟩]) rfl) (wt_none' rfl) fun _ => ?_
 refine nk hK4 ?_
 refine cr fun K5 hK5 => ?_
 refine s0 (rd_move' rfl) ?_
 refine s0 (rd_move' rfl) ?_
 refine s0 (rd_nilck' rfl) ?_
 refine s0 (rd_field0' rfl Tryz.underlying133 rfl info89 rfl) ?_
 refine s0 (rd_field0' rfl Tryz.underlying89 rfl info87 rfl) ?_
 refine s0 (rd_field' (off := 2) rfl Tryz.underlying87 rfl info29 rfl) ?_
 refine sx_ox' (ox_store' (i := 0) (o := 2) rfl rfl (lv_sl _ _) ⟨rfl, rfl, rfl, rfl⟩ rfl info29 rfl (H' := [⟨.pointer (some q6), [(Vi a0), (Vi r15), (Sl Kf a1), (Vi 0)], 133, none⟩]) rfl) (wt_none' rfl) fun _ => ?_
 refine nk hK5 ?_
 refine cr fun K6 hK6 => ?_
 refine s0 (rd_move' rfl) ?_
 refine s0 (rd_assign' rfl) ?_
 refine nk hK6 ?_
 refine cx_retc' ?_
 replace hp := Option.some.inj hp
 subst hp
 refine tx_pick' (L' := [(4, (Vp q6))]) (H' := [⟨.pointer (some q6), [(Vi a0), (Vi r15), (Sl Kf a1), (Vi 0)], 133, none⟩]) [0] (sub_cons rfl sub_nil) (by decide) (pick_cons rfl pick_nil) ?_
 exact tx_ret1' Tryz.results41 rfl q6 (rv_tmp' rfl) (List.Sublist.refl _)

def gogeom_LineString_SetSRID (k : Nat) (a0_0 : Int) (a0_1 : Int) (a0_2 : List Nat) (a0_3 : Int) (a1 : Int) : Option (Int × Int × (List Nat) × Int) :=
 some (a0_0, a0_1, a0_2, a1)

theorem gogeom_LineString_SetSRID_sim {k : Nat} {wa0 : Addr} (a0_0 : Int) (a0_1 : Int) (a0_2 : List Nat) (a0_3 : Int) (a1 : Int) {out : Int × Int × (List Nat) × Int} (hp : gogeom_LineString_SetSRID k a0_0 a0_1 a0_2 a0_3 a1 = some out) : Sx.Fn Tryz.prog 42 [(Vp wa0), (Vi a1)] [⟨.pointer (some wa0), [(Vi a0_0), (Vi a0_1), (Sl Kf a0_2), (Vi a0_3)], 133, none⟩] (fun w : Unit => (Vp wa0)) (fun w => [⟨.pointer (some wa0), [(Vi out.1), (Vi out.2.1), (Sl Kf out.2.2.1), (Vi out.2.2.2)], 133, none⟩]) := by
 unfold gogeom_LineString_SetSRID at hp
 refine fn_of Tryz.func42 rfl Tryz.ntmps42 rfl fun E hM => ?_
 refine cr fun K1 hK1 => ?_
 refine s0 (rd_assign' rfl) ?_
 refine nk hK1 ?_
 refine cr fun K2 hK2 => ?_
 refine s0 (rd_move' rfl) ?_
 refine s0 (rd_move' rfl) ?_
 refine s0 (rd_nilck' rfl) ?_
 refine s0 (rd_field0' rfl Tryz.underlying133 rfl info89 rfl) ?_
 refine s0 (rd_field0' rfl Tryz.underlying89 rfl info87 rfl) ?_
 refine s0 (rd_field' (off := 3) rfl Tryz.underlying87 rfl info3 rfl) ?_
 refine sx_ox' (ox_store' (i := 0) (o := 3) rfl rfl (lv_vl rfl rfl) ⟨rfl, rfl, rfl, rfl⟩ rfl info3 rfl (H' := [⟨.pointer (some wa0), [(Vi a0_0), (Vi a0_1), (Sl Kf a0_2), (Vi a1)], 133, none⟩]) rfl) (wt_none' rfl) fun _ => ?_
 refine nk hK2 ?_
 refine cr fun K3 hK3 => ?_
 refine s0 (rd_move' rfl) ?_
 refine s0 (rd_assign' rfl) ?_
 refine nk hK3 ?_
 refine cx_retc' ?_
 replace hp := Option.some.inj hp
 subst hp
 refine tx_pick' (L' := [(4, (Vp wa0))]) (H' := [⟨.pointer (some wa0), [(Vi a0_0), (Vi a0_1), (Sl Kf a0_2), (Vi a1)], 133, none⟩]) [0] (sub_cons rfl sub_nil) (by decide) (pick_cons rfl pick_nil) ?_
 exact tx_ret1' Tryz.results42 rfl () (rv_tmp' rfl) (List.Sublist.refl _)

def gogeom_NewLinearRingFlat (k : Nat) (a0 : Int) (a1 : List Nat) : Option (Int × Int × (List Nat) × Int) :=
 (gogeom_Layout_Stride k a0) >>= fun r15 =>
 some (a0, r15, a1, 0)

theorem gogeom_NewLinearRingFlat_sim {k : Nat}  (a0 : Int) (a1 : List Nat) {out : Int × Int × (List Nat) × Int} (hp : gogeom_NewLinearRingFlat k a0 a1 = some out) : Sx.Fn Tryz.prog 43 [(Vi a0), (Sl Kf a1)] [] (fun w : Addr => (Vp w)) (fun w => [⟨.pointer (some w), [(Vi out.1), (Vi out.2.1), (Sl Kf out.2.2.1), (Vi out.2.2.2)], 91, none⟩]) := by
 unfold gogeom_NewLinearRingFlat at hp
 refine fn_of Tryz.func43 rfl Tryz.ntmps43 rfl fun E hM => ?_
 refine cr fun K1 hK1 => ?_
 refine s0 (rd_assign' rfl) ?_
 refine nk hK1 ?_
 refine cr fun K2 hK2 => ?_
 refine sx_ox' (ox_alloc' info91 rfl rfl rfl rfl (l := [(Vi 0), (Vi 0), Vn, (Vi 0)]) rfl) (wt_none' rfl) fun q6 => ?_
 refine s0 (rd_assign' rfl) ?_
 refine nk hK2 ?_
 refine cr fun K3 hK3 => ?_
 refine s0 (rd_move' rfl) ?_
 refine s0 (rd_move' rfl) ?_
 refine s0 (rd_nilck' rfl) ?_
 refine s0 (rd_field0' rfl Tryz.underlying91 rfl info89 rfl) ?_
 refine s0 (rd_field0' rfl Tryz.underlying89 rfl info87 rfl) ?_
 refine s0 (rd_field0' rfl Tryz.underlying87 rfl info58 rfl) ?_
 refine sx_ox' (ox_store' (i := 0) (o := 0) rfl rfl (lv_vl rfl rfl) ⟨rfl, rfl, rfl, rfl⟩ rfl info58 rfl (H' := [⟨.pointer (some q6), [(Vi a0), (Vi 0), Vn, (Vi 0)], 91, none⟩]) rfl) (wt_none' rfl) fun _ => ?_
 refine nk hK3 ?_
 refine cr fun K4 hK4 => ?_
 refine s0 (rd_move' rfl) ?_
 refine s0 (rd_move' rfl) ?_
 obtain ⟨r15, hr15, hp⟩ := bind_some hp
 refine sx_ox' (ox_calln' (ent_fn' Tryz.func36 isn36 rfl rfl) (gogeom_Layout_Stride_sim _ hr15 : Sx.Fn Tryz.prog 36 [(Vi a0)] [] (fun x : Unit => (Vi r15)) (fun x => [])) (Hn := fun x : Unit => [⟨.pointer (some q6), [(Vi a0), (Vi 0), Vn, (Vi 0)], 91, none⟩]) (fun _ => rfl) rfl rfl) (wt_none' rfl) fun ⟨⟩ => ?_
 refine s0 (rd_nilck' rfl) ?_
 refine s0 (rd_field0' rfl Tryz.underlying91 rfl info89 rfl) ?_
 refine s0 (rd_field0' rfl Tryz.underlying89 rfl info87 rfl) ?_
 refine s0 (rd_field' (off := 1) rfl Tryz.underlying87 rfl info3 rfl) ?_
 refine sx_ox' (ox_store' (i := 0) (o := 1) rfl rfl (lv_vl rfl rfl) ⟨rfl, rfl, rfl, rfl⟩ rfl info3 rfl (H' := [⟨.pointer (some q6), [(Vi a0), (Vi r15), Vn, (Vi 0)], 91, none⟩]) rfl) (wt_none' rfl) fun _ => ?_
 refine nk hK4 ?_
 refine cr fun K5 hK5 => ?_
 refine s0 (rd_move' rfl) ?_
 refine s0 (rd_move' rfl) ?_
 refine s0 (rd_nilck' rfl) ?_
 refine s0 (rd_field0' rfl Tryz.underlying91 rfl info89 rfl) ?_
 refine s0 (rd_field0' rfl Tryz.underlying89 rfl info87 rfl) ?_
 refine s0 (rd_field' (off := 2) rfl Tryz.underlying87 rfl info29 rfl) ?_
 refine sx_ox' (ox_store' (i := 0) (o := 2) rfl rfl (lv_sl _ _) ⟨rfl, rfl, rfl, rfl⟩ rfl info29 rfl (H' := [⟨.pointer (some q6), [(Vi a0), (Vi r15), (Sl Kf a1), (Vi 0)], 91, none⟩]) rfl) (wt_none' rfl) fun _ => ?_
 refine nk hK5 ?_
 refine cr fun K6 hK6 => ?_
 refine s0 (rd_move' rfl) ?_
 refine s0 (rd_assign' rfl) ?_
 refine nk hK6 ?_
 refine cx_retc' ?_
 replace hp := Option.some.inj hp
 subst hp
 refine tx_pick' (L' := [(4, (Vp q6))]) (H' := [⟨.pointer (some q6), [(Vi a0), (Vi r15), (Sl Kf a1), (Vi 0)], 91, none⟩]) [0] (sub_cons rfl sub_nil) (by decide) (pick_cons rfl pick_nil) ?_
 exact tx_ret1' Tryz.results43 rfl q6 (rv_tmp' rfl) (List.Sublist.refl _)

def gogeom_LinearRing_SetSRID (k : Nat) (a0_0 : Int) (a0_1 : Int) (a0_2 : List Nat) (a0_3 : Int) (a1 : Int) : Option (Int × Int × (List Nat) × Int) :=
 some (a0_0, a0_1, a0_2, a1)

theorem gogeom_LinearRing_SetSRID_sim {k : Nat} {wa0 : Addr} (a0_0 : Int) (a0_1 : Int) (a0_2 : List Nat) (a0_3 : Int) (a1 : Int) {out : Int × Int × (List Nat) × Int} (hp : gogeom_LinearRing_SetSRID k a0_0 a0_1 a0_2 a0_3 a1 = some out) : Sx.Fn Tryz.prog 44 [(Vp wa0), (Vi a1)] [⟨.pointer (some wa0), [(Vi a0_0), (Vi a0_1), (Sl Kf a0_2), (Vi a0_3)], 91, none⟩] (fun w : Unit => (Vp wa0)) (fun w => [⟨.pointer (some wa0), [(Vi out.1), (Vi out.2.1), (Sl Kf out.2.2.1), (Vi out.2.2.2)], 91, none⟩]) := by
 unfold gogeom_LinearRing_SetSRID at hp
 refine fn_of Tryz.func44 rfl Tryz.ntmps44 rfl fun E hM => ?_
 refine cr fun K1 hK1 => ?_
 refine s0 (rd_assign' rfl) ?_
 refine nk hK1 ?_
 refine cr fun K2 hK2 => ?_
 refine s0 (rd_move' rfl) ?_
 refine s0 (rd_move' rfl) ?_
 refine s0 (rd_nilck' rfl) ?_
 refine s0 (rd_field0' rfl Tryz.underlying91 rfl info89 rfl) ?_
 refine s0 (rd_field0' rfl Tryz.underlying89 rfl info87 rfl) ?_
 refine s0 (rd_field' (off := 3) rfl Tryz.underlying87 rfl info3 rfl) ?_
 refine sx_ox' (ox_store' (i := 0) (o := 3) rfl rfl (lv_vl rfl rfl) ⟨rfl, rfl, rfl, rfl⟩ rfl info3 rfl (H' := [⟨.pointer (some wa0), [(Vi a0_0), (Vi a0_1), (Sl Kf a0_2), (Vi a1)], 91, none⟩]) rfl) (wt_none' rfl) fun _ => ?_
 refine nk hK2 ?_
 refine cr fun K3 hK3 => ?_
 refine s0 (rd_move' rfl) ?_
 refine s0 (rd_assign' rfl) ?_
 refine nk hK3 ?_
 refine cx_retc' ?_
 replace hp := Option.some.inj hp
 subst hp
 refine tx_pick' (L' := [(4, (Vp wa0))]) (H' := [⟨.pointer (some wa0), [(Vi a0_0), (Vi a0_1), (Sl Kf a0_2), (Vi a1)], 91, none⟩]) [0] (sub_cons rfl sub_nil) (by decide) (pick_cons rfl pick_nil) ?_
 exact tx_ret1' Tryz.results44 rfl () (rv_tmp' rfl) (List.Sublist.refl _)

def impl_ints (k : Nat) (a0 : List Int) : Option (Unit ⊕ (List Int)) :=
 br a0.isEmpty
  (some (.inl ()))
  ((apd 8 [] a0) >>= fun r4 =>
  some (.inr r4))
def impl_ints_r  (a0 : List Int) (out : Unit ⊕ (List Int)) (w : Unit) : SV := match out with
 | (.inl y) => Vn
 | (.inr y) => (Sl (Ki .i64) y)
def impl_ints_h  (a0 : List Int) (out : Unit ⊕ (List Int)) (w : Unit) : List Res := match out with
 | (.inl y) => []
 | (.inr y) => []

theorem impl_ints_sim {k : Nat}  (a0 : List Int) {out : Unit ⊕ (List Int)} (hp : impl_ints k a0 = some out) : Sx.Fn Tryz.prog 46 [(Sl (Ki .i64) a0)] [] (fun w => impl_ints_r a0 out w) (fun w => impl_ints_h a0 out w) := by
 unfold impl_ints at hp
 refine fn_of Tryz.func46 rfl Tryz.ntmps46 rfl fun E hM => ?_
 refine cr fun K1 hK1 => ?_
 refine s0 (rd_assign' rfl) ?_
 refine nk hK1 ?_
 refine cr fun K2 hK2 => ?_
 refine s0 (rd_move' rfl) ?_
 rcases br_cases hp with ⟨h1, hp⟩ | ⟨h1, hp⟩
 ·refine s0 (rd_append0' (K := (Ki .i64)) (xs := a0) rfl rfl h1 Tryz.underlying35 Tryz.underlying35 info3) ?_
  refine s0 (rd_assign' rfl) ?_
  refine nk hK2 ?_
  refine cx_retc' ?_
  replace hp := Option.some.inj hp
  subst hp
  refine tx_pick' (L' := [(2, Vn)]) (H' := []) [] (sub_cons rfl sub_nil) (by decide) pick_nil ?_
  exact tx_ret1' Tryz.results46 rfl () (rv_tmp' rfl) (List.Sublist.refl _)
 refine tx_nilrow' (Ki .i64) 3 ?_
 obtain ⟨r4, hr4, hp⟩ := bind_some hp
 refine sx_ox' (ox_append' (K := (Ki .i64)) (i := 0) (xs := []) (ys := a0) rfl rfl rfl (sr_sl' rfl Tryz.underlying35) hr4 Tryz.underlying35 info3 rfl rfl rfl (H' := []) rfl) (wt_none' rfl) fun g4 => ?_
 refine s0 (rd_assign' rfl) ?_
 refine nk hK2 ?_
 refine cx_retc' ?_
 replace hp := Option.some.inj hp
 subst hp
 refine tx_fz' (frz_row 0 [(2, (Vl (Vs g4)), (Sl (Ki .i64) r4)), (4, (Vl (Vs g4)), (Sl (Ki .i64) r4))] (K := (Ki .i64)) (xs := r4) (by decide) rfl ⟨⟨rfl, frz_it⟩, ⟨rfl, frz_it⟩, trivial⟩ (H' := []) frzH_refl) ?_
 refine tx_pick' (L' := [(2, (Sl (Ki .i64) r4))]) (H' := []) [] (sub_cons rfl sub_nil) (by decide) pick_nil ?_
 exact tx_ret1' Tryz.results46 rfl () (rv_tmp' rfl) (List.Sublist.refl _)

def gogeom_NewPolygonFlat (k : Nat) (a0 : Int) (a1 : List Nat) : Option (Int × Int × (List Nat) × Int) :=
 (gogeom_Layout_Stride k a0) >>= fun r18 =>
 some (a0, r18, a1, 0)

theorem gogeom_NewPolygonFlat_sim {k : Nat}  (a0 : Int) (a1 : List Nat) {out : Int × Int × (List Nat) × Int} (hp : gogeom_NewPolygonFlat k a0 a1 = some out) : Sx.Fn Tryz.prog 45 [(Vi a0), (Sl Kf a1), Vn] [] (fun w : Addr => (Vp w)) (fun w => [⟨.pointer (some w), [(Vi out.1), (Vi out.2.1), (Sl Kf out.2.2.1), (Vi out.2.2.2), Vn], 137, none⟩]) := by
 unfold gogeom_NewPolygonFlat at hp
 refine fn_of Tryz.func45 rfl Tryz.ntmps45 rfl fun E hM => ?_
 refine cr fun K1 hK1 => ?_
 refine s0 (rd_assign' rfl) ?_
 refine nk hK1 ?_
 refine cr fun K2 hK2 => ?_
 refine sx_ox' (ox_alloc' info137 rfl rfl rfl rfl (l := [(Vi 0), (Vi 0), Vn, (Vi 0), Vn]) rfl) (wt_none' rfl) fun q8 => ?_
 refine s0 (rd_assign' rfl) ?_
 refine nk hK2 ?_
 refine cr fun K3 hK3 => ?_
 refine s0 (rd_move' rfl) ?_
 refine s0 (rd_move' rfl) ?_
 refine s0 (rd_nilck' rfl) ?_
 refine s0 (rd_field0' rfl Tryz.underlying137 rfl info135 rfl) ?_
 refine s0 (rd_field0' rfl Tryz.underlying135 rfl info89 rfl) ?_
 refine s0 (rd_field0' rfl Tryz.underlying89 rfl info87 rfl) ?_
 refine s0 (rd_field0' rfl Tryz.underlying87 rfl info58 rfl) ?_
 refine sx_ox' (ox_store' (i := 0) (o := 0) rfl rfl (lv_vl rfl rfl) ⟨rfl, rfl, rfl, rfl⟩ rfl info58 rfl (H' := [⟨.pointer (some q8), [(Vi a0), (Vi 0), Vn, (Vi 0), Vn], 137, none⟩]) rfl) (wt_none' rfl) fun _ => ?_
 refine nk hK3 ?_
 refine cr fun K4 hK4 => ?_
 refine s0 (rd_move' rfl) ?_
 refine s0 (rd_move' rfl) ?_
 obtain ⟨r18, hr18, hp⟩ := bind_some hp
 refine sx_ox' (ox_calln' (ent_fn' Tryz.func36 isn36 rfl rfl) (gogeom_Layout_Stride_sim _ hr18 : Sx.Fn Tryz.prog 36 [(Vi a0)] [] (fun x : Unit => (Vi r18)) (fun x => [])) (Hn := fun x : Unit => [⟨.pointer (some q8), [(Vi a0), (Vi 0), Vn, (Vi 0), Vn], 137, none⟩]) (fun _ => rfl) rfl rfl) (wt_none' rfl) fun ⟨⟩ => ?_
 refine s0 (rd_nilck' rfl) ?_
 refine s0 (rd_field0' rfl Tryz.underlying137 rfl info135 rfl) ?_
 refine s0 (rd_field0' rfl Tryz.underlying135 rfl info89 rfl) ?_
 refine s0 (rd_field0' rfl Tryz.underlying89 rfl info87 rfl) ?_
 refine s0 (rd_field' (off := 1) rfl Tryz.underlying87 rfl info3 rfl) ?_
 refine sx_ox' (ox_store' (i := 0) (o := 1) rfl rfl (lv_vl rfl rfl) ⟨rfl, rfl, rfl, rfl⟩ rfl info3 rfl (H' := [⟨.pointer (some q8), [(Vi a0), (Vi r18), Vn, (Vi 0), Vn], 137, none⟩]) rfl) (wt_none' rfl) fun _ => ?_
 refine nk hK4 ?_
 refine cr fun K5 hK5 => ?_
 refine s0 (rd_move' rfl) ?_
 refine s0 (rd_move' rfl) ?_
 refine s0 (rd_nilck' rfl) ?_
 refine s0 (rd_field0' rfl Tryz.underlying137 rfl info135 rfl) ?_
 refine s0 (rd_field0' rfl Tryz.underlying135 rfl info89 rfl) ?_
 refine s0 (rd_field0' rfl Tryz.underlying89 rfl info87 rfl) ?_
 refine s0 (rd_field' (off := 2) rfl Tryz.underlying87 rfl info29 rfl) ?_
 refine sx_ox' (ox_store' (i := 0) (o := 2) rfl rfl (lv_sl _ _) ⟨rfl, rfl, rfl, rfl⟩ rfl info29 rfl (H' := [⟨.pointer (some q8), [(Vi a0), (Vi r18), (Sl Kf a1), (Vi 0), Vn], 137, none⟩]) rfl) (wt_none' rfl) fun _ => ?_
 refine nk hK5 ?_
 refine cr fun K6 hK6 => ?_
 refine s0 (rd_move' rfl) ?_
 refine s0 (rd_move' rfl) ?_
 refine s0 (rd_nilck' rfl) ?_
 refine s0 (rd_field0' rfl Tryz.underlying137 rfl info135 rfl) ?_
 refine s0 (rd_field' (off := 4) rfl Tryz.underlying135 rfl info35 rfl) ?_
 refine sx_ox' (ox_store' (i := 0) (o := 4) rfl rfl (lv_vl rfl rfl) ⟨rfl, rfl, rfl, rfl⟩ rfl info35 rfl (H' := [⟨.pointer (some q8), [(Vi a0), (Vi r18), (Sl Kf a1), (Vi 0), Vn], 137, none⟩]) rfl) (wt_none' rfl) fun _ => ?_
 refine nk hK6 ?_
 refine cr fun K7 hK7 => ?_
 refine s0 (rd_move' rfl) ?_
 refine s0 (rd_assign' rfl) ?_
 refine nk hK7 ?_
 refine cx_retc' ?_
 replace hp := Option.some.inj hp
 subst hp
 refine tx_pick' (L' := [(6, (Vp q8))]) (H' := [⟨.pointer (some q8), [(Vi a0), (Vi r18), (Sl Kf a1), (Vi 0), Vn], 137, none⟩]) [0] (sub_cons rfl sub_nil) (by decide) (pick_cons rfl pick_nil) ?_
 exact tx_ret1' Tryz.results45 rfl q8 (rv_tmp' rfl) (List.Sublist.refl _)

def gogeom_Polygon_SetSRID (k : Nat) (a0_0 : Int) (a0_1 : Int) (a0_2 : List Nat) (a0_3 : Int) (a1 : Int) : Option (Int × Int × (List Nat) × Int) :=
 some (a0_0, a0_1, a0_2, a1)

theorem gogeom_Polygon_SetSRID_sim {k : Nat} {wa0 : Addr} (a0_0 : Int) (a0_1 : Int) (a0_2 : List Nat) (a0_3 : Int) (a1 : Int) {out : Int × Int × (List Nat) × Int} (hp : gogeom_Polygon_SetSRID k a0_0 a0_1 a0_2 a0_3 a1 = some out) : Sx.Fn Tryz.prog 47 [(Vp wa0), (Vi a1)] [⟨.pointer (some wa0), [(Vi a0_0), (Vi a0_1), (Sl Kf a0_2), (Vi a0_3), Vn], 137, none⟩] (fun w : Unit => (Vp wa0)) (fun w => [⟨.pointer (some wa0), [(Vi out.1), (Vi out.2.1), (Sl Kf out.2.2.1), (Vi out.2.2.2), Vn], 137, none⟩]) := by
 unfold gogeom_Polygon_SetSRID at hp
 refine fn_of Tryz.func47 rfl Tryz.ntmps47 rfl fun E hM => ?_
 refine cr fun K1 hK1 => ?_
 refine s0 (rd_assign' rfl) ?_
 refine nk hK1 ?_
 refine cr fun K2 hK2 => ?_
 refine s0 (rd_move' rfl) ?_
 refine s0 (rd_move' rfl) ?_
 refine s0 (rd_nilck' rfl) ?_
 refine s0 (rd_field0' rfl Tryz.underlying137 rfl info135 rfl) ?_
 refine s0 (rd_field0' rfl Tryz.underlying135 rfl info89 rfl) ?_
 refine s0 (rd_field0' rfl Tryz.underlying89 rfl info87 rfl) ?_
 refine s0 (rd_field' (off := 3) rfl Tryz.underlying87 rfl info3 rfl) ?_
 refine sx_ox' (ox_store' (i := 0) (o := 3) rfl rfl (lv_vl rfl rfl) ⟨rfl, rfl, rfl, rfl⟩ rfl info3 rfl (H' := [⟨.pointer (some wa0), [(Vi a0_0), (Vi a0_1), (Sl Kf a0_2), (Vi a1), Vn], 137, none⟩]) rfl) (wt_none' rfl) fun _ => ?_
 refine nk hK2 ?_
 refine cr fun K3 hK3 => ?_
 refine s0 (rd_move' rfl) ?_
 refine s0 (rd_assign' rfl) ?_
 refine nk hK3 ?_
 refine cx_retc' ?_
 replace hp := Option.some.inj hp
 subst hp
 refine tx_pick' (L' := [(4, (Vp wa0))]) (H' := [⟨.pointer (some wa0), [(Vi a0_0), (Vi a0_1), (Sl Kf a0_2), (Vi a1), Vn], 137, none⟩]) [0] (sub_cons rfl sub_nil) (by decide) (pick_cons rfl pick_nil) ?_
 exact tx_ret1' Tryz.results47 rfl () (rv_tmp' rfl) (List.Sublist.refl _)

def gogeom_NewPolygonFlat_v2 (k : Nat) (a0 : Int) (a1 : List Nat) (a2 : List Int) : Option (Int × Int × (List Nat) × Int × (List Int)) :=
 (gogeom_Layout_Stride k a0) >>= fun r18 =>
 some (a0, r18, a1, 0, a2)

theorem gogeom_NewPolygonFlat_v2_sim {k : Nat}  (a0 : Int) (a1 : List Nat) (a2 : List Int) {out : Int × Int × (List Nat) × Int × (List Int)} (hp : gogeom_NewPolygonFlat_v2 k a0 a1 a2 = some out) : Sx.Fn Tryz.prog 45 [(Vi a0), (Sl Kf a1), (Sl (Ki .i64) a2)] [] (fun w : Addr => (Vp w)) (fun w => [⟨.pointer (some w), [(Vi out.1), (Vi out.2.1), (Sl Kf out.2.2.1), (Vi out.2.2.2.1), (Sl (Ki .i64) out.2.2.2.2)], 137, none⟩]) := by
 unfold gogeom_NewPolygonFlat_v2 at hp
 refine fn_of Tryz.func45 rfl Tryz.ntmps45 rfl fun E hM => ?_
 refine cr fun K1 hK1 => ?_
 refine s0 (rd_assign' rfl) ?_
 refine nk hK1 ?_
 refine cr fun K2 hK2 => ?_
 refine sx_ox' (ox_alloc' info137 rfl rfl rfl rfl (l := [(Vi 0), (Vi 0), Vn, (Vi 0), Vn]) rfl) (wt_none' rfl) fun q8 => ?_
 refine s0 (rd_assign' rfl) ?_
 refine nk hK2 ?_
 refine cr fun K3 hK3 => ?_
 refine s0 (rd_move' rfl) ?_
 refine s0 (rd_move' rfl) ?_
 refine s0 (rd_nilck' rfl) ?_
 refine s0 (rd_field0' rfl Tryz.underlying137 rfl info135 rfl) ?_
 refine s0 (rd_field0' rfl Tryz.underlying135 rfl info89 rfl) ?_
 refine s0 (rd_field0' rfl Tryz.underlying89 rfl info87 rfl) ?_
 refine s0 (rd_field0' rfl Tryz.underlying87 rfl info58 rfl) ?_
 refine sx_ox' (ox_store' (i := 0) (o := 0) rfl rfl (lv_vl rfl rfl) ⟨rfl, rfl, rfl, rfl⟩ rfl info58 rfl (H' := [⟨.pointer (some q8), [(Vi a0), (Vi 0), Vn, (Vi 0), Vn], 137, none⟩]) rfl) (wt_none' rfl) fun _ => ?_
 refine nk hK3 ?_
 refine cr fun K4 hK4 => ?_
 refine s0 (rd_move' rfl) ?_
 refine s0 (rd_move' rfl) ?_
 obtain ⟨r18, hr18, hp⟩ := bind_some hp
 refine sx_ox' (ox_calln' (ent_fn' Tryz.func36 isn36 rfl rfl) (gogeom_Layout_Stride_sim _ hr18 : Sx.Fn Tryz.prog 36 [(Vi a0)] [] (fun x : Unit => (Vi r18)) (fun x => [])) (Hn := fun x : Unit => [⟨.pointer (some q8), [(Vi a0), (Vi 0), Vn, (Vi 0), Vn], 137, none⟩]) (fun _ => rfl) rfl rfl) (wt_none' rfl) fun ⟨⟩ => ?_
 refine s0 (rd_nilck' rfl) ?_
 refine s0 (rd_field0' rfl Tryz.underlying137 rfl info135 rfl) ?_
 refine s0 (rd_field0' rfl Tryz.underlying135 rfl info89 rfl) ?_
 refine s0 (rd_field0' rfl Tryz.underlying89 rfl info87 rfl) ?_
 refine s0 (rd_field' (off := 1) rfl Tryz.underlying87 rfl info3 rfl) ?_
 refine sx_ox' (ox_store' (i := 0) (o := 1) rfl rfl (lv_vl rfl rfl) ⟨rfl, rfl, rfl, rfl⟩ rfl info3 rfl (H' := [⟨.pointer (some q8), [(Vi a0), (Vi r18), Vn, (Vi 0), Vn], 137, none⟩]) rfl) (wt_none' rfl) fun _ => ?_
 refine nk hK4 ?_
 refine cr fun K5 hK5 => ?_
 refine s0 (rd_move' rfl) ?_
 refine s0 (rd_move' rfl) ?_
 refine s0 (rd_nilck' rfl) ?_
 refine s0 (rd_field0' rfl Tryz.underlying137 rfl info135 rfl) ?_
 refine s0 (rd_field0' rfl Tryz.underlying135 rfl info89 rfl) ?_
 refine s0 (rd_field0' rfl Tryz.underlying89 rfl info87 rfl) ?_
 refine s0 (rd_field' (off := 2) rfl Tryz.underlying87 rfl info29 rfl) ?_
 refine sx_ox' (ox_store' (i := 0) (o := 2) rfl rfl (lv_sl _ _) ⟨rfl, rfl, rfl, rfl⟩ rfl info29 rfl (H' := [⟨.pointer (some q8), [(Vi a0), (Vi r18), (Sl Kf a1), (Vi 0), Vn], 137, none⟩]) rfl) (wt_none' rfl) fun _ => ?_
 refine nk hK5 ?_
 refine cr fun K6 hK6 => ?_
 refine s0 (rd_move' rfl) ?_
 refine s0 (rd_move' rfl) ?_
 refine s0 (rd_nilck' rfl) ?_
 refine s0 (rd_field0' rfl Tryz.underlying137 rfl info135 rfl) ?_
 refine s0 (rd_field' (off := 4) rfl Tryz.underlying135 rfl info35 rfl) ?_
 refine sx_ox' (ox_store' (i := 0) (o := 4) rfl rfl (lv_sl _ _) ⟨rfl, rfl, rfl, rfl⟩ rfl info35 rfl (H' := [⟨.pointer (some q8), [(Vi a0), (Vi r18), (Sl Kf a1), (Vi 0), (Sl (Ki .i64) a2)], 137, none⟩]) rfl) (wt_none' rfl) fun _ => ?_
 refine nk hK6 ?_
 refine cr fun K7 hK7 => ?_
 refine s0 (rd_move' rfl) ?_
 refine s0 (rd_assign' rfl) ?_
 refine nk hK7 ?_
 refine cx_retc' ?_
 replace hp := Option.some.inj hp
 subst hp
 refine tx_pick' (L' := [(6, (Vp q8))]) (H' := [⟨.pointer (some q8), [(Vi a0), (Vi r18), (Sl Kf a1), (Vi 0), (Sl (Ki .i64) a2)], 137, none⟩]) [0] (sub_cons rfl sub_nil) (by decide) (pick_cons rfl pick_nil) ?_
 exact tx_ret1' Tryz.results45 rfl q8 (rv_tmp' rfl) (List.Sublist.refl _)

def gogeom_Polygon_SetSRID_v2 (k : Nat) (a0_0 : Int) (a0_1 : Int) (a0_2 : List Nat) (a0_3 : Int) (a0_4 : List Int) (a1 : Int) : Option (Int × Int × (List Nat) × Int × (List Int)) :=
 some (a0_0, a0_1, a0_2, a1, a0_4)

theorem gogeom_Polygon_SetSRID_v2_sim {k : Nat} {wa0 : Addr} (a0_0 : Int) (a0_1 : Int) (a0_2 : List Nat) (a0_3 : Int) (a0_4 : List Int) (a1 : Int) {out : Int × Int × (List Nat) × Int × (List Int)} (hp : gogeom_Polygon_SetSRID_v2 k a0_0 a0_1 a0_2 a0_3 a0_4 a1 = some out) : Sx.Fn Tryz.prog 47 [(Vp wa0), (Vi a1)] [⟨.pointer (some wa0), [(Vi a0_0), (Vi a0_1), (Sl Kf a0_2), (Vi a0_3), (Sl (Ki .i64) a0_4)], 137, none⟩] (fun w : Unit => (Vp wa0)) (fun w => [⟨.pointer (some wa0), [(Vi out.1), (Vi out.2.1), (Sl Kf out.2.2.1), (Vi out.2.2.2.1), (Sl (Ki .i64) out.2.2.2.2)], 137, none⟩]) := by
 unfold gogeom_Polygon_SetSRID_v2 at hp
 refine fn_of Tryz.func47 rfl Tryz.ntmps47 rfl fun E hM => ?_
 refine cr fun K1 hK1 => ?_
 refine s0 (rd_assign' rfl) ?_
 refine nk hK1 ?_
 refine cr fun K2 hK2 => ?_
 refine s0 (rd_move' rfl) ?_
 refine s0 (rd_move' rfl) ?_
 refine s0 (rd_nilck' rfl) ?_
 refine s0 (rd_field0' rfl Tryz.underlying137 rfl info135 rfl) ?_
 refine s0 (rd_field0' rfl Tryz.underlying135 rfl info89 rfl) ?_
 refine s0 (rd_field0' rfl Tryz.underlying89 rfl info87 rfl) ?_
 refine s0 (rd_field' (off := 3) rfl Tryz.underlying87 rfl info3 rfl) ?_
 refine sx_ox' (ox_store' (i := 0) (o := 3) rfl rfl (lv_vl rfl rfl) ⟨rfl, rfl, rfl, rfl⟩ rfl info3 rfl (H' := [⟨.pointer (some wa0), [(Vi a0_0), (Vi a0_1), (Sl Kf a0_2), (Vi a1), (Sl (Ki .i64) a0_4)], 137, none⟩]) rfl) (wt_none' rfl) fun _ => ?_
 refine nk hK2 ?_
 refine cr fun K3 hK3 => ?_
 refine s0 (rd_move' rfl) ?_
 refine s0 (rd_assign' rfl) ?_
 refine nk hK3 ?_
 refine cx_retc' ?_
 replace hp := Option.some.inj hp
 subst hp
 refine tx_pick' (L' := [(4, (Vp wa0))]) (H' := [⟨.pointer (some wa0), [(Vi a0_0), (Vi a0_1), (Sl Kf a0_2), (Vi a1), (Sl (Ki .i64) a0_4)], 137, none⟩]) [0] (sub_cons rfl sub_nil) (by decide) (pick_cons rfl pick_nil) ?_
 exact tx_ret1' Tryz.results47 rfl () (rv_tmp' rfl) (List.Sublist.refl _)

def gogeom_NewMultiPointFlatOptionWithEnds (k : Nat)  : Option (Unit) :=
 some ()

theorem gogeom_NewMultiPointFlatOptionWithEnds_sim {k : Nat}   {out : Unit} (hp : gogeom_NewMultiPointFlatOptionWithEnds k = some out) : Sx.Fn Tryz.prog 49 [Vn] [] (fun w : Addr => (Vl (.func (.func 74) #[] ⟨[.pointer (some w)]⟩))) (fun w => [⟨.pointer (some w), [Vn], 35, none⟩]) := by
 unfold gogeom_NewMultiPointFlatOptionWithEnds at hp
 refine fn_of Tryz.func49 rfl Tryz.ntmps49 rfl fun E hM => ?_
 refine cr fun K1 hK1 => ?_
 refine sx_ox' (ox_box' rfl (lv_vl rfl rfl) rfl rfl) (wt_none' rfl) fun q1 => ?_
 refine s0 (rd_assign' rfl) ?_
 refine nk hK1 ?_
 refine cr fun K2 hK2 => ?_
 refine s0 (rd_mkfunc' (us := [.pointer (some q1)]) rfl) ?_
 refine s0 (rd_assign' rfl) ?_
 refine nk hK2 ?_
 refine cx_retc' ?_
 replace hp := Option.some.inj hp
 subst hp
 refine tx_pick' (L' := [(2, (Vl (.func (.func 74) #[] ⟨[.pointer (some q1)]⟩)))]) (H' := [⟨.pointer (some q1), [Vn], 35, none⟩]) [0] (sub_cons rfl sub_nil) (by decide) (pick_cons rfl pick_nil) ?_
 exact tx_ret1' Tryz.results49 rfl q1 (rv_tmp' rfl) (List.Sublist.refl _)

def gogeom_NewMultiPointFlatOptionWithEnds_1 (k : Nat) (a0_0 : Int) (a0_1 : Int) (a0_2 : List Nat) (a0_3 : Int) : Option (Int × Int × (List Nat) × Int) :=
 some (a0_0, a0_1, a0_2, a0_3)

theorem gogeom_NewMultiPointFlatOptionWithEnds_1_sim {k : Nat} {wa0 : Addr} {wa1 : Addr} (a0_0 : Int) (a0_1 : Int) (a0_2 : List Nat) (a0_3 : Int) {out : Int × Int × (List Nat) × Int} (hp : gogeom_NewMultiPointFlatOptionWithEnds_1 k a0_0 a0_1 a0_2 a0_3 = some out) : Sx.Fn Tryz.prog 74 [(Vp wa0), (Vp wa1)] [⟨.pointer (some wa0), [(Vi a0_0), (Vi a0_1), (Sl Kf a0_2), (Vi a0_3), Vn], 139, none⟩, ⟨.pointer (some wa1), [Vn], 35, none⟩] (fun w : Unit => (Vl (.tuple #[]))) (fun w => [⟨.pointer (some wa0), [(Vi out.1), (Vi out.2.1), (Sl Kf out.2.2.1), (Vi out.2.2.2), Vn], 139, none⟩, ⟨.pointer (some wa1), [Vn], 35, none⟩]) := by
 unfold gogeom_NewMultiPointFlatOptionWithEnds_1 at hp
 refine fn_of Tryz.func74 rfl Tryz.ntmps74 rfl fun E hM => ?_
 refine cx_region' ?_
 refine s0 (rd_move' rfl) ?_
 refine s0 (rd_load' (i := 1) (o := 0) rfl ⟨rfl, rfl, rfl, rfl⟩ rfl flat35) ?_
 refine s0 (rd_nilck' rfl) ?_
 refine s0 (rd_field0' rfl Tryz.underlying139 rfl info135 rfl) ?_
 refine s0 (rd_field' (off := 4) rfl Tryz.underlying135 rfl info35 rfl) ?_
 refine sx_ox' (ox_store' (i := 0) (o := 4) rfl rfl (lv_vl rfl rfl) ⟨rfl, rfl, rfl, rfl⟩ rfl info35 rfl (H' := [⟨.pointer (some wa0), [(Vi a0_0), (Vi a0_1), (Sl Kf a0_2), (Vi a0_3), Vn], 139, none⟩, ⟨.pointer (some wa1), [Vn], 35, none⟩]) rfl) (wt_none' rfl) fun _ => ?_
 refine sx_nil' ?_
 replace hp := Option.some.inj hp
 subst hp
 refine tx_pick' (L' := []) (H' := [⟨.pointer (some wa0), [(Vi a0_0), (Vi a0_1), (Sl Kf a0_2), (Vi a0_3), Vn], 139, none⟩, ⟨.pointer (some wa1), [Vn], 35, none⟩]) [0, 1] sub_nil (by decide) (pick_cons rfl (pick_cons rfl pick_nil)) ?_
 exact tx_end0' Tryz.results74 rfl () rfl (List.Sublist.refl _)

def gogeom_NewMultiPointFlat_j2 (k : Nat) (r901 : Int × Int × (List Nat) × Int) (x5 : List Int) : Option (Int × Int × (List Nat) × Int × (List Int)) :=
 some (r901.1, r901.2.1, r901.2.2.1, r901.2.2.2, x5)
def gogeom_NewMultiPointFlat_l1s (x1 : Int) (r901 : Int × Int × (List Nat) × Int) (k : Nat) (rec1 : ((List Int) × Int) → Option ((List Int))) (x2 : List Int) (x3 : Int) : Option ((List Int)) :=
 br (decide (x3 < x1))
  ((idx x2 x3) >>= fun r106 =>
  rec1 ((x2.set x3.toNat (imul .i64 (iadd .i64 x3 1) r901.2.1)), (iadd .i64 x3 1)))
  (some x2)
def gogeom_NewMultiPointFlat_l1 (x1 : Int) (r901 : Int × Int × (List Nat) × Int) : Nat → ((List Int) × Int) → Option ((List Int))
 | 0, _ => none
 | k + 1, v => gogeom_NewMultiPointFlat_l1s x1 r901 k (gogeom_NewMultiPointFlat_l1 x1 r901 k) v.1 v.2
def gogeom_NewMultiPointFlat_j1 (k : Nat) (r901 : Int × Int × (List Nat) × Int) (x1 : Int) : Option (Int × Int × (List Nat) × Int × (List Int)) :=
 (mk 8 0 x1 x1) >>= fun r82 =>
 (gogeom_NewMultiPointFlat_l1 x1 r901 k (r82, 0)) >>= fun v3 =>
 gogeom_NewMultiPointFlat_j2 k r901 v3
def gogeom_NewMultiPointFlat (k : Nat) (a0 : Int) (a1 : List Nat) : Option (Int × Int × (List Nat) × Int × (List Int)) :=
 (gogeom_Layout_Stride k a0) >>= fun r22 =>
 (gogeom_NewMultiPointFlatOptionWithEnds_1 k a0 r22 a1 0) >>= fun r901 =>
 br (decide (0 < (r901.2.2.1.length : Int)))
  (br (decide (0 < r901.2.1))
   ((iquo .i64 (a1.length : Int) r901.2.1) >>= fun r79 =>
   gogeom_NewMultiPointFlat_j1 k r901 r79)
   (gogeom_NewMultiPointFlat_j1 k r901 0))
  (gogeom_NewMultiPointFlat_j2 k r901 [])

theorem gogeom_NewMultiPointFlat_sim {k : Nat} {wa2 : Addr} {wa2_0_0 : Addr} (a0 : Int) (a1 : List Nat) {out : Int × Int × (List Nat) × Int × (List Int)} (hp : gogeom_NewMultiPointFlat k a0 a1 = some out) : Sx.Fn Tryz.prog 48 [(Vi a0), (Sl Kf a1), (Vl (.slice (some wa2) 1 1))] [⟨.slice (some wa2) 1 1, [(Vl (.func (.func 74) #[] ⟨[.pointer (some wa2_0_0)]⟩))], 108, some 1⟩, ⟨.pointer (some wa2_0_0), [Vn], 35, none⟩] (fun w : Addr × Gs => (Vp w.1)) (fun w => [⟨.pointer (some wa2_0_0), [Vn], 35, none⟩, ⟨.pointer (some w.1), [(Vi out.1), (Vi out.2.1), (Sl Kf out.2.2.1), (Vi out.2.2.2.1), (Vl (Vs w.2))], 139, none⟩, (Rw (Ki .i64) 3 (Vs w.2) out.2.2.2.2)]) := by
 unfold gogeom_NewMultiPointFlat at hp
 refine fn_of Tryz.func48 rfl Tryz.ntmps48 rfl fun E hM => ?_
 refine cr fun K1 hK1 => ?_
 refine s0 (rd_assign' rfl) ?_
 refine nk hK1 ?_
 refine cr fun K2 hK2 => ?_
 refine sx_ox' (ox_alloc' info139 rfl rfl rfl rfl (l := [(Vi 0), (Vi 0), Vn, (Vi 0), Vn]) rfl) (wt_none' rfl) fun q12 => ?_
 refine s0 (rd_assign' rfl) ?_
 refine nk hK2 ?_
 refine cr fun K3 hK3 => ?_
 refine s0 (rd_move' rfl) ?_
 refine s0 (rd_move' rfl) ?_
 refine s0 (rd_nilck' rfl) ?_
 refine s0 (rd_field0' rfl Tryz.underlying139 rfl info135 rfl) ?_
 refine s0 (rd_field0' rfl Tryz.underlying135 rfl info89 rfl) ?_
 refine s0 (rd_field0' rfl Tryz.underlying89 rfl info87 rfl) ?_
 refine s0 (rd_field0' rfl Tryz.underlying87 rfl info58 rfl) ?_
 refine sx_ox' (ox_store' (i := 0) (o := 0) rfl rfl (lv_vl rfl rfl) ⟨rfl, rfl, rfl, rfl⟩ rfl info58 rfl (H' := [⟨.pointer (some q12), [(Vi a0), (Vi 0), Vn, (Vi 0), Vn], 139, none⟩, ⟨.slice (some wa2) 1 1, [(Vl (.func (.func 74) #[] ⟨[.pointer (some wa2_0_0)]⟩))], 108, some 1⟩, ⟨.pointer (some wa2_0_0), [Vn], 35, none⟩]) rfl) (wt_none' rfl) fun _ => ?_
 refine nk hK3 ?_
 refine cr fun K4 hK4 => ?_
 refine s0 (rd_move' rfl) ?_
 refine s0 (rd_move' rfl) ?_
 obtain ⟨r22, hr22, hp⟩ := bind_some hp
 refine sx_ox' (ox_calln' (ent_fn' Tryz.func36 isn36 rfl rfl) (gogeom_Layout_Stride_sim _ hr22 : Sx.Fn Tryz.prog 36 [(Vi a0)] [] (fun x : Unit => (Vi r22)) (fun x => [])) (Hn := fun x : Unit => [⟨.pointer (some q12), [(Vi a0), (Vi 0), Vn, (Vi 0), Vn], 139, none⟩, ⟨.slice (some wa2) 1 1, [(Vl (.func (.func 74) #[] ⟨[.pointer (some wa2_0_0)]⟩))], 108, some 1⟩, ⟨.pointer (some wa2_0_0), [Vn], 35, none⟩]) (fun _ => rfl) rfl rfl) (wt_none' rfl) fun ⟨⟩ => ?_
 refine s0 (rd_nilck' rfl) ?_
 refine s0 (rd_field0' rfl Tryz.underlying139 rfl info135 rfl) ?_
 refine s0 (rd_field0' rfl Tryz.underlying135 rfl info89 rfl) ?_
 refine s0 (rd_field0' rfl Tryz.underlying89 rfl info87 rfl) ?_
 refine s0 (rd_field' (off := 1) rfl Tryz.underlying87 rfl info3 rfl) ?_
 refine sx_ox' (ox_store' (i := 0) (o := 1) rfl rfl (lv_vl rfl rfl) ⟨rfl, rfl, rfl, rfl⟩ rfl info3 rfl (H' := [⟨.pointer (some q12), [(Vi a0), (Vi r22), Vn, (Vi 0), Vn], 139, none⟩, ⟨.slice (some wa2) 1 1, [(Vl (.func (.func 74) #[] ⟨[.pointer (some wa2_0_0)]⟩))], 108, some 1⟩, ⟨.pointer (some wa2_0_0), [Vn], 35, none⟩]) rfl) (wt_none' rfl) fun _ => ?_
 refine nk hK4 ?_
 refine cr fun K5 hK5 => ?_
 refine s0 (rd_move' rfl) ?_
 refine s0 (rd_move' rfl) ?_
 refine s0 (rd_nilck' rfl) ?_
 refine s0 (rd_field0' rfl Tryz.underlying139 rfl info135 rfl) ?_
 refine s0 (rd_field0' rfl Tryz.underlying135 rfl info89 rfl) ?_
 refine s0 (rd_field0' rfl Tryz.underlying89 rfl info87 rfl) ?_
 refine s0 (rd_field' (off := 2) rfl Tryz.underlying87 rfl info29 rfl) ?_
 refine sx_ox' (ox_store' (i := 0) (o := 2) rfl rfl (lv_sl _ _) ⟨rfl, rfl, rfl, rfl⟩ rfl info29 rfl (H' := [⟨.pointer (some q12), [(Vi a0), (Vi r22), (Sl Kf a1), (Vi 0), Vn], 139, none⟩, ⟨.slice (some wa2) 1 1, [(Vl (.func (.func 74) #[] ⟨[.pointer (some wa2_0_0)]⟩))], 108, some 1⟩, ⟨.pointer (some wa2_0_0), [Vn], 35, none⟩]) rfl) (wt_none' rfl) fun _ => ?_
 refine nk hK5 ?_
 refine cx_seq' fun K6 hK6 => ?_
 refine cr fun K7 hK7 => ?_
 refine s0 (rd_move' rfl) ?_
 refine s0 (rd_lenv' rfl Tryz.underlying138) ?_
 refine s0 (rd_move' rfl) ?_
 refine nk hK7 ?_
 refine cx_block' ?_
 refine tx_loop' ?_
 refine tx_round' ?_
 refine cr fun K8 hK8 => ?_
 refine s0 (rd_bin' rfl rfl eg_int ru_lss) ?_
 refine nk hK8 ?_
 refine cx_seq' fun K9 hK9 => ?_
 refine cx_cond_t' rfl rfl ?_
 refine cx_skip' ?_
 show TX E K9 _
 refine tx_k' hK9 ?_
 refine cx_seq' fun K10 hK10 => ?_
 refine cx_block' ?_
 refine cr fun K11 hK11 => ?_
 refine s0 (rd_atv' rfl rfl (by decide) (by decide) Tryz.underlying138 info108) ?_
 refine s0 (rd_load_row' (i := 1) (o := 0) rfl ⟨rfl, rfl, rfl⟩ rfl flat108) ?_
 refine s0 (rd_assign' rfl) ?_
 refine nk hK11 ?_
 refine cx_region' ?_
 refine s0 (rd_move' rfl) ?_
 refine s0 (rd_move' rfl) ?_
 obtain ⟨r901, hr901, hp⟩ := bind_some hp
 refine sx_ox' (ox_callg' (ent_clo' (us := [.pointer (some wa2_0_0)]) rfl Tryz.func74 isn74 rfl rfl) (gogeom_NewMultiPointFlatOptionWithEnds_1_sim _ _ _ _ hr901 : Sx.Fn Tryz.prog 74 [(Vp q12), (Vp wa2_0_0)] [⟨.pointer (some q12), [(Vi a0), (Vi r22), (Sl Kf a1), (Vi 0), Vn], 139, none⟩, ⟨.pointer (some wa2_0_0), [Vn], 35, none⟩] (fun x : Unit => (Vl (.tuple #[]))) (fun x => [⟨.pointer (some q12), [(Vi r901.1), (Vi r901.2.1), (Sl Kf r901.2.2.1), (Vi r901.2.2.2), Vn], 139, none⟩, ⟨.pointer (some wa2_0_0), [Vn], 35, none⟩])) [0, 2] [1] (by decide) (pick_cons rfl (pick_cons rfl pick_nil)) (pick_cons rfl pick_nil) (Hn := fun x : Unit => [⟨.pointer (some q12), [(Vi r901.1), (Vi r901.2.1), (Sl Kf r901.2.2.1), (Vi r901.2.2.2), Vn], 139, none⟩, ⟨.pointer (some wa2_0_0), [Vn], 35, none⟩, ⟨.slice (some wa2) 1 1, [(Vl (.func (.func 74) #[] ⟨[.pointer (some wa2_0_0)]⟩))], 108, some 1⟩]) (fun _ => rfl) rfl rfl) (wt_none' rfl) fun ⟨⟩ => ?_
 refine nk hK10 ?_
 refine cx_region' ?_
 refine s0 (rd_bin' rfl rfl eg_int (ru_addc (c := 1) (by decide))) ?_
 refine s0 (rd_move' rfl) ?_
 refine sx_nil' ?_
 show TX E (LoopIn _ _ _) _
 refine tx_round' ?_
 refine cr fun K12 hK12 => ?_
 refine s0 (rd_bin' rfl rfl eg_int ru_lss) ?_
 refine nk hK12 ?_
 refine cx_seq' fun K13 hK13 => ?_
 refine cx_cond_f' rfl rfl ?_
 refine cx_exit' ?_
 show TX E K6 _
 refine tx_k' hK6 ?_
 refine cx_join' (fun (v4 : (List Int) × Gs) => (⟨109, [], [(7, (Vp q12))], [⟨.pointer (some q12), [(Vi r901.1), (Vi r901.2.1), (Sl Kf r901.2.2.1), (Vi r901.2.2.2), (Vl (Vs v4.2))], 139, none⟩, (Rw (Ki .i64) 3 (Vs v4.2) v4.1), ⟨.pointer (some wa2_0_0), [Vn], 35, none⟩]⟩ : St)) (fun (v4 : (List Int) × Gs) => gogeom_NewMultiPointFlat_j2 k r901 v4.1 = some out) ?_ ?_
 ·rintro ⟨x5, g901⟩ hp
  replace hp : gogeom_NewMultiPointFlat_j2 k r901 x5 = some out := hp
  unfold gogeom_NewMultiPointFlat_j2 at hp
  refine cr fun K29 hK29 => ?_
  refine s0 (rd_move' rfl) ?_
  refine s0 (rd_assign' rfl) ?_
  refine nk hK29 ?_
  refine cx_retc' ?_
  replace hp := Option.some.inj hp
  subst hp
  refine tx_pick' (L' := [(6, (Vp q12))]) (H' := [⟨.pointer (some wa2_0_0), [Vn], 35, none⟩, ⟨.pointer (some q12), [(Vi r901.1), (Vi r901.2.1), (Sl Kf r901.2.2.1), (Vi r901.2.2.2), (Vl (Vs g901))], 139, none⟩, (Rw (Ki .i64) 3 (Vs g901) x5)]) [2, 0, 1] (sub_cons rfl sub_nil) (by decide) (pick_cons rfl (pick_cons rfl (pick_cons rfl pick_nil))) ?_
  exact tx_ret1' Tryz.results48 rfl (q12, g901) (rv_tmp' rfl) (List.Sublist.refl _)
 intro K14 hK14
 refine cr fun K15 hK15 => ?_
 refine s0 (rd_move' rfl) ?_
 refine s0 (rd_nilck' rfl) ?_
 refine s0 (rd_field0' rfl Tryz.underlying139 rfl info135 rfl) ?_
 refine s0 (rd_field' (off := 4) rfl Tryz.underlying135 rfl info35 rfl) ?_
 refine s0 (rd_load' (i := 0) (o := 4) rfl ⟨rfl, rfl, rfl, rfl⟩ rfl flat35) ?_
 refine s0 (rd_binf' rfl rfl (bf_vl (fun _ => by kernel_rfl) nil_eql35_nilsl)) ?_
 refine s0 (rd_move' rfl) ?_
 refine sx_rd' (rd_move' rfl) rfl rfl (wt_is' (wt_guard' rfl rfl rfl) (beq_tt rfl)) ?_
 refine sx_rd' (rd_nilck' rfl) rfl rfl (wt_is' (wt_guard' rfl rfl rfl) (beq_tt rfl)) ?_
 refine sx_rd' (rd_field0' rfl Tryz.underlying139 rfl info135 rfl) rfl rfl (wt_is' (wt_guard' rfl rfl rfl) (beq_tt rfl)) ?_
 refine sx_rd' (rd_field0' rfl Tryz.underlying135 rfl info89 rfl) rfl rfl (wt_is' (wt_guard' rfl rfl rfl) (beq_tt rfl)) ?_
 refine sx_rd' (rd_field0' rfl Tryz.underlying89 rfl info87 rfl) rfl rfl (wt_is' (wt_guard' rfl rfl rfl) (beq_tt rfl)) ?_
 refine sx_rd' (rd_field' (off := 2) rfl Tryz.underlying87 rfl info29 rfl) rfl rfl (wt_is' (wt_guard' rfl rfl rfl) (beq_tt rfl)) ?_
 refine sx_rd' (rd_load' (i := 0) (o := 2) rfl ⟨rfl, rfl, rfl, rfl⟩ rfl flat29) rfl rfl (wt_is' (wt_guard' rfl rfl rfl) (beq_tt rfl)) ?_
 refine sx_rd' (rd_len' rfl Tryz.underlying29) rfl rfl (wt_is' (wt_guard' rfl rfl rfl) (beq_tt rfl)) ?_
 refine sx_rd' (rd_bin' rfl rfl eg_int ru_gtr) rfl rfl (wt_is' (wt_guard' rfl rfl rfl) (beq_tt rfl)) ?_
 refine s0 (rd_pick_true' rfl rfl rfl) ?_
 refine nk hK15 ?_
 refine cx_cond' rfl (fun h1 => ?_) (fun h1 => ?_)
 ·replace hp := (br_t h1).symm.trans hp
  refine cr fun K16 hK16 => ?_
  refine s0 (rd_assign' rfl) ?_
  refine nk hK16 ?_
  refine cx_join' (fun (v1 : Int) => (⟨109, [], [(7, (Vp q12)), (10, (Vi v1))], [⟨.pointer (some q12), [(Vi r901.1), (Vi r901.2.1), (Sl Kf r901.2.2.1), (Vi r901.2.2.2), Vn], 139, none⟩, ⟨.pointer (some wa2_0_0), [Vn], 35, none⟩]⟩ : St)) (fun (v1 : Int) => gogeom_NewMultiPointFlat_j1 k r901 v1 = some out) ?_ ?_
  ·rintro x1 hp
   replace hp : gogeom_NewMultiPointFlat_j1 k r901 x1 = some out := hp
   unfold gogeom_NewMultiPointFlat_j1 at hp
   refine cr fun K19 hK19 => ?_
   refine s0 (rd_move' rfl) ?_
   refine s0 (rd_move' rfl) ?_
   obtain ⟨r82, hr82, hp⟩ := bind_some hp
   refine sx_ox' (ox_make' (K := (Ki .i64)) rfl rfl hr82 rfl Tryz.underlying35 info3 rfl rfl rfl rfl rfl) (wt_none' rfl) fun g82 => ?_
   refine s0 (rd_nilck' rfl) ?_
   refine s0 (rd_field0' rfl Tryz.underlying139 rfl info135 rfl) ?_
   refine s0 (rd_field' (off := 4) rfl Tryz.underlying135 rfl info35 rfl) ?_
   refine sx_ox' (ox_store' (i := 1) (o := 4) rfl rfl (lv_vl rfl rfl) ⟨rfl, rfl, rfl, rfl⟩ rfl info35 rfl (H' := [(Rw (Ki .i64) 3 (Vs g82) r82), ⟨.pointer (some q12), [(Vi r901.1), (Vi r901.2.1), (Sl Kf r901.2.2.1), (Vi r901.2.2.2), (Vl (Vs g82))], 139, none⟩, ⟨.pointer (some wa2_0_0), [Vn], 35, none⟩]) rfl) (wt_none' rfl) fun _ => ?_
   refine nk hK19 ?_
   refine cr fun K20 hK20 => ?_
   refine s0 (rd_move' rfl) ?_
   refine s0 (rd_move' rfl) ?_
   refine nk hK20 ?_
   refine cx_block' ?_
   obtain ⟨v3, hy1, hp⟩ := bind_some hp
   refine cx_loopg' (F := gogeom_NewMultiPointFlat_l1 x1 r901) (G := fun k R v => gogeom_NewMultiPointFlat_l1s x1 r901 k R v.1 v.2) (x := (r82, 0)) (gh := ()) (fun (v2 : (List Int) × Int) (w2 : Unit) => (⟨109, [], [(7, (Vp q12)), (86, (Vi x1)), (87, (Vi v2.2))], [⟨.pointer (some q12), [(Vi r901.1), (Vi r901.2.1), (Sl Kf r901.2.2.1), (Vi r901.2.2.2), (Vl (Vs g82))], 139, none⟩, (Rw (Ki .i64) 3 (Vs g82) v2.1), ⟨.pointer (some wa2_0_0), [Vn], 35, none⟩]⟩ : St)) (fun (v3 : (List Int)) => Zg E (Exit.exit 2) (fun (w3 : Unit) => (⟨109, [], [(7, (Vp q12))], [⟨.pointer (some q12), [(Vi r901.1), (Vi r901.2.1), (Sl Kf r901.2.2.1), (Vi r901.2.2.2), (Vl (Vs g82))], 139, none⟩, (Rw (Ki .i64) 3 (Vs g82) v3), ⟨.pointer (some wa2_0_0), [Vn], 35, none⟩]⟩ : St))) (fun _ => rfl) (fun _ _ => rfl) ?_ hy1 (tx_to' rfl [1, 0, 2] (sub_cons rfl (sub_cons rfl (sub_cons rfl sub_nil))) (by decide) (pick_cons rfl (pick_cons rfl (pick_cons rfl pick_nil)))) ?_
   ·clear hp hy1
    clear v3
    intro k rec1 KY1 ih1
    rintro ⟨x2, x3⟩ ⟨⟩ y1 hp
    replace hp : gogeom_NewMultiPointFlat_l1s x1 r901 k rec1 x2 x3 = some y1 := hp
    unfold gogeom_NewMultiPointFlat_l1s at hp
    refine cr fun K25 hK25 => ?_
    refine s0 (rd_bin' rfl rfl eg_int ru_lss) ?_
    refine nk hK25 ?_
    refine cx_seq' fun K26 hK26 => ?_
    refine cx_cond' rfl (fun h5 => ?_) (fun h5 => ?_)
    ·replace hp := (br_t h5).symm.trans hp
     refine cx_skip' ?_
     show TX E K26 _
     refine tx_k' hK26 ?_
     refine cx_seq' fun K27 hK27 => ?_
     refine cx_block' ?_
     refine cr fun K28 hK28 => ?_
     refine s0 (rd_move' rfl) ?_
     refine s0 (rd_assign' rfl) ?_
     refine nk hK28 ?_
     refine cx_plan' [] [(17, 1)] [(0, 1), (1, 1), (2, 1), (3, 1), (4, 1), (5, 1), (6, 1), (7, 1), (8, 1), (9, 1), (10, 1), (11, 1), (12, 1), (13, 1), (14, 1), (15, 1), (16, 1), (17, 0)] mixed (by kernel_rfl) ?_
     refine px_rd' rfl (rd_move' rfl) rfl rfl (wt_none' rfl) ?_
     refine px_rd' rfl (rd_nilck' rfl) rfl rfl (wt_none' rfl) ?_
     refine px_rd' rfl (rd_field0' rfl Tryz.underlying139 rfl info135 rfl) rfl rfl (wt_none' rfl) ?_
     refine px_rd' rfl (rd_field' (off := 4) rfl Tryz.underlying135 rfl info35 rfl) rfl rfl (wt_none' rfl) ?_
     refine px_rd' rfl (rd_load' (i := 0) (o := 4) rfl ⟨rfl, rfl, rfl, rfl⟩ rfl flat35) rfl rfl (wt_none' rfl) ?_
     refine px_rd' rfl (rd_move' rfl) rfl rfl (wt_none' rfl) ?_
     refine px_rd' rfl (rd_move' rfl) rfl rfl (wt_none' rfl) ?_
     refine px_rd' rfl (rd_bin' rfl rfl eg_int ru_add) rfl rfl (wt_none' rfl) ?_
     refine px_rd' rfl (rd_move' rfl) rfl rfl (wt_none' rfl) ?_
     refine px_rd' rfl (rd_nilck' rfl) rfl rfl (wt_none' rfl) ?_
     refine px_rd' rfl (rd_field0' rfl Tryz.underlying139 rfl info135 rfl) rfl rfl (wt_none' rfl) ?_
     refine px_rd' rfl (rd_field0' rfl Tryz.underlying135 rfl info89 rfl) rfl rfl (wt_none' rfl) ?_
     refine px_rd' rfl (rd_field0' rfl Tryz.underlying89 rfl info87 rfl) rfl rfl (wt_none' rfl) ?_
     refine px_rd' rfl (rd_field' (off := 1) rfl Tryz.underlying87 rfl info3 rfl) rfl rfl (wt_none' rfl) ?_
     refine px_rd' rfl (rd_load' (i := 0) (o := 1) rfl ⟨rfl, rfl, rfl, rfl⟩ rfl flat3) rfl rfl (wt_none' rfl) ?_
     refine px_rd' rfl (rd_bin' rfl rfl eg_int ru_mul) rfl rfl (wt_none' rfl) ?_
     obtain ⟨r106, hr106, hp⟩ := bind_some hp
     refine px_rd' rfl (rd_atr' (m := 1) rfl rfl rfl rfl hr106 Tryz.underlying35 info3) rfl rfl (wt_none' rfl) ?_
     refine px_ox' rfl (ox_storer' (m := 1) (i := x3) (j := 0) (x' := (imul .i64 (iadd .i64 x3 1) r901.2.1)) rfl rfl (lv_vl rfl rfl) rfl rfl hr106 rfl rfl rfl info3 rfl (H' := [⟨.pointer (some q12), [(Vi r901.1), (Vi r901.2.1), (Sl Kf r901.2.2.1), (Vi r901.2.2.2), (Vl (Vs g82))], 139, none⟩, (Rw (Ki .i64) 3 (Vs g82) (x2.set x3.toNat (imul .i64 (iadd .i64 x3 1) r901.2.1))), ⟨.pointer (some wa2_0_0), [Vn], 35, none⟩]) rfl) rfl bs_nil (wt_none' rfl) fun _ => ?_
     refine px_nil' ?_
     show TX E K27 _
     refine tx_k' hK27 ?_
     refine cx_region' ?_
     refine s0 (rd_bin' rfl rfl eg_int ru_add) ?_
     refine s0 (rd_move' rfl) ?_
     refine sx_nil' ?_
     show TX E (KY1 _) _
     exact tx_pick' [0, 1, 2] (sub_cons rfl (sub_cons rfl (sub_cons rfl sub_nil))) (by decide) (pick_cons rfl (pick_cons rfl (pick_cons rfl pick_nil))) (ih1 ((x2.set x3.toNat (imul .i64 (iadd .i64 x3 1) r901.2.1)), (iadd .i64 x3 1)) () _ hp)
    replace hp := (br_f h5).symm.trans hp
    refine cx_exit' ?_
    replace hp := Option.some.inj hp
    subst hp
    show TX E (Zg E (Exit.exit 2) _ (Exit.exit 2)) _
    exact tx_zend' () rfl [0, 1, 2] (sub_cons rfl sub_nil) (by decide) (pick_cons rfl (pick_cons rfl (pick_cons rfl pick_nil)))
   refine zg_out fun w3 => ?_
   show TX E K14 _
   exact tx_pick' [0, 1, 2] (sub_cons rfl sub_nil) (by decide) (pick_cons rfl (pick_cons rfl (pick_cons rfl pick_nil))) (hK14 (v3, g82) hp)
  intro K17 hK17
  refine cr fun K18 hK18 => ?_
  refine s0 (rd_move' rfl) ?_
  refine s0 (rd_nilck' rfl) ?_
  refine s0 (rd_field0' rfl Tryz.underlying139 rfl info135 rfl) ?_
  refine s0 (rd_field0' rfl Tryz.underlying135 rfl info89 rfl) ?_
  refine s0 (rd_field0' rfl Tryz.underlying89 rfl info87 rfl) ?_
  refine s0 (rd_field' (off := 1) rfl Tryz.underlying87 rfl info3 rfl) ?_
  refine s0 (rd_load' (i := 0) (o := 1) rfl ⟨rfl, rfl, rfl, rfl⟩ rfl flat3) ?_
  refine s0 (rd_bin' rfl rfl eg_int ru_gtr) ?_
  refine nk hK18 ?_
  refine cx_cond' rfl (fun h2 => ?_) (fun h2 => ?_)
  ·replace hp := (br_t h2).symm.trans hp
   refine cx_region' ?_
   refine s0 (rd_move' rfl) ?_
   refine s0 (rd_len' rfl Tryz.underlying29) ?_
   refine s0 (rd_move' rfl) ?_
   refine s0 (rd_nilck' rfl) ?_
   refine s0 (rd_field0' rfl Tryz.underlying139 rfl info135 rfl) ?_
   refine s0 (rd_field0' rfl Tryz.underlying135 rfl info89 rfl) ?_
   refine s0 (rd_field0' rfl Tryz.underlying89 rfl info87 rfl) ?_
   refine s0 (rd_field' (off := 1) rfl Tryz.underlying87 rfl info3 rfl) ?_
   refine s0 (rd_load' (i := 0) (o := 1) rfl ⟨rfl, rfl, rfl, rfl⟩ rfl flat3) ?_
   obtain ⟨r79, hr79, hp⟩ := bind_some hp
   refine s0 (rd_bin' rfl rfl eg_int (ru_quo hr79)) ?_
   refine s0 (rd_assign' rfl) ?_
   refine sx_nil' ?_
   show TX E K17 _
   exact tx_pick' [0, 1] (sub_cons rfl (sub_cons rfl sub_nil)) (by decide) (pick_cons rfl (pick_cons rfl pick_nil)) (hK17 r79 hp)
  replace hp := (br_f h2).symm.trans hp
  refine cx_skip' ?_
  show TX E K17 _
  exact tx_pick' [0, 1] (sub_cons rfl (sub_cons rfl sub_nil)) (by decide) (pick_cons rfl (pick_cons rfl pick_nil)) (hK17 0 hp)
 replace hp := (br_f h1).symm.trans hp
 refine cx_skip' ?_
 show TX E K14 _
 refine tx_nilrow' (Ki .i64) 3 ?_
 exact tx_pick' [1, 0, 2] (sub_cons rfl sub_nil) (by decide) (pick_cons rfl (pick_cons rfl (pick_cons rfl pick_nil))) (hK14 ([], (none, 0, 0)) hp)

def gogeom_MultiPoint_SetSRID (k : Nat) (a0_0 : Int) (a0_1 : Int) (a0_2 : List Nat) (a0_3 : Int) (a0_4 : List Int) (a1 : Int) : Option (Int × Int × (List Nat) × Int × (List Int)) :=
 some (a0_0, a0_1, a0_2, a1, a0_4)

theorem gogeom_MultiPoint_SetSRID_sim {k : Nat} {wa0 : Addr} {wa0_4 : Gs} (a0_0 : Int) (a0_1 : Int) (a0_2 : List Nat) (a0_3 : Int) (a0_4 : List Int) (a1 : Int) {out : Int × Int × (List Nat) × Int × (List Int)} (hp : gogeom_MultiPoint_SetSRID k a0_0 a0_1 a0_2 a0_3 a0_4 a1 = some out) : Sx.Fn Tryz.prog 50 [(Vp wa0), (Vi a1)] [⟨.pointer (some wa0), [(Vi a0_0), (Vi a0_1), (Sl Kf a0_2), (Vi a0_3), (Vl (Vs wa0_4))], 139, none⟩, (Rw (Ki .i64) 3 (Vs wa0_4) a0_4)] (fun w : Unit => (Vp wa0)) (fun w => [⟨.pointer (some wa0), [(Vi out.1), (Vi out.2.1), (Sl Kf out.2.2.1), (Vi out.2.2.2.1), (Vl (Vs wa0_4))], 139, none⟩, (Rw (Ki .i64) 3 (Vs wa0_4) out.2.2.2.2)]) := by
 unfold gogeom_MultiPoint_SetSRID at hp
 refine fn_of Tryz.func50 rfl Tryz.ntmps50 rfl fun E hM => ?_
 refine cr fun K1 hK1 => ?_
 refine s0 (rd_assign' rfl) ?_
 refine nk hK1 ?_
 refine cr fun K2 hK2 => ?_
 refine s0 (rd_move' rfl) ?_
 refine s0 (rd_move' rfl) ?_
 refine s0 (rd_nilck' rfl) ?_
 refine s0 (rd_field0' rfl Tryz.underlying139 rfl info135 rfl) ?_
 refine s0 (rd_field0' rfl Tryz.underlying135 rfl info89 rfl) ?_
 refine s0 (rd_field0' rfl Tryz.underlying89 rfl info87 rfl) ?_
 refine s0 (rd_field' (off := 3) rfl Tryz.underlying87 rfl info3 rfl) ?_
 refine sx_ox' (ox_store' (i := 0) (o := 3) rfl rfl (lv_vl rfl rfl) ⟨rfl, rfl, rfl, rfl⟩ rfl info3 rfl (H' := [⟨.pointer (some wa0), [(Vi a0_0), (Vi a0_1), (Sl Kf a0_2), (Vi a1), (Vl (Vs wa0_4))], 139, none⟩, (Rw (Ki .i64) 3 (Vs wa0_4) a0_4)]) rfl) (wt_none' rfl) fun _ => ?_
 refine nk hK2 ?_
 refine cr fun K3 hK3 => ?_
 refine s0 (rd_move' rfl) ?_
 refine s0 (rd_assign' rfl) ?_
 refine nk hK3 ?_
 refine cx_retc' ?_
 replace hp := Option.some.inj hp
 subst hp
 refine tx_pick' (L' := [(4, (Vp wa0))]) (H' := [⟨.pointer (some wa0), [(Vi a0_0), (Vi a0_1), (Sl Kf a0_2), (Vi a1), (Vl (Vs wa0_4))], 139, none⟩, (Rw (Ki .i64) 3 (Vs wa0_4) a0_4)]) [0, 1] (sub_cons rfl sub_nil) (by decide) (pick_cons rfl (pick_cons rfl pick_nil)) ?_
 exact tx_ret1' Tryz.results50 rfl () (rv_tmp' rfl) (List.Sublist.refl _)

def gogeom_NewMultiPointFlatOptionWithEnds_v2 (k : Nat) (a0 : List Int) : Option ((List Int)) :=
 some a0

theorem gogeom_NewMultiPointFlatOptionWithEnds_v2_sim {k : Nat}  (a0 : List Int) {out : (List Int)} (hp : gogeom_NewMultiPointFlatOptionWithEnds_v2 k a0 = some out) : Sx.Fn Tryz.prog 49 [(Sl (Ki .i64) a0)] [] (fun w : Addr => (Vl (.func (.func 74) #[] ⟨[.pointer (some w)]⟩))) (fun w => [⟨.pointer (some w), [(Sl (Ki .i64) out)], 35, none⟩]) := by
 unfold gogeom_NewMultiPointFlatOptionWithEnds_v2 at hp
 refine fn_of Tryz.func49 rfl Tryz.ntmps49 rfl fun E hM => ?_
 refine cr fun K1 hK1 => ?_
 refine sx_ox' (ox_box' rfl (lv_sl _ _) rfl rfl) (wt_none' rfl) fun q1 => ?_
 refine s0 (rd_assign' rfl) ?_
 refine nk hK1 ?_
 refine cr fun K2 hK2 => ?_
 refine s0 (rd_mkfunc' (us := [.pointer (some q1)]) rfl) ?_
 refine s0 (rd_assign' rfl) ?_
 refine nk hK2 ?_
 refine cx_retc' ?_
 replace hp := Option.some.inj hp
 subst hp
 refine tx_pick' (L' := [(2, (Vl (.func (.func 74) #[] ⟨[.pointer (some q1)]⟩)))]) (H' := [⟨.pointer (some q1), [(Sl (Ki .i64) a0)], 35, none⟩]) [0] (sub_cons rfl sub_nil) (by decide) (pick_cons rfl pick_nil) ?_
 exact tx_ret1' Tryz.results49 rfl q1 (rv_tmp' rfl) (List.Sublist.refl _)

def gogeom_NewMultiPointFlatOptionWithEnds_1_v2 (k : Nat) (a0_0 : Int) (a0_1 : Int) (a0_2 : List Nat) (a0_3 : Int) (a1_0 : List Int) : Option (Int × Int × (List Nat) × Int × (List Int)) :=
 some (a0_0, a0_1, a0_2, a0_3, a1_0)

theorem gogeom_NewMultiPointFlatOptionWithEnds_1_v2_sim {k : Nat} {wa0 : Addr} {wa1 : Addr} (a0_0 : Int) (a0_1 : Int) (a0_2 : List Nat) (a0_3 : Int) (a1_0 : List Int) {out : Int × Int × (List Nat) × Int × (List Int)} (hp : gogeom_NewMultiPointFlatOptionWithEnds_1_v2 k a0_0 a0_1 a0_2 a0_3 a1_0 = some out) : Sx.Fn Tryz.prog 74 [(Vp wa0), (Vp wa1)] [⟨.pointer (some wa0), [(Vi a0_0), (Vi a0_1), (Sl Kf a0_2), (Vi a0_3), Vn], 139, none⟩, ⟨.pointer (some wa1), [(Sl (Ki .i64) a1_0)], 35, none⟩] (fun w : Unit => (Vl (.tuple #[]))) (fun w => [⟨.pointer (some wa0), [(Vi out.1), (Vi out.2.1), (Sl Kf out.2.2.1), (Vi out.2.2.2.1), (Sl (Ki .i64) out.2.2.2.2)], 139, none⟩, ⟨.pointer (some wa1), [(Sl (Ki .i64) out.2.2.2.2)], 35, none⟩]) := by
 unfold gogeom_NewMultiPointFlatOptionWithEnds_1_v2 at hp
 refine fn_of Tryz.func74 rfl Tryz.ntmps74 rfl fun E hM => ?_
 refine cx_region' ?_
 refine s0 (rd_move' rfl) ?_
 refine s0 (rd_load' (i := 1) (o := 0) rfl ⟨rfl, rfl, rfl, rfl⟩ rfl flat35) ?_
 refine s0 (rd_nilck' rfl) ?_
 refine s0 (rd_field0' rfl Tryz.underlying139 rfl info135 rfl) ?_
 refine s0 (rd_field' (off := 4) rfl Tryz.underlying135 rfl info35 rfl) ?_
 refine sx_ox' (ox_store' (i := 0) (o := 4) rfl rfl (lv_sl _ _) ⟨rfl, rfl, rfl, rfl⟩ rfl info35 rfl (H' := [⟨.pointer (some wa0), [(Vi a0_0), (Vi a0_1), (Sl Kf a0_2), (Vi a0_3), (Sl (Ki .i64) a1_0)], 139, none⟩, ⟨.pointer (some wa1), [(Sl (Ki .i64) a1_0)], 35, none⟩]) rfl) (wt_none' rfl) fun _ => ?_
 refine sx_nil' ?_
 replace hp := Option.some.inj hp
 subst hp
 refine tx_pick' (L' := []) (H' := [⟨.pointer (some wa0), [(Vi a0_0), (Vi a0_1), (Sl Kf a0_2), (Vi a0_3), (Sl (Ki .i64) a1_0)], 139, none⟩, ⟨.pointer (some wa1), [(Sl (Ki .i64) a1_0)], 35, none⟩]) [0, 1] sub_nil (by decide) (pick_cons rfl (pick_cons rfl pick_nil)) ?_
 exact tx_end0' Tryz.results74 rfl () rfl (List.Sublist.refl _)

def gogeom_NewMultiPointFlat_v2 (k : Nat) (a0 : Int) (a1 : List Nat) (a2_0_0_0 : List Int) : Option ((List Int) × Int × Int × (List Nat) × Int) :=
 (gogeom_Layout_Stride k a0) >>= fun r22 =>
 (gogeom_NewMultiPointFlatOptionWithEnds_1_v2 k a0 r22 a1 0 a2_0_0_0) >>= fun r901 =>
 (some1 r901.2.2.2.2) >>= fun z1 =>
 some (r901.2.2.2.2, r901.1, r901.2.1, r901.2.2.1, r901.2.2.2.1)

theorem gogeom_NewMultiPointFlat_v2_sim {k : Nat} {wa2 : Addr} {wa2_0_0 : Addr} (a0 : Int) (a1 : List Nat) (a2_0_0_0 : List Int) {out : (List Int) × Int × Int × (List Nat) × Int} (hp : gogeom_NewMultiPointFlat_v2 k a0 a1 a2_0_0_0 = some out) : Sx.Fn Tryz.prog 48 [(Vi a0), (Sl Kf a1), (Vl (.slice (some wa2) 1 1))] [⟨.slice (some wa2) 1 1, [(Vl (.func (.func 74) #[] ⟨[.pointer (some wa2_0_0)]⟩))], 108, some 1⟩, ⟨.pointer (some wa2_0_0), [(Sl (Ki .i64) a2_0_0_0)], 35, none⟩] (fun w : Addr => (Vp w)) (fun w => [⟨.pointer (some wa2_0_0), [(Sl (Ki .i64) out.1)], 35, none⟩, ⟨.pointer (some w), [(Vi out.2.1), (Vi out.2.2.1), (Sl Kf out.2.2.2.1), (Vi out.2.2.2.2), (Sl (Ki .i64) out.1)], 139, none⟩]) := by
 unfold gogeom_NewMultiPointFlat_v2 at hp
 refine fn_of Tryz.func48 rfl Tryz.ntmps48 rfl fun E hM => ?_
 refine cr fun K1 hK1 => ?_
 refine s0 (rd_assign' rfl) ?_
 refine nk hK1 ?_
 refine cr fun K2 hK2 => ?_
 refine sx_ox' (ox_alloc' info139 rfl rfl rfl rfl (l := [(Vi 0), (Vi 0), Vn, (Vi 0), Vn]) rfl) (wt_none' rfl) fun q12 => ?_
 refine s0 (rd_assign' rfl) ?_
 refine nk hK2 ?_
 refine cr fun K3 hK3 => ?_
 refine s0 (rd_move' rfl) ?_
 refine s0 (rd_move' rfl) ?_
 refine s0 (rd_nilck' rfl) ?_
 refine s0 (rd_field0' rfl Tryz.underlying139 rfl info135 rfl) ?_
 refine s0 (rd_field0' rfl Tryz.underlying135 rfl info89 rfl) ?_
 refine s0 (rd_field0' rfl Tryz.underlying89 rfl info87 rfl) ?_
 refine s0 (rd_field0' rfl Tryz.underlying87 rfl info58 rfl) ?_
 refine sx_ox' (ox_store' (i := 0) (o := 0) rfl rfl (lv_vl rfl rfl) ⟨rfl, rfl, rfl, rfl⟩ rfl info58 rfl (H' := [⟨.pointer (some q12), [(Vi a0), (Vi 0), Vn, (Vi 0), Vn], 139, none⟩, ⟨.slice (some wa2) 1 1, [(Vl (.func (.func 74) #[] ⟨[.pointer (some wa2_0_0)]⟩))], 108, some 1⟩, ⟨.pointer (some wa2_0_0), [(Sl (Ki .i64) a2_0_0_0)], 35, none⟩]) rfl) (wt_none' rfl) fun _ => ?_
 refine nk hK3 ?_
 refine cr fun K4 hK4 => ?_
 refine s0 (rd_move' rfl) ?_
 refine s0 (rd_move' rfl) ?_
 obtain ⟨r22, hr22, hp⟩ := bind_some hp
 refine sx_ox' (ox_calln' (ent_fn' Tryz.func36 isn36 rfl rfl) (gogeom_Layout_Stride_sim _ hr22 : Sx.Fn Tryz.prog 36 [(Vi a0)] [] (fun x : Unit => (Vi r22)) (fun x => [])) (Hn := fun x : Unit => [⟨.pointer (some q12), [(Vi a0), (Vi 0), Vn, (Vi 0), Vn], 139, none⟩, ⟨.slice (some wa2) 1 1, [(Vl (.func (.func 74) #[] ⟨[.pointer (some wa2_0_0)]⟩))], 108, some 1⟩, ⟨.pointer (some wa2_0_0), [(Sl (Ki .i64) a2_0_0_0)], 35, none⟩]) (fun _ => rfl) rfl rfl) (wt_none' rfl) fun ⟨⟩ => ?_
 refine s0 (rd_nilck' rfl) ?_
 refine s0 (rd_field0' rfl Tryz.underlying139 rfl info135 rfl) ?_
 refine s0 (rd_field0' rfl Tryz.underlying135 rfl info89 rfl) ?_
 refine s0 (rd_field0' rfl Tryz.underlying89 rfl info87 rfl) ?_
 refine s0 (rd_field' (off := 1) rfl Tryz.underlying87 rfl info3 rfl) ?_
 refine sx_ox' (ox_store' (i := 0) (o := 1) rfl rfl (lv_vl rfl rfl) ⟨rfl, rfl, rfl, rfl⟩ rfl info3 rfl (H' := [⟨.pointer (some q12), [(Vi a0), (Vi r22), Vn, (Vi 0), Vn], 139, none⟩, ⟨.slice (some wa2) 1 1, [(Vl (.func (.func 74) #[] ⟨[.pointer (some wa2_0_0)]⟩))], 108, some 1⟩, ⟨.pointer (some wa2_0_0), [(Sl (Ki .i64) a2_0_0_0)], 35, none⟩]) rfl) (wt_none' rfl) fun _ => ?_
 refine nk hK4 ?_
 refine cr fun K5 hK5 => ?_
 refine s0 (rd_move' rfl) ?_
 refine s0 (rd_move' rfl) ?_
 refine s0 (rd_nilck' rfl) ?_
 refine s0 (rd_field0' rfl Tryz.underlying139 rfl info135 rfl) ?_
 refine s0 (rd_field0' rfl Tryz.underlying135 rfl info89 rfl) ?_
 refine s0 (rd_field0' rfl Tryz.underlying89 rfl info87 rfl) ?_
 refine s0 (rd_field' (off := 2) rfl Tryz.underlying87 rfl info29 rfl) ?_
 refine sx_ox' (ox_store' (i := 0) (o := 2) rfl rfl (lv_sl _ _) ⟨rfl, rfl, rfl, rfl⟩ rfl info29 rfl (H' := [⟨.pointer (some q12), [(Vi a0), (Vi r22), (Sl Kf a1), (Vi 0), Vn], 139, none⟩, ⟨.slice (some wa2) 1 1, [(Vl (.func (.func 74) #[] ⟨[.pointer (some wa2_0_0)]⟩))], 108, some 1⟩, ⟨.pointer (some wa2_0_0), [(Sl (Ki .i64) a2_0_0_0)], 35, none⟩]) rfl) (wt_none' rfl) fun _ => ?_
 refine nk hK5 ?_
 refine cx_seq' fun K6 hK6 => ?_
 refine cr fun K7 hK7 => ?_
 refine s0 (rd_move' rfl) ?_
 refine s0 (rd_lenv' rfl Tryz.underlying138) ?_
 refine s0 (rd_move' rfl) ?_
 refine nk hK7 ?_
 refine cx_block' ?_
 refine tx_loop' ?_
 refine tx_round' ?_
 refine cr fun K8 hK8 => ?_
 refine s0 (rd_bin' rfl rfl eg_int ru_lss) ?_
 refine nk hK8 ?_
 refine cx_seq' fun K9 hK9 => ?_
 refine cx_cond_t' rfl rfl ?_
 refine cx_skip' ?_
 show TX E K9 _
 refine tx_k' hK9 ?_
 refine cx_seq' fun K10 hK10 => ?_
 refine cx_block' ?_
 refine cr fun K11 hK11 => ?_
 refine s0 (rd_atv' rfl rfl (by decide) (by decide) Tryz.underlying138 info108) ?_
 refine s0 (rd_load_row' (i := 1) (o := 0) rfl ⟨rfl, rfl, rfl⟩ rfl flat108) ?_
 refine s0 (rd_assign' rfl) ?_
 refine nk hK11 ?_
 refine cx_region' ?_
 refine s0 (rd_move' rfl) ?_
 refine s0 (rd_move' rfl) ?_
 obtain ⟨r901, hr901, hp⟩ := bind_some hp
 refine sx_ox' (ox_callg' (ent_clo' (us := [.pointer (some wa2_0_0)]) rfl Tryz.func74 isn74 rfl rfl) (gogeom_NewMultiPointFlatOptionWithEnds_1_v2_sim _ _ _ _ _ hr901 : Sx.Fn Tryz.prog 74 [(Vp q12), (Vp wa2_0_0)] [⟨.pointer (some q12), [(Vi a0), (Vi r22), (Sl Kf a1), (Vi 0), Vn], 139, none⟩, ⟨.pointer (some wa2_0_0), [(Sl (Ki .i64) a2_0_0_0)], 35, none⟩] (fun x : Unit => (Vl (.tuple #[]))) (fun x => [⟨.pointer (some q12), [(Vi r901.1), (Vi r901.2.1), (Sl Kf r901.2.2.1), (Vi r901.2.2.2.1), (Sl (Ki .i64) r901.2.2.2.2)], 139, none⟩, ⟨.pointer (some wa2_0_0), [(Sl (Ki .i64) r901.2.2.2.2)], 35, none⟩])) [0, 2] [1] (by decide) (pick_cons rfl (pick_cons rfl pick_nil)) (pick_cons rfl pick_nil) (Hn := fun x : Unit => [⟨.pointer (some q12), [(Vi r901.1), (Vi r901.2.1), (Sl Kf r901.2.2.1), (Vi r901.2.2.2.1), (Sl (Ki .i64) r901.2.2.2.2)], 139, none⟩, ⟨.pointer (some wa2_0_0), [(Sl (Ki .i64) r901.2.2.2.2)], 35, none⟩, ⟨.slice (some wa2) 1 1, [(Vl (.func (.func 74) #[] ⟨[.pointer (some wa2_0_0)]⟩))], 108, some 1⟩]) (fun _ => rfl) rfl rfl) (wt_none' rfl) fun ⟨⟩ => ?_
 refine nk hK10 ?_
 refine cx_region' ?_
 refine s0 (rd_bin' rfl rfl eg_int (ru_addc (c := 1) (by decide))) ?_
 refine s0 (rd_move' rfl) ?_
 refine sx_nil' ?_
 show TX E (LoopIn _ _ _) _
 refine tx_round' ?_
 refine cr fun K12 hK12 => ?_
 refine s0 (rd_bin' rfl rfl eg_int ru_lss) ?_
 refine nk hK12 ?_
 refine cx_seq' fun K13 hK13 => ?_
 refine cx_cond_f' rfl rfl ?_
 refine cx_exit' ?_
 show TX E K6 _
 refine tx_k' hK6 ?_
 refine cx_seq' fun K14 hK14 => ?_
 refine cr fun K15 hK15 => ?_
 refine s0 (rd_move' rfl) ?_
 refine s0 (rd_nilck' rfl) ?_
 refine s0 (rd_field0' rfl Tryz.underlying139 rfl info135 rfl) ?_
 refine s0 (rd_field' (off := 4) rfl Tryz.underlying135 rfl info35 rfl) ?_
 refine s0 (rd_load' (i := 0) (o := 4) rfl ⟨rfl, rfl, rfl, rfl⟩ rfl flat35) ?_
 obtain ⟨z1, hz1, hp⟩ := bind_some hp
 refine s0 (rd_binf' rfl rfl (bf_sl hz1 (fun _ _ _ _ => by kernel_rfl) nil_eql35_sl)) ?_
 refine s0 (rd_move' rfl) ?_
 refine sx_skip' rfl rfl (wt_is' (wt_guard' rfl rfl rfl) (beq_ft rfl)) ?_
 refine sx_skip' rfl rfl (wt_is' (wt_guard' rfl rfl rfl) (beq_ft rfl)) ?_
 refine sx_skip' rfl rfl (wt_is' (wt_guard' rfl rfl rfl) (beq_ft rfl)) ?_
 refine sx_skip' rfl rfl (wt_is' (wt_guard' rfl rfl rfl) (beq_ft rfl)) ?_
 refine sx_skip' rfl rfl (wt_is' (wt_guard' rfl rfl rfl) (beq_ft rfl)) ?_
 refine sx_skip' rfl rfl (wt_is' (wt_guard' rfl rfl rfl) (beq_ft rfl)) ?_
 refine sx_skip' rfl rfl (wt_is' (wt_guard' rfl rfl rfl) (beq_ft rfl)) ?_
 refine sx_skip' rfl rfl (wt_is' (wt_guard' rfl rfl rfl) (beq_ft rfl)) ?_
 refine sx_skip' rfl rfl (wt_is' (wt_guard' rfl rfl rfl) (beq_ft rfl)) ?_
 refine s0 (rd_pick_false' rfl rfl rfl) ?_
 refine nk hK15 ?_
 refine cx_cond_f' rfl rfl ?_
 refine cx_skip' ?_
 show TX E K14 _
 refine tx_k' hK14 ?_
 refine cr fun K16 hK16 => ?_
 refine s0 (rd_move' rfl) ?_
 refine s0 (rd_assign' rfl) ?_
 refine nk hK16 ?_
 refine cx_retc' ?_
 replace hp := Option.some.inj hp
 subst hp
 refine tx_pick' (L' := [(6, (Vp q12))]) (H' := [⟨.pointer (some wa2_0_0), [(Sl (Ki .i64) r901.2.2.2.2)], 35, none⟩, ⟨.pointer (some q12), [(Vi r901.1), (Vi r901.2.1), (Sl Kf r901.2.2.1), (Vi r901.2.2.2.1), (Sl (Ki .i64) r901.2.2.2.2)], 139, none⟩]) [1, 0] (sub_cons rfl sub_nil) (by decide) (pick_cons rfl (pick_cons rfl pick_nil)) ?_
 exact tx_ret1' Tryz.results48 rfl q12 (rv_tmp' rfl) (List.Sublist.refl _)

def gogeom_MultiPoint_SetSRID_v2 (k : Nat) (a0_0 : Int) (a0_1 : Int) (a0_2 : List Nat) (a0_3 : Int) (a0_4 : List Int) (a1 : Int) : Option (Int × Int × (List Nat) × Int × (List Int)) :=
 some (a0_0, a0_1, a0_2, a1, a0_4)

theorem gogeom_MultiPoint_SetSRID_v2_sim {k : Nat} {wa0 : Addr} (a0_0 : Int) (a0_1 : Int) (a0_2 : List Nat) (a0_3 : Int) (a0_4 : List Int) (a1 : Int) {out : Int × Int × (List Nat) × Int × (List Int)} (hp : gogeom_MultiPoint_SetSRID_v2 k a0_0 a0_1 a0_2 a0_3 a0_4 a1 = some out) : Sx.Fn Tryz.prog 50 [(Vp wa0), (Vi a1)] [⟨.pointer (some wa0), [(Vi a0_0), (Vi a0_1), (Sl Kf a0_2), (Vi a0_3), (Sl (Ki .i64) a0_4)], 139, none⟩] (fun w : Unit => (Vp wa0)) (fun w => [⟨.pointer (some wa0), [(Vi out.1), (Vi out.2.1), (Sl Kf out.2.2.1), (Vi out.2.2.2.1), (Sl (Ki .i64) out.2.2.2.2)], 139, none⟩]) := by
 unfold gogeom_MultiPoint_SetSRID_v2 at hp
 refine fn_of Tryz.func50 rfl Tryz.ntmps50 rfl fun E hM => ?_
 refine cr fun K1 hK1 => ?_
 refine s0 (rd_assign' rfl) ?_
 refine nk hK1 ?_
 refine cr fun K2 hK2 => ?_
 refine s0 (rd_move' rfl) ?_
 refine s0 (rd_move' rfl) ?_
 refine s0 (rd_nilck' rfl) ?_
 refine s0 (rd_field0' rfl Tryz.underlying139 rfl info135 rfl) ?_
 refine s0 (rd_field0' rfl Tryz.underlying135 rfl info89 rfl) ?_
 refine s0 (rd_field0' rfl Tryz.underlying89 rfl info87 rfl) ?_
 refine s0 (rd_field' (off := 3) rfl Tryz.underlying87 rfl info3 rfl) ?_
 refine sx_ox' (ox_store' (i := 0) (o := 3) rfl rfl (lv_vl rfl rfl) ⟨rfl, rfl, rfl, rfl⟩ rfl info3 rfl (H' := [⟨.pointer (some wa0), [(Vi a0_0), (Vi a0_1), (Sl Kf a0_2), (Vi a1), (Sl (Ki .i64) a0_4)], 139, none⟩]) rfl) (wt_none' rfl) fun _ => ?_
 refine nk hK2 ?_
 refine cr fun K3 hK3 => ?_
 refine s0 (rd_move' rfl) ?_
 refine s0 (rd_assign' rfl) ?_
 refine nk hK3 ?_
 refine cx_retc' ?_
 replace hp := Option.some.inj hp
 subst hp
 refine tx_pick' (L' := [(4, (Vp wa0))]) (H' := [⟨.pointer (some wa0), [(Vi a0_0), (Vi a0_1), (Sl Kf a0_2), (Vi a1), (Sl (Ki .i64) a0_4)], 139, none⟩]) [0] (sub_cons rfl sub_nil) (by decide) (pick_cons rfl pick_nil) ?_
 exact tx_ret1' Tryz.results50 rfl () (rv_tmp' rfl) (List.Sublist.refl _)

def gogeom_NewMultiLineStringFlat (k : Nat) (a0 : Int) (a1 : List Nat) : Option (Int × Int × (List Nat) × Int) :=
 (gogeom_Layout_Stride k a0) >>= fun r18 =>
 some (a0, r18, a1, 0)

theorem gogeom_NewMultiLineStringFlat_sim {k : Nat}  (a0 : Int) (a1 : List Nat) {out : Int × Int × (List Nat) × Int} (hp : gogeom_NewMultiLineStringFlat k a0 a1 = some out) : Sx.Fn Tryz.prog 51 [(Vi a0), (Sl Kf a1), Vn] [] (fun w : Addr => (Vp w)) (fun w => [⟨.pointer (some w), [(Vi out.1), (Vi out.2.1), (Sl Kf out.2.2.1), (Vi out.2.2.2), Vn], 140, none⟩]) := by
 unfold gogeom_NewMultiLineStringFlat at hp
 refine fn_of Tryz.func51 rfl Tryz.ntmps51 rfl fun E hM => ?_
 refine cr fun K1 hK1 => ?_
 refine s0 (rd_assign' rfl) ?_
 refine nk hK1 ?_
 refine cr fun K2 hK2 => ?_
 refine sx_ox' (ox_alloc' info140 rfl rfl rfl rfl (l := [(Vi 0), (Vi 0), Vn, (Vi 0), Vn]) rfl) (wt_none' rfl) fun q8 => ?_
 refine s0 (rd_assign' rfl) ?_
 refine nk hK2 ?_
 refine cr fun K3 hK3 => ?_
 refine s0 (rd_move' rfl) ?_
 refine s0 (rd_move' rfl) ?_
 refine s0 (rd_nilck' rfl) ?_
 refine s0 (rd_field0' rfl Tryz.underlying140 rfl info135 rfl) ?_
 refine s0 (rd_field0' rfl Tryz.underlying135 rfl info89 rfl) ?_
 refine s0 (rd_field0' rfl Tryz.underlying89 rfl info87 rfl) ?_
 refine s0 (rd_field0' rfl Tryz.underlying87 rfl info58 rfl) ?_
 refine sx_ox' (ox_store' (i := 0) (o := 0) rfl rfl (lv_vl rfl rfl) ⟨rfl, rfl, rfl, rfl⟩ rfl info58 rfl (H' := [⟨.pointer (some q8), [(Vi a0), (Vi 0), Vn, (Vi 0), Vn], 140, none⟩]) rfl) (wt_none' rfl) fun _ => ?_
 refine nk hK3 ?_
 refine cr fun K4 hK4 => ?_
 refine s0 (rd_move' rfl) ?_
 refine s0 (rd_move' rfl) ?_
 obtain ⟨r18, hr18, hp⟩ := bind_some hp
 refine sx_ox' (ox_calln' (ent_fn' Tryz.func36 isn36 rfl rfl) (gogeom_Layout_Stride_sim _ hr18 : Sx.Fn Tryz.prog 36 [(Vi a0)] [] (fun x : Unit => (Vi r18)) (fun x => [])) (Hn := fun x : Unit => [⟨.pointer (some q8), [(Vi a0), (Vi 0), Vn, (Vi 0), Vn], 140, none⟩]) (fun _ => rfl) rfl rfl) (wt_none' rfl) fun ⟨⟩ => ?_
 refine s0 (rd_nilck' rfl) ?_
 refine s0 (rd_field0' rfl Tryz.underlying140 rfl info135 rfl) ?_
 refine s0 (rd_field0' rfl Tryz.underlying135 rfl info89 rfl) ?_
 refine s0 (rd_field0' rfl Tryz.underlying89 rfl info87 rfl) ?_
 refine s0 (rd_field' (off := 1) rfl Tryz.underlying87 rfl info3 rfl) ?_
 refine sx_ox' (ox_store' (i := 0) (o := 1) rfl rfl (lv_vl rfl rfl) ⟨rfl, rfl, rfl, rfl⟩ rfl info3 rfl (H' := [⟨.pointer (some q8), [(Vi a0), (Vi r18), Vn, (Vi 0), Vn], 140, none⟩]) rfl) (wt_none' rfl) fun _ => ?_
 refine nk hK4 ?_
 refine cr fun K5 hK5 => ?_
 refine s0 (rd_move' rfl) ?_
 refine s0 (rd_move' rfl) ?_
 refine s0 (rd_nilck' rfl) ?_
 refine s0 (rd_field0' rfl Tryz.underlying140 rfl info135 rfl) ?_
 refine s0 (rd_field0' rfl Tryz.underlying135 rfl info89 rfl) ?_
 refine s0 (rd_field0' rfl Tryz.underlying89 rfl info87 rfl) ?_
 refine s0 (rd_field' (off := 2) rfl Tryz.underlying87 rfl info29 rfl) ?_
 refine sx_ox' (ox_store' (i := 0) (o := 2) rfl rfl (lv_sl _ _) ⟨rfl, rfl, rfl, rfl⟩ rfl info29 rfl (H' := [⟨.pointer (some q8), [(Vi a0), (Vi r18), (Sl Kf a1), (Vi 0), Vn], 140, none⟩]) rfl) (wt_none' rfl) fun _ => ?_
 refine nk hK5 ?_
 refine cr fun K6 hK6 => ?_
 refine s0 (rd_move' rfl) ?_
 refine s0 (rd_move' rfl) ?_
 refine s0 (rd_nilck' rfl) ?_
 refine s0 (rd_field0' rfl Tryz.underlying140 rfl info135 rfl) ?_
 refine s0 (rd_field' (off := 4) rfl Tryz.underlying135 rfl info35 rfl) ?_
 refine sx_ox' (ox_store' (i := 0) (o := 4) rfl rfl (lv_vl rfl rfl) ⟨rfl, rfl, rfl, rfl⟩ rfl info35 rfl (H' := [⟨.pointer (some q8), [(Vi a0), (Vi r18), (Sl Kf a1), (Vi 0), Vn], 140, none⟩]) rfl) (wt_none' rfl) fun _ => ?_
 refine nk hK6 ?_
 refine cr fun K7 hK7 => ?_
 refine s0 (rd_move' rfl) ?_
 refine s0 (rd_assign' rfl) ?_
 refine nk hK7 ?_
 refine cx_retc' ?_
 replace hp := Option.some.inj hp
 subst hp
 refine tx_pick' (L' := [(6, (Vp q8))]) (H' := [⟨.pointer (some q8), [(Vi a0), (Vi r18), (Sl Kf a1), (Vi 0), Vn], 140, none⟩]) [0] (sub_cons rfl sub_nil) (by decide) (pick_cons rfl pick_nil) ?_
 exact tx_ret1' Tryz.results51 rfl q8 (rv_tmp' rfl) (List.Sublist.refl _)

def gogeom_MultiLineString_SetSRID (k : Nat) (a0_0 : Int) (a0_1 : Int) (a0_2 : List Nat) (a0_3 : Int) (a1 : Int) : Option (Int × Int × (List Nat) × Int) :=
 some (a0_0, a0_1, a0_2, a1)

theorem gogeom_MultiLineString_SetSRID_sim {k : Nat} {wa0 : Addr} (a0_0 : Int) (a0_1 : Int) (a0_2 : List Nat) (a0_3 : Int) (a1 : Int) {out : Int × Int × (List Nat) × Int} (hp : gogeom_MultiLineString_SetSRID k a0_0 a0_1 a0_2 a0_3 a1 = some out) : Sx.Fn Tryz.prog 52 [(Vp wa0), (Vi a1)] [⟨.pointer (some wa0), [(Vi a0_0), (Vi a0_1), (Sl Kf a0_2), (Vi a0_3), Vn], 140, none⟩] (fun w : Unit => (Vp wa0)) (fun w => [⟨.pointer (some wa0), [(Vi out.1), (Vi out.2.1), (Sl Kf out.2.2.1), (Vi out.2.2.2), Vn], 140, none⟩]) := by
 unfold gogeom_MultiLineString_SetSRID at hp
 refine fn_of Tryz.func52 rfl Tryz.ntmps52 rfl fun E hM => ?_
 refine cr fun K1 hK1 => ?_
 refine s0 (rd_assign' rfl) ?_
 refine nk hK1 ?_
 refine cr fun K2 hK2 => ?_
 refine s0 (rd_move' rfl) ?_
 refine s0 (rd_move' rfl) ?_
 refine s0 (rd_nilck' rfl) ?_
 refine s0 (rd_field0' rfl Tryz.underlying140 rfl info135 rfl) ?_
 refine s0 (rd_field0' rfl Tryz.underlying135 rfl info89 rfl) ?_
 refine s0 (rd_field0' rfl Tryz.underlying89 rfl info87 rfl) ?_
 refine s0 (rd_field' (off := 3) rfl Tryz.underlying87 rfl info3 rfl) ?_
 refine sx_ox' (ox_store' (i := 0) (o := 3) rfl rfl (lv_vl rfl rfl) ⟨rfl, rfl, rfl, rfl⟩ rfl info3 rfl (H' := [⟨.pointer (some wa0), [(Vi a0_0), (Vi a0_1), (Sl Kf a0_2), (Vi a1), Vn], 140, none⟩]) rfl) (wt_none' rfl) fun _ => ?_
 refine nk hK2 ?_
 refine cr fun K3 hK3 => ?_
 refine s0 (rd_move' rfl) ?_
 refine s0 (rd_assign' rfl) ?_
 refine nk hK3 ?_
 refine cx_retc' ?_
 replace hp := Option.some.inj hp
 subst hp
 refine tx_pick' (L' := [(4, (Vp wa0))]) (H' := [⟨.pointer (some wa0), [(Vi a0_0), (Vi a0_1), (Sl Kf a0_2), (Vi a1), Vn], 140, none⟩]) [0] (sub_cons rfl sub_nil) (by decide) (pick_cons rfl pick_nil) ?_
 exact tx_ret1' Tryz.results52 rfl () (rv_tmp' rfl) (List.Sublist.refl _)

def gogeom_NewMultiLineStringFlat_v2 (k : Nat) (a0 : Int) (a1 : List Nat) (a2 : List Int) : Option (Int × Int × (List Nat) × Int × (List Int)) :=
 (gogeom_Layout_Stride k a0) >>= fun r18 =>
 some (a0, r18, a1, 0, a2)

theorem gogeom_NewMultiLineStringFlat_v2_sim {k : Nat}  (a0 : Int) (a1 : List Nat) (a2 : List Int) {out : Int × Int × (List Nat) × Int × (List Int)} (hp : gogeom_NewMultiLineStringFlat_v2 k a0 a1 a2 = some out) : Sx.Fn Tryz.prog 51 [(Vi a0), (Sl Kf a1), (Sl (Ki .i64) a2)] [] (fun w : Addr => (Vp w)) (fun w => [⟨.pointer (some w), [(Vi out.1), (Vi out.2.1), (Sl Kf out.2.2.1), (Vi out.2.2.2.1), (Sl (Ki .i64) out.2.2.2.2)], 140, none⟩]) := by
 unfold gogeom_NewMultiLineStringFlat_v2 at hp
 refine fn_of Tryz.func51 rfl Tryz.ntmps51 rfl fun E hM => ?_
 refine cr fun K1 hK1 => ?_
 refine s0 (rd_assign' rfl) ?_
 refine nk hK1 ?_
 refine cr fun K2 hK2 => ?_
 refine sx_ox' (ox_alloc' info140 rfl rfl rfl rfl (l := [(Vi 0), (Vi 0), Vn, (Vi 0), Vn]) rfl) (wt_none' rfl) fun q8 => ?_
 refine s0 (rd_assign' rfl) ?_
 refine nk hK2 ?_
 refine cr fun K3 hK3 => ?_
 refine s0 (rd_move' rfl) ?_
 refine s0 (rd_move' rfl) ?_
 refine s0 (rd_nilck' rfl) ?_
 refine s0 (rd_field0' rfl Tryz.underlying140 rfl info135 rfl) ?_
 refine s0 (rd_field0' rfl Tryz.underlying135 rfl info89 rfl) ?_
 refine s0 (rd_field0' rfl Tryz.underlying89 rfl info87 rfl) ?_
 refine s0 (rd_field0' rfl Tryz.underlying87 rfl info58 rfl) ?_
 refine sx_ox' (ox_store' (i := 0) (o := 0) rfl rfl (lv_vl rfl rfl) ⟨rfl, rfl, rfl, rfl⟩ rfl info58 rfl (H' := [⟨.pointer (some q8), [(Vi a0), (Vi 0), Vn, (Vi 0), Vn], 140, none⟩]) rfl) (wt_none' rfl) fun _ => ?_
 refine nk hK3 ?_
 refine cr fun K4 hK4 => ?_
 refine s0 (rd_move' rfl) ?_
 refine s0 (rd_move' rfl) ?_
 obtain ⟨r18, hr18, hp⟩ := bind_some hp
 refine sx_ox' (ox_calln' (ent_fn' Tryz.func36 isn36 rfl rfl) (gogeom_Layout_Stride_sim _ hr18 : Sx.Fn Tryz.prog 36 [(Vi a0)] [] (fun x : Unit => (Vi r18)) (fun x => [])) (Hn := fun x : Unit => [⟨.pointer (some q8), [(Vi a0), (Vi 0), Vn, (Vi 0), Vn], 140, none⟩]) (fun _ => rfl) rfl rfl) (wt_none' rfl) fun ⟨⟩ => ?_
 refine s0 (rd_nilck' rfl) ?_
 refine s0 (rd_field0' rfl Tryz.underlying140 rfl info135 rfl) ?_
 refine s0 (rd_field0' rfl Tryz.underlying135 rfl info89 rfl) ?_
 refine s0 (rd_field0' rfl Tryz.underlying89 rfl info87 rfl) ?_
 refine s0 (rd_field' (off := 1) rfl Tryz.underlying87 rfl info3 rfl) ?_
 refine sx_ox' (ox_store' (i := 0) (o := 1) rfl rfl (lv_vl rfl rfl) ⟨rfl, rfl, rfl, rfl⟩ rfl info3 rfl (H' := [⟨.pointer (some q8), [(Vi a0), (Vi r18), Vn, (Vi 0), Vn], 140, none⟩]) rfl) (wt_none' rfl) fun _ => ?_
 refine nk hK4 ?_
 refine cr fun K5 hK5 => ?_
 refine s0 (rd_move' rfl) ?_
 refine s0 (rd_move' rfl) ?_
 refine s0 (rd_nilck' rfl) ?_
 refine s0 (rd_field0' rfl Tryz.underlying140 rfl info135 rfl) ?_
 refine s0 (rd_field0' rfl Tryz.underlying135 rfl info89 rfl) ?_
 refine s0 (rd_field0' rfl Tryz.underlying89 rfl info87 rfl) ?_
 refine s0 (rd_field' (off := 2) rfl Tryz.underlying87 rfl info29 rfl) ?_
 refine sx_ox' (ox_store' (i := 0) (o := 2) rfl rfl (lv_sl _ _) ⟨rfl, rfl, rfl, rfl⟩ rfl info29 rfl (H' := [⟨.pointer (some q8), [(Vi a0), (Vi r18), (Sl Kf a1), (Vi 0), Vn], 140, none⟩]) rfl) (wt_none' rfl) fun _ => ?_
 refine nk hK5 ?_
 refine cr fun K6 hK6 => ?_
 refine s0 (rd_move' rfl) ?_
 refine s0 (rd_move' rfl) ?_
 refine s0 (rd_nilck' rfl) ?_
 refine s0 (rd_field0' rfl Tryz.underlying140 rfl info135 rfl) ?_
 refine s0 (rd_field' (off := 4) rfl Tryz.underlying135 rfl info35 rfl) ?_
 refine sx_ox' (ox_store' (i := 0) (o := 4) rfl rfl (lv_sl _ _) ⟨rfl, rfl, rfl, rfl⟩ rfl info35 rfl (H' := [⟨.pointer (some q8), [(Vi a0), (Vi r18), (Sl Kf a1), (Vi 0), (Sl (Ki .i64) a2)], 140, none⟩]) rfl) (wt_none' rfl) fun _ => ?_
 refine nk hK6 ?_
 refine cr fun K7 hK7 => ?_
 refine s0 (rd_move' rfl) ?_
 refine s0 (rd_assign' rfl) ?_
 refine nk hK7 ?_
 refine cx_retc' ?_
 replace hp := Option.some.inj hp
 subst hp
 refine tx_pick' (L' := [(6, (Vp q8))]) (H' := [⟨.pointer (some q8), [(Vi a0), (Vi r18), (Sl Kf a1), (Vi 0), (Sl (Ki .i64) a2)], 140, none⟩]) [0] (sub_cons rfl sub_nil) (by decide) (pick_cons rfl pick_nil) ?_
 exact tx_ret1' Tryz.results51 rfl q8 (rv_tmp' rfl) (List.Sublist.refl _)

def gogeom_MultiLineString_SetSRID_v2 (k : Nat) (a0_0 : Int) (a0_1 : Int) (a0_2 : List Nat) (a0_3 : Int) (a0_4 : List Int) (a1 : Int) : Option (Int × Int × (List Nat) × Int × (List Int)) :=
 some (a0_0, a0_1, a0_2, a1, a0_4)

theorem gogeom_MultiLineString_SetSRID_v2_sim {k : Nat} {wa0 : Addr} (a0_0 : Int) (a0_1 : Int) (a0_2 : List Nat) (a0_3 : Int) (a0_4 : List Int) (a1 : Int) {out : Int × Int × (List Nat) × Int × (List Int)} (hp : gogeom_MultiLineString_SetSRID_v2 k a0_0 a0_1 a0_2 a0_3 a0_4 a1 = some out) : Sx.Fn Tryz.prog 52 [(Vp wa0), (Vi a1)] [⟨.pointer (some wa0), [(Vi a0_0), (Vi a0_1), (Sl Kf a0_2), (Vi a0_3), (Sl (Ki .i64) a0_4)], 140, none⟩] (fun w : Unit => (Vp wa0)) (fun w => [⟨.pointer (some wa0), [(Vi out.1), (Vi out.2.1), (Sl Kf out.2.2.1), (Vi out.2.2.2.1), (Sl (Ki .i64) out.2.2.2.2)], 140, none⟩]) := by
 unfold gogeom_MultiLineString_SetSRID_v2 at hp
 refine fn_of Tryz.func52 rfl Tryz.ntmps52 rfl fun E hM => ?_
 refine cr fun K1 hK1 => ?_
 refine s0 (rd_assign' rfl) ?_
 refine nk hK1 ?_
 refine cr fun K2 hK2 => ?_
 refine s0 (rd_move' rfl) ?_
 refine s0 (rd_move' rfl) ?_
 refine s0 (rd_nilck' rfl) ?_
 refine s0 (rd_field0' rfl Tryz.underlying140 rfl info135 rfl) ?_
 refine s0 (rd_field0' rfl Tryz.underlying135 rfl info89 rfl) ?_
 refine s0 (rd_field0' rfl Tryz.underlying89 rfl info87 rfl) ?_
 refine s0 (rd_field' (off := 3) rfl Tryz.underlying87 rfl info3 rfl) ?_
 refine sx_ox' (ox_store' (i := 0) (o := 3) rfl rfl (lv_vl rfl rfl) ⟨rfl, rfl, rfl, rfl⟩ rfl info3 rfl (H' := [⟨.pointer (some wa0), [(Vi a0_0), (Vi a0_1), (Sl Kf a0_2), (Vi a1), (Sl (Ki .i64) a0_4)], 140, none⟩]) rfl) (wt_none' rfl) fun _ => ?_
 refine nk hK2 ?_
 refine cr fun K3 hK3 => ?_
 refine s0 (rd_move' rfl) ?_
 refine s0 (rd_assign' rfl) ?_
 refine nk hK3 ?_
 refine cx_retc' ?_
 replace hp := Option.some.inj hp
 subst hp
 refine tx_pick' (L' := [(4, (Vp wa0))]) (H' := [⟨.pointer (some wa0), [(Vi a0_0), (Vi a0_1), (Sl Kf a0_2), (Vi a1), (Sl (Ki .i64) a0_4)], 140, none⟩]) [0] (sub_cons rfl sub_nil) (by decide) (pick_cons rfl pick_nil) ?_
 exact tx_ret1' Tryz.results52 rfl () (rv_tmp' rfl) (List.Sublist.refl _)

def impl_intss_l1s (a0 : List (List Int)) (k : Nat) (rec1 : ((List (List Int)) × Int) → Option ((List (List Int)))) (x1 : List (List Int)) (x2 : Int) : Option ((List (List Int))) :=
 br (decide (x2 < (a0.length : Int)))
  ((idx a0 x2) >>= fun r10 =>
  (impl_ints k r10) >>= fun r14 =>
  match r14 with
   | (.inl y2) =>
    ((apd 24 x1 ([[]])) >>= fun r16 =>
    rec1 (r16, (iadd .i64 x2 1)))
   | (.inr y2) =>
    ((apd 24 x1 ([y2])) >>= fun r16 =>
    rec1 (r16, (iadd .i64 x2 1))))
  (some x1)
def impl_intss_l1 (a0 : List (List Int)) : Nat → ((List (List Int)) × Int) → Option ((List (List Int)))
 | 0, _ => none
 | k + 1, v => impl_intss_l1s a0 k (impl_intss_l1 a0 k) v.1 v.2
def impl_intss (k : Nat) (a0 : List (List Int)) : Option ((List (List Int))) :=
 (impl_intss_l1 a0 k ([], 0)) >>= fun v2 =>
 some v2

theorem impl_intss_sim {k : Nat}  (a0 : List (List Int)) {out : (List (List Int))} (hp : impl_intss k a0 = some out) : Sx.Fn Tryz.prog 54 [(Sl (Kl (Ki .i64)) a0)] [] (fun w : Unit => (Sl (Kl (Ki .i64)) out)) (fun w => []) := by
 unfold impl_intss at hp
 refine fn_of Tryz.func54 rfl Tryz.ntmps54 rfl fun E hM => ?_
 refine cr fun K1 hK1 => ?_
 refine s0 (rd_assign' rfl) ?_
 refine nk hK1 ?_
 refine cr fun K2 hK2 => ?_
 refine s0 (rd_assign' rfl) ?_
 refine nk hK2 ?_
 refine cx_seq' fun K3 hK3 => ?_
 refine cr fun K4 hK4 => ?_
 refine s0 (rd_move' rfl) ?_
 refine s0 (rd_len' rfl Tryz.underlying36) ?_
 refine s0 (rd_move' rfl) ?_
 refine nk hK4 ?_
 refine cx_block' ?_
 obtain ⟨v2, hy1, hp⟩ := bind_some hp
 refine tx_nilrow' (Kl (Ki .i64)) 35 ?_
 refine cx_loopg' (F := impl_intss_l1 a0) (G := fun k R v => impl_intss_l1s a0 k R v.1 v.2) (x := ([], 0)) (gh := (none, 0, 0)) (fun (v1 : (List (List Int)) × Int) (w1 : Gs) => (⟨19, [], [(3, (Vl (Vs w1))), (6, (Sl (Kl (Ki .i64)) a0)), (7, (Vi (a0.length : Int))), (8, (Vi v1.2))], [(Rw (Kl (Ki .i64)) 35 (Vs w1) v1.1)]⟩ : St)) (fun (v2 : (List (List Int))) => Zg E (Exit.exit 0) (fun (w2 : Gs) => (⟨19, [], [(3, (Vl (Vs w2)))], [(Rw (Kl (Ki .i64)) 35 (Vs w2) v2)]⟩ : St))) (fun _ => rfl) (fun _ _ => rfl) ?_ hy1 (tx_to' rfl [0] (sub_cons rfl (sub_cons rfl (sub_cons rfl (sub_cons rfl sub_nil)))) (by decide) (pick_cons rfl pick_nil)) ?_
 ·clear hp hy1
  clear v2
  intro k rec1 KY1 ih1
  rintro ⟨x1, x2⟩ g901 y3 hp
  replace hp : impl_intss_l1s a0 k rec1 x1 x2 = some y3 := hp
  unfold impl_intss_l1s at hp
  refine cr fun K9 hK9 => ?_
  refine s0 (rd_bin' rfl rfl eg_int ru_lss) ?_
  refine nk hK9 ?_
  refine cx_seq' fun K10 hK10 => ?_
  refine cx_cond' rfl (fun h3 => ?_) (fun h3 => ?_)
  ·replace hp := (br_t h3).symm.trans hp
   refine cx_skip' ?_
   show TX E K10 _
   refine tx_k' hK10 ?_
   refine cx_seq' fun K11 hK11 => ?_
   refine cx_block' ?_
   refine cr fun K12 hK12 => ?_
   obtain ⟨r10, hr10, hp⟩ := bind_some hp
   refine s0 (rd_at' (K := (Kl (Ki .i64))) rfl rfl hr10 Tryz.underlying36 info35) ?_
   refine s0 (rd_load_pt' rfl rfl flat35) ?_
   refine s0 (rd_assign' rfl) ?_
   refine nk hK12 ?_
   refine cx_region' ?_
   refine s0 (rd_move' rfl) ?_
   refine s0 (rd_move' rfl) ?_
   obtain ⟨r14, hr14, hp⟩ := bind_some hp
   rcases r14 with y2 | y2
   ·dsimp only at hp
    refine sx_ox' (ox_calln' (ent_fn' Tryz.func46 isn46 rfl rfl) (impl_ints_sim _ hr14 : Sx.Fn Tryz.prog 46 [(Sl (Ki .i64) r10)] [] (fun x : Unit => Vn) (fun x => [])) (Hn := fun x : Unit => [(Rw (Kl (Ki .i64)) 35 (Vs g901) x1)]) (fun _ => rfl) rfl rfl) (wt_none' rfl) fun ⟨⟩ => ?_
    refine tx_nilsl' 14 (Ki .i64) rfl rfl ?_
    refine sx_ox' (ox_rowlit' (K := (Kl (Ki .i64))) (xs := [[]]) (qs := [(0, [(Sl (Ki .i64) [])])]) ⟨rfl, ⟨_, rfl, (lv_sl _ _)⟩, trivial⟩ Tryz.underlying36 info35 rfl rfl rfl rfl rfl (by kernel_rfl) rfl rfl rfl) (wt_none' rfl) fun g15 => ?_
    obtain ⟨r16, hr16, hp⟩ := bind_some hp
    refine sx_ox' (ox_append' (K := (Kl (Ki .i64))) (i := 1) (xs := x1) (ys := ([[]])) rfl rfl rfl (sr_row' (j := 0) rfl rfl rfl Tryz.underlying36) hr16 Tryz.underlying36 info35 rfl rfl rfl (H' := [(Rw (Kl (Ki .i64)) 35 (Vs g15) ([[]]))]) rfl) (wt_none' rfl) fun g16 => ?_
    refine s0 (rd_assign' rfl) ?_
    refine nk hK11 ?_
    refine cx_region' ?_
    refine s0 (rd_bin' rfl rfl eg_int ru_add) ?_
    refine s0 (rd_move' rfl) ?_
    refine sx_nil' ?_
    show TX E (KY1 _) _
    exact tx_pick' [0] (sub_cons rfl (sub_cons rfl (sub_cons rfl (sub_cons rfl sub_nil)))) (by decide) (pick_cons rfl pick_nil) (ih1 (r16, (iadd .i64 x2 1)) g16 _ hp)
   dsimp only at hp
   refine sx_ox' (ox_calln' (ent_fn' Tryz.func46 isn46 rfl rfl) (impl_ints_sim _ hr14 : Sx.Fn Tryz.prog 46 [(Sl (Ki .i64) r10)] [] (fun x : Unit => (Sl (Ki .i64) y2)) (fun x => [])) (Hn := fun x : Unit => [(Rw (Kl (Ki .i64)) 35 (Vs g901) x1)]) (fun _ => rfl) rfl rfl) (wt_none' rfl) fun ⟨⟩ => ?_
   refine sx_ox' (ox_rowlit' (K := (Kl (Ki .i64))) (xs := [y2]) (qs := [(0, [(Sl (Ki .i64) y2)])]) ⟨rfl, ⟨_, rfl, (lv_sl _ _)⟩, trivial⟩ Tryz.underlying36 info35 rfl rfl rfl rfl rfl (by kernel_rfl) rfl rfl rfl) (wt_none' rfl) fun g15 => ?_
   obtain ⟨r16, hr16, hp⟩ := bind_some hp
   refine sx_ox' (ox_append' (K := (Kl (Ki .i64))) (i := 1) (xs := x1) (ys := ([y2])) rfl rfl rfl (sr_row' (j := 0) rfl rfl rfl Tryz.underlying36) hr16 Tryz.underlying36 info35 rfl rfl rfl (H' := [(Rw (Kl (Ki .i64)) 35 (Vs g15) ([y2]))]) rfl) (wt_none' rfl) fun g16 => ?_
   refine s0 (rd_assign' rfl) ?_
   refine nk hK11 ?_
   refine cx_region' ?_
   refine s0 (rd_bin' rfl rfl eg_int ru_add) ?_
   refine s0 (rd_move' rfl) ?_
   refine sx_nil' ?_
   show TX E (KY1 _) _
   exact tx_pick' [0] (sub_cons rfl (sub_cons rfl (sub_cons rfl (sub_cons rfl sub_nil)))) (by decide) (pick_cons rfl pick_nil) (ih1 (r16, (iadd .i64 x2 1)) g16 _ hp)
  replace hp := (br_f h3).symm.trans hp
  refine cx_exit' ?_
  replace hp := Option.some.inj hp
  subst hp
  show TX E (Zg E (Exit.exit 0) _ (Exit.exit 0)) _
  exact tx_zend' g901 rfl [0] (sub_cons rfl sub_nil) (by decide) (pick_cons rfl pick_nil)
 refine zg_out fun w2 => ?_
 show TX E K3 _
 refine tx_k' hK3 ?_
 refine cr fun K13 hK13 => ?_
 refine s0 (rd_move' rfl) ?_
 refine s0 (rd_assign' rfl) ?_
 refine nk hK13 ?_
 refine cx_retc' ?_
 replace hp := Option.some.inj hp
 subst hp
 refine tx_fz' (frz_row 0 [(3, (Vl (Vs w2)), (Sl (Kl (Ki .i64)) v2)), (18, (Vl (Vs w2)), (Sl (Kl (Ki .i64)) v2)), (2, (Vl (Vs w2)), (Sl (Kl (Ki .i64)) v2))] (K := (Kl (Ki .i64))) (xs := v2) (by decide) rfl ⟨⟨rfl, frz_it⟩, ⟨rfl, frz_it⟩, ⟨rfl, frz_it⟩, trivial⟩ (H' := []) frzH_refl) ?_
 refine tx_pick' (L' := [(2, (Sl (Kl (Ki .i64)) v2))]) (H' := []) [] (sub_cons rfl sub_nil) (by decide) pick_nil ?_
 exact tx_ret1' Tryz.results54 rfl () (rv_tmp' rfl) (List.Sublist.refl _)

def gogeom_NewMultiPolygonFlat (k : Nat) (a0 : Int) (a1 : List Nat) (a2 : List (List Int)) : Option (Int × Int × (List Nat) × Int × (List (List Int))) :=
 (gogeom_Layout_Stride k a0) >>= fun r18 =>
 some (a0, r18, a1, 0, a2)

theorem gogeom_NewMultiPolygonFlat_sim {k : Nat}  (a0 : Int) (a1 : List Nat) (a2 : List (List Int)) {out : Int × Int × (List Nat) × Int × (List (List Int))} (hp : gogeom_NewMultiPolygonFlat k a0 a1 a2 = some out) : Sx.Fn Tryz.prog 53 [(Vi a0), (Sl Kf a1), (Sl (Kl (Ki .i64)) a2)] [] (fun w : Addr => (Vp w)) (fun w => [⟨.pointer (some w), [(Vi out.1), (Vi out.2.1), (Sl Kf out.2.2.1), (Vi out.2.2.2.1), (Sl (Kl (Ki .i64)) out.2.2.2.2)], 144, none⟩]) := by
 unfold gogeom_NewMultiPolygonFlat at hp
 refine fn_of Tryz.func53 rfl Tryz.ntmps53 rfl fun E hM => ?_
 refine cr fun K1 hK1 => ?_
 refine s0 (rd_assign' rfl) ?_
 refine nk hK1 ?_
 refine cr fun K2 hK2 => ?_
 refine sx_ox' (ox_alloc' info144 rfl rfl rfl rfl (l := [(Vi 0), (Vi 0), Vn, (Vi 0), Vn]) rfl) (wt_none' rfl) fun q8 => ?_
 refine s0 (rd_assign' rfl) ?_
 refine nk hK2 ?_
 refine cr fun K3 hK3 => ?_
 refine s0 (rd_move' rfl) ?_
 refine s0 (rd_move' rfl) ?_
 refine s0 (rd_nilck' rfl) ?_
 refine s0 (rd_field0' rfl Tryz.underlying144 rfl info142 rfl) ?_
 refine s0 (rd_field0' rfl Tryz.underlying142 rfl info89 rfl) ?_
 refine s0 (rd_field0' rfl Tryz.underlying89 rfl info87 rfl) ?_
 refine s0 (rd_field0' rfl Tryz.underlying87 rfl info58 rfl) ?_
 refine sx_ox' (ox_store' (i := 0) (o := 0) rfl rfl (lv_vl rfl rfl) ⟨rfl, rfl, rfl, rfl⟩ rfl info58 rfl (H' := [⟨.pointer (some q8), [(Vi a0), (Vi 0), Vn, (Vi 0), Vn], 144, none⟩]) rfl) (wt_none' rfl) fun _ => ?_
 refine nk hK3 ?_
 refine cr fun K4 hK4 => ?_
 refine s0 (rd_move' rfl) ?_
 refine s0 (rd_move' rfl) ?_
 obtain ⟨r18, hr18, hp⟩ := bind_some hp
 refine sx_ox' (ox_calln' (ent_fn' Tryz.func36 isn36 rfl rfl) (gogeom_Layout_Stride_sim _ hr18 : Sx.Fn Tryz.prog 36 [(Vi a0)] [] (fun x : Unit => (Vi r18)) (fun x => [])) (Hn := fun x : Unit => [⟨.pointer (some q8), [(Vi a0), (Vi 0), Vn, (Vi 0), Vn], 144, none⟩]) (fun _ => rfl) rfl rfl) (wt_none' rfl) fun ⟨⟩ => ?_
 refine s0 (rd_nilck' rfl) ?_
 refine s0 (rd_field0' rfl Tryz.underlying144 rfl info142 rfl) ?_
 refine s0 (rd_field0' rfl Tryz.underlying142 rfl info89 rfl) ?_
 refine s0 (rd_field0' rfl Tryz.underlying89 rfl info87 rfl) ?_
 refine s0 (rd_field' (off := 1) rfl Tryz.underlying87 rfl info3 rfl) ?_
 refine sx_ox' (ox_store' (i := 0) (o := 1) rfl rfl (lv_vl rfl rfl) ⟨rfl, rfl, rfl, rfl⟩ rfl info3 rfl (H' := [⟨.pointer (some q8), [(Vi a0), (Vi r18), Vn, (Vi 0), Vn], 144, none⟩]) rfl) (wt_none' rfl) fun _ => ?_
 refine nk hK4 ?_
 refine cr fun K5 hK5 => ?_
 refine s0 (rd_move' rfl) ?_
 refine s0 (rd_move' rfl) ?_
 refine s0 (rd_nilck' rfl) ?_
 refine s0 (rd_field0' rfl Tryz.underlying144 rfl info142 rfl) ?_
 refine s0 (rd_field0' rfl Tryz.underlying142 rfl info89 rfl) ?_
 refine s0 (rd_field0' rfl Tryz.underlying89 rfl info87 rfl) ?_
 refine s0 (rd_field' (off := 2) rfl Tryz.underlying87 rfl info29 rfl) ?_
 refine sx_ox' (ox_store' (i := 0) (o := 2) rfl rfl (lv_sl _ _) ⟨rfl, rfl, rfl, rfl⟩ rfl info29 rfl (H' := [⟨.pointer (some q8), [(Vi a0), (Vi r18), (Sl Kf a1), (Vi 0), Vn], 144, none⟩]) rfl) (wt_none' rfl) fun _ => ?_
 refine nk hK5 ?_
 refine cr fun K6 hK6 => ?_
 refine s0 (rd_move' rfl) ?_
 refine s0 (rd_move' rfl) ?_
 refine s0 (rd_nilck' rfl) ?_
 refine s0 (rd_field0' rfl Tryz.underlying144 rfl info142 rfl) ?_
 refine s0 (rd_field' (off := 4) rfl Tryz.underlying142 rfl info36 rfl) ?_
 refine sx_ox' (ox_store' (i := 0) (o := 4) rfl rfl (lv_sl _ _) ⟨rfl, rfl, rfl, rfl⟩ rfl info36 rfl (H' := [⟨.pointer (some q8), [(Vi a0), (Vi r18), (Sl Kf a1), (Vi 0), (Sl (Kl (Ki .i64)) a2)], 144, none⟩]) rfl) (wt_none' rfl) fun _ => ?_
 refine nk hK6 ?_
 refine cr fun K7 hK7 => ?_
 refine s0 (rd_move' rfl) ?_
 refine s0 (rd_assign' rfl) ?_
 refine nk hK7 ?_
 refine cx_retc' ?_
 replace hp := Option.some.inj hp
 subst hp
 refine tx_pick' (L' := [(6, (Vp q8))]) (H' := [⟨.pointer (some q8), [(Vi a0), (Vi r18), (Sl Kf a1), (Vi 0), (Sl (Kl (Ki .i64)) a2)], 144, none⟩]) [0] (sub_cons rfl sub_nil) (by decide) (pick_cons rfl pick_nil) ?_
 exact tx_ret1' Tryz.results53 rfl q8 (rv_tmp' rfl) (List.Sublist.refl _)

def gogeom_MultiPolygon_SetSRID (k : Nat) (a0_0 : Int) (a0_1 : Int) (a0_2 : List Nat) (a0_3 : Int) (a0_4 : List (List Int)) (a1 : Int) : Option (Int × Int × (List Nat) × Int × (List (List Int))) :=
 some (a0_0, a0_1, a0_2, a1, a0_4)

theorem gogeom_MultiPolygon_SetSRID_sim {k : Nat} {wa0 : Addr} (a0_0 : Int) (a0_1 : Int) (a0_2 : List Nat) (a0_3 : Int) (a0_4 : List (List Int)) (a1 : Int) {out : Int × Int × (List Nat) × Int × (List (List Int))} (hp : gogeom_MultiPolygon_SetSRID k a0_0 a0_1 a0_2 a0_3 a0_4 a1 = some out) : Sx.Fn Tryz.prog 55 [(Vp wa0), (Vi a1)] [⟨.pointer (some wa0), [(Vi a0_0), (Vi a0_1), (Sl Kf a0_2), (Vi a0_3), (Sl (Kl (Ki .i64)) a0_4)], 144, none⟩] (fun w : Unit => (Vp wa0)) (fun w => [⟨.pointer (some wa0), [(Vi out.1), (Vi out.2.1), (Sl Kf out.2.2.1), (Vi out.2.2.2.1), (Sl (Kl (Ki .i64)) out.2.2.2.2)], 144, none⟩]) := by
 unfold gogeom_MultiPolygon_SetSRID at hp
 refine fn_of Tryz.func55 rfl Tryz.ntmps55 rfl fun E hM => ?_
 refine cr fun K1 hK1 => ?_
 refine s0 (rd_assign' rfl) ?_
 refine nk hK1 ?_
 refine cr fun K2 hK2 => ?_
 refine s0 (rd_move' rfl) ?_
 refine s0 (rd_move' rfl) ?_
 refine s0 (rd_nilck' rfl) ?_
 refine s0 (rd_field0' rfl Tryz.underlying144 rfl info142 rfl) ?_
 refine s0 (rd_field0' rfl Tryz.underlying142 rfl info89 rfl) ?_
 refine s0 (rd_field0' rfl Tryz.underlying89 rfl info87 rfl) ?_
 refine s0 (rd_field' (off := 3) rfl Tryz.underlying87 rfl info3 rfl) ?_
 refine sx_ox' (ox_store' (i := 0) (o := 3) rfl rfl (lv_vl rfl rfl) ⟨rfl, rfl, rfl, rfl⟩ rfl info3 rfl (H' := [⟨.pointer (some wa0), [(Vi a0_0), (Vi a0_1), (Sl Kf a0_2), (Vi a1), (Sl (Kl (Ki .i64)) a0_4)], 144, none⟩]) rfl) (wt_none' rfl) fun _ => ?_
 refine nk hK2 ?_
 refine cr fun K3 hK3 => ?_
 refine s0 (rd_move' rfl) ?_
 refine s0 (rd_assign' rfl) ?_
 refine nk hK3 ?_
 refine cx_retc' ?_
 replace hp := Option.some.inj hp
 subst hp
 refine tx_pick' (L' := [(4, (Vp wa0))]) (H' := [⟨.pointer (some wa0), [(Vi a0_0), (Vi a0_1), (Sl Kf a0_2), (Vi a1), (Sl (Kl (Ki .i64)) a0_4)], 144, none⟩]) [0] (sub_cons rfl sub_nil) (by decide) (pick_cons rfl pick_nil) ?_
 exact tx_ret1' Tryz.results55 rfl () (rv_tmp' rfl) (List.Sublist.refl _)

def gogeom_NewGeometryCollection (k : Nat)  : Option (Int) :=
 some 0

theorem gogeom_NewGeometryCollection_sim {k : Nat}   {out : Int} (hp : gogeom_NewGeometryCollection k = some out) : Sx.Fn Tryz.prog 56 [] [] (fun w : Addr => (Vp w)) (fun w => [⟨.pointer (some w), [(Vi out), Vn, (Vi out)], 147, none⟩]) := by
 unfold gogeom_NewGeometryCollection at hp
 refine fn_of Tryz.func56 rfl Tryz.ntmps56 rfl fun E hM => ?_
 refine cr fun K1 hK1 => ?_
 refine s0 (rd_assign' rfl) ?_
 refine nk hK1 ?_
 refine cr fun K2 hK2 => ?_
 refine s0 (rd_build' (pls := [(0, 1), (1, 1), (2, 1)]) (qs := []) (r := [(Vi 0), Vn, (Vi 0)]) trivial Tryz.underlying147 has147 places147 info147 rfl rfl rfl) ?_
 refine sx_ox' (ox_box' rfl (lv_ag _) rfl rfl) (wt_none' rfl) fun q2 => ?_
 refine s0 (rd_assign' rfl) ?_
 refine nk hK2 ?_
 refine cx_retc' ?_
 replace hp := Option.some.inj hp
 subst hp
 refine tx_pick' (L' := [(0, (Vp q2))]) (H' := [⟨.pointer (some q2), [(Vi 0), Vn, (Vi 0)], 147, none⟩]) [0] (sub_cons rfl sub_nil) (by decide) (pick_cons rfl pick_nil) ?_
 exact tx_ret1' Tryz.results56 rfl q2 (rv_tmp' rfl) (List.Sublist.refl _)

def gogeom_GeometryCollection_SetSRID (k : Nat) (a0_0 : Int) (a0_2 : Int) (a1 : Int) : Option (Int × Int) :=
 some (a0_0, a1)

theorem gogeom_GeometryCollection_SetSRID_sim {k : Nat} {wa0 : Addr} (a0_0 : Int) (a0_2 : Int) (a1 : Int) {out : Int × Int} (hp : gogeom_GeometryCollection_SetSRID k a0_0 a0_2 a1 = some out) : Sx.Fn Tryz.prog 57 [(Vp wa0), (Vi a1)] [⟨.pointer (some wa0), [(Vi a0_0), Vn, (Vi a0_2)], 147, none⟩] (fun w : Unit => (Vp wa0)) (fun w => [⟨.pointer (some wa0), [(Vi out.1), Vn, (Vi out.2)], 147, none⟩]) := by
 unfold gogeom_GeometryCollection_SetSRID at hp
 refine fn_of Tryz.func57 rfl Tryz.ntmps57 rfl fun E hM => ?_
 refine cr fun K1 hK1 => ?_
 refine s0 (rd_assign' rfl) ?_
 refine nk hK1 ?_
 refine cr fun K2 hK2 => ?_
 refine s0 (rd_move' rfl) ?_
 refine s0 (rd_move' rfl) ?_
 refine s0 (rd_nilck' rfl) ?_
 refine s0 (rd_field' (off := 2) rfl Tryz.underlying147 rfl info3 rfl) ?_
 refine sx_ox' (ox_store' (i := 0) (o := 2) rfl rfl (lv_vl rfl rfl) ⟨rfl, rfl, rfl, rfl⟩ rfl info3 rfl (H' := [⟨.pointer (some wa0), [(Vi a0_0), Vn, (Vi a1)], 147, none⟩]) rfl) (wt_none' rfl) fun _ => ?_
 refine nk hK2 ?_
 refine cr fun K3 hK3 => ?_
 refine s0 (rd_move' rfl) ?_
 refine s0 (rd_assign' rfl) ?_
 refine nk hK3 ?_
 refine cx_retc' ?_
 replace hp := Option.some.inj hp
 subst hp
 refine tx_pick' (L' := [(4, (Vp wa0))]) (H' := [⟨.pointer (some wa0), [(Vi a0_0), Vn, (Vi a1)], 147, none⟩]) [0] (sub_cons rfl sub_nil) (by decide) (pick_cons rfl pick_nil) ?_
 exact tx_ret1' Tryz.results57 rfl () (rv_tmp' rfl) (List.Sublist.refl _)

def gogeom_GeometryCollection_CheckLayout_j1 (k : Nat) (a0_0 : Int) (a0_2 : Int) : Option (Int × Int) :=
 some (a0_0, a0_2)
def gogeom_GeometryCollection_CheckLayout (k : Nat) (a0_0 : Int) (a0_2 : Int) (a1 : Int) : Option (Int × Int) :=
 br (!decide (a1 = 0))
  (gogeom_GeometryCollection_CheckLayout_j1 k a0_0 a0_2)
  (gogeom_GeometryCollection_CheckLayout_j1 k a0_0 a0_2)

theorem gogeom_GeometryCollection_CheckLayout_sim {k : Nat} {wa0 : Addr} (a0_0 : Int) (a0_2 : Int) (a1 : Int) {out : Int × Int} (hp : gogeom_GeometryCollection_CheckLayout k a0_0 a0_2 a1 = some out) : Sx.Fn Tryz.prog 88 [(Vp wa0), (Vi a1)] [⟨.pointer (some wa0), [(Vi a0_0), Vn, (Vi a0_2)], 147, none⟩] (fun w : Unit => Ve) (fun w => [⟨.pointer (some wa0), [(Vi out.1), Vn, (Vi out.2)], 147, none⟩]) := by
 unfold gogeom_GeometryCollection_CheckLayout at hp
 refine fn_of Tryz.func88 rfl Tryz.ntmps88 rfl fun E hM => ?_
 refine cr fun K1 hK1 => ?_
 refine s0 (rd_assign' rfl) ?_
 refine nk hK1 ?_
 refine cx_join' (fun (v1 : Unit) => (⟨29, [], [], [⟨.pointer (some wa0), [(Vi a0_0), Vn, (Vi a0_2)], 147, none⟩]⟩ : St)) (fun (v1 : Unit) => gogeom_GeometryCollection_CheckLayout_j1 k a0_0 a0_2 = some out) ?_ ?_
 ·rintro ⟨⟩ hp
  replace hp : gogeom_GeometryCollection_CheckLayout_j1 k a0_0 a0_2 = some out := hp
  unfold gogeom_GeometryCollection_CheckLayout_j1 at hp
  refine cr fun K7 hK7 => ?_
  refine s0 (rd_assign' rfl) ?_
  refine nk hK7 ?_
  refine cx_retc' ?_
  replace hp := Option.some.inj hp
  subst hp
  refine tx_pick' (L' := [(4, Ve)]) (H' := [⟨.pointer (some wa0), [(Vi a0_0), Vn, (Vi a0_2)], 147, none⟩]) [0] (sub_cons rfl sub_nil) (by decide) (pick_cons rfl pick_nil) ?_
  exact tx_ret1' Tryz.results88 rfl () (rv_tmp' rfl) (List.Sublist.refl _)
 intro K2 hK2
 refine cr fun K3 hK3 => ?_
 refine s0 (rd_move' rfl) ?_
 refine s0 (rd_bin' rfl rfl eg_int ru_neq) ?_
 refine nk hK3 ?_
 refine cx_cond' rfl (fun h1 => ?_) (fun h1 => ?_)
 ·replace hp := (br_t h1).symm.trans hp
  refine cr fun K4 hK4 => ?_
  refine s0 (rd_move' rfl) ?_
  refine s0 (rd_nilck' rfl) ?_
  refine s0 (rd_field' (off := 1) rfl Tryz.underlying147 rfl info145 rfl) ?_
  refine s0 (rd_load' (i := 0) (o := 1) rfl ⟨rfl, rfl, rfl, rfl⟩ rfl flat145) ?_
  refine s0 (rd_lenv' rfl Tryz.underlying145) ?_
  refine s0 (rd_move' rfl) ?_
  refine nk hK4 ?_
  refine cx_block' ?_
  refine tx_loop' ?_
  refine tx_round' ?_
  refine cr fun K5 hK5 => ?_
  refine s0 (rd_bin' rfl rfl eg_int ru_lss) ?_
  refine nk hK5 ?_
  refine cx_seq' fun K6 hK6 => ?_
  refine cx_cond_f' rfl rfl ?_
  refine cx_exit' ?_
  show TX E K2 _
  exact tx_pick' [0] sub_nil (by decide) (pick_cons rfl pick_nil) (hK2 () hp)
 replace hp := (br_f h1).symm.trans hp
 refine cx_skip' ?_
 show TX E K2 _
 exact tx_pick' [0] sub_nil (by decide) (pick_cons rfl pick_nil) (hK2 () hp)

def gogeom_GeometryCollection_SetLayout (k : Nat) (a0_0 : Int) (a0_2 : Int) (a1 : Int) : Option (Int × Int) :=
 (gogeom_GeometryCollection_CheckLayout k a0_0 a0_2 a1) >>= fun r8 =>
 some (a1, r8.2)

theorem gogeom_GeometryCollection_SetLayout_sim {k : Nat} {wa0 : Addr} (a0_0 : Int) (a0_2 : Int) (a1 : Int) {out : Int × Int} (hp : gogeom_GeometryCollection_SetLayout k a0_0 a0_2 a1 = some out) : Sx.Fn Tryz.prog 76 [(Vp wa0), (Vi a1)] [⟨.pointer (some wa0), [(Vi a0_0), Vn, (Vi a0_2)], 147, none⟩] (fun w : Unit => Ve) (fun w => [⟨.pointer (some wa0), [(Vi out.1), Vn, (Vi out.2)], 147, none⟩]) := by
 unfold gogeom_GeometryCollection_SetLayout at hp
 refine fn_of Tryz.func76 rfl Tryz.ntmps76 rfl fun E hM => ?_
 refine cr fun K1 hK1 => ?_
 refine s0 (rd_assign' rfl) ?_
 refine nk hK1 ?_
 refine cx_seq' fun K2 hK2 => ?_
 refine cr fun K3 hK3 => ?_
 refine s0 (rd_move' rfl) ?_
 refine s0 (rd_move' rfl) ?_
 obtain ⟨r8, hr8, hp⟩ := bind_some hp
 refine sx_ox' (ox_callg' (ent_fn' Tryz.func88 isn88 rfl rfl) (gogeom_GeometryCollection_CheckLayout_sim _ _ _ hr8 : Sx.Fn Tryz.prog 88 [(Vp wa0), (Vi a1)] [⟨.pointer (some wa0), [(Vi a0_0), Vn, (Vi a0_2)], 147, none⟩] (fun x : Unit => Ve) (fun x => [⟨.pointer (some wa0), [(Vi r8.1), Vn, (Vi r8.2)], 147, none⟩])) [0] [] (by decide) (pick_cons rfl pick_nil) pick_nil (Hn := fun x : Unit => [⟨.pointer (some wa0), [(Vi r8.1), Vn, (Vi r8.2)], 147, none⟩]) (fun _ => rfl) rfl rfl) (wt_none' rfl) fun ⟨⟩ => ?_
 refine s0 (rd_assign' rfl) ?_
 refine nk hK3 ?_
 refine cr fun K4 hK4 => ?_
 refine s0 (rd_move' rfl) ?_
 refine s0 (rd_binf' rfl rfl (bf_vl (fun _ => by kernel_rfl) nil_neq149_nilif)) ?_
 refine nk hK4 ?_
 refine cx_cond_f' rfl rfl ?_
 refine cx_skip' ?_
 show TX E K2 _
 refine tx_k' hK2 ?_
 refine cr fun K5 hK5 => ?_
 refine s0 (rd_move' rfl) ?_
 refine s0 (rd_move' rfl) ?_
 refine s0 (rd_nilck' rfl) ?_
 refine s0 (rd_field0' rfl Tryz.underlying147 rfl info58 rfl) ?_
 refine sx_ox' (ox_store' (i := 0) (o := 0) rfl rfl (lv_vl rfl rfl) ⟨rfl, rfl, rfl, rfl⟩ rfl info58 rfl (H' := [⟨.pointer (some wa0), [(Vi a1), Vn, (Vi r8.2)], 147, none⟩]) rfl) (wt_none' rfl) fun _ => ?_
 refine nk hK5 ?_
 refine cr fun K6 hK6 => ?_
 refine s0 (rd_assign' rfl) ?_
 refine nk hK6 ?_
 refine cx_retc' ?_
 replace hp := Option.some.inj hp
 subst hp
 refine tx_pick' (L' := [(4, Ve)]) (H' := [⟨.pointer (some wa0), [(Vi a1), Vn, (Vi r8.2)], 147, none⟩]) [0] (sub_cons rfl sub_nil) (by decide) (pick_cons rfl pick_nil) ?_
 exact tx_ret1' Tryz.results76 rfl () (rv_tmp' rfl) (List.Sublist.refl _)

def gogeom_GeometryCollection_MustSetLayout (k : Nat) (a0_0 : Int) (a0_2 : Int) (a1 : Int) : Option (Int × Int) :=
 (gogeom_GeometryCollection_SetLayout k a0_0 a0_2 a1) >>= fun r8 =>
 some (r8.1, r8.2)

theorem gogeom_GeometryCollection_MustSetLayout_sim {k : Nat} {wa0 : Addr} (a0_0 : Int) (a0_2 : Int) (a1 : Int) {out : Int × Int} (hp : gogeom_GeometryCollection_MustSetLayout k a0_0 a0_2 a1 = some out) : Sx.Fn Tryz.prog 59 [(Vp wa0), (Vi a1)] [⟨.pointer (some wa0), [(Vi a0_0), Vn, (Vi a0_2)], 147, none⟩] (fun w : Unit => (Vp wa0)) (fun w => [⟨.pointer (some wa0), [(Vi out.1), Vn, (Vi out.2)], 147, none⟩]) := by
 unfold gogeom_GeometryCollection_MustSetLayout at hp
 refine fn_of Tryz.func59 rfl Tryz.ntmps59 rfl fun E hM => ?_
 refine cr fun K1 hK1 => ?_
 refine s0 (rd_assign' rfl) ?_
 refine nk hK1 ?_
 refine cx_seq' fun K2 hK2 => ?_
 refine cr fun K3 hK3 => ?_
 refine s0 (rd_move' rfl) ?_
 refine s0 (rd_move' rfl) ?_
 obtain ⟨r8, hr8, hp⟩ := bind_some hp
 refine sx_ox' (ox_callg' (ent_fn' Tryz.func76 isn76 rfl rfl) (gogeom_GeometryCollection_SetLayout_sim _ _ _ hr8 : Sx.Fn Tryz.prog 76 [(Vp wa0), (Vi a1)] [⟨.pointer (some wa0), [(Vi a0_0), Vn, (Vi a0_2)], 147, none⟩] (fun x : Unit => Ve) (fun x => [⟨.pointer (some wa0), [(Vi r8.1), Vn, (Vi r8.2)], 147, none⟩])) [0] [] (by decide) (pick_cons rfl pick_nil) pick_nil (Hn := fun x : Unit => [⟨.pointer (some wa0), [(Vi r8.1), Vn, (Vi r8.2)], 147, none⟩]) (fun _ => rfl) rfl rfl) (wt_none' rfl) fun ⟨⟩ => ?_
 refine s0 (rd_assign' rfl) ?_
 refine nk hK3 ?_
 refine cr fun K4 hK4 => ?_
 refine s0 (rd_move' rfl) ?_
 refine s0 (rd_binf' rfl rfl (bf_vl (fun _ => by kernel_rfl) nil_neq149_nilif)) ?_
 refine nk hK4 ?_
 refine cx_cond_f' rfl rfl ?_
 refine cx_skip' ?_
 show TX E K2 _
 refine tx_k' hK2 ?_
 refine cr fun K5 hK5 => ?_
 refine s0 (rd_move' rfl) ?_
 refine s0 (rd_assign' rfl) ?_
 refine nk hK5 ?_
 refine cx_retc' ?_
 replace hp := Option.some.inj hp
 subst hp
 refine tx_pick' (L' := [(4, (Vp wa0))]) (H' := [⟨.pointer (some wa0), [(Vi r8.1), Vn, (Vi r8.2)], 147, none⟩]) [0] (sub_cons rfl sub_nil) (by decide) (pick_cons rfl pick_nil) ?_
 exact tx_ret1' Tryz.results59 rfl () (rv_tmp' rfl) (List.Sublist.refl _)

end Go.Proofs.YtajpajggckappaaGreat
