/-
  Plain functions for the Go functions that this law reaches, and that each call does what its plain function says. Printed by a program of ours.
-/
import Derived.Test.YtnemkhcjmenfnaaProg
import Derived.Test.YtnemkhcjmenfnaaSxZ
import Derived.Test.YtnemkhcjmenfnaaFun1
namespace Go.Proofs.Ytnemkhcjmenfnaa
open Go.Sx
set_option linter.unusedVariables false
set_option maxRecDepth 100000

def spec_Locate_j2 (k : Nat) (rec1 : (Bool × Int) → Option (Unit ⊕ Bool)) (x4 : Int) (x2 : Bool) : Option (Unit ⊕ Bool) :=
  rec1 (x2, (iadd .i64 x4 1))
def spec_Locate_l1s (a0 : List (Bool × (List Int) × Int × Bool × (List Int) × Int)) (a1_0 : Bool) (a1_1 : List Int) (a1_2 : Int) (a1_3 : Bool) (a1_4 : List Int) (a1_5 : Int) (k : Nat) (rec1 : (Bool × Int) → Option (Unit ⊕ Bool)) (x3 : Bool) (x4 : Int) : Option (Unit ⊕ Bool) :=
  br (decide (x4 < (a0.length : Int)))
    ((idx a0 (isub .i64 x4 1)) >>= fun r20 =>
    (idx a0 x4) >>= fun r24 =>
    (spec_OnSegment k a1_0 a1_1 a1_2 a1_3 a1_4 a1_5 r20.1 r20.2.1 r20.2.2.1 r20.2.2.2.1 r20.2.2.2.2.1 r20.2.2.2.2.2 r24.1 r24.2.1 r24.2.2.1 r24.2.2.2.1 r24.2.2.2.2.1 r24.2.2.2.2.2) >>= fun r29 =>
    br r29
      (some (.inl ()))
      ((spec_Dyadic_Cmp k r20.2.2.2.1 r20.2.2.2.2.1 r20.2.2.2.2.2 a1_3 a1_4 a1_5) >>= fun r34 =>
      (spec_Dyadic_Cmp k r24.2.2.2.1 r24.2.2.2.2.1 r24.2.2.2.2.2 a1_3 a1_4 a1_5) >>= fun r40 =>
      br ((decide (0 < r34)) == (decide (0 < r40)))
        (spec_Locate_j2 k rec1 x4 x3)
        ((spec_Orient k r20.1 r20.2.1 r20.2.2.1 r20.2.2.2.1 r20.2.2.2.2.1 r20.2.2.2.2.2 r24.1 r24.2.1 r24.2.2.1 r24.2.2.2.1 r24.2.2.2.2.1 r24.2.2.2.2.2 a1_0 a1_1 a1_2 a1_3 a1_4 a1_5) >>= fun r48 =>
        br ((decide (0 < r48)) == (decide (0 < r40)))
          (spec_Locate_j2 k rec1 x4 (!x3))
          (spec_Locate_j2 k rec1 x4 x3))))
    (some (.inr x3))
def spec_Locate_l1 (a0 : List (Bool × (List Int) × Int × Bool × (List Int) × Int)) (a1_0 : Bool) (a1_1 : List Int) (a1_2 : Int) (a1_3 : Bool) (a1_4 : List Int) (a1_5 : Int) : Nat → (Bool × Int) → Option (Unit ⊕ Bool)
  | 0, _ => none
  | k + 1, v => spec_Locate_l1s a0 a1_0 a1_1 a1_2 a1_3 a1_4 a1_5 k (spec_Locate_l1 a0 a1_0 a1_1 a1_2 a1_3 a1_4 a1_5 k) v.1 v.2
def spec_Locate (k : Nat) (a0 : List (Bool × (List Int) × Int × Bool × (List Int) × Int)) (a1_0 : Bool) (a1_1 : List Int) (a1_2 : Int) (a1_3 : Bool) (a1_4 : List Int) (a1_5 : Int) : Option (Int) :=
  (spec_Locate_l1 a0 a1_0 a1_1 a1_2 a1_3 a1_4 a1_5 k (false, 1)) >>= fun y1 => match y1 with
    | (.inl v34) =>
      (some 1)
    | (.inr v35) =>
      (br v35
        (some 0)
        (some 2))

theorem spec_Locate_sim {k : Nat}  (a0 : List (Bool × (List Int) × Int × Bool × (List Int) × Int)) (a1_0 : Bool) (a1_1 : List Int) (a1_2 : Int) (a1_3 : Bool) (a1_4 : List Int) (a1_5 : Int) {out : Int} (hp : spec_Locate k a0 a1_0 a1_1 a1_2 a1_3 a1_4 a1_5 = some out) : Go.Sx.Fn Try.prog 42 [(Sl KT54 a0), (Ag [(Vl (.bool a1_0)), (Sl (Ki .u32) a1_1), (Vl (.int .i64 a1_2)), (Vl (.bool a1_3)), (Sl (Ki .u32) a1_4), (Vl (.int .i64 a1_5))])] [] (fun w : Unit => (Vl (.int .i64 out))) (fun w => []) := by
  unfold spec_Locate at hp
  refine fn_of Try.func42 rfl Try.ntmps42 rfl fun E hM => ?_
  refine cx_seq' fun K1 hK1 => ?_
  refine cx_region' ?_
  refine sx_ox' (ox_box' rfl (lv_ag _) rfl rfl) (wt_none' rfl) fun q3 => ?_
  refine sx_rd' (rd_assign' rfl) rfl rfl (wt_none' rfl) ?_
  refine sx_nil' ?_
  show TX E K1 _
  refine tx_k' hK1 ?_
  refine cx_seq' fun K2 hK2 => ?_
  refine cx_region' ?_
  refine sx_rd' (rd_assign' rfl) rfl rfl (wt_none' rfl) ?_
  refine sx_nil' ?_
  show TX E K2 _
  refine tx_k' hK2 ?_
  refine cx_seq' fun K3 hK3 => ?_
  refine cx_seq' fun K4 hK4 => ?_
  refine cx_region' ?_
  refine sx_rd' (rd_assign' rfl) rfl rfl (wt_none' rfl) ?_
  refine sx_nil' ?_
  show TX E K4 _
  refine tx_k' hK4 ?_
  refine cx_block' ?_
  obtain ⟨y1, hy1, hp⟩ := bind_some hp
  refine cx_loopg' (F := spec_Locate_l1 a0 a1_0 a1_1 a1_2 a1_3 a1_4 a1_5) (G := fun k R v => spec_Locate_l1s a0 a1_0 a1_1 a1_2 a1_3 a1_4 a1_5 k R v.1 v.2) (x := (false, 1)) (gh := ()) (fun (v17 : Bool × Int) (w17 : Unit) => (⟨55, [], [(0, (Sl KT54 a0)), (3, (Vl (.pointer (some q3)))), (5, (Vl (.bool v17.1))), (6, (Vl (.int .i64 v17.2)))], [⟨.pointer (some q3), [(Vl (.bool a1_0)), (Sl (Ki .u32) a1_1), (Vl (.int .i64 a1_2)), (Vl (.bool a1_3)), (Sl (Ki .u32) a1_4), (Vl (.int .i64 a1_5))], 54, none⟩]⟩ : St)) (fun (y : Unit ⊕ Bool) => match y with | (.inl v34) => Zg E Exit.ret (fun (w34 : Unit) => (⟨55, [], [(4, (Vl (.int .i64 1)))], []⟩ : St)) | (.inr v35) => Zg E (Exit.exit 0) (fun (w35 : Unit) => (⟨55, [], [(5, (Vl (.bool v35)))], []⟩ : St))) (fun _ => rfl) (fun _ _ => rfl) ?_ hy1 (tx_to' rfl [0] (sub_cons rfl (sub_cons rfl (sub_cons rfl (sub_cons rfl sub_nil)))) (by decide) (pick_cons rfl pick_nil)) ?_
  · clear hp hy1
    clear y1
    intro k rec1 KY1 ih1
    rintro ⟨x3, x4⟩ ⟨⟩ y1 hp
    replace hp : spec_Locate_l1s a0 a1_0 a1_1 a1_2 a1_3 a1_4 a1_5 k rec1 x3 x4 = some y1 := hp
    unfold spec_Locate_l1s at hp
    refine cx_seq' fun K16 hK16 => ?_
    refine cx_seq' fun K17 hK17 => ?_
    refine cx_region' ?_
    refine sx_rd' (rd_move' rfl) rfl rfl (wt_none' rfl) ?_
    refine sx_rd' (rd_move' rfl) rfl rfl (wt_none' rfl) ?_
    refine sx_rd' (rd_len' rfl Try.underlying45) rfl rfl (wt_none' rfl) ?_
    refine sx_rd' (rd_bin' rfl rfl eg_int ru_lss) rfl rfl (wt_none' rfl) ?_
    refine sx_nil' ?_
    show TX E K17 _
    refine tx_k' hK17 ?_
    refine cx_cond' rfl (fun h6 => ?_) (fun h6 => ?_)
    · replace hp := (br_t h6).symm.trans hp
      refine cx_skip' ?_
      show TX E K16 _
      refine tx_k' hK16 ?_
      refine cx_join' (fun (v33 : Bool) => (⟨55, [], [(0, (Sl KT54 a0)), (3, (Vl (.pointer (some q3)))), (5, (Vl (.bool v33))), (6, (Vl (.int .i64 x4)))], [⟨.pointer (some q3), [(Vl (.bool a1_0)), (Sl (Ki .u32) a1_1), (Vl (.int .i64 a1_2)), (Vl (.bool a1_3)), (Sl (Ki .u32) a1_4), (Vl (.int .i64 a1_5))], 54, none⟩]⟩ : St)) (fun (v33 : Bool) => spec_Locate_j2 k rec1 x4 v33 = some y1) ?_ ?_
      · rintro x2 hp
        replace hp : spec_Locate_j2 k rec1 x4 x2 = some y1 := hp
        unfold spec_Locate_j2 at hp
        refine cx_region' ?_
        refine sx_rd' (rd_move' rfl) rfl rfl (wt_none' rfl) ?_
        refine sx_rd' (rd_bin' rfl rfl eg_int ru_add) rfl rfl (wt_none' rfl) ?_
        refine sx_rd' (rd_assign' rfl) rfl rfl (wt_none' rfl) ?_
        refine sx_nil' ?_
        show TX E (KY1 _) _
        exact tx_pick' [0] (sub_cons rfl (sub_cons rfl (sub_cons rfl (sub_cons rfl sub_nil)))) (by decide) (pick_cons rfl pick_nil) (ih1 (x2, (iadd .i64 x4 1)) () _ hp)
      · intro K18 hK18
        refine cx_block' ?_
        refine cx_seq' fun K19 hK19 => ?_
        refine cx_plana' [] [(11, 1), (12, 1)] [(0, 1), (1, 1), (2, 1), (3, 1), (4, 1), (5, 2), (6, 2)] 6 #[true, true, true, true, true, true, true, false, false, false, false, false, false] mixed (by kernel_rfl) ?_
        refine px_rd' rfl (rd_move' rfl) rfl rfl (wt_none' rfl) ?_
        refine px_rd' rfl (rd_move' rfl) rfl rfl (wt_none' rfl) ?_
        refine px_rd' rfl (rd_bin' rfl rfl eg_int ru_sub) rfl rfl (wt_none' rfl) ?_
        obtain ⟨r20, hr20, hp⟩ := bind_some hp
        refine px_rd' rfl (rd_at' (K := KT54) rfl rfl hr20 Try.underlying45 info54) rfl rfl (wt_none' rfl) ?_
        refine px_rd' rfl (rd_load_pt_agg' (nn := 6) rfl rfl agg54 (l' := [(Vl (.bool r20.1)), (Sl (Ki .u32) r20.2.1), (Vl (.int .i64 r20.2.2.1)), (Vl (.bool r20.2.2.2.1)), (Sl (Ki .u32) r20.2.2.2.2.1), (Vl (.int .i64 r20.2.2.2.2.2))]) rfl) rfl rfl (wt_none' rfl) ?_
        refine px_rb' rfl (rb_move' rfl) rfl rfl (wt_none' rfl) ?_
        refine px_rb' rfl (rb_move' rfl) rfl rfl (wt_none' rfl) ?_
        refine px_nil' ?_
        show AX E _ _ _ _ _ _ _ _
        obtain ⟨r24, hr24, hp⟩ := bind_some hp
        refine ax_node (f' := 0) #[true, true, true, true, true, true, true, true, true, true, true, true, true] (fun (v32 : Addr × Addr) => (⟨55, [], [(0, (Sl KT54 a0)), (3, (Vl (.pointer (some q3)))), (5, (Vl (.bool x3))), (6, (Vl (.int .i64 x4))), (7, (Vl (.pointer (some v32.1)))), (8, (Vl (.pointer (some v32.2))))], [⟨.pointer (some q3), [(Vl (.bool a1_0)), (Sl (Ki .u32) a1_1), (Vl (.int .i64 a1_2)), (Vl (.bool a1_3)), (Sl (Ki .u32) a1_4), (Vl (.int .i64 a1_5))], 54, none⟩, ⟨.pointer (some v32.1), [(Vl (.bool r20.1)), (Sl (Ki .u32) r20.2.1), (Vl (.int .i64 r20.2.2.1)), (Vl (.bool r20.2.2.2.1)), (Sl (Ki .u32) r20.2.2.2.2.1), (Vl (.int .i64 r20.2.2.2.2.2))], 54, none⟩, ⟨.pointer (some v32.2), [(Vl (.bool r24.1)), (Sl (Ki .u32) r24.2.1), (Vl (.int .i64 r24.2.2.1)), (Vl (.bool r24.2.2.2.1)), (Sl (Ki .u32) r24.2.2.2.2.1), (Vl (.int .i64 r24.2.2.2.2.2))], 54, none⟩]⟩ : St)) ?_ ?_
        · rintro ⟨q9039, q9040⟩
          refine ax_nil (by kernel_rfl) ?_
          show TX E K19 _
          refine tx_k' hK19 ?_
          refine cx_seq' fun K20 hK20 => ?_
          refine cx_seq' fun K21 hK21 => ?_
          refine cx_region' ?_
          refine sx_rd' (rd_load_agg' (i := 0) (o := 0) (nn := 6) rfl ⟨rfl, rfl, rfl, rfl⟩ rfl agg54 (l' := [(Vl (.bool a1_0)), (Sl (Ki .u32) a1_1), (Vl (.int .i64 a1_2)), (Vl (.bool a1_3)), (Sl (Ki .u32) a1_4), (Vl (.int .i64 a1_5))]) rfl) rfl rfl (wt_none' rfl) ?_
          refine sx_rd' (rd_load_agg' (i := 1) (o := 0) (nn := 6) rfl ⟨rfl, rfl, rfl, rfl⟩ rfl agg54 (l' := [(Vl (.bool r20.1)), (Sl (Ki .u32) r20.2.1), (Vl (.int .i64 r20.2.2.1)), (Vl (.bool r20.2.2.2.1)), (Sl (Ki .u32) r20.2.2.2.2.1), (Vl (.int .i64 r20.2.2.2.2.2))]) rfl) rfl rfl (wt_none' rfl) ?_
          refine sx_rd' (rd_load_agg' (i := 2) (o := 0) (nn := 6) rfl ⟨rfl, rfl, rfl, rfl⟩ rfl agg54 (l' := [(Vl (.bool r24.1)), (Sl (Ki .u32) r24.2.1), (Vl (.int .i64 r24.2.2.1)), (Vl (.bool r24.2.2.2.1)), (Sl (Ki .u32) r24.2.2.2.2.1), (Vl (.int .i64 r24.2.2.2.2.2))]) rfl) rfl rfl (wt_none' rfl) ?_
          obtain ⟨r29, hr29, hp⟩ := bind_some hp
          refine sx_ox' (ox_calln' (ent_fn' Try.func88 isn88 rfl rfl) (spec_OnSegment_sim _ _ _ _ _ _ _ _ _ _ _ _ _ _ _ _ _ _ hr29 : Go.Sx.Fn Try.prog 88 [(Ag [(Vl (.bool a1_0)), (Sl (Ki .u32) a1_1), (Vl (.int .i64 a1_2)), (Vl (.bool a1_3)), (Sl (Ki .u32) a1_4), (Vl (.int .i64 a1_5))]), (Ag [(Vl (.bool r20.1)), (Sl (Ki .u32) r20.2.1), (Vl (.int .i64 r20.2.2.1)), (Vl (.bool r20.2.2.2.1)), (Sl (Ki .u32) r20.2.2.2.2.1), (Vl (.int .i64 r20.2.2.2.2.2))]), (Ag [(Vl (.bool r24.1)), (Sl (Ki .u32) r24.2.1), (Vl (.int .i64 r24.2.2.1)), (Vl (.bool r24.2.2.2.1)), (Sl (Ki .u32) r24.2.2.2.2.1), (Vl (.int .i64 r24.2.2.2.2.2))])] [] (fun x : Unit => (Vl (.bool r29))) (fun x => [])) (Hn := fun x : Unit => [⟨.pointer (some q3), [(Vl (.bool a1_0)), (Sl (Ki .u32) a1_1), (Vl (.int .i64 a1_2)), (Vl (.bool a1_3)), (Sl (Ki .u32) a1_4), (Vl (.int .i64 a1_5))], 54, none⟩, ⟨.pointer (some q9039), [(Vl (.bool r20.1)), (Sl (Ki .u32) r20.2.1), (Vl (.int .i64 r20.2.2.1)), (Vl (.bool r20.2.2.2.1)), (Sl (Ki .u32) r20.2.2.2.2.1), (Vl (.int .i64 r20.2.2.2.2.2))], 54, none⟩, ⟨.pointer (some q9040), [(Vl (.bool r24.1)), (Sl (Ki .u32) r24.2.1), (Vl (.int .i64 r24.2.2.1)), (Vl (.bool r24.2.2.2.1)), (Sl (Ki .u32) r24.2.2.2.2.1), (Vl (.int .i64 r24.2.2.2.2.2))], 54, none⟩]) (fun _ => rfl) rfl rfl) (wt_none' rfl) fun ⟨⟩ => ?_
          refine sx_nil' ?_
          show TX E K21 _
          refine tx_k' hK21 ?_
          refine cx_cond' rfl (fun h7 => ?_) (fun h7 => ?_)
          · replace hp := (br_t h7).symm.trans hp
            refine cx_seq' fun K22 hK22 => ?_
            refine cx_region' ?_
            refine sx_rd' (rd_assign' rfl) rfl rfl (wt_none' rfl) ?_
            refine sx_nil' ?_
            show TX E K22 _
            refine tx_k' hK22 ?_
            refine cx_retc' ?_
            replace hp := Option.some.inj hp
            subst hp
            show TX E (Zg E Exit.ret _ Exit.ret) _
            exact tx_zend' () rfl [] (sub_cons rfl sub_nil) (by decide) pick_nil
          · replace hp := (br_f h7).symm.trans hp
            refine cx_skip' ?_
            show TX E K20 _
            refine tx_k' hK20 ?_
            refine cx_seq' fun K23 hK23 => ?_
            refine cx_plan' [] [] [(0, 1), (1, 1), (2, 1), (3, 1), (6, 1), (7, 1), (8, 1), (9, 1), (4, 0), (5, 1), (10, 0), (11, 1), (12, 1), (13, 1)] mixed (by kernel_rfl) ?_
            refine px_rd' rfl (rd_field' (off := 3) rfl Try.underlying54 rfl info40 rfl) rfl rfl (wt_none' rfl) ?_
            refine px_rd' rfl (rd_load_agg' (i := 1) (o := 3) (nn := 3) rfl ⟨rfl, rfl, rfl, rfl⟩ rfl agg40 (l' := [(Vl (.bool r20.2.2.2.1)), (Sl (Ki .u32) r20.2.2.2.2.1), (Vl (.int .i64 r20.2.2.2.2.2))]) rfl) rfl rfl (wt_none' rfl) ?_
            refine px_rd' rfl (rd_field' (off := 3) rfl Try.underlying54 rfl info40 rfl) rfl rfl (wt_none' rfl) ?_
            refine px_rd' rfl (rd_load_agg' (i := 0) (o := 3) (nn := 3) rfl ⟨rfl, rfl, rfl, rfl⟩ rfl agg40 (l' := [(Vl (.bool a1_3)), (Sl (Ki .u32) a1_4), (Vl (.int .i64 a1_5))]) rfl) rfl rfl (wt_none' rfl) ?_
            refine px_rd' rfl (rd_field' (off := 3) rfl Try.underlying54 rfl info40 rfl) rfl rfl (wt_none' rfl) ?_
            refine px_rd' rfl (rd_load_agg' (i := 2) (o := 3) (nn := 3) rfl ⟨rfl, rfl, rfl, rfl⟩ rfl agg40 (l' := [(Vl (.bool r24.2.2.2.1)), (Sl (Ki .u32) r24.2.2.2.2.1), (Vl (.int .i64 r24.2.2.2.2.2))]) rfl) rfl rfl (wt_none' rfl) ?_
            refine px_rd' rfl (rd_field' (off := 3) rfl Try.underlying54 rfl info40 rfl) rfl rfl (wt_none' rfl) ?_
            refine px_rd' rfl (rd_load_agg' (i := 0) (o := 3) (nn := 3) rfl ⟨rfl, rfl, rfl, rfl⟩ rfl agg40 (l' := [(Vl (.bool a1_3)), (Sl (Ki .u32) a1_4), (Vl (.int .i64 a1_5))]) rfl) rfl rfl (wt_none' rfl) ?_
            obtain ⟨r34, hr34, hp⟩ := bind_some hp
            refine px_ox' rfl (ox_calln' (ent_fn' Try.func89 isn89 rfl rfl) (spec_Dyadic_Cmp_sim _ _ _ _ _ _ hr34 : Go.Sx.Fn Try.prog 89 [(Ag [(Vl (.bool r20.2.2.2.1)), (Sl (Ki .u32) r20.2.2.2.2.1), (Vl (.int .i64 r20.2.2.2.2.2))]), (Ag [(Vl (.bool a1_3)), (Sl (Ki .u32) a1_4), (Vl (.int .i64 a1_5))])] [] (fun x : Unit => (Vl (.int .i64 r34))) (fun x => [])) (Hn := fun x : Unit => [⟨.pointer (some q3), [(Vl (.bool a1_0)), (Sl (Ki .u32) a1_1), (Vl (.int .i64 a1_2)), (Vl (.bool a1_3)), (Sl (Ki .u32) a1_4), (Vl (.int .i64 a1_5))], 54, none⟩, ⟨.pointer (some q9039), [(Vl (.bool r20.1)), (Sl (Ki .u32) r20.2.1), (Vl (.int .i64 r20.2.2.1)), (Vl (.bool r20.2.2.2.1)), (Sl (Ki .u32) r20.2.2.2.2.1), (Vl (.int .i64 r20.2.2.2.2.2))], 54, none⟩, ⟨.pointer (some q9040), [(Vl (.bool r24.1)), (Sl (Ki .u32) r24.2.1), (Vl (.int .i64 r24.2.2.1)), (Vl (.bool r24.2.2.2.1)), (Sl (Ki .u32) r24.2.2.2.2.1), (Vl (.int .i64 r24.2.2.2.2.2))], 54, none⟩]) (fun _ => rfl) rfl rfl) rfl bs_nil (wt_none' rfl) fun ⟨⟩ => ?_
            refine px_rd' rfl (rd_bin' rfl rfl eg_int ru_gtr) rfl rfl (wt_none' rfl) ?_
            obtain ⟨r40, hr40, hp⟩ := bind_some hp
            refine px_ox' rfl (ox_calln' (ent_fn' Try.func89 isn89 rfl rfl) (spec_Dyadic_Cmp_sim _ _ _ _ _ _ hr40 : Go.Sx.Fn Try.prog 89 [(Ag [(Vl (.bool r24.2.2.2.1)), (Sl (Ki .u32) r24.2.2.2.2.1), (Vl (.int .i64 r24.2.2.2.2.2))]), (Ag [(Vl (.bool a1_3)), (Sl (Ki .u32) a1_4), (Vl (.int .i64 a1_5))])] [] (fun x : Unit => (Vl (.int .i64 r40))) (fun x => [])) (Hn := fun x : Unit => [⟨.pointer (some q3), [(Vl (.bool a1_0)), (Sl (Ki .u32) a1_1), (Vl (.int .i64 a1_2)), (Vl (.bool a1_3)), (Sl (Ki .u32) a1_4), (Vl (.int .i64 a1_5))], 54, none⟩, ⟨.pointer (some q9039), [(Vl (.bool r20.1)), (Sl (Ki .u32) r20.2.1), (Vl (.int .i64 r20.2.2.1)), (Vl (.bool r20.2.2.2.1)), (Sl (Ki .u32) r20.2.2.2.2.1), (Vl (.int .i64 r20.2.2.2.2.2))], 54, none⟩, ⟨.pointer (some q9040), [(Vl (.bool r24.1)), (Sl (Ki .u32) r24.2.1), (Vl (.int .i64 r24.2.2.1)), (Vl (.bool r24.2.2.2.1)), (Sl (Ki .u32) r24.2.2.2.2.1), (Vl (.int .i64 r24.2.2.2.2.2))], 54, none⟩]) (fun _ => rfl) rfl rfl) rfl bs_nil (wt_none' rfl) fun ⟨⟩ => ?_
            refine px_rd' rfl (rd_bin' rfl rfl eg_int ru_gtr) rfl rfl (wt_none' rfl) ?_
            refine px_rd' rfl (rd_assign' rfl) rfl rfl (wt_none' rfl) ?_
            refine px_rd' rfl (rd_assign' rfl) rfl rfl (wt_none' rfl) ?_
            refine px_nil' ?_
            show TX E K23 _
            refine tx_k' hK23 ?_
            refine cx_seq' fun K24 hK24 => ?_
            refine cx_seq' fun K25 hK25 => ?_
            refine cx_region' ?_
            refine sx_rd' (rd_move' rfl) rfl rfl (wt_none' rfl) ?_
            refine sx_rd' (rd_move' rfl) rfl rfl (wt_none' rfl) ?_
            refine sx_rd' (rd_bin' rfl rfl eg_bool (ru_beq Try.underlying4)) rfl rfl (wt_none' rfl) ?_
            refine sx_nil' ?_
            show TX E K25 _
            refine tx_k' hK25 ?_
            refine cx_cond' rfl (fun h8 => ?_) (fun h8 => ?_)
            · replace hp := (br_t h8).symm.trans hp
              refine cx_exit' ?_
              show TX E K18 _
              exact tx_pick' [0] (sub_cons rfl (sub_cons rfl (sub_cons rfl (sub_cons rfl sub_nil)))) (by decide) (pick_cons rfl pick_nil) (hK18 x3 hp)
            · replace hp := (br_f h8).symm.trans hp
              refine cx_skip' ?_
              show TX E K24 _
              refine tx_k' hK24 ?_
              refine cx_seq' fun K26 hK26 => ?_
              refine cx_region' ?_
              refine sx_rd' (rd_load_agg' (i := 1) (o := 0) (nn := 6) rfl ⟨rfl, rfl, rfl, rfl⟩ rfl agg54 (l' := [(Vl (.bool r20.1)), (Sl (Ki .u32) r20.2.1), (Vl (.int .i64 r20.2.2.1)), (Vl (.bool r20.2.2.2.1)), (Sl (Ki .u32) r20.2.2.2.2.1), (Vl (.int .i64 r20.2.2.2.2.2))]) rfl) rfl rfl (wt_none' rfl) ?_
              refine sx_rd' (rd_load_agg' (i := 2) (o := 0) (nn := 6) rfl ⟨rfl, rfl, rfl, rfl⟩ rfl agg54 (l' := [(Vl (.bool r24.1)), (Sl (Ki .u32) r24.2.1), (Vl (.int .i64 r24.2.2.1)), (Vl (.bool r24.2.2.2.1)), (Sl (Ki .u32) r24.2.2.2.2.1), (Vl (.int .i64 r24.2.2.2.2.2))]) rfl) rfl rfl (wt_none' rfl) ?_
              refine sx_rd' (rd_load_agg' (i := 0) (o := 0) (nn := 6) rfl ⟨rfl, rfl, rfl, rfl⟩ rfl agg54 (l' := [(Vl (.bool a1_0)), (Sl (Ki .u32) a1_1), (Vl (.int .i64 a1_2)), (Vl (.bool a1_3)), (Sl (Ki .u32) a1_4), (Vl (.int .i64 a1_5))]) rfl) rfl rfl (wt_none' rfl) ?_
              obtain ⟨r48, hr48, hp⟩ := bind_some hp
              refine sx_ox' (ox_calln' (ent_fn' Try.func57 isn57 rfl rfl) (spec_Orient_sim _ _ _ _ _ _ _ _ _ _ _ _ _ _ _ _ _ _ hr48 : Go.Sx.Fn Try.prog 57 [(Ag [(Vl (.bool r20.1)), (Sl (Ki .u32) r20.2.1), (Vl (.int .i64 r20.2.2.1)), (Vl (.bool r20.2.2.2.1)), (Sl (Ki .u32) r20.2.2.2.2.1), (Vl (.int .i64 r20.2.2.2.2.2))]), (Ag [(Vl (.bool r24.1)), (Sl (Ki .u32) r24.2.1), (Vl (.int .i64 r24.2.2.1)), (Vl (.bool r24.2.2.2.1)), (Sl (Ki .u32) r24.2.2.2.2.1), (Vl (.int .i64 r24.2.2.2.2.2))]), (Ag [(Vl (.bool a1_0)), (Sl (Ki .u32) a1_1), (Vl (.int .i64 a1_2)), (Vl (.bool a1_3)), (Sl (Ki .u32) a1_4), (Vl (.int .i64 a1_5))])] [] (fun x : Unit => (Vl (.int .i64 r48))) (fun x => [])) (Hn := fun x : Unit => [⟨.pointer (some q3), [(Vl (.bool a1_0)), (Sl (Ki .u32) a1_1), (Vl (.int .i64 a1_2)), (Vl (.bool a1_3)), (Sl (Ki .u32) a1_4), (Vl (.int .i64 a1_5))], 54, none⟩, ⟨.pointer (some q9039), [(Vl (.bool r20.1)), (Sl (Ki .u32) r20.2.1), (Vl (.int .i64 r20.2.2.1)), (Vl (.bool r20.2.2.2.1)), (Sl (Ki .u32) r20.2.2.2.2.1), (Vl (.int .i64 r20.2.2.2.2.2))], 54, none⟩, ⟨.pointer (some q9040), [(Vl (.bool r24.1)), (Sl (Ki .u32) r24.2.1), (Vl (.int .i64 r24.2.2.1)), (Vl (.bool r24.2.2.2.1)), (Sl (Ki .u32) r24.2.2.2.2.1), (Vl (.int .i64 r24.2.2.2.2.2))], 54, none⟩]) (fun _ => rfl) rfl rfl) (wt_none' rfl) fun ⟨⟩ => ?_
              refine sx_rd' (rd_bin' rfl rfl eg_int ru_gtr) rfl rfl (wt_none' rfl) ?_
              refine sx_rd' (rd_move' rfl) rfl rfl (wt_none' rfl) ?_
              refine sx_rd' (rd_bin' rfl rfl eg_bool (ru_beq Try.underlying4)) rfl rfl (wt_none' rfl) ?_
              refine sx_nil' ?_
              show TX E K26 _
              refine tx_k' hK26 ?_
              refine cx_cond' rfl (fun h9 => ?_) (fun h9 => ?_)
              · replace hp := (br_t h9).symm.trans hp
                refine cx_region' ?_
                refine sx_rd' (rd_move' rfl) rfl rfl (wt_none' rfl) ?_
                refine sx_rd' (rd_un' rfl ru_not) rfl rfl (wt_none' rfl) ?_
                refine sx_rd' (rd_assign' rfl) rfl rfl (wt_none' rfl) ?_
                refine sx_nil' ?_
                show TX E K18 _
                exact tx_pick' [0] (sub_cons rfl (sub_cons rfl (sub_cons rfl (sub_cons rfl sub_nil)))) (by decide) (pick_cons rfl pick_nil) (hK18 (!x3) hp)
              · replace hp := (br_f h9).symm.trans hp
                refine cx_skip' ?_
                show TX E K18 _
                exact tx_pick' [0] (sub_cons rfl (sub_cons rfl (sub_cons rfl (sub_cons rfl sub_nil)))) (by decide) (pick_cons rfl pick_nil) (hK18 x3 hp)
        intro hN32
        refine ax_node (f' := 1) #[true, true, true, true, true, true, true, true, true, true, true, true, false] (fun (v31 : Addr × Addr) => (⟨55, [], [(0, (Sl KT54 a0)), (3, (Vl (.pointer (some q3)))), (5, (Vl (.bool x3))), (6, (Vl (.int .i64 x4))), (7, (Vl (.pointer (some v31.1)))), (8, (Vl (.pointer (some v31.2)))), (25, (Ag [(Vl (.bool r24.1)), (Sl (Ki .u32) r24.2.1), (Vl (.int .i64 r24.2.2.1)), (Vl (.bool r24.2.2.2.1)), (Sl (Ki .u32) r24.2.2.2.2.1), (Vl (.int .i64 r24.2.2.2.2.2))]))], [⟨.pointer (some q3), [(Vl (.bool a1_0)), (Sl (Ki .u32) a1_1), (Vl (.int .i64 a1_2)), (Vl (.bool a1_3)), (Sl (Ki .u32) a1_4), (Vl (.int .i64 a1_5))], 54, none⟩, ⟨.pointer (some v31.1), [(Vl (.bool r20.1)), (Sl (Ki .u32) r20.2.1), (Vl (.int .i64 r20.2.2.1)), (Vl (.bool r20.2.2.2.1)), (Sl (Ki .u32) r20.2.2.2.2.1), (Vl (.int .i64 r20.2.2.2.2.2))], 54, none⟩, ⟨.pointer (some v31.2), [(Vl (.bool false)), (Vl (.slice none 0 0)), (Vl (.int .i64 0)), (Vl (.bool false)), (Vl (.slice none 0 0)), (Vl (.int .i64 0))], 54, none⟩]⟩ : St)) ?_ ?_
        · rintro ⟨q9037, q9038⟩
          refine ax_all (i := 12) (is := []) (by kernel_rfl) (all_cons ?_ all_nil)
          · refine nx_oxv (last := #[true, true, true, true, true, true, true, true, true, true, true, true, true]) rfl (oxv_store (i := 2) (o := 0) rfl rfl (lv_ag _) ⟨rfl, rfl, rfl, rfl⟩ rfl info54 rfl (H' := [⟨.pointer (some q3), [(Vl (.bool a1_0)), (Sl (Ki .u32) a1_1), (Vl (.int .i64 a1_2)), (Vl (.bool a1_3)), (Sl (Ki .u32) a1_4), (Vl (.int .i64 a1_5))], 54, none⟩, ⟨.pointer (some q9037), [(Vl (.bool r20.1)), (Sl (Ki .u32) r20.2.1), (Vl (.int .i64 r20.2.2.1)), (Vl (.bool r20.2.2.2.1)), (Sl (Ki .u32) r20.2.2.2.2.1), (Vl (.int .i64 r20.2.2.2.2.2))], 54, none⟩, ⟨.pointer (some q9038), [(Vl (.bool r24.1)), (Sl (Ki .u32) r24.2.1), (Vl (.int .i64 r24.2.2.1)), (Vl (.bool r24.2.2.2.1)), (Sl (Ki .u32) r24.2.2.2.2.1), (Vl (.int .i64 r24.2.2.2.2.2))], 54, none⟩]) rfl) rfl rfl bo_nil (wt_none' rfl) rfl fun _ => ?_
            exact tx_pick' [0, 1, 2] (sub_cons rfl (sub_cons rfl (sub_cons rfl (sub_cons rfl (sub_cons rfl (sub_cons rfl sub_nil)))))) (by decide) (pick_cons rfl (pick_cons rfl (pick_cons rfl pick_nil))) (hN32 (q9037, q9038))
        intro hN31
        refine ax_node (f' := 2) #[true, true, true, true, true, true, true, true, true, true, true, false, false] (fun (v29 : Addr × Addr) => (⟨55, [], [(0, (Sl KT54 a0)), (3, (Vl (.pointer (some q3)))), (5, (Vl (.bool x3))), (6, (Vl (.int .i64 x4))), (7, (Vl (.pointer (some v29.1)))), (8, (Vl (.pointer (some v29.2)))), (21, (Ag [(Vl (.bool r20.1)), (Sl (Ki .u32) r20.2.1), (Vl (.int .i64 r20.2.2.1)), (Vl (.bool r20.2.2.2.1)), (Sl (Ki .u32) r20.2.2.2.2.1), (Vl (.int .i64 r20.2.2.2.2.2))])), (25, (Ag [(Vl (.bool r24.1)), (Sl (Ki .u32) r24.2.1), (Vl (.int .i64 r24.2.2.1)), (Vl (.bool r24.2.2.2.1)), (Sl (Ki .u32) r24.2.2.2.2.1), (Vl (.int .i64 r24.2.2.2.2.2))]))], [⟨.pointer (some q3), [(Vl (.bool a1_0)), (Sl (Ki .u32) a1_1), (Vl (.int .i64 a1_2)), (Vl (.bool a1_3)), (Sl (Ki .u32) a1_4), (Vl (.int .i64 a1_5))], 54, none⟩, ⟨.pointer (some v29.1), [(Vl (.bool false)), (Vl (.slice none 0 0)), (Vl (.int .i64 0)), (Vl (.bool false)), (Vl (.slice none 0 0)), (Vl (.int .i64 0))], 54, none⟩, ⟨.pointer (some v29.2), [(Vl (.bool false)), (Vl (.slice none 0 0)), (Vl (.int .i64 0)), (Vl (.bool false)), (Vl (.slice none 0 0)), (Vl (.int .i64 0))], 54, none⟩]⟩ : St)) ?_ ?_
        · rintro ⟨q9033, q9034⟩
          refine ax_all (i := 11) (is := []) (by kernel_rfl) (all_cons ?_ all_nil)
          · refine nx_oxv (last := #[true, true, true, true, true, true, true, true, true, true, true, true, false]) rfl (oxv_store (i := 1) (o := 0) rfl rfl (lv_ag _) ⟨rfl, rfl, rfl, rfl⟩ rfl info54 rfl (H' := [⟨.pointer (some q3), [(Vl (.bool a1_0)), (Sl (Ki .u32) a1_1), (Vl (.int .i64 a1_2)), (Vl (.bool a1_3)), (Sl (Ki .u32) a1_4), (Vl (.int .i64 a1_5))], 54, none⟩, ⟨.pointer (some q9033), [(Vl (.bool r20.1)), (Sl (Ki .u32) r20.2.1), (Vl (.int .i64 r20.2.2.1)), (Vl (.bool r20.2.2.2.1)), (Sl (Ki .u32) r20.2.2.2.2.1), (Vl (.int .i64 r20.2.2.2.2.2))], 54, none⟩, ⟨.pointer (some q9034), [(Vl (.bool false)), (Vl (.slice none 0 0)), (Vl (.int .i64 0)), (Vl (.bool false)), (Vl (.slice none 0 0)), (Vl (.int .i64 0))], 54, none⟩]) rfl) rfl rfl bo_nil (wt_none' rfl) rfl fun _ => ?_
            exact tx_pick' [0, 1, 2] (sub_cons rfl (sub_cons rfl (sub_cons rfl (sub_cons rfl (sub_cons rfl (sub_cons rfl (sub_cons rfl sub_nil))))))) (by decide) (pick_cons rfl (pick_cons rfl (pick_cons rfl pick_nil))) (hN31 (q9033, q9034))
        intro hN29
        refine ax_node (f' := 2) #[true, true, true, true, true, true, true, true, false, true, true, true, false] (fun (v30 : Addr × Addr) => (⟨55, [], [(0, (Sl KT54 a0)), (3, (Vl (.pointer (some q3)))), (5, (Vl (.bool x3))), (6, (Vl (.int .i64 x4))), (7, (Vl (.pointer (some v30.1)))), (8, (Vl (.pointer (some v30.2)))), (24, (Pt [(Vl (.bool r24.1)), (Sl (Ki .u32) r24.2.1), (Vl (.int .i64 r24.2.2.1)), (Vl (.bool r24.2.2.2.1)), (Sl (Ki .u32) r24.2.2.2.2.1), (Vl (.int .i64 r24.2.2.2.2.2))]))], [⟨.pointer (some q3), [(Vl (.bool a1_0)), (Sl (Ki .u32) a1_1), (Vl (.int .i64 a1_2)), (Vl (.bool a1_3)), (Sl (Ki .u32) a1_4), (Vl (.int .i64 a1_5))], 54, none⟩, ⟨.pointer (some v30.1), [(Vl (.bool r20.1)), (Sl (Ki .u32) r20.2.1), (Vl (.int .i64 r20.2.2.1)), (Vl (.bool r20.2.2.2.1)), (Sl (Ki .u32) r20.2.2.2.2.1), (Vl (.int .i64 r20.2.2.2.2.2))], 54, none⟩, ⟨.pointer (some v30.2), [(Vl (.bool false)), (Vl (.slice none 0 0)), (Vl (.int .i64 0)), (Vl (.bool false)), (Vl (.slice none 0 0)), (Vl (.int .i64 0))], 54, none⟩]⟩ : St)) ?_ ?_
        · rintro ⟨q9035, q9036⟩
          refine ax_rd (ix := 8) (last := #[true, true, true, true, true, true, true, true, true, true, true, true, false]) (by kernel_rfl) rfl (rd_load_pt_agg' (nn := 6) rfl rfl agg54 (l' := [(Vl (.bool r24.1)), (Sl (Ki .u32) r24.2.1), (Vl (.int .i64 r24.2.2.1)), (Vl (.bool r24.2.2.2.1)), (Sl (Ki .u32) r24.2.2.2.2.1), (Vl (.int .i64 r24.2.2.2.2.2))]) rfl) rfl rfl (wt_none' rfl) rfl ?_
          exact tx_pick' [0, 1, 2] (sub_cons rfl (sub_cons rfl (sub_cons rfl (sub_cons rfl (sub_cons rfl (sub_cons rfl (sub_cons rfl sub_nil))))))) (by decide) (pick_cons rfl (pick_cons rfl (pick_cons rfl pick_nil))) (hN31 (q9035, q9036))
        intro hN30
        refine ax_node (f' := 3) #[true, true, true, true, true, true, true, true, true, true, false, false, false] (fun (v25 : Addr) => (⟨55, [], [(0, (Sl KT54 a0)), (3, (Vl (.pointer (some q3)))), (5, (Vl (.bool x3))), (6, (Vl (.int .i64 x4))), (7, (Vl (.pointer (some v25)))), (21, (Ag [(Vl (.bool r20.1)), (Sl (Ki .u32) r20.2.1), (Vl (.int .i64 r20.2.2.1)), (Vl (.bool r20.2.2.2.1)), (Sl (Ki .u32) r20.2.2.2.2.1), (Vl (.int .i64 r20.2.2.2.2.2))])), (25, (Ag [(Vl (.bool r24.1)), (Sl (Ki .u32) r24.2.1), (Vl (.int .i64 r24.2.2.1)), (Vl (.bool r24.2.2.2.1)), (Sl (Ki .u32) r24.2.2.2.2.1), (Vl (.int .i64 r24.2.2.2.2.2))]))], [⟨.pointer (some q3), [(Vl (.bool a1_0)), (Sl (Ki .u32) a1_1), (Vl (.int .i64 a1_2)), (Vl (.bool a1_3)), (Sl (Ki .u32) a1_4), (Vl (.int .i64 a1_5))], 54, none⟩, ⟨.pointer (some v25), [(Vl (.bool false)), (Vl (.slice none 0 0)), (Vl (.int .i64 0)), (Vl (.bool false)), (Vl (.slice none 0 0)), (Vl (.int .i64 0))], 54, none⟩]⟩ : St)) ?_ ?_
        · rintro q9027
          refine ax_all (i := 10) (is := []) (by kernel_rfl) (all_cons ?_ all_nil)
          · refine nx_ox (last := #[true, true, true, true, true, true, true, true, true, true, true, false, false]) rfl (ox_alloc' info54 rfl rfl rfl rfl (l := [(Vl (.bool false)), (Vl (.slice none 0 0)), (Vl (.int .i64 0)), (Vl (.bool false)), (Vl (.slice none 0 0)), (Vl (.int .i64 0))]) rfl) rfl bs_nil (wt_none' rfl) rfl fun q8 => ?_
            exact tx_pick' [1, 2, 0] (sub_cons rfl (sub_cons rfl (sub_cons rfl (sub_cons rfl (sub_cons rfl (sub_cons rfl (sub_cons rfl (sub_cons rfl sub_nil)))))))) (by decide) (pick_cons rfl (pick_cons rfl (pick_cons rfl pick_nil))) (hN29 (q9027, q8))
        intro hN25
        refine ax_node (f' := 3) #[true, true, true, true, true, true, true, true, true, false, true, false, false] (fun (v26 : Addr) => (⟨55, [], [(0, (Sl KT54 a0)), (3, (Vl (.pointer (some q3)))), (5, (Vl (.bool x3))), (6, (Vl (.int .i64 x4))), (8, (Vl (.pointer (some v26)))), (21, (Ag [(Vl (.bool r20.1)), (Sl (Ki .u32) r20.2.1), (Vl (.int .i64 r20.2.2.1)), (Vl (.bool r20.2.2.2.1)), (Sl (Ki .u32) r20.2.2.2.2.1), (Vl (.int .i64 r20.2.2.2.2.2))])), (25, (Ag [(Vl (.bool r24.1)), (Sl (Ki .u32) r24.2.1), (Vl (.int .i64 r24.2.2.1)), (Vl (.bool r24.2.2.2.1)), (Sl (Ki .u32) r24.2.2.2.2.1), (Vl (.int .i64 r24.2.2.2.2.2))]))], [⟨.pointer (some q3), [(Vl (.bool a1_0)), (Sl (Ki .u32) a1_1), (Vl (.int .i64 a1_2)), (Vl (.bool a1_3)), (Sl (Ki .u32) a1_4), (Vl (.int .i64 a1_5))], 54, none⟩, ⟨.pointer (some v26), [(Vl (.bool false)), (Vl (.slice none 0 0)), (Vl (.int .i64 0)), (Vl (.bool false)), (Vl (.slice none 0 0)), (Vl (.int .i64 0))], 54, none⟩]⟩ : St)) ?_ ?_
        · rintro q9028
          refine ax_all (i := 9) (is := []) (by kernel_rfl) (all_cons ?_ all_nil)
          · refine nx_ox (last := #[true, true, true, true, true, true, true, true, true, true, true, false, false]) rfl (ox_alloc' info54 rfl rfl rfl rfl (l := [(Vl (.bool false)), (Vl (.slice none 0 0)), (Vl (.int .i64 0)), (Vl (.bool false)), (Vl (.slice none 0 0)), (Vl (.int .i64 0))]) rfl) rfl bs_nil (wt_none' rfl) rfl fun q7 => ?_
            exact tx_pick' [1, 0, 2] (sub_cons rfl (sub_cons rfl (sub_cons rfl (sub_cons rfl (sub_cons rfl (sub_cons rfl (sub_cons rfl (sub_cons rfl sub_nil)))))))) (by decide) (pick_cons rfl (pick_cons rfl (pick_cons rfl pick_nil))) (hN29 (q7, q9028))
        intro hN26
        refine ax_node (f' := 3) #[true, true, true, true, true, true, true, true, false, true, true, false, false] (fun (v27 : Addr × Addr) => (⟨55, [], [(0, (Sl KT54 a0)), (3, (Vl (.pointer (some q3)))), (5, (Vl (.bool x3))), (6, (Vl (.int .i64 x4))), (7, (Vl (.pointer (some v27.1)))), (8, (Vl (.pointer (some v27.2)))), (21, (Ag [(Vl (.bool r20.1)), (Sl (Ki .u32) r20.2.1), (Vl (.int .i64 r20.2.2.1)), (Vl (.bool r20.2.2.2.1)), (Sl (Ki .u32) r20.2.2.2.2.1), (Vl (.int .i64 r20.2.2.2.2.2))])), (24, (Pt [(Vl (.bool r24.1)), (Sl (Ki .u32) r24.2.1), (Vl (.int .i64 r24.2.2.1)), (Vl (.bool r24.2.2.2.1)), (Sl (Ki .u32) r24.2.2.2.2.1), (Vl (.int .i64 r24.2.2.2.2.2))]))], [⟨.pointer (some q3), [(Vl (.bool a1_0)), (Sl (Ki .u32) a1_1), (Vl (.int .i64 a1_2)), (Vl (.bool a1_3)), (Sl (Ki .u32) a1_4), (Vl (.int .i64 a1_5))], 54, none⟩, ⟨.pointer (some v27.1), [(Vl (.bool false)), (Vl (.slice none 0 0)), (Vl (.int .i64 0)), (Vl (.bool false)), (Vl (.slice none 0 0)), (Vl (.int .i64 0))], 54, none⟩, ⟨.pointer (some v27.2), [(Vl (.bool false)), (Vl (.slice none 0 0)), (Vl (.int .i64 0)), (Vl (.bool false)), (Vl (.slice none 0 0)), (Vl (.int .i64 0))], 54, none⟩]⟩ : St)) ?_ ?_
        · rintro ⟨q9029, q9030⟩
          refine ax_all (i := 8) (is := [11]) (by kernel_rfl) (all_cons ?_ (all_cons ?_ all_nil))
          · refine nx_rd (last := #[true, true, true, true, true, true, true, true, true, true, true, false, false]) rfl (rd_load_pt_agg' (nn := 6) rfl rfl agg54 (l' := [(Vl (.bool r24.1)), (Sl (Ki .u32) r24.2.1), (Vl (.int .i64 r24.2.2.1)), (Vl (.bool r24.2.2.2.1)), (Sl (Ki .u32) r24.2.2.2.2.1), (Vl (.int .i64 r24.2.2.2.2.2))]) rfl) rfl rfl (wt_none' rfl) rfl ?_
            exact tx_pick' [0, 1, 2] (sub_cons rfl (sub_cons rfl (sub_cons rfl (sub_cons rfl (sub_cons rfl (sub_cons rfl (sub_cons rfl (sub_cons rfl sub_nil)))))))) (by decide) (pick_cons rfl (pick_cons rfl (pick_cons rfl pick_nil))) (hN29 (q9029, q9030))
          · refine nx_oxv (last := #[true, true, true, true, true, true, true, true, false, true, true, true, false]) rfl (oxv_store (i := 1) (o := 0) rfl rfl (lv_ag _) ⟨rfl, rfl, rfl, rfl⟩ rfl info54 rfl (H' := [⟨.pointer (some q3), [(Vl (.bool a1_0)), (Sl (Ki .u32) a1_1), (Vl (.int .i64 a1_2)), (Vl (.bool a1_3)), (Sl (Ki .u32) a1_4), (Vl (.int .i64 a1_5))], 54, none⟩, ⟨.pointer (some q9029), [(Vl (.bool r20.1)), (Sl (Ki .u32) r20.2.1), (Vl (.int .i64 r20.2.2.1)), (Vl (.bool r20.2.2.2.1)), (Sl (Ki .u32) r20.2.2.2.2.1), (Vl (.int .i64 r20.2.2.2.2.2))], 54, none⟩, ⟨.pointer (some q9030), [(Vl (.bool false)), (Vl (.slice none 0 0)), (Vl (.int .i64 0)), (Vl (.bool false)), (Vl (.slice none 0 0)), (Vl (.int .i64 0))], 54, none⟩]) rfl) rfl rfl bo_nil (wt_none' rfl) rfl fun _ => ?_
            exact tx_pick' [0, 1, 2] (sub_cons rfl (sub_cons rfl (sub_cons rfl (sub_cons rfl (sub_cons rfl (sub_cons rfl (sub_cons rfl sub_nil))))))) (by decide) (pick_cons rfl (pick_cons rfl (pick_cons rfl pick_nil))) (hN30 (q9029, q9030))
        intro hN27
        refine ax_node (f' := 3) #[true, true, true, true, true, true, true, false, false, true, true, true, false] (fun (v28 : Addr × Addr) => (⟨55, [], [(0, (Sl KT54 a0)), (3, (Vl (.pointer (some q3)))), (5, (Vl (.bool x3))), (6, (Vl (.int .i64 x4))), (7, (Vl (.pointer (some v28.1)))), (8, (Vl (.pointer (some v28.2)))), (22, (Sl KT54 a0)), (23, (Vl (.int .i64 x4)))], [⟨.pointer (some q3), [(Vl (.bool a1_0)), (Sl (Ki .u32) a1_1), (Vl (.int .i64 a1_2)), (Vl (.bool a1_3)), (Sl (Ki .u32) a1_4), (Vl (.int .i64 a1_5))], 54, none⟩, ⟨.pointer (some v28.1), [(Vl (.bool r20.1)), (Sl (Ki .u32) r20.2.1), (Vl (.int .i64 r20.2.2.1)), (Vl (.bool r20.2.2.2.1)), (Sl (Ki .u32) r20.2.2.2.2.1), (Vl (.int .i64 r20.2.2.2.2.2))], 54, none⟩, ⟨.pointer (some v28.2), [(Vl (.bool false)), (Vl (.slice none 0 0)), (Vl (.int .i64 0)), (Vl (.bool false)), (Vl (.slice none 0 0)), (Vl (.int .i64 0))], 54, none⟩]⟩ : St)) ?_ ?_
        · rintro ⟨q9031, q9032⟩
          refine ax_rd (ix := 7) (last := #[true, true, true, true, true, true, true, true, false, true, true, true, false]) (by kernel_rfl) rfl (rd_at' (K := KT54) rfl rfl hr24 Try.underlying45 info54) rfl rfl (wt_none' rfl) rfl ?_
          exact tx_pick' [0, 1, 2] (sub_cons rfl (sub_cons rfl (sub_cons rfl (sub_cons rfl (sub_cons rfl (sub_cons rfl (sub_cons rfl sub_nil))))))) (by decide) (pick_cons rfl (pick_cons rfl (pick_cons rfl pick_nil))) (hN30 (q9031, q9032))
        intro hN28
        refine ax_node (f' := 4) #[true, true, true, true, true, true, true, true, true, false, false, false, false] (fun (v21 : Unit) => (⟨55, [], [(0, (Sl KT54 a0)), (3, (Vl (.pointer (some q3)))), (5, (Vl (.bool x3))), (6, (Vl (.int .i64 x4))), (21, (Ag [(Vl (.bool r20.1)), (Sl (Ki .u32) r20.2.1), (Vl (.int .i64 r20.2.2.1)), (Vl (.bool r20.2.2.2.1)), (Sl (Ki .u32) r20.2.2.2.2.1), (Vl (.int .i64 r20.2.2.2.2.2))])), (25, (Ag [(Vl (.bool r24.1)), (Sl (Ki .u32) r24.2.1), (Vl (.int .i64 r24.2.2.1)), (Vl (.bool r24.2.2.2.1)), (Sl (Ki .u32) r24.2.2.2.2.1), (Vl (.int .i64 r24.2.2.2.2.2))]))], [⟨.pointer (some q3), [(Vl (.bool a1_0)), (Sl (Ki .u32) a1_1), (Vl (.int .i64 a1_2)), (Vl (.bool a1_3)), (Sl (Ki .u32) a1_4), (Vl (.int .i64 a1_5))], 54, none⟩]⟩ : St)) ?_ ?_
        · rintro ⟨⟩
          refine ax_all (i := 9) (is := [10]) (by kernel_rfl) (all_cons ?_ (all_cons ?_ all_nil))
          · refine nx_ox (last := #[true, true, true, true, true, true, true, true, true, true, false, false, false]) rfl (ox_alloc' info54 rfl rfl rfl rfl (l := [(Vl (.bool false)), (Vl (.slice none 0 0)), (Vl (.int .i64 0)), (Vl (.bool false)), (Vl (.slice none 0 0)), (Vl (.int .i64 0))]) rfl) rfl bs_nil (wt_none' rfl) rfl fun q7 => ?_
            exact tx_pick' [1, 0] (sub_cons rfl (sub_cons rfl (sub_cons rfl (sub_cons rfl (sub_cons rfl (sub_cons rfl (sub_cons rfl sub_nil))))))) (by decide) (pick_cons rfl (pick_cons rfl pick_nil)) (hN25 q7)
          · refine nx_ox (last := #[true, true, true, true, true, true, true, true, true, false, true, false, false]) rfl (ox_alloc' info54 rfl rfl rfl rfl (l := [(Vl (.bool false)), (Vl (.slice none 0 0)), (Vl (.int .i64 0)), (Vl (.bool false)), (Vl (.slice none 0 0)), (Vl (.int .i64 0))]) rfl) rfl bs_nil (wt_none' rfl) rfl fun q8 => ?_
            exact tx_pick' [1, 0] (sub_cons rfl (sub_cons rfl (sub_cons rfl (sub_cons rfl (sub_cons rfl (sub_cons rfl (sub_cons rfl sub_nil))))))) (by decide) (pick_cons rfl (pick_cons rfl pick_nil)) (hN26 q8)
        intro hN21
        refine ax_node (f' := 4) #[true, true, true, true, true, true, true, true, false, true, false, false, false] (fun (v22 : Addr) => (⟨55, [], [(0, (Sl KT54 a0)), (3, (Vl (.pointer (some q3)))), (5, (Vl (.bool x3))), (6, (Vl (.int .i64 x4))), (7, (Vl (.pointer (some v22)))), (21, (Ag [(Vl (.bool r20.1)), (Sl (Ki .u32) r20.2.1), (Vl (.int .i64 r20.2.2.1)), (Vl (.bool r20.2.2.2.1)), (Sl (Ki .u32) r20.2.2.2.2.1), (Vl (.int .i64 r20.2.2.2.2.2))])), (24, (Pt [(Vl (.bool r24.1)), (Sl (Ki .u32) r24.2.1), (Vl (.int .i64 r24.2.2.1)), (Vl (.bool r24.2.2.2.1)), (Sl (Ki .u32) r24.2.2.2.2.1), (Vl (.int .i64 r24.2.2.2.2.2))]))], [⟨.pointer (some q3), [(Vl (.bool a1_0)), (Sl (Ki .u32) a1_1), (Vl (.int .i64 a1_2)), (Vl (.bool a1_3)), (Sl (Ki .u32) a1_4), (Vl (.int .i64 a1_5))], 54, none⟩, ⟨.pointer (some v22), [(Vl (.bool false)), (Vl (.slice none 0 0)), (Vl (.int .i64 0)), (Vl (.bool false)), (Vl (.slice none 0 0)), (Vl (.int .i64 0))], 54, none⟩]⟩ : St)) ?_ ?_
        · rintro q9023
          refine ax_all (i := 8) (is := [10]) (by kernel_rfl) (all_cons ?_ (all_cons ?_ all_nil))
          · refine nx_rd (last := #[true, true, true, true, true, true, true, true, true, true, false, false, false]) rfl (rd_load_pt_agg' (nn := 6) rfl rfl agg54 (l' := [(Vl (.bool r24.1)), (Sl (Ki .u32) r24.2.1), (Vl (.int .i64 r24.2.2.1)), (Vl (.bool r24.2.2.2.1)), (Sl (Ki .u32) r24.2.2.2.2.1), (Vl (.int .i64 r24.2.2.2.2.2))]) rfl) rfl rfl (wt_none' rfl) rfl ?_
            exact tx_pick' [0, 1] (sub_cons rfl (sub_cons rfl (sub_cons rfl (sub_cons rfl (sub_cons rfl (sub_cons rfl (sub_cons rfl sub_nil))))))) (by decide) (pick_cons rfl (pick_cons rfl pick_nil)) (hN25 q9023)
          · refine nx_ox (last := #[true, true, true, true, true, true, true, true, false, true, true, false, false]) rfl (ox_alloc' info54 rfl rfl rfl rfl (l := [(Vl (.bool false)), (Vl (.slice none 0 0)), (Vl (.int .i64 0)), (Vl (.bool false)), (Vl (.slice none 0 0)), (Vl (.int .i64 0))]) rfl) rfl bs_nil (wt_none' rfl) rfl fun q8 => ?_
            exact tx_pick' [1, 2, 0] (sub_cons rfl (sub_cons rfl (sub_cons rfl (sub_cons rfl (sub_cons rfl (sub_cons rfl (sub_cons rfl (sub_cons rfl sub_nil)))))))) (by decide) (pick_cons rfl (pick_cons rfl (pick_cons rfl pick_nil))) (hN27 (q9023, q8))
        intro hN22
        refine ax_node (f' := 4) #[true, true, true, true, true, true, true, true, false, false, true, false, false] (fun (v23 : Addr) => (⟨55, [], [(0, (Sl KT54 a0)), (3, (Vl (.pointer (some q3)))), (5, (Vl (.bool x3))), (6, (Vl (.int .i64 x4))), (8, (Vl (.pointer (some v23)))), (21, (Ag [(Vl (.bool r20.1)), (Sl (Ki .u32) r20.2.1), (Vl (.int .i64 r20.2.2.1)), (Vl (.bool r20.2.2.2.1)), (Sl (Ki .u32) r20.2.2.2.2.1), (Vl (.int .i64 r20.2.2.2.2.2))])), (24, (Pt [(Vl (.bool r24.1)), (Sl (Ki .u32) r24.2.1), (Vl (.int .i64 r24.2.2.1)), (Vl (.bool r24.2.2.2.1)), (Sl (Ki .u32) r24.2.2.2.2.1), (Vl (.int .i64 r24.2.2.2.2.2))]))], [⟨.pointer (some q3), [(Vl (.bool a1_0)), (Sl (Ki .u32) a1_1), (Vl (.int .i64 a1_2)), (Vl (.bool a1_3)), (Sl (Ki .u32) a1_4), (Vl (.int .i64 a1_5))], 54, none⟩, ⟨.pointer (some v23), [(Vl (.bool false)), (Vl (.slice none 0 0)), (Vl (.int .i64 0)), (Vl (.bool false)), (Vl (.slice none 0 0)), (Vl (.int .i64 0))], 54, none⟩]⟩ : St)) ?_ ?_
        · rintro q9024
          refine ax_all (i := 8) (is := [9]) (by kernel_rfl) (all_cons ?_ (all_cons ?_ all_nil))
          · refine nx_rd (last := #[true, true, true, true, true, true, true, true, true, false, true, false, false]) rfl (rd_load_pt_agg' (nn := 6) rfl rfl agg54 (l' := [(Vl (.bool r24.1)), (Sl (Ki .u32) r24.2.1), (Vl (.int .i64 r24.2.2.1)), (Vl (.bool r24.2.2.2.1)), (Sl (Ki .u32) r24.2.2.2.2.1), (Vl (.int .i64 r24.2.2.2.2.2))]) rfl) rfl rfl (wt_none' rfl) rfl ?_
            exact tx_pick' [0, 1] (sub_cons rfl (sub_cons rfl (sub_cons rfl (sub_cons rfl (sub_cons rfl (sub_cons rfl (sub_cons rfl sub_nil))))))) (by decide) (pick_cons rfl (pick_cons rfl pick_nil)) (hN26 q9024)
          · refine nx_ox (last := #[true, true, true, true, true, true, true, true, false, true, true, false, false]) rfl (ox_alloc' info54 rfl rfl rfl rfl (l := [(Vl (.bool false)), (Vl (.slice none 0 0)), (Vl (.int .i64 0)), (Vl (.bool false)), (Vl (.slice none 0 0)), (Vl (.int .i64 0))]) rfl) rfl bs_nil (wt_none' rfl) rfl fun q7 => ?_
            exact tx_pick' [1, 0, 2] (sub_cons rfl (sub_cons rfl (sub_cons rfl (sub_cons rfl (sub_cons rfl (sub_cons rfl (sub_cons rfl (sub_cons rfl sub_nil)))))))) (by decide) (pick_cons rfl (pick_cons rfl (pick_cons rfl pick_nil))) (hN27 (q7, q9024))
        intro hN23
        refine ax_node (f' := 4) #[true, true, true, true, true, true, true, false, false, true, true, false, false] (fun (v24 : Addr × Addr) => (⟨55, [], [(0, (Sl KT54 a0)), (3, (Vl (.pointer (some q3)))), (5, (Vl (.bool x3))), (6, (Vl (.int .i64 x4))), (7, (Vl (.pointer (some v24.1)))), (8, (Vl (.pointer (some v24.2)))), (21, (Ag [(Vl (.bool r20.1)), (Sl (Ki .u32) r20.2.1), (Vl (.int .i64 r20.2.2.1)), (Vl (.bool r20.2.2.2.1)), (Sl (Ki .u32) r20.2.2.2.2.1), (Vl (.int .i64 r20.2.2.2.2.2))])), (22, (Sl KT54 a0)), (23, (Vl (.int .i64 x4)))], [⟨.pointer (some q3), [(Vl (.bool a1_0)), (Sl (Ki .u32) a1_1), (Vl (.int .i64 a1_2)), (Vl (.bool a1_3)), (Sl (Ki .u32) a1_4), (Vl (.int .i64 a1_5))], 54, none⟩, ⟨.pointer (some v24.1), [(Vl (.bool false)), (Vl (.slice none 0 0)), (Vl (.int .i64 0)), (Vl (.bool false)), (Vl (.slice none 0 0)), (Vl (.int .i64 0))], 54, none⟩, ⟨.pointer (some v24.2), [(Vl (.bool false)), (Vl (.slice none 0 0)), (Vl (.int .i64 0)), (Vl (.bool false)), (Vl (.slice none 0 0)), (Vl (.int .i64 0))], 54, none⟩]⟩ : St)) ?_ ?_
        · rintro ⟨q9025, q9026⟩
          refine ax_all (i := 7) (is := [11]) (by kernel_rfl) (all_cons ?_ (all_cons ?_ all_nil))
          · refine nx_rd (last := #[true, true, true, true, true, true, true, true, false, true, true, false, false]) rfl (rd_at' (K := KT54) rfl rfl hr24 Try.underlying45 info54) rfl rfl (wt_none' rfl) rfl ?_
            exact tx_pick' [0, 1, 2] (sub_cons rfl (sub_cons rfl (sub_cons rfl (sub_cons rfl (sub_cons rfl (sub_cons rfl (sub_cons rfl (sub_cons rfl sub_nil)))))))) (by decide) (pick_cons rfl (pick_cons rfl (pick_cons rfl pick_nil))) (hN27 (q9025, q9026))
          · refine nx_oxv (last := #[true, true, true, true, true, true, true, false, false, true, true, true, false]) rfl (oxv_store (i := 1) (o := 0) rfl rfl (lv_ag _) ⟨rfl, rfl, rfl, rfl⟩ rfl info54 rfl (H' := [⟨.pointer (some q3), [(Vl (.bool a1_0)), (Sl (Ki .u32) a1_1), (Vl (.int .i64 a1_2)), (Vl (.bool a1_3)), (Sl (Ki .u32) a1_4), (Vl (.int .i64 a1_5))], 54, none⟩, ⟨.pointer (some q9025), [(Vl (.bool r20.1)), (Sl (Ki .u32) r20.2.1), (Vl (.int .i64 r20.2.2.1)), (Vl (.bool r20.2.2.2.1)), (Sl (Ki .u32) r20.2.2.2.2.1), (Vl (.int .i64 r20.2.2.2.2.2))], 54, none⟩, ⟨.pointer (some q9026), [(Vl (.bool false)), (Vl (.slice none 0 0)), (Vl (.int .i64 0)), (Vl (.bool false)), (Vl (.slice none 0 0)), (Vl (.int .i64 0))], 54, none⟩]) rfl) rfl rfl bo_nil (wt_none' rfl) rfl fun _ => ?_
            exact tx_pick' [0, 1, 2] (sub_cons rfl (sub_cons rfl (sub_cons rfl (sub_cons rfl (sub_cons rfl (sub_cons rfl (sub_cons rfl (sub_cons rfl sub_nil)))))))) (by decide) (pick_cons rfl (pick_cons rfl (pick_cons rfl pick_nil))) (hN28 (q9025, q9026))
        intro hN24
        refine ax_node (f' := 5) #[true, true, true, true, true, true, true, true, false, false, false, false, false] (fun (v18 : Unit) => (⟨55, [], [(0, (Sl KT54 a0)), (3, (Vl (.pointer (some q3)))), (5, (Vl (.bool x3))), (6, (Vl (.int .i64 x4))), (21, (Ag [(Vl (.bool r20.1)), (Sl (Ki .u32) r20.2.1), (Vl (.int .i64 r20.2.2.1)), (Vl (.bool r20.2.2.2.1)), (Sl (Ki .u32) r20.2.2.2.2.1), (Vl (.int .i64 r20.2.2.2.2.2))])), (24, (Pt [(Vl (.bool r24.1)), (Sl (Ki .u32) r24.2.1), (Vl (.int .i64 r24.2.2.1)), (Vl (.bool r24.2.2.2.1)), (Sl (Ki .u32) r24.2.2.2.2.1), (Vl (.int .i64 r24.2.2.2.2.2))]))], [⟨.pointer (some q3), [(Vl (.bool a1_0)), (Sl (Ki .u32) a1_1), (Vl (.int .i64 a1_2)), (Vl (.bool a1_3)), (Sl (Ki .u32) a1_4), (Vl (.int .i64 a1_5))], 54, none⟩]⟩ : St)) ?_ ?_
        · rintro ⟨⟩
          refine ax_all (i := 8) (is := [9, 10]) (by kernel_rfl) (all_cons ?_ (all_cons ?_ (all_cons ?_ all_nil)))
          · refine nx_rd (last := #[true, true, true, true, true, true, true, true, true, false, false, false, false]) rfl (rd_load_pt_agg' (nn := 6) rfl rfl agg54 (l' := [(Vl (.bool r24.1)), (Sl (Ki .u32) r24.2.1), (Vl (.int .i64 r24.2.2.1)), (Vl (.bool r24.2.2.2.1)), (Sl (Ki .u32) r24.2.2.2.2.1), (Vl (.int .i64 r24.2.2.2.2.2))]) rfl) rfl rfl (wt_none' rfl) rfl ?_
            exact tx_pick' [0] (sub_cons rfl (sub_cons rfl (sub_cons rfl (sub_cons rfl (sub_cons rfl (sub_cons rfl sub_nil)))))) (by decide) (pick_cons rfl pick_nil) (hN21 ())
          · refine nx_ox (last := #[true, true, true, true, true, true, true, true, false, true, false, false, false]) rfl (ox_alloc' info54 rfl rfl rfl rfl (l := [(Vl (.bool false)), (Vl (.slice none 0 0)), (Vl (.int .i64 0)), (Vl (.bool false)), (Vl (.slice none 0 0)), (Vl (.int .i64 0))]) rfl) rfl bs_nil (wt_none' rfl) rfl fun q7 => ?_
            exact tx_pick' [1, 0] (sub_cons rfl (sub_cons rfl (sub_cons rfl (sub_cons rfl (sub_cons rfl (sub_cons rfl (sub_cons rfl sub_nil))))))) (by decide) (pick_cons rfl (pick_cons rfl pick_nil)) (hN22 q7)
          · refine nx_ox (last := #[true, true, true, true, true, true, true, true, false, false, true, false, false]) rfl (ox_alloc' info54 rfl rfl rfl rfl (l := [(Vl (.bool false)), (Vl (.slice none 0 0)), (Vl (.int .i64 0)), (Vl (.bool false)), (Vl (.slice none 0 0)), (Vl (.int .i64 0))]) rfl) rfl bs_nil (wt_none' rfl) rfl fun q8 => ?_
            exact tx_pick' [1, 0] (sub_cons rfl (sub_cons rfl (sub_cons rfl (sub_cons rfl (sub_cons rfl (sub_cons rfl (sub_cons rfl sub_nil))))))) (by decide) (pick_cons rfl (pick_cons rfl pick_nil)) (hN23 q8)
        intro hN18
        refine ax_node (f' := 5) #[true, true, true, true, true, true, true, false, false, true, false, false, false] (fun (v19 : Addr) => (⟨55, [], [(0, (Sl KT54 a0)), (3, (Vl (.pointer (some q3)))), (5, (Vl (.bool x3))), (6, (Vl (.int .i64 x4))), (7, (Vl (.pointer (some v19)))), (21, (Ag [(Vl (.bool r20.1)), (Sl (Ki .u32) r20.2.1), (Vl (.int .i64 r20.2.2.1)), (Vl (.bool r20.2.2.2.1)), (Sl (Ki .u32) r20.2.2.2.2.1), (Vl (.int .i64 r20.2.2.2.2.2))])), (22, (Sl KT54 a0)), (23, (Vl (.int .i64 x4)))], [⟨.pointer (some q3), [(Vl (.bool a1_0)), (Sl (Ki .u32) a1_1), (Vl (.int .i64 a1_2)), (Vl (.bool a1_3)), (Sl (Ki .u32) a1_4), (Vl (.int .i64 a1_5))], 54, none⟩, ⟨.pointer (some v19), [(Vl (.bool false)), (Vl (.slice none 0 0)), (Vl (.int .i64 0)), (Vl (.bool false)), (Vl (.slice none 0 0)), (Vl (.int .i64 0))], 54, none⟩]⟩ : St)) ?_ ?_
        · rintro q9021
          refine ax_all (i := 7) (is := [10]) (by kernel_rfl) (all_cons ?_ (all_cons ?_ all_nil))
          · refine nx_rd (last := #[true, true, true, true, true, true, true, true, false, true, false, false, false]) rfl (rd_at' (K := KT54) rfl rfl hr24 Try.underlying45 info54) rfl rfl (wt_none' rfl) rfl ?_
            exact tx_pick' [0, 1] (sub_cons rfl (sub_cons rfl (sub_cons rfl (sub_cons rfl (sub_cons rfl (sub_cons rfl (sub_cons rfl sub_nil))))))) (by decide) (pick_cons rfl (pick_cons rfl pick_nil)) (hN22 q9021)
          · refine nx_ox (last := #[true, true, true, true, true, true, true, false, false, true, true, false, false]) rfl (ox_alloc' info54 rfl rfl rfl rfl (l := [(Vl (.bool false)), (Vl (.slice none 0 0)), (Vl (.int .i64 0)), (Vl (.bool false)), (Vl (.slice none 0 0)), (Vl (.int .i64 0))]) rfl) rfl bs_nil (wt_none' rfl) rfl fun q8 => ?_
            exact tx_pick' [1, 2, 0] (sub_cons rfl (sub_cons rfl (sub_cons rfl (sub_cons rfl (sub_cons rfl (sub_cons rfl (sub_cons rfl (sub_cons rfl (sub_cons rfl sub_nil))))))))) (by decide) (pick_cons rfl (pick_cons rfl (pick_cons rfl pick_nil))) (hN24 (q9021, q8))
        intro hN19
        refine ax_node (f' := 5) #[true, true, true, true, true, true, true, false, false, false, true, false, false] (fun (v20 : Addr) => (⟨55, [], [(0, (Sl KT54 a0)), (3, (Vl (.pointer (some q3)))), (5, (Vl (.bool x3))), (6, (Vl (.int .i64 x4))), (8, (Vl (.pointer (some v20)))), (21, (Ag [(Vl (.bool r20.1)), (Sl (Ki .u32) r20.2.1), (Vl (.int .i64 r20.2.2.1)), (Vl (.bool r20.2.2.2.1)), (Sl (Ki .u32) r20.2.2.2.2.1), (Vl (.int .i64 r20.2.2.2.2.2))])), (22, (Sl KT54 a0)), (23, (Vl (.int .i64 x4)))], [⟨.pointer (some q3), [(Vl (.bool a1_0)), (Sl (Ki .u32) a1_1), (Vl (.int .i64 a1_2)), (Vl (.bool a1_3)), (Sl (Ki .u32) a1_4), (Vl (.int .i64 a1_5))], 54, none⟩, ⟨.pointer (some v20), [(Vl (.bool false)), (Vl (.slice none 0 0)), (Vl (.int .i64 0)), (Vl (.bool false)), (Vl (.slice none 0 0)), (Vl (.int .i64 0))], 54, none⟩]⟩ : St)) ?_ ?_
        · rintro q9022
          refine ax_all (i := 7) (is := [9]) (by kernel_rfl) (all_cons ?_ (all_cons ?_ all_nil))
          · refine nx_rd (last := #[true, true, true, true, true, true, true, true, false, false, true, false, false]) rfl (rd_at' (K := KT54) rfl rfl hr24 Try.underlying45 info54) rfl rfl (wt_none' rfl) rfl ?_
            exact tx_pick' [0, 1] (sub_cons rfl (sub_cons rfl (sub_cons rfl (sub_cons rfl (sub_cons rfl (sub_cons rfl (sub_cons rfl sub_nil))))))) (by decide) (pick_cons rfl (pick_cons rfl pick_nil)) (hN23 q9022)
          · refine nx_ox (last := #[true, true, true, true, true, true, true, false, false, true, true, false, false]) rfl (ox_alloc' info54 rfl rfl rfl rfl (l := [(Vl (.bool false)), (Vl (.slice none 0 0)), (Vl (.int .i64 0)), (Vl (.bool false)), (Vl (.slice none 0 0)), (Vl (.int .i64 0))]) rfl) rfl bs_nil (wt_none' rfl) rfl fun q7 => ?_
            exact tx_pick' [1, 0, 2] (sub_cons rfl (sub_cons rfl (sub_cons rfl (sub_cons rfl (sub_cons rfl (sub_cons rfl (sub_cons rfl (sub_cons rfl (sub_cons rfl sub_nil))))))))) (by decide) (pick_cons rfl (pick_cons rfl (pick_cons rfl pick_nil))) (hN24 (q7, q9022))
        intro hN20
        refine ax_all (i := 7) (is := [9, 10]) (by kernel_rfl) (all_cons ?_ (all_cons ?_ (all_cons ?_ all_nil)))
        · refine nx_rd (last := #[true, true, true, true, true, true, true, true, false, false, false, false, false]) rfl (rd_at' (K := KT54) rfl rfl hr24 Try.underlying45 info54) rfl rfl (wt_none' rfl) rfl ?_
          exact tx_pick' [0] (sub_cons rfl (sub_cons rfl (sub_cons rfl (sub_cons rfl (sub_cons rfl (sub_cons rfl sub_nil)))))) (by decide) (pick_cons rfl pick_nil) (hN18 ())
        · refine nx_ox (last := #[true, true, true, true, true, true, true, false, false, true, false, false, false]) rfl (ox_alloc' info54 rfl rfl rfl rfl (l := [(Vl (.bool false)), (Vl (.slice none 0 0)), (Vl (.int .i64 0)), (Vl (.bool false)), (Vl (.slice none 0 0)), (Vl (.int .i64 0))]) rfl) rfl bs_nil (wt_none' rfl) rfl fun q7 => ?_
          exact tx_pick' [1, 0] (sub_cons rfl (sub_cons rfl (sub_cons rfl (sub_cons rfl (sub_cons rfl (sub_cons rfl (sub_cons rfl (sub_cons rfl sub_nil)))))))) (by decide) (pick_cons rfl (pick_cons rfl pick_nil)) (hN19 q7)
        · refine nx_ox (last := #[true, true, true, true, true, true, true, false, false, false, true, false, false]) rfl (ox_alloc' info54 rfl rfl rfl rfl (l := [(Vl (.bool false)), (Vl (.slice none 0 0)), (Vl (.int .i64 0)), (Vl (.bool false)), (Vl (.slice none 0 0)), (Vl (.int .i64 0))]) rfl) rfl bs_nil (wt_none' rfl) rfl fun q8 => ?_
          exact tx_pick' [1, 0] (sub_cons rfl (sub_cons rfl (sub_cons rfl (sub_cons rfl (sub_cons rfl (sub_cons rfl (sub_cons rfl (sub_cons rfl sub_nil)))))))) (by decide) (pick_cons rfl (pick_cons rfl pick_nil)) (hN20 q8)
    · replace hp := (br_f h6).symm.trans hp
      refine cx_exit' ?_
      replace hp := Option.some.inj hp
      subst hp
      show TX E (Zg E (Exit.exit 0) _ (Exit.exit 0)) _
      exact tx_zend' () rfl [] (sub_cons rfl sub_nil) (by decide) pick_nil
  · rcases y1 with v34 | v35
    · dsimp only at hp
      refine zg_out fun w34 => ?_
      replace hp := Option.some.inj hp
      subst hp
      refine tx_pick' (L' := [(4, (Vl (.int .i64 1)))]) (H' := []) [] (sub_cons rfl sub_nil) (by decide) pick_nil ?_
      exact tx_ret1' Try.results42 rfl () (rv_tmp' rfl) (List.Sublist.refl _)
    · dsimp only at hp
      refine zg_out fun w35 => ?_
      show TX E K3 _
      refine tx_k' hK3 ?_
      refine cx_seq' fun K27 hK27 => ?_
      refine cx_seq' fun K28 hK28 => ?_
      refine cx_region' ?_
      refine sx_rd' (rd_move' rfl) rfl rfl (wt_none' rfl) ?_
      refine sx_nil' ?_
      show TX E K28 _
      refine tx_k' hK28 ?_
      refine cx_cond' rfl (fun h10 => ?_) (fun h10 => ?_)
      · replace hp := (br_t h10).symm.trans hp
        refine cx_seq' fun K29 hK29 => ?_
        refine cx_region' ?_
        refine sx_rd' (rd_assign' rfl) rfl rfl (wt_none' rfl) ?_
        refine sx_nil' ?_
        show TX E K29 _
        refine tx_k' hK29 ?_
        refine cx_retc' ?_
        replace hp := Option.some.inj hp
        subst hp
        refine tx_pick' (L' := [(4, (Vl (.int .i64 0)))]) (H' := []) [] (sub_cons rfl sub_nil) (by decide) pick_nil ?_
        exact tx_ret1' Try.results42 rfl () (rv_tmp' rfl) (List.Sublist.refl _)
      · replace hp := (br_f h10).symm.trans hp
        refine cx_skip' ?_
        show TX E K27 _
        refine tx_k' hK27 ?_
        refine cx_seq' fun K30 hK30 => ?_
        refine cx_region' ?_
        refine sx_rd' (rd_assign' rfl) rfl rfl (wt_none' rfl) ?_
        refine sx_nil' ?_
        show TX E K30 _
        refine tx_k' hK30 ?_
        refine cx_retc' ?_
        replace hp := Option.some.inj hp
        subst hp
        refine tx_pick' (L' := [(4, (Vl (.int .i64 2)))]) (H' := []) [] (sub_cons rfl sub_nil) (by decide) pick_nil ?_
        exact tx_ret1' Try.results42 rfl () (rv_tmp' rfl) (List.Sublist.refl _)

def impl_coord (k : Nat) (a0_0 : Nat) (a0_1 : Nat) : Option ((List Nat)) :=
  some ([a0_0, a0_1])

theorem impl_coord_sim {k : Nat}  (a0_0 : Nat) (a0_1 : Nat) {out : (List Nat)} (hp : impl_coord k a0_0 a0_1 = some out) : Go.Sx.Fn Try.prog 72 [(Ag [(Vl (.float .f64 a0_0)), (Vl (.float .f64 a0_1))])] [] (fun w : Unit => (Sl Kf out)) (fun w => []) := by
  unfold impl_coord at hp
  refine fn_of Try.func72 rfl Try.ntmps72 rfl fun E hM => ?_
  refine cx_seq' fun K1 hK1 => ?_
  refine cx_region' ?_
  refine sx_ox' (ox_box' rfl (lv_ag _) rfl rfl) (wt_none' rfl) fun q1 => ?_
  refine sx_rd' (rd_assign' rfl) rfl rfl (wt_none' rfl) ?_
  refine sx_nil' ?_
  show TX E K1 _
  refine tx_k' hK1 ?_
  refine cx_seq' fun K2 hK2 => ?_
  refine cx_region' ?_
  refine sx_rd' (rd_field0' rfl Try.underlying27 rfl info25 rfl) rfl rfl (wt_none' rfl) ?_
  refine sx_rd' (rd_load' (i := 0) (o := 0) rfl ⟨rfl, rfl, rfl, rfl⟩ rfl flat25) rfl rfl (wt_none' rfl) ?_
  refine sx_rd' (rd_field' (off := 1) rfl Try.underlying27 rfl info25 rfl) rfl rfl (wt_none' rfl) ?_
  refine sx_rd' (rd_load' (i := 0) (o := 1) rfl ⟨rfl, rfl, rfl, rfl⟩ rfl flat25) rfl rfl (wt_none' rfl) ?_
  refine sx_ox' (ox_rowlit' (K := Kf) (xs := [a0_0, a0_1]) (qs := [(0, [(Vl (.float .f64 a0_0))]), (1, [(Vl (.float .f64 a0_1))])]) ⟨rfl, ⟨_, rfl, (lv_vl rfl rfl)⟩, ⟨rfl, ⟨_, rfl, (lv_vl rfl rfl)⟩, trivial⟩⟩ Try.underlying106 info25 rfl rfl rfl rfl rfl (by kernel_rfl) rfl rfl rfl) (wt_none' rfl) fun g7 => ?_
  refine sx_rd' (rd_assign' rfl) rfl rfl (wt_none' rfl) ?_
  refine sx_nil' ?_
  show TX E K2 _
  refine tx_k' hK2 ?_
  refine cx_retc' ?_
  replace hp := Option.some.inj hp
  subst hp
  refine tx_fz' (frz_row 0 [(2, (Vl (Vs g7)), (Sl Kf ([a0_0, a0_1]))), (7, (Vl (Vs g7)), (Sl Kf ([a0_0, a0_1])))] (K := Kf) (xs := [a0_0, a0_1]) (by decide) rfl ⟨⟨rfl, frz_it⟩, ⟨rfl, frz_it⟩, trivial⟩ (H' := [⟨.pointer (some q1), [(Vl (.float .f64 a0_0)), (Vl (.float .f64 a0_1))], 27, none⟩]) frzH_refl) ?_
  refine tx_pick' (L' := [(2, (Sl Kf ([a0_0, a0_1])))]) (H' := []) [] (sub_cons rfl sub_nil) (by decide) pick_nil ?_
  exact tx_ret1' Try.results72 rfl () (rv_tmp' rfl) (List.Sublist.refl _)

def math_Floor (k : Nat) (a0 : Nat) : Option (Nat) :=
  (some (gint .down a0)) >>= fun r4 =>
  some r4

theorem math_Floor_sim {k : Nat}  (a0 : Nat) {out : Nat} (hp : math_Floor k a0 = some out) : Go.Sx.Fn Try.prog 134 [(Vl (.float .f64 a0))] [] (fun w : Unit => (Fl out)) (fun w => []) := by
  unfold math_Floor at hp
  refine fn_of Try.func134 rfl Try.ntmps134 rfl fun E hM => ?_
  refine cx_seq' fun K1 hK1 => ?_
  refine cx_region' ?_
  refine sx_rd' (rd_assign' rfl) rfl rfl (wt_none' rfl) ?_
  refine sx_nil' ?_
  show TX E K1 _
  refine tx_k' hK1 ?_
  refine cx_seq' fun K2 hK2 => ?_
  refine cx_cond_t' rfl rfl ?_
  refine cx_seq' fun K3 hK3 => ?_
  refine cx_region' ?_
  refine sx_rd' (rd_move' rfl) rfl rfl (wt_none' rfl) ?_
  obtain ⟨r4, hr4, hp⟩ := bind_some hp
  refine sx_ox' (ox_extf' rfl (fl_v rfl) Try.func162 (extf162 (Option.some.inj hr4)) rfl rfl) (wt_none' rfl) fun _ => ?_
  refine sx_rd' (rd_assign' rfl) rfl rfl (wt_none' rfl) ?_
  refine sx_nil' ?_
  show TX E K3 _
  refine tx_k' hK3 ?_
  refine cx_retc' ?_
  replace hp := Option.some.inj hp
  subst hp
  refine tx_pick' (L' := [(2, (Fl r4))]) (H' := []) [] (sub_cons rfl sub_nil) (by decide) pick_nil ?_
  exact tx_ret1' Try.results134 rfl () (rv_tmp' rfl) (List.Sublist.refl _)

def robustdeterminate_SignOfDet2x2_j2 (k : Nat) (a1 : Nat) (a2 : Nat) (x2 : Bool) : Option (Int) :=
  br x2
    (some 0)
    (br (fgt a1 0)
      (br (fgt a2 0)
        (some (-1))
        (some 1))
      (br (fgt a2 0)
        (some 1)
        (some (-1))))
def robustdeterminate_SignOfDet2x2_j41 (k : Nat) (rec1 : (Nat × Nat × Nat × Nat × Int × Int) → Option (Int)) (x114 : Nat) (x115 : Nat) (x124 : Int) (x117 : Nat) (x118 : Nat) (x119 : Int) : Option (Int) :=
  br (feq x118 0)
    (br (feq x117 0)
      (some 0)
      (some x119))
    (br (feq x117 0)
      (some (isub .i64 0 x119))
      (rec1 (x117, x118, x114, x115, (iadd .i64 x124 1), x119)))
def robustdeterminate_SignOfDet2x2_j40 (k : Nat) (x120 : Nat) (x121 : Nat) (rec1 : (Nat × Nat × Nat × Nat × Int × Int) → Option (Int)) (x124 : Int) (x114 : Nat) (x115 : Nat) (x116 : Int) : Option (Int) :=
  br (feq x115 0)
    (br (feq x114 0)
      (some 0)
      (some (isub .i64 0 x116)))
    (br (feq x114 0)
      (some x116)
      ((some (gdiv x120 x114)) >>= fun r198 =>
      (num r198) >>= fun u36 =>
      (math_Floor k r198) >>= fun r199 =>
      (some (gmul r199 x114)) >>= fun r203 =>
      (some (gsub x120 r203)) >>= fun r204 =>
      (some (gmul r199 x115)) >>= fun r208 =>
      (some (gsub x121 r208)) >>= fun r209 =>
      br (flt r209 0)
        (some x116)
        (br (fgt r209 x115)
          (some (isub .i64 0 x116))
          ((some (gadd r204 r204)) >>= fun r221 =>
          br (fgt x114 r221)
            ((some (gadd r209 r209)) >>= fun r226 =>
            br (flt x115 r226)
              (some (isub .i64 0 x116))
              (robustdeterminate_SignOfDet2x2_j41 k rec1 x114 x115 x124 r204 r209 x116))
            ((some (gadd r209 r209)) >>= fun r233 =>
            br (fgt x115 r233)
              (some x116)
              ((some (gsub x114 r204)) >>= fun r238 =>
              (some (gsub x115 r209)) >>= fun r241 =>
              robustdeterminate_SignOfDet2x2_j41 k rec1 x114 x115 x124 r238 r241 (isub .i64 0 x116)))))))
def robustdeterminate_SignOfDet2x2_l1s  (k : Nat) (rec1 : (Nat × Nat × Nat × Nat × Int × Int) → Option (Int)) (x120 : Nat) (x121 : Nat) (x122 : Nat) (x123 : Nat) (x124 : Int) (x125 : Int) : Option (Int) :=
  (some (gdiv x122 x120)) >>= fun r141 =>
  (num r141) >>= fun u35 =>
  (math_Floor k r141) >>= fun r142 =>
  (some (gmul r142 x120)) >>= fun r146 =>
  (some (gsub x122 r146)) >>= fun r147 =>
  (some (gmul r142 x121)) >>= fun r151 =>
  (some (gsub x123 r151)) >>= fun r152 =>
  br (flt r152 0)
    (some (isub .i64 0 x125))
    (br (fgt r152 x121)
      (some x125)
      ((some (gadd r147 r147)) >>= fun r164 =>
      br (fgt x120 r164)
        ((some (gadd r152 r152)) >>= fun r169 =>
        br (flt x121 r169)
          (some x125)
          (robustdeterminate_SignOfDet2x2_j40 k x120 x121 rec1 x124 r147 r152 x125))
        ((some (gadd r152 r152)) >>= fun r175 =>
        br (fgt x121 r175)
          (some (isub .i64 0 x125))
          ((some (gsub x120 r147)) >>= fun r181 =>
          (some (gsub x121 r152)) >>= fun r184 =>
          robustdeterminate_SignOfDet2x2_j40 k x120 x121 rec1 x124 r181 r184 (isub .i64 0 x125)))))
def robustdeterminate_SignOfDet2x2_l1  : Nat → (Nat × Nat × Nat × Nat × Int × Int) → Option (Int)
  | 0, _ => none
  | k + 1, v => robustdeterminate_SignOfDet2x2_l1s k (robustdeterminate_SignOfDet2x2_l1 k) v.1 v.2.1 v.2.2.1 v.2.2.2.1 v.2.2.2.2.1 v.2.2.2.2.2
def robustdeterminate_SignOfDet2x2_j5 (k : Nat) (x5 : Nat) (x7 : Nat) (x9 : Nat) (x10 : Nat) (x11 : Int) : Option (Int) :=
  (robustdeterminate_SignOfDet2x2_l1 k (x9, x5, x10, x7, 0, x11)) >>= fun v43 =>
  some v43
def robustdeterminate_SignOfDet2x2_j4 (k : Nat) (x4 : Nat) (x5 : Nat) (x6 : Nat) (x7 : Nat) (x8 : Int) : Option (Int) :=
  br (flt 0 x4)
    (br (flt 0 x6)
      (br (fgt x4 x6)
        (some x8)
        (robustdeterminate_SignOfDet2x2_j5 k x5 x7 x4 x6 x8))
      (some x8))
    (br (flt 0 x6)
      (some (isub .i64 0 x8))
      (br (fge x4 x6)
        (robustdeterminate_SignOfDet2x2_j5 k x5 x7 (fneg x4) (fneg x6) (isub .i64 0 x8))
        (some (isub .i64 0 x8))))
def robustdeterminate_SignOfDet2x2_j3 (k : Nat) (a3 : Nat) (a0 : Nat) (a1 : Nat) (a2 : Nat) (x3 : Bool) : Option (Int) :=
  br x3
    (br (fgt a3 0)
      (br (fgt a0 0)
        (some 1)
        (some (-1)))
      (br (fgt a0 0)
        (some (-1))
        (some 1)))
    (br (flt 0 a1)
      (br (flt 0 a3)
        (br (fgt a1 a3)
          (robustdeterminate_SignOfDet2x2_j4 k a2 a3 a0 a1 (-1))
          (robustdeterminate_SignOfDet2x2_j4 k a0 a1 a2 a3 1))
        (br (fle a1 (fneg a3))
          (robustdeterminate_SignOfDet2x2_j4 k a0 a1 (fneg a2) (fneg a3) (-1))
          (robustdeterminate_SignOfDet2x2_j4 k (fneg a2) (fneg a3) a0 a1 1)))
      (br (flt 0 a3)
        (br (fle (fneg a1) a3)
          (robustdeterminate_SignOfDet2x2_j4 k (fneg a0) (fneg a1) a2 a3 (-1))
          (robustdeterminate_SignOfDet2x2_j4 k a2 a3 (fneg a0) (fneg a1) 1))
        (br (fge a1 a3)
          (robustdeterminate_SignOfDet2x2_j4 k (fneg a0) (fneg a1) (fneg a2) (fneg a3) 1)
          (robustdeterminate_SignOfDet2x2_j4 k (fneg a2) (fneg a3) (fneg a0) (fneg a1) (-1)))))
def robustdeterminate_SignOfDet2x2_j1 (k : Nat) (a1 : Nat) (a2 : Nat) (a3 : Nat) (a0 : Nat) (x1 : Bool) : Option (Int) :=
  br x1
    (br (feq a1 0)
      (robustdeterminate_SignOfDet2x2_j2 k a1 a2 true)
      (robustdeterminate_SignOfDet2x2_j2 k a1 a2 (feq a2 0)))
    (br (feq a1 0)
      (robustdeterminate_SignOfDet2x2_j3 k a3 a0 a1 a2 true)
      (robustdeterminate_SignOfDet2x2_j3 k a3 a0 a1 a2 (feq a2 0)))
def robustdeterminate_SignOfDet2x2 (k : Nat) (a0 : Nat) (a1 : Nat) (a2 : Nat) (a3 : Nat) : Option (Int) :=
  br (feq a0 0)
    (robustdeterminate_SignOfDet2x2_j1 k a1 a2 a3 a0 true)
    (robustdeterminate_SignOfDet2x2_j1 k a1 a2 a3 a0 (feq a3 0))

theorem robustdeterminate_SignOfDet2x2_sim {k : Nat}  (a0 : Nat) (a1 : Nat) (a2 : Nat) (a3 : Nat) {out : Int} (hp : robustdeterminate_SignOfDet2x2 k a0 a1 a2 a3 = some out) : Go.Sx.Fn Try.prog 92 [(Vl (.float .f64 a0)), (Vl (.float .f64 a1)), (Vl (.float .f64 a2)), (Vl (.float .f64 a3))] [] (fun w : Unit => (Vl (.int .i64 out))) (fun w => []) := by
  unfold robustdeterminate_SignOfDet2x2 at hp
  refine fn_of Try.func92 rfl Try.ntmps92 rfl fun E hM => ?_
  refine cx_seq' fun K1 hK1 => ?_
  refine cx_region' ?_
  refine sx_rd' (rd_assign' rfl) rfl rfl (wt_none' rfl) ?_
  refine sx_nil' ?_
  show TX E K1 _
  refine tx_k' hK1 ?_
  refine cx_seq' fun K2 hK2 => ?_
  refine cx_region' ?_
  refine sx_rd' (rd_assign' rfl) rfl rfl (wt_none' rfl) ?_
  refine sx_nil' ?_
  show TX E K2 _
  refine tx_k' hK2 ?_
  refine cx_seq' fun K3 hK3 => ?_
  refine cx_region' ?_
  refine sx_rd' (rd_assign' rfl) rfl rfl (wt_none' rfl) ?_
  refine sx_nil' ?_
  show TX E K3 _
  refine tx_k' hK3 ?_
  refine cx_seq' fun K4 hK4 => ?_
  refine cx_region' ?_
  refine sx_rd' (rd_assign' rfl) rfl rfl (wt_none' rfl) ?_
  refine sx_nil' ?_
  show TX E K4 _
  refine tx_k' hK4 ?_
  refine cx_seq' fun K5 hK5 => ?_
  refine cx_seq' fun K6 hK6 => ?_
  refine cx_region' ?_
  refine sx_rd' (rd_move' rfl) rfl rfl (wt_none' rfl) ?_
  refine sx_rd' (rd_bin' rfl rfl eg_flt ru_feq) rfl rfl (wt_none' rfl) ?_
  refine sx_rd' (rd_move' rfl) rfl rfl (wt_none' rfl) ?_
  refine sx_cutn' 3 (fun (v1 : Bool) => (⟨253, [], [(0, (Vl (.float .f64 a0))), (1, (Vl (.float .f64 a1))), (2, (Vl (.float .f64 a2))), (3, (Vl (.float .f64 a3))), (11, (Vl (.int .i64 0))), (18, (Vl (.bool v1)))], []⟩ : St)) (fun (v1 : Bool) => robustdeterminate_SignOfDet2x2_j1 k a1 a2 a3 a0 v1 = some out) ?_ ?_
  · rintro x1 hp
    replace hp : robustdeterminate_SignOfDet2x2_j1 k a1 a2 a3 a0 x1 = some out := hp
    unfold robustdeterminate_SignOfDet2x2_j1 at hp
    refine sx_nil' ?_
    show TX E K6 _
    refine tx_k' hK6 ?_
    refine cx_cond' rfl (fun h2 => ?_) (fun h2 => ?_)
    · replace hp := (br_t h2).symm.trans hp
      refine cx_block' ?_
      refine cx_seq' fun K8 hK8 => ?_
      refine cx_region' ?_
      refine sx_rd' (rd_move' rfl) rfl rfl (wt_none' rfl) ?_
      refine sx_rd' (rd_bin' rfl rfl eg_flt ru_feq) rfl rfl (wt_none' rfl) ?_
      refine sx_rd' (rd_move' rfl) rfl rfl (wt_none' rfl) ?_
      refine sx_cutn' 3 (fun (v2 : Bool) => (⟨253, [], [(1, (Vl (.float .f64 a1))), (2, (Vl (.float .f64 a2))), (27, (Vl (.bool v2)))], []⟩ : St)) (fun (v2 : Bool) => robustdeterminate_SignOfDet2x2_j2 k a1 a2 v2 = some out) ?_ ?_
      · rintro x2 hp
        replace hp : robustdeterminate_SignOfDet2x2_j2 k a1 a2 x2 = some out := hp
        unfold robustdeterminate_SignOfDet2x2_j2 at hp
        refine sx_rd' (rd_assign' rfl) rfl rfl (wt_none' rfl) ?_
        refine sx_nil' ?_
        show TX E K8 _
        refine tx_k' hK8 ?_
        refine cx_cond' rfl (fun h4 => ?_) (fun h4 => ?_)
        · replace hp := (br_t h4).symm.trans hp
          refine cx_seq' fun K10 hK10 => ?_
          refine cx_region' ?_
          refine sx_rd' (rd_assign' rfl) rfl rfl (wt_none' rfl) ?_
          refine sx_nil' ?_
          show TX E K10 _
          refine tx_k' hK10 ?_
          refine cx_retc' ?_
          replace hp := Option.some.inj hp
          subst hp
          refine tx_pick' (L' := [(8, (Vl (.int .i64 0)))]) (H' := []) [] (sub_cons rfl sub_nil) (by decide) pick_nil ?_
          exact tx_ret1' Try.results92 rfl () (rv_tmp' rfl) (List.Sublist.refl _)
        · replace hp := (br_f h4).symm.trans hp
          refine cx_seq' fun K11 hK11 => ?_
          refine cx_region' ?_
          refine sx_rd' (rd_move' rfl) rfl rfl (wt_none' rfl) ?_
          refine sx_rd' (rd_bin' rfl rfl eg_flt ru_fgt) rfl rfl (wt_none' rfl) ?_
          refine sx_rd' (rd_assign' rfl) rfl rfl (wt_none' rfl) ?_
          refine sx_nil' ?_
          show TX E K11 _
          refine tx_k' hK11 ?_
          refine cx_cond' rfl (fun h5 => ?_) (fun h5 => ?_)
          · replace hp := (br_t h5).symm.trans hp
            refine cx_seq' fun K12 hK12 => ?_
            refine cx_seq' fun K13 hK13 => ?_
            refine cx_region' ?_
            refine sx_rd' (rd_move' rfl) rfl rfl (wt_none' rfl) ?_
            refine sx_rd' (rd_bin' rfl rfl eg_flt ru_fgt) rfl rfl (wt_none' rfl) ?_
            refine sx_nil' ?_
            show TX E K13 _
            refine tx_k' hK13 ?_
            refine cx_cond' rfl (fun h6 => ?_) (fun h6 => ?_)
            · replace hp := (br_t h6).symm.trans hp
              refine cx_seq' fun K14 hK14 => ?_
              refine cx_region' ?_
              refine sx_rd' (rd_assign' rfl) rfl rfl (wt_none' rfl) ?_
              refine sx_nil' ?_
              show TX E K14 _
              refine tx_k' hK14 ?_
              refine cx_retc' ?_
              replace hp := Option.some.inj hp
              subst hp
              refine tx_pick' (L' := [(8, (Vl (.int .i64 (-1))))]) (H' := []) [] (sub_cons rfl sub_nil) (by decide) pick_nil ?_
              exact tx_ret1' Try.results92 rfl () (rv_tmp' rfl) (List.Sublist.refl _)
            · replace hp := (br_f h6).symm.trans hp
              refine cx_skip' ?_
              show TX E K12 _
              refine tx_k' hK12 ?_
              refine cx_seq' fun K15 hK15 => ?_
              refine cx_region' ?_
              refine sx_rd' (rd_assign' rfl) rfl rfl (wt_none' rfl) ?_
              refine sx_nil' ?_
              show TX E K15 _
              refine tx_k' hK15 ?_
              refine cx_retc' ?_
              replace hp := Option.some.inj hp
              subst hp
              refine tx_pick' (L' := [(8, (Vl (.int .i64 1)))]) (H' := []) [] (sub_cons rfl sub_nil) (by decide) pick_nil ?_
              exact tx_ret1' Try.results92 rfl () (rv_tmp' rfl) (List.Sublist.refl _)
          · replace hp := (br_f h5).symm.trans hp
            refine cx_seq' fun K16 hK16 => ?_
            refine cx_seq' fun K17 hK17 => ?_
            refine cx_region' ?_
            refine sx_rd' (rd_move' rfl) rfl rfl (wt_none' rfl) ?_
            refine sx_rd' (rd_bin' rfl rfl eg_flt ru_fgt) rfl rfl (wt_none' rfl) ?_
            refine sx_nil' ?_
            show TX E K17 _
            refine tx_k' hK17 ?_
            refine cx_cond' rfl (fun h7 => ?_) (fun h7 => ?_)
            · replace hp := (br_t h7).symm.trans hp
              refine cx_seq' fun K18 hK18 => ?_
              refine cx_region' ?_
              refine sx_rd' (rd_assign' rfl) rfl rfl (wt_none' rfl) ?_
              refine sx_nil' ?_
              show TX E K18 _
              refine tx_k' hK18 ?_
              refine cx_retc' ?_
              replace hp := Option.some.inj hp
              subst hp
              refine tx_pick' (L' := [(8, (Vl (.int .i64 1)))]) (H' := []) [] (sub_cons rfl sub_nil) (by decide) pick_nil ?_
              exact tx_ret1' Try.results92 rfl () (rv_tmp' rfl) (List.Sublist.refl _)
            · replace hp := (br_f h7).symm.trans hp
              refine cx_skip' ?_
              show TX E K16 _
              refine tx_k' hK16 ?_
              refine cx_seq' fun K19 hK19 => ?_
              refine cx_region' ?_
              refine sx_rd' (rd_assign' rfl) rfl rfl (wt_none' rfl) ?_
              refine sx_nil' ?_
              show TX E K19 _
              refine tx_k' hK19 ?_
              refine cx_retc' ?_
              replace hp := Option.some.inj hp
              subst hp
              refine tx_pick' (L' := [(8, (Vl (.int .i64 (-1))))]) (H' := []) [] (sub_cons rfl sub_nil) (by decide) pick_nil ?_
              exact tx_ret1' Try.results92 rfl () (rv_tmp' rfl) (List.Sublist.refl _)
      · intro K9 hK9
        rcases br_cases hp with ⟨h3, hp⟩ | ⟨h3, hp⟩
        · refine sx_skip' rfl rfl (wt_is' (wt_guard' rfl rfl rfl) (beq_tf h3)) ?_
          refine sx_skip' rfl rfl (wt_is' (wt_guard' rfl rfl rfl) (beq_tf h3)) ?_
          refine sx_rd' (rd_pick_true' rfl h3 rfl) rfl rfl (wt_none' rfl) ?_
          refine sx_nil' ?_
          show TX E K9 _
          exact tx_pick' [] (sub_cons rfl (sub_cons rfl (sub_cons rfl sub_nil))) (by decide) pick_nil (hK9 true hp)
        · refine sx_rd' (rd_move' rfl) rfl rfl (wt_is' (wt_guard' rfl rfl rfl) (beq_ff h3)) ?_
          refine sx_rd' (rd_bin' rfl rfl eg_flt ru_feq) rfl rfl (wt_is' (wt_guard' rfl rfl rfl) (beq_ff h3)) ?_
          refine sx_rd' (rd_pick_false' rfl h3 rfl) rfl rfl (wt_none' rfl) ?_
          refine sx_nil' ?_
          show TX E K9 _
          exact tx_pick' [] (sub_cons rfl (sub_cons rfl (sub_cons rfl sub_nil))) (by decide) pick_nil (hK9 (feq a2 0) hp)
    · replace hp := (br_f h2).symm.trans hp
      refine cx_skip' ?_
      show TX E K5 _
      refine tx_k' hK5 ?_
      refine cx_seq' fun K20 hK20 => ?_
      refine cx_seq' fun K21 hK21 => ?_
      refine cx_region' ?_
      refine sx_rd' (rd_move' rfl) rfl rfl (wt_none' rfl) ?_
      refine sx_rd' (rd_bin' rfl rfl eg_flt ru_feq) rfl rfl (wt_none' rfl) ?_
      refine sx_rd' (rd_move' rfl) rfl rfl (wt_none' rfl) ?_
      refine sx_cutn' 3 (fun (v3 : Bool) => (⟨253, [], [(0, (Vl (.float .f64 a0))), (1, (Vl (.float .f64 a1))), (2, (Vl (.float .f64 a2))), (3, (Vl (.float .f64 a3))), (11, (Vl (.int .i64 0))), (38, (Vl (.bool v3)))], []⟩ : St)) (fun (v3 : Bool) => robustdeterminate_SignOfDet2x2_j3 k a3 a0 a1 a2 v3 = some out) ?_ ?_
      · rintro x3 hp
        replace hp : robustdeterminate_SignOfDet2x2_j3 k a3 a0 a1 a2 x3 = some out := hp
        unfold robustdeterminate_SignOfDet2x2_j3 at hp
        refine sx_nil' ?_
        show TX E K21 _
        refine tx_k' hK21 ?_
        refine cx_cond' rfl (fun h9 => ?_) (fun h9 => ?_)
        · replace hp := (br_t h9).symm.trans hp
          refine cx_seq' fun K23 hK23 => ?_
          refine cx_seq' fun K24 hK24 => ?_
          refine cx_region' ?_
          refine sx_rd' (rd_move' rfl) rfl rfl (wt_none' rfl) ?_
          refine sx_rd' (rd_bin' rfl rfl eg_flt ru_fgt) rfl rfl (wt_none' rfl) ?_
          refine sx_nil' ?_
          show TX E K24 _
          refine tx_k' hK24 ?_
          refine cx_cond' rfl (fun h10 => ?_) (fun h10 => ?_)
          · replace hp := (br_t h10).symm.trans hp
            refine cx_seq' fun K25 hK25 => ?_
            refine cx_seq' fun K26 hK26 => ?_
            refine cx_region' ?_
            refine sx_rd' (rd_move' rfl) rfl rfl (wt_none' rfl) ?_
            refine sx_rd' (rd_bin' rfl rfl eg_flt ru_fgt) rfl rfl (wt_none' rfl) ?_
            refine sx_nil' ?_
            show TX E K26 _
            refine tx_k' hK26 ?_
            refine cx_cond' rfl (fun h11 => ?_) (fun h11 => ?_)
            · replace hp := (br_t h11).symm.trans hp
              refine cx_seq' fun K27 hK27 => ?_
              refine cx_region' ?_
              refine sx_rd' (rd_assign' rfl) rfl rfl (wt_none' rfl) ?_
              refine sx_nil' ?_
              show TX E K27 _
              refine tx_k' hK27 ?_
              refine cx_retc' ?_
              replace hp := Option.some.inj hp
              subst hp
              refine tx_pick' (L' := [(8, (Vl (.int .i64 1)))]) (H' := []) [] (sub_cons rfl sub_nil) (by decide) pick_nil ?_
              exact tx_ret1' Try.results92 rfl () (rv_tmp' rfl) (List.Sublist.refl _)
            · replace hp := (br_f h11).symm.trans hp
              refine cx_skip' ?_
              show TX E K25 _
              refine tx_k' hK25 ?_
              refine cx_seq' fun K28 hK28 => ?_
              refine cx_region' ?_
              refine sx_rd' (rd_assign' rfl) rfl rfl (wt_none' rfl) ?_
              refine sx_nil' ?_
              show TX E K28 _
              refine tx_k' hK28 ?_
              refine cx_retc' ?_
              replace hp := Option.some.inj hp
              subst hp
              refine tx_pick' (L' := [(8, (Vl (.int .i64 (-1))))]) (H' := []) [] (sub_cons rfl sub_nil) (by decide) pick_nil ?_
              exact tx_ret1' Try.results92 rfl () (rv_tmp' rfl) (List.Sublist.refl _)
          · replace hp := (br_f h10).symm.trans hp
            refine cx_skip' ?_
            show TX E K23 _
            refine tx_k' hK23 ?_
            refine cx_seq' fun K29 hK29 => ?_
            refine cx_seq' fun K30 hK30 => ?_
            refine cx_region' ?_
            refine sx_rd' (rd_move' rfl) rfl rfl (wt_none' rfl) ?_
            refine sx_rd' (rd_bin' rfl rfl eg_flt ru_fgt) rfl rfl (wt_none' rfl) ?_
            refine sx_nil' ?_
            show TX E K30 _
            refine tx_k' hK30 ?_
            refine cx_cond' rfl (fun h12 => ?_) (fun h12 => ?_)
            · replace hp := (br_t h12).symm.trans hp
              refine cx_seq' fun K31 hK31 => ?_
              refine cx_region' ?_
              refine sx_rd' (rd_assign' rfl) rfl rfl (wt_none' rfl) ?_
              refine sx_nil' ?_
              show TX E K31 _
              refine tx_k' hK31 ?_
              refine cx_retc' ?_
              replace hp := Option.some.inj hp
              subst hp
              refine tx_pick' (L' := [(8, (Vl (.int .i64 (-1))))]) (H' := []) [] (sub_cons rfl sub_nil) (by decide) pick_nil ?_
              exact tx_ret1' Try.results92 rfl () (rv_tmp' rfl) (List.Sublist.refl _)
            · replace hp := (br_f h12).symm.trans hp
              refine cx_skip' ?_
              show TX E K29 _
              refine tx_k' hK29 ?_
              refine cx_seq' fun K32 hK32 => ?_
              refine cx_region' ?_
              refine sx_rd' (rd_assign' rfl) rfl rfl (wt_none' rfl) ?_
              refine sx_nil' ?_
              show TX E K32 _
              refine tx_k' hK32 ?_
              refine cx_retc' ?_
              replace hp := Option.some.inj hp
              subst hp
              refine tx_pick' (L' := [(8, (Vl (.int .i64 1)))]) (H' := []) [] (sub_cons rfl sub_nil) (by decide) pick_nil ?_
              exact tx_ret1' Try.results92 rfl () (rv_tmp' rfl) (List.Sublist.refl _)
        · replace hp := (br_f h9).symm.trans hp
          refine cx_skip' ?_
          show TX E K20 _
          refine tx_k' hK20 ?_
          refine cx_seq' fun K33 hK33 => ?_
          refine cx_region' ?_
          refine sx_rd' (rd_assign' rfl) rfl rfl (wt_none' rfl) ?_
          refine sx_nil' ?_
          show TX E K33 _
          refine tx_k' hK33 ?_
          refine cx_join' (fun (v4 : Nat × Nat × Nat × Nat × Int) => (⟨253, [], [(0, (Vl (.float .f64 v4.1))), (1, (Vl (.float .f64 v4.2.1))), (2, (Vl (.float .f64 v4.2.2.1))), (3, (Vl (.float .f64 v4.2.2.2.1))), (11, (Vl (.int .i64 0))), (12, (Vl (.int .i64 v4.2.2.2.2)))], []⟩ : St)) (fun (v4 : Nat × Nat × Nat × Nat × Int) => robustdeterminate_SignOfDet2x2_j4 k v4.1 v4.2.1 v4.2.2.1 v4.2.2.2.1 v4.2.2.2.2 = some out) ?_ ?_
          · rintro ⟨x4, x5, x6, x7, x8⟩ hp
            replace hp : robustdeterminate_SignOfDet2x2_j4 k x4 x5 x6 x7 x8 = some out := hp
            unfold robustdeterminate_SignOfDet2x2_j4 at hp
            refine cx_join' (fun (v5 : Nat × Nat × Int) => (⟨253, [], [(0, (Vl (.float .f64 v5.1))), (1, (Vl (.float .f64 x5))), (2, (Vl (.float .f64 v5.2.1))), (3, (Vl (.float .f64 x7))), (11, (Vl (.int .i64 0))), (12, (Vl (.int .i64 v5.2.2)))], []⟩ : St)) (fun (v5 : Nat × Nat × Int) => robustdeterminate_SignOfDet2x2_j5 k x5 x7 v5.1 v5.2.1 v5.2.2 = some out) ?_ ?_
            · rintro ⟨x9, x10, x11⟩ hp
              replace hp : robustdeterminate_SignOfDet2x2_j5 k x5 x7 x9 x10 x11 = some out := hp
              unfold robustdeterminate_SignOfDet2x2_j5 at hp
              refine cx_block' ?_
              obtain ⟨v43, hy1, hp⟩ := bind_some hp
              refine tx_slot' 0 (y := (Fl x9)) rfl imp_vf ?_
              refine tx_slot' 1 (y := (Fl x5)) rfl imp_vf ?_
              refine tx_slot' 2 (y := (Fl x10)) rfl imp_vf ?_
              refine tx_slot' 3 (y := (Fl x7)) rfl imp_vf ?_
              refine cx_loopg' (F := robustdeterminate_SignOfDet2x2_l1) (G := fun k R v => robustdeterminate_SignOfDet2x2_l1s k R v.1 v.2.1 v.2.2.1 v.2.2.2.1 v.2.2.2.2.1 v.2.2.2.2.2) (x := (x9, x5, x10, x7, 0, x11)) (gh := ()) (fun (v40 : Nat × Nat × Nat × Nat × Int × Int) (w40 : Unit) => (⟨253, [], [(0, (Fl v40.1)), (1, (Fl v40.2.1)), (2, (Fl v40.2.2.1)), (3, (Fl v40.2.2.2.1)), (11, (Vl (.int .i64 v40.2.2.2.2.1))), (12, (Vl (.int .i64 v40.2.2.2.2.2)))], []⟩ : St)) (fun (v43 : Int) => Zg E Exit.ret (fun (w43 : Unit) => (⟨253, [], [(8, (Vl (.int .i64 v43)))], []⟩ : St))) (fun _ => rfl) (fun _ _ => rfl) ?_ hy1 (tx_to' rfl [] (sub_cons rfl (sub_cons rfl (sub_cons rfl (sub_cons rfl (sub_cons rfl (sub_cons rfl sub_nil)))))) (by decide) pick_nil) ?_
              · clear hp hy1
                clear v43
                intro k rec1 KY1 ih1
                rintro ⟨x120, x121, x122, x123, x124, x125⟩ ⟨⟩ y1 hp
                replace hp : robustdeterminate_SignOfDet2x2_l1s k rec1 x120 x121 x122 x123 x124 x125 = some y1 := hp
                unfold robustdeterminate_SignOfDet2x2_l1s at hp
                refine cx_block' ?_
                refine cx_seq' fun K1002 hK1002 => ?_
                refine cx_region' ?_
                refine sx_rd' (rd_move' rfl) rfl rfl (wt_none' rfl) ?_
                refine sx_rd' (rd_bin' rfl rfl eg_int ru_add) rfl rfl (wt_none' rfl) ?_
                refine sx_rd' (rd_assign' rfl) rfl rfl (wt_none' rfl) ?_
                refine sx_nil' ?_
                show TX E K1002 _
                refine tx_k' hK1002 ?_
                refine cx_seq' fun K1003 hK1003 => ?_
                refine cx_region' ?_
                refine sx_rd' (rd_move' rfl) rfl rfl (wt_none' rfl) ?_
                refine sx_rd' (rd_move' rfl) rfl rfl (wt_none' rfl) ?_
                obtain ⟨r141, hr141, hp⟩ := bind_some hp
                refine sx_ox' (ox_fop' (.inr (.inr (.inr rfl))) (fl_f rfl) (fl_f rfl) (Option.some.inj hr141) rfl rfl) (wt_none' rfl) fun _ => ?_
                obtain ⟨u35, hu35, hp⟩ := bind_some hp
                refine tx_slot' 141 (y := (Vl (.float .f64 r141))) rfl (imp_num (num_some hu35).2) ?_
                obtain ⟨r142, hr142, hp⟩ := bind_some hp
                refine sx_ox' (ox_calln' (ent_fn' Try.func134 isn134 rfl rfl) (math_Floor_sim _ hr142 : Go.Sx.Fn Try.prog 134 [(Vl (.float .f64 r141))] [] (fun x : Unit => (Fl r142)) (fun x => [])) (Hn := fun x : Unit => []) (fun _ => rfl) rfl rfl) (wt_none' rfl) fun ⟨⟩ => ?_
                refine sx_rd' (rd_assign' rfl) rfl rfl (wt_none' rfl) ?_
                refine sx_nil' ?_
                show TX E K1003 _
                refine tx_k' hK1003 ?_
                refine cx_seq' fun K1004 hK1004 => ?_
                refine cx_region' ?_
                refine sx_rd' (rd_move' rfl) rfl rfl (wt_none' rfl) ?_
                refine sx_rd' (rd_move' rfl) rfl rfl (wt_none' rfl) ?_
                refine sx_rd' (rd_move' rfl) rfl rfl (wt_none' rfl) ?_
                obtain ⟨r146, hr146, hp⟩ := bind_some hp
                refine sx_ox' (ox_fop' (.inr (.inr (.inl rfl))) (fl_f rfl) (fl_f rfl) (Option.some.inj hr146) rfl rfl) (wt_none' rfl) fun _ => ?_
                obtain ⟨r147, hr147, hp⟩ := bind_some hp
                refine sx_ox' (ox_fop' (.inr (.inl rfl)) (fl_f rfl) (fl_f rfl) (Option.some.inj hr147) rfl rfl) (wt_none' rfl) fun _ => ?_
                refine sx_rd' (rd_assign' rfl) rfl rfl (wt_none' rfl) ?_
                refine sx_nil' ?_
                show TX E K1004 _
                refine tx_k' hK1004 ?_
                refine cx_seq' fun K1005 hK1005 => ?_
                refine cx_region' ?_
                refine sx_rd' (rd_move' rfl) rfl rfl (wt_none' rfl) ?_
                refine sx_rd' (rd_move' rfl) rfl rfl (wt_none' rfl) ?_
                refine sx_rd' (rd_move' rfl) rfl rfl (wt_none' rfl) ?_
                obtain ⟨r151, hr151, hp⟩ := bind_some hp
                refine sx_ox' (ox_fop' (.inr (.inr (.inl rfl))) (fl_f rfl) (fl_f rfl) (Option.some.inj hr151) rfl rfl) (wt_none' rfl) fun _ => ?_
                obtain ⟨r152, hr152, hp⟩ := bind_some hp
                refine sx_ox' (ox_fop' (.inr (.inl rfl)) (fl_f rfl) (fl_f rfl) (Option.some.inj hr152) rfl rfl) (wt_none' rfl) fun _ => ?_
                refine sx_rd' (rd_assign' rfl) rfl rfl (wt_none' rfl) ?_
                refine sx_nil' ?_
                show TX E K1005 _
                refine tx_k' hK1005 ?_
                refine cx_seq' fun K1006 hK1006 => ?_
                refine cx_seq' fun K1007 hK1007 => ?_
                refine cx_region' ?_
                refine sx_rd' (rd_move' rfl) rfl rfl (wt_none' rfl) ?_
                refine sx_rd' (rd_fcmp' (fl_f rfl) (fl_v rfl) rfl) rfl rfl (wt_none' rfl) ?_
                refine sx_nil' ?_
                show TX E K1007 _
                refine tx_k' hK1007 ?_
                refine cx_cond' rfl (fun h298 => ?_) (fun h298 => ?_)
                · replace hp := (br_t h298).symm.trans hp
                  refine cx_seq' fun K1008 hK1008 => ?_
                  refine cx_region' ?_
                  refine sx_rd' (rd_move' rfl) rfl rfl (wt_none' rfl) ?_
                  refine sx_rd' (rd_un' rfl ru_ineg) rfl rfl (wt_none' rfl) ?_
                  refine sx_rd' (rd_assign' rfl) rfl rfl (wt_none' rfl) ?_
                  refine sx_nil' ?_
                  show TX E K1008 _
                  refine tx_k' hK1008 ?_
                  refine cx_retc' ?_
                  replace hp := Option.some.inj hp
                  subst hp
                  show TX E (Zg E Exit.ret _ Exit.ret) _
                  exact tx_zend' () rfl [] (sub_cons rfl sub_nil) (by decide) pick_nil
                · replace hp := (br_f h298).symm.trans hp
                  refine cx_skip' ?_
                  show TX E K1006 _
                  refine tx_k' hK1006 ?_
                  refine cx_seq' fun K1009 hK1009 => ?_
                  refine cx_seq' fun K1010 hK1010 => ?_
                  refine cx_region' ?_
                  refine sx_rd' (rd_move' rfl) rfl rfl (wt_none' rfl) ?_
                  refine sx_rd' (rd_move' rfl) rfl rfl (wt_none' rfl) ?_
                  refine sx_rd' (rd_fcmp' (fl_f rfl) (fl_f rfl) rfl) rfl rfl (wt_none' rfl) ?_
                  refine sx_nil' ?_
                  show TX E K1010 _
                  refine tx_k' hK1010 ?_
                  refine cx_cond' rfl (fun h299 => ?_) (fun h299 => ?_)
                  · replace hp := (br_t h299).symm.trans hp
                    refine cx_seq' fun K1011 hK1011 => ?_
                    refine cx_region' ?_
                    refine sx_rd' (rd_move' rfl) rfl rfl (wt_none' rfl) ?_
                    refine sx_rd' (rd_assign' rfl) rfl rfl (wt_none' rfl) ?_
                    refine sx_nil' ?_
                    show TX E K1011 _
                    refine tx_k' hK1011 ?_
                    refine cx_retc' ?_
                    replace hp := Option.some.inj hp
                    subst hp
                    show TX E (Zg E Exit.ret _ Exit.ret) _
                    exact tx_zend' () rfl [] (sub_cons rfl sub_nil) (by decide) pick_nil
                  · replace hp := (br_f h299).symm.trans hp
                    refine cx_skip' ?_
                    show TX E K1009 _
                    refine tx_k' hK1009 ?_
                    refine cx_join' (fun (v41 : Nat × Nat × Int) => (⟨253, [], [(0, (Fl x120)), (1, (Fl x121)), (2, (Fl v41.1)), (3, (Fl v41.2.1)), (11, (Vl (.int .i64 (iadd .i64 x124 1)))), (12, (Vl (.int .i64 v41.2.2)))], []⟩ : St)) (fun (v41 : Nat × Nat × Int) => robustdeterminate_SignOfDet2x2_j40 k x120 x121 rec1 x124 v41.1 v41.2.1 v41.2.2 = some y1) ?_ ?_
                    · rintro ⟨x114, x115, x116⟩ hp
                      replace hp : robustdeterminate_SignOfDet2x2_j40 k x120 x121 rec1 x124 x114 x115 x116 = some y1 := hp
                      unfold robustdeterminate_SignOfDet2x2_j40 at hp
                      refine cx_seq' fun K1021 hK1021 => ?_
                      refine cx_seq' fun K1022 hK1022 => ?_
                      refine cx_region' ?_
                      refine sx_rd' (rd_move' rfl) rfl rfl (wt_none' rfl) ?_
                      refine sx_rd' (rd_fcmp' (fl_f rfl) (fl_v rfl) rfl) rfl rfl (wt_none' rfl) ?_
                      refine sx_nil' ?_
                      show TX E K1022 _
                      refine tx_k' hK1022 ?_
                      refine cx_cond' rfl (fun h303 => ?_) (fun h303 => ?_)
                      · replace hp := (br_t h303).symm.trans hp
                        refine cx_seq' fun K1023 hK1023 => ?_
                        refine cx_seq' fun K1024 hK1024 => ?_
                        refine cx_region' ?_
                        refine sx_rd' (rd_move' rfl) rfl rfl (wt_none' rfl) ?_
                        refine sx_rd' (rd_fcmp' (fl_f rfl) (fl_v rfl) rfl) rfl rfl (wt_none' rfl) ?_
                        refine sx_nil' ?_
                        show TX E K1024 _
                        refine tx_k' hK1024 ?_
                        refine cx_cond' rfl (fun h304 => ?_) (fun h304 => ?_)
                        · replace hp := (br_t h304).symm.trans hp
                          refine cx_seq' fun K1025 hK1025 => ?_
                          refine cx_region' ?_
                          refine sx_rd' (rd_assign' rfl) rfl rfl (wt_none' rfl) ?_
                          refine sx_nil' ?_
                          show TX E K1025 _
                          refine tx_k' hK1025 ?_
                          refine cx_retc' ?_
                          replace hp := Option.some.inj hp
                          subst hp
                          show TX E (Zg E Exit.ret _ Exit.ret) _
                          exact tx_zend' () rfl [] (sub_cons rfl sub_nil) (by decide) pick_nil
                        · replace hp := (br_f h304).symm.trans hp
                          refine cx_skip' ?_
                          show TX E K1023 _
                          refine tx_k' hK1023 ?_
                          refine cx_seq' fun K1026 hK1026 => ?_
                          refine cx_region' ?_
                          refine sx_rd' (rd_move' rfl) rfl rfl (wt_none' rfl) ?_
                          refine sx_rd' (rd_un' rfl ru_ineg) rfl rfl (wt_none' rfl) ?_
                          refine sx_rd' (rd_assign' rfl) rfl rfl (wt_none' rfl) ?_
                          refine sx_nil' ?_
                          show TX E K1026 _
                          refine tx_k' hK1026 ?_
                          refine cx_retc' ?_
                          replace hp := Option.some.inj hp
                          subst hp
                          show TX E (Zg E Exit.ret _ Exit.ret) _
                          exact tx_zend' () rfl [] (sub_cons rfl sub_nil) (by decide) pick_nil
                      · replace hp := (br_f h303).symm.trans hp
                        refine cx_skip' ?_
                        show TX E K1021 _
                        refine tx_k' hK1021 ?_
                        refine cx_seq' fun K1027 hK1027 => ?_
                        refine cx_seq' fun K1028 hK1028 => ?_
                        refine cx_region' ?_
                        refine sx_rd' (rd_move' rfl) rfl rfl (wt_none' rfl) ?_
                        refine sx_rd' (rd_fcmp' (fl_f rfl) (fl_v rfl) rfl) rfl rfl (wt_none' rfl) ?_
                        refine sx_nil' ?_
                        show TX E K1028 _
                        refine tx_k' hK1028 ?_
                        refine cx_cond' rfl (fun h305 => ?_) (fun h305 => ?_)
                        · replace hp := (br_t h305).symm.trans hp
                          refine cx_seq' fun K1029 hK1029 => ?_
                          refine cx_region' ?_
                          refine sx_rd' (rd_move' rfl) rfl rfl (wt_none' rfl) ?_
                          refine sx_rd' (rd_assign' rfl) rfl rfl (wt_none' rfl) ?_
                          refine sx_nil' ?_
                          show TX E K1029 _
                          refine tx_k' hK1029 ?_
                          refine cx_retc' ?_
                          replace hp := Option.some.inj hp
                          subst hp
                          show TX E (Zg E Exit.ret _ Exit.ret) _
                          exact tx_zend' () rfl [] (sub_cons rfl sub_nil) (by decide) pick_nil
                        · replace hp := (br_f h305).symm.trans hp
                          refine cx_skip' ?_
                          show TX E K1027 _
                          refine tx_k' hK1027 ?_
                          refine cx_seq' fun K1030 hK1030 => ?_
                          refine cx_region' ?_
                          refine sx_rd' (rd_move' rfl) rfl rfl (wt_none' rfl) ?_
                          refine sx_rd' (rd_move' rfl) rfl rfl (wt_none' rfl) ?_
                          obtain ⟨r198, hr198, hp⟩ := bind_some hp
                          refine sx_ox' (ox_fop' (.inr (.inr (.inr rfl))) (fl_f rfl) (fl_f rfl) (Option.some.inj hr198) rfl rfl) (wt_none' rfl) fun _ => ?_
                          obtain ⟨u36, hu36, hp⟩ := bind_some hp
                          refine tx_slot' 198 (y := (Vl (.float .f64 r198))) rfl (imp_num (num_some hu36).2) ?_
                          obtain ⟨r199, hr199, hp⟩ := bind_some hp
                          refine sx_ox' (ox_calln' (ent_fn' Try.func134 isn134 rfl rfl) (math_Floor_sim _ hr199 : Go.Sx.Fn Try.prog 134 [(Vl (.float .f64 r198))] [] (fun x : Unit => (Fl r199)) (fun x => [])) (Hn := fun x : Unit => []) (fun _ => rfl) rfl rfl) (wt_none' rfl) fun ⟨⟩ => ?_
                          refine sx_rd' (rd_assign' rfl) rfl rfl (wt_none' rfl) ?_
                          refine sx_nil' ?_
                          show TX E K1030 _
                          refine tx_k' hK1030 ?_
                          refine cx_seq' fun K1031 hK1031 => ?_
                          refine cx_region' ?_
                          refine sx_rd' (rd_move' rfl) rfl rfl (wt_none' rfl) ?_
                          refine sx_rd' (rd_move' rfl) rfl rfl (wt_none' rfl) ?_
                          refine sx_rd' (rd_move' rfl) rfl rfl (wt_none' rfl) ?_
                          obtain ⟨r203, hr203, hp⟩ := bind_some hp
                          refine sx_ox' (ox_fop' (.inr (.inr (.inl rfl))) (fl_f rfl) (fl_f rfl) (Option.some.inj hr203) rfl rfl) (wt_none' rfl) fun _ => ?_
                          obtain ⟨r204, hr204, hp⟩ := bind_some hp
                          refine sx_ox' (ox_fop' (.inr (.inl rfl)) (fl_f rfl) (fl_f rfl) (Option.some.inj hr204) rfl rfl) (wt_none' rfl) fun _ => ?_
                          refine sx_rd' (rd_assign' rfl) rfl rfl (wt_none' rfl) ?_
                          refine sx_nil' ?_
                          show TX E K1031 _
                          refine tx_k' hK1031 ?_
                          refine cx_seq' fun K1032 hK1032 => ?_
                          refine cx_region' ?_
                          refine sx_rd' (rd_move' rfl) rfl rfl (wt_none' rfl) ?_
                          refine sx_rd' (rd_move' rfl) rfl rfl (wt_none' rfl) ?_
                          refine sx_rd' (rd_move' rfl) rfl rfl (wt_none' rfl) ?_
                          obtain ⟨r208, hr208, hp⟩ := bind_some hp
                          refine sx_ox' (ox_fop' (.inr (.inr (.inl rfl))) (fl_f rfl) (fl_f rfl) (Option.some.inj hr208) rfl rfl) (wt_none' rfl) fun _ => ?_
                          obtain ⟨r209, hr209, hp⟩ := bind_some hp
                          refine sx_ox' (ox_fop' (.inr (.inl rfl)) (fl_f rfl) (fl_f rfl) (Option.some.inj hr209) rfl rfl) (wt_none' rfl) fun _ => ?_
                          refine sx_rd' (rd_assign' rfl) rfl rfl (wt_none' rfl) ?_
                          refine sx_nil' ?_
                          show TX E K1032 _
                          refine tx_k' hK1032 ?_
                          refine cx_seq' fun K1033 hK1033 => ?_
                          refine cx_seq' fun K1034 hK1034 => ?_
                          refine cx_region' ?_
                          refine sx_rd' (rd_move' rfl) rfl rfl (wt_none' rfl) ?_
                          refine sx_rd' (rd_fcmp' (fl_f rfl) (fl_v rfl) rfl) rfl rfl (wt_none' rfl) ?_
                          refine sx_nil' ?_
                          show TX E K1034 _
                          refine tx_k' hK1034 ?_
                          refine cx_cond' rfl (fun h306 => ?_) (fun h306 => ?_)
                          · replace hp := (br_t h306).symm.trans hp
                            refine cx_seq' fun K1035 hK1035 => ?_
                            refine cx_region' ?_
                            refine sx_rd' (rd_move' rfl) rfl rfl (wt_none' rfl) ?_
                            refine sx_rd' (rd_assign' rfl) rfl rfl (wt_none' rfl) ?_
                            refine sx_nil' ?_
                            show TX E K1035 _
                            refine tx_k' hK1035 ?_
                            refine cx_retc' ?_
                            replace hp := Option.some.inj hp
                            subst hp
                            show TX E (Zg E Exit.ret _ Exit.ret) _
                            exact tx_zend' () rfl [] (sub_cons rfl sub_nil) (by decide) pick_nil
                          · replace hp := (br_f h306).symm.trans hp
                            refine cx_skip' ?_
                            show TX E K1033 _
                            refine tx_k' hK1033 ?_
                            refine cx_seq' fun K1036 hK1036 => ?_
                            refine cx_seq' fun K1037 hK1037 => ?_
                            refine cx_region' ?_
                            refine sx_rd' (rd_move' rfl) rfl rfl (wt_none' rfl) ?_
                            refine sx_rd' (rd_move' rfl) rfl rfl (wt_none' rfl) ?_
                            refine sx_rd' (rd_fcmp' (fl_f rfl) (fl_f rfl) rfl) rfl rfl (wt_none' rfl) ?_
                            refine sx_nil' ?_
                            show TX E K1037 _
                            refine tx_k' hK1037 ?_
                            refine cx_cond' rfl (fun h307 => ?_) (fun h307 => ?_)
                            · replace hp := (br_t h307).symm.trans hp
                              refine cx_seq' fun K1038 hK1038 => ?_
                              refine cx_region' ?_
                              refine sx_rd' (rd_move' rfl) rfl rfl (wt_none' rfl) ?_
                              refine sx_rd' (rd_un' rfl ru_ineg) rfl rfl (wt_none' rfl) ?_
                              refine sx_rd' (rd_assign' rfl) rfl rfl (wt_none' rfl) ?_
                              refine sx_nil' ?_
                              show TX E K1038 _
                              refine tx_k' hK1038 ?_
                              refine cx_retc' ?_
                              replace hp := Option.some.inj hp
                              subst hp
                              show TX E (Zg E Exit.ret _ Exit.ret) _
                              exact tx_zend' () rfl [] (sub_cons rfl sub_nil) (by decide) pick_nil
                            · replace hp := (br_f h307).symm.trans hp
                              refine cx_skip' ?_
                              show TX E K1036 _
                              refine tx_k' hK1036 ?_
                              refine cx_join' (fun (v42 : Nat × Nat × Int) => (⟨253, [], [(0, (Fl v42.1)), (1, (Fl v42.2.1)), (2, (Fl x114)), (3, (Fl x115)), (11, (Vl (.int .i64 (iadd .i64 x124 1)))), (12, (Vl (.int .i64 v42.2.2)))], []⟩ : St)) (fun (v42 : Nat × Nat × Int) => robustdeterminate_SignOfDet2x2_j41 k rec1 x114 x115 x124 v42.1 v42.2.1 v42.2.2 = some y1) ?_ ?_
                              · rintro ⟨x117, x118, x119⟩ hp
                                replace hp : robustdeterminate_SignOfDet2x2_j41 k rec1 x114 x115 x124 x117 x118 x119 = some y1 := hp
                                unfold robustdeterminate_SignOfDet2x2_j41 at hp
                                refine cx_seq' fun K1048 hK1048 => ?_
                                refine cx_seq' fun K1049 hK1049 => ?_
                                refine cx_region' ?_
                                refine sx_rd' (rd_move' rfl) rfl rfl (wt_none' rfl) ?_
                                refine sx_rd' (rd_fcmp' (fl_f rfl) (fl_v rfl) rfl) rfl rfl (wt_none' rfl) ?_
                                refine sx_nil' ?_
                                show TX E K1049 _
                                refine tx_k' hK1049 ?_
                                refine cx_cond' rfl (fun h311 => ?_) (fun h311 => ?_)
                                · replace hp := (br_t h311).symm.trans hp
                                  refine cx_seq' fun K1050 hK1050 => ?_
                                  refine cx_seq' fun K1051 hK1051 => ?_
                                  refine cx_region' ?_
                                  refine sx_rd' (rd_move' rfl) rfl rfl (wt_none' rfl) ?_
                                  refine sx_rd' (rd_fcmp' (fl_f rfl) (fl_v rfl) rfl) rfl rfl (wt_none' rfl) ?_
                                  refine sx_nil' ?_
                                  show TX E K1051 _
                                  refine tx_k' hK1051 ?_
                                  refine cx_cond' rfl (fun h312 => ?_) (fun h312 => ?_)
                                  · replace hp := (br_t h312).symm.trans hp
                                    refine cx_seq' fun K1052 hK1052 => ?_
                                    refine cx_region' ?_
                                    refine sx_rd' (rd_assign' rfl) rfl rfl (wt_none' rfl) ?_
                                    refine sx_nil' ?_
                                    show TX E K1052 _
                                    refine tx_k' hK1052 ?_
                                    refine cx_retc' ?_
                                    replace hp := Option.some.inj hp
                                    subst hp
                                    show TX E (Zg E Exit.ret _ Exit.ret) _
                                    exact tx_zend' () rfl [] (sub_cons rfl sub_nil) (by decide) pick_nil
                                  · replace hp := (br_f h312).symm.trans hp
                                    refine cx_skip' ?_
                                    show TX E K1050 _
                                    refine tx_k' hK1050 ?_
                                    refine cx_seq' fun K1053 hK1053 => ?_
                                    refine cx_region' ?_
                                    refine sx_rd' (rd_move' rfl) rfl rfl (wt_none' rfl) ?_
                                    refine sx_rd' (rd_assign' rfl) rfl rfl (wt_none' rfl) ?_
                                    refine sx_nil' ?_
                                    show TX E K1053 _
                                    refine tx_k' hK1053 ?_
                                    refine cx_retc' ?_
                                    replace hp := Option.some.inj hp
                                    subst hp
                                    show TX E (Zg E Exit.ret _ Exit.ret) _
                                    exact tx_zend' () rfl [] (sub_cons rfl sub_nil) (by decide) pick_nil
                                · replace hp := (br_f h311).symm.trans hp
                                  refine cx_skip' ?_
                                  show TX E K1048 _
                                  refine tx_k' hK1048 ?_
                                  refine cx_seq' fun K1054 hK1054 => ?_
                                  refine cx_region' ?_
                                  refine sx_rd' (rd_move' rfl) rfl rfl (wt_none' rfl) ?_
                                  refine sx_rd' (rd_fcmp' (fl_f rfl) (fl_v rfl) rfl) rfl rfl (wt_none' rfl) ?_
                                  refine sx_nil' ?_
                                  show TX E K1054 _
                                  refine tx_k' hK1054 ?_
                                  refine cx_cond' rfl (fun h313 => ?_) (fun h313 => ?_)
                                  · replace hp := (br_t h313).symm.trans hp
                                    refine cx_seq' fun K1055 hK1055 => ?_
                                    refine cx_region' ?_
                                    refine sx_rd' (rd_move' rfl) rfl rfl (wt_none' rfl) ?_
                                    refine sx_rd' (rd_un' rfl ru_ineg) rfl rfl (wt_none' rfl) ?_
                                    refine sx_rd' (rd_assign' rfl) rfl rfl (wt_none' rfl) ?_
                                    refine sx_nil' ?_
                                    show TX E K1055 _
                                    refine tx_k' hK1055 ?_
                                    refine cx_retc' ?_
                                    replace hp := Option.some.inj hp
                                    subst hp
                                    show TX E (Zg E Exit.ret _ Exit.ret) _
                                    exact tx_zend' () rfl [] (sub_cons rfl sub_nil) (by decide) pick_nil
                                  · replace hp := (br_f h313).symm.trans hp
                                    refine cx_skip' ?_
                                    show TX E (KY1 _) _
                                    exact tx_pick' [] (sub_cons rfl (sub_cons rfl (sub_cons rfl (sub_cons rfl (sub_cons rfl (sub_cons rfl sub_nil)))))) (by decide) pick_nil (ih1 (x117, x118, x114, x115, (iadd .i64 x124 1), x119) () _ hp)
                              · intro K1039 hK1039
                                refine cx_seq' fun K1040 hK1040 => ?_
                                refine cx_region' ?_
                                refine sx_rd' (rd_move' rfl) rfl rfl (wt_none' rfl) ?_
                                refine sx_rd' (rd_move' rfl) rfl rfl (wt_none' rfl) ?_
                                refine sx_rd' (rd_move' rfl) rfl rfl (wt_none' rfl) ?_
                                obtain ⟨r221, hr221, hp⟩ := bind_some hp
                                refine sx_ox' (ox_fop' (.inl rfl) (fl_f rfl) (fl_f rfl) (Option.some.inj hr221) rfl rfl) (wt_none' rfl) fun _ => ?_
                                refine sx_rd' (rd_fcmp' (fl_f rfl) (fl_f rfl) rfl) rfl rfl (wt_none' rfl) ?_
                                refine sx_nil' ?_
                                show TX E K1040 _
                                refine tx_k' hK1040 ?_
                                refine cx_cond' rfl (fun h308 => ?_) (fun h308 => ?_)
                                · replace hp := (br_t h308).symm.trans hp
                                  refine cx_seq' fun K1041 hK1041 => ?_
                                  refine cx_region' ?_
                                  refine sx_rd' (rd_move' rfl) rfl rfl (wt_none' rfl) ?_
                                  refine sx_rd' (rd_move' rfl) rfl rfl (wt_none' rfl) ?_
                                  refine sx_rd' (rd_move' rfl) rfl rfl (wt_none' rfl) ?_
                                  obtain ⟨r226, hr226, hp⟩ := bind_some hp
                                  refine sx_ox' (ox_fop' (.inl rfl) (fl_f rfl) (fl_f rfl) (Option.some.inj hr226) rfl rfl) (wt_none' rfl) fun _ => ?_
                                  refine sx_rd' (rd_fcmp' (fl_f rfl) (fl_f rfl) rfl) rfl rfl (wt_none' rfl) ?_
                                  refine sx_nil' ?_
                                  show TX E K1041 _
                                  refine tx_k' hK1041 ?_
                                  refine cx_cond' rfl (fun h309 => ?_) (fun h309 => ?_)
                                  · replace hp := (br_t h309).symm.trans hp
                                    refine cx_seq' fun K1042 hK1042 => ?_
                                    refine cx_region' ?_
                                    refine sx_rd' (rd_move' rfl) rfl rfl (wt_none' rfl) ?_
                                    refine sx_rd' (rd_un' rfl ru_ineg) rfl rfl (wt_none' rfl) ?_
                                    refine sx_rd' (rd_assign' rfl) rfl rfl (wt_none' rfl) ?_
                                    refine sx_nil' ?_
                                    show TX E K1042 _
                                    refine tx_k' hK1042 ?_
                                    refine cx_retc' ?_
                                    replace hp := Option.some.inj hp
                                    subst hp
                                    show TX E (Zg E Exit.ret _ Exit.ret) _
                                    exact tx_zend' () rfl [] (sub_cons rfl sub_nil) (by decide) pick_nil
                                  · replace hp := (br_f h309).symm.trans hp
                                    refine cx_skip' ?_
                                    show TX E K1039 _
                                    exact tx_pick' [] (sub_cons rfl (sub_cons rfl (sub_cons rfl (sub_cons rfl (sub_cons rfl (sub_cons rfl sub_nil)))))) (by decide) pick_nil (hK1039 (r204, r209, x116) hp)
                                · replace hp := (br_f h308).symm.trans hp
                                  refine cx_seq' fun K1043 hK1043 => ?_
                                  refine cx_seq' fun K1044 hK1044 => ?_
                                  refine cx_region' ?_
                                  refine sx_rd' (rd_move' rfl) rfl rfl (wt_none' rfl) ?_
                                  refine sx_rd' (rd_move' rfl) rfl rfl (wt_none' rfl) ?_
                                  refine sx_rd' (rd_move' rfl) rfl rfl (wt_none' rfl) ?_
                                  obtain ⟨r233, hr233, hp⟩ := bind_some hp
                                  refine sx_ox' (ox_fop' (.inl rfl) (fl_f rfl) (fl_f rfl) (Option.some.inj hr233) rfl rfl) (wt_none' rfl) fun _ => ?_
                                  refine sx_rd' (rd_fcmp' (fl_f rfl) (fl_f rfl) rfl) rfl rfl (wt_none' rfl) ?_
                                  refine sx_nil' ?_
                                  show TX E K1044 _
                                  refine tx_k' hK1044 ?_
                                  refine cx_cond' rfl (fun h310 => ?_) (fun h310 => ?_)
                                  · replace hp := (br_t h310).symm.trans hp
                                    refine cx_seq' fun K1045 hK1045 => ?_
                                    refine cx_region' ?_
                                    refine sx_rd' (rd_move' rfl) rfl rfl (wt_none' rfl) ?_
                                    refine sx_rd' (rd_assign' rfl) rfl rfl (wt_none' rfl) ?_
                                    refine sx_nil' ?_
                                    show TX E K1045 _
                                    refine tx_k' hK1045 ?_
                                    refine cx_retc' ?_
                                    replace hp := Option.some.inj hp
                                    subst hp
                                    show TX E (Zg E Exit.ret _ Exit.ret) _
                                    exact tx_zend' () rfl [] (sub_cons rfl sub_nil) (by decide) pick_nil
                                  · replace hp := (br_f h310).symm.trans hp
                                    refine cx_skip' ?_
                                    show TX E K1043 _
                                    refine tx_k' hK1043 ?_
                                    refine cx_seq' fun K1046 hK1046 => ?_
                                    refine cx_region' ?_
                                    refine sx_rd' (rd_move' rfl) rfl rfl (wt_none' rfl) ?_
                                    refine sx_rd' (rd_move' rfl) rfl rfl (wt_none' rfl) ?_
                                    obtain ⟨r238, hr238, hp⟩ := bind_some hp
                                    refine sx_ox' (ox_fop' (.inr (.inl rfl)) (fl_f rfl) (fl_f rfl) (Option.some.inj hr238) rfl rfl) (wt_none' rfl) fun _ => ?_
                                    refine sx_rd' (rd_assign' rfl) rfl rfl (wt_none' rfl) ?_
                                    refine sx_nil' ?_
                                    show TX E K1046 _
                                    refine tx_k' hK1046 ?_
                                    refine cx_seq' fun K1047 hK1047 => ?_
                                    refine cx_region' ?_
                                    refine sx_rd' (rd_move' rfl) rfl rfl (wt_none' rfl) ?_
                                    refine sx_rd' (rd_move' rfl) rfl rfl (wt_none' rfl) ?_
                                    obtain ⟨r241, hr241, hp⟩ := bind_some hp
                                    refine sx_ox' (ox_fop' (.inr (.inl rfl)) (fl_f rfl) (fl_f rfl) (Option.some.inj hr241) rfl rfl) (wt_none' rfl) fun _ => ?_
                                    refine sx_rd' (rd_assign' rfl) rfl rfl (wt_none' rfl) ?_
                                    refine sx_nil' ?_
                                    show TX E K1047 _
                                    refine tx_k' hK1047 ?_
                                    refine cx_region' ?_
                                    refine sx_rd' (rd_move' rfl) rfl rfl (wt_none' rfl) ?_
                                    refine sx_rd' (rd_un' rfl ru_ineg) rfl rfl (wt_none' rfl) ?_
                                    refine sx_rd' (rd_assign' rfl) rfl rfl (wt_none' rfl) ?_
                                    refine sx_nil' ?_
                                    show TX E K1039 _
                                    exact tx_pick' [] (sub_cons rfl (sub_cons rfl (sub_cons rfl (sub_cons rfl (sub_cons rfl (sub_cons rfl sub_nil)))))) (by decide) pick_nil (hK1039 (r238, r241, (isub .i64 0 x116)) hp)
                    · intro K1012 hK1012
                      refine cx_seq' fun K1013 hK1013 => ?_
                      refine cx_region' ?_
                      refine sx_rd' (rd_move' rfl) rfl rfl (wt_none' rfl) ?_
                      refine sx_rd' (rd_move' rfl) rfl rfl (wt_none' rfl) ?_
                      refine sx_rd' (rd_move' rfl) rfl rfl (wt_none' rfl) ?_
                      obtain ⟨r164, hr164, hp⟩ := bind_some hp
                      refine sx_ox' (ox_fop' (.inl rfl) (fl_f rfl) (fl_f rfl) (Option.some.inj hr164) rfl rfl) (wt_none' rfl) fun _ => ?_
                      refine sx_rd' (rd_fcmp' (fl_f rfl) (fl_f rfl) rfl) rfl rfl (wt_none' rfl) ?_
                      refine sx_nil' ?_
                      show TX E K1013 _
                      refine tx_k' hK1013 ?_
                      refine cx_cond' rfl (fun h300 => ?_) (fun h300 => ?_)
                      · replace hp := (br_t h300).symm.trans hp
                        refine cx_seq' fun K1014 hK1014 => ?_
                        refine cx_region' ?_
                        refine sx_rd' (rd_move' rfl) rfl rfl (wt_none' rfl) ?_
                        refine sx_rd' (rd_move' rfl) rfl rfl (wt_none' rfl) ?_
                        refine sx_rd' (rd_move' rfl) rfl rfl (wt_none' rfl) ?_
                        obtain ⟨r169, hr169, hp⟩ := bind_some hp
                        refine sx_ox' (ox_fop' (.inl rfl) (fl_f rfl) (fl_f rfl) (Option.some.inj hr169) rfl rfl) (wt_none' rfl) fun _ => ?_
                        refine sx_rd' (rd_fcmp' (fl_f rfl) (fl_f rfl) rfl) rfl rfl (wt_none' rfl) ?_
                        refine sx_nil' ?_
                        show TX E K1014 _
                        refine tx_k' hK1014 ?_
                        refine cx_cond' rfl (fun h301 => ?_) (fun h301 => ?_)
                        · replace hp := (br_t h301).symm.trans hp
                          refine cx_seq' fun K1015 hK1015 => ?_
                          refine cx_region' ?_
                          refine sx_rd' (rd_move' rfl) rfl rfl (wt_none' rfl) ?_
                          refine sx_rd' (rd_assign' rfl) rfl rfl (wt_none' rfl) ?_
                          refine sx_nil' ?_
                          show TX E K1015 _
                          refine tx_k' hK1015 ?_
                          refine cx_retc' ?_
                          replace hp := Option.some.inj hp
                          subst hp
                          show TX E (Zg E Exit.ret _ Exit.ret) _
                          exact tx_zend' () rfl [] (sub_cons rfl sub_nil) (by decide) pick_nil
                        · replace hp := (br_f h301).symm.trans hp
                          refine cx_skip' ?_
                          show TX E K1012 _
                          exact tx_pick' [] (sub_cons rfl (sub_cons rfl (sub_cons rfl (sub_cons rfl (sub_cons rfl (sub_cons rfl sub_nil)))))) (by decide) pick_nil (hK1012 (r147, r152, x125) hp)
                      · replace hp := (br_f h300).symm.trans hp
                        refine cx_seq' fun K1016 hK1016 => ?_
                        refine cx_seq' fun K1017 hK1017 => ?_
                        refine cx_region' ?_
                        refine sx_rd' (rd_move' rfl) rfl rfl (wt_none' rfl) ?_
                        refine sx_rd' (rd_move' rfl) rfl rfl (wt_none' rfl) ?_
                        refine sx_rd' (rd_move' rfl) rfl rfl (wt_none' rfl) ?_
                        obtain ⟨r175, hr175, hp⟩ := bind_some hp
                        refine sx_ox' (ox_fop' (.inl rfl) (fl_f rfl) (fl_f rfl) (Option.some.inj hr175) rfl rfl) (wt_none' rfl) fun _ => ?_
                        refine sx_rd' (rd_fcmp' (fl_f rfl) (fl_f rfl) rfl) rfl rfl (wt_none' rfl) ?_
                        refine sx_nil' ?_
                        show TX E K1017 _
                        refine tx_k' hK1017 ?_
                        refine cx_cond' rfl (fun h302 => ?_) (fun h302 => ?_)
                        · replace hp := (br_t h302).symm.trans hp
                          refine cx_seq' fun K1018 hK1018 => ?_
                          refine cx_region' ?_
                          refine sx_rd' (rd_move' rfl) rfl rfl (wt_none' rfl) ?_
                          refine sx_rd' (rd_un' rfl ru_ineg) rfl rfl (wt_none' rfl) ?_
                          refine sx_rd' (rd_assign' rfl) rfl rfl (wt_none' rfl) ?_
                          refine sx_nil' ?_
                          show TX E K1018 _
                          refine tx_k' hK1018 ?_
                          refine cx_retc' ?_
                          replace hp := Option.some.inj hp
                          subst hp
                          show TX E (Zg E Exit.ret _ Exit.ret) _
                          exact tx_zend' () rfl [] (sub_cons rfl sub_nil) (by decide) pick_nil
                        · replace hp := (br_f h302).symm.trans hp
                          refine cx_skip' ?_
                          show TX E K1016 _
                          refine tx_k' hK1016 ?_
                          refine cx_seq' fun K1019 hK1019 => ?_
                          refine cx_region' ?_
                          refine sx_rd' (rd_move' rfl) rfl rfl (wt_none' rfl) ?_
                          refine sx_rd' (rd_move' rfl) rfl rfl (wt_none' rfl) ?_
                          obtain ⟨r181, hr181, hp⟩ := bind_some hp
                          refine sx_ox' (ox_fop' (.inr (.inl rfl)) (fl_f rfl) (fl_f rfl) (Option.some.inj hr181) rfl rfl) (wt_none' rfl) fun _ => ?_
                          refine sx_rd' (rd_assign' rfl) rfl rfl (wt_none' rfl) ?_
                          refine sx_nil' ?_
                          show TX E K1019 _
                          refine tx_k' hK1019 ?_
                          refine cx_seq' fun K1020 hK1020 => ?_
                          refine cx_region' ?_
                          refine sx_rd' (rd_move' rfl) rfl rfl (wt_none' rfl) ?_
                          refine sx_rd' (rd_move' rfl) rfl rfl (wt_none' rfl) ?_
                          obtain ⟨r184, hr184, hp⟩ := bind_some hp
                          refine sx_ox' (ox_fop' (.inr (.inl rfl)) (fl_f rfl) (fl_f rfl) (Option.some.inj hr184) rfl rfl) (wt_none' rfl) fun _ => ?_
                          refine sx_rd' (rd_assign' rfl) rfl rfl (wt_none' rfl) ?_
                          refine sx_nil' ?_
                          show TX E K1020 _
                          refine tx_k' hK1020 ?_
                          refine cx_region' ?_
                          refine sx_rd' (rd_move' rfl) rfl rfl (wt_none' rfl) ?_
                          refine sx_rd' (rd_un' rfl ru_ineg) rfl rfl (wt_none' rfl) ?_
                          refine sx_rd' (rd_assign' rfl) rfl rfl (wt_none' rfl) ?_
                          refine sx_nil' ?_
                          show TX E K1012 _
                          exact tx_pick' [] (sub_cons rfl (sub_cons rfl (sub_cons rfl (sub_cons rfl (sub_cons rfl (sub_cons rfl sub_nil)))))) (by decide) pick_nil (hK1012 (r181, r184, (isub .i64 0 x125)) hp)
              · refine zg_out fun w43 => ?_
                replace hp := Option.some.inj hp
                subst hp
                refine tx_pick' (L' := [(8, (Vl (.int .i64 v43)))]) (H' := []) [] (sub_cons rfl sub_nil) (by decide) pick_nil ?_
                exact tx_ret1' Try.results92 rfl () (rv_tmp' rfl) (List.Sublist.refl _)
            · intro K71 hK71
              refine cx_seq' fun K72 hK72 => ?_
              refine cx_region' ?_
              refine sx_rd' (rd_move' rfl) rfl rfl (wt_none' rfl) ?_
              refine sx_rd' (rd_bin' rfl rfl eg_flt ru_flt) rfl rfl (wt_none' rfl) ?_
              refine sx_nil' ?_
              show TX E K72 _
              refine tx_k' hK72 ?_
              refine cx_cond' rfl (fun h20 => ?_) (fun h20 => ?_)
              · replace hp := (br_t h20).symm.trans hp
                refine cx_seq' fun K73 hK73 => ?_
                refine cx_region' ?_
                refine sx_rd' (rd_move' rfl) rfl rfl (wt_none' rfl) ?_
                refine sx_rd' (rd_bin' rfl rfl eg_flt ru_flt) rfl rfl (wt_none' rfl) ?_
                refine sx_nil' ?_
                show TX E K73 _
                refine tx_k' hK73 ?_
                refine cx_cond' rfl (fun h21 => ?_) (fun h21 => ?_)
                · replace hp := (br_t h21).symm.trans hp
                  refine cx_seq' fun K74 hK74 => ?_
                  refine cx_region' ?_
                  refine sx_rd' (rd_move' rfl) rfl rfl (wt_none' rfl) ?_
                  refine sx_rd' (rd_move' rfl) rfl rfl (wt_none' rfl) ?_
                  refine sx_rd' (rd_bin' rfl rfl eg_flt ru_fgt) rfl rfl (wt_none' rfl) ?_
                  refine sx_nil' ?_
                  show TX E K74 _
                  refine tx_k' hK74 ?_
                  refine cx_cond' rfl (fun h22 => ?_) (fun h22 => ?_)
                  · replace hp := (br_t h22).symm.trans hp
                    refine cx_seq' fun K75 hK75 => ?_
                    refine cx_region' ?_
                    refine sx_rd' (rd_move' rfl) rfl rfl (wt_none' rfl) ?_
                    refine sx_rd' (rd_assign' rfl) rfl rfl (wt_none' rfl) ?_
                    refine sx_nil' ?_
                    show TX E K75 _
                    refine tx_k' hK75 ?_
                    refine cx_retc' ?_
                    replace hp := Option.some.inj hp
                    subst hp
                    refine tx_pick' (L' := [(8, (Vl (.int .i64 x8)))]) (H' := []) [] (sub_cons rfl sub_nil) (by decide) pick_nil ?_
                    exact tx_ret1' Try.results92 rfl () (rv_tmp' rfl) (List.Sublist.refl _)
                  · replace hp := (br_f h22).symm.trans hp
                    refine cx_skip' ?_
                    show TX E K71 _
                    exact tx_pick' [] (sub_cons rfl (sub_cons rfl (sub_cons rfl (sub_cons rfl (sub_cons rfl (sub_cons rfl sub_nil)))))) (by decide) pick_nil (hK71 (x4, x6, x8) hp)
                · replace hp := (br_f h21).symm.trans hp
                  refine cx_seq' fun K76 hK76 => ?_
                  refine cx_region' ?_
                  refine sx_rd' (rd_move' rfl) rfl rfl (wt_none' rfl) ?_
                  refine sx_rd' (rd_assign' rfl) rfl rfl (wt_none' rfl) ?_
                  refine sx_nil' ?_
                  show TX E K76 _
                  refine tx_k' hK76 ?_
                  refine cx_retc' ?_
                  replace hp := Option.some.inj hp
                  subst hp
                  refine tx_pick' (L' := [(8, (Vl (.int .i64 x8)))]) (H' := []) [] (sub_cons rfl sub_nil) (by decide) pick_nil ?_
                  exact tx_ret1' Try.results92 rfl () (rv_tmp' rfl) (List.Sublist.refl _)
              · replace hp := (br_f h20).symm.trans hp
                refine cx_seq' fun K77 hK77 => ?_
                refine cx_seq' fun K78 hK78 => ?_
                refine cx_region' ?_
                refine sx_rd' (rd_move' rfl) rfl rfl (wt_none' rfl) ?_
                refine sx_rd' (rd_bin' rfl rfl eg_flt ru_flt) rfl rfl (wt_none' rfl) ?_
                refine sx_nil' ?_
                show TX E K78 _
                refine tx_k' hK78 ?_
                refine cx_cond' rfl (fun h23 => ?_) (fun h23 => ?_)
                · replace hp := (br_t h23).symm.trans hp
                  refine cx_seq' fun K79 hK79 => ?_
                  refine cx_region' ?_
                  refine sx_rd' (rd_move' rfl) rfl rfl (wt_none' rfl) ?_
                  refine sx_rd' (rd_un' rfl ru_ineg) rfl rfl (wt_none' rfl) ?_
                  refine sx_rd' (rd_assign' rfl) rfl rfl (wt_none' rfl) ?_
                  refine sx_nil' ?_
                  show TX E K79 _
                  refine tx_k' hK79 ?_
                  refine cx_retc' ?_
                  replace hp := Option.some.inj hp
                  subst hp
                  refine tx_pick' (L' := [(8, (Vl (.int .i64 (isub .i64 0 x8))))]) (H' := []) [] (sub_cons rfl sub_nil) (by decide) pick_nil ?_
                  exact tx_ret1' Try.results92 rfl () (rv_tmp' rfl) (List.Sublist.refl _)
                · replace hp := (br_f h23).symm.trans hp
                  refine cx_skip' ?_
                  show TX E K77 _
                  refine tx_k' hK77 ?_
                  refine cx_seq' fun K80 hK80 => ?_
                  refine cx_region' ?_
                  refine sx_rd' (rd_move' rfl) rfl rfl (wt_none' rfl) ?_
                  refine sx_rd' (rd_move' rfl) rfl rfl (wt_none' rfl) ?_
                  refine sx_rd' (rd_bin' rfl rfl eg_flt ru_fge) rfl rfl (wt_none' rfl) ?_
                  refine sx_nil' ?_
                  show TX E K80 _
                  refine tx_k' hK80 ?_
                  refine cx_cond' rfl (fun h24 => ?_) (fun h24 => ?_)
                  · replace hp := (br_t h24).symm.trans hp
                    refine cx_seq' fun K81 hK81 => ?_
                    refine cx_region' ?_
                    refine sx_rd' (rd_move' rfl) rfl rfl (wt_none' rfl) ?_
                    refine sx_rd' (rd_un' rfl ru_ineg) rfl rfl (wt_none' rfl) ?_
                    refine sx_rd' (rd_assign' rfl) rfl rfl (wt_none' rfl) ?_
                    refine sx_nil' ?_
                    show TX E K81 _
                    refine tx_k' hK81 ?_
                    refine cx_seq' fun K82 hK82 => ?_
                    refine cx_region' ?_
                    refine sx_rd' (rd_move' rfl) rfl rfl (wt_none' rfl) ?_
                    refine sx_rd' (rd_un' rfl ru_fneg) rfl rfl (wt_none' rfl) ?_
                    refine sx_rd' (rd_assign' rfl) rfl rfl (wt_none' rfl) ?_
                    refine sx_nil' ?_
                    show TX E K82 _
                    refine tx_k' hK82 ?_
                    refine cx_region' ?_
                    refine sx_rd' (rd_move' rfl) rfl rfl (wt_none' rfl) ?_
                    refine sx_rd' (rd_un' rfl ru_fneg) rfl rfl (wt_none' rfl) ?_
                    refine sx_rd' (rd_assign' rfl) rfl rfl (wt_none' rfl) ?_
                    refine sx_nil' ?_
                    show TX E K71 _
                    exact tx_pick' [] (sub_cons rfl (sub_cons rfl (sub_cons rfl (sub_cons rfl (sub_cons rfl (sub_cons rfl sub_nil)))))) (by decide) pick_nil (hK71 ((fneg x4), (fneg x6), (isub .i64 0 x8)) hp)
                  · replace hp := (br_f h24).symm.trans hp
                    refine cx_seq' fun K83 hK83 => ?_
                    refine cx_region' ?_
                    refine sx_rd' (rd_move' rfl) rfl rfl (wt_none' rfl) ?_
                    refine sx_rd' (rd_un' rfl ru_ineg) rfl rfl (wt_none' rfl) ?_
                    refine sx_rd' (rd_assign' rfl) rfl rfl (wt_none' rfl) ?_
                    refine sx_nil' ?_
                    show TX E K83 _
                    refine tx_k' hK83 ?_
                    refine cx_retc' ?_
                    replace hp := Option.some.inj hp
                    subst hp
                    refine tx_pick' (L' := [(8, (Vl (.int .i64 (isub .i64 0 x8))))]) (H' := []) [] (sub_cons rfl sub_nil) (by decide) pick_nil ?_
                    exact tx_ret1' Try.results92 rfl () (rv_tmp' rfl) (List.Sublist.refl _)
          · intro K34 hK34
            refine cx_seq' fun K35 hK35 => ?_
            refine cx_region' ?_
            refine sx_rd' (rd_move' rfl) rfl rfl (wt_none' rfl) ?_
            refine sx_rd' (rd_bin' rfl rfl eg_flt ru_flt) rfl rfl (wt_none' rfl) ?_
            refine sx_nil' ?_
            show TX E K35 _
            refine tx_k' hK35 ?_
            refine cx_cond' rfl (fun h13 => ?_) (fun h13 => ?_)
            · replace hp := (br_t h13).symm.trans hp
              refine cx_seq' fun K36 hK36 => ?_
              refine cx_region' ?_
              refine sx_rd' (rd_move' rfl) rfl rfl (wt_none' rfl) ?_
              refine sx_rd' (rd_bin' rfl rfl eg_flt ru_flt) rfl rfl (wt_none' rfl) ?_
              refine sx_nil' ?_
              show TX E K36 _
              refine tx_k' hK36 ?_
              refine cx_cond' rfl (fun h14 => ?_) (fun h14 => ?_)
              · replace hp := (br_t h14).symm.trans hp
                refine cx_seq' fun K37 hK37 => ?_
                refine cx_region' ?_
                refine sx_rd' (rd_move' rfl) rfl rfl (wt_none' rfl) ?_
                refine sx_rd' (rd_move' rfl) rfl rfl (wt_none' rfl) ?_
                refine sx_rd' (rd_bin' rfl rfl eg_flt ru_fgt) rfl rfl (wt_none' rfl) ?_
                refine sx_nil' ?_
                show TX E K37 _
                refine tx_k' hK37 ?_
                refine cx_cond' rfl (fun h15 => ?_) (fun h15 => ?_)
                · replace hp := (br_t h15).symm.trans hp
                  refine cx_seq' fun K38 hK38 => ?_
                  refine cx_region' ?_
                  refine sx_rd' (rd_assign' rfl) rfl rfl (wt_none' rfl) ?_
                  refine sx_nil' ?_
                  show TX E K38 _
                  refine tx_k' hK38 ?_
                  refine cx_seq' fun K39 hK39 => ?_
                  refine cx_region' ?_
                  refine sx_rd' (rd_move' rfl) rfl rfl (wt_none' rfl) ?_
                  refine sx_rd' (rd_assign' rfl) rfl rfl (wt_none' rfl) ?_
                  refine sx_nil' ?_
                  show TX E K39 _
                  refine tx_k' hK39 ?_
                  refine cx_seq' fun K40 hK40 => ?_
                  refine cx_region' ?_
                  refine sx_rd' (rd_move' rfl) rfl rfl (wt_none' rfl) ?_
                  refine sx_rd' (rd_assign' rfl) rfl rfl (wt_none' rfl) ?_
                  refine sx_nil' ?_
                  show TX E K40 _
                  refine tx_k' hK40 ?_
                  refine cx_seq' fun K41 hK41 => ?_
                  refine cx_region' ?_
                  refine sx_rd' (rd_move' rfl) rfl rfl (wt_none' rfl) ?_
                  refine sx_rd' (rd_assign' rfl) rfl rfl (wt_none' rfl) ?_
                  refine sx_nil' ?_
                  show TX E K41 _
                  refine tx_k' hK41 ?_
                  refine cx_seq' fun K42 hK42 => ?_
                  refine cx_region' ?_
                  refine sx_rd' (rd_move' rfl) rfl rfl (wt_none' rfl) ?_
                  refine sx_rd' (rd_assign' rfl) rfl rfl (wt_none' rfl) ?_
                  refine sx_nil' ?_
                  show TX E K42 _
                  refine tx_k' hK42 ?_
                  refine cx_seq' fun K43 hK43 => ?_
                  refine cx_region' ?_
                  refine sx_rd' (rd_move' rfl) rfl rfl (wt_none' rfl) ?_
                  refine sx_rd' (rd_assign' rfl) rfl rfl (wt_none' rfl) ?_
                  refine sx_nil' ?_
                  show TX E K43 _
                  refine tx_k' hK43 ?_
                  refine cx_region' ?_
                  refine sx_rd' (rd_move' rfl) rfl rfl (wt_none' rfl) ?_
                  refine sx_rd' (rd_assign' rfl) rfl rfl (wt_none' rfl) ?_
                  refine sx_nil' ?_
                  show TX E K34 _
                  exact tx_pick' [] (sub_cons rfl (sub_cons rfl (sub_cons rfl (sub_cons rfl (sub_cons rfl (sub_cons rfl sub_nil)))))) (by decide) pick_nil (hK34 (a2, a3, a0, a1, (-1)) hp)
                · replace hp := (br_f h15).symm.trans hp
                  refine cx_skip' ?_
                  show TX E K34 _
                  exact tx_pick' [] (sub_cons rfl (sub_cons rfl (sub_cons rfl (sub_cons rfl (sub_cons rfl (sub_cons rfl sub_nil)))))) (by decide) pick_nil (hK34 (a0, a1, a2, a3, 1) hp)
              · replace hp := (br_f h14).symm.trans hp
                refine cx_seq' fun K44 hK44 => ?_
                refine cx_region' ?_
                refine sx_rd' (rd_move' rfl) rfl rfl (wt_none' rfl) ?_
                refine sx_rd' (rd_move' rfl) rfl rfl (wt_none' rfl) ?_
                refine sx_rd' (rd_un' rfl ru_fneg) rfl rfl (wt_none' rfl) ?_
                refine sx_rd' (rd_bin' rfl rfl eg_flt ru_fle) rfl rfl (wt_none' rfl) ?_
                refine sx_nil' ?_
                show TX E K44 _
                refine tx_k' hK44 ?_
                refine cx_cond' rfl (fun h16 => ?_) (fun h16 => ?_)
                · replace hp := (br_t h16).symm.trans hp
                  refine cx_seq' fun K45 hK45 => ?_
                  refine cx_region' ?_
                  refine sx_rd' (rd_assign' rfl) rfl rfl (wt_none' rfl) ?_
                  refine sx_nil' ?_
                  show TX E K45 _
                  refine tx_k' hK45 ?_
                  refine cx_seq' fun K46 hK46 => ?_
                  refine cx_region' ?_
                  refine sx_rd' (rd_move' rfl) rfl rfl (wt_none' rfl) ?_
                  refine sx_rd' (rd_un' rfl ru_fneg) rfl rfl (wt_none' rfl) ?_
                  refine sx_rd' (rd_assign' rfl) rfl rfl (wt_none' rfl) ?_
                  refine sx_nil' ?_
                  show TX E K46 _
                  refine tx_k' hK46 ?_
                  refine cx_region' ?_
                  refine sx_rd' (rd_move' rfl) rfl rfl (wt_none' rfl) ?_
                  refine sx_rd' (rd_un' rfl ru_fneg) rfl rfl (wt_none' rfl) ?_
                  refine sx_rd' (rd_assign' rfl) rfl rfl (wt_none' rfl) ?_
                  refine sx_nil' ?_
                  show TX E K34 _
                  exact tx_pick' [] (sub_cons rfl (sub_cons rfl (sub_cons rfl (sub_cons rfl (sub_cons rfl (sub_cons rfl sub_nil)))))) (by decide) pick_nil (hK34 (a0, a1, (fneg a2), (fneg a3), (-1)) hp)
                · replace hp := (br_f h16).symm.trans hp
                  refine cx_seq' fun K47 hK47 => ?_
                  refine cx_region' ?_
                  refine sx_rd' (rd_move' rfl) rfl rfl (wt_none' rfl) ?_
                  refine sx_rd' (rd_assign' rfl) rfl rfl (wt_none' rfl) ?_
                  refine sx_nil' ?_
                  show TX E K47 _
                  refine tx_k' hK47 ?_
                  refine cx_seq' fun K48 hK48 => ?_
                  refine cx_region' ?_
                  refine sx_rd' (rd_move' rfl) rfl rfl (wt_none' rfl) ?_
                  refine sx_rd' (rd_un' rfl ru_fneg) rfl rfl (wt_none' rfl) ?_
                  refine sx_rd' (rd_assign' rfl) rfl rfl (wt_none' rfl) ?_
                  refine sx_nil' ?_
                  show TX E K48 _
                  refine tx_k' hK48 ?_
                  refine cx_seq' fun K49 hK49 => ?_
                  refine cx_region' ?_
                  refine sx_rd' (rd_move' rfl) rfl rfl (wt_none' rfl) ?_
                  refine sx_rd' (rd_assign' rfl) rfl rfl (wt_none' rfl) ?_
                  refine sx_nil' ?_
                  show TX E K49 _
                  refine tx_k' hK49 ?_
                  refine cx_seq' fun K50 hK50 => ?_
                  refine cx_region' ?_
                  refine sx_rd' (rd_move' rfl) rfl rfl (wt_none' rfl) ?_
                  refine sx_rd' (rd_assign' rfl) rfl rfl (wt_none' rfl) ?_
                  refine sx_nil' ?_
                  show TX E K50 _
                  refine tx_k' hK50 ?_
                  refine cx_seq' fun K51 hK51 => ?_
                  refine cx_region' ?_
                  refine sx_rd' (rd_move' rfl) rfl rfl (wt_none' rfl) ?_
                  refine sx_rd' (rd_un' rfl ru_fneg) rfl rfl (wt_none' rfl) ?_
                  refine sx_rd' (rd_assign' rfl) rfl rfl (wt_none' rfl) ?_
                  refine sx_nil' ?_
                  show TX E K51 _
                  refine tx_k' hK51 ?_
                  refine cx_region' ?_
                  refine sx_rd' (rd_move' rfl) rfl rfl (wt_none' rfl) ?_
                  refine sx_rd' (rd_assign' rfl) rfl rfl (wt_none' rfl) ?_
                  refine sx_nil' ?_
                  show TX E K34 _
                  exact tx_pick' [] (sub_cons rfl (sub_cons rfl (sub_cons rfl (sub_cons rfl (sub_cons rfl (sub_cons rfl sub_nil)))))) (by decide) pick_nil (hK34 ((fneg a2), (fneg a3), a0, a1, 1) hp)
            · replace hp := (br_f h13).symm.trans hp
              refine cx_seq' fun K52 hK52 => ?_
              refine cx_region' ?_
              refine sx_rd' (rd_move' rfl) rfl rfl (wt_none' rfl) ?_
              refine sx_rd' (rd_bin' rfl rfl eg_flt ru_flt) rfl rfl (wt_none' rfl) ?_
              refine sx_nil' ?_
              show TX E K52 _
              refine tx_k' hK52 ?_
              refine cx_cond' rfl (fun h17 => ?_) (fun h17 => ?_)
              · replace hp := (br_t h17).symm.trans hp
                refine cx_seq' fun K53 hK53 => ?_
                refine cx_region' ?_
                refine sx_rd' (rd_move' rfl) rfl rfl (wt_none' rfl) ?_
                refine sx_rd' (rd_un' rfl ru_fneg) rfl rfl (wt_none' rfl) ?_
                refine sx_rd' (rd_move' rfl) rfl rfl (wt_none' rfl) ?_
                refine sx_rd' (rd_bin' rfl rfl eg_flt ru_fle) rfl rfl (wt_none' rfl) ?_
                refine sx_nil' ?_
                show TX E K53 _
                refine tx_k' hK53 ?_
                refine cx_cond' rfl (fun h18 => ?_) (fun h18 => ?_)
                · replace hp := (br_t h18).symm.trans hp
                  refine cx_seq' fun K54 hK54 => ?_
                  refine cx_region' ?_
                  refine sx_rd' (rd_assign' rfl) rfl rfl (wt_none' rfl) ?_
                  refine sx_nil' ?_
                  show TX E K54 _
                  refine tx_k' hK54 ?_
                  refine cx_seq' fun K55 hK55 => ?_
                  refine cx_region' ?_
                  refine sx_rd' (rd_move' rfl) rfl rfl (wt_none' rfl) ?_
                  refine sx_rd' (rd_un' rfl ru_fneg) rfl rfl (wt_none' rfl) ?_
                  refine sx_rd' (rd_assign' rfl) rfl rfl (wt_none' rfl) ?_
                  refine sx_nil' ?_
                  show TX E K55 _
                  refine tx_k' hK55 ?_
                  refine cx_region' ?_
                  refine sx_rd' (rd_move' rfl) rfl rfl (wt_none' rfl) ?_
                  refine sx_rd' (rd_un' rfl ru_fneg) rfl rfl (wt_none' rfl) ?_
                  refine sx_rd' (rd_assign' rfl) rfl rfl (wt_none' rfl) ?_
                  refine sx_nil' ?_
                  show TX E K34 _
                  exact tx_pick' [] (sub_cons rfl (sub_cons rfl (sub_cons rfl (sub_cons rfl (sub_cons rfl (sub_cons rfl sub_nil)))))) (by decide) pick_nil (hK34 ((fneg a0), (fneg a1), a2, a3, (-1)) hp)
                · replace hp := (br_f h18).symm.trans hp
                  refine cx_seq' fun K56 hK56 => ?_
                  refine cx_region' ?_
                  refine sx_rd' (rd_move' rfl) rfl rfl (wt_none' rfl) ?_
                  refine sx_rd' (rd_un' rfl ru_fneg) rfl rfl (wt_none' rfl) ?_
                  refine sx_rd' (rd_assign' rfl) rfl rfl (wt_none' rfl) ?_
                  refine sx_nil' ?_
                  show TX E K56 _
                  refine tx_k' hK56 ?_
                  refine cx_seq' fun K57 hK57 => ?_
                  refine cx_region' ?_
                  refine sx_rd' (rd_move' rfl) rfl rfl (wt_none' rfl) ?_
                  refine sx_rd' (rd_assign' rfl) rfl rfl (wt_none' rfl) ?_
                  refine sx_nil' ?_
                  show TX E K57 _
                  refine tx_k' hK57 ?_
                  refine cx_seq' fun K58 hK58 => ?_
                  refine cx_region' ?_
                  refine sx_rd' (rd_move' rfl) rfl rfl (wt_none' rfl) ?_
                  refine sx_rd' (rd_assign' rfl) rfl rfl (wt_none' rfl) ?_
                  refine sx_nil' ?_
                  show TX E K58 _
                  refine tx_k' hK58 ?_
                  refine cx_seq' fun K59 hK59 => ?_
                  refine cx_region' ?_
                  refine sx_rd' (rd_move' rfl) rfl rfl (wt_none' rfl) ?_
                  refine sx_rd' (rd_un' rfl ru_fneg) rfl rfl (wt_none' rfl) ?_
                  refine sx_rd' (rd_assign' rfl) rfl rfl (wt_none' rfl) ?_
                  refine sx_nil' ?_
                  show TX E K59 _
                  refine tx_k' hK59 ?_
                  refine cx_seq' fun K60 hK60 => ?_
                  refine cx_region' ?_
                  refine sx_rd' (rd_move' rfl) rfl rfl (wt_none' rfl) ?_
                  refine sx_rd' (rd_assign' rfl) rfl rfl (wt_none' rfl) ?_
                  refine sx_nil' ?_
                  show TX E K60 _
                  refine tx_k' hK60 ?_
                  refine cx_region' ?_
                  refine sx_rd' (rd_move' rfl) rfl rfl (wt_none' rfl) ?_
                  refine sx_rd' (rd_assign' rfl) rfl rfl (wt_none' rfl) ?_
                  refine sx_nil' ?_
                  show TX E K34 _
                  exact tx_pick' [] (sub_cons rfl (sub_cons rfl (sub_cons rfl (sub_cons rfl (sub_cons rfl (sub_cons rfl sub_nil)))))) (by decide) pick_nil (hK34 (a2, a3, (fneg a0), (fneg a1), 1) hp)
              · replace hp := (br_f h17).symm.trans hp
                refine cx_seq' fun K61 hK61 => ?_
                refine cx_region' ?_
                refine sx_rd' (rd_move' rfl) rfl rfl (wt_none' rfl) ?_
                refine sx_rd' (rd_move' rfl) rfl rfl (wt_none' rfl) ?_
                refine sx_rd' (rd_bin' rfl rfl eg_flt ru_fge) rfl rfl (wt_none' rfl) ?_
                refine sx_nil' ?_
                show TX E K61 _
                refine tx_k' hK61 ?_
                refine cx_cond' rfl (fun h19 => ?_) (fun h19 => ?_)
                · replace hp := (br_t h19).symm.trans hp
                  refine cx_seq' fun K62 hK62 => ?_
                  refine cx_region' ?_
                  refine sx_rd' (rd_move' rfl) rfl rfl (wt_none' rfl) ?_
                  refine sx_rd' (rd_un' rfl ru_fneg) rfl rfl (wt_none' rfl) ?_
                  refine sx_rd' (rd_assign' rfl) rfl rfl (wt_none' rfl) ?_
                  refine sx_nil' ?_
                  show TX E K62 _
                  refine tx_k' hK62 ?_
                  refine cx_seq' fun K63 hK63 => ?_
                  refine cx_region' ?_
                  refine sx_rd' (rd_move' rfl) rfl rfl (wt_none' rfl) ?_
                  refine sx_rd' (rd_un' rfl ru_fneg) rfl rfl (wt_none' rfl) ?_
                  refine sx_rd' (rd_assign' rfl) rfl rfl (wt_none' rfl) ?_
                  refine sx_nil' ?_
                  show TX E K63 _
                  refine tx_k' hK63 ?_
                  refine cx_seq' fun K64 hK64 => ?_
                  refine cx_region' ?_
                  refine sx_rd' (rd_move' rfl) rfl rfl (wt_none' rfl) ?_
                  refine sx_rd' (rd_un' rfl ru_fneg) rfl rfl (wt_none' rfl) ?_
                  refine sx_rd' (rd_assign' rfl) rfl rfl (wt_none' rfl) ?_
                  refine sx_nil' ?_
                  show TX E K64 _
                  refine tx_k' hK64 ?_
                  refine cx_region' ?_
                  refine sx_rd' (rd_move' rfl) rfl rfl (wt_none' rfl) ?_
                  refine sx_rd' (rd_un' rfl ru_fneg) rfl rfl (wt_none' rfl) ?_
                  refine sx_rd' (rd_assign' rfl) rfl rfl (wt_none' rfl) ?_
                  refine sx_nil' ?_
                  show TX E K34 _
                  exact tx_pick' [] (sub_cons rfl (sub_cons rfl (sub_cons rfl (sub_cons rfl (sub_cons rfl (sub_cons rfl sub_nil)))))) (by decide) pick_nil (hK34 ((fneg a0), (fneg a1), (fneg a2), (fneg a3), 1) hp)
                · replace hp := (br_f h19).symm.trans hp
                  refine cx_seq' fun K65 hK65 => ?_
                  refine cx_region' ?_
                  refine sx_rd' (rd_assign' rfl) rfl rfl (wt_none' rfl) ?_
                  refine sx_nil' ?_
                  show TX E K65 _
                  refine tx_k' hK65 ?_
                  refine cx_seq' fun K66 hK66 => ?_
                  refine cx_region' ?_
                  refine sx_rd' (rd_move' rfl) rfl rfl (wt_none' rfl) ?_
                  refine sx_rd' (rd_un' rfl ru_fneg) rfl rfl (wt_none' rfl) ?_
                  refine sx_rd' (rd_assign' rfl) rfl rfl (wt_none' rfl) ?_
                  refine sx_nil' ?_
                  show TX E K66 _
                  refine tx_k' hK66 ?_
                  refine cx_seq' fun K67 hK67 => ?_
                  refine cx_region' ?_
                  refine sx_rd' (rd_move' rfl) rfl rfl (wt_none' rfl) ?_
                  refine sx_rd' (rd_un' rfl ru_fneg) rfl rfl (wt_none' rfl) ?_
                  refine sx_rd' (rd_assign' rfl) rfl rfl (wt_none' rfl) ?_
                  refine sx_nil' ?_
                  show TX E K67 _
                  refine tx_k' hK67 ?_
                  refine cx_seq' fun K68 hK68 => ?_
                  refine cx_region' ?_
                  refine sx_rd' (rd_move' rfl) rfl rfl (wt_none' rfl) ?_
                  refine sx_rd' (rd_assign' rfl) rfl rfl (wt_none' rfl) ?_
                  refine sx_nil' ?_
                  show TX E K68 _
                  refine tx_k' hK68 ?_
                  refine cx_seq' fun K69 hK69 => ?_
                  refine cx_region' ?_
                  refine sx_rd' (rd_move' rfl) rfl rfl (wt_none' rfl) ?_
                  refine sx_rd' (rd_un' rfl ru_fneg) rfl rfl (wt_none' rfl) ?_
                  refine sx_rd' (rd_assign' rfl) rfl rfl (wt_none' rfl) ?_
                  refine sx_nil' ?_
                  show TX E K69 _
                  refine tx_k' hK69 ?_
                  refine cx_seq' fun K70 hK70 => ?_
                  refine cx_region' ?_
                  refine sx_rd' (rd_move' rfl) rfl rfl (wt_none' rfl) ?_
                  refine sx_rd' (rd_un' rfl ru_fneg) rfl rfl (wt_none' rfl) ?_
                  refine sx_rd' (rd_assign' rfl) rfl rfl (wt_none' rfl) ?_
                  refine sx_nil' ?_
                  show TX E K70 _
                  refine tx_k' hK70 ?_
                  refine cx_region' ?_
                  refine sx_rd' (rd_move' rfl) rfl rfl (wt_none' rfl) ?_
                  refine sx_rd' (rd_assign' rfl) rfl rfl (wt_none' rfl) ?_
                  refine sx_nil' ?_
                  show TX E K34 _
                  exact tx_pick' [] (sub_cons rfl (sub_cons rfl (sub_cons rfl (sub_cons rfl (sub_cons rfl (sub_cons rfl sub_nil)))))) (by decide) pick_nil (hK34 ((fneg a2), (fneg a3), (fneg a0), (fneg a1), (-1)) hp)
      · intro K22 hK22
        rcases br_cases hp with ⟨h8, hp⟩ | ⟨h8, hp⟩
        · refine sx_skip' rfl rfl (wt_is' (wt_guard' rfl rfl rfl) (beq_tf h8)) ?_
          refine sx_skip' rfl rfl (wt_is' (wt_guard' rfl rfl rfl) (beq_tf h8)) ?_
          refine sx_rd' (rd_pick_true' rfl h8 rfl) rfl rfl (wt_none' rfl) ?_
          refine sx_nil' ?_
          show TX E K22 _
          exact tx_pick' [] (sub_cons rfl (sub_cons rfl (sub_cons rfl (sub_cons rfl (sub_cons rfl (sub_cons rfl sub_nil)))))) (by decide) pick_nil (hK22 true hp)
        · refine sx_rd' (rd_move' rfl) rfl rfl (wt_is' (wt_guard' rfl rfl rfl) (beq_ff h8)) ?_
          refine sx_rd' (rd_bin' rfl rfl eg_flt ru_feq) rfl rfl (wt_is' (wt_guard' rfl rfl rfl) (beq_ff h8)) ?_
          refine sx_rd' (rd_pick_false' rfl h8 rfl) rfl rfl (wt_none' rfl) ?_
          refine sx_nil' ?_
          show TX E K22 _
          exact tx_pick' [] (sub_cons rfl (sub_cons rfl (sub_cons rfl (sub_cons rfl (sub_cons rfl (sub_cons rfl sub_nil)))))) (by decide) pick_nil (hK22 (feq a2 0) hp)
  · intro K7 hK7
    rcases br_cases hp with ⟨h1, hp⟩ | ⟨h1, hp⟩
    · refine sx_skip' rfl rfl (wt_is' (wt_guard' rfl rfl rfl) (beq_tf h1)) ?_
      refine sx_skip' rfl rfl (wt_is' (wt_guard' rfl rfl rfl) (beq_tf h1)) ?_
      refine sx_rd' (rd_pick_true' rfl h1 rfl) rfl rfl (wt_none' rfl) ?_
      refine sx_nil' ?_
      show TX E K7 _
      exact tx_pick' [] (sub_cons rfl (sub_cons rfl (sub_cons rfl (sub_cons rfl (sub_cons rfl (sub_cons rfl sub_nil)))))) (by decide) pick_nil (hK7 true hp)
    · refine sx_rd' (rd_move' rfl) rfl rfl (wt_is' (wt_guard' rfl rfl rfl) (beq_ff h1)) ?_
      refine sx_rd' (rd_bin' rfl rfl eg_flt ru_feq) rfl rfl (wt_is' (wt_guard' rfl rfl rfl) (beq_ff h1)) ?_
      refine sx_rd' (rd_pick_false' rfl h1 rfl) rfl rfl (wt_none' rfl) ?_
      refine sx_nil' ?_
      show TX E K7 _
      exact tx_pick' [] (sub_cons rfl (sub_cons rfl (sub_cons rfl (sub_cons rfl (sub_cons rfl (sub_cons rfl sub_nil)))))) (by decide) pick_nil (hK7 (feq a3 0) hp)

def raycrossing_rayCrossingCounter_countSegment_j6 (k : Nat) (a0_0 : List Nat) (a0_1 : Int) (x7 : Bool) : Option ((List Nat) × Int × Bool) :=
  some (a0_0, a0_1, x7)
def raycrossing_rayCrossingCounter_countSegment_j5 (k : Nat) (a0_0 : List Nat) (a0_1 : Int) (a0_2 : Bool) (x6 : Bool) : Option ((List Nat) × Int × Bool) :=
  br x6
    (raycrossing_rayCrossingCounter_countSegment_j6 k a0_0 a0_1 true)
    (raycrossing_rayCrossingCounter_countSegment_j6 k a0_0 a0_1 a0_2)
def raycrossing_rayCrossingCounter_countSegment_j4 (k : Nat) (a0_0 : List Nat) (a0_1 : Int) (a0_2 : Bool) (x4 : Nat) (x5 : Nat) : Option ((List Nat) × Int × Bool) :=
  (idx a0_0 0) >>= fun r101 =>
  br (fge r101 x4)
    ((idx a0_0 0) >>= fun r110 =>
    raycrossing_rayCrossingCounter_countSegment_j5 k a0_0 a0_1 a0_2 (fle r110 x5))
    (raycrossing_rayCrossingCounter_countSegment_j5 k a0_0 a0_1 a0_2 false)
def raycrossing_rayCrossingCounter_countSegment_j10 (k : Nat) (a0_0 : List Nat) (a0_1 : Int) (a0_2 : Bool) (x11 : Int) : Option ((List Nat) × Int × Bool) :=
  br (decide (0 < x11))
    (some (a0_0, iadd .i64 a0_1 1, a0_2))
    (some (a0_0, a0_1, a0_2))
def raycrossing_rayCrossingCounter_countSegment_j9 (k : Nat) (a1 : List Nat) (a0_0 : List Nat) (a2 : List Nat) (a0_1 : Int) (a0_2 : Bool) (x10 : Bool) : Option ((List Nat) × Int × Bool) :=
  br x10
    ((idx a1 0) >>= fun r165 =>
    (idx a0_0 0) >>= fun r171 =>
    (fsub r165 r171) >>= fun r173 =>
    (idx a1 1) >>= fun r175 =>
    (idx a0_0 1) >>= fun r181 =>
    (fsub r175 r181) >>= fun r183 =>
    (idx a2 0) >>= fun r185 =>
    (idx a0_0 0) >>= fun r191 =>
    (fsub r185 r191) >>= fun r193 =>
    (idx a2 1) >>= fun r195 =>
    (idx a0_0 1) >>= fun r201 =>
    (fsub r195 r201) >>= fun r203 =>
    (robustdeterminate_SignOfDet2x2 k r173 r183 r193 r203) >>= fun r208 =>
    br (decide (r208 = 0))
      (some (a0_0, a0_1, true))
      (br (flt r203 r183)
        (raycrossing_rayCrossingCounter_countSegment_j10 k a0_0 a0_1 a0_2 (isub .i64 0 r208))
        (raycrossing_rayCrossingCounter_countSegment_j10 k a0_0 a0_1 a0_2 r208)))
    (some (a0_0, a0_1, a0_2))
def raycrossing_rayCrossingCounter_countSegment_j8 (k : Nat) (a1 : List Nat) (a0_0 : List Nat) (a2 : List Nat) (a0_1 : Int) (a0_2 : Bool) (x9 : Bool) : Option ((List Nat) × Int × Bool) :=
  raycrossing_rayCrossingCounter_countSegment_j9 k a1 a0_0 a2 a0_1 a0_2 x9
def raycrossing_rayCrossingCounter_countSegment_j7 (k : Nat) (a1 : List Nat) (a0_0 : List Nat) (a2 : List Nat) (a0_1 : Int) (a0_2 : Bool) (x8 : Bool) : Option ((List Nat) × Int × Bool) :=
  br x8
    (raycrossing_rayCrossingCounter_countSegment_j9 k a1 a0_0 a2 a0_1 a0_2 true)
    ((idx a2 1) >>= fun r142 =>
    (idx a0_0 1) >>= fun r148 =>
    br (fgt r142 r148)
      ((idx a1 1) >>= fun r153 =>
      (idx a0_0 1) >>= fun r159 =>
      raycrossing_rayCrossingCounter_countSegment_j8 k a1 a0_0 a2 a0_1 a0_2 (fle r153 r159))
      (raycrossing_rayCrossingCounter_countSegment_j8 k a1 a0_0 a2 a0_1 a0_2 false))
def raycrossing_rayCrossingCounter_countSegment_j3 (k : Nat) (a1 : List Nat) (a2 : List Nat) (a0_0 : List Nat) (a0_1 : Int) (a0_2 : Bool) (x3 : Bool) : Option ((List Nat) × Int × Bool) :=
  br x3
    ((idx a1 0) >>= fun r83 =>
    (idx a2 0) >>= fun r86 =>
    br (fgt r83 r86)
      ((idx a2 0) >>= fun r92 =>
      (idx a1 0) >>= fun r95 =>
      raycrossing_rayCrossingCounter_countSegment_j4 k a0_0 a0_1 a0_2 r92 r95)
      (raycrossing_rayCrossingCounter_countSegment_j4 k a0_0 a0_1 a0_2 r83 r86))
    ((idx a1 1) >>= fun r119 =>
    (idx a0_0 1) >>= fun r125 =>
    br (fgt r119 r125)
      ((idx a2 1) >>= fun r130 =>
      (idx a0_0 1) >>= fun r136 =>
      raycrossing_rayCrossingCounter_countSegment_j7 k a1 a0_0 a2 a0_1 a0_2 (fle r130 r136))
      (raycrossing_rayCrossingCounter_countSegment_j7 k a1 a0_0 a2 a0_1 a0_2 false))
def raycrossing_rayCrossingCounter_countSegment_j2 (k : Nat) (a0_0 : List Nat) (a0_1 : Int) (a1 : List Nat) (a2 : List Nat) (a0_2 : Bool) (x2 : Bool) : Option ((List Nat) × Int × Bool) :=
  br x2
    (some (a0_0, a0_1, true))
    ((idx a1 1) >>= fun r61 =>
    (idx a0_0 1) >>= fun r67 =>
    br (feq r61 r67)
      ((idx a2 1) >>= fun r72 =>
      (idx a0_0 1) >>= fun r78 =>
      raycrossing_rayCrossingCounter_countSegment_j3 k a1 a2 a0_0 a0_1 a0_2 (feq r72 r78))
      (raycrossing_rayCrossingCounter_countSegment_j3 k a1 a2 a0_0 a0_1 a0_2 false))
def raycrossing_rayCrossingCounter_countSegment_j1 (k : Nat) (a0_0 : List Nat) (a0_1 : Int) (a0_2 : Bool) (a2 : List Nat) (a1 : List Nat) (x1 : Bool) : Option ((List Nat) × Int × Bool) :=
  br x1
    (some (a0_0, a0_1, a0_2))
    ((idx a0_0 0) >>= fun r39 =>
    (idx a2 0) >>= fun r42 =>
    br (feq r39 r42)
      ((idx a0_0 1) >>= fun r50 =>
      (idx a2 1) >>= fun r53 =>
      raycrossing_rayCrossingCounter_countSegment_j2 k a0_0 a0_1 a1 a2 a0_2 (feq r50 r53))
      (raycrossing_rayCrossingCounter_countSegment_j2 k a0_0 a0_1 a1 a2 a0_2 false))
def raycrossing_rayCrossingCounter_countSegment (k : Nat) (a0_0 : List Nat) (a0_1 : Int) (a0_2 : Bool) (a1 : List Nat) (a2 : List Nat) : Option ((List Nat) × Int × Bool) :=
  (idx a1 0) >>= fun r14 =>
  (idx a0_0 0) >>= fun r20 =>
  br (flt r14 r20)
    ((idx a2 0) >>= fun r25 =>
    (idx a0_0 0) >>= fun r31 =>
    raycrossing_rayCrossingCounter_countSegment_j1 k a0_0 a0_1 a0_2 a2 a1 (flt r25 r31))
    (raycrossing_rayCrossingCounter_countSegment_j1 k a0_0 a0_1 a0_2 a2 a1 false)

theorem raycrossing_rayCrossingCounter_countSegment_sim {k : Nat} {wa0 : Addr} (a0_0 : List Nat) (a0_1 : Int) (a0_2 : Bool) (a1 : List Nat) (a2 : List Nat) {out : (List Nat) × Int × Bool} (hp : raycrossing_rayCrossingCounter_countSegment k a0_0 a0_1 a0_2 a1 a2 = some out) : Go.Sx.Fn Try.prog 131 [(Vl (.pointer (some wa0))), (Sl Kf a1), (Sl Kf a2)] [⟨.pointer (some wa0), [(Sl Kf a0_0), (Vl (.int .i64 a0_1)), (Vl (.bool a0_2))], 158, none⟩] (fun w : Unit => (Vl (.tuple #[]))) (fun w => [⟨.pointer (some wa0), [(Sl Kf out.1), (Vl (.int .i64 out.2.1)), (Vl (.bool out.2.2))], 158, none⟩]) := by
  unfold raycrossing_rayCrossingCounter_countSegment at hp
  refine fn_of Try.func131 rfl Try.ntmps131 rfl fun E hM => ?_
  refine cx_seq' fun K1 hK1 => ?_
  refine cx_seq' fun K2 hK2 => ?_
  refine cx_draw' mixed (by kernel_rfl) ?_
  refine qx_rd' (rd_move' rfl) rfl rfl (wt_none' rfl) ?_
  obtain ⟨r14, hr14, hp⟩ := bind_some hp
  refine qx_rd' (rd_at' (K := Kf) rfl rfl hr14 Try.underlying106 info25) rfl rfl (wt_none' rfl) ?_
  refine qx_rd' (rd_load_pt' rfl rfl flat25) rfl rfl (wt_none' rfl) ?_
  refine qx_rd' (rd_move' rfl) rfl rfl (wt_none' rfl) ?_
  refine qx_rd' (rd_nilck' rfl) rfl rfl (wt_none' rfl) ?_
  refine qx_rd' (rd_field0' rfl Try.underlying158 rfl info106 rfl) rfl rfl (wt_none' rfl) ?_
  refine qx_rd' (rd_load' (i := 0) (o := 0) rfl ⟨rfl, rfl, rfl, rfl⟩ rfl flat106) rfl rfl (wt_none' rfl) ?_
  obtain ⟨r20, hr20, hp⟩ := bind_some hp
  refine qx_rd' (rd_at' (K := Kf) rfl rfl hr20 Try.underlying106 info25) rfl rfl (wt_none' rfl) ?_
  refine qx_rd' (rd_load_pt' rfl rfl flat25) rfl rfl (wt_none' rfl) ?_
  refine qx_rd' (rd_bin' rfl rfl eg_flt ru_flt) rfl rfl (wt_none' rfl) ?_
  refine qx_rd' (rd_move' rfl) rfl rfl (wt_none' rfl) ?_
  refine qx_cutn' 11 (fun (v1 : Bool) => (⟨228, [], [(0, (Vl (.pointer (some wa0)))), (1, (Sl Kf a1)), (2, (Sl Kf a2)), (34, (Vl (.bool v1)))], [⟨.pointer (some wa0), [(Sl Kf a0_0), (Vl (.int .i64 a0_1)), (Vl (.bool a0_2))], 158, none⟩]⟩ : St)) (fun (v1 : Bool) => raycrossing_rayCrossingCounter_countSegment_j1 k a0_0 a0_1 a0_2 a2 a1 v1 = some out) ?_ ?_
  · rintro x1 hp
    replace hp : raycrossing_rayCrossingCounter_countSegment_j1 k a0_0 a0_1 a0_2 a2 a1 x1 = some out := hp
    unfold raycrossing_rayCrossingCounter_countSegment_j1 at hp
    refine qx_nil' ?_
    show TX E K2 _
    refine tx_k' hK2 ?_
    refine cx_cond' rfl (fun h2 => ?_) (fun h2 => ?_)
    · replace hp := (br_t h2).symm.trans hp
      refine cx_retc' ?_
      replace hp := Option.some.inj hp
      subst hp
      refine tx_pick' (L' := []) (H' := [⟨.pointer (some wa0), [(Sl Kf a0_0), (Vl (.int .i64 a0_1)), (Vl (.bool a0_2))], 158, none⟩]) [0] sub_nil (by decide) (pick_cons rfl pick_nil) ?_
      exact tx_ret0' Try.results131 rfl () rfl (List.Sublist.refl _)
    · replace hp := (br_f h2).symm.trans hp
      refine cx_skip' ?_
      show TX E K1 _
      refine tx_k' hK1 ?_
      refine cx_seq' fun K4 hK4 => ?_
      refine cx_seq' fun K5 hK5 => ?_
      refine cx_draw' mixed (by kernel_rfl) ?_
      refine qx_rd' (rd_move' rfl) rfl rfl (wt_none' rfl) ?_
      refine qx_rd' (rd_nilck' rfl) rfl rfl (wt_none' rfl) ?_
      refine qx_rd' (rd_field0' rfl Try.underlying158 rfl info106 rfl) rfl rfl (wt_none' rfl) ?_
      refine qx_rd' (rd_load' (i := 0) (o := 0) rfl ⟨rfl, rfl, rfl, rfl⟩ rfl flat106) rfl rfl (wt_none' rfl) ?_
      obtain ⟨r39, hr39, hp⟩ := bind_some hp
      refine qx_rd' (rd_at' (K := Kf) rfl rfl hr39 Try.underlying106 info25) rfl rfl (wt_none' rfl) ?_
      refine qx_rd' (rd_load_pt' rfl rfl flat25) rfl rfl (wt_none' rfl) ?_
      refine qx_rd' (rd_move' rfl) rfl rfl (wt_none' rfl) ?_
      obtain ⟨r42, hr42, hp⟩ := bind_some hp
      refine qx_rd' (rd_at' (K := Kf) rfl rfl hr42 Try.underlying106 info25) rfl rfl (wt_none' rfl) ?_
      refine qx_rd' (rd_load_pt' rfl rfl flat25) rfl rfl (wt_none' rfl) ?_
      refine qx_rd' (rd_bin' rfl rfl eg_flt ru_feq) rfl rfl (wt_none' rfl) ?_
      refine qx_rd' (rd_move' rfl) rfl rfl (wt_none' rfl) ?_
      refine qx_cutn' 11 (fun (v2 : Bool) => (⟨228, [], [(0, (Vl (.pointer (some wa0)))), (1, (Sl Kf a1)), (2, (Sl Kf a2)), (56, (Vl (.bool v2)))], [⟨.pointer (some wa0), [(Sl Kf a0_0), (Vl (.int .i64 a0_1)), (Vl (.bool a0_2))], 158, none⟩]⟩ : St)) (fun (v2 : Bool) => raycrossing_rayCrossingCounter_countSegment_j2 k a0_0 a0_1 a1 a2 a0_2 v2 = some out) ?_ ?_
      · rintro x2 hp
        replace hp : raycrossing_rayCrossingCounter_countSegment_j2 k a0_0 a0_1 a1 a2 a0_2 x2 = some out := hp
        unfold raycrossing_rayCrossingCounter_countSegment_j2 at hp
        refine qx_nil' ?_
        show TX E K5 _
        refine tx_k' hK5 ?_
        refine cx_cond' rfl (fun h4 => ?_) (fun h4 => ?_)
        · replace hp := (br_t h4).symm.trans hp
          refine cx_seq' fun K7 hK7 => ?_
          refine cx_region' ?_
          refine sx_rd' (rd_move' rfl) rfl rfl (wt_none' rfl) ?_
          refine sx_rd' (rd_nilck' rfl) rfl rfl (wt_none' rfl) ?_
          refine sx_rd' (rd_field' (off := 2) rfl Try.underlying158 rfl info4 rfl) rfl rfl (wt_none' rfl) ?_
          refine sx_ox' (ox_store' (i := 0) (o := 2) rfl rfl (lv_vl rfl rfl) ⟨rfl, rfl, rfl, rfl⟩ rfl info4 rfl (H' := [⟨.pointer (some wa0), [(Sl Kf a0_0), (Vl (.int .i64 a0_1)), (Vl (.bool true))], 158, none⟩]) rfl) (wt_none' rfl) fun _ => ?_
          refine sx_nil' ?_
          show TX E K7 _
          refine tx_k' hK7 ?_
          refine cx_retc' ?_
          replace hp := Option.some.inj hp
          subst hp
          refine tx_pick' (L' := []) (H' := [⟨.pointer (some wa0), [(Sl Kf a0_0), (Vl (.int .i64 a0_1)), (Vl (.bool true))], 158, none⟩]) [0] sub_nil (by decide) (pick_cons rfl pick_nil) ?_
          exact tx_ret0' Try.results131 rfl () rfl (List.Sublist.refl _)
        · replace hp := (br_f h4).symm.trans hp
          refine cx_skip' ?_
          show TX E K4 _
          refine tx_k' hK4 ?_
          refine cx_seq' fun K8 hK8 => ?_
          refine cx_seq' fun K9 hK9 => ?_
          refine cx_draw' mixed (by kernel_rfl) ?_
          refine qx_rd' (rd_move' rfl) rfl rfl (wt_none' rfl) ?_
          obtain ⟨r61, hr61, hp⟩ := bind_some hp
          refine qx_rd' (rd_at' (K := Kf) rfl rfl hr61 Try.underlying106 info25) rfl rfl (wt_none' rfl) ?_
          refine qx_rd' (rd_load_pt' rfl rfl flat25) rfl rfl (wt_none' rfl) ?_
          refine qx_rd' (rd_move' rfl) rfl rfl (wt_none' rfl) ?_
          refine qx_rd' (rd_nilck' rfl) rfl rfl (wt_none' rfl) ?_
          refine qx_rd' (rd_field0' rfl Try.underlying158 rfl info106 rfl) rfl rfl (wt_none' rfl) ?_
          refine qx_rd' (rd_load' (i := 0) (o := 0) rfl ⟨rfl, rfl, rfl, rfl⟩ rfl flat106) rfl rfl (wt_none' rfl) ?_
          obtain ⟨r67, hr67, hp⟩ := bind_some hp
          refine qx_rd' (rd_at' (K := Kf) rfl rfl hr67 Try.underlying106 info25) rfl rfl (wt_none' rfl) ?_
          refine qx_rd' (rd_load_pt' rfl rfl flat25) rfl rfl (wt_none' rfl) ?_
          refine qx_rd' (rd_bin' rfl rfl eg_flt ru_feq) rfl rfl (wt_none' rfl) ?_
          refine qx_rd' (rd_move' rfl) rfl rfl (wt_none' rfl) ?_
          refine qx_cutn' 11 (fun (v3 : Bool) => (⟨228, [], [(0, (Vl (.pointer (some wa0)))), (1, (Sl Kf a1)), (2, (Sl Kf a2)), (81, (Vl (.bool v3)))], [⟨.pointer (some wa0), [(Sl Kf a0_0), (Vl (.int .i64 a0_1)), (Vl (.bool a0_2))], 158, none⟩]⟩ : St)) (fun (v3 : Bool) => raycrossing_rayCrossingCounter_countSegment_j3 k a1 a2 a0_0 a0_1 a0_2 v3 = some out) ?_ ?_
          · rintro x3 hp
            replace hp : raycrossing_rayCrossingCounter_countSegment_j3 k a1 a2 a0_0 a0_1 a0_2 x3 = some out := hp
            unfold raycrossing_rayCrossingCounter_countSegment_j3 at hp
            refine qx_nil' ?_
            show TX E K9 _
            refine tx_k' hK9 ?_
            refine cx_cond' rfl (fun h6 => ?_) (fun h6 => ?_)
            · replace hp := (br_t h6).symm.trans hp
              refine cx_seq' fun K11 hK11 => ?_
              refine cx_region' ?_
              refine sx_rd' (rd_move' rfl) rfl rfl (wt_none' rfl) ?_
              obtain ⟨r83, hr83, hp⟩ := bind_some hp
              refine sx_rd' (rd_at' (K := Kf) rfl rfl hr83 Try.underlying106 info25) rfl rfl (wt_none' rfl) ?_
              refine sx_rd' (rd_load_pt' rfl rfl flat25) rfl rfl (wt_none' rfl) ?_
              refine sx_rd' (rd_assign' rfl) rfl rfl (wt_none' rfl) ?_
              refine sx_nil' ?_
              show TX E K11 _
              refine tx_k' hK11 ?_
              refine cx_seq' fun K12 hK12 => ?_
              refine cx_region' ?_
              refine sx_rd' (rd_move' rfl) rfl rfl (wt_none' rfl) ?_
              obtain ⟨r86, hr86, hp⟩ := bind_some hp
              refine sx_rd' (rd_at' (K := Kf) rfl rfl hr86 Try.underlying106 info25) rfl rfl (wt_none' rfl) ?_
              refine sx_rd' (rd_load_pt' rfl rfl flat25) rfl rfl (wt_none' rfl) ?_
              refine sx_rd' (rd_assign' rfl) rfl rfl (wt_none' rfl) ?_
              refine sx_nil' ?_
              show TX E K12 _
              refine tx_k' hK12 ?_
              refine cx_join' (fun (v4 : Nat × Nat) => (⟨228, [], [(0, (Vl (.pointer (some wa0)))), (6, (Vl (.float .f64 v4.1))), (7, (Vl (.float .f64 v4.2)))], [⟨.pointer (some wa0), [(Sl Kf a0_0), (Vl (.int .i64 a0_1)), (Vl (.bool a0_2))], 158, none⟩]⟩ : St)) (fun (v4 : Nat × Nat) => raycrossing_rayCrossingCounter_countSegment_j4 k a0_0 a0_1 a0_2 v4.1 v4.2 = some out) ?_ ?_
              · rintro ⟨x4, x5⟩ hp
                replace hp : raycrossing_rayCrossingCounter_countSegment_j4 k a0_0 a0_1 a0_2 x4 x5 = some out := hp
                unfold raycrossing_rayCrossingCounter_countSegment_j4 at hp
                refine cx_join' (fun (v6 : Bool) => (⟨228, [], [], [⟨.pointer (some wa0), [(Sl Kf a0_0), (Vl (.int .i64 a0_1)), (Vl (.bool v6))], 158, none⟩]⟩ : St)) (fun (v6 : Bool) => raycrossing_rayCrossingCounter_countSegment_j6 k a0_0 a0_1 v6 = some out) ?_ ?_
                · rintro x7 hp
                  replace hp : raycrossing_rayCrossingCounter_countSegment_j6 k a0_0 a0_1 x7 = some out := hp
                  unfold raycrossing_rayCrossingCounter_countSegment_j6 at hp
                  refine cx_retc' ?_
                  replace hp := Option.some.inj hp
                  subst hp
                  refine tx_pick' (L' := []) (H' := [⟨.pointer (some wa0), [(Sl Kf a0_0), (Vl (.int .i64 a0_1)), (Vl (.bool x7))], 158, none⟩]) [0] sub_nil (by decide) (pick_cons rfl pick_nil) ?_
                  exact tx_ret0' Try.results131 rfl () rfl (List.Sublist.refl _)
                · intro K16 hK16
                  refine cx_seq' fun K17 hK17 => ?_
                  refine cx_region' ?_
                  refine sx_rd' (rd_move' rfl) rfl rfl (wt_none' rfl) ?_
                  refine sx_rd' (rd_nilck' rfl) rfl rfl (wt_none' rfl) ?_
                  refine sx_rd' (rd_field0' rfl Try.underlying158 rfl info106 rfl) rfl rfl (wt_none' rfl) ?_
                  refine sx_rd' (rd_load' (i := 0) (o := 0) rfl ⟨rfl, rfl, rfl, rfl⟩ rfl flat106) rfl rfl (wt_none' rfl) ?_
                  obtain ⟨r101, hr101, hp⟩ := bind_some hp
                  refine sx_rd' (rd_at' (K := Kf) rfl rfl hr101 Try.underlying106 info25) rfl rfl (wt_none' rfl) ?_
                  refine sx_rd' (rd_load_pt' rfl rfl flat25) rfl rfl (wt_none' rfl) ?_
                  refine sx_rd' (rd_move' rfl) rfl rfl (wt_none' rfl) ?_
                  refine sx_rd' (rd_bin' rfl rfl eg_flt ru_fge) rfl rfl (wt_none' rfl) ?_
                  refine sx_rd' (rd_move' rfl) rfl rfl (wt_none' rfl) ?_
                  refine sx_cutn' 9 (fun (v5 : Bool) => (⟨228, [], [(0, (Vl (.pointer (some wa0)))), (114, (Vl (.bool v5)))], [⟨.pointer (some wa0), [(Sl Kf a0_0), (Vl (.int .i64 a0_1)), (Vl (.bool a0_2))], 158, none⟩]⟩ : St)) (fun (v5 : Bool) => raycrossing_rayCrossingCounter_countSegment_j5 k a0_0 a0_1 a0_2 v5 = some out) ?_ ?_
                  · rintro x6 hp
                    replace hp : raycrossing_rayCrossingCounter_countSegment_j5 k a0_0 a0_1 a0_2 x6 = some out := hp
                    unfold raycrossing_rayCrossingCounter_countSegment_j5 at hp
                    refine sx_nil' ?_
                    show TX E K17 _
                    refine tx_k' hK17 ?_
                    refine cx_cond' rfl (fun h9 => ?_) (fun h9 => ?_)
                    · replace hp := (br_t h9).symm.trans hp
                      refine cx_region' ?_
                      refine sx_rd' (rd_move' rfl) rfl rfl (wt_none' rfl) ?_
                      refine sx_rd' (rd_nilck' rfl) rfl rfl (wt_none' rfl) ?_
                      refine sx_rd' (rd_field' (off := 2) rfl Try.underlying158 rfl info4 rfl) rfl rfl (wt_none' rfl) ?_
                      refine sx_ox' (ox_store' (i := 0) (o := 2) rfl rfl (lv_vl rfl rfl) ⟨rfl, rfl, rfl, rfl⟩ rfl info4 rfl (H' := [⟨.pointer (some wa0), [(Sl Kf a0_0), (Vl (.int .i64 a0_1)), (Vl (.bool true))], 158, none⟩]) rfl) (wt_none' rfl) fun _ => ?_
                      refine sx_nil' ?_
                      show TX E K16 _
                      exact tx_pick' [0] sub_nil (by decide) (pick_cons rfl pick_nil) (hK16 true hp)
                    · replace hp := (br_f h9).symm.trans hp
                      refine cx_skip' ?_
                      show TX E K16 _
                      exact tx_pick' [0] sub_nil (by decide) (pick_cons rfl pick_nil) (hK16 a0_2 hp)
                  · intro K18 hK18
                    rcases br_cases hp with ⟨h8, hp⟩ | ⟨h8, hp⟩
                    · refine sx_rd' (rd_move' rfl) rfl rfl (wt_is' (wt_guard' rfl rfl rfl) (beq_tt h8)) ?_
                      refine sx_rd' (rd_nilck' rfl) rfl rfl (wt_is' (wt_guard' rfl rfl rfl) (beq_tt h8)) ?_
                      refine sx_rd' (rd_field0' rfl Try.underlying158 rfl info106 rfl) rfl rfl (wt_is' (wt_guard' rfl rfl rfl) (beq_tt h8)) ?_
                      refine sx_rd' (rd_load' (i := 0) (o := 0) rfl ⟨rfl, rfl, rfl, rfl⟩ rfl flat106) rfl rfl (wt_is' (wt_guard' rfl rfl rfl) (beq_tt h8)) ?_
                      obtain ⟨r110, hr110, hp⟩ := bind_some hp
                      refine sx_rd' (rd_at' (K := Kf) rfl rfl hr110 Try.underlying106 info25) rfl rfl (wt_is' (wt_guard' rfl rfl rfl) (beq_tt h8)) ?_
                      refine sx_rd' (rd_load_pt' rfl rfl flat25) rfl rfl (wt_is' (wt_guard' rfl rfl rfl) (beq_tt h8)) ?_
                      refine sx_rd' (rd_move' rfl) rfl rfl (wt_is' (wt_guard' rfl rfl rfl) (beq_tt h8)) ?_
                      refine sx_rd' (rd_bin' rfl rfl eg_flt ru_fle) rfl rfl (wt_is' (wt_guard' rfl rfl rfl) (beq_tt h8)) ?_
                      refine sx_rd' (rd_pick_true' rfl h8 rfl) rfl rfl (wt_none' rfl) ?_
                      refine sx_nil' ?_
                      show TX E K18 _
                      exact tx_pick' [0] (sub_cons rfl (sub_cons rfl sub_nil)) (by decide) (pick_cons rfl pick_nil) (hK18 (fle r110 x5) hp)
                    · refine sx_skip' rfl rfl (wt_is' (wt_guard' rfl rfl rfl) (beq_ft h8)) ?_
                      refine sx_skip' rfl rfl (wt_is' (wt_guard' rfl rfl rfl) (beq_ft h8)) ?_
                      refine sx_skip' rfl rfl (wt_is' (wt_guard' rfl rfl rfl) (beq_ft h8)) ?_
                      refine sx_skip' rfl rfl (wt_is' (wt_guard' rfl rfl rfl) (beq_ft h8)) ?_
                      refine sx_skip' rfl rfl (wt_is' (wt_guard' rfl rfl rfl) (beq_ft h8)) ?_
                      refine sx_skip' rfl rfl (wt_is' (wt_guard' rfl rfl rfl) (beq_ft h8)) ?_
                      refine sx_skip' rfl rfl (wt_is' (wt_guard' rfl rfl rfl) (beq_ft h8)) ?_
                      refine sx_skip' rfl rfl (wt_is' (wt_guard' rfl rfl rfl) (beq_ft h8)) ?_
                      refine sx_rd' (rd_pick_false' rfl h8 rfl) rfl rfl (wt_none' rfl) ?_
                      refine sx_nil' ?_
                      show TX E K18 _
                      exact tx_pick' [0] (sub_cons rfl (sub_cons rfl sub_nil)) (by decide) (pick_cons rfl pick_nil) (hK18 false hp)
              · intro K13 hK13
                refine cx_seq' fun K14 hK14 => ?_
                refine cx_region' ?_
                refine sx_rd' (rd_move' rfl) rfl rfl (wt_none' rfl) ?_
                refine sx_rd' (rd_move' rfl) rfl rfl (wt_none' rfl) ?_
                refine sx_rd' (rd_bin' rfl rfl eg_flt ru_fgt) rfl rfl (wt_none' rfl) ?_
                refine sx_nil' ?_
                show TX E K14 _
                refine tx_k' hK14 ?_
                refine cx_cond' rfl (fun h7 => ?_) (fun h7 => ?_)
                · replace hp := (br_t h7).symm.trans hp
                  refine cx_seq' fun K15 hK15 => ?_
                  refine cx_region' ?_
                  refine sx_rd' (rd_move' rfl) rfl rfl (wt_none' rfl) ?_
                  obtain ⟨r92, hr92, hp⟩ := bind_some hp
                  refine sx_rd' (rd_at' (K := Kf) rfl rfl hr92 Try.underlying106 info25) rfl rfl (wt_none' rfl) ?_
                  refine sx_rd' (rd_load_pt' rfl rfl flat25) rfl rfl (wt_none' rfl) ?_
                  refine sx_rd' (rd_assign' rfl) rfl rfl (wt_none' rfl) ?_
                  refine sx_nil' ?_
                  show TX E K15 _
                  refine tx_k' hK15 ?_
                  refine cx_region' ?_
                  refine sx_rd' (rd_move' rfl) rfl rfl (wt_none' rfl) ?_
                  obtain ⟨r95, hr95, hp⟩ := bind_some hp
                  refine sx_rd' (rd_at' (K := Kf) rfl rfl hr95 Try.underlying106 info25) rfl rfl (wt_none' rfl) ?_
                  refine sx_rd' (rd_load_pt' rfl rfl flat25) rfl rfl (wt_none' rfl) ?_
                  refine sx_rd' (rd_assign' rfl) rfl rfl (wt_none' rfl) ?_
                  refine sx_nil' ?_
                  show TX E K13 _
                  exact tx_pick' [0] (sub_cons rfl (sub_cons rfl (sub_cons rfl sub_nil))) (by decide) (pick_cons rfl pick_nil) (hK13 (r92, r95) hp)
                · replace hp := (br_f h7).symm.trans hp
                  refine cx_skip' ?_
                  show TX E K13 _
                  exact tx_pick' [0] (sub_cons rfl (sub_cons rfl (sub_cons rfl sub_nil))) (by decide) (pick_cons rfl pick_nil) (hK13 (r83, r86) hp)
            · replace hp := (br_f h6).symm.trans hp
              refine cx_skip' ?_
              show TX E K8 _
              refine tx_k' hK8 ?_
              refine cx_seq' fun K19 hK19 => ?_
              refine cx_draw' mixed (by kernel_rfl) ?_
              refine qx_rd' (rd_move' rfl) rfl rfl (wt_none' rfl) ?_
              obtain ⟨r119, hr119, hp⟩ := bind_some hp
              refine qx_rd' (rd_at' (K := Kf) rfl rfl hr119 Try.underlying106 info25) rfl rfl (wt_none' rfl) ?_
              refine qx_rd' (rd_load_pt' rfl rfl flat25) rfl rfl (wt_none' rfl) ?_
              refine qx_rd' (rd_move' rfl) rfl rfl (wt_none' rfl) ?_
              refine qx_rd' (rd_nilck' rfl) rfl rfl (wt_none' rfl) ?_
              refine qx_rd' (rd_field0' rfl Try.underlying158 rfl info106 rfl) rfl rfl (wt_none' rfl) ?_
              refine qx_rd' (rd_load' (i := 0) (o := 0) rfl ⟨rfl, rfl, rfl, rfl⟩ rfl flat106) rfl rfl (wt_none' rfl) ?_
              obtain ⟨r125, hr125, hp⟩ := bind_some hp
              refine qx_rd' (rd_at' (K := Kf) rfl rfl hr125 Try.underlying106 info25) rfl rfl (wt_none' rfl) ?_
              refine qx_rd' (rd_load_pt' rfl rfl flat25) rfl rfl (wt_none' rfl) ?_
              refine qx_rd' (rd_bin' rfl rfl eg_flt ru_fgt) rfl rfl (wt_none' rfl) ?_
              refine qx_rd' (rd_move' rfl) rfl rfl (wt_none' rfl) ?_
              refine qx_cutn' 11 (fun (v7 : Bool) => (⟨228, [], [(0, (Vl (.pointer (some wa0)))), (1, (Sl Kf a1)), (2, (Sl Kf a2)), (139, (Vl (.bool v7)))], [⟨.pointer (some wa0), [(Sl Kf a0_0), (Vl (.int .i64 a0_1)), (Vl (.bool a0_2))], 158, none⟩]⟩ : St)) (fun (v7 : Bool) => raycrossing_rayCrossingCounter_countSegment_j7 k a1 a0_0 a2 a0_1 a0_2 v7 = some out) ?_ ?_
              · rintro x8 hp
                replace hp : raycrossing_rayCrossingCounter_countSegment_j7 k a1 a0_0 a2 a0_1 a0_2 x8 = some out := hp
                unfold raycrossing_rayCrossingCounter_countSegment_j7 at hp
                refine qx_rd' (rd_move' rfl) rfl rfl (wt_none' rfl) ?_
                refine qx_cutn' 23 (fun (v9 : Bool) => (⟨228, [], [(0, (Vl (.pointer (some wa0)))), (1, (Sl Kf a1)), (2, (Sl Kf a2)), (163, (Vl (.bool v9)))], [⟨.pointer (some wa0), [(Sl Kf a0_0), (Vl (.int .i64 a0_1)), (Vl (.bool a0_2))], 158, none⟩]⟩ : St)) (fun (v9 : Bool) => raycrossing_rayCrossingCounter_countSegment_j9 k a1 a0_0 a2 a0_1 a0_2 v9 = some out) ?_ ?_
                · rintro x10 hp
                  replace hp : raycrossing_rayCrossingCounter_countSegment_j9 k a1 a0_0 a2 a0_1 a0_2 x10 = some out := hp
                  unfold raycrossing_rayCrossingCounter_countSegment_j9 at hp
                  refine qx_nil' ?_
                  show TX E K19 _
                  refine tx_k' hK19 ?_
                  refine cx_cond' rfl (fun h13 => ?_) (fun h13 => ?_)
                  · replace hp := (br_t h13).symm.trans hp
                    refine cx_seq' fun K23 hK23 => ?_
                    refine cx_draw' mixed (by kernel_rfl) ?_
                    refine qx_rd' (rd_move' rfl) rfl rfl (wt_none' rfl) ?_
                    obtain ⟨r165, hr165, hp⟩ := bind_some hp
                    refine qx_rd' (rd_at' (K := Kf) rfl rfl hr165 Try.underlying106 info25) rfl rfl (wt_none' rfl) ?_
                    refine qx_rd' (rd_load_pt' rfl rfl flat25) rfl rfl (wt_none' rfl) ?_
                    refine qx_rd' (rd_move' rfl) rfl rfl (wt_none' rfl) ?_
                    refine qx_rd' (rd_nilck' rfl) rfl rfl (wt_none' rfl) ?_
                    refine qx_rd' (rd_field0' rfl Try.underlying158 rfl info106 rfl) rfl rfl (wt_none' rfl) ?_
                    refine qx_rd' (rd_load' (i := 0) (o := 0) rfl ⟨rfl, rfl, rfl, rfl⟩ rfl flat106) rfl rfl (wt_none' rfl) ?_
                    obtain ⟨r171, hr171, hp⟩ := bind_some hp
                    refine qx_rd' (rd_at' (K := Kf) rfl rfl hr171 Try.underlying106 info25) rfl rfl (wt_none' rfl) ?_
                    refine qx_rd' (rd_load_pt' rfl rfl flat25) rfl rfl (wt_none' rfl) ?_
                    obtain ⟨r173, hr173, hp⟩ := bind_some hp
                    refine qx_rd' (rd_bin' rfl rfl eg_flt (ru_fsub hr173)) rfl rfl (wt_none' rfl) ?_
                    refine qx_rd' (rd_assign' rfl) rfl rfl (wt_none' rfl) ?_
                    refine qx_nil' ?_
                    show TX E K23 _
                    refine tx_k' hK23 ?_
                    refine cx_seq' fun K24 hK24 => ?_
                    refine cx_draw' mixed (by kernel_rfl) ?_
                    refine qx_rd' (rd_move' rfl) rfl rfl (wt_none' rfl) ?_
                    obtain ⟨r175, hr175, hp⟩ := bind_some hp
                    refine qx_rd' (rd_at' (K := Kf) rfl rfl hr175 Try.underlying106 info25) rfl rfl (wt_none' rfl) ?_
                    refine qx_rd' (rd_load_pt' rfl rfl flat25) rfl rfl (wt_none' rfl) ?_
                    refine qx_rd' (rd_move' rfl) rfl rfl (wt_none' rfl) ?_
                    refine qx_rd' (rd_nilck' rfl) rfl rfl (wt_none' rfl) ?_
                    refine qx_rd' (rd_field0' rfl Try.underlying158 rfl info106 rfl) rfl rfl (wt_none' rfl) ?_
                    refine qx_rd' (rd_load' (i := 0) (o := 0) rfl ⟨rfl, rfl, rfl, rfl⟩ rfl flat106) rfl rfl (wt_none' rfl) ?_
                    obtain ⟨r181, hr181, hp⟩ := bind_some hp
                    refine qx_rd' (rd_at' (K := Kf) rfl rfl hr181 Try.underlying106 info25) rfl rfl (wt_none' rfl) ?_
                    refine qx_rd' (rd_load_pt' rfl rfl flat25) rfl rfl (wt_none' rfl) ?_
                    obtain ⟨r183, hr183, hp⟩ := bind_some hp
                    refine qx_rd' (rd_bin' rfl rfl eg_flt (ru_fsub hr183)) rfl rfl (wt_none' rfl) ?_
                    refine qx_rd' (rd_assign' rfl) rfl rfl (wt_none' rfl) ?_
                    refine qx_nil' ?_
                    show TX E K24 _
                    refine tx_k' hK24 ?_
                    refine cx_seq' fun K25 hK25 => ?_
                    refine cx_draw' mixed (by kernel_rfl) ?_
                    refine qx_rd' (rd_move' rfl) rfl rfl (wt_none' rfl) ?_
                    obtain ⟨r185, hr185, hp⟩ := bind_some hp
                    refine qx_rd' (rd_at' (K := Kf) rfl rfl hr185 Try.underlying106 info25) rfl rfl (wt_none' rfl) ?_
                    refine qx_rd' (rd_load_pt' rfl rfl flat25) rfl rfl (wt_none' rfl) ?_
                    refine qx_rd' (rd_move' rfl) rfl rfl (wt_none' rfl) ?_
                    refine qx_rd' (rd_nilck' rfl) rfl rfl (wt_none' rfl) ?_
                    refine qx_rd' (rd_field0' rfl Try.underlying158 rfl info106 rfl) rfl rfl (wt_none' rfl) ?_
                    refine qx_rd' (rd_load' (i := 0) (o := 0) rfl ⟨rfl, rfl, rfl, rfl⟩ rfl flat106) rfl rfl (wt_none' rfl) ?_
                    obtain ⟨r191, hr191, hp⟩ := bind_some hp
                    refine qx_rd' (rd_at' (K := Kf) rfl rfl hr191 Try.underlying106 info25) rfl rfl (wt_none' rfl) ?_
                    refine qx_rd' (rd_load_pt' rfl rfl flat25) rfl rfl (wt_none' rfl) ?_
                    obtain ⟨r193, hr193, hp⟩ := bind_some hp
                    refine qx_rd' (rd_bin' rfl rfl eg_flt (ru_fsub hr193)) rfl rfl (wt_none' rfl) ?_
                    refine qx_rd' (rd_assign' rfl) rfl rfl (wt_none' rfl) ?_
                    refine qx_nil' ?_
                    show TX E K25 _
                    refine tx_k' hK25 ?_
                    refine cx_seq' fun K26 hK26 => ?_
                    refine cx_draw' mixed (by kernel_rfl) ?_
                    refine qx_rd' (rd_move' rfl) rfl rfl (wt_none' rfl) ?_
                    obtain ⟨r195, hr195, hp⟩ := bind_some hp
                    refine qx_rd' (rd_at' (K := Kf) rfl rfl hr195 Try.underlying106 info25) rfl rfl (wt_none' rfl) ?_
                    refine qx_rd' (rd_load_pt' rfl rfl flat25) rfl rfl (wt_none' rfl) ?_
                    refine qx_rd' (rd_move' rfl) rfl rfl (wt_none' rfl) ?_
                    refine qx_rd' (rd_nilck' rfl) rfl rfl (wt_none' rfl) ?_
                    refine qx_rd' (rd_field0' rfl Try.underlying158 rfl info106 rfl) rfl rfl (wt_none' rfl) ?_
                    refine qx_rd' (rd_load' (i := 0) (o := 0) rfl ⟨rfl, rfl, rfl, rfl⟩ rfl flat106) rfl rfl (wt_none' rfl) ?_
                    obtain ⟨r201, hr201, hp⟩ := bind_some hp
                    refine qx_rd' (rd_at' (K := Kf) rfl rfl hr201 Try.underlying106 info25) rfl rfl (wt_none' rfl) ?_
                    refine qx_rd' (rd_load_pt' rfl rfl flat25) rfl rfl (wt_none' rfl) ?_
                    obtain ⟨r203, hr203, hp⟩ := bind_some hp
                    refine qx_rd' (rd_bin' rfl rfl eg_flt (ru_fsub hr203)) rfl rfl (wt_none' rfl) ?_
                    refine qx_rd' (rd_assign' rfl) rfl rfl (wt_none' rfl) ?_
                    refine qx_nil' ?_
                    show TX E K26 _
                    refine tx_k' hK26 ?_
                    refine cx_seq' fun K27 hK27 => ?_
                    refine cx_region' ?_
                    refine sx_rd' (rd_move' rfl) rfl rfl (wt_none' rfl) ?_
                    refine sx_rd' (rd_move' rfl) rfl rfl (wt_none' rfl) ?_
                    refine sx_rd' (rd_move' rfl) rfl rfl (wt_none' rfl) ?_
                    refine sx_rd' (rd_move' rfl) rfl rfl (wt_none' rfl) ?_
                    obtain ⟨r208, hr208, hp⟩ := bind_some hp
                    refine sx_ox' (ox_calln' (ent_fn' Try.func92 isn92 rfl rfl) (robustdeterminate_SignOfDet2x2_sim _ _ _ _ hr208 : Go.Sx.Fn Try.prog 92 [(Vl (.float .f64 r173)), (Vl (.float .f64 r183)), (Vl (.float .f64 r193)), (Vl (.float .f64 r203))] [] (fun x : Unit => (Vl (.int .i64 r208))) (fun x => [])) (Hn := fun x : Unit => [⟨.pointer (some wa0), [(Sl Kf a0_0), (Vl (.int .i64 a0_1)), (Vl (.bool a0_2))], 158, none⟩]) (fun _ => rfl) rfl rfl) (wt_none' rfl) fun ⟨⟩ => ?_
                    refine sx_rd' (rd_assign' rfl) rfl rfl (wt_none' rfl) ?_
                    refine sx_nil' ?_
                    show TX E K27 _
                    refine tx_k' hK27 ?_
                    refine cx_seq' fun K28 hK28 => ?_
                    refine cx_seq' fun K29 hK29 => ?_
                    refine cx_region' ?_
                    refine sx_rd' (rd_move' rfl) rfl rfl (wt_none' rfl) ?_
                    refine sx_rd' (rd_bin' rfl rfl eg_int ru_eql) rfl rfl (wt_none' rfl) ?_
                    refine sx_nil' ?_
                    show TX E K29 _
                    refine tx_k' hK29 ?_
                    refine cx_cond' rfl (fun h14 => ?_) (fun h14 => ?_)
                    · replace hp := (br_t h14).symm.trans hp
                      refine cx_seq' fun K30 hK30 => ?_
                      refine cx_region' ?_
                      refine sx_rd' (rd_move' rfl) rfl rfl (wt_none' rfl) ?_
                      refine sx_rd' (rd_nilck' rfl) rfl rfl (wt_none' rfl) ?_
                      refine sx_rd' (rd_field' (off := 2) rfl Try.underlying158 rfl info4 rfl) rfl rfl (wt_none' rfl) ?_
                      refine sx_ox' (ox_store' (i := 0) (o := 2) rfl rfl (lv_vl rfl rfl) ⟨rfl, rfl, rfl, rfl⟩ rfl info4 rfl (H' := [⟨.pointer (some wa0), [(Sl Kf a0_0), (Vl (.int .i64 a0_1)), (Vl (.bool true))], 158, none⟩]) rfl) (wt_none' rfl) fun _ => ?_
                      refine sx_nil' ?_
                      show TX E K30 _
                      refine tx_k' hK30 ?_
                      refine cx_retc' ?_
                      replace hp := Option.some.inj hp
                      subst hp
                      refine tx_pick' (L' := []) (H' := [⟨.pointer (some wa0), [(Sl Kf a0_0), (Vl (.int .i64 a0_1)), (Vl (.bool true))], 158, none⟩]) [0] sub_nil (by decide) (pick_cons rfl pick_nil) ?_
                      exact tx_ret0' Try.results131 rfl () rfl (List.Sublist.refl _)
                    · replace hp := (br_f h14).symm.trans hp
                      refine cx_skip' ?_
                      show TX E K28 _
                      refine tx_k' hK28 ?_
                      refine cx_join' (fun (v10 : Int) => (⟨228, [], [(0, (Vl (.pointer (some wa0)))), (12, (Vl (.int .i64 v10)))], [⟨.pointer (some wa0), [(Sl Kf a0_0), (Vl (.int .i64 a0_1)), (Vl (.bool a0_2))], 158, none⟩]⟩ : St)) (fun (v10 : Int) => raycrossing_rayCrossingCounter_countSegment_j10 k a0_0 a0_1 a0_2 v10 = some out) ?_ ?_
                      · rintro x11 hp
                        replace hp : raycrossing_rayCrossingCounter_countSegment_j10 k a0_0 a0_1 a0_2 x11 = some out := hp
                        unfold raycrossing_rayCrossingCounter_countSegment_j10 at hp
                        refine cx_seq' fun K33 hK33 => ?_
                        refine cx_region' ?_
                        refine sx_rd' (rd_move' rfl) rfl rfl (wt_none' rfl) ?_
                        refine sx_rd' (rd_bin' rfl rfl eg_int ru_gtr) rfl rfl (wt_none' rfl) ?_
                        refine sx_nil' ?_
                        show TX E K33 _
                        refine tx_k' hK33 ?_
                        refine cx_cond' rfl (fun h16 => ?_) (fun h16 => ?_)
                        · replace hp := (br_t h16).symm.trans hp
                          refine cx_region' ?_
                          refine sx_rd' (rd_move' rfl) rfl rfl (wt_none' rfl) ?_
                          refine sx_rd' (rd_nilck' rfl) rfl rfl (wt_none' rfl) ?_
                          refine sx_rd' (rd_field' (off := 1) rfl Try.underlying158 rfl info3 rfl) rfl rfl (wt_none' rfl) ?_
                          refine sx_rd' (rd_load' (i := 0) (o := 1) rfl ⟨rfl, rfl, rfl, rfl⟩ rfl flat3) rfl rfl (wt_none' rfl) ?_
                          refine sx_rd' (rd_bin' rfl rfl eg_int ru_add) rfl rfl (wt_none' rfl) ?_
                          refine sx_rd' (rd_nilck' rfl) rfl rfl (wt_none' rfl) ?_
                          refine sx_rd' (rd_field' (off := 1) rfl Try.underlying158 rfl info3 rfl) rfl rfl (wt_none' rfl) ?_
                          refine sx_ox' (ox_store' (i := 0) (o := 1) rfl rfl (lv_vl rfl rfl) ⟨rfl, rfl, rfl, rfl⟩ rfl info3 rfl (H' := [⟨.pointer (some wa0), [(Sl Kf a0_0), (Vl (.int .i64 (iadd .i64 a0_1 1))), (Vl (.bool a0_2))], 158, none⟩]) rfl) (wt_none' rfl) fun _ => ?_
                          refine sx_nil' ?_
                          replace hp := Option.some.inj hp
                          subst hp
                          refine tx_pick' (L' := []) (H' := [⟨.pointer (some wa0), [(Sl Kf a0_0), (Vl (.int .i64 (iadd .i64 a0_1 1))), (Vl (.bool a0_2))], 158, none⟩]) [0] sub_nil (by decide) (pick_cons rfl pick_nil) ?_
                          exact tx_end0' Try.results131 rfl () rfl (List.Sublist.refl _)
                        · replace hp := (br_f h16).symm.trans hp
                          refine cx_skip' ?_
                          replace hp := Option.some.inj hp
                          subst hp
                          refine tx_pick' (L' := []) (H' := [⟨.pointer (some wa0), [(Sl Kf a0_0), (Vl (.int .i64 a0_1)), (Vl (.bool a0_2))], 158, none⟩]) [0] sub_nil (by decide) (pick_cons rfl pick_nil) ?_
                          exact tx_end0' Try.results131 rfl () rfl (List.Sublist.refl _)
                      · intro K31 hK31
                        refine cx_seq' fun K32 hK32 => ?_
                        refine cx_region' ?_
                        refine sx_rd' (rd_move' rfl) rfl rfl (wt_none' rfl) ?_
                        refine sx_rd' (rd_move' rfl) rfl rfl (wt_none' rfl) ?_
                        refine sx_rd' (rd_bin' rfl rfl eg_flt ru_flt) rfl rfl (wt_none' rfl) ?_
                        refine sx_nil' ?_
                        show TX E K32 _
                        refine tx_k' hK32 ?_
                        refine cx_cond' rfl (fun h15 => ?_) (fun h15 => ?_)
                        · replace hp := (br_t h15).symm.trans hp
                          refine cx_region' ?_
                          refine sx_rd' (rd_move' rfl) rfl rfl (wt_none' rfl) ?_
                          refine sx_rd' (rd_un' rfl ru_ineg) rfl rfl (wt_none' rfl) ?_
                          refine sx_rd' (rd_assign' rfl) rfl rfl (wt_none' rfl) ?_
                          refine sx_nil' ?_
                          show TX E K31 _
                          exact tx_pick' [0] (sub_cons rfl (sub_cons rfl sub_nil)) (by decide) (pick_cons rfl pick_nil) (hK31 (isub .i64 0 r208) hp)
                        · replace hp := (br_f h15).symm.trans hp
                          refine cx_skip' ?_
                          show TX E K31 _
                          exact tx_pick' [0] (sub_cons rfl (sub_cons rfl sub_nil)) (by decide) (pick_cons rfl pick_nil) (hK31 r208 hp)
                  · replace hp := (br_f h13).symm.trans hp
                    refine cx_skip' ?_
                    replace hp := Option.some.inj hp
                    subst hp
                    refine tx_pick' (L' := []) (H' := [⟨.pointer (some wa0), [(Sl Kf a0_0), (Vl (.int .i64 a0_1)), (Vl (.bool a0_2))], 158, none⟩]) [0] sub_nil (by decide) (pick_cons rfl pick_nil) ?_
                    exact tx_end0' Try.results131 rfl () rfl (List.Sublist.refl _)
                · intro K22 hK22
                  rcases br_cases hp with ⟨h11, hp⟩ | ⟨h11, hp⟩
                  · refine qx_skip' rfl rfl (wt_is' (wt_guard' rfl rfl rfl) (beq_tf h11)) ?_
                    refine qx_skip' rfl rfl (wt_is' (wt_guard' rfl rfl rfl) (beq_tf h11)) ?_
                    refine qx_skip' rfl rfl (wt_is' (wt_guard' rfl rfl rfl) (beq_tf h11)) ?_
                    refine qx_skip' rfl rfl (wt_is' (wt_guard' rfl rfl rfl) (beq_tf h11)) ?_
                    refine qx_skip' rfl rfl (wt_is' (wt_guard' rfl rfl rfl) (beq_tf h11)) ?_
                    refine qx_skip' rfl rfl (wt_is' (wt_guard' rfl rfl rfl) (beq_tf h11)) ?_
                    refine qx_skip' rfl rfl (wt_is' (wt_guard' rfl rfl rfl) (beq_tf h11)) ?_
                    refine qx_skip' rfl rfl (wt_is' (wt_guard' rfl rfl rfl) (beq_tf h11)) ?_
                    refine qx_skip' rfl rfl (wt_is' (wt_guard' rfl rfl rfl) (beq_tf h11)) ?_
                    refine qx_skip' rfl rfl (wt_is' (wt_guard' rfl rfl rfl) (beq_tf h11)) ?_
                    refine qx_skip' rfl rfl (wt_is' (wt_guard' rfl rfl rfl) (beq_tf h11)) ?_
                    refine qx_skip' rfl rfl (wt_undef' rfl rfl rfl) ?_
                    refine qx_skip' rfl rfl (wt_undef' rfl rfl rfl) ?_
                    refine qx_skip' rfl rfl (wt_undef' rfl rfl rfl) ?_
                    refine qx_skip' rfl rfl (wt_undef' rfl rfl rfl) ?_
                    refine qx_skip' rfl rfl (wt_undef' rfl rfl rfl) ?_
                    refine qx_skip' rfl rfl (wt_undef' rfl rfl rfl) ?_
                    refine qx_skip' rfl rfl (wt_undef' rfl rfl rfl) ?_
                    refine qx_skip' rfl rfl (wt_undef' rfl rfl rfl) ?_
                    refine qx_skip' rfl rfl (wt_undef' rfl rfl rfl) ?_
                    refine qx_skip' rfl rfl (wt_undef' rfl rfl rfl) ?_
                    refine qx_skip' rfl rfl (wt_is' (wt_guard' rfl rfl rfl) (beq_tf h11)) ?_
                    refine qx_rd' (rd_pick_true' rfl h11 rfl) rfl rfl (wt_none' rfl) ?_
                    refine qx_end' ?_
                    exact tq_pick' [0] (sub_cons rfl (sub_cons rfl (sub_cons rfl (sub_cons rfl sub_nil)))) (by decide) (pick_cons rfl pick_nil) (hK22 true hp)
                  · refine qx_rd' (rd_move' rfl) rfl rfl (wt_is' (wt_guard' rfl rfl rfl) (beq_ff h11)) ?_
                    obtain ⟨r142, hr142, hp⟩ := bind_some hp
                    refine qx_rd' (rd_at' (K := Kf) rfl rfl hr142 Try.underlying106 info25) rfl rfl (wt_is' (wt_guard' rfl rfl rfl) (beq_ff h11)) ?_
                    refine qx_rd' (rd_load_pt' rfl rfl flat25) rfl rfl (wt_is' (wt_guard' rfl rfl rfl) (beq_ff h11)) ?_
                    refine qx_rd' (rd_move' rfl) rfl rfl (wt_is' (wt_guard' rfl rfl rfl) (beq_ff h11)) ?_
                    refine qx_rd' (rd_nilck' rfl) rfl rfl (wt_is' (wt_guard' rfl rfl rfl) (beq_ff h11)) ?_
                    refine qx_rd' (rd_field0' rfl Try.underlying158 rfl info106 rfl) rfl rfl (wt_is' (wt_guard' rfl rfl rfl) (beq_ff h11)) ?_
                    refine qx_rd' (rd_load' (i := 0) (o := 0) rfl ⟨rfl, rfl, rfl, rfl⟩ rfl flat106) rfl rfl (wt_is' (wt_guard' rfl rfl rfl) (beq_ff h11)) ?_
                    obtain ⟨r148, hr148, hp⟩ := bind_some hp
                    refine qx_rd' (rd_at' (K := Kf) rfl rfl hr148 Try.underlying106 info25) rfl rfl (wt_is' (wt_guard' rfl rfl rfl) (beq_ff h11)) ?_
                    refine qx_rd' (rd_load_pt' rfl rfl flat25) rfl rfl (wt_is' (wt_guard' rfl rfl rfl) (beq_ff h11)) ?_
                    refine qx_rd' (rd_bin' rfl rfl eg_flt ru_fgt) rfl rfl (wt_is' (wt_guard' rfl rfl rfl) (beq_ff h11)) ?_
                    refine qx_rd' (rd_move' rfl) rfl rfl (wt_is' (wt_guard' rfl rfl rfl) (beq_ff h11)) ?_
                    refine qx_cutn' 12 (fun (v8 : Bool) => (⟨228, [], [(0, (Vl (.pointer (some wa0)))), (1, (Sl Kf a1)), (2, (Sl Kf a2)), (163, (Vl (.bool v8)))], [⟨.pointer (some wa0), [(Sl Kf a0_0), (Vl (.int .i64 a0_1)), (Vl (.bool a0_2))], 158, none⟩]⟩ : St)) (fun (v8 : Bool) => raycrossing_rayCrossingCounter_countSegment_j8 k a1 a0_0 a2 a0_1 a0_2 v8 = some out) ?_ ?_
                    · rintro x9 hp
                      replace hp : raycrossing_rayCrossingCounter_countSegment_j8 k a1 a0_0 a2 a0_1 a0_2 x9 = some out := hp
                      unfold raycrossing_rayCrossingCounter_countSegment_j8 at hp
                      refine qx_end' ?_
                      exact tq_pick' [0] (sub_cons rfl (sub_cons rfl (sub_cons rfl (sub_cons rfl sub_nil)))) (by decide) (pick_cons rfl pick_nil) (hK22 x9 hp)
                    · intro K21 hK21
                      rcases br_cases hp with ⟨h12, hp⟩ | ⟨h12, hp⟩
                      · refine qx_rd' (rd_move' rfl) rfl rfl (wt_is' (wt_guard' rfl rfl rfl) (beq_tt h12)) ?_
                        obtain ⟨r153, hr153, hp⟩ := bind_some hp
                        refine qx_rd' (rd_at' (K := Kf) rfl rfl hr153 Try.underlying106 info25) rfl rfl (wt_is' (wt_guard' rfl rfl rfl) (beq_tt h12)) ?_
                        refine qx_rd' (rd_load_pt' rfl rfl flat25) rfl rfl (wt_is' (wt_guard' rfl rfl rfl) (beq_tt h12)) ?_
                        refine qx_rd' (rd_move' rfl) rfl rfl (wt_is' (wt_guard' rfl rfl rfl) (beq_tt h12)) ?_
                        refine qx_rd' (rd_nilck' rfl) rfl rfl (wt_is' (wt_guard' rfl rfl rfl) (beq_tt h12)) ?_
                        refine qx_rd' (rd_field0' rfl Try.underlying158 rfl info106 rfl) rfl rfl (wt_is' (wt_guard' rfl rfl rfl) (beq_tt h12)) ?_
                        refine qx_rd' (rd_load' (i := 0) (o := 0) rfl ⟨rfl, rfl, rfl, rfl⟩ rfl flat106) rfl rfl (wt_is' (wt_guard' rfl rfl rfl) (beq_tt h12)) ?_
                        obtain ⟨r159, hr159, hp⟩ := bind_some hp
                        refine qx_rd' (rd_at' (K := Kf) rfl rfl hr159 Try.underlying106 info25) rfl rfl (wt_is' (wt_guard' rfl rfl rfl) (beq_tt h12)) ?_
                        refine qx_rd' (rd_load_pt' rfl rfl flat25) rfl rfl (wt_is' (wt_guard' rfl rfl rfl) (beq_tt h12)) ?_
                        refine qx_rd' (rd_bin' rfl rfl eg_flt ru_fle) rfl rfl (wt_is' (wt_guard' rfl rfl rfl) (beq_tt h12)) ?_
                        refine qx_rd' (rd_pick_true' rfl h12 rfl) rfl rfl (wt_is' (wt_guard' rfl rfl rfl) (beq_ff h11)) ?_
                        refine qx_rd' (rd_pick_false' rfl h11 rfl) rfl rfl (wt_none' rfl) ?_
                        refine qx_end' ?_
                        exact tq_pick' [0] (sub_cons rfl (sub_cons rfl (sub_cons rfl (sub_cons rfl sub_nil)))) (by decide) (pick_cons rfl pick_nil) (hK21 (fle r153 r159) hp)
                      · refine qx_skip' rfl rfl (wt_is' (wt_guard' rfl rfl rfl) (beq_ft h12)) ?_
                        refine qx_skip' rfl rfl (wt_is' (wt_guard' rfl rfl rfl) (beq_ft h12)) ?_
                        refine qx_skip' rfl rfl (wt_is' (wt_guard' rfl rfl rfl) (beq_ft h12)) ?_
                        refine qx_skip' rfl rfl (wt_is' (wt_guard' rfl rfl rfl) (beq_ft h12)) ?_
                        refine qx_skip' rfl rfl (wt_is' (wt_guard' rfl rfl rfl) (beq_ft h12)) ?_
                        refine qx_skip' rfl rfl (wt_is' (wt_guard' rfl rfl rfl) (beq_ft h12)) ?_
                        refine qx_skip' rfl rfl (wt_is' (wt_guard' rfl rfl rfl) (beq_ft h12)) ?_
                        refine qx_skip' rfl rfl (wt_is' (wt_guard' rfl rfl rfl) (beq_ft h12)) ?_
                        refine qx_skip' rfl rfl (wt_is' (wt_guard' rfl rfl rfl) (beq_ft h12)) ?_
                        refine qx_skip' rfl rfl (wt_is' (wt_guard' rfl rfl rfl) (beq_ft h12)) ?_
                        refine qx_rd' (rd_pick_false' rfl h12 rfl) rfl rfl (wt_is' (wt_guard' rfl rfl rfl) (beq_ff h11)) ?_
                        refine qx_rd' (rd_pick_false' rfl h11 rfl) rfl rfl (wt_none' rfl) ?_
                        refine qx_end' ?_
                        exact tq_pick' [0] (sub_cons rfl (sub_cons rfl (sub_cons rfl (sub_cons rfl sub_nil)))) (by decide) (pick_cons rfl pick_nil) (hK21 false hp)
              · intro K20 hK20
                rcases br_cases hp with ⟨h10, hp⟩ | ⟨h10, hp⟩
                · refine qx_rd' (rd_move' rfl) rfl rfl (wt_is' (wt_guard' rfl rfl rfl) (beq_tt h10)) ?_
                  obtain ⟨r130, hr130, hp⟩ := bind_some hp
                  refine qx_rd' (rd_at' (K := Kf) rfl rfl hr130 Try.underlying106 info25) rfl rfl (wt_is' (wt_guard' rfl rfl rfl) (beq_tt h10)) ?_
                  refine qx_rd' (rd_load_pt' rfl rfl flat25) rfl rfl (wt_is' (wt_guard' rfl rfl rfl) (beq_tt h10)) ?_
                  refine qx_rd' (rd_move' rfl) rfl rfl (wt_is' (wt_guard' rfl rfl rfl) (beq_tt h10)) ?_
                  refine qx_rd' (rd_nilck' rfl) rfl rfl (wt_is' (wt_guard' rfl rfl rfl) (beq_tt h10)) ?_
                  refine qx_rd' (rd_field0' rfl Try.underlying158 rfl info106 rfl) rfl rfl (wt_is' (wt_guard' rfl rfl rfl) (beq_tt h10)) ?_
                  refine qx_rd' (rd_load' (i := 0) (o := 0) rfl ⟨rfl, rfl, rfl, rfl⟩ rfl flat106) rfl rfl (wt_is' (wt_guard' rfl rfl rfl) (beq_tt h10)) ?_
                  obtain ⟨r136, hr136, hp⟩ := bind_some hp
                  refine qx_rd' (rd_at' (K := Kf) rfl rfl hr136 Try.underlying106 info25) rfl rfl (wt_is' (wt_guard' rfl rfl rfl) (beq_tt h10)) ?_
                  refine qx_rd' (rd_load_pt' rfl rfl flat25) rfl rfl (wt_is' (wt_guard' rfl rfl rfl) (beq_tt h10)) ?_
                  refine qx_rd' (rd_bin' rfl rfl eg_flt ru_fle) rfl rfl (wt_is' (wt_guard' rfl rfl rfl) (beq_tt h10)) ?_
                  refine qx_rd' (rd_pick_true' rfl h10 rfl) rfl rfl (wt_none' rfl) ?_
                  refine qx_end' ?_
                  exact tq_pick' [0] (sub_cons rfl (sub_cons rfl (sub_cons rfl (sub_cons rfl sub_nil)))) (by decide) (pick_cons rfl pick_nil) (hK20 (fle r130 r136) hp)
                · refine qx_skip' rfl rfl (wt_is' (wt_guard' rfl rfl rfl) (beq_ft h10)) ?_
                  refine qx_skip' rfl rfl (wt_is' (wt_guard' rfl rfl rfl) (beq_ft h10)) ?_
                  refine qx_skip' rfl rfl (wt_is' (wt_guard' rfl rfl rfl) (beq_ft h10)) ?_
                  refine qx_skip' rfl rfl (wt_is' (wt_guard' rfl rfl rfl) (beq_ft h10)) ?_
                  refine qx_skip' rfl rfl (wt_is' (wt_guard' rfl rfl rfl) (beq_ft h10)) ?_
                  refine qx_skip' rfl rfl (wt_is' (wt_guard' rfl rfl rfl) (beq_ft h10)) ?_
                  refine qx_skip' rfl rfl (wt_is' (wt_guard' rfl rfl rfl) (beq_ft h10)) ?_
                  refine qx_skip' rfl rfl (wt_is' (wt_guard' rfl rfl rfl) (beq_ft h10)) ?_
                  refine qx_skip' rfl rfl (wt_is' (wt_guard' rfl rfl rfl) (beq_ft h10)) ?_
                  refine qx_skip' rfl rfl (wt_is' (wt_guard' rfl rfl rfl) (beq_ft h10)) ?_
                  refine qx_rd' (rd_pick_false' rfl h10 rfl) rfl rfl (wt_none' rfl) ?_
                  refine qx_end' ?_
                  exact tq_pick' [0] (sub_cons rfl (sub_cons rfl (sub_cons rfl (sub_cons rfl sub_nil)))) (by decide) (pick_cons rfl pick_nil) (hK20 false hp)
          · intro K10 hK10
            rcases br_cases hp with ⟨h5, hp⟩ | ⟨h5, hp⟩
            · refine qx_rd' (rd_move' rfl) rfl rfl (wt_is' (wt_guard' rfl rfl rfl) (beq_tt h5)) ?_
              obtain ⟨r72, hr72, hp⟩ := bind_some hp
              refine qx_rd' (rd_at' (K := Kf) rfl rfl hr72 Try.underlying106 info25) rfl rfl (wt_is' (wt_guard' rfl rfl rfl) (beq_tt h5)) ?_
              refine qx_rd' (rd_load_pt' rfl rfl flat25) rfl rfl (wt_is' (wt_guard' rfl rfl rfl) (beq_tt h5)) ?_
              refine qx_rd' (rd_move' rfl) rfl rfl (wt_is' (wt_guard' rfl rfl rfl) (beq_tt h5)) ?_
              refine qx_rd' (rd_nilck' rfl) rfl rfl (wt_is' (wt_guard' rfl rfl rfl) (beq_tt h5)) ?_
              refine qx_rd' (rd_field0' rfl Try.underlying158 rfl info106 rfl) rfl rfl (wt_is' (wt_guard' rfl rfl rfl) (beq_tt h5)) ?_
              refine qx_rd' (rd_load' (i := 0) (o := 0) rfl ⟨rfl, rfl, rfl, rfl⟩ rfl flat106) rfl rfl (wt_is' (wt_guard' rfl rfl rfl) (beq_tt h5)) ?_
              obtain ⟨r78, hr78, hp⟩ := bind_some hp
              refine qx_rd' (rd_at' (K := Kf) rfl rfl hr78 Try.underlying106 info25) rfl rfl (wt_is' (wt_guard' rfl rfl rfl) (beq_tt h5)) ?_
              refine qx_rd' (rd_load_pt' rfl rfl flat25) rfl rfl (wt_is' (wt_guard' rfl rfl rfl) (beq_tt h5)) ?_
              refine qx_rd' (rd_bin' rfl rfl eg_flt ru_feq) rfl rfl (wt_is' (wt_guard' rfl rfl rfl) (beq_tt h5)) ?_
              refine qx_rd' (rd_pick_true' rfl h5 rfl) rfl rfl (wt_none' rfl) ?_
              refine qx_end' ?_
              exact tq_pick' [0] (sub_cons rfl (sub_cons rfl (sub_cons rfl (sub_cons rfl sub_nil)))) (by decide) (pick_cons rfl pick_nil) (hK10 (feq r72 r78) hp)
            · refine qx_skip' rfl rfl (wt_is' (wt_guard' rfl rfl rfl) (beq_ft h5)) ?_
              refine qx_skip' rfl rfl (wt_is' (wt_guard' rfl rfl rfl) (beq_ft h5)) ?_
              refine qx_skip' rfl rfl (wt_is' (wt_guard' rfl rfl rfl) (beq_ft h5)) ?_
              refine qx_skip' rfl rfl (wt_is' (wt_guard' rfl rfl rfl) (beq_ft h5)) ?_
              refine qx_skip' rfl rfl (wt_is' (wt_guard' rfl rfl rfl) (beq_ft h5)) ?_
              refine qx_skip' rfl rfl (wt_is' (wt_guard' rfl rfl rfl) (beq_ft h5)) ?_
              refine qx_skip' rfl rfl (wt_is' (wt_guard' rfl rfl rfl) (beq_ft h5)) ?_
              refine qx_skip' rfl rfl (wt_is' (wt_guard' rfl rfl rfl) (beq_ft h5)) ?_
              refine qx_skip' rfl rfl (wt_is' (wt_guard' rfl rfl rfl) (beq_ft h5)) ?_
              refine qx_skip' rfl rfl (wt_is' (wt_guard' rfl rfl rfl) (beq_ft h5)) ?_
              refine qx_rd' (rd_pick_false' rfl h5 rfl) rfl rfl (wt_none' rfl) ?_
              refine qx_end' ?_
              exact tq_pick' [0] (sub_cons rfl (sub_cons rfl (sub_cons rfl (sub_cons rfl sub_nil)))) (by decide) (pick_cons rfl pick_nil) (hK10 false hp)
      · intro K6 hK6
        rcases br_cases hp with ⟨h3, hp⟩ | ⟨h3, hp⟩
        · refine qx_rd' (rd_move' rfl) rfl rfl (wt_is' (wt_guard' rfl rfl rfl) (beq_tt h3)) ?_
          refine qx_rd' (rd_nilck' rfl) rfl rfl (wt_is' (wt_guard' rfl rfl rfl) (beq_tt h3)) ?_
          refine qx_rd' (rd_field0' rfl Try.underlying158 rfl info106 rfl) rfl rfl (wt_is' (wt_guard' rfl rfl rfl) (beq_tt h3)) ?_
          refine qx_rd' (rd_load' (i := 0) (o := 0) rfl ⟨rfl, rfl, rfl, rfl⟩ rfl flat106) rfl rfl (wt_is' (wt_guard' rfl rfl rfl) (beq_tt h3)) ?_
          obtain ⟨r50, hr50, hp⟩ := bind_some hp
          refine qx_rd' (rd_at' (K := Kf) rfl rfl hr50 Try.underlying106 info25) rfl rfl (wt_is' (wt_guard' rfl rfl rfl) (beq_tt h3)) ?_
          refine qx_rd' (rd_load_pt' rfl rfl flat25) rfl rfl (wt_is' (wt_guard' rfl rfl rfl) (beq_tt h3)) ?_
          refine qx_rd' (rd_move' rfl) rfl rfl (wt_is' (wt_guard' rfl rfl rfl) (beq_tt h3)) ?_
          obtain ⟨r53, hr53, hp⟩ := bind_some hp
          refine qx_rd' (rd_at' (K := Kf) rfl rfl hr53 Try.underlying106 info25) rfl rfl (wt_is' (wt_guard' rfl rfl rfl) (beq_tt h3)) ?_
          refine qx_rd' (rd_load_pt' rfl rfl flat25) rfl rfl (wt_is' (wt_guard' rfl rfl rfl) (beq_tt h3)) ?_
          refine qx_rd' (rd_bin' rfl rfl eg_flt ru_feq) rfl rfl (wt_is' (wt_guard' rfl rfl rfl) (beq_tt h3)) ?_
          refine qx_rd' (rd_pick_true' rfl h3 rfl) rfl rfl (wt_none' rfl) ?_
          refine qx_end' ?_
          exact tq_pick' [0] (sub_cons rfl (sub_cons rfl (sub_cons rfl (sub_cons rfl sub_nil)))) (by decide) (pick_cons rfl pick_nil) (hK6 (feq r50 r53) hp)
        · refine qx_skip' rfl rfl (wt_is' (wt_guard' rfl rfl rfl) (beq_ft h3)) ?_
          refine qx_skip' rfl rfl (wt_is' (wt_guard' rfl rfl rfl) (beq_ft h3)) ?_
          refine qx_skip' rfl rfl (wt_is' (wt_guard' rfl rfl rfl) (beq_ft h3)) ?_
          refine qx_skip' rfl rfl (wt_is' (wt_guard' rfl rfl rfl) (beq_ft h3)) ?_
          refine qx_skip' rfl rfl (wt_is' (wt_guard' rfl rfl rfl) (beq_ft h3)) ?_
          refine qx_skip' rfl rfl (wt_is' (wt_guard' rfl rfl rfl) (beq_ft h3)) ?_
          refine qx_skip' rfl rfl (wt_is' (wt_guard' rfl rfl rfl) (beq_ft h3)) ?_
          refine qx_skip' rfl rfl (wt_is' (wt_guard' rfl rfl rfl) (beq_ft h3)) ?_
          refine qx_skip' rfl rfl (wt_is' (wt_guard' rfl rfl rfl) (beq_ft h3)) ?_
          refine qx_skip' rfl rfl (wt_is' (wt_guard' rfl rfl rfl) (beq_ft h3)) ?_
          refine qx_rd' (rd_pick_false' rfl h3 rfl) rfl rfl (wt_none' rfl) ?_
          refine qx_end' ?_
          exact tq_pick' [0] (sub_cons rfl (sub_cons rfl (sub_cons rfl (sub_cons rfl sub_nil)))) (by decide) (pick_cons rfl pick_nil) (hK6 false hp)
  · intro K3 hK3
    rcases br_cases hp with ⟨h1, hp⟩ | ⟨h1, hp⟩
    · refine qx_rd' (rd_move' rfl) rfl rfl (wt_is' (wt_guard' rfl rfl rfl) (beq_tt h1)) ?_
      obtain ⟨r25, hr25, hp⟩ := bind_some hp
      refine qx_rd' (rd_at' (K := Kf) rfl rfl hr25 Try.underlying106 info25) rfl rfl (wt_is' (wt_guard' rfl rfl rfl) (beq_tt h1)) ?_
      refine qx_rd' (rd_load_pt' rfl rfl flat25) rfl rfl (wt_is' (wt_guard' rfl rfl rfl) (beq_tt h1)) ?_
      refine qx_rd' (rd_move' rfl) rfl rfl (wt_is' (wt_guard' rfl rfl rfl) (beq_tt h1)) ?_
      refine qx_rd' (rd_nilck' rfl) rfl rfl (wt_is' (wt_guard' rfl rfl rfl) (beq_tt h1)) ?_
      refine qx_rd' (rd_field0' rfl Try.underlying158 rfl info106 rfl) rfl rfl (wt_is' (wt_guard' rfl rfl rfl) (beq_tt h1)) ?_
      refine qx_rd' (rd_load' (i := 0) (o := 0) rfl ⟨rfl, rfl, rfl, rfl⟩ rfl flat106) rfl rfl (wt_is' (wt_guard' rfl rfl rfl) (beq_tt h1)) ?_
      obtain ⟨r31, hr31, hp⟩ := bind_some hp
      refine qx_rd' (rd_at' (K := Kf) rfl rfl hr31 Try.underlying106 info25) rfl rfl (wt_is' (wt_guard' rfl rfl rfl) (beq_tt h1)) ?_
      refine qx_rd' (rd_load_pt' rfl rfl flat25) rfl rfl (wt_is' (wt_guard' rfl rfl rfl) (beq_tt h1)) ?_
      refine qx_rd' (rd_bin' rfl rfl eg_flt ru_flt) rfl rfl (wt_is' (wt_guard' rfl rfl rfl) (beq_tt h1)) ?_
      refine qx_rd' (rd_pick_true' rfl h1 rfl) rfl rfl (wt_none' rfl) ?_
      refine qx_end' ?_
      exact tq_pick' [0] (sub_cons rfl (sub_cons rfl (sub_cons rfl (sub_cons rfl sub_nil)))) (by decide) (pick_cons rfl pick_nil) (hK3 (flt r25 r31) hp)
    · refine qx_skip' rfl rfl (wt_is' (wt_guard' rfl rfl rfl) (beq_ft h1)) ?_
      refine qx_skip' rfl rfl (wt_is' (wt_guard' rfl rfl rfl) (beq_ft h1)) ?_
      refine qx_skip' rfl rfl (wt_is' (wt_guard' rfl rfl rfl) (beq_ft h1)) ?_
      refine qx_skip' rfl rfl (wt_is' (wt_guard' rfl rfl rfl) (beq_ft h1)) ?_
      refine qx_skip' rfl rfl (wt_is' (wt_guard' rfl rfl rfl) (beq_ft h1)) ?_
      refine qx_skip' rfl rfl (wt_is' (wt_guard' rfl rfl rfl) (beq_ft h1)) ?_
      refine qx_skip' rfl rfl (wt_is' (wt_guard' rfl rfl rfl) (beq_ft h1)) ?_
      refine qx_skip' rfl rfl (wt_is' (wt_guard' rfl rfl rfl) (beq_ft h1)) ?_
      refine qx_skip' rfl rfl (wt_is' (wt_guard' rfl rfl rfl) (beq_ft h1)) ?_
      refine qx_skip' rfl rfl (wt_is' (wt_guard' rfl rfl rfl) (beq_ft h1)) ?_
      refine qx_rd' (rd_pick_false' rfl h1 rfl) rfl rfl (wt_none' rfl) ?_
      refine qx_end' ?_
      exact tq_pick' [0] (sub_cons rfl (sub_cons rfl (sub_cons rfl (sub_cons rfl sub_nil)))) (by decide) (pick_cons rfl pick_nil) (hK3 false hp)

def raycrossing_DoorCount (k : Nat) (a0 : List Nat) (a1 : List Nat) (a2 : List Nat) : Option (Int × Bool) :=
  (raycrossing_rayCrossingCounter_countSegment k a0 0 false a1 a2) >>= fun r13 =>
  some (r13.2.1, r13.2.2)

theorem raycrossing_DoorCount_sim {k : Nat}  (a0 : List Nat) (a1 : List Nat) (a2 : List Nat) {out : Int × Bool} (hp : raycrossing_DoorCount k a0 a1 a2 = some out) : Go.Sx.Fn Try.prog 90 [(Sl Kf a0), (Sl Kf a1), (Sl Kf a2)] [] (fun w : Unit => (Tu [(Vl (.int .i64 out.1)), (Vl (.bool out.2))])) (fun w => []) := by
  unfold raycrossing_DoorCount at hp
  refine fn_of Try.func90 rfl Try.ntmps90 rfl fun E hM => ?_
  refine cx_seq' fun K1 hK1 => ?_
  refine cx_region' ?_
  refine sx_rd' (rd_assign' rfl) rfl rfl (wt_none' rfl) ?_
  refine sx_rd' (rd_assign' rfl) rfl rfl (wt_none' rfl) ?_
  refine sx_nil' ?_
  show TX E K1 _
  refine tx_k' hK1 ?_
  refine cx_seq' fun K2 hK2 => ?_
  refine cx_region' ?_
  refine sx_rd' (rd_move' rfl) rfl rfl (wt_none' rfl) ?_
  refine sx_rd' (rd_build' (pls := [(0, 1), (1, 1), (2, 1)]) (qs := [(0, [(Sl Kf a0)])]) (r := [(Sl Kf a0), (Vl (.int .i64 0)), (Vl (.bool false))]) ⟨rfl, ⟨_, rfl, (lv_sl _ _)⟩, trivial⟩ Try.underlying158 has158 places158 info158 rfl rfl rfl) rfl rfl (wt_none' rfl) ?_
  refine sx_ox' (ox_alloc' info158 rfl rfl rfl rfl (l := [(Vl (.slice none 0 0)), (Vl (.int .i64 0)), (Vl (.bool false))]) rfl) (wt_none' rfl) fun q8 => ?_
  refine sx_ox' (ox_store' (i := 0) (o := 0) rfl rfl (lv_ag _) ⟨rfl, rfl, rfl, rfl⟩ rfl info158 rfl (H' := [⟨.pointer (some q8), [(Sl Kf a0), (Vl (.int .i64 0)), (Vl (.bool false))], 158, none⟩]) rfl) (wt_none' rfl) fun _ => ?_
  refine sx_nil' ?_
  show TX E K2 _
  refine tx_k' hK2 ?_
  refine cx_seq' fun K3 hK3 => ?_
  refine cx_region' ?_
  refine sx_rd' (rd_move' rfl) rfl rfl (wt_none' rfl) ?_
  refine sx_rd' (rd_move' rfl) rfl rfl (wt_none' rfl) ?_
  obtain ⟨r13, hr13, hp⟩ := bind_some hp
  refine sx_ox' (ox_callg' (ent_fn' Try.func131 isn131 rfl rfl) (raycrossing_rayCrossingCounter_countSegment_sim _ _ _ _ _ hr13 : Go.Sx.Fn Try.prog 131 [(Vl (.pointer (some q8))), (Sl Kf a1), (Sl Kf a2)] [⟨.pointer (some q8), [(Sl Kf a0), (Vl (.int .i64 0)), (Vl (.bool false))], 158, none⟩] (fun x : Unit => (Vl (.tuple #[]))) (fun x => [⟨.pointer (some q8), [(Sl Kf r13.1), (Vl (.int .i64 r13.2.1)), (Vl (.bool r13.2.2))], 158, none⟩])) [0] [] (by decide) (pick_cons rfl pick_nil) pick_nil (Hn := fun x : Unit => [⟨.pointer (some q8), [(Sl Kf r13.1), (Vl (.int .i64 r13.2.1)), (Vl (.bool r13.2.2))], 158, none⟩]) (fun _ => rfl) rfl rfl) (wt_none' rfl) fun ⟨⟩ => ?_
  refine sx_nil' ?_
  show TX E K3 _
  refine tx_k' hK3 ?_
  refine cx_seq' fun K4 hK4 => ?_
  refine cx_draw' mixed (by kernel_rfl) ?_
  refine qx_rd' (rd_field' (off := 1) rfl Try.underlying158 rfl info3 rfl) rfl rfl (wt_none' rfl) ?_
  refine qx_rd' (rd_load' (i := 0) (o := 1) rfl ⟨rfl, rfl, rfl, rfl⟩ rfl flat3) rfl rfl (wt_none' rfl) ?_
  refine qx_rd' (rd_field' (off := 2) rfl Try.underlying158 rfl info4 rfl) rfl rfl (wt_none' rfl) ?_
  refine qx_rd' (rd_load' (i := 0) (o := 2) rfl ⟨rfl, rfl, rfl, rfl⟩ rfl flat4) rfl rfl (wt_none' rfl) ?_
  refine qx_rd' (rd_assign' rfl) rfl rfl (wt_none' rfl) ?_
  refine qx_rd' (rd_assign' rfl) rfl rfl (wt_none' rfl) ?_
  refine qx_nil' ?_
  show TX E K4 _
  refine tx_k' hK4 ?_
  refine cx_retc' ?_
  replace hp := Option.some.inj hp
  subst hp
  refine tx_pick' (L' := [(6, (Vl (.int .i64 r13.2.1))), (7, (Vl (.bool r13.2.2)))]) (H' := []) [] (sub_cons rfl (sub_cons rfl sub_nil)) (by decide) pick_nil ?_
  exact tx_ret2' Try.results90 rfl () (rv_tmp' rfl) (rv_tmp' rfl) rfl (List.Sublist.refl _)

def impl_RayCount (k : Nat) (a0_0 : Nat) (a0_1 : Nat) (a1_0 : Nat) (a1_1 : Nat) (a2_0 : Nat) (a2_1 : Nat) : Option (Int × Bool) :=
  (impl_coord k a0_0 a0_1) >>= fun r9 =>
  (impl_coord k a1_0 a1_1) >>= fun r11 =>
  (impl_coord k a2_0 a2_1) >>= fun r13 =>
  (raycrossing_DoorCount k r9 r11 r13) >>= fun r14 =>
  some (r14.1, r14.2)

theorem impl_RayCount_sim {k : Nat}  (a0_0 : Nat) (a0_1 : Nat) (a1_0 : Nat) (a1_1 : Nat) (a2_0 : Nat) (a2_1 : Nat) {out : Int × Bool} (hp : impl_RayCount k a0_0 a0_1 a1_0 a1_1 a2_0 a2_1 = some out) : Go.Sx.Fn Try.prog 43 [(Ag [(Vl (.float .f64 a0_0)), (Vl (.float .f64 a0_1))]), (Ag [(Vl (.float .f64 a1_0)), (Vl (.float .f64 a1_1))]), (Ag [(Vl (.float .f64 a2_0)), (Vl (.float .f64 a2_1))])] [] (fun w : Unit => (Tu [(Vl (.int .i64 out.1)), (Vl (.bool out.2))])) (fun w => []) := by
  unfold impl_RayCount at hp
  refine fn_of Try.func43 rfl Try.ntmps43 rfl fun E hM => ?_
  refine cx_seq' fun K1 hK1 => ?_
  refine cx_region' ?_
  refine sx_ox' (ox_box' rfl (lv_ag _) rfl rfl) (wt_none' rfl) fun q3 => ?_
  refine sx_ox' (ox_box' rfl (lv_ag _) rfl rfl) (wt_none' rfl) fun q4 => ?_
  refine sx_ox' (ox_box' rfl (lv_ag _) rfl rfl) (wt_none' rfl) fun q5 => ?_
  refine sx_rd' (rd_assign' rfl) rfl rfl (wt_none' rfl) ?_
  refine sx_rd' (rd_assign' rfl) rfl rfl (wt_none' rfl) ?_
  refine sx_nil' ?_
  show TX E K1 _
  refine tx_k' hK1 ?_
  refine cx_seq' fun K2 hK2 => ?_
  refine cx_plan' [] [] [(0, 1), (2, 1), (4, 1), (1, 0), (3, 0), (5, 0), (6, 0), (7, 1), (8, 1), (9, 1), (10, 1)] mixed (by kernel_rfl) ?_
  refine px_rd' rfl (rd_load_agg' (i := 2) (o := 0) (nn := 2) rfl ⟨rfl, rfl, rfl, rfl⟩ rfl agg27 (l' := [(Vl (.float .f64 a0_0)), (Vl (.float .f64 a0_1))]) rfl) rfl rfl (wt_none' rfl) ?_
  refine px_rd' rfl (rd_load_agg' (i := 1) (o := 0) (nn := 2) rfl ⟨rfl, rfl, rfl, rfl⟩ rfl agg27 (l' := [(Vl (.float .f64 a1_0)), (Vl (.float .f64 a1_1))]) rfl) rfl rfl (wt_none' rfl) ?_
  refine px_rd' rfl (rd_load_agg' (i := 0) (o := 0) (nn := 2) rfl ⟨rfl, rfl, rfl, rfl⟩ rfl agg27 (l' := [(Vl (.float .f64 a2_0)), (Vl (.float .f64 a2_1))]) rfl) rfl rfl (wt_none' rfl) ?_
  obtain ⟨r9, hr9, hp⟩ := bind_some hp
  refine px_ox' rfl (ox_calln' (ent_fn' Try.func72 isn72 rfl rfl) (impl_coord_sim _ _ hr9 : Go.Sx.Fn Try.prog 72 [(Ag [(Vl (.float .f64 a0_0)), (Vl (.float .f64 a0_1))])] [] (fun x : Unit => (Sl Kf r9)) (fun x => [])) (Hn := fun x : Unit => [⟨.pointer (some q5), [(Vl (.float .f64 a2_0)), (Vl (.float .f64 a2_1))], 27, none⟩, ⟨.pointer (some q4), [(Vl (.float .f64 a1_0)), (Vl (.float .f64 a1_1))], 27, none⟩, ⟨.pointer (some q3), [(Vl (.float .f64 a0_0)), (Vl (.float .f64 a0_1))], 27, none⟩]) (fun _ => rfl) rfl rfl) rfl bs_nil (wt_none' rfl) fun ⟨⟩ => ?_
  obtain ⟨r11, hr11, hp⟩ := bind_some hp
  refine px_ox' rfl (ox_calln' (ent_fn' Try.func72 isn72 rfl rfl) (impl_coord_sim _ _ hr11 : Go.Sx.Fn Try.prog 72 [(Ag [(Vl (.float .f64 a1_0)), (Vl (.float .f64 a1_1))])] [] (fun x : Unit => (Sl Kf r11)) (fun x => [])) (Hn := fun x : Unit => [⟨.pointer (some q5), [(Vl (.float .f64 a2_0)), (Vl (.float .f64 a2_1))], 27, none⟩, ⟨.pointer (some q4), [(Vl (.float .f64 a1_0)), (Vl (.float .f64 a1_1))], 27, none⟩, ⟨.pointer (some q3), [(Vl (.float .f64 a0_0)), (Vl (.float .f64 a0_1))], 27, none⟩]) (fun _ => rfl) rfl rfl) rfl bs_nil (wt_none' rfl) fun ⟨⟩ => ?_
  obtain ⟨r13, hr13, hp⟩ := bind_some hp
  refine px_ox' rfl (ox_calln' (ent_fn' Try.func72 isn72 rfl rfl) (impl_coord_sim _ _ hr13 : Go.Sx.Fn Try.prog 72 [(Ag [(Vl (.float .f64 a2_0)), (Vl (.float .f64 a2_1))])] [] (fun x : Unit => (Sl Kf r13)) (fun x => [])) (Hn := fun x : Unit => [⟨.pointer (some q5), [(Vl (.float .f64 a2_0)), (Vl (.float .f64 a2_1))], 27, none⟩, ⟨.pointer (some q4), [(Vl (.float .f64 a1_0)), (Vl (.float .f64 a1_1))], 27, none⟩, ⟨.pointer (some q3), [(Vl (.float .f64 a0_0)), (Vl (.float .f64 a0_1))], 27, none⟩]) (fun _ => rfl) rfl rfl) rfl bs_nil (wt_none' rfl) fun ⟨⟩ => ?_
  obtain ⟨r14, hr14, hp⟩ := bind_some hp
  refine px_ox' rfl (ox_calln' (ent_fn' Try.func90 isn90 rfl rfl) (raycrossing_DoorCount_sim _ _ _ hr14 : Go.Sx.Fn Try.prog 90 [(Sl Kf r9), (Sl Kf r11), (Sl Kf r13)] [] (fun x : Unit => (Tu [(Vl (.int .i64 r14.1)), (Vl (.bool r14.2))])) (fun x => [])) (Hn := fun x : Unit => [⟨.pointer (some q5), [(Vl (.float .f64 a2_0)), (Vl (.float .f64 a2_1))], 27, none⟩, ⟨.pointer (some q4), [(Vl (.float .f64 a1_0)), (Vl (.float .f64 a1_1))], 27, none⟩, ⟨.pointer (some q3), [(Vl (.float .f64 a0_0)), (Vl (.float .f64 a0_1))], 27, none⟩]) (fun _ => rfl) rfl rfl) rfl bs_nil (wt_none' rfl) fun ⟨⟩ => ?_
  refine px_rd' rfl (rd_extract' rfl rfl) rfl rfl (wt_none' rfl) ?_
  refine px_rd' rfl (rd_extract' rfl rfl) rfl rfl (wt_none' rfl) ?_
  refine px_rd' rfl (rd_assign' rfl) rfl rfl (wt_none' rfl) ?_
  refine px_rd' rfl (rd_assign' rfl) rfl rfl (wt_none' rfl) ?_
  refine px_nil' ?_
  show TX E K2 _
  refine tx_k' hK2 ?_
  refine cx_retc' ?_
  replace hp := Option.some.inj hp
  subst hp
  refine tx_pick' (L' := [(6, (Vl (.int .i64 r14.1))), (7, (Vl (.bool r14.2)))]) (H' := []) [] (sub_cons rfl (sub_cons rfl sub_nil)) (by decide) pick_nil ?_
  exact tx_ret2' Try.results43 rfl () (rv_tmp' rfl) (rv_tmp' rfl) rfl (List.Sublist.refl _)

def laws_FnRayCount_j4 (k : Nat) (rec1 : (Int × Bool × Int) → Option (Int × Bool)) (x4 : Int) (r55 : Int × Bool) (x6 : Int) (x7 : Bool) : Option (Int × Bool) :=
  rec1 ((iadd .i64 x4 r55.1), x7, (iadd .i64 x6 1))
def laws_FnRayCount_l1s (a1 : List (Nat × Nat)) (a0_0 : Nat) (a0_1 : Nat) (k : Nat) (rec1 : (Int × Bool × Int) → Option (Int × Bool)) (x4 : Int) (x5 : Bool) (x6 : Int) : Option (Int × Bool) :=
  br (decide (x6 < (a1.length : Int)))
    ((idx a1 (isub .i64 x6 1)) >>= fun r49 =>
    (idx a1 x6) >>= fun r53 =>
    (impl_RayCount k a0_0 a0_1 r49.1 r49.2 r53.1 r53.2) >>= fun r55 =>
    br x5
      (laws_FnRayCount_j4 k rec1 x4 r55 x6 true)
      (laws_FnRayCount_j4 k rec1 x4 r55 x6 r55.2))
    (some (x4, x5))
def laws_FnRayCount_l1 (a1 : List (Nat × Nat)) (a0_0 : Nat) (a0_1 : Nat) : Nat → (Int × Bool × Int) → Option (Int × Bool)
  | 0, _ => none
  | k + 1, v => laws_FnRayCount_l1s a1 a0_0 a0_1 k (laws_FnRayCount_l1 a1 a0_0 a0_1 k) v.1 v.2.1 v.2.2
def laws_FnRayCount_j5 (k : Nat) (x10 : Bool) : Option (Bool) :=
  some x10
def laws_FnRayCount_j3 (k : Nat) (a1 : List (Nat × Nat)) (a0_0 : Nat) (a0_1 : Nat) (x3 : Bool) : Option (Bool) :=
  br x3
    (some true)
    ((laws_exacts k a1) >>= fun r34 =>
    (laws_exactly k a0_0 a0_1) >>= fun r36 =>
    (spec_Locate k r34 r36.1 r36.2.1 r36.2.2.1 r36.2.2.2.1 r36.2.2.2.2.1 r36.2.2.2.2.2) >>= fun r37 =>
    (laws_FnRayCount_l1 a1 a0_0 a0_1 k (0, false, 1)) >>= fun v6 =>
    br (decide (r37 = 1))
      (some v6.2)
      (br (!v6.2)
        ((irem v6.1 2) >>= fun r72 =>
        laws_FnRayCount_j5 k ((!decide (r72 = 0)) == (decide (r37 = 0))))
        (laws_FnRayCount_j5 k false)))
def laws_FnRayCount_j2 (k : Nat) (a1 : List (Nat × Nat)) (a0_0 : Nat) (a0_1 : Nat) (x2 : Bool) : Option (Bool) :=
  br x2
    (laws_FnRayCount_j3 k a1 a0_0 a0_1 true)
    ((laws_planeTo k 4715268809856909312 ([(a0_0, a0_1)])) >>= fun r30 =>
    laws_FnRayCount_j3 k a1 a0_0 a0_1 (!r30))
def laws_FnRayCount_j1 (k : Nat) (a1 : List (Nat × Nat)) (a0_0 : Nat) (a0_1 : Nat) (x1 : Bool) : Option (Bool) :=
  br x1
    (laws_FnRayCount_j2 k a1 a0_0 a0_1 true)
    ((laws_planeTo k 4715268809856909312 a1) >>= fun r24 =>
    laws_FnRayCount_j2 k a1 a0_0 a0_1 (!r24))
def laws_FnRayCount (k : Nat) (a0_0 : Nat) (a0_1 : Nat) (a1 : List (Nat × Nat)) : Option (Bool) :=
  br (decide (2147483647 < (a1.length : Int)))
    (some true)
    ((laws_shut k a1) >>= fun r15 =>
    br (!r15)
      (laws_FnRayCount_j1 k a1 a0_0 a0_1 true)
      (laws_FnRayCount_j1 k a1 a0_0 a0_1 (decide (100 < (a1.length : Int)))))

theorem laws_FnRayCount_sim {k : Nat}  (a0_0 : Nat) (a0_1 : Nat) (a1 : List (Nat × Nat)) {out : Bool} (hp : laws_FnRayCount k a0_0 a0_1 a1 = some out) : Go.Sx.Fn Try.prog 9 [(Ag [(Vl (.float .f64 a0_0)), (Vl (.float .f64 a0_1))]), (Sl KT27 a1)] [] (fun w : Unit => (Vl (.bool out))) (fun w => []) := by
  unfold laws_FnRayCount at hp
  refine fn_of Try.func9 rfl Try.ntmps9 rfl fun E hM => ?_
  refine cx_seq' fun K1 hK1 => ?_
  refine cx_region' ?_
  refine sx_ox' (ox_box' rfl (lv_ag _) rfl rfl) (wt_none' rfl) fun q2 => ?_
  refine sx_rd' (rd_assign' rfl) rfl rfl (wt_none' rfl) ?_
  refine sx_nil' ?_
  show TX E K1 _
  refine tx_k' hK1 ?_
  refine cx_seq' fun K2 hK2 => ?_
  refine cx_seq' fun K3 hK3 => ?_
  refine cx_region' ?_
  refine sx_rd' (rd_move' rfl) rfl rfl (wt_none' rfl) ?_
  refine sx_rd' (rd_len' rfl Try.underlying22) rfl rfl (wt_none' rfl) ?_
  refine sx_rd' (rd_bin' rfl rfl eg_int ru_gtr) rfl rfl (wt_none' rfl) ?_
  refine sx_nil' ?_
  show TX E K3 _
  refine tx_k' hK3 ?_
  refine cx_cond' rfl (fun h1 => ?_) (fun h1 => ?_)
  · replace hp := (br_t h1).symm.trans hp
    refine cx_seq' fun K4 hK4 => ?_
    refine cx_region' ?_
    refine sx_rd' (rd_assign' rfl) rfl rfl (wt_none' rfl) ?_
    refine sx_nil' ?_
    show TX E K4 _
    refine tx_k' hK4 ?_
    refine cx_retc' ?_
    replace hp := Option.some.inj hp
    subst hp
    refine tx_pick' (L' := [(4, (Vl (.bool true)))]) (H' := []) [] (sub_cons rfl sub_nil) (by decide) pick_nil ?_
    exact tx_ret1' Try.results9 rfl () (rv_tmp' rfl) (List.Sublist.refl _)
  · replace hp := (br_f h1).symm.trans hp
    refine cx_skip' ?_
    show TX E K2 _
    refine tx_k' hK2 ?_
    refine cx_seq' fun K5 hK5 => ?_
    refine cx_seq' fun K6 hK6 => ?_
    refine cx_region' ?_
    refine sx_rd' (rd_move' rfl) rfl rfl (wt_none' rfl) ?_
    obtain ⟨r15, hr15, hp⟩ := bind_some hp
    refine sx_ox' (ox_calln' (ent_fn' Try.func15 isn15 rfl rfl) (laws_shut_sim _ hr15 : Go.Sx.Fn Try.prog 15 [(Sl KT27 a1)] [] (fun x : Unit => (Vl (.bool r15))) (fun x => [])) (Hn := fun x : Unit => [⟨.pointer (some q2), [(Vl (.float .f64 a0_0)), (Vl (.float .f64 a0_1))], 27, none⟩]) (fun _ => rfl) rfl rfl) (wt_none' rfl) fun ⟨⟩ => ?_
    refine sx_rd' (rd_un' rfl ru_not) rfl rfl (wt_none' rfl) ?_
    refine sx_rd' (rd_move' rfl) rfl rfl (wt_none' rfl) ?_
    refine sx_cutn' 4 (fun (v1 : Bool) => (⟨78, [], [(1, (Sl KT27 a1)), (2, (Vl (.pointer (some q2)))), (21, (Vl (.bool v1)))], [⟨.pointer (some q2), [(Vl (.float .f64 a0_0)), (Vl (.float .f64 a0_1))], 27, none⟩]⟩ : St)) (fun (v1 : Bool) => laws_FnRayCount_j1 k a1 a0_0 a0_1 v1 = some out) ?_ ?_
    · rintro x1 hp
      replace hp : laws_FnRayCount_j1 k a1 a0_0 a0_1 x1 = some out := hp
      unfold laws_FnRayCount_j1 at hp
      refine sx_rd' (rd_move' rfl) rfl rfl (wt_none' rfl) ?_
      refine sx_cutn' 4 (fun (v2 : Bool) => (⟨78, [], [(1, (Sl KT27 a1)), (2, (Vl (.pointer (some q2)))), (26, (Vl (.bool v2)))], [⟨.pointer (some q2), [(Vl (.float .f64 a0_0)), (Vl (.float .f64 a0_1))], 27, none⟩]⟩ : St)) (fun (v2 : Bool) => laws_FnRayCount_j2 k a1 a0_0 a0_1 v2 = some out) ?_ ?_
      · rintro x2 hp
        replace hp : laws_FnRayCount_j2 k a1 a0_0 a0_1 x2 = some out := hp
        unfold laws_FnRayCount_j2 at hp
        refine sx_rd' (rd_move' rfl) rfl rfl (wt_none' rfl) ?_
        refine sx_cutn' 5 (fun (v3 : Bool) => (⟨78, [], [(1, (Sl KT27 a1)), (2, (Vl (.pointer (some q2)))), (32, (Vl (.bool v3)))], [⟨.pointer (some q2), [(Vl (.float .f64 a0_0)), (Vl (.float .f64 a0_1))], 27, none⟩]⟩ : St)) (fun (v3 : Bool) => laws_FnRayCount_j3 k a1 a0_0 a0_1 v3 = some out) ?_ ?_
        · rintro x3 hp
          replace hp : laws_FnRayCount_j3 k a1 a0_0 a0_1 x3 = some out := hp
          unfold laws_FnRayCount_j3 at hp
          refine sx_nil' ?_
          show TX E K6 _
          refine tx_k' hK6 ?_
          refine cx_cond' rfl (fun h5 => ?_) (fun h5 => ?_)
          · replace hp := (br_t h5).symm.trans hp
            refine cx_seq' fun K10 hK10 => ?_
            refine cx_region' ?_
            refine sx_rd' (rd_assign' rfl) rfl rfl (wt_none' rfl) ?_
            refine sx_nil' ?_
            show TX E K10 _
            refine tx_k' hK10 ?_
            refine cx_retc' ?_
            replace hp := Option.some.inj hp
            subst hp
            refine tx_pick' (L' := [(4, (Vl (.bool true)))]) (H' := []) [] (sub_cons rfl sub_nil) (by decide) pick_nil ?_
            exact tx_ret1' Try.results9 rfl () (rv_tmp' rfl) (List.Sublist.refl _)
          · replace hp := (br_f h5).symm.trans hp
            refine cx_skip' ?_
            show TX E K5 _
            refine tx_k' hK5 ?_
            refine cx_seq' fun K11 hK11 => ?_
            refine cx_plan' [] [] [(0, 1), (2, 1), (1, 0), (3, 0), (4, 0), (5, 1), (6, 1), (7, 1)] mixed (by kernel_rfl) ?_
            refine px_rd' rfl (rd_move' rfl) rfl rfl (wt_none' rfl) ?_
            refine px_rd' rfl (rd_load_agg' (i := 0) (o := 0) (nn := 2) rfl ⟨rfl, rfl, rfl, rfl⟩ rfl agg27 (l' := [(Vl (.float .f64 a0_0)), (Vl (.float .f64 a0_1))]) rfl) rfl rfl (wt_none' rfl) ?_
            obtain ⟨r34, hr34, hp⟩ := bind_some hp
            refine px_ox' rfl (ox_calln' (ent_fn' Try.func22 isn22 rfl rfl) (laws_exacts_sim _ hr34 : Go.Sx.Fn Try.prog 22 [(Sl KT27 a1)] [] (fun x : Unit => (Sl KT54 r34)) (fun x => [])) (Hn := fun x : Unit => [⟨.pointer (some q2), [(Vl (.float .f64 a0_0)), (Vl (.float .f64 a0_1))], 27, none⟩]) (fun _ => rfl) rfl rfl) rfl bs_nil (wt_none' rfl) fun ⟨⟩ => ?_
            obtain ⟨r36, hr36, hp⟩ := bind_some hp
            refine px_ox' rfl (ox_calln' (ent_fn' Try.func27 isn27 rfl rfl) (laws_exactly_sim _ _ hr36 : Go.Sx.Fn Try.prog 27 [(Ag [(Vl (.float .f64 a0_0)), (Vl (.float .f64 a0_1))])] [] (fun x : Unit => (Ag [(Vl (.bool r36.1)), (Sl (Ki .u32) r36.2.1), (Vl (.int .i64 r36.2.2.1)), (Vl (.bool r36.2.2.2.1)), (Sl (Ki .u32) r36.2.2.2.2.1), (Vl (.int .i64 r36.2.2.2.2.2))])) (fun x => [])) (Hn := fun x : Unit => [⟨.pointer (some q2), [(Vl (.float .f64 a0_0)), (Vl (.float .f64 a0_1))], 27, none⟩]) (fun _ => rfl) rfl rfl) rfl bs_nil (wt_none' rfl) fun ⟨⟩ => ?_
            obtain ⟨r37, hr37, hp⟩ := bind_some hp
            refine px_ox' rfl (ox_calln' (ent_fn' Try.func42 isn42 rfl rfl) (spec_Locate_sim _ _ _ _ _ _ _ hr37 : Go.Sx.Fn Try.prog 42 [(Sl KT54 r34), (Ag [(Vl (.bool r36.1)), (Sl (Ki .u32) r36.2.1), (Vl (.int .i64 r36.2.2.1)), (Vl (.bool r36.2.2.2.1)), (Sl (Ki .u32) r36.2.2.2.2.1), (Vl (.int .i64 r36.2.2.2.2.2))])] [] (fun x : Unit => (Vl (.int .i64 r37))) (fun x => [])) (Hn := fun x : Unit => [⟨.pointer (some q2), [(Vl (.float .f64 a0_0)), (Vl (.float .f64 a0_1))], 27, none⟩]) (fun _ => rfl) rfl rfl) rfl bs_nil (wt_none' rfl) fun ⟨⟩ => ?_
            refine px_rd' rfl (rd_assign' rfl) rfl rfl (wt_none' rfl) ?_
            refine px_rd' rfl (rd_assign' rfl) rfl rfl (wt_none' rfl) ?_
            refine px_rd' rfl (rd_assign' rfl) rfl rfl (wt_none' rfl) ?_
            refine px_nil' ?_
            show TX E K11 _
            refine tx_k' hK11 ?_
            refine cx_seq' fun K12 hK12 => ?_
            refine cx_seq' fun K13 hK13 => ?_
            refine cx_region' ?_
            refine sx_rd' (rd_assign' rfl) rfl rfl (wt_none' rfl) ?_
            refine sx_nil' ?_
            show TX E K13 _
            refine tx_k' hK13 ?_
            refine cx_block' ?_
            obtain ⟨v6, hy1, hp⟩ := bind_some hp
            refine cx_loopg' (F := laws_FnRayCount_l1 a1 a0_0 a0_1) (G := fun k R v => laws_FnRayCount_l1s a1 a0_0 a0_1 k R v.1 v.2.1 v.2.2) (x := (0, false, 1)) (gh := ()) (fun (v4 : Int × Bool × Int) (w4 : Unit) => (⟨78, [], [(1, (Sl KT27 a1)), (2, (Vl (.pointer (some q2)))), (5, (Vl (.int .i64 r37))), (6, (Vl (.int .i64 v4.1))), (7, (Vl (.bool v4.2.1))), (8, (Vl (.int .i64 v4.2.2)))], [⟨.pointer (some q2), [(Vl (.float .f64 a0_0)), (Vl (.float .f64 a0_1))], 27, none⟩]⟩ : St)) (fun (v6 : Int × Bool) => Zg E (Exit.exit 0) (fun (w6 : Unit) => (⟨78, [], [(5, (Vl (.int .i64 r37))), (6, (Vl (.int .i64 v6.1))), (7, (Vl (.bool v6.2)))], []⟩ : St))) (fun _ => rfl) (fun _ _ => rfl) ?_ hy1 (tx_to' rfl [0] (sub_cons rfl (sub_cons rfl (sub_cons rfl (sub_cons rfl (sub_cons rfl (sub_cons rfl sub_nil)))))) (by decide) (pick_cons rfl pick_nil)) ?_
            · clear hp hy1
              clear v6
              intro k rec1 KY1 ih1
              rintro ⟨x4, x5, x6⟩ ⟨⟩ y1 hp
              replace hp : laws_FnRayCount_l1s a1 a0_0 a0_1 k rec1 x4 x5 x6 = some y1 := hp
              unfold laws_FnRayCount_l1s at hp
              refine cx_seq' fun K18 hK18 => ?_
              refine cx_seq' fun K19 hK19 => ?_
              refine cx_region' ?_
              refine sx_rd' (rd_move' rfl) rfl rfl (wt_none' rfl) ?_
              refine sx_rd' (rd_move' rfl) rfl rfl (wt_none' rfl) ?_
              refine sx_rd' (rd_len' rfl Try.underlying22) rfl rfl (wt_none' rfl) ?_
              refine sx_rd' (rd_bin' rfl rfl eg_int ru_lss) rfl rfl (wt_none' rfl) ?_
              refine sx_nil' ?_
              show TX E K19 _
              refine tx_k' hK19 ?_
              refine cx_cond' rfl (fun h8 => ?_) (fun h8 => ?_)
              · replace hp := (br_t h8).symm.trans hp
                refine cx_skip' ?_
                show TX E K18 _
                refine tx_k' hK18 ?_
                refine cx_seq' fun K20 hK20 => ?_
                refine cx_block' ?_
                refine cx_seq' fun K21 hK21 => ?_
                refine cx_plan' [] [] [(0, 1), (1, 1), (2, 1), (3, 1), (4, 1), (5, 1), (6, 1), (7, 1), (8, 1), (9, 1), (10, 0), (11, 1), (12, 1), (13, 1), (14, 1), (15, 1)] mixed (by kernel_rfl) ?_
                refine px_rd' rfl (rd_load_agg' (i := 0) (o := 0) (nn := 2) rfl ⟨rfl, rfl, rfl, rfl⟩ rfl agg27 (l' := [(Vl (.float .f64 a0_0)), (Vl (.float .f64 a0_1))]) rfl) rfl rfl (wt_none' rfl) ?_
                refine px_rd' rfl (rd_move' rfl) rfl rfl (wt_none' rfl) ?_
                refine px_rd' rfl (rd_move' rfl) rfl rfl (wt_none' rfl) ?_
                refine px_rd' rfl (rd_bin' rfl rfl eg_int ru_sub) rfl rfl (wt_none' rfl) ?_
                obtain ⟨r49, hr49, hp⟩ := bind_some hp
                refine px_rd' rfl (rd_at' (K := KT27) rfl rfl hr49 Try.underlying22 info27) rfl rfl (wt_none' rfl) ?_
                refine px_rd' rfl (rd_load_pt_agg' (nn := 2) rfl rfl agg27 (l' := [(Vl (.float .f64 r49.1)), (Vl (.float .f64 r49.2))]) rfl) rfl rfl (wt_none' rfl) ?_
                refine px_rd' rfl (rd_move' rfl) rfl rfl (wt_none' rfl) ?_
                refine px_rd' rfl (rd_move' rfl) rfl rfl (wt_none' rfl) ?_
                obtain ⟨r53, hr53, hp⟩ := bind_some hp
                refine px_rd' rfl (rd_at' (K := KT27) rfl rfl hr53 Try.underlying22 info27) rfl rfl (wt_none' rfl) ?_
                refine px_rd' rfl (rd_load_pt_agg' (nn := 2) rfl rfl agg27 (l' := [(Vl (.float .f64 r53.1)), (Vl (.float .f64 r53.2))]) rfl) rfl rfl (wt_none' rfl) ?_
                obtain ⟨r55, hr55, hp⟩ := bind_some hp
                refine px_ox' rfl (ox_calln' (ent_fn' Try.func43 isn43 rfl rfl) (impl_RayCount_sim _ _ _ _ _ _ hr55 : Go.Sx.Fn Try.prog 43 [(Ag [(Vl (.float .f64 a0_0)), (Vl (.float .f64 a0_1))]), (Ag [(Vl (.float .f64 r49.1)), (Vl (.float .f64 r49.2))]), (Ag [(Vl (.float .f64 r53.1)), (Vl (.float .f64 r53.2))])] [] (fun x : Unit => (Tu [(Vl (.int .i64 r55.1)), (Vl (.bool r55.2))])) (fun x => [])) (Hn := fun x : Unit => [⟨.pointer (some q2), [(Vl (.float .f64 a0_0)), (Vl (.float .f64 a0_1))], 27, none⟩]) (fun _ => rfl) rfl rfl) rfl bs_nil (wt_none' rfl) fun ⟨⟩ => ?_
                refine px_rd' rfl (rd_move' rfl) rfl rfl (wt_none' rfl) ?_
                refine px_rd' rfl (rd_extract' rfl rfl) rfl rfl (wt_none' rfl) ?_
                refine px_rd' rfl (rd_extract' rfl rfl) rfl rfl (wt_none' rfl) ?_
                refine px_rd' rfl (rd_assign' rfl) rfl rfl (wt_none' rfl) ?_
                refine px_rd' rfl (rd_assign' rfl) rfl rfl (wt_none' rfl) ?_
                refine px_nil' ?_
                show TX E K21 _
                refine tx_k' hK21 ?_
                refine cx_region' ?_
                refine sx_rd' (rd_move' rfl) rfl rfl (wt_none' rfl) ?_
                refine sx_rd' (rd_move' rfl) rfl rfl (wt_none' rfl) ?_
                refine sx_rd' (rd_bin' rfl rfl eg_int ru_add) rfl rfl (wt_none' rfl) ?_
                refine sx_rd' (rd_move' rfl) rfl rfl (wt_none' rfl) ?_
                refine sx_rd' (rd_move' rfl) rfl rfl (wt_none' rfl) ?_
                refine sx_cutn' 2 (fun (v5 : Bool) => (⟨78, [], [(1, (Sl KT27 a1)), (2, (Vl (.pointer (some q2)))), (5, (Vl (.int .i64 r37))), (8, (Vl (.int .i64 x6))), (60, (Vl (.int .i64 (iadd .i64 x4 r55.1)))), (64, (Vl (.bool v5)))], [⟨.pointer (some q2), [(Vl (.float .f64 a0_0)), (Vl (.float .f64 a0_1))], 27, none⟩]⟩ : St)) (fun (v5 : Bool) => laws_FnRayCount_j4 k rec1 x4 r55 x6 v5 = some y1) ?_ ?_
                · rintro x7 hp
                  replace hp : laws_FnRayCount_j4 k rec1 x4 r55 x6 x7 = some y1 := hp
                  unfold laws_FnRayCount_j4 at hp
                  refine sx_rd' (rd_assign' rfl) rfl rfl (wt_none' rfl) ?_
                  refine sx_rd' (rd_assign' rfl) rfl rfl (wt_none' rfl) ?_
                  refine sx_nil' ?_
                  show TX E K20 _
                  refine tx_k' hK20 ?_
                  refine cx_region' ?_
                  refine sx_rd' (rd_move' rfl) rfl rfl (wt_none' rfl) ?_
                  refine sx_rd' (rd_bin' rfl rfl eg_int ru_add) rfl rfl (wt_none' rfl) ?_
                  refine sx_rd' (rd_assign' rfl) rfl rfl (wt_none' rfl) ?_
                  refine sx_nil' ?_
                  show TX E (KY1 _) _
                  exact tx_pick' [0] (sub_cons rfl (sub_cons rfl (sub_cons rfl (sub_cons rfl (sub_cons rfl (sub_cons rfl sub_nil)))))) (by decide) (pick_cons rfl pick_nil) (ih1 ((iadd .i64 x4 r55.1), x7, (iadd .i64 x6 1)) () _ hp)
                · intro K22 hK22
                  rcases br_cases hp with ⟨h9, hp⟩ | ⟨h9, hp⟩
                  · refine sx_skip' rfl rfl (wt_is' (wt_guard' rfl rfl rfl) (beq_tf h9)) ?_
                    refine sx_rd' (rd_pick_true' rfl h9 rfl) rfl rfl (wt_none' rfl) ?_
                    refine sx_nil' ?_
                    show TX E K22 _
                    exact tx_pick' [0] (sub_cons rfl (sub_cons rfl (sub_cons rfl (sub_cons rfl (sub_cons rfl (sub_cons rfl sub_nil)))))) (by decide) (pick_cons rfl pick_nil) (hK22 true hp)
                  · refine sx_rd' (rd_move' rfl) rfl rfl (wt_is' (wt_guard' rfl rfl rfl) (beq_ff h9)) ?_
                    refine sx_rd' (rd_pick_false' rfl h9 rfl) rfl rfl (wt_none' rfl) ?_
                    refine sx_nil' ?_
                    show TX E K22 _
                    exact tx_pick' [0] (sub_cons rfl (sub_cons rfl (sub_cons rfl (sub_cons rfl (sub_cons rfl (sub_cons rfl sub_nil)))))) (by decide) (pick_cons rfl pick_nil) (hK22 r55.2 hp)
              · replace hp := (br_f h8).symm.trans hp
                refine cx_exit' ?_
                replace hp := Option.some.inj hp
                subst hp
                show TX E (Zg E (Exit.exit 0) _ (Exit.exit 0)) _
                exact tx_zend' () rfl [] (sub_cons rfl (sub_cons rfl (sub_cons rfl sub_nil))) (by decide) pick_nil
            · refine zg_out fun w6 => ?_
              show TX E K12 _
              refine tx_k' hK12 ?_
              refine cx_seq' fun K23 hK23 => ?_
              refine cx_seq' fun K24 hK24 => ?_
              refine cx_region' ?_
              refine sx_rd' (rd_move' rfl) rfl rfl (wt_none' rfl) ?_
              refine sx_rd' (rd_bin' rfl rfl eg_int ru_eql) rfl rfl (wt_none' rfl) ?_
              refine sx_nil' ?_
              show TX E K24 _
              refine tx_k' hK24 ?_
              refine cx_cond' rfl (fun h10 => ?_) (fun h10 => ?_)
              · replace hp := (br_t h10).symm.trans hp
                refine cx_seq' fun K25 hK25 => ?_
                refine cx_region' ?_
                refine sx_rd' (rd_move' rfl) rfl rfl (wt_none' rfl) ?_
                refine sx_rd' (rd_assign' rfl) rfl rfl (wt_none' rfl) ?_
                refine sx_nil' ?_
                show TX E K25 _
                refine tx_k' hK25 ?_
                refine cx_retc' ?_
                replace hp := Option.some.inj hp
                subst hp
                refine tx_pick' (L' := [(4, (Vl (.bool v6.2)))]) (H' := []) [] (sub_cons rfl sub_nil) (by decide) pick_nil ?_
                exact tx_ret1' Try.results9 rfl () (rv_tmp' rfl) (List.Sublist.refl _)
              · replace hp := (br_f h10).symm.trans hp
                refine cx_skip' ?_
                show TX E K23 _
                refine tx_k' hK23 ?_
                refine cx_seq' fun K26 hK26 => ?_
                refine cx_region' ?_
                refine sx_rd' (rd_move' rfl) rfl rfl (wt_none' rfl) ?_
                refine sx_rd' (rd_un' rfl ru_not) rfl rfl (wt_none' rfl) ?_
                refine sx_rd' (rd_move' rfl) rfl rfl (wt_none' rfl) ?_
                refine sx_cutn' 7 (fun (v7 : Bool) => (⟨78, [], [(77, (Vl (.bool v7)))], []⟩ : St)) (fun (v7 : Bool) => laws_FnRayCount_j5 k v7 = some out) ?_ ?_
                · rintro x10 hp
                  replace hp : laws_FnRayCount_j5 k x10 = some out := hp
                  unfold laws_FnRayCount_j5 at hp
                  refine sx_rd' (rd_assign' rfl) rfl rfl (wt_none' rfl) ?_
                  refine sx_nil' ?_
                  show TX E K26 _
                  refine tx_k' hK26 ?_
                  refine cx_retc' ?_
                  replace hp := Option.some.inj hp
                  subst hp
                  refine tx_pick' (L' := [(4, (Vl (.bool x10)))]) (H' := []) [] (sub_cons rfl sub_nil) (by decide) pick_nil ?_
                  exact tx_ret1' Try.results9 rfl () (rv_tmp' rfl) (List.Sublist.refl _)
                · intro K27 hK27
                  rcases br_cases hp with ⟨h11, hp⟩ | ⟨h11, hp⟩
                  · refine sx_rd' (rd_move' rfl) rfl rfl (wt_is' (wt_guard' rfl rfl rfl) (beq_tt h11)) ?_
                    obtain ⟨r72, hr72, hp⟩ := bind_some hp
                    refine sx_rd' (rd_bin' rfl rfl eg_int (ru_rem hr72)) rfl rfl (wt_is' (wt_guard' rfl rfl rfl) (beq_tt h11)) ?_
                    refine sx_rd' (rd_bin' rfl rfl eg_int ru_neq) rfl rfl (wt_is' (wt_guard' rfl rfl rfl) (beq_tt h11)) ?_
                    refine sx_rd' (rd_move' rfl) rfl rfl (wt_is' (wt_guard' rfl rfl rfl) (beq_tt h11)) ?_
                    refine sx_rd' (rd_bin' rfl rfl eg_int ru_eql) rfl rfl (wt_is' (wt_guard' rfl rfl rfl) (beq_tt h11)) ?_
                    refine sx_rd' (rd_bin' rfl rfl eg_bool (ru_beq Try.underlying4)) rfl rfl (wt_is' (wt_guard' rfl rfl rfl) (beq_tt h11)) ?_
                    refine sx_rd' (rd_pick_true' rfl h11 rfl) rfl rfl (wt_none' rfl) ?_
                    refine sx_nil' ?_
                    show TX E K27 _
                    exact tx_pick' [] (sub_cons rfl sub_nil) (by decide) pick_nil (hK27 ((!decide (r72 = 0)) == (decide (r37 = 0))) hp)
                  · refine sx_skip' rfl rfl (wt_is' (wt_guard' rfl rfl rfl) (beq_ft h11)) ?_
                    refine sx_skip' rfl rfl (wt_is' (wt_guard' rfl rfl rfl) (beq_ft h11)) ?_
                    refine sx_skip' rfl rfl (wt_is' (wt_guard' rfl rfl rfl) (beq_ft h11)) ?_
                    refine sx_skip' rfl rfl (wt_is' (wt_guard' rfl rfl rfl) (beq_ft h11)) ?_
                    refine sx_skip' rfl rfl (wt_is' (wt_guard' rfl rfl rfl) (beq_ft h11)) ?_
                    refine sx_skip' rfl rfl (wt_is' (wt_guard' rfl rfl rfl) (beq_ft h11)) ?_
                    refine sx_rd' (rd_pick_false' rfl h11 rfl) rfl rfl (wt_none' rfl) ?_
                    refine sx_nil' ?_
                    show TX E K27 _
                    exact tx_pick' [] (sub_cons rfl sub_nil) (by decide) pick_nil (hK27 false hp)
        · intro K9 hK9
          rcases br_cases hp with ⟨h4, hp⟩ | ⟨h4, hp⟩
          · refine sx_skip' rfl rfl (wt_is' (wt_guard' rfl rfl rfl) (beq_tf h4)) ?_
            refine sx_skip' rfl rfl (wt_is' (wt_guard' rfl rfl rfl) (beq_tf h4)) ?_
            refine sx_skip' rfl rfl (wt_is' (wt_guard' rfl rfl rfl) (beq_tf h4)) ?_
            refine sx_skip' rfl rfl (wt_is' (wt_guard' rfl rfl rfl) (beq_tf h4)) ?_
            refine sx_rd' (rd_pick_true' rfl h4 rfl) rfl rfl (wt_none' rfl) ?_
            refine sx_nil' ?_
            show TX E K9 _
            exact tx_pick' [0] (sub_cons rfl (sub_cons rfl (sub_cons rfl sub_nil))) (by decide) (pick_cons rfl pick_nil) (hK9 true hp)
          · refine sx_rd' (rd_load_agg' (i := 0) (o := 0) (nn := 2) rfl ⟨rfl, rfl, rfl, rfl⟩ rfl agg27 (l' := [(Vl (.float .f64 a0_0)), (Vl (.float .f64 a0_1))]) rfl) rfl rfl (wt_is' (wt_guard' rfl rfl rfl) (beq_ff h4)) ?_
            refine sx_ox' (ox_rowlit' (K := KT27) (xs := [(a0_0, a0_1)]) (qs := [(0, [(Vl (.float .f64 a0_0)), (Vl (.float .f64 a0_1))])]) ⟨rfl, ⟨_, rfl, (lv_ag _)⟩, trivial⟩ Try.underlying22 info27 rfl rfl rfl rfl rfl (by kernel_rfl) rfl rfl rfl) (wt_is' (wt_guard' rfl rfl rfl) (beq_ff h4)) fun g29 => ?_
            obtain ⟨r30, hr30, hp⟩ := bind_some hp
            refine sx_ox' (ox_brw' (frz_row 0 [(29, (Vl (Vs g29)), (Sl KT27 ([(a0_0, a0_1)])))] (K := KT27) (xs := [(a0_0, a0_1)]) (by decide) rfl ⟨⟨rfl, frz_it⟩, trivial⟩ (H' := [⟨.pointer (some q2), [(Vl (.float .f64 a0_0)), (Vl (.float .f64 a0_1))], 27, none⟩]) frzH_refl) (ent_fn' Try.func16 isn16 rfl rfl) (laws_planeTo_sim _ _ hr30 : Go.Sx.Fn Try.prog 16 [(Vl (.float .f64 4715268809856909312)), (Sl KT27 ([(a0_0, a0_1)]))] [] (fun x : Unit => (Vl (.bool r30))) (fun x => [])) pu_vl rfl rfl) (wt_is' (wt_guard' rfl rfl rfl) (beq_ff h4)) fun ⟨⟩ => ?_
            refine sx_rd' (rd_un' rfl ru_not) rfl rfl (wt_is' (wt_guard' rfl rfl rfl) (beq_ff h4)) ?_
            refine sx_rd' (rd_pick_false' rfl h4 rfl) rfl rfl (wt_none' rfl) ?_
            refine sx_nil' ?_
            show TX E K9 _
            exact tx_pick' [1] (sub_cons rfl (sub_cons rfl (sub_cons rfl sub_nil))) (by decide) (pick_cons rfl pick_nil) (hK9 (!r30) hp)
      · intro K8 hK8
        rcases br_cases hp with ⟨h3, hp⟩ | ⟨h3, hp⟩
        · refine sx_skip' rfl rfl (wt_is' (wt_guard' rfl rfl rfl) (beq_tf h3)) ?_
          refine sx_skip' rfl rfl (wt_is' (wt_guard' rfl rfl rfl) (beq_tf h3)) ?_
          refine sx_skip' rfl rfl (wt_is' (wt_guard' rfl rfl rfl) (beq_tf h3)) ?_
          refine sx_rd' (rd_pick_true' rfl h3 rfl) rfl rfl (wt_none' rfl) ?_
          refine sx_nil' ?_
          show TX E K8 _
          exact tx_pick' [0] (sub_cons rfl (sub_cons rfl (sub_cons rfl sub_nil))) (by decide) (pick_cons rfl pick_nil) (hK8 true hp)
        · refine sx_rd' (rd_move' rfl) rfl rfl (wt_is' (wt_guard' rfl rfl rfl) (beq_ff h3)) ?_
          obtain ⟨r24, hr24, hp⟩ := bind_some hp
          refine sx_ox' (ox_calln' (ent_fn' Try.func16 isn16 rfl rfl) (laws_planeTo_sim _ _ hr24 : Go.Sx.Fn Try.prog 16 [(Vl (.float .f64 4715268809856909312)), (Sl KT27 a1)] [] (fun x : Unit => (Vl (.bool r24))) (fun x => [])) (Hn := fun x : Unit => [⟨.pointer (some q2), [(Vl (.float .f64 a0_0)), (Vl (.float .f64 a0_1))], 27, none⟩]) (fun _ => rfl) rfl rfl) (wt_is' (wt_guard' rfl rfl rfl) (beq_ff h3)) fun ⟨⟩ => ?_
          refine sx_rd' (rd_un' rfl ru_not) rfl rfl (wt_is' (wt_guard' rfl rfl rfl) (beq_ff h3)) ?_
          refine sx_rd' (rd_pick_false' rfl h3 rfl) rfl rfl (wt_none' rfl) ?_
          refine sx_nil' ?_
          show TX E K8 _
          exact tx_pick' [0] (sub_cons rfl (sub_cons rfl (sub_cons rfl sub_nil))) (by decide) (pick_cons rfl pick_nil) (hK8 (!r24) hp)
    · intro K7 hK7
      rcases br_cases hp with ⟨h2, hp⟩ | ⟨h2, hp⟩
      · refine sx_skip' rfl rfl (wt_is' (wt_guard' rfl rfl rfl) (beq_tf h2)) ?_
        refine sx_skip' rfl rfl (wt_is' (wt_guard' rfl rfl rfl) (beq_tf h2)) ?_
        refine sx_skip' rfl rfl (wt_is' (wt_guard' rfl rfl rfl) (beq_tf h2)) ?_
        refine sx_rd' (rd_pick_true' rfl h2 rfl) rfl rfl (wt_none' rfl) ?_
        refine sx_nil' ?_
        show TX E K7 _
        exact tx_pick' [0] (sub_cons rfl (sub_cons rfl (sub_cons rfl sub_nil))) (by decide) (pick_cons rfl pick_nil) (hK7 true hp)
      · refine sx_rd' (rd_move' rfl) rfl rfl (wt_is' (wt_guard' rfl rfl rfl) (beq_ff h2)) ?_
        refine sx_rd' (rd_len' rfl Try.underlying22) rfl rfl (wt_is' (wt_guard' rfl rfl rfl) (beq_ff h2)) ?_
        refine sx_rd' (rd_bin' rfl rfl eg_int ru_gtr) rfl rfl (wt_is' (wt_guard' rfl rfl rfl) (beq_ff h2)) ?_
        refine sx_rd' (rd_pick_false' rfl h2 rfl) rfl rfl (wt_none' rfl) ?_
        refine sx_nil' ?_
        show TX E K7 _
        exact tx_pick' [0] (sub_cons rfl (sub_cons rfl (sub_cons rfl sub_nil))) (by decide) (pick_cons rfl pick_nil) (hK7 (decide (100 < (a1.length : Int))) hp)

end Go.Proofs.Ytnemkhcjmenfnaa
