/-
  Plain functions for the Go functions that this law reaches, and that each call does what its plain function says. Printed by a program of ours.
-/
import Derived.Test.YtkeaodoibflhnaaProg
import Derived.Test.YtkeaodoibflhnaaSxZ
import Derived.Test.YtkeaodoibflhnaaFun1
namespace Go.Proofs.Ytkeaodoibflhnaa
open Go.Sx
set_option linter.unusedVariables false
set_option maxRecDepth 100000

def spec_Parts_l1s (r6 : Int) (a0_0 : Int) (a0_1 : Int) (a0_2 : Int) (a0_3 : List Nat) (a0_4 : List Int) (k : Nat) (rec1 : ((List T27) × Int) → Option ((List T27))) (x1 : List T27) (x2 : Int) : Option ((List T27)) :=
  br (decide (x2 < r6))
    ((spec_Part k a0_0 a0_1 a0_2 a0_3 a0_4 x2) >>= fun r13 =>
    (apd 120 x1 ([(T27.mk r13.1 r13.2.1 r13.2.2.1 r13.2.2.2 [] [] [])])) >>= fun r15 =>
    rec1 (r15, (iadd .i64 x2 1)))
    (some x1)
def spec_Parts_l1 (r6 : Int) (a0_0 : Int) (a0_1 : Int) (a0_2 : Int) (a0_3 : List Nat) (a0_4 : List Int) : Nat → ((List T27) × Int) → Option ((List T27))
  | 0, _ => none
  | k + 1, v => spec_Parts_l1s r6 a0_0 a0_1 a0_2 a0_3 a0_4 k (spec_Parts_l1 r6 a0_0 a0_1 a0_2 a0_3 a0_4 k) v.1 v.2
def spec_Parts (k : Nat) (a0_0 : Int) (a0_1 : Int) (a0_2 : Int) (a0_3 : List Nat) (a0_4 : List Int) : Option ((List T27)) :=
  (spec_NumParts k a0_0 a0_1 a0_2 a0_3 a0_4) >>= fun r6 =>
  (spec_Parts_l1 r6 a0_0 a0_1 a0_2 a0_3 a0_4 k ([], 0)) >>= fun v2 =>
  some v2

theorem spec_Parts_sim {k : Nat}  (a0_0 : Int) (a0_1 : Int) (a0_2 : Int) (a0_3 : List Nat) (a0_4 : List Int) {out : (List T27)} (hp : spec_Parts k a0_0 a0_1 a0_2 a0_3 a0_4 = some out) : Go.Sx.Fn Try.prog 56 [(Ag [(Vl (.int .i64 a0_0)), (Vl (.int .i64 a0_1)), (Vl (.int .i64 a0_2)), (Sl Kf a0_3), (Sl (Ki .i64) a0_4), (Vl (.slice none 0 0)), (Vl (.slice none 0 0))])] [] (fun w : Unit => (Sl KT27 out)) (fun w => []) := by
  unfold spec_Parts at hp
  refine fn_of Try.func56 rfl Try.ntmps56 rfl fun E hM => ?_
  refine cx_seq' fun K1 hK1 => ?_
  refine cx_region' ?_
  refine sx_ox' (ox_box' rfl (lv_ag _) rfl rfl) (wt_none' rfl) fun q1 => ?_
  refine sx_rd' (rd_assign' rfl) rfl rfl (wt_none' rfl) ?_
  refine sx_nil' ?_
  show TX E K1 _
  refine tx_k' hK1 ?_
  refine cx_seq' fun K2 hK2 => ?_
  refine cx_region' ?_
  refine sx_rd' (rd_assign' rfl) rfl rfl (wt_none' rfl) ?_
  refine sx_nil' ?_
  show TX E K2 _
  refine tx_k' hK2 ?_
  refine cx_seq' fun K3 hK3 => ?_
  refine cx_seq' fun K4 hK4 => ?_
  refine cx_region' ?_
  refine sx_rd' (rd_load_agg' (i := 0) (o := 0) (nn := 7) rfl ⟨rfl, rfl, rfl, rfl⟩ rfl agg27 (l' := [(Vl (.int .i64 a0_0)), (Vl (.int .i64 a0_1)), (Vl (.int .i64 a0_2)), (Sl Kf a0_3), (Sl (Ki .i64) a0_4), (Vl (.slice none 0 0)), (Vl (.slice none 0 0))]) rfl) rfl rfl (wt_none' rfl) ?_
  obtain ⟨r6, hr6, hp⟩ := bind_some hp
  refine sx_ox' (ox_calln' (ent_fn' Try.func110 isn110 rfl rfl) (spec_NumParts_sim _ _ _ _ _ hr6 : Go.Sx.Fn Try.prog 110 [(Ag [(Vl (.int .i64 a0_0)), (Vl (.int .i64 a0_1)), (Vl (.int .i64 a0_2)), (Sl Kf a0_3), (Sl (Ki .i64) a0_4), (Vl (.slice none 0 0)), (Vl (.slice none 0 0))])] [] (fun x : Unit => (Vl (.int .i64 r6))) (fun x => [])) (Hn := fun x : Unit => [⟨.pointer (some q1), [(Vl (.int .i64 a0_0)), (Vl (.int .i64 a0_1)), (Vl (.int .i64 a0_2)), (Sl Kf a0_3), (Sl (Ki .i64) a0_4), (Vl (.slice none 0 0)), (Vl (.slice none 0 0))], 27, none⟩]) (fun _ => rfl) rfl rfl) (wt_none' rfl) fun ⟨⟩ => ?_
  refine sx_rd' (rd_move' rfl) rfl rfl (wt_none' rfl) ?_
  refine sx_nil' ?_
  show TX E K4 _
  refine tx_k' hK4 ?_
  refine cx_block' ?_
  obtain ⟨v2, hy1, hp⟩ := bind_some hp
  refine tx_nilrow' KT27 27 ?_
  refine cx_loopg' (F := spec_Parts_l1 r6 a0_0 a0_1 a0_2 a0_3 a0_4) (G := fun k R v => spec_Parts_l1s r6 a0_0 a0_1 a0_2 a0_3 a0_4 k R v.1 v.2) (x := ([], 0)) (gh := (none, 0, 0)) (fun (v1 : (List T27) × Int) (w1 : Gs) => (⟨18, [], [(1, (Vl (.pointer (some q1)))), (3, (Vl (Vs w1))), (6, (Vl (.int .i64 r6))), (7, (Vl (.int .i64 v1.2)))], [⟨.pointer (some q1), [(Vl (.int .i64 a0_0)), (Vl (.int .i64 a0_1)), (Vl (.int .i64 a0_2)), (Sl Kf a0_3), (Sl (Ki .i64) a0_4), (Vl (.slice none 0 0)), (Vl (.slice none 0 0))], 27, none⟩, (Rw KT27 27 (Vs w1) v1.1)]⟩ : St)) (fun (v2 : (List T27)) => Zg E (Exit.exit 0) (fun (w2 : Gs) => (⟨18, [], [(3, (Vl (Vs w2)))], [(Rw KT27 27 (Vs w2) v2)]⟩ : St))) (fun _ => rfl) (fun _ _ => rfl) ?_ hy1 (tx_to' rfl [1, 0] (sub_cons rfl (sub_cons rfl (sub_cons rfl (sub_cons rfl sub_nil)))) (by decide) (pick_cons rfl (pick_cons rfl pick_nil))) ?_
  · clear hp hy1
    clear v2
    intro k rec1 KY1 ih1
    rintro ⟨x1, x2⟩ g901 y1 hp
    replace hp : spec_Parts_l1s r6 a0_0 a0_1 a0_2 a0_3 a0_4 k rec1 x1 x2 = some y1 := hp
    unfold spec_Parts_l1s at hp
    refine cx_seq' fun K9 hK9 => ?_
    refine cx_region' ?_
    refine sx_rd' (rd_bin' rfl rfl eg_int ru_lss) rfl rfl (wt_none' rfl) ?_
    refine sx_nil' ?_
    show TX E K9 _
    refine tx_k' hK9 ?_
    refine cx_seq' fun K10 hK10 => ?_
    refine cx_cond' rfl (fun h3 => ?_) (fun h3 => ?_)
    · replace hp := (br_t h3).symm.trans hp
      refine cx_skip' ?_
      show TX E K10 _
      refine tx_k' hK10 ?_
      refine cx_seq' fun K11 hK11 => ?_
      refine cx_block' ?_
      refine cx_seq' fun K12 hK12 => ?_
      refine cx_region' ?_
      refine sx_rd' (rd_move' rfl) rfl rfl (wt_none' rfl) ?_
      refine sx_rd' (rd_assign' rfl) rfl rfl (wt_none' rfl) ?_
      refine sx_nil' ?_
      show TX E K12 _
      refine tx_k' hK12 ?_
      refine cx_region' ?_
      refine sx_rd' (rd_move' rfl) rfl rfl (wt_none' rfl) ?_
      refine sx_rd' (rd_load_agg' (i := 0) (o := 0) (nn := 7) rfl ⟨rfl, rfl, rfl, rfl⟩ rfl agg27 (l' := [(Vl (.int .i64 a0_0)), (Vl (.int .i64 a0_1)), (Vl (.int .i64 a0_2)), (Sl Kf a0_3), (Sl (Ki .i64) a0_4), (Vl (.slice none 0 0)), (Vl (.slice none 0 0))]) rfl) rfl rfl (wt_none' rfl) ?_
      refine sx_rd' (rd_move' rfl) rfl rfl (wt_none' rfl) ?_
      obtain ⟨r13, hr13, hp⟩ := bind_some hp
      refine sx_ox' (ox_calln' (ent_fn' Try.func111 isn111 rfl rfl) (spec_Part_sim _ _ _ _ _ _ hr13 : Go.Sx.Fn Try.prog 111 [(Ag [(Vl (.int .i64 a0_0)), (Vl (.int .i64 a0_1)), (Vl (.int .i64 a0_2)), (Sl Kf a0_3), (Sl (Ki .i64) a0_4), (Vl (.slice none 0 0)), (Vl (.slice none 0 0))]), (Vl (.int .i64 x2))] [] (fun x : Unit => (Ag [(Vl (.int .i64 r13.1)), (Vl (.int .i64 r13.2.1)), (Vl (.int .i64 r13.2.2.1)), (Sl Kf r13.2.2.2), (Vl (.slice none 0 0)), (Vl (.slice none 0 0)), (Vl (.slice none 0 0))])) (fun x => [])) (Hn := fun x : Unit => [⟨.pointer (some q1), [(Vl (.int .i64 a0_0)), (Vl (.int .i64 a0_1)), (Vl (.int .i64 a0_2)), (Sl Kf a0_3), (Sl (Ki .i64) a0_4), (Vl (.slice none 0 0)), (Vl (.slice none 0 0))], 27, none⟩, (Rw KT27 27 (Vs g901) x1)]) (fun _ => rfl) rfl rfl) (wt_none' rfl) fun ⟨⟩ => ?_
      refine tx_slot' 13 (y := (Ag [(Vl (.int .i64 r13.1)), (Vl (.int .i64 r13.2.1)), (Vl (.int .i64 r13.2.2.1)), (Sl Kf r13.2.2.2), (Sl (Ki .i64) []), (Sl (Kl (Ki .i64)) []), (Sl KT27 [])])) rfl (imp_ag ⟨imp_refl, imp_refl, imp_refl, imp_refl, imp_nil, imp_nil, imp_nil, trivial⟩) ?_
      refine sx_ox' (ox_rowlit' (K := KT27) (xs := [(T27.mk r13.1 r13.2.1 r13.2.2.1 r13.2.2.2 [] [] [])]) (qs := [(0, [(Vl (.int .i64 r13.1)), (Vl (.int .i64 r13.2.1)), (Vl (.int .i64 r13.2.2.1)), (Sl Kf r13.2.2.2), (Sl (Ki .i64) []), (Sl (Kl (Ki .i64)) []), (Sl KT27 [])])]) ⟨rfl, ⟨_, rfl, (lv_ag _)⟩, trivial⟩ Try.underlying25 info27 rfl rfl rfl rfl rfl (by simp only [List.flatMap_cons, List.flatMap_nil, KT27_enc, List.append_nil]; kernel_rfl) rfl rfl rfl) (wt_none' rfl) fun g14 => ?_
      obtain ⟨r15, hr15, hp⟩ := bind_some hp
      refine sx_ox' (ox_append' (K := KT27) (i := 2) (xs := x1) (ys := ([(T27.mk r13.1 r13.2.1 r13.2.2.1 r13.2.2.2 [] [] [])])) rfl rfl rfl (sr_row' (j := 0) rfl rfl rfl Try.underlying25) hr15 Try.underlying25 info27 rfl rfl rfl (H' := [(Rw KT27 27 (Vs g14) ([(T27.mk r13.1 r13.2.1 r13.2.2.1 r13.2.2.2 [] [] [])])), ⟨.pointer (some q1), [(Vl (.int .i64 a0_0)), (Vl (.int .i64 a0_1)), (Vl (.int .i64 a0_2)), (Sl Kf a0_3), (Sl (Ki .i64) a0_4), (Vl (.slice none 0 0)), (Vl (.slice none 0 0))], 27, none⟩]) rfl) (wt_none' rfl) fun g15 => ?_
      refine sx_rd' (rd_assign' rfl) rfl rfl (wt_none' rfl) ?_
      refine sx_nil' ?_
      show TX E K11 _
      refine tx_k' hK11 ?_
      refine cx_region' ?_
      refine sx_rd' (rd_bin' rfl rfl eg_int ru_add) rfl rfl (wt_none' rfl) ?_
      refine sx_rd' (rd_move' rfl) rfl rfl (wt_none' rfl) ?_
      refine sx_nil' ?_
      show TX E (KY1 _) _
      exact tx_pick' [2, 0] (sub_cons rfl (sub_cons rfl (sub_cons rfl (sub_cons rfl sub_nil)))) (by decide) (pick_cons rfl (pick_cons rfl pick_nil)) (ih1 (r15, (iadd .i64 x2 1)) g15 _ hp)
    · replace hp := (br_f h3).symm.trans hp
      refine cx_exit' ?_
      replace hp := Option.some.inj hp
      subst hp
      show TX E (Zg E (Exit.exit 0) _ (Exit.exit 0)) _
      exact tx_zend' g901 rfl [1] (sub_cons rfl sub_nil) (by decide) (pick_cons rfl pick_nil)
  · refine zg_out fun w2 => ?_
    show TX E K3 _
    refine tx_k' hK3 ?_
    refine cx_seq' fun K13 hK13 => ?_
    refine cx_region' ?_
    refine sx_rd' (rd_move' rfl) rfl rfl (wt_none' rfl) ?_
    refine sx_rd' (rd_assign' rfl) rfl rfl (wt_none' rfl) ?_
    refine sx_nil' ?_
    show TX E K13 _
    refine tx_k' hK13 ?_
    refine cx_retc' ?_
    replace hp := Option.some.inj hp
    subst hp
    refine tx_fz' (frz_row 0 [(3, (Vl (Vs w2)), (Sl KT27 v2)), (17, (Vl (Vs w2)), (Sl KT27 v2)), (2, (Vl (Vs w2)), (Sl KT27 v2))] (K := KT27) (xs := v2) (by decide) rfl ⟨⟨rfl, frz_it⟩, ⟨rfl, frz_it⟩, ⟨rfl, frz_it⟩, trivial⟩ (H' := []) frzH_refl) ?_
    refine tx_pick' (L' := [(2, (Sl KT27 v2))]) (H' := []) [] (sub_cons rfl sub_nil) (by decide) pick_nil ?_
    exact tx_ret1' Try.results56 rfl () (rv_tmp' rfl) (List.Sublist.refl _)

def spec_NumParts_v2_j1 (k : Nat) (a0_4 : List Int) (a0_0 : Int) (a0_5 : List (List Int)) (a0_6 : List T27) (x1 : Bool) : Option (Int) :=
  br x1
    (some (a0_4.length : Int))
    (br (decide (a0_0 = 6))
      (some (a0_5.length : Int))
      (some (a0_6.length : Int)))
def spec_NumParts_v2 (k : Nat) (a0_0 : Int) (a0_1 : Int) (a0_2 : Int) (a0_3 : List Nat) (a0_4 : List Int) (a0_5 : List (List Int)) (a0_6 : List T27) : Option (Int) :=
  br (decide (a0_0 = 3))
    (spec_NumParts_v2_j1 k a0_4 a0_0 a0_5 a0_6 (decide (a0_0 = 3)))
    (br (decide (a0_0 = 4))
      (spec_NumParts_v2_j1 k a0_4 a0_0 a0_5 a0_6 (decide (a0_0 = 4)))
      (spec_NumParts_v2_j1 k a0_4 a0_0 a0_5 a0_6 (decide (a0_0 = 5))))

theorem spec_NumParts_v2_sim {k : Nat}  (a0_0 : Int) (a0_1 : Int) (a0_2 : Int) (a0_3 : List Nat) (a0_4 : List Int) (a0_5 : List (List Int)) (a0_6 : List T27) {out : Int} (hp : spec_NumParts_v2 k a0_0 a0_1 a0_2 a0_3 a0_4 a0_5 a0_6 = some out) : Go.Sx.Fn Try.prog 110 [(Ag [(Vl (.int .i64 a0_0)), (Vl (.int .i64 a0_1)), (Vl (.int .i64 a0_2)), (Sl Kf a0_3), (Sl (Ki .i64) a0_4), (Sl (Kl (Ki .i64)) a0_5), (Sl KT27 a0_6)])] [] (fun w : Unit => (Vl (.int .i64 out))) (fun w => []) := by
  unfold spec_NumParts_v2 at hp
  refine fn_of Try.func110 rfl Try.ntmps110 rfl fun E hM => ?_
  refine cx_seq' fun K1 hK1 => ?_
  refine cx_region' ?_
  refine sx_ox' (ox_box' rfl (lv_ag _) rfl rfl) (wt_none' rfl) fun q1 => ?_
  refine sx_rd' (rd_assign' rfl) rfl rfl (wt_none' rfl) ?_
  refine sx_nil' ?_
  show TX E K1 _
  refine tx_k' hK1 ?_
  refine cx_seq' fun K2 hK2 => ?_
  refine cx_seq' fun K3 hK3 => ?_
  refine cx_region' ?_
  refine sx_rd' (rd_field0' rfl Try.underlying27 rfl info3 rfl) rfl rfl (wt_none' rfl) ?_
  refine sx_rd' (rd_load' (i := 0) (o := 0) rfl ⟨rfl, rfl, rfl, rfl⟩ rfl flat3) rfl rfl (wt_none' rfl) ?_
  refine sx_nil' ?_
  show TX E K3 _
  refine tx_k' hK3 ?_
  refine cx_block' ?_
  refine cx_join' (fun (v1 : Bool) => (⟨20, [], [(1, (Vl (.pointer (some q1)))), (4, (Vl (.int .i64 a0_0))), (5, (Vl (.bool v1)))], [⟨.pointer (some q1), [(Vl (.int .i64 a0_0)), (Vl (.int .i64 a0_1)), (Vl (.int .i64 a0_2)), (Sl Kf a0_3), (Sl (Ki .i64) a0_4), (Sl (Kl (Ki .i64)) a0_5), (Sl KT27 a0_6)], 27, none⟩]⟩ : St)) (fun (v1 : Bool) => spec_NumParts_v2_j1 k a0_4 a0_0 a0_5 a0_6 v1 = some out) ?_ ?_
  · rintro x1 hp
    replace hp : spec_NumParts_v2_j1 k a0_4 a0_0 a0_5 a0_6 x1 = some out := hp
    unfold spec_NumParts_v2_j1 at hp
    refine cx_cond' rfl (fun h3 => ?_) (fun h3 => ?_)
    · replace hp := (br_t h3).symm.trans hp
      refine cx_seq' fun K7 hK7 => ?_
      refine cx_region' ?_
      refine sx_rd' (rd_field' (off := 4) rfl Try.underlying27 rfl info23 rfl) rfl rfl (wt_none' rfl) ?_
      refine sx_rd' (rd_load' (i := 0) (o := 4) rfl ⟨rfl, rfl, rfl, rfl⟩ rfl flat23) rfl rfl (wt_none' rfl) ?_
      refine sx_rd' (rd_len' rfl Try.underlying23) rfl rfl (wt_none' rfl) ?_
      refine sx_rd' (rd_assign' rfl) rfl rfl (wt_none' rfl) ?_
      refine sx_nil' ?_
      show TX E K7 _
      refine tx_k' hK7 ?_
      refine cx_retc' ?_
      replace hp := Option.some.inj hp
      subst hp
      refine tx_pick' (L' := [(2, (Vl (.int .i64 (a0_4.length : Int))))]) (H' := []) [] (sub_cons rfl sub_nil) (by decide) pick_nil ?_
      exact tx_ret1' Try.results110 rfl () (rv_tmp' rfl) (List.Sublist.refl _)
    · replace hp := (br_f h3).symm.trans hp
      refine cx_seq' fun K8 hK8 => ?_
      refine cx_region' ?_
      refine sx_rd' (rd_bin' rfl rfl eg_int ru_eql) rfl rfl (wt_none' rfl) ?_
      refine sx_rd' (rd_assign' rfl) rfl rfl (wt_none' rfl) ?_
      refine sx_nil' ?_
      show TX E K8 _
      refine tx_k' hK8 ?_
      refine cx_cond' rfl (fun h4 => ?_) (fun h4 => ?_)
      · replace hp := (br_t h4).symm.trans hp
        refine cx_seq' fun K9 hK9 => ?_
        refine cx_region' ?_
        refine sx_rd' (rd_field' (off := 5) rfl Try.underlying27 rfl info24 rfl) rfl rfl (wt_none' rfl) ?_
        refine sx_rd' (rd_load' (i := 0) (o := 5) rfl ⟨rfl, rfl, rfl, rfl⟩ rfl flat24) rfl rfl (wt_none' rfl) ?_
        refine sx_rd' (rd_len' rfl Try.underlying24) rfl rfl (wt_none' rfl) ?_
        refine sx_rd' (rd_assign' rfl) rfl rfl (wt_none' rfl) ?_
        refine sx_nil' ?_
        show TX E K9 _
        refine tx_k' hK9 ?_
        refine cx_retc' ?_
        replace hp := Option.some.inj hp
        subst hp
        refine tx_pick' (L' := [(2, (Vl (.int .i64 (a0_5.length : Int))))]) (H' := []) [] (sub_cons rfl sub_nil) (by decide) pick_nil ?_
        exact tx_ret1' Try.results110 rfl () (rv_tmp' rfl) (List.Sublist.refl _)
      · replace hp := (br_f h4).symm.trans hp
        refine cx_skip' ?_
        show TX E K2 _
        refine tx_k' hK2 ?_
        refine cx_seq' fun K10 hK10 => ?_
        refine cx_region' ?_
        refine sx_rd' (rd_field' (off := 6) rfl Try.underlying27 rfl info25 rfl) rfl rfl (wt_none' rfl) ?_
        refine sx_rd' (rd_load' (i := 0) (o := 6) rfl ⟨rfl, rfl, rfl, rfl⟩ rfl flat25) rfl rfl (wt_none' rfl) ?_
        refine sx_rd' (rd_len' rfl Try.underlying25) rfl rfl (wt_none' rfl) ?_
        refine sx_rd' (rd_assign' rfl) rfl rfl (wt_none' rfl) ?_
        refine sx_nil' ?_
        show TX E K10 _
        refine tx_k' hK10 ?_
        refine cx_retc' ?_
        replace hp := Option.some.inj hp
        subst hp
        refine tx_pick' (L' := [(2, (Vl (.int .i64 (a0_6.length : Int))))]) (H' := []) [] (sub_cons rfl sub_nil) (by decide) pick_nil ?_
        exact tx_ret1' Try.results110 rfl () (rv_tmp' rfl) (List.Sublist.refl _)
  · intro K4 hK4
    refine cx_seq' fun K5 hK5 => ?_
    refine cx_region' ?_
    refine sx_rd' (rd_bin' rfl rfl eg_int ru_eql) rfl rfl (wt_none' rfl) ?_
    refine sx_rd' (rd_assign' rfl) rfl rfl (wt_none' rfl) ?_
    refine sx_nil' ?_
    show TX E K5 _
    refine tx_k' hK5 ?_
    refine cx_cond' rfl (fun h1 => ?_) (fun h1 => ?_)
    · replace hp := (br_t h1).symm.trans hp
      refine cx_skip' ?_
      show TX E K4 _
      exact tx_pick' [0] (sub_cons rfl (sub_cons rfl (sub_cons rfl sub_nil))) (by decide) (pick_cons rfl pick_nil) (hK4 (decide (a0_0 = 3)) hp)
    · replace hp := (br_f h1).symm.trans hp
      refine cx_seq' fun K6 hK6 => ?_
      refine cx_region' ?_
      refine sx_rd' (rd_bin' rfl rfl eg_int ru_eql) rfl rfl (wt_none' rfl) ?_
      refine sx_rd' (rd_assign' rfl) rfl rfl (wt_none' rfl) ?_
      refine sx_nil' ?_
      show TX E K6 _
      refine tx_k' hK6 ?_
      refine cx_cond' rfl (fun h2 => ?_) (fun h2 => ?_)
      · replace hp := (br_t h2).symm.trans hp
        refine cx_skip' ?_
        show TX E K4 _
        exact tx_pick' [0] (sub_cons rfl (sub_cons rfl (sub_cons rfl sub_nil))) (by decide) (pick_cons rfl pick_nil) (hK4 (decide (a0_0 = 4)) hp)
      · replace hp := (br_f h2).symm.trans hp
        refine cx_region' ?_
        refine sx_rd' (rd_bin' rfl rfl eg_int ru_eql) rfl rfl (wt_none' rfl) ?_
        refine sx_rd' (rd_assign' rfl) rfl rfl (wt_none' rfl) ?_
        refine sx_nil' ?_
        show TX E K4 _
        exact tx_pick' [0] (sub_cons rfl (sub_cons rfl (sub_cons rfl sub_nil))) (by decide) (pick_cons rfl pick_nil) (hK4 (decide (a0_0 = 5)) hp)

def spec_Part_v2_j2 (k : Nat) (rec1 : (Int × Int) → Option (Int)) (x4 : Int) (x2 : Int) : Option (Int) :=
  rec1 (x2, (iadd .i64 x4 1))
def spec_Part_v2_l1s (r28 : List (List Int)) (k : Nat) (rec1 : (Int × Int) → Option (Int)) (x3 : Int) (x4 : Int) : Option (Int) :=
  br (decide (x4 < (r28.length : Int)))
    ((idx r28 x4) >>= fun r32 =>
    br (decide (0 < (r32.length : Int)))
      ((idx r32 (isub .i64 (r32.length : Int) 1)) >>= fun r41 =>
      spec_Part_v2_j2 k rec1 x4 r41)
      (spec_Part_v2_j2 k rec1 x4 x3))
    (some x3)
def spec_Part_v2_l1 (r28 : List (List Int)) : Nat → (Int × Int) → Option (Int)
  | 0, _ => none
  | k + 1, v => spec_Part_v2_l1s r28 k (spec_Part_v2_l1 r28 k) v.1 v.2
def spec_Part_v2_l2s (r51 : List Int) (v4 : Int) (k : Nat) (rec2 : ((List Int) × Int × Int) → Option ((List Int) × Int)) (x6 : List Int) (x7 : Int) (x8 : Int) : Option ((List Int) × Int) :=
  br (decide (x8 < (r51.length : Int)))
    ((idx r51 x8) >>= fun r56 =>
    (apd 8 x6 ([isub .i64 r56 v4])) >>= fun r64 =>
    rec2 (r64, r56, (iadd .i64 x8 1)))
    (some (x6, x7))
def spec_Part_v2_l2 (r51 : List Int) (v4 : Int) : Nat → ((List Int) × Int × Int) → Option ((List Int) × Int)
  | 0, _ => none
  | k + 1, v => spec_Part_v2_l2s r51 v4 k (spec_Part_v2_l2 r51 v4 k) v.1 v.2.1 v.2.2
def spec_Part_v2_j4 (k : Nat) (a0_4 : List Int) (a1 : Int) (a0_3 : List Nat) (x11 : Int) (a0_1 : Int) (x12 : Int) : Option (Int × Int × Int × (List Nat) × (List Int) × (List (List Int)) × (List T27)) :=
  (idx a0_4 a1) >>= fun r101 =>
  (cut a0_3 x11 r101) >>= fun r103 =>
  (apd 8 [] r103) >>= fun r104 =>
  some (x12, a0_1, 0, r104, [], [], [])
def spec_Part_v2_j3 (k : Nat) (a0_0 : Int) (a0_4 : List Int) (a1 : Int) (a0_3 : List Nat) (a0_1 : Int) (x11 : Int) : Option (Int × Int × Int × (List Nat) × (List Int) × (List (List Int)) × (List T27)) :=
  br (!decide (a0_0 = 3))
    ((spec_KidOf k a0_0) >>= fun r90 =>
    spec_Part_v2_j4 k a0_4 a1 a0_3 x11 a0_1 r90)
    (spec_Part_v2_j4 k a0_4 a1 a0_3 x11 a0_1 8)
def spec_Part_v2 (k : Nat) (a0_0 : Int) (a0_1 : Int) (a0_2 : Int) (a0_3 : List Nat) (a0_4 : List Int) (a0_5 : List (List Int)) (a0_6 : List T27) (a1 : Int) : Option (Int × Int × Int × (List Nat) × (List Int) × (List (List Int)) × (List T27)) :=
  br (decide (a0_0 = 7))
    ((idx a0_6 a1) >>= fun r20 =>
    some (r20.f0, r20.f1, r20.f2, r20.f3, r20.f4, r20.f5, r20.f6))
    (br (decide (a0_0 = 6))
      ((cut a0_5 0 a1) >>= fun r28 =>
      (spec_Part_v2_l1 r28 k (0, 0)) >>= fun v4 =>
      (idx a0_5 a1) >>= fun r51 =>
      (spec_Part_v2_l2 r51 v4 k ([], v4, 0)) >>= fun v6 =>
      (cut a0_3 v4 v6.2) >>= fun r73 =>
      (apd 8 [] r73) >>= fun r74 =>
      some (3, a0_1, 0, r74, v6.1, [], []))
      (br (decide (0 < a1))
        ((idx a0_4 (isub .i64 a1 1)) >>= fun r83 =>
        spec_Part_v2_j3 k a0_0 a0_4 a1 a0_3 a0_1 r83)
        (spec_Part_v2_j3 k a0_0 a0_4 a1 a0_3 a0_1 0)))

theorem spec_Part_v2_sim {k : Nat}  (a0_0 : Int) (a0_1 : Int) (a0_2 : Int) (a0_3 : List Nat) (a0_4 : List Int) (a0_5 : List (List Int)) (a0_6 : List T27) (a1 : Int) {out : Int × Int × Int × (List Nat) × (List Int) × (List (List Int)) × (List T27)} (hp : spec_Part_v2 k a0_0 a0_1 a0_2 a0_3 a0_4 a0_5 a0_6 a1 = some out) : Go.Sx.Fn Try.prog 111 [(Ag [(Vl (.int .i64 a0_0)), (Vl (.int .i64 a0_1)), (Vl (.int .i64 a0_2)), (Sl Kf a0_3), (Sl (Ki .i64) a0_4), (Sl (Kl (Ki .i64)) a0_5), (Sl KT27 a0_6)]), (Vl (.int .i64 a1))] [] (fun w : Unit => (Ag [(Vl (.int .i64 out.1)), (Vl (.int .i64 out.2.1)), (Vl (.int .i64 out.2.2.1)), (Sl Kf out.2.2.2.1), (Sl (Ki .i64) out.2.2.2.2.1), (Sl (Kl (Ki .i64)) out.2.2.2.2.2.1), (Sl KT27 out.2.2.2.2.2.2)])) (fun w => []) := by
  unfold spec_Part_v2 at hp
  refine fn_of Try.func111 rfl Try.ntmps111 rfl fun E hM => ?_
  refine cx_seq' fun K1 hK1 => ?_
  refine cx_region' ?_
  refine sx_ox' (ox_box' rfl (lv_ag _) rfl rfl) (wt_none' rfl) fun q2 => ?_
  refine sx_ox' (ox_alloc' info27 rfl rfl rfl rfl (l := [(Vl (.int .i64 0)), (Vl (.int .i64 0)), (Vl (.int .i64 0)), (Vl (.slice none 0 0)), (Vl (.slice none 0 0)), (Vl (.slice none 0 0)), (Vl (.slice none 0 0))]) rfl) (wt_none' rfl) fun q4 => ?_
  refine sx_nil' ?_
  show TX E K1 _
  refine tx_k' hK1 ?_
  refine cx_seq' fun K2 hK2 => ?_
  refine cx_seq' fun K3 hK3 => ?_
  refine cx_region' ?_
  refine sx_rd' (rd_field0' rfl Try.underlying27 rfl info3 rfl) rfl rfl (wt_none' rfl) ?_
  refine sx_rd' (rd_load' (i := 1) (o := 0) rfl ⟨rfl, rfl, rfl, rfl⟩ rfl flat3) rfl rfl (wt_none' rfl) ?_
  refine sx_rd' (rd_bin' rfl rfl eg_int ru_eql) rfl rfl (wt_none' rfl) ?_
  refine sx_nil' ?_
  show TX E K3 _
  refine tx_k' hK3 ?_
  refine cx_cond' rfl (fun h1 => ?_) (fun h1 => ?_)
  · replace hp := (br_t h1).symm.trans hp
    refine cx_seq' fun K4 hK4 => ?_
    refine cx_region' ?_
    refine sx_rd' (rd_field' (off := 6) rfl Try.underlying27 rfl info25 rfl) rfl rfl (wt_none' rfl) ?_
    refine sx_rd' (rd_load' (i := 1) (o := 6) rfl ⟨rfl, rfl, rfl, rfl⟩ rfl flat25) rfl rfl (wt_none' rfl) ?_
    refine sx_rd' (rd_move' rfl) rfl rfl (wt_none' rfl) ?_
    obtain ⟨r20, hr20, hp⟩ := bind_some hp
    refine sx_rd' (rd_eq' (congrArg Pt (KT27_enc r20)) (rd_at' (K := KT27) rfl rfl hr20 Try.underlying25 info27)) rfl rfl (wt_none' rfl) ?_
    refine sx_rd' (rd_load_pt_agg' (nn := 7) rfl rfl agg27 (l' := [(Vl (.int .i64 r20.f0)), (Vl (.int .i64 r20.f1)), (Vl (.int .i64 r20.f2)), (Sl Kf r20.f3), (Sl (Ki .i64) r20.f4), (Sl (Kl (Ki .i64)) r20.f5), (Sl KT27 r20.f6)]) rfl) rfl rfl (wt_none' rfl) ?_
    refine sx_ox' (ox_store' (i := 0) (o := 0) rfl rfl (lv_ag _) ⟨rfl, rfl, rfl, rfl⟩ rfl info27 rfl (H' := [⟨.pointer (some q4), [(Vl (.int .i64 r20.f0)), (Vl (.int .i64 r20.f1)), (Vl (.int .i64 r20.f2)), (Sl Kf r20.f3), (Sl (Ki .i64) r20.f4), (Sl (Kl (Ki .i64)) r20.f5), (Sl KT27 r20.f6)], 27, none⟩, ⟨.pointer (some q2), [(Vl (.int .i64 a0_0)), (Vl (.int .i64 a0_1)), (Vl (.int .i64 a0_2)), (Sl Kf a0_3), (Sl (Ki .i64) a0_4), (Sl (Kl (Ki .i64)) a0_5), (Sl KT27 a0_6)], 27, none⟩]) rfl) (wt_none' rfl) fun _ => ?_
    refine sx_nil' ?_
    show TX E K4 _
    refine tx_k' hK4 ?_
    refine cx_retc' ?_
    replace hp := Option.some.inj hp
    subst hp
    refine tx_pick' (L' := [(4, (Vl (.pointer (some q4))))]) (H' := [⟨.pointer (some q4), [(Vl (.int .i64 r20.f0)), (Vl (.int .i64 r20.f1)), (Vl (.int .i64 r20.f2)), (Sl Kf r20.f3), (Sl (Ki .i64) r20.f4), (Sl (Kl (Ki .i64)) r20.f5), (Sl KT27 r20.f6)], 27, none⟩]) [0] (sub_cons rfl sub_nil) (by decide) (pick_cons rfl pick_nil) ?_
    exact tx_ret1' Try.results111 rfl () (rv_cell_agg' (i := 0) (o := 0) (nn := 7) rfl ⟨rfl, rfl, rfl, rfl⟩ rfl agg27 rfl) (List.nil_sublist _)
  · replace hp := (br_f h1).symm.trans hp
    refine cx_skip' ?_
    show TX E K2 _
    refine tx_k' hK2 ?_
    refine cx_seq' fun K5 hK5 => ?_
    refine cx_seq' fun K6 hK6 => ?_
    refine cx_region' ?_
    refine sx_rd' (rd_field0' rfl Try.underlying27 rfl info3 rfl) rfl rfl (wt_none' rfl) ?_
    refine sx_rd' (rd_load' (i := 1) (o := 0) rfl ⟨rfl, rfl, rfl, rfl⟩ rfl flat3) rfl rfl (wt_none' rfl) ?_
    refine sx_rd' (rd_bin' rfl rfl eg_int ru_eql) rfl rfl (wt_none' rfl) ?_
    refine sx_nil' ?_
    show TX E K6 _
    refine tx_k' hK6 ?_
    refine cx_cond' rfl (fun h2 => ?_) (fun h2 => ?_)
    · replace hp := (br_t h2).symm.trans hp
      refine cx_seq' fun K7 hK7 => ?_
      refine cx_region' ?_
      refine sx_rd' (rd_assign' rfl) rfl rfl (wt_none' rfl) ?_
      refine sx_nil' ?_
      show TX E K7 _
      refine tx_k' hK7 ?_
      refine cx_seq' fun K8 hK8 => ?_
      refine cx_seq' fun K9 hK9 => ?_
      refine cx_region' ?_
      refine sx_rd' (rd_field' (off := 5) rfl Try.underlying27 rfl info24 rfl) rfl rfl (wt_none' rfl) ?_
      refine sx_rd' (rd_load' (i := 1) (o := 5) rfl ⟨rfl, rfl, rfl, rfl⟩ rfl flat24) rfl rfl (wt_none' rfl) ?_
      refine sx_rd' (rd_move' rfl) rfl rfl (wt_none' rfl) ?_
      obtain ⟨r28, hr28, hp⟩ := bind_some hp
      refine sx_rd' (rd_cut_h' rfl rfl hr28 Try.underlying24 info23) rfl rfl (wt_none' rfl) ?_
      refine sx_rd' (rd_len' rfl Try.underlying24) rfl rfl (wt_none' rfl) ?_
      refine sx_rd' (rd_move' rfl) rfl rfl (wt_none' rfl) ?_
      refine sx_nil' ?_
      show TX E K9 _
      refine tx_k' hK9 ?_
      refine cx_block' ?_
      obtain ⟨v4, hy1, hp⟩ := bind_some hp
      refine cx_loopg' (F := spec_Part_v2_l1 r28) (G := fun k R v => spec_Part_v2_l1s r28 k R v.1 v.2) (x := (0, 0)) (gh := ()) (fun (v2 : Int × Int) (w2 : Unit) => (⟨106, [], [(1, (Vl (.int .i64 a1))), (2, (Vl (.pointer (some q2)))), (4, (Vl (.pointer (some q4)))), (5, (Vl (.int .i64 v2.1))), (28, (Sl (Kl (Ki .i64)) r28)), (29, (Vl (.int .i64 (r28.length : Int)))), (30, (Vl (.int .i64 v2.2)))], [⟨.pointer (some q2), [(Vl (.int .i64 a0_0)), (Vl (.int .i64 a0_1)), (Vl (.int .i64 a0_2)), (Sl Kf a0_3), (Sl (Ki .i64) a0_4), (Sl (Kl (Ki .i64)) a0_5), (Sl KT27 a0_6)], 27, none⟩, ⟨.pointer (some q4), [(Vl (.int .i64 0)), (Vl (.int .i64 0)), (Vl (.int .i64 0)), (Vl (.slice none 0 0)), (Vl (.slice none 0 0)), (Vl (.slice none 0 0)), (Vl (.slice none 0 0))], 27, none⟩]⟩ : St)) (fun (v4 : Int) => Zg E (Exit.exit 0) (fun (w4 : Unit) => (⟨106, [], [(1, (Vl (.int .i64 a1))), (2, (Vl (.pointer (some q2)))), (4, (Vl (.pointer (some q4)))), (5, (Vl (.int .i64 v4)))], [⟨.pointer (some q2), [(Vl (.int .i64 a0_0)), (Vl (.int .i64 a0_1)), (Vl (.int .i64 a0_2)), (Sl Kf a0_3), (Sl (Ki .i64) a0_4), (Sl (Kl (Ki .i64)) a0_5), (Sl KT27 a0_6)], 27, none⟩, ⟨.pointer (some q4), [(Vl (.int .i64 0)), (Vl (.int .i64 0)), (Vl (.int .i64 0)), (Vl (.slice none 0 0)), (Vl (.slice none 0 0)), (Vl (.slice none 0 0)), (Vl (.slice none 0 0))], 27, none⟩]⟩ : St))) (fun _ => rfl) (fun _ _ => rfl) ?_ hy1 (tx_to' rfl [1, 0] (sub_cons rfl (sub_cons rfl (sub_cons rfl (sub_cons rfl (sub_cons rfl (sub_cons rfl (sub_cons rfl sub_nil))))))) (by decide) (pick_cons rfl (pick_cons rfl pick_nil))) ?_
      · clear hp hy1
        clear v4
        intro k rec1 KY1 ih1
        rintro ⟨x3, x4⟩ ⟨⟩ y1 hp
        replace hp : spec_Part_v2_l1s r28 k rec1 x3 x4 = some y1 := hp
        unfold spec_Part_v2_l1s at hp
        refine cx_seq' fun K15 hK15 => ?_
        refine cx_region' ?_
        refine sx_rd' (rd_bin' rfl rfl eg_int ru_lss) rfl rfl (wt_none' rfl) ?_
        refine sx_nil' ?_
        show TX E K15 _
        refine tx_k' hK15 ?_
        refine cx_seq' fun K16 hK16 => ?_
        refine cx_cond' rfl (fun h6 => ?_) (fun h6 => ?_)
        · replace hp := (br_t h6).symm.trans hp
          refine cx_skip' ?_
          show TX E K16 _
          refine tx_k' hK16 ?_
          refine cx_join' (fun (v3 : Int) => (⟨106, [], [(1, (Vl (.int .i64 a1))), (2, (Vl (.pointer (some q2)))), (4, (Vl (.pointer (some q4)))), (5, (Vl (.int .i64 v3))), (28, (Sl (Kl (Ki .i64)) r28)), (29, (Vl (.int .i64 (r28.length : Int)))), (30, (Vl (.int .i64 x4)))], [⟨.pointer (some q2), [(Vl (.int .i64 a0_0)), (Vl (.int .i64 a0_1)), (Vl (.int .i64 a0_2)), (Sl Kf a0_3), (Sl (Ki .i64) a0_4), (Sl (Kl (Ki .i64)) a0_5), (Sl KT27 a0_6)], 27, none⟩, ⟨.pointer (some q4), [(Vl (.int .i64 0)), (Vl (.int .i64 0)), (Vl (.int .i64 0)), (Vl (.slice none 0 0)), (Vl (.slice none 0 0)), (Vl (.slice none 0 0)), (Vl (.slice none 0 0))], 27, none⟩]⟩ : St)) (fun (v3 : Int) => spec_Part_v2_j2 k rec1 x4 v3 = some y1) ?_ ?_
          · rintro x2 hp
            replace hp : spec_Part_v2_j2 k rec1 x4 x2 = some y1 := hp
            unfold spec_Part_v2_j2 at hp
            refine cx_region' ?_
            refine sx_rd' (rd_bin' rfl rfl eg_int ru_add) rfl rfl (wt_none' rfl) ?_
            refine sx_rd' (rd_move' rfl) rfl rfl (wt_none' rfl) ?_
            refine sx_nil' ?_
            show TX E (KY1 _) _
            exact tx_pick' [0, 1] (sub_cons rfl (sub_cons rfl (sub_cons rfl (sub_cons rfl (sub_cons rfl (sub_cons rfl (sub_cons rfl sub_nil))))))) (by decide) (pick_cons rfl (pick_cons rfl pick_nil)) (ih1 (x2, (iadd .i64 x4 1)) () _ hp)
          · intro K17 hK17
            refine cx_block' ?_
            refine cx_seq' fun K18 hK18 => ?_
            refine cx_region' ?_
            obtain ⟨r32, hr32, hp⟩ := bind_some hp
            refine sx_rd' (rd_at' (K := (Kl (Ki .i64))) rfl rfl hr32 Try.underlying24 info23) rfl rfl (wt_none' rfl) ?_
            refine sx_rd' (rd_load_pt' rfl rfl flat23) rfl rfl (wt_none' rfl) ?_
            refine sx_rd' (rd_assign' rfl) rfl rfl (wt_none' rfl) ?_
            refine sx_nil' ?_
            show TX E K18 _
            refine tx_k' hK18 ?_
            refine cx_seq' fun K19 hK19 => ?_
            refine cx_region' ?_
            refine sx_rd' (rd_move' rfl) rfl rfl (wt_none' rfl) ?_
            refine sx_rd' (rd_len' rfl Try.underlying23) rfl rfl (wt_none' rfl) ?_
            refine sx_rd' (rd_bin' rfl rfl eg_int ru_gtr) rfl rfl (wt_none' rfl) ?_
            refine sx_nil' ?_
            show TX E K19 _
            refine tx_k' hK19 ?_
            refine cx_cond' rfl (fun h7 => ?_) (fun h7 => ?_)
            · replace hp := (br_t h7).symm.trans hp
              refine cx_region' ?_
              refine sx_rd' (rd_move' rfl) rfl rfl (wt_none' rfl) ?_
              refine sx_rd' (rd_move' rfl) rfl rfl (wt_none' rfl) ?_
              refine sx_rd' (rd_len' rfl Try.underlying23) rfl rfl (wt_none' rfl) ?_
              refine sx_rd' (rd_bin' rfl rfl eg_int ru_sub) rfl rfl (wt_none' rfl) ?_
              obtain ⟨r41, hr41, hp⟩ := bind_some hp
              refine sx_rd' (rd_at' (K := (Ki .i64)) rfl rfl hr41 Try.underlying23 info3) rfl rfl (wt_none' rfl) ?_
              refine sx_rd' (rd_load_pt' rfl rfl flat3) rfl rfl (wt_none' rfl) ?_
              refine sx_rd' (rd_assign' rfl) rfl rfl (wt_none' rfl) ?_
              refine sx_nil' ?_
              show TX E K17 _
              exact tx_pick' [0, 1] (sub_cons rfl (sub_cons rfl (sub_cons rfl (sub_cons rfl (sub_cons rfl (sub_cons rfl (sub_cons rfl sub_nil))))))) (by decide) (pick_cons rfl (pick_cons rfl pick_nil)) (hK17 r41 hp)
            · replace hp := (br_f h7).symm.trans hp
              refine cx_skip' ?_
              show TX E K17 _
              exact tx_pick' [0, 1] (sub_cons rfl (sub_cons rfl (sub_cons rfl (sub_cons rfl (sub_cons rfl (sub_cons rfl (sub_cons rfl sub_nil))))))) (by decide) (pick_cons rfl (pick_cons rfl pick_nil)) (hK17 x3 hp)
        · replace hp := (br_f h6).symm.trans hp
          refine cx_exit' ?_
          replace hp := Option.some.inj hp
          subst hp
          show TX E (Zg E (Exit.exit 0) _ (Exit.exit 0)) _
          exact tx_zend' () rfl [0, 1] (sub_cons rfl (sub_cons rfl (sub_cons rfl (sub_cons rfl sub_nil)))) (by decide) (pick_cons rfl (pick_cons rfl pick_nil))
      · refine zg_out fun w4 => ?_
        show TX E K8 _
        refine tx_k' hK8 ?_
        refine cx_seq' fun K20 hK20 => ?_
        refine cx_region' ?_
        refine sx_rd' (rd_field' (off := 1) rfl Try.underlying27 rfl info3 rfl) rfl rfl (wt_none' rfl) ?_
        refine sx_rd' (rd_load' (i := 0) (o := 1) rfl ⟨rfl, rfl, rfl, rfl⟩ rfl flat3) rfl rfl (wt_none' rfl) ?_
        refine sx_rd' (rd_build' (pls := [(0, 1), (1, 1), (2, 1), (3, 1), (4, 1), (5, 1), (6, 1)]) (qs := [(0, [(Vl (.int .i64 3))]), (1, [(Vl (.int .i64 a0_1))])]) (r := [(Vl (.int .i64 3)), (Vl (.int .i64 a0_1)), (Vl (.int .i64 0)), (Vl (.slice none 0 0)), (Vl (.slice none 0 0)), (Vl (.slice none 0 0)), (Vl (.slice none 0 0))]) ⟨rfl, ⟨_, rfl, (lv_vl rfl rfl)⟩, ⟨rfl, ⟨_, rfl, (lv_vl rfl rfl)⟩, trivial⟩⟩ Try.underlying27 has27 places27 info27 rfl rfl rfl) rfl rfl (wt_none' rfl) ?_
        refine sx_ox' (ox_alloc' info27 rfl rfl rfl rfl (l := [(Vl (.int .i64 0)), (Vl (.int .i64 0)), (Vl (.int .i64 0)), (Vl (.slice none 0 0)), (Vl (.slice none 0 0)), (Vl (.slice none 0 0)), (Vl (.slice none 0 0))]) rfl) (wt_none' rfl) fun q8 => ?_
        refine sx_ox' (ox_store' (i := 0) (o := 0) rfl rfl (lv_ag _) ⟨rfl, rfl, rfl, rfl⟩ rfl info27 rfl (H' := [⟨.pointer (some q8), [(Vl (.int .i64 3)), (Vl (.int .i64 a0_1)), (Vl (.int .i64 0)), (Vl (.slice none 0 0)), (Vl (.slice none 0 0)), (Vl (.slice none 0 0)), (Vl (.slice none 0 0))], 27, none⟩, ⟨.pointer (some q2), [(Vl (.int .i64 a0_0)), (Vl (.int .i64 a0_1)), (Vl (.int .i64 a0_2)), (Sl Kf a0_3), (Sl (Ki .i64) a0_4), (Sl (Kl (Ki .i64)) a0_5), (Sl KT27 a0_6)], 27, none⟩, ⟨.pointer (some q4), [(Vl (.int .i64 0)), (Vl (.int .i64 0)), (Vl (.int .i64 0)), (Vl (.slice none 0 0)), (Vl (.slice none 0 0)), (Vl (.slice none 0 0)), (Vl (.slice none 0 0))], 27, none⟩]) rfl) (wt_none' rfl) fun _ => ?_
        refine sx_nil' ?_
        show TX E K20 _
        refine tx_k' hK20 ?_
        refine cx_seq' fun K21 hK21 => ?_
        refine cx_region' ?_
        refine sx_rd' (rd_move' rfl) rfl rfl (wt_none' rfl) ?_
        refine sx_rd' (rd_assign' rfl) rfl rfl (wt_none' rfl) ?_
        refine sx_nil' ?_
        show TX E K21 _
        refine tx_k' hK21 ?_
        refine cx_seq' fun K22 hK22 => ?_
        refine cx_seq' fun K23 hK23 => ?_
        refine cx_region' ?_
        refine sx_rd' (rd_field' (off := 5) rfl Try.underlying27 rfl info24 rfl) rfl rfl (wt_none' rfl) ?_
        refine sx_rd' (rd_load' (i := 1) (o := 5) rfl ⟨rfl, rfl, rfl, rfl⟩ rfl flat24) rfl rfl (wt_none' rfl) ?_
        refine sx_rd' (rd_move' rfl) rfl rfl (wt_none' rfl) ?_
        obtain ⟨r51, hr51, hp⟩ := bind_some hp
        refine sx_rd' (rd_at' (K := (Kl (Ki .i64))) rfl rfl hr51 Try.underlying24 info23) rfl rfl (wt_none' rfl) ?_
        refine sx_rd' (rd_load_pt' rfl rfl flat23) rfl rfl (wt_none' rfl) ?_
        refine sx_rd' (rd_len' rfl Try.underlying23) rfl rfl (wt_none' rfl) ?_
        refine sx_rd' (rd_move' rfl) rfl rfl (wt_none' rfl) ?_
        refine sx_nil' ?_
        show TX E K23 _
        refine tx_k' hK23 ?_
        refine cx_block' ?_
        obtain ⟨v6, hy2, hp⟩ := bind_some hp
        refine tx_nilrow' (Ki .i64) 3 ?_
        refine cx_loopg' (F := spec_Part_v2_l2 r51 v4) (G := fun k R v => spec_Part_v2_l2s r51 v4 k R v.1 v.2.1 v.2.2) (x := ([], v4, 0)) (gh := (none, 0, 0)) (fun (v5 : (List Int) × Int × Int) (w5 : Gs) => (⟨106, [], [(2, (Vl (.pointer (some q2)))), (4, (Vl (.pointer (some q4)))), (5, (Vl (.int .i64 v4))), (8, (Vl (.pointer (some q8)))), (9, (Vl (.int .i64 v5.2.1))), (52, (Sl (Ki .i64) r51)), (53, (Vl (.int .i64 (r51.length : Int)))), (54, (Vl (.int .i64 v5.2.2)))], [⟨.pointer (some q2), [(Vl (.int .i64 a0_0)), (Vl (.int .i64 a0_1)), (Vl (.int .i64 a0_2)), (Sl Kf a0_3), (Sl (Ki .i64) a0_4), (Sl (Kl (Ki .i64)) a0_5), (Sl KT27 a0_6)], 27, none⟩, ⟨.pointer (some q4), [(Vl (.int .i64 0)), (Vl (.int .i64 0)), (Vl (.int .i64 0)), (Vl (.slice none 0 0)), (Vl (.slice none 0 0)), (Vl (.slice none 0 0)), (Vl (.slice none 0 0))], 27, none⟩, ⟨.pointer (some q8), [(Vl (.int .i64 3)), (Vl (.int .i64 a0_1)), (Vl (.int .i64 0)), (Vl (.slice none 0 0)), (Vl (Vs w5)), (Vl (.slice none 0 0)), (Vl (.slice none 0 0))], 27, none⟩, (Rw (Ki .i64) 3 (Vs w5) v5.1)]⟩ : St)) (fun (v6 : (List Int) × Int) => Zg E (Exit.exit 2) (fun (w6 : Gs) => (⟨106, [], [(2, (Vl (.pointer (some q2)))), (4, (Vl (.pointer (some q4)))), (5, (Vl (.int .i64 v4))), (8, (Vl (.pointer (some q8)))), (9, (Vl (.int .i64 v6.2)))], [⟨.pointer (some q2), [(Vl (.int .i64 a0_0)), (Vl (.int .i64 a0_1)), (Vl (.int .i64 a0_2)), (Sl Kf a0_3), (Sl (Ki .i64) a0_4), (Sl (Kl (Ki .i64)) a0_5), (Sl KT27 a0_6)], 27, none⟩, ⟨.pointer (some q4), [(Vl (.int .i64 0)), (Vl (.int .i64 0)), (Vl (.int .i64 0)), (Vl (.slice none 0 0)), (Vl (.slice none 0 0)), (Vl (.slice none 0 0)), (Vl (.slice none 0 0))], 27, none⟩, ⟨.pointer (some q8), [(Vl (.int .i64 3)), (Vl (.int .i64 a0_1)), (Vl (.int .i64 0)), (Vl (.slice none 0 0)), (Vl (Vs w6)), (Vl (.slice none 0 0)), (Vl (.slice none 0 0))], 27, none⟩, (Rw (Ki .i64) 3 (Vs w6) v6.1)]⟩ : St))) (fun _ => rfl) (fun _ _ => rfl) ?_ hy2 (tx_to' rfl [2, 3, 1, 0] (sub_cons rfl (sub_cons rfl (sub_cons rfl (sub_cons rfl (sub_cons rfl (sub_cons rfl (sub_cons rfl (sub_cons rfl sub_nil)))))))) (by decide) (pick_cons rfl (pick_cons rfl (pick_cons rfl (pick_cons rfl pick_nil))))) ?_
        · clear hp hy2
          clear v6
          intro k rec2 KY2 ih2
          rintro ⟨x6, x7, x8⟩ g901 y2 hp
          replace hp : spec_Part_v2_l2s r51 v4 k rec2 x6 x7 x8 = some y2 := hp
          unfold spec_Part_v2_l2s at hp
          refine cx_seq' fun K29 hK29 => ?_
          refine cx_region' ?_
          refine sx_rd' (rd_bin' rfl rfl eg_int ru_lss) rfl rfl (wt_none' rfl) ?_
          refine sx_nil' ?_
          show TX E K29 _
          refine tx_k' hK29 ?_
          refine cx_seq' fun K30 hK30 => ?_
          refine cx_cond' rfl (fun h10 => ?_) (fun h10 => ?_)
          · replace hp := (br_t h10).symm.trans hp
            refine cx_skip' ?_
            show TX E K30 _
            refine tx_k' hK30 ?_
            refine cx_seq' fun K31 hK31 => ?_
            refine cx_block' ?_
            refine cx_seq' fun K32 hK32 => ?_
            refine cx_region' ?_
            obtain ⟨r56, hr56, hp⟩ := bind_some hp
            refine sx_rd' (rd_at' (K := (Ki .i64)) rfl rfl hr56 Try.underlying23 info3) rfl rfl (wt_none' rfl) ?_
            refine sx_rd' (rd_load_pt' rfl rfl flat3) rfl rfl (wt_none' rfl) ?_
            refine sx_rd' (rd_assign' rfl) rfl rfl (wt_none' rfl) ?_
            refine sx_nil' ?_
            show TX E K32 _
            refine tx_k' hK32 ?_
            refine cx_seq' fun K33 hK33 => ?_
            refine cx_region' ?_
            refine sx_rd' (rd_field' (off := 4) rfl Try.underlying27 rfl info23 rfl) rfl rfl (wt_none' rfl) ?_
            refine sx_rd' (rd_load' (i := 2) (o := 4) rfl ⟨rfl, rfl, rfl, rfl⟩ rfl flat23) rfl rfl (wt_none' rfl) ?_
            refine sx_rd' (rd_move' rfl) rfl rfl (wt_none' rfl) ?_
            refine sx_rd' (rd_move' rfl) rfl rfl (wt_none' rfl) ?_
            refine sx_rd' (rd_bin' rfl rfl eg_int ru_sub) rfl rfl (wt_none' rfl) ?_
            refine sx_ox' (ox_rowlit' (K := (Ki .i64)) (xs := [isub .i64 r56 v4]) (qs := [(0, [(Vl (.int .i64 (isub .i64 r56 v4)))])]) ⟨rfl, ⟨_, rfl, (lv_vl rfl rfl)⟩, trivial⟩ Try.underlying23 info3 rfl rfl rfl rfl rfl (by kernel_rfl) rfl rfl rfl) (wt_none' rfl) fun g63 => ?_
            obtain ⟨r64, hr64, hp⟩ := bind_some hp
            refine sx_ox' (ox_append' (K := (Ki .i64)) (i := 4) (xs := x6) (ys := ([isub .i64 r56 v4])) rfl rfl rfl (sr_row' (j := 0) rfl rfl rfl Try.underlying23) hr64 Try.underlying23 info3 rfl rfl rfl (H' := [(Rw (Ki .i64) 3 (Vs g63) ([isub .i64 r56 v4])), ⟨.pointer (some q2), [(Vl (.int .i64 a0_0)), (Vl (.int .i64 a0_1)), (Vl (.int .i64 a0_2)), (Sl Kf a0_3), (Sl (Ki .i64) a0_4), (Sl (Kl (Ki .i64)) a0_5), (Sl KT27 a0_6)], 27, none⟩, ⟨.pointer (some q4), [(Vl (.int .i64 0)), (Vl (.int .i64 0)), (Vl (.int .i64 0)), (Vl (.slice none 0 0)), (Vl (.slice none 0 0)), (Vl (.slice none 0 0)), (Vl (.slice none 0 0))], 27, none⟩, ⟨.pointer (some q8), [(Vl (.int .i64 3)), (Vl (.int .i64 a0_1)), (Vl (.int .i64 0)), (Vl (.slice none 0 0)), (Vl (Vs g901)), (Vl (.slice none 0 0)), (Vl (.slice none 0 0))], 27, none⟩]) rfl) (wt_none' rfl) fun g64 => ?_
            refine sx_rd' (rd_field' (off := 4) rfl Try.underlying27 rfl info23 rfl) rfl rfl (wt_none' rfl) ?_
            refine sx_ox' (ox_store' (i := 4) (o := 4) rfl rfl (lv_vl rfl rfl) ⟨rfl, rfl, rfl, rfl⟩ rfl info23 rfl (H' := [(Rw (Ki .i64) 3 (Vs g64) r64), (Rw (Ki .i64) 3 (Vs g63) ([isub .i64 r56 v4])), ⟨.pointer (some q2), [(Vl (.int .i64 a0_0)), (Vl (.int .i64 a0_1)), (Vl (.int .i64 a0_2)), (Sl Kf a0_3), (Sl (Ki .i64) a0_4), (Sl (Kl (Ki .i64)) a0_5), (Sl KT27 a0_6)], 27, none⟩, ⟨.pointer (some q4), [(Vl (.int .i64 0)), (Vl (.int .i64 0)), (Vl (.int .i64 0)), (Vl (.slice none 0 0)), (Vl (.slice none 0 0)), (Vl (.slice none 0 0)), (Vl (.slice none 0 0))], 27, none⟩, ⟨.pointer (some q8), [(Vl (.int .i64 3)), (Vl (.int .i64 a0_1)), (Vl (.int .i64 0)), (Vl (.slice none 0 0)), (Vl (Vs g64)), (Vl (.slice none 0 0)), (Vl (.slice none 0 0))], 27, none⟩]) rfl) (wt_none' rfl) fun _ => ?_
            refine sx_nil' ?_
            show TX E K33 _
            refine tx_k' hK33 ?_
            refine cx_region' ?_
            refine sx_rd' (rd_move' rfl) rfl rfl (wt_none' rfl) ?_
            refine sx_rd' (rd_assign' rfl) rfl rfl (wt_none' rfl) ?_
            refine sx_nil' ?_
            show TX E K31 _
            refine tx_k' hK31 ?_
            refine cx_region' ?_
            refine sx_rd' (rd_bin' rfl rfl eg_int ru_add) rfl rfl (wt_none' rfl) ?_
            refine sx_rd' (rd_move' rfl) rfl rfl (wt_none' rfl) ?_
            refine sx_nil' ?_
            show TX E (KY2 _) _
            exact tx_pick' [2, 3, 4, 0] (sub_cons rfl (sub_cons rfl (sub_cons rfl (sub_cons rfl (sub_cons rfl (sub_cons rfl (sub_cons rfl (sub_cons rfl sub_nil)))))))) (by decide) (pick_cons rfl (pick_cons rfl (pick_cons rfl (pick_cons rfl pick_nil)))) (ih2 (r64, r56, (iadd .i64 x8 1)) g64 _ hp)
          · replace hp := (br_f h10).symm.trans hp
            refine cx_exit' ?_
            replace hp := Option.some.inj hp
            subst hp
            show TX E (Zg E (Exit.exit 2) _ (Exit.exit 2)) _
            exact tx_zend' g901 rfl [0, 1, 2, 3] (sub_cons rfl (sub_cons rfl (sub_cons rfl (sub_cons rfl (sub_cons rfl sub_nil))))) (by decide) (pick_cons rfl (pick_cons rfl (pick_cons rfl (pick_cons rfl pick_nil))))
        · refine zg_out fun w6 => ?_
          show TX E K22 _
          refine tx_k' hK22 ?_
          refine cx_seq' fun K34 hK34 => ?_
          refine cx_region' ?_
          refine sx_ox' (ox_rowlit' (K := Kf) (xs := []) (qs := []) trivial Try.underlying22 info32 rfl rfl rfl rfl rfl (by kernel_rfl) rfl rfl rfl) (wt_none' rfl) fun g68 => ?_
          refine sx_rd' (rd_field' (off := 3) rfl Try.underlying27 rfl info22 rfl) rfl rfl (wt_none' rfl) ?_
          refine sx_rd' (rd_load' (i := 1) (o := 3) rfl ⟨rfl, rfl, rfl, rfl⟩ rfl flat22) rfl rfl (wt_none' rfl) ?_
          refine sx_rd' (rd_move' rfl) rfl rfl (wt_none' rfl) ?_
          refine sx_rd' (rd_move' rfl) rfl rfl (wt_none' rfl) ?_
          obtain ⟨r73, hr73, hp⟩ := bind_some hp
          refine sx_rd' (rd_cut_lh' rfl rfl rfl hr73 Try.underlying22 info32) rfl rfl (wt_none' rfl) ?_
          obtain ⟨r74, hr74, hp⟩ := bind_some hp
          refine sx_ox' (ox_append' (K := Kf) (i := 0) (xs := []) (ys := r73) rfl rfl rfl (sr_sl' rfl Try.underlying22) hr74 Try.underlying22 info32 rfl rfl rfl (H' := [⟨.pointer (some q2), [(Vl (.int .i64 a0_0)), (Vl (.int .i64 a0_1)), (Vl (.int .i64 a0_2)), (Sl Kf a0_3), (Sl (Ki .i64) a0_4), (Sl (Kl (Ki .i64)) a0_5), (Sl KT27 a0_6)], 27, none⟩, ⟨.pointer (some q4), [(Vl (.int .i64 0)), (Vl (.int .i64 0)), (Vl (.int .i64 0)), (Vl (.slice none 0 0)), (Vl (.slice none 0 0)), (Vl (.slice none 0 0)), (Vl (.slice none 0 0))], 27, none⟩, ⟨.pointer (some q8), [(Vl (.int .i64 3)), (Vl (.int .i64 a0_1)), (Vl (.int .i64 0)), (Vl (.slice none 0 0)), (Vl (Vs w6)), (Vl (.slice none 0 0)), (Vl (.slice none 0 0))], 27, none⟩, (Rw (Ki .i64) 3 (Vs w6) v6.1)]) rfl) (wt_none' rfl) fun g74 => ?_
          refine sx_rd' (rd_field' (off := 3) rfl Try.underlying27 rfl info22 rfl) rfl rfl (wt_none' rfl) ?_
          refine sx_ox' (ox_store' (i := 3) (o := 3) rfl rfl (lv_vl rfl rfl) ⟨rfl, rfl, rfl, rfl⟩ rfl info22 rfl (H' := [(Rw Kf 32 (Vs g74) r74), ⟨.pointer (some q2), [(Vl (.int .i64 a0_0)), (Vl (.int .i64 a0_1)), (Vl (.int .i64 a0_2)), (Sl Kf a0_3), (Sl (Ki .i64) a0_4), (Sl (Kl (Ki .i64)) a0_5), (Sl KT27 a0_6)], 27, none⟩, ⟨.pointer (some q4), [(Vl (.int .i64 0)), (Vl (.int .i64 0)), (Vl (.int .i64 0)), (Vl (.slice none 0 0)), (Vl (.slice none 0 0)), (Vl (.slice none 0 0)), (Vl (.slice none 0 0))], 27, none⟩, ⟨.pointer (some q8), [(Vl (.int .i64 3)), (Vl (.int .i64 a0_1)), (Vl (.int .i64 0)), (Vl (Vs g74)), (Vl (Vs w6)), (Vl (.slice none 0 0)), (Vl (.slice none 0 0))], 27, none⟩, (Rw (Ki .i64) 3 (Vs w6) v6.1)]) rfl) (wt_none' rfl) fun _ => ?_
          refine sx_nil' ?_
          show TX E K34 _
          refine tx_k' hK34 ?_
          refine cx_seq' fun K35 hK35 => ?_
          refine cx_region' ?_
          refine sx_rd' (rd_load_agg' (i := 3) (o := 0) (nn := 7) rfl ⟨rfl, rfl, rfl, rfl⟩ rfl agg27 (l' := [(Vl (.int .i64 3)), (Vl (.int .i64 a0_1)), (Vl (.int .i64 0)), (Vl (Vs g74)), (Vl (Vs w6)), (Vl (.slice none 0 0)), (Vl (.slice none 0 0))]) rfl) rfl rfl (wt_none' rfl) ?_
          refine sx_ox' (ox_store' (i := 2) (o := 0) rfl rfl (lv_ag _) ⟨rfl, rfl, rfl, rfl⟩ rfl info27 rfl (H' := [(Rw Kf 32 (Vs g74) r74), ⟨.pointer (some q2), [(Vl (.int .i64 a0_0)), (Vl (.int .i64 a0_1)), (Vl (.int .i64 a0_2)), (Sl Kf a0_3), (Sl (Ki .i64) a0_4), (Sl (Kl (Ki .i64)) a0_5), (Sl KT27 a0_6)], 27, none⟩, ⟨.pointer (some q4), [(Vl (.int .i64 3)), (Vl (.int .i64 a0_1)), (Vl (.int .i64 0)), (Vl (Vs g74)), (Vl (Vs w6)), (Vl (.slice none 0 0)), (Vl (.slice none 0 0))], 27, none⟩, ⟨.pointer (some q8), [(Vl (.int .i64 3)), (Vl (.int .i64 a0_1)), (Vl (.int .i64 0)), (Vl (Vs g74)), (Vl (Vs w6)), (Vl (.slice none 0 0)), (Vl (.slice none 0 0))], 27, none⟩, (Rw (Ki .i64) 3 (Vs w6) v6.1)]) rfl) (wt_none' rfl) fun _ => ?_
          refine sx_nil' ?_
          show TX E K35 _
          refine tx_k' hK35 ?_
          refine cx_retc' ?_
          replace hp := Option.some.inj hp
          subst hp
          refine tx_fz' (frz_row 0 [(74, (Vl (Vs g74)), (Sl Kf r74)), (76, (Ag [(Vl (.int .i64 3)), (Vl (.int .i64 a0_1)), (Vl (.int .i64 0)), (Vl (Vs g74)), (Vl (Vs w6)), (Vl (.slice none 0 0)), (Vl (.slice none 0 0))]), (Ag [(Vl (.int .i64 3)), (Vl (.int .i64 a0_1)), (Vl (.int .i64 0)), (Sl Kf r74), (Vl (Vs w6)), (Vl (.slice none 0 0)), (Vl (.slice none 0 0))]))] (K := Kf) (xs := r74) (by decide) rfl ⟨⟨rfl, frz_it⟩, ⟨rfl, fz_ag (fz0_cons fz0_same (fz0_cons fz0_same (fz0_cons fz0_same (fz0_cons fz0_it (fz0_cons fz0_same (fz0_cons fz0_same (fz0_cons fz0_same fz0_nil)))))))⟩, trivial⟩ (H' := [⟨.pointer (some q2), [(Vl (.int .i64 a0_0)), (Vl (.int .i64 a0_1)), (Vl (.int .i64 a0_2)), (Sl Kf a0_3), (Sl (Ki .i64) a0_4), (Sl (Kl (Ki .i64)) a0_5), (Sl KT27 a0_6)], 27, none⟩, ⟨.pointer (some q4), [(Vl (.int .i64 3)), (Vl (.int .i64 a0_1)), (Vl (.int .i64 0)), (Sl Kf r74), (Vl (Vs w6)), (Vl (.slice none 0 0)), (Vl (.slice none 0 0))], 27, none⟩, ⟨.pointer (some q8), [(Vl (.int .i64 3)), (Vl (.int .i64 a0_1)), (Vl (.int .i64 0)), (Sl Kf r74), (Vl (Vs w6)), (Vl (.slice none 0 0)), (Vl (.slice none 0 0))], 27, none⟩, (Rw (Ki .i64) 3 (Vs w6) v6.1)]) (frzH_cons rfl rfl rfl frzL_refl (frzH_cons rfl rfl rfl (frzL_cons frz_same (frzL_cons frz_same (frzL_cons frz_same (frzL_cons frz_it (frzL_cons frz_same (frzL_cons frz_same (frzL_cons frz_same frzL_refl))))))) (frzH_cons rfl rfl rfl (frzL_cons frz_same (frzL_cons frz_same (frzL_cons frz_same (frzL_cons frz_it (frzL_cons frz_same (frzL_cons frz_same (frzL_cons frz_same frzL_refl))))))) (frzH_cons rfl rfl rfl frzL_refl frzH_refl))))) ?_
          refine tx_fz' (frz_row 3 [(76, (Ag [(Vl (.int .i64 3)), (Vl (.int .i64 a0_1)), (Vl (.int .i64 0)), (Sl Kf r74), (Vl (Vs w6)), (Vl (.slice none 0 0)), (Vl (.slice none 0 0))]), (Ag [(Vl (.int .i64 3)), (Vl (.int .i64 a0_1)), (Vl (.int .i64 0)), (Sl Kf r74), (Sl (Ki .i64) v6.1), (Vl (.slice none 0 0)), (Vl (.slice none 0 0))]))] (K := (Ki .i64)) (xs := v6.1) (by decide) rfl ⟨⟨rfl, fz_ag (fz0_cons fz0_same (fz0_cons fz0_same (fz0_cons fz0_same (fz0_cons fz0_same (fz0_cons fz0_it (fz0_cons fz0_same (fz0_cons fz0_same fz0_nil)))))))⟩, trivial⟩ (H' := [⟨.pointer (some q2), [(Vl (.int .i64 a0_0)), (Vl (.int .i64 a0_1)), (Vl (.int .i64 a0_2)), (Sl Kf a0_3), (Sl (Ki .i64) a0_4), (Sl (Kl (Ki .i64)) a0_5), (Sl KT27 a0_6)], 27, none⟩, ⟨.pointer (some q4), [(Vl (.int .i64 3)), (Vl (.int .i64 a0_1)), (Vl (.int .i64 0)), (Sl Kf r74), (Sl (Ki .i64) v6.1), (Vl (.slice none 0 0)), (Vl (.slice none 0 0))], 27, none⟩, ⟨.pointer (some q8), [(Vl (.int .i64 3)), (Vl (.int .i64 a0_1)), (Vl (.int .i64 0)), (Sl Kf r74), (Sl (Ki .i64) v6.1), (Vl (.slice none 0 0)), (Vl (.slice none 0 0))], 27, none⟩]) (frzH_cons rfl rfl rfl frzL_refl (frzH_cons rfl rfl rfl (frzL_cons frz_same (frzL_cons frz_same (frzL_cons frz_same (frzL_cons frz_same (frzL_cons frz_it (frzL_cons frz_same (frzL_cons frz_same frzL_refl))))))) (frzH_cons rfl rfl rfl (frzL_cons frz_same (frzL_cons frz_same (frzL_cons frz_same (frzL_cons frz_same (frzL_cons frz_it (frzL_cons frz_same (frzL_cons frz_same frzL_refl))))))) frzH_refl)))) ?_
          refine tx_pick' (L' := [(4, (Vl (.pointer (some q4))))]) (H' := [⟨.pointer (some q4), [(Vl (.int .i64 3)), (Vl (.int .i64 a0_1)), (Vl (.int .i64 0)), (Sl Kf r74), (Sl (Ki .i64) v6.1), (Vl (.slice none 0 0)), (Vl (.slice none 0 0))], 27, none⟩]) [1] (sub_cons rfl sub_nil) (by decide) (pick_cons rfl pick_nil) ?_
          exact tx_ret1' Try.results111 rfl () (rv_imp' (x := (Ag [(Vl (.int .i64 3)), (Vl (.int .i64 a0_1)), (Vl (.int .i64 0)), (Sl Kf r74), (Sl (Ki .i64) v6.1), (Vl (.slice none 0 0)), (Vl (.slice none 0 0))])) (y := (Ag [(Vl (.int .i64 3)), (Vl (.int .i64 a0_1)), (Vl (.int .i64 0)), (Sl Kf r74), (Sl (Ki .i64) v6.1), (Sl (Kl (Ki .i64)) []), (Sl KT27 [])])) (rv_cell_agg' (i := 0) (o := 0) (nn := 7) rfl ⟨rfl, rfl, rfl, rfl⟩ rfl agg27 rfl) (imp_ag ⟨imp_refl, imp_refl, imp_refl, imp_refl, imp_refl, imp_nil, imp_nil, trivial⟩)) (List.nil_sublist _)
    · replace hp := (br_f h2).symm.trans hp
      refine cx_skip' ?_
      show TX E K5 _
      refine tx_k' hK5 ?_
      refine cx_seq' fun K36 hK36 => ?_
      refine cx_region' ?_
      refine sx_rd' (rd_assign' rfl) rfl rfl (wt_none' rfl) ?_
      refine sx_nil' ?_
      show TX E K36 _
      refine tx_k' hK36 ?_
      refine cx_join' (fun (v7 : Int) => (⟨106, [], [(1, (Vl (.int .i64 a1))), (2, (Vl (.pointer (some q2)))), (4, (Vl (.pointer (some q4)))), (12, (Vl (.int .i64 v7)))], [⟨.pointer (some q2), [(Vl (.int .i64 a0_0)), (Vl (.int .i64 a0_1)), (Vl (.int .i64 a0_2)), (Sl Kf a0_3), (Sl (Ki .i64) a0_4), (Sl (Kl (Ki .i64)) a0_5), (Sl KT27 a0_6)], 27, none⟩, ⟨.pointer (some q4), [(Vl (.int .i64 0)), (Vl (.int .i64 0)), (Vl (.int .i64 0)), (Vl (.slice none 0 0)), (Vl (.slice none 0 0)), (Vl (.slice none 0 0)), (Vl (.slice none 0 0))], 27, none⟩]⟩ : St)) (fun (v7 : Int) => spec_Part_v2_j3 k a0_0 a0_4 a1 a0_3 a0_1 v7 = some out) ?_ ?_
      · rintro x11 hp
        replace hp : spec_Part_v2_j3 k a0_0 a0_4 a1 a0_3 a0_1 x11 = some out := hp
        unfold spec_Part_v2_j3 at hp
        refine cx_seq' fun K39 hK39 => ?_
        refine cx_region' ?_
        refine sx_rd' (rd_assign' rfl) rfl rfl (wt_none' rfl) ?_
        refine sx_nil' ?_
        show TX E K39 _
        refine tx_k' hK39 ?_
        refine cx_join' (fun (v8 : Int) => (⟨106, [], [(1, (Vl (.int .i64 a1))), (2, (Vl (.pointer (some q2)))), (4, (Vl (.pointer (some q4)))), (12, (Vl (.int .i64 x11))), (13, (Vl (.int .i64 v8)))], [⟨.pointer (some q2), [(Vl (.int .i64 a0_0)), (Vl (.int .i64 a0_1)), (Vl (.int .i64 a0_2)), (Sl Kf a0_3), (Sl (Ki .i64) a0_4), (Sl (Kl (Ki .i64)) a0_5), (Sl KT27 a0_6)], 27, none⟩, ⟨.pointer (some q4), [(Vl (.int .i64 0)), (Vl (.int .i64 0)), (Vl (.int .i64 0)), (Vl (.slice none 0 0)), (Vl (.slice none 0 0)), (Vl (.slice none 0 0)), (Vl (.slice none 0 0))], 27, none⟩]⟩ : St)) (fun (v8 : Int) => spec_Part_v2_j4 k a0_4 a1 a0_3 x11 a0_1 v8 = some out) ?_ ?_
        · rintro x12 hp
          replace hp : spec_Part_v2_j4 k a0_4 a1 a0_3 x11 a0_1 x12 = some out := hp
          unfold spec_Part_v2_j4 at hp
          refine cx_seq' fun K42 hK42 => ?_
          refine cx_plan' [q2.block] [(13, 1), (15, 1)] [(0, 2), (1, 2), (2, 2), (4, 1), (5, 1), (6, 1), (7, 1), (8, 1), (9, 1), (10, 1), (11, 1), (12, 1), (3, 0), (13, 0), (14, 1), (15, 0)] mixed (by kernel_rfl) ?_
          refine px_rb' rfl (rb_move' rfl) rfl rfl (wt_none' rfl) ?_
          refine px_rb' rfl (rb_field' (off := 1) rfl Try.underlying27 rfl info3 rfl) rfl rfl (wt_none' rfl) ?_
          refine px_rb' rfl (rb_load' (i := 0) (o := 1) rfl ⟨rfl, rfl, rfl, rfl⟩ rfl flat3 (by simp)) rfl rfl (wt_none' rfl) ?_
          refine px_rd' rfl (rd_field' (off := 3) rfl Try.underlying27 rfl info22 rfl) rfl rfl (wt_none' rfl) ?_
          refine px_rd' rfl (rd_load' (i := 0) (o := 3) rfl ⟨rfl, rfl, rfl, rfl⟩ rfl flat22) rfl rfl (wt_none' rfl) ?_
          refine px_rd' rfl (rd_move' rfl) rfl rfl (wt_none' rfl) ?_
          refine px_rd' rfl (rd_field' (off := 4) rfl Try.underlying27 rfl info23 rfl) rfl rfl (wt_none' rfl) ?_
          refine px_rd' rfl (rd_load' (i := 0) (o := 4) rfl ⟨rfl, rfl, rfl, rfl⟩ rfl flat23) rfl rfl (wt_none' rfl) ?_
          refine px_rd' rfl (rd_move' rfl) rfl rfl (wt_none' rfl) ?_
          obtain ⟨r101, hr101, hp⟩ := bind_some hp
          refine px_rd' rfl (rd_at' (K := (Ki .i64)) rfl rfl hr101 Try.underlying23 info3) rfl rfl (wt_none' rfl) ?_
          refine px_rd' rfl (rd_load_pt' rfl rfl flat3) rfl rfl (wt_none' rfl) ?_
          obtain ⟨r103, hr103, hp⟩ := bind_some hp
          refine px_rd' rfl (rd_cut_lh' rfl rfl rfl hr103 Try.underlying22 info32) rfl rfl (wt_none' rfl) ?_
          refine px_ox' rfl (ox_rowlit' (K := Kf) (xs := []) (qs := []) trivial Try.underlying22 info32 rfl rfl rfl rfl rfl (by kernel_rfl) rfl rfl rfl) rfl (bs_cons (m := 0) rfl rfl rfl bs_nil) (wt_none' rfl) fun g94 => ?_
          obtain ⟨r104, hr104, hp⟩ := bind_some hp
          refine px_ox' rfl (ox_append' (K := Kf) (i := 0) (xs := []) (ys := r103) rfl rfl rfl (sr_sl' rfl Try.underlying22) hr104 Try.underlying22 info32 rfl rfl rfl (H' := [⟨.pointer (some q2), [(Vl (.int .i64 a0_0)), (Vl (.int .i64 a0_1)), (Vl (.int .i64 a0_2)), (Sl Kf a0_3), (Sl (Ki .i64) a0_4), (Sl (Kl (Ki .i64)) a0_5), (Sl KT27 a0_6)], 27, none⟩, ⟨.pointer (some q4), [(Vl (.int .i64 0)), (Vl (.int .i64 0)), (Vl (.int .i64 0)), (Vl (.slice none 0 0)), (Vl (.slice none 0 0)), (Vl (.slice none 0 0)), (Vl (.slice none 0 0))], 27, none⟩]) rfl) rfl (bs_cons (m := 1) rfl rfl rfl bs_nil) (wt_none' rfl) fun g104 => ?_
          refine px_rd' rfl (rd_build' (pls := [(0, 1), (1, 1), (2, 1), (3, 1), (4, 1), (5, 1), (6, 1)]) (qs := [(0, [(Vl (.int .i64 x12))]), (1, [(Vl (.int .i64 a0_1))]), (3, [(Vl (Vs g104))])]) (r := [(Vl (.int .i64 x12)), (Vl (.int .i64 a0_1)), (Vl (.int .i64 0)), (Vl (Vs g104)), (Vl (.slice none 0 0)), (Vl (.slice none 0 0)), (Vl (.slice none 0 0))]) ⟨rfl, ⟨_, rfl, (lv_vl rfl rfl)⟩, ⟨rfl, ⟨_, rfl, (lv_vl rfl rfl)⟩, ⟨rfl, ⟨_, rfl, (lv_vl rfl rfl)⟩, trivial⟩⟩⟩ Try.underlying27 has27 places27 info27 rfl rfl rfl) rfl rfl (wt_none' rfl) ?_
          refine px_oxv' rfl (oxv_store (i := 2) (o := 0) rfl rfl (lv_ag _) ⟨rfl, rfl, rfl, rfl⟩ rfl info27 rfl (H' := [(Rw Kf 32 (Vs g104) r104), ⟨.pointer (some q2), [(Vl (.int .i64 a0_0)), (Vl (.int .i64 a0_1)), (Vl (.int .i64 a0_2)), (Sl Kf a0_3), (Sl (Ki .i64) a0_4), (Sl (Kl (Ki .i64)) a0_5), (Sl KT27 a0_6)], 27, none⟩, ⟨.pointer (some q4), [(Vl (.int .i64 x12)), (Vl (.int .i64 a0_1)), (Vl (.int .i64 0)), (Vl (Vs g104)), (Vl (.slice none 0 0)), (Vl (.slice none 0 0)), (Vl (.slice none 0 0))], 27, none⟩]) rfl) rfl rfl (bo_cons (m := 1) (by decide) rfl rfl bo_nil) (wt_none' rfl) fun _ => ?_
          refine px_nil' ?_
          show TX E K42 _
          refine tx_k' hK42 ?_
          refine cx_retc' ?_
          replace hp := Option.some.inj hp
          subst hp
          refine tx_fz' (frz_row 0 [(104, (Vl (Vs g104)), (Sl Kf r104)), (105, (Ag [(Vl (.int .i64 x12)), (Vl (.int .i64 a0_1)), (Vl (.int .i64 0)), (Vl (Vs g104)), (Vl (.slice none 0 0)), (Vl (.slice none 0 0)), (Vl (.slice none 0 0))]), (Ag [(Vl (.int .i64 x12)), (Vl (.int .i64 a0_1)), (Vl (.int .i64 0)), (Sl Kf r104), (Vl (.slice none 0 0)), (Vl (.slice none 0 0)), (Vl (.slice none 0 0))]))] (K := Kf) (xs := r104) (by decide) rfl ⟨⟨rfl, frz_it⟩, ⟨rfl, fz_ag (fz0_cons fz0_same (fz0_cons fz0_same (fz0_cons fz0_same (fz0_cons fz0_it (fz0_cons fz0_same (fz0_cons fz0_same (fz0_cons fz0_same fz0_nil)))))))⟩, trivial⟩ (H' := [⟨.pointer (some q2), [(Vl (.int .i64 a0_0)), (Vl (.int .i64 a0_1)), (Vl (.int .i64 a0_2)), (Sl Kf a0_3), (Sl (Ki .i64) a0_4), (Sl (Kl (Ki .i64)) a0_5), (Sl KT27 a0_6)], 27, none⟩, ⟨.pointer (some q4), [(Vl (.int .i64 x12)), (Vl (.int .i64 a0_1)), (Vl (.int .i64 0)), (Sl Kf r104), (Vl (.slice none 0 0)), (Vl (.slice none 0 0)), (Vl (.slice none 0 0))], 27, none⟩]) (frzH_cons rfl rfl rfl frzL_refl (frzH_cons rfl rfl rfl (frzL_cons frz_same (frzL_cons frz_same (frzL_cons frz_same (frzL_cons frz_it (frzL_cons frz_same (frzL_cons frz_same (frzL_cons frz_same frzL_refl))))))) frzH_refl))) ?_
          refine tx_pick' (L' := [(4, (Vl (.pointer (some q4))))]) (H' := [⟨.pointer (some q4), [(Vl (.int .i64 x12)), (Vl (.int .i64 a0_1)), (Vl (.int .i64 0)), (Sl Kf r104), (Vl (.slice none 0 0)), (Vl (.slice none 0 0)), (Vl (.slice none 0 0))], 27, none⟩]) [1] (sub_cons rfl sub_nil) (by decide) (pick_cons rfl pick_nil) ?_
          exact tx_ret1' Try.results111 rfl () (rv_imp' (x := (Ag [(Vl (.int .i64 x12)), (Vl (.int .i64 a0_1)), (Vl (.int .i64 0)), (Sl Kf r104), (Vl (.slice none 0 0)), (Vl (.slice none 0 0)), (Vl (.slice none 0 0))])) (y := (Ag [(Vl (.int .i64 x12)), (Vl (.int .i64 a0_1)), (Vl (.int .i64 0)), (Sl Kf r104), (Sl (Ki .i64) []), (Sl (Kl (Ki .i64)) []), (Sl KT27 [])])) (rv_cell_agg' (i := 0) (o := 0) (nn := 7) rfl ⟨rfl, rfl, rfl, rfl⟩ rfl agg27 rfl) (imp_ag ⟨imp_refl, imp_refl, imp_refl, imp_refl, imp_nil, imp_nil, imp_nil, trivial⟩)) (List.nil_sublist _)
        · intro K40 hK40
          refine cx_seq' fun K41 hK41 => ?_
          refine cx_region' ?_
          refine sx_rd' (rd_field0' rfl Try.underlying27 rfl info3 rfl) rfl rfl (wt_none' rfl) ?_
          refine sx_rd' (rd_load' (i := 0) (o := 0) rfl ⟨rfl, rfl, rfl, rfl⟩ rfl flat3) rfl rfl (wt_none' rfl) ?_
          refine sx_rd' (rd_bin' rfl rfl eg_int ru_neq) rfl rfl (wt_none' rfl) ?_
          refine sx_nil' ?_
          show TX E K41 _
          refine tx_k' hK41 ?_
          refine cx_cond' rfl (fun h12 => ?_) (fun h12 => ?_)
          · replace hp := (br_t h12).symm.trans hp
            refine cx_region' ?_
            refine sx_rd' (rd_field0' rfl Try.underlying27 rfl info3 rfl) rfl rfl (wt_none' rfl) ?_
            refine sx_rd' (rd_load' (i := 0) (o := 0) rfl ⟨rfl, rfl, rfl, rfl⟩ rfl flat3) rfl rfl (wt_none' rfl) ?_
            obtain ⟨r90, hr90, hp⟩ := bind_some hp
            refine sx_ox' (ox_calln' (ent_fn' Try.func139 isn139 rfl rfl) (spec_KidOf_sim _ hr90 : Go.Sx.Fn Try.prog 139 [(Vl (.int .i64 a0_0))] [] (fun x : Unit => (Vl (.int .i64 r90))) (fun x => [])) (Hn := fun x : Unit => [⟨.pointer (some q2), [(Vl (.int .i64 a0_0)), (Vl (.int .i64 a0_1)), (Vl (.int .i64 a0_2)), (Sl Kf a0_3), (Sl (Ki .i64) a0_4), (Sl (Kl (Ki .i64)) a0_5), (Sl KT27 a0_6)], 27, none⟩, ⟨.pointer (some q4), [(Vl (.int .i64 0)), (Vl (.int .i64 0)), (Vl (.int .i64 0)), (Vl (.slice none 0 0)), (Vl (.slice none 0 0)), (Vl (.slice none 0 0)), (Vl (.slice none 0 0))], 27, none⟩]) (fun _ => rfl) rfl rfl) (wt_none' rfl) fun ⟨⟩ => ?_
            refine sx_rd' (rd_assign' rfl) rfl rfl (wt_none' rfl) ?_
            refine sx_nil' ?_
            show TX E K40 _
            exact tx_pick' [0, 1] (sub_cons rfl (sub_cons rfl (sub_cons rfl (sub_cons rfl (sub_cons rfl sub_nil))))) (by decide) (pick_cons rfl (pick_cons rfl pick_nil)) (hK40 r90 hp)
          · replace hp := (br_f h12).symm.trans hp
            refine cx_skip' ?_
            show TX E K40 _
            exact tx_pick' [0, 1] (sub_cons rfl (sub_cons rfl (sub_cons rfl (sub_cons rfl (sub_cons rfl sub_nil))))) (by decide) (pick_cons rfl (pick_cons rfl pick_nil)) (hK40 8 hp)
      · intro K37 hK37
        refine cx_seq' fun K38 hK38 => ?_
        refine cx_region' ?_
        refine sx_rd' (rd_move' rfl) rfl rfl (wt_none' rfl) ?_
        refine sx_rd' (rd_bin' rfl rfl eg_int ru_gtr) rfl rfl (wt_none' rfl) ?_
        refine sx_nil' ?_
        show TX E K38 _
        refine tx_k' hK38 ?_
        refine cx_cond' rfl (fun h11 => ?_) (fun h11 => ?_)
        · replace hp := (br_t h11).symm.trans hp
          refine cx_region' ?_
          refine sx_rd' (rd_field' (off := 4) rfl Try.underlying27 rfl info23 rfl) rfl rfl (wt_none' rfl) ?_
          refine sx_rd' (rd_load' (i := 1) (o := 4) rfl ⟨rfl, rfl, rfl, rfl⟩ rfl flat23) rfl rfl (wt_none' rfl) ?_
          refine sx_rd' (rd_move' rfl) rfl rfl (wt_none' rfl) ?_
          refine sx_rd' (rd_bin' rfl rfl eg_int ru_sub) rfl rfl (wt_none' rfl) ?_
          obtain ⟨r83, hr83, hp⟩ := bind_some hp
          refine sx_rd' (rd_at' (K := (Ki .i64)) rfl rfl hr83 Try.underlying23 info3) rfl rfl (wt_none' rfl) ?_
          refine sx_rd' (rd_load_pt' rfl rfl flat3) rfl rfl (wt_none' rfl) ?_
          refine sx_rd' (rd_assign' rfl) rfl rfl (wt_none' rfl) ?_
          refine sx_nil' ?_
          show TX E K37 _
          exact tx_pick' [1, 0] (sub_cons rfl (sub_cons rfl (sub_cons rfl (sub_cons rfl sub_nil)))) (by decide) (pick_cons rfl (pick_cons rfl pick_nil)) (hK37 r83 hp)
        · replace hp := (br_f h11).symm.trans hp
          refine cx_skip' ?_
          show TX E K37 _
          exact tx_pick' [1, 0] (sub_cons rfl (sub_cons rfl (sub_cons rfl (sub_cons rfl sub_nil)))) (by decide) (pick_cons rfl (pick_cons rfl pick_nil)) (hK37 0 hp)

def spec_Parts_v2_l1s (r6 : Int) (a0_0 : Int) (a0_1 : Int) (a0_2 : Int) (a0_3 : List Nat) (a0_4 : List Int) (a0_5 : List (List Int)) (a0_6 : List T27) (k : Nat) (rec1 : ((List T27) × Int) → Option ((List T27))) (x1 : List T27) (x2 : Int) : Option ((List T27)) :=
  br (decide (x2 < r6))
    ((spec_Part_v2 k a0_0 a0_1 a0_2 a0_3 a0_4 a0_5 a0_6 x2) >>= fun r13 =>
    (apd 120 x1 ([(T27.mk r13.1 r13.2.1 r13.2.2.1 r13.2.2.2.1 r13.2.2.2.2.1 r13.2.2.2.2.2.1 r13.2.2.2.2.2.2)])) >>= fun r15 =>
    rec1 (r15, (iadd .i64 x2 1)))
    (some x1)
def spec_Parts_v2_l1 (r6 : Int) (a0_0 : Int) (a0_1 : Int) (a0_2 : Int) (a0_3 : List Nat) (a0_4 : List Int) (a0_5 : List (List Int)) (a0_6 : List T27) : Nat → ((List T27) × Int) → Option ((List T27))
  | 0, _ => none
  | k + 1, v => spec_Parts_v2_l1s r6 a0_0 a0_1 a0_2 a0_3 a0_4 a0_5 a0_6 k (spec_Parts_v2_l1 r6 a0_0 a0_1 a0_2 a0_3 a0_4 a0_5 a0_6 k) v.1 v.2
def spec_Parts_v2 (k : Nat) (a0_0 : Int) (a0_1 : Int) (a0_2 : Int) (a0_3 : List Nat) (a0_4 : List Int) (a0_5 : List (List Int)) (a0_6 : List T27) : Option ((List T27)) :=
  (spec_NumParts_v2 k a0_0 a0_1 a0_2 a0_3 a0_4 a0_5 a0_6) >>= fun r6 =>
  (spec_Parts_v2_l1 r6 a0_0 a0_1 a0_2 a0_3 a0_4 a0_5 a0_6 k ([], 0)) >>= fun v2 =>
  some v2

theorem spec_Parts_v2_sim {k : Nat}  (a0_0 : Int) (a0_1 : Int) (a0_2 : Int) (a0_3 : List Nat) (a0_4 : List Int) (a0_5 : List (List Int)) (a0_6 : List T27) {out : (List T27)} (hp : spec_Parts_v2 k a0_0 a0_1 a0_2 a0_3 a0_4 a0_5 a0_6 = some out) : Go.Sx.Fn Try.prog 56 [(Ag [(Vl (.int .i64 a0_0)), (Vl (.int .i64 a0_1)), (Vl (.int .i64 a0_2)), (Sl Kf a0_3), (Sl (Ki .i64) a0_4), (Sl (Kl (Ki .i64)) a0_5), (Sl KT27 a0_6)])] [] (fun w : Unit => (Sl KT27 out)) (fun w => []) := by
  unfold spec_Parts_v2 at hp
  refine fn_of Try.func56 rfl Try.ntmps56 rfl fun E hM => ?_
  refine cx_seq' fun K1 hK1 => ?_
  refine cx_region' ?_
  refine sx_ox' (ox_box' rfl (lv_ag _) rfl rfl) (wt_none' rfl) fun q1 => ?_
  refine sx_rd' (rd_assign' rfl) rfl rfl (wt_none' rfl) ?_
  refine sx_nil' ?_
  show TX E K1 _
  refine tx_k' hK1 ?_
  refine cx_seq' fun K2 hK2 => ?_
  refine cx_region' ?_
  refine sx_rd' (rd_assign' rfl) rfl rfl (wt_none' rfl) ?_
  refine sx_nil' ?_
  show TX E K2 _
  refine tx_k' hK2 ?_
  refine cx_seq' fun K3 hK3 => ?_
  refine cx_seq' fun K4 hK4 => ?_
  refine cx_region' ?_
  refine sx_rd' (rd_load_agg' (i := 0) (o := 0) (nn := 7) rfl ⟨rfl, rfl, rfl, rfl⟩ rfl agg27 (l' := [(Vl (.int .i64 a0_0)), (Vl (.int .i64 a0_1)), (Vl (.int .i64 a0_2)), (Sl Kf a0_3), (Sl (Ki .i64) a0_4), (Sl (Kl (Ki .i64)) a0_5), (Sl KT27 a0_6)]) rfl) rfl rfl (wt_none' rfl) ?_
  obtain ⟨r6, hr6, hp⟩ := bind_some hp
  refine sx_ox' (ox_calln' (ent_fn' Try.func110 isn110 rfl rfl) (spec_NumParts_v2_sim _ _ _ _ _ _ _ hr6 : Go.Sx.Fn Try.prog 110 [(Ag [(Vl (.int .i64 a0_0)), (Vl (.int .i64 a0_1)), (Vl (.int .i64 a0_2)), (Sl Kf a0_3), (Sl (Ki .i64) a0_4), (Sl (Kl (Ki .i64)) a0_5), (Sl KT27 a0_6)])] [] (fun x : Unit => (Vl (.int .i64 r6))) (fun x => [])) (Hn := fun x : Unit => [⟨.pointer (some q1), [(Vl (.int .i64 a0_0)), (Vl (.int .i64 a0_1)), (Vl (.int .i64 a0_2)), (Sl Kf a0_3), (Sl (Ki .i64) a0_4), (Sl (Kl (Ki .i64)) a0_5), (Sl KT27 a0_6)], 27, none⟩]) (fun _ => rfl) rfl rfl) (wt_none' rfl) fun ⟨⟩ => ?_
  refine sx_rd' (rd_move' rfl) rfl rfl (wt_none' rfl) ?_
  refine sx_nil' ?_
  show TX E K4 _
  refine tx_k' hK4 ?_
  refine cx_block' ?_
  obtain ⟨v2, hy1, hp⟩ := bind_some hp
  refine tx_nilrow' KT27 27 ?_
  refine cx_loopg' (F := spec_Parts_v2_l1 r6 a0_0 a0_1 a0_2 a0_3 a0_4 a0_5 a0_6) (G := fun k R v => spec_Parts_v2_l1s r6 a0_0 a0_1 a0_2 a0_3 a0_4 a0_5 a0_6 k R v.1 v.2) (x := ([], 0)) (gh := (none, 0, 0)) (fun (v1 : (List T27) × Int) (w1 : Gs) => (⟨18, [], [(1, (Vl (.pointer (some q1)))), (3, (Vl (Vs w1))), (6, (Vl (.int .i64 r6))), (7, (Vl (.int .i64 v1.2)))], [⟨.pointer (some q1), [(Vl (.int .i64 a0_0)), (Vl (.int .i64 a0_1)), (Vl (.int .i64 a0_2)), (Sl Kf a0_3), (Sl (Ki .i64) a0_4), (Sl (Kl (Ki .i64)) a0_5), (Sl KT27 a0_6)], 27, none⟩, (Rw KT27 27 (Vs w1) v1.1)]⟩ : St)) (fun (v2 : (List T27)) => Zg E (Exit.exit 0) (fun (w2 : Gs) => (⟨18, [], [(3, (Vl (Vs w2)))], [(Rw KT27 27 (Vs w2) v2)]⟩ : St))) (fun _ => rfl) (fun _ _ => rfl) ?_ hy1 (tx_to' rfl [1, 0] (sub_cons rfl (sub_cons rfl (sub_cons rfl (sub_cons rfl sub_nil)))) (by decide) (pick_cons rfl (pick_cons rfl pick_nil))) ?_
  · clear hp hy1
    clear v2
    intro k rec1 KY1 ih1
    rintro ⟨x1, x2⟩ g901 y1 hp
    replace hp : spec_Parts_v2_l1s r6 a0_0 a0_1 a0_2 a0_3 a0_4 a0_5 a0_6 k rec1 x1 x2 = some y1 := hp
    unfold spec_Parts_v2_l1s at hp
    refine cx_seq' fun K9 hK9 => ?_
    refine cx_region' ?_
    refine sx_rd' (rd_bin' rfl rfl eg_int ru_lss) rfl rfl (wt_none' rfl) ?_
    refine sx_nil' ?_
    show TX E K9 _
    refine tx_k' hK9 ?_
    refine cx_seq' fun K10 hK10 => ?_
    refine cx_cond' rfl (fun h3 => ?_) (fun h3 => ?_)
    · replace hp := (br_t h3).symm.trans hp
      refine cx_skip' ?_
      show TX E K10 _
      refine tx_k' hK10 ?_
      refine cx_seq' fun K11 hK11 => ?_
      refine cx_block' ?_
      refine cx_seq' fun K12 hK12 => ?_
      refine cx_region' ?_
      refine sx_rd' (rd_move' rfl) rfl rfl (wt_none' rfl) ?_
      refine sx_rd' (rd_assign' rfl) rfl rfl (wt_none' rfl) ?_
      refine sx_nil' ?_
      show TX E K12 _
      refine tx_k' hK12 ?_
      refine cx_region' ?_
      refine sx_rd' (rd_move' rfl) rfl rfl (wt_none' rfl) ?_
      refine sx_rd' (rd_load_agg' (i := 0) (o := 0) (nn := 7) rfl ⟨rfl, rfl, rfl, rfl⟩ rfl agg27 (l' := [(Vl (.int .i64 a0_0)), (Vl (.int .i64 a0_1)), (Vl (.int .i64 a0_2)), (Sl Kf a0_3), (Sl (Ki .i64) a0_4), (Sl (Kl (Ki .i64)) a0_5), (Sl KT27 a0_6)]) rfl) rfl rfl (wt_none' rfl) ?_
      refine sx_rd' (rd_move' rfl) rfl rfl (wt_none' rfl) ?_
      obtain ⟨r13, hr13, hp⟩ := bind_some hp
      refine sx_ox' (ox_calln' (ent_fn' Try.func111 isn111 rfl rfl) (spec_Part_v2_sim _ _ _ _ _ _ _ _ hr13 : Go.Sx.Fn Try.prog 111 [(Ag [(Vl (.int .i64 a0_0)), (Vl (.int .i64 a0_1)), (Vl (.int .i64 a0_2)), (Sl Kf a0_3), (Sl (Ki .i64) a0_4), (Sl (Kl (Ki .i64)) a0_5), (Sl KT27 a0_6)]), (Vl (.int .i64 x2))] [] (fun x : Unit => (Ag [(Vl (.int .i64 r13.1)), (Vl (.int .i64 r13.2.1)), (Vl (.int .i64 r13.2.2.1)), (Sl Kf r13.2.2.2.1), (Sl (Ki .i64) r13.2.2.2.2.1), (Sl (Kl (Ki .i64)) r13.2.2.2.2.2.1), (Sl KT27 r13.2.2.2.2.2.2)])) (fun x => [])) (Hn := fun x : Unit => [⟨.pointer (some q1), [(Vl (.int .i64 a0_0)), (Vl (.int .i64 a0_1)), (Vl (.int .i64 a0_2)), (Sl Kf a0_3), (Sl (Ki .i64) a0_4), (Sl (Kl (Ki .i64)) a0_5), (Sl KT27 a0_6)], 27, none⟩, (Rw KT27 27 (Vs g901) x1)]) (fun _ => rfl) rfl rfl) (wt_none' rfl) fun ⟨⟩ => ?_
      refine sx_ox' (ox_rowlit' (K := KT27) (xs := [(T27.mk r13.1 r13.2.1 r13.2.2.1 r13.2.2.2.1 r13.2.2.2.2.1 r13.2.2.2.2.2.1 r13.2.2.2.2.2.2)]) (qs := [(0, [(Vl (.int .i64 r13.1)), (Vl (.int .i64 r13.2.1)), (Vl (.int .i64 r13.2.2.1)), (Sl Kf r13.2.2.2.1), (Sl (Ki .i64) r13.2.2.2.2.1), (Sl (Kl (Ki .i64)) r13.2.2.2.2.2.1), (Sl KT27 r13.2.2.2.2.2.2)])]) ⟨rfl, ⟨_, rfl, (lv_ag _)⟩, trivial⟩ Try.underlying25 info27 rfl rfl rfl rfl rfl (by simp only [List.flatMap_cons, List.flatMap_nil, KT27_enc, List.append_nil]; kernel_rfl) rfl rfl rfl) (wt_none' rfl) fun g14 => ?_
      obtain ⟨r15, hr15, hp⟩ := bind_some hp
      refine sx_ox' (ox_append' (K := KT27) (i := 2) (xs := x1) (ys := ([(T27.mk r13.1 r13.2.1 r13.2.2.1 r13.2.2.2.1 r13.2.2.2.2.1 r13.2.2.2.2.2.1 r13.2.2.2.2.2.2)])) rfl rfl rfl (sr_row' (j := 0) rfl rfl rfl Try.underlying25) hr15 Try.underlying25 info27 rfl rfl rfl (H' := [(Rw KT27 27 (Vs g14) ([(T27.mk r13.1 r13.2.1 r13.2.2.1 r13.2.2.2.1 r13.2.2.2.2.1 r13.2.2.2.2.2.1 r13.2.2.2.2.2.2)])), ⟨.pointer (some q1), [(Vl (.int .i64 a0_0)), (Vl (.int .i64 a0_1)), (Vl (.int .i64 a0_2)), (Sl Kf a0_3), (Sl (Ki .i64) a0_4), (Sl (Kl (Ki .i64)) a0_5), (Sl KT27 a0_6)], 27, none⟩]) rfl) (wt_none' rfl) fun g15 => ?_
      refine sx_rd' (rd_assign' rfl) rfl rfl (wt_none' rfl) ?_
      refine sx_nil' ?_
      show TX E K11 _
      refine tx_k' hK11 ?_
      refine cx_region' ?_
      refine sx_rd' (rd_bin' rfl rfl eg_int ru_add) rfl rfl (wt_none' rfl) ?_
      refine sx_rd' (rd_move' rfl) rfl rfl (wt_none' rfl) ?_
      refine sx_nil' ?_
      show TX E (KY1 _) _
      exact tx_pick' [2, 0] (sub_cons rfl (sub_cons rfl (sub_cons rfl (sub_cons rfl sub_nil)))) (by decide) (pick_cons rfl (pick_cons rfl pick_nil)) (ih1 (r15, (iadd .i64 x2 1)) g15 _ hp)
    · replace hp := (br_f h3).symm.trans hp
      refine cx_exit' ?_
      replace hp := Option.some.inj hp
      subst hp
      show TX E (Zg E (Exit.exit 0) _ (Exit.exit 0)) _
      exact tx_zend' g901 rfl [1] (sub_cons rfl sub_nil) (by decide) (pick_cons rfl pick_nil)
  · refine zg_out fun w2 => ?_
    show TX E K3 _
    refine tx_k' hK3 ?_
    refine cx_seq' fun K13 hK13 => ?_
    refine cx_region' ?_
    refine sx_rd' (rd_move' rfl) rfl rfl (wt_none' rfl) ?_
    refine sx_rd' (rd_assign' rfl) rfl rfl (wt_none' rfl) ?_
    refine sx_nil' ?_
    show TX E K13 _
    refine tx_k' hK13 ?_
    refine cx_retc' ?_
    replace hp := Option.some.inj hp
    subst hp
    refine tx_fz' (frz_row 0 [(3, (Vl (Vs w2)), (Sl KT27 v2)), (17, (Vl (Vs w2)), (Sl KT27 v2)), (2, (Vl (Vs w2)), (Sl KT27 v2))] (K := KT27) (xs := v2) (by decide) rfl ⟨⟨rfl, frz_it⟩, ⟨rfl, frz_it⟩, ⟨rfl, frz_it⟩, trivial⟩ (H' := []) frzH_refl) ?_
    refine tx_pick' (L' := [(2, (Sl KT27 v2))]) (H' := []) [] (sub_cons rfl sub_nil) (by decide) pick_nil ?_
    exact tx_ret1' Try.results56 rfl () (rv_tmp' rfl) (List.Sublist.refl _)

def laws_gTwice_v2_j2 (k : Nat) (x5 : Int) : Option (Int) :=
  some x5
def laws_gTwice_v2_l1s (a0_3 : List Nat) (r14 : Int) (k : Nat) (rec1 : (Int × Int) → Option (Int)) (x1 : Int) (x2 : Int) : Option (Int) :=
  br (decide (x2 < (a0_3.length : Int)))
    ((idx a0_3 (iadd .i64 x2 1)) >>= fun r29 =>
    (f2i .i64 r29) >>= fun r31 =>
    (idx a0_3 (iadd .i64 (isub .i64 x2 r14) 1)) >>= fun r38 =>
    (f2i .i64 r38) >>= fun r40 =>
    (idx a0_3 x2) >>= fun r45 =>
    (f2i .i64 r45) >>= fun r47 =>
    (idx a0_3 (isub .i64 x2 r14)) >>= fun r53 =>
    (f2i .i64 r53) >>= fun r55 =>
    rec1 ((iadd .i64 x1 (imul .i64 (isub .i64 r31 r40) (iadd .i64 r47 r55))), (iadd .i64 x2 r14)))
    (some x1)
def laws_gTwice_v2_l1 (a0_3 : List Nat) (r14 : Int) : Nat → (Int × Int) → Option (Int)
  | 0, _ => none
  | k + 1, v => laws_gTwice_v2_l1s a0_3 r14 k (laws_gTwice_v2_l1 a0_3 r14 k) v.1 v.2
def laws_gTwice_v2_l2s (r63 : (List T27)) (recf : Int → Int → Int → (List Nat) → (List Int) → (List (List Int)) → (List T27) → Option (Int)) (k : Nat) (rec2 : (Int × Int) → Option (Int)) (x7 : Int) (x8 : Int) : Option (Int) :=
  br (decide (x8 < (r63.length : Int)))
    ((idx r63 x8) >>= fun r67 =>
    (recf r67.f0 r67.f1 r67.f2 r67.f3 r67.f4 r67.f5 r67.f6) >>= fun r71 =>
    rec2 ((iadd .i64 x7 r71), (iadd .i64 x8 1)))
    (some x7)
def laws_gTwice_v2_l2 (r63 : (List T27)) (recf : Int → Int → Int → (List Nat) → (List Int) → (List (List Int)) → (List T27) → Option (Int)) : Nat → (Int × Int) → Option (Int)
  | 0, _ => none
  | k + 1, v => laws_gTwice_v2_l2s r63 recf k (laws_gTwice_v2_l2 r63 recf k) v.1 v.2
def laws_gTwice_v2_j1 (k : Nat) (a0_0 : Int) (a0_1 : Int) (a0_2 : Int) (a0_3 : List Nat) (a0_4 : List Int) (a0_5 : List (List Int)) (a0_6 : List T27) (recf : Int → Int → Int → (List Nat) → (List Int) → (List (List Int)) → (List T27) → Option (Int)) (x4 : Bool) : Option (Int) :=
  br x4
    ((spec_Parts_v2 k a0_0 a0_1 a0_2 a0_3 a0_4 a0_5 a0_6) >>= fun r63 =>
    (laws_gTwice_v2_l2 r63 recf k (0, 0)) >>= fun v7 =>
    laws_gTwice_v2_j2 k v7)
    (laws_gTwice_v2_j2 k 0)
def laws_gTwice_v2_b (recf : Int → Int → Int → (List Nat) → (List Int) → (List (List Int)) → (List T27) → Option (Int)) (k : Nat) (a0_0 : Int) (a0_1 : Int) (a0_2 : Int) (a0_3 : List Nat) (a0_4 : List Int) (a0_5 : List (List Int)) (a0_6 : List T27) : Option (Int) :=
  br (decide (a0_0 = 8))
    ((spec_Stride k a0_1) >>= fun r14 =>
    (laws_gTwice_v2_l1 a0_3 r14 k (0, r14)) >>= fun v2 =>
    laws_gTwice_v2_j2 k v2)
    (br (decide (a0_0 = 3))
      (laws_gTwice_v2_j1 k a0_0 a0_1 a0_2 a0_3 a0_4 a0_5 a0_6 recf (decide (a0_0 = 3)))
      (laws_gTwice_v2_j1 k a0_0 a0_1 a0_2 a0_3 a0_4 a0_5 a0_6 recf (decide (a0_0 = 6))))
def laws_gTwice_v2 : Nat → Int → Int → Int → (List Nat) → (List Int) → (List (List Int)) → (List T27) → Option (Int)
  | 0 => fun _ _ _ _ _ _ _ => none
  | k + 1 => fun a0_0 a0_1 a0_2 a0_3 a0_4 a0_5 a0_6 => laws_gTwice_v2_b (laws_gTwice_v2 k) k a0_0 a0_1 a0_2 a0_3 a0_4 a0_5 a0_6

theorem laws_gTwice_v2_b_sim {recf : Int → Int → Int → (List Nat) → (List Int) → (List (List Int)) → (List T27) → Option (Int)} (hrec : ∀  (a0_0 : Int) (a0_1 : Int) (a0_2 : Int) (a0_3 : List Nat) (a0_4 : List Int) (a0_5 : List (List Int)) (a0_6 : List T27) (out : Int), recf a0_0 a0_1 a0_2 a0_3 a0_4 a0_5 a0_6 = some out → Go.Sx.Fn Try.prog 15 [(Ag [(Vl (.int .i64 a0_0)), (Vl (.int .i64 a0_1)), (Vl (.int .i64 a0_2)), (Sl Kf a0_3), (Sl (Ki .i64) a0_4), (Sl (Kl (Ki .i64)) a0_5), (Sl KT27 a0_6)])] [] (fun w : Unit => (Vl (.int .i64 out))) (fun w => [])) {k : Nat}  (a0_0 : Int) (a0_1 : Int) (a0_2 : Int) (a0_3 : List Nat) (a0_4 : List Int) (a0_5 : List (List Int)) (a0_6 : List T27) {out : Int} (hp : laws_gTwice_v2_b recf k a0_0 a0_1 a0_2 a0_3 a0_4 a0_5 a0_6 = some out) : Go.Sx.Fn Try.prog 15 [(Ag [(Vl (.int .i64 a0_0)), (Vl (.int .i64 a0_1)), (Vl (.int .i64 a0_2)), (Sl Kf a0_3), (Sl (Ki .i64) a0_4), (Sl (Kl (Ki .i64)) a0_5), (Sl KT27 a0_6)])] [] (fun w : Unit => (Vl (.int .i64 out))) (fun w => []) := by
  unfold laws_gTwice_v2_b at hp
  refine fn_of Try.func15 rfl Try.ntmps15 rfl fun E hM => ?_
  refine cx_seq' fun K1 hK1 => ?_
  refine cx_region' ?_
  refine sx_ox' (ox_box' rfl (lv_ag _) rfl rfl) (wt_none' rfl) fun q1 => ?_
  refine sx_rd' (rd_assign' rfl) rfl rfl (wt_none' rfl) ?_
  refine sx_nil' ?_
  show TX E K1 _
  refine tx_k' hK1 ?_
  refine cx_seq' fun K2 hK2 => ?_
  refine cx_region' ?_
  refine sx_rd' (rd_assign' rfl) rfl rfl (wt_none' rfl) ?_
  refine sx_nil' ?_
  show TX E K2 _
  refine tx_k' hK2 ?_
  refine cx_join' (fun (v4 : Int) => (⟨75, [], [(3, (Vl (.int .i64 v4)))], []⟩ : St)) (fun (v4 : Int) => laws_gTwice_v2_j2 k v4 = some out) ?_ ?_
  · rintro x5 hp
    replace hp : laws_gTwice_v2_j2 k x5 = some out := hp
    unfold laws_gTwice_v2_j2 at hp
    refine cx_seq' fun K21 hK21 => ?_
    refine cx_region' ?_
    refine sx_rd' (rd_move' rfl) rfl rfl (wt_none' rfl) ?_
    refine sx_rd' (rd_assign' rfl) rfl rfl (wt_none' rfl) ?_
    refine sx_nil' ?_
    show TX E K21 _
    refine tx_k' hK21 ?_
    refine cx_retc' ?_
    replace hp := Option.some.inj hp
    subst hp
    refine tx_pick' (L' := [(2, (Vl (.int .i64 x5)))]) (H' := []) [] (sub_cons rfl sub_nil) (by decide) pick_nil ?_
    exact tx_ret1' Try.results15 rfl () (rv_tmp' rfl) (List.Sublist.refl _)
  · intro K3 hK3
    refine cx_seq' fun K4 hK4 => ?_
    refine cx_region' ?_
    refine sx_rd' (rd_field0' rfl Try.underlying27 rfl info3 rfl) rfl rfl (wt_none' rfl) ?_
    refine sx_rd' (rd_load' (i := 0) (o := 0) rfl ⟨rfl, rfl, rfl, rfl⟩ rfl flat3) rfl rfl (wt_none' rfl) ?_
    refine sx_nil' ?_
    show TX E K4 _
    refine tx_k' hK4 ?_
    refine cx_block' ?_
    refine cx_seq' fun K5 hK5 => ?_
    refine cx_region' ?_
    refine sx_rd' (rd_bin' rfl rfl eg_int ru_eql) rfl rfl (wt_none' rfl) ?_
    refine sx_rd' (rd_assign' rfl) rfl rfl (wt_none' rfl) ?_
    refine sx_nil' ?_
    show TX E K5 _
    refine tx_k' hK5 ?_
    refine cx_cond' rfl (fun h1 => ?_) (fun h1 => ?_)
    · replace hp := (br_t h1).symm.trans hp
      refine cx_seq' fun K6 hK6 => ?_
      refine cx_region' ?_
      refine sx_rd' (rd_field' (off := 1) rfl Try.underlying27 rfl info3 rfl) rfl rfl (wt_none' rfl) ?_
      refine sx_rd' (rd_load' (i := 0) (o := 1) rfl ⟨rfl, rfl, rfl, rfl⟩ rfl flat3) rfl rfl (wt_none' rfl) ?_
      obtain ⟨r14, hr14, hp⟩ := bind_some hp
      refine sx_ox' (ox_calln' (ent_fn' Try.func17 isn17 rfl rfl) (spec_Stride_sim _ hr14 : Go.Sx.Fn Try.prog 17 [(Vl (.int .i64 a0_1))] [] (fun x : Unit => (Vl (.int .i64 r14))) (fun x => [])) (Hn := fun x : Unit => [⟨.pointer (some q1), [(Vl (.int .i64 a0_0)), (Vl (.int .i64 a0_1)), (Vl (.int .i64 a0_2)), (Sl Kf a0_3), (Sl (Ki .i64) a0_4), (Sl (Kl (Ki .i64)) a0_5), (Sl KT27 a0_6)], 27, none⟩]) (fun _ => rfl) rfl rfl) (wt_none' rfl) fun ⟨⟩ => ?_
      refine sx_rd' (rd_assign' rfl) rfl rfl (wt_none' rfl) ?_
      refine sx_nil' ?_
      show TX E K6 _
      refine tx_k' hK6 ?_
      refine cx_seq' fun K7 hK7 => ?_
      refine cx_region' ?_
      refine sx_rd' (rd_move' rfl) rfl rfl (wt_none' rfl) ?_
      refine sx_rd' (rd_assign' rfl) rfl rfl (wt_none' rfl) ?_
      refine sx_nil' ?_
      show TX E K7 _
      refine tx_k' hK7 ?_
      refine cx_block' ?_
      obtain ⟨v2, hy1, hp⟩ := bind_some hp
      refine cx_loopg' (F := laws_gTwice_v2_l1 a0_3 r14) (G := fun k R v => laws_gTwice_v2_l1s a0_3 r14 k R v.1 v.2) (x := (0, r14)) (gh := ()) (fun (v1 : Int × Int) (w1 : Unit) => (⟨75, [], [(1, (Vl (.pointer (some q1)))), (3, (Vl (.int .i64 v1.1))), (4, (Vl (.int .i64 r14))), (5, (Vl (.int .i64 v1.2)))], [⟨.pointer (some q1), [(Vl (.int .i64 a0_0)), (Vl (.int .i64 a0_1)), (Vl (.int .i64 a0_2)), (Sl Kf a0_3), (Sl (Ki .i64) a0_4), (Sl (Kl (Ki .i64)) a0_5), (Sl KT27 a0_6)], 27, none⟩]⟩ : St)) (fun (v2 : Int) => Zg E (Exit.exit 1) (fun (w2 : Unit) => (⟨75, [], [(3, (Vl (.int .i64 v2)))], []⟩ : St))) (fun _ => rfl) (fun _ _ => rfl) ?_ hy1 (tx_to' rfl [0] (sub_cons rfl (sub_cons rfl (sub_cons rfl (sub_cons rfl sub_nil)))) (by decide) (pick_cons rfl pick_nil)) ?_
      · clear hp hy1
        clear v2
        intro k rec1 KY1 ih1
        rintro ⟨x1, x2⟩ ⟨⟩ y1 hp
        replace hp : laws_gTwice_v2_l1s a0_3 r14 k rec1 x1 x2 = some y1 := hp
        unfold laws_gTwice_v2_l1s at hp
        refine cx_seq' fun K11 hK11 => ?_
        refine cx_seq' fun K12 hK12 => ?_
        refine cx_region' ?_
        refine sx_rd' (rd_move' rfl) rfl rfl (wt_none' rfl) ?_
        refine sx_rd' (rd_field' (off := 3) rfl Try.underlying27 rfl info22 rfl) rfl rfl (wt_none' rfl) ?_
        refine sx_rd' (rd_load' (i := 0) (o := 3) rfl ⟨rfl, rfl, rfl, rfl⟩ rfl flat22) rfl rfl (wt_none' rfl) ?_
        refine sx_rd' (rd_len' rfl Try.underlying22) rfl rfl (wt_none' rfl) ?_
        refine sx_rd' (rd_bin' rfl rfl eg_int ru_lss) rfl rfl (wt_none' rfl) ?_
        refine sx_nil' ?_
        show TX E K12 _
        refine tx_k' hK12 ?_
        refine cx_cond' rfl (fun h4 => ?_) (fun h4 => ?_)
        · replace hp := (br_t h4).symm.trans hp
          refine cx_skip' ?_
          show TX E K11 _
          refine tx_k' hK11 ?_
          refine cx_seq' fun K13 hK13 => ?_
          refine cx_block' ?_
          refine cx_draw' mixed (by kernel_rfl) ?_
          refine qx_rd' (rd_move' rfl) rfl rfl (wt_none' rfl) ?_
          refine qx_rd' (rd_field' (off := 3) rfl Try.underlying27 rfl info22 rfl) rfl rfl (wt_none' rfl) ?_
          refine qx_rd' (rd_load' (i := 0) (o := 3) rfl ⟨rfl, rfl, rfl, rfl⟩ rfl flat22) rfl rfl (wt_none' rfl) ?_
          refine qx_rd' (rd_move' rfl) rfl rfl (wt_none' rfl) ?_
          refine qx_rd' (rd_bin' rfl rfl eg_int ru_add) rfl rfl (wt_none' rfl) ?_
          obtain ⟨r29, hr29, hp⟩ := bind_some hp
          refine qx_rd' (rd_at' (K := Kf) rfl rfl hr29 Try.underlying22 info32) rfl rfl (wt_none' rfl) ?_
          refine qx_rd' (rd_load_pt' rfl rfl flat32) rfl rfl (wt_none' rfl) ?_
          obtain ⟨r31, hr31, hp⟩ := bind_some hp
          refine qx_rd' (rd_conv' rfl (ru_f2i hr31 (by rw [Try.underlying32]; rfl) Try.underlying3)) rfl rfl (wt_none' rfl) ?_
          refine qx_rd' (rd_field' (off := 3) rfl Try.underlying27 rfl info22 rfl) rfl rfl (wt_none' rfl) ?_
          refine qx_rd' (rd_load' (i := 0) (o := 3) rfl ⟨rfl, rfl, rfl, rfl⟩ rfl flat22) rfl rfl (wt_none' rfl) ?_
          refine qx_rd' (rd_move' rfl) rfl rfl (wt_none' rfl) ?_
          refine qx_rd' (rd_move' rfl) rfl rfl (wt_none' rfl) ?_
          refine qx_rd' (rd_bin' rfl rfl eg_int ru_sub) rfl rfl (wt_none' rfl) ?_
          refine qx_rd' (rd_bin' rfl rfl eg_int ru_add) rfl rfl (wt_none' rfl) ?_
          obtain ⟨r38, hr38, hp⟩ := bind_some hp
          refine qx_rd' (rd_at' (K := Kf) rfl rfl hr38 Try.underlying22 info32) rfl rfl (wt_none' rfl) ?_
          refine qx_rd' (rd_load_pt' rfl rfl flat32) rfl rfl (wt_none' rfl) ?_
          obtain ⟨r40, hr40, hp⟩ := bind_some hp
          refine qx_rd' (rd_conv' rfl (ru_f2i hr40 (by rw [Try.underlying32]; rfl) Try.underlying3)) rfl rfl (wt_none' rfl) ?_
          refine qx_rd' (rd_bin' rfl rfl eg_int ru_sub) rfl rfl (wt_none' rfl) ?_
          refine qx_rd' (rd_field' (off := 3) rfl Try.underlying27 rfl info22 rfl) rfl rfl (wt_none' rfl) ?_
          refine qx_rd' (rd_load' (i := 0) (o := 3) rfl ⟨rfl, rfl, rfl, rfl⟩ rfl flat22) rfl rfl (wt_none' rfl) ?_
          refine qx_rd' (rd_move' rfl) rfl rfl (wt_none' rfl) ?_
          obtain ⟨r45, hr45, hp⟩ := bind_some hp
          refine qx_rd' (rd_at' (K := Kf) rfl rfl hr45 Try.underlying22 info32) rfl rfl (wt_none' rfl) ?_
          refine qx_rd' (rd_load_pt' rfl rfl flat32) rfl rfl (wt_none' rfl) ?_
          obtain ⟨r47, hr47, hp⟩ := bind_some hp
          refine qx_rd' (rd_conv' rfl (ru_f2i hr47 (by rw [Try.underlying32]; rfl) Try.underlying3)) rfl rfl (wt_none' rfl) ?_
          refine qx_rd' (rd_field' (off := 3) rfl Try.underlying27 rfl info22 rfl) rfl rfl (wt_none' rfl) ?_
          refine qx_rd' (rd_load' (i := 0) (o := 3) rfl ⟨rfl, rfl, rfl, rfl⟩ rfl flat22) rfl rfl (wt_none' rfl) ?_
          refine qx_rd' (rd_move' rfl) rfl rfl (wt_none' rfl) ?_
          refine qx_rd' (rd_move' rfl) rfl rfl (wt_none' rfl) ?_
          refine qx_rd' (rd_bin' rfl rfl eg_int ru_sub) rfl rfl (wt_none' rfl) ?_
          obtain ⟨r53, hr53, hp⟩ := bind_some hp
          refine qx_rd' (rd_at' (K := Kf) rfl rfl hr53 Try.underlying22 info32) rfl rfl (wt_none' rfl) ?_
          refine qx_rd' (rd_load_pt' rfl rfl flat32) rfl rfl (wt_none' rfl) ?_
          obtain ⟨r55, hr55, hp⟩ := bind_some hp
          refine qx_rd' (rd_conv' rfl (ru_f2i hr55 (by rw [Try.underlying32]; rfl) Try.underlying3)) rfl rfl (wt_none' rfl) ?_
          refine qx_rd' (rd_bin' rfl rfl eg_int ru_add) rfl rfl (wt_none' rfl) ?_
          refine qx_rd' (rd_bin' rfl rfl eg_int ru_mul) rfl rfl (wt_none' rfl) ?_
          refine qx_rd' (rd_bin' rfl rfl eg_int ru_add) rfl rfl (wt_none' rfl) ?_
          refine qx_rd' (rd_assign' rfl) rfl rfl (wt_none' rfl) ?_
          refine qx_nil' ?_
          show TX E K13 _
          refine tx_k' hK13 ?_
          refine cx_region' ?_
          refine sx_rd' (rd_move' rfl) rfl rfl (wt_none' rfl) ?_
          refine sx_rd' (rd_move' rfl) rfl rfl (wt_none' rfl) ?_
          refine sx_rd' (rd_bin' rfl rfl eg_int ru_add) rfl rfl (wt_none' rfl) ?_
          refine sx_rd' (rd_assign' rfl) rfl rfl (wt_none' rfl) ?_
          refine sx_nil' ?_
          show TX E (KY1 _) _
          exact tx_pick' [0] (sub_cons rfl (sub_cons rfl (sub_cons rfl (sub_cons rfl sub_nil)))) (by decide) (pick_cons rfl pick_nil) (ih1 ((iadd .i64 x1 (imul .i64 (isub .i64 r31 r40) (iadd .i64 r47 r55))), (iadd .i64 x2 r14)) () _ hp)
        · replace hp := (br_f h4).symm.trans hp
          refine cx_exit' ?_
          replace hp := Option.some.inj hp
          subst hp
          show TX E (Zg E (Exit.exit 1) _ (Exit.exit 1)) _
          exact tx_zend' () rfl [] (sub_cons rfl sub_nil) (by decide) pick_nil
      · refine zg_out fun w2 => ?_
        show TX E K3 _
        exact tx_pick' [] (sub_cons rfl sub_nil) (by decide) pick_nil (hK3 v2 hp)
    · replace hp := (br_f h1).symm.trans hp
      refine cx_join' (fun (v3 : Bool) => (⟨75, [], [(1, (Vl (.pointer (some q1)))), (3, (Vl (.int .i64 0))), (59, (Vl (.bool v3)))], [⟨.pointer (some q1), [(Vl (.int .i64 a0_0)), (Vl (.int .i64 a0_1)), (Vl (.int .i64 a0_2)), (Sl Kf a0_3), (Sl (Ki .i64) a0_4), (Sl (Kl (Ki .i64)) a0_5), (Sl KT27 a0_6)], 27, none⟩]⟩ : St)) (fun (v3 : Bool) => laws_gTwice_v2_j1 k a0_0 a0_1 a0_2 a0_3 a0_4 a0_5 a0_6 recf v3 = some out) ?_ ?_
      · rintro x4 hp
        replace hp : laws_gTwice_v2_j1 k a0_0 a0_1 a0_2 a0_3 a0_4 a0_5 a0_6 recf x4 = some out := hp
        unfold laws_gTwice_v2_j1 at hp
        refine cx_cond' rfl (fun h6 => ?_) (fun h6 => ?_)
        · replace hp := (br_t h6).symm.trans hp
          refine cx_seq' fun K16 hK16 => ?_
          refine cx_region' ?_
          refine sx_rd' (rd_load_agg' (i := 0) (o := 0) (nn := 7) rfl ⟨rfl, rfl, rfl, rfl⟩ rfl agg27 (l' := [(Vl (.int .i64 a0_0)), (Vl (.int .i64 a0_1)), (Vl (.int .i64 a0_2)), (Sl Kf a0_3), (Sl (Ki .i64) a0_4), (Sl (Kl (Ki .i64)) a0_5), (Sl KT27 a0_6)]) rfl) rfl rfl (wt_none' rfl) ?_
          obtain ⟨r63, hr63, hp⟩ := bind_some hp
          refine sx_ox' (ox_calln' (ent_fn' Try.func56 isn56 rfl rfl) (spec_Parts_v2_sim _ _ _ _ _ _ _ hr63 : Go.Sx.Fn Try.prog 56 [(Ag [(Vl (.int .i64 a0_0)), (Vl (.int .i64 a0_1)), (Vl (.int .i64 a0_2)), (Sl Kf a0_3), (Sl (Ki .i64) a0_4), (Sl (Kl (Ki .i64)) a0_5), (Sl KT27 a0_6)])] [] (fun x : Unit => (Sl KT27 r63)) (fun x => [])) (Hn := fun x : Unit => [⟨.pointer (some q1), [(Vl (.int .i64 a0_0)), (Vl (.int .i64 a0_1)), (Vl (.int .i64 a0_2)), (Sl Kf a0_3), (Sl (Ki .i64) a0_4), (Sl (Kl (Ki .i64)) a0_5), (Sl KT27 a0_6)], 27, none⟩]) (fun _ => rfl) rfl rfl) (wt_none' rfl) fun ⟨⟩ => ?_
          refine sx_rd' (rd_len' rfl Try.underlying25) rfl rfl (wt_none' rfl) ?_
          refine sx_rd' (rd_move' rfl) rfl rfl (wt_none' rfl) ?_
          refine sx_nil' ?_
          show TX E K16 _
          refine tx_k' hK16 ?_
          refine cx_block' ?_
          obtain ⟨v7, hy2, hp⟩ := bind_some hp
          refine cx_loopg' (F := laws_gTwice_v2_l2 r63 recf) (G := fun k R v => laws_gTwice_v2_l2s r63 recf k R v.1 v.2) (x := (0, 0)) (gh := ()) (fun (v6 : Int × Int) (w6 : Unit) => (⟨75, [], [(3, (Vl (.int .i64 v6.1))), (63, (Sl KT27 r63)), (64, (Vl (.int .i64 (r63.length : Int)))), (65, (Vl (.int .i64 v6.2)))], []⟩ : St)) (fun (v7 : Int) => Zg E (Exit.exit 3) (fun (w7 : Unit) => (⟨75, [], [(3, (Vl (.int .i64 v7)))], []⟩ : St))) (fun _ => rfl) (fun _ _ => rfl) ?_ hy2 (tx_to' rfl [] (sub_cons rfl (sub_cons rfl (sub_cons rfl (sub_cons rfl sub_nil)))) (by decide) pick_nil) ?_
          · clear hp hy2
            clear v7
            intro k rec2 KY2 ih2
            rintro ⟨x7, x8⟩ ⟨⟩ y2 hp
            replace hp : laws_gTwice_v2_l2s r63 recf k rec2 x7 x8 = some y2 := hp
            unfold laws_gTwice_v2_l2s at hp
            refine cx_seq' fun K22 hK22 => ?_
            refine cx_region' ?_
            refine sx_rd' (rd_bin' rfl rfl eg_int ru_lss) rfl rfl (wt_none' rfl) ?_
            refine sx_nil' ?_
            show TX E K22 _
            refine tx_k' hK22 ?_
            refine cx_seq' fun K23 hK23 => ?_
            refine cx_cond' rfl (fun h9 => ?_) (fun h9 => ?_)
            · replace hp := (br_t h9).symm.trans hp
              refine cx_skip' ?_
              show TX E K23 _
              refine tx_k' hK23 ?_
              refine cx_seq' fun K24 hK24 => ?_
              refine cx_block' ?_
              refine cx_seq' fun K25 hK25 => ?_
              refine cx_region' ?_
              obtain ⟨r67, hr67, hp⟩ := bind_some hp
              refine sx_rd' (rd_eq' (congrArg Pt (KT27_enc r67)) (rd_at' (K := KT27) rfl rfl hr67 Try.underlying25 info27)) rfl rfl (wt_none' rfl) ?_
              refine sx_rd' (rd_load_pt_agg' (nn := 7) rfl rfl agg27 (l' := [(Vl (.int .i64 r67.f0)), (Vl (.int .i64 r67.f1)), (Vl (.int .i64 r67.f2)), (Sl Kf r67.f3), (Sl (Ki .i64) r67.f4), (Sl (Kl (Ki .i64)) r67.f5), (Sl KT27 r67.f6)]) rfl) rfl rfl (wt_none' rfl) ?_
              refine sx_ox' (ox_alloc' info27 rfl rfl rfl rfl (l := [(Vl (.int .i64 0)), (Vl (.int .i64 0)), (Vl (.int .i64 0)), (Vl (.slice none 0 0)), (Vl (.slice none 0 0)), (Vl (.slice none 0 0)), (Vl (.slice none 0 0))]) rfl) (wt_none' rfl) fun q7 => ?_
              refine sx_ox' (ox_store' (i := 0) (o := 0) rfl rfl (lv_ag _) ⟨rfl, rfl, rfl, rfl⟩ rfl info27 rfl (H' := [⟨.pointer (some q7), [(Vl (.int .i64 r67.f0)), (Vl (.int .i64 r67.f1)), (Vl (.int .i64 r67.f2)), (Sl Kf r67.f3), (Sl (Ki .i64) r67.f4), (Sl (Kl (Ki .i64)) r67.f5), (Sl KT27 r67.f6)], 27, none⟩]) rfl) (wt_none' rfl) fun _ => ?_
              refine sx_nil' ?_
              show TX E K25 _
              refine tx_k' hK25 ?_
              refine cx_region' ?_
              refine sx_rd' (rd_move' rfl) rfl rfl (wt_none' rfl) ?_
              refine sx_rd' (rd_load_agg' (i := 0) (o := 0) (nn := 7) rfl ⟨rfl, rfl, rfl, rfl⟩ rfl agg27 (l' := [(Vl (.int .i64 r67.f0)), (Vl (.int .i64 r67.f1)), (Vl (.int .i64 r67.f2)), (Sl Kf r67.f3), (Sl (Ki .i64) r67.f4), (Sl (Kl (Ki .i64)) r67.f5), (Sl KT27 r67.f6)]) rfl) rfl rfl (wt_none' rfl) ?_
              obtain ⟨r71, hr71, hp⟩ := bind_some hp
              refine sx_ox' (ox_calln' (ent_fn' Try.func15 isn15 rfl rfl) (hrec _ _ _ _ _ _ _ _ hr71 : Go.Sx.Fn Try.prog 15 [(Ag [(Vl (.int .i64 r67.f0)), (Vl (.int .i64 r67.f1)), (Vl (.int .i64 r67.f2)), (Sl Kf r67.f3), (Sl (Ki .i64) r67.f4), (Sl (Kl (Ki .i64)) r67.f5), (Sl KT27 r67.f6)])] [] (fun x : Unit => (Vl (.int .i64 r71))) (fun x => [])) (Hn := fun x : Unit => [⟨.pointer (some q7), [(Vl (.int .i64 r67.f0)), (Vl (.int .i64 r67.f1)), (Vl (.int .i64 r67.f2)), (Sl Kf r67.f3), (Sl (Ki .i64) r67.f4), (Sl (Kl (Ki .i64)) r67.f5), (Sl KT27 r67.f6)], 27, none⟩]) (fun _ => rfl) rfl rfl) (wt_none' rfl) fun ⟨⟩ => ?_
              refine sx_rd' (rd_bin' rfl rfl eg_int ru_add) rfl rfl (wt_none' rfl) ?_
              refine sx_rd' (rd_assign' rfl) rfl rfl (wt_none' rfl) ?_
              refine sx_nil' ?_
              show TX E K24 _
              refine tx_k' hK24 ?_
              refine cx_region' ?_
              refine sx_rd' (rd_bin' rfl rfl eg_int ru_add) rfl rfl (wt_none' rfl) ?_
              refine sx_rd' (rd_move' rfl) rfl rfl (wt_none' rfl) ?_
              refine sx_nil' ?_
              show TX E (KY2 _) _
              exact tx_pick' [] (sub_cons rfl (sub_cons rfl (sub_cons rfl (sub_cons rfl sub_nil)))) (by decide) pick_nil (ih2 ((iadd .i64 x7 r71), (iadd .i64 x8 1)) () _ hp)
            · replace hp := (br_f h9).symm.trans hp
              refine cx_exit' ?_
              replace hp := Option.some.inj hp
              subst hp
              show TX E (Zg E (Exit.exit 3) _ (Exit.exit 3)) _
              exact tx_zend' () rfl [] (sub_cons rfl sub_nil) (by decide) pick_nil
          · refine zg_out fun w7 => ?_
            show TX E K3 _
            exact tx_pick' [] (sub_cons rfl sub_nil) (by decide) pick_nil (hK3 v7 hp)
        · replace hp := (br_f h6).symm.trans hp
          refine cx_skip' ?_
          show TX E K3 _
          exact tx_pick' [] (sub_cons rfl sub_nil) (by decide) pick_nil (hK3 0 hp)
      · intro K14 hK14
        refine cx_seq' fun K15 hK15 => ?_
        refine cx_region' ?_
        refine sx_rd' (rd_bin' rfl rfl eg_int ru_eql) rfl rfl (wt_none' rfl) ?_
        refine sx_rd' (rd_assign' rfl) rfl rfl (wt_none' rfl) ?_
        refine sx_nil' ?_
        show TX E K15 _
        refine tx_k' hK15 ?_
        refine cx_cond' rfl (fun h5 => ?_) (fun h5 => ?_)
        · replace hp := (br_t h5).symm.trans hp
          refine cx_skip' ?_
          show TX E K14 _
          exact tx_pick' [0] (sub_cons rfl (sub_cons rfl (sub_cons rfl sub_nil))) (by decide) (pick_cons rfl pick_nil) (hK14 (decide (a0_0 = 3)) hp)
        · replace hp := (br_f h5).symm.trans hp
          refine cx_region' ?_
          refine sx_rd' (rd_bin' rfl rfl eg_int ru_eql) rfl rfl (wt_none' rfl) ?_
          refine sx_rd' (rd_assign' rfl) rfl rfl (wt_none' rfl) ?_
          refine sx_nil' ?_
          show TX E K14 _
          exact tx_pick' [0] (sub_cons rfl (sub_cons rfl (sub_cons rfl sub_nil))) (by decide) (pick_cons rfl pick_nil) (hK14 (decide (a0_0 = 6)) hp)
theorem laws_gTwice_v2_simA : ∀ (k : Nat)  (a0_0 : Int) (a0_1 : Int) (a0_2 : Int) (a0_3 : List Nat) (a0_4 : List Int) (a0_5 : List (List Int)) (a0_6 : List T27) (out : Int), laws_gTwice_v2 k a0_0 a0_1 a0_2 a0_3 a0_4 a0_5 a0_6 = some out → Go.Sx.Fn Try.prog 15 [(Ag [(Vl (.int .i64 a0_0)), (Vl (.int .i64 a0_1)), (Vl (.int .i64 a0_2)), (Sl Kf a0_3), (Sl (Ki .i64) a0_4), (Sl (Kl (Ki .i64)) a0_5), (Sl KT27 a0_6)])] [] (fun w : Unit => (Vl (.int .i64 out))) (fun w => []) := by
  intro k
  induction k with
  | zero => intro a0_0 a0_1 a0_2 a0_3 a0_4 a0_5 a0_6 out hp; cases hp
  | succ k ih => intro a0_0 a0_1 a0_2 a0_3 a0_4 a0_5 a0_6 out hp; exact laws_gTwice_v2_b_sim ih a0_0 a0_1 a0_2 a0_3 a0_4 a0_5 a0_6 hp
theorem laws_gTwice_v2_sim {k : Nat}  (a0_0 : Int) (a0_1 : Int) (a0_2 : Int) (a0_3 : List Nat) (a0_4 : List Int) (a0_5 : List (List Int)) (a0_6 : List T27) {out : Int} (hp : laws_gTwice_v2 k a0_0 a0_1 a0_2 a0_3 a0_4 a0_5 a0_6 = some out) : Go.Sx.Fn Try.prog 15 [(Ag [(Vl (.int .i64 a0_0)), (Vl (.int .i64 a0_1)), (Vl (.int .i64 a0_2)), (Sl Kf a0_3), (Sl (Ki .i64) a0_4), (Sl (Kl (Ki .i64)) a0_5), (Sl KT27 a0_6)])] [] (fun w : Unit => (Vl (.int .i64 out))) (fun w => []) := laws_gTwice_v2_simA k a0_0 a0_1 a0_2 a0_3 a0_4 a0_5 a0_6 out hp

def laws_gTwice_j2 (k : Nat) (x8 : Int) : Option (Int) :=
  some x8
def laws_gTwice_l1s (a0_3 : List Nat) (r14 : Int) (k : Nat) (rec1 : (Int × Int) → Option (Int)) (x1 : Int) (x2 : Int) : Option (Int) :=
  br (decide (x2 < (a0_3.length : Int)))
    ((idx a0_3 (iadd .i64 x2 1)) >>= fun r29 =>
    (f2i .i64 r29) >>= fun r31 =>
    (idx a0_3 (iadd .i64 (isub .i64 x2 r14) 1)) >>= fun r38 =>
    (f2i .i64 r38) >>= fun r40 =>
    (idx a0_3 x2) >>= fun r45 =>
    (f2i .i64 r45) >>= fun r47 =>
    (idx a0_3 (isub .i64 x2 r14)) >>= fun r53 =>
    (f2i .i64 r53) >>= fun r55 =>
    rec1 ((iadd .i64 x1 (imul .i64 (isub .i64 r31 r40) (iadd .i64 r47 r55))), (iadd .i64 x2 r14)))
    (some x1)
def laws_gTwice_l1 (a0_3 : List Nat) (r14 : Int) : Nat → (Int × Int) → Option (Int)
  | 0, _ => none
  | k + 1, v => laws_gTwice_l1s a0_3 r14 k (laws_gTwice_l1 a0_3 r14 k) v.1 v.2
def laws_gTwice_l2s (r63 : (List T27)) (k : Nat) (rec2 : (Int × Int) → Option (Int)) (x5 : Int) (x6 : Int) : Option (Int) :=
  br (decide (x6 < (r63.length : Int)))
    ((idx r63 x6) >>= fun r67 =>
    (laws_gTwice_v2 k r67.f0 r67.f1 r67.f2 r67.f3 r67.f4 r67.f5 r67.f6) >>= fun r71 =>
    rec2 ((iadd .i64 x5 r71), (iadd .i64 x6 1)))
    (some x5)
def laws_gTwice_l2 (r63 : (List T27)) : Nat → (Int × Int) → Option (Int)
  | 0, _ => none
  | k + 1, v => laws_gTwice_l2s r63 k (laws_gTwice_l2 r63 k) v.1 v.2
def laws_gTwice_j1 (k : Nat) (a0_0 : Int) (a0_1 : Int) (a0_2 : Int) (a0_3 : List Nat) (a0_4 : List Int) (x4 : Bool) : Option (Int) :=
  br x4
    ((spec_Parts k a0_0 a0_1 a0_2 a0_3 a0_4) >>= fun r63 =>
    (laws_gTwice_l2 r63 k (0, 0)) >>= fun v5 =>
    laws_gTwice_j2 k v5)
    (laws_gTwice_j2 k 0)
def laws_gTwice (k : Nat) (a0_0 : Int) (a0_1 : Int) (a0_2 : Int) (a0_3 : List Nat) (a0_4 : List Int) : Option (Int) :=
  br (decide (a0_0 = 8))
    ((spec_Stride k a0_1) >>= fun r14 =>
    (laws_gTwice_l1 a0_3 r14 k (0, r14)) >>= fun v2 =>
    laws_gTwice_j2 k v2)
    (br (decide (a0_0 = 3))
      (laws_gTwice_j1 k a0_0 a0_1 a0_2 a0_3 a0_4 (decide (a0_0 = 3)))
      (laws_gTwice_j1 k a0_0 a0_1 a0_2 a0_3 a0_4 (decide (a0_0 = 6))))

theorem laws_gTwice_sim {k : Nat}  (a0_0 : Int) (a0_1 : Int) (a0_2 : Int) (a0_3 : List Nat) (a0_4 : List Int) {out : Int} (hp : laws_gTwice k a0_0 a0_1 a0_2 a0_3 a0_4 = some out) : Go.Sx.Fn Try.prog 15 [(Ag [(Vl (.int .i64 a0_0)), (Vl (.int .i64 a0_1)), (Vl (.int .i64 a0_2)), (Sl Kf a0_3), (Sl (Ki .i64) a0_4), (Vl (.slice none 0 0)), (Vl (.slice none 0 0))])] [] (fun w : Unit => (Vl (.int .i64 out))) (fun w => []) := by
  unfold laws_gTwice at hp
  refine fn_of Try.func15 rfl Try.ntmps15 rfl fun E hM => ?_
  refine cx_seq' fun K1 hK1 => ?_
  refine cx_region' ?_
  refine sx_ox' (ox_box' rfl (lv_ag _) rfl rfl) (wt_none' rfl) fun q1 => ?_
  refine sx_rd' (rd_assign' rfl) rfl rfl (wt_none' rfl) ?_
  refine sx_nil' ?_
  show TX E K1 _
  refine tx_k' hK1 ?_
  refine cx_seq' fun K2 hK2 => ?_
  refine cx_region' ?_
  refine sx_rd' (rd_assign' rfl) rfl rfl (wt_none' rfl) ?_
  refine sx_nil' ?_
  show TX E K2 _
  refine tx_k' hK2 ?_
  refine cx_join' (fun (v6 : Int) => (⟨75, [], [(3, (Vl (.int .i64 v6)))], []⟩ : St)) (fun (v6 : Int) => laws_gTwice_j2 k v6 = some out) ?_ ?_
  · rintro x8 hp
    replace hp : laws_gTwice_j2 k x8 = some out := hp
    unfold laws_gTwice_j2 at hp
    refine cx_seq' fun K25 hK25 => ?_
    refine cx_region' ?_
    refine sx_rd' (rd_move' rfl) rfl rfl (wt_none' rfl) ?_
    refine sx_rd' (rd_assign' rfl) rfl rfl (wt_none' rfl) ?_
    refine sx_nil' ?_
    show TX E K25 _
    refine tx_k' hK25 ?_
    refine cx_retc' ?_
    replace hp := Option.some.inj hp
    subst hp
    refine tx_pick' (L' := [(2, (Vl (.int .i64 x8)))]) (H' := []) [] (sub_cons rfl sub_nil) (by decide) pick_nil ?_
    exact tx_ret1' Try.results15 rfl () (rv_tmp' rfl) (List.Sublist.refl _)
  · intro K3 hK3
    refine cx_seq' fun K4 hK4 => ?_
    refine cx_region' ?_
    refine sx_rd' (rd_field0' rfl Try.underlying27 rfl info3 rfl) rfl rfl (wt_none' rfl) ?_
    refine sx_rd' (rd_load' (i := 0) (o := 0) rfl ⟨rfl, rfl, rfl, rfl⟩ rfl flat3) rfl rfl (wt_none' rfl) ?_
    refine sx_nil' ?_
    show TX E K4 _
    refine tx_k' hK4 ?_
    refine cx_block' ?_
    refine cx_seq' fun K5 hK5 => ?_
    refine cx_region' ?_
    refine sx_rd' (rd_bin' rfl rfl eg_int ru_eql) rfl rfl (wt_none' rfl) ?_
    refine sx_rd' (rd_assign' rfl) rfl rfl (wt_none' rfl) ?_
    refine sx_nil' ?_
    show TX E K5 _
    refine tx_k' hK5 ?_
    refine cx_cond' rfl (fun h1 => ?_) (fun h1 => ?_)
    · replace hp := (br_t h1).symm.trans hp
      refine cx_seq' fun K6 hK6 => ?_
      refine cx_region' ?_
      refine sx_rd' (rd_field' (off := 1) rfl Try.underlying27 rfl info3 rfl) rfl rfl (wt_none' rfl) ?_
      refine sx_rd' (rd_load' (i := 0) (o := 1) rfl ⟨rfl, rfl, rfl, rfl⟩ rfl flat3) rfl rfl (wt_none' rfl) ?_
      obtain ⟨r14, hr14, hp⟩ := bind_some hp
      refine sx_ox' (ox_calln' (ent_fn' Try.func17 isn17 rfl rfl) (spec_Stride_sim _ hr14 : Go.Sx.Fn Try.prog 17 [(Vl (.int .i64 a0_1))] [] (fun x : Unit => (Vl (.int .i64 r14))) (fun x => [])) (Hn := fun x : Unit => [⟨.pointer (some q1), [(Vl (.int .i64 a0_0)), (Vl (.int .i64 a0_1)), (Vl (.int .i64 a0_2)), (Sl Kf a0_3), (Sl (Ki .i64) a0_4), (Vl (.slice none 0 0)), (Vl (.slice none 0 0))], 27, none⟩]) (fun _ => rfl) rfl rfl) (wt_none' rfl) fun ⟨⟩ => ?_
      refine sx_rd' (rd_assign' rfl) rfl rfl (wt_none' rfl) ?_
      refine sx_nil' ?_
      show TX E K6 _
      refine tx_k' hK6 ?_
      refine cx_seq' fun K7 hK7 => ?_
      refine cx_region' ?_
      refine sx_rd' (rd_move' rfl) rfl rfl (wt_none' rfl) ?_
      refine sx_rd' (rd_assign' rfl) rfl rfl (wt_none' rfl) ?_
      refine sx_nil' ?_
      show TX E K7 _
      refine tx_k' hK7 ?_
      refine cx_block' ?_
      obtain ⟨v2, hy1, hp⟩ := bind_some hp
      refine cx_loopg' (F := laws_gTwice_l1 a0_3 r14) (G := fun k R v => laws_gTwice_l1s a0_3 r14 k R v.1 v.2) (x := (0, r14)) (gh := ()) (fun (v1 : Int × Int) (w1 : Unit) => (⟨75, [], [(1, (Vl (.pointer (some q1)))), (3, (Vl (.int .i64 v1.1))), (4, (Vl (.int .i64 r14))), (5, (Vl (.int .i64 v1.2)))], [⟨.pointer (some q1), [(Vl (.int .i64 a0_0)), (Vl (.int .i64 a0_1)), (Vl (.int .i64 a0_2)), (Sl Kf a0_3), (Sl (Ki .i64) a0_4), (Vl (.slice none 0 0)), (Vl (.slice none 0 0))], 27, none⟩]⟩ : St)) (fun (v2 : Int) => Zg E (Exit.exit 1) (fun (w2 : Unit) => (⟨75, [], [(3, (Vl (.int .i64 v2)))], []⟩ : St))) (fun _ => rfl) (fun _ _ => rfl) ?_ hy1 (tx_to' rfl [0] (sub_cons rfl (sub_cons rfl (sub_cons rfl (sub_cons rfl sub_nil)))) (by decide) (pick_cons rfl pick_nil)) ?_
      · clear hp hy1
        clear v2
        intro k rec1 KY1 ih1
        rintro ⟨x1, x2⟩ ⟨⟩ y1 hp
        replace hp : laws_gTwice_l1s a0_3 r14 k rec1 x1 x2 = some y1 := hp
        unfold laws_gTwice_l1s at hp
        refine cx_seq' fun K11 hK11 => ?_
        refine cx_seq' fun K12 hK12 => ?_
        refine cx_region' ?_
        refine sx_rd' (rd_move' rfl) rfl rfl (wt_none' rfl) ?_
        refine sx_rd' (rd_field' (off := 3) rfl Try.underlying27 rfl info22 rfl) rfl rfl (wt_none' rfl) ?_
        refine sx_rd' (rd_load' (i := 0) (o := 3) rfl ⟨rfl, rfl, rfl, rfl⟩ rfl flat22) rfl rfl (wt_none' rfl) ?_
        refine sx_rd' (rd_len' rfl Try.underlying22) rfl rfl (wt_none' rfl) ?_
        refine sx_rd' (rd_bin' rfl rfl eg_int ru_lss) rfl rfl (wt_none' rfl) ?_
        refine sx_nil' ?_
        show TX E K12 _
        refine tx_k' hK12 ?_
        refine cx_cond' rfl (fun h4 => ?_) (fun h4 => ?_)
        · replace hp := (br_t h4).symm.trans hp
          refine cx_skip' ?_
          show TX E K11 _
          refine tx_k' hK11 ?_
          refine cx_seq' fun K13 hK13 => ?_
          refine cx_block' ?_
          refine cx_draw' mixed (by kernel_rfl) ?_
          refine qx_rd' (rd_move' rfl) rfl rfl (wt_none' rfl) ?_
          refine qx_rd' (rd_field' (off := 3) rfl Try.underlying27 rfl info22 rfl) rfl rfl (wt_none' rfl) ?_
          refine qx_rd' (rd_load' (i := 0) (o := 3) rfl ⟨rfl, rfl, rfl, rfl⟩ rfl flat22) rfl rfl (wt_none' rfl) ?_
          refine qx_rd' (rd_move' rfl) rfl rfl (wt_none' rfl) ?_
          refine qx_rd' (rd_bin' rfl rfl eg_int ru_add) rfl rfl (wt_none' rfl) ?_
          obtain ⟨r29, hr29, hp⟩ := bind_some hp
          refine qx_rd' (rd_at' (K := Kf) rfl rfl hr29 Try.underlying22 info32) rfl rfl (wt_none' rfl) ?_
          refine qx_rd' (rd_load_pt' rfl rfl flat32) rfl rfl (wt_none' rfl) ?_
          obtain ⟨r31, hr31, hp⟩ := bind_some hp
          refine qx_rd' (rd_conv' rfl (ru_f2i hr31 (by rw [Try.underlying32]; rfl) Try.underlying3)) rfl rfl (wt_none' rfl) ?_
          refine qx_rd' (rd_field' (off := 3) rfl Try.underlying27 rfl info22 rfl) rfl rfl (wt_none' rfl) ?_
          refine qx_rd' (rd_load' (i := 0) (o := 3) rfl ⟨rfl, rfl, rfl, rfl⟩ rfl flat22) rfl rfl (wt_none' rfl) ?_
          refine qx_rd' (rd_move' rfl) rfl rfl (wt_none' rfl) ?_
          refine qx_rd' (rd_move' rfl) rfl rfl (wt_none' rfl) ?_
          refine qx_rd' (rd_bin' rfl rfl eg_int ru_sub) rfl rfl (wt_none' rfl) ?_
          refine qx_rd' (rd_bin' rfl rfl eg_int ru_add) rfl rfl (wt_none' rfl) ?_
          obtain ⟨r38, hr38, hp⟩ := bind_some hp
          refine qx_rd' (rd_at' (K := Kf) rfl rfl hr38 Try.underlying22 info32) rfl rfl (wt_none' rfl) ?_
          refine qx_rd' (rd_load_pt' rfl rfl flat32) rfl rfl (wt_none' rfl) ?_
          obtain ⟨r40, hr40, hp⟩ := bind_some hp
          refine qx_rd' (rd_conv' rfl (ru_f2i hr40 (by rw [Try.underlying32]; rfl) Try.underlying3)) rfl rfl (wt_none' rfl) ?_
          refine qx_rd' (rd_bin' rfl rfl eg_int ru_sub) rfl rfl (wt_none' rfl) ?_
          refine qx_rd' (rd_field' (off := 3) rfl Try.underlying27 rfl info22 rfl) rfl rfl (wt_none' rfl) ?_
          refine qx_rd' (rd_load' (i := 0) (o := 3) rfl ⟨rfl, rfl, rfl, rfl⟩ rfl flat22) rfl rfl (wt_none' rfl) ?_
          refine qx_rd' (rd_move' rfl) rfl rfl (wt_none' rfl) ?_
          obtain ⟨r45, hr45, hp⟩ := bind_some hp
          refine qx_rd' (rd_at' (K := Kf) rfl rfl hr45 Try.underlying22 info32) rfl rfl (wt_none' rfl) ?_
          refine qx_rd' (rd_load_pt' rfl rfl flat32) rfl rfl (wt_none' rfl) ?_
          obtain ⟨r47, hr47, hp⟩ := bind_some hp
          refine qx_rd' (rd_conv' rfl (ru_f2i hr47 (by rw [Try.underlying32]; rfl) Try.underlying3)) rfl rfl (wt_none' rfl) ?_
          refine qx_rd' (rd_field' (off := 3) rfl Try.underlying27 rfl info22 rfl) rfl rfl (wt_none' rfl) ?_
          refine qx_rd' (rd_load' (i := 0) (o := 3) rfl ⟨rfl, rfl, rfl, rfl⟩ rfl flat22) rfl rfl (wt_none' rfl) ?_
          refine qx_rd' (rd_move' rfl) rfl rfl (wt_none' rfl) ?_
          refine qx_rd' (rd_move' rfl) rfl rfl (wt_none' rfl) ?_
          refine qx_rd' (rd_bin' rfl rfl eg_int ru_sub) rfl rfl (wt_none' rfl) ?_
          obtain ⟨r53, hr53, hp⟩ := bind_some hp
          refine qx_rd' (rd_at' (K := Kf) rfl rfl hr53 Try.underlying22 info32) rfl rfl (wt_none' rfl) ?_
          refine qx_rd' (rd_load_pt' rfl rfl flat32) rfl rfl (wt_none' rfl) ?_
          obtain ⟨r55, hr55, hp⟩ := bind_some hp
          refine qx_rd' (rd_conv' rfl (ru_f2i hr55 (by rw [Try.underlying32]; rfl) Try.underlying3)) rfl rfl (wt_none' rfl) ?_
          refine qx_rd' (rd_bin' rfl rfl eg_int ru_add) rfl rfl (wt_none' rfl) ?_
          refine qx_rd' (rd_bin' rfl rfl eg_int ru_mul) rfl rfl (wt_none' rfl) ?_
          refine qx_rd' (rd_bin' rfl rfl eg_int ru_add) rfl rfl (wt_none' rfl) ?_
          refine qx_rd' (rd_assign' rfl) rfl rfl (wt_none' rfl) ?_
          refine qx_nil' ?_
          show TX E K13 _
          refine tx_k' hK13 ?_
          refine cx_region' ?_
          refine sx_rd' (rd_move' rfl) rfl rfl (wt_none' rfl) ?_
          refine sx_rd' (rd_move' rfl) rfl rfl (wt_none' rfl) ?_
          refine sx_rd' (rd_bin' rfl rfl eg_int ru_add) rfl rfl (wt_none' rfl) ?_
          refine sx_rd' (rd_assign' rfl) rfl rfl (wt_none' rfl) ?_
          refine sx_nil' ?_
          show TX E (KY1 _) _
          exact tx_pick' [0] (sub_cons rfl (sub_cons rfl (sub_cons rfl (sub_cons rfl sub_nil)))) (by decide) (pick_cons rfl pick_nil) (ih1 ((iadd .i64 x1 (imul .i64 (isub .i64 r31 r40) (iadd .i64 r47 r55))), (iadd .i64 x2 r14)) () _ hp)
        · replace hp := (br_f h4).symm.trans hp
          refine cx_exit' ?_
          replace hp := Option.some.inj hp
          subst hp
          show TX E (Zg E (Exit.exit 1) _ (Exit.exit 1)) _
          exact tx_zend' () rfl [] (sub_cons rfl sub_nil) (by decide) pick_nil
      · refine zg_out fun w2 => ?_
        show TX E K3 _
        exact tx_pick' [] (sub_cons rfl sub_nil) (by decide) pick_nil (hK3 v2 hp)
    · replace hp := (br_f h1).symm.trans hp
      refine cx_join' (fun (v3 : Bool) => (⟨75, [], [(1, (Vl (.pointer (some q1)))), (3, (Vl (.int .i64 0))), (59, (Vl (.bool v3)))], [⟨.pointer (some q1), [(Vl (.int .i64 a0_0)), (Vl (.int .i64 a0_1)), (Vl (.int .i64 a0_2)), (Sl Kf a0_3), (Sl (Ki .i64) a0_4), (Vl (.slice none 0 0)), (Vl (.slice none 0 0))], 27, none⟩]⟩ : St)) (fun (v3 : Bool) => laws_gTwice_j1 k a0_0 a0_1 a0_2 a0_3 a0_4 v3 = some out) ?_ ?_
      · rintro x4 hp
        replace hp : laws_gTwice_j1 k a0_0 a0_1 a0_2 a0_3 a0_4 x4 = some out := hp
        unfold laws_gTwice_j1 at hp
        refine cx_cond' rfl (fun h6 => ?_) (fun h6 => ?_)
        · replace hp := (br_t h6).symm.trans hp
          refine cx_seq' fun K16 hK16 => ?_
          refine cx_region' ?_
          refine sx_rd' (rd_load_agg' (i := 0) (o := 0) (nn := 7) rfl ⟨rfl, rfl, rfl, rfl⟩ rfl agg27 (l' := [(Vl (.int .i64 a0_0)), (Vl (.int .i64 a0_1)), (Vl (.int .i64 a0_2)), (Sl Kf a0_3), (Sl (Ki .i64) a0_4), (Vl (.slice none 0 0)), (Vl (.slice none 0 0))]) rfl) rfl rfl (wt_none' rfl) ?_
          obtain ⟨r63, hr63, hp⟩ := bind_some hp
          refine sx_ox' (ox_calln' (ent_fn' Try.func56 isn56 rfl rfl) (spec_Parts_sim _ _ _ _ _ hr63 : Go.Sx.Fn Try.prog 56 [(Ag [(Vl (.int .i64 a0_0)), (Vl (.int .i64 a0_1)), (Vl (.int .i64 a0_2)), (Sl Kf a0_3), (Sl (Ki .i64) a0_4), (Vl (.slice none 0 0)), (Vl (.slice none 0 0))])] [] (fun x : Unit => (Sl KT27 r63)) (fun x => [])) (Hn := fun x : Unit => [⟨.pointer (some q1), [(Vl (.int .i64 a0_0)), (Vl (.int .i64 a0_1)), (Vl (.int .i64 a0_2)), (Sl Kf a0_3), (Sl (Ki .i64) a0_4), (Vl (.slice none 0 0)), (Vl (.slice none 0 0))], 27, none⟩]) (fun _ => rfl) rfl rfl) (wt_none' rfl) fun ⟨⟩ => ?_
          refine sx_rd' (rd_len' rfl Try.underlying25) rfl rfl (wt_none' rfl) ?_
          refine sx_rd' (rd_move' rfl) rfl rfl (wt_none' rfl) ?_
          refine sx_nil' ?_
          show TX E K16 _
          refine tx_k' hK16 ?_
          refine cx_block' ?_
          obtain ⟨v5, hy2, hp⟩ := bind_some hp
          refine cx_loopg' (F := laws_gTwice_l2 r63) (G := fun k R v => laws_gTwice_l2s r63 k R v.1 v.2) (x := (0, 0)) (gh := ()) (fun (v4 : Int × Int) (w4 : Unit) => (⟨75, [], [(3, (Vl (.int .i64 v4.1))), (63, (Sl KT27 r63)), (64, (Vl (.int .i64 (r63.length : Int)))), (65, (Vl (.int .i64 v4.2)))], []⟩ : St)) (fun (v5 : Int) => Zg E (Exit.exit 3) (fun (w5 : Unit) => (⟨75, [], [(3, (Vl (.int .i64 v5)))], []⟩ : St))) (fun _ => rfl) (fun _ _ => rfl) ?_ hy2 (tx_to' rfl [] (sub_cons rfl (sub_cons rfl (sub_cons rfl (sub_cons rfl sub_nil)))) (by decide) pick_nil) ?_
          · clear hp hy2
            clear v5
            intro k rec2 KY2 ih2
            rintro ⟨x5, x6⟩ ⟨⟩ y2 hp
            replace hp : laws_gTwice_l2s r63 k rec2 x5 x6 = some y2 := hp
            unfold laws_gTwice_l2s at hp
            refine cx_seq' fun K21 hK21 => ?_
            refine cx_region' ?_
            refine sx_rd' (rd_bin' rfl rfl eg_int ru_lss) rfl rfl (wt_none' rfl) ?_
            refine sx_nil' ?_
            show TX E K21 _
            refine tx_k' hK21 ?_
            refine cx_seq' fun K22 hK22 => ?_
            refine cx_cond' rfl (fun h9 => ?_) (fun h9 => ?_)
            · replace hp := (br_t h9).symm.trans hp
              refine cx_skip' ?_
              show TX E K22 _
              refine tx_k' hK22 ?_
              refine cx_seq' fun K23 hK23 => ?_
              refine cx_block' ?_
              refine cx_seq' fun K24 hK24 => ?_
              refine cx_region' ?_
              obtain ⟨r67, hr67, hp⟩ := bind_some hp
              refine sx_rd' (rd_eq' (congrArg Pt (KT27_enc r67)) (rd_at' (K := KT27) rfl rfl hr67 Try.underlying25 info27)) rfl rfl (wt_none' rfl) ?_
              refine sx_rd' (rd_load_pt_agg' (nn := 7) rfl rfl agg27 (l' := [(Vl (.int .i64 r67.f0)), (Vl (.int .i64 r67.f1)), (Vl (.int .i64 r67.f2)), (Sl Kf r67.f3), (Sl (Ki .i64) r67.f4), (Sl (Kl (Ki .i64)) r67.f5), (Sl KT27 r67.f6)]) rfl) rfl rfl (wt_none' rfl) ?_
              refine sx_ox' (ox_alloc' info27 rfl rfl rfl rfl (l := [(Vl (.int .i64 0)), (Vl (.int .i64 0)), (Vl (.int .i64 0)), (Vl (.slice none 0 0)), (Vl (.slice none 0 0)), (Vl (.slice none 0 0)), (Vl (.slice none 0 0))]) rfl) (wt_none' rfl) fun q7 => ?_
              refine sx_ox' (ox_store' (i := 0) (o := 0) rfl rfl (lv_ag _) ⟨rfl, rfl, rfl, rfl⟩ rfl info27 rfl (H' := [⟨.pointer (some q7), [(Vl (.int .i64 r67.f0)), (Vl (.int .i64 r67.f1)), (Vl (.int .i64 r67.f2)), (Sl Kf r67.f3), (Sl (Ki .i64) r67.f4), (Sl (Kl (Ki .i64)) r67.f5), (Sl KT27 r67.f6)], 27, none⟩]) rfl) (wt_none' rfl) fun _ => ?_
              refine sx_nil' ?_
              show TX E K24 _
              refine tx_k' hK24 ?_
              refine cx_region' ?_
              refine sx_rd' (rd_move' rfl) rfl rfl (wt_none' rfl) ?_
              refine sx_rd' (rd_load_agg' (i := 0) (o := 0) (nn := 7) rfl ⟨rfl, rfl, rfl, rfl⟩ rfl agg27 (l' := [(Vl (.int .i64 r67.f0)), (Vl (.int .i64 r67.f1)), (Vl (.int .i64 r67.f2)), (Sl Kf r67.f3), (Sl (Ki .i64) r67.f4), (Sl (Kl (Ki .i64)) r67.f5), (Sl KT27 r67.f6)]) rfl) rfl rfl (wt_none' rfl) ?_
              obtain ⟨r71, hr71, hp⟩ := bind_some hp
              refine sx_ox' (ox_calln' (ent_fn' Try.func15 isn15 rfl rfl) (laws_gTwice_v2_sim _ _ _ _ _ _ _ hr71 : Go.Sx.Fn Try.prog 15 [(Ag [(Vl (.int .i64 r67.f0)), (Vl (.int .i64 r67.f1)), (Vl (.int .i64 r67.f2)), (Sl Kf r67.f3), (Sl (Ki .i64) r67.f4), (Sl (Kl (Ki .i64)) r67.f5), (Sl KT27 r67.f6)])] [] (fun x : Unit => (Vl (.int .i64 r71))) (fun x => [])) (Hn := fun x : Unit => [⟨.pointer (some q7), [(Vl (.int .i64 r67.f0)), (Vl (.int .i64 r67.f1)), (Vl (.int .i64 r67.f2)), (Sl Kf r67.f3), (Sl (Ki .i64) r67.f4), (Sl (Kl (Ki .i64)) r67.f5), (Sl KT27 r67.f6)], 27, none⟩]) (fun _ => rfl) rfl rfl) (wt_none' rfl) fun ⟨⟩ => ?_
              refine sx_rd' (rd_bin' rfl rfl eg_int ru_add) rfl rfl (wt_none' rfl) ?_
              refine sx_rd' (rd_assign' rfl) rfl rfl (wt_none' rfl) ?_
              refine sx_nil' ?_
              show TX E K23 _
              refine tx_k' hK23 ?_
              refine cx_region' ?_
              refine sx_rd' (rd_bin' rfl rfl eg_int ru_add) rfl rfl (wt_none' rfl) ?_
              refine sx_rd' (rd_move' rfl) rfl rfl (wt_none' rfl) ?_
              refine sx_nil' ?_
              show TX E (KY2 _) _
              exact tx_pick' [] (sub_cons rfl (sub_cons rfl (sub_cons rfl (sub_cons rfl sub_nil)))) (by decide) pick_nil (ih2 ((iadd .i64 x5 r71), (iadd .i64 x6 1)) () _ hp)
            · replace hp := (br_f h9).symm.trans hp
              refine cx_exit' ?_
              replace hp := Option.some.inj hp
              subst hp
              show TX E (Zg E (Exit.exit 3) _ (Exit.exit 3)) _
              exact tx_zend' () rfl [] (sub_cons rfl sub_nil) (by decide) pick_nil
          · refine zg_out fun w5 => ?_
            show TX E K3 _
            exact tx_pick' [] (sub_cons rfl sub_nil) (by decide) pick_nil (hK3 v5 hp)
        · replace hp := (br_f h6).symm.trans hp
          refine cx_skip' ?_
          show TX E K3 _
          exact tx_pick' [] (sub_cons rfl sub_nil) (by decide) pick_nil (hK3 0 hp)
      · intro K14 hK14
        refine cx_seq' fun K15 hK15 => ?_
        refine cx_region' ?_
        refine sx_rd' (rd_bin' rfl rfl eg_int ru_eql) rfl rfl (wt_none' rfl) ?_
        refine sx_rd' (rd_assign' rfl) rfl rfl (wt_none' rfl) ?_
        refine sx_nil' ?_
        show TX E K15 _
        refine tx_k' hK15 ?_
        refine cx_cond' rfl (fun h5 => ?_) (fun h5 => ?_)
        · replace hp := (br_t h5).symm.trans hp
          refine cx_skip' ?_
          show TX E K14 _
          exact tx_pick' [0] (sub_cons rfl (sub_cons rfl (sub_cons rfl sub_nil))) (by decide) (pick_cons rfl pick_nil) (hK14 (decide (a0_0 = 3)) hp)
        · replace hp := (br_f h5).symm.trans hp
          refine cx_region' ?_
          refine sx_rd' (rd_bin' rfl rfl eg_int ru_eql) rfl rfl (wt_none' rfl) ?_
          refine sx_rd' (rd_assign' rfl) rfl rfl (wt_none' rfl) ?_
          refine sx_nil' ?_
          show TX E K14 _
          exact tx_pick' [0] (sub_cons rfl (sub_cons rfl (sub_cons rfl sub_nil))) (by decide) (pick_cons rfl pick_nil) (hK14 (decide (a0_0 = 6)) hp)

def laws_FnDoubleArea2_j3 (k : Nat) (x3 : Bool) : Option (Bool) :=
  some x3
def laws_FnDoubleArea2_j2 (k : Nat) (a0 : List Nat) (a1 : List Int) (a2 : Int) (r23 : Int × Int × Int × (List Nat) × (List Int) × Bool) (x2 : Bool) : Option (Bool) :=
  br x2
    (some true)
    ((impl_DoubleArea2 k a0 a1 a2) >>= fun r37 =>
    br r37.2
      ((laws_gTwice k r23.1 r23.2.1 r23.2.2.1 r23.2.2.2.1 r23.2.2.2.2.1) >>= fun r44 =>
      laws_FnDoubleArea2_j3 k (feq r37.1 (i2f r44)))
      (laws_FnDoubleArea2_j3 k false))
def laws_FnDoubleArea2_j1 (k : Nat) (a0 : List Nat) (a1 : List Int) (a2 : Int) (x1 : Bool) : Option (Bool) :=
  br x1
    (some true)
    ((laws_fRows k a0 a1 a2) >>= fun r23 =>
    br (!r23.2.2.2.2.2)
      (laws_FnDoubleArea2_j2 k a0 a1 a2 r23 true)
      ((laws_gEach k r23.1 r23.2.1 r23.2.2.1 r23.2.2.2.1 r23.2.2.2.2.1) >>= fun r30 =>
      laws_FnDoubleArea2_j2 k a0 a1 a2 r23 (!r30)))
def laws_FnDoubleArea2 (k : Nat) (a0 : List Nat) (a1 : List Int) (a2 : Int) : Option (Bool) :=
  br (decide (2147483647 < (a0.length : Int)))
    (laws_FnDoubleArea2_j1 k a0 a1 a2 true)
    (laws_FnDoubleArea2_j1 k a0 a1 a2 (decide (2147483647 < (a1.length : Int))))

theorem laws_FnDoubleArea2_sim {k : Nat}  (a0 : List Nat) (a1 : List Int) (a2 : Int) {out : Bool} (hp : laws_FnDoubleArea2 k a0 a1 a2 = some out) : Go.Sx.Fn Try.prog 3 [(Sl Kf a0), (Sl (Ki .i64) a1), (Vl (.int .i64 a2))] [] (fun w : Unit => (Vl (.bool out))) (fun w => []) := by
  unfold laws_FnDoubleArea2 at hp
  refine fn_of Try.func3 rfl Try.ntmps3 rfl fun E hM => ?_
  refine cx_seq' fun K1 hK1 => ?_
  refine cx_region' ?_
  refine sx_rd' (rd_assign' rfl) rfl rfl (wt_none' rfl) ?_
  refine sx_nil' ?_
  show TX E K1 _
  refine tx_k' hK1 ?_
  refine cx_seq' fun K2 hK2 => ?_
  refine cx_seq' fun K3 hK3 => ?_
  refine cx_region' ?_
  refine sx_rd' (rd_move' rfl) rfl rfl (wt_none' rfl) ?_
  refine sx_rd' (rd_len' rfl Try.underlying22) rfl rfl (wt_none' rfl) ?_
  refine sx_rd' (rd_bin' rfl rfl eg_int ru_gtr) rfl rfl (wt_none' rfl) ?_
  refine sx_rd' (rd_move' rfl) rfl rfl (wt_none' rfl) ?_
  refine sx_cutn' 4 (fun (v1 : Bool) => (⟨48, [], [(0, (Sl Kf a0)), (1, (Sl (Ki .i64) a1)), (2, (Vl (.int .i64 a2))), (18, (Vl (.bool v1)))], []⟩ : St)) (fun (v1 : Bool) => laws_FnDoubleArea2_j1 k a0 a1 a2 v1 = some out) ?_ ?_
  · rintro x1 hp
    replace hp : laws_FnDoubleArea2_j1 k a0 a1 a2 x1 = some out := hp
    unfold laws_FnDoubleArea2_j1 at hp
    refine sx_nil' ?_
    show TX E K3 _
    refine tx_k' hK3 ?_
    refine cx_cond' rfl (fun h2 => ?_) (fun h2 => ?_)
    · replace hp := (br_t h2).symm.trans hp
      refine cx_seq' fun K5 hK5 => ?_
      refine cx_region' ?_
      refine sx_rd' (rd_assign' rfl) rfl rfl (wt_none' rfl) ?_
      refine sx_nil' ?_
      show TX E K5 _
      refine tx_k' hK5 ?_
      refine cx_retc' ?_
      replace hp := Option.some.inj hp
      subst hp
      refine tx_pick' (L' := [(6, (Vl (.bool true)))]) (H' := []) [] (sub_cons rfl sub_nil) (by decide) pick_nil ?_
      exact tx_ret1' Try.results3 rfl () (rv_tmp' rfl) (List.Sublist.refl _)
    · replace hp := (br_f h2).symm.trans hp
      refine cx_skip' ?_
      show TX E K2 _
      refine tx_k' hK2 ?_
      refine cx_seq' fun K6 hK6 => ?_
      refine cx_region' ?_
      refine sx_rd' (rd_move' rfl) rfl rfl (wt_none' rfl) ?_
      refine sx_rd' (rd_move' rfl) rfl rfl (wt_none' rfl) ?_
      refine sx_rd' (rd_move' rfl) rfl rfl (wt_none' rfl) ?_
      obtain ⟨r23, hr23, hp⟩ := bind_some hp
      refine sx_ox' (ox_calln' (ent_fn' Try.func11 isn11 rfl rfl) (laws_fRows_sim _ _ _ hr23 : Go.Sx.Fn Try.prog 11 [(Sl Kf a0), (Sl (Ki .i64) a1), (Vl (.int .i64 a2))] [] (fun x : Unit => (Tu [(Ag [(Vl (.int .i64 r23.1)), (Vl (.int .i64 r23.2.1)), (Vl (.int .i64 r23.2.2.1)), (Sl Kf r23.2.2.2.1), (Sl (Ki .i64) r23.2.2.2.2.1), (Vl (.slice none 0 0)), (Vl (.slice none 0 0))]), (Vl (.bool r23.2.2.2.2.2))])) (fun x => [])) (Hn := fun x : Unit => []) (fun _ => rfl) rfl rfl) (wt_none' rfl) fun ⟨⟩ => ?_
      refine sx_rd' (rd_move' rfl) rfl rfl (wt_none' rfl) ?_
      refine sx_rd' (rd_extract' rfl rfl) rfl rfl (wt_none' rfl) ?_
      refine sx_rd' (rd_extract' rfl rfl) rfl rfl (wt_none' rfl) ?_
      refine sx_ox' (ox_alloc' info27 rfl rfl rfl rfl (l := [(Vl (.int .i64 0)), (Vl (.int .i64 0)), (Vl (.int .i64 0)), (Vl (.slice none 0 0)), (Vl (.slice none 0 0)), (Vl (.slice none 0 0)), (Vl (.slice none 0 0))]) rfl) (wt_none' rfl) fun q7 => ?_
      refine sx_ox' (ox_store' (i := 0) (o := 0) rfl rfl (lv_ag _) ⟨rfl, rfl, rfl, rfl⟩ rfl info27 rfl (H' := [⟨.pointer (some q7), [(Vl (.int .i64 r23.1)), (Vl (.int .i64 r23.2.1)), (Vl (.int .i64 r23.2.2.1)), (Sl Kf r23.2.2.2.1), (Sl (Ki .i64) r23.2.2.2.2.1), (Vl (.slice none 0 0)), (Vl (.slice none 0 0))], 27, none⟩]) rfl) (wt_none' rfl) fun _ => ?_
      refine sx_rd' (rd_assign' rfl) rfl rfl (wt_none' rfl) ?_
      refine sx_nil' ?_
      show TX E K6 _
      refine tx_k' hK6 ?_
      refine cx_seq' fun K7 hK7 => ?_
      refine cx_seq' fun K8 hK8 => ?_
      refine cx_region' ?_
      refine sx_rd' (rd_move' rfl) rfl rfl (wt_none' rfl) ?_
      refine sx_rd' (rd_un' rfl ru_not) rfl rfl (wt_none' rfl) ?_
      refine sx_rd' (rd_move' rfl) rfl rfl (wt_none' rfl) ?_
      refine sx_cutn' 4 (fun (v2 : Bool) => (⟨48, [], [(0, (Sl Kf a0)), (1, (Sl (Ki .i64) a1)), (2, (Vl (.int .i64 a2))), (7, (Vl (.pointer (some q7)))), (32, (Vl (.bool v2)))], [⟨.pointer (some q7), [(Vl (.int .i64 r23.1)), (Vl (.int .i64 r23.2.1)), (Vl (.int .i64 r23.2.2.1)), (Sl Kf r23.2.2.2.1), (Sl (Ki .i64) r23.2.2.2.2.1), (Vl (.slice none 0 0)), (Vl (.slice none 0 0))], 27, none⟩]⟩ : St)) (fun (v2 : Bool) => laws_FnDoubleArea2_j2 k a0 a1 a2 r23 v2 = some out) ?_ ?_
      · rintro x2 hp
        replace hp : laws_FnDoubleArea2_j2 k a0 a1 a2 r23 x2 = some out := hp
        unfold laws_FnDoubleArea2_j2 at hp
        refine sx_nil' ?_
        show TX E K8 _
        refine tx_k' hK8 ?_
        refine cx_cond' rfl (fun h4 => ?_) (fun h4 => ?_)
        · replace hp := (br_t h4).symm.trans hp
          refine cx_seq' fun K10 hK10 => ?_
          refine cx_region' ?_
          refine sx_rd' (rd_assign' rfl) rfl rfl (wt_none' rfl) ?_
          refine sx_nil' ?_
          show TX E K10 _
          refine tx_k' hK10 ?_
          refine cx_retc' ?_
          replace hp := Option.some.inj hp
          subst hp
          refine tx_pick' (L' := [(6, (Vl (.bool true)))]) (H' := []) [] (sub_cons rfl sub_nil) (by decide) pick_nil ?_
          exact tx_ret1' Try.results3 rfl () (rv_tmp' rfl) (List.Sublist.refl _)
        · replace hp := (br_f h4).symm.trans hp
          refine cx_skip' ?_
          show TX E K7 _
          refine tx_k' hK7 ?_
          refine cx_seq' fun K11 hK11 => ?_
          refine cx_region' ?_
          refine sx_rd' (rd_move' rfl) rfl rfl (wt_none' rfl) ?_
          refine sx_rd' (rd_move' rfl) rfl rfl (wt_none' rfl) ?_
          refine sx_rd' (rd_move' rfl) rfl rfl (wt_none' rfl) ?_
          obtain ⟨r37, hr37, hp⟩ := bind_some hp
          refine sx_ox' (ox_calln' (ent_fn' Try.func14 isn14 rfl rfl) (impl_DoubleArea2_sim _ _ _ hr37 : Go.Sx.Fn Try.prog 14 [(Sl Kf a0), (Sl (Ki .i64) a1), (Vl (.int .i64 a2))] [] (fun x : Unit => (Tu [(Fl r37.1), (Vl (.bool r37.2))])) (fun x => [])) (Hn := fun x : Unit => [⟨.pointer (some q7), [(Vl (.int .i64 r23.1)), (Vl (.int .i64 r23.2.1)), (Vl (.int .i64 r23.2.2.1)), (Sl Kf r23.2.2.2.1), (Sl (Ki .i64) r23.2.2.2.2.1), (Vl (.slice none 0 0)), (Vl (.slice none 0 0))], 27, none⟩]) (fun _ => rfl) rfl rfl) (wt_none' rfl) fun ⟨⟩ => ?_
          refine sx_rd' (rd_move' rfl) rfl rfl (wt_none' rfl) ?_
          refine sx_rd' (rd_extract' rfl rfl) rfl rfl (wt_none' rfl) ?_
          refine sx_rd' (rd_extract' rfl rfl) rfl rfl (wt_none' rfl) ?_
          refine sx_rd' (rd_assign' rfl) rfl rfl (wt_none' rfl) ?_
          refine sx_rd' (rd_assign' rfl) rfl rfl (wt_none' rfl) ?_
          refine sx_nil' ?_
          show TX E K11 _
          refine tx_k' hK11 ?_
          refine cx_seq' fun K12 hK12 => ?_
          refine cx_region' ?_
          refine sx_rd' (rd_move' rfl) rfl rfl (wt_none' rfl) ?_
          refine sx_rd' (rd_move' rfl) rfl rfl (wt_none' rfl) ?_
          refine sx_cutn' 6 (fun (v3 : Bool) => (⟨48, [], [(47, (Vl (.bool v3)))], []⟩ : St)) (fun (v3 : Bool) => laws_FnDoubleArea2_j3 k v3 = some out) ?_ ?_
          · rintro x3 hp
            replace hp : laws_FnDoubleArea2_j3 k x3 = some out := hp
            unfold laws_FnDoubleArea2_j3 at hp
            refine sx_rd' (rd_assign' rfl) rfl rfl (wt_none' rfl) ?_
            refine sx_nil' ?_
            show TX E K12 _
            refine tx_k' hK12 ?_
            refine cx_retc' ?_
            replace hp := Option.some.inj hp
            subst hp
            refine tx_pick' (L' := [(6, (Vl (.bool x3)))]) (H' := []) [] (sub_cons rfl sub_nil) (by decide) pick_nil ?_
            exact tx_ret1' Try.results3 rfl () (rv_tmp' rfl) (List.Sublist.refl _)
          · intro K13 hK13
            rcases br_cases hp with ⟨h5, hp⟩ | ⟨h5, hp⟩
            · refine sx_rd' (rd_move' rfl) rfl rfl (wt_is' (wt_guard' rfl rfl rfl) (beq_tt h5)) ?_
              refine sx_rd' (rd_load_agg' (i := 0) (o := 0) (nn := 7) rfl ⟨rfl, rfl, rfl, rfl⟩ rfl agg27 (l' := [(Vl (.int .i64 r23.1)), (Vl (.int .i64 r23.2.1)), (Vl (.int .i64 r23.2.2.1)), (Sl Kf r23.2.2.2.1), (Sl (Ki .i64) r23.2.2.2.2.1), (Vl (.slice none 0 0)), (Vl (.slice none 0 0))]) rfl) rfl rfl (wt_is' (wt_guard' rfl rfl rfl) (beq_tt h5)) ?_
              obtain ⟨r44, hr44, hp⟩ := bind_some hp
              refine sx_ox' (ox_calln' (ent_fn' Try.func15 isn15 rfl rfl) (laws_gTwice_sim _ _ _ _ _ hr44 : Go.Sx.Fn Try.prog 15 [(Ag [(Vl (.int .i64 r23.1)), (Vl (.int .i64 r23.2.1)), (Vl (.int .i64 r23.2.2.1)), (Sl Kf r23.2.2.2.1), (Sl (Ki .i64) r23.2.2.2.2.1), (Vl (.slice none 0 0)), (Vl (.slice none 0 0))])] [] (fun x : Unit => (Vl (.int .i64 r44))) (fun x => [])) (Hn := fun x : Unit => [⟨.pointer (some q7), [(Vl (.int .i64 r23.1)), (Vl (.int .i64 r23.2.1)), (Vl (.int .i64 r23.2.2.1)), (Sl Kf r23.2.2.2.1), (Sl (Ki .i64) r23.2.2.2.2.1), (Vl (.slice none 0 0)), (Vl (.slice none 0 0))], 27, none⟩]) (fun _ => rfl) rfl rfl) (wt_is' (wt_guard' rfl rfl rfl) (beq_tt h5)) fun ⟨⟩ => ?_
              refine sx_rd' (rd_conv' rfl (ru_i2f (by rw [Try.underlying3]; rfl) Try.underlying32)) rfl rfl (wt_is' (wt_guard' rfl rfl rfl) (beq_tt h5)) ?_
              refine sx_rd' (rd_fcmp' (fl_f rfl) (fl_v rfl) rfl) rfl rfl (wt_is' (wt_guard' rfl rfl rfl) (beq_tt h5)) ?_
              refine sx_rd' (rd_pick_true' rfl h5 rfl) rfl rfl (wt_none' rfl) ?_
              refine sx_nil' ?_
              show TX E K13 _
              exact tx_pick' [] (sub_cons rfl sub_nil) (by decide) pick_nil (hK13 (feq r37.1 (i2f r44)) hp)
            · refine sx_skip' rfl rfl (wt_is' (wt_guard' rfl rfl rfl) (beq_ft h5)) ?_
              refine sx_skip' rfl rfl (wt_is' (wt_guard' rfl rfl rfl) (beq_ft h5)) ?_
              refine sx_skip' rfl rfl (wt_is' (wt_guard' rfl rfl rfl) (beq_ft h5)) ?_
              refine sx_skip' rfl rfl (wt_is' (wt_guard' rfl rfl rfl) (beq_ft h5)) ?_
              refine sx_skip' rfl rfl (wt_is' (wt_guard' rfl rfl rfl) (beq_ft h5)) ?_
              refine sx_rd' (rd_pick_false' rfl h5 rfl) rfl rfl (wt_none' rfl) ?_
              refine sx_nil' ?_
              show TX E K13 _
              exact tx_pick' [] (sub_cons rfl sub_nil) (by decide) pick_nil (hK13 false hp)
      · intro K9 hK9
        rcases br_cases hp with ⟨h3, hp⟩ | ⟨h3, hp⟩
        · refine sx_skip' rfl rfl (wt_is' (wt_guard' rfl rfl rfl) (beq_tf h3)) ?_
          refine sx_skip' rfl rfl (wt_is' (wt_guard' rfl rfl rfl) (beq_tf h3)) ?_
          refine sx_skip' rfl rfl (wt_is' (wt_guard' rfl rfl rfl) (beq_tf h3)) ?_
          refine sx_rd' (rd_pick_true' rfl h3 rfl) rfl rfl (wt_none' rfl) ?_
          refine sx_nil' ?_
          show TX E K9 _
          exact tx_pick' [0] (sub_cons rfl (sub_cons rfl (sub_cons rfl (sub_cons rfl (sub_cons rfl sub_nil))))) (by decide) (pick_cons rfl pick_nil) (hK9 true hp)
        · refine sx_rd' (rd_load_agg' (i := 0) (o := 0) (nn := 7) rfl ⟨rfl, rfl, rfl, rfl⟩ rfl agg27 (l' := [(Vl (.int .i64 r23.1)), (Vl (.int .i64 r23.2.1)), (Vl (.int .i64 r23.2.2.1)), (Sl Kf r23.2.2.2.1), (Sl (Ki .i64) r23.2.2.2.2.1), (Vl (.slice none 0 0)), (Vl (.slice none 0 0))]) rfl) rfl rfl (wt_is' (wt_guard' rfl rfl rfl) (beq_ff h3)) ?_
          obtain ⟨r30, hr30, hp⟩ := bind_some hp
          refine sx_ox' (ox_calln' (ent_fn' Try.func12 isn12 rfl rfl) (laws_gEach_sim _ _ _ _ _ hr30 : Go.Sx.Fn Try.prog 12 [(Ag [(Vl (.int .i64 r23.1)), (Vl (.int .i64 r23.2.1)), (Vl (.int .i64 r23.2.2.1)), (Sl Kf r23.2.2.2.1), (Sl (Ki .i64) r23.2.2.2.2.1), (Vl (.slice none 0 0)), (Vl (.slice none 0 0))]), (Vl (.func (.func 13) #[] #[]))] [] (fun x : Unit => (Vl (.bool r30))) (fun x => [])) (Hn := fun x : Unit => [⟨.pointer (some q7), [(Vl (.int .i64 r23.1)), (Vl (.int .i64 r23.2.1)), (Vl (.int .i64 r23.2.2.1)), (Sl Kf r23.2.2.2.1), (Sl (Ki .i64) r23.2.2.2.2.1), (Vl (.slice none 0 0)), (Vl (.slice none 0 0))], 27, none⟩]) (fun _ => rfl) rfl rfl) (wt_is' (wt_guard' rfl rfl rfl) (beq_ff h3)) fun ⟨⟩ => ?_
          refine sx_rd' (rd_un' rfl ru_not) rfl rfl (wt_is' (wt_guard' rfl rfl rfl) (beq_ff h3)) ?_
          refine sx_rd' (rd_pick_false' rfl h3 rfl) rfl rfl (wt_none' rfl) ?_
          refine sx_nil' ?_
          show TX E K9 _
          exact tx_pick' [0] (sub_cons rfl (sub_cons rfl (sub_cons rfl (sub_cons rfl (sub_cons rfl sub_nil))))) (by decide) (pick_cons rfl pick_nil) (hK9 (!r30) hp)
  · intro K4 hK4
    rcases br_cases hp with ⟨h1, hp⟩ | ⟨h1, hp⟩
    · refine sx_skip' rfl rfl (wt_is' (wt_guard' rfl rfl rfl) (beq_tf h1)) ?_
      refine sx_skip' rfl rfl (wt_is' (wt_guard' rfl rfl rfl) (beq_tf h1)) ?_
      refine sx_skip' rfl rfl (wt_is' (wt_guard' rfl rfl rfl) (beq_tf h1)) ?_
      refine sx_rd' (rd_pick_true' rfl h1 rfl) rfl rfl (wt_none' rfl) ?_
      refine sx_nil' ?_
      show TX E K4 _
      exact tx_pick' [] (sub_cons rfl (sub_cons rfl (sub_cons rfl (sub_cons rfl sub_nil)))) (by decide) pick_nil (hK4 true hp)
    · refine sx_rd' (rd_move' rfl) rfl rfl (wt_is' (wt_guard' rfl rfl rfl) (beq_ff h1)) ?_
      refine sx_rd' (rd_len' rfl Try.underlying23) rfl rfl (wt_is' (wt_guard' rfl rfl rfl) (beq_ff h1)) ?_
      refine sx_rd' (rd_bin' rfl rfl eg_int ru_gtr) rfl rfl (wt_is' (wt_guard' rfl rfl rfl) (beq_ff h1)) ?_
      refine sx_rd' (rd_pick_false' rfl h1 rfl) rfl rfl (wt_none' rfl) ?_
      refine sx_nil' ?_
      show TX E K4 _
      exact tx_pick' [] (sub_cons rfl (sub_cons rfl (sub_cons rfl (sub_cons rfl sub_nil)))) (by decide) pick_nil (hK4 (decide (2147483647 < (a1.length : Int))) hp)

end Go.Proofs.Ytkeaodoibflhnaa
