/-
  Plain functions for the Go functions that this law reaches, and that each call does what its plain function says. Printed by a program of ours.
-/
import Derived.Test.YtohopkpjccpckaaProg
import Derived.Test.YtohopkpjccpckaaSxZ
import Derived.Test.YtohopkpjccpckaaFun3
namespace Go.Proofs.Ytohopkpjccpckaa
open Go.Sx
set_option linter.unusedVariables false
set_option maxRecDepth 100000

def spec_sameInts_l1s (a0 : List Int) (a1 : List Int) (k : Nat) (rec1 : Int → Option (Unit ⊕ Unit)) (x1 : Int) : Option (Unit ⊕ Unit) :=
  br (decide (x1 < (a0.length : Int)))
    ((idx a0 x1) >>= fun r17 =>
    (idx a1 x1) >>= fun r22 =>
    br (!decide (r17 = r22))
      (some (.inl ()))
      (rec1 (iadd .i64 x1 1)))
    (some (.inr ()))
def spec_sameInts_l1 (a0 : List Int) (a1 : List Int) : Nat → Int → Option (Unit ⊕ Unit)
  | 0, _ => none
  | k + 1, v => spec_sameInts_l1s a0 a1 k (spec_sameInts_l1 a0 a1 k) v
def spec_sameInts (k : Nat) (a0 : List Int) (a1 : List Int) : Option (Bool) :=
  br (!decide ((a0.length : Int) = (a1.length : Int)))
    (some false)
    ((spec_sameInts_l1 a0 a1 k 0) >>= fun y1 => match y1 with
      | (.inl v2) =>
        (some false)
      | (.inr v3) =>
        (some true))

theorem spec_sameInts_sim {k : Nat}  (a0 : List Int) (a1 : List Int) {out : Bool} (hp : spec_sameInts k a0 a1 = some out) : Go.Sx.Fn Try.prog 46 [(Sl (Ki .i64) a0), (Sl (Ki .i64) a1)] [] (fun w : Unit => (Vl (.bool out))) (fun w => []) := by
  unfold spec_sameInts at hp
  refine fn_of Try.func46 rfl Try.ntmps46 rfl fun E hM => ?_
  refine cx_seq' fun K1 hK1 => ?_
  refine cx_region' ?_
  refine sx_rd' (rd_assign' rfl) rfl rfl (wt_none' rfl) ?_
  refine sx_nil' ?_
  show TX E K1 _
  refine tx_k' hK1 ?_
  refine cx_seq' fun K2 hK2 => ?_
  refine cx_seq' fun K3 hK3 => ?_
  refine cx_region' ?_
  refine sx_rd' (rd_move' rfl) rfl rfl (wt_none' rfl) ?_
  refine sx_rd' (rd_len' rfl Try.underlying23) rfl rfl (wt_none' rfl) ?_
  refine sx_rd' (rd_move' rfl) rfl rfl (wt_none' rfl) ?_
  refine sx_rd' (rd_len' rfl Try.underlying23) rfl rfl (wt_none' rfl) ?_
  refine sx_rd' (rd_bin' rfl rfl eg_int ru_neq) rfl rfl (wt_none' rfl) ?_
  refine sx_nil' ?_
  show TX E K3 _
  refine tx_k' hK3 ?_
  refine cx_cond' rfl (fun h1 => ?_) (fun h1 => ?_)
  · replace hp := (br_t h1).symm.trans hp
    refine cx_seq' fun K4 hK4 => ?_
    refine cx_region' ?_
    refine sx_rd' (rd_assign' rfl) rfl rfl (wt_none' rfl) ?_
    refine sx_nil' ?_
    show TX E K4 _
    refine tx_k' hK4 ?_
    refine cx_retc' ?_
    replace hp := Option.some.inj hp
    subst hp
    refine tx_pick' (L' := [(4, (Vl (.bool false)))]) (H' := []) [] (sub_cons rfl sub_nil) (by decide) pick_nil ?_
    exact tx_ret1' Try.results46 rfl () (rv_tmp' rfl) (List.Sublist.refl _)
  · replace hp := (br_f h1).symm.trans hp
    refine cx_skip' ?_
    show TX E K2 _
    refine tx_k' hK2 ?_
    refine cx_seq' fun K5 hK5 => ?_
    refine cx_seq' fun K6 hK6 => ?_
    refine cx_region' ?_
    refine sx_rd' (rd_move' rfl) rfl rfl (wt_none' rfl) ?_
    refine sx_rd' (rd_len' rfl Try.underlying23) rfl rfl (wt_none' rfl) ?_
    refine sx_rd' (rd_move' rfl) rfl rfl (wt_none' rfl) ?_
    refine sx_nil' ?_
    show TX E K6 _
    refine tx_k' hK6 ?_
    refine cx_block' ?_
    obtain ⟨y1, hy1, hp⟩ := bind_some hp
    refine cx_loopg' (F := spec_sameInts_l1 a0 a1) (G := fun k R v => spec_sameInts_l1s a0 a1 k R v) (x := 0) (gh := ()) (fun (v1 : Int) (w1 : Unit) => (⟨26, [], [(1, (Sl (Ki .i64) a1)), (12, (Sl (Ki .i64) a0)), (13, (Vl (.int .i64 (a0.length : Int)))), (14, (Vl (.int .i64 v1)))], []⟩ : St)) (fun (y : Unit ⊕ Unit) => match y with | (.inl v2) => Zg E Exit.ret (fun (w2 : Unit) => (⟨26, [], [(4, (Vl (.bool false)))], []⟩ : St)) | (.inr v3) => Zg E (Exit.exit 0) (fun (w3 : Unit) => (⟨26, [], [], []⟩ : St))) (fun _ => rfl) (fun _ _ => rfl) ?_ hy1 (tx_to' rfl [] (sub_cons rfl (sub_cons rfl (sub_cons rfl (sub_cons rfl sub_nil)))) (by decide) pick_nil) ?_
    · clear hp hy1
      clear y1
      intro k rec1 KY1 ih1
      rintro x1 ⟨⟩ y1 hp
      replace hp : spec_sameInts_l1s a0 a1 k rec1 x1 = some y1 := hp
      unfold spec_sameInts_l1s at hp
      refine cx_seq' fun K13 hK13 => ?_
      refine cx_region' ?_
      refine sx_rd' (rd_bin' rfl rfl eg_int ru_lss) rfl rfl (wt_none' rfl) ?_
      refine sx_nil' ?_
      show TX E K13 _
      refine tx_k' hK13 ?_
      refine cx_seq' fun K14 hK14 => ?_
      refine cx_cond' rfl (fun h5 => ?_) (fun h5 => ?_)
      · replace hp := (br_t h5).symm.trans hp
        refine cx_skip' ?_
        show TX E K14 _
        refine tx_k' hK14 ?_
        refine cx_seq' fun K15 hK15 => ?_
        refine cx_block' ?_
        refine cx_seq' fun K16 hK16 => ?_
        refine cx_region' ?_
        refine sx_rd' (rd_move' rfl) rfl rfl (wt_none' rfl) ?_
        obtain ⟨r17, hr17, hp⟩ := bind_some hp
        refine sx_rd' (rd_at' (K := (Ki .i64)) rfl rfl hr17 Try.underlying23 info3) rfl rfl (wt_none' rfl) ?_
        refine sx_rd' (rd_load_pt' rfl rfl flat3) rfl rfl (wt_none' rfl) ?_
        refine sx_rd' (rd_assign' rfl) rfl rfl (wt_none' rfl) ?_
        refine sx_rd' (rd_assign' rfl) rfl rfl (wt_none' rfl) ?_
        refine sx_nil' ?_
        show TX E K16 _
        refine tx_k' hK16 ?_
        refine cx_seq' fun K17 hK17 => ?_
        refine cx_region' ?_
        refine sx_rd' (rd_move' rfl) rfl rfl (wt_none' rfl) ?_
        refine sx_rd' (rd_move' rfl) rfl rfl (wt_none' rfl) ?_
        refine sx_rd' (rd_move' rfl) rfl rfl (wt_none' rfl) ?_
        obtain ⟨r22, hr22, hp⟩ := bind_some hp
        refine sx_rd' (rd_at' (K := (Ki .i64)) rfl rfl hr22 Try.underlying23 info3) rfl rfl (wt_none' rfl) ?_
        refine sx_rd' (rd_load_pt' rfl rfl flat3) rfl rfl (wt_none' rfl) ?_
        refine sx_rd' (rd_bin' rfl rfl eg_int ru_neq) rfl rfl (wt_none' rfl) ?_
        refine sx_nil' ?_
        show TX E K17 _
        refine tx_k' hK17 ?_
        refine cx_cond' rfl (fun h6 => ?_) (fun h6 => ?_)
        · replace hp := (br_t h6).symm.trans hp
          refine cx_seq' fun K18 hK18 => ?_
          refine cx_region' ?_
          refine sx_rd' (rd_assign' rfl) rfl rfl (wt_none' rfl) ?_
          refine sx_nil' ?_
          show TX E K18 _
          refine tx_k' hK18 ?_
          refine cx_retc' ?_
          replace hp := Option.some.inj hp
          subst hp
          show TX E (Zg E Exit.ret _ Exit.ret) _
          exact tx_zend' () rfl [] (sub_cons rfl sub_nil) (by decide) pick_nil
        · replace hp := (br_f h6).symm.trans hp
          refine cx_skip' ?_
          show TX E K15 _
          refine tx_k' hK15 ?_
          refine cx_region' ?_
          refine sx_rd' (rd_bin' rfl rfl eg_int ru_add) rfl rfl (wt_none' rfl) ?_
          refine sx_rd' (rd_move' rfl) rfl rfl (wt_none' rfl) ?_
          refine sx_nil' ?_
          show TX E (KY1 _) _
          exact tx_pick' [] (sub_cons rfl (sub_cons rfl (sub_cons rfl (sub_cons rfl sub_nil)))) (by decide) pick_nil (ih1 (iadd .i64 x1 1) () _ hp)
      · replace hp := (br_f h5).symm.trans hp
        refine cx_exit' ?_
        replace hp := Option.some.inj hp
        subst hp
        show TX E (Zg E (Exit.exit 0) _ (Exit.exit 0)) _
        exact tx_zend' () rfl [] sub_nil (by decide) pick_nil
    · rcases y1 with v2 | v3
      · dsimp only at hp
        refine zg_out fun w2 => ?_
        replace hp := Option.some.inj hp
        subst hp
        refine tx_pick' (L' := [(4, (Vl (.bool false)))]) (H' := []) [] (sub_cons rfl sub_nil) (by decide) pick_nil ?_
        exact tx_ret1' Try.results46 rfl () (rv_tmp' rfl) (List.Sublist.refl _)
      · dsimp only at hp
        refine zg_out fun w3 => ?_
        show TX E K5 _
        refine tx_k' hK5 ?_
        refine cx_seq' fun K19 hK19 => ?_
        refine cx_region' ?_
        refine sx_rd' (rd_assign' rfl) rfl rfl (wt_none' rfl) ?_
        refine sx_nil' ?_
        show TX E K19 _
        refine tx_k' hK19 ?_
        refine cx_retc' ?_
        replace hp := Option.some.inj hp
        subst hp
        refine tx_pick' (L' := [(4, (Vl (.bool true)))]) (H' := []) [] (sub_cons rfl sub_nil) (by decide) pick_nil ?_
        exact tx_ret1' Try.results46 rfl () (rv_tmp' rfl) (List.Sublist.refl _)

def spec_SameGeom_l1s (a0_5 : List (List Int)) (a1_5 : List (List Int)) (k : Nat) (rec1 : Int → Option (Unit ⊕ Unit)) (x7 : Int) : Option (Unit ⊕ Unit) :=
  br (decide (x7 < (a0_5.length : Int)))
    ((idx a0_5 x7) >>= fun r68 =>
    (idx a1_5 x7) >>= fun r74 =>
    (spec_sameInts k r68 r74) >>= fun r76 =>
    br (!r76)
      (some (.inl ()))
      (rec1 (iadd .i64 x7 1)))
    (some (.inr ()))
def spec_SameGeom_l1 (a0_5 : List (List Int)) (a1_5 : List (List Int)) : Nat → Int → Option (Unit ⊕ Unit)
  | 0, _ => none
  | k + 1, v => spec_SameGeom_l1s a0_5 a1_5 k (spec_SameGeom_l1 a0_5 a1_5 k) v
def spec_SameGeom_j6 (k : Nat) (a0_5 : List (List Int)) (a1_5 : List (List Int)) (x6 : Bool) : Option (Bool) :=
  br x6
    (some false)
    ((spec_SameGeom_l1 a0_5 a1_5 k 0) >>= fun y1 => match y1 with
      | (.inl v8) =>
        (some false)
      | (.inr v9) =>
        (some true))
def spec_SameGeom_j5 (k : Nat) (a0_5 : List (List Int)) (a1_5 : List (List Int)) (a1_6 : List T27) (x5 : Bool) : Option (Bool) :=
  br x5
    (spec_SameGeom_j6 k a0_5 a1_5 true)
    (spec_SameGeom_j6 k a0_5 a1_5 (!decide (((0 : Nat) : Int) = (a1_6.length : Int))))
def spec_SameGeom_j4 (k : Nat) (a0_5 : List (List Int)) (a1_5 : List (List Int)) (a1_6 : List T27) (x4 : Bool) : Option (Bool) :=
  br x4
    (spec_SameGeom_j5 k a0_5 a1_5 a1_6 true)
    (spec_SameGeom_j5 k a0_5 a1_5 a1_6 (!decide ((a0_5.length : Int) = (a1_5.length : Int))))
def spec_SameGeom_j3 (k : Nat) (a0_5 : List (List Int)) (a1_5 : List (List Int)) (a1_6 : List T27) (a0_4 : List Int) (a1_4 : List Int) (x3 : Bool) : Option (Bool) :=
  br x3
    (spec_SameGeom_j4 k a0_5 a1_5 a1_6 true)
    ((spec_sameInts k a0_4 a1_4) >>= fun r41 =>
    spec_SameGeom_j4 k a0_5 a1_5 a1_6 (!r41))
def spec_SameGeom_j2 (k : Nat) (a0_5 : List (List Int)) (a1_5 : List (List Int)) (a1_6 : List T27) (a0_4 : List Int) (a1_4 : List Int) (a0_3 : List Nat) (a1_3 : List Nat) (x2 : Bool) : Option (Bool) :=
  br x2
    (spec_SameGeom_j3 k a0_5 a1_5 a1_6 a0_4 a1_4 true)
    ((spec_SameFloats k a0_3 a1_3) >>= fun r33 =>
    spec_SameGeom_j3 k a0_5 a1_5 a1_6 a0_4 a1_4 (!r33))
def spec_SameGeom_j1 (k : Nat) (a0_5 : List (List Int)) (a1_5 : List (List Int)) (a1_6 : List T27) (a0_4 : List Int) (a1_4 : List Int) (a0_3 : List Nat) (a1_3 : List Nat) (a0_2 : Int) (a1_2 : Int) (x1 : Bool) : Option (Bool) :=
  br x1
    (spec_SameGeom_j2 k a0_5 a1_5 a1_6 a0_4 a1_4 a0_3 a1_3 true)
    (spec_SameGeom_j2 k a0_5 a1_5 a1_6 a0_4 a1_4 a0_3 a1_3 (!decide (a0_2 = a1_2)))
def spec_SameGeom (k : Nat) (a0_0 : Int) (a0_1 : Int) (a0_2 : Int) (a0_3 : List Nat) (a0_4 : List Int) (a0_5 : List (List Int)) (a1_0 : Int) (a1_1 : Int) (a1_2 : Int) (a1_3 : List Nat) (a1_4 : List Int) (a1_5 : List (List Int)) (a1_6 : List T27) : Option (Bool) :=
  br (!decide (a0_0 = a1_0))
    (spec_SameGeom_j1 k a0_5 a1_5 a1_6 a0_4 a1_4 a0_3 a1_3 a0_2 a1_2 true)
    (spec_SameGeom_j1 k a0_5 a1_5 a1_6 a0_4 a1_4 a0_3 a1_3 a0_2 a1_2 (!decide (a0_1 = a1_1)))

theorem spec_SameGeom_sim {k : Nat}  (a0_0 : Int) (a0_1 : Int) (a0_2 : Int) (a0_3 : List Nat) (a0_4 : List Int) (a0_5 : List (List Int)) (a1_0 : Int) (a1_1 : Int) (a1_2 : Int) (a1_3 : List Nat) (a1_4 : List Int) (a1_5 : List (List Int)) (a1_6 : List T27) {out : Bool} (hp : spec_SameGeom k a0_0 a0_1 a0_2 a0_3 a0_4 a0_5 a1_0 a1_1 a1_2 a1_3 a1_4 a1_5 a1_6 = some out) : Go.Sx.Fn Try.prog 13 [(Ag [(Vl (.int .i64 a0_0)), (Vl (.int .i64 a0_1)), (Vl (.int .i64 a0_2)), (Sl Kf a0_3), (Sl (Ki .i64) a0_4), (Sl (Kl (Ki .i64)) a0_5), (Vl (.slice none 0 0))]), (Ag [(Vl (.int .i64 a1_0)), (Vl (.int .i64 a1_1)), (Vl (.int .i64 a1_2)), (Sl Kf a1_3), (Sl (Ki .i64) a1_4), (Sl (Kl (Ki .i64)) a1_5), (Sl KT27 a1_6)])] [] (fun w : Unit => (Vl (.bool out))) (fun w => []) := by
  unfold spec_SameGeom at hp
  refine fn_of Try.func13 rfl Try.ntmps13 rfl fun E hM => ?_
  refine cx_seq' fun K1 hK1 => ?_
  refine cx_region' ?_
  refine sx_ox' (ox_box' rfl (lv_ag _) rfl rfl) (wt_none' rfl) fun q2 => ?_
  refine sx_ox' (ox_box' rfl (lv_ag _) rfl rfl) (wt_none' rfl) fun q3 => ?_
  refine sx_rd' (rd_assign' rfl) rfl rfl (wt_none' rfl) ?_
  refine sx_nil' ?_
  show TX E K1 _
  refine tx_k' hK1 ?_
  refine cx_seq' fun K2 hK2 => ?_
  refine cx_seq' fun K3 hK3 => ?_
  refine cx_region' ?_
  refine sx_rd' (rd_field0' rfl Try.underlying27 rfl info3 rfl) rfl rfl (wt_none' rfl) ?_
  refine sx_rd' (rd_load' (i := 1) (o := 0) rfl ⟨rfl, rfl, rfl, rfl⟩ rfl flat3) rfl rfl (wt_none' rfl) ?_
  refine sx_rd' (rd_field0' rfl Try.underlying27 rfl info3 rfl) rfl rfl (wt_none' rfl) ?_
  refine sx_rd' (rd_load' (i := 0) (o := 0) rfl ⟨rfl, rfl, rfl, rfl⟩ rfl flat3) rfl rfl (wt_none' rfl) ?_
  refine sx_rd' (rd_bin' rfl rfl eg_int ru_neq) rfl rfl (wt_none' rfl) ?_
  refine sx_rd' (rd_move' rfl) rfl rfl (wt_none' rfl) ?_
  refine sx_cutn' 6 (fun (v1 : Bool) => (⟨96, [], [(2, (Vl (.pointer (some q2)))), (3, (Vl (.pointer (some q3)))), (20, (Vl (.bool v1)))], [⟨.pointer (some q2), [(Vl (.int .i64 a0_0)), (Vl (.int .i64 a0_1)), (Vl (.int .i64 a0_2)), (Sl Kf a0_3), (Sl (Ki .i64) a0_4), (Sl (Kl (Ki .i64)) a0_5), (Vl (.slice none 0 0))], 27, none⟩, ⟨.pointer (some q3), [(Vl (.int .i64 a1_0)), (Vl (.int .i64 a1_1)), (Vl (.int .i64 a1_2)), (Sl Kf a1_3), (Sl (Ki .i64) a1_4), (Sl (Kl (Ki .i64)) a1_5), (Sl KT27 a1_6)], 27, none⟩]⟩ : St)) (fun (v1 : Bool) => spec_SameGeom_j1 k a0_5 a1_5 a1_6 a0_4 a1_4 a0_3 a1_3 a0_2 a1_2 v1 = some out) ?_ ?_
  · rintro x1 hp
    replace hp : spec_SameGeom_j1 k a0_5 a1_5 a1_6 a0_4 a1_4 a0_3 a1_3 a0_2 a1_2 x1 = some out := hp
    unfold spec_SameGeom_j1 at hp
    refine sx_rd' (rd_move' rfl) rfl rfl (wt_none' rfl) ?_
    refine sx_cutn' 6 (fun (v2 : Bool) => (⟨96, [], [(2, (Vl (.pointer (some q2)))), (3, (Vl (.pointer (some q3)))), (27, (Vl (.bool v2)))], [⟨.pointer (some q2), [(Vl (.int .i64 a0_0)), (Vl (.int .i64 a0_1)), (Vl (.int .i64 a0_2)), (Sl Kf a0_3), (Sl (Ki .i64) a0_4), (Sl (Kl (Ki .i64)) a0_5), (Vl (.slice none 0 0))], 27, none⟩, ⟨.pointer (some q3), [(Vl (.int .i64 a1_0)), (Vl (.int .i64 a1_1)), (Vl (.int .i64 a1_2)), (Sl Kf a1_3), (Sl (Ki .i64) a1_4), (Sl (Kl (Ki .i64)) a1_5), (Sl KT27 a1_6)], 27, none⟩]⟩ : St)) (fun (v2 : Bool) => spec_SameGeom_j2 k a0_5 a1_5 a1_6 a0_4 a1_4 a0_3 a1_3 v2 = some out) ?_ ?_
    · rintro x2 hp
      replace hp : spec_SameGeom_j2 k a0_5 a1_5 a1_6 a0_4 a1_4 a0_3 a1_3 x2 = some out := hp
      unfold spec_SameGeom_j2 at hp
      refine sx_rd' (rd_move' rfl) rfl rfl (wt_none' rfl) ?_
      refine sx_cutn' 7 (fun (v3 : Bool) => (⟨96, [], [(2, (Vl (.pointer (some q2)))), (3, (Vl (.pointer (some q3)))), (35, (Vl (.bool v3)))], [⟨.pointer (some q2), [(Vl (.int .i64 a0_0)), (Vl (.int .i64 a0_1)), (Vl (.int .i64 a0_2)), (Sl Kf a0_3), (Sl (Ki .i64) a0_4), (Sl (Kl (Ki .i64)) a0_5), (Vl (.slice none 0 0))], 27, none⟩, ⟨.pointer (some q3), [(Vl (.int .i64 a1_0)), (Vl (.int .i64 a1_1)), (Vl (.int .i64 a1_2)), (Sl Kf a1_3), (Sl (Ki .i64) a1_4), (Sl (Kl (Ki .i64)) a1_5), (Sl KT27 a1_6)], 27, none⟩]⟩ : St)) (fun (v3 : Bool) => spec_SameGeom_j3 k a0_5 a1_5 a1_6 a0_4 a1_4 v3 = some out) ?_ ?_
      · rintro x3 hp
        replace hp : spec_SameGeom_j3 k a0_5 a1_5 a1_6 a0_4 a1_4 x3 = some out := hp
        unfold spec_SameGeom_j3 at hp
        refine sx_rd' (rd_move' rfl) rfl rfl (wt_none' rfl) ?_
        refine sx_cutn' 7 (fun (v4 : Bool) => (⟨96, [], [(2, (Vl (.pointer (some q2)))), (3, (Vl (.pointer (some q3)))), (43, (Vl (.bool v4)))], [⟨.pointer (some q2), [(Vl (.int .i64 a0_0)), (Vl (.int .i64 a0_1)), (Vl (.int .i64 a0_2)), (Sl Kf a0_3), (Sl (Ki .i64) a0_4), (Sl (Kl (Ki .i64)) a0_5), (Vl (.slice none 0 0))], 27, none⟩, ⟨.pointer (some q3), [(Vl (.int .i64 a1_0)), (Vl (.int .i64 a1_1)), (Vl (.int .i64 a1_2)), (Sl Kf a1_3), (Sl (Ki .i64) a1_4), (Sl (Kl (Ki .i64)) a1_5), (Sl KT27 a1_6)], 27, none⟩]⟩ : St)) (fun (v4 : Bool) => spec_SameGeom_j4 k a0_5 a1_5 a1_6 v4 = some out) ?_ ?_
        · rintro x4 hp
          replace hp : spec_SameGeom_j4 k a0_5 a1_5 a1_6 x4 = some out := hp
          unfold spec_SameGeom_j4 at hp
          refine sx_rd' (rd_move' rfl) rfl rfl (wt_none' rfl) ?_
          refine sx_cutn' 8 (fun (v5 : Bool) => (⟨96, [], [(2, (Vl (.pointer (some q2)))), (3, (Vl (.pointer (some q3)))), (52, (Vl (.bool v5)))], [⟨.pointer (some q2), [(Vl (.int .i64 a0_0)), (Vl (.int .i64 a0_1)), (Vl (.int .i64 a0_2)), (Sl Kf a0_3), (Sl (Ki .i64) a0_4), (Sl (Kl (Ki .i64)) a0_5), (Vl (.slice none 0 0))], 27, none⟩, ⟨.pointer (some q3), [(Vl (.int .i64 a1_0)), (Vl (.int .i64 a1_1)), (Vl (.int .i64 a1_2)), (Sl Kf a1_3), (Sl (Ki .i64) a1_4), (Sl (Kl (Ki .i64)) a1_5), (Sl KT27 a1_6)], 27, none⟩]⟩ : St)) (fun (v5 : Bool) => spec_SameGeom_j5 k a0_5 a1_5 a1_6 v5 = some out) ?_ ?_
          · rintro x5 hp
            replace hp : spec_SameGeom_j5 k a0_5 a1_5 a1_6 x5 = some out := hp
            unfold spec_SameGeom_j5 at hp
            refine sx_rd' (rd_move' rfl) rfl rfl (wt_none' rfl) ?_
            refine sx_cutn' 8 (fun (v6 : Bool) => (⟨96, [], [(2, (Vl (.pointer (some q2)))), (3, (Vl (.pointer (some q3)))), (61, (Vl (.bool v6)))], [⟨.pointer (some q2), [(Vl (.int .i64 a0_0)), (Vl (.int .i64 a0_1)), (Vl (.int .i64 a0_2)), (Sl Kf a0_3), (Sl (Ki .i64) a0_4), (Sl (Kl (Ki .i64)) a0_5), (Vl (.slice none 0 0))], 27, none⟩, ⟨.pointer (some q3), [(Vl (.int .i64 a1_0)), (Vl (.int .i64 a1_1)), (Vl (.int .i64 a1_2)), (Sl Kf a1_3), (Sl (Ki .i64) a1_4), (Sl (Kl (Ki .i64)) a1_5), (Sl KT27 a1_6)], 27, none⟩]⟩ : St)) (fun (v6 : Bool) => spec_SameGeom_j6 k a0_5 a1_5 v6 = some out) ?_ ?_
            · rintro x6 hp
              replace hp : spec_SameGeom_j6 k a0_5 a1_5 x6 = some out := hp
              unfold spec_SameGeom_j6 at hp
              refine sx_nil' ?_
              show TX E K3 _
              refine tx_k' hK3 ?_
              refine cx_cond' rfl (fun h7 => ?_) (fun h7 => ?_)
              · replace hp := (br_t h7).symm.trans hp
                refine cx_seq' fun K10 hK10 => ?_
                refine cx_region' ?_
                refine sx_rd' (rd_assign' rfl) rfl rfl (wt_none' rfl) ?_
                refine sx_nil' ?_
                show TX E K10 _
                refine tx_k' hK10 ?_
                refine cx_retc' ?_
                replace hp := Option.some.inj hp
                subst hp
                refine tx_pick' (L' := [(4, (Vl (.bool false)))]) (H' := []) [] (sub_cons rfl sub_nil) (by decide) pick_nil ?_
                exact tx_ret1' Try.results13 rfl () (rv_tmp' rfl) (List.Sublist.refl _)
              · replace hp := (br_f h7).symm.trans hp
                refine cx_skip' ?_
                show TX E K2 _
                refine tx_k' hK2 ?_
                refine cx_seq' fun K11 hK11 => ?_
                refine cx_seq' fun K12 hK12 => ?_
                refine cx_region' ?_
                refine sx_rd' (rd_field' (off := 5) rfl Try.underlying27 rfl info24 rfl) rfl rfl (wt_none' rfl) ?_
                refine sx_rd' (rd_load' (i := 0) (o := 5) rfl ⟨rfl, rfl, rfl, rfl⟩ rfl flat24) rfl rfl (wt_none' rfl) ?_
                refine sx_rd' (rd_len' rfl Try.underlying24) rfl rfl (wt_none' rfl) ?_
                refine sx_rd' (rd_move' rfl) rfl rfl (wt_none' rfl) ?_
                refine sx_nil' ?_
                show TX E K12 _
                refine tx_k' hK12 ?_
                refine cx_block' ?_
                obtain ⟨y1, hy1, hp⟩ := bind_some hp
                refine cx_loopg' (F := spec_SameGeom_l1 a0_5 a1_5) (G := fun k R v => spec_SameGeom_l1s a0_5 a1_5 k R v) (x := 0) (gh := ()) (fun (v7 : Int) (w7 : Unit) => (⟨96, [], [(2, (Vl (.pointer (some q2)))), (3, (Vl (.pointer (some q3)))), (63, (Sl (Kl (Ki .i64)) a0_5)), (64, (Vl (.int .i64 (a0_5.length : Int)))), (65, (Vl (.int .i64 v7)))], [⟨.pointer (some q2), [(Vl (.int .i64 a0_0)), (Vl (.int .i64 a0_1)), (Vl (.int .i64 a0_2)), (Sl Kf a0_3), (Sl (Ki .i64) a0_4), (Sl (Kl (Ki .i64)) a0_5), (Vl (.slice none 0 0))], 27, none⟩, ⟨.pointer (some q3), [(Vl (.int .i64 a1_0)), (Vl (.int .i64 a1_1)), (Vl (.int .i64 a1_2)), (Sl Kf a1_3), (Sl (Ki .i64) a1_4), (Sl (Kl (Ki .i64)) a1_5), (Sl KT27 a1_6)], 27, none⟩]⟩ : St)) (fun (y : Unit ⊕ Unit) => match y with | (.inl v8) => Zg E Exit.ret (fun (w8 : Unit) => (⟨96, [], [(4, (Vl (.bool false)))], []⟩ : St)) | (.inr v9) => Zg E (Exit.exit 0) (fun (w9 : Unit) => (⟨96, [], [(2, (Vl (.pointer (some q2)))), (3, (Vl (.pointer (some q3))))], [⟨.pointer (some q2), [(Vl (.int .i64 a0_0)), (Vl (.int .i64 a0_1)), (Vl (.int .i64 a0_2)), (Sl Kf a0_3), (Sl (Ki .i64) a0_4), (Sl (Kl (Ki .i64)) a0_5), (Vl (.slice none 0 0))], 27, none⟩, ⟨.pointer (some q3), [(Vl (.int .i64 a1_0)), (Vl (.int .i64 a1_1)), (Vl (.int .i64 a1_2)), (Sl Kf a1_3), (Sl (Ki .i64) a1_4), (Sl (Kl (Ki .i64)) a1_5), (Sl KT27 a1_6)], 27, none⟩]⟩ : St))) (fun _ => rfl) (fun _ _ => rfl) ?_ hy1 (tx_to' rfl [0, 1] (sub_cons rfl (sub_cons rfl (sub_cons rfl (sub_cons rfl (sub_cons rfl sub_nil))))) (by decide) (pick_cons rfl (pick_cons rfl pick_nil))) ?_
                · clear hp hy1
                  clear y1
                  intro k rec1 KY1 ih1
                  rintro x7 ⟨⟩ y1 hp
                  replace hp : spec_SameGeom_l1s a0_5 a1_5 k rec1 x7 = some y1 := hp
                  unfold spec_SameGeom_l1s at hp
                  refine cx_seq' fun K19 hK19 => ?_
                  refine cx_region' ?_
                  refine sx_rd' (rd_bin' rfl rfl eg_int ru_lss) rfl rfl (wt_none' rfl) ?_
                  refine sx_nil' ?_
                  show TX E K19 _
                  refine tx_k' hK19 ?_
                  refine cx_seq' fun K20 hK20 => ?_
                  refine cx_cond' rfl (fun h11 => ?_) (fun h11 => ?_)
                  · replace hp := (br_t h11).symm.trans hp
                    refine cx_skip' ?_
                    show TX E K20 _
                    refine tx_k' hK20 ?_
                    refine cx_seq' fun K21 hK21 => ?_
                    refine cx_block' ?_
                    refine cx_seq' fun K22 hK22 => ?_
                    refine cx_region' ?_
                    refine sx_rd' (rd_move' rfl) rfl rfl (wt_none' rfl) ?_
                    obtain ⟨r68, hr68, hp⟩ := bind_some hp
                    refine sx_rd' (rd_at' (K := (Kl (Ki .i64))) rfl rfl hr68 Try.underlying24 info23) rfl rfl (wt_none' rfl) ?_
                    refine sx_rd' (rd_load_pt' rfl rfl flat23) rfl rfl (wt_none' rfl) ?_
                    refine sx_rd' (rd_assign' rfl) rfl rfl (wt_none' rfl) ?_
                    refine sx_rd' (rd_assign' rfl) rfl rfl (wt_none' rfl) ?_
                    refine sx_nil' ?_
                    show TX E K22 _
                    refine tx_k' hK22 ?_
                    refine cx_seq' fun K23 hK23 => ?_
                    refine cx_region' ?_
                    refine sx_rd' (rd_move' rfl) rfl rfl (wt_none' rfl) ?_
                    refine sx_rd' (rd_field' (off := 5) rfl Try.underlying27 rfl info24 rfl) rfl rfl (wt_none' rfl) ?_
                    refine sx_rd' (rd_load' (i := 1) (o := 5) rfl ⟨rfl, rfl, rfl, rfl⟩ rfl flat24) rfl rfl (wt_none' rfl) ?_
                    refine sx_rd' (rd_move' rfl) rfl rfl (wt_none' rfl) ?_
                    obtain ⟨r74, hr74, hp⟩ := bind_some hp
                    refine sx_rd' (rd_at' (K := (Kl (Ki .i64))) rfl rfl hr74 Try.underlying24 info23) rfl rfl (wt_none' rfl) ?_
                    refine sx_rd' (rd_load_pt' rfl rfl flat23) rfl rfl (wt_none' rfl) ?_
                    obtain ⟨r76, hr76, hp⟩ := bind_some hp
                    refine sx_ox' (ox_calln' (ent_fn' Try.func46 isn46 rfl rfl) (spec_sameInts_sim _ _ hr76 : Go.Sx.Fn Try.prog 46 [(Sl (Ki .i64) r68), (Sl (Ki .i64) r74)] [] (fun x : Unit => (Vl (.bool r76))) (fun x => [])) (Hn := fun x : Unit => [⟨.pointer (some q2), [(Vl (.int .i64 a0_0)), (Vl (.int .i64 a0_1)), (Vl (.int .i64 a0_2)), (Sl Kf a0_3), (Sl (Ki .i64) a0_4), (Sl (Kl (Ki .i64)) a0_5), (Vl (.slice none 0 0))], 27, none⟩, ⟨.pointer (some q3), [(Vl (.int .i64 a1_0)), (Vl (.int .i64 a1_1)), (Vl (.int .i64 a1_2)), (Sl Kf a1_3), (Sl (Ki .i64) a1_4), (Sl (Kl (Ki .i64)) a1_5), (Sl KT27 a1_6)], 27, none⟩]) (fun _ => rfl) rfl rfl) (wt_none' rfl) fun ⟨⟩ => ?_
                    refine sx_rd' (rd_un' rfl ru_not) rfl rfl (wt_none' rfl) ?_
                    refine sx_nil' ?_
                    show TX E K23 _
                    refine tx_k' hK23 ?_
                    refine cx_cond' rfl (fun h12 => ?_) (fun h12 => ?_)
                    · replace hp := (br_t h12).symm.trans hp
                      refine cx_seq' fun K24 hK24 => ?_
                      refine cx_region' ?_
                      refine sx_rd' (rd_assign' rfl) rfl rfl (wt_none' rfl) ?_
                      refine sx_nil' ?_
                      show TX E K24 _
                      refine tx_k' hK24 ?_
                      refine cx_retc' ?_
                      replace hp := Option.some.inj hp
                      subst hp
                      show TX E (Zg E Exit.ret _ Exit.ret) _
                      exact tx_zend' () rfl [] (sub_cons rfl sub_nil) (by decide) pick_nil
                    · replace hp := (br_f h12).symm.trans hp
                      refine cx_skip' ?_
                      show TX E K21 _
                      refine tx_k' hK21 ?_
                      refine cx_region' ?_
                      refine sx_rd' (rd_bin' rfl rfl eg_int ru_add) rfl rfl (wt_none' rfl) ?_
                      refine sx_rd' (rd_move' rfl) rfl rfl (wt_none' rfl) ?_
                      refine sx_nil' ?_
                      show TX E (KY1 _) _
                      exact tx_pick' [0, 1] (sub_cons rfl (sub_cons rfl (sub_cons rfl (sub_cons rfl (sub_cons rfl sub_nil))))) (by decide) (pick_cons rfl (pick_cons rfl pick_nil)) (ih1 (iadd .i64 x7 1) () _ hp)
                  · replace hp := (br_f h11).symm.trans hp
                    refine cx_exit' ?_
                    replace hp := Option.some.inj hp
                    subst hp
                    show TX E (Zg E (Exit.exit 0) _ (Exit.exit 0)) _
                    exact tx_zend' () rfl [0, 1] (sub_cons rfl (sub_cons rfl sub_nil)) (by decide) (pick_cons rfl (pick_cons rfl pick_nil))
                · rcases y1 with v8 | v9
                  · dsimp only at hp
                    refine zg_out fun w8 => ?_
                    replace hp := Option.some.inj hp
                    subst hp
                    refine tx_pick' (L' := [(4, (Vl (.bool false)))]) (H' := []) [] (sub_cons rfl sub_nil) (by decide) pick_nil ?_
                    exact tx_ret1' Try.results13 rfl () (rv_tmp' rfl) (List.Sublist.refl _)
                  · dsimp only at hp
                    refine zg_out fun w9 => ?_
                    show TX E K11 _
                    refine tx_k' hK11 ?_
                    refine cx_seq' fun K25 hK25 => ?_
                    refine cx_seq' fun K26 hK26 => ?_
                    refine cx_region' ?_
                    refine sx_rd' (rd_field' (off := 6) rfl Try.underlying27 rfl info25 rfl) rfl rfl (wt_none' rfl) ?_
                    refine sx_rd' (rd_load' (i := 0) (o := 6) rfl ⟨rfl, rfl, rfl, rfl⟩ rfl flat25) rfl rfl (wt_none' rfl) ?_
                    refine sx_rd' (rd_lenv' rfl Try.underlying25) rfl rfl (wt_none' rfl) ?_
                    refine sx_rd' (rd_move' rfl) rfl rfl (wt_none' rfl) ?_
                    refine sx_nil' ?_
                    show TX E K26 _
                    refine tx_k' hK26 ?_
                    refine cx_block' ?_
                    refine tx_loop' ?_
                    refine tx_round' ?_
                    refine cx_seq' fun K27 hK27 => ?_
                    refine cx_region' ?_
                    refine sx_rd' (rd_bin' rfl rfl eg_int ru_lss) rfl rfl (wt_none' rfl) ?_
                    refine sx_nil' ?_
                    show TX E K27 _
                    refine tx_k' hK27 ?_
                    refine cx_seq' fun K28 hK28 => ?_
                    refine cx_cond_f' rfl rfl ?_
                    refine cx_exit' ?_
                    show TX E K25 _
                    refine tx_k' hK25 ?_
                    refine cx_seq' fun K29 hK29 => ?_
                    refine cx_region' ?_
                    refine sx_rd' (rd_assign' rfl) rfl rfl (wt_none' rfl) ?_
                    refine sx_nil' ?_
                    show TX E K29 _
                    refine tx_k' hK29 ?_
                    refine cx_retc' ?_
                    replace hp := Option.some.inj hp
                    subst hp
                    refine tx_pick' (L' := [(4, (Vl (.bool true)))]) (H' := []) [] (sub_cons rfl sub_nil) (by decide) pick_nil ?_
                    exact tx_ret1' Try.results13 rfl () (rv_tmp' rfl) (List.Sublist.refl _)
            · intro K9 hK9
              rcases br_cases hp with ⟨h6, hp⟩ | ⟨h6, hp⟩
              · refine sx_skip' rfl rfl (wt_is' (wt_guard' rfl rfl rfl) (beq_tf h6)) ?_
                refine sx_skip' rfl rfl (wt_is' (wt_guard' rfl rfl rfl) (beq_tf h6)) ?_
                refine sx_skip' rfl rfl (wt_is' (wt_guard' rfl rfl rfl) (beq_tf h6)) ?_
                refine sx_skip' rfl rfl (wt_is' (wt_guard' rfl rfl rfl) (beq_tf h6)) ?_
                refine sx_skip' rfl rfl (wt_is' (wt_guard' rfl rfl rfl) (beq_tf h6)) ?_
                refine sx_skip' rfl rfl (wt_is' (wt_guard' rfl rfl rfl) (beq_tf h6)) ?_
                refine sx_skip' rfl rfl (wt_is' (wt_guard' rfl rfl rfl) (beq_tf h6)) ?_
                refine sx_rd' (rd_pick_true' rfl h6 rfl) rfl rfl (wt_none' rfl) ?_
                refine sx_nil' ?_
                show TX E K9 _
                exact tx_pick' [0, 1] (sub_cons rfl (sub_cons rfl (sub_cons rfl sub_nil))) (by decide) (pick_cons rfl (pick_cons rfl pick_nil)) (hK9 true hp)
              · refine sx_rd' (rd_field' (off := 6) rfl Try.underlying27 rfl info25 rfl) rfl rfl (wt_is' (wt_guard' rfl rfl rfl) (beq_ff h6)) ?_
                refine sx_rd' (rd_load' (i := 0) (o := 6) rfl ⟨rfl, rfl, rfl, rfl⟩ rfl flat25) rfl rfl (wt_is' (wt_guard' rfl rfl rfl) (beq_ff h6)) ?_
                refine sx_rd' (rd_lenv' rfl Try.underlying25) rfl rfl (wt_is' (wt_guard' rfl rfl rfl) (beq_ff h6)) ?_
                refine sx_rd' (rd_field' (off := 6) rfl Try.underlying27 rfl info25 rfl) rfl rfl (wt_is' (wt_guard' rfl rfl rfl) (beq_ff h6)) ?_
                refine sx_rd' (rd_load' (i := 1) (o := 6) rfl ⟨rfl, rfl, rfl, rfl⟩ rfl flat25) rfl rfl (wt_is' (wt_guard' rfl rfl rfl) (beq_ff h6)) ?_
                refine sx_rd' (rd_len' rfl Try.underlying25) rfl rfl (wt_is' (wt_guard' rfl rfl rfl) (beq_ff h6)) ?_
                refine sx_rd' (rd_bin' rfl rfl eg_int ru_neq) rfl rfl (wt_is' (wt_guard' rfl rfl rfl) (beq_ff h6)) ?_
                refine sx_rd' (rd_pick_false' rfl h6 rfl) rfl rfl (wt_none' rfl) ?_
                refine sx_nil' ?_
                show TX E K9 _
                exact tx_pick' [0, 1] (sub_cons rfl (sub_cons rfl (sub_cons rfl sub_nil))) (by decide) (pick_cons rfl (pick_cons rfl pick_nil)) (hK9 (!decide (((0 : Nat) : Int) = (a1_6.length : Int))) hp)
          · intro K8 hK8
            rcases br_cases hp with ⟨h5, hp⟩ | ⟨h5, hp⟩
            · refine sx_skip' rfl rfl (wt_is' (wt_guard' rfl rfl rfl) (beq_tf h5)) ?_
              refine sx_skip' rfl rfl (wt_is' (wt_guard' rfl rfl rfl) (beq_tf h5)) ?_
              refine sx_skip' rfl rfl (wt_is' (wt_guard' rfl rfl rfl) (beq_tf h5)) ?_
              refine sx_skip' rfl rfl (wt_is' (wt_guard' rfl rfl rfl) (beq_tf h5)) ?_
              refine sx_skip' rfl rfl (wt_is' (wt_guard' rfl rfl rfl) (beq_tf h5)) ?_
              refine sx_skip' rfl rfl (wt_is' (wt_guard' rfl rfl rfl) (beq_tf h5)) ?_
              refine sx_skip' rfl rfl (wt_is' (wt_guard' rfl rfl rfl) (beq_tf h5)) ?_
              refine sx_rd' (rd_pick_true' rfl h5 rfl) rfl rfl (wt_none' rfl) ?_
              refine sx_nil' ?_
              show TX E K8 _
              exact tx_pick' [0, 1] (sub_cons rfl (sub_cons rfl (sub_cons rfl sub_nil))) (by decide) (pick_cons rfl (pick_cons rfl pick_nil)) (hK8 true hp)
            · refine sx_rd' (rd_field' (off := 5) rfl Try.underlying27 rfl info24 rfl) rfl rfl (wt_is' (wt_guard' rfl rfl rfl) (beq_ff h5)) ?_
              refine sx_rd' (rd_load' (i := 0) (o := 5) rfl ⟨rfl, rfl, rfl, rfl⟩ rfl flat24) rfl rfl (wt_is' (wt_guard' rfl rfl rfl) (beq_ff h5)) ?_
              refine sx_rd' (rd_len' rfl Try.underlying24) rfl rfl (wt_is' (wt_guard' rfl rfl rfl) (beq_ff h5)) ?_
              refine sx_rd' (rd_field' (off := 5) rfl Try.underlying27 rfl info24 rfl) rfl rfl (wt_is' (wt_guard' rfl rfl rfl) (beq_ff h5)) ?_
              refine sx_rd' (rd_load' (i := 1) (o := 5) rfl ⟨rfl, rfl, rfl, rfl⟩ rfl flat24) rfl rfl (wt_is' (wt_guard' rfl rfl rfl) (beq_ff h5)) ?_
              refine sx_rd' (rd_len' rfl Try.underlying24) rfl rfl (wt_is' (wt_guard' rfl rfl rfl) (beq_ff h5)) ?_
              refine sx_rd' (rd_bin' rfl rfl eg_int ru_neq) rfl rfl (wt_is' (wt_guard' rfl rfl rfl) (beq_ff h5)) ?_
              refine sx_rd' (rd_pick_false' rfl h5 rfl) rfl rfl (wt_none' rfl) ?_
              refine sx_nil' ?_
              show TX E K8 _
              exact tx_pick' [0, 1] (sub_cons rfl (sub_cons rfl (sub_cons rfl sub_nil))) (by decide) (pick_cons rfl (pick_cons rfl pick_nil)) (hK8 (!decide ((a0_5.length : Int) = (a1_5.length : Int))) hp)
        · intro K7 hK7
          rcases br_cases hp with ⟨h4, hp⟩ | ⟨h4, hp⟩
          · refine sx_skip' rfl rfl (wt_is' (wt_guard' rfl rfl rfl) (beq_tf h4)) ?_
            refine sx_skip' rfl rfl (wt_is' (wt_guard' rfl rfl rfl) (beq_tf h4)) ?_
            refine sx_skip' rfl rfl (wt_is' (wt_guard' rfl rfl rfl) (beq_tf h4)) ?_
            refine sx_skip' rfl rfl (wt_is' (wt_guard' rfl rfl rfl) (beq_tf h4)) ?_
            refine sx_skip' rfl rfl (wt_is' (wt_guard' rfl rfl rfl) (beq_tf h4)) ?_
            refine sx_skip' rfl rfl (wt_is' (wt_guard' rfl rfl rfl) (beq_tf h4)) ?_
            refine sx_rd' (rd_pick_true' rfl h4 rfl) rfl rfl (wt_none' rfl) ?_
            refine sx_nil' ?_
            show TX E K7 _
            exact tx_pick' [0, 1] (sub_cons rfl (sub_cons rfl (sub_cons rfl sub_nil))) (by decide) (pick_cons rfl (pick_cons rfl pick_nil)) (hK7 true hp)
          · refine sx_rd' (rd_field' (off := 4) rfl Try.underlying27 rfl info23 rfl) rfl rfl (wt_is' (wt_guard' rfl rfl rfl) (beq_ff h4)) ?_
            refine sx_rd' (rd_load' (i := 0) (o := 4) rfl ⟨rfl, rfl, rfl, rfl⟩ rfl flat23) rfl rfl (wt_is' (wt_guard' rfl rfl rfl) (beq_ff h4)) ?_
            refine sx_rd' (rd_field' (off := 4) rfl Try.underlying27 rfl info23 rfl) rfl rfl (wt_is' (wt_guard' rfl rfl rfl) (beq_ff h4)) ?_
            refine sx_rd' (rd_load' (i := 1) (o := 4) rfl ⟨rfl, rfl, rfl, rfl⟩ rfl flat23) rfl rfl (wt_is' (wt_guard' rfl rfl rfl) (beq_ff h4)) ?_
            obtain ⟨r41, hr41, hp⟩ := bind_some hp
            refine sx_ox' (ox_calln' (ent_fn' Try.func46 isn46 rfl rfl) (spec_sameInts_sim _ _ hr41 : Go.Sx.Fn Try.prog 46 [(Sl (Ki .i64) a0_4), (Sl (Ki .i64) a1_4)] [] (fun x : Unit => (Vl (.bool r41))) (fun x => [])) (Hn := fun x : Unit => [⟨.pointer (some q2), [(Vl (.int .i64 a0_0)), (Vl (.int .i64 a0_1)), (Vl (.int .i64 a0_2)), (Sl Kf a0_3), (Sl (Ki .i64) a0_4), (Sl (Kl (Ki .i64)) a0_5), (Vl (.slice none 0 0))], 27, none⟩, ⟨.pointer (some q3), [(Vl (.int .i64 a1_0)), (Vl (.int .i64 a1_1)), (Vl (.int .i64 a1_2)), (Sl Kf a1_3), (Sl (Ki .i64) a1_4), (Sl (Kl (Ki .i64)) a1_5), (Sl KT27 a1_6)], 27, none⟩]) (fun _ => rfl) rfl rfl) (wt_is' (wt_guard' rfl rfl rfl) (beq_ff h4)) fun ⟨⟩ => ?_
            refine sx_rd' (rd_un' rfl ru_not) rfl rfl (wt_is' (wt_guard' rfl rfl rfl) (beq_ff h4)) ?_
            refine sx_rd' (rd_pick_false' rfl h4 rfl) rfl rfl (wt_none' rfl) ?_
            refine sx_nil' ?_
            show TX E K7 _
            exact tx_pick' [0, 1] (sub_cons rfl (sub_cons rfl (sub_cons rfl sub_nil))) (by decide) (pick_cons rfl (pick_cons rfl pick_nil)) (hK7 (!r41) hp)
      · intro K6 hK6
        rcases br_cases hp with ⟨h3, hp⟩ | ⟨h3, hp⟩
        · refine sx_skip' rfl rfl (wt_is' (wt_guard' rfl rfl rfl) (beq_tf h3)) ?_
          refine sx_skip' rfl rfl (wt_is' (wt_guard' rfl rfl rfl) (beq_tf h3)) ?_
          refine sx_skip' rfl rfl (wt_is' (wt_guard' rfl rfl rfl) (beq_tf h3)) ?_
          refine sx_skip' rfl rfl (wt_is' (wt_guard' rfl rfl rfl) (beq_tf h3)) ?_
          refine sx_skip' rfl rfl (wt_is' (wt_guard' rfl rfl rfl) (beq_tf h3)) ?_
          refine sx_skip' rfl rfl (wt_is' (wt_guard' rfl rfl rfl) (beq_tf h3)) ?_
          refine sx_rd' (rd_pick_true' rfl h3 rfl) rfl rfl (wt_none' rfl) ?_
          refine sx_nil' ?_
          show TX E K6 _
          exact tx_pick' [0, 1] (sub_cons rfl (sub_cons rfl (sub_cons rfl sub_nil))) (by decide) (pick_cons rfl (pick_cons rfl pick_nil)) (hK6 true hp)
        · refine sx_rd' (rd_field' (off := 3) rfl Try.underlying27 rfl info22 rfl) rfl rfl (wt_is' (wt_guard' rfl rfl rfl) (beq_ff h3)) ?_
          refine sx_rd' (rd_load' (i := 0) (o := 3) rfl ⟨rfl, rfl, rfl, rfl⟩ rfl flat22) rfl rfl (wt_is' (wt_guard' rfl rfl rfl) (beq_ff h3)) ?_
          refine sx_rd' (rd_field' (off := 3) rfl Try.underlying27 rfl info22 rfl) rfl rfl (wt_is' (wt_guard' rfl rfl rfl) (beq_ff h3)) ?_
          refine sx_rd' (rd_load' (i := 1) (o := 3) rfl ⟨rfl, rfl, rfl, rfl⟩ rfl flat22) rfl rfl (wt_is' (wt_guard' rfl rfl rfl) (beq_ff h3)) ?_
          obtain ⟨r33, hr33, hp⟩ := bind_some hp
          refine sx_ox' (ox_calln' (ent_fn' Try.func45 isn45 rfl rfl) (spec_SameFloats_sim _ _ hr33 : Go.Sx.Fn Try.prog 45 [(Sl Kf a0_3), (Sl Kf a1_3)] [] (fun x : Unit => (Vl (.bool r33))) (fun x => [])) (Hn := fun x : Unit => [⟨.pointer (some q2), [(Vl (.int .i64 a0_0)), (Vl (.int .i64 a0_1)), (Vl (.int .i64 a0_2)), (Sl Kf a0_3), (Sl (Ki .i64) a0_4), (Sl (Kl (Ki .i64)) a0_5), (Vl (.slice none 0 0))], 27, none⟩, ⟨.pointer (some q3), [(Vl (.int .i64 a1_0)), (Vl (.int .i64 a1_1)), (Vl (.int .i64 a1_2)), (Sl Kf a1_3), (Sl (Ki .i64) a1_4), (Sl (Kl (Ki .i64)) a1_5), (Sl KT27 a1_6)], 27, none⟩]) (fun _ => rfl) rfl rfl) (wt_is' (wt_guard' rfl rfl rfl) (beq_ff h3)) fun ⟨⟩ => ?_
          refine sx_rd' (rd_un' rfl ru_not) rfl rfl (wt_is' (wt_guard' rfl rfl rfl) (beq_ff h3)) ?_
          refine sx_rd' (rd_pick_false' rfl h3 rfl) rfl rfl (wt_none' rfl) ?_
          refine sx_nil' ?_
          show TX E K6 _
          exact tx_pick' [0, 1] (sub_cons rfl (sub_cons rfl (sub_cons rfl sub_nil))) (by decide) (pick_cons rfl (pick_cons rfl pick_nil)) (hK6 (!r33) hp)
    · intro K5 hK5
      rcases br_cases hp with ⟨h2, hp⟩ | ⟨h2, hp⟩
      · refine sx_skip' rfl rfl (wt_is' (wt_guard' rfl rfl rfl) (beq_tf h2)) ?_
        refine sx_skip' rfl rfl (wt_is' (wt_guard' rfl rfl rfl) (beq_tf h2)) ?_
        refine sx_skip' rfl rfl (wt_is' (wt_guard' rfl rfl rfl) (beq_tf h2)) ?_
        refine sx_skip' rfl rfl (wt_is' (wt_guard' rfl rfl rfl) (beq_tf h2)) ?_
        refine sx_skip' rfl rfl (wt_is' (wt_guard' rfl rfl rfl) (beq_tf h2)) ?_
        refine sx_rd' (rd_pick_true' rfl h2 rfl) rfl rfl (wt_none' rfl) ?_
        refine sx_nil' ?_
        show TX E K5 _
        exact tx_pick' [0, 1] (sub_cons rfl (sub_cons rfl (sub_cons rfl sub_nil))) (by decide) (pick_cons rfl (pick_cons rfl pick_nil)) (hK5 true hp)
      · refine sx_rd' (rd_field' (off := 2) rfl Try.underlying27 rfl info3 rfl) rfl rfl (wt_is' (wt_guard' rfl rfl rfl) (beq_ff h2)) ?_
        refine sx_rd' (rd_load' (i := 0) (o := 2) rfl ⟨rfl, rfl, rfl, rfl⟩ rfl flat3) rfl rfl (wt_is' (wt_guard' rfl rfl rfl) (beq_ff h2)) ?_
        refine sx_rd' (rd_field' (off := 2) rfl Try.underlying27 rfl info3 rfl) rfl rfl (wt_is' (wt_guard' rfl rfl rfl) (beq_ff h2)) ?_
        refine sx_rd' (rd_load' (i := 1) (o := 2) rfl ⟨rfl, rfl, rfl, rfl⟩ rfl flat3) rfl rfl (wt_is' (wt_guard' rfl rfl rfl) (beq_ff h2)) ?_
        refine sx_rd' (rd_bin' rfl rfl eg_int ru_neq) rfl rfl (wt_is' (wt_guard' rfl rfl rfl) (beq_ff h2)) ?_
        refine sx_rd' (rd_pick_false' rfl h2 rfl) rfl rfl (wt_none' rfl) ?_
        refine sx_nil' ?_
        show TX E K5 _
        exact tx_pick' [0, 1] (sub_cons rfl (sub_cons rfl (sub_cons rfl sub_nil))) (by decide) (pick_cons rfl (pick_cons rfl pick_nil)) (hK5 (!decide (a0_2 = a1_2)) hp)
  · intro K4 hK4
    rcases br_cases hp with ⟨h1, hp⟩ | ⟨h1, hp⟩
    · refine sx_skip' rfl rfl (wt_is' (wt_guard' rfl rfl rfl) (beq_tf h1)) ?_
      refine sx_skip' rfl rfl (wt_is' (wt_guard' rfl rfl rfl) (beq_tf h1)) ?_
      refine sx_skip' rfl rfl (wt_is' (wt_guard' rfl rfl rfl) (beq_tf h1)) ?_
      refine sx_skip' rfl rfl (wt_is' (wt_guard' rfl rfl rfl) (beq_tf h1)) ?_
      refine sx_skip' rfl rfl (wt_is' (wt_guard' rfl rfl rfl) (beq_tf h1)) ?_
      refine sx_rd' (rd_pick_true' rfl h1 rfl) rfl rfl (wt_none' rfl) ?_
      refine sx_nil' ?_
      show TX E K4 _
      exact tx_pick' [1, 0] (sub_cons rfl (sub_cons rfl (sub_cons rfl sub_nil))) (by decide) (pick_cons rfl (pick_cons rfl pick_nil)) (hK4 true hp)
    · refine sx_rd' (rd_field' (off := 1) rfl Try.underlying27 rfl info3 rfl) rfl rfl (wt_is' (wt_guard' rfl rfl rfl) (beq_ff h1)) ?_
      refine sx_rd' (rd_load' (i := 1) (o := 1) rfl ⟨rfl, rfl, rfl, rfl⟩ rfl flat3) rfl rfl (wt_is' (wt_guard' rfl rfl rfl) (beq_ff h1)) ?_
      refine sx_rd' (rd_field' (off := 1) rfl Try.underlying27 rfl info3 rfl) rfl rfl (wt_is' (wt_guard' rfl rfl rfl) (beq_ff h1)) ?_
      refine sx_rd' (rd_load' (i := 0) (o := 1) rfl ⟨rfl, rfl, rfl, rfl⟩ rfl flat3) rfl rfl (wt_is' (wt_guard' rfl rfl rfl) (beq_ff h1)) ?_
      refine sx_rd' (rd_bin' rfl rfl eg_int ru_neq) rfl rfl (wt_is' (wt_guard' rfl rfl rfl) (beq_ff h1)) ?_
      refine sx_rd' (rd_pick_false' rfl h1 rfl) rfl rfl (wt_none' rfl) ?_
      refine sx_nil' ?_
      show TX E K4 _
      exact tx_pick' [1, 0] (sub_cons rfl (sub_cons rfl (sub_cons rfl sub_nil))) (by decide) (pick_cons rfl (pick_cons rfl pick_nil)) (hK4 (!decide (a0_1 = a1_1)) hp)

def laws_FnSetSRID_j1 (k : Nat) (x1 : Bool) : Option (Bool) :=
  some x1
def laws_FnSetSRID (k : Nat) (a0_0 : Int) (a0_1 : Int) (a0_2 : Int) (a0_3 : List Nat) (a0_4 : List Int) (a0_5 : List (List Int)) (a0_6 : List T27) (a1 : Int) : Option (Bool) :=
  (laws_zzFits2 k a0_0 a0_1 a0_2 a0_3 a0_4 a0_5 a0_6) >>= fun r8 =>
  br (!r8)
    (some true)
    ((laws_gPlain k a0_0 a0_1 a0_2 a0_3 a0_4 a0_5 a0_6) >>= fun r11 =>
    br (!r11)
      (some true)
      ((impl_SetSRID k a0_0 a0_1 a0_2 a0_3 a0_4 a0_5 a0_6 a1) >>= fun r16 =>
      br r16.2.2.2.2.2.2
        ((spec_SameGeom k r16.1 r16.2.1 r16.2.2.1 r16.2.2.2.1 r16.2.2.2.2.1 r16.2.2.2.2.2.1 a0_0 a0_1 a1 a0_3 a0_4 a0_5 a0_6) >>= fun r25 =>
        laws_FnSetSRID_j1 k r25)
        (laws_FnSetSRID_j1 k false)))

theorem laws_FnSetSRID_sim {k : Nat}  (a0_0 : Int) (a0_1 : Int) (a0_2 : Int) (a0_3 : List Nat) (a0_4 : List Int) (a0_5 : List (List Int)) (a0_6 : List T27) (a1 : Int) {out : Bool} (hp : laws_FnSetSRID k a0_0 a0_1 a0_2 a0_3 a0_4 a0_5 a0_6 a1 = some out) : Go.Sx.Fn Try.prog 7 [(Ag [(Vl (.int .i64 a0_0)), (Vl (.int .i64 a0_1)), (Vl (.int .i64 a0_2)), (Sl Kf a0_3), (Sl (Ki .i64) a0_4), (Sl (Kl (Ki .i64)) a0_5), (Sl KT27 a0_6)]), (Vl (.int .i64 a1))] [] (fun w : Unit => (Vl (.bool out))) (fun w => []) := by
  unfold laws_FnSetSRID at hp
  refine fn_of Try.func7 rfl Try.ntmps7 rfl fun E hM => ?_
  refine cx_seq' fun K1 hK1 => ?_
  refine cx_region' ?_
  refine sx_ox' (ox_box' rfl (lv_ag _) rfl rfl) (wt_none' rfl) fun q2 => ?_
  refine sx_rd' (rd_assign' rfl) rfl rfl (wt_none' rfl) ?_
  refine sx_nil' ?_
  show TX E K1 _
  refine tx_k' hK1 ?_
  refine cx_seq' fun K2 hK2 => ?_
  refine cx_seq' fun K3 hK3 => ?_
  refine cx_region' ?_
  refine sx_rd' (rd_load_agg' (i := 0) (o := 0) (nn := 7) rfl ⟨rfl, rfl, rfl, rfl⟩ rfl agg27 (l' := [(Vl (.int .i64 a0_0)), (Vl (.int .i64 a0_1)), (Vl (.int .i64 a0_2)), (Sl Kf a0_3), (Sl (Ki .i64) a0_4), (Sl (Kl (Ki .i64)) a0_5), (Sl KT27 a0_6)]) rfl) rfl rfl (wt_none' rfl) ?_
  obtain ⟨r8, hr8, hp⟩ := bind_some hp
  refine sx_ox' (ox_calln' (ent_fn' Try.func14 isn14 rfl rfl) (laws_zzFits2_sim _ _ _ _ _ _ _ hr8 : Go.Sx.Fn Try.prog 14 [(Ag [(Vl (.int .i64 a0_0)), (Vl (.int .i64 a0_1)), (Vl (.int .i64 a0_2)), (Sl Kf a0_3), (Sl (Ki .i64) a0_4), (Sl (Kl (Ki .i64)) a0_5), (Sl KT27 a0_6)])] [] (fun x : Unit => (Vl (.bool r8))) (fun x => [])) (Hn := fun x : Unit => [⟨.pointer (some q2), [(Vl (.int .i64 a0_0)), (Vl (.int .i64 a0_1)), (Vl (.int .i64 a0_2)), (Sl Kf a0_3), (Sl (Ki .i64) a0_4), (Sl (Kl (Ki .i64)) a0_5), (Sl KT27 a0_6)], 27, none⟩]) (fun _ => rfl) rfl rfl) (wt_none' rfl) fun ⟨⟩ => ?_
  refine sx_rd' (rd_un' rfl ru_not) rfl rfl (wt_none' rfl) ?_
  refine sx_nil' ?_
  show TX E K3 _
  refine tx_k' hK3 ?_
  refine cx_cond' rfl (fun h1 => ?_) (fun h1 => ?_)
  · replace hp := (br_t h1).symm.trans hp
    refine cx_seq' fun K4 hK4 => ?_
    refine cx_region' ?_
    refine sx_rd' (rd_assign' rfl) rfl rfl (wt_none' rfl) ?_
    refine sx_nil' ?_
    show TX E K4 _
    refine tx_k' hK4 ?_
    refine cx_retc' ?_
    replace hp := Option.some.inj hp
    subst hp
    refine tx_pick' (L' := [(4, (Vl (.bool true)))]) (H' := []) [] (sub_cons rfl sub_nil) (by decide) pick_nil ?_
    exact tx_ret1' Try.results7 rfl () (rv_tmp' rfl) (List.Sublist.refl _)
  · replace hp := (br_f h1).symm.trans hp
    refine cx_skip' ?_
    show TX E K2 _
    refine tx_k' hK2 ?_
    refine cx_seq' fun K5 hK5 => ?_
    refine cx_seq' fun K6 hK6 => ?_
    refine cx_region' ?_
    refine sx_rd' (rd_load_agg' (i := 0) (o := 0) (nn := 7) rfl ⟨rfl, rfl, rfl, rfl⟩ rfl agg27 (l' := [(Vl (.int .i64 a0_0)), (Vl (.int .i64 a0_1)), (Vl (.int .i64 a0_2)), (Sl Kf a0_3), (Sl (Ki .i64) a0_4), (Sl (Kl (Ki .i64)) a0_5), (Sl KT27 a0_6)]) rfl) rfl rfl (wt_none' rfl) ?_
    obtain ⟨r11, hr11, hp⟩ := bind_some hp
    refine sx_ox' (ox_calln' (ent_fn' Try.func18 isn18 rfl rfl) (laws_gPlain_sim _ _ _ _ _ _ _ hr11 : Go.Sx.Fn Try.prog 18 [(Ag [(Vl (.int .i64 a0_0)), (Vl (.int .i64 a0_1)), (Vl (.int .i64 a0_2)), (Sl Kf a0_3), (Sl (Ki .i64) a0_4), (Sl (Kl (Ki .i64)) a0_5), (Sl KT27 a0_6)])] [] (fun x : Unit => (Vl (.bool r11))) (fun x => [])) (Hn := fun x : Unit => [⟨.pointer (some q2), [(Vl (.int .i64 a0_0)), (Vl (.int .i64 a0_1)), (Vl (.int .i64 a0_2)), (Sl Kf a0_3), (Sl (Ki .i64) a0_4), (Sl (Kl (Ki .i64)) a0_5), (Sl KT27 a0_6)], 27, none⟩]) (fun _ => rfl) rfl rfl) (wt_none' rfl) fun ⟨⟩ => ?_
    refine sx_rd' (rd_un' rfl ru_not) rfl rfl (wt_none' rfl) ?_
    refine sx_nil' ?_
    show TX E K6 _
    refine tx_k' hK6 ?_
    refine cx_cond' rfl (fun h2 => ?_) (fun h2 => ?_)
    · replace hp := (br_t h2).symm.trans hp
      refine cx_seq' fun K7 hK7 => ?_
      refine cx_region' ?_
      refine sx_rd' (rd_assign' rfl) rfl rfl (wt_none' rfl) ?_
      refine sx_nil' ?_
      show TX E K7 _
      refine tx_k' hK7 ?_
      refine cx_retc' ?_
      replace hp := Option.some.inj hp
      subst hp
      refine tx_pick' (L' := [(4, (Vl (.bool true)))]) (H' := []) [] (sub_cons rfl sub_nil) (by decide) pick_nil ?_
      exact tx_ret1' Try.results7 rfl () (rv_tmp' rfl) (List.Sublist.refl _)
    · replace hp := (br_f h2).symm.trans hp
      refine cx_skip' ?_
      show TX E K5 _
      refine tx_k' hK5 ?_
      refine cx_seq' fun K8 hK8 => ?_
      refine cx_region' ?_
      refine sx_rd' (rd_load_agg' (i := 0) (o := 0) (nn := 7) rfl ⟨rfl, rfl, rfl, rfl⟩ rfl agg27 (l' := [(Vl (.int .i64 a0_0)), (Vl (.int .i64 a0_1)), (Vl (.int .i64 a0_2)), (Sl Kf a0_3), (Sl (Ki .i64) a0_4), (Sl (Kl (Ki .i64)) a0_5), (Sl KT27 a0_6)]) rfl) rfl rfl (wt_none' rfl) ?_
      refine sx_rd' (rd_move' rfl) rfl rfl (wt_none' rfl) ?_
      obtain ⟨r16, hr16, hp⟩ := bind_some hp
      refine sx_ox' (ox_calln' (ent_fn' Try.func22 isn22 rfl rfl) (impl_SetSRID_sim _ _ _ _ _ _ _ _ hr16 : Go.Sx.Fn Try.prog 22 [(Ag [(Vl (.int .i64 a0_0)), (Vl (.int .i64 a0_1)), (Vl (.int .i64 a0_2)), (Sl Kf a0_3), (Sl (Ki .i64) a0_4), (Sl (Kl (Ki .i64)) a0_5), (Sl KT27 a0_6)]), (Vl (.int .i64 a1))] [] (fun x : Unit => (Tu [(Ag [(Vl (.int .i64 r16.1)), (Vl (.int .i64 r16.2.1)), (Vl (.int .i64 r16.2.2.1)), (Sl Kf r16.2.2.2.1), (Sl (Ki .i64) r16.2.2.2.2.1), (Sl (Kl (Ki .i64)) r16.2.2.2.2.2.1), (Vl (.slice none 0 0))]), (Vl (.bool r16.2.2.2.2.2.2))])) (fun x => [])) (Hn := fun x : Unit => [⟨.pointer (some q2), [(Vl (.int .i64 a0_0)), (Vl (.int .i64 a0_1)), (Vl (.int .i64 a0_2)), (Sl Kf a0_3), (Sl (Ki .i64) a0_4), (Sl (Kl (Ki .i64)) a0_5), (Sl KT27 a0_6)], 27, none⟩]) (fun _ => rfl) rfl rfl) (wt_none' rfl) fun ⟨⟩ => ?_
      refine sx_rd' (rd_move' rfl) rfl rfl (wt_none' rfl) ?_
      refine sx_rd' (rd_extract' rfl rfl) rfl rfl (wt_none' rfl) ?_
      refine sx_rd' (rd_extract' rfl rfl) rfl rfl (wt_none' rfl) ?_
      refine sx_ox' (ox_alloc' info27 rfl rfl rfl rfl (l := [(Vl (.int .i64 0)), (Vl (.int .i64 0)), (Vl (.int .i64 0)), (Vl (.slice none 0 0)), (Vl (.slice none 0 0)), (Vl (.slice none 0 0)), (Vl (.slice none 0 0))]) rfl) (wt_none' rfl) fun q5 => ?_
      refine sx_ox' (ox_store' (i := 0) (o := 0) rfl rfl (lv_ag _) ⟨rfl, rfl, rfl, rfl⟩ rfl info27 rfl (H' := [⟨.pointer (some q5), [(Vl (.int .i64 r16.1)), (Vl (.int .i64 r16.2.1)), (Vl (.int .i64 r16.2.2.1)), (Sl Kf r16.2.2.2.1), (Sl (Ki .i64) r16.2.2.2.2.1), (Sl (Kl (Ki .i64)) r16.2.2.2.2.2.1), (Vl (.slice none 0 0))], 27, none⟩, ⟨.pointer (some q2), [(Vl (.int .i64 a0_0)), (Vl (.int .i64 a0_1)), (Vl (.int .i64 a0_2)), (Sl Kf a0_3), (Sl (Ki .i64) a0_4), (Sl (Kl (Ki .i64)) a0_5), (Sl KT27 a0_6)], 27, none⟩]) rfl) (wt_none' rfl) fun _ => ?_
      refine sx_rd' (rd_assign' rfl) rfl rfl (wt_none' rfl) ?_
      refine sx_nil' ?_
      show TX E K8 _
      refine tx_k' hK8 ?_
      refine cx_seq' fun K9 hK9 => ?_
      refine cx_region' ?_
      refine sx_rd' (rd_move' rfl) rfl rfl (wt_none' rfl) ?_
      refine sx_rd' (rd_field' (off := 2) rfl Try.underlying27 rfl info3 rfl) rfl rfl (wt_none' rfl) ?_
      refine sx_ox' (ox_store' (i := 1) (o := 2) rfl rfl (lv_vl rfl rfl) ⟨rfl, rfl, rfl, rfl⟩ rfl info3 rfl (H' := [⟨.pointer (some q5), [(Vl (.int .i64 r16.1)), (Vl (.int .i64 r16.2.1)), (Vl (.int .i64 r16.2.2.1)), (Sl Kf r16.2.2.2.1), (Sl (Ki .i64) r16.2.2.2.2.1), (Sl (Kl (Ki .i64)) r16.2.2.2.2.2.1), (Vl (.slice none 0 0))], 27, none⟩, ⟨.pointer (some q2), [(Vl (.int .i64 a0_0)), (Vl (.int .i64 a0_1)), (Vl (.int .i64 a1)), (Sl Kf a0_3), (Sl (Ki .i64) a0_4), (Sl (Kl (Ki .i64)) a0_5), (Sl KT27 a0_6)], 27, none⟩]) rfl) (wt_none' rfl) fun _ => ?_
      refine sx_nil' ?_
      show TX E K9 _
      refine tx_k' hK9 ?_
      refine cx_seq' fun K10 hK10 => ?_
      refine cx_region' ?_
      refine sx_rd' (rd_move' rfl) rfl rfl (wt_none' rfl) ?_
      refine sx_rd' (rd_move' rfl) rfl rfl (wt_none' rfl) ?_
      refine sx_cutn' 4 (fun (v1 : Bool) => (⟨27, [], [(26, (Vl (.bool v1)))], []⟩ : St)) (fun (v1 : Bool) => laws_FnSetSRID_j1 k v1 = some out) ?_ ?_
      · rintro x1 hp
        replace hp : laws_FnSetSRID_j1 k x1 = some out := hp
        unfold laws_FnSetSRID_j1 at hp
        refine sx_rd' (rd_assign' rfl) rfl rfl (wt_none' rfl) ?_
        refine sx_nil' ?_
        show TX E K10 _
        refine tx_k' hK10 ?_
        refine cx_retc' ?_
        replace hp := Option.some.inj hp
        subst hp
        refine tx_pick' (L' := [(4, (Vl (.bool x1)))]) (H' := []) [] (sub_cons rfl sub_nil) (by decide) pick_nil ?_
        exact tx_ret1' Try.results7 rfl () (rv_tmp' rfl) (List.Sublist.refl _)
      · intro K11 hK11
        rcases br_cases hp with ⟨h3, hp⟩ | ⟨h3, hp⟩
        · refine sx_rd' (rd_load_agg' (i := 0) (o := 0) (nn := 7) rfl ⟨rfl, rfl, rfl, rfl⟩ rfl agg27 (l' := [(Vl (.int .i64 r16.1)), (Vl (.int .i64 r16.2.1)), (Vl (.int .i64 r16.2.2.1)), (Sl Kf r16.2.2.2.1), (Sl (Ki .i64) r16.2.2.2.2.1), (Sl (Kl (Ki .i64)) r16.2.2.2.2.2.1), (Vl (.slice none 0 0))]) rfl) rfl rfl (wt_is' (wt_guard' rfl rfl rfl) (beq_tt h3)) ?_
          refine sx_rd' (rd_load_agg' (i := 1) (o := 0) (nn := 7) rfl ⟨rfl, rfl, rfl, rfl⟩ rfl agg27 (l' := [(Vl (.int .i64 a0_0)), (Vl (.int .i64 a0_1)), (Vl (.int .i64 a1)), (Sl Kf a0_3), (Sl (Ki .i64) a0_4), (Sl (Kl (Ki .i64)) a0_5), (Sl KT27 a0_6)]) rfl) rfl rfl (wt_is' (wt_guard' rfl rfl rfl) (beq_tt h3)) ?_
          obtain ⟨r25, hr25, hp⟩ := bind_some hp
          refine sx_ox' (ox_calln' (ent_fn' Try.func13 isn13 rfl rfl) (spec_SameGeom_sim _ _ _ _ _ _ _ _ _ _ _ _ _ hr25 : Go.Sx.Fn Try.prog 13 [(Ag [(Vl (.int .i64 r16.1)), (Vl (.int .i64 r16.2.1)), (Vl (.int .i64 r16.2.2.1)), (Sl Kf r16.2.2.2.1), (Sl (Ki .i64) r16.2.2.2.2.1), (Sl (Kl (Ki .i64)) r16.2.2.2.2.2.1), (Vl (.slice none 0 0))]), (Ag [(Vl (.int .i64 a0_0)), (Vl (.int .i64 a0_1)), (Vl (.int .i64 a1)), (Sl Kf a0_3), (Sl (Ki .i64) a0_4), (Sl (Kl (Ki .i64)) a0_5), (Sl KT27 a0_6)])] [] (fun x : Unit => (Vl (.bool r25))) (fun x => [])) (Hn := fun x : Unit => [⟨.pointer (some q5), [(Vl (.int .i64 r16.1)), (Vl (.int .i64 r16.2.1)), (Vl (.int .i64 r16.2.2.1)), (Sl Kf r16.2.2.2.1), (Sl (Ki .i64) r16.2.2.2.2.1), (Sl (Kl (Ki .i64)) r16.2.2.2.2.2.1), (Vl (.slice none 0 0))], 27, none⟩, ⟨.pointer (some q2), [(Vl (.int .i64 a0_0)), (Vl (.int .i64 a0_1)), (Vl (.int .i64 a1)), (Sl Kf a0_3), (Sl (Ki .i64) a0_4), (Sl (Kl (Ki .i64)) a0_5), (Sl KT27 a0_6)], 27, none⟩]) (fun _ => rfl) rfl rfl) (wt_is' (wt_guard' rfl rfl rfl) (beq_tt h3)) fun ⟨⟩ => ?_
          refine sx_rd' (rd_pick_true' rfl h3 rfl) rfl rfl (wt_none' rfl) ?_
          refine sx_nil' ?_
          show TX E K11 _
          exact tx_pick' [] (sub_cons rfl sub_nil) (by decide) pick_nil (hK11 r25 hp)
        · refine sx_skip' rfl rfl (wt_is' (wt_guard' rfl rfl rfl) (beq_ft h3)) ?_
          refine sx_skip' rfl rfl (wt_is' (wt_guard' rfl rfl rfl) (beq_ft h3)) ?_
          refine sx_skip' rfl rfl (wt_is' (wt_guard' rfl rfl rfl) (beq_ft h3)) ?_
          refine sx_rd' (rd_pick_false' rfl h3 rfl) rfl rfl (wt_none' rfl) ?_
          refine sx_nil' ?_
          show TX E K11 _
          exact tx_pick' [] (sub_cons rfl sub_nil) (by decide) pick_nil (hK11 false hp)

end Go.Proofs.Ytohopkpjccpckaa
