/-
  Plain functions for the Go functions that this law reaches, and that each call does what its plain function says. Printed by a program of ours.
-/
import Derived.Test.YtkeaodoibflhnaaProg
import Derived.Test.YtkeaodoibflhnaaSxZ
import Derived.Test.YtkeaodoibflhnaaFun2
namespace Go.Proofs.Ytkeaodoibflhnaa
open Go.Sx
set_option linter.unusedVariables false
set_option maxRecDepth 100000

def spec_SameFloats_l1s (a0 : List Nat) (a1 : List Nat) (k : Nat) (rec1 : Int → Option (Unit ⊕ Unit)) (x1 : Int) : Option (Unit ⊕ Unit) :=
  br (decide (x1 < (a0.length : Int)))
    ((idx a0 x1) >>= fun r17 =>
    (idx a1 x1) >>= fun r23 =>
    br (!decide ((fbits r17) = (fbits r23)))
      (some (.inl ()))
      (rec1 (iadd .i64 x1 1)))
    (some (.inr ()))
def spec_SameFloats_l1 (a0 : List Nat) (a1 : List Nat) : Nat → Int → Option (Unit ⊕ Unit)
  | 0, _ => none
  | k + 1, v => spec_SameFloats_l1s a0 a1 k (spec_SameFloats_l1 a0 a1 k) v
def spec_SameFloats (k : Nat) (a0 : List Nat) (a1 : List Nat) : Option (Bool) :=
  br (!decide ((a0.length : Int) = (a1.length : Int)))
    (some false)
    ((spec_SameFloats_l1 a0 a1 k 0) >>= fun y1 => match y1 with
      | (.inl v2) =>
        (some false)
      | (.inr v3) =>
        (some true))

theorem spec_SameFloats_sim {k : Nat}  (a0 : List Nat) (a1 : List Nat) {out : Bool} (hp : spec_SameFloats k a0 a1 = some out) : Go.Sx.Fn Try.prog 19 [(Sl Kf a0), (Sl Kf a1)] [] (fun w : Unit => (Vl (.bool out))) (fun w => []) := by
  unfold spec_SameFloats at hp
  refine fn_of Try.func19 rfl Try.ntmps19 rfl fun E hM => ?_
  refine cx_seq' fun K1 hK1 => ?_
  refine cx_region' ?_
  refine sx_rd' (rd_assign' rfl) rfl rfl (wt_none' rfl) ?_
  refine sx_nil' ?_
  show TX E K1 _
  refine tx_k' hK1 ?_
  refine cx_seq' fun K2 hK2 => ?_
  refine cx_seq' fun K3 hK3 => ?_
  refine cx_region' ?_
  refine sx_rd' (rd_move' rfl) rfl rfl (wt_none' rfl) ?_
  refine sx_rd' (rd_len' rfl Try.underlying22) rfl rfl (wt_none' rfl) ?_
  refine sx_rd' (rd_move' rfl) rfl rfl (wt_none' rfl) ?_
  refine sx_rd' (rd_len' rfl Try.underlying22) rfl rfl (wt_none' rfl) ?_
  refine sx_rd' (rd_bin' rfl rfl eg_int ru_neq) rfl rfl (wt_none' rfl) ?_
  refine sx_nil' ?_
  show TX E K3 _
  refine tx_k' hK3 ?_
  refine cx_cond' rfl (fun h1 => ?_) (fun h1 => ?_)
  · replace hp := (br_t h1).symm.trans hp
    refine cx_seq' fun K4 hK4 => ?_
    refine cx_region' ?_
    refine sx_rd' (rd_assign' rfl) rfl rfl (wt_none' rfl) ?_
    refine sx_nil' ?_
    show TX E K4 _
    refine tx_k' hK4 ?_
    refine cx_retc' ?_
    replace hp := Option.some.inj hp
    subst hp
    refine tx_pick' (L' := [(4, (Vl (.bool false)))]) (H' := []) [] (sub_cons rfl sub_nil) (by decide) pick_nil ?_
    exact tx_ret1' Try.results19 rfl () (rv_tmp' rfl) (List.Sublist.refl _)
  · replace hp := (br_f h1).symm.trans hp
    refine cx_skip' ?_
    show TX E K2 _
    refine tx_k' hK2 ?_
    refine cx_seq' fun K5 hK5 => ?_
    refine cx_seq' fun K6 hK6 => ?_
    refine cx_region' ?_
    refine sx_rd' (rd_move' rfl) rfl rfl (wt_none' rfl) ?_
    refine sx_rd' (rd_len' rfl Try.underlying22) rfl rfl (wt_none' rfl) ?_
    refine sx_rd' (rd_move' rfl) rfl rfl (wt_none' rfl) ?_
    refine sx_nil' ?_
    show TX E K6 _
    refine tx_k' hK6 ?_
    refine cx_block' ?_
    obtain ⟨y1, hy1, hp⟩ := bind_some hp
    refine cx_loopg' (F := spec_SameFloats_l1 a0 a1) (G := fun k R v => spec_SameFloats_l1s a0 a1 k R v) (x := 0) (gh := ()) (fun (v1 : Int) (w1 : Unit) => (⟨28, [], [(1, (Sl Kf a1)), (12, (Sl Kf a0)), (13, (Vl (.int .i64 (a0.length : Int)))), (14, (Vl (.int .i64 v1)))], []⟩ : St)) (fun (y : Unit ⊕ Unit) => match y with | (.inl v2) => Zg E Exit.ret (fun (w2 : Unit) => (⟨28, [], [(4, (Vl (.bool false)))], []⟩ : St)) | (.inr v3) => Zg E (Exit.exit 0) (fun (w3 : Unit) => (⟨28, [], [], []⟩ : St))) (fun _ => rfl) (fun _ _ => rfl) ?_ hy1 (tx_to' rfl [] (sub_cons rfl (sub_cons rfl (sub_cons rfl (sub_cons rfl sub_nil)))) (by decide) pick_nil) ?_
    · clear hp hy1
      clear y1
      intro k rec1 KY1 ih1
      rintro x1 ⟨⟩ y1 hp
      replace hp : spec_SameFloats_l1s a0 a1 k rec1 x1 = some y1 := hp
      unfold spec_SameFloats_l1s at hp
      refine cx_seq' fun K13 hK13 => ?_
      refine cx_region' ?_
      refine sx_rd' (rd_bin' rfl rfl eg_int ru_lss) rfl rfl (wt_none' rfl) ?_
      refine sx_nil' ?_
      show TX E K13 _
      refine tx_k' hK13 ?_
      refine cx_seq' fun K14 hK14 => ?_
      refine cx_cond' rfl (fun h5 => ?_) (fun h5 => ?_)
      · replace hp := (br_t h5).symm.trans hp
        refine cx_skip' ?_
        show TX E K14 _
        refine tx_k' hK14 ?_
        refine cx_seq' fun K15 hK15 => ?_
        refine cx_block' ?_
        refine cx_seq' fun K16 hK16 => ?_
        refine cx_region' ?_
        refine sx_rd' (rd_move' rfl) rfl rfl (wt_none' rfl) ?_
        obtain ⟨r17, hr17, hp⟩ := bind_some hp
        refine sx_rd' (rd_at' (K := Kf) rfl rfl hr17 Try.underlying22 info32) rfl rfl (wt_none' rfl) ?_
        refine sx_rd' (rd_load_pt' rfl rfl flat32) rfl rfl (wt_none' rfl) ?_
        refine sx_rd' (rd_assign' rfl) rfl rfl (wt_none' rfl) ?_
        refine sx_rd' (rd_assign' rfl) rfl rfl (wt_none' rfl) ?_
        refine sx_nil' ?_
        show TX E K16 _
        refine tx_k' hK16 ?_
        refine cx_seq' fun K17 hK17 => ?_
        refine cx_draw' mixed (by kernel_rfl) ?_
        refine qx_rd' (rd_move' rfl) rfl rfl (wt_none' rfl) ?_
        refine qx_rd' (rd_ext' (us := [.float .f64 r17]) rfl (ext61 ex_bits)) rfl rfl (wt_none' rfl) ?_
        refine qx_rd' (rd_move' rfl) rfl rfl (wt_none' rfl) ?_
        refine qx_rd' (rd_move' rfl) rfl rfl (wt_none' rfl) ?_
        obtain ⟨r23, hr23, hp⟩ := bind_some hp
        refine qx_rd' (rd_at' (K := Kf) rfl rfl hr23 Try.underlying22 info32) rfl rfl (wt_none' rfl) ?_
        refine qx_rd' (rd_load_pt' rfl rfl flat32) rfl rfl (wt_none' rfl) ?_
        refine qx_rd' (rd_ext' (us := [.float .f64 r23]) rfl (ext61 ex_bits)) rfl rfl (wt_none' rfl) ?_
        refine qx_rd' (rd_bin' rfl rfl eg_int ru_neq) rfl rfl (wt_none' rfl) ?_
        refine qx_nil' ?_
        show TX E K17 _
        refine tx_k' hK17 ?_
        refine cx_cond' rfl (fun h6 => ?_) (fun h6 => ?_)
        · replace hp := (br_t h6).symm.trans hp
          refine cx_seq' fun K18 hK18 => ?_
          refine cx_region' ?_
          refine sx_rd' (rd_assign' rfl) rfl rfl (wt_none' rfl) ?_
          refine sx_nil' ?_
          show TX E K18 _
          refine tx_k' hK18 ?_
          refine cx_retc' ?_
          replace hp := Option.some.inj hp
          subst hp
          show TX E (Zg E Exit.ret _ Exit.ret) _
          exact tx_zend' () rfl [] (sub_cons rfl sub_nil) (by decide) pick_nil
        · replace hp := (br_f h6).symm.trans hp
          refine cx_skip' ?_
          show TX E K15 _
          refine tx_k' hK15 ?_
          refine cx_region' ?_
          refine sx_rd' (rd_bin' rfl rfl eg_int ru_add) rfl rfl (wt_none' rfl) ?_
          refine sx_rd' (rd_move' rfl) rfl rfl (wt_none' rfl) ?_
          refine sx_nil' ?_
          show TX E (KY1 _) _
          exact tx_pick' [] (sub_cons rfl (sub_cons rfl (sub_cons rfl (sub_cons rfl sub_nil)))) (by decide) pick_nil (ih1 (iadd .i64 x1 1) () _ hp)
      · replace hp := (br_f h5).symm.trans hp
        refine cx_exit' ?_
        replace hp := Option.some.inj hp
        subst hp
        show TX E (Zg E (Exit.exit 0) _ (Exit.exit 0)) _
        exact tx_zend' () rfl [] sub_nil (by decide) pick_nil
    · rcases y1 with v2 | v3
      · dsimp only at hp
        refine zg_out fun w2 => ?_
        replace hp := Option.some.inj hp
        subst hp
        refine tx_pick' (L' := [(4, (Vl (.bool false)))]) (H' := []) [] (sub_cons rfl sub_nil) (by decide) pick_nil ?_
        exact tx_ret1' Try.results19 rfl () (rv_tmp' rfl) (List.Sublist.refl _)
      · dsimp only at hp
        refine zg_out fun w3 => ?_
        show TX E K5 _
        refine tx_k' hK5 ?_
        refine cx_seq' fun K19 hK19 => ?_
        refine cx_region' ?_
        refine sx_rd' (rd_assign' rfl) rfl rfl (wt_none' rfl) ?_
        refine sx_nil' ?_
        show TX E K19 _
        refine tx_k' hK19 ?_
        refine cx_retc' ?_
        replace hp := Option.some.inj hp
        subst hp
        refine tx_pick' (L' := [(4, (Vl (.bool true)))]) (H' := []) [] (sub_cons rfl sub_nil) (by decide) pick_nil ?_
        exact tx_ret1' Try.results19 rfl () (rv_tmp' rfl) (List.Sublist.refl _)

def laws_gInts_l1s (a0 : List Int) (a1 : List Int) (k : Nat) (rec1 : Int → Option (Unit ⊕ Unit)) (x1 : Int) : Option (Unit ⊕ Unit) :=
  br (decide (x1 < (a0.length : Int)))
    ((idx a0 x1) >>= fun r17 =>
    (idx a1 x1) >>= fun r22 =>
    br (!decide (r17 = r22))
      (some (.inl ()))
      (rec1 (iadd .i64 x1 1)))
    (some (.inr ()))
def laws_gInts_l1 (a0 : List Int) (a1 : List Int) : Nat → Int → Option (Unit ⊕ Unit)
  | 0, _ => none
  | k + 1, v => laws_gInts_l1s a0 a1 k (laws_gInts_l1 a0 a1 k) v
def laws_gInts (k : Nat) (a0 : List Int) (a1 : List Int) : Option (Bool) :=
  br (!decide ((a0.length : Int) = (a1.length : Int)))
    (some false)
    ((laws_gInts_l1 a0 a1 k 0) >>= fun y1 => match y1 with
      | (.inl v2) =>
        (some false)
      | (.inr v3) =>
        (some true))

theorem laws_gInts_sim {k : Nat}  (a0 : List Int) (a1 : List Int) {out : Bool} (hp : laws_gInts k a0 a1 = some out) : Go.Sx.Fn Try.prog 26 [(Sl (Ki .i64) a0), (Sl (Ki .i64) a1)] [] (fun w : Unit => (Vl (.bool out))) (fun w => []) := by
  unfold laws_gInts at hp
  refine fn_of Try.func26 rfl Try.ntmps26 rfl fun E hM => ?_
  refine cx_seq' fun K1 hK1 => ?_
  refine cx_region' ?_
  refine sx_rd' (rd_assign' rfl) rfl rfl (wt_none' rfl) ?_
  refine sx_nil' ?_
  show TX E K1 _
  refine tx_k' hK1 ?_
  refine cx_seq' fun K2 hK2 => ?_
  refine cx_seq' fun K3 hK3 => ?_
  refine cx_region' ?_
  refine sx_rd' (rd_move' rfl) rfl rfl (wt_none' rfl) ?_
  refine sx_rd' (rd_len' rfl Try.underlying23) rfl rfl (wt_none' rfl) ?_
  refine sx_rd' (rd_move' rfl) rfl rfl (wt_none' rfl) ?_
  refine sx_rd' (rd_len' rfl Try.underlying23) rfl rfl (wt_none' rfl) ?_
  refine sx_rd' (rd_bin' rfl rfl eg_int ru_neq) rfl rfl (wt_none' rfl) ?_
  refine sx_nil' ?_
  show TX E K3 _
  refine tx_k' hK3 ?_
  refine cx_cond' rfl (fun h1 => ?_) (fun h1 => ?_)
  · replace hp := (br_t h1).symm.trans hp
    refine cx_seq' fun K4 hK4 => ?_
    refine cx_region' ?_
    refine sx_rd' (rd_assign' rfl) rfl rfl (wt_none' rfl) ?_
    refine sx_nil' ?_
    show TX E K4 _
    refine tx_k' hK4 ?_
    refine cx_retc' ?_
    replace hp := Option.some.inj hp
    subst hp
    refine tx_pick' (L' := [(4, (Vl (.bool false)))]) (H' := []) [] (sub_cons rfl sub_nil) (by decide) pick_nil ?_
    exact tx_ret1' Try.results26 rfl () (rv_tmp' rfl) (List.Sublist.refl _)
  · replace hp := (br_f h1).symm.trans hp
    refine cx_skip' ?_
    show TX E K2 _
    refine tx_k' hK2 ?_
    refine cx_seq' fun K5 hK5 => ?_
    refine cx_seq' fun K6 hK6 => ?_
    refine cx_region' ?_
    refine sx_rd' (rd_move' rfl) rfl rfl (wt_none' rfl) ?_
    refine sx_rd' (rd_len' rfl Try.underlying23) rfl rfl (wt_none' rfl) ?_
    refine sx_rd' (rd_move' rfl) rfl rfl (wt_none' rfl) ?_
    refine sx_nil' ?_
    show TX E K6 _
    refine tx_k' hK6 ?_
    refine cx_block' ?_
    obtain ⟨y1, hy1, hp⟩ := bind_some hp
    refine cx_loopg' (F := laws_gInts_l1 a0 a1) (G := fun k R v => laws_gInts_l1s a0 a1 k R v) (x := 0) (gh := ()) (fun (v1 : Int) (w1 : Unit) => (⟨26, [], [(1, (Sl (Ki .i64) a1)), (12, (Sl (Ki .i64) a0)), (13, (Vl (.int .i64 (a0.length : Int)))), (14, (Vl (.int .i64 v1)))], []⟩ : St)) (fun (y : Unit ⊕ Unit) => match y with | (.inl v2) => Zg E Exit.ret (fun (w2 : Unit) => (⟨26, [], [(4, (Vl (.bool false)))], []⟩ : St)) | (.inr v3) => Zg E (Exit.exit 0) (fun (w3 : Unit) => (⟨26, [], [], []⟩ : St))) (fun _ => rfl) (fun _ _ => rfl) ?_ hy1 (tx_to' rfl [] (sub_cons rfl (sub_cons rfl (sub_cons rfl (sub_cons rfl sub_nil)))) (by decide) pick_nil) ?_
    · clear hp hy1
      clear y1
      intro k rec1 KY1 ih1
      rintro x1 ⟨⟩ y1 hp
      replace hp : laws_gInts_l1s a0 a1 k rec1 x1 = some y1 := hp
      unfold laws_gInts_l1s at hp
      refine cx_seq' fun K13 hK13 => ?_
      refine cx_region' ?_
      refine sx_rd' (rd_bin' rfl rfl eg_int ru_lss) rfl rfl (wt_none' rfl) ?_
      refine sx_nil' ?_
      show TX E K13 _
      refine tx_k' hK13 ?_
      refine cx_seq' fun K14 hK14 => ?_
      refine cx_cond' rfl (fun h5 => ?_) (fun h5 => ?_)
      · replace hp := (br_t h5).symm.trans hp
        refine cx_skip' ?_
        show TX E K14 _
        refine tx_k' hK14 ?_
        refine cx_seq' fun K15 hK15 => ?_
        refine cx_block' ?_
        refine cx_seq' fun K16 hK16 => ?_
        refine cx_region' ?_
        refine sx_rd' (rd_move' rfl) rfl rfl (wt_none' rfl) ?_
        obtain ⟨r17, hr17, hp⟩ := bind_some hp
        refine sx_rd' (rd_at' (K := (Ki .i64)) rfl rfl hr17 Try.underlying23 info3) rfl rfl (wt_none' rfl) ?_
        refine sx_rd' (rd_load_pt' rfl rfl flat3) rfl rfl (wt_none' rfl) ?_
        refine sx_rd' (rd_assign' rfl) rfl rfl (wt_none' rfl) ?_
        refine sx_rd' (rd_assign' rfl) rfl rfl (wt_none' rfl) ?_
        refine sx_nil' ?_
        show TX E K16 _
        refine tx_k' hK16 ?_
        refine cx_seq' fun K17 hK17 => ?_
        refine cx_region' ?_
        refine sx_rd' (rd_move' rfl) rfl rfl (wt_none' rfl) ?_
        refine sx_rd' (rd_move' rfl) rfl rfl (wt_none' rfl) ?_
        refine sx_rd' (rd_move' rfl) rfl rfl (wt_none' rfl) ?_
        obtain ⟨r22, hr22, hp⟩ := bind_some hp
        refine sx_rd' (rd_at' (K := (Ki .i64)) rfl rfl hr22 Try.underlying23 info3) rfl rfl (wt_none' rfl) ?_
        refine sx_rd' (rd_load_pt' rfl rfl flat3) rfl rfl (wt_none' rfl) ?_
        refine sx_rd' (rd_bin' rfl rfl eg_int ru_neq) rfl rfl (wt_none' rfl) ?_
        refine sx_nil' ?_
        show TX E K17 _
        refine tx_k' hK17 ?_
        refine cx_cond' rfl (fun h6 => ?_) (fun h6 => ?_)
        · replace hp := (br_t h6).symm.trans hp
          refine cx_seq' fun K18 hK18 => ?_
          refine cx_region' ?_
          refine sx_rd' (rd_assign' rfl) rfl rfl (wt_none' rfl) ?_
          refine sx_nil' ?_
          show TX E K18 _
          refine tx_k' hK18 ?_
          refine cx_retc' ?_
          replace hp := Option.some.inj hp
          subst hp
          show TX E (Zg E Exit.ret _ Exit.ret) _
          exact tx_zend' () rfl [] (sub_cons rfl sub_nil) (by decide) pick_nil
        · replace hp := (br_f h6).symm.trans hp
          refine cx_skip' ?_
          show TX E K15 _
          refine tx_k' hK15 ?_
          refine cx_region' ?_
          refine sx_rd' (rd_bin' rfl rfl eg_int ru_add) rfl rfl (wt_none' rfl) ?_
          refine sx_rd' (rd_move' rfl) rfl rfl (wt_none' rfl) ?_
          refine sx_nil' ?_
          show TX E (KY1 _) _
          exact tx_pick' [] (sub_cons rfl (sub_cons rfl (sub_cons rfl (sub_cons rfl sub_nil)))) (by decide) pick_nil (ih1 (iadd .i64 x1 1) () _ hp)
      · replace hp := (br_f h5).symm.trans hp
        refine cx_exit' ?_
        replace hp := Option.some.inj hp
        subst hp
        show TX E (Zg E (Exit.exit 0) _ (Exit.exit 0)) _
        exact tx_zend' () rfl [] sub_nil (by decide) pick_nil
    · rcases y1 with v2 | v3
      · dsimp only at hp
        refine zg_out fun w2 => ?_
        replace hp := Option.some.inj hp
        subst hp
        refine tx_pick' (L' := [(4, (Vl (.bool false)))]) (H' := []) [] (sub_cons rfl sub_nil) (by decide) pick_nil ?_
        exact tx_ret1' Try.results26 rfl () (rv_tmp' rfl) (List.Sublist.refl _)
      · dsimp only at hp
        refine zg_out fun w3 => ?_
        show TX E K5 _
        refine tx_k' hK5 ?_
        refine cx_seq' fun K19 hK19 => ?_
        refine cx_region' ?_
        refine sx_rd' (rd_assign' rfl) rfl rfl (wt_none' rfl) ?_
        refine sx_nil' ?_
        show TX E K19 _
        refine tx_k' hK19 ?_
        refine cx_retc' ?_
        replace hp := Option.some.inj hp
        subst hp
        refine tx_pick' (L' := [(4, (Vl (.bool true)))]) (H' := []) [] (sub_cons rfl sub_nil) (by decide) pick_nil ?_
        exact tx_ret1' Try.results26 rfl () (rv_tmp' rfl) (List.Sublist.refl _)

def laws_gIntss_l1s (a0 : List (List Int)) (a1 : List (List Int)) (k : Nat) (rec1 : Int → Option (Unit ⊕ Unit)) (x1 : Int) : Option (Unit ⊕ Unit) :=
  br (decide (x1 < (a0.length : Int)))
    ((idx a0 x1) >>= fun r17 =>
    (idx a1 x1) >>= fun r22 =>
    (laws_gInts k r17 r22) >>= fun r24 =>
    br (!r24)
      (some (.inl ()))
      (rec1 (iadd .i64 x1 1)))
    (some (.inr ()))
def laws_gIntss_l1 (a0 : List (List Int)) (a1 : List (List Int)) : Nat → Int → Option (Unit ⊕ Unit)
  | 0, _ => none
  | k + 1, v => laws_gIntss_l1s a0 a1 k (laws_gIntss_l1 a0 a1 k) v
def laws_gIntss (k : Nat) (a0 : List (List Int)) (a1 : List (List Int)) : Option (Bool) :=
  br (!decide ((a0.length : Int) = (a1.length : Int)))
    (some false)
    ((laws_gIntss_l1 a0 a1 k 0) >>= fun y1 => match y1 with
      | (.inl v2) =>
        (some false)
      | (.inr v3) =>
        (some true))

theorem laws_gIntss_sim {k : Nat}  (a0 : List (List Int)) (a1 : List (List Int)) {out : Bool} (hp : laws_gIntss k a0 a1 = some out) : Go.Sx.Fn Try.prog 44 [(Sl (Kl (Ki .i64)) a0), (Sl (Kl (Ki .i64)) a1)] [] (fun w : Unit => (Vl (.bool out))) (fun w => []) := by
  unfold laws_gIntss at hp
  refine fn_of Try.func44 rfl Try.ntmps44 rfl fun E hM => ?_
  refine cx_seq' fun K1 hK1 => ?_
  refine cx_region' ?_
  refine sx_rd' (rd_assign' rfl) rfl rfl (wt_none' rfl) ?_
  refine sx_nil' ?_
  show TX E K1 _
  refine tx_k' hK1 ?_
  refine cx_seq' fun K2 hK2 => ?_
  refine cx_seq' fun K3 hK3 => ?_
  refine cx_region' ?_
  refine sx_rd' (rd_move' rfl) rfl rfl (wt_none' rfl) ?_
  refine sx_rd' (rd_len' rfl Try.underlying24) rfl rfl (wt_none' rfl) ?_
  refine sx_rd' (rd_move' rfl) rfl rfl (wt_none' rfl) ?_
  refine sx_rd' (rd_len' rfl Try.underlying24) rfl rfl (wt_none' rfl) ?_
  refine sx_rd' (rd_bin' rfl rfl eg_int ru_neq) rfl rfl (wt_none' rfl) ?_
  refine sx_nil' ?_
  show TX E K3 _
  refine tx_k' hK3 ?_
  refine cx_cond' rfl (fun h1 => ?_) (fun h1 => ?_)
  · replace hp := (br_t h1).symm.trans hp
    refine cx_seq' fun K4 hK4 => ?_
    refine cx_region' ?_
    refine sx_rd' (rd_assign' rfl) rfl rfl (wt_none' rfl) ?_
    refine sx_nil' ?_
    show TX E K4 _
    refine tx_k' hK4 ?_
    refine cx_retc' ?_
    replace hp := Option.some.inj hp
    subst hp
    refine tx_pick' (L' := [(4, (Vl (.bool false)))]) (H' := []) [] (sub_cons rfl sub_nil) (by decide) pick_nil ?_
    exact tx_ret1' Try.results44 rfl () (rv_tmp' rfl) (List.Sublist.refl _)
  · replace hp := (br_f h1).symm.trans hp
    refine cx_skip' ?_
    show TX E K2 _
    refine tx_k' hK2 ?_
    refine cx_seq' fun K5 hK5 => ?_
    refine cx_seq' fun K6 hK6 => ?_
    refine cx_region' ?_
    refine sx_rd' (rd_move' rfl) rfl rfl (wt_none' rfl) ?_
    refine sx_rd' (rd_len' rfl Try.underlying24) rfl rfl (wt_none' rfl) ?_
    refine sx_rd' (rd_move' rfl) rfl rfl (wt_none' rfl) ?_
    refine sx_nil' ?_
    show TX E K6 _
    refine tx_k' hK6 ?_
    refine cx_block' ?_
    obtain ⟨y1, hy1, hp⟩ := bind_some hp
    refine cx_loopg' (F := laws_gIntss_l1 a0 a1) (G := fun k R v => laws_gIntss_l1s a0 a1 k R v) (x := 0) (gh := ()) (fun (v1 : Int) (w1 : Unit) => (⟨27, [], [(1, (Sl (Kl (Ki .i64)) a1)), (12, (Sl (Kl (Ki .i64)) a0)), (13, (Vl (.int .i64 (a0.length : Int)))), (14, (Vl (.int .i64 v1)))], []⟩ : St)) (fun (y : Unit ⊕ Unit) => match y with | (.inl v2) => Zg E Exit.ret (fun (w2 : Unit) => (⟨27, [], [(4, (Vl (.bool false)))], []⟩ : St)) | (.inr v3) => Zg E (Exit.exit 0) (fun (w3 : Unit) => (⟨27, [], [], []⟩ : St))) (fun _ => rfl) (fun _ _ => rfl) ?_ hy1 (tx_to' rfl [] (sub_cons rfl (sub_cons rfl (sub_cons rfl (sub_cons rfl sub_nil)))) (by decide) pick_nil) ?_
    · clear hp hy1
      clear y1
      intro k rec1 KY1 ih1
      rintro x1 ⟨⟩ y1 hp
      replace hp : laws_gIntss_l1s a0 a1 k rec1 x1 = some y1 := hp
      unfold laws_gIntss_l1s at hp
      refine cx_seq' fun K13 hK13 => ?_
      refine cx_region' ?_
      refine sx_rd' (rd_bin' rfl rfl eg_int ru_lss) rfl rfl (wt_none' rfl) ?_
      refine sx_nil' ?_
      show TX E K13 _
      refine tx_k' hK13 ?_
      refine cx_seq' fun K14 hK14 => ?_
      refine cx_cond' rfl (fun h5 => ?_) (fun h5 => ?_)
      · replace hp := (br_t h5).symm.trans hp
        refine cx_skip' ?_
        show TX E K14 _
        refine tx_k' hK14 ?_
        refine cx_seq' fun K15 hK15 => ?_
        refine cx_block' ?_
        refine cx_seq' fun K16 hK16 => ?_
        refine cx_region' ?_
        refine sx_rd' (rd_move' rfl) rfl rfl (wt_none' rfl) ?_
        obtain ⟨r17, hr17, hp⟩ := bind_some hp
        refine sx_rd' (rd_at' (K := (Kl (Ki .i64))) rfl rfl hr17 Try.underlying24 info23) rfl rfl (wt_none' rfl) ?_
        refine sx_rd' (rd_load_pt' rfl rfl flat23) rfl rfl (wt_none' rfl) ?_
        refine sx_rd' (rd_assign' rfl) rfl rfl (wt_none' rfl) ?_
        refine sx_rd' (rd_assign' rfl) rfl rfl (wt_none' rfl) ?_
        refine sx_nil' ?_
        show TX E K16 _
        refine tx_k' hK16 ?_
        refine cx_seq' fun K17 hK17 => ?_
        refine cx_region' ?_
        refine sx_rd' (rd_move' rfl) rfl rfl (wt_none' rfl) ?_
        refine sx_rd' (rd_move' rfl) rfl rfl (wt_none' rfl) ?_
        refine sx_rd' (rd_move' rfl) rfl rfl (wt_none' rfl) ?_
        obtain ⟨r22, hr22, hp⟩ := bind_some hp
        refine sx_rd' (rd_at' (K := (Kl (Ki .i64))) rfl rfl hr22 Try.underlying24 info23) rfl rfl (wt_none' rfl) ?_
        refine sx_rd' (rd_load_pt' rfl rfl flat23) rfl rfl (wt_none' rfl) ?_
        obtain ⟨r24, hr24, hp⟩ := bind_some hp
        refine sx_ox' (ox_calln' (ent_fn' Try.func26 isn26 rfl rfl) (laws_gInts_sim _ _ hr24 : Go.Sx.Fn Try.prog 26 [(Sl (Ki .i64) r17), (Sl (Ki .i64) r22)] [] (fun x : Unit => (Vl (.bool r24))) (fun x => [])) (Hn := fun x : Unit => []) (fun _ => rfl) rfl rfl) (wt_none' rfl) fun ⟨⟩ => ?_
        refine sx_rd' (rd_un' rfl ru_not) rfl rfl (wt_none' rfl) ?_
        refine sx_nil' ?_
        show TX E K17 _
        refine tx_k' hK17 ?_
        refine cx_cond' rfl (fun h6 => ?_) (fun h6 => ?_)
        · replace hp := (br_t h6).symm.trans hp
          refine cx_seq' fun K18 hK18 => ?_
          refine cx_region' ?_
          refine sx_rd' (rd_assign' rfl) rfl rfl (wt_none' rfl) ?_
          refine sx_nil' ?_
          show TX E K18 _
          refine tx_k' hK18 ?_
          refine cx_retc' ?_
          replace hp := Option.some.inj hp
          subst hp
          show TX E (Zg E Exit.ret _ Exit.ret) _
          exact tx_zend' () rfl [] (sub_cons rfl sub_nil) (by decide) pick_nil
        · replace hp := (br_f h6).symm.trans hp
          refine cx_skip' ?_
          show TX E K15 _
          refine tx_k' hK15 ?_
          refine cx_region' ?_
          refine sx_rd' (rd_bin' rfl rfl eg_int ru_add) rfl rfl (wt_none' rfl) ?_
          refine sx_rd' (rd_move' rfl) rfl rfl (wt_none' rfl) ?_
          refine sx_nil' ?_
          show TX E (KY1 _) _
          exact tx_pick' [] (sub_cons rfl (sub_cons rfl (sub_cons rfl (sub_cons rfl sub_nil)))) (by decide) pick_nil (ih1 (iadd .i64 x1 1) () _ hp)
      · replace hp := (br_f h5).symm.trans hp
        refine cx_exit' ?_
        replace hp := Option.some.inj hp
        subst hp
        show TX E (Zg E (Exit.exit 0) _ (Exit.exit 0)) _
        exact tx_zend' () rfl [] sub_nil (by decide) pick_nil
    · rcases y1 with v2 | v3
      · dsimp only at hp
        refine zg_out fun w2 => ?_
        replace hp := Option.some.inj hp
        subst hp
        refine tx_pick' (L' := [(4, (Vl (.bool false)))]) (H' := []) [] (sub_cons rfl sub_nil) (by decide) pick_nil ?_
        exact tx_ret1' Try.results44 rfl () (rv_tmp' rfl) (List.Sublist.refl _)
      · dsimp only at hp
        refine zg_out fun w3 => ?_
        show TX E K5 _
        refine tx_k' hK5 ?_
        refine cx_seq' fun K19 hK19 => ?_
        refine cx_region' ?_
        refine sx_rd' (rd_assign' rfl) rfl rfl (wt_none' rfl) ?_
        refine sx_nil' ?_
        show TX E K19 _
        refine tx_k' hK19 ?_
        refine cx_retc' ?_
        replace hp := Option.some.inj hp
        subst hp
        refine tx_pick' (L' := [(4, (Vl (.bool true)))]) (H' := []) [] (sub_cons rfl sub_nil) (by decide) pick_nil ?_
        exact tx_ret1' Try.results44 rfl () (rv_tmp' rfl) (List.Sublist.refl _)

def laws_FnFlatBack_j14 (k : Nat) (x14 : Bool) : Option (Bool) :=
  some x14
def laws_FnFlatBack_j13 (k : Nat) (r108 : (List Nat) × (List (List Int)) × Bool) (a2 : List (List Int)) (x13 : Bool) : Option (Bool) :=
  br x13
    ((laws_gIntss k r108.2.1 a2) >>= fun r151 =>
    laws_FnFlatBack_j14 k r151)
    (laws_FnFlatBack_j14 k false)
def laws_FnFlatBack_j12 (k : Nat) (r101 : (List Nat) × (List Int) × Bool) (a1 : List Int) (r108 : (List Nat) × (List (List Int)) × Bool) (a2 : List (List Int)) (x12 : Bool) : Option (Bool) :=
  br x12
    ((laws_gInts k r101.2.1 a1) >>= fun r146 =>
    laws_FnFlatBack_j13 k r108 a2 r146)
    (laws_FnFlatBack_j13 k r108 a2 false)
def laws_FnFlatBack_j11 (k : Nat) (r108 : (List Nat) × (List (List Int)) × Bool) (a0 : List Nat) (r101 : (List Nat) × (List Int) × Bool) (a1 : List Int) (a2 : List (List Int)) (x11 : Bool) : Option (Bool) :=
  br x11
    ((spec_SameFloats k r108.1 a0) >>= fun r141 =>
    laws_FnFlatBack_j12 k r101 a1 r108 a2 r141)
    (laws_FnFlatBack_j12 k r101 a1 r108 a2 false)
def laws_FnFlatBack_j10 (k : Nat) (r101 : (List Nat) × (List Int) × Bool) (a0 : List Nat) (r108 : (List Nat) × (List (List Int)) × Bool) (a1 : List Int) (a2 : List (List Int)) (x10 : Bool) : Option (Bool) :=
  br x10
    ((spec_SameFloats k r101.1 a0) >>= fun r136 =>
    laws_FnFlatBack_j11 k r108 a0 r101 a1 a2 r136)
    (laws_FnFlatBack_j11 k r108 a0 r101 a1 a2 false)
def laws_FnFlatBack_j9 (k : Nat) (r95 : (List Nat) × Bool) (a0 : List Nat) (r101 : (List Nat) × (List Int) × Bool) (r108 : (List Nat) × (List (List Int)) × Bool) (a1 : List Int) (a2 : List (List Int)) (x9 : Bool) : Option (Bool) :=
  br x9
    ((spec_SameFloats k r95.1 a0) >>= fun r131 =>
    laws_FnFlatBack_j10 k r101 a0 r108 a1 a2 r131)
    (laws_FnFlatBack_j10 k r101 a0 r108 a1 a2 false)
def laws_FnFlatBack_j8 (k : Nat) (r95 : (List Nat) × Bool) (a0 : List Nat) (r101 : (List Nat) × (List Int) × Bool) (r108 : (List Nat) × (List (List Int)) × Bool) (a1 : List Int) (a2 : List (List Int)) (x8 : Bool) : Option (Bool) :=
  br x8
    (laws_FnFlatBack_j9 k r95 a0 r101 r108 a1 a2 r108.2.2)
    (laws_FnFlatBack_j9 k r95 a0 r101 r108 a1 a2 false)
def laws_FnFlatBack_j7 (k : Nat) (r95 : (List Nat) × Bool) (a0 : List Nat) (r101 : (List Nat) × (List Int) × Bool) (r108 : (List Nat) × (List (List Int)) × Bool) (a1 : List Int) (a2 : List (List Int)) (x7 : Bool) : Option (Bool) :=
  br x7
    (laws_FnFlatBack_j8 k r95 a0 r101 r108 a1 a2 r101.2.2)
    (laws_FnFlatBack_j8 k r95 a0 r101 r108 a1 a2 false)
def laws_FnFlatBack_j6 (k : Nat) (r95 : (List Nat) × Bool) (a0 : List Nat) (r101 : (List Nat) × (List Int) × Bool) (r108 : (List Nat) × (List (List Int)) × Bool) (a1 : List Int) (a2 : List (List Int)) (x6 : Bool) : Option (Bool) :=
  br x6
    (laws_FnFlatBack_j7 k r95 a0 r101 r108 a1 a2 r95.2)
    (laws_FnFlatBack_j7 k r95 a0 r101 r108 a1 a2 false)
def laws_FnFlatBack_j5 (k : Nat) (r95 : (List Nat) × Bool) (a0 : List Nat) (r101 : (List Nat) × (List Int) × Bool) (r108 : (List Nat) × (List (List Int)) × Bool) (a1 : List Int) (a2 : List (List Int)) (r89 : (List (List (List (List Nat)))) × Bool) (x5 : Bool) : Option (Bool) :=
  br x5
    (laws_FnFlatBack_j6 k r95 a0 r101 r108 a1 a2 r89.2)
    (laws_FnFlatBack_j6 k r95 a0 r101 r108 a1 a2 false)
def laws_FnFlatBack_j4 (k : Nat) (a0 : List Nat) (a3 : Int) (a1 : List Int) (a2 : List (List Int)) (x4 : Bool) : Option (Bool) :=
  br x4
    (some true)
    ((impl_Inflate1 k a0 a3) >>= fun r75 =>
    (impl_Inflate2 k a0 a1 a3) >>= fun r82 =>
    (impl_Inflate3 k a0 a2 a3) >>= fun r89 =>
    (impl_Deflate1 k r75.1 a3) >>= fun r95 =>
    (impl_Deflate2 k r82.1 a3) >>= fun r101 =>
    (impl_Deflate3 k r89.1 a3) >>= fun r108 =>
    br r75.2
      (laws_FnFlatBack_j5 k r95 a0 r101 r108 a1 a2 r89 r82.2)
      (laws_FnFlatBack_j5 k r95 a0 r101 r108 a1 a2 r89 false))
def laws_FnFlatBack_j3 (k : Nat) (a0 : List Nat) (a3 : Int) (a1 : List Int) (a2 : List (List Int)) (r59 : Int × Int × Int × (List Nat) × (List (List Int)) × Bool) (x3 : Bool) : Option (Bool) :=
  br x3
    (laws_FnFlatBack_j4 k a0 a3 a1 a2 true)
    (laws_FnFlatBack_j4 k a0 a3 a1 a2 (!r59.2.2.2.2.2))
def laws_FnFlatBack_j2 (k : Nat) (a0 : List Nat) (a3 : Int) (a1 : List Int) (a2 : List (List Int)) (x2 : Bool) : Option (Bool) :=
  br x2
    (some true)
    ((laws_fRow k a0 a3) >>= fun r45 =>
    (laws_fRows k a0 a1 a3) >>= fun r52 =>
    (laws_fRowss k a0 a2 a3) >>= fun r59 =>
    br (!r45.2.2.2.2)
      (laws_FnFlatBack_j3 k a0 a3 a1 a2 r59 true)
      (laws_FnFlatBack_j3 k a0 a3 a1 a2 r59 (!r52.2.2.2.2.2)))
def laws_FnFlatBack_j1 (k : Nat) (a0 : List Nat) (a3 : Int) (a1 : List Int) (a2 : List (List Int)) (x1 : Bool) : Option (Bool) :=
  br x1
    (laws_FnFlatBack_j2 k a0 a3 a1 a2 true)
    ((laws_zzFits3 k a2) >>= fun r39 =>
    laws_FnFlatBack_j2 k a0 a3 a1 a2 (!r39))
def laws_FnFlatBack (k : Nat) (a0 : List Nat) (a1 : List Int) (a2 : List (List Int)) (a3 : Int) : Option (Bool) :=
  br (decide (2147483647 < (a0.length : Int)))
    (laws_FnFlatBack_j1 k a0 a3 a1 a2 true)
    (laws_FnFlatBack_j1 k a0 a3 a1 a2 (decide (2147483647 < (a1.length : Int))))

theorem laws_FnFlatBack_sim {k : Nat}  (a0 : List Nat) (a1 : List Int) (a2 : List (List Int)) (a3 : Int) {out : Bool} (hp : laws_FnFlatBack k a0 a1 a2 a3 = some out) : Go.Sx.Fn Try.prog 8 [(Sl Kf a0), (Sl (Ki .i64) a1), (Sl (Kl (Ki .i64)) a2), (Vl (.int .i64 a3))] [] (fun w : Unit => (Vl (.bool out))) (fun w => []) := by
  unfold laws_FnFlatBack at hp
  refine fn_of Try.func8 rfl Try.ntmps8 rfl fun E hM => ?_
  refine cx_seq' fun K1 hK1 => ?_
  refine cx_region' ?_
  refine sx_rd' (rd_assign' rfl) rfl rfl (wt_none' rfl) ?_
  refine sx_nil' ?_
  show TX E K1 _
  refine tx_k' hK1 ?_
  refine cx_seq' fun K2 hK2 => ?_
  refine cx_seq' fun K3 hK3 => ?_
  refine cx_region' ?_
  refine sx_rd' (rd_move' rfl) rfl rfl (wt_none' rfl) ?_
  refine sx_rd' (rd_len' rfl Try.underlying22) rfl rfl (wt_none' rfl) ?_
  refine sx_rd' (rd_bin' rfl rfl eg_int ru_gtr) rfl rfl (wt_none' rfl) ?_
  refine sx_rd' (rd_move' rfl) rfl rfl (wt_none' rfl) ?_
  refine sx_cutn' 4 (fun (v1 : Bool) => (⟨153, [], [(0, (Sl Kf a0)), (1, (Sl (Ki .i64) a1)), (2, (Sl (Kl (Ki .i64)) a2)), (3, (Vl (.int .i64 a3))), (36, (Vl (.bool v1)))], []⟩ : St)) (fun (v1 : Bool) => laws_FnFlatBack_j1 k a0 a3 a1 a2 v1 = some out) ?_ ?_
  · rintro x1 hp
    replace hp : laws_FnFlatBack_j1 k a0 a3 a1 a2 x1 = some out := hp
    unfold laws_FnFlatBack_j1 at hp
    refine sx_rd' (rd_move' rfl) rfl rfl (wt_none' rfl) ?_
    refine sx_cutn' 4 (fun (v2 : Bool) => (⟨153, [], [(0, (Sl Kf a0)), (1, (Sl (Ki .i64) a1)), (2, (Sl (Kl (Ki .i64)) a2)), (3, (Vl (.int .i64 a3))), (41, (Vl (.bool v2)))], []⟩ : St)) (fun (v2 : Bool) => laws_FnFlatBack_j2 k a0 a3 a1 a2 v2 = some out) ?_ ?_
    · rintro x2 hp
      replace hp : laws_FnFlatBack_j2 k a0 a3 a1 a2 x2 = some out := hp
      unfold laws_FnFlatBack_j2 at hp
      refine sx_nil' ?_
      show TX E K3 _
      refine tx_k' hK3 ?_
      refine cx_cond' rfl (fun h3 => ?_) (fun h3 => ?_)
      · replace hp := (br_t h3).symm.trans hp
        refine cx_seq' fun K6 hK6 => ?_
        refine cx_region' ?_
        refine sx_rd' (rd_assign' rfl) rfl rfl (wt_none' rfl) ?_
        refine sx_nil' ?_
        show TX E K6 _
        refine tx_k' hK6 ?_
        refine cx_retc' ?_
        replace hp := Option.some.inj hp
        subst hp
        refine tx_pick' (L' := [(8, (Vl (.bool true)))]) (H' := []) [] (sub_cons rfl sub_nil) (by decide) pick_nil ?_
        exact tx_ret1' Try.results8 rfl () (rv_tmp' rfl) (List.Sublist.refl _)
      · replace hp := (br_f h3).symm.trans hp
        refine cx_skip' ?_
        show TX E K2 _
        refine tx_k' hK2 ?_
        refine cx_seq' fun K7 hK7 => ?_
        refine cx_region' ?_
        refine sx_rd' (rd_move' rfl) rfl rfl (wt_none' rfl) ?_
        refine sx_rd' (rd_move' rfl) rfl rfl (wt_none' rfl) ?_
        obtain ⟨r45, hr45, hp⟩ := bind_some hp
        refine sx_ox' (ox_calln' (ent_fn' Try.func32 isn32 rfl rfl) (laws_fRow_sim _ _ hr45 : Go.Sx.Fn Try.prog 32 [(Sl Kf a0), (Vl (.int .i64 a3))] [] (fun x : Unit => (Tu [(Ag [(Vl (.int .i64 r45.1)), (Vl (.int .i64 r45.2.1)), (Vl (.int .i64 r45.2.2.1)), (Sl Kf r45.2.2.2.1), (Vl (.slice none 0 0)), (Vl (.slice none 0 0)), (Vl (.slice none 0 0))]), (Vl (.bool r45.2.2.2.2))])) (fun x => [])) (Hn := fun x : Unit => []) (fun _ => rfl) rfl rfl) (wt_none' rfl) fun ⟨⟩ => ?_
        refine sx_rd' (rd_move' rfl) rfl rfl (wt_none' rfl) ?_
        refine sx_rd' (rd_extract' rfl rfl) rfl rfl (wt_none' rfl) ?_
        refine sx_rd' (rd_extract' rfl rfl) rfl rfl (wt_none' rfl) ?_
        refine sx_ox' (ox_alloc' info27 rfl rfl rfl rfl (l := [(Vl (.int .i64 0)), (Vl (.int .i64 0)), (Vl (.int .i64 0)), (Vl (.slice none 0 0)), (Vl (.slice none 0 0)), (Vl (.slice none 0 0)), (Vl (.slice none 0 0))]) rfl) (wt_none' rfl) fun q9 => ?_
        refine sx_ox' (ox_store' (i := 0) (o := 0) rfl rfl (lv_ag _) ⟨rfl, rfl, rfl, rfl⟩ rfl info27 rfl (H' := [⟨.pointer (some q9), [(Vl (.int .i64 r45.1)), (Vl (.int .i64 r45.2.1)), (Vl (.int .i64 r45.2.2.1)), (Sl Kf r45.2.2.2.1), (Vl (.slice none 0 0)), (Vl (.slice none 0 0)), (Vl (.slice none 0 0))], 27, none⟩]) rfl) (wt_none' rfl) fun _ => ?_
        refine sx_rd' (rd_assign' rfl) rfl rfl (wt_none' rfl) ?_
        refine sx_nil' ?_
        show TX E K7 _
        refine tx_k' hK7 ?_
        refine cx_seq' fun K8 hK8 => ?_
        refine cx_region' ?_
        refine sx_rd' (rd_move' rfl) rfl rfl (wt_none' rfl) ?_
        refine sx_rd' (rd_move' rfl) rfl rfl (wt_none' rfl) ?_
        refine sx_rd' (rd_move' rfl) rfl rfl (wt_none' rfl) ?_
        obtain ⟨r52, hr52, hp⟩ := bind_some hp
        refine sx_ox' (ox_calln' (ent_fn' Try.func11 isn11 rfl rfl) (laws_fRows_sim _ _ _ hr52 : Go.Sx.Fn Try.prog 11 [(Sl Kf a0), (Sl (Ki .i64) a1), (Vl (.int .i64 a3))] [] (fun x : Unit => (Tu [(Ag [(Vl (.int .i64 r52.1)), (Vl (.int .i64 r52.2.1)), (Vl (.int .i64 r52.2.2.1)), (Sl Kf r52.2.2.2.1), (Sl (Ki .i64) r52.2.2.2.2.1), (Vl (.slice none 0 0)), (Vl (.slice none 0 0))]), (Vl (.bool r52.2.2.2.2.2))])) (fun x => [])) (Hn := fun x : Unit => [⟨.pointer (some q9), [(Vl (.int .i64 r45.1)), (Vl (.int .i64 r45.2.1)), (Vl (.int .i64 r45.2.2.1)), (Sl Kf r45.2.2.2.1), (Vl (.slice none 0 0)), (Vl (.slice none 0 0)), (Vl (.slice none 0 0))], 27, none⟩]) (fun _ => rfl) rfl rfl) (wt_none' rfl) fun ⟨⟩ => ?_
        refine sx_rd' (rd_move' rfl) rfl rfl (wt_none' rfl) ?_
        refine sx_rd' (rd_extract' rfl rfl) rfl rfl (wt_none' rfl) ?_
        refine sx_rd' (rd_extract' rfl rfl) rfl rfl (wt_none' rfl) ?_
        refine sx_ox' (ox_alloc' info27 rfl rfl rfl rfl (l := [(Vl (.int .i64 0)), (Vl (.int .i64 0)), (Vl (.int .i64 0)), (Vl (.slice none 0 0)), (Vl (.slice none 0 0)), (Vl (.slice none 0 0)), (Vl (.slice none 0 0))]) rfl) (wt_none' rfl) fun q11 => ?_
        refine sx_ox' (ox_store' (i := 0) (o := 0) rfl rfl (lv_ag _) ⟨rfl, rfl, rfl, rfl⟩ rfl info27 rfl (H' := [⟨.pointer (some q11), [(Vl (.int .i64 r52.1)), (Vl (.int .i64 r52.2.1)), (Vl (.int .i64 r52.2.2.1)), (Sl Kf r52.2.2.2.1), (Sl (Ki .i64) r52.2.2.2.2.1), (Vl (.slice none 0 0)), (Vl (.slice none 0 0))], 27, none⟩, ⟨.pointer (some q9), [(Vl (.int .i64 r45.1)), (Vl (.int .i64 r45.2.1)), (Vl (.int .i64 r45.2.2.1)), (Sl Kf r45.2.2.2.1), (Vl (.slice none 0 0)), (Vl (.slice none 0 0)), (Vl (.slice none 0 0))], 27, none⟩]) rfl) (wt_none' rfl) fun _ => ?_
        refine sx_rd' (rd_assign' rfl) rfl rfl (wt_none' rfl) ?_
        refine sx_nil' ?_
        show TX E K8 _
        refine tx_k' hK8 ?_
        refine cx_seq' fun K9 hK9 => ?_
        refine cx_region' ?_
        refine sx_rd' (rd_move' rfl) rfl rfl (wt_none' rfl) ?_
        refine sx_rd' (rd_move' rfl) rfl rfl (wt_none' rfl) ?_
        refine sx_rd' (rd_move' rfl) rfl rfl (wt_none' rfl) ?_
        obtain ⟨r59, hr59, hp⟩ := bind_some hp
        refine sx_ox' (ox_calln' (ent_fn' Try.func38 isn38 rfl rfl) (laws_fRowss_sim _ _ _ hr59 : Go.Sx.Fn Try.prog 38 [(Sl Kf a0), (Sl (Kl (Ki .i64)) a2), (Vl (.int .i64 a3))] [] (fun x : Unit => (Tu [(Ag [(Vl (.int .i64 r59.1)), (Vl (.int .i64 r59.2.1)), (Vl (.int .i64 r59.2.2.1)), (Sl Kf r59.2.2.2.1), (Vl (.slice none 0 0)), (Sl (Kl (Ki .i64)) r59.2.2.2.2.1), (Vl (.slice none 0 0))]), (Vl (.bool r59.2.2.2.2.2))])) (fun x => [])) (Hn := fun x : Unit => [⟨.pointer (some q11), [(Vl (.int .i64 r52.1)), (Vl (.int .i64 r52.2.1)), (Vl (.int .i64 r52.2.2.1)), (Sl Kf r52.2.2.2.1), (Sl (Ki .i64) r52.2.2.2.2.1), (Vl (.slice none 0 0)), (Vl (.slice none 0 0))], 27, none⟩, ⟨.pointer (some q9), [(Vl (.int .i64 r45.1)), (Vl (.int .i64 r45.2.1)), (Vl (.int .i64 r45.2.2.1)), (Sl Kf r45.2.2.2.1), (Vl (.slice none 0 0)), (Vl (.slice none 0 0)), (Vl (.slice none 0 0))], 27, none⟩]) (fun _ => rfl) rfl rfl) (wt_none' rfl) fun ⟨⟩ => ?_
        refine sx_rd' (rd_move' rfl) rfl rfl (wt_none' rfl) ?_
        refine sx_rd' (rd_extract' rfl rfl) rfl rfl (wt_none' rfl) ?_
        refine sx_rd' (rd_extract' rfl rfl) rfl rfl (wt_none' rfl) ?_
        refine sx_ox' (ox_alloc' info27 rfl rfl rfl rfl (l := [(Vl (.int .i64 0)), (Vl (.int .i64 0)), (Vl (.int .i64 0)), (Vl (.slice none 0 0)), (Vl (.slice none 0 0)), (Vl (.slice none 0 0)), (Vl (.slice none 0 0))]) rfl) (wt_none' rfl) fun q13 => ?_
        refine sx_ox' (ox_store' (i := 0) (o := 0) rfl rfl (lv_ag _) ⟨rfl, rfl, rfl, rfl⟩ rfl info27 rfl (H' := [⟨.pointer (some q13), [(Vl (.int .i64 r59.1)), (Vl (.int .i64 r59.2.1)), (Vl (.int .i64 r59.2.2.1)), (Sl Kf r59.2.2.2.1), (Vl (.slice none 0 0)), (Sl (Kl (Ki .i64)) r59.2.2.2.2.1), (Vl (.slice none 0 0))], 27, none⟩, ⟨.pointer (some q11), [(Vl (.int .i64 r52.1)), (Vl (.int .i64 r52.2.1)), (Vl (.int .i64 r52.2.2.1)), (Sl Kf r52.2.2.2.1), (Sl (Ki .i64) r52.2.2.2.2.1), (Vl (.slice none 0 0)), (Vl (.slice none 0 0))], 27, none⟩, ⟨.pointer (some q9), [(Vl (.int .i64 r45.1)), (Vl (.int .i64 r45.2.1)), (Vl (.int .i64 r45.2.2.1)), (Sl Kf r45.2.2.2.1), (Vl (.slice none 0 0)), (Vl (.slice none 0 0)), (Vl (.slice none 0 0))], 27, none⟩]) rfl) (wt_none' rfl) fun _ => ?_
        refine sx_rd' (rd_assign' rfl) rfl rfl (wt_none' rfl) ?_
        refine sx_nil' ?_
        show TX E K9 _
        refine tx_k' hK9 ?_
        refine cx_seq' fun K10 hK10 => ?_
        refine cx_seq' fun K11 hK11 => ?_
        refine cx_region' ?_
        refine sx_rd' (rd_move' rfl) rfl rfl (wt_none' rfl) ?_
        refine sx_rd' (rd_un' rfl ru_not) rfl rfl (wt_none' rfl) ?_
        refine sx_rd' (rd_move' rfl) rfl rfl (wt_none' rfl) ?_
        refine sx_cutn' 3 (fun (v3 : Bool) => (⟨153, [], [(0, (Sl Kf a0)), (1, (Sl (Ki .i64) a1)), (2, (Sl (Kl (Ki .i64)) a2)), (3, (Vl (.int .i64 a3))), (14, (Vl (.bool r59.2.2.2.2.2))), (67, (Vl (.bool v3)))], []⟩ : St)) (fun (v3 : Bool) => laws_FnFlatBack_j3 k a0 a3 a1 a2 r59 v3 = some out) ?_ ?_
        · rintro x3 hp
          replace hp : laws_FnFlatBack_j3 k a0 a3 a1 a2 r59 x3 = some out := hp
          unfold laws_FnFlatBack_j3 at hp
          refine sx_rd' (rd_move' rfl) rfl rfl (wt_none' rfl) ?_
          refine sx_cutn' 3 (fun (v4 : Bool) => (⟨153, [], [(0, (Sl Kf a0)), (1, (Sl (Ki .i64) a1)), (2, (Sl (Kl (Ki .i64)) a2)), (3, (Vl (.int .i64 a3))), (71, (Vl (.bool v4)))], []⟩ : St)) (fun (v4 : Bool) => laws_FnFlatBack_j4 k a0 a3 a1 a2 v4 = some out) ?_ ?_
          · rintro x4 hp
            replace hp : laws_FnFlatBack_j4 k a0 a3 a1 a2 x4 = some out := hp
            unfold laws_FnFlatBack_j4 at hp
            refine sx_nil' ?_
            show TX E K11 _
            refine tx_k' hK11 ?_
            refine cx_cond' rfl (fun h6 => ?_) (fun h6 => ?_)
            · replace hp := (br_t h6).symm.trans hp
              refine cx_seq' fun K14 hK14 => ?_
              refine cx_region' ?_
              refine sx_rd' (rd_assign' rfl) rfl rfl (wt_none' rfl) ?_
              refine sx_nil' ?_
              show TX E K14 _
              refine tx_k' hK14 ?_
              refine cx_retc' ?_
              replace hp := Option.some.inj hp
              subst hp
              refine tx_pick' (L' := [(8, (Vl (.bool true)))]) (H' := []) [] (sub_cons rfl sub_nil) (by decide) pick_nil ?_
              exact tx_ret1' Try.results8 rfl () (rv_tmp' rfl) (List.Sublist.refl _)
            · replace hp := (br_f h6).symm.trans hp
              refine cx_skip' ?_
              show TX E K10 _
              refine tx_k' hK10 ?_
              refine cx_seq' fun K15 hK15 => ?_
              refine cx_region' ?_
              refine sx_rd' (rd_move' rfl) rfl rfl (wt_none' rfl) ?_
              refine sx_rd' (rd_move' rfl) rfl rfl (wt_none' rfl) ?_
              obtain ⟨r75, hr75, hp⟩ := bind_some hp
              refine sx_ox' (ox_calln' (ent_fn' Try.func39 isn39 rfl rfl) (impl_Inflate1_sim _ _ hr75 : Go.Sx.Fn Try.prog 39 [(Sl Kf a0), (Vl (.int .i64 a3))] [] (fun x : Unit => (Tu [(Sl (Kl Kf) r75.1), (Vl (.bool r75.2))])) (fun x => [])) (Hn := fun x : Unit => []) (fun _ => rfl) rfl rfl) (wt_none' rfl) fun ⟨⟩ => ?_
              refine sx_rd' (rd_move' rfl) rfl rfl (wt_none' rfl) ?_
              refine sx_rd' (rd_extract' rfl rfl) rfl rfl (wt_none' rfl) ?_
              refine sx_rd' (rd_extract' rfl rfl) rfl rfl (wt_none' rfl) ?_
              refine sx_rd' (rd_assign' rfl) rfl rfl (wt_none' rfl) ?_
              refine sx_rd' (rd_assign' rfl) rfl rfl (wt_none' rfl) ?_
              refine sx_nil' ?_
              show TX E K15 _
              refine tx_k' hK15 ?_
              refine cx_seq' fun K16 hK16 => ?_
              refine cx_region' ?_
              refine sx_rd' (rd_move' rfl) rfl rfl (wt_none' rfl) ?_
              refine sx_rd' (rd_move' rfl) rfl rfl (wt_none' rfl) ?_
              refine sx_rd' (rd_move' rfl) rfl rfl (wt_none' rfl) ?_
              obtain ⟨r82, hr82, hp⟩ := bind_some hp
              refine sx_ox' (ox_calln' (ent_fn' Try.func40 isn40 rfl rfl) (impl_Inflate2_sim _ _ _ hr82 : Go.Sx.Fn Try.prog 40 [(Sl Kf a0), (Sl (Ki .i64) a1), (Vl (.int .i64 a3))] [] (fun x : Unit => (Tu [(Sl (Kl (Kl Kf)) r82.1), (Vl (.bool r82.2))])) (fun x => [])) (Hn := fun x : Unit => []) (fun _ => rfl) rfl rfl) (wt_none' rfl) fun ⟨⟩ => ?_
              refine sx_rd' (rd_move' rfl) rfl rfl (wt_none' rfl) ?_
              refine sx_rd' (rd_extract' rfl rfl) rfl rfl (wt_none' rfl) ?_
              refine sx_rd' (rd_extract' rfl rfl) rfl rfl (wt_none' rfl) ?_
              refine sx_rd' (rd_assign' rfl) rfl rfl (wt_none' rfl) ?_
              refine sx_rd' (rd_assign' rfl) rfl rfl (wt_none' rfl) ?_
              refine sx_nil' ?_
              show TX E K16 _
              refine tx_k' hK16 ?_
              refine cx_seq' fun K17 hK17 => ?_
              refine cx_region' ?_
              refine sx_rd' (rd_move' rfl) rfl rfl (wt_none' rfl) ?_
              refine sx_rd' (rd_move' rfl) rfl rfl (wt_none' rfl) ?_
              refine sx_rd' (rd_move' rfl) rfl rfl (wt_none' rfl) ?_
              obtain ⟨r89, hr89, hp⟩ := bind_some hp
              refine sx_ox' (ox_calln' (ent_fn' Try.func41 isn41 rfl rfl) (impl_Inflate3_sim _ _ _ hr89 : Go.Sx.Fn Try.prog 41 [(Sl Kf a0), (Sl (Kl (Ki .i64)) a2), (Vl (.int .i64 a3))] [] (fun x : Unit => (Tu [(Sl (Kl (Kl (Kl Kf))) r89.1), (Vl (.bool r89.2))])) (fun x => [])) (Hn := fun x : Unit => []) (fun _ => rfl) rfl rfl) (wt_none' rfl) fun ⟨⟩ => ?_
              refine sx_rd' (rd_move' rfl) rfl rfl (wt_none' rfl) ?_
              refine sx_rd' (rd_extract' rfl rfl) rfl rfl (wt_none' rfl) ?_
              refine sx_rd' (rd_extract' rfl rfl) rfl rfl (wt_none' rfl) ?_
              refine sx_rd' (rd_assign' rfl) rfl rfl (wt_none' rfl) ?_
              refine sx_rd' (rd_assign' rfl) rfl rfl (wt_none' rfl) ?_
              refine sx_nil' ?_
              show TX E K17 _
              refine tx_k' hK17 ?_
              refine cx_seq' fun K18 hK18 => ?_
              refine cx_region' ?_
              refine sx_rd' (rd_move' rfl) rfl rfl (wt_none' rfl) ?_
              refine sx_rd' (rd_move' rfl) rfl rfl (wt_none' rfl) ?_
              obtain ⟨r95, hr95, hp⟩ := bind_some hp
              refine sx_ox' (ox_calln' (ent_fn' Try.func42 isn42 rfl rfl) (impl_Deflate1_sim _ _ hr95 : Go.Sx.Fn Try.prog 42 [(Sl (Kl Kf) r75.1), (Vl (.int .i64 a3))] [] (fun x : Unit => (Tu [(Sl Kf r95.1), (Vl (.bool r95.2))])) (fun x => [])) (Hn := fun x : Unit => []) (fun _ => rfl) rfl rfl) (wt_none' rfl) fun ⟨⟩ => ?_
              refine sx_rd' (rd_move' rfl) rfl rfl (wt_none' rfl) ?_
              refine sx_rd' (rd_extract' rfl rfl) rfl rfl (wt_none' rfl) ?_
              refine sx_rd' (rd_extract' rfl rfl) rfl rfl (wt_none' rfl) ?_
              refine sx_rd' (rd_assign' rfl) rfl rfl (wt_none' rfl) ?_
              refine sx_rd' (rd_assign' rfl) rfl rfl (wt_none' rfl) ?_
              refine sx_nil' ?_
              show TX E K18 _
              refine tx_k' hK18 ?_
              refine cx_seq' fun K19 hK19 => ?_
              refine cx_region' ?_
              refine sx_rd' (rd_move' rfl) rfl rfl (wt_none' rfl) ?_
              refine sx_rd' (rd_move' rfl) rfl rfl (wt_none' rfl) ?_
              obtain ⟨r101, hr101, hp⟩ := bind_some hp
              refine sx_ox' (ox_calln' (ent_fn' Try.func25 isn25 rfl rfl) (impl_Deflate2_sim _ _ hr101 : Go.Sx.Fn Try.prog 25 [(Sl (Kl (Kl Kf)) r82.1), (Vl (.int .i64 a3))] [] (fun x : Unit => (Tu [(Sl Kf r101.1), (Sl (Ki .i64) r101.2.1), (Vl (.bool r101.2.2))])) (fun x => [])) (Hn := fun x : Unit => []) (fun _ => rfl) rfl rfl) (wt_none' rfl) fun ⟨⟩ => ?_
              refine sx_rd' (rd_move' rfl) rfl rfl (wt_none' rfl) ?_
              refine sx_rd' (rd_extract' rfl rfl) rfl rfl (wt_none' rfl) ?_
              refine sx_rd' (rd_extract' rfl rfl) rfl rfl (wt_none' rfl) ?_
              refine sx_rd' (rd_extract' rfl rfl) rfl rfl (wt_none' rfl) ?_
              refine sx_rd' (rd_assign' rfl) rfl rfl (wt_none' rfl) ?_
              refine sx_rd' (rd_assign' rfl) rfl rfl (wt_none' rfl) ?_
              refine sx_rd' (rd_assign' rfl) rfl rfl (wt_none' rfl) ?_
              refine sx_nil' ?_
              show TX E K19 _
              refine tx_k' hK19 ?_
              refine cx_seq' fun K20 hK20 => ?_
              refine cx_region' ?_
              refine sx_rd' (rd_move' rfl) rfl rfl (wt_none' rfl) ?_
              refine sx_rd' (rd_move' rfl) rfl rfl (wt_none' rfl) ?_
              obtain ⟨r108, hr108, hp⟩ := bind_some hp
              refine sx_ox' (ox_calln' (ent_fn' Try.func43 isn43 rfl rfl) (impl_Deflate3_sim _ _ hr108 : Go.Sx.Fn Try.prog 43 [(Sl (Kl (Kl (Kl Kf))) r89.1), (Vl (.int .i64 a3))] [] (fun x : Unit => (Tu [(Sl Kf r108.1), (Sl (Kl (Ki .i64)) r108.2.1), (Vl (.bool r108.2.2))])) (fun x => [])) (Hn := fun x : Unit => []) (fun _ => rfl) rfl rfl) (wt_none' rfl) fun ⟨⟩ => ?_
              refine sx_rd' (rd_move' rfl) rfl rfl (wt_none' rfl) ?_
              refine sx_rd' (rd_extract' rfl rfl) rfl rfl (wt_none' rfl) ?_
              refine sx_rd' (rd_extract' rfl rfl) rfl rfl (wt_none' rfl) ?_
              refine sx_rd' (rd_extract' rfl rfl) rfl rfl (wt_none' rfl) ?_
              refine sx_rd' (rd_assign' rfl) rfl rfl (wt_none' rfl) ?_
              refine sx_rd' (rd_assign' rfl) rfl rfl (wt_none' rfl) ?_
              refine sx_rd' (rd_assign' rfl) rfl rfl (wt_none' rfl) ?_
              refine sx_nil' ?_
              show TX E K20 _
              refine tx_k' hK20 ?_
              refine cx_seq' fun K21 hK21 => ?_
              refine cx_region' ?_
              refine sx_rd' (rd_move' rfl) rfl rfl (wt_none' rfl) ?_
              refine sx_rd' (rd_move' rfl) rfl rfl (wt_none' rfl) ?_
              refine sx_cutn' 2 (fun (v5 : Bool) => (⟨153, [], [(0, (Sl Kf a0)), (1, (Sl (Ki .i64) a1)), (2, (Sl (Kl (Ki .i64)) a2)), (20, (Vl (.bool r89.2))), (21, (Sl Kf r95.1)), (22, (Vl (.bool r95.2))), (23, (Sl Kf r101.1)), (24, (Sl (Ki .i64) r101.2.1)), (25, (Vl (.bool r101.2.2))), (26, (Sl Kf r108.1)), (27, (Sl (Kl (Ki .i64)) r108.2.1)), (28, (Vl (.bool r108.2.2))), (115, (Vl (.bool v5)))], []⟩ : St)) (fun (v5 : Bool) => laws_FnFlatBack_j5 k r95 a0 r101 r108 a1 a2 r89 v5 = some out) ?_ ?_
              · rintro x5 hp
                replace hp : laws_FnFlatBack_j5 k r95 a0 r101 r108 a1 a2 r89 x5 = some out := hp
                unfold laws_FnFlatBack_j5 at hp
                refine sx_rd' (rd_move' rfl) rfl rfl (wt_none' rfl) ?_
                refine sx_cutn' 2 (fun (v6 : Bool) => (⟨153, [], [(0, (Sl Kf a0)), (1, (Sl (Ki .i64) a1)), (2, (Sl (Kl (Ki .i64)) a2)), (21, (Sl Kf r95.1)), (22, (Vl (.bool r95.2))), (23, (Sl Kf r101.1)), (24, (Sl (Ki .i64) r101.2.1)), (25, (Vl (.bool r101.2.2))), (26, (Sl Kf r108.1)), (27, (Sl (Kl (Ki .i64)) r108.2.1)), (28, (Vl (.bool r108.2.2))), (118, (Vl (.bool v6)))], []⟩ : St)) (fun (v6 : Bool) => laws_FnFlatBack_j6 k r95 a0 r101 r108 a1 a2 v6 = some out) ?_ ?_
                · rintro x6 hp
                  replace hp : laws_FnFlatBack_j6 k r95 a0 r101 r108 a1 a2 x6 = some out := hp
                  unfold laws_FnFlatBack_j6 at hp
                  refine sx_rd' (rd_move' rfl) rfl rfl (wt_none' rfl) ?_
                  refine sx_cutn' 2 (fun (v7 : Bool) => (⟨153, [], [(0, (Sl Kf a0)), (1, (Sl (Ki .i64) a1)), (2, (Sl (Kl (Ki .i64)) a2)), (21, (Sl Kf r95.1)), (23, (Sl Kf r101.1)), (24, (Sl (Ki .i64) r101.2.1)), (25, (Vl (.bool r101.2.2))), (26, (Sl Kf r108.1)), (27, (Sl (Kl (Ki .i64)) r108.2.1)), (28, (Vl (.bool r108.2.2))), (121, (Vl (.bool v7)))], []⟩ : St)) (fun (v7 : Bool) => laws_FnFlatBack_j7 k r95 a0 r101 r108 a1 a2 v7 = some out) ?_ ?_
                  · rintro x7 hp
                    replace hp : laws_FnFlatBack_j7 k r95 a0 r101 r108 a1 a2 x7 = some out := hp
                    unfold laws_FnFlatBack_j7 at hp
                    refine sx_rd' (rd_move' rfl) rfl rfl (wt_none' rfl) ?_
                    refine sx_cutn' 2 (fun (v8 : Bool) => (⟨153, [], [(0, (Sl Kf a0)), (1, (Sl (Ki .i64) a1)), (2, (Sl (Kl (Ki .i64)) a2)), (21, (Sl Kf r95.1)), (23, (Sl Kf r101.1)), (24, (Sl (Ki .i64) r101.2.1)), (26, (Sl Kf r108.1)), (27, (Sl (Kl (Ki .i64)) r108.2.1)), (28, (Vl (.bool r108.2.2))), (124, (Vl (.bool v8)))], []⟩ : St)) (fun (v8 : Bool) => laws_FnFlatBack_j8 k r95 a0 r101 r108 a1 a2 v8 = some out) ?_ ?_
                    · rintro x8 hp
                      replace hp : laws_FnFlatBack_j8 k r95 a0 r101 r108 a1 a2 x8 = some out := hp
                      unfold laws_FnFlatBack_j8 at hp
                      refine sx_rd' (rd_move' rfl) rfl rfl (wt_none' rfl) ?_
                      refine sx_cutn' 2 (fun (v9 : Bool) => (⟨153, [], [(0, (Sl Kf a0)), (1, (Sl (Ki .i64) a1)), (2, (Sl (Kl (Ki .i64)) a2)), (21, (Sl Kf r95.1)), (23, (Sl Kf r101.1)), (24, (Sl (Ki .i64) r101.2.1)), (26, (Sl Kf r108.1)), (27, (Sl (Kl (Ki .i64)) r108.2.1)), (127, (Vl (.bool v9)))], []⟩ : St)) (fun (v9 : Bool) => laws_FnFlatBack_j9 k r95 a0 r101 r108 a1 a2 v9 = some out) ?_ ?_
                      · rintro x9 hp
                        replace hp : laws_FnFlatBack_j9 k r95 a0 r101 r108 a1 a2 x9 = some out := hp
                        unfold laws_FnFlatBack_j9 at hp
                        refine sx_rd' (rd_move' rfl) rfl rfl (wt_none' rfl) ?_
                        refine sx_cutn' 4 (fun (v10 : Bool) => (⟨153, [], [(0, (Sl Kf a0)), (1, (Sl (Ki .i64) a1)), (2, (Sl (Kl (Ki .i64)) a2)), (23, (Sl Kf r101.1)), (24, (Sl (Ki .i64) r101.2.1)), (26, (Sl Kf r108.1)), (27, (Sl (Kl (Ki .i64)) r108.2.1)), (132, (Vl (.bool v10)))], []⟩ : St)) (fun (v10 : Bool) => laws_FnFlatBack_j10 k r101 a0 r108 a1 a2 v10 = some out) ?_ ?_
                        · rintro x10 hp
                          replace hp : laws_FnFlatBack_j10 k r101 a0 r108 a1 a2 x10 = some out := hp
                          unfold laws_FnFlatBack_j10 at hp
                          refine sx_rd' (rd_move' rfl) rfl rfl (wt_none' rfl) ?_
                          refine sx_cutn' 4 (fun (v11 : Bool) => (⟨153, [], [(0, (Sl Kf a0)), (1, (Sl (Ki .i64) a1)), (2, (Sl (Kl (Ki .i64)) a2)), (24, (Sl (Ki .i64) r101.2.1)), (26, (Sl Kf r108.1)), (27, (Sl (Kl (Ki .i64)) r108.2.1)), (137, (Vl (.bool v11)))], []⟩ : St)) (fun (v11 : Bool) => laws_FnFlatBack_j11 k r108 a0 r101 a1 a2 v11 = some out) ?_ ?_
                          · rintro x11 hp
                            replace hp : laws_FnFlatBack_j11 k r108 a0 r101 a1 a2 x11 = some out := hp
                            unfold laws_FnFlatBack_j11 at hp
                            refine sx_rd' (rd_move' rfl) rfl rfl (wt_none' rfl) ?_
                            refine sx_cutn' 4 (fun (v12 : Bool) => (⟨153, [], [(1, (Sl (Ki .i64) a1)), (2, (Sl (Kl (Ki .i64)) a2)), (24, (Sl (Ki .i64) r101.2.1)), (27, (Sl (Kl (Ki .i64)) r108.2.1)), (142, (Vl (.bool v12)))], []⟩ : St)) (fun (v12 : Bool) => laws_FnFlatBack_j12 k r101 a1 r108 a2 v12 = some out) ?_ ?_
                            · rintro x12 hp
                              replace hp : laws_FnFlatBack_j12 k r101 a1 r108 a2 x12 = some out := hp
                              unfold laws_FnFlatBack_j12 at hp
                              refine sx_rd' (rd_move' rfl) rfl rfl (wt_none' rfl) ?_
                              refine sx_cutn' 4 (fun (v13 : Bool) => (⟨153, [], [(2, (Sl (Kl (Ki .i64)) a2)), (27, (Sl (Kl (Ki .i64)) r108.2.1)), (147, (Vl (.bool v13)))], []⟩ : St)) (fun (v13 : Bool) => laws_FnFlatBack_j13 k r108 a2 v13 = some out) ?_ ?_
                              · rintro x13 hp
                                replace hp : laws_FnFlatBack_j13 k r108 a2 x13 = some out := hp
                                unfold laws_FnFlatBack_j13 at hp
                                refine sx_rd' (rd_move' rfl) rfl rfl (wt_none' rfl) ?_
                                refine sx_cutn' 4 (fun (v14 : Bool) => (⟨153, [], [(152, (Vl (.bool v14)))], []⟩ : St)) (fun (v14 : Bool) => laws_FnFlatBack_j14 k v14 = some out) ?_ ?_
                                · rintro x14 hp
                                  replace hp : laws_FnFlatBack_j14 k x14 = some out := hp
                                  unfold laws_FnFlatBack_j14 at hp
                                  refine sx_rd' (rd_assign' rfl) rfl rfl (wt_none' rfl) ?_
                                  refine sx_nil' ?_
                                  show TX E K21 _
                                  refine tx_k' hK21 ?_
                                  refine cx_retc' ?_
                                  replace hp := Option.some.inj hp
                                  subst hp
                                  refine tx_pick' (L' := [(8, (Vl (.bool x14)))]) (H' := []) [] (sub_cons rfl sub_nil) (by decide) pick_nil ?_
                                  exact tx_ret1' Try.results8 rfl () (rv_tmp' rfl) (List.Sublist.refl _)
                                · intro K31 hK31
                                  rcases br_cases hp with ⟨h16, hp⟩ | ⟨h16, hp⟩
                                  · refine sx_rd' (rd_move' rfl) rfl rfl (wt_is' (wt_guard' rfl rfl rfl) (beq_tt h16)) ?_
                                    refine sx_rd' (rd_move' rfl) rfl rfl (wt_is' (wt_guard' rfl rfl rfl) (beq_tt h16)) ?_
                                    obtain ⟨r151, hr151, hp⟩ := bind_some hp
                                    refine sx_ox' (ox_calln' (ent_fn' Try.func44 isn44 rfl rfl) (laws_gIntss_sim _ _ hr151 : Go.Sx.Fn Try.prog 44 [(Sl (Kl (Ki .i64)) r108.2.1), (Sl (Kl (Ki .i64)) a2)] [] (fun x : Unit => (Vl (.bool r151))) (fun x => [])) (Hn := fun x : Unit => []) (fun _ => rfl) rfl rfl) (wt_is' (wt_guard' rfl rfl rfl) (beq_tt h16)) fun ⟨⟩ => ?_
                                    refine sx_rd' (rd_pick_true' rfl h16 rfl) rfl rfl (wt_none' rfl) ?_
                                    refine sx_nil' ?_
                                    show TX E K31 _
                                    exact tx_pick' [] (sub_cons rfl sub_nil) (by decide) pick_nil (hK31 r151 hp)
                                  · refine sx_skip' rfl rfl (wt_is' (wt_guard' rfl rfl rfl) (beq_ft h16)) ?_
                                    refine sx_skip' rfl rfl (wt_is' (wt_guard' rfl rfl rfl) (beq_ft h16)) ?_
                                    refine sx_skip' rfl rfl (wt_is' (wt_guard' rfl rfl rfl) (beq_ft h16)) ?_
                                    refine sx_rd' (rd_pick_false' rfl h16 rfl) rfl rfl (wt_none' rfl) ?_
                                    refine sx_nil' ?_
                                    show TX E K31 _
                                    exact tx_pick' [] (sub_cons rfl sub_nil) (by decide) pick_nil (hK31 false hp)
                              · intro K30 hK30
                                rcases br_cases hp with ⟨h15, hp⟩ | ⟨h15, hp⟩
                                · refine sx_rd' (rd_move' rfl) rfl rfl (wt_is' (wt_guard' rfl rfl rfl) (beq_tt h15)) ?_
                                  refine sx_rd' (rd_move' rfl) rfl rfl (wt_is' (wt_guard' rfl rfl rfl) (beq_tt h15)) ?_
                                  obtain ⟨r146, hr146, hp⟩ := bind_some hp
                                  refine sx_ox' (ox_calln' (ent_fn' Try.func26 isn26 rfl rfl) (laws_gInts_sim _ _ hr146 : Go.Sx.Fn Try.prog 26 [(Sl (Ki .i64) r101.2.1), (Sl (Ki .i64) a1)] [] (fun x : Unit => (Vl (.bool r146))) (fun x => [])) (Hn := fun x : Unit => []) (fun _ => rfl) rfl rfl) (wt_is' (wt_guard' rfl rfl rfl) (beq_tt h15)) fun ⟨⟩ => ?_
                                  refine sx_rd' (rd_pick_true' rfl h15 rfl) rfl rfl (wt_none' rfl) ?_
                                  refine sx_nil' ?_
                                  show TX E K30 _
                                  exact tx_pick' [] (sub_cons rfl (sub_cons rfl (sub_cons rfl sub_nil))) (by decide) pick_nil (hK30 r146 hp)
                                · refine sx_skip' rfl rfl (wt_is' (wt_guard' rfl rfl rfl) (beq_ft h15)) ?_
                                  refine sx_skip' rfl rfl (wt_is' (wt_guard' rfl rfl rfl) (beq_ft h15)) ?_
                                  refine sx_skip' rfl rfl (wt_is' (wt_guard' rfl rfl rfl) (beq_ft h15)) ?_
                                  refine sx_rd' (rd_pick_false' rfl h15 rfl) rfl rfl (wt_none' rfl) ?_
                                  refine sx_nil' ?_
                                  show TX E K30 _
                                  exact tx_pick' [] (sub_cons rfl (sub_cons rfl (sub_cons rfl sub_nil))) (by decide) pick_nil (hK30 false hp)
                            · intro K29 hK29
                              rcases br_cases hp with ⟨h14, hp⟩ | ⟨h14, hp⟩
                              · refine sx_rd' (rd_move' rfl) rfl rfl (wt_is' (wt_guard' rfl rfl rfl) (beq_tt h14)) ?_
                                refine sx_rd' (rd_move' rfl) rfl rfl (wt_is' (wt_guard' rfl rfl rfl) (beq_tt h14)) ?_
                                obtain ⟨r141, hr141, hp⟩ := bind_some hp
                                refine sx_ox' (ox_calln' (ent_fn' Try.func19 isn19 rfl rfl) (spec_SameFloats_sim _ _ hr141 : Go.Sx.Fn Try.prog 19 [(Sl Kf r108.1), (Sl Kf a0)] [] (fun x : Unit => (Vl (.bool r141))) (fun x => [])) (Hn := fun x : Unit => []) (fun _ => rfl) rfl rfl) (wt_is' (wt_guard' rfl rfl rfl) (beq_tt h14)) fun ⟨⟩ => ?_
                                refine sx_rd' (rd_pick_true' rfl h14 rfl) rfl rfl (wt_none' rfl) ?_
                                refine sx_nil' ?_
                                show TX E K29 _
                                exact tx_pick' [] (sub_cons rfl (sub_cons rfl (sub_cons rfl (sub_cons rfl (sub_cons rfl sub_nil))))) (by decide) pick_nil (hK29 r141 hp)
                              · refine sx_skip' rfl rfl (wt_is' (wt_guard' rfl rfl rfl) (beq_ft h14)) ?_
                                refine sx_skip' rfl rfl (wt_is' (wt_guard' rfl rfl rfl) (beq_ft h14)) ?_
                                refine sx_skip' rfl rfl (wt_is' (wt_guard' rfl rfl rfl) (beq_ft h14)) ?_
                                refine sx_rd' (rd_pick_false' rfl h14 rfl) rfl rfl (wt_none' rfl) ?_
                                refine sx_nil' ?_
                                show TX E K29 _
                                exact tx_pick' [] (sub_cons rfl (sub_cons rfl (sub_cons rfl (sub_cons rfl (sub_cons rfl sub_nil))))) (by decide) pick_nil (hK29 false hp)
                          · intro K28 hK28
                            rcases br_cases hp with ⟨h13, hp⟩ | ⟨h13, hp⟩
                            · refine sx_rd' (rd_move' rfl) rfl rfl (wt_is' (wt_guard' rfl rfl rfl) (beq_tt h13)) ?_
                              refine sx_rd' (rd_move' rfl) rfl rfl (wt_is' (wt_guard' rfl rfl rfl) (beq_tt h13)) ?_
                              obtain ⟨r136, hr136, hp⟩ := bind_some hp
                              refine sx_ox' (ox_calln' (ent_fn' Try.func19 isn19 rfl rfl) (spec_SameFloats_sim _ _ hr136 : Go.Sx.Fn Try.prog 19 [(Sl Kf r101.1), (Sl Kf a0)] [] (fun x : Unit => (Vl (.bool r136))) (fun x => [])) (Hn := fun x : Unit => []) (fun _ => rfl) rfl rfl) (wt_is' (wt_guard' rfl rfl rfl) (beq_tt h13)) fun ⟨⟩ => ?_
                              refine sx_rd' (rd_pick_true' rfl h13 rfl) rfl rfl (wt_none' rfl) ?_
                              refine sx_nil' ?_
                              show TX E K28 _
                              exact tx_pick' [] (sub_cons rfl (sub_cons rfl (sub_cons rfl (sub_cons rfl (sub_cons rfl (sub_cons rfl (sub_cons rfl sub_nil))))))) (by decide) pick_nil (hK28 r136 hp)
                            · refine sx_skip' rfl rfl (wt_is' (wt_guard' rfl rfl rfl) (beq_ft h13)) ?_
                              refine sx_skip' rfl rfl (wt_is' (wt_guard' rfl rfl rfl) (beq_ft h13)) ?_
                              refine sx_skip' rfl rfl (wt_is' (wt_guard' rfl rfl rfl) (beq_ft h13)) ?_
                              refine sx_rd' (rd_pick_false' rfl h13 rfl) rfl rfl (wt_none' rfl) ?_
                              refine sx_nil' ?_
                              show TX E K28 _
                              exact tx_pick' [] (sub_cons rfl (sub_cons rfl (sub_cons rfl (sub_cons rfl (sub_cons rfl (sub_cons rfl (sub_cons rfl sub_nil))))))) (by decide) pick_nil (hK28 false hp)
                        · intro K27 hK27
                          rcases br_cases hp with ⟨h12, hp⟩ | ⟨h12, hp⟩
                          · refine sx_rd' (rd_move' rfl) rfl rfl (wt_is' (wt_guard' rfl rfl rfl) (beq_tt h12)) ?_
                            refine sx_rd' (rd_move' rfl) rfl rfl (wt_is' (wt_guard' rfl rfl rfl) (beq_tt h12)) ?_
                            obtain ⟨r131, hr131, hp⟩ := bind_some hp
                            refine sx_ox' (ox_calln' (ent_fn' Try.func19 isn19 rfl rfl) (spec_SameFloats_sim _ _ hr131 : Go.Sx.Fn Try.prog 19 [(Sl Kf r95.1), (Sl Kf a0)] [] (fun x : Unit => (Vl (.bool r131))) (fun x => [])) (Hn := fun x : Unit => []) (fun _ => rfl) rfl rfl) (wt_is' (wt_guard' rfl rfl rfl) (beq_tt h12)) fun ⟨⟩ => ?_
                            refine sx_rd' (rd_pick_true' rfl h12 rfl) rfl rfl (wt_none' rfl) ?_
                            refine sx_nil' ?_
                            show TX E K27 _
                            exact tx_pick' [] (sub_cons rfl (sub_cons rfl (sub_cons rfl (sub_cons rfl (sub_cons rfl (sub_cons rfl (sub_cons rfl (sub_cons rfl sub_nil)))))))) (by decide) pick_nil (hK27 r131 hp)
                          · refine sx_skip' rfl rfl (wt_is' (wt_guard' rfl rfl rfl) (beq_ft h12)) ?_
                            refine sx_skip' rfl rfl (wt_is' (wt_guard' rfl rfl rfl) (beq_ft h12)) ?_
                            refine sx_skip' rfl rfl (wt_is' (wt_guard' rfl rfl rfl) (beq_ft h12)) ?_
                            refine sx_rd' (rd_pick_false' rfl h12 rfl) rfl rfl (wt_none' rfl) ?_
                            refine sx_nil' ?_
                            show TX E K27 _
                            exact tx_pick' [] (sub_cons rfl (sub_cons rfl (sub_cons rfl (sub_cons rfl (sub_cons rfl (sub_cons rfl (sub_cons rfl (sub_cons rfl sub_nil)))))))) (by decide) pick_nil (hK27 false hp)
                      · intro K26 hK26
                        rcases br_cases hp with ⟨h11, hp⟩ | ⟨h11, hp⟩
                        · refine sx_rd' (rd_move' rfl) rfl rfl (wt_is' (wt_guard' rfl rfl rfl) (beq_tt h11)) ?_
                          refine sx_rd' (rd_pick_true' rfl h11 rfl) rfl rfl (wt_none' rfl) ?_
                          refine sx_nil' ?_
                          show TX E K26 _
                          exact tx_pick' [] (sub_cons rfl (sub_cons rfl (sub_cons rfl (sub_cons rfl (sub_cons rfl (sub_cons rfl (sub_cons rfl (sub_cons rfl (sub_cons rfl sub_nil))))))))) (by decide) pick_nil (hK26 r108.2.2 hp)
                        · refine sx_skip' rfl rfl (wt_is' (wt_guard' rfl rfl rfl) (beq_ft h11)) ?_
                          refine sx_rd' (rd_pick_false' rfl h11 rfl) rfl rfl (wt_none' rfl) ?_
                          refine sx_nil' ?_
                          show TX E K26 _
                          exact tx_pick' [] (sub_cons rfl (sub_cons rfl (sub_cons rfl (sub_cons rfl (sub_cons rfl (sub_cons rfl (sub_cons rfl (sub_cons rfl (sub_cons rfl sub_nil))))))))) (by decide) pick_nil (hK26 false hp)
                    · intro K25 hK25
                      rcases br_cases hp with ⟨h10, hp⟩ | ⟨h10, hp⟩
                      · refine sx_rd' (rd_move' rfl) rfl rfl (wt_is' (wt_guard' rfl rfl rfl) (beq_tt h10)) ?_
                        refine sx_rd' (rd_pick_true' rfl h10 rfl) rfl rfl (wt_none' rfl) ?_
                        refine sx_nil' ?_
                        show TX E K25 _
                        exact tx_pick' [] (sub_cons rfl (sub_cons rfl (sub_cons rfl (sub_cons rfl (sub_cons rfl (sub_cons rfl (sub_cons rfl (sub_cons rfl (sub_cons rfl (sub_cons rfl sub_nil)))))))))) (by decide) pick_nil (hK25 r101.2.2 hp)
                      · refine sx_skip' rfl rfl (wt_is' (wt_guard' rfl rfl rfl) (beq_ft h10)) ?_
                        refine sx_rd' (rd_pick_false' rfl h10 rfl) rfl rfl (wt_none' rfl) ?_
                        refine sx_nil' ?_
                        show TX E K25 _
                        exact tx_pick' [] (sub_cons rfl (sub_cons rfl (sub_cons rfl (sub_cons rfl (sub_cons rfl (sub_cons rfl (sub_cons rfl (sub_cons rfl (sub_cons rfl (sub_cons rfl sub_nil)))))))))) (by decide) pick_nil (hK25 false hp)
                  · intro K24 hK24
                    rcases br_cases hp with ⟨h9, hp⟩ | ⟨h9, hp⟩
                    · refine sx_rd' (rd_move' rfl) rfl rfl (wt_is' (wt_guard' rfl rfl rfl) (beq_tt h9)) ?_
                      refine sx_rd' (rd_pick_true' rfl h9 rfl) rfl rfl (wt_none' rfl) ?_
                      refine sx_nil' ?_
                      show TX E K24 _
                      exact tx_pick' [] (sub_cons rfl (sub_cons rfl (sub_cons rfl (sub_cons rfl (sub_cons rfl (sub_cons rfl (sub_cons rfl (sub_cons rfl (sub_cons rfl (sub_cons rfl (sub_cons rfl sub_nil))))))))))) (by decide) pick_nil (hK24 r95.2 hp)
                    · refine sx_skip' rfl rfl (wt_is' (wt_guard' rfl rfl rfl) (beq_ft h9)) ?_
                      refine sx_rd' (rd_pick_false' rfl h9 rfl) rfl rfl (wt_none' rfl) ?_
                      refine sx_nil' ?_
                      show TX E K24 _
                      exact tx_pick' [] (sub_cons rfl (sub_cons rfl (sub_cons rfl (sub_cons rfl (sub_cons rfl (sub_cons rfl (sub_cons rfl (sub_cons rfl (sub_cons rfl (sub_cons rfl (sub_cons rfl sub_nil))))))))))) (by decide) pick_nil (hK24 false hp)
                · intro K23 hK23
                  rcases br_cases hp with ⟨h8, hp⟩ | ⟨h8, hp⟩
                  · refine sx_rd' (rd_move' rfl) rfl rfl (wt_is' (wt_guard' rfl rfl rfl) (beq_tt h8)) ?_
                    refine sx_rd' (rd_pick_true' rfl h8 rfl) rfl rfl (wt_none' rfl) ?_
                    refine sx_nil' ?_
                    show TX E K23 _
                    exact tx_pick' [] (sub_cons rfl (sub_cons rfl (sub_cons rfl (sub_cons rfl (sub_cons rfl (sub_cons rfl (sub_cons rfl (sub_cons rfl (sub_cons rfl (sub_cons rfl (sub_cons rfl (sub_cons rfl sub_nil)))))))))))) (by decide) pick_nil (hK23 r89.2 hp)
                  · refine sx_skip' rfl rfl (wt_is' (wt_guard' rfl rfl rfl) (beq_ft h8)) ?_
                    refine sx_rd' (rd_pick_false' rfl h8 rfl) rfl rfl (wt_none' rfl) ?_
                    refine sx_nil' ?_
                    show TX E K23 _
                    exact tx_pick' [] (sub_cons rfl (sub_cons rfl (sub_cons rfl (sub_cons rfl (sub_cons rfl (sub_cons rfl (sub_cons rfl (sub_cons rfl (sub_cons rfl (sub_cons rfl (sub_cons rfl (sub_cons rfl sub_nil)))))))))))) (by decide) pick_nil (hK23 false hp)
              · intro K22 hK22
                rcases br_cases hp with ⟨h7, hp⟩ | ⟨h7, hp⟩
                · refine sx_rd' (rd_move' rfl) rfl rfl (wt_is' (wt_guard' rfl rfl rfl) (beq_tt h7)) ?_
                  refine sx_rd' (rd_pick_true' rfl h7 rfl) rfl rfl (wt_none' rfl) ?_
                  refine sx_nil' ?_
                  show TX E K22 _
                  exact tx_pick' [] (sub_cons rfl (sub_cons rfl (sub_cons rfl (sub_cons rfl (sub_cons rfl (sub_cons rfl (sub_cons rfl (sub_cons rfl (sub_cons rfl (sub_cons rfl (sub_cons rfl (sub_cons rfl (sub_cons rfl sub_nil))))))))))))) (by decide) pick_nil (hK22 r82.2 hp)
                · refine sx_skip' rfl rfl (wt_is' (wt_guard' rfl rfl rfl) (beq_ft h7)) ?_
                  refine sx_rd' (rd_pick_false' rfl h7 rfl) rfl rfl (wt_none' rfl) ?_
                  refine sx_nil' ?_
                  show TX E K22 _
                  exact tx_pick' [] (sub_cons rfl (sub_cons rfl (sub_cons rfl (sub_cons rfl (sub_cons rfl (sub_cons rfl (sub_cons rfl (sub_cons rfl (sub_cons rfl (sub_cons rfl (sub_cons rfl (sub_cons rfl (sub_cons rfl sub_nil))))))))))))) (by decide) pick_nil (hK22 false hp)
          · intro K13 hK13
            rcases br_cases hp with ⟨h5, hp⟩ | ⟨h5, hp⟩
            · refine sx_skip' rfl rfl (wt_is' (wt_guard' rfl rfl rfl) (beq_tf h5)) ?_
              refine sx_skip' rfl rfl (wt_is' (wt_guard' rfl rfl rfl) (beq_tf h5)) ?_
              refine sx_rd' (rd_pick_true' rfl h5 rfl) rfl rfl (wt_none' rfl) ?_
              refine sx_nil' ?_
              show TX E K13 _
              exact tx_pick' [] (sub_cons rfl (sub_cons rfl (sub_cons rfl (sub_cons rfl (sub_cons rfl sub_nil))))) (by decide) pick_nil (hK13 true hp)
            · refine sx_rd' (rd_move' rfl) rfl rfl (wt_is' (wt_guard' rfl rfl rfl) (beq_ff h5)) ?_
              refine sx_rd' (rd_un' rfl ru_not) rfl rfl (wt_is' (wt_guard' rfl rfl rfl) (beq_ff h5)) ?_
              refine sx_rd' (rd_pick_false' rfl h5 rfl) rfl rfl (wt_none' rfl) ?_
              refine sx_nil' ?_
              show TX E K13 _
              exact tx_pick' [] (sub_cons rfl (sub_cons rfl (sub_cons rfl (sub_cons rfl (sub_cons rfl sub_nil))))) (by decide) pick_nil (hK13 (!r59.2.2.2.2.2) hp)
        · intro K12 hK12
          rcases br_cases hp with ⟨h4, hp⟩ | ⟨h4, hp⟩
          · refine sx_skip' rfl rfl (wt_is' (wt_guard' rfl rfl rfl) (beq_tf h4)) ?_
            refine sx_skip' rfl rfl (wt_is' (wt_guard' rfl rfl rfl) (beq_tf h4)) ?_
            refine sx_rd' (rd_pick_true' rfl h4 rfl) rfl rfl (wt_none' rfl) ?_
            refine sx_nil' ?_
            show TX E K12 _
            exact tx_pick' [] (sub_cons rfl (sub_cons rfl (sub_cons rfl (sub_cons rfl (sub_cons rfl (sub_cons rfl sub_nil)))))) (by decide) pick_nil (hK12 true hp)
          · refine sx_rd' (rd_move' rfl) rfl rfl (wt_is' (wt_guard' rfl rfl rfl) (beq_ff h4)) ?_
            refine sx_rd' (rd_un' rfl ru_not) rfl rfl (wt_is' (wt_guard' rfl rfl rfl) (beq_ff h4)) ?_
            refine sx_rd' (rd_pick_false' rfl h4 rfl) rfl rfl (wt_none' rfl) ?_
            refine sx_nil' ?_
            show TX E K12 _
            exact tx_pick' [] (sub_cons rfl (sub_cons rfl (sub_cons rfl (sub_cons rfl (sub_cons rfl (sub_cons rfl sub_nil)))))) (by decide) pick_nil (hK12 (!r52.2.2.2.2.2) hp)
    · intro K5 hK5
      rcases br_cases hp with ⟨h2, hp⟩ | ⟨h2, hp⟩
      · refine sx_skip' rfl rfl (wt_is' (wt_guard' rfl rfl rfl) (beq_tf h2)) ?_
        refine sx_skip' rfl rfl (wt_is' (wt_guard' rfl rfl rfl) (beq_tf h2)) ?_
        refine sx_skip' rfl rfl (wt_is' (wt_guard' rfl rfl rfl) (beq_tf h2)) ?_
        refine sx_rd' (rd_pick_true' rfl h2 rfl) rfl rfl (wt_none' rfl) ?_
        refine sx_nil' ?_
        show TX E K5 _
        exact tx_pick' [] (sub_cons rfl (sub_cons rfl (sub_cons rfl (sub_cons rfl (sub_cons rfl sub_nil))))) (by decide) pick_nil (hK5 true hp)
      · refine sx_rd' (rd_move' rfl) rfl rfl (wt_is' (wt_guard' rfl rfl rfl) (beq_ff h2)) ?_
        obtain ⟨r39, hr39, hp⟩ := bind_some hp
        refine sx_ox' (ox_calln' (ent_fn' Try.func37 isn37 rfl rfl) (laws_zzFits3_sim _ hr39 : Go.Sx.Fn Try.prog 37 [(Sl (Kl (Ki .i64)) a2)] [] (fun x : Unit => (Vl (.bool r39))) (fun x => [])) (Hn := fun x : Unit => []) (fun _ => rfl) rfl rfl) (wt_is' (wt_guard' rfl rfl rfl) (beq_ff h2)) fun ⟨⟩ => ?_
        refine sx_rd' (rd_un' rfl ru_not) rfl rfl (wt_is' (wt_guard' rfl rfl rfl) (beq_ff h2)) ?_
        refine sx_rd' (rd_pick_false' rfl h2 rfl) rfl rfl (wt_none' rfl) ?_
        refine sx_nil' ?_
        show TX E K5 _
        exact tx_pick' [] (sub_cons rfl (sub_cons rfl (sub_cons rfl (sub_cons rfl (sub_cons rfl sub_nil))))) (by decide) pick_nil (hK5 (!r39) hp)
  · intro K4 hK4
    rcases br_cases hp with ⟨h1, hp⟩ | ⟨h1, hp⟩
    · refine sx_skip' rfl rfl (wt_is' (wt_guard' rfl rfl rfl) (beq_tf h1)) ?_
      refine sx_skip' rfl rfl (wt_is' (wt_guard' rfl rfl rfl) (beq_tf h1)) ?_
      refine sx_skip' rfl rfl (wt_is' (wt_guard' rfl rfl rfl) (beq_tf h1)) ?_
      refine sx_rd' (rd_pick_true' rfl h1 rfl) rfl rfl (wt_none' rfl) ?_
      refine sx_nil' ?_
      show TX E K4 _
      exact tx_pick' [] (sub_cons rfl (sub_cons rfl (sub_cons rfl (sub_cons rfl (sub_cons rfl sub_nil))))) (by decide) pick_nil (hK4 true hp)
    · refine sx_rd' (rd_move' rfl) rfl rfl (wt_is' (wt_guard' rfl rfl rfl) (beq_ff h1)) ?_
      refine sx_rd' (rd_len' rfl Try.underlying23) rfl rfl (wt_is' (wt_guard' rfl rfl rfl) (beq_ff h1)) ?_
      refine sx_rd' (rd_bin' rfl rfl eg_int ru_gtr) rfl rfl (wt_is' (wt_guard' rfl rfl rfl) (beq_ff h1)) ?_
      refine sx_rd' (rd_pick_false' rfl h1 rfl) rfl rfl (wt_none' rfl) ?_
      refine sx_nil' ?_
      show TX E K4 _
      exact tx_pick' [] (sub_cons rfl (sub_cons rfl (sub_cons rfl (sub_cons rfl (sub_cons rfl sub_nil))))) (by decide) pick_nil (hK4 (decide (2147483647 < (a1.length : Int))) hp)

end Go.Proofs.Ytkeaodoibflhnaa
