/-
  Plain functions for the Go functions that this law reaches, and that each call does what its plain function says. Printed by a program of ours.
-/
import Derived.Test.YtmkhoplffiakmaaProg
import Derived.Test.YtmkhoplffiakmaaSxX
import Derived.Test.YtmkhoplffiakmaaFun3
namespace Go.Proofs.Ytmkhoplffiakmaa
open Go.Sx
set_option linter.unusedVariables false
set_option linter.unusedSimpArgs false
set_option maxRecDepth 100000
set_option maxHeartbeats 4000000

def spec_Whole_top_l1s  (k : Nat) (rec1 : (Int × Int) → Option (Int)) (x1 x2 : Int) : Option (Int) :=
 br (decide (x2 < 2147483648))
  ((ishl .u32 x2 1) >>= fun r24 =>
  rec1 ((isub .i64 x1 1), r24))
  (some x1)
def spec_Whole_top_l1  : Nat → (Int × Int) → Option (Int)
 | 0, _ => none
 | k + 1, v => spec_Whole_top_l1s k (spec_Whole_top_l1 k) v.1 v.2
def spec_Whole_top (k : Nat) (a0_0 : Bool) (a0_1 : List Int) : Option (Int) :=
 br (decide ((a0_1.length : Int) = 0))
  (some 0)
  ((idx a0_1 (isub .i64 (a0_1.length : Int) 1)) >>= fun r19 =>
  (spec_Whole_top_l1 k ((imul .i64 32 (a0_1.length : Int)), r19)) >>= fun v2 =>
  some v2)

theorem spec_Whole_top_sim {k : Nat}  (a0_0 : Bool) (a0_1 : List Int) {out : Int} (hp : spec_Whole_top k a0_0 a0_1 = some out) : Sx.Fn Try.prog 50 [(Ag (C6 a0_0 a0_1))] [] (fun w : Unit => (Vi out)) (fun w => []) := by
 unfold spec_Whole_top at hp
 refine fn_of Try.func50 rfl Try.ntmps50 rfl fun E hM => ?_
 refine cr fun K1 hK1 => ?_
 refine so (ox_box' rfl (lv_ag _) rfl rfl) fun q1 => ?_
 refine sa rfl ?_
 refine nk hK1 ?_
 refine cx_seq' fun K2 hK2 => ?_
 refine cr fun K3 hK3 => ?_
 refine sg (off := 1) rfl Try.underlying32 rfl info30 rfl ?_
 refine sl (i := 0) (o := 1) rfl (ar rfl rfl rfl rfl) rfl flat30 ?_
 refine sk rfl Try.underlying30 ?_
 refine sb rfl rfl eg_int ru_eql ?_
 refine nk hK3 ?_
 refine cx_cond' rfl (fun h1 => ?_) (fun h1 => ?_)
 ·replace hp := (br_t h1).symm.trans hp
  refine cr fun K4 hK4 => ?_
  refine sa rfl ?_
  refine nk hK4 ?_
  refine cx_retc' ?_
  replace hp := sj hp
  subst hp
  refine tk (L' := [(2, (Vi 0))]) (H' := []) [] (uc rfl un) pn ?_
  exact tx_ret1' Try.results50 rfl () (rv_tmp' rfl) lr
 replace hp := (br_f h1).symm.trans hp
 refine cx_skip' ?_
 show TX E K2 _
 refine tx_k' hK2 ?_
 refine cr fun K5 hK5 => ?_
 refine sg (off := 1) rfl Try.underlying32 rfl info30 rfl ?_
 refine sl (i := 0) (o := 1) rfl (ar rfl rfl rfl rfl) rfl flat30 ?_
 refine sk rfl Try.underlying30 ?_
 refine sb rfl rfl eg_int ru_mul ?_
 refine sa rfl ?_
 refine nk hK5 ?_
 refine cx_seq' fun K6 hK6 => ?_
 refine cr fun K7 hK7 => ?_
 refine sg (off := 1) rfl Try.underlying32 rfl info30 rfl ?_
 refine sl (i := 0) (o := 1) rfl (ar rfl rfl rfl rfl) rfl flat30 ?_
 refine sg (off := 1) rfl Try.underlying32 rfl info30 rfl ?_
 refine sl (i := 0) (o := 1) rfl (ar rfl rfl rfl rfl) rfl flat30 ?_
 refine sk rfl Try.underlying30 ?_
 refine sb rfl rfl eg_int ru_sub ?_
 obtain ⟨r19, hr19, hp⟩ := bind_some hp
 refine s0 (rd_at' (K := (Ki .u32)) rfl rfl hr19 Try.underlying30 info91) ?_
 refine s0 (rd_load_pt' rfl rfl flat91) ?_
 refine sa rfl ?_
 refine nk hK7 ?_
 refine cx_block' ?_
 obtain ⟨v2, hy1, hp⟩ := bind_some hp
 refine cx_loopg' (F := spec_Whole_top_l1) (G := fun k R v => spec_Whole_top_l1s k R v.1 v.2) (x := ((imul .i64 32 (a0_1.length : Int)), r19)) (gh := ()) (fun (v1 : Int × Int) (w1 : Unit) => (⟨28, [], [(3, (Vi v1.1)), (4, (Vl (.int .u32 v1.2)))], []⟩ : St)) (fun (v2 : Int) => Zg E (Exit.exit 0) (fun (w2 : Unit) => (⟨28, [], [(3, (Vi v2))], []⟩ : St))) (fun _ => rfl) (fun _ _ => rfl) ?_ hy1 (tx_to' rfl [] (u2 rfl rfl) (by decide) pn) ?_
 ·clear hp hy1
  clear v2
  intro k rec1 KY1 ih1
  rintro ⟨x1, x2⟩ ⟨⟩ y1 hp
  replace hp : spec_Whole_top_l1s k rec1 x1 x2 = some y1 := hp
  unfold spec_Whole_top_l1s at hp
  refine cx_seq' fun K11 hK11 => ?_
  refine cr fun K12 hK12 => ?_
  refine sm rfl ?_
  refine sb rfl rfl eg_int ru_lss ?_
  refine nk hK12 ?_
  refine cx_cond' rfl (fun h4 => ?_) (fun h4 => ?_)
  ·replace hp := (br_t h4).symm.trans hp
   refine cx_skip' ?_
   show TX E K11 _
   refine tx_k' hK11 ?_
   refine cx_seq' fun K13 hK13 => ?_
   refine cx_block' ?_
   refine cx_region' ?_
   refine sm rfl ?_
   refine sb rfl rfl eg_int ru_sub ?_
   refine sa rfl ?_
   refine nk hK13 ?_
   refine cx_region' ?_
   refine sm rfl ?_
   obtain ⟨r24, hr24, hp⟩ := bind_some hp
   refine sb rfl rfl eg_int (ru_shl hr24) ?_
   refine sa rfl ?_
   refine sx_nil' ?_
   show TX E (KY1 _) _
   exact tk [] (u2 rfl rfl) pn (ih1 ((isub .i64 x1 1), r24) () _ hp)
  replace hp := (br_f h4).symm.trans hp
  refine cx_exit' ?_
  replace hp := sj hp
  subst hp
  show TX E (Zg E (Exit.exit 0) _ (Exit.exit 0)) _
  exact tx_zend' () rfl [] (uc rfl un) (by decide) pn
 refine zg_out fun w2 => ?_
 show TX E K6 _
 refine tx_k' hK6 ?_
 refine cr fun K14 hK14 => ?_
 refine sm rfl ?_
 refine sa rfl ?_
 refine nk hK14 ?_
 refine cx_retc' ?_
 replace hp := sj hp
 subst hp
 refine tk (L' := [(2, (Vi v2))]) (H' := []) [] (uc rfl un) pn ?_
 exact tx_ret1' Try.results50 rfl () (rv_tmp' rfl) lr

def spec_Whole_bit_j2 (k : Nat) (x2 : Bool) : Option (Bool) :=
 some x2
def spec_Whole_bit_j1 (k : Nat) (a1 : Int) (a0_1 : List Int) (x1 : Bool) : Option (Bool) :=
 br x1
  ((iquo .i64 a1 32) >>= fun r19 =>
  (idx a0_1 r19) >>= fun r20 =>
  (irem a1 32) >>= fun r23 =>
  (ishr .u32 r20 r23) >>= fun r24 =>
  spec_Whole_bit_j2 k (decide ((iand .u32 r24 1) = 1)))
  (spec_Whole_bit_j2 k false)
def spec_Whole_bit (k : Nat) (a0_0 : Bool) (a0_1 : List Int) (a1 : Int) : Option (Bool) :=
 br (decide (0 ≤ a1))
  ((iquo .i64 a1 32) >>= fun r9 =>
  spec_Whole_bit_j1 k a1 a0_1 (decide (r9 < (a0_1.length : Int))))
  (spec_Whole_bit_j1 k a1 a0_1 false)

theorem spec_Whole_bit_sim {k : Nat}  (a0_0 : Bool) (a0_1 : List Int) (a1 : Int) {out : Bool} (hp : spec_Whole_bit k a0_0 a0_1 a1 = some out) : Sx.Fn Try.prog 51 [(Ag (C6 a0_0 a0_1)), (Vi a1)] [] (fun w : Unit => (Vb out)) (fun w => []) := by
 unfold spec_Whole_bit at hp
 refine fn_of Try.func51 rfl Try.ntmps51 rfl fun E hM => ?_
 refine cr fun K1 hK1 => ?_
 refine so (ox_box' rfl (lv_ag _) rfl rfl) fun q2 => ?_
 refine sa rfl ?_
 refine nk hK1 ?_
 refine cr fun K2 hK2 => ?_
 refine sm rfl ?_
 refine sb rfl rfl eg_int ru_geq ?_
 refine sm rfl ?_
 refine sx_cutn' 7 (fun (v1 : Bool) => (⟨28, [], [(1, (Vi a1)), (2, (Vp q2)), (14, (Vb v1))], [(Ur q2 32 (C6 a0_0 a0_1))]⟩ : St)) (fun (v1 : Bool) => spec_Whole_bit_j1 k a1 a0_1 v1 = some out) ?_ ?_
 ·rintro x1 hp
  replace hp : spec_Whole_bit_j1 k a1 a0_1 x1 = some out := hp
  unfold spec_Whole_bit_j1 at hp
  refine sm rfl ?_
  refine sx_cutn' 12 (fun (v2 : Bool) => (⟨28, [], [(27, (Vb v2))], []⟩ : St)) (fun (v2 : Bool) => spec_Whole_bit_j2 k v2 = some out) ?_ ?_
  ·rintro x2 hp
   replace hp : spec_Whole_bit_j2 k x2 = some out := hp
   unfold spec_Whole_bit_j2 at hp
   refine sa rfl ?_
   refine nk hK2 ?_
   refine cx_retc' ?_
   replace hp := sj hp
   subst hp
   refine tk (L' := [(4, (Vb x2))]) (H' := []) [] (uc rfl un) pn ?_
   exact tx_ret1' Try.results51 rfl () (rv_tmp' rfl) lr
  intro K4 hK4
  rcases br_cases hp with ⟨h2, hp⟩ | ⟨h2, hp⟩
  ·refine sx_rd' (rd_field' (off := 1) rfl Try.underlying32 rfl info30 rfl) rfl rfl (wt_is' (wt_guard' rfl rfl rfl) (beq_tt h2)) ?_
   refine sx_rd' (rd_load' (i := 0) (o := 1) rfl (ar rfl rfl rfl rfl) rfl flat30) rfl rfl (wt_is' (wt_guard' rfl rfl rfl) (beq_tt h2)) ?_
   refine sx_rd' (rd_move' rfl) rfl rfl (wt_is' (wt_guard' rfl rfl rfl) (beq_tt h2)) ?_
   obtain ⟨r19, hr19, hp⟩ := bind_some hp
   refine sx_rd' (rd_bin' rfl rfl eg_int (ru_quo hr19)) rfl rfl (wt_is' (wt_guard' rfl rfl rfl) (beq_tt h2)) ?_
   obtain ⟨r20, hr20, hp⟩ := bind_some hp
   refine sx_rd' (rd_at' (K := (Ki .u32)) rfl rfl hr20 Try.underlying30 info91) rfl rfl (wt_is' (wt_guard' rfl rfl rfl) (beq_tt h2)) ?_
   refine sx_rd' (rd_load_pt' rfl rfl flat91) rfl rfl (wt_is' (wt_guard' rfl rfl rfl) (beq_tt h2)) ?_
   refine sx_rd' (rd_move' rfl) rfl rfl (wt_is' (wt_guard' rfl rfl rfl) (beq_tt h2)) ?_
   obtain ⟨r23, hr23, hp⟩ := bind_some hp
   refine sx_rd' (rd_bin' rfl rfl eg_int (ru_rem hr23)) rfl rfl (wt_is' (wt_guard' rfl rfl rfl) (beq_tt h2)) ?_
   obtain ⟨r24, hr24, hp⟩ := bind_some hp
   refine sx_rd' (rd_bin' rfl rfl eg_int (ru_shr hr24)) rfl rfl (wt_is' (wt_guard' rfl rfl rfl) (beq_tt h2)) ?_
   refine sx_rd' (rd_bin' rfl rfl eg_int ru_and) rfl rfl (wt_is' (wt_guard' rfl rfl rfl) (beq_tt h2)) ?_
   refine sx_rd' (rd_bin' rfl rfl eg_int ru_eql) rfl rfl (wt_is' (wt_guard' rfl rfl rfl) (beq_tt h2)) ?_
   refine s0 (rd_pick_true' rfl h2 rfl) ?_
   refine sx_nil' ?_
   show TX E K4 _
   exact tk [] (uc rfl un) pn (hK4 (decide ((iand .u32 r24 1) = 1)) hp)
  iterate 11 refine sx_skip' rfl rfl (wt_is' (wt_guard' rfl rfl rfl) (beq_ft h2)) ?_
  refine s0 (rd_pick_false' rfl h2 rfl) ?_
  refine sx_nil' ?_
  show TX E K4 _
  exact tk [] (uc rfl un) pn (hK4 false hp)
 intro K3 hK3
 rcases br_cases hp with ⟨h1, hp⟩ | ⟨h1, hp⟩
 ·refine sx_rd' (rd_move' rfl) rfl rfl (wt_is' (wt_guard' rfl rfl rfl) (beq_tt h1)) ?_
  obtain ⟨r9, hr9, hp⟩ := bind_some hp
  refine sx_rd' (rd_bin' rfl rfl eg_int (ru_quo hr9)) rfl rfl (wt_is' (wt_guard' rfl rfl rfl) (beq_tt h1)) ?_
  refine sx_rd' (rd_field' (off := 1) rfl Try.underlying32 rfl info30 rfl) rfl rfl (wt_is' (wt_guard' rfl rfl rfl) (beq_tt h1)) ?_
  refine sx_rd' (rd_load' (i := 0) (o := 1) rfl (ar rfl rfl rfl rfl) rfl flat30) rfl rfl (wt_is' (wt_guard' rfl rfl rfl) (beq_tt h1)) ?_
  refine sx_rd' (rd_len' rfl Try.underlying30) rfl rfl (wt_is' (wt_guard' rfl rfl rfl) (beq_tt h1)) ?_
  refine sx_rd' (rd_bin' rfl rfl eg_int ru_lss) rfl rfl (wt_is' (wt_guard' rfl rfl rfl) (beq_tt h1)) ?_
  refine s0 (rd_pick_true' rfl h1 rfl) ?_
  refine sx_nil' ?_
  show TX E K3 _
  exact tk [0] (u3 rfl rfl rfl) (pc rfl pn) (hK3 (decide (r9 < (a0_1.length : Int))) hp)
 iterate 6 refine sx_skip' rfl rfl (wt_is' (wt_guard' rfl rfl rfl) (beq_ft h1)) ?_
 refine s0 (rd_pick_false' rfl h1 rfl) ?_
 refine sx_nil' ?_
 show TX E K3 _
 exact tk [0] (u3 rfl rfl rfl) (pc rfl pn) (hK3 false hp)

def spec_Whole_low_l1s (a1 : Int) (a0_0 : Bool) (a0_1 : List Int) (k : Nat) (rec1 : Int → Option (Unit ⊕ Unit)) (x1 : Int) : Option (Unit ⊕ Unit) :=
 br (decide (x1 < a1))
  ((spec_Whole_bit k a0_0 a0_1 x1) >>= fun r13 =>
  br r13
   (some (.inl ()))
   (rec1 (iadd .i64 x1 1)))
  (some (.inr ()))
def spec_Whole_low_l1 (a1 : Int) (a0_0 : Bool) (a0_1 : List Int) : Nat → Int → Option (Unit ⊕ Unit)
 | 0, _ => none
 | k + 1, v => spec_Whole_low_l1s a1 a0_0 a0_1 k (spec_Whole_low_l1 a1 a0_0 a0_1 k) v
def spec_Whole_low (k : Nat) (a0_0 : Bool) (a0_1 : List Int) (a1 : Int) : Option (Bool) :=
 (spec_Whole_low_l1 a1 a0_0 a0_1 k 0) >>= fun y1 => match y1 with
  | (.inl v2) =>
   (some true)
  | (.inr v3) =>
   (some false)

theorem spec_Whole_low_sim {k : Nat}  (a0_0 : Bool) (a0_1 : List Int) (a1 : Int) {out : Bool} (hp : spec_Whole_low k a0_0 a0_1 a1 = some out) : Sx.Fn Try.prog 52 [(Ag (C6 a0_0 a0_1)), (Vi a1)] [] (fun w : Unit => (Vb out)) (fun w => []) := by
 unfold spec_Whole_low at hp
 refine fn_of Try.func52 rfl Try.ntmps52 rfl fun E hM => ?_
 refine cr fun K1 hK1 => ?_
 refine so (ox_box' rfl (lv_ag _) rfl rfl) fun q2 => ?_
 refine sa rfl ?_
 refine nk hK1 ?_
 refine cx_seq' fun K2 hK2 => ?_
 refine cr fun K3 hK3 => ?_
 refine sa rfl ?_
 refine nk hK3 ?_
 refine cx_block' ?_
 obtain ⟨y1, hy1, hp⟩ := bind_some hp
 refine cx_loopg' (F := spec_Whole_low_l1 a1 a0_0 a0_1) (G := fun k R v => spec_Whole_low_l1s a1 a0_0 a0_1 k R v) (x := 0) (gh := ()) (fun (v1 : Int) (w1 : Unit) => (⟨14, [], [(1, (Vi a1)), (2, (Vp q2)), (5, (Vi v1))], [(Ur q2 32 (C6 a0_0 a0_1))]⟩ : St)) (fun (y : Unit ⊕ Unit) => match y with | (.inl v2) => Zg E Exit.ret (fun (w2 : Unit) => (⟨14, [], [(4, (Vb true))], []⟩ : St)) | (.inr v3) => Zg E (Exit.exit 0) (fun (w3 : Unit) => (⟨14, [], [], []⟩ : St))) (fun _ => rfl) (fun _ _ => rfl) ?_ hy1 (tx_to' rfl [0] (u3 rfl rfl rfl) (by decide) (pc rfl pn)) ?_
 ·clear hp hy1
  clear y1
  intro k rec1 KY1 ih1
  rintro x1 ⟨⟩ y1 hp
  replace hp : spec_Whole_low_l1s a1 a0_0 a0_1 k rec1 x1 = some y1 := hp
  unfold spec_Whole_low_l1s at hp
  refine cx_seq' fun K9 hK9 => ?_
  refine cr fun K10 hK10 => ?_
  iterate 2 refine sm rfl ?_
  refine sb rfl rfl eg_int ru_lss ?_
  refine nk hK10 ?_
  refine cx_cond' rfl (fun h4 => ?_) (fun h4 => ?_)
  ·replace hp := (br_t h4).symm.trans hp
   refine cx_skip' ?_
   show TX E K9 _
   refine tx_k' hK9 ?_
   refine cx_seq' fun K11 hK11 => ?_
   refine cx_block' ?_
   refine cr fun K12 hK12 => ?_
   refine s0 (rd_load_agg' (i := 0) (o := 0) (nn := 2) rfl (ar rfl rfl rfl rfl) rfl agg32 (l' := (C6 a0_0 a0_1)) rfl) ?_
   refine sm rfl ?_
   obtain ⟨r13, hr13, hp⟩ := bind_some hp
   refine so (oz (ent_fn' Try.func51 isn51 rfl rfl) (spec_Whole_bit_sim _ _ _ hr13)) fun ⟨⟩ => ?_
   refine nk hK12 ?_
   refine cx_cond' rfl (fun h5 => ?_) (fun h5 => ?_)
   ·replace hp := (br_t h5).symm.trans hp
    refine cr fun K13 hK13 => ?_
    refine sa rfl ?_
    refine nk hK13 ?_
    refine cx_retc' ?_
    replace hp := sj hp
    subst hp
    show TX E (Zg E Exit.ret _ Exit.ret) _
    exact tx_zend' () rfl [] (uc rfl un) (by decide) pn
   replace hp := (br_f h5).symm.trans hp
   refine cx_skip' ?_
   show TX E K11 _
   refine tx_k' hK11 ?_
   refine cx_region' ?_
   refine sm rfl ?_
   refine sb rfl rfl eg_int ru_add ?_
   refine sa rfl ?_
   refine sx_nil' ?_
   show TX E (KY1 _) _
   exact tk [0] (u3 rfl rfl rfl) (pc rfl pn) (ih1 (iadd .i64 x1 1) () _ hp)
  replace hp := (br_f h4).symm.trans hp
  refine cx_exit' ?_
  replace hp := sj hp
  subst hp
  show TX E (Zg E (Exit.exit 0) _ (Exit.exit 0)) _
  exact tx_zend' () rfl [] un (by decide) pn
 rcases y1 with v2 | v3
 ·dsimp only at hp
  refine zg_out fun w2 => ?_
  replace hp := sj hp
  subst hp
  refine tk (L' := [(4, (Vb true))]) (H' := []) [] (uc rfl un) pn ?_
  exact tx_ret1' Try.results52 rfl () (rv_tmp' rfl) lr
 dsimp only at hp
 refine zg_out fun w3 => ?_
 show TX E K2 _
 refine tx_k' hK2 ?_
 refine cr fun K14 hK14 => ?_
 refine sa rfl ?_
 refine nk hK14 ?_
 refine cx_retc' ?_
 replace hp := sj hp
 subst hp
 refine tk (L' := [(4, (Vb false))]) (H' := []) [] (uc rfl un) pn ?_
 exact tx_ret1' Try.results52 rfl () (rv_tmp' rfl) lr

def math_IsInf_j1 (k x1 : Nat) : Option (Bool) :=
 some (fgt x1 9218868437227405311)
def math_IsInf (k a0 : Nat) (a1 : Int) : Option (Bool) :=
 br (decide (a1 = 0))
  ((math_Abs k a0) >>= fun r8 =>
  math_IsInf_j1 k r8)
  (br (decide (a1 < 0))
   (math_IsInf_j1 k (fneg a0))
   (math_IsInf_j1 k a0))

theorem math_IsInf_sim {k : Nat}  (a0 : Nat) (a1 : Int) {out : Bool} (hp : math_IsInf k a0 a1 = some out) : Sx.Fn Try.prog 79 [(Vg a0), (Vi a1)] [] (fun w : Unit => (Vb out)) (fun w => []) := by
 unfold math_IsInf at hp
 refine fn_of Try.func79 rfl Try.ntmps79 rfl fun E hM => ?_
 refine cr fun K1 hK1 => ?_
 refine sa rfl ?_
 refine nk hK1 ?_
 refine cx_join' (fun (v1 : Nat) => (⟨15, [], [(0, (Vg v1))], []⟩ : St)) (fun (v1 : Nat) => math_IsInf_j1 k v1 = some out) ?_ ?_
 ·rintro x1 hp
  replace hp : math_IsInf_j1 k x1 = some out := hp
  unfold math_IsInf_j1 at hp
  refine cr fun K5 hK5 => ?_
  refine sm rfl ?_
  refine sb rfl rfl eg_flt ru_fgt ?_
  refine sa rfl ?_
  refine nk hK5 ?_
  refine cx_retc' ?_
  replace hp := sj hp
  subst hp
  refine tk (L' := [(4, (Vb (fgt x1 9218868437227405311)))]) (H' := []) [] (uc rfl un) pn ?_
  exact tx_ret1' Try.results79 rfl () (rv_tmp' rfl) lr
 intro K2 hK2
 refine cr fun K3 hK3 => ?_
 refine sm rfl ?_
 refine sb rfl rfl eg_int ru_eql ?_
 refine nk hK3 ?_
 refine cx_cond' rfl (fun h1 => ?_) (fun h1 => ?_)
 ·replace hp := (br_t h1).symm.trans hp
  refine cx_region' ?_
  refine sm rfl ?_
  obtain ⟨r8, hr8, hp⟩ := bind_some hp
  refine so (oz (ent_fn' Try.func15 isn15 rfl rfl) (math_Abs_sim _ hr8)) fun ⟨⟩ => ?_
  refine sa rfl ?_
  refine sx_nil' ?_
  show TX E K2 _
  exact tk [] (uc rfl un) pn (hK2 r8 hp)
 replace hp := (br_f h1).symm.trans hp
 refine cr fun K4 hK4 => ?_
 refine sm rfl ?_
 refine sb rfl rfl eg_int ru_lss ?_
 refine nk hK4 ?_
 refine cx_cond' rfl (fun h2 => ?_) (fun h2 => ?_)
 ·replace hp := (br_t h2).symm.trans hp
  refine cx_region' ?_
  refine sm rfl ?_
  refine s0 (rd_un' rfl ru_fneg) ?_
  refine sa rfl ?_
  refine sx_nil' ?_
  show TX E K2 _
  exact tk [] (uc rfl un) pn (hK2 (fneg a0) hp)
 replace hp := (br_f h2).symm.trans hp
 refine cx_skip' ?_
 show TX E K2 _
 exact tk [] (uc rfl un) pn (hK2 a0 hp)

def math_normalize (k a0 : Nat) : Option (Nat × Int) :=
 (math_Abs k a0) >>= fun r5 =>
 br (flt r5 4503599627370496)
  ((some (gmul a0 4841369599423283200)) >>= fun r8 =>
  some (r8, (-52)))
  (some (a0, 0))

theorem math_normalize_sim {k : Nat}  (a0 : Nat) {out : Nat × Int} (hp : math_normalize k a0 = some out) : Sx.Fn Try.prog 86 [(Vg a0)] [] (fun w : Unit => (Tu [(Fl out.1), (Vi out.2)])) (fun w => []) := by
 unfold math_normalize at hp
 refine fn_of Try.func86 rfl Try.ntmps86 rfl fun E hM => ?_
 refine cr fun K1 hK1 => ?_
 iterate 2 refine sa rfl ?_
 refine nk hK1 ?_
 refine cx_seq' fun K2 hK2 => ?_
 refine cr fun K3 hK3 => ?_
 refine sm rfl ?_
 obtain ⟨r5, hr5, hp⟩ := bind_some hp
 refine so (oz (ent_fn' Try.func15 isn15 rfl rfl) (math_Abs_sim _ hr5)) fun ⟨⟩ => ?_
 refine sb rfl rfl eg_flt ru_flt ?_
 refine nk hK3 ?_
 refine cx_cond' rfl (fun h1 => ?_) (fun h1 => ?_)
 ·replace hp := (br_t h1).symm.trans hp
  refine cr fun K4 hK4 => ?_
  refine sm rfl ?_
  obtain ⟨r8, hr8, hp⟩ := bind_some hp
  refine so (ox_fop' (.inr (.inr (.inl rfl))) (fl_v rfl) (fl_v rfl) (Option.some.inj hr8) rfl rfl) fun _ => ?_
  iterate 2 refine sa rfl ?_
  refine nk hK4 ?_
  refine cx_retc' ?_
  replace hp := sj hp
  subst hp
  refine tk (L' := [(2, (Fl r8)), (3, (Vi (-52)))]) (H' := []) [] (u2 rfl rfl) pn ?_
  exact tx_ret2' Try.results86 rfl () (rv_tmp' rfl) (rv_tmp' rfl) rfl lr
 replace hp := (br_f h1).symm.trans hp
 refine cx_skip' ?_
 show TX E K2 _
 refine tx_k' hK2 ?_
 refine cr fun K5 hK5 => ?_
 refine sm rfl ?_
 iterate 2 refine sa rfl ?_
 refine nk hK5 ?_
 refine cx_retc' ?_
 replace hp := sj hp
 subst hp
 refine tk (L' := [(2, (Vg a0)), (3, (Vi 0))]) (H' := []) [] (u2 rfl rfl) pn ?_
 exact tx_ret2' Try.results86 rfl () (rv_imp' (x := (Vg a0)) (y := (Fl a0)) (rv_tmp' rfl) imp_vf) (rv_tmp' rfl) rfl lr

def math_Copysign (k a0 a1 : Nat) : Option (Nat) :=
 some (ffrom (ior .u64 (iandn .u64 (fbits a0) 9223372036854775808) (iand .u64 (fbits a1) 9223372036854775808)))

theorem math_Copysign_sim {k : Nat}  (a0 a1 : Nat) {out : Nat} (hp : math_Copysign k a0 a1 = some out) : Sx.Fn Try.prog 83 [(Vg a0), (Vg a1)] [] (fun w : Unit => (Vg out)) (fun w => []) := by
 unfold math_Copysign at hp
 refine fn_of Try.func83 rfl Try.ntmps83 rfl fun E hM => ?_
 refine cr fun K1 hK1 => ?_
 refine sa rfl ?_
 refine nk hK1 ?_
 refine cr fun K2 hK2 => ?_
 refine sm rfl ?_
 refine s0 (rd_ext' (us := [.float .f64 a0]) rfl (ext39 ex_bits)) ?_
 refine sb rfl rfl eg_int ru_andn ?_
 refine sm rfl ?_
 refine s0 (rd_ext' (us := [.float .f64 a1]) rfl (ext39 ex_bits)) ?_
 refine sb rfl rfl eg_int ru_and ?_
 refine sb rfl rfl eg_int ru_or ?_
 refine s0 (rd_ext' (us := [.int .u64 (ior .u64 (iandn .u64 (fbits a0) 9223372036854775808) (iand .u64 (fbits a1) 9223372036854775808))]) rfl (ext38 ex_from)) ?_
 refine sa rfl ?_
 refine nk hK2 ?_
 refine cx_retc' ?_
 replace hp := sj hp
 subst hp
 refine tk (L' := [(4, (Vg (ffrom (ior .u64 (iandn .u64 (fbits a0) 9223372036854775808) (iand .u64 (fbits a1) 9223372036854775808)))))]) (H' := []) [] (uc rfl un) pn ?_
 exact tx_ret1' Try.results83 rfl () (rv_tmp' rfl) lr

def math_Inf_j1 (k : Nat) (x1 : Int) : Option (Nat) :=
 some (ffrom x1)
def math_Inf (k : Nat) (a0 : Int) : Option (Nat) :=
 br (decide (0 ≤ a0))
  (math_Inf_j1 k 9218868437227405312)
  (math_Inf_j1 k 18442240474082181120)

theorem math_Inf_sim {k : Nat}  (a0 : Int) {out : Nat} (hp : math_Inf k a0 = some out) : Sx.Fn Try.prog 87 [(Vi a0)] [] (fun w : Unit => (Vg out)) (fun w => []) := by
 unfold math_Inf at hp
 refine fn_of Try.func87 rfl Try.ntmps87 rfl fun E hM => ?_
 refine cr fun K1 hK1 => ?_
 refine sa rfl ?_
 refine nk hK1 ?_
 refine cr fun K2 hK2 => ?_
 refine sa rfl ?_
 refine nk hK2 ?_
 refine cx_join' (fun (v1 : Int) => (⟨8, [], [(3, (Vl (.int .u64 v1)))], []⟩ : St)) (fun (v1 : Int) => math_Inf_j1 k v1 = some out) ?_ ?_
 ·rintro x1 hp
  replace hp : math_Inf_j1 k x1 = some out := hp
  unfold math_Inf_j1 at hp
  refine cr fun K5 hK5 => ?_
  refine sm rfl ?_
  refine s0 (rd_ext' (us := [.int .u64 x1]) rfl (ext38 ex_from)) ?_
  refine sa rfl ?_
  refine nk hK5 ?_
  refine cx_retc' ?_
  replace hp := sj hp
  subst hp
  refine tk (L' := [(2, (Vg (ffrom x1)))]) (H' := []) [] (uc rfl un) pn ?_
  exact tx_ret1' Try.results87 rfl () (rv_tmp' rfl) lr
 intro K3 hK3
 refine cr fun K4 hK4 => ?_
 refine sm rfl ?_
 refine sb rfl rfl eg_int ru_geq ?_
 refine nk hK4 ?_
 refine cx_cond' rfl (fun h1 => ?_) (fun h1 => ?_)
 ·replace hp := (br_t h1).symm.trans hp
  refine cx_region' ?_
  refine sa rfl ?_
  refine sx_nil' ?_
  show TX E K3 _
  exact tk [] (uc rfl un) pn (hK3 9218868437227405312 hp)
 replace hp := (br_f h1).symm.trans hp
 refine cx_region' ?_
 refine sa rfl ?_
 refine sx_nil' ?_
 show TX E K3 _
 exact tk [] (uc rfl un) pn (hK3 18442240474082181120 hp)

def math_ldexp_j2 (k : Nat) (r22 : Nat × Int) (x2 : Int) (x3 : Nat) : Option (Nat) :=
 (ishl .u64 (icv .u64 (iadd .i64 x2 1023)) 52) >>= fun r57 =>
 (some (gmul x3 (ffrom (ior .u64 (iandn .u64 (fbits r22.1) 9218868437227405312) r57)))) >>= fun r62 =>
 some r62
def math_ldexp_j1 (k a0 : Nat) (a1 : Int) (x1 : Bool) : Option (Nat) :=
 br x1
  (some a0)
  ((math_normalize k a0) >>= fun r22 =>
  (num r22.1) >>= fun u1 =>
  (ishr .u64 (fbits r22.1) 52) >>= fun r32 =>
  br (decide ((iadd .i64 (iadd .i64 a1 r22.2) (isub .i64 (iand .i64 (icv .i64 r32) 2047) 1023)) < (-1075)))
   ((num r22.1) >>= fun u2 =>
   (math_Copysign k 0 r22.1) >>= fun r40 =>
   some r40)
   (br (decide (1023 < (iadd .i64 (iadd .i64 a1 r22.2) (isub .i64 (iand .i64 (icv .i64 r32) 2047) 1023))))
    (br (flt r22.1 0)
     ((math_Inf k (-1)) >>= fun r45 =>
     some r45)
     ((math_Inf k 1) >>= fun r46 =>
     some r46))
    (br (decide ((iadd .i64 (iadd .i64 a1 r22.2) (isub .i64 (iand .i64 (icv .i64 r32) 2047) 1023)) < (-1022)))
     (math_ldexp_j2 k r22 (iadd .i64 (iadd .i64 (iadd .i64 a1 r22.2) (isub .i64 (iand .i64 (icv .i64 r32) 2047) 1023)) 53) 4368491638549381120)
     (math_ldexp_j2 k r22 (iadd .i64 (iadd .i64 a1 r22.2) (isub .i64 (iand .i64 (icv .i64 r32) 2047) 1023)) 4607182418800017408))))
def math_ldexp (k a0 : Nat) (a1 : Int) : Option (Nat) :=
 br (feq a0 0)
  (some a0)
  ((math_IsInf k a0 0) >>= fun r14 =>
  br r14
   (math_ldexp_j1 k a0 a1 true)
   ((math_IsNaN k a0) >>= fun r17 =>
   math_ldexp_j1 k a0 a1 r17))

theorem math_ldexp_sim {k : Nat}  (a0 : Nat) (a1 : Int) {out : Nat} (hp : math_ldexp k a0 a1 = some out) : Sx.Fn Try.prog 73 [(Vg a0), (Vi a1)] [] (fun w : Unit => (Fl out)) (fun w => []) := by
 unfold math_ldexp at hp
 refine fn_of Try.func73 rfl Try.ntmps73 rfl fun E hM => ?_
 refine cr fun K1 hK1 => ?_
 refine sa rfl ?_
 refine nk hK1 ?_
 refine cx_seq' fun K2 hK2 => ?_
 refine cx_block' ?_
 refine cr fun K3 hK3 => ?_
 refine sm rfl ?_
 refine sb rfl rfl eg_flt ru_feq ?_
 refine sa rfl ?_
 refine nk hK3 ?_
 refine cx_cond' rfl (fun h1 => ?_) (fun h1 => ?_)
 ·replace hp := (br_t h1).symm.trans hp
  refine cr fun K4 hK4 => ?_
  refine sm rfl ?_
  refine sa rfl ?_
  refine nk hK4 ?_
  refine cx_retc' ?_
  replace hp := sj hp
  subst hp
  refine tk (L' := [(4, (Vg a0))]) (H' := []) [] (uc rfl un) pn ?_
  exact tx_ret1' Try.results73 rfl () (rv_imp' (x := (Vg a0)) (y := (Fl a0)) (rv_tmp' rfl) imp_vf) lr
 replace hp := (br_f h1).symm.trans hp
 refine cr fun K5 hK5 => ?_
 refine sm rfl ?_
 obtain ⟨r14, hr14, hp⟩ := bind_some hp
 refine so (oz (ent_fn' Try.func79 isn79 rfl rfl) (math_IsInf_sim _ _ hr14)) fun ⟨⟩ => ?_
 refine sm rfl ?_
 refine sx_cutn' 3 (fun (v1 : Bool) => (⟨63, [], [(0, (Vg a0)), (1, (Vi a1)), (18, (Vb v1))], []⟩ : St)) (fun (v1 : Bool) => math_ldexp_j1 k a0 a1 v1 = some out) ?_ ?_
 ·rintro x1 hp
  replace hp : math_ldexp_j1 k a0 a1 x1 = some out := hp
  unfold math_ldexp_j1 at hp
  refine sa rfl ?_
  refine nk hK5 ?_
  refine cx_cond' rfl (fun h3 => ?_) (fun h3 => ?_)
  ·replace hp := (br_t h3).symm.trans hp
   refine cr fun K7 hK7 => ?_
   refine sm rfl ?_
   refine sa rfl ?_
   refine nk hK7 ?_
   refine cx_retc' ?_
   replace hp := sj hp
   subst hp
   refine tk (L' := [(4, (Vg a0))]) (H' := []) [] (uc rfl un) pn ?_
   exact tx_ret1' Try.results73 rfl () (rv_imp' (x := (Vg a0)) (y := (Fl a0)) (rv_tmp' rfl) imp_vf) lr
  replace hp := (br_f h3).symm.trans hp
  refine cx_skip' ?_
  show TX E K2 _
  refine tx_k' hK2 ?_
  refine cr fun K8 hK8 => ?_
  refine sm rfl ?_
  obtain ⟨r22, hr22, hp⟩ := bind_some hp
  refine so (oz (ent_fn' Try.func86 isn86 rfl rfl) (math_normalize_sim _ hr22)) fun ⟨⟩ => ?_
  refine sm rfl ?_
  iterate 2 refine se rfl rfl ?_
  iterate 2 refine sa rfl ?_
  refine nk hK8 ?_
  refine cr fun K9 hK9 => ?_
  iterate 2 refine sm rfl ?_
  refine sb rfl rfl eg_int ru_add ?_
  refine sa rfl ?_
  refine nk hK9 ?_
  refine cr fun K10 hK10 => ?_
  refine sm rfl ?_
  obtain ⟨u1, hu1, hp⟩ := bind_some hp
  refine tx_slot' 28 (y := (Vg r22.1)) rfl (imp_num (num_some hu1).2) ?_
  refine s0 (rd_ext' (us := [.float .f64 r22.1]) rfl (ext39 ex_bits)) ?_
  refine sa rfl ?_
  refine nk hK10 ?_
  refine cr fun K11 hK11 => ?_
  iterate 2 refine sm rfl ?_
  obtain ⟨r32, hr32, hp⟩ := bind_some hp
  refine sb rfl rfl eg_int (ru_shr hr32) ?_
  refine s0 (rd_conv' rfl (ru_i2i (by rw [Try.underlying74]; rfl) Try.underlying3)) ?_
  refine sb rfl rfl eg_int ru_and ?_
  refine sb rfl rfl eg_int ru_sub ?_
  refine sb rfl rfl eg_int ru_add ?_
  refine sa rfl ?_
  refine nk hK11 ?_
  refine cx_seq' fun K12 hK12 => ?_
  refine cr fun K13 hK13 => ?_
  refine sm rfl ?_
  refine sb rfl rfl eg_int ru_lss ?_
  refine nk hK13 ?_
  refine cx_cond' rfl (fun h4 => ?_) (fun h4 => ?_)
  ·replace hp := (br_t h4).symm.trans hp
   refine cr fun K14 hK14 => ?_
   refine sm rfl ?_
   obtain ⟨u2, hu2, hp⟩ := bind_some hp
   refine tx_slot' 39 (y := (Vg r22.1)) rfl (imp_num (num_some hu2).2) ?_
   obtain ⟨r40, hr40, hp⟩ := bind_some hp
   refine so (oz (ent_fn' Try.func83 isn83 rfl rfl) (math_Copysign_sim _ _ hr40)) fun ⟨⟩ => ?_
   refine sa rfl ?_
   refine nk hK14 ?_
   refine cx_retc' ?_
   replace hp := sj hp
   subst hp
   refine tk (L' := [(4, (Vg r40))]) (H' := []) [] (uc rfl un) pn ?_
   exact tx_ret1' Try.results73 rfl () (rv_imp' (x := (Vg r40)) (y := (Fl r40)) (rv_tmp' rfl) imp_vf) lr
  replace hp := (br_f h4).symm.trans hp
  refine cx_skip' ?_
  show TX E K12 _
  refine tx_k' hK12 ?_
  refine cx_seq' fun K15 hK15 => ?_
  refine cr fun K16 hK16 => ?_
  refine sm rfl ?_
  refine sb rfl rfl eg_int ru_gtr ?_
  refine nk hK16 ?_
  refine cx_cond' rfl (fun h5 => ?_) (fun h5 => ?_)
  ·replace hp := (br_t h5).symm.trans hp
   refine cx_seq' fun K17 hK17 => ?_
   refine cr fun K18 hK18 => ?_
   refine sm rfl ?_
   refine s0 (rd_fcmp' (fl_f rfl) (fl_v rfl) rfl) ?_
   refine nk hK18 ?_
   refine cx_cond' rfl (fun h6 => ?_) (fun h6 => ?_)
   ·replace hp := (br_t h6).symm.trans hp
    refine cr fun K19 hK19 => ?_
    obtain ⟨r45, hr45, hp⟩ := bind_some hp
    refine so (oz (ent_fn' Try.func87 isn87 rfl rfl) (math_Inf_sim _ hr45)) fun ⟨⟩ => ?_
    refine sa rfl ?_
    refine nk hK19 ?_
    refine cx_retc' ?_
    replace hp := sj hp
    subst hp
    refine tk (L' := [(4, (Vg r45))]) (H' := []) [] (uc rfl un) pn ?_
    exact tx_ret1' Try.results73 rfl () (rv_imp' (x := (Vg r45)) (y := (Fl r45)) (rv_tmp' rfl) imp_vf) lr
   replace hp := (br_f h6).symm.trans hp
   refine cx_skip' ?_
   show TX E K17 _
   refine tx_k' hK17 ?_
   refine cr fun K20 hK20 => ?_
   obtain ⟨r46, hr46, hp⟩ := bind_some hp
   refine so (oz (ent_fn' Try.func87 isn87 rfl rfl) (math_Inf_sim _ hr46)) fun ⟨⟩ => ?_
   refine sa rfl ?_
   refine nk hK20 ?_
   refine cx_retc' ?_
   replace hp := sj hp
   subst hp
   refine tk (L' := [(4, (Vg r46))]) (H' := []) [] (uc rfl un) pn ?_
   exact tx_ret1' Try.results73 rfl () (rv_imp' (x := (Vg r46)) (y := (Fl r46)) (rv_tmp' rfl) imp_vf) lr
  replace hp := (br_f h5).symm.trans hp
  refine cx_skip' ?_
  show TX E K15 _
  refine tx_k' hK15 ?_
  refine cr fun K21 hK21 => ?_
  refine sa rfl ?_
  refine nk hK21 ?_
  refine cx_join' (fun (v2 : Int × Nat) => (⟨63, [], [(1, (Vi v2.1)), (6, (Vl (.int .u64 (fbits r22.1)))), (7, (Vg v2.2))], []⟩ : St)) (fun (v2 : Int × Nat) => math_ldexp_j2 k r22 v2.1 v2.2 = some out) ?_ ?_
  ·rintro ⟨x2, x3⟩ hp
   replace hp : math_ldexp_j2 k r22 x2 x3 = some out := hp
   unfold math_ldexp_j2 at hp
   refine cr fun K25 hK25 => ?_
   refine sm rfl ?_
   refine sb rfl rfl eg_int ru_andn ?_
   refine sa rfl ?_
   refine nk hK25 ?_
   refine cr fun K26 hK26 => ?_
   iterate 2 refine sm rfl ?_
   refine sb rfl rfl eg_int ru_add ?_
   refine s0 (rd_conv' rfl (ru_i2i (by rw [Try.underlying3]; rfl) Try.underlying74)) ?_
   obtain ⟨r57, hr57, hp⟩ := bind_some hp
   refine sb rfl rfl eg_int (ru_shl hr57) ?_
   refine sb rfl rfl eg_int ru_or ?_
   refine sa rfl ?_
   refine nk hK26 ?_
   refine cr fun K27 hK27 => ?_
   iterate 2 refine sm rfl ?_
   refine s0 (rd_ext' (us := [.int .u64 (ior .u64 (iandn .u64 (fbits r22.1) 9218868437227405312) r57)]) rfl (ext38 ex_from)) ?_
   obtain ⟨r62, hr62, hp⟩ := bind_some hp
   refine so (ox_fop' (.inr (.inr (.inl rfl))) (fl_v rfl) (fl_v rfl) (Option.some.inj hr62) rfl rfl) fun _ => ?_
   refine sa rfl ?_
   refine nk hK27 ?_
   refine cx_retc' ?_
   replace hp := sj hp
   subst hp
   refine tk (L' := [(4, (Fl r62))]) (H' := []) [] (uc rfl un) pn ?_
   exact tx_ret1' Try.results73 rfl () (rv_tmp' rfl) lr
  intro K22 hK22
  refine cr fun K23 hK23 => ?_
  refine sm rfl ?_
  refine sb rfl rfl eg_int ru_lss ?_
  refine nk hK23 ?_
  refine cx_cond' rfl (fun h7 => ?_) (fun h7 => ?_)
  ·replace hp := (br_t h7).symm.trans hp
   refine cr fun K24 hK24 => ?_
   refine sm rfl ?_
   refine sb rfl rfl eg_int ru_add ?_
   refine sa rfl ?_
   refine nk hK24 ?_
   refine cx_region' ?_
   refine sa rfl ?_
   refine sx_nil' ?_
   show TX E K22 _
   exact tk [] (u3 rfl rfl rfl) pn (hK22 ((iadd .i64 (iadd .i64 (iadd .i64 a1 r22.2) (isub .i64 (iand .i64 (icv .i64 r32) 2047) 1023)) 53), 4368491638549381120) hp)
  replace hp := (br_f h7).symm.trans hp
  refine cx_skip' ?_
  show TX E K22 _
  exact tk [] (u3 rfl rfl rfl) pn (hK22 ((iadd .i64 (iadd .i64 a1 r22.2) (isub .i64 (iand .i64 (icv .i64 r32) 2047) 1023)), 4607182418800017408) hp)
 intro K6 hK6
 rcases br_cases hp with ⟨h2, hp⟩ | ⟨h2, hp⟩
 ·refine sx_skip' rfl rfl (wt_is' (wt_guard' rfl rfl rfl) (beq_tf h2)) ?_
  refine sx_skip' rfl rfl (wt_is' (wt_guard' rfl rfl rfl) (beq_tf h2)) ?_
  refine s0 (rd_pick_true' rfl h2 rfl) ?_
  refine sx_nil' ?_
  show TX E K6 _
  exact tk [] (u3 rfl rfl rfl) pn (hK6 true hp)
 refine sx_rd' (rd_move' rfl) rfl rfl (wt_is' (wt_guard' rfl rfl rfl) (beq_ff h2)) ?_
 obtain ⟨r17, hr17, hp⟩ := bind_some hp
 refine sx_ox' (oz (ent_fn' Try.func47 isn47 rfl rfl) (math_IsNaN_sim _ hr17)) (wt_is' (wt_guard' rfl rfl rfl) (beq_ff h2)) fun ⟨⟩ => ?_
 refine s0 (rd_pick_false' rfl h2 rfl) ?_
 refine sx_nil' ?_
 show TX E K6 _
 exact tk [] (u3 rfl rfl rfl) pn (hK6 r17 hp)

def math_Ldexp (k a0 : Nat) (a1 : Int) : Option (Nat) :=
 (math_ldexp k a0 a1) >>= fun r10 =>
 some r10

theorem math_Ldexp_sim {k : Nat}  (a0 : Nat) (a1 : Int) {out : Nat} (hp : math_Ldexp k a0 a1 = some out) : Sx.Fn Try.prog 53 [(Vg a0), (Vi a1)] [] (fun w : Unit => (Fl out)) (fun w => []) := by
 unfold math_Ldexp at hp
 refine fn_of Try.func53 rfl Try.ntmps53 rfl fun E hM => ?_
 refine cr fun K1 hK1 => ?_
 refine sa rfl ?_
 refine nk hK1 ?_
 refine cx_seq' fun K2 hK2 => ?_
 refine cx_cond_f' rfl rfl ?_
 refine cx_skip' ?_
 show TX E K2 _
 refine tx_k' hK2 ?_
 refine cr fun K3 hK3 => ?_
 iterate 2 refine sm rfl ?_
 obtain ⟨r10, hr10, hp⟩ := bind_some hp
 refine so (oz (ent_fn' Try.func73 isn73 rfl rfl) (math_ldexp_sim _ _ hr10)) fun ⟨⟩ => ?_
 refine sa rfl ?_
 refine nk hK3 ?_
 refine cx_retc' ?_
 replace hp := sj hp
 subst hp
 refine tk (L' := [(4, (Fl r10))]) (H' := []) [] (uc rfl un) pn ?_
 exact tx_ret1' Try.results53 rfl () (rv_tmp' rfl) lr

def spec_Dyadic_Float_j2 (k : Nat) (rec1 : (Int × Int) → Option (Int)) (x4 x2 : Int) : Option (Int) :=
 rec1 (x2, (iadd .i64 x4 1))
def spec_Dyadic_Float_l1s (r13 a0_2 : Int) (a0_0 : Bool) (a0_1 : List Int) (k : Nat) (rec1 : (Int × Int) → Option (Int)) (x3 x4 : Int) : Option (Int) :=
 br (decide (x4 < (imin 53 (iadd .i64 (iadd .i64 r13 a0_2) 1074))))
  ((ishl .u64 x3 1) >>= fun r30 =>
  (spec_Whole_top k a0_0 a0_1) >>= fun r35 =>
  (spec_Whole_bit k a0_0 a0_1 (isub .i64 (isub .i64 r35 1) x4)) >>= fun r39 =>
  br r39
   (spec_Dyadic_Float_j2 k rec1 x4 (iadd .u64 r30 1))
   (spec_Dyadic_Float_j2 k rec1 x4 r30))
  (some x3)
def spec_Dyadic_Float_l1 (r13 a0_2 : Int) (a0_0 : Bool) (a0_1 : List Int) : Nat → (Int × Int) → Option (Int)
 | 0, _ => none
 | k + 1, v => spec_Dyadic_Float_l1s r13 a0_2 a0_0 a0_1 k (spec_Dyadic_Float_l1 r13 a0_2 a0_0 a0_1 k) v.1 v.2
def spec_Dyadic_Float_j6 (k : Nat) (a0_2 r21 r13 : Int) (a0_0 : Bool) (x9 : Int) : Option (Nat) :=
 (math_Ldexp k (i2f x9) (iadd .i64 a0_2 (isub .i64 r21 (imin 53 (iadd .i64 (iadd .i64 r13 a0_2) 1074))))) >>= fun r71 =>
 br a0_0
  (some (fneg r71))
  (some r71)
def spec_Dyadic_Float_j5 (k : Nat) (a0_2 r21 r13 : Int) (a0_0 : Bool) (v4 : Int) (x8 : Bool) : Option (Nat) :=
 br x8
  (spec_Dyadic_Float_j6 k a0_2 r21 r13 a0_0 (iadd .u64 v4 1))
  (spec_Dyadic_Float_j6 k a0_2 r21 r13 a0_0 v4)
def spec_Dyadic_Float_j4 (k : Nat) (a0_2 r21 r13 : Int) (a0_0 : Bool) (v4 : Int) (x7 : Bool) : Option (Nat) :=
 spec_Dyadic_Float_j5 k a0_2 r21 r13 a0_0 v4 x7
def spec_Dyadic_Float_j3 (k : Nat) (v4 a0_2 : Int) (r21 r13 : Int) (a0_0 : Bool) (a0_1 : List Int) (x6 : Bool) : Option (Nat) :=
 br x6
  ((irem v4 2) >>= fun r53 =>
  br (decide (r53 = 1))
   (spec_Dyadic_Float_j4 k a0_2 r21 r13 a0_0 v4 true)
   ((spec_Whole_low k a0_0 a0_1 (isub .i64 (isub .i64 r21 (imin 53 (iadd .i64 (iadd .i64 r13 a0_2) 1074))) 1)) >>= fun r60 =>
   spec_Dyadic_Float_j4 k a0_2 r21 r13 a0_0 v4 r60))
  (spec_Dyadic_Float_j5 k a0_2 r21 r13 a0_0 v4 false)
def spec_Dyadic_Float (k : Nat) (a0_0 : Bool) (a0_1 : List Int) (a0_2 : Int) : Option (Nat) :=
 (spec_Dyadic_Sign k a0_0 a0_1 a0_2) >>= fun r9 =>
 br (decide (r9 = 0))
  (some 0)
  ((spec_Whole_top k a0_0 a0_1) >>= fun r13 =>
  (spec_Whole_top k a0_0 a0_1) >>= fun r21 =>
  (spec_Dyadic_Float_l1 r13 a0_2 a0_0 a0_1 k (0, 0)) >>= fun v4 =>
  br (decide (0 < (isub .i64 r21 (imin 53 (iadd .i64 (iadd .i64 r13 a0_2) 1074)))))
   ((spec_Whole_bit k a0_0 a0_1 (isub .i64 (isub .i64 r21 (imin 53 (iadd .i64 (iadd .i64 r13 a0_2) 1074))) 1)) >>= fun r49 =>
   spec_Dyadic_Float_j3 k v4 a0_2 r21 r13 a0_0 a0_1 r49)
   (spec_Dyadic_Float_j3 k v4 a0_2 r21 r13 a0_0 a0_1 false))

theorem spec_Dyadic_Float_sim {k : Nat}  (a0_0 : Bool) (a0_1 : List Int) (a0_2 : Int) {out : Nat} (hp : spec_Dyadic_Float k a0_0 a0_1 a0_2 = some out) : Sx.Fn Try.prog 23 [(Ag (C2 a0_0 a0_1 a0_2))] [] (fun w : Unit => (Fl out)) (fun w => []) := by
 unfold spec_Dyadic_Float at hp
 refine fn_of Try.func23 rfl Try.ntmps23 rfl fun E hM => ?_
 refine cr fun K1 hK1 => ?_
 refine so (ox_box' rfl (lv_ag _) rfl rfl) fun q1 => ?_
 refine sa rfl ?_
 refine nk hK1 ?_
 refine cx_seq' fun K2 hK2 => ?_
 refine cr fun K3 hK3 => ?_
 refine s0 (rd_load_agg' (i := 0) (o := 0) (nn := 3) rfl (ar rfl rfl rfl rfl) rfl agg34 (l' := (C2 a0_0 a0_1 a0_2)) rfl) ?_
 obtain ⟨r9, hr9, hp⟩ := bind_some hp
 refine so (oz (ent_fn' Try.func28 isn28 rfl rfl) (spec_Dyadic_Sign_sim _ _ _ hr9)) fun ⟨⟩ => ?_
 refine sb rfl rfl eg_int ru_eql ?_
 refine nk hK3 ?_
 refine cx_cond' rfl (fun h1 => ?_) (fun h1 => ?_)
 ·replace hp := (br_t h1).symm.trans hp
  refine cr fun K4 hK4 => ?_
  refine sa rfl ?_
  refine nk hK4 ?_
  refine cx_retc' ?_
  replace hp := sj hp
  subst hp
  refine tk (L' := [(2, (Vg 0))]) (H' := []) [] (uc rfl un) pn ?_
  exact tx_ret1' Try.results23 rfl () (rv_imp' (x := (Vg 0)) (y := (Fl 0)) (rv_tmp' rfl) imp_vf) lr
 replace hp := (br_f h1).symm.trans hp
 refine cx_skip' ?_
 show TX E K2 _
 refine tx_k' hK2 ?_
 refine cx_seq' fun K5 hK5 => ?_
 refine cx_plan' [] [] [(0, 1), (1, 1), (3, 1), (4, 1), (2, 0), (5, 1), (6, 1), (7, 1), (8, 1)] mixed (by kernel_rfl) ?_
 refine pd rfl (rd_field0' rfl Try.underlying34 rfl info32 rfl) ?_
 refine pd rfl (rd_load_agg' (i := 0) (o := 0) (nn := 2) rfl (ar rfl rfl rfl rfl) rfl agg32 (l' := (C6 a0_0 a0_1)) rfl) ?_
 refine pd rfl (rd_field' (off := 2) rfl Try.underlying34 rfl info3 rfl) ?_
 refine pd rfl (rd_load' (i := 0) (o := 2) rfl (ar rfl rfl rfl rfl) rfl flat3) ?_
 obtain ⟨r13, hr13, hp⟩ := bind_some hp
 refine px_ox' rfl (oz (ent_fn' Try.func50 isn50 rfl rfl) (spec_Whole_top_sim _ _ hr13)) rfl bs_nil (wt_none' rfl) fun ⟨⟩ => ?_
 iterate 2 refine pd rfl (rd_bin' rfl rfl eg_int ru_add) ?_
 refine pd rfl (rd_imin' rfl rfl) ?_
 refine pd rfl (rd_assign' rfl) ?_
 refine px_nil' ?_
 show TX E K5 _
 refine tx_k' hK5 ?_
 refine cr fun K6 hK6 => ?_
 refine sf rfl Try.underlying34 rfl info32 rfl ?_
 refine s0 (rd_load_agg' (i := 0) (o := 0) (nn := 2) rfl (ar rfl rfl rfl rfl) rfl agg32 (l' := (C6 a0_0 a0_1)) rfl) ?_
 obtain ⟨r21, hr21, hp⟩ := bind_some hp
 refine so (oz (ent_fn' Try.func50 isn50 rfl rfl) (spec_Whole_top_sim _ _ hr21)) fun ⟨⟩ => ?_
 refine sm rfl ?_
 refine sb rfl rfl eg_int ru_sub ?_
 refine sa rfl ?_
 refine nk hK6 ?_
 refine cr fun K7 hK7 => ?_
 refine sa rfl ?_
 refine nk hK7 ?_
 refine cx_seq' fun K8 hK8 => ?_
 refine cr fun K9 hK9 => ?_
 refine sa rfl ?_
 refine nk hK9 ?_
 refine cx_block' ?_
 obtain ⟨v4, hy1, hp⟩ := bind_some hp
 refine cx_loopg' (F := spec_Dyadic_Float_l1 r13 a0_2 a0_0 a0_1) (G := fun k R v => spec_Dyadic_Float_l1s r13 a0_2 a0_0 a0_1 k R v.1 v.2) (x := (0, 0)) (gh := ()) (fun (v2 : Int × Int) (w2 : Unit) => (⟨78, [], [(1, (Vp q1)), (3, (Vi (imin 53 (iadd .i64 (iadd .i64 r13 a0_2) 1074)))), (4, (Vi (isub .i64 r21 (imin 53 (iadd .i64 (iadd .i64 r13 a0_2) 1074))))), (5, (Vl (.int .u64 v2.1))), (6, (Vi v2.2))], [(Ur q1 34 (C2 a0_0 a0_1 a0_2))]⟩ : St)) (fun (v4 : Int) => Zg E (Exit.exit 0) (fun (w4 : Unit) => (⟨78, [], [(1, (Vp q1)), (4, (Vi (isub .i64 r21 (imin 53 (iadd .i64 (iadd .i64 r13 a0_2) 1074))))), (5, (Vl (.int .u64 v4)))], [(Ur q1 34 (C2 a0_0 a0_1 a0_2))]⟩ : St))) (fun _ => rfl) (fun _ _ => rfl) ?_ hy1 (tx_to' rfl [0] (u5 rfl rfl rfl rfl rfl) (by decide) (pc rfl pn)) ?_
 ·clear hp hy1
  clear v4
  intro k rec1 KY1 ih1
  rintro ⟨x3, x4⟩ ⟨⟩ y1 hp
  replace hp : spec_Dyadic_Float_l1s r13 a0_2 a0_0 a0_1 k rec1 x3 x4 = some y1 := hp
  unfold spec_Dyadic_Float_l1s at hp
  refine cx_seq' fun K15 hK15 => ?_
  refine cr fun K16 hK16 => ?_
  iterate 2 refine sm rfl ?_
  refine sb rfl rfl eg_int ru_lss ?_
  refine nk hK16 ?_
  refine cx_cond' rfl (fun h5 => ?_) (fun h5 => ?_)
  ·replace hp := (br_t h5).symm.trans hp
   refine cx_skip' ?_
   show TX E K15 _
   refine tx_k' hK15 ?_
   refine cx_join' (fun (v3 : Int) => (⟨78, [], [(1, (Vp q1)), (3, (Vi (imin 53 (iadd .i64 (iadd .i64 r13 a0_2) 1074)))), (4, (Vi (isub .i64 r21 (imin 53 (iadd .i64 (iadd .i64 r13 a0_2) 1074))))), (5, (Vl (.int .u64 v3))), (6, (Vi x4))], [(Ur q1 34 (C2 a0_0 a0_1 a0_2))]⟩ : St)) (fun (v3 : Int) => spec_Dyadic_Float_j2 k rec1 x4 v3 = some y1) ?_ ?_
   ·rintro x2 hp
    replace hp : spec_Dyadic_Float_j2 k rec1 x4 x2 = some y1 := hp
    unfold spec_Dyadic_Float_j2 at hp
    refine cx_region' ?_
    refine sm rfl ?_
    refine sb rfl rfl eg_int ru_add ?_
    refine sa rfl ?_
    refine sx_nil' ?_
    show TX E (KY1 _) _
    exact tk [0] (u5 rfl rfl rfl rfl rfl) (pc rfl pn) (ih1 (x2, (iadd .i64 x4 1)) () _ hp)
   intro K17 hK17
   refine cx_block' ?_
   refine cr fun K18 hK18 => ?_
   refine sm rfl ?_
   obtain ⟨r30, hr30, hp⟩ := bind_some hp
   refine sb rfl rfl eg_int (ru_shl hr30) ?_
   refine sa rfl ?_
   refine nk hK18 ?_
   refine cx_seq' fun K19 hK19 => ?_
   refine cx_plan' [] [] [(0, 1), (1, 1), (2, 1), (3, 1), (6, 1), (4, 0), (5, 1), (7, 1), (8, 0)] mixed (by kernel_rfl) ?_
   refine pd rfl (rd_field0' rfl Try.underlying34 rfl info32 rfl) ?_
   refine pd rfl (rd_load_agg' (i := 0) (o := 0) (nn := 2) rfl (ar rfl rfl rfl rfl) rfl agg32 (l' := (C6 a0_0 a0_1)) rfl) ?_
   refine pd rfl (rd_field0' rfl Try.underlying34 rfl info32 rfl) ?_
   refine pd rfl (rd_load_agg' (i := 0) (o := 0) (nn := 2) rfl (ar rfl rfl rfl rfl) rfl agg32 (l' := (C6 a0_0 a0_1)) rfl) ?_
   refine pd rfl (rd_move' rfl) ?_
   obtain ⟨r35, hr35, hp⟩ := bind_some hp
   refine px_ox' rfl (oz (ent_fn' Try.func50 isn50 rfl rfl) (spec_Whole_top_sim _ _ hr35)) rfl bs_nil (wt_none' rfl) fun ⟨⟩ => ?_
   iterate 2 refine pd rfl (rd_bin' rfl rfl eg_int ru_sub) ?_
   obtain ⟨r39, hr39, hp⟩ := bind_some hp
   refine px_ox' rfl (oz (ent_fn' Try.func51 isn51 rfl rfl) (spec_Whole_bit_sim _ _ _ hr39)) rfl bs_nil (wt_none' rfl) fun ⟨⟩ => ?_
   refine px_nil' ?_
   show TX E K19 _
   refine tx_k' hK19 ?_
   refine cx_cond' rfl (fun h6 => ?_) (fun h6 => ?_)
   ·replace hp := (br_t h6).symm.trans hp
    refine cx_region' ?_
    refine sm rfl ?_
    refine sb rfl rfl eg_int ru_add ?_
    refine sa rfl ?_
    refine sx_nil' ?_
    show TX E K17 _
    exact tk [0] (u5 rfl rfl rfl rfl rfl) (pc rfl pn) (hK17 (iadd .u64 r30 1) hp)
   replace hp := (br_f h6).symm.trans hp
   refine cx_skip' ?_
   show TX E K17 _
   exact tk [0] (u5 rfl rfl rfl rfl rfl) (pc rfl pn) (hK17 r30 hp)
  replace hp := (br_f h5).symm.trans hp
  refine cx_exit' ?_
  replace hp := sj hp
  subst hp
  show TX E (Zg E (Exit.exit 0) _ (Exit.exit 0)) _
  exact tx_zend' () rfl [0] (u3 rfl rfl rfl) (by decide) (pc rfl pn)
 refine zg_out fun w4 => ?_
 show TX E K8 _
 refine tx_k' hK8 ?_
 refine cx_join' (fun (v8 : Int) => (⟨78, [], [(1, (Vp q1)), (4, (Vi (isub .i64 r21 (imin 53 (iadd .i64 (iadd .i64 r13 a0_2) 1074))))), (5, (Vl (.int .u64 v8)))], [(Ur q1 34 (C2 a0_0 a0_1 a0_2))]⟩ : St)) (fun (v8 : Int) => spec_Dyadic_Float_j6 k a0_2 r21 r13 a0_0 v8 = some out) ?_ ?_
 ·rintro x9 hp
  replace hp : spec_Dyadic_Float_j6 k a0_2 r21 r13 a0_0 x9 = some out := hp
  unfold spec_Dyadic_Float_j6 at hp
  refine cr fun K25 hK25 => ?_
  refine sm rfl ?_
  refine s0 (rd_conv' rfl (ru_i2f (by rw [Try.underlying74]; rfl) Try.underlying22)) ?_
  refine sg (off := 2) rfl Try.underlying34 rfl info3 rfl ?_
  refine sl (i := 0) (o := 2) rfl (ar rfl rfl rfl rfl) rfl flat3 ?_
  refine sm rfl ?_
  refine sb rfl rfl eg_int ru_add ?_
  obtain ⟨r71, hr71, hp⟩ := bind_some hp
  refine so (oz (ent_fn' Try.func53 isn53 rfl rfl) (math_Ldexp_sim _ _ hr71)) fun ⟨⟩ => ?_
  refine sa rfl ?_
  refine nk hK25 ?_
  refine cx_seq' fun K26 hK26 => ?_
  refine cr fun K27 hK27 => ?_
  refine sf rfl Try.underlying34 rfl info32 rfl ?_
  refine sf rfl Try.underlying32 rfl info4 rfl ?_
  refine sl (i := 0) (o := 0) rfl (ar rfl rfl rfl rfl) rfl flat4 ?_
  refine nk hK27 ?_
  refine cx_cond' rfl (fun h11 => ?_) (fun h11 => ?_)
  ·replace hp := (br_t h11).symm.trans hp
   refine cr fun K28 hK28 => ?_
   refine sm rfl ?_
   refine s0 (rd_fneg_fl' (fl_f rfl)) ?_
   refine sa rfl ?_
   refine nk hK28 ?_
   refine cx_retc' ?_
   replace hp := sj hp
   subst hp
   refine tk (L' := [(2, (Fl (fneg r71)))]) (H' := []) [] (uc rfl un) pn ?_
   exact tx_ret1' Try.results23 rfl () (rv_tmp' rfl) lr
  replace hp := (br_f h11).symm.trans hp
  refine cx_skip' ?_
  show TX E K26 _
  refine tx_k' hK26 ?_
  refine cr fun K29 hK29 => ?_
  refine sm rfl ?_
  refine sa rfl ?_
  refine nk hK29 ?_
  refine cx_retc' ?_
  replace hp := sj hp
  subst hp
  refine tk (L' := [(2, (Fl r71))]) (H' := []) [] (uc rfl un) pn ?_
  exact tx_ret1' Try.results23 rfl () (rv_tmp' rfl) lr
 intro K20 hK20
 refine cr fun K21 hK21 => ?_
 refine sm rfl ?_
 refine sb rfl rfl eg_int ru_gtr ?_
 refine sm rfl ?_
 refine sx_cutn' 6 (fun (v5 : Bool) => (⟨78, [], [(1, (Vp q1)), (4, (Vi (isub .i64 r21 (imin 53 (iadd .i64 (iadd .i64 r13 a0_2) 1074))))), (5, (Vl (.int .u64 v4))), (50, (Vb v5))], [(Ur q1 34 (C2 a0_0 a0_1 a0_2))]⟩ : St)) (fun (v5 : Bool) => spec_Dyadic_Float_j3 k v4 a0_2 r21 r13 a0_0 a0_1 v5 = some out) ?_ ?_
 ·rintro x6 hp
  replace hp : spec_Dyadic_Float_j3 k v4 a0_2 r21 r13 a0_0 a0_1 x6 = some out := hp
  unfold spec_Dyadic_Float_j3 at hp
  refine sm rfl ?_
  refine sx_cutn' 11 (fun (v7 : Bool) => (⟨78, [], [(1, (Vp q1)), (4, (Vi (isub .i64 r21 (imin 53 (iadd .i64 (iadd .i64 r13 a0_2) 1074))))), (5, (Vl (.int .u64 v4))), (62, (Vb v7))], [(Ur q1 34 (C2 a0_0 a0_1 a0_2))]⟩ : St)) (fun (v7 : Bool) => spec_Dyadic_Float_j5 k a0_2 r21 r13 a0_0 v4 v7 = some out) ?_ ?_
  ·rintro x8 hp
   replace hp : spec_Dyadic_Float_j5 k a0_2 r21 r13 a0_0 v4 x8 = some out := hp
   unfold spec_Dyadic_Float_j5 at hp
   refine nk hK21 ?_
   refine cx_cond' rfl (fun h10 => ?_) (fun h10 => ?_)
   ·replace hp := (br_t h10).symm.trans hp
    refine cx_region' ?_
    refine sm rfl ?_
    refine sb rfl rfl eg_int ru_add ?_
    refine sa rfl ?_
    refine sx_nil' ?_
    show TX E K20 _
    exact tk [0] (u3 rfl rfl rfl) (pc rfl pn) (hK20 (iadd .u64 v4 1) hp)
   replace hp := (br_f h10).symm.trans hp
   refine cx_skip' ?_
   show TX E K20 _
   exact tk [0] (u3 rfl rfl rfl) (pc rfl pn) (hK20 v4 hp)
  intro K24 hK24
  rcases br_cases hp with ⟨h8, hp⟩ | ⟨h8, hp⟩
  ·refine sx_rd' (rd_move' rfl) rfl rfl (wt_is' (wt_guard' rfl rfl rfl) (beq_tt h8)) ?_
   obtain ⟨r53, hr53, hp⟩ := bind_some hp
   refine sx_rd' (rd_bin' rfl rfl eg_int (ru_rem hr53)) rfl rfl (wt_is' (wt_guard' rfl rfl rfl) (beq_tt h8)) ?_
   refine sx_rd' (rd_bin' rfl rfl eg_int ru_eql) rfl rfl (wt_is' (wt_guard' rfl rfl rfl) (beq_tt h8)) ?_
   refine sx_rd' (rd_move' rfl) rfl rfl (wt_is' (wt_guard' rfl rfl rfl) (beq_tt h8)) ?_
   refine sx_cutn' 7 (fun (v6 : Bool) => (⟨78, [], [(1, (Vp q1)), (4, (Vi (isub .i64 r21 (imin 53 (iadd .i64 (iadd .i64 r13 a0_2) 1074))))), (5, (Vl (.int .u64 v4))), (62, (Vb v6))], [(Ur q1 34 (C2 a0_0 a0_1 a0_2))]⟩ : St)) (fun (v6 : Bool) => spec_Dyadic_Float_j4 k a0_2 r21 r13 a0_0 v4 v6 = some out) ?_ ?_
   ·rintro x7 hp
    replace hp : spec_Dyadic_Float_j4 k a0_2 r21 r13 a0_0 v4 x7 = some out := hp
    unfold spec_Dyadic_Float_j4 at hp
    refine sx_nil' ?_
    show TX E K24 _
    exact tk [0] (u4 rfl rfl rfl rfl) (pc rfl pn) (hK24 x7 hp)
   intro K23 hK23
   rcases br_cases hp with ⟨h9, hp⟩ | ⟨h9, hp⟩
   ·refine sx_skip' rfl rfl (wt_is' (wt_guard' rfl rfl rfl) (beq_tf h9)) ?_
    iterate 4 refine sx_skip' rfl rfl (wt_is' (wt_guard' rfl rfl rfl) (beq_tf h9)) ?_
    refine sx_rd' (rd_pick_true' rfl h9 rfl) rfl rfl (wt_is' (wt_guard' rfl rfl rfl) (beq_tt h8)) ?_
    refine s0 (rd_pick_true' rfl h8 rfl) ?_
    refine sx_nil' ?_
    show TX E K23 _
    exact tk [0] (u4 rfl rfl rfl rfl) (pc rfl pn) (hK23 true hp)
   refine sx_rd' (rd_field0' rfl Try.underlying34 rfl info32 rfl) rfl rfl (wt_is' (wt_guard' rfl rfl rfl) (beq_ff h9)) ?_
   refine sx_rd' (rd_load_agg' (i := 0) (o := 0) (nn := 2) rfl (ar rfl rfl rfl rfl) rfl agg32 (l' := (C6 a0_0 a0_1)) rfl) rfl rfl (wt_is' (wt_guard' rfl rfl rfl) (beq_ff h9)) ?_
   refine sx_rd' (rd_move' rfl) rfl rfl (wt_is' (wt_guard' rfl rfl rfl) (beq_ff h9)) ?_
   refine sx_rd' (rd_bin' rfl rfl eg_int ru_sub) rfl rfl (wt_is' (wt_guard' rfl rfl rfl) (beq_ff h9)) ?_
   obtain ⟨r60, hr60, hp⟩ := bind_some hp
   refine sx_ox' (oz (ent_fn' Try.func52 isn52 rfl rfl) (spec_Whole_low_sim _ _ _ hr60)) (wt_is' (wt_guard' rfl rfl rfl) (beq_ff h9)) fun ⟨⟩ => ?_
   refine sx_rd' (rd_pick_false' rfl h9 rfl) rfl rfl (wt_is' (wt_guard' rfl rfl rfl) (beq_tt h8)) ?_
   refine s0 (rd_pick_true' rfl h8 rfl) ?_
   refine sx_nil' ?_
   show TX E K23 _
   exact tk [0] (u4 rfl rfl rfl rfl) (pc rfl pn) (hK23 r60 hp)
  iterate 4 refine sx_skip' rfl rfl (wt_is' (wt_guard' rfl rfl rfl) (beq_ft h8)) ?_
  iterate 5 refine sx_skip' rfl rfl (wt_undef' rfl rfl rfl) ?_
  refine sx_skip' rfl rfl (wt_is' (wt_guard' rfl rfl rfl) (beq_ft h8)) ?_
  refine s0 (rd_pick_false' rfl h8 rfl) ?_
  refine sx_nil' ?_
  show TX E K24 _
  exact tk [0] (u4 rfl rfl rfl rfl) (pc rfl pn) (hK24 false hp)
 intro K22 hK22
 rcases br_cases hp with ⟨h7, hp⟩ | ⟨h7, hp⟩
 ·refine sx_rd' (rd_field0' rfl Try.underlying34 rfl info32 rfl) rfl rfl (wt_is' (wt_guard' rfl rfl rfl) (beq_tt h7)) ?_
  refine sx_rd' (rd_load_agg' (i := 0) (o := 0) (nn := 2) rfl (ar rfl rfl rfl rfl) rfl agg32 (l' := (C6 a0_0 a0_1)) rfl) rfl rfl (wt_is' (wt_guard' rfl rfl rfl) (beq_tt h7)) ?_
  refine sx_rd' (rd_move' rfl) rfl rfl (wt_is' (wt_guard' rfl rfl rfl) (beq_tt h7)) ?_
  refine sx_rd' (rd_bin' rfl rfl eg_int ru_sub) rfl rfl (wt_is' (wt_guard' rfl rfl rfl) (beq_tt h7)) ?_
  obtain ⟨r49, hr49, hp⟩ := bind_some hp
  refine sx_ox' (oz (ent_fn' Try.func51 isn51 rfl rfl) (spec_Whole_bit_sim _ _ _ hr49)) (wt_is' (wt_guard' rfl rfl rfl) (beq_tt h7)) fun ⟨⟩ => ?_
  refine s0 (rd_pick_true' rfl h7 rfl) ?_
  refine sx_nil' ?_
  show TX E K22 _
  exact tk [0] (u4 rfl rfl rfl rfl) (pc rfl pn) (hK22 r49 hp)
 iterate 5 refine sx_skip' rfl rfl (wt_is' (wt_guard' rfl rfl rfl) (beq_ft h7)) ?_
 refine s0 (rd_pick_false' rfl h7 rfl) ?_
 refine sx_nil' ?_
 show TX E K22 _
 exact tk [0] (u4 rfl rfl rfl rfl) (pc rfl pn) (hK22 false hp)

def laws_rootOf (k : Nat) (a0_0 : Bool) (a0_1 : List Int) (a0_2 : Int) (a0_3 : Bool) (a0_4 : List Int) (a0_5 : Int) : Option (Nat) :=
 (spec_Dyadic_Float k a0_0 a0_1 a0_2) >>= fun r5 =>
 (spec_Dyadic_Float k a0_3 a0_4 a0_5) >>= fun r8 =>
 (num r5) >>= fun u1 =>
 (num r8) >>= fun u2 =>
 (fdiv r5 r8) >>= fun r9 =>
 (math_Sqrt k r9) >>= fun r10 =>
 some r10

theorem laws_rootOf_sim {k : Nat}  (a0_0 : Bool) (a0_1 : List Int) (a0_2 : Int) (a0_3 : Bool) (a0_4 : List Int) (a0_5 : Int) {out : Nat} (hp : laws_rootOf k a0_0 a0_1 a0_2 a0_3 a0_4 a0_5 = some out) : Sx.Fn Try.prog 8 [(Ag (C4 a0_0 a0_1 a0_2 a0_3 a0_4 a0_5))] [] (fun w : Unit => (Fl out)) (fun w => []) := by
 unfold laws_rootOf at hp
 refine fn_of Try.func8 rfl Try.ntmps8 rfl fun E hM => ?_
 refine cr fun K1 hK1 => ?_
 refine so (ox_box' rfl (lv_ag _) rfl rfl) fun q1 => ?_
 refine sa rfl ?_
 refine nk hK1 ?_
 refine cx_seq' fun K2 hK2 => ?_
 refine cx_plan' [] [] [(0, 1), (1, 1), (3, 1), (4, 1), (2, 0), (5, 0), (6, 1), (7, 0), (8, 1)] mixed (by kernel_rfl) ?_
 refine pd rfl (rd_field0' rfl Try.underlying36 rfl info34 rfl) ?_
 refine pd rfl (rd_load_agg' (i := 0) (o := 0) (nn := 3) rfl (ar rfl rfl rfl rfl) rfl agg34 (l' := (C2 a0_0 a0_1 a0_2)) rfl) ?_
 refine pd rfl (rd_field' (off := 3) rfl Try.underlying36 rfl info34 rfl) ?_
 refine pd rfl (rd_load_agg' (i := 0) (o := 3) (nn := 3) rfl (ar rfl rfl rfl rfl) rfl agg34 (l' := (C2 a0_3 a0_4 a0_5)) rfl) ?_
 obtain ⟨r5, hr5, hp⟩ := bind_some hp
 refine px_ox' rfl (oz (ent_fn' Try.func23 isn23 rfl rfl) (spec_Dyadic_Float_sim _ _ _ hr5)) rfl bs_nil (wt_none' rfl) fun ⟨⟩ => ?_
 obtain ⟨r8, hr8, hp⟩ := bind_some hp
 refine px_ox' rfl (oz (ent_fn' Try.func23 isn23 rfl rfl) (spec_Dyadic_Float_sim _ _ _ hr8)) rfl bs_nil (wt_none' rfl) fun ⟨⟩ => ?_
 obtain ⟨u1, hu1, hp⟩ := bind_some hp
 refine tx_slot' 5 (y := (Vg r5)) rfl (imp_num (num_some hu1).2) ?_
 obtain ⟨u2, hu2, hp⟩ := bind_some hp
 refine tx_slot' 8 (y := (Vg r8)) rfl (imp_num (num_some hu2).2) ?_
 obtain ⟨r9, hr9, hp⟩ := bind_some hp
 refine pd rfl (rd_bin' rfl rfl eg_flt (ru_fdiv hr9)) ?_
 obtain ⟨r10, hr10, hp⟩ := bind_some hp
 refine px_ox' rfl (oz (ent_fn' Try.func22 isn22 rfl rfl) (math_Sqrt_sim _ hr10)) rfl bs_nil (wt_none' rfl) fun ⟨⟩ => ?_
 refine pd rfl (rd_assign' rfl) ?_
 refine px_nil' ?_
 show TX E K2 _
 refine tx_k' hK2 ?_
 refine cx_retc' ?_
 replace hp := sj hp
 subst hp
 refine tk (L' := [(2, (Fl r10))]) (H' := []) [] (uc rfl un) pn ?_
 exact tx_ret1' Try.results8 rfl () (rv_tmp' rfl) lr

def laws_nearTo (k a0 a1 : Nat) : Option (Bool) :=
 (some (gsub a0 a1)) >>= fun r7 =>
 (num r7) >>= fun u1 =>
 (math_Abs k r7) >>= fun r8 =>
 some (flt r8 4517110426252607488)

theorem laws_nearTo_sim {k : Nat}  (a0 a1 : Nat) {out : Bool} (hp : laws_nearTo k a0 a1 = some out) : Sx.Fn Try.prog 7 [(Vg a0), (Vg a1)] [] (fun w : Unit => (Vb out)) (fun w => []) := by
 unfold laws_nearTo at hp
 refine fn_of Try.func7 rfl Try.ntmps7 rfl fun E hM => ?_
 refine cr fun K1 hK1 => ?_
 refine sa rfl ?_
 refine nk hK1 ?_
 refine cr fun K2 hK2 => ?_
 iterate 2 refine sm rfl ?_
 obtain ⟨r7, hr7, hp⟩ := bind_some hp
 refine so (ox_fop' (.inr (.inl rfl)) (fl_v rfl) (fl_v rfl) (Option.some.inj hr7) rfl rfl) fun _ => ?_
 obtain ⟨u1, hu1, hp⟩ := bind_some hp
 refine tx_slot' 7 (y := (Vg r7)) rfl (imp_num (num_some hu1).2) ?_
 obtain ⟨r8, hr8, hp⟩ := bind_some hp
 refine so (oz (ent_fn' Try.func15 isn15 rfl rfl) (math_Abs_sim _ hr8)) fun ⟨⟩ => ?_
 refine sb rfl rfl eg_flt ru_flt ?_
 refine sa rfl ?_
 refine nk hK2 ?_
 refine cx_retc' ?_
 replace hp := sj hp
 subst hp
 refine tk (L' := [(4, (Vb (flt r8 4517110426252607488)))]) (H' := []) [] (uc rfl un) pn ?_
 exact tx_ret1' Try.results7 rfl () (rv_tmp' rfl) lr

def laws_FnSpaceParallel_j8 (k : Nat) (x8 : Bool) : Option (Bool) :=
 some x8
def laws_FnSpaceParallel_j7 (k : Nat) (a3 : Int) (a2_0 a0_0 : Nat) (a2_1 a0_1 : Nat) (a2_2 a0_2 : Nat) (a4 : Int) (a1_0 a1_1 a1_2 : Nat) (x7 : Bool) : Option (Bool) :=
 br x7
  (some true)
  ((some (gmul (i2f a3) a2_0)) >>= fun r56 =>
  (some (gadd a0_0 r56)) >>= fun r57 =>
  (some (gmul (i2f a3) a2_1)) >>= fun r64 =>
  (some (gadd a0_1 r64)) >>= fun r65 =>
  (some (gmul (i2f a3) a2_2)) >>= fun r72 =>
  (some (gadd a0_2 r72)) >>= fun r73 =>
  (some (gmul (i2f a4) a2_0)) >>= fun r81 =>
  (some (gadd a1_0 r81)) >>= fun r82 =>
  (some (gmul (i2f a4) a2_1)) >>= fun r89 =>
  (some (gadd a1_1 r89)) >>= fun r90 =>
  (some (gmul (i2f a4) a2_2)) >>= fun r97 =>
  (some (gadd a1_2 r97)) >>= fun r98 =>
  (num r57) >>= fun u1 =>
  (num r65) >>= fun u2 =>
  (num r73) >>= fun u3 =>
  (num r82) >>= fun u4 =>
  (num r90) >>= fun u5 =>
  (num r98) >>= fun u6 =>
  (laws_spaceTo k 4643211215818981376 ([(r57, r65, r73), (r82, r90, r98)])) >>= fun r103 =>
  br (!r103)
   (some true)
   ((num r57) >>= fun u7 =>
   (num r65) >>= fun u8 =>
   (num r73) >>= fun u9 =>
   (num r82) >>= fun u10 =>
   (num r90) >>= fun u11 =>
   (num r98) >>= fun u12 =>
   (impl_LineLine3 k a0_0 a0_1 a0_2 r57 r65 r73 a1_0 a1_1 a1_2 r82 r90 r98) >>= fun r110 =>
   br r110.2
    ((laws_exactly3 k a0_0 a0_1 a0_2) >>= fun r117 =>
    (num r57) >>= fun u13 =>
    (num r65) >>= fun u14 =>
    (num r73) >>= fun u15 =>
    (laws_exactly3 k r57 r65 r73) >>= fun r119 =>
    (laws_exactly3 k a1_0 a1_1 a1_2) >>= fun r121 =>
    (num r82) >>= fun u16 =>
    (num r90) >>= fun u17 =>
    (num r98) >>= fun u18 =>
    (laws_exactly3 k r82 r90 r98) >>= fun r123 =>
    (spec_SquareBetween3 k r117.1 r117.2.1 r117.2.2.1 r117.2.2.2.1 r117.2.2.2.2.1 r117.2.2.2.2.2.1 r117.2.2.2.2.2.2.1 r117.2.2.2.2.2.2.2.1 r117.2.2.2.2.2.2.2.2 r119.1 r119.2.1 r119.2.2.1 r119.2.2.2.1 r119.2.2.2.2.1 r119.2.2.2.2.2.1 r119.2.2.2.2.2.2.1 r119.2.2.2.2.2.2.2.1 r119.2.2.2.2.2.2.2.2 r121.1 r121.2.1 r121.2.2.1 r121.2.2.2.1 r121.2.2.2.2.1 r121.2.2.2.2.2.1 r121.2.2.2.2.2.2.1 r121.2.2.2.2.2.2.2.1 r121.2.2.2.2.2.2.2.2 r123.1 r123.2.1 r123.2.2.1 r123.2.2.2.1 r123.2.2.2.2.1 r123.2.2.2.2.2.1 r123.2.2.2.2.2.2.1 r123.2.2.2.2.2.2.2.1 r123.2.2.2.2.2.2.2.2) >>= fun r124 =>
    (laws_rootOf k r124.1 r124.2.1 r124.2.2.1 r124.2.2.2.1 r124.2.2.2.2.1 r124.2.2.2.2.2) >>= fun r125 =>
    (num r110.1) >>= fun u19 =>
    (num r125) >>= fun u20 =>
    (laws_nearTo k r110.1 r125) >>= fun r126 =>
    laws_FnSpaceParallel_j8 k r126)
    (laws_FnSpaceParallel_j8 k false)))
def laws_FnSpaceParallel_j6 (k : Nat) (a3 : Int) (a2_0 a0_0 : Nat) (a2_1 a0_1 : Nat) (a2_2 a0_2 : Nat) (a4 : Int) (a1_0 a1_1 a1_2 : Nat) (x6 : Bool) : Option (Bool) :=
 br x6
  (laws_FnSpaceParallel_j7 k a3 a2_0 a0_0 a2_1 a0_1 a2_2 a0_2 a4 a1_0 a1_1 a1_2 true)
  (laws_FnSpaceParallel_j7 k a3 a2_0 a0_0 a2_1 a0_1 a2_2 a0_2 a4 a1_0 a1_1 a1_2 (decide (100 < a4)))
def laws_FnSpaceParallel_j5 (k : Nat) (a3 : Int) (a2_0 a0_0 : Nat) (a2_1 a0_1 : Nat) (a2_2 a0_2 : Nat) (a4 : Int) (a1_0 a1_1 a1_2 : Nat) (x5 : Bool) : Option (Bool) :=
 br x5
  (laws_FnSpaceParallel_j6 k a3 a2_0 a0_0 a2_1 a0_1 a2_2 a0_2 a4 a1_0 a1_1 a1_2 true)
  (laws_FnSpaceParallel_j6 k a3 a2_0 a0_0 a2_1 a0_1 a2_2 a0_2 a4 a1_0 a1_1 a1_2 (decide (a4 < (-100))))
def laws_FnSpaceParallel_j4 (k : Nat) (a3 : Int) (a2_0 a0_0 : Nat) (a2_1 a0_1 : Nat) (a2_2 a0_2 : Nat) (a4 : Int) (a1_0 a1_1 a1_2 : Nat) (x4 : Bool) : Option (Bool) :=
 br x4
  (laws_FnSpaceParallel_j5 k a3 a2_0 a0_0 a2_1 a0_1 a2_2 a0_2 a4 a1_0 a1_1 a1_2 true)
  (laws_FnSpaceParallel_j5 k a3 a2_0 a0_0 a2_1 a0_1 a2_2 a0_2 a4 a1_0 a1_1 a1_2 (decide (100 < a3)))
def laws_FnSpaceParallel_j3 (k : Nat) (a3 : Int) (a2_0 a0_0 : Nat) (a2_1 a0_1 : Nat) (a2_2 a0_2 : Nat) (a4 : Int) (a1_0 a1_1 a1_2 : Nat) (x3 : Bool) : Option (Bool) :=
 br x3
  (laws_FnSpaceParallel_j4 k a3 a2_0 a0_0 a2_1 a0_1 a2_2 a0_2 a4 a1_0 a1_1 a1_2 true)
  (laws_FnSpaceParallel_j4 k a3 a2_0 a0_0 a2_1 a0_1 a2_2 a0_2 a4 a1_0 a1_1 a1_2 (decide (a3 < (-100))))
def laws_FnSpaceParallel_j2 (k : Nat) (a3 : Int) (a2_0 a0_0 : Nat) (a2_1 a0_1 : Nat) (a2_2 a0_2 : Nat) (a4 : Int) (a1_0 a1_1 a1_2 : Nat) (x2 : Bool) : Option (Bool) :=
 br x2
  (laws_FnSpaceParallel_j3 k a3 a2_0 a0_0 a2_1 a0_1 a2_2 a0_2 a4 a1_0 a1_1 a1_2 true)
  (laws_FnSpaceParallel_j3 k a3 a2_0 a0_0 a2_1 a0_1 a2_2 a0_2 a4 a1_0 a1_1 a1_2 (decide (a4 = 0)))
def laws_FnSpaceParallel_j1 (k : Nat) (a3 : Int) (a2_0 a0_0 : Nat) (a2_1 a0_1 : Nat) (a2_2 a0_2 : Nat) (a4 : Int) (a1_0 a1_1 a1_2 : Nat) (x1 : Bool) : Option (Bool) :=
 br x1
  (laws_FnSpaceParallel_j2 k a3 a2_0 a0_0 a2_1 a0_1 a2_2 a0_2 a4 a1_0 a1_1 a1_2 true)
  (laws_FnSpaceParallel_j2 k a3 a2_0 a0_0 a2_1 a0_1 a2_2 a0_2 a4 a1_0 a1_1 a1_2 (decide (a3 = 0)))
def laws_FnSpaceParallel (k a0_0 : Nat) (a0_1 a0_2 : Nat) (a1_0 a1_1 : Nat) (a1_2 a2_0 : Nat) (a2_1 a2_2 : Nat) (a3 a4 : Int) : Option (Bool) :=
 (laws_spaceTo k 4643211215818981376 ([(a0_0, a0_1, a0_2), (a1_0, a1_1, a1_2), (a2_0, a2_1, a2_2)])) >>= fun r19 =>
 br (!r19)
  (laws_FnSpaceParallel_j1 k a3 a2_0 a0_0 a2_1 a0_1 a2_2 a0_2 a4 a1_0 a1_1 a1_2 true)
  (laws_FnSpaceParallel_j1 k a3 a2_0 a0_0 a2_1 a0_1 a2_2 a0_2 a4 a1_0 a1_1 a1_2 ((feq a2_0 0) && ((feq a2_1 0) && ((feq a2_2 0) && true))))

theorem laws_FnSpaceParallel_sim {k : Nat}  (a0_0 a0_1 : Nat) (a0_2 a1_0 : Nat) (a1_1 a1_2 : Nat) (a2_0 a2_1 a2_2 : Nat) (a3 a4 : Int) {out : Bool} (hp : laws_FnSpaceParallel k a0_0 a0_1 a0_2 a1_0 a1_1 a1_2 a2_0 a2_1 a2_2 a3 a4 = some out) : Sx.Fn Try.prog 3 [(Ag (C7 a0_0 a0_1 a0_2)), (Ag (C7 a1_0 a1_1 a1_2)), (Ag (C7 a2_0 a2_1 a2_2)), (Vi a3), (Vi a4)] [] (fun w : Unit => (Vb out)) (fun w => []) := by
 unfold laws_FnSpaceParallel at hp
 refine fn_of Try.func3 rfl Try.ntmps3 rfl fun E hM => ?_
 refine cr fun K1 hK1 => ?_
 refine so (ox_box' rfl (lv_ag _) rfl rfl) fun q5 => ?_
 refine so (ox_box' rfl (lv_ag _) rfl rfl) fun q6 => ?_
 refine so (ox_box' rfl (lv_ag _) rfl rfl) fun q7 => ?_
 refine sa rfl ?_
 refine nk hK1 ?_
 refine cx_seq' fun K2 hK2 => ?_
 refine cr fun K3 hK3 => ?_
 refine s0 (rd_load_agg' (i := 2) (o := 0) (nn := 3) rfl (ar rfl rfl rfl rfl) rfl agg24 (l' := (C7 a0_0 a0_1 a0_2)) rfl) ?_
 refine s0 (rd_load_agg' (i := 1) (o := 0) (nn := 3) rfl (ar rfl rfl rfl rfl) rfl agg24 (l' := (C7 a1_0 a1_1 a1_2)) rfl) ?_
 refine s0 (rd_load_agg' (i := 0) (o := 0) (nn := 3) rfl (ar rfl rfl rfl rfl) rfl agg24 (l' := (C7 a2_0 a2_1 a2_2)) rfl) ?_
 refine so (ox_rowlit' (K := KT24) (xs := [(a0_0, a0_1, a0_2), (a1_0, a1_1, a1_2), (a2_0, a2_1, a2_2)]) (qs := [(0, (C7 a0_0 a0_1 a0_2)), (1, (C7 a1_0 a1_1 a1_2)), (2, (C7 a2_0 a2_1 a2_2))]) ⟨rfl, ⟨_, rfl, (lv_ag _)⟩, ⟨rfl, ⟨_, rfl, (lv_ag _)⟩, ⟨rfl, ⟨_, rfl, (lv_ag _)⟩, trivial⟩⟩⟩ Try.underlying52 info24 rfl rfl rfl rfl rfl (by kernel_rfl) rfl rfl rfl) fun g18 => ?_
 obtain ⟨r19, hr19, hp⟩ := bind_some hp
 refine so (ox_brw' (frz_row 0 [(18, (Vw g18), (Sl KT24 ([(a0_0, a0_1, a0_2), (a1_0, a1_1, a1_2), (a2_0, a2_1, a2_2)])))] (K := KT24) (xs := [(a0_0, a0_1, a0_2), (a1_0, a1_1, a1_2), (a2_0, a2_1, a2_2)]) (by decide) rfl ⟨⟨rfl, frz_it⟩, trivial⟩ (H' := [(Ur q7 24 (C7 a2_0 a2_1 a2_2)), (Ur q6 24 (C7 a1_0 a1_1 a1_2)), (Ur q5 24 (C7 a0_0 a0_1 a0_2))]) frzH_refl) (ent_fn' Try.func5 isn5 rfl rfl) (laws_spaceTo_sim _ _ hr19 : Sx.Fn Try.prog 5 [(Vg 4643211215818981376), (Sl KT24 ([(a0_0, a0_1, a0_2), (a1_0, a1_1, a1_2), (a2_0, a2_1, a2_2)]))] [] (fun x : Unit => (Vb r19)) (fun x => [])) pu_vl rfl rfl) fun ⟨⟩ => ?_
 refine s0 (rd_un' rfl ru_not) ?_
 refine sm rfl ?_
 refine sx_cutn' 4 (fun (v1 : Bool) => (⟨128, [], [(3, (Vi a3)), (4, (Vi a4)), (5, (Vp q5)), (6, (Vp q6)), (7, (Vp q7)), (25, (Vb v1))], [(Ur q5 24 (C7 a0_0 a0_1 a0_2)), (Ur q6 24 (C7 a1_0 a1_1 a1_2)), (Ur q7 24 (C7 a2_0 a2_1 a2_2))]⟩ : St)) (fun (v1 : Bool) => laws_FnSpaceParallel_j1 k a3 a2_0 a0_0 a2_1 a0_1 a2_2 a0_2 a4 a1_0 a1_1 a1_2 v1 = some out) ?_ ?_
 ·rintro x1 hp
  replace hp : laws_FnSpaceParallel_j1 k a3 a2_0 a0_0 a2_1 a0_1 a2_2 a0_2 a4 a1_0 a1_1 a1_2 x1 = some out := hp
  unfold laws_FnSpaceParallel_j1 at hp
  refine sm rfl ?_
  refine sx_cutn' 3 (fun (v2 : Bool) => (⟨128, [], [(3, (Vi a3)), (4, (Vi a4)), (5, (Vp q5)), (6, (Vp q6)), (7, (Vp q7)), (29, (Vb v2))], [(Ur q5 24 (C7 a0_0 a0_1 a0_2)), (Ur q6 24 (C7 a1_0 a1_1 a1_2)), (Ur q7 24 (C7 a2_0 a2_1 a2_2))]⟩ : St)) (fun (v2 : Bool) => laws_FnSpaceParallel_j2 k a3 a2_0 a0_0 a2_1 a0_1 a2_2 a0_2 a4 a1_0 a1_1 a1_2 v2 = some out) ?_ ?_
  ·rintro x2 hp
   replace hp : laws_FnSpaceParallel_j2 k a3 a2_0 a0_0 a2_1 a0_1 a2_2 a0_2 a4 a1_0 a1_1 a1_2 x2 = some out := hp
   unfold laws_FnSpaceParallel_j2 at hp
   refine sm rfl ?_
   refine sx_cutn' 3 (fun (v3 : Bool) => (⟨128, [], [(3, (Vi a3)), (4, (Vi a4)), (5, (Vp q5)), (6, (Vp q6)), (7, (Vp q7)), (33, (Vb v3))], [(Ur q5 24 (C7 a0_0 a0_1 a0_2)), (Ur q6 24 (C7 a1_0 a1_1 a1_2)), (Ur q7 24 (C7 a2_0 a2_1 a2_2))]⟩ : St)) (fun (v3 : Bool) => laws_FnSpaceParallel_j3 k a3 a2_0 a0_0 a2_1 a0_1 a2_2 a0_2 a4 a1_0 a1_1 a1_2 v3 = some out) ?_ ?_
   ·rintro x3 hp
    replace hp : laws_FnSpaceParallel_j3 k a3 a2_0 a0_0 a2_1 a0_1 a2_2 a0_2 a4 a1_0 a1_1 a1_2 x3 = some out := hp
    unfold laws_FnSpaceParallel_j3 at hp
    refine sm rfl ?_
    refine sx_cutn' 3 (fun (v4 : Bool) => (⟨128, [], [(3, (Vi a3)), (4, (Vi a4)), (5, (Vp q5)), (6, (Vp q6)), (7, (Vp q7)), (37, (Vb v4))], [(Ur q5 24 (C7 a0_0 a0_1 a0_2)), (Ur q6 24 (C7 a1_0 a1_1 a1_2)), (Ur q7 24 (C7 a2_0 a2_1 a2_2))]⟩ : St)) (fun (v4 : Bool) => laws_FnSpaceParallel_j4 k a3 a2_0 a0_0 a2_1 a0_1 a2_2 a0_2 a4 a1_0 a1_1 a1_2 v4 = some out) ?_ ?_
    ·rintro x4 hp
     replace hp : laws_FnSpaceParallel_j4 k a3 a2_0 a0_0 a2_1 a0_1 a2_2 a0_2 a4 a1_0 a1_1 a1_2 x4 = some out := hp
     unfold laws_FnSpaceParallel_j4 at hp
     refine sm rfl ?_
     refine sx_cutn' 3 (fun (v5 : Bool) => (⟨128, [], [(3, (Vi a3)), (4, (Vi a4)), (5, (Vp q5)), (6, (Vp q6)), (7, (Vp q7)), (41, (Vb v5))], [(Ur q5 24 (C7 a0_0 a0_1 a0_2)), (Ur q6 24 (C7 a1_0 a1_1 a1_2)), (Ur q7 24 (C7 a2_0 a2_1 a2_2))]⟩ : St)) (fun (v5 : Bool) => laws_FnSpaceParallel_j5 k a3 a2_0 a0_0 a2_1 a0_1 a2_2 a0_2 a4 a1_0 a1_1 a1_2 v5 = some out) ?_ ?_
     ·rintro x5 hp
      replace hp : laws_FnSpaceParallel_j5 k a3 a2_0 a0_0 a2_1 a0_1 a2_2 a0_2 a4 a1_0 a1_1 a1_2 x5 = some out := hp
      unfold laws_FnSpaceParallel_j5 at hp
      refine sm rfl ?_
      refine sx_cutn' 3 (fun (v6 : Bool) => (⟨128, [], [(3, (Vi a3)), (4, (Vi a4)), (5, (Vp q5)), (6, (Vp q6)), (7, (Vp q7)), (45, (Vb v6))], [(Ur q5 24 (C7 a0_0 a0_1 a0_2)), (Ur q6 24 (C7 a1_0 a1_1 a1_2)), (Ur q7 24 (C7 a2_0 a2_1 a2_2))]⟩ : St)) (fun (v6 : Bool) => laws_FnSpaceParallel_j6 k a3 a2_0 a0_0 a2_1 a0_1 a2_2 a0_2 a4 a1_0 a1_1 a1_2 v6 = some out) ?_ ?_
      ·rintro x6 hp
       replace hp : laws_FnSpaceParallel_j6 k a3 a2_0 a0_0 a2_1 a0_1 a2_2 a0_2 a4 a1_0 a1_1 a1_2 x6 = some out := hp
       unfold laws_FnSpaceParallel_j6 at hp
       refine sm rfl ?_
       refine sx_cutn' 3 (fun (v7 : Bool) => (⟨128, [], [(3, (Vi a3)), (4, (Vi a4)), (5, (Vp q5)), (6, (Vp q6)), (7, (Vp q7)), (49, (Vb v7))], [(Ur q5 24 (C7 a0_0 a0_1 a0_2)), (Ur q6 24 (C7 a1_0 a1_1 a1_2)), (Ur q7 24 (C7 a2_0 a2_1 a2_2))]⟩ : St)) (fun (v7 : Bool) => laws_FnSpaceParallel_j7 k a3 a2_0 a0_0 a2_1 a0_1 a2_2 a0_2 a4 a1_0 a1_1 a1_2 v7 = some out) ?_ ?_
       ·rintro x7 hp
        replace hp : laws_FnSpaceParallel_j7 k a3 a2_0 a0_0 a2_1 a0_1 a2_2 a0_2 a4 a1_0 a1_1 a1_2 x7 = some out := hp
        unfold laws_FnSpaceParallel_j7 at hp
        refine nk hK3 ?_
        refine cx_cond' rfl (fun h8 => ?_) (fun h8 => ?_)
        ·replace hp := (br_t h8).symm.trans hp
         refine cr fun K11 hK11 => ?_
         refine sa rfl ?_
         refine nk hK11 ?_
         refine cx_retc' ?_
         replace hp := sj hp
         subst hp
         refine tk (L' := [(10, (Vb true))]) (H' := []) [] (uc rfl un) pn ?_
         exact tx_ret1' Try.results3 rfl () (rv_tmp' rfl) lr
        replace hp := (br_f h8).symm.trans hp
        refine cx_skip' ?_
        show TX E K2 _
        refine tx_k' hK2 ?_
        refine cr fun K12 hK12 => ?_
        refine sf rfl Try.underlying24 rfl info22 rfl ?_
        refine sl (i := 0) (o := 0) rfl (ar rfl rfl rfl rfl) rfl flat22 ?_
        refine sm rfl ?_
        refine s0 (rd_conv' rfl (ru_i2f (by rw [Try.underlying3]; rfl) Try.underlying22)) ?_
        refine sf rfl Try.underlying24 rfl info22 rfl ?_
        refine sl (i := 2) (o := 0) rfl (ar rfl rfl rfl rfl) rfl flat22 ?_
        obtain ⟨r56, hr56, hp⟩ := bind_some hp
        refine so (ox_fop' (.inr (.inr (.inl rfl))) (fl_v rfl) (fl_v rfl) (Option.some.inj hr56) rfl rfl) fun _ => ?_
        obtain ⟨r57, hr57, hp⟩ := bind_some hp
        refine so (ox_fop' (.inl rfl) (fl_v rfl) (fl_f rfl) (Option.some.inj hr57) rfl rfl) fun _ => ?_
        refine sg (off := 1) rfl Try.underlying24 rfl info22 rfl ?_
        refine sl (i := 0) (o := 1) rfl (ar rfl rfl rfl rfl) rfl flat22 ?_
        refine sm rfl ?_
        refine s0 (rd_conv' rfl (ru_i2f (by rw [Try.underlying3]; rfl) Try.underlying22)) ?_
        refine sg (off := 1) rfl Try.underlying24 rfl info22 rfl ?_
        refine sl (i := 2) (o := 1) rfl (ar rfl rfl rfl rfl) rfl flat22 ?_
        obtain ⟨r64, hr64, hp⟩ := bind_some hp
        refine so (ox_fop' (.inr (.inr (.inl rfl))) (fl_v rfl) (fl_v rfl) (Option.some.inj hr64) rfl rfl) fun _ => ?_
        obtain ⟨r65, hr65, hp⟩ := bind_some hp
        refine so (ox_fop' (.inl rfl) (fl_v rfl) (fl_f rfl) (Option.some.inj hr65) rfl rfl) fun _ => ?_
        refine sg (off := 2) rfl Try.underlying24 rfl info22 rfl ?_
        refine sl (i := 0) (o := 2) rfl (ar rfl rfl rfl rfl) rfl flat22 ?_
        refine sm rfl ?_
        refine s0 (rd_conv' rfl (ru_i2f (by rw [Try.underlying3]; rfl) Try.underlying22)) ?_
        refine sg (off := 2) rfl Try.underlying24 rfl info22 rfl ?_
        refine sl (i := 2) (o := 2) rfl (ar rfl rfl rfl rfl) rfl flat22 ?_
        obtain ⟨r72, hr72, hp⟩ := bind_some hp
        refine so (ox_fop' (.inr (.inr (.inl rfl))) (fl_v rfl) (fl_v rfl) (Option.some.inj hr72) rfl rfl) fun _ => ?_
        obtain ⟨r73, hr73, hp⟩ := bind_some hp
        refine so (ox_fop' (.inl rfl) (fl_v rfl) (fl_f rfl) (Option.some.inj hr73) rfl rfl) fun _ => ?_
        refine sv (pls := [(0, 1), (1, 1), (2, 1)]) (qs := [(0, [(Fl r57)]), (1, [(Fl r65)]), (2, [(Fl r73)])]) (r := [(Fl r57), (Fl r65), (Fl r73)]) ⟨rfl, ⟨_, rfl, (lv_fl _)⟩, ⟨rfl, ⟨_, rfl, (lv_fl _)⟩, ⟨rfl, ⟨_, rfl, (lv_fl _)⟩, trivial⟩⟩⟩ Try.underlying24 has24 places24 info24 rfl rfl rfl ?_
        refine so (ox_alloc' info24 rfl rfl rfl rfl (l := (C7 0 0 0)) rfl) fun q11 => ?_
        refine so (ox_store' (i := 0) (o := 0) rfl rfl (lv_ag _) (ar rfl rfl rfl rfl) rfl info24 rfl (H' := [(Ur q11 24 [(Fl r57), (Fl r65), (Fl r73)]), (Ur q5 24 (C7 a0_0 a0_1 a0_2)), (Ur q6 24 (C7 a1_0 a1_1 a1_2)), (Ur q7 24 (C7 a2_0 a2_1 a2_2))]) rfl) fun _ => ?_
        refine nk hK12 ?_
        refine cr fun K13 hK13 => ?_
        refine sf rfl Try.underlying24 rfl info22 rfl ?_
        refine sl (i := 2) (o := 0) rfl (ar rfl rfl rfl rfl) rfl flat22 ?_
        refine sm rfl ?_
        refine s0 (rd_conv' rfl (ru_i2f (by rw [Try.underlying3]; rfl) Try.underlying22)) ?_
        refine sf rfl Try.underlying24 rfl info22 rfl ?_
        refine sl (i := 3) (o := 0) rfl (ar rfl rfl rfl rfl) rfl flat22 ?_
        obtain ⟨r81, hr81, hp⟩ := bind_some hp
        refine so (ox_fop' (.inr (.inr (.inl rfl))) (fl_v rfl) (fl_v rfl) (Option.some.inj hr81) rfl rfl) fun _ => ?_
        obtain ⟨r82, hr82, hp⟩ := bind_some hp
        refine so (ox_fop' (.inl rfl) (fl_v rfl) (fl_f rfl) (Option.some.inj hr82) rfl rfl) fun _ => ?_
        refine sg (off := 1) rfl Try.underlying24 rfl info22 rfl ?_
        refine sl (i := 2) (o := 1) rfl (ar rfl rfl rfl rfl) rfl flat22 ?_
        refine sm rfl ?_
        refine s0 (rd_conv' rfl (ru_i2f (by rw [Try.underlying3]; rfl) Try.underlying22)) ?_
        refine sg (off := 1) rfl Try.underlying24 rfl info22 rfl ?_
        refine sl (i := 3) (o := 1) rfl (ar rfl rfl rfl rfl) rfl flat22 ?_
        obtain ⟨r89, hr89, hp⟩ := bind_some hp
        refine so (ox_fop' (.inr (.inr (.inl rfl))) (fl_v rfl) (fl_v rfl) (Option.some.inj hr89) rfl rfl) fun _ => ?_
        obtain ⟨r90, hr90, hp⟩ := bind_some hp
        refine so (ox_fop' (.inl rfl) (fl_v rfl) (fl_f rfl) (Option.some.inj hr90) rfl rfl) fun _ => ?_
        refine sg (off := 2) rfl Try.underlying24 rfl info22 rfl ?_
        refine sl (i := 2) (o := 2) rfl (ar rfl rfl rfl rfl) rfl flat22 ?_
        refine sm rfl ?_
        refine s0 (rd_conv' rfl (ru_i2f (by rw [Try.underlying3]; rfl) Try.underlying22)) ?_
        refine sg (off := 2) rfl Try.underlying24 rfl info22 rfl ?_
        refine sl (i := 3) (o := 2) rfl (ar rfl rfl rfl rfl) rfl flat22 ?_
        obtain ⟨r97, hr97, hp⟩ := bind_some hp
        refine so (ox_fop' (.inr (.inr (.inl rfl))) (fl_v rfl) (fl_v rfl) (Option.some.inj hr97) rfl rfl) fun _ => ?_
        obtain ⟨r98, hr98, hp⟩ := bind_some hp
        refine so (ox_fop' (.inl rfl) (fl_v rfl) (fl_f rfl) (Option.some.inj hr98) rfl rfl) fun _ => ?_
        refine sv (pls := [(0, 1), (1, 1), (2, 1)]) (qs := [(0, [(Fl r82)]), (1, [(Fl r90)]), (2, [(Fl r98)])]) (r := [(Fl r82), (Fl r90), (Fl r98)]) ⟨rfl, ⟨_, rfl, (lv_fl _)⟩, ⟨rfl, ⟨_, rfl, (lv_fl _)⟩, ⟨rfl, ⟨_, rfl, (lv_fl _)⟩, trivial⟩⟩⟩ Try.underlying24 has24 places24 info24 rfl rfl rfl ?_
        refine so (ox_alloc' info24 rfl rfl rfl rfl (l := (C7 0 0 0)) rfl) fun q12 => ?_
        refine so (ox_store' (i := 0) (o := 0) rfl rfl (lv_ag _) (ar rfl rfl rfl rfl) rfl info24 rfl (H' := [(Ur q12 24 [(Fl r82), (Fl r90), (Fl r98)]), (Ur q11 24 [(Fl r57), (Fl r65), (Fl r73)]), (Ur q5 24 (C7 a0_0 a0_1 a0_2)), (Ur q6 24 (C7 a1_0 a1_1 a1_2)), (Ur q7 24 (C7 a2_0 a2_1 a2_2))]) rfl) fun _ => ?_
        refine nk hK13 ?_
        refine cx_seq' fun K14 hK14 => ?_
        refine cr fun K15 hK15 => ?_
        refine s0 (rd_load_agg' (i := 1) (o := 0) (nn := 3) rfl (ar rfl rfl rfl rfl) rfl agg24 (l' := [(Fl r57), (Fl r65), (Fl r73)]) rfl) ?_
        refine s0 (rd_load_agg' (i := 0) (o := 0) (nn := 3) rfl (ar rfl rfl rfl rfl) rfl agg24 (l' := [(Fl r82), (Fl r90), (Fl r98)]) rfl) ?_
        obtain ⟨u1, hu1, hp⟩ := bind_some hp
        obtain ⟨u2, hu2, hp⟩ := bind_some hp
        obtain ⟨u3, hu3, hp⟩ := bind_some hp
        refine tx_slot' 100 (y := (Ag (C7 r57 r65 r73))) rfl (imp_ag ⟨(imp_num (num_some hu1).2), (imp_num (num_some hu2).2), (imp_num (num_some hu3).2), trivial⟩) ?_
        obtain ⟨u4, hu4, hp⟩ := bind_some hp
        obtain ⟨u5, hu5, hp⟩ := bind_some hp
        obtain ⟨u6, hu6, hp⟩ := bind_some hp
        refine tx_slot' 101 (y := (Ag (C7 r82 r90 r98))) rfl (imp_ag ⟨(imp_num (num_some hu4).2), (imp_num (num_some hu5).2), (imp_num (num_some hu6).2), trivial⟩) ?_
        refine so (ox_rowlit' (K := KT24) (xs := [(r57, r65, r73), (r82, r90, r98)]) (qs := [(0, (C7 r57 r65 r73)), (1, (C7 r82 r90 r98))]) ⟨rfl, ⟨_, rfl, (lv_ag _)⟩, ⟨rfl, ⟨_, rfl, (lv_ag _)⟩, trivial⟩⟩ Try.underlying52 info24 rfl rfl rfl rfl rfl (by kernel_rfl) rfl rfl rfl) fun g102 => ?_
        obtain ⟨r103, hr103, hp⟩ := bind_some hp
        refine so (ox_brw' (frz_row 0 [(102, (Vw g102), (Sl KT24 ([(r57, r65, r73), (r82, r90, r98)])))] (K := KT24) (xs := [(r57, r65, r73), (r82, r90, r98)]) (by decide) rfl ⟨⟨rfl, frz_it⟩, trivial⟩ (H' := [(Ur q12 24 [(Fl r82), (Fl r90), (Fl r98)]), (Ur q11 24 [(Fl r57), (Fl r65), (Fl r73)]), (Ur q5 24 (C7 a0_0 a0_1 a0_2)), (Ur q6 24 (C7 a1_0 a1_1 a1_2)), (Ur q7 24 (C7 a2_0 a2_1 a2_2))]) frzH_refl) (ent_fn' Try.func5 isn5 rfl rfl) (laws_spaceTo_sim _ _ hr103 : Sx.Fn Try.prog 5 [(Vg 4643211215818981376), (Sl KT24 ([(r57, r65, r73), (r82, r90, r98)]))] [] (fun x : Unit => (Vb r103)) (fun x => [])) pu_vl rfl rfl) fun ⟨⟩ => ?_
        refine s0 (rd_un' rfl ru_not) ?_
        refine nk hK15 ?_
        refine cx_cond' rfl (fun h9 => ?_) (fun h9 => ?_)
        ·replace hp := (br_t h9).symm.trans hp
         refine cr fun K16 hK16 => ?_
         refine sa rfl ?_
         refine nk hK16 ?_
         refine cx_retc' ?_
         replace hp := sj hp
         subst hp
         refine tk (L' := [(10, (Vb true))]) (H' := []) [] (uc rfl un) pn ?_
         exact tx_ret1' Try.results3 rfl () (rv_tmp' rfl) lr
        replace hp := (br_f h9).symm.trans hp
        refine cx_skip' ?_
        show TX E K14 _
        refine tx_k' hK14 ?_
        refine cr fun K17 hK17 => ?_
        refine s0 (rd_load_agg' (i := 3) (o := 0) (nn := 3) rfl (ar rfl rfl rfl rfl) rfl agg24 (l' := (C7 a0_0 a0_1 a0_2)) rfl) ?_
        refine s0 (rd_load_agg' (i := 2) (o := 0) (nn := 3) rfl (ar rfl rfl rfl rfl) rfl agg24 (l' := [(Fl r57), (Fl r65), (Fl r73)]) rfl) ?_
        refine s0 (rd_load_agg' (i := 4) (o := 0) (nn := 3) rfl (ar rfl rfl rfl rfl) rfl agg24 (l' := (C7 a1_0 a1_1 a1_2)) rfl) ?_
        refine s0 (rd_load_agg' (i := 1) (o := 0) (nn := 3) rfl (ar rfl rfl rfl rfl) rfl agg24 (l' := [(Fl r82), (Fl r90), (Fl r98)]) rfl) ?_
        obtain ⟨u7, hu7, hp⟩ := bind_some hp
        obtain ⟨u8, hu8, hp⟩ := bind_some hp
        obtain ⟨u9, hu9, hp⟩ := bind_some hp
        refine tx_slot' 107 (y := (Ag (C7 r57 r65 r73))) rfl (imp_ag ⟨(imp_num (num_some hu7).2), (imp_num (num_some hu8).2), (imp_num (num_some hu9).2), trivial⟩) ?_
        obtain ⟨u10, hu10, hp⟩ := bind_some hp
        obtain ⟨u11, hu11, hp⟩ := bind_some hp
        obtain ⟨u12, hu12, hp⟩ := bind_some hp
        refine tx_slot' 109 (y := (Ag (C7 r82 r90 r98))) rfl (imp_ag ⟨(imp_num (num_some hu10).2), (imp_num (num_some hu11).2), (imp_num (num_some hu12).2), trivial⟩) ?_
        obtain ⟨r110, hr110, hp⟩ := bind_some hp
        refine so (oz (ent_fn' Try.func6 isn6 rfl rfl) (impl_LineLine3_sim _ _ _ _ _ _ _ _ _ _ _ _ hr110)) fun ⟨⟩ => ?_
        refine sm rfl ?_
        iterate 2 refine se rfl rfl ?_
        iterate 2 refine sa rfl ?_
        refine nk hK17 ?_
        refine cx_seq' fun K18 hK18 => ?_
        refine cx_plan' [] [] [(0, 1), (1, 1), (2, 1), (3, 1), (5, 1), (7, 1), (9, 1), (4, 0), (6, 0), (8, 0), (10, 0), (11, 0), (12, 0), (13, 0), (14, 1), (15, 1)] mixed (by kernel_rfl) ?_
        iterate 2 refine pd rfl (rd_move' rfl) ?_
        refine px_cutn' 13 (fun (v8 : Bool) => (⟨128, [], [(127, (Vb v8))], []⟩ : St)) (fun (v8 : Bool) => laws_FnSpaceParallel_j8 k v8 = some out) ?_ ?_
        ·rintro x8 hp
         replace hp : laws_FnSpaceParallel_j8 k x8 = some out := hp
         unfold laws_FnSpaceParallel_j8 at hp
         refine pd rfl (rd_assign' rfl) ?_
         refine px_nil' ?_
         show TX E K18 _
         refine tx_k' hK18 ?_
         refine cx_retc' ?_
         replace hp := sj hp
         subst hp
         refine tk (L' := [(10, (Vb x8))]) (H' := []) [] (uc rfl un) pn ?_
         exact tx_ret1' Try.results3 rfl () (rv_tmp' rfl) lr
        intro K19 hK19
        rcases br_cases hp with ⟨h10, hp⟩ | ⟨h10, hp⟩
        ·refine px_rd' rfl (rd_move' rfl) rfl rfl (wt_is' (wt_guard' rfl rfl rfl) (beq_tt h10)) ?_
         refine px_rd' rfl (rd_load_agg' (i := 3) (o := 0) (nn := 3) rfl (ar rfl rfl rfl rfl) rfl agg24 (l' := (C7 a0_0 a0_1 a0_2)) rfl) rfl rfl (wt_is' (wt_guard' rfl rfl rfl) (beq_tt h10)) ?_
         refine px_rd' rfl (rd_load_agg' (i := 2) (o := 0) (nn := 3) rfl (ar rfl rfl rfl rfl) rfl agg24 (l' := [(Fl r57), (Fl r65), (Fl r73)]) rfl) rfl rfl (wt_is' (wt_guard' rfl rfl rfl) (beq_tt h10)) ?_
         refine px_rd' rfl (rd_load_agg' (i := 4) (o := 0) (nn := 3) rfl (ar rfl rfl rfl rfl) rfl agg24 (l' := (C7 a1_0 a1_1 a1_2)) rfl) rfl rfl (wt_is' (wt_guard' rfl rfl rfl) (beq_tt h10)) ?_
         refine px_rd' rfl (rd_load_agg' (i := 1) (o := 0) (nn := 3) rfl (ar rfl rfl rfl rfl) rfl agg24 (l' := [(Fl r82), (Fl r90), (Fl r98)]) rfl) rfl rfl (wt_is' (wt_guard' rfl rfl rfl) (beq_tt h10)) ?_
         obtain ⟨r117, hr117, hp⟩ := bind_some hp
         refine px_ox' rfl (oz (ent_fn' Try.func10 isn10 rfl rfl) (laws_exactly3_sim _ _ _ hr117)) rfl bs_nil (wt_is' (wt_guard' rfl rfl rfl) (beq_tt h10)) fun ⟨⟩ => ?_
         obtain ⟨u13, hu13, hp⟩ := bind_some hp
         obtain ⟨u14, hu14, hp⟩ := bind_some hp
         obtain ⟨u15, hu15, hp⟩ := bind_some hp
         refine tx_slot' 118 (y := (Ag (C7 r57 r65 r73))) rfl (imp_ag ⟨(imp_num (num_some hu13).2), (imp_num (num_some hu14).2), (imp_num (num_some hu15).2), trivial⟩) ?_
         obtain ⟨r119, hr119, hp⟩ := bind_some hp
         refine px_ox' rfl (oz (ent_fn' Try.func10 isn10 rfl rfl) (laws_exactly3_sim _ _ _ hr119)) rfl bs_nil (wt_is' (wt_guard' rfl rfl rfl) (beq_tt h10)) fun ⟨⟩ => ?_
         obtain ⟨r121, hr121, hp⟩ := bind_some hp
         refine px_ox' rfl (oz (ent_fn' Try.func10 isn10 rfl rfl) (laws_exactly3_sim _ _ _ hr121)) rfl bs_nil (wt_is' (wt_guard' rfl rfl rfl) (beq_tt h10)) fun ⟨⟩ => ?_
         obtain ⟨u16, hu16, hp⟩ := bind_some hp
         obtain ⟨u17, hu17, hp⟩ := bind_some hp
         obtain ⟨u18, hu18, hp⟩ := bind_some hp
         refine tx_slot' 122 (y := (Ag (C7 r82 r90 r98))) rfl (imp_ag ⟨(imp_num (num_some hu16).2), (imp_num (num_some hu17).2), (imp_num (num_some hu18).2), trivial⟩) ?_
         obtain ⟨r123, hr123, hp⟩ := bind_some hp
         refine px_ox' rfl (oz (ent_fn' Try.func10 isn10 rfl rfl) (laws_exactly3_sim _ _ _ hr123)) rfl bs_nil (wt_is' (wt_guard' rfl rfl rfl) (beq_tt h10)) fun ⟨⟩ => ?_
         obtain ⟨r124, hr124, hp⟩ := bind_some hp
         refine px_ox' rfl (oz (ent_fn' Try.func9 isn9 rfl rfl) (spec_SquareBetween3_sim _ _ _ _ _ _ _ _ _ _ _ _ _ _ _ _ _ _ _ _ _ _ _ _ _ _ _ _ _ _ _ _ _ _ _ _ hr124)) rfl bs_nil (wt_is' (wt_guard' rfl rfl rfl) (beq_tt h10)) fun ⟨⟩ => ?_
         obtain ⟨r125, hr125, hp⟩ := bind_some hp
         refine px_ox' rfl (oz (ent_fn' Try.func8 isn8 rfl rfl) (laws_rootOf_sim _ _ _ _ _ _ hr125)) rfl bs_nil (wt_is' (wt_guard' rfl rfl rfl) (beq_tt h10)) fun ⟨⟩ => ?_
         obtain ⟨u19, hu19, hp⟩ := bind_some hp
         refine tx_slot' 115 (y := (Vg r110.1)) rfl (imp_num (num_some hu19).2) ?_
         obtain ⟨u20, hu20, hp⟩ := bind_some hp
         refine tx_slot' 125 (y := (Vg r125)) rfl (imp_num (num_some hu20).2) ?_
         obtain ⟨r126, hr126, hp⟩ := bind_some hp
         refine px_ox' rfl (oz (ent_fn' Try.func7 isn7 rfl rfl) (laws_nearTo_sim _ _ hr126)) rfl bs_nil (wt_is' (wt_guard' rfl rfl rfl) (beq_tt h10)) fun ⟨⟩ => ?_
         refine pd rfl (rd_pick_true' rfl h10 rfl) ?_
         refine px_nil' ?_
         show TX E K19 _
         exact tk [] (uc rfl un) pn (hK19 r126 hp)
        iterate 5 refine px_skip' rfl rfl rfl (wt_is' (wt_guard' rfl rfl rfl) (beq_ft h10)) ?_
        iterate 7 refine px_oskip' rfl rfl rfl (wt_is' (wt_guard' rfl rfl rfl) (beq_ft h10)) ?_
        refine pd rfl (rd_pick_false' rfl h10 rfl) ?_
        refine px_nil' ?_
        show TX E K19 _
        exact tk [] (uc rfl un) pn (hK19 false hp)
       intro K10 hK10
       rcases br_cases hp with ⟨h7, hp⟩ | ⟨h7, hp⟩
       ·refine sx_skip' rfl rfl (wt_is' (wt_guard' rfl rfl rfl) (beq_tf h7)) ?_
        refine sx_skip' rfl rfl (wt_is' (wt_guard' rfl rfl rfl) (beq_tf h7)) ?_
        refine s0 (rd_pick_true' rfl h7 rfl) ?_
        refine sx_nil' ?_
        show TX E K10 _
        exact tk [0,1,2] (u6 rfl rfl rfl rfl rfl rfl) (p3 rfl rfl rfl) (hK10 true hp)
       refine sx_rd' (rd_move' rfl) rfl rfl (wt_is' (wt_guard' rfl rfl rfl) (beq_ff h7)) ?_
       refine sx_rd' (rd_bin' rfl rfl eg_int ru_gtr) rfl rfl (wt_is' (wt_guard' rfl rfl rfl) (beq_ff h7)) ?_
       refine s0 (rd_pick_false' rfl h7 rfl) ?_
       refine sx_nil' ?_
       show TX E K10 _
       exact tk [0,1,2] (u6 rfl rfl rfl rfl rfl rfl) (p3 rfl rfl rfl) (hK10 (decide (100 < a4)) hp)
      intro K9 hK9
      rcases br_cases hp with ⟨h6, hp⟩ | ⟨h6, hp⟩
      ·refine sx_skip' rfl rfl (wt_is' (wt_guard' rfl rfl rfl) (beq_tf h6)) ?_
       refine sx_skip' rfl rfl (wt_is' (wt_guard' rfl rfl rfl) (beq_tf h6)) ?_
       refine s0 (rd_pick_true' rfl h6 rfl) ?_
       refine sx_nil' ?_
       show TX E K9 _
       exact tk [0,1,2] (u6 rfl rfl rfl rfl rfl rfl) (p3 rfl rfl rfl) (hK9 true hp)
      refine sx_rd' (rd_move' rfl) rfl rfl (wt_is' (wt_guard' rfl rfl rfl) (beq_ff h6)) ?_
      refine sx_rd' (rd_bin' rfl rfl eg_int ru_lss) rfl rfl (wt_is' (wt_guard' rfl rfl rfl) (beq_ff h6)) ?_
      refine s0 (rd_pick_false' rfl h6 rfl) ?_
      refine sx_nil' ?_
      show TX E K9 _
      exact tk [0,1,2] (u6 rfl rfl rfl rfl rfl rfl) (p3 rfl rfl rfl) (hK9 (decide (a4 < (-100))) hp)
     intro K8 hK8
     rcases br_cases hp with ⟨h5, hp⟩ | ⟨h5, hp⟩
     ·refine sx_skip' rfl rfl (wt_is' (wt_guard' rfl rfl rfl) (beq_tf h5)) ?_
      refine sx_skip' rfl rfl (wt_is' (wt_guard' rfl rfl rfl) (beq_tf h5)) ?_
      refine s0 (rd_pick_true' rfl h5 rfl) ?_
      refine sx_nil' ?_
      show TX E K8 _
      exact tk [0,1,2] (u6 rfl rfl rfl rfl rfl rfl) (p3 rfl rfl rfl) (hK8 true hp)
     refine sx_rd' (rd_move' rfl) rfl rfl (wt_is' (wt_guard' rfl rfl rfl) (beq_ff h5)) ?_
     refine sx_rd' (rd_bin' rfl rfl eg_int ru_gtr) rfl rfl (wt_is' (wt_guard' rfl rfl rfl) (beq_ff h5)) ?_
     refine s0 (rd_pick_false' rfl h5 rfl) ?_
     refine sx_nil' ?_
     show TX E K8 _
     exact tk [0,1,2] (u6 rfl rfl rfl rfl rfl rfl) (p3 rfl rfl rfl) (hK8 (decide (100 < a3)) hp)
    intro K7 hK7
    rcases br_cases hp with ⟨h4, hp⟩ | ⟨h4, hp⟩
    ·refine sx_skip' rfl rfl (wt_is' (wt_guard' rfl rfl rfl) (beq_tf h4)) ?_
     refine sx_skip' rfl rfl (wt_is' (wt_guard' rfl rfl rfl) (beq_tf h4)) ?_
     refine s0 (rd_pick_true' rfl h4 rfl) ?_
     refine sx_nil' ?_
     show TX E K7 _
     exact tk [0,1,2] (u6 rfl rfl rfl rfl rfl rfl) (p3 rfl rfl rfl) (hK7 true hp)
    refine sx_rd' (rd_move' rfl) rfl rfl (wt_is' (wt_guard' rfl rfl rfl) (beq_ff h4)) ?_
    refine sx_rd' (rd_bin' rfl rfl eg_int ru_lss) rfl rfl (wt_is' (wt_guard' rfl rfl rfl) (beq_ff h4)) ?_
    refine s0 (rd_pick_false' rfl h4 rfl) ?_
    refine sx_nil' ?_
    show TX E K7 _
    exact tk [0,1,2] (u6 rfl rfl rfl rfl rfl rfl) (p3 rfl rfl rfl) (hK7 (decide (a3 < (-100))) hp)
   intro K6 hK6
   rcases br_cases hp with ⟨h3, hp⟩ | ⟨h3, hp⟩
   ·refine sx_skip' rfl rfl (wt_is' (wt_guard' rfl rfl rfl) (beq_tf h3)) ?_
    refine sx_skip' rfl rfl (wt_is' (wt_guard' rfl rfl rfl) (beq_tf h3)) ?_
    refine s0 (rd_pick_true' rfl h3 rfl) ?_
    refine sx_nil' ?_
    show TX E K6 _
    exact tk [0,1,2] (u6 rfl rfl rfl rfl rfl rfl) (p3 rfl rfl rfl) (hK6 true hp)
   refine sx_rd' (rd_move' rfl) rfl rfl (wt_is' (wt_guard' rfl rfl rfl) (beq_ff h3)) ?_
   refine sx_rd' (rd_bin' rfl rfl eg_int ru_eql) rfl rfl (wt_is' (wt_guard' rfl rfl rfl) (beq_ff h3)) ?_
   refine s0 (rd_pick_false' rfl h3 rfl) ?_
   refine sx_nil' ?_
   show TX E K6 _
   exact tk [0,1,2] (u6 rfl rfl rfl rfl rfl rfl) (p3 rfl rfl rfl) (hK6 (decide (a4 = 0)) hp)
  intro K5 hK5
  rcases br_cases hp with ⟨h2, hp⟩ | ⟨h2, hp⟩
  ·refine sx_skip' rfl rfl (wt_is' (wt_guard' rfl rfl rfl) (beq_tf h2)) ?_
   refine sx_skip' rfl rfl (wt_is' (wt_guard' rfl rfl rfl) (beq_tf h2)) ?_
   refine s0 (rd_pick_true' rfl h2 rfl) ?_
   refine sx_nil' ?_
   show TX E K5 _
   exact tk [0,1,2] (u6 rfl rfl rfl rfl rfl rfl) (p3 rfl rfl rfl) (hK5 true hp)
  refine sx_rd' (rd_move' rfl) rfl rfl (wt_is' (wt_guard' rfl rfl rfl) (beq_ff h2)) ?_
  refine sx_rd' (rd_bin' rfl rfl eg_int ru_eql) rfl rfl (wt_is' (wt_guard' rfl rfl rfl) (beq_ff h2)) ?_
  refine s0 (rd_pick_false' rfl h2 rfl) ?_
  refine sx_nil' ?_
  show TX E K5 _
  exact tk [0,1,2] (u6 rfl rfl rfl rfl rfl rfl) (p3 rfl rfl rfl) (hK5 (decide (a3 = 0)) hp)
 intro K4 hK4
 rcases br_cases hp with ⟨h1, hp⟩ | ⟨h1, hp⟩
 ·refine sx_skip' rfl rfl (wt_is' (wt_guard' rfl rfl rfl) (beq_tf h1)) ?_
  iterate 2 refine sx_skip' rfl rfl (wt_is' (wt_guard' rfl rfl rfl) (beq_tf h1)) ?_
  refine s0 (rd_pick_true' rfl h1 rfl) ?_
  refine sx_nil' ?_
  show TX E K4 _
  exact tk [3,2,1] (u6 rfl rfl rfl rfl rfl rfl) (p3 rfl rfl rfl) (hK4 true hp)
 refine sx_rd' (rd_load_agg' (i := 1) (o := 0) (nn := 3) rfl (ar rfl rfl rfl rfl) rfl agg24 (l' := (C7 a2_0 a2_1 a2_2)) rfl) rfl rfl (wt_is' (wt_guard' rfl rfl rfl) (beq_ff h1)) ?_
 refine sx_rd' (rd_build' (pls := [(0, 1), (1, 1), (2, 1)]) (qs := []) (r := (C7 0 0 0)) trivial Try.underlying24 has24 places24 info24 rfl rfl rfl) rfl rfl (wt_is' (wt_guard' rfl rfl rfl) (beq_ff h1)) ?_
 refine sx_rd' (rd_eq_ag' (us := [.float .f64 a2_0, .float .f64 a2_1, .float .f64 a2_2]) (vs := [.float .f64 0, .float .f64 0, .float .f64 0]) rfl rfl eqg24 (eqt_struct Try.underlying24 held24 (eqf_cons (by rfl) (part_flat flat22 rfl) (part_flat flat22 rfl) (eqt_flt Try.underlying22) (eqf_cons (by rfl) (part_flat flat22 rfl) (part_flat flat22 rfl) (eqt_flt Try.underlying22) (eqf_cons (by rfl) (part_flat flat22 rfl) (part_flat flat22 rfl) (eqt_flt Try.underlying22) eqf_nil))))) rfl rfl (wt_is' (wt_guard' rfl rfl rfl) (beq_ff h1)) ?_
 refine s0 (rd_pick_false' rfl h1 rfl) ?_
 refine sx_nil' ?_
 show TX E K4 _
 exact tk [3,2,1] (u6 rfl rfl rfl rfl rfl rfl) (p3 rfl rfl rfl) (hK4 ((feq a2_0 0) && ((feq a2_1 0) && ((feq a2_2 0) && true))) hp)

end Go.Proofs.Ytmkhoplffiakmaa
