/-
  Plain functions for the Go functions that this law reaches, and that each call does what its plain function says. Printed by a program of ours.
-/
import Derived.Test.YtnemkhcjmenfnaaProg
import Derived.Test.YtnemkhcjmenfnaaSxZ
namespace Go.Proofs.Ytnemkhcjmenfnaa
open Go.Sx
set_option linter.unusedVariables false
set_option maxRecDepth 100000

theorem isn38 : (Try.f38.name == "runtime.NumGoroutine") = false := by kernel_rfl
theorem ext85 : ∀ {args : Array Value} {v : Value}, Runs Try.prog ((Extern.MathFloatBits.float64bits) args) v → Runs Try.prog (callFunc 85 args) (.value v) := fun hr => ru_ext Try.func85 (by kernel_rfl) (by kernel_rfl) (by kernel_rfl) (by kernel_rfl) hr
theorem ext84 : ∀ {args : Array Value} {v : Value}, Runs Try.prog ((Extern.MathFloatBits.float64frombits) args) v → Runs Try.prog (callFunc 84 args) (.value v) := fun hr => ru_ext Try.func84 (by kernel_rfl) (by kernel_rfl) (by kernel_rfl) (by kernel_rfl) hr
theorem isn54 : (Try.f54.name == "runtime.NumGoroutine") = false := by kernel_rfl
theorem isn102 : (Try.f102.name == "runtime.NumGoroutine") = false := by kernel_rfl
theorem isn55 : (Try.f55.name == "runtime.NumGoroutine") = false := by kernel_rfl
theorem isn103 : (Try.f103.name == "runtime.NumGoroutine") = false := by kernel_rfl
theorem isn139 : (Try.f139.name == "runtime.NumGoroutine") = false := by kernel_rfl
theorem isn147 : (Try.f147.name == "runtime.NumGoroutine") = false := by kernel_rfl
theorem isn154 : (Try.f154.name == "runtime.NumGoroutine") = false := by kernel_rfl
theorem isn165 : (Try.f165.name == "runtime.NumGoroutine") = false := by kernel_rfl
theorem isn166 : (Try.f166.name == "runtime.NumGoroutine") = false := by kernel_rfl
theorem isn171 : (Try.f171.name == "runtime.NumGoroutine") = false := by kernel_rfl
theorem isn174 : (Try.f174.name == "runtime.NumGoroutine") = false := by kernel_rfl
theorem isn177 : (Try.f177.name == "runtime.NumGoroutine") = false := by kernel_rfl
theorem isn155 : (Try.f155.name == "runtime.NumGoroutine") = false := by kernel_rfl
theorem isn77 : (Try.f77.name == "runtime.NumGoroutine") = false := by kernel_rfl
theorem isn126 : (Try.f126.name == "runtime.NumGoroutine") = false := by kernel_rfl
theorem isn156 : (Try.f156.name == "runtime.NumGoroutine") = false := by kernel_rfl
theorem isn157 : (Try.f157.name == "runtime.NumGoroutine") = false := by kernel_rfl


def math_Abs (k : Nat) (a0 : Nat) : Option (Nat) :=
  some (ffrom (iandn .u64 (fbits a0) 9223372036854775808))

theorem math_Abs_sim {k : Nat}  (a0 : Nat) {out : Nat} (hp : math_Abs k a0 = some out) : Go.Sx.Fn Try.prog 38 [(Vl (.float .f64 a0))] [] (fun w : Unit => (Vl (.float .f64 out))) (fun w => []) := by
  unfold math_Abs at hp
  refine fn_of Try.func38 rfl Try.ntmps38 rfl fun E hM => ?_
  refine cx_seq' fun K1 hK1 => ?_
  refine cx_region' ?_
  refine sx_rd' (rd_assign' rfl) rfl rfl (wt_none' rfl) ?_
  refine sx_nil' ?_
  show TX E K1 _
  refine tx_k' hK1 ?_
  refine cx_seq' fun K2 hK2 => ?_
  refine cx_region' ?_
  refine sx_rd' (rd_move' rfl) rfl rfl (wt_none' rfl) ?_
  refine sx_rd' (rd_ext' (us := [.float .f64 a0]) rfl (ext85 ex_bits)) rfl rfl (wt_none' rfl) ?_
  refine sx_rd' (rd_bin' rfl rfl eg_int ru_andn) rfl rfl (wt_none' rfl) ?_
  refine sx_rd' (rd_ext' (us := [.int .u64 (iandn .u64 (fbits a0) 9223372036854775808)]) rfl (ext84 ex_from)) rfl rfl (wt_none' rfl) ?_
  refine sx_rd' (rd_assign' rfl) rfl rfl (wt_none' rfl) ?_
  refine sx_nil' ?_
  show TX E K2 _
  refine tx_k' hK2 ?_
  refine cx_retc' ?_
  replace hp := Option.some.inj hp
  subst hp
  refine tx_pick' (L' := [(2, (Vl (.float .f64 (ffrom (iandn .u64 (fbits a0) 9223372036854775808)))))]) (H' := []) [] (sub_cons rfl sub_nil) (by decide) pick_nil ?_
  exact tx_ret1' Try.results38 rfl () (rv_tmp' rfl) (List.Sublist.refl _)

def xy_NormalizePositive_j1 (k : Nat) (x5 : Nat) : Option (Nat) :=
  some x5
def xy_NormalizePositive_l1s  (k : Nat) (rec1 : Nat → Option (Nat)) (x1 : Nat) : Option (Nat) :=
  br (flt x1 0)
    ((some (gadd x1 4618760256179416344)) >>= fun r8 =>
    rec1 r8)
    (some x1)
def xy_NormalizePositive_l1  : Nat → Nat → Option (Nat)
  | 0, _ => none
  | k + 1, v => xy_NormalizePositive_l1s k (xy_NormalizePositive_l1 k) v
def xy_NormalizePositive_l2s  (k : Nat) (rec2 : Nat → Option (Nat)) (x3 : Nat) : Option (Nat) :=
  br (fge x3 4618760256179416344)
    ((some (gsub x3 4618760256179416344)) >>= fun r14 =>
    rec2 r14)
    (some x3)
def xy_NormalizePositive_l2  : Nat → Nat → Option (Nat)
  | 0, _ => none
  | k + 1, v => xy_NormalizePositive_l2s k (xy_NormalizePositive_l2 k) v
def xy_NormalizePositive (k : Nat) (a0 : Nat) : Option (Nat) :=
  br (flt a0 0)
    ((xy_NormalizePositive_l1 k a0) >>= fun v2 =>
    br (fge v2 4618760256179416344)
      (xy_NormalizePositive_j1 k 0)
      (xy_NormalizePositive_j1 k v2))
    ((xy_NormalizePositive_l2 k a0) >>= fun v4 =>
    br (flt v4 0)
      (xy_NormalizePositive_j1 k 0)
      (xy_NormalizePositive_j1 k v4))

theorem xy_NormalizePositive_sim {k : Nat}  (a0 : Nat) {out : Nat} (hp : xy_NormalizePositive k a0 = some out) : Go.Sx.Fn Try.prog 102 [(Vl (.float .f64 a0))] [] (fun w : Unit => (Fl out)) (fun w => []) := by
  unfold xy_NormalizePositive at hp
  refine fn_of Try.func102 rfl Try.ntmps102 rfl fun E hM => ?_
  refine cx_seq' fun K1 hK1 => ?_
  refine cx_region' ?_
  refine sx_rd' (rd_assign' rfl) rfl rfl (wt_none' rfl) ?_
  refine sx_nil' ?_
  show TX E K1 _
  refine tx_k' hK1 ?_
  refine cx_join' (fun (v5 : Nat) => (⟨18, [], [(0, (Fl v5))], []⟩ : St)) (fun (v5 : Nat) => xy_NormalizePositive_j1 k v5 = some out) ?_ ?_
  · rintro x5 hp
    replace hp : xy_NormalizePositive_j1 k x5 = some out := hp
    unfold xy_NormalizePositive_j1 at hp
    refine cx_seq' fun K16 hK16 => ?_
    refine cx_region' ?_
    refine sx_rd' (rd_move' rfl) rfl rfl (wt_none' rfl) ?_
    refine sx_rd' (rd_assign' rfl) rfl rfl (wt_none' rfl) ?_
    refine sx_nil' ?_
    show TX E K16 _
    refine tx_k' hK16 ?_
    refine cx_retc' ?_
    replace hp := Option.some.inj hp
    subst hp
    refine tx_pick' (L' := [(2, (Fl x5))]) (H' := []) [] (sub_cons rfl sub_nil) (by decide) pick_nil ?_
    exact tx_ret1' Try.results102 rfl () (rv_tmp' rfl) (List.Sublist.refl _)
  · intro K2 hK2
    refine cx_seq' fun K3 hK3 => ?_
    refine cx_region' ?_
    refine sx_rd' (rd_move' rfl) rfl rfl (wt_none' rfl) ?_
    refine sx_rd' (rd_bin' rfl rfl eg_flt ru_flt) rfl rfl (wt_none' rfl) ?_
    refine sx_nil' ?_
    show TX E K3 _
    refine tx_k' hK3 ?_
    refine cx_cond' rfl (fun h1 => ?_) (fun h1 => ?_)
    · replace hp := (br_t h1).symm.trans hp
      refine cx_seq' fun K4 hK4 => ?_
      refine cx_block' ?_
      obtain ⟨v2, hy1, hp⟩ := bind_some hp
      refine tx_slot' 0 (y := (Fl a0)) rfl imp_vf ?_
      refine cx_loopg' (F := xy_NormalizePositive_l1) (G := fun k R v => xy_NormalizePositive_l1s k R v) (x := a0) (gh := ()) (fun (v1 : Nat) (w1 : Unit) => (⟨18, [], [(0, (Fl v1))], []⟩ : St)) (fun (v2 : Nat) => Zg E (Exit.exit 0) (fun (w2 : Unit) => (⟨18, [], [(0, (Fl v2))], []⟩ : St))) (fun _ => rfl) (fun _ _ => rfl) ?_ hy1 (tx_to' rfl [] (sub_cons rfl sub_nil) (by decide) pick_nil) ?_
      · clear hp hy1
        clear v2
        intro k rec1 KY1 ih1
        rintro x1 ⟨⟩ y1 hp
        replace hp : xy_NormalizePositive_l1s k rec1 x1 = some y1 := hp
        unfold xy_NormalizePositive_l1s at hp
        refine cx_seq' fun K7 hK7 => ?_
        refine cx_seq' fun K8 hK8 => ?_
        refine cx_region' ?_
        refine sx_rd' (rd_move' rfl) rfl rfl (wt_none' rfl) ?_
        refine sx_rd' (rd_fcmp' (fl_f rfl) (fl_v rfl) rfl) rfl rfl (wt_none' rfl) ?_
        refine sx_nil' ?_
        show TX E K8 _
        refine tx_k' hK8 ?_
        refine cx_cond' rfl (fun h3 => ?_) (fun h3 => ?_)
        · replace hp := (br_t h3).symm.trans hp
          refine cx_skip' ?_
          show TX E K7 _
          refine tx_k' hK7 ?_
          refine cx_block' ?_
          refine cx_region' ?_
          refine sx_rd' (rd_move' rfl) rfl rfl (wt_none' rfl) ?_
          obtain ⟨r8, hr8, hp⟩ := bind_some hp
          refine sx_ox' (ox_fop' (.inl rfl) (fl_f rfl) (fl_v rfl) (Option.some.inj hr8) rfl rfl) (wt_none' rfl) fun _ => ?_
          refine sx_rd' (rd_assign' rfl) rfl rfl (wt_none' rfl) ?_
          refine sx_nil' ?_
          show TX E (KY1 _) _
          exact tx_pick' [] (sub_cons rfl sub_nil) (by decide) pick_nil (ih1 r8 () _ hp)
        · replace hp := (br_f h3).symm.trans hp
          refine cx_exit' ?_
          replace hp := Option.some.inj hp
          subst hp
          show TX E (Zg E (Exit.exit 0) _ (Exit.exit 0)) _
          exact tx_zend' () rfl [] (sub_cons rfl sub_nil) (by decide) pick_nil
      · refine zg_out fun w2 => ?_
        show TX E K4 _
        refine tx_k' hK4 ?_
        refine cx_seq' fun K9 hK9 => ?_
        refine cx_region' ?_
        refine sx_rd' (rd_move' rfl) rfl rfl (wt_none' rfl) ?_
        refine sx_rd' (rd_fcmp' (fl_f rfl) (fl_v rfl) rfl) rfl rfl (wt_none' rfl) ?_
        refine sx_nil' ?_
        show TX E K9 _
        refine tx_k' hK9 ?_
        refine cx_cond' rfl (fun h4 => ?_) (fun h4 => ?_)
        · replace hp := (br_t h4).symm.trans hp
          refine cx_region' ?_
          refine sx_rd' (rd_assign' rfl) rfl rfl (wt_none' rfl) ?_
          refine sx_nil' ?_
          show TX E K2 _
          refine tx_slot' 0 (y := (Fl 0)) rfl imp_vf ?_
          exact tx_pick' [] (sub_cons rfl sub_nil) (by decide) pick_nil (hK2 0 hp)
        · replace hp := (br_f h4).symm.trans hp
          refine cx_skip' ?_
          show TX E K2 _
          exact tx_pick' [] (sub_cons rfl sub_nil) (by decide) pick_nil (hK2 v2 hp)
    · replace hp := (br_f h1).symm.trans hp
      refine cx_seq' fun K10 hK10 => ?_
      refine cx_block' ?_
      obtain ⟨v4, hy2, hp⟩ := bind_some hp
      refine tx_slot' 0 (y := (Fl a0)) rfl imp_vf ?_
      refine cx_loopg' (F := xy_NormalizePositive_l2) (G := fun k R v => xy_NormalizePositive_l2s k R v) (x := a0) (gh := ()) (fun (v3 : Nat) (w3 : Unit) => (⟨18, [], [(0, (Fl v3))], []⟩ : St)) (fun (v4 : Nat) => Zg E (Exit.exit 2) (fun (w4 : Unit) => (⟨18, [], [(0, (Fl v4))], []⟩ : St))) (fun _ => rfl) (fun _ _ => rfl) ?_ hy2 (tx_to' rfl [] (sub_cons rfl sub_nil) (by decide) pick_nil) ?_
      · clear hp hy2
        clear v4
        intro k rec2 KY2 ih2
        rintro x3 ⟨⟩ y2 hp
        replace hp : xy_NormalizePositive_l2s k rec2 x3 = some y2 := hp
        unfold xy_NormalizePositive_l2s at hp
        refine cx_seq' fun K13 hK13 => ?_
        refine cx_seq' fun K14 hK14 => ?_
        refine cx_region' ?_
        refine sx_rd' (rd_move' rfl) rfl rfl (wt_none' rfl) ?_
        refine sx_rd' (rd_fcmp' (fl_f rfl) (fl_v rfl) rfl) rfl rfl (wt_none' rfl) ?_
        refine sx_nil' ?_
        show TX E K14 _
        refine tx_k' hK14 ?_
        refine cx_cond' rfl (fun h7 => ?_) (fun h7 => ?_)
        · replace hp := (br_t h7).symm.trans hp
          refine cx_skip' ?_
          show TX E K13 _
          refine tx_k' hK13 ?_
          refine cx_block' ?_
          refine cx_region' ?_
          refine sx_rd' (rd_move' rfl) rfl rfl (wt_none' rfl) ?_
          obtain ⟨r14, hr14, hp⟩ := bind_some hp
          refine sx_ox' (ox_fop' (.inr (.inl rfl)) (fl_f rfl) (fl_v rfl) (Option.some.inj hr14) rfl rfl) (wt_none' rfl) fun _ => ?_
          refine sx_rd' (rd_assign' rfl) rfl rfl (wt_none' rfl) ?_
          refine sx_nil' ?_
          show TX E (KY2 _) _
          exact tx_pick' [] (sub_cons rfl sub_nil) (by decide) pick_nil (ih2 r14 () _ hp)
        · replace hp := (br_f h7).symm.trans hp
          refine cx_exit' ?_
          replace hp := Option.some.inj hp
          subst hp
          show TX E (Zg E (Exit.exit 2) _ (Exit.exit 2)) _
          exact tx_zend' () rfl [] (sub_cons rfl sub_nil) (by decide) pick_nil
      · refine zg_out fun w4 => ?_
        show TX E K10 _
        refine tx_k' hK10 ?_
        refine cx_seq' fun K15 hK15 => ?_
        refine cx_region' ?_
        refine sx_rd' (rd_move' rfl) rfl rfl (wt_none' rfl) ?_
        refine sx_rd' (rd_fcmp' (fl_f rfl) (fl_v rfl) rfl) rfl rfl (wt_none' rfl) ?_
        refine sx_nil' ?_
        show TX E K15 _
        refine tx_k' hK15 ?_
        refine cx_cond' rfl (fun h8 => ?_) (fun h8 => ?_)
        · replace hp := (br_t h8).symm.trans hp
          refine cx_region' ?_
          refine sx_rd' (rd_assign' rfl) rfl rfl (wt_none' rfl) ?_
          refine sx_nil' ?_
          show TX E K2 _
          refine tx_slot' 0 (y := (Fl 0)) rfl imp_vf ?_
          exact tx_pick' [] (sub_cons rfl sub_nil) (by decide) pick_nil (hK2 0 hp)
        · replace hp := (br_f h8).symm.trans hp
          refine cx_skip' ?_
          show TX E K2 _
          exact tx_pick' [] (sub_cons rfl sub_nil) (by decide) pick_nil (hK2 v4 hp)

def impl_NormalizePositive (k : Nat) (a0 : Nat) : Option (Nat) :=
  (xy_NormalizePositive k a0) >>= fun r4 =>
  some r4

theorem impl_NormalizePositive_sim {k : Nat}  (a0 : Nat) {out : Nat} (hp : impl_NormalizePositive k a0 = some out) : Go.Sx.Fn Try.prog 54 [(Vl (.float .f64 a0))] [] (fun w : Unit => (Fl out)) (fun w => []) := by
  unfold impl_NormalizePositive at hp
  refine fn_of Try.func54 rfl Try.ntmps54 rfl fun E hM => ?_
  refine cx_seq' fun K1 hK1 => ?_
  refine cx_region' ?_
  refine sx_rd' (rd_assign' rfl) rfl rfl (wt_none' rfl) ?_
  refine sx_nil' ?_
  show TX E K1 _
  refine tx_k' hK1 ?_
  refine cx_seq' fun K2 hK2 => ?_
  refine cx_region' ?_
  refine sx_rd' (rd_move' rfl) rfl rfl (wt_none' rfl) ?_
  obtain ⟨r4, hr4, hp⟩ := bind_some hp
  refine sx_ox' (ox_calln' (ent_fn' Try.func102 isn102 rfl rfl) (xy_NormalizePositive_sim _ hr4 : Go.Sx.Fn Try.prog 102 [(Vl (.float .f64 a0))] [] (fun x : Unit => (Fl r4)) (fun x => [])) (Hn := fun x : Unit => []) (fun _ => rfl) rfl rfl) (wt_none' rfl) fun ⟨⟩ => ?_
  refine sx_rd' (rd_assign' rfl) rfl rfl (wt_none' rfl) ?_
  refine sx_nil' ?_
  show TX E K2 _
  refine tx_k' hK2 ?_
  refine cx_retc' ?_
  replace hp := Option.some.inj hp
  subst hp
  refine tx_pick' (L' := [(2, (Fl r4))]) (H' := []) [] (sub_cons rfl sub_nil) (by decide) pick_nil ?_
  exact tx_ret1' Try.results54 rfl () (rv_tmp' rfl) (List.Sublist.refl _)

def math_IsNaN (k : Nat) (a0 : Nat) : Option (Bool) :=
  some (fne a0 a0)

theorem math_IsNaN_sim {k : Nat}  (a0 : Nat) {out : Bool} (hp : math_IsNaN k a0 = some out) : Go.Sx.Fn Try.prog 147 [(Vl (.float .f64 a0))] [] (fun w : Unit => (Vl (.bool out))) (fun w => []) := by
  unfold math_IsNaN at hp
  refine fn_of Try.func147 rfl Try.ntmps147 rfl fun E hM => ?_
  refine cx_seq' fun K1 hK1 => ?_
  refine cx_region' ?_
  refine sx_rd' (rd_assign' rfl) rfl rfl (wt_none' rfl) ?_
  refine sx_nil' ?_
  show TX E K1 _
  refine tx_k' hK1 ?_
  refine cx_seq' fun K2 hK2 => ?_
  refine cx_region' ?_
  refine sx_rd' (rd_move' rfl) rfl rfl (wt_none' rfl) ?_
  refine sx_rd' (rd_move' rfl) rfl rfl (wt_none' rfl) ?_
  refine sx_rd' (rd_bin' rfl rfl eg_flt ru_fne) rfl rfl (wt_none' rfl) ?_
  refine sx_rd' (rd_assign' rfl) rfl rfl (wt_none' rfl) ?_
  refine sx_nil' ?_
  show TX E K2 _
  refine tx_k' hK2 ?_
  refine cx_retc' ?_
  replace hp := Option.some.inj hp
  subst hp
  refine tx_pick' (L' := [(2, (Vl (.bool (fne a0 a0))))]) (H' := []) [] (sub_cons rfl sub_nil) (by decide) pick_nil ?_
  exact tx_ret1' Try.results147 rfl () (rv_tmp' rfl) (List.Sublist.refl _)

def math_IsInf_j1 (k : Nat) (x1 : Nat) : Option (Bool) :=
  some (fgt x1 9218868437227405311)
def math_IsInf (k : Nat) (a0 : Nat) (a1 : Int) : Option (Bool) :=
  br (decide (a1 = 0))
    ((math_Abs k a0) >>= fun r8 =>
    math_IsInf_j1 k r8)
    (br (decide (a1 < 0))
      (math_IsInf_j1 k (fneg a0))
      (math_IsInf_j1 k a0))

theorem math_IsInf_sim {k : Nat}  (a0 : Nat) (a1 : Int) {out : Bool} (hp : math_IsInf k a0 a1 = some out) : Go.Sx.Fn Try.prog 154 [(Vl (.float .f64 a0)), (Vl (.int .i64 a1))] [] (fun w : Unit => (Vl (.bool out))) (fun w => []) := by
  unfold math_IsInf at hp
  refine fn_of Try.func154 rfl Try.ntmps154 rfl fun E hM => ?_
  refine cx_seq' fun K1 hK1 => ?_
  refine cx_region' ?_
  refine sx_rd' (rd_assign' rfl) rfl rfl (wt_none' rfl) ?_
  refine sx_nil' ?_
  show TX E K1 _
  refine tx_k' hK1 ?_
  refine cx_join' (fun (v1 : Nat) => (⟨15, [], [(0, (Vl (.float .f64 v1)))], []⟩ : St)) (fun (v1 : Nat) => math_IsInf_j1 k v1 = some out) ?_ ?_
  · rintro x1 hp
    replace hp : math_IsInf_j1 k x1 = some out := hp
    unfold math_IsInf_j1 at hp
    refine cx_seq' fun K5 hK5 => ?_
    refine cx_region' ?_
    refine sx_rd' (rd_move' rfl) rfl rfl (wt_none' rfl) ?_
    refine sx_rd' (rd_bin' rfl rfl eg_flt ru_fgt) rfl rfl (wt_none' rfl) ?_
    refine sx_rd' (rd_assign' rfl) rfl rfl (wt_none' rfl) ?_
    refine sx_nil' ?_
    show TX E K5 _
    refine tx_k' hK5 ?_
    refine cx_retc' ?_
    replace hp := Option.some.inj hp
    subst hp
    refine tx_pick' (L' := [(4, (Vl (.bool (fgt x1 9218868437227405311))))]) (H' := []) [] (sub_cons rfl sub_nil) (by decide) pick_nil ?_
    exact tx_ret1' Try.results154 rfl () (rv_tmp' rfl) (List.Sublist.refl _)
  · intro K2 hK2
    refine cx_seq' fun K3 hK3 => ?_
    refine cx_region' ?_
    refine sx_rd' (rd_move' rfl) rfl rfl (wt_none' rfl) ?_
    refine sx_rd' (rd_bin' rfl rfl eg_int ru_eql) rfl rfl (wt_none' rfl) ?_
    refine sx_nil' ?_
    show TX E K3 _
    refine tx_k' hK3 ?_
    refine cx_cond' rfl (fun h1 => ?_) (fun h1 => ?_)
    · replace hp := (br_t h1).symm.trans hp
      refine cx_region' ?_
      refine sx_rd' (rd_move' rfl) rfl rfl (wt_none' rfl) ?_
      obtain ⟨r8, hr8, hp⟩ := bind_some hp
      refine sx_ox' (ox_calln' (ent_fn' Try.func38 isn38 rfl rfl) (math_Abs_sim _ hr8 : Go.Sx.Fn Try.prog 38 [(Vl (.float .f64 a0))] [] (fun x : Unit => (Vl (.float .f64 r8))) (fun x => [])) (Hn := fun x : Unit => []) (fun _ => rfl) rfl rfl) (wt_none' rfl) fun ⟨⟩ => ?_
      refine sx_rd' (rd_assign' rfl) rfl rfl (wt_none' rfl) ?_
      refine sx_nil' ?_
      show TX E K2 _
      exact tx_pick' [] (sub_cons rfl sub_nil) (by decide) pick_nil (hK2 r8 hp)
    · replace hp := (br_f h1).symm.trans hp
      refine cx_seq' fun K4 hK4 => ?_
      refine cx_region' ?_
      refine sx_rd' (rd_move' rfl) rfl rfl (wt_none' rfl) ?_
      refine sx_rd' (rd_bin' rfl rfl eg_int ru_lss) rfl rfl (wt_none' rfl) ?_
      refine sx_nil' ?_
      show TX E K4 _
      refine tx_k' hK4 ?_
      refine cx_cond' rfl (fun h2 => ?_) (fun h2 => ?_)
      · replace hp := (br_t h2).symm.trans hp
        refine cx_region' ?_
        refine sx_rd' (rd_move' rfl) rfl rfl (wt_none' rfl) ?_
        refine sx_rd' (rd_un' rfl ru_fneg) rfl rfl (wt_none' rfl) ?_
        refine sx_rd' (rd_assign' rfl) rfl rfl (wt_none' rfl) ?_
        refine sx_nil' ?_
        show TX E K2 _
        exact tx_pick' [] (sub_cons rfl sub_nil) (by decide) pick_nil (hK2 (fneg a0) hp)
      · replace hp := (br_f h2).symm.trans hp
        refine cx_skip' ?_
        show TX E K2 _
        exact tx_pick' [] (sub_cons rfl sub_nil) (by decide) pick_nil (hK2 a0 hp)

def math_NaN (k : Nat)  : Option (Nat) :=
  some (ffrom 9221120237041090561)

theorem math_NaN_sim {k : Nat}   {out : Nat} (hp : math_NaN k = some out) : Go.Sx.Fn Try.prog 165 [] [] (fun w : Unit => (Vl (.float .f64 out))) (fun w => []) := by
  unfold math_NaN at hp
  refine fn_of Try.func165 rfl Try.ntmps165 rfl fun E hM => ?_
  refine cx_seq' fun K1 hK1 => ?_
  refine cx_region' ?_
  refine sx_rd' (rd_assign' rfl) rfl rfl (wt_none' rfl) ?_
  refine sx_nil' ?_
  show TX E K1 _
  refine tx_k' hK1 ?_
  refine cx_seq' fun K2 hK2 => ?_
  refine cx_region' ?_
  refine sx_rd' (rd_ext' (us := [.int .u64 9221120237041090561]) rfl (ext84 ex_from)) rfl rfl (wt_none' rfl) ?_
  refine sx_rd' (rd_assign' rfl) rfl rfl (wt_none' rfl) ?_
  refine sx_nil' ?_
  show TX E K2 _
  refine tx_k' hK2 ?_
  refine cx_retc' ?_
  replace hp := Option.some.inj hp
  subst hp
  refine tx_pick' (L' := [(0, (Vl (.float .f64 (ffrom 9221120237041090561))))]) (H' := []) [] (sub_cons rfl sub_nil) (by decide) pick_nil ?_
  exact tx_ret1' Try.results165 rfl () (rv_tmp' rfl) (List.Sublist.refl _)

def math_normalize (k : Nat) (a0 : Nat) : Option (Nat × Int) :=
  (math_Abs k a0) >>= fun r5 =>
  br (flt r5 4503599627370496)
    ((some (gmul a0 4841369599423283200)) >>= fun r8 =>
    some (r8, (-52)))
    (some (a0, 0))

theorem math_normalize_sim {k : Nat}  (a0 : Nat) {out : Nat × Int} (hp : math_normalize k a0 = some out) : Go.Sx.Fn Try.prog 155 [(Vl (.float .f64 a0))] [] (fun w : Unit => (Tu [(Fl out.1), (Vl (.int .i64 out.2))])) (fun w => []) := by
  unfold math_normalize at hp
  refine fn_of Try.func155 rfl Try.ntmps155 rfl fun E hM => ?_
  refine cx_seq' fun K1 hK1 => ?_
  refine cx_region' ?_
  refine sx_rd' (rd_assign' rfl) rfl rfl (wt_none' rfl) ?_
  refine sx_rd' (rd_assign' rfl) rfl rfl (wt_none' rfl) ?_
  refine sx_nil' ?_
  show TX E K1 _
  refine tx_k' hK1 ?_
  refine cx_seq' fun K2 hK2 => ?_
  refine cx_seq' fun K3 hK3 => ?_
  refine cx_region' ?_
  refine sx_rd' (rd_move' rfl) rfl rfl (wt_none' rfl) ?_
  obtain ⟨r5, hr5, hp⟩ := bind_some hp
  refine sx_ox' (ox_calln' (ent_fn' Try.func38 isn38 rfl rfl) (math_Abs_sim _ hr5 : Go.Sx.Fn Try.prog 38 [(Vl (.float .f64 a0))] [] (fun x : Unit => (Vl (.float .f64 r5))) (fun x => [])) (Hn := fun x : Unit => []) (fun _ => rfl) rfl rfl) (wt_none' rfl) fun ⟨⟩ => ?_
  refine sx_rd' (rd_bin' rfl rfl eg_flt ru_flt) rfl rfl (wt_none' rfl) ?_
  refine sx_nil' ?_
  show TX E K3 _
  refine tx_k' hK3 ?_
  refine cx_cond' rfl (fun h1 => ?_) (fun h1 => ?_)
  · replace hp := (br_t h1).symm.trans hp
    refine cx_seq' fun K4 hK4 => ?_
    refine cx_region' ?_
    refine sx_rd' (rd_move' rfl) rfl rfl (wt_none' rfl) ?_
    obtain ⟨r8, hr8, hp⟩ := bind_some hp
    refine sx_ox' (ox_fop' (.inr (.inr (.inl rfl))) (fl_v rfl) (fl_v rfl) (Option.some.inj hr8) rfl rfl) (wt_none' rfl) fun _ => ?_
    refine sx_rd' (rd_assign' rfl) rfl rfl (wt_none' rfl) ?_
    refine sx_rd' (rd_assign' rfl) rfl rfl (wt_none' rfl) ?_
    refine sx_nil' ?_
    show TX E K4 _
    refine tx_k' hK4 ?_
    refine cx_retc' ?_
    replace hp := Option.some.inj hp
    subst hp
    refine tx_pick' (L' := [(2, (Fl r8)), (3, (Vl (.int .i64 (-52))))]) (H' := []) [] (sub_cons rfl (sub_cons rfl sub_nil)) (by decide) pick_nil ?_
    exact tx_ret2' Try.results155 rfl () (rv_tmp' rfl) (rv_tmp' rfl) rfl (List.Sublist.refl _)
  · replace hp := (br_f h1).symm.trans hp
    refine cx_skip' ?_
    show TX E K2 _
    refine tx_k' hK2 ?_
    refine cx_seq' fun K5 hK5 => ?_
    refine cx_region' ?_
    refine sx_rd' (rd_move' rfl) rfl rfl (wt_none' rfl) ?_
    refine sx_rd' (rd_assign' rfl) rfl rfl (wt_none' rfl) ?_
    refine sx_rd' (rd_assign' rfl) rfl rfl (wt_none' rfl) ?_
    refine sx_nil' ?_
    show TX E K5 _
    refine tx_k' hK5 ?_
    refine cx_retc' ?_
    replace hp := Option.some.inj hp
    subst hp
    refine tx_pick' (L' := [(2, (Vl (.float .f64 a0))), (3, (Vl (.int .i64 0)))]) (H' := []) [] (sub_cons rfl (sub_cons rfl sub_nil)) (by decide) pick_nil ?_
    exact tx_ret2' Try.results155 rfl () (rv_imp' (x := (Vl (.float .f64 a0))) (y := (Fl a0)) (rv_tmp' rfl) imp_vf) (rv_tmp' rfl) rfl (List.Sublist.refl _)

def math_frexp_j1 (k : Nat) (a0 : Nat) (x1 : Bool) : Option (Nat × Int) :=
  br x1
    (some (a0, 0))
    ((math_normalize k a0) >>= fun r19 =>
    (num r19.1) >>= fun u1 =>
    (ishr .u64 (fbits r19.1) 52) >>= fun r26 =>
    some (ffrom (ior .u64 (iandn .u64 (fbits r19.1) 9218868437227405312) 4602678819172646912), iadd .i64 r19.2 (iadd .i64 (isub .i64 (icv .i64 (iand .u64 r26 2047)) 1023) 1)))
def math_frexp (k : Nat) (a0 : Nat) : Option (Nat × Int) :=
  br (feq a0 0)
    (some (a0, 0))
    ((math_IsInf k a0 0) >>= fun r11 =>
    br r11
      (math_frexp_j1 k a0 true)
      ((math_IsNaN k a0) >>= fun r14 =>
      math_frexp_j1 k a0 r14))

theorem math_frexp_sim {k : Nat}  (a0 : Nat) {out : Nat × Int} (hp : math_frexp k a0 = some out) : Go.Sx.Fn Try.prog 177 [(Vl (.float .f64 a0))] [] (fun w : Unit => (Tu [(Vl (.float .f64 out.1)), (Vl (.int .i64 out.2))])) (fun w => []) := by
  unfold math_frexp at hp
  refine fn_of Try.func177 rfl Try.ntmps177 rfl fun E hM => ?_
  refine cx_seq' fun K1 hK1 => ?_
  refine cx_region' ?_
  refine sx_rd' (rd_assign' rfl) rfl rfl (wt_none' rfl) ?_
  refine sx_rd' (rd_assign' rfl) rfl rfl (wt_none' rfl) ?_
  refine sx_nil' ?_
  show TX E K1 _
  refine tx_k' hK1 ?_
  refine cx_seq' fun K2 hK2 => ?_
  refine cx_block' ?_
  refine cx_seq' fun K3 hK3 => ?_
  refine cx_region' ?_
  refine sx_rd' (rd_move' rfl) rfl rfl (wt_none' rfl) ?_
  refine sx_rd' (rd_bin' rfl rfl eg_flt ru_feq) rfl rfl (wt_none' rfl) ?_
  refine sx_rd' (rd_assign' rfl) rfl rfl (wt_none' rfl) ?_
  refine sx_nil' ?_
  show TX E K3 _
  refine tx_k' hK3 ?_
  refine cx_cond' rfl (fun h1 => ?_) (fun h1 => ?_)
  · replace hp := (br_t h1).symm.trans hp
    refine cx_seq' fun K4 hK4 => ?_
    refine cx_region' ?_
    refine sx_rd' (rd_move' rfl) rfl rfl (wt_none' rfl) ?_
    refine sx_rd' (rd_assign' rfl) rfl rfl (wt_none' rfl) ?_
    refine sx_rd' (rd_assign' rfl) rfl rfl (wt_none' rfl) ?_
    refine sx_nil' ?_
    show TX E K4 _
    refine tx_k' hK4 ?_
    refine cx_retc' ?_
    replace hp := Option.some.inj hp
    subst hp
    refine tx_pick' (L' := [(2, (Vl (.float .f64 a0))), (3, (Vl (.int .i64 0)))]) (H' := []) [] (sub_cons rfl (sub_cons rfl sub_nil)) (by decide) pick_nil ?_
    exact tx_ret2' Try.results177 rfl () (rv_tmp' rfl) (rv_tmp' rfl) rfl (List.Sublist.refl _)
  · replace hp := (br_f h1).symm.trans hp
    refine cx_seq' fun K5 hK5 => ?_
    refine cx_region' ?_
    refine sx_rd' (rd_move' rfl) rfl rfl (wt_none' rfl) ?_
    obtain ⟨r11, hr11, hp⟩ := bind_some hp
    refine sx_ox' (ox_calln' (ent_fn' Try.func154 isn154 rfl rfl) (math_IsInf_sim _ _ hr11 : Go.Sx.Fn Try.prog 154 [(Vl (.float .f64 a0)), (Vl (.int .i64 0))] [] (fun x : Unit => (Vl (.bool r11))) (fun x => [])) (Hn := fun x : Unit => []) (fun _ => rfl) rfl rfl) (wt_none' rfl) fun ⟨⟩ => ?_
    refine sx_rd' (rd_move' rfl) rfl rfl (wt_none' rfl) ?_
    refine sx_cutn' 3 (fun (v1 : Bool) => (⟨38, [], [(0, (Vl (.float .f64 a0))), (15, (Vl (.bool v1)))], []⟩ : St)) (fun (v1 : Bool) => math_frexp_j1 k a0 v1 = some out) ?_ ?_
    · rintro x1 hp
      replace hp : math_frexp_j1 k a0 x1 = some out := hp
      unfold math_frexp_j1 at hp
      refine sx_rd' (rd_assign' rfl) rfl rfl (wt_none' rfl) ?_
      refine sx_nil' ?_
      show TX E K5 _
      refine tx_k' hK5 ?_
      refine cx_cond' rfl (fun h3 => ?_) (fun h3 => ?_)
      · replace hp := (br_t h3).symm.trans hp
        refine cx_seq' fun K7 hK7 => ?_
        refine cx_region' ?_
        refine sx_rd' (rd_move' rfl) rfl rfl (wt_none' rfl) ?_
        refine sx_rd' (rd_assign' rfl) rfl rfl (wt_none' rfl) ?_
        refine sx_rd' (rd_assign' rfl) rfl rfl (wt_none' rfl) ?_
        refine sx_nil' ?_
        show TX E K7 _
        refine tx_k' hK7 ?_
        refine cx_retc' ?_
        replace hp := Option.some.inj hp
        subst hp
        refine tx_pick' (L' := [(2, (Vl (.float .f64 a0))), (3, (Vl (.int .i64 0)))]) (H' := []) [] (sub_cons rfl (sub_cons rfl sub_nil)) (by decide) pick_nil ?_
        exact tx_ret2' Try.results177 rfl () (rv_tmp' rfl) (rv_tmp' rfl) rfl (List.Sublist.refl _)
      · replace hp := (br_f h3).symm.trans hp
        refine cx_skip' ?_
        show TX E K2 _
        refine tx_k' hK2 ?_
        refine cx_seq' fun K8 hK8 => ?_
        refine cx_region' ?_
        refine sx_rd' (rd_move' rfl) rfl rfl (wt_none' rfl) ?_
        obtain ⟨r19, hr19, hp⟩ := bind_some hp
        refine sx_ox' (ox_calln' (ent_fn' Try.func155 isn155 rfl rfl) (math_normalize_sim _ hr19 : Go.Sx.Fn Try.prog 155 [(Vl (.float .f64 a0))] [] (fun x : Unit => (Tu [(Fl r19.1), (Vl (.int .i64 r19.2))])) (fun x => [])) (Hn := fun x : Unit => []) (fun _ => rfl) rfl rfl) (wt_none' rfl) fun ⟨⟩ => ?_
        refine sx_rd' (rd_move' rfl) rfl rfl (wt_none' rfl) ?_
        refine sx_rd' (rd_extract' rfl rfl) rfl rfl (wt_none' rfl) ?_
        refine sx_rd' (rd_extract' rfl rfl) rfl rfl (wt_none' rfl) ?_
        refine sx_rd' (rd_assign' rfl) rfl rfl (wt_none' rfl) ?_
        refine sx_rd' (rd_assign' rfl) rfl rfl (wt_none' rfl) ?_
        refine sx_nil' ?_
        show TX E K8 _
        refine tx_k' hK8 ?_
        refine cx_seq' fun K9 hK9 => ?_
        refine cx_region' ?_
        refine sx_rd' (rd_move' rfl) rfl rfl (wt_none' rfl) ?_
        obtain ⟨u1, hu1, hp⟩ := bind_some hp
        refine tx_slot' 22 (y := (Vl (.float .f64 r19.1))) rfl (imp_num (num_some hu1).2) ?_
        refine sx_rd' (rd_ext' (us := [.float .f64 r19.1]) rfl (ext85 ex_bits)) rfl rfl (wt_none' rfl) ?_
        refine sx_rd' (rd_assign' rfl) rfl rfl (wt_none' rfl) ?_
        refine sx_nil' ?_
        show TX E K9 _
        refine tx_k' hK9 ?_
        refine cx_seq' fun K10 hK10 => ?_
        refine cx_region' ?_
        refine sx_rd' (rd_move' rfl) rfl rfl (wt_none' rfl) ?_
        refine sx_rd' (rd_move' rfl) rfl rfl (wt_none' rfl) ?_
        obtain ⟨r26, hr26, hp⟩ := bind_some hp
        refine sx_rd' (rd_bin' rfl rfl eg_int (ru_shr hr26)) rfl rfl (wt_none' rfl) ?_
        refine sx_rd' (rd_bin' rfl rfl eg_int ru_and) rfl rfl (wt_none' rfl) ?_
        refine sx_rd' (rd_conv' rfl (ru_i2i (by rw [Try.underlying112]; rfl) Try.underlying3)) rfl rfl (wt_none' rfl) ?_
        refine sx_rd' (rd_bin' rfl rfl eg_int ru_sub) rfl rfl (wt_none' rfl) ?_
        refine sx_rd' (rd_bin' rfl rfl eg_int ru_add) rfl rfl (wt_none' rfl) ?_
        refine sx_rd' (rd_bin' rfl rfl eg_int ru_add) rfl rfl (wt_none' rfl) ?_
        refine sx_rd' (rd_assign' rfl) rfl rfl (wt_none' rfl) ?_
        refine sx_nil' ?_
        show TX E K10 _
        refine tx_k' hK10 ?_
        refine cx_seq' fun K11 hK11 => ?_
        refine cx_region' ?_
        refine sx_rd' (rd_move' rfl) rfl rfl (wt_none' rfl) ?_
        refine sx_rd' (rd_bin' rfl rfl eg_int ru_andn) rfl rfl (wt_none' rfl) ?_
        refine sx_rd' (rd_assign' rfl) rfl rfl (wt_none' rfl) ?_
        refine sx_nil' ?_
        show TX E K11 _
        refine tx_k' hK11 ?_
        refine cx_seq' fun K12 hK12 => ?_
        refine cx_region' ?_
        refine sx_rd' (rd_move' rfl) rfl rfl (wt_none' rfl) ?_
        refine sx_rd' (rd_bin' rfl rfl eg_int ru_or) rfl rfl (wt_none' rfl) ?_
        refine sx_rd' (rd_assign' rfl) rfl rfl (wt_none' rfl) ?_
        refine sx_nil' ?_
        show TX E K12 _
        refine tx_k' hK12 ?_
        refine cx_seq' fun K13 hK13 => ?_
        refine cx_region' ?_
        refine sx_rd' (rd_move' rfl) rfl rfl (wt_none' rfl) ?_
        refine sx_rd' (rd_ext' (us := [.int .u64 (ior .u64 (iandn .u64 (fbits r19.1) 9218868437227405312) 4602678819172646912)]) rfl (ext84 ex_from)) rfl rfl (wt_none' rfl) ?_
        refine sx_rd' (rd_assign' rfl) rfl rfl (wt_none' rfl) ?_
        refine sx_nil' ?_
        show TX E K13 _
        refine tx_k' hK13 ?_
        refine cx_retc' ?_
        replace hp := Option.some.inj hp
        subst hp
        refine tx_pick' (L' := [(2, (Vl (.float .f64 (ffrom (ior .u64 (iandn .u64 (fbits r19.1) 9218868437227405312) 4602678819172646912))))), (3, (Vl (.int .i64 (iadd .i64 r19.2 (iadd .i64 (isub .i64 (icv .i64 (iand .u64 r26 2047)) 1023) 1)))))]) (H' := []) [] (sub_cons rfl (sub_cons rfl sub_nil)) (by decide) pick_nil ?_
        exact tx_ret2' Try.results177 rfl () (rv_tmp' rfl) (rv_tmp' rfl) rfl (List.Sublist.refl _)
    · intro K6 hK6
      rcases br_cases hp with ⟨h2, hp⟩ | ⟨h2, hp⟩
      · refine sx_skip' rfl rfl (wt_is' (wt_guard' rfl rfl rfl) (beq_tf h2)) ?_
        refine sx_skip' rfl rfl (wt_is' (wt_guard' rfl rfl rfl) (beq_tf h2)) ?_
        refine sx_rd' (rd_pick_true' rfl h2 rfl) rfl rfl (wt_none' rfl) ?_
        refine sx_nil' ?_
        show TX E K6 _
        exact tx_pick' [] (sub_cons rfl (sub_cons rfl sub_nil)) (by decide) pick_nil (hK6 true hp)
      · refine sx_rd' (rd_move' rfl) rfl rfl (wt_is' (wt_guard' rfl rfl rfl) (beq_ff h2)) ?_
        obtain ⟨r14, hr14, hp⟩ := bind_some hp
        refine sx_ox' (ox_calln' (ent_fn' Try.func147 isn147 rfl rfl) (math_IsNaN_sim _ hr14 : Go.Sx.Fn Try.prog 147 [(Vl (.float .f64 a0))] [] (fun x : Unit => (Vl (.bool r14))) (fun x => [])) (Hn := fun x : Unit => []) (fun _ => rfl) rfl rfl) (wt_is' (wt_guard' rfl rfl rfl) (beq_ff h2)) fun ⟨⟩ => ?_
        refine sx_rd' (rd_pick_false' rfl h2 rfl) rfl rfl (wt_none' rfl) ?_
        refine sx_nil' ?_
        show TX E K6 _
        exact tx_pick' [] (sub_cons rfl (sub_cons rfl sub_nil)) (by decide) pick_nil (hK6 r14 hp)

def math_Frexp (k : Nat) (a0 : Nat) : Option (Nat × Int) :=
  (math_frexp k a0) >>= fun r9 =>
  some (r9.1, r9.2)

theorem math_Frexp_sim {k : Nat}  (a0 : Nat) {out : Nat × Int} (hp : math_Frexp k a0 = some out) : Go.Sx.Fn Try.prog 174 [(Vl (.float .f64 a0))] [] (fun w : Unit => (Tu [(Vl (.float .f64 out.1)), (Vl (.int .i64 out.2))])) (fun w => []) := by
  unfold math_Frexp at hp
  refine fn_of Try.func174 rfl Try.ntmps174 rfl fun E hM => ?_
  refine cx_seq' fun K1 hK1 => ?_
  refine cx_region' ?_
  refine sx_rd' (rd_assign' rfl) rfl rfl (wt_none' rfl) ?_
  refine sx_rd' (rd_assign' rfl) rfl rfl (wt_none' rfl) ?_
  refine sx_nil' ?_
  show TX E K1 _
  refine tx_k' hK1 ?_
  refine cx_seq' fun K2 hK2 => ?_
  refine cx_cond_f' rfl rfl ?_
  refine cx_skip' ?_
  show TX E K2 _
  refine tx_k' hK2 ?_
  refine cx_seq' fun K3 hK3 => ?_
  refine cx_region' ?_
  refine sx_rd' (rd_move' rfl) rfl rfl (wt_none' rfl) ?_
  obtain ⟨r9, hr9, hp⟩ := bind_some hp
  refine sx_ox' (ox_calln' (ent_fn' Try.func177 isn177 rfl rfl) (math_frexp_sim _ hr9 : Go.Sx.Fn Try.prog 177 [(Vl (.float .f64 a0))] [] (fun x : Unit => (Tu [(Vl (.float .f64 r9.1)), (Vl (.int .i64 r9.2))])) (fun x => [])) (Hn := fun x : Unit => []) (fun _ => rfl) rfl rfl) (wt_none' rfl) fun ⟨⟩ => ?_
  refine sx_rd' (rd_extract' rfl rfl) rfl rfl (wt_none' rfl) ?_
  refine sx_rd' (rd_extract' rfl rfl) rfl rfl (wt_none' rfl) ?_
  refine sx_rd' (rd_assign' rfl) rfl rfl (wt_none' rfl) ?_
  refine sx_rd' (rd_assign' rfl) rfl rfl (wt_none' rfl) ?_
  refine sx_nil' ?_
  show TX E K3 _
  refine tx_k' hK3 ?_
  refine cx_retc' ?_
  replace hp := Option.some.inj hp
  subst hp
  refine tx_pick' (L' := [(2, (Vl (.float .f64 r9.1))), (3, (Vl (.int .i64 r9.2)))]) (H' := []) [] (sub_cons rfl (sub_cons rfl sub_nil)) (by decide) pick_nil ?_
  exact tx_ret2' Try.results174 rfl () (rv_tmp' rfl) (rv_tmp' rfl) rfl (List.Sublist.refl _)

def math_Copysign (k : Nat) (a0 : Nat) (a1 : Nat) : Option (Nat) :=
  some (ffrom (ior .u64 (iandn .u64 (fbits a0) 9223372036854775808) (iand .u64 (fbits a1) 9223372036854775808)))

theorem math_Copysign_sim {k : Nat}  (a0 : Nat) (a1 : Nat) {out : Nat} (hp : math_Copysign k a0 a1 = some out) : Go.Sx.Fn Try.prog 156 [(Vl (.float .f64 a0)), (Vl (.float .f64 a1))] [] (fun w : Unit => (Vl (.float .f64 out))) (fun w => []) := by
  unfold math_Copysign at hp
  refine fn_of Try.func156 rfl Try.ntmps156 rfl fun E hM => ?_
  refine cx_seq' fun K1 hK1 => ?_
  refine cx_region' ?_
  refine sx_rd' (rd_assign' rfl) rfl rfl (wt_none' rfl) ?_
  refine sx_nil' ?_
  show TX E K1 _
  refine tx_k' hK1 ?_
  refine cx_seq' fun K2 hK2 => ?_
  refine cx_region' ?_
  refine sx_rd' (rd_move' rfl) rfl rfl (wt_none' rfl) ?_
  refine sx_rd' (rd_ext' (us := [.float .f64 a0]) rfl (ext85 ex_bits)) rfl rfl (wt_none' rfl) ?_
  refine sx_rd' (rd_bin' rfl rfl eg_int ru_andn) rfl rfl (wt_none' rfl) ?_
  refine sx_rd' (rd_move' rfl) rfl rfl (wt_none' rfl) ?_
  refine sx_rd' (rd_ext' (us := [.float .f64 a1]) rfl (ext85 ex_bits)) rfl rfl (wt_none' rfl) ?_
  refine sx_rd' (rd_bin' rfl rfl eg_int ru_and) rfl rfl (wt_none' rfl) ?_
  refine sx_rd' (rd_bin' rfl rfl eg_int ru_or) rfl rfl (wt_none' rfl) ?_
  refine sx_rd' (rd_ext' (us := [.int .u64 (ior .u64 (iandn .u64 (fbits a0) 9223372036854775808) (iand .u64 (fbits a1) 9223372036854775808))]) rfl (ext84 ex_from)) rfl rfl (wt_none' rfl) ?_
  refine sx_rd' (rd_assign' rfl) rfl rfl (wt_none' rfl) ?_
  refine sx_nil' ?_
  show TX E K2 _
  refine tx_k' hK2 ?_
  refine cx_retc' ?_
  replace hp := Option.some.inj hp
  subst hp
  refine tx_pick' (L' := [(4, (Vl (.float .f64 (ffrom (ior .u64 (iandn .u64 (fbits a0) 9223372036854775808) (iand .u64 (fbits a1) 9223372036854775808))))))]) (H' := []) [] (sub_cons rfl sub_nil) (by decide) pick_nil ?_
  exact tx_ret1' Try.results156 rfl () (rv_tmp' rfl) (List.Sublist.refl _)

def math_Inf_j1 (k : Nat) (x1 : Int) : Option (Nat) :=
  some (ffrom x1)
def math_Inf (k : Nat) (a0 : Int) : Option (Nat) :=
  br (decide (0 ≤ a0))
    (math_Inf_j1 k 9218868437227405312)
    (math_Inf_j1 k 18442240474082181120)

theorem math_Inf_sim {k : Nat}  (a0 : Int) {out : Nat} (hp : math_Inf k a0 = some out) : Go.Sx.Fn Try.prog 157 [(Vl (.int .i64 a0))] [] (fun w : Unit => (Vl (.float .f64 out))) (fun w => []) := by
  unfold math_Inf at hp
  refine fn_of Try.func157 rfl Try.ntmps157 rfl fun E hM => ?_
  refine cx_seq' fun K1 hK1 => ?_
  refine cx_region' ?_
  refine sx_rd' (rd_assign' rfl) rfl rfl (wt_none' rfl) ?_
  refine sx_nil' ?_
  show TX E K1 _
  refine tx_k' hK1 ?_
  refine cx_seq' fun K2 hK2 => ?_
  refine cx_region' ?_
  refine sx_rd' (rd_assign' rfl) rfl rfl (wt_none' rfl) ?_
  refine sx_nil' ?_
  show TX E K2 _
  refine tx_k' hK2 ?_
  refine cx_join' (fun (v1 : Int) => (⟨8, [], [(3, (Vl (.int .u64 v1)))], []⟩ : St)) (fun (v1 : Int) => math_Inf_j1 k v1 = some out) ?_ ?_
  · rintro x1 hp
    replace hp : math_Inf_j1 k x1 = some out := hp
    unfold math_Inf_j1 at hp
    refine cx_seq' fun K5 hK5 => ?_
    refine cx_region' ?_
    refine sx_rd' (rd_move' rfl) rfl rfl (wt_none' rfl) ?_
    refine sx_rd' (rd_ext' (us := [.int .u64 x1]) rfl (ext84 ex_from)) rfl rfl (wt_none' rfl) ?_
    refine sx_rd' (rd_assign' rfl) rfl rfl (wt_none' rfl) ?_
    refine sx_nil' ?_
    show TX E K5 _
    refine tx_k' hK5 ?_
    refine cx_retc' ?_
    replace hp := Option.some.inj hp
    subst hp
    refine tx_pick' (L' := [(2, (Vl (.float .f64 (ffrom x1))))]) (H' := []) [] (sub_cons rfl sub_nil) (by decide) pick_nil ?_
    exact tx_ret1' Try.results157 rfl () (rv_tmp' rfl) (List.Sublist.refl _)
  · intro K3 hK3
    refine cx_seq' fun K4 hK4 => ?_
    refine cx_region' ?_
    refine sx_rd' (rd_move' rfl) rfl rfl (wt_none' rfl) ?_
    refine sx_rd' (rd_bin' rfl rfl eg_int ru_geq) rfl rfl (wt_none' rfl) ?_
    refine sx_nil' ?_
    show TX E K4 _
    refine tx_k' hK4 ?_
    refine cx_cond' rfl (fun h1 => ?_) (fun h1 => ?_)
    · replace hp := (br_t h1).symm.trans hp
      refine cx_region' ?_
      refine sx_rd' (rd_assign' rfl) rfl rfl (wt_none' rfl) ?_
      refine sx_nil' ?_
      show TX E K3 _
      exact tx_pick' [] (sub_cons rfl sub_nil) (by decide) pick_nil (hK3 9218868437227405312 hp)
    · replace hp := (br_f h1).symm.trans hp
      refine cx_region' ?_
      refine sx_rd' (rd_assign' rfl) rfl rfl (wt_none' rfl) ?_
      refine sx_nil' ?_
      show TX E K3 _
      exact tx_pick' [] (sub_cons rfl sub_nil) (by decide) pick_nil (hK3 18442240474082181120 hp)

def math_ldexp_j2 (k : Nat) (r22 : Nat × Int) (x2 : Int) (x3 : Nat) : Option (Nat) :=
  (ishl .u64 (icv .u64 (iadd .i64 x2 1023)) 52) >>= fun r57 =>
  (some (gmul x3 (ffrom (ior .u64 (iandn .u64 (fbits r22.1) 9218868437227405312) r57)))) >>= fun r62 =>
  some r62
def math_ldexp_j1 (k : Nat) (a0 : Nat) (a1 : Int) (x1 : Bool) : Option (Nat) :=
  br x1
    (some a0)
    ((math_normalize k a0) >>= fun r22 =>
    (num r22.1) >>= fun u1 =>
    (ishr .u64 (fbits r22.1) 52) >>= fun r32 =>
    br (decide ((iadd .i64 (iadd .i64 a1 r22.2) (isub .i64 (iand .i64 (icv .i64 r32) 2047) 1023)) < (-1075)))
      ((num r22.1) >>= fun u2 =>
      (math_Copysign k 0 r22.1) >>= fun r40 =>
      some r40)
      (br (decide (1023 < (iadd .i64 (iadd .i64 a1 r22.2) (isub .i64 (iand .i64 (icv .i64 r32) 2047) 1023))))
        (br (flt r22.1 0)
          ((math_Inf k (-1)) >>= fun r45 =>
          some r45)
          ((math_Inf k 1) >>= fun r46 =>
          some r46))
        (br (decide ((iadd .i64 (iadd .i64 a1 r22.2) (isub .i64 (iand .i64 (icv .i64 r32) 2047) 1023)) < (-1022)))
          (math_ldexp_j2 k r22 (iadd .i64 (iadd .i64 (iadd .i64 a1 r22.2) (isub .i64 (iand .i64 (icv .i64 r32) 2047) 1023)) 53) 4368491638549381120)
          (math_ldexp_j2 k r22 (iadd .i64 (iadd .i64 a1 r22.2) (isub .i64 (iand .i64 (icv .i64 r32) 2047) 1023)) 4607182418800017408))))
def math_ldexp (k : Nat) (a0 : Nat) (a1 : Int) : Option (Nat) :=
  br (feq a0 0)
    (some a0)
    ((math_IsInf k a0 0) >>= fun r14 =>
    br r14
      (math_ldexp_j1 k a0 a1 true)
      ((math_IsNaN k a0) >>= fun r17 =>
      math_ldexp_j1 k a0 a1 r17))

theorem math_ldexp_sim {k : Nat}  (a0 : Nat) (a1 : Int) {out : Nat} (hp : math_ldexp k a0 a1 = some out) : Go.Sx.Fn Try.prog 126 [(Vl (.float .f64 a0)), (Vl (.int .i64 a1))] [] (fun w : Unit => (Fl out)) (fun w => []) := by
  unfold math_ldexp at hp
  refine fn_of Try.func126 rfl Try.ntmps126 rfl fun E hM => ?_
  refine cx_seq' fun K1 hK1 => ?_
  refine cx_region' ?_
  refine sx_rd' (rd_assign' rfl) rfl rfl (wt_none' rfl) ?_
  refine sx_nil' ?_
  show TX E K1 _
  refine tx_k' hK1 ?_
  refine cx_seq' fun K2 hK2 => ?_
  refine cx_block' ?_
  refine cx_seq' fun K3 hK3 => ?_
  refine cx_region' ?_
  refine sx_rd' (rd_move' rfl) rfl rfl (wt_none' rfl) ?_
  refine sx_rd' (rd_bin' rfl rfl eg_flt ru_feq) rfl rfl (wt_none' rfl) ?_
  refine sx_rd' (rd_assign' rfl) rfl rfl (wt_none' rfl) ?_
  refine sx_nil' ?_
  show TX E K3 _
  refine tx_k' hK3 ?_
  refine cx_cond' rfl (fun h1 => ?_) (fun h1 => ?_)
  · replace hp := (br_t h1).symm.trans hp
    refine cx_seq' fun K4 hK4 => ?_
    refine cx_region' ?_
    refine sx_rd' (rd_move' rfl) rfl rfl (wt_none' rfl) ?_
    refine sx_rd' (rd_assign' rfl) rfl rfl (wt_none' rfl) ?_
    refine sx_nil' ?_
    show TX E K4 _
    refine tx_k' hK4 ?_
    refine cx_retc' ?_
    replace hp := Option.some.inj hp
    subst hp
    refine tx_pick' (L' := [(4, (Vl (.float .f64 a0)))]) (H' := []) [] (sub_cons rfl sub_nil) (by decide) pick_nil ?_
    exact tx_ret1' Try.results126 rfl () (rv_imp' (x := (Vl (.float .f64 a0))) (y := (Fl a0)) (rv_tmp' rfl) imp_vf) (List.Sublist.refl _)
  · replace hp := (br_f h1).symm.trans hp
    refine cx_seq' fun K5 hK5 => ?_
    refine cx_region' ?_
    refine sx_rd' (rd_move' rfl) rfl rfl (wt_none' rfl) ?_
    obtain ⟨r14, hr14, hp⟩ := bind_some hp
    refine sx_ox' (ox_calln' (ent_fn' Try.func154 isn154 rfl rfl) (math_IsInf_sim _ _ hr14 : Go.Sx.Fn Try.prog 154 [(Vl (.float .f64 a0)), (Vl (.int .i64 0))] [] (fun x : Unit => (Vl (.bool r14))) (fun x => [])) (Hn := fun x : Unit => []) (fun _ => rfl) rfl rfl) (wt_none' rfl) fun ⟨⟩ => ?_
    refine sx_rd' (rd_move' rfl) rfl rfl (wt_none' rfl) ?_
    refine sx_cutn' 3 (fun (v1 : Bool) => (⟨63, [], [(0, (Vl (.float .f64 a0))), (1, (Vl (.int .i64 a1))), (18, (Vl (.bool v1)))], []⟩ : St)) (fun (v1 : Bool) => math_ldexp_j1 k a0 a1 v1 = some out) ?_ ?_
    · rintro x1 hp
      replace hp : math_ldexp_j1 k a0 a1 x1 = some out := hp
      unfold math_ldexp_j1 at hp
      refine sx_rd' (rd_assign' rfl) rfl rfl (wt_none' rfl) ?_
      refine sx_nil' ?_
      show TX E K5 _
      refine tx_k' hK5 ?_
      refine cx_cond' rfl (fun h3 => ?_) (fun h3 => ?_)
      · replace hp := (br_t h3).symm.trans hp
        refine cx_seq' fun K7 hK7 => ?_
        refine cx_region' ?_
        refine sx_rd' (rd_move' rfl) rfl rfl (wt_none' rfl) ?_
        refine sx_rd' (rd_assign' rfl) rfl rfl (wt_none' rfl) ?_
        refine sx_nil' ?_
        show TX E K7 _
        refine tx_k' hK7 ?_
        refine cx_retc' ?_
        replace hp := Option.some.inj hp
        subst hp
        refine tx_pick' (L' := [(4, (Vl (.float .f64 a0)))]) (H' := []) [] (sub_cons rfl sub_nil) (by decide) pick_nil ?_
        exact tx_ret1' Try.results126 rfl () (rv_imp' (x := (Vl (.float .f64 a0))) (y := (Fl a0)) (rv_tmp' rfl) imp_vf) (List.Sublist.refl _)
      · replace hp := (br_f h3).symm.trans hp
        refine cx_skip' ?_
        show TX E K2 _
        refine tx_k' hK2 ?_
        refine cx_seq' fun K8 hK8 => ?_
        refine cx_region' ?_
        refine sx_rd' (rd_move' rfl) rfl rfl (wt_none' rfl) ?_
        obtain ⟨r22, hr22, hp⟩ := bind_some hp
        refine sx_ox' (ox_calln' (ent_fn' Try.func155 isn155 rfl rfl) (math_normalize_sim _ hr22 : Go.Sx.Fn Try.prog 155 [(Vl (.float .f64 a0))] [] (fun x : Unit => (Tu [(Fl r22.1), (Vl (.int .i64 r22.2))])) (fun x => [])) (Hn := fun x : Unit => []) (fun _ => rfl) rfl rfl) (wt_none' rfl) fun ⟨⟩ => ?_
        refine sx_rd' (rd_move' rfl) rfl rfl (wt_none' rfl) ?_
        refine sx_rd' (rd_extract' rfl rfl) rfl rfl (wt_none' rfl) ?_
        refine sx_rd' (rd_extract' rfl rfl) rfl rfl (wt_none' rfl) ?_
        refine sx_rd' (rd_assign' rfl) rfl rfl (wt_none' rfl) ?_
        refine sx_rd' (rd_assign' rfl) rfl rfl (wt_none' rfl) ?_
        refine sx_nil' ?_
        show TX E K8 _
        refine tx_k' hK8 ?_
        refine cx_seq' fun K9 hK9 => ?_
        refine cx_region' ?_
        refine sx_rd' (rd_move' rfl) rfl rfl (wt_none' rfl) ?_
        refine sx_rd' (rd_move' rfl) rfl rfl (wt_none' rfl) ?_
        refine sx_rd' (rd_bin' rfl rfl eg_int ru_add) rfl rfl (wt_none' rfl) ?_
        refine sx_rd' (rd_assign' rfl) rfl rfl (wt_none' rfl) ?_
        refine sx_nil' ?_
        show TX E K9 _
        refine tx_k' hK9 ?_
        refine cx_seq' fun K10 hK10 => ?_
        refine cx_region' ?_
        refine sx_rd' (rd_move' rfl) rfl rfl (wt_none' rfl) ?_
        obtain ⟨u1, hu1, hp⟩ := bind_some hp
        refine tx_slot' 28 (y := (Vl (.float .f64 r22.1))) rfl (imp_num (num_some hu1).2) ?_
        refine sx_rd' (rd_ext' (us := [.float .f64 r22.1]) rfl (ext85 ex_bits)) rfl rfl (wt_none' rfl) ?_
        refine sx_rd' (rd_assign' rfl) rfl rfl (wt_none' rfl) ?_
        refine sx_nil' ?_
        show TX E K10 _
        refine tx_k' hK10 ?_
        refine cx_seq' fun K11 hK11 => ?_
        refine cx_region' ?_
        refine sx_rd' (rd_move' rfl) rfl rfl (wt_none' rfl) ?_
        refine sx_rd' (rd_move' rfl) rfl rfl (wt_none' rfl) ?_
        obtain ⟨r32, hr32, hp⟩ := bind_some hp
        refine sx_rd' (rd_bin' rfl rfl eg_int (ru_shr hr32)) rfl rfl (wt_none' rfl) ?_
        refine sx_rd' (rd_conv' rfl (ru_i2i (by rw [Try.underlying112]; rfl) Try.underlying3)) rfl rfl (wt_none' rfl) ?_
        refine sx_rd' (rd_bin' rfl rfl eg_int ru_and) rfl rfl (wt_none' rfl) ?_
        refine sx_rd' (rd_bin' rfl rfl eg_int ru_sub) rfl rfl (wt_none' rfl) ?_
        refine sx_rd' (rd_bin' rfl rfl eg_int ru_add) rfl rfl (wt_none' rfl) ?_
        refine sx_rd' (rd_assign' rfl) rfl rfl (wt_none' rfl) ?_
        refine sx_nil' ?_
        show TX E K11 _
        refine tx_k' hK11 ?_
        refine cx_seq' fun K12 hK12 => ?_
        refine cx_seq' fun K13 hK13 => ?_
        refine cx_region' ?_
        refine sx_rd' (rd_move' rfl) rfl rfl (wt_none' rfl) ?_
        refine sx_rd' (rd_bin' rfl rfl eg_int ru_lss) rfl rfl (wt_none' rfl) ?_
        refine sx_nil' ?_
        show TX E K13 _
        refine tx_k' hK13 ?_
        refine cx_cond' rfl (fun h4 => ?_) (fun h4 => ?_)
        · replace hp := (br_t h4).symm.trans hp
          refine cx_seq' fun K14 hK14 => ?_
          refine cx_region' ?_
          refine sx_rd' (rd_move' rfl) rfl rfl (wt_none' rfl) ?_
          obtain ⟨u2, hu2, hp⟩ := bind_some hp
          refine tx_slot' 39 (y := (Vl (.float .f64 r22.1))) rfl (imp_num (num_some hu2).2) ?_
          obtain ⟨r40, hr40, hp⟩ := bind_some hp
          refine sx_ox' (ox_calln' (ent_fn' Try.func156 isn156 rfl rfl) (math_Copysign_sim _ _ hr40 : Go.Sx.Fn Try.prog 156 [(Vl (.float .f64 0)), (Vl (.float .f64 r22.1))] [] (fun x : Unit => (Vl (.float .f64 r40))) (fun x => [])) (Hn := fun x : Unit => []) (fun _ => rfl) rfl rfl) (wt_none' rfl) fun ⟨⟩ => ?_
          refine sx_rd' (rd_assign' rfl) rfl rfl (wt_none' rfl) ?_
          refine sx_nil' ?_
          show TX E K14 _
          refine tx_k' hK14 ?_
          refine cx_retc' ?_
          replace hp := Option.some.inj hp
          subst hp
          refine tx_pick' (L' := [(4, (Vl (.float .f64 r40)))]) (H' := []) [] (sub_cons rfl sub_nil) (by decide) pick_nil ?_
          exact tx_ret1' Try.results126 rfl () (rv_imp' (x := (Vl (.float .f64 r40))) (y := (Fl r40)) (rv_tmp' rfl) imp_vf) (List.Sublist.refl _)
        · replace hp := (br_f h4).symm.trans hp
          refine cx_skip' ?_
          show TX E K12 _
          refine tx_k' hK12 ?_
          refine cx_seq' fun K15 hK15 => ?_
          refine cx_seq' fun K16 hK16 => ?_
          refine cx_region' ?_
          refine sx_rd' (rd_move' rfl) rfl rfl (wt_none' rfl) ?_
          refine sx_rd' (rd_bin' rfl rfl eg_int ru_gtr) rfl rfl (wt_none' rfl) ?_
          refine sx_nil' ?_
          show TX E K16 _
          refine tx_k' hK16 ?_
          refine cx_cond' rfl (fun h5 => ?_) (fun h5 => ?_)
          · replace hp := (br_t h5).symm.trans hp
            refine cx_seq' fun K17 hK17 => ?_
            refine cx_seq' fun K18 hK18 => ?_
            refine cx_region' ?_
            refine sx_rd' (rd_move' rfl) rfl rfl (wt_none' rfl) ?_
            refine sx_rd' (rd_fcmp' (fl_f rfl) (fl_v rfl) rfl) rfl rfl (wt_none' rfl) ?_
            refine sx_nil' ?_
            show TX E K18 _
            refine tx_k' hK18 ?_
            refine cx_cond' rfl (fun h6 => ?_) (fun h6 => ?_)
            · replace hp := (br_t h6).symm.trans hp
              refine cx_seq' fun K19 hK19 => ?_
              refine cx_region' ?_
              obtain ⟨r45, hr45, hp⟩ := bind_some hp
              refine sx_ox' (ox_calln' (ent_fn' Try.func157 isn157 rfl rfl) (math_Inf_sim _ hr45 : Go.Sx.Fn Try.prog 157 [(Vl (.int .i64 (-1)))] [] (fun x : Unit => (Vl (.float .f64 r45))) (fun x => [])) (Hn := fun x : Unit => []) (fun _ => rfl) rfl rfl) (wt_none' rfl) fun ⟨⟩ => ?_
              refine sx_rd' (rd_assign' rfl) rfl rfl (wt_none' rfl) ?_
              refine sx_nil' ?_
              show TX E K19 _
              refine tx_k' hK19 ?_
              refine cx_retc' ?_
              replace hp := Option.some.inj hp
              subst hp
              refine tx_pick' (L' := [(4, (Vl (.float .f64 r45)))]) (H' := []) [] (sub_cons rfl sub_nil) (by decide) pick_nil ?_
              exact tx_ret1' Try.results126 rfl () (rv_imp' (x := (Vl (.float .f64 r45))) (y := (Fl r45)) (rv_tmp' rfl) imp_vf) (List.Sublist.refl _)
            · replace hp := (br_f h6).symm.trans hp
              refine cx_skip' ?_
              show TX E K17 _
              refine tx_k' hK17 ?_
              refine cx_seq' fun K20 hK20 => ?_
              refine cx_region' ?_
              obtain ⟨r46, hr46, hp⟩ := bind_some hp
              refine sx_ox' (ox_calln' (ent_fn' Try.func157 isn157 rfl rfl) (math_Inf_sim _ hr46 : Go.Sx.Fn Try.prog 157 [(Vl (.int .i64 1))] [] (fun x : Unit => (Vl (.float .f64 r46))) (fun x => [])) (Hn := fun x : Unit => []) (fun _ => rfl) rfl rfl) (wt_none' rfl) fun ⟨⟩ => ?_
              refine sx_rd' (rd_assign' rfl) rfl rfl (wt_none' rfl) ?_
              refine sx_nil' ?_
              show TX E K20 _
              refine tx_k' hK20 ?_
              refine cx_retc' ?_
              replace hp := Option.some.inj hp
              subst hp
              refine tx_pick' (L' := [(4, (Vl (.float .f64 r46)))]) (H' := []) [] (sub_cons rfl sub_nil) (by decide) pick_nil ?_
              exact tx_ret1' Try.results126 rfl () (rv_imp' (x := (Vl (.float .f64 r46))) (y := (Fl r46)) (rv_tmp' rfl) imp_vf) (List.Sublist.refl _)
          · replace hp := (br_f h5).symm.trans hp
            refine cx_skip' ?_
            show TX E K15 _
            refine tx_k' hK15 ?_
            refine cx_seq' fun K21 hK21 => ?_
            refine cx_region' ?_
            refine sx_rd' (rd_assign' rfl) rfl rfl (wt_none' rfl) ?_
            refine sx_nil' ?_
            show TX E K21 _
            refine tx_k' hK21 ?_
            refine cx_join' (fun (v2 : Int × Nat) => (⟨63, [], [(1, (Vl (.int .i64 v2.1))), (6, (Vl (.int .u64 (fbits r22.1)))), (7, (Vl (.float .f64 v2.2)))], []⟩ : St)) (fun (v2 : Int × Nat) => math_ldexp_j2 k r22 v2.1 v2.2 = some out) ?_ ?_
            · rintro ⟨x2, x3⟩ hp
              replace hp : math_ldexp_j2 k r22 x2 x3 = some out := hp
              unfold math_ldexp_j2 at hp
              refine cx_seq' fun K25 hK25 => ?_
              refine cx_region' ?_
              refine sx_rd' (rd_move' rfl) rfl rfl (wt_none' rfl) ?_
              refine sx_rd' (rd_bin' rfl rfl eg_int ru_andn) rfl rfl (wt_none' rfl) ?_
              refine sx_rd' (rd_assign' rfl) rfl rfl (wt_none' rfl) ?_
              refine sx_nil' ?_
              show TX E K25 _
              refine tx_k' hK25 ?_
              refine cx_seq' fun K26 hK26 => ?_
              refine cx_region' ?_
              refine sx_rd' (rd_move' rfl) rfl rfl (wt_none' rfl) ?_
              refine sx_rd' (rd_move' rfl) rfl rfl (wt_none' rfl) ?_
              refine sx_rd' (rd_bin' rfl rfl eg_int ru_add) rfl rfl (wt_none' rfl) ?_
              refine sx_rd' (rd_conv' rfl (ru_i2i (by rw [Try.underlying3]; rfl) Try.underlying112)) rfl rfl (wt_none' rfl) ?_
              obtain ⟨r57, hr57, hp⟩ := bind_some hp
              refine sx_rd' (rd_bin' rfl rfl eg_int (ru_shl hr57)) rfl rfl (wt_none' rfl) ?_
              refine sx_rd' (rd_bin' rfl rfl eg_int ru_or) rfl rfl (wt_none' rfl) ?_
              refine sx_rd' (rd_assign' rfl) rfl rfl (wt_none' rfl) ?_
              refine sx_nil' ?_
              show TX E K26 _
              refine tx_k' hK26 ?_
              refine cx_seq' fun K27 hK27 => ?_
              refine cx_region' ?_
              refine sx_rd' (rd_move' rfl) rfl rfl (wt_none' rfl) ?_
              refine sx_rd' (rd_move' rfl) rfl rfl (wt_none' rfl) ?_
              refine sx_rd' (rd_ext' (us := [.int .u64 (ior .u64 (iandn .u64 (fbits r22.1) 9218868437227405312) r57)]) rfl (ext84 ex_from)) rfl rfl (wt_none' rfl) ?_
              obtain ⟨r62, hr62, hp⟩ := bind_some hp
              refine sx_ox' (ox_fop' (.inr (.inr (.inl rfl))) (fl_v rfl) (fl_v rfl) (Option.some.inj hr62) rfl rfl) (wt_none' rfl) fun _ => ?_
              refine sx_rd' (rd_assign' rfl) rfl rfl (wt_none' rfl) ?_
              refine sx_nil' ?_
              show TX E K27 _
              refine tx_k' hK27 ?_
              refine cx_retc' ?_
              replace hp := Option.some.inj hp
              subst hp
              refine tx_pick' (L' := [(4, (Fl r62))]) (H' := []) [] (sub_cons rfl sub_nil) (by decide) pick_nil ?_
              exact tx_ret1' Try.results126 rfl () (rv_tmp' rfl) (List.Sublist.refl _)
            · intro K22 hK22
              refine cx_seq' fun K23 hK23 => ?_
              refine cx_region' ?_
              refine sx_rd' (rd_move' rfl) rfl rfl (wt_none' rfl) ?_
              refine sx_rd' (rd_bin' rfl rfl eg_int ru_lss) rfl rfl (wt_none' rfl) ?_
              refine sx_nil' ?_
              show TX E K23 _
              refine tx_k' hK23 ?_
              refine cx_cond' rfl (fun h7 => ?_) (fun h7 => ?_)
              · replace hp := (br_t h7).symm.trans hp
                refine cx_seq' fun K24 hK24 => ?_
                refine cx_region' ?_
                refine sx_rd' (rd_move' rfl) rfl rfl (wt_none' rfl) ?_
                refine sx_rd' (rd_bin' rfl rfl eg_int ru_add) rfl rfl (wt_none' rfl) ?_
                refine sx_rd' (rd_assign' rfl) rfl rfl (wt_none' rfl) ?_
                refine sx_nil' ?_
                show TX E K24 _
                refine tx_k' hK24 ?_
                refine cx_region' ?_
                refine sx_rd' (rd_assign' rfl) rfl rfl (wt_none' rfl) ?_
                refine sx_nil' ?_
                show TX E K22 _
                exact tx_pick' [] (sub_cons rfl (sub_cons rfl (sub_cons rfl sub_nil))) (by decide) pick_nil (hK22 ((iadd .i64 (iadd .i64 (iadd .i64 a1 r22.2) (isub .i64 (iand .i64 (icv .i64 r32) 2047) 1023)) 53), 4368491638549381120) hp)
              · replace hp := (br_f h7).symm.trans hp
                refine cx_skip' ?_
                show TX E K22 _
                exact tx_pick' [] (sub_cons rfl (sub_cons rfl (sub_cons rfl sub_nil))) (by decide) pick_nil (hK22 ((iadd .i64 (iadd .i64 a1 r22.2) (isub .i64 (iand .i64 (icv .i64 r32) 2047) 1023)), 4607182418800017408) hp)
    · intro K6 hK6
      rcases br_cases hp with ⟨h2, hp⟩ | ⟨h2, hp⟩
      · refine sx_skip' rfl rfl (wt_is' (wt_guard' rfl rfl rfl) (beq_tf h2)) ?_
        refine sx_skip' rfl rfl (wt_is' (wt_guard' rfl rfl rfl) (beq_tf h2)) ?_
        refine sx_rd' (rd_pick_true' rfl h2 rfl) rfl rfl (wt_none' rfl) ?_
        refine sx_nil' ?_
        show TX E K6 _
        exact tx_pick' [] (sub_cons rfl (sub_cons rfl (sub_cons rfl sub_nil))) (by decide) pick_nil (hK6 true hp)
      · refine sx_rd' (rd_move' rfl) rfl rfl (wt_is' (wt_guard' rfl rfl rfl) (beq_ff h2)) ?_
        obtain ⟨r17, hr17, hp⟩ := bind_some hp
        refine sx_ox' (ox_calln' (ent_fn' Try.func147 isn147 rfl rfl) (math_IsNaN_sim _ hr17 : Go.Sx.Fn Try.prog 147 [(Vl (.float .f64 a0))] [] (fun x : Unit => (Vl (.bool r17))) (fun x => [])) (Hn := fun x : Unit => []) (fun _ => rfl) rfl rfl) (wt_is' (wt_guard' rfl rfl rfl) (beq_ff h2)) fun ⟨⟩ => ?_
        refine sx_rd' (rd_pick_false' rfl h2 rfl) rfl rfl (wt_none' rfl) ?_
        refine sx_nil' ?_
        show TX E K6 _
        exact tx_pick' [] (sub_cons rfl (sub_cons rfl (sub_cons rfl sub_nil))) (by decide) pick_nil (hK6 r17 hp)

def math_Ldexp (k : Nat) (a0 : Nat) (a1 : Int) : Option (Nat) :=
  (math_ldexp k a0 a1) >>= fun r10 =>
  some r10

theorem math_Ldexp_sim {k : Nat}  (a0 : Nat) (a1 : Int) {out : Nat} (hp : math_Ldexp k a0 a1 = some out) : Go.Sx.Fn Try.prog 77 [(Vl (.float .f64 a0)), (Vl (.int .i64 a1))] [] (fun w : Unit => (Fl out)) (fun w => []) := by
  unfold math_Ldexp at hp
  refine fn_of Try.func77 rfl Try.ntmps77 rfl fun E hM => ?_
  refine cx_seq' fun K1 hK1 => ?_
  refine cx_region' ?_
  refine sx_rd' (rd_assign' rfl) rfl rfl (wt_none' rfl) ?_
  refine sx_nil' ?_
  show TX E K1 _
  refine tx_k' hK1 ?_
  refine cx_seq' fun K2 hK2 => ?_
  refine cx_cond_f' rfl rfl ?_
  refine cx_skip' ?_
  show TX E K2 _
  refine tx_k' hK2 ?_
  refine cx_seq' fun K3 hK3 => ?_
  refine cx_region' ?_
  refine sx_rd' (rd_move' rfl) rfl rfl (wt_none' rfl) ?_
  refine sx_rd' (rd_move' rfl) rfl rfl (wt_none' rfl) ?_
  obtain ⟨r10, hr10, hp⟩ := bind_some hp
  refine sx_ox' (ox_calln' (ent_fn' Try.func126 isn126 rfl rfl) (math_ldexp_sim _ _ hr10 : Go.Sx.Fn Try.prog 126 [(Vl (.float .f64 a0)), (Vl (.int .i64 a1))] [] (fun x : Unit => (Fl r10)) (fun x => [])) (Hn := fun x : Unit => []) (fun _ => rfl) rfl rfl) (wt_none' rfl) fun ⟨⟩ => ?_
  refine sx_rd' (rd_assign' rfl) rfl rfl (wt_none' rfl) ?_
  refine sx_nil' ?_
  show TX E K3 _
  refine tx_k' hK3 ?_
  refine cx_retc' ?_
  replace hp := Option.some.inj hp
  subst hp
  refine tx_pick' (L' := [(4, (Fl r10))]) (H' := []) [] (sub_cons rfl sub_nil) (by decide) pick_nil ?_
  exact tx_ret1' Try.results77 rfl () (rv_tmp' rfl) (List.Sublist.refl _)

def math_mod_j6 (k : Nat) (r26 : Nat) (r29 : Nat × Int) (x7 : Nat) (rec1 : Nat → Option (Nat)) (x6 : Int) : Option (Nat) :=
  (math_Ldexp k r26 (isub .i64 x6 r29.2)) >>= fun r55 =>
  (some (gsub x7 r55)) >>= fun r56 =>
  rec1 r56
def math_mod_l1s (r26 : Nat) (r29 : Nat × Int) (k : Nat) (rec1 : Nat → Option (Nat)) (x7 : Nat) : Option (Nat) :=
  br (fge x7 r26)
    ((num x7) >>= fun u1 =>
    (math_Frexp k x7) >>= fun r42 =>
    br (flt r42.1 r29.1)
      (math_mod_j6 k r26 r29 x7 rec1 (isub .i64 r42.2 1))
      (math_mod_j6 k r26 r29 x7 rec1 r42.2))
    (some x7)
def math_mod_l1 (r26 : Nat) (r29 : Nat × Int) : Nat → Nat → Option (Nat)
  | 0, _ => none
  | k + 1, v => math_mod_l1s r26 r29 k (math_mod_l1 r26 r29 k) v
def math_mod_j7 (k : Nat) (x9 : Nat) : Option (Nat) :=
  some x9
def math_mod_j4 (k : Nat) (r26 : Nat) (r29 : Nat × Int) (a0 : Nat) (x4 : Nat) : Option (Nat) :=
  (math_mod_l1 r26 r29 k x4) >>= fun v8 =>
  br (flt a0 0)
    (math_mod_j7 k (fneg v8))
    (math_mod_j7 k v8)
def math_mod_j3 (k : Nat) (a1 : Nat) (a0 : Nat) (x3 : Bool) : Option (Nat) :=
  br x3
    ((math_NaN k) >>= fun r24 =>
    some r24)
    ((math_Abs k a1) >>= fun r26 =>
    (math_Frexp k r26) >>= fun r29 =>
    br (flt a0 0)
      (math_mod_j4 k r26 r29 a0 (fneg a0))
      (math_mod_j4 k r26 r29 a0 a0))
def math_mod_j2 (k : Nat) (a1 : Nat) (a0 : Nat) (x2 : Bool) : Option (Nat) :=
  br x2
    (math_mod_j3 k a1 a0 true)
    ((math_IsNaN k a1) >>= fun r22 =>
    math_mod_j3 k a1 a0 r22)
def math_mod_j1 (k : Nat) (a1 : Nat) (a0 : Nat) (x1 : Bool) : Option (Nat) :=
  br x1
    (math_mod_j2 k a1 a0 true)
    ((math_IsNaN k a0) >>= fun r18 =>
    math_mod_j2 k a1 a0 r18)
def math_mod (k : Nat) (a0 : Nat) (a1 : Nat) : Option (Nat) :=
  br (feq a1 0)
    (math_mod_j1 k a1 a0 true)
    ((math_IsInf k a0 0) >>= fun r14 =>
    math_mod_j1 k a1 a0 r14)

theorem math_mod_sim {k : Nat}  (a0 : Nat) (a1 : Nat) {out : Nat} (hp : math_mod k a0 a1 = some out) : Go.Sx.Fn Try.prog 171 [(Vl (.float .f64 a0)), (Vl (.float .f64 a1))] [] (fun w : Unit => (Fl out)) (fun w => []) := by
  unfold math_mod at hp
  refine fn_of Try.func171 rfl Try.ntmps171 rfl fun E hM => ?_
  refine cx_seq' fun K1 hK1 => ?_
  refine cx_region' ?_
  refine sx_rd' (rd_assign' rfl) rfl rfl (wt_none' rfl) ?_
  refine sx_nil' ?_
  show TX E K1 _
  refine tx_k' hK1 ?_
  refine cx_seq' fun K2 hK2 => ?_
  refine cx_seq' fun K3 hK3 => ?_
  refine cx_region' ?_
  refine sx_rd' (rd_move' rfl) rfl rfl (wt_none' rfl) ?_
  refine sx_rd' (rd_bin' rfl rfl eg_flt ru_feq) rfl rfl (wt_none' rfl) ?_
  refine sx_rd' (rd_move' rfl) rfl rfl (wt_none' rfl) ?_
  refine sx_cutn' 3 (fun (v1 : Bool) => (⟨62, [], [(0, (Vl (.float .f64 a0))), (1, (Vl (.float .f64 a1))), (15, (Vl (.bool v1)))], []⟩ : St)) (fun (v1 : Bool) => math_mod_j1 k a1 a0 v1 = some out) ?_ ?_
  · rintro x1 hp
    replace hp : math_mod_j1 k a1 a0 x1 = some out := hp
    unfold math_mod_j1 at hp
    refine sx_rd' (rd_move' rfl) rfl rfl (wt_none' rfl) ?_
    refine sx_cutn' 3 (fun (v2 : Bool) => (⟨62, [], [(0, (Vl (.float .f64 a0))), (1, (Vl (.float .f64 a1))), (19, (Vl (.bool v2)))], []⟩ : St)) (fun (v2 : Bool) => math_mod_j2 k a1 a0 v2 = some out) ?_ ?_
    · rintro x2 hp
      replace hp : math_mod_j2 k a1 a0 x2 = some out := hp
      unfold math_mod_j2 at hp
      refine sx_rd' (rd_move' rfl) rfl rfl (wt_none' rfl) ?_
      refine sx_cutn' 3 (fun (v3 : Bool) => (⟨62, [], [(0, (Vl (.float .f64 a0))), (1, (Vl (.float .f64 a1))), (23, (Vl (.bool v3)))], []⟩ : St)) (fun (v3 : Bool) => math_mod_j3 k a1 a0 v3 = some out) ?_ ?_
      · rintro x3 hp
        replace hp : math_mod_j3 k a1 a0 x3 = some out := hp
        unfold math_mod_j3 at hp
        refine sx_nil' ?_
        show TX E K3 _
        refine tx_k' hK3 ?_
        refine cx_cond' rfl (fun h4 => ?_) (fun h4 => ?_)
        · replace hp := (br_t h4).symm.trans hp
          refine cx_seq' fun K7 hK7 => ?_
          refine cx_region' ?_
          obtain ⟨r24, hr24, hp⟩ := bind_some hp
          refine sx_ox' (ox_calln' (ent_fn' Try.func165 isn165 rfl rfl) (math_NaN_sim hr24 : Go.Sx.Fn Try.prog 165 [] [] (fun x : Unit => (Vl (.float .f64 r24))) (fun x => [])) (Hn := fun x : Unit => []) (fun _ => rfl) rfl rfl) (wt_none' rfl) fun ⟨⟩ => ?_
          refine sx_rd' (rd_assign' rfl) rfl rfl (wt_none' rfl) ?_
          refine sx_nil' ?_
          show TX E K7 _
          refine tx_k' hK7 ?_
          refine cx_retc' ?_
          replace hp := Option.some.inj hp
          subst hp
          refine tx_pick' (L' := [(4, (Vl (.float .f64 r24)))]) (H' := []) [] (sub_cons rfl sub_nil) (by decide) pick_nil ?_
          exact tx_ret1' Try.results171 rfl () (rv_imp' (x := (Vl (.float .f64 r24))) (y := (Fl r24)) (rv_tmp' rfl) imp_vf) (List.Sublist.refl _)
        · replace hp := (br_f h4).symm.trans hp
          refine cx_skip' ?_
          show TX E K2 _
          refine tx_k' hK2 ?_
          refine cx_seq' fun K8 hK8 => ?_
          refine cx_region' ?_
          refine sx_rd' (rd_move' rfl) rfl rfl (wt_none' rfl) ?_
          obtain ⟨r26, hr26, hp⟩ := bind_some hp
          refine sx_ox' (ox_calln' (ent_fn' Try.func38 isn38 rfl rfl) (math_Abs_sim _ hr26 : Go.Sx.Fn Try.prog 38 [(Vl (.float .f64 a1))] [] (fun x : Unit => (Vl (.float .f64 r26))) (fun x => [])) (Hn := fun x : Unit => []) (fun _ => rfl) rfl rfl) (wt_none' rfl) fun ⟨⟩ => ?_
          refine sx_rd' (rd_assign' rfl) rfl rfl (wt_none' rfl) ?_
          refine sx_nil' ?_
          show TX E K8 _
          refine tx_k' hK8 ?_
          refine cx_seq' fun K9 hK9 => ?_
          refine cx_region' ?_
          refine sx_rd' (rd_move' rfl) rfl rfl (wt_none' rfl) ?_
          obtain ⟨r29, hr29, hp⟩ := bind_some hp
          refine sx_ox' (ox_calln' (ent_fn' Try.func174 isn174 rfl rfl) (math_Frexp_sim _ hr29 : Go.Sx.Fn Try.prog 174 [(Vl (.float .f64 r26))] [] (fun x : Unit => (Tu [(Vl (.float .f64 r29.1)), (Vl (.int .i64 r29.2))])) (fun x => [])) (Hn := fun x : Unit => []) (fun _ => rfl) rfl rfl) (wt_none' rfl) fun ⟨⟩ => ?_
          refine sx_rd' (rd_move' rfl) rfl rfl (wt_none' rfl) ?_
          refine sx_rd' (rd_extract' rfl rfl) rfl rfl (wt_none' rfl) ?_
          refine sx_rd' (rd_extract' rfl rfl) rfl rfl (wt_none' rfl) ?_
          refine sx_rd' (rd_assign' rfl) rfl rfl (wt_none' rfl) ?_
          refine sx_rd' (rd_assign' rfl) rfl rfl (wt_none' rfl) ?_
          refine sx_nil' ?_
          show TX E K9 _
          refine tx_k' hK9 ?_
          refine cx_seq' fun K10 hK10 => ?_
          refine cx_region' ?_
          refine sx_rd' (rd_move' rfl) rfl rfl (wt_none' rfl) ?_
          refine sx_rd' (rd_assign' rfl) rfl rfl (wt_none' rfl) ?_
          refine sx_nil' ?_
          show TX E K10 _
          refine tx_k' hK10 ?_
          refine cx_join' (fun (v4 : Nat) => (⟨62, [], [(0, (Vl (.float .f64 a0))), (1, (Vl (.float .f64 r26))), (5, (Vl (.float .f64 r29.1))), (6, (Vl (.int .i64 r29.2))), (7, (Vl (.float .f64 v4)))], []⟩ : St)) (fun (v4 : Nat) => math_mod_j4 k r26 r29 a0 v4 = some out) ?_ ?_
          · rintro x4 hp
            replace hp : math_mod_j4 k r26 r29 a0 x4 = some out := hp
            unfold math_mod_j4 at hp
            refine cx_seq' fun K13 hK13 => ?_
            refine cx_block' ?_
            obtain ⟨v8, hy1, hp⟩ := bind_some hp
            refine tx_slot' 7 (y := (Fl x4)) rfl imp_vf ?_
            refine cx_loopg' (F := math_mod_l1 r26 r29) (G := fun k R v => math_mod_l1s r26 r29 k R v) (x := x4) (gh := ()) (fun (v6 : Nat) (w6 : Unit) => (⟨62, [], [(0, (Vl (.float .f64 a0))), (1, (Vl (.float .f64 r26))), (5, (Vl (.float .f64 r29.1))), (6, (Vl (.int .i64 r29.2))), (7, (Fl v6))], []⟩ : St)) (fun (v8 : Nat) => Zg E (Exit.exit 0) (fun (w8 : Unit) => (⟨62, [], [(0, (Vl (.float .f64 a0))), (7, (Fl v8))], []⟩ : St))) (fun _ => rfl) (fun _ _ => rfl) ?_ hy1 (tx_to' rfl [] (sub_cons rfl (sub_cons rfl (sub_cons rfl (sub_cons rfl (sub_cons rfl sub_nil))))) (by decide) pick_nil) ?_
            · clear hp hy1
              clear v8
              intro k rec1 KY1 ih1
              rintro x7 ⟨⟩ y1 hp
              replace hp : math_mod_l1s r26 r29 k rec1 x7 = some y1 := hp
              unfold math_mod_l1s at hp
              refine cx_seq' fun K19 hK19 => ?_
              refine cx_seq' fun K20 hK20 => ?_
              refine cx_region' ?_
              refine sx_rd' (rd_move' rfl) rfl rfl (wt_none' rfl) ?_
              refine sx_rd' (rd_move' rfl) rfl rfl (wt_none' rfl) ?_
              refine sx_rd' (rd_fcmp' (fl_f rfl) (fl_v rfl) rfl) rfl rfl (wt_none' rfl) ?_
              refine sx_nil' ?_
              show TX E K20 _
              refine tx_k' hK20 ?_
              refine cx_cond' rfl (fun h9 => ?_) (fun h9 => ?_)
              · replace hp := (br_t h9).symm.trans hp
                refine cx_skip' ?_
                show TX E K19 _
                refine tx_k' hK19 ?_
                refine cx_block' ?_
                refine cx_seq' fun K21 hK21 => ?_
                refine cx_region' ?_
                refine sx_rd' (rd_move' rfl) rfl rfl (wt_none' rfl) ?_
                obtain ⟨u1, hu1, hp⟩ := bind_some hp
                refine tx_slot' 41 (y := (Vl (.float .f64 x7))) rfl (imp_num (num_some hu1).2) ?_
                obtain ⟨r42, hr42, hp⟩ := bind_some hp
                refine sx_ox' (ox_calln' (ent_fn' Try.func174 isn174 rfl rfl) (math_Frexp_sim _ hr42 : Go.Sx.Fn Try.prog 174 [(Vl (.float .f64 x7))] [] (fun x : Unit => (Tu [(Vl (.float .f64 r42.1)), (Vl (.int .i64 r42.2))])) (fun x => [])) (Hn := fun x : Unit => []) (fun _ => rfl) rfl rfl) (wt_none' rfl) fun ⟨⟩ => ?_
                refine sx_rd' (rd_move' rfl) rfl rfl (wt_none' rfl) ?_
                refine sx_rd' (rd_extract' rfl rfl) rfl rfl (wt_none' rfl) ?_
                refine sx_rd' (rd_extract' rfl rfl) rfl rfl (wt_none' rfl) ?_
                refine sx_rd' (rd_assign' rfl) rfl rfl (wt_none' rfl) ?_
                refine sx_rd' (rd_assign' rfl) rfl rfl (wt_none' rfl) ?_
                refine sx_nil' ?_
                show TX E K21 _
                refine tx_k' hK21 ?_
                refine cx_join' (fun (v7 : Int) => (⟨62, [], [(0, (Vl (.float .f64 a0))), (1, (Vl (.float .f64 r26))), (5, (Vl (.float .f64 r29.1))), (6, (Vl (.int .i64 r29.2))), (7, (Fl x7)), (9, (Vl (.int .i64 v7)))], []⟩ : St)) (fun (v7 : Int) => math_mod_j6 k r26 r29 x7 rec1 v7 = some y1) ?_ ?_
                · rintro x6 hp
                  replace hp : math_mod_j6 k r26 r29 x7 rec1 x6 = some y1 := hp
                  unfold math_mod_j6 at hp
                  refine cx_region' ?_
                  refine sx_rd' (rd_move' rfl) rfl rfl (wt_none' rfl) ?_
                  refine sx_rd' (rd_move' rfl) rfl rfl (wt_none' rfl) ?_
                  refine sx_rd' (rd_move' rfl) rfl rfl (wt_none' rfl) ?_
                  refine sx_rd' (rd_move' rfl) rfl rfl (wt_none' rfl) ?_
                  refine sx_rd' (rd_bin' rfl rfl eg_int ru_sub) rfl rfl (wt_none' rfl) ?_
                  obtain ⟨r55, hr55, hp⟩ := bind_some hp
                  refine sx_ox' (ox_calln' (ent_fn' Try.func77 isn77 rfl rfl) (math_Ldexp_sim _ _ hr55 : Go.Sx.Fn Try.prog 77 [(Vl (.float .f64 r26)), (Vl (.int .i64 (isub .i64 x6 r29.2)))] [] (fun x : Unit => (Fl r55)) (fun x => [])) (Hn := fun x : Unit => []) (fun _ => rfl) rfl rfl) (wt_none' rfl) fun ⟨⟩ => ?_
                  obtain ⟨r56, hr56, hp⟩ := bind_some hp
                  refine sx_ox' (ox_fop' (.inr (.inl rfl)) (fl_f rfl) (fl_f rfl) (Option.some.inj hr56) rfl rfl) (wt_none' rfl) fun _ => ?_
                  refine sx_rd' (rd_assign' rfl) rfl rfl (wt_none' rfl) ?_
                  refine sx_nil' ?_
                  show TX E (KY1 _) _
                  exact tx_pick' [] (sub_cons rfl (sub_cons rfl (sub_cons rfl (sub_cons rfl (sub_cons rfl sub_nil))))) (by decide) pick_nil (ih1 r56 () _ hp)
                · intro K22 hK22
                  refine cx_seq' fun K23 hK23 => ?_
                  refine cx_region' ?_
                  refine sx_rd' (rd_move' rfl) rfl rfl (wt_none' rfl) ?_
                  refine sx_rd' (rd_move' rfl) rfl rfl (wt_none' rfl) ?_
                  refine sx_rd' (rd_bin' rfl rfl eg_flt ru_flt) rfl rfl (wt_none' rfl) ?_
                  refine sx_nil' ?_
                  show TX E K23 _
                  refine tx_k' hK23 ?_
                  refine cx_cond' rfl (fun h10 => ?_) (fun h10 => ?_)
                  · replace hp := (br_t h10).symm.trans hp
                    refine cx_region' ?_
                    refine sx_rd' (rd_move' rfl) rfl rfl (wt_none' rfl) ?_
                    refine sx_rd' (rd_bin' rfl rfl eg_int ru_sub) rfl rfl (wt_none' rfl) ?_
                    refine sx_rd' (rd_assign' rfl) rfl rfl (wt_none' rfl) ?_
                    refine sx_nil' ?_
                    show TX E K22 _
                    exact tx_pick' [] (sub_cons rfl (sub_cons rfl (sub_cons rfl (sub_cons rfl (sub_cons rfl (sub_cons rfl sub_nil)))))) (by decide) pick_nil (hK22 (isub .i64 r42.2 1) hp)
                  · replace hp := (br_f h10).symm.trans hp
                    refine cx_skip' ?_
                    show TX E K22 _
                    exact tx_pick' [] (sub_cons rfl (sub_cons rfl (sub_cons rfl (sub_cons rfl (sub_cons rfl (sub_cons rfl sub_nil)))))) (by decide) pick_nil (hK22 r42.2 hp)
              · replace hp := (br_f h9).symm.trans hp
                refine cx_exit' ?_
                replace hp := Option.some.inj hp
                subst hp
                show TX E (Zg E (Exit.exit 0) _ (Exit.exit 0)) _
                exact tx_zend' () rfl [] (sub_cons rfl (sub_cons rfl sub_nil)) (by decide) pick_nil
            · refine zg_out fun w8 => ?_
              show TX E K13 _
              refine tx_k' hK13 ?_
              refine cx_join' (fun (v9 : Nat) => (⟨62, [], [(7, (Fl v9))], []⟩ : St)) (fun (v9 : Nat) => math_mod_j7 k v9 = some out) ?_ ?_
              · rintro x9 hp
                replace hp : math_mod_j7 k x9 = some out := hp
                unfold math_mod_j7 at hp
                refine cx_seq' fun K26 hK26 => ?_
                refine cx_region' ?_
                refine sx_rd' (rd_move' rfl) rfl rfl (wt_none' rfl) ?_
                refine sx_rd' (rd_assign' rfl) rfl rfl (wt_none' rfl) ?_
                refine sx_nil' ?_
                show TX E K26 _
                refine tx_k' hK26 ?_
                refine cx_retc' ?_
                replace hp := Option.some.inj hp
                subst hp
                refine tx_pick' (L' := [(4, (Fl x9))]) (H' := []) [] (sub_cons rfl sub_nil) (by decide) pick_nil ?_
                exact tx_ret1' Try.results171 rfl () (rv_tmp' rfl) (List.Sublist.refl _)
              · intro K24 hK24
                refine cx_seq' fun K25 hK25 => ?_
                refine cx_region' ?_
                refine sx_rd' (rd_move' rfl) rfl rfl (wt_none' rfl) ?_
                refine sx_rd' (rd_bin' rfl rfl eg_flt ru_flt) rfl rfl (wt_none' rfl) ?_
                refine sx_nil' ?_
                show TX E K25 _
                refine tx_k' hK25 ?_
                refine cx_cond' rfl (fun h11 => ?_) (fun h11 => ?_)
                · replace hp := (br_t h11).symm.trans hp
                  refine cx_region' ?_
                  refine sx_rd' (rd_move' rfl) rfl rfl (wt_none' rfl) ?_
                  refine sx_rd' (rd_fneg_fl' (fl_f rfl)) rfl rfl (wt_none' rfl) ?_
                  refine sx_rd' (rd_assign' rfl) rfl rfl (wt_none' rfl) ?_
                  refine sx_nil' ?_
                  show TX E K24 _
                  exact tx_pick' [] (sub_cons rfl sub_nil) (by decide) pick_nil (hK24 (fneg v8) hp)
                · replace hp := (br_f h11).symm.trans hp
                  refine cx_skip' ?_
                  show TX E K24 _
                  exact tx_pick' [] (sub_cons rfl sub_nil) (by decide) pick_nil (hK24 v8 hp)
          · intro K11 hK11
            refine cx_seq' fun K12 hK12 => ?_
            refine cx_region' ?_
            refine sx_rd' (rd_move' rfl) rfl rfl (wt_none' rfl) ?_
            refine sx_rd' (rd_bin' rfl rfl eg_flt ru_flt) rfl rfl (wt_none' rfl) ?_
            refine sx_nil' ?_
            show TX E K12 _
            refine tx_k' hK12 ?_
            refine cx_cond' rfl (fun h5 => ?_) (fun h5 => ?_)
            · replace hp := (br_t h5).symm.trans hp
              refine cx_region' ?_
              refine sx_rd' (rd_move' rfl) rfl rfl (wt_none' rfl) ?_
              refine sx_rd' (rd_un' rfl ru_fneg) rfl rfl (wt_none' rfl) ?_
              refine sx_rd' (rd_assign' rfl) rfl rfl (wt_none' rfl) ?_
              refine sx_nil' ?_
              show TX E K11 _
              exact tx_pick' [] (sub_cons rfl (sub_cons rfl (sub_cons rfl (sub_cons rfl (sub_cons rfl sub_nil))))) (by decide) pick_nil (hK11 (fneg a0) hp)
            · replace hp := (br_f h5).symm.trans hp
              refine cx_skip' ?_
              show TX E K11 _
              exact tx_pick' [] (sub_cons rfl (sub_cons rfl (sub_cons rfl (sub_cons rfl (sub_cons rfl sub_nil))))) (by decide) pick_nil (hK11 a0 hp)
      · intro K6 hK6
        rcases br_cases hp with ⟨h3, hp⟩ | ⟨h3, hp⟩
        · refine sx_skip' rfl rfl (wt_is' (wt_guard' rfl rfl rfl) (beq_tf h3)) ?_
          refine sx_skip' rfl rfl (wt_is' (wt_guard' rfl rfl rfl) (beq_tf h3)) ?_
          refine sx_rd' (rd_pick_true' rfl h3 rfl) rfl rfl (wt_none' rfl) ?_
          refine sx_nil' ?_
          show TX E K6 _
          exact tx_pick' [] (sub_cons rfl (sub_cons rfl (sub_cons rfl sub_nil))) (by decide) pick_nil (hK6 true hp)
        · refine sx_rd' (rd_move' rfl) rfl rfl (wt_is' (wt_guard' rfl rfl rfl) (beq_ff h3)) ?_
          obtain ⟨r22, hr22, hp⟩ := bind_some hp
          refine sx_ox' (ox_calln' (ent_fn' Try.func147 isn147 rfl rfl) (math_IsNaN_sim _ hr22 : Go.Sx.Fn Try.prog 147 [(Vl (.float .f64 a1))] [] (fun x : Unit => (Vl (.bool r22))) (fun x => [])) (Hn := fun x : Unit => []) (fun _ => rfl) rfl rfl) (wt_is' (wt_guard' rfl rfl rfl) (beq_ff h3)) fun ⟨⟩ => ?_
          refine sx_rd' (rd_pick_false' rfl h3 rfl) rfl rfl (wt_none' rfl) ?_
          refine sx_nil' ?_
          show TX E K6 _
          exact tx_pick' [] (sub_cons rfl (sub_cons rfl (sub_cons rfl sub_nil))) (by decide) pick_nil (hK6 r22 hp)
    · intro K5 hK5
      rcases br_cases hp with ⟨h2, hp⟩ | ⟨h2, hp⟩
      · refine sx_skip' rfl rfl (wt_is' (wt_guard' rfl rfl rfl) (beq_tf h2)) ?_
        refine sx_skip' rfl rfl (wt_is' (wt_guard' rfl rfl rfl) (beq_tf h2)) ?_
        refine sx_rd' (rd_pick_true' rfl h2 rfl) rfl rfl (wt_none' rfl) ?_
        refine sx_nil' ?_
        show TX E K5 _
        exact tx_pick' [] (sub_cons rfl (sub_cons rfl (sub_cons rfl sub_nil))) (by decide) pick_nil (hK5 true hp)
      · refine sx_rd' (rd_move' rfl) rfl rfl (wt_is' (wt_guard' rfl rfl rfl) (beq_ff h2)) ?_
        obtain ⟨r18, hr18, hp⟩ := bind_some hp
        refine sx_ox' (ox_calln' (ent_fn' Try.func147 isn147 rfl rfl) (math_IsNaN_sim _ hr18 : Go.Sx.Fn Try.prog 147 [(Vl (.float .f64 a0))] [] (fun x : Unit => (Vl (.bool r18))) (fun x => [])) (Hn := fun x : Unit => []) (fun _ => rfl) rfl rfl) (wt_is' (wt_guard' rfl rfl rfl) (beq_ff h2)) fun ⟨⟩ => ?_
        refine sx_rd' (rd_pick_false' rfl h2 rfl) rfl rfl (wt_none' rfl) ?_
        refine sx_nil' ?_
        show TX E K5 _
        exact tx_pick' [] (sub_cons rfl (sub_cons rfl (sub_cons rfl sub_nil))) (by decide) pick_nil (hK5 r18 hp)
  · intro K4 hK4
    rcases br_cases hp with ⟨h1, hp⟩ | ⟨h1, hp⟩
    · refine sx_skip' rfl rfl (wt_is' (wt_guard' rfl rfl rfl) (beq_tf h1)) ?_
      refine sx_skip' rfl rfl (wt_is' (wt_guard' rfl rfl rfl) (beq_tf h1)) ?_
      refine sx_rd' (rd_pick_true' rfl h1 rfl) rfl rfl (wt_none' rfl) ?_
      refine sx_nil' ?_
      show TX E K4 _
      exact tx_pick' [] (sub_cons rfl (sub_cons rfl (sub_cons rfl sub_nil))) (by decide) pick_nil (hK4 true hp)
    · refine sx_rd' (rd_move' rfl) rfl rfl (wt_is' (wt_guard' rfl rfl rfl) (beq_ff h1)) ?_
      obtain ⟨r14, hr14, hp⟩ := bind_some hp
      refine sx_ox' (ox_calln' (ent_fn' Try.func154 isn154 rfl rfl) (math_IsInf_sim _ _ hr14 : Go.Sx.Fn Try.prog 154 [(Vl (.float .f64 a0)), (Vl (.int .i64 0))] [] (fun x : Unit => (Vl (.bool r14))) (fun x => [])) (Hn := fun x : Unit => []) (fun _ => rfl) rfl rfl) (wt_is' (wt_guard' rfl rfl rfl) (beq_ff h1)) fun ⟨⟩ => ?_
      refine sx_rd' (rd_pick_false' rfl h1 rfl) rfl rfl (wt_none' rfl) ?_
      refine sx_nil' ?_
      show TX E K4 _
      exact tx_pick' [] (sub_cons rfl (sub_cons rfl (sub_cons rfl sub_nil))) (by decide) pick_nil (hK4 r14 hp)

def math_Mod (k : Nat) (a0 : Nat) (a1 : Nat) : Option (Nat) :=
  (math_mod k a0 a1) >>= fun r10 =>
  some r10

theorem math_Mod_sim {k : Nat}  (a0 : Nat) (a1 : Nat) {out : Nat} (hp : math_Mod k a0 a1 = some out) : Go.Sx.Fn Try.prog 166 [(Vl (.float .f64 a0)), (Vl (.float .f64 a1))] [] (fun w : Unit => (Fl out)) (fun w => []) := by
  unfold math_Mod at hp
  refine fn_of Try.func166 rfl Try.ntmps166 rfl fun E hM => ?_
  refine cx_seq' fun K1 hK1 => ?_
  refine cx_region' ?_
  refine sx_rd' (rd_assign' rfl) rfl rfl (wt_none' rfl) ?_
  refine sx_nil' ?_
  show TX E K1 _
  refine tx_k' hK1 ?_
  refine cx_seq' fun K2 hK2 => ?_
  refine cx_cond_f' rfl rfl ?_
  refine cx_skip' ?_
  show TX E K2 _
  refine tx_k' hK2 ?_
  refine cx_seq' fun K3 hK3 => ?_
  refine cx_region' ?_
  refine sx_rd' (rd_move' rfl) rfl rfl (wt_none' rfl) ?_
  refine sx_rd' (rd_move' rfl) rfl rfl (wt_none' rfl) ?_
  obtain ⟨r10, hr10, hp⟩ := bind_some hp
  refine sx_ox' (ox_calln' (ent_fn' Try.func171 isn171 rfl rfl) (math_mod_sim _ _ hr10 : Go.Sx.Fn Try.prog 171 [(Vl (.float .f64 a0)), (Vl (.float .f64 a1))] [] (fun x : Unit => (Fl r10)) (fun x => [])) (Hn := fun x : Unit => []) (fun _ => rfl) rfl rfl) (wt_none' rfl) fun ⟨⟩ => ?_
  refine sx_rd' (rd_assign' rfl) rfl rfl (wt_none' rfl) ?_
  refine sx_nil' ?_
  show TX E K3 _
  refine tx_k' hK3 ?_
  refine cx_retc' ?_
  replace hp := Option.some.inj hp
  subst hp
  refine tx_pick' (L' := [(4, (Fl r10))]) (H' := []) [] (sub_cons rfl sub_nil) (by decide) pick_nil ?_
  exact tx_ret1' Try.results166 rfl () (rv_tmp' rfl) (List.Sublist.refl _)

def math_remainder_j8 (k : Nat) (x9 : Nat) : Option (Nat) :=
  some x9
def math_remainder_j7 (k : Nat) (x5 : Bool) (x8 : Nat) : Option (Nat) :=
  br x5
    (math_remainder_j8 k (fneg x8))
    (math_remainder_j8 k x8)
def math_remainder_j6 (k : Nat) (x6 : Nat) (x5 : Bool) (x7 : Nat) : Option (Nat) :=
  br (flt x6 9007199254740992)
    ((some (gadd x7 x7)) >>= fun r53 =>
    br (fgt r53 x6)
      ((some (gsub x7 x6)) >>= fun r58 =>
      (some (gadd r58 r58)) >>= fun r61 =>
      br (fge r61 x6)
        ((some (gsub r58 x6)) >>= fun r66 =>
        math_remainder_j7 k x5 r66)
        (math_remainder_j7 k x5 r58))
      (math_remainder_j7 k x5 x7))
    ((some (gmul 4602678819172646912 x6)) >>= fun r68 =>
    br (fgt x7 r68)
      ((some (gsub x7 x6)) >>= fun r74 =>
      br (fge r74 r68)
        ((some (gsub r74 x6)) >>= fun r80 =>
        math_remainder_j7 k x5 r80)
        (math_remainder_j7 k x5 r74))
      (math_remainder_j7 k x5 x7))
def math_remainder_j5 (k : Nat) (x4 : Nat) (x5 : Bool) (x6 : Nat) : Option (Nat) :=
  br (feq x4 x6)
    (br x5
      (some (fneg 0))
      (some 0))
    (br (fle x6 9214364837600034815)
      ((some (gadd x6 x6)) >>= fun r47 =>
      (num r47) >>= fun u1 =>
      (math_Mod k x4 r47) >>= fun r48 =>
      math_remainder_j6 k x6 x5 r48)
      (math_remainder_j6 k x6 x5 x4))
def math_remainder_j4 (k : Nat) (a1 : Nat) (x4 : Nat) (x5 : Bool) : Option (Nat) :=
  br (flt a1 0)
    (math_remainder_j5 k x4 x5 (fneg a1))
    (math_remainder_j5 k x4 x5 a1)
def math_remainder_j3 (k : Nat) (a1 : Nat) (a0 : Nat) (x3 : Bool) : Option (Nat) :=
  br x3
    ((math_NaN k) >>= fun r23 =>
    some r23)
    ((math_IsInf k a1 0) >>= fun r26 =>
    br r26
      (some a0)
      (br (flt a0 0)
        (math_remainder_j4 k a1 (fneg a0) true)
        (math_remainder_j4 k a1 a0 false)))
def math_remainder_j2 (k : Nat) (a1 : Nat) (a0 : Nat) (x2 : Bool) : Option (Nat) :=
  br x2
    (math_remainder_j3 k a1 a0 true)
    (math_remainder_j3 k a1 a0 (feq a1 0))
def math_remainder_j1 (k : Nat) (a1 : Nat) (a0 : Nat) (x1 : Bool) : Option (Nat) :=
  br x1
    (math_remainder_j2 k a1 a0 true)
    ((math_IsInf k a0 0) >>= fun r17 =>
    math_remainder_j2 k a1 a0 r17)
def math_remainder (k : Nat) (a0 : Nat) (a1 : Nat) : Option (Nat) :=
  (math_IsNaN k a0) >>= fun r10 =>
  br r10
    (math_remainder_j1 k a1 a0 true)
    ((math_IsNaN k a1) >>= fun r13 =>
    math_remainder_j1 k a1 a0 r13)

theorem math_remainder_sim {k : Nat}  (a0 : Nat) (a1 : Nat) {out : Nat} (hp : math_remainder k a0 a1 = some out) : Go.Sx.Fn Try.prog 139 [(Vl (.float .f64 a0)), (Vl (.float .f64 a1))] [] (fun w : Unit => (Fl out)) (fun w => []) := by
  unfold math_remainder at hp
  refine fn_of Try.func139 rfl Try.ntmps139 rfl fun E hM => ?_
  refine cx_seq' fun K1 hK1 => ?_
  refine cx_region' ?_
  refine sx_rd' (rd_assign' rfl) rfl rfl (wt_none' rfl) ?_
  refine sx_nil' ?_
  show TX E K1 _
  refine tx_k' hK1 ?_
  refine cx_seq' fun K2 hK2 => ?_
  refine cx_block' ?_
  refine cx_seq' fun K3 hK3 => ?_
  refine cx_region' ?_
  refine sx_rd' (rd_move' rfl) rfl rfl (wt_none' rfl) ?_
  obtain ⟨r10, hr10, hp⟩ := bind_some hp
  refine sx_ox' (ox_calln' (ent_fn' Try.func147 isn147 rfl rfl) (math_IsNaN_sim _ hr10 : Go.Sx.Fn Try.prog 147 [(Vl (.float .f64 a0))] [] (fun x : Unit => (Vl (.bool r10))) (fun x => [])) (Hn := fun x : Unit => []) (fun _ => rfl) rfl rfl) (wt_none' rfl) fun ⟨⟩ => ?_
  refine sx_rd' (rd_move' rfl) rfl rfl (wt_none' rfl) ?_
  refine sx_cutn' 3 (fun (v1 : Bool) => (⟨85, [], [(0, (Vl (.float .f64 a0))), (1, (Vl (.float .f64 a1))), (14, (Vl (.bool v1)))], []⟩ : St)) (fun (v1 : Bool) => math_remainder_j1 k a1 a0 v1 = some out) ?_ ?_
  · rintro x1 hp
    replace hp : math_remainder_j1 k a1 a0 x1 = some out := hp
    unfold math_remainder_j1 at hp
    refine sx_rd' (rd_move' rfl) rfl rfl (wt_none' rfl) ?_
    refine sx_cutn' 3 (fun (v2 : Bool) => (⟨85, [], [(0, (Vl (.float .f64 a0))), (1, (Vl (.float .f64 a1))), (18, (Vl (.bool v2)))], []⟩ : St)) (fun (v2 : Bool) => math_remainder_j2 k a1 a0 v2 = some out) ?_ ?_
    · rintro x2 hp
      replace hp : math_remainder_j2 k a1 a0 x2 = some out := hp
      unfold math_remainder_j2 at hp
      refine sx_rd' (rd_move' rfl) rfl rfl (wt_none' rfl) ?_
      refine sx_cutn' 3 (fun (v3 : Bool) => (⟨85, [], [(0, (Vl (.float .f64 a0))), (1, (Vl (.float .f64 a1))), (22, (Vl (.bool v3)))], []⟩ : St)) (fun (v3 : Bool) => math_remainder_j3 k a1 a0 v3 = some out) ?_ ?_
      · rintro x3 hp
        replace hp : math_remainder_j3 k a1 a0 x3 = some out := hp
        unfold math_remainder_j3 at hp
        refine sx_rd' (rd_assign' rfl) rfl rfl (wt_none' rfl) ?_
        refine sx_nil' ?_
        show TX E K3 _
        refine tx_k' hK3 ?_
        refine cx_cond' rfl (fun h4 => ?_) (fun h4 => ?_)
        · replace hp := (br_t h4).symm.trans hp
          refine cx_seq' fun K7 hK7 => ?_
          refine cx_region' ?_
          obtain ⟨r23, hr23, hp⟩ := bind_some hp
          refine sx_ox' (ox_calln' (ent_fn' Try.func165 isn165 rfl rfl) (math_NaN_sim hr23 : Go.Sx.Fn Try.prog 165 [] [] (fun x : Unit => (Vl (.float .f64 r23))) (fun x => [])) (Hn := fun x : Unit => []) (fun _ => rfl) rfl rfl) (wt_none' rfl) fun ⟨⟩ => ?_
          refine sx_rd' (rd_assign' rfl) rfl rfl (wt_none' rfl) ?_
          refine sx_nil' ?_
          show TX E K7 _
          refine tx_k' hK7 ?_
          refine cx_retc' ?_
          replace hp := Option.some.inj hp
          subst hp
          refine tx_pick' (L' := [(4, (Vl (.float .f64 r23)))]) (H' := []) [] (sub_cons rfl sub_nil) (by decide) pick_nil ?_
          exact tx_ret1' Try.results139 rfl () (rv_imp' (x := (Vl (.float .f64 r23))) (y := (Fl r23)) (rv_tmp' rfl) imp_vf) (List.Sublist.refl _)
        · replace hp := (br_f h4).symm.trans hp
          refine cx_seq' fun K8 hK8 => ?_
          refine cx_region' ?_
          refine sx_rd' (rd_move' rfl) rfl rfl (wt_none' rfl) ?_
          obtain ⟨r26, hr26, hp⟩ := bind_some hp
          refine sx_ox' (ox_calln' (ent_fn' Try.func154 isn154 rfl rfl) (math_IsInf_sim _ _ hr26 : Go.Sx.Fn Try.prog 154 [(Vl (.float .f64 a1)), (Vl (.int .i64 0))] [] (fun x : Unit => (Vl (.bool r26))) (fun x => [])) (Hn := fun x : Unit => []) (fun _ => rfl) rfl rfl) (wt_none' rfl) fun ⟨⟩ => ?_
          refine sx_rd' (rd_assign' rfl) rfl rfl (wt_none' rfl) ?_
          refine sx_nil' ?_
          show TX E K8 _
          refine tx_k' hK8 ?_
          refine cx_cond' rfl (fun h5 => ?_) (fun h5 => ?_)
          · replace hp := (br_t h5).symm.trans hp
            refine cx_seq' fun K9 hK9 => ?_
            refine cx_region' ?_
            refine sx_rd' (rd_move' rfl) rfl rfl (wt_none' rfl) ?_
            refine sx_rd' (rd_assign' rfl) rfl rfl (wt_none' rfl) ?_
            refine sx_nil' ?_
            show TX E K9 _
            refine tx_k' hK9 ?_
            refine cx_retc' ?_
            replace hp := Option.some.inj hp
            subst hp
            refine tx_pick' (L' := [(4, (Vl (.float .f64 a0)))]) (H' := []) [] (sub_cons rfl sub_nil) (by decide) pick_nil ?_
            exact tx_ret1' Try.results139 rfl () (rv_imp' (x := (Vl (.float .f64 a0))) (y := (Fl a0)) (rv_tmp' rfl) imp_vf) (List.Sublist.refl _)
          · replace hp := (br_f h5).symm.trans hp
            refine cx_skip' ?_
            show TX E K2 _
            refine tx_k' hK2 ?_
            refine cx_seq' fun K10 hK10 => ?_
            refine cx_region' ?_
            refine sx_rd' (rd_assign' rfl) rfl rfl (wt_none' rfl) ?_
            refine sx_nil' ?_
            show TX E K10 _
            refine tx_k' hK10 ?_
            refine cx_join' (fun (v4 : Nat × Bool) => (⟨85, [], [(0, (Vl (.float .f64 v4.1))), (1, (Vl (.float .f64 a1))), (5, (Vl (.bool v4.2)))], []⟩ : St)) (fun (v4 : Nat × Bool) => math_remainder_j4 k a1 v4.1 v4.2 = some out) ?_ ?_
            · rintro ⟨x4, x5⟩ hp
              replace hp : math_remainder_j4 k a1 x4 x5 = some out := hp
              unfold math_remainder_j4 at hp
              refine cx_join' (fun (v5 : Nat) => (⟨85, [], [(0, (Vl (.float .f64 x4))), (1, (Vl (.float .f64 v5))), (5, (Vl (.bool x5)))], []⟩ : St)) (fun (v5 : Nat) => math_remainder_j5 k x4 x5 v5 = some out) ?_ ?_
              · rintro x6 hp
                replace hp : math_remainder_j5 k x4 x5 x6 = some out := hp
                unfold math_remainder_j5 at hp
                refine cx_seq' fun K16 hK16 => ?_
                refine cx_seq' fun K17 hK17 => ?_
                refine cx_region' ?_
                refine sx_rd' (rd_move' rfl) rfl rfl (wt_none' rfl) ?_
                refine sx_rd' (rd_move' rfl) rfl rfl (wt_none' rfl) ?_
                refine sx_rd' (rd_bin' rfl rfl eg_flt ru_feq) rfl rfl (wt_none' rfl) ?_
                refine sx_nil' ?_
                show TX E K17 _
                refine tx_k' hK17 ?_
                refine cx_cond' rfl (fun h8 => ?_) (fun h8 => ?_)
                · replace hp := (br_t h8).symm.trans hp
                  refine cx_seq' fun K18 hK18 => ?_
                  refine cx_seq' fun K19 hK19 => ?_
                  refine cx_region' ?_
                  refine sx_rd' (rd_move' rfl) rfl rfl (wt_none' rfl) ?_
                  refine sx_nil' ?_
                  show TX E K19 _
                  refine tx_k' hK19 ?_
                  refine cx_cond' rfl (fun h9 => ?_) (fun h9 => ?_)
                  · replace hp := (br_t h9).symm.trans hp
                    refine cx_seq' fun K20 hK20 => ?_
                    refine cx_region' ?_
                    refine sx_rd' (rd_assign' rfl) rfl rfl (wt_none' rfl) ?_
                    refine sx_nil' ?_
                    show TX E K20 _
                    refine tx_k' hK20 ?_
                    refine cx_seq' fun K21 hK21 => ?_
                    refine cx_region' ?_
                    refine sx_rd' (rd_move' rfl) rfl rfl (wt_none' rfl) ?_
                    refine sx_rd' (rd_un' rfl ru_fneg) rfl rfl (wt_none' rfl) ?_
                    refine sx_rd' (rd_assign' rfl) rfl rfl (wt_none' rfl) ?_
                    refine sx_nil' ?_
                    show TX E K21 _
                    refine tx_k' hK21 ?_
                    refine cx_retc' ?_
                    replace hp := Option.some.inj hp
                    subst hp
                    refine tx_pick' (L' := [(4, (Vl (.float .f64 (fneg 0))))]) (H' := []) [] (sub_cons rfl sub_nil) (by decide) pick_nil ?_
                    exact tx_ret1' Try.results139 rfl () (rv_imp' (x := (Vl (.float .f64 (fneg 0)))) (y := (Fl (fneg 0))) (rv_tmp' rfl) imp_vf) (List.Sublist.refl _)
                  · replace hp := (br_f h9).symm.trans hp
                    refine cx_skip' ?_
                    show TX E K18 _
                    refine tx_k' hK18 ?_
                    refine cx_seq' fun K22 hK22 => ?_
                    refine cx_region' ?_
                    refine sx_rd' (rd_assign' rfl) rfl rfl (wt_none' rfl) ?_
                    refine sx_nil' ?_
                    show TX E K22 _
                    refine tx_k' hK22 ?_
                    refine cx_retc' ?_
                    replace hp := Option.some.inj hp
                    subst hp
                    refine tx_pick' (L' := [(4, (Vl (.float .f64 0)))]) (H' := []) [] (sub_cons rfl sub_nil) (by decide) pick_nil ?_
                    exact tx_ret1' Try.results139 rfl () (rv_imp' (x := (Vl (.float .f64 0))) (y := (Fl 0)) (rv_tmp' rfl) imp_vf) (List.Sublist.refl _)
                · replace hp := (br_f h8).symm.trans hp
                  refine cx_skip' ?_
                  show TX E K16 _
                  refine tx_k' hK16 ?_
                  refine cx_join' (fun (v6 : Nat) => (⟨85, [], [(0, (Fl v6)), (1, (Vl (.float .f64 x6))), (5, (Vl (.bool x5)))], []⟩ : St)) (fun (v6 : Nat) => math_remainder_j6 k x6 x5 v6 = some out) ?_ ?_
                  · rintro x7 hp
                    replace hp : math_remainder_j6 k x6 x5 x7 = some out := hp
                    unfold math_remainder_j6 at hp
                    refine cx_join' (fun (v7 : Nat) => (⟨85, [], [(0, (Fl v7)), (5, (Vl (.bool x5)))], []⟩ : St)) (fun (v7 : Nat) => math_remainder_j7 k x5 v7 = some out) ?_ ?_
                    · rintro x8 hp
                      replace hp : math_remainder_j7 k x5 x8 = some out := hp
                      unfold math_remainder_j7 at hp
                      refine cx_join' (fun (v8 : Nat) => (⟨85, [], [(0, (Fl v8))], []⟩ : St)) (fun (v8 : Nat) => math_remainder_j8 k v8 = some out) ?_ ?_
                      · rintro x9 hp
                        replace hp : math_remainder_j8 k x9 = some out := hp
                        unfold math_remainder_j8 at hp
                        refine cx_seq' fun K36 hK36 => ?_
                        refine cx_region' ?_
                        refine sx_rd' (rd_move' rfl) rfl rfl (wt_none' rfl) ?_
                        refine sx_rd' (rd_assign' rfl) rfl rfl (wt_none' rfl) ?_
                        refine sx_nil' ?_
                        show TX E K36 _
                        refine tx_k' hK36 ?_
                        refine cx_retc' ?_
                        replace hp := Option.some.inj hp
                        subst hp
                        refine tx_pick' (L' := [(4, (Fl x9))]) (H' := []) [] (sub_cons rfl sub_nil) (by decide) pick_nil ?_
                        exact tx_ret1' Try.results139 rfl () (rv_tmp' rfl) (List.Sublist.refl _)
                      · intro K34 hK34
                        refine cx_seq' fun K35 hK35 => ?_
                        refine cx_region' ?_
                        refine sx_rd' (rd_move' rfl) rfl rfl (wt_none' rfl) ?_
                        refine sx_nil' ?_
                        show TX E K35 _
                        refine tx_k' hK35 ?_
                        refine cx_cond' rfl (fun h16 => ?_) (fun h16 => ?_)
                        · replace hp := (br_t h16).symm.trans hp
                          refine cx_region' ?_
                          refine sx_rd' (rd_move' rfl) rfl rfl (wt_none' rfl) ?_
                          refine sx_rd' (rd_fneg_fl' (fl_f rfl)) rfl rfl (wt_none' rfl) ?_
                          refine sx_rd' (rd_assign' rfl) rfl rfl (wt_none' rfl) ?_
                          refine sx_nil' ?_
                          show TX E K34 _
                          exact tx_pick' [] (sub_cons rfl sub_nil) (by decide) pick_nil (hK34 (fneg x8) hp)
                        · replace hp := (br_f h16).symm.trans hp
                          refine cx_skip' ?_
                          show TX E K34 _
                          exact tx_pick' [] (sub_cons rfl sub_nil) (by decide) pick_nil (hK34 x8 hp)
                    · intro K25 hK25
                      refine cx_seq' fun K26 hK26 => ?_
                      refine cx_region' ?_
                      refine sx_rd' (rd_move' rfl) rfl rfl (wt_none' rfl) ?_
                      refine sx_rd' (rd_bin' rfl rfl eg_flt ru_flt) rfl rfl (wt_none' rfl) ?_
                      refine sx_nil' ?_
                      show TX E K26 _
                      refine tx_k' hK26 ?_
                      refine cx_cond' rfl (fun h11 => ?_) (fun h11 => ?_)
                      · replace hp := (br_t h11).symm.trans hp
                        refine cx_seq' fun K27 hK27 => ?_
                        refine cx_region' ?_
                        refine sx_rd' (rd_move' rfl) rfl rfl (wt_none' rfl) ?_
                        refine sx_rd' (rd_move' rfl) rfl rfl (wt_none' rfl) ?_
                        obtain ⟨r53, hr53, hp⟩ := bind_some hp
                        refine sx_ox' (ox_fop' (.inl rfl) (fl_f rfl) (fl_f rfl) (Option.some.inj hr53) rfl rfl) (wt_none' rfl) fun _ => ?_
                        refine sx_rd' (rd_move' rfl) rfl rfl (wt_none' rfl) ?_
                        refine sx_rd' (rd_fcmp' (fl_f rfl) (fl_v rfl) rfl) rfl rfl (wt_none' rfl) ?_
                        refine sx_nil' ?_
                        show TX E K27 _
                        refine tx_k' hK27 ?_
                        refine cx_cond' rfl (fun h12 => ?_) (fun h12 => ?_)
                        · replace hp := (br_t h12).symm.trans hp
                          refine cx_seq' fun K28 hK28 => ?_
                          refine cx_region' ?_
                          refine sx_rd' (rd_move' rfl) rfl rfl (wt_none' rfl) ?_
                          refine sx_rd' (rd_move' rfl) rfl rfl (wt_none' rfl) ?_
                          obtain ⟨r58, hr58, hp⟩ := bind_some hp
                          refine sx_ox' (ox_fop' (.inr (.inl rfl)) (fl_f rfl) (fl_v rfl) (Option.some.inj hr58) rfl rfl) (wt_none' rfl) fun _ => ?_
                          refine sx_rd' (rd_assign' rfl) rfl rfl (wt_none' rfl) ?_
                          refine sx_nil' ?_
                          show TX E K28 _
                          refine tx_k' hK28 ?_
                          refine cx_seq' fun K29 hK29 => ?_
                          refine cx_region' ?_
                          refine sx_rd' (rd_move' rfl) rfl rfl (wt_none' rfl) ?_
                          refine sx_rd' (rd_move' rfl) rfl rfl (wt_none' rfl) ?_
                          obtain ⟨r61, hr61, hp⟩ := bind_some hp
                          refine sx_ox' (ox_fop' (.inl rfl) (fl_f rfl) (fl_f rfl) (Option.some.inj hr61) rfl rfl) (wt_none' rfl) fun _ => ?_
                          refine sx_rd' (rd_move' rfl) rfl rfl (wt_none' rfl) ?_
                          refine sx_rd' (rd_fcmp' (fl_f rfl) (fl_v rfl) rfl) rfl rfl (wt_none' rfl) ?_
                          refine sx_nil' ?_
                          show TX E K29 _
                          refine tx_k' hK29 ?_
                          refine cx_cond' rfl (fun h13 => ?_) (fun h13 => ?_)
                          · replace hp := (br_t h13).symm.trans hp
                            refine cx_region' ?_
                            refine sx_rd' (rd_move' rfl) rfl rfl (wt_none' rfl) ?_
                            refine sx_rd' (rd_move' rfl) rfl rfl (wt_none' rfl) ?_
                            obtain ⟨r66, hr66, hp⟩ := bind_some hp
                            refine sx_ox' (ox_fop' (.inr (.inl rfl)) (fl_f rfl) (fl_v rfl) (Option.some.inj hr66) rfl rfl) (wt_none' rfl) fun _ => ?_
                            refine sx_rd' (rd_assign' rfl) rfl rfl (wt_none' rfl) ?_
                            refine sx_nil' ?_
                            show TX E K25 _
                            exact tx_pick' [] (sub_cons rfl (sub_cons rfl sub_nil)) (by decide) pick_nil (hK25 r66 hp)
                          · replace hp := (br_f h13).symm.trans hp
                            refine cx_skip' ?_
                            show TX E K25 _
                            exact tx_pick' [] (sub_cons rfl (sub_cons rfl sub_nil)) (by decide) pick_nil (hK25 r58 hp)
                        · replace hp := (br_f h12).symm.trans hp
                          refine cx_skip' ?_
                          show TX E K25 _
                          exact tx_pick' [] (sub_cons rfl (sub_cons rfl sub_nil)) (by decide) pick_nil (hK25 x7 hp)
                      · replace hp := (br_f h11).symm.trans hp
                        refine cx_seq' fun K30 hK30 => ?_
                        refine cx_region' ?_
                        refine sx_rd' (rd_move' rfl) rfl rfl (wt_none' rfl) ?_
                        obtain ⟨r68, hr68, hp⟩ := bind_some hp
                        refine sx_ox' (ox_fop' (.inr (.inr (.inl rfl))) (fl_v rfl) (fl_v rfl) (Option.some.inj hr68) rfl rfl) (wt_none' rfl) fun _ => ?_
                        refine sx_rd' (rd_assign' rfl) rfl rfl (wt_none' rfl) ?_
                        refine sx_nil' ?_
                        show TX E K30 _
                        refine tx_k' hK30 ?_
                        refine cx_seq' fun K31 hK31 => ?_
                        refine cx_region' ?_
                        refine sx_rd' (rd_move' rfl) rfl rfl (wt_none' rfl) ?_
                        refine sx_rd' (rd_move' rfl) rfl rfl (wt_none' rfl) ?_
                        refine sx_rd' (rd_fcmp' (fl_f rfl) (fl_f rfl) rfl) rfl rfl (wt_none' rfl) ?_
                        refine sx_nil' ?_
                        show TX E K31 _
                        refine tx_k' hK31 ?_
                        refine cx_cond' rfl (fun h14 => ?_) (fun h14 => ?_)
                        · replace hp := (br_t h14).symm.trans hp
                          refine cx_seq' fun K32 hK32 => ?_
                          refine cx_region' ?_
                          refine sx_rd' (rd_move' rfl) rfl rfl (wt_none' rfl) ?_
                          refine sx_rd' (rd_move' rfl) rfl rfl (wt_none' rfl) ?_
                          obtain ⟨r74, hr74, hp⟩ := bind_some hp
                          refine sx_ox' (ox_fop' (.inr (.inl rfl)) (fl_f rfl) (fl_v rfl) (Option.some.inj hr74) rfl rfl) (wt_none' rfl) fun _ => ?_
                          refine sx_rd' (rd_assign' rfl) rfl rfl (wt_none' rfl) ?_
                          refine sx_nil' ?_
                          show TX E K32 _
                          refine tx_k' hK32 ?_
                          refine cx_seq' fun K33 hK33 => ?_
                          refine cx_region' ?_
                          refine sx_rd' (rd_move' rfl) rfl rfl (wt_none' rfl) ?_
                          refine sx_rd' (rd_move' rfl) rfl rfl (wt_none' rfl) ?_
                          refine sx_rd' (rd_fcmp' (fl_f rfl) (fl_f rfl) rfl) rfl rfl (wt_none' rfl) ?_
                          refine sx_nil' ?_
                          show TX E K33 _
                          refine tx_k' hK33 ?_
                          refine cx_cond' rfl (fun h15 => ?_) (fun h15 => ?_)
                          · replace hp := (br_t h15).symm.trans hp
                            refine cx_region' ?_
                            refine sx_rd' (rd_move' rfl) rfl rfl (wt_none' rfl) ?_
                            refine sx_rd' (rd_move' rfl) rfl rfl (wt_none' rfl) ?_
                            obtain ⟨r80, hr80, hp⟩ := bind_some hp
                            refine sx_ox' (ox_fop' (.inr (.inl rfl)) (fl_f rfl) (fl_v rfl) (Option.some.inj hr80) rfl rfl) (wt_none' rfl) fun _ => ?_
                            refine sx_rd' (rd_assign' rfl) rfl rfl (wt_none' rfl) ?_
                            refine sx_nil' ?_
                            show TX E K25 _
                            exact tx_pick' [] (sub_cons rfl (sub_cons rfl sub_nil)) (by decide) pick_nil (hK25 r80 hp)
                          · replace hp := (br_f h15).symm.trans hp
                            refine cx_skip' ?_
                            show TX E K25 _
                            exact tx_pick' [] (sub_cons rfl (sub_cons rfl sub_nil)) (by decide) pick_nil (hK25 r74 hp)
                        · replace hp := (br_f h14).symm.trans hp
                          refine cx_skip' ?_
                          show TX E K25 _
                          exact tx_pick' [] (sub_cons rfl (sub_cons rfl sub_nil)) (by decide) pick_nil (hK25 x7 hp)
                  · intro K23 hK23
                    refine cx_seq' fun K24 hK24 => ?_
                    refine cx_region' ?_
                    refine sx_rd' (rd_move' rfl) rfl rfl (wt_none' rfl) ?_
                    refine sx_rd' (rd_bin' rfl rfl eg_flt ru_fle) rfl rfl (wt_none' rfl) ?_
                    refine sx_nil' ?_
                    show TX E K24 _
                    refine tx_k' hK24 ?_
                    refine cx_cond' rfl (fun h10 => ?_) (fun h10 => ?_)
                    · replace hp := (br_t h10).symm.trans hp
                      refine cx_region' ?_
                      refine sx_rd' (rd_move' rfl) rfl rfl (wt_none' rfl) ?_
                      refine sx_rd' (rd_move' rfl) rfl rfl (wt_none' rfl) ?_
                      refine sx_rd' (rd_move' rfl) rfl rfl (wt_none' rfl) ?_
                      obtain ⟨r47, hr47, hp⟩ := bind_some hp
                      refine sx_ox' (ox_fop' (.inl rfl) (fl_v rfl) (fl_v rfl) (Option.some.inj hr47) rfl rfl) (wt_none' rfl) fun _ => ?_
                      obtain ⟨u1, hu1, hp⟩ := bind_some hp
                      refine tx_slot' 47 (y := (Vl (.float .f64 r47))) rfl (imp_num (num_some hu1).2) ?_
                      obtain ⟨r48, hr48, hp⟩ := bind_some hp
                      refine sx_ox' (ox_calln' (ent_fn' Try.func166 isn166 rfl rfl) (math_Mod_sim _ _ hr48 : Go.Sx.Fn Try.prog 166 [(Vl (.float .f64 x4)), (Vl (.float .f64 r47))] [] (fun x : Unit => (Fl r48)) (fun x => [])) (Hn := fun x : Unit => []) (fun _ => rfl) rfl rfl) (wt_none' rfl) fun ⟨⟩ => ?_
                      refine sx_rd' (rd_assign' rfl) rfl rfl (wt_none' rfl) ?_
                      refine sx_nil' ?_
                      show TX E K23 _
                      exact tx_pick' [] (sub_cons rfl (sub_cons rfl (sub_cons rfl sub_nil))) (by decide) pick_nil (hK23 r48 hp)
                    · replace hp := (br_f h10).symm.trans hp
                      refine cx_skip' ?_
                      show TX E K23 _
                      refine tx_slot' 0 (y := (Fl x4)) rfl imp_vf ?_
                      exact tx_pick' [] (sub_cons rfl (sub_cons rfl (sub_cons rfl sub_nil))) (by decide) pick_nil (hK23 x4 hp)
              · intro K14 hK14
                refine cx_seq' fun K15 hK15 => ?_
                refine cx_region' ?_
                refine sx_rd' (rd_move' rfl) rfl rfl (wt_none' rfl) ?_
                refine sx_rd' (rd_bin' rfl rfl eg_flt ru_flt) rfl rfl (wt_none' rfl) ?_
                refine sx_nil' ?_
                show TX E K15 _
                refine tx_k' hK15 ?_
                refine cx_cond' rfl (fun h7 => ?_) (fun h7 => ?_)
                · replace hp := (br_t h7).symm.trans hp
                  refine cx_region' ?_
                  refine sx_rd' (rd_move' rfl) rfl rfl (wt_none' rfl) ?_
                  refine sx_rd' (rd_un' rfl ru_fneg) rfl rfl (wt_none' rfl) ?_
                  refine sx_rd' (rd_assign' rfl) rfl rfl (wt_none' rfl) ?_
                  refine sx_nil' ?_
                  show TX E K14 _
                  exact tx_pick' [] (sub_cons rfl (sub_cons rfl (sub_cons rfl sub_nil))) (by decide) pick_nil (hK14 (fneg a1) hp)
                · replace hp := (br_f h7).symm.trans hp
                  refine cx_skip' ?_
                  show TX E K14 _
                  exact tx_pick' [] (sub_cons rfl (sub_cons rfl (sub_cons rfl sub_nil))) (by decide) pick_nil (hK14 a1 hp)
            · intro K11 hK11
              refine cx_seq' fun K12 hK12 => ?_
              refine cx_region' ?_
              refine sx_rd' (rd_move' rfl) rfl rfl (wt_none' rfl) ?_
              refine sx_rd' (rd_bin' rfl rfl eg_flt ru_flt) rfl rfl (wt_none' rfl) ?_
              refine sx_nil' ?_
              show TX E K12 _
              refine tx_k' hK12 ?_
              refine cx_cond' rfl (fun h6 => ?_) (fun h6 => ?_)
              · replace hp := (br_t h6).symm.trans hp
                refine cx_seq' fun K13 hK13 => ?_
                refine cx_region' ?_
                refine sx_rd' (rd_move' rfl) rfl rfl (wt_none' rfl) ?_
                refine sx_rd' (rd_un' rfl ru_fneg) rfl rfl (wt_none' rfl) ?_
                refine sx_rd' (rd_assign' rfl) rfl rfl (wt_none' rfl) ?_
                refine sx_nil' ?_
                show TX E K13 _
                refine tx_k' hK13 ?_
                refine cx_region' ?_
                refine sx_rd' (rd_assign' rfl) rfl rfl (wt_none' rfl) ?_
                refine sx_nil' ?_
                show TX E K11 _
                exact tx_pick' [] (sub_cons rfl (sub_cons rfl (sub_cons rfl sub_nil))) (by decide) pick_nil (hK11 ((fneg a0), true) hp)
              · replace hp := (br_f h6).symm.trans hp
                refine cx_skip' ?_
                show TX E K11 _
                exact tx_pick' [] (sub_cons rfl (sub_cons rfl (sub_cons rfl sub_nil))) (by decide) pick_nil (hK11 (a0, false) hp)
      · intro K6 hK6
        rcases br_cases hp with ⟨h3, hp⟩ | ⟨h3, hp⟩
        · refine sx_skip' rfl rfl (wt_is' (wt_guard' rfl rfl rfl) (beq_tf h3)) ?_
          refine sx_skip' rfl rfl (wt_is' (wt_guard' rfl rfl rfl) (beq_tf h3)) ?_
          refine sx_rd' (rd_pick_true' rfl h3 rfl) rfl rfl (wt_none' rfl) ?_
          refine sx_nil' ?_
          show TX E K6 _
          exact tx_pick' [] (sub_cons rfl (sub_cons rfl (sub_cons rfl sub_nil))) (by decide) pick_nil (hK6 true hp)
        · refine sx_rd' (rd_move' rfl) rfl rfl (wt_is' (wt_guard' rfl rfl rfl) (beq_ff h3)) ?_
          refine sx_rd' (rd_bin' rfl rfl eg_flt ru_feq) rfl rfl (wt_is' (wt_guard' rfl rfl rfl) (beq_ff h3)) ?_
          refine sx_rd' (rd_pick_false' rfl h3 rfl) rfl rfl (wt_none' rfl) ?_
          refine sx_nil' ?_
          show TX E K6 _
          exact tx_pick' [] (sub_cons rfl (sub_cons rfl (sub_cons rfl sub_nil))) (by decide) pick_nil (hK6 (feq a1 0) hp)
    · intro K5 hK5
      rcases br_cases hp with ⟨h2, hp⟩ | ⟨h2, hp⟩
      · refine sx_skip' rfl rfl (wt_is' (wt_guard' rfl rfl rfl) (beq_tf h2)) ?_
        refine sx_skip' rfl rfl (wt_is' (wt_guard' rfl rfl rfl) (beq_tf h2)) ?_
        refine sx_rd' (rd_pick_true' rfl h2 rfl) rfl rfl (wt_none' rfl) ?_
        refine sx_nil' ?_
        show TX E K5 _
        exact tx_pick' [] (sub_cons rfl (sub_cons rfl (sub_cons rfl sub_nil))) (by decide) pick_nil (hK5 true hp)
      · refine sx_rd' (rd_move' rfl) rfl rfl (wt_is' (wt_guard' rfl rfl rfl) (beq_ff h2)) ?_
        obtain ⟨r17, hr17, hp⟩ := bind_some hp
        refine sx_ox' (ox_calln' (ent_fn' Try.func154 isn154 rfl rfl) (math_IsInf_sim _ _ hr17 : Go.Sx.Fn Try.prog 154 [(Vl (.float .f64 a0)), (Vl (.int .i64 0))] [] (fun x : Unit => (Vl (.bool r17))) (fun x => [])) (Hn := fun x : Unit => []) (fun _ => rfl) rfl rfl) (wt_is' (wt_guard' rfl rfl rfl) (beq_ff h2)) fun ⟨⟩ => ?_
        refine sx_rd' (rd_pick_false' rfl h2 rfl) rfl rfl (wt_none' rfl) ?_
        refine sx_nil' ?_
        show TX E K5 _
        exact tx_pick' [] (sub_cons rfl (sub_cons rfl (sub_cons rfl sub_nil))) (by decide) pick_nil (hK5 r17 hp)
  · intro K4 hK4
    rcases br_cases hp with ⟨h1, hp⟩ | ⟨h1, hp⟩
    · refine sx_skip' rfl rfl (wt_is' (wt_guard' rfl rfl rfl) (beq_tf h1)) ?_
      refine sx_skip' rfl rfl (wt_is' (wt_guard' rfl rfl rfl) (beq_tf h1)) ?_
      refine sx_rd' (rd_pick_true' rfl h1 rfl) rfl rfl (wt_none' rfl) ?_
      refine sx_nil' ?_
      show TX E K4 _
      exact tx_pick' [] (sub_cons rfl (sub_cons rfl (sub_cons rfl sub_nil))) (by decide) pick_nil (hK4 true hp)
    · refine sx_rd' (rd_move' rfl) rfl rfl (wt_is' (wt_guard' rfl rfl rfl) (beq_ff h1)) ?_
      obtain ⟨r13, hr13, hp⟩ := bind_some hp
      refine sx_ox' (ox_calln' (ent_fn' Try.func147 isn147 rfl rfl) (math_IsNaN_sim _ hr13 : Go.Sx.Fn Try.prog 147 [(Vl (.float .f64 a1))] [] (fun x : Unit => (Vl (.bool r13))) (fun x => [])) (Hn := fun x : Unit => []) (fun _ => rfl) rfl rfl) (wt_is' (wt_guard' rfl rfl rfl) (beq_ff h1)) fun ⟨⟩ => ?_
      refine sx_rd' (rd_pick_false' rfl h1 rfl) rfl rfl (wt_none' rfl) ?_
      refine sx_nil' ?_
      show TX E K4 _
      exact tx_pick' [] (sub_cons rfl (sub_cons rfl (sub_cons rfl sub_nil))) (by decide) pick_nil (hK4 r13 hp)

def math_Remainder (k : Nat) (a0 : Nat) (a1 : Nat) : Option (Nat) :=
  (math_remainder k a0 a1) >>= fun r10 =>
  some r10

theorem math_Remainder_sim {k : Nat}  (a0 : Nat) (a1 : Nat) {out : Nat} (hp : math_Remainder k a0 a1 = some out) : Go.Sx.Fn Try.prog 103 [(Vl (.float .f64 a0)), (Vl (.float .f64 a1))] [] (fun w : Unit => (Fl out)) (fun w => []) := by
  unfold math_Remainder at hp
  refine fn_of Try.func103 rfl Try.ntmps103 rfl fun E hM => ?_
  refine cx_seq' fun K1 hK1 => ?_
  refine cx_region' ?_
  refine sx_rd' (rd_assign' rfl) rfl rfl (wt_none' rfl) ?_
  refine sx_nil' ?_
  show TX E K1 _
  refine tx_k' hK1 ?_
  refine cx_seq' fun K2 hK2 => ?_
  refine cx_cond_f' rfl rfl ?_
  refine cx_skip' ?_
  show TX E K2 _
  refine tx_k' hK2 ?_
  refine cx_seq' fun K3 hK3 => ?_
  refine cx_region' ?_
  refine sx_rd' (rd_move' rfl) rfl rfl (wt_none' rfl) ?_
  refine sx_rd' (rd_move' rfl) rfl rfl (wt_none' rfl) ?_
  obtain ⟨r10, hr10, hp⟩ := bind_some hp
  refine sx_ox' (ox_calln' (ent_fn' Try.func139 isn139 rfl rfl) (math_remainder_sim _ _ hr10 : Go.Sx.Fn Try.prog 139 [(Vl (.float .f64 a0)), (Vl (.float .f64 a1))] [] (fun x : Unit => (Fl r10)) (fun x => [])) (Hn := fun x : Unit => []) (fun _ => rfl) rfl rfl) (wt_none' rfl) fun ⟨⟩ => ?_
  refine sx_rd' (rd_assign' rfl) rfl rfl (wt_none' rfl) ?_
  refine sx_nil' ?_
  show TX E K3 _
  refine tx_k' hK3 ?_
  refine cx_retc' ?_
  replace hp := Option.some.inj hp
  subst hp
  refine tx_pick' (L' := [(4, (Fl r10))]) (H' := []) [] (sub_cons rfl sub_nil) (by decide) pick_nil ?_
  exact tx_ret1' Try.results103 rfl () (rv_tmp' rfl) (List.Sublist.refl _)

def laws_round (k : Nat) (a0 : Nat) (a1 : Nat) : Option (Bool) :=
  (some (gsub a0 a1)) >>= fun r7 =>
  (num r7) >>= fun u1 =>
  (math_Remainder k r7 4618760256179416344) >>= fun r8 =>
  (num r8) >>= fun u2 =>
  (math_Abs k r8) >>= fun r9 =>
  some (flt r9 4472074429978902528)

theorem laws_round_sim {k : Nat}  (a0 : Nat) (a1 : Nat) {out : Bool} (hp : laws_round k a0 a1 = some out) : Go.Sx.Fn Try.prog 55 [(Vl (.float .f64 a0)), (Vl (.float .f64 a1))] [] (fun w : Unit => (Vl (.bool out))) (fun w => []) := by
  unfold laws_round at hp
  refine fn_of Try.func55 rfl Try.ntmps55 rfl fun E hM => ?_
  refine cx_seq' fun K1 hK1 => ?_
  refine cx_region' ?_
  refine sx_rd' (rd_assign' rfl) rfl rfl (wt_none' rfl) ?_
  refine sx_nil' ?_
  show TX E K1 _
  refine tx_k' hK1 ?_
  refine cx_seq' fun K2 hK2 => ?_
  refine cx_region' ?_
  refine sx_rd' (rd_move' rfl) rfl rfl (wt_none' rfl) ?_
  refine sx_rd' (rd_move' rfl) rfl rfl (wt_none' rfl) ?_
  obtain ⟨r7, hr7, hp⟩ := bind_some hp
  refine sx_ox' (ox_fop' (.inr (.inl rfl)) (fl_v rfl) (fl_v rfl) (Option.some.inj hr7) rfl rfl) (wt_none' rfl) fun _ => ?_
  obtain ⟨u1, hu1, hp⟩ := bind_some hp
  refine tx_slot' 7 (y := (Vl (.float .f64 r7))) rfl (imp_num (num_some hu1).2) ?_
  obtain ⟨r8, hr8, hp⟩ := bind_some hp
  refine sx_ox' (ox_calln' (ent_fn' Try.func103 isn103 rfl rfl) (math_Remainder_sim _ _ hr8 : Go.Sx.Fn Try.prog 103 [(Vl (.float .f64 r7)), (Vl (.float .f64 4618760256179416344))] [] (fun x : Unit => (Fl r8)) (fun x => [])) (Hn := fun x : Unit => []) (fun _ => rfl) rfl rfl) (wt_none' rfl) fun ⟨⟩ => ?_
  obtain ⟨u2, hu2, hp⟩ := bind_some hp
  refine tx_slot' 8 (y := (Vl (.float .f64 r8))) rfl (imp_num (num_some hu2).2) ?_
  obtain ⟨r9, hr9, hp⟩ := bind_some hp
  refine sx_ox' (ox_calln' (ent_fn' Try.func38 isn38 rfl rfl) (math_Abs_sim _ hr9 : Go.Sx.Fn Try.prog 38 [(Vl (.float .f64 r8))] [] (fun x : Unit => (Vl (.float .f64 r9))) (fun x => [])) (Hn := fun x : Unit => []) (fun _ => rfl) rfl rfl) (wt_none' rfl) fun ⟨⟩ => ?_
  refine sx_rd' (rd_bin' rfl rfl eg_flt ru_flt) rfl rfl (wt_none' rfl) ?_
  refine sx_rd' (rd_assign' rfl) rfl rfl (wt_none' rfl) ?_
  refine sx_nil' ?_
  show TX E K2 _
  refine tx_k' hK2 ?_
  refine cx_retc' ?_
  replace hp := Option.some.inj hp
  subst hp
  refine tx_pick' (L' := [(4, (Vl (.bool (flt r9 4472074429978902528))))]) (H' := []) [] (sub_cons rfl sub_nil) (by decide) pick_nil ?_
  exact tx_ret1' Try.results55 rfl () (rv_tmp' rfl) (List.Sublist.refl _)

def laws_FnNormalizePositive_j5 (k : Nat) (x5 : Bool) : Option (Bool) :=
  some x5
def laws_FnNormalizePositive_j4 (k : Nat) (x4 : Bool) : Option (Bool) :=
  laws_FnNormalizePositive_j5 k x4
def laws_FnNormalizePositive_j3 (k : Nat) (x3 : Bool) : Option (Bool) :=
  laws_FnNormalizePositive_j4 k x3
def laws_FnNormalizePositive_j2 (k : Nat) (a0 : Nat) (r9 : Nat) (x2 : Bool) : Option (Bool) :=
  br x2
    (br (flt a0 0)
      (laws_FnNormalizePositive_j4 k true)
      (br (fge a0 4618760256179416344)
        (laws_FnNormalizePositive_j3 k true)
        (laws_FnNormalizePositive_j3 k (feq r9 a0))))
    (laws_FnNormalizePositive_j5 k false)
def laws_FnNormalizePositive_j1 (k : Nat) (r9 : Nat) (a0 : Nat) (x1 : Bool) : Option (Bool) :=
  br x1
    ((num r9) >>= fun u1 =>
    (laws_round k r9 a0) >>= fun r19 =>
    laws_FnNormalizePositive_j2 k a0 r9 r19)
    (laws_FnNormalizePositive_j2 k a0 r9 false)
def laws_FnNormalizePositive (k : Nat) (a0 : Nat) : Option (Bool) :=
  (math_Abs k a0) >>= fun r5 =>
  br (!(fle r5 4652007308841189376))
    (some true)
    ((impl_NormalizePositive k a0) >>= fun r9 =>
    br (fge r9 0)
      (laws_FnNormalizePositive_j1 k r9 a0 (fle r9 4618760256179416344))
      (laws_FnNormalizePositive_j1 k r9 a0 false))

theorem laws_FnNormalizePositive_sim {k : Nat}  (a0 : Nat) {out : Bool} (hp : laws_FnNormalizePositive k a0 = some out) : Go.Sx.Fn Try.prog 12 [(Vl (.float .f64 a0))] [] (fun w : Unit => (Vl (.bool out))) (fun w => []) := by
  unfold laws_FnNormalizePositive at hp
  refine fn_of Try.func12 rfl Try.ntmps12 rfl fun E hM => ?_
  refine cx_seq' fun K1 hK1 => ?_
  refine cx_region' ?_
  refine sx_rd' (rd_assign' rfl) rfl rfl (wt_none' rfl) ?_
  refine sx_nil' ?_
  show TX E K1 _
  refine tx_k' hK1 ?_
  refine cx_seq' fun K2 hK2 => ?_
  refine cx_seq' fun K3 hK3 => ?_
  refine cx_region' ?_
  refine sx_rd' (rd_move' rfl) rfl rfl (wt_none' rfl) ?_
  obtain ⟨r5, hr5, hp⟩ := bind_some hp
  refine sx_ox' (ox_calln' (ent_fn' Try.func38 isn38 rfl rfl) (math_Abs_sim _ hr5 : Go.Sx.Fn Try.prog 38 [(Vl (.float .f64 a0))] [] (fun x : Unit => (Vl (.float .f64 r5))) (fun x => [])) (Hn := fun x : Unit => []) (fun _ => rfl) rfl rfl) (wt_none' rfl) fun ⟨⟩ => ?_
  refine sx_rd' (rd_bin' rfl rfl eg_flt ru_fle) rfl rfl (wt_none' rfl) ?_
  refine sx_rd' (rd_un' rfl ru_not) rfl rfl (wt_none' rfl) ?_
  refine sx_nil' ?_
  show TX E K3 _
  refine tx_k' hK3 ?_
  refine cx_cond' rfl (fun h1 => ?_) (fun h1 => ?_)
  · replace hp := (br_t h1).symm.trans hp
    refine cx_seq' fun K4 hK4 => ?_
    refine cx_region' ?_
    refine sx_rd' (rd_assign' rfl) rfl rfl (wt_none' rfl) ?_
    refine sx_nil' ?_
    show TX E K4 _
    refine tx_k' hK4 ?_
    refine cx_retc' ?_
    replace hp := Option.some.inj hp
    subst hp
    refine tx_pick' (L' := [(2, (Vl (.bool true)))]) (H' := []) [] (sub_cons rfl sub_nil) (by decide) pick_nil ?_
    exact tx_ret1' Try.results12 rfl () (rv_tmp' rfl) (List.Sublist.refl _)
  · replace hp := (br_f h1).symm.trans hp
    refine cx_skip' ?_
    show TX E K2 _
    refine tx_k' hK2 ?_
    refine cx_seq' fun K5 hK5 => ?_
    refine cx_region' ?_
    refine sx_rd' (rd_move' rfl) rfl rfl (wt_none' rfl) ?_
    obtain ⟨r9, hr9, hp⟩ := bind_some hp
    refine sx_ox' (ox_calln' (ent_fn' Try.func54 isn54 rfl rfl) (impl_NormalizePositive_sim _ hr9 : Go.Sx.Fn Try.prog 54 [(Vl (.float .f64 a0))] [] (fun x : Unit => (Fl r9)) (fun x => [])) (Hn := fun x : Unit => []) (fun _ => rfl) rfl rfl) (wt_none' rfl) fun ⟨⟩ => ?_
    refine sx_rd' (rd_assign' rfl) rfl rfl (wt_none' rfl) ?_
    refine sx_nil' ?_
    show TX E K5 _
    refine tx_k' hK5 ?_
    refine cx_seq' fun K6 hK6 => ?_
    refine cx_region' ?_
    refine sx_rd' (rd_move' rfl) rfl rfl (wt_none' rfl) ?_
    refine sx_rd' (rd_fcmp' (fl_f rfl) (fl_v rfl) rfl) rfl rfl (wt_none' rfl) ?_
    refine sx_rd' (rd_move' rfl) rfl rfl (wt_none' rfl) ?_
    refine sx_cutn' 3 (fun (v1 : Bool) => (⟨34, [], [(0, (Vl (.float .f64 a0))), (3, (Fl r9)), (15, (Vl (.bool v1)))], []⟩ : St)) (fun (v1 : Bool) => laws_FnNormalizePositive_j1 k r9 a0 v1 = some out) ?_ ?_
    · rintro x1 hp
      replace hp : laws_FnNormalizePositive_j1 k r9 a0 x1 = some out := hp
      unfold laws_FnNormalizePositive_j1 at hp
      refine sx_rd' (rd_move' rfl) rfl rfl (wt_none' rfl) ?_
      refine sx_cutn' 4 (fun (v2 : Bool) => (⟨34, [], [(0, (Vl (.float .f64 a0))), (3, (Fl r9)), (20, (Vl (.bool v2)))], []⟩ : St)) (fun (v2 : Bool) => laws_FnNormalizePositive_j2 k a0 r9 v2 = some out) ?_ ?_
      · rintro x2 hp
        replace hp : laws_FnNormalizePositive_j2 k a0 r9 x2 = some out := hp
        unfold laws_FnNormalizePositive_j2 at hp
        refine sx_rd' (rd_move' rfl) rfl rfl (wt_none' rfl) ?_
        refine sx_cutn' 12 (fun (v5 : Bool) => (⟨34, [], [(33, (Vl (.bool v5)))], []⟩ : St)) (fun (v5 : Bool) => laws_FnNormalizePositive_j5 k v5 = some out) ?_ ?_
        · rintro x5 hp
          replace hp : laws_FnNormalizePositive_j5 k x5 = some out := hp
          unfold laws_FnNormalizePositive_j5 at hp
          refine sx_rd' (rd_assign' rfl) rfl rfl (wt_none' rfl) ?_
          refine sx_nil' ?_
          show TX E K6 _
          refine tx_k' hK6 ?_
          refine cx_retc' ?_
          replace hp := Option.some.inj hp
          subst hp
          refine tx_pick' (L' := [(2, (Vl (.bool x5)))]) (H' := []) [] (sub_cons rfl sub_nil) (by decide) pick_nil ?_
          exact tx_ret1' Try.results12 rfl () (rv_tmp' rfl) (List.Sublist.refl _)
        · intro K11 hK11
          rcases br_cases hp with ⟨h4, hp⟩ | ⟨h4, hp⟩
          · refine sx_rd' (rd_move' rfl) rfl rfl (wt_is' (wt_guard' rfl rfl rfl) (beq_tt h4)) ?_
            refine sx_rd' (rd_bin' rfl rfl eg_flt ru_flt) rfl rfl (wt_is' (wt_guard' rfl rfl rfl) (beq_tt h4)) ?_
            refine sx_rd' (rd_move' rfl) rfl rfl (wt_is' (wt_guard' rfl rfl rfl) (beq_tt h4)) ?_
            refine sx_cutn' 9 (fun (v4 : Bool) => (⟨34, [], [(33, (Vl (.bool v4)))], []⟩ : St)) (fun (v4 : Bool) => laws_FnNormalizePositive_j4 k v4 = some out) ?_ ?_
            · rintro x4 hp
              replace hp : laws_FnNormalizePositive_j4 k x4 = some out := hp
              unfold laws_FnNormalizePositive_j4 at hp
              refine sx_nil' ?_
              show TX E K11 _
              exact tx_pick' [] (sub_cons rfl sub_nil) (by decide) pick_nil (hK11 x4 hp)
            · intro K10 hK10
              rcases br_cases hp with ⟨h5, hp⟩ | ⟨h5, hp⟩
              · refine sx_skip' rfl rfl (wt_is' (wt_guard' rfl rfl rfl) (beq_tf h5)) ?_
                refine sx_skip' rfl rfl (wt_is' (wt_guard' rfl rfl rfl) (beq_tf h5)) ?_
                refine sx_rd' (rd_pick_true' rfl h5 rfl) rfl rfl (wt_is' (wt_guard' rfl rfl rfl) (beq_tt h4)) ?_
                refine sx_rd' (rd_move' rfl) rfl rfl (wt_is' (wt_guard' rfl rfl rfl) (beq_tt h4)) ?_
                refine sx_skip' rfl rfl (wt_is' (wt_guard' rfl rfl rfl) (beq_tf rfl)) ?_
                refine sx_skip' rfl rfl (wt_is' (wt_guard' rfl rfl rfl) (beq_tf rfl)) ?_
                refine sx_skip' rfl rfl (wt_is' (wt_guard' rfl rfl rfl) (beq_tf rfl)) ?_
                refine sx_rd' (rd_pick_true' rfl rfl rfl) rfl rfl (wt_is' (wt_guard' rfl rfl rfl) (beq_tt h4)) ?_
                refine sx_rd' (rd_pick_true' rfl h4 rfl) rfl rfl (wt_none' rfl) ?_
                refine sx_nil' ?_
                show TX E K10 _
                exact tx_pick' [] (sub_cons rfl sub_nil) (by decide) pick_nil (hK10 true hp)
              · refine sx_rd' (rd_move' rfl) rfl rfl (wt_is' (wt_guard' rfl rfl rfl) (beq_ff h5)) ?_
                refine sx_rd' (rd_bin' rfl rfl eg_flt ru_fge) rfl rfl (wt_is' (wt_guard' rfl rfl rfl) (beq_ff h5)) ?_
                refine sx_rd' (rd_pick_false' rfl h5 rfl) rfl rfl (wt_is' (wt_guard' rfl rfl rfl) (beq_tt h4)) ?_
                refine sx_rd' (rd_move' rfl) rfl rfl (wt_is' (wt_guard' rfl rfl rfl) (beq_tt h4)) ?_
                refine sx_cutn' 5 (fun (v3 : Bool) => (⟨34, [], [(33, (Vl (.bool v3)))], []⟩ : St)) (fun (v3 : Bool) => laws_FnNormalizePositive_j3 k v3 = some out) ?_ ?_
                · rintro x3 hp
                  replace hp : laws_FnNormalizePositive_j3 k x3 = some out := hp
                  unfold laws_FnNormalizePositive_j3 at hp
                  refine sx_nil' ?_
                  show TX E K10 _
                  exact tx_pick' [] (sub_cons rfl sub_nil) (by decide) pick_nil (hK10 x3 hp)
                · intro K9 hK9
                  rcases br_cases hp with ⟨h6, hp⟩ | ⟨h6, hp⟩
                  · refine sx_skip' rfl rfl (wt_is' (wt_guard' rfl rfl rfl) (beq_tf h6)) ?_
                    refine sx_skip' rfl rfl (wt_is' (wt_guard' rfl rfl rfl) (beq_tf h6)) ?_
                    refine sx_skip' rfl rfl (wt_is' (wt_guard' rfl rfl rfl) (beq_tf h6)) ?_
                    refine sx_rd' (rd_pick_true' rfl h6 rfl) rfl rfl (wt_is' (wt_guard' rfl rfl rfl) (beq_tt h4)) ?_
                    refine sx_rd' (rd_pick_true' rfl h4 rfl) rfl rfl (wt_none' rfl) ?_
                    refine sx_nil' ?_
                    show TX E K9 _
                    exact tx_pick' [] (sub_cons rfl sub_nil) (by decide) pick_nil (hK9 true hp)
                  · refine sx_rd' (rd_move' rfl) rfl rfl (wt_is' (wt_guard' rfl rfl rfl) (beq_ff h6)) ?_
                    refine sx_rd' (rd_move' rfl) rfl rfl (wt_is' (wt_guard' rfl rfl rfl) (beq_ff h6)) ?_
                    refine sx_rd' (rd_fcmp' (fl_f rfl) (fl_v rfl) rfl) rfl rfl (wt_is' (wt_guard' rfl rfl rfl) (beq_ff h6)) ?_
                    refine sx_rd' (rd_pick_false' rfl h6 rfl) rfl rfl (wt_is' (wt_guard' rfl rfl rfl) (beq_tt h4)) ?_
                    refine sx_rd' (rd_pick_true' rfl h4 rfl) rfl rfl (wt_none' rfl) ?_
                    refine sx_nil' ?_
                    show TX E K9 _
                    exact tx_pick' [] (sub_cons rfl sub_nil) (by decide) pick_nil (hK9 (feq r9 a0) hp)
          · refine sx_skip' rfl rfl (wt_is' (wt_guard' rfl rfl rfl) (beq_ft h4)) ?_
            refine sx_skip' rfl rfl (wt_is' (wt_guard' rfl rfl rfl) (beq_ft h4)) ?_
            refine sx_skip' rfl rfl (wt_is' (wt_guard' rfl rfl rfl) (beq_ft h4)) ?_
            refine sx_skip' rfl rfl (wt_undef' rfl rfl rfl) ?_
            refine sx_skip' rfl rfl (wt_undef' rfl rfl rfl) ?_
            refine sx_skip' rfl rfl (wt_is' (wt_guard' rfl rfl rfl) (beq_ft h4)) ?_
            refine sx_skip' rfl rfl (wt_is' (wt_guard' rfl rfl rfl) (beq_ft h4)) ?_
            refine sx_skip' rfl rfl (wt_undef' rfl rfl rfl) ?_
            refine sx_skip' rfl rfl (wt_undef' rfl rfl rfl) ?_
            refine sx_skip' rfl rfl (wt_undef' rfl rfl rfl) ?_
            refine sx_skip' rfl rfl (wt_is' (wt_guard' rfl rfl rfl) (beq_ft h4)) ?_
            refine sx_rd' (rd_pick_false' rfl h4 rfl) rfl rfl (wt_none' rfl) ?_
            refine sx_nil' ?_
            show TX E K11 _
            exact tx_pick' [] (sub_cons rfl sub_nil) (by decide) pick_nil (hK11 false hp)
      · intro K8 hK8
        rcases br_cases hp with ⟨h3, hp⟩ | ⟨h3, hp⟩
        · refine sx_rd' (rd_move' rfl) rfl rfl (wt_is' (wt_guard' rfl rfl rfl) (beq_tt h3)) ?_
          refine sx_rd' (rd_move' rfl) rfl rfl (wt_is' (wt_guard' rfl rfl rfl) (beq_tt h3)) ?_
          obtain ⟨u1, hu1, hp⟩ := bind_some hp
          refine tx_slot' 17 (y := (Vl (.float .f64 r9))) rfl (imp_num (num_some hu1).2) ?_
          obtain ⟨r19, hr19, hp⟩ := bind_some hp
          refine sx_ox' (ox_calln' (ent_fn' Try.func55 isn55 rfl rfl) (laws_round_sim _ _ hr19 : Go.Sx.Fn Try.prog 55 [(Vl (.float .f64 r9)), (Vl (.float .f64 a0))] [] (fun x : Unit => (Vl (.bool r19))) (fun x => [])) (Hn := fun x : Unit => []) (fun _ => rfl) rfl rfl) (wt_is' (wt_guard' rfl rfl rfl) (beq_tt h3)) fun ⟨⟩ => ?_
          refine sx_rd' (rd_pick_true' rfl h3 rfl) rfl rfl (wt_none' rfl) ?_
          refine sx_nil' ?_
          show TX E K8 _
          exact tx_pick' [] (sub_cons rfl (sub_cons rfl (sub_cons rfl sub_nil))) (by decide) pick_nil (hK8 r19 hp)
        · refine sx_skip' rfl rfl (wt_is' (wt_guard' rfl rfl rfl) (beq_ft h3)) ?_
          refine sx_skip' rfl rfl (wt_is' (wt_guard' rfl rfl rfl) (beq_ft h3)) ?_
          refine sx_skip' rfl rfl (wt_is' (wt_guard' rfl rfl rfl) (beq_ft h3)) ?_
          refine sx_rd' (rd_pick_false' rfl h3 rfl) rfl rfl (wt_none' rfl) ?_
          refine sx_nil' ?_
          show TX E K8 _
          exact tx_pick' [] (sub_cons rfl (sub_cons rfl (sub_cons rfl sub_nil))) (by decide) pick_nil (hK8 false hp)
    · intro K7 hK7
      rcases br_cases hp with ⟨h2, hp⟩ | ⟨h2, hp⟩
      · refine sx_rd' (rd_move' rfl) rfl rfl (wt_is' (wt_guard' rfl rfl rfl) (beq_tt h2)) ?_
        refine sx_rd' (rd_fcmp' (fl_f rfl) (fl_v rfl) rfl) rfl rfl (wt_is' (wt_guard' rfl rfl rfl) (beq_tt h2)) ?_
        refine sx_rd' (rd_pick_true' rfl h2 rfl) rfl rfl (wt_none' rfl) ?_
        refine sx_nil' ?_
        show TX E K7 _
        exact tx_pick' [] (sub_cons rfl (sub_cons rfl (sub_cons rfl sub_nil))) (by decide) pick_nil (hK7 (fle r9 4618760256179416344) hp)
      · refine sx_skip' rfl rfl (wt_is' (wt_guard' rfl rfl rfl) (beq_ft h2)) ?_
        refine sx_skip' rfl rfl (wt_is' (wt_guard' rfl rfl rfl) (beq_ft h2)) ?_
        refine sx_rd' (rd_pick_false' rfl h2 rfl) rfl rfl (wt_none' rfl) ?_
        refine sx_nil' ?_
        show TX E K7 _
        exact tx_pick' [] (sub_cons rfl (sub_cons rfl (sub_cons rfl sub_nil))) (by decide) pick_nil (hK7 false hp)

end Go.Proofs.Ytnemkhcjmenfnaa
