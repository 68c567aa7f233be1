/-
  Plain functions for the Go functions that this law reaches, and that each call does what its plain function says. Printed by a program of ours.
-/
import Derived.Test.YtnemkhcjmenfnaaProg
import Derived.Test.YtnemkhcjmenfnaaSxZ
namespace Go.Proofs.Ytnemkhcjmenfnaa
open Go.Sx
set_option linter.unusedVariables false
set_option maxRecDepth 100000

theorem isn15 : (Try.f15.name == "runtime.NumGoroutine") = false := by kernel_rfl
theorem info27 : (Try.prog.info? 27).map (fun i => (i.zero, i.size, i.bytes)) = some (some (.agg #[.float .f64 0, .float .f64 0]), 2, 16) := by kernel_rfl
theorem agg27 : Agg Try.prog 27 2 := ⟨⟨_, Try.underlying27, .inl ⟨_, rfl⟩⟩, info_size info27⟩
theorem flat25 : Flat Try.prog 25 := ⟨_, Try.underlying25, fun _ h => (nomatch h), fun _ _ h => (nomatch h)⟩
theorem held27 : Try.prog.stoodInHeld 27 = false := by kernel_rfl
theorem eqg27 : Try.prog.eqGuardType Try.prog.depth 27 = false := by kernel_rfl
theorem mixed : Try.prog.follows .mixedOrders = true := by kernel_rfl
theorem isn16 : (Try.f16.name == "runtime.NumGoroutine") = false := by kernel_rfl
theorem info25 : (Try.prog.info? 25).map (fun i => (i.zero, i.size, i.bytes)) = some (some (.float .f64 0), 1, 8) := by kernel_rfl
theorem isn44 : (Try.f44.name == "runtime.NumGoroutine") = false := by kernel_rfl
theorem isn91 : (Try.f91.name == "runtime.NumGoroutine") = false := by kernel_rfl
theorem extf132 : ∀ {x r : Nat}, gint .zero x = r → ∀ y, (y = x ∨ (isn x = true ∧ isn y = true)) → RunsF Try.prog (callFunc 132 #[.float .f64 y]) (Fl r) := fun hz y hy => hz ▸ runs_ext (e := Extern.MathFloor.toIntegral "math.archTrunc" .zero) Try.func132 (by kernel_rfl) (by kernel_rfl) (by kernel_rfl) (by kernel_rfl) (gint_runs hy)
theorem isn38 : (Try.f38.name == "runtime.NumGoroutine") = false := by kernel_rfl
theorem ext85 : ∀ {args : Array Value} {v : Value}, Runs Try.prog ((Extern.MathFloatBits.float64bits) args) v → Runs Try.prog (callFunc 85 args) (.value v) := fun hr => ru_ext Try.func85 (by kernel_rfl) (by kernel_rfl) (by kernel_rfl) (by kernel_rfl) hr
theorem ext84 : ∀ {args : Array Value} {v : Value}, Runs Try.prog ((Extern.MathFloatBits.float64frombits) args) v → Runs Try.prog (callFunc 84 args) (.value v) := fun hr => ru_ext Try.func84 (by kernel_rfl) (by kernel_rfl) (by kernel_rfl) (by kernel_rfl) hr
theorem isn18 : (Try.f18.name == "runtime.NumGoroutine") = false := by kernel_rfl
theorem isn17 : (Try.f17.name == "runtime.NumGoroutine") = false := by kernel_rfl
theorem isn64 : (Try.f64.name == "runtime.NumGoroutine") = false := by kernel_rfl
theorem isn116 : (Try.f116.name == "runtime.NumGoroutine") = false := by kernel_rfl
theorem idle63 : Idle Try.prog 63 2 := fun vs w hv => by
  obtain ⟨v0, v1, rfl⟩ : ∃ v0 v1, vs = [v0, v1] := by
    obtain _ | ⟨v0, vs⟩ := vs
    · simp at hv
    obtain _ | ⟨v1, vs⟩ := vs
    · simp at hv
    obtain _ | ⟨u, vs⟩ := vs
    · exact ⟨v0, v1, rfl⟩
    · simp at hv
  refine callsD_of_wpS Try.func63 rfl fun c₀ cs hu => ?_
  apply wpS_seq
  apply wpS_region
  simp [wpOpsS, go_sem, recoverD, hu, Try.ntmps63, Exit.thenS]
  refine wpS_cond (t := false) (by simp [Act.eval, Array.replicate]) ?_
  simp only [Bool.false_eq_true, if_false]
  refine wpS_of_wp (wp_skip ?_)
  cases c₀
  simp_all [bodyPostS, results, Try.results63]
theorem isn63 : (Try.f63.name == "runtime.NumGoroutine") = false := by kernel_rfl
theorem info4 : (Try.prog.info? 4).map (fun i => (i.zero, i.size, i.bytes)) = some (some (.bool false), 1, 1) := by kernel_rfl
theorem flat4 : Flat Try.prog 4 := ⟨_, Try.underlying4, fun _ h => (nomatch h), fun _ _ h => (nomatch h)⟩
theorem isn19 : (Try.f19.name == "runtime.NumGoroutine") = false := by kernel_rfl
def K27 : Kd (Nat × Nat) := ⟨2, fun x => [(Vl (.float .f64 x.1)), (Vl (.float .f64 x.2))], fun _ => rfl⟩

def laws_shut_j1 (k : Nat) (x1 : Bool) : Option (Bool) :=
  some x1
def laws_shut (k : Nat) (a0 : List (Nat × Nat)) : Option (Bool) :=
  br (decide (1 < (a0.length : Int)))
    ((idx a0 0) >>= fun r8 =>
    (idx a0 (isub .i64 (a0.length : Int) 1)) >>= fun r14 =>
    laws_shut_j1 k ((feq r8.1 r14.1) && ((feq r8.2 r14.2) && true)))
    (laws_shut_j1 k false)

theorem laws_shut_sim {k : Nat}  (a0 : List (Nat × Nat)) {out : Bool} (hp : laws_shut k a0 = some out) : Go.Sx.Fn Try.prog 15 [(Sl K27 a0)] [] (fun w : Unit => (Vl (.bool out))) (fun w => []) := by
  unfold laws_shut at hp
  refine fn_of Try.func15 rfl Try.ntmps15 rfl fun E hM => ?_
  refine cx_seq' fun K1 hK1 => ?_
  refine cx_region' ?_
  refine sx_rd' (rd_assign' rfl) rfl rfl (wt_none' rfl) ?_
  refine sx_nil' ?_
  show TX E K1 _
  refine tx_k' hK1 ?_
  refine cx_seq' fun K2 hK2 => ?_
  refine cx_draw' mixed (by kernel_rfl) ?_
  refine qx_rd' (rd_move' rfl) rfl rfl (wt_none' rfl) ?_
  refine qx_rd' (rd_len' rfl Try.underlying22) rfl rfl (wt_none' rfl) ?_
  refine qx_rd' (rd_bin' rfl rfl eg_int ru_gtr) rfl rfl (wt_none' rfl) ?_
  refine qx_rd' (rd_move' rfl) rfl rfl (wt_none' rfl) ?_
  refine qx_cutn' 11 (fun (v1 : Bool) => (⟨18, [], [(17, (Vl (.bool v1)))], []⟩ : St)) (fun (v1 : Bool) => laws_shut_j1 k v1 = some out) ?_ ?_
  · rintro x1 hp
    replace hp : laws_shut_j1 k x1 = some out := hp
    unfold laws_shut_j1 at hp
    refine qx_rd' (rd_assign' rfl) rfl rfl (wt_none' rfl) ?_
    refine qx_nil' ?_
    show TX E K2 _
    refine tx_k' hK2 ?_
    refine cx_retc' ?_
    replace hp := Option.some.inj hp
    subst hp
    refine tx_pick' (L' := [(2, (Vl (.bool x1)))]) (H' := []) [] (sub_cons rfl sub_nil) (by decide) pick_nil ?_
    exact tx_ret1' Try.results15 rfl () (rv_tmp' rfl) (List.Sublist.refl _)
  · intro K3 hK3
    rcases br_cases hp with ⟨h1, hp⟩ | ⟨h1, hp⟩
    · refine qx_rd' (rd_move' rfl) rfl rfl (wt_is' (wt_guard' rfl rfl rfl) (beq_tt h1)) ?_
      obtain ⟨r8, hr8, hp⟩ := bind_some hp
      refine qx_rd' (rd_at' (K := K27) rfl rfl hr8 Try.underlying22 info27) rfl rfl (wt_is' (wt_guard' rfl rfl rfl) (beq_tt h1)) ?_
      refine qx_rd' (rd_load_pt_agg' (nn := 2) rfl rfl agg27 (l' := [(Vl (.float .f64 r8.1)), (Vl (.float .f64 r8.2))]) rfl) rfl rfl (wt_is' (wt_guard' rfl rfl rfl) (beq_tt h1)) ?_
      refine qx_rd' (rd_move' rfl) rfl rfl (wt_is' (wt_guard' rfl rfl rfl) (beq_tt h1)) ?_
      refine qx_rd' (rd_move' rfl) rfl rfl (wt_is' (wt_guard' rfl rfl rfl) (beq_tt h1)) ?_
      refine qx_rd' (rd_len' rfl Try.underlying22) rfl rfl (wt_is' (wt_guard' rfl rfl rfl) (beq_tt h1)) ?_
      refine qx_rd' (rd_bin' rfl rfl eg_int ru_sub) rfl rfl (wt_is' (wt_guard' rfl rfl rfl) (beq_tt h1)) ?_
      obtain ⟨r14, hr14, hp⟩ := bind_some hp
      refine qx_rd' (rd_at' (K := K27) rfl rfl hr14 Try.underlying22 info27) rfl rfl (wt_is' (wt_guard' rfl rfl rfl) (beq_tt h1)) ?_
      refine qx_rd' (rd_load_pt_agg' (nn := 2) rfl rfl agg27 (l' := [(Vl (.float .f64 r14.1)), (Vl (.float .f64 r14.2))]) rfl) rfl rfl (wt_is' (wt_guard' rfl rfl rfl) (beq_tt h1)) ?_
      refine qx_rd' (rd_eq_ag' (us := [.float .f64 r8.1, .float .f64 r8.2]) (vs := [.float .f64 r14.1, .float .f64 r14.2]) rfl rfl eqg27 (eqt_struct Try.underlying27 held27 (eqf_cons (by rfl) (part_flat flat25 rfl) (part_flat flat25 rfl) (eqt_flt Try.underlying25) (eqf_cons (by rfl) (part_flat flat25 rfl) (part_flat flat25 rfl) (eqt_flt Try.underlying25) eqf_nil)))) rfl rfl (wt_is' (wt_guard' rfl rfl rfl) (beq_tt h1)) ?_
      refine qx_rd' (rd_pick_true' rfl h1 rfl) rfl rfl (wt_none' rfl) ?_
      refine qx_end' ?_
      exact tq_pick' [] (sub_cons rfl sub_nil) (by decide) pick_nil (hK3 ((feq r8.1 r14.1) && ((feq r8.2 r14.2) && true)) hp)
    · refine qx_skip' rfl rfl (wt_is' (wt_guard' rfl rfl rfl) (beq_ft h1)) ?_
      refine qx_skip' rfl rfl (wt_is' (wt_guard' rfl rfl rfl) (beq_ft h1)) ?_
      refine qx_skip' rfl rfl (wt_is' (wt_guard' rfl rfl rfl) (beq_ft h1)) ?_
      refine qx_skip' rfl rfl (wt_is' (wt_guard' rfl rfl rfl) (beq_ft h1)) ?_
      refine qx_skip' rfl rfl (wt_is' (wt_guard' rfl rfl rfl) (beq_ft h1)) ?_
      refine qx_skip' rfl rfl (wt_is' (wt_guard' rfl rfl rfl) (beq_ft h1)) ?_
      refine qx_skip' rfl rfl (wt_is' (wt_guard' rfl rfl rfl) (beq_ft h1)) ?_
      refine qx_skip' rfl rfl (wt_is' (wt_guard' rfl rfl rfl) (beq_ft h1)) ?_
      refine qx_skip' rfl rfl (wt_is' (wt_guard' rfl rfl rfl) (beq_ft h1)) ?_
      refine qx_skip' rfl rfl (wt_is' (wt_guard' rfl rfl rfl) (beq_ft h1)) ?_
      refine qx_rd' (rd_pick_false' rfl h1 rfl) rfl rfl (wt_none' rfl) ?_
      refine qx_end' ?_
      exact tq_pick' [] (sub_cons rfl sub_nil) (by decide) pick_nil (hK3 false hp)

def math_Trunc (k : Nat) (a0 : Nat) : Option (Nat) :=
  (some (gint .zero a0)) >>= fun r4 =>
  some r4

theorem math_Trunc_sim {k : Nat}  (a0 : Nat) {out : Nat} (hp : math_Trunc k a0 = some out) : Go.Sx.Fn Try.prog 91 [(Vl (.float .f64 a0))] [] (fun w : Unit => (Fl out)) (fun w => []) := by
  unfold math_Trunc at hp
  refine fn_of Try.func91 rfl Try.ntmps91 rfl fun E hM => ?_
  refine cx_seq' fun K1 hK1 => ?_
  refine cx_region' ?_
  refine sx_rd' (rd_assign' rfl) rfl rfl (wt_none' rfl) ?_
  refine sx_nil' ?_
  show TX E K1 _
  refine tx_k' hK1 ?_
  refine cx_seq' fun K2 hK2 => ?_
  refine cx_cond_t' rfl rfl ?_
  refine cx_seq' fun K3 hK3 => ?_
  refine cx_region' ?_
  refine sx_rd' (rd_move' rfl) rfl rfl (wt_none' rfl) ?_
  obtain ⟨r4, hr4, hp⟩ := bind_some hp
  refine sx_ox' (ox_extf' rfl (fl_v rfl) Try.func132 (extf132 (Option.some.inj hr4)) rfl rfl) (wt_none' rfl) fun _ => ?_
  refine sx_rd' (rd_assign' rfl) rfl rfl (wt_none' rfl) ?_
  refine sx_nil' ?_
  show TX E K3 _
  refine tx_k' hK3 ?_
  refine cx_retc' ?_
  replace hp := Option.some.inj hp
  subst hp
  refine tx_pick' (L' := [(2, (Fl r4))]) (H' := []) [] (sub_cons rfl sub_nil) (by decide) pick_nil ?_
  exact tx_ret1' Try.results91 rfl () (rv_tmp' rfl) (List.Sublist.refl _)

def math_Abs (k : Nat) (a0 : Nat) : Option (Nat) :=
  some (ffrom (iandn .u64 (fbits a0) 9223372036854775808))

theorem math_Abs_sim {k : Nat}  (a0 : Nat) {out : Nat} (hp : math_Abs k a0 = some out) : Go.Sx.Fn Try.prog 38 [(Vl (.float .f64 a0))] [] (fun w : Unit => (Vl (.float .f64 out))) (fun w => []) := by
  unfold math_Abs at hp
  refine fn_of Try.func38 rfl Try.ntmps38 rfl fun E hM => ?_
  refine cx_seq' fun K1 hK1 => ?_
  refine cx_region' ?_
  refine sx_rd' (rd_assign' rfl) rfl rfl (wt_none' rfl) ?_
  refine sx_nil' ?_
  show TX E K1 _
  refine tx_k' hK1 ?_
  refine cx_seq' fun K2 hK2 => ?_
  refine cx_region' ?_
  refine sx_rd' (rd_move' rfl) rfl rfl (wt_none' rfl) ?_
  refine sx_rd' (rd_ext' (us := [.float .f64 a0]) rfl (ext85 ex_bits)) rfl rfl (wt_none' rfl) ?_
  refine sx_rd' (rd_bin' rfl rfl eg_int ru_andn) rfl rfl (wt_none' rfl) ?_
  refine sx_rd' (rd_ext' (us := [.int .u64 (iandn .u64 (fbits a0) 9223372036854775808)]) rfl (ext84 ex_from)) rfl rfl (wt_none' rfl) ?_
  refine sx_rd' (rd_assign' rfl) rfl rfl (wt_none' rfl) ?_
  refine sx_nil' ?_
  show TX E K2 _
  refine tx_k' hK2 ?_
  refine cx_retc' ?_
  replace hp := Option.some.inj hp
  subst hp
  refine tx_pick' (L' := [(2, (Vl (.float .f64 (ffrom (iandn .u64 (fbits a0) 9223372036854775808)))))]) (H' := []) [] (sub_cons rfl sub_nil) (by decide) pick_nil ?_
  exact tx_ret1' Try.results38 rfl () (rv_tmp' rfl) (List.Sublist.refl _)

def laws_wholeTo_j1 (k : Nat) (rec1 : Int → Option (Unit ⊕ Unit)) (x2 : Int) (x1 : Bool) : Option (Unit ⊕ Unit) :=
  br x1
    (some (.inl ()))
    (rec1 (iadd .i64 x2 1))
def laws_wholeTo_l1s (a1 : List Nat) (a0 : Nat) (k : Nat) (rec1 : Int → Option (Unit ⊕ Unit)) (x2 : Int) : Option (Unit ⊕ Unit) :=
  br (decide (x2 < (a1.length : Int)))
    ((idx a1 x2) >>= fun r11 =>
    (math_Trunc k r11) >>= fun r15 =>
    br (fne r11 r15)
      (laws_wholeTo_j1 k rec1 x2 true)
      ((math_Abs k r11) >>= fun r19 =>
      laws_wholeTo_j1 k rec1 x2 (fgt r19 a0)))
    (some (.inr ()))
def laws_wholeTo_l1 (a1 : List Nat) (a0 : Nat) : Nat → Int → Option (Unit ⊕ Unit)
  | 0, _ => none
  | k + 1, v => laws_wholeTo_l1s a1 a0 k (laws_wholeTo_l1 a1 a0 k) v
def laws_wholeTo (k : Nat) (a0 : Nat) (a1 : List Nat) : Option (Bool) :=
  (laws_wholeTo_l1 a1 a0 k 0) >>= fun y1 => match y1 with
    | (.inl v3) =>
      (some false)
    | (.inr v4) =>
      (some true)

theorem laws_wholeTo_sim {k : Nat}  (a0 : Nat) (a1 : List Nat) {out : Bool} (hp : laws_wholeTo k a0 a1 = some out) : Go.Sx.Fn Try.prog 44 [(Vl (.float .f64 a0)), (Sl Kf a1)] [] (fun w : Unit => (Vl (.bool out))) (fun w => []) := by
  unfold laws_wholeTo at hp
  refine fn_of Try.func44 rfl Try.ntmps44 rfl fun E hM => ?_
  refine cx_seq' fun K1 hK1 => ?_
  refine cx_region' ?_
  refine sx_rd' (rd_assign' rfl) rfl rfl (wt_none' rfl) ?_
  refine sx_nil' ?_
  show TX E K1 _
  refine tx_k' hK1 ?_
  refine cx_seq' fun K2 hK2 => ?_
  refine cx_seq' fun K3 hK3 => ?_
  refine cx_region' ?_
  refine sx_rd' (rd_move' rfl) rfl rfl (wt_none' rfl) ?_
  refine sx_rd' (rd_len' rfl Try.underlying30) rfl rfl (wt_none' rfl) ?_
  refine sx_rd' (rd_move' rfl) rfl rfl (wt_none' rfl) ?_
  refine sx_nil' ?_
  show TX E K3 _
  refine tx_k' hK3 ?_
  refine cx_block' ?_
  obtain ⟨y1, hy1, hp⟩ := bind_some hp
  refine cx_loopg' (F := laws_wholeTo_l1 a1 a0) (G := fun k R v => laws_wholeTo_l1s a1 a0 k R v) (x := 0) (gh := ()) (fun (v1 : Int) (w1 : Unit) => (⟨24, [], [(0, (Vl (.float .f64 a0))), (7, (Sl Kf a1)), (8, (Vl (.int .i64 (a1.length : Int)))), (9, (Vl (.int .i64 v1)))], []⟩ : St)) (fun (y : Unit ⊕ Unit) => match y with | (.inl v3) => Zg E Exit.ret (fun (w3 : Unit) => (⟨24, [], [(4, (Vl (.bool false)))], []⟩ : St)) | (.inr v4) => Zg E (Exit.exit 0) (fun (w4 : Unit) => (⟨24, [], [], []⟩ : St))) (fun _ => rfl) (fun _ _ => rfl) ?_ hy1 (tx_to' rfl [] (sub_cons rfl (sub_cons rfl (sub_cons rfl (sub_cons rfl sub_nil)))) (by decide) pick_nil) ?_
  · clear hp hy1
    clear y1
    intro k rec1 KY1 ih1
    rintro x2 ⟨⟩ y1 hp
    replace hp : laws_wholeTo_l1s a1 a0 k rec1 x2 = some y1 := hp
    unfold laws_wholeTo_l1s at hp
    refine cx_seq' fun K4 hK4 => ?_
    refine cx_region' ?_
    refine sx_rd' (rd_bin' rfl rfl eg_int ru_lss) rfl rfl (wt_none' rfl) ?_
    refine sx_nil' ?_
    show TX E K4 _
    refine tx_k' hK4 ?_
    refine cx_seq' fun K5 hK5 => ?_
    refine cx_cond' rfl (fun h2 => ?_) (fun h2 => ?_)
    · replace hp := (br_t h2).symm.trans hp
      refine cx_skip' ?_
      show TX E K5 _
      refine tx_k' hK5 ?_
      refine cx_seq' fun K6 hK6 => ?_
      refine cx_block' ?_
      refine cx_seq' fun K7 hK7 => ?_
      refine cx_region' ?_
      obtain ⟨r11, hr11, hp⟩ := bind_some hp
      refine sx_rd' (rd_at' (K := Kf) rfl rfl hr11 Try.underlying30 info25) rfl rfl (wt_none' rfl) ?_
      refine sx_rd' (rd_load_pt' rfl rfl flat25) rfl rfl (wt_none' rfl) ?_
      refine sx_rd' (rd_assign' rfl) rfl rfl (wt_none' rfl) ?_
      refine sx_nil' ?_
      show TX E K7 _
      refine tx_k' hK7 ?_
      refine cx_seq' fun K8 hK8 => ?_
      refine cx_region' ?_
      refine sx_rd' (rd_move' rfl) rfl rfl (wt_none' rfl) ?_
      refine sx_rd' (rd_move' rfl) rfl rfl (wt_none' rfl) ?_
      obtain ⟨r15, hr15, hp⟩ := bind_some hp
      refine sx_ox' (ox_calln' (ent_fn' Try.func91 isn91 rfl rfl) (math_Trunc_sim _ hr15 : Go.Sx.Fn Try.prog 91 [(Vl (.float .f64 r11))] [] (fun x : Unit => (Fl r15)) (fun x => [])) (Hn := fun x : Unit => []) (fun _ => rfl) rfl rfl) (wt_none' rfl) fun ⟨⟩ => ?_
      refine sx_rd' (rd_fcmp' (fl_v rfl) (fl_f rfl) rfl) rfl rfl (wt_none' rfl) ?_
      refine sx_rd' (rd_move' rfl) rfl rfl (wt_none' rfl) ?_
      refine sx_cutn' 5 (fun (v2 : Bool) => (⟨24, [], [(0, (Vl (.float .f64 a0))), (7, (Sl Kf a1)), (8, (Vl (.int .i64 (a1.length : Int)))), (9, (Vl (.int .i64 x2))), (22, (Vl (.bool v2)))], []⟩ : St)) (fun (v2 : Bool) => laws_wholeTo_j1 k rec1 x2 v2 = some y1) ?_ ?_
      · rintro x1 hp
        replace hp : laws_wholeTo_j1 k rec1 x2 x1 = some y1 := hp
        unfold laws_wholeTo_j1 at hp
        refine sx_nil' ?_
        show TX E K8 _
        refine tx_k' hK8 ?_
        refine cx_cond' rfl (fun h4 => ?_) (fun h4 => ?_)
        · replace hp := (br_t h4).symm.trans hp
          refine cx_seq' fun K10 hK10 => ?_
          refine cx_region' ?_
          refine sx_rd' (rd_assign' rfl) rfl rfl (wt_none' rfl) ?_
          refine sx_nil' ?_
          show TX E K10 _
          refine tx_k' hK10 ?_
          refine cx_retc' ?_
          replace hp := Option.some.inj hp
          subst hp
          show TX E (Zg E Exit.ret _ Exit.ret) _
          exact tx_zend' () rfl [] (sub_cons rfl sub_nil) (by decide) pick_nil
        · replace hp := (br_f h4).symm.trans hp
          refine cx_skip' ?_
          show TX E K6 _
          refine tx_k' hK6 ?_
          refine cx_region' ?_
          refine sx_rd' (rd_bin' rfl rfl eg_int ru_add) rfl rfl (wt_none' rfl) ?_
          refine sx_rd' (rd_move' rfl) rfl rfl (wt_none' rfl) ?_
          refine sx_nil' ?_
          show TX E (KY1 _) _
          exact tx_pick' [] (sub_cons rfl (sub_cons rfl (sub_cons rfl (sub_cons rfl sub_nil)))) (by decide) pick_nil (ih1 (iadd .i64 x2 1) () _ hp)
      · intro K9 hK9
        rcases br_cases hp with ⟨h3, hp⟩ | ⟨h3, hp⟩
        · refine sx_skip' rfl rfl (wt_is' (wt_guard' rfl rfl rfl) (beq_tf h3)) ?_
          refine sx_skip' rfl rfl (wt_is' (wt_guard' rfl rfl rfl) (beq_tf h3)) ?_
          refine sx_skip' rfl rfl (wt_is' (wt_guard' rfl rfl rfl) (beq_tf h3)) ?_
          refine sx_skip' rfl rfl (wt_is' (wt_guard' rfl rfl rfl) (beq_tf h3)) ?_
          refine sx_rd' (rd_pick_true' rfl h3 rfl) rfl rfl (wt_none' rfl) ?_
          refine sx_nil' ?_
          show TX E K9 _
          exact tx_pick' [] (sub_cons rfl (sub_cons rfl (sub_cons rfl (sub_cons rfl (sub_cons rfl sub_nil))))) (by decide) pick_nil (hK9 true hp)
        · refine sx_rd' (rd_move' rfl) rfl rfl (wt_is' (wt_guard' rfl rfl rfl) (beq_ff h3)) ?_
          obtain ⟨r19, hr19, hp⟩ := bind_some hp
          refine sx_ox' (ox_calln' (ent_fn' Try.func38 isn38 rfl rfl) (math_Abs_sim _ hr19 : Go.Sx.Fn Try.prog 38 [(Vl (.float .f64 r11))] [] (fun x : Unit => (Vl (.float .f64 r19))) (fun x => [])) (Hn := fun x : Unit => []) (fun _ => rfl) rfl rfl) (wt_is' (wt_guard' rfl rfl rfl) (beq_ff h3)) fun ⟨⟩ => ?_
          refine sx_rd' (rd_move' rfl) rfl rfl (wt_is' (wt_guard' rfl rfl rfl) (beq_ff h3)) ?_
          refine sx_rd' (rd_bin' rfl rfl eg_flt ru_fgt) rfl rfl (wt_is' (wt_guard' rfl rfl rfl) (beq_ff h3)) ?_
          refine sx_rd' (rd_pick_false' rfl h3 rfl) rfl rfl (wt_none' rfl) ?_
          refine sx_nil' ?_
          show TX E K9 _
          exact tx_pick' [] (sub_cons rfl (sub_cons rfl (sub_cons rfl (sub_cons rfl (sub_cons rfl sub_nil))))) (by decide) pick_nil (hK9 (fgt r19 a0) hp)
    · replace hp := (br_f h2).symm.trans hp
      refine cx_exit' ?_
      replace hp := Option.some.inj hp
      subst hp
      show TX E (Zg E (Exit.exit 0) _ (Exit.exit 0)) _
      exact tx_zend' () rfl [] sub_nil (by decide) pick_nil
  · rcases y1 with v3 | v4
    · dsimp only at hp
      refine zg_out fun w3 => ?_
      replace hp := Option.some.inj hp
      subst hp
      refine tx_pick' (L' := [(4, (Vl (.bool false)))]) (H' := []) [] (sub_cons rfl sub_nil) (by decide) pick_nil ?_
      exact tx_ret1' Try.results44 rfl () (rv_tmp' rfl) (List.Sublist.refl _)
    · dsimp only at hp
      refine zg_out fun w4 => ?_
      show TX E K2 _
      refine tx_k' hK2 ?_
      refine cx_seq' fun K11 hK11 => ?_
      refine cx_region' ?_
      refine sx_rd' (rd_assign' rfl) rfl rfl (wt_none' rfl) ?_
      refine sx_nil' ?_
      show TX E K11 _
      refine tx_k' hK11 ?_
      refine cx_retc' ?_
      replace hp := Option.some.inj hp
      subst hp
      refine tx_pick' (L' := [(4, (Vl (.bool true)))]) (H' := []) [] (sub_cons rfl sub_nil) (by decide) pick_nil ?_
      exact tx_ret1' Try.results44 rfl () (rv_tmp' rfl) (List.Sublist.refl _)

def laws_planeTo_l1s (a1 : List (Nat × Nat)) (a0 : Nat) (k : Nat) (rec1 : Int → Option (Unit ⊕ Unit)) (x1 : Int) : Option (Unit ⊕ Unit) :=
  br (decide (x1 < (a1.length : Int)))
    ((idx a1 x1) >>= fun r11 =>
    (laws_wholeTo k a0 ([r11.1, r11.2])) >>= fun r19 =>
    br (!r19)
      (some (.inl ()))
      (rec1 (iadd .i64 x1 1)))
    (some (.inr ()))
def laws_planeTo_l1 (a1 : List (Nat × Nat)) (a0 : Nat) : Nat → Int → Option (Unit ⊕ Unit)
  | 0, _ => none
  | k + 1, v => laws_planeTo_l1s a1 a0 k (laws_planeTo_l1 a1 a0 k) v
def laws_planeTo (k : Nat) (a0 : Nat) (a1 : List (Nat × Nat)) : Option (Bool) :=
  (laws_planeTo_l1 a1 a0 k 0) >>= fun y1 => match y1 with
    | (.inl v2) =>
      (some false)
    | (.inr v3) =>
      (some true)

theorem laws_planeTo_sim {k : Nat}  (a0 : Nat) (a1 : List (Nat × Nat)) {out : Bool} (hp : laws_planeTo k a0 a1 = some out) : Go.Sx.Fn Try.prog 16 [(Vl (.float .f64 a0)), (Sl K27 a1)] [] (fun w : Unit => (Vl (.bool out))) (fun w => []) := by
  unfold laws_planeTo at hp
  refine fn_of Try.func16 rfl Try.ntmps16 rfl fun E hM => ?_
  refine cx_seq' fun K1 hK1 => ?_
  refine cx_region' ?_
  refine sx_rd' (rd_assign' rfl) rfl rfl (wt_none' rfl) ?_
  refine sx_nil' ?_
  show TX E K1 _
  refine tx_k' hK1 ?_
  refine cx_seq' fun K2 hK2 => ?_
  refine cx_seq' fun K3 hK3 => ?_
  refine cx_region' ?_
  refine sx_rd' (rd_move' rfl) rfl rfl (wt_none' rfl) ?_
  refine sx_rd' (rd_len' rfl Try.underlying22) rfl rfl (wt_none' rfl) ?_
  refine sx_rd' (rd_move' rfl) rfl rfl (wt_none' rfl) ?_
  refine sx_nil' ?_
  show TX E K3 _
  refine tx_k' hK3 ?_
  refine cx_block' ?_
  obtain ⟨y1, hy1, hp⟩ := bind_some hp
  refine cx_loopg' (F := laws_planeTo_l1 a1 a0) (G := fun k R v => laws_planeTo_l1s a1 a0 k R v) (x := 0) (gh := ()) (fun (v1 : Int) (w1 : Unit) => (⟨22, [], [(0, (Vl (.float .f64 a0))), (7, (Sl K27 a1)), (8, (Vl (.int .i64 (a1.length : Int)))), (9, (Vl (.int .i64 v1)))], []⟩ : St)) (fun (y : Unit ⊕ Unit) => match y with | (.inl v2) => Zg E Exit.ret (fun (w2 : Unit) => (⟨22, [], [(4, (Vl (.bool false)))], []⟩ : St)) | (.inr v3) => Zg E (Exit.exit 0) (fun (w3 : Unit) => (⟨22, [], [], []⟩ : St))) (fun _ => rfl) (fun _ _ => rfl) ?_ hy1 (tx_to' rfl [] (sub_cons rfl (sub_cons rfl (sub_cons rfl (sub_cons rfl sub_nil)))) (by decide) pick_nil) ?_
  · clear hp hy1
    clear y1
    intro k rec1 KY1 ih1
    rintro x1 ⟨⟩ y1 hp
    replace hp : laws_planeTo_l1s a1 a0 k rec1 x1 = some y1 := hp
    unfold laws_planeTo_l1s at hp
    refine cx_seq' fun K4 hK4 => ?_
    refine cx_region' ?_
    refine sx_rd' (rd_bin' rfl rfl eg_int ru_lss) rfl rfl (wt_none' rfl) ?_
    refine sx_nil' ?_
    show TX E K4 _
    refine tx_k' hK4 ?_
    refine cx_seq' fun K5 hK5 => ?_
    refine cx_cond' rfl (fun h2 => ?_) (fun h2 => ?_)
    · replace hp := (br_t h2).symm.trans hp
      refine cx_skip' ?_
      show TX E K5 _
      refine tx_k' hK5 ?_
      refine cx_seq' fun K6 hK6 => ?_
      refine cx_block' ?_
      refine cx_seq' fun K7 hK7 => ?_
      refine cx_region' ?_
      obtain ⟨r11, hr11, hp⟩ := bind_some hp
      refine sx_rd' (rd_at' (K := K27) rfl rfl hr11 Try.underlying22 info27) rfl rfl (wt_none' rfl) ?_
      refine sx_rd' (rd_load_pt_agg' (nn := 2) rfl rfl agg27 (l' := [(Vl (.float .f64 r11.1)), (Vl (.float .f64 r11.2))]) rfl) rfl rfl (wt_none' rfl) ?_
      refine sx_ox' (ox_alloc' info27 rfl rfl rfl rfl (l := [(Vl (.float .f64 0)), (Vl (.float .f64 0))]) rfl) (wt_none' rfl) fun q6 => ?_
      refine sx_ox' (ox_store' (i := 0) (o := 0) rfl rfl (lv_ag _) ⟨rfl, rfl, rfl, rfl⟩ rfl info27 rfl (H' := [⟨.pointer (some q6), [(Vl (.float .f64 r11.1)), (Vl (.float .f64 r11.2))], 27, none⟩]) rfl) (wt_none' rfl) fun _ => ?_
      refine sx_nil' ?_
      show TX E K7 _
      refine tx_k' hK7 ?_
      refine cx_seq' fun K8 hK8 => ?_
      refine cx_region' ?_
      refine sx_rd' (rd_move' rfl) rfl rfl (wt_none' rfl) ?_
      refine sx_rd' (rd_field0' rfl Try.underlying27 rfl info25 rfl) rfl rfl (wt_none' rfl) ?_
      refine sx_rd' (rd_load' (i := 0) (o := 0) rfl ⟨rfl, rfl, rfl, rfl⟩ rfl flat25) rfl rfl (wt_none' rfl) ?_
      refine sx_rd' (rd_field' (off := 1) rfl Try.underlying27 rfl info25 rfl) rfl rfl (wt_none' rfl) ?_
      refine sx_rd' (rd_load' (i := 0) (o := 1) rfl ⟨rfl, rfl, rfl, rfl⟩ rfl flat25) rfl rfl (wt_none' rfl) ?_
      refine sx_ox' (ox_rowlit' (K := Kf) (xs := [r11.1, r11.2]) (qs := [(0, [(Vl (.float .f64 r11.1))]), (1, [(Vl (.float .f64 r11.2))])]) ⟨rfl, ⟨_, rfl, (lv_vl rfl rfl)⟩, ⟨rfl, ⟨_, rfl, (lv_vl rfl rfl)⟩, trivial⟩⟩ Try.underlying30 info25 rfl rfl rfl rfl rfl (by kernel_rfl) rfl rfl rfl) (wt_none' rfl) fun g18 => ?_
      obtain ⟨r19, hr19, hp⟩ := bind_some hp
      refine sx_ox' (ox_brw' (frz_row 0 [(18, (Vl (Vs g18)), (Sl Kf ([r11.1, r11.2])))] (K := Kf) (xs := [r11.1, r11.2]) (by decide) rfl ⟨⟨rfl, frz_it⟩, trivial⟩ (H' := [⟨.pointer (some q6), [(Vl (.float .f64 r11.1)), (Vl (.float .f64 r11.2))], 27, none⟩]) frzH_refl) (ent_fn' Try.func44 isn44 rfl rfl) (laws_wholeTo_sim _ _ hr19 : Go.Sx.Fn Try.prog 44 [(Vl (.float .f64 a0)), (Sl Kf ([r11.1, r11.2]))] [] (fun x : Unit => (Vl (.bool r19))) (fun x => [])) pu_vl rfl rfl) (wt_none' rfl) fun ⟨⟩ => ?_
      refine sx_rd' (rd_un' rfl ru_not) rfl rfl (wt_none' rfl) ?_
      refine sx_nil' ?_
      show TX E K8 _
      refine tx_k' hK8 ?_
      refine cx_cond' rfl (fun h3 => ?_) (fun h3 => ?_)
      · replace hp := (br_t h3).symm.trans hp
        refine cx_seq' fun K9 hK9 => ?_
        refine cx_region' ?_
        refine sx_rd' (rd_assign' rfl) rfl rfl (wt_none' rfl) ?_
        refine sx_nil' ?_
        show TX E K9 _
        refine tx_k' hK9 ?_
        refine cx_retc' ?_
        replace hp := Option.some.inj hp
        subst hp
        show TX E (Zg E Exit.ret _ Exit.ret) _
        exact tx_zend' () rfl [] (sub_cons rfl sub_nil) (by decide) pick_nil
      · replace hp := (br_f h3).symm.trans hp
        refine cx_skip' ?_
        show TX E K6 _
        refine tx_k' hK6 ?_
        refine cx_region' ?_
        refine sx_rd' (rd_bin' rfl rfl eg_int ru_add) rfl rfl (wt_none' rfl) ?_
        refine sx_rd' (rd_move' rfl) rfl rfl (wt_none' rfl) ?_
        refine sx_nil' ?_
        show TX E (KY1 _) _
        exact tx_pick' [] (sub_cons rfl (sub_cons rfl (sub_cons rfl (sub_cons rfl sub_nil)))) (by decide) pick_nil (ih1 (iadd .i64 x1 1) () _ hp)
    · replace hp := (br_f h2).symm.trans hp
      refine cx_exit' ?_
      replace hp := Option.some.inj hp
      subst hp
      show TX E (Zg E (Exit.exit 0) _ (Exit.exit 0)) _
      exact tx_zend' () rfl [] sub_nil (by decide) pick_nil
  · rcases y1 with v2 | v3
    · dsimp only at hp
      refine zg_out fun w2 => ?_
      replace hp := Option.some.inj hp
      subst hp
      refine tx_pick' (L' := [(4, (Vl (.bool false)))]) (H' := []) [] (sub_cons rfl sub_nil) (by decide) pick_nil ?_
      exact tx_ret1' Try.results16 rfl () (rv_tmp' rfl) (List.Sublist.refl _)
    · dsimp only at hp
      refine zg_out fun w3 => ?_
      show TX E K2 _
      refine tx_k' hK2 ?_
      refine cx_seq' fun K10 hK10 => ?_
      refine cx_region' ?_
      refine sx_rd' (rd_assign' rfl) rfl rfl (wt_none' rfl) ?_
      refine sx_nil' ?_
      show TX E K10 _
      refine tx_k' hK10 ?_
      refine cx_retc' ?_
      replace hp := Option.some.inj hp
      subst hp
      refine tx_pick' (L' := [(4, (Vl (.bool true)))]) (H' := []) [] (sub_cons rfl sub_nil) (by decide) pick_nil ?_
      exact tx_ret1' Try.results16 rfl () (rv_tmp' rfl) (List.Sublist.refl _)

def laws_bare_l1s (a0 : List (Nat × Nat)) (k : Nat) (rec1 : ((List Nat) × Int) → Option ((List Nat))) (x1 : List Nat) (x2 : Int) : Option ((List Nat)) :=
  br (decide (x2 < (a0.length : Int)))
    ((idx a0 x2) >>= fun r10 =>
    (apd 8 x1 ([r10.1, r10.2])) >>= fun r18 =>
    rec1 (r18, (iadd .i64 x2 1)))
    (some x1)
def laws_bare_l1 (a0 : List (Nat × Nat)) : Nat → ((List Nat) × Int) → Option ((List Nat))
  | 0, _ => none
  | k + 1, v => laws_bare_l1s a0 k (laws_bare_l1 a0 k) v.1 v.2
def laws_bare (k : Nat) (a0 : List (Nat × Nat)) : Option ((List Nat)) :=
  (laws_bare_l1 a0 k ([], 0)) >>= fun v2 =>
  some v2

theorem laws_bare_sim {k : Nat}  (a0 : List (Nat × Nat)) {out : (List Nat)} (hp : laws_bare k a0 = some out) : Go.Sx.Fn Try.prog 18 [(Sl K27 a0)] [] (fun w : Unit => (Sl Kf out)) (fun w => []) := by
  unfold laws_bare at hp
  refine fn_of Try.func18 rfl Try.ntmps18 rfl fun E hM => ?_
  refine cx_seq' fun K1 hK1 => ?_
  refine cx_region' ?_
  refine sx_rd' (rd_assign' rfl) rfl rfl (wt_none' rfl) ?_
  refine sx_nil' ?_
  show TX E K1 _
  refine tx_k' hK1 ?_
  refine cx_seq' fun K2 hK2 => ?_
  refine cx_region' ?_
  refine sx_rd' (rd_assign' rfl) rfl rfl (wt_none' rfl) ?_
  refine sx_nil' ?_
  show TX E K2 _
  refine tx_k' hK2 ?_
  refine cx_seq' fun K3 hK3 => ?_
  refine cx_seq' fun K4 hK4 => ?_
  refine cx_region' ?_
  refine sx_rd' (rd_move' rfl) rfl rfl (wt_none' rfl) ?_
  refine sx_rd' (rd_len' rfl Try.underlying22) rfl rfl (wt_none' rfl) ?_
  refine sx_rd' (rd_move' rfl) rfl rfl (wt_none' rfl) ?_
  refine sx_nil' ?_
  show TX E K4 _
  refine tx_k' hK4 ?_
  refine cx_block' ?_
  obtain ⟨v2, hy1, hp⟩ := bind_some hp
  refine tx_nilrow' Kf 25 ?_
  refine cx_loopg' (F := laws_bare_l1 a0) (G := fun k R v => laws_bare_l1s a0 k R v.1 v.2) (x := ([], 0)) (gh := (none, 0, 0)) (fun (v1 : (List Nat) × Int) (w1 : Gs) => (⟨21, [], [(3, (Vl (Vs w1))), (6, (Sl K27 a0)), (7, (Vl (.int .i64 (a0.length : Int)))), (8, (Vl (.int .i64 v1.2)))], [(Rw Kf 25 (Vs w1) v1.1)]⟩ : St)) (fun (v2 : (List Nat)) => Zg E (Exit.exit 0) (fun (w2 : Gs) => (⟨21, [], [(3, (Vl (Vs w2)))], [(Rw Kf 25 (Vs w2) v2)]⟩ : St))) (fun _ => rfl) (fun _ _ => rfl) ?_ hy1 (tx_to' rfl [0] (sub_cons rfl (sub_cons rfl (sub_cons rfl (sub_cons rfl sub_nil)))) (by decide) (pick_cons rfl pick_nil)) ?_
  · clear hp hy1
    clear v2
    intro k rec1 KY1 ih1
    rintro ⟨x1, x2⟩ g901 y1 hp
    replace hp : laws_bare_l1s a0 k rec1 x1 x2 = some y1 := hp
    unfold laws_bare_l1s at hp
    refine cx_seq' fun K5 hK5 => ?_
    refine cx_region' ?_
    refine sx_rd' (rd_bin' rfl rfl eg_int ru_lss) rfl rfl (wt_none' rfl) ?_
    refine sx_nil' ?_
    show TX E K5 _
    refine tx_k' hK5 ?_
    refine cx_seq' fun K6 hK6 => ?_
    refine cx_cond' rfl (fun h2 => ?_) (fun h2 => ?_)
    · replace hp := (br_t h2).symm.trans hp
      refine cx_skip' ?_
      show TX E K6 _
      refine tx_k' hK6 ?_
      refine cx_seq' fun K7 hK7 => ?_
      refine cx_block' ?_
      refine cx_seq' fun K8 hK8 => ?_
      refine cx_region' ?_
      obtain ⟨r10, hr10, hp⟩ := bind_some hp
      refine sx_rd' (rd_at' (K := K27) rfl rfl hr10 Try.underlying22 info27) rfl rfl (wt_none' rfl) ?_
      refine sx_rd' (rd_load_pt_agg' (nn := 2) rfl rfl agg27 (l' := [(Vl (.float .f64 r10.1)), (Vl (.float .f64 r10.2))]) rfl) rfl rfl (wt_none' rfl) ?_
      refine sx_ox' (ox_alloc' info27 rfl rfl rfl rfl (l := [(Vl (.float .f64 0)), (Vl (.float .f64 0))]) rfl) (wt_none' rfl) fun q5 => ?_
      refine sx_ox' (ox_store' (i := 0) (o := 0) rfl rfl (lv_ag _) ⟨rfl, rfl, rfl, rfl⟩ rfl info27 rfl (H' := [⟨.pointer (some q5), [(Vl (.float .f64 r10.1)), (Vl (.float .f64 r10.2))], 27, none⟩, (Rw Kf 25 (Vs g901) x1)]) rfl) (wt_none' rfl) fun _ => ?_
      refine sx_nil' ?_
      show TX E K8 _
      refine tx_k' hK8 ?_
      refine cx_region' ?_
      refine sx_rd' (rd_move' rfl) rfl rfl (wt_none' rfl) ?_
      refine sx_rd' (rd_field0' rfl Try.underlying27 rfl info25 rfl) rfl rfl (wt_none' rfl) ?_
      refine sx_rd' (rd_load' (i := 0) (o := 0) rfl ⟨rfl, rfl, rfl, rfl⟩ rfl flat25) rfl rfl (wt_none' rfl) ?_
      refine sx_rd' (rd_field' (off := 1) rfl Try.underlying27 rfl info25 rfl) rfl rfl (wt_none' rfl) ?_
      refine sx_rd' (rd_load' (i := 0) (o := 1) rfl ⟨rfl, rfl, rfl, rfl⟩ rfl flat25) rfl rfl (wt_none' rfl) ?_
      refine sx_ox' (ox_rowlit' (K := Kf) (xs := [r10.1, r10.2]) (qs := [(0, [(Vl (.float .f64 r10.1))]), (1, [(Vl (.float .f64 r10.2))])]) ⟨rfl, ⟨_, rfl, (lv_vl rfl rfl)⟩, ⟨rfl, ⟨_, rfl, (lv_vl rfl rfl)⟩, trivial⟩⟩ Try.underlying30 info25 rfl rfl rfl rfl rfl (by kernel_rfl) rfl rfl rfl) (wt_none' rfl) fun g17 => ?_
      obtain ⟨r18, hr18, hp⟩ := bind_some hp
      refine sx_ox' (ox_append' (K := Kf) (i := 2) (xs := x1) (ys := ([r10.1, r10.2])) rfl rfl rfl (sr_row' (j := 0) rfl rfl rfl Try.underlying30) hr18 Try.underlying30 info25 rfl rfl rfl (H' := [(Rw Kf 25 (Vs g17) ([r10.1, r10.2])), ⟨.pointer (some q5), [(Vl (.float .f64 r10.1)), (Vl (.float .f64 r10.2))], 27, none⟩]) rfl) (wt_none' rfl) fun g18 => ?_
      refine sx_rd' (rd_assign' rfl) rfl rfl (wt_none' rfl) ?_
      refine sx_nil' ?_
      show TX E K7 _
      refine tx_k' hK7 ?_
      refine cx_region' ?_
      refine sx_rd' (rd_bin' rfl rfl eg_int ru_add) rfl rfl (wt_none' rfl) ?_
      refine sx_rd' (rd_move' rfl) rfl rfl (wt_none' rfl) ?_
      refine sx_nil' ?_
      show TX E (KY1 _) _
      exact tx_pick' [0] (sub_cons rfl (sub_cons rfl (sub_cons rfl (sub_cons rfl sub_nil)))) (by decide) (pick_cons rfl pick_nil) (ih1 (r18, (iadd .i64 x2 1)) g18 _ hp)
    · replace hp := (br_f h2).symm.trans hp
      refine cx_exit' ?_
      replace hp := Option.some.inj hp
      subst hp
      show TX E (Zg E (Exit.exit 0) _ (Exit.exit 0)) _
      exact tx_zend' g901 rfl [0] (sub_cons rfl sub_nil) (by decide) (pick_cons rfl pick_nil)
  · refine zg_out fun w2 => ?_
    show TX E K3 _
    refine tx_k' hK3 ?_
    refine cx_seq' fun K9 hK9 => ?_
    refine cx_region' ?_
    refine sx_rd' (rd_move' rfl) rfl rfl (wt_none' rfl) ?_
    refine sx_rd' (rd_assign' rfl) rfl rfl (wt_none' rfl) ?_
    refine sx_nil' ?_
    show TX E K9 _
    refine tx_k' hK9 ?_
    refine cx_retc' ?_
    replace hp := Option.some.inj hp
    subst hp
    refine tx_fz' (frz_row 0 [(3, (Vl (Vs w2)), (Sl Kf v2)), (20, (Vl (Vs w2)), (Sl Kf v2)), (2, (Vl (Vs w2)), (Sl Kf v2))] (K := Kf) (xs := v2) (by decide) rfl ⟨⟨rfl, frz_it⟩, ⟨rfl, frz_it⟩, ⟨rfl, frz_it⟩, trivial⟩ (H' := []) frzH_refl) ?_
    refine tx_pick' (L' := [(2, (Sl Kf v2))]) (H' := []) [] (sub_cons rfl sub_nil) (by decide) pick_nil ?_
    exact tx_ret1' Try.results18 rfl () (rv_tmp' rfl) (List.Sublist.refl _)

def gogeom_Layout_Stride (k : Nat) (a0 : Int) : Option (Int) :=
  br (decide (a0 = 0))
    (some 0)
    (br (decide (a0 = 1))
      (some 2)
      (br (decide (a0 = 2))
        (some 3)
        (br (decide (a0 = 3))
          (some 3)
          (br (decide (a0 = 4))
            (some 4)
            (some a0)))))

theorem gogeom_Layout_Stride_sim {k : Nat}  (a0 : Int) {out : Int} (hp : gogeom_Layout_Stride k a0 = some out) : Go.Sx.Fn Try.prog 116 [(Vl (.int .i64 a0))] [] (fun w : Unit => (Vl (.int .i64 out))) (fun w => []) := by
  unfold gogeom_Layout_Stride at hp
  refine fn_of Try.func116 rfl Try.ntmps116 rfl fun E hM => ?_
  refine cx_seq' fun K1 hK1 => ?_
  refine cx_region' ?_
  refine sx_rd' (rd_assign' rfl) rfl rfl (wt_none' rfl) ?_
  refine sx_nil' ?_
  show TX E K1 _
  refine tx_k' hK1 ?_
  refine cx_seq' fun K2 hK2 => ?_
  refine cx_region' ?_
  refine sx_rd' (rd_move' rfl) rfl rfl (wt_none' rfl) ?_
  refine sx_nil' ?_
  show TX E K2 _
  refine tx_k' hK2 ?_
  refine cx_block' ?_
  refine cx_seq' fun K3 hK3 => ?_
  refine cx_region' ?_
  refine sx_rd' (rd_bin' rfl rfl eg_int ru_eql) rfl rfl (wt_none' rfl) ?_
  refine sx_rd' (rd_assign' rfl) rfl rfl (wt_none' rfl) ?_
  refine sx_nil' ?_
  show TX E K3 _
  refine tx_k' hK3 ?_
  refine cx_cond' rfl (fun h1 => ?_) (fun h1 => ?_)
  · replace hp := (br_t h1).symm.trans hp
    refine cx_seq' fun K4 hK4 => ?_
    refine cx_region' ?_
    refine sx_rd' (rd_assign' rfl) rfl rfl (wt_none' rfl) ?_
    refine sx_nil' ?_
    show TX E K4 _
    refine tx_k' hK4 ?_
    refine cx_retc' ?_
    replace hp := Option.some.inj hp
    subst hp
    refine tx_pick' (L' := [(2, (Vl (.int .i64 0)))]) (H' := []) [] (sub_cons rfl sub_nil) (by decide) pick_nil ?_
    exact tx_ret1' Try.results116 rfl () (rv_tmp' rfl) (List.Sublist.refl _)
  · replace hp := (br_f h1).symm.trans hp
    refine cx_seq' fun K5 hK5 => ?_
    refine cx_region' ?_
    refine sx_rd' (rd_bin' rfl rfl eg_int ru_eql) rfl rfl (wt_none' rfl) ?_
    refine sx_rd' (rd_assign' rfl) rfl rfl (wt_none' rfl) ?_
    refine sx_nil' ?_
    show TX E K5 _
    refine tx_k' hK5 ?_
    refine cx_cond' rfl (fun h2 => ?_) (fun h2 => ?_)
    · replace hp := (br_t h2).symm.trans hp
      refine cx_seq' fun K6 hK6 => ?_
      refine cx_region' ?_
      refine sx_rd' (rd_assign' rfl) rfl rfl (wt_none' rfl) ?_
      refine sx_nil' ?_
      show TX E K6 _
      refine tx_k' hK6 ?_
      refine cx_retc' ?_
      replace hp := Option.some.inj hp
      subst hp
      refine tx_pick' (L' := [(2, (Vl (.int .i64 2)))]) (H' := []) [] (sub_cons rfl sub_nil) (by decide) pick_nil ?_
      exact tx_ret1' Try.results116 rfl () (rv_tmp' rfl) (List.Sublist.refl _)
    · replace hp := (br_f h2).symm.trans hp
      refine cx_seq' fun K7 hK7 => ?_
      refine cx_region' ?_
      refine sx_rd' (rd_bin' rfl rfl eg_int ru_eql) rfl rfl (wt_none' rfl) ?_
      refine sx_rd' (rd_assign' rfl) rfl rfl (wt_none' rfl) ?_
      refine sx_nil' ?_
      show TX E K7 _
      refine tx_k' hK7 ?_
      refine cx_cond' rfl (fun h3 => ?_) (fun h3 => ?_)
      · replace hp := (br_t h3).symm.trans hp
        refine cx_seq' fun K8 hK8 => ?_
        refine cx_region' ?_
        refine sx_rd' (rd_assign' rfl) rfl rfl (wt_none' rfl) ?_
        refine sx_nil' ?_
        show TX E K8 _
        refine tx_k' hK8 ?_
        refine cx_retc' ?_
        replace hp := Option.some.inj hp
        subst hp
        refine tx_pick' (L' := [(2, (Vl (.int .i64 3)))]) (H' := []) [] (sub_cons rfl sub_nil) (by decide) pick_nil ?_
        exact tx_ret1' Try.results116 rfl () (rv_tmp' rfl) (List.Sublist.refl _)
      · replace hp := (br_f h3).symm.trans hp
        refine cx_seq' fun K9 hK9 => ?_
        refine cx_region' ?_
        refine sx_rd' (rd_bin' rfl rfl eg_int ru_eql) rfl rfl (wt_none' rfl) ?_
        refine sx_rd' (rd_assign' rfl) rfl rfl (wt_none' rfl) ?_
        refine sx_nil' ?_
        show TX E K9 _
        refine tx_k' hK9 ?_
        refine cx_cond' rfl (fun h4 => ?_) (fun h4 => ?_)
        · replace hp := (br_t h4).symm.trans hp
          refine cx_seq' fun K10 hK10 => ?_
          refine cx_region' ?_
          refine sx_rd' (rd_assign' rfl) rfl rfl (wt_none' rfl) ?_
          refine sx_nil' ?_
          show TX E K10 _
          refine tx_k' hK10 ?_
          refine cx_retc' ?_
          replace hp := Option.some.inj hp
          subst hp
          refine tx_pick' (L' := [(2, (Vl (.int .i64 3)))]) (H' := []) [] (sub_cons rfl sub_nil) (by decide) pick_nil ?_
          exact tx_ret1' Try.results116 rfl () (rv_tmp' rfl) (List.Sublist.refl _)
        · replace hp := (br_f h4).symm.trans hp
          refine cx_seq' fun K11 hK11 => ?_
          refine cx_region' ?_
          refine sx_rd' (rd_bin' rfl rfl eg_int ru_eql) rfl rfl (wt_none' rfl) ?_
          refine sx_rd' (rd_assign' rfl) rfl rfl (wt_none' rfl) ?_
          refine sx_nil' ?_
          show TX E K11 _
          refine tx_k' hK11 ?_
          refine cx_cond' rfl (fun h5 => ?_) (fun h5 => ?_)
          · replace hp := (br_t h5).symm.trans hp
            refine cx_seq' fun K12 hK12 => ?_
            refine cx_region' ?_
            refine sx_rd' (rd_assign' rfl) rfl rfl (wt_none' rfl) ?_
            refine sx_nil' ?_
            show TX E K12 _
            refine tx_k' hK12 ?_
            refine cx_retc' ?_
            replace hp := Option.some.inj hp
            subst hp
            refine tx_pick' (L' := [(2, (Vl (.int .i64 4)))]) (H' := []) [] (sub_cons rfl sub_nil) (by decide) pick_nil ?_
            exact tx_ret1' Try.results116 rfl () (rv_tmp' rfl) (List.Sublist.refl _)
          · replace hp := (br_f h5).symm.trans hp
            refine cx_seq' fun K13 hK13 => ?_
            refine cx_region' ?_
            refine sx_rd' (rd_move' rfl) rfl rfl (wt_none' rfl) ?_
            refine sx_rd' (rd_assign' rfl) rfl rfl (wt_none' rfl) ?_
            refine sx_nil' ?_
            show TX E K13 _
            refine tx_k' hK13 ?_
            refine cx_retc' ?_
            replace hp := Option.some.inj hp
            subst hp
            refine tx_pick' (L' := [(2, (Vl (.int .i64 a0)))]) (H' := []) [] (sub_cons rfl sub_nil) (by decide) pick_nil ?_
            exact tx_ret1' Try.results116 rfl () (rv_tmp' rfl) (List.Sublist.refl _)

def xy_SignedArea_l1s (a1 : List Nat) (r14 : Int) (r21 : Nat) (k : Nat) (rec1 : (Nat × Int) → Option (Nat)) (x1 : Nat) (x2 : Int) : Option (Nat) :=
  br (decide (x2 < (isub .i64 (a1.length : Int) r14)))
    ((idx a1 x2) >>= fun r36 =>
    (some (gsub r36 r21)) >>= fun r39 =>
    (idx a1 (iadd .i64 (iadd .i64 x2 r14) 1)) >>= fun r45 =>
    (idx a1 (iadd .i64 (isub .i64 x2 r14) 1)) >>= fun r52 =>
    (some (gsub r52 r45)) >>= fun r58 =>
    (some (gmul r39 r58)) >>= fun r59 =>
    (some (gadd x1 r59)) >>= fun r60 =>
    rec1 (r60, (iadd .i64 x2 r14)))
    (some x1)
def xy_SignedArea_l1 (a1 : List Nat) (r14 : Int) (r21 : Nat) : Nat → (Nat × Int) → Option (Nat)
  | 0, _ => none
  | k + 1, v => xy_SignedArea_l1s a1 r14 r21 k (xy_SignedArea_l1 a1 r14 r21 k) v.1 v.2
def xy_SignedArea (k : Nat) (a0 : Int) (a1 : List Nat) : Option (Nat) :=
  (gogeom_Layout_Stride k a0) >>= fun r14 =>
  br (decide ((a1.length : Int) < (imul .i64 3 r14)))
    (some 0)
    ((idx a1 0) >>= fun r21 =>
    (xy_SignedArea_l1 a1 r14 r21 k (0, r14)) >>= fun v2 =>
    (some (gdiv v2 4611686018427387904)) >>= fun r62 =>
    some r62)

theorem xy_SignedArea_sim {k : Nat}  (a0 : Int) (a1 : List Nat) {out : Nat} (hp : xy_SignedArea k a0 a1 = some out) : Go.Sx.Fn Try.prog 64 [(Vl (.int .i64 a0)), (Sl Kf a1)] [] (fun w : Unit => (Fl out)) (fun w => []) := by
  unfold xy_SignedArea at hp
  refine fn_of Try.func64 rfl Try.ntmps64 rfl fun E hM => ?_
  refine cx_seq' fun K1 hK1 => ?_
  refine cx_region' ?_
  refine sx_rd' (rd_assign' rfl) rfl rfl (wt_none' rfl) ?_
  refine sx_nil' ?_
  show TX E K1 _
  refine tx_k' hK1 ?_
  refine cx_seq' fun K2 hK2 => ?_
  refine cx_region' ?_
  refine sx_rd' (rd_move' rfl) rfl rfl (wt_none' rfl) ?_
  obtain ⟨r14, hr14, hp⟩ := bind_some hp
  refine sx_ox' (ox_calln' (ent_fn' Try.func116 isn116 rfl rfl) (gogeom_Layout_Stride_sim _ hr14 : Go.Sx.Fn Try.prog 116 [(Vl (.int .i64 a0))] [] (fun x : Unit => (Vl (.int .i64 r14))) (fun x => [])) (Hn := fun x : Unit => []) (fun _ => rfl) rfl rfl) (wt_none' rfl) fun ⟨⟩ => ?_
  refine sx_rd' (rd_assign' rfl) rfl rfl (wt_none' rfl) ?_
  refine sx_nil' ?_
  show TX E K2 _
  refine tx_k' hK2 ?_
  refine cx_seq' fun K3 hK3 => ?_
  refine cx_seq' fun K4 hK4 => ?_
  refine cx_region' ?_
  refine sx_rd' (rd_move' rfl) rfl rfl (wt_none' rfl) ?_
  refine sx_rd' (rd_len' rfl Try.underlying30) rfl rfl (wt_none' rfl) ?_
  refine sx_rd' (rd_move' rfl) rfl rfl (wt_none' rfl) ?_
  refine sx_rd' (rd_bin' rfl rfl eg_int ru_mul) rfl rfl (wt_none' rfl) ?_
  refine sx_rd' (rd_bin' rfl rfl eg_int ru_lss) rfl rfl (wt_none' rfl) ?_
  refine sx_nil' ?_
  show TX E K4 _
  refine tx_k' hK4 ?_
  refine cx_cond' rfl (fun h1 => ?_) (fun h1 => ?_)
  · replace hp := (br_t h1).symm.trans hp
    refine cx_seq' fun K5 hK5 => ?_
    refine cx_region' ?_
    refine sx_rd' (rd_assign' rfl) rfl rfl (wt_none' rfl) ?_
    refine sx_nil' ?_
    show TX E K5 _
    refine tx_k' hK5 ?_
    refine cx_retc' ?_
    replace hp := Option.some.inj hp
    subst hp
    refine tx_pick' (L' := [(4, (Vl (.float .f64 0)))]) (H' := []) [] (sub_cons rfl sub_nil) (by decide) pick_nil ?_
    exact tx_ret1' Try.results64 rfl () (rv_imp' (x := (Vl (.float .f64 0))) (y := (Fl 0)) (rv_tmp' rfl) imp_vf) (List.Sublist.refl _)
  · replace hp := (br_f h1).symm.trans hp
    refine cx_skip' ?_
    show TX E K3 _
    refine tx_k' hK3 ?_
    refine cx_seq' fun K6 hK6 => ?_
    refine cx_region' ?_
    refine sx_rd' (rd_assign' rfl) rfl rfl (wt_none' rfl) ?_
    refine sx_nil' ?_
    show TX E K6 _
    refine tx_k' hK6 ?_
    refine cx_seq' fun K7 hK7 => ?_
    refine cx_region' ?_
    refine sx_rd' (rd_move' rfl) rfl rfl (wt_none' rfl) ?_
    obtain ⟨r21, hr21, hp⟩ := bind_some hp
    refine sx_rd' (rd_at' (K := Kf) rfl rfl hr21 Try.underlying30 info25) rfl rfl (wt_none' rfl) ?_
    refine sx_rd' (rd_load_pt' rfl rfl flat25) rfl rfl (wt_none' rfl) ?_
    refine sx_rd' (rd_assign' rfl) rfl rfl (wt_none' rfl) ?_
    refine sx_nil' ?_
    show TX E K7 _
    refine tx_k' hK7 ?_
    refine cx_seq' fun K8 hK8 => ?_
    refine cx_region' ?_
    refine sx_rd' (rd_move' rfl) rfl rfl (wt_none' rfl) ?_
    refine sx_rd' (rd_len' rfl Try.underlying30) rfl rfl (wt_none' rfl) ?_
    refine sx_rd' (rd_move' rfl) rfl rfl (wt_none' rfl) ?_
    refine sx_rd' (rd_bin' rfl rfl eg_int ru_sub) rfl rfl (wt_none' rfl) ?_
    refine sx_rd' (rd_assign' rfl) rfl rfl (wt_none' rfl) ?_
    refine sx_nil' ?_
    show TX E K8 _
    refine tx_k' hK8 ?_
    refine cx_seq' fun K9 hK9 => ?_
    refine cx_seq' fun K10 hK10 => ?_
    refine cx_region' ?_
    refine sx_rd' (rd_move' rfl) rfl rfl (wt_none' rfl) ?_
    refine sx_rd' (rd_assign' rfl) rfl rfl (wt_none' rfl) ?_
    refine sx_nil' ?_
    show TX E K10 _
    refine tx_k' hK10 ?_
    refine cx_block' ?_
    obtain ⟨v2, hy1, hp⟩ := bind_some hp
    refine tx_slot' 6 (y := (Fl 0)) rfl imp_vf ?_
    refine cx_loopg' (F := xy_SignedArea_l1 a1 r14 r21) (G := fun k R v => xy_SignedArea_l1s a1 r14 r21 k R v.1 v.2) (x := (0, r14)) (gh := ()) (fun (v1 : Nat × Int) (w1 : Unit) => (⟨63, [], [(1, (Sl Kf a1)), (5, (Vl (.int .i64 r14))), (6, (Fl v1.1)), (7, (Vl (.float .f64 r21))), (8, (Vl (.int .i64 (isub .i64 (a1.length : Int) r14)))), (9, (Vl (.int .i64 v1.2)))], []⟩ : St)) (fun (v2 : Nat) => Zg E (Exit.exit 0) (fun (w2 : Unit) => (⟨63, [], [(6, (Fl v2))], []⟩ : St))) (fun _ => rfl) (fun _ _ => rfl) ?_ hy1 (tx_to' rfl [] (sub_cons rfl (sub_cons rfl (sub_cons rfl (sub_cons rfl (sub_cons rfl (sub_cons rfl sub_nil)))))) (by decide) pick_nil) ?_
    · clear hp hy1
      clear v2
      intro k rec1 KY1 ih1
      rintro ⟨x1, x2⟩ ⟨⟩ y1 hp
      replace hp : xy_SignedArea_l1s a1 r14 r21 k rec1 x1 x2 = some y1 := hp
      unfold xy_SignedArea_l1s at hp
      refine cx_seq' fun K11 hK11 => ?_
      refine cx_seq' fun K12 hK12 => ?_
      refine cx_region' ?_
      refine sx_rd' (rd_move' rfl) rfl rfl (wt_none' rfl) ?_
      refine sx_rd' (rd_move' rfl) rfl rfl (wt_none' rfl) ?_
      refine sx_rd' (rd_bin' rfl rfl eg_int ru_lss) rfl rfl (wt_none' rfl) ?_
      refine sx_nil' ?_
      show TX E K12 _
      refine tx_k' hK12 ?_
      refine cx_cond' rfl (fun h3 => ?_) (fun h3 => ?_)
      · replace hp := (br_t h3).symm.trans hp
        refine cx_skip' ?_
        show TX E K11 _
        refine tx_k' hK11 ?_
        refine cx_seq' fun K13 hK13 => ?_
        refine cx_block' ?_
        refine cx_seq' fun K14 hK14 => ?_
        refine cx_region' ?_
        refine sx_rd' (rd_move' rfl) rfl rfl (wt_none' rfl) ?_
        refine sx_rd' (rd_move' rfl) rfl rfl (wt_none' rfl) ?_
        obtain ⟨r36, hr36, hp⟩ := bind_some hp
        refine sx_rd' (rd_at' (K := Kf) rfl rfl hr36 Try.underlying30 info25) rfl rfl (wt_none' rfl) ?_
        refine sx_rd' (rd_load_pt' rfl rfl flat25) rfl rfl (wt_none' rfl) ?_
        refine sx_rd' (rd_move' rfl) rfl rfl (wt_none' rfl) ?_
        obtain ⟨r39, hr39, hp⟩ := bind_some hp
        refine sx_ox' (ox_fop' (.inr (.inl rfl)) (fl_v rfl) (fl_v rfl) (Option.some.inj hr39) rfl rfl) (wt_none' rfl) fun _ => ?_
        refine sx_rd' (rd_assign' rfl) rfl rfl (wt_none' rfl) ?_
        refine sx_nil' ?_
        show TX E K14 _
        refine tx_k' hK14 ?_
        refine cx_seq' fun K15 hK15 => ?_
        refine cx_region' ?_
        refine sx_rd' (rd_move' rfl) rfl rfl (wt_none' rfl) ?_
        refine sx_rd' (rd_move' rfl) rfl rfl (wt_none' rfl) ?_
        refine sx_rd' (rd_move' rfl) rfl rfl (wt_none' rfl) ?_
        refine sx_rd' (rd_bin' rfl rfl eg_int ru_add) rfl rfl (wt_none' rfl) ?_
        refine sx_rd' (rd_bin' rfl rfl eg_int ru_add) rfl rfl (wt_none' rfl) ?_
        obtain ⟨r45, hr45, hp⟩ := bind_some hp
        refine sx_rd' (rd_at' (K := Kf) rfl rfl hr45 Try.underlying30 info25) rfl rfl (wt_none' rfl) ?_
        refine sx_rd' (rd_load_pt' rfl rfl flat25) rfl rfl (wt_none' rfl) ?_
        refine sx_rd' (rd_assign' rfl) rfl rfl (wt_none' rfl) ?_
        refine sx_nil' ?_
        show TX E K15 _
        refine tx_k' hK15 ?_
        refine cx_seq' fun K16 hK16 => ?_
        refine cx_region' ?_
        refine sx_rd' (rd_move' rfl) rfl rfl (wt_none' rfl) ?_
        refine sx_rd' (rd_move' rfl) rfl rfl (wt_none' rfl) ?_
        refine sx_rd' (rd_move' rfl) rfl rfl (wt_none' rfl) ?_
        refine sx_rd' (rd_bin' rfl rfl eg_int ru_sub) rfl rfl (wt_none' rfl) ?_
        refine sx_rd' (rd_bin' rfl rfl eg_int ru_add) rfl rfl (wt_none' rfl) ?_
        obtain ⟨r52, hr52, hp⟩ := bind_some hp
        refine sx_rd' (rd_at' (K := Kf) rfl rfl hr52 Try.underlying30 info25) rfl rfl (wt_none' rfl) ?_
        refine sx_rd' (rd_load_pt' rfl rfl flat25) rfl rfl (wt_none' rfl) ?_
        refine sx_rd' (rd_assign' rfl) rfl rfl (wt_none' rfl) ?_
        refine sx_nil' ?_
        show TX E K16 _
        refine tx_k' hK16 ?_
        refine cx_region' ?_
        refine sx_rd' (rd_move' rfl) rfl rfl (wt_none' rfl) ?_
        refine sx_rd' (rd_move' rfl) rfl rfl (wt_none' rfl) ?_
        refine sx_rd' (rd_move' rfl) rfl rfl (wt_none' rfl) ?_
        refine sx_rd' (rd_move' rfl) rfl rfl (wt_none' rfl) ?_
        obtain ⟨r58, hr58, hp⟩ := bind_some hp
        refine sx_ox' (ox_fop' (.inr (.inl rfl)) (fl_v rfl) (fl_v rfl) (Option.some.inj hr58) rfl rfl) (wt_none' rfl) fun _ => ?_
        obtain ⟨r59, hr59, hp⟩ := bind_some hp
        refine sx_ox' (ox_fop' (.inr (.inr (.inl rfl))) (fl_f rfl) (fl_f rfl) (Option.some.inj hr59) rfl rfl) (wt_none' rfl) fun _ => ?_
        obtain ⟨r60, hr60, hp⟩ := bind_some hp
        refine sx_ox' (ox_fop' (.inl rfl) (fl_f rfl) (fl_f rfl) (Option.some.inj hr60) rfl rfl) (wt_none' rfl) fun _ => ?_
        refine sx_rd' (rd_assign' rfl) rfl rfl (wt_none' rfl) ?_
        refine sx_nil' ?_
        show TX E K13 _
        refine tx_k' hK13 ?_
        refine cx_region' ?_
        refine sx_rd' (rd_move' rfl) rfl rfl (wt_none' rfl) ?_
        refine sx_rd' (rd_move' rfl) rfl rfl (wt_none' rfl) ?_
        refine sx_rd' (rd_bin' rfl rfl eg_int ru_add) rfl rfl (wt_none' rfl) ?_
        refine sx_rd' (rd_assign' rfl) rfl rfl (wt_none' rfl) ?_
        refine sx_nil' ?_
        show TX E (KY1 _) _
        exact tx_pick' [] (sub_cons rfl (sub_cons rfl (sub_cons rfl (sub_cons rfl (sub_cons rfl (sub_cons rfl sub_nil)))))) (by decide) pick_nil (ih1 (r60, (iadd .i64 x2 r14)) () _ hp)
      · replace hp := (br_f h3).symm.trans hp
        refine cx_exit' ?_
        replace hp := Option.some.inj hp
        subst hp
        show TX E (Zg E (Exit.exit 0) _ (Exit.exit 0)) _
        exact tx_zend' () rfl [] (sub_cons rfl sub_nil) (by decide) pick_nil
    · refine zg_out fun w2 => ?_
      show TX E K9 _
      refine tx_k' hK9 ?_
      refine cx_seq' fun K17 hK17 => ?_
      refine cx_region' ?_
      refine sx_rd' (rd_move' rfl) rfl rfl (wt_none' rfl) ?_
      obtain ⟨r62, hr62, hp⟩ := bind_some hp
      refine sx_ox' (ox_fop' (.inr (.inr (.inr rfl))) (fl_f rfl) (fl_v rfl) (Option.some.inj hr62) rfl rfl) (wt_none' rfl) fun _ => ?_
      refine sx_rd' (rd_assign' rfl) rfl rfl (wt_none' rfl) ?_
      refine sx_nil' ?_
      show TX E K17 _
      refine tx_k' hK17 ?_
      refine cx_retc' ?_
      replace hp := Option.some.inj hp
      subst hp
      refine tx_pick' (L' := [(4, (Fl r62))]) (H' := []) [] (sub_cons rfl sub_nil) (by decide) pick_nil ?_
      exact tx_ret1' Try.results64 rfl () (rv_tmp' rfl) (List.Sublist.refl _)

def impl_SignedArea (k : Nat) (a0 : Int) (a1 : List Nat) : Option (Nat × Bool) :=
  (xy_SignedArea k a0 a1) >>= fun r9 =>
  some (r9, true)

theorem impl_SignedArea_sim {k : Nat}  (a0 : Int) (a1 : List Nat) {out : Nat × Bool} (hp : impl_SignedArea k a0 a1 = some out) : Go.Sx.Fn Try.prog 17 [(Vl (.int .i64 a0)), (Sl Kf a1)] [] (fun w : Unit => (Tu [(Fl out.1), (Vl (.bool out.2))])) (fun w => []) := by
  unfold impl_SignedArea at hp
  refine fnD_of Try.func17 rfl Try.ntmps17 rfl fun E hM => ?_
  refine cx_seq' fun K1 hK1 => ?_
  refine cx_region' ?_
  refine sx_ox' (ox_alloc' info25 rfl rfl rfl rfl (l := [(Vl (.float .f64 0))]) rfl) (wt_none' rfl) fun q4 => ?_
  refine sx_ox' (ox_alloc' info4 rfl rfl rfl rfl (l := [(Vl (.bool false))]) rfl) (wt_none' rfl) fun q5 => ?_
  refine sx_nil' ?_
  show TX E K1 _
  refine tx_k' hK1 ?_
  refine cx_seq' fun K2 hK2 => ?_
  refine cx_region' ?_
  refine sx_rd' (rd_mkfunc' (us := [.pointer (some q4), .pointer (some q5)]) rfl) rfl rfl (wt_none' rfl) ?_
  refine sx_ox' (ox_defer' rfl rfl) (wt_none' rfl) fun _ => ?_
  refine sx_nil' ?_
  show TX E K2 _
  refine tx_k' hK2 ?_
  refine cx_seq' fun K3 hK3 => ?_
  refine cx_region' ?_
  refine sx_rd' (rd_move' rfl) rfl rfl (wt_none' rfl) ?_
  refine sx_rd' (rd_move' rfl) rfl rfl (wt_none' rfl) ?_
  obtain ⟨r9, hr9, hp⟩ := bind_some hp
  refine sx_ox' (ox_calln' (ent_fn' Try.func64 isn64 rfl rfl) (xy_SignedArea_sim _ _ hr9 : Go.Sx.Fn Try.prog 64 [(Vl (.int .i64 a0)), (Sl Kf a1)] [] (fun x : Unit => (Fl r9)) (fun x => [])) (Hn := fun x : Unit => [⟨.pointer (some q5), [(Vl (.bool false))], 4, none⟩, ⟨.pointer (some q4), [(Vl (.float .f64 0))], 25, none⟩]) (fun _ => rfl) rfl rfl) (wt_none' rfl) fun ⟨⟩ => ?_
  refine sx_ox' (ox_store' (i := 1) (o := 0) rfl rfl (lv_fl _) ⟨rfl, rfl, rfl, rfl⟩ rfl info25 rfl (H' := [⟨.pointer (some q5), [(Vl (.bool false))], 4, none⟩, ⟨.pointer (some q4), [(Fl r9)], 25, none⟩]) rfl) (wt_none' rfl) fun _ => ?_
  refine sx_ox' (ox_store' (i := 0) (o := 0) rfl rfl (lv_vl rfl rfl) ⟨rfl, rfl, rfl, rfl⟩ rfl info4 rfl (H' := [⟨.pointer (some q5), [(Vl (.bool true))], 4, none⟩, ⟨.pointer (some q4), [(Fl r9)], 25, none⟩]) rfl) (wt_none' rfl) fun _ => ?_
  refine sx_nil' ?_
  show TX E K3 _
  refine tx_k' hK3 ?_
  refine cx_retc' ?_
  replace hp := Option.some.inj hp
  subst hp
  refine tx_leave' (.inl rfl) rfl idle63 rfl Try.func63 isn63 rfl ?_
  refine tx_pick' (L' := [(4, (Vl (.pointer (some q4)))), (5, (Vl (.pointer (some q5))))]) (H' := [⟨.pointer (some q4), [(Fl r9)], 25, none⟩, ⟨.pointer (some q5), [(Vl (.bool true))], 4, none⟩]) [1, 0] (sub_cons rfl (sub_cons rfl sub_nil)) (by decide) (pick_cons rfl (pick_cons rfl pick_nil)) ?_
  exact tx_ret2' Try.results17 rfl () (rv_cell' (i := 0) (o := 0) rfl ⟨rfl, rfl, rfl, rfl⟩ rfl flat25) (rv_cell' (i := 1) (o := 0) rfl ⟨rfl, rfl, rfl, rfl⟩ rfl flat4) rfl (List.nil_sublist _)

def laws_about_l1s (a0 : List (Nat × Nat)) (a1 : Int) (k : Nat) (rec1 : ((List (Nat × Nat)) × Int) → Option ((List (Nat × Nat)))) (x1 : List (Nat × Nat)) (x2 : Int) : Option ((List (Nat × Nat))) :=
  br (decide (x2 < (isub .i64 (a0.length : Int) 1)))
    ((irem a1 (isub .i64 (a0.length : Int) 1)) >>= fun r21 =>
    (irem (iadd .i64 (iadd .i64 x2 r21) (isub .i64 (a0.length : Int) 1)) (isub .i64 (a0.length : Int) 1)) >>= fun r26 =>
    (idx a0 r26) >>= fun r27 =>
    (apd 16 x1 ([(r27.1, r27.2)])) >>= fun r30 =>
    rec1 (r30, (iadd .i64 x2 1)))
    (some x1)
def laws_about_l1 (a0 : List (Nat × Nat)) (a1 : Int) : Nat → ((List (Nat × Nat)) × Int) → Option ((List (Nat × Nat)))
  | 0, _ => none
  | k + 1, v => laws_about_l1s a0 a1 k (laws_about_l1 a0 a1 k) v.1 v.2
def laws_about_j1 (k : Nat) (x5 : List (Nat × Nat)) (x6 : Int) (rec2 : ((List (Nat × Nat)) × Int) → Option ((List (Nat × Nat)))) (x4 : Bool) : Option ((List (Nat × Nat))) :=
  br x4
    ((idx x5 (isub .i64 (isub .i64 (x5.length : Int) 1) x6)) >>= fun r64 =>
    (idx x5 x6) >>= fun r68 =>
    (idx x5 x6) >>= fun r70 =>
    (idx (x5.set x6.toNat (r64.1, r64.2)) (isub .i64 (isub .i64 (x5.length : Int) 1) x6)) >>= fun r71 =>
    rec2 (((x5.set x6.toNat (r64.1, r64.2)).set (isub .i64 (isub .i64 (x5.length : Int) 1) x6).toNat (r68.1, r68.2)), (iadd .i64 x6 1)))
    (some x5)
def laws_about_l2s (a1 : Int) (k : Nat) (rec2 : ((List (Nat × Nat)) × Int) → Option ((List (Nat × Nat)))) (x5 : List (Nat × Nat)) (x6 : Int) : Option ((List (Nat × Nat))) :=
  (irem a1 2) >>= fun r39 =>
  br (!decide (r39 = 0))
    ((iquo .i64 (x5.length : Int) 2) >>= fun r45 =>
    laws_about_j1 k x5 x6 rec2 (decide (x6 < r45)))
    (laws_about_j1 k x5 x6 rec2 false)
def laws_about_l2 (a1 : Int) : Nat → ((List (Nat × Nat)) × Int) → Option ((List (Nat × Nat)))
  | 0, _ => none
  | k + 1, v => laws_about_l2s a1 k (laws_about_l2 a1 k) v.1 v.2
def laws_about (k : Nat) (a0 : List (Nat × Nat)) (a1 : Int) : Option ((List (Nat × Nat))) :=
  (laws_about_l1 a0 a1 k ([], 0)) >>= fun v2 =>
  (idx v2 0) >>= fun r34 =>
  (apd 16 v2 ([(r34.1, r34.2)])) >>= fun r37 =>
  (laws_about_l2 a1 k (r37, 0)) >>= fun v5 =>
  some v5

theorem laws_about_sim {k : Nat}  (a0 : List (Nat × Nat)) (a1 : Int) {out : (List (Nat × Nat))} (hp : laws_about k a0 a1 = some out) : Go.Sx.Fn Try.prog 19 [(Sl K27 a0), (Vl (.int .i64 a1))] [] (fun w : Unit => (Sl K27 out)) (fun w => []) := by
  unfold laws_about at hp
  refine fn_of Try.func19 rfl Try.ntmps19 rfl fun E hM => ?_
  refine cx_seq' fun K1 hK1 => ?_
  refine cx_region' ?_
  refine sx_rd' (rd_assign' rfl) rfl rfl (wt_none' rfl) ?_
  refine sx_nil' ?_
  show TX E K1 _
  refine tx_k' hK1 ?_
  refine cx_seq' fun K2 hK2 => ?_
  refine cx_region' ?_
  refine sx_rd' (rd_move' rfl) rfl rfl (wt_none' rfl) ?_
  refine sx_rd' (rd_len' rfl Try.underlying22) rfl rfl (wt_none' rfl) ?_
  refine sx_rd' (rd_bin' rfl rfl eg_int ru_sub) rfl rfl (wt_none' rfl) ?_
  refine sx_rd' (rd_assign' rfl) rfl rfl (wt_none' rfl) ?_
  refine sx_nil' ?_
  show TX E K2 _
  refine tx_k' hK2 ?_
  refine cx_seq' fun K3 hK3 => ?_
  refine cx_region' ?_
  refine sx_rd' (rd_assign' rfl) rfl rfl (wt_none' rfl) ?_
  refine sx_nil' ?_
  show TX E K3 _
  refine tx_k' hK3 ?_
  refine cx_seq' fun K4 hK4 => ?_
  refine cx_seq' fun K5 hK5 => ?_
  refine cx_region' ?_
  refine sx_rd' (rd_move' rfl) rfl rfl (wt_none' rfl) ?_
  refine sx_rd' (rd_move' rfl) rfl rfl (wt_none' rfl) ?_
  refine sx_nil' ?_
  show TX E K5 _
  refine tx_k' hK5 ?_
  refine cx_block' ?_
  obtain ⟨v2, hy1, hp⟩ := bind_some hp
  refine tx_nilrow' K27 27 ?_
  refine cx_loopg' (F := laws_about_l1 a0 a1) (G := fun k R v => laws_about_l1s a0 a1 k R v.1 v.2) (x := ([], 0)) (gh := (none, 0, 0)) (fun (v1 : (List (Nat × Nat)) × Int) (w1 : Gs) => (⟨73, [], [(0, (Sl K27 a0)), (1, (Vl (.int .i64 a1))), (5, (Vl (.int .i64 (isub .i64 (a0.length : Int) 1)))), (6, (Vl (Vs w1))), (12, (Vl (.int .i64 (isub .i64 (a0.length : Int) 1)))), (13, (Vl (.int .i64 v1.2)))], [(Rw K27 27 (Vs w1) v1.1)]⟩ : St)) (fun (v2 : (List (Nat × Nat))) => Zg E (Exit.exit 0) (fun (w2 : Gs) => (⟨73, [], [(1, (Vl (.int .i64 a1))), (6, (Vl (Vs w2)))], [(Rw K27 27 (Vs w2) v2)]⟩ : St))) (fun _ => rfl) (fun _ _ => rfl) ?_ hy1 (tx_to' rfl [0] (sub_cons rfl (sub_cons rfl (sub_cons rfl (sub_cons rfl (sub_cons rfl (sub_cons rfl sub_nil)))))) (by decide) (pick_cons rfl pick_nil)) ?_
  · clear hp hy1
    clear v2
    intro k rec1 KY1 ih1
    rintro ⟨x1, x2⟩ g901 y1 hp
    replace hp : laws_about_l1s a0 a1 k rec1 x1 x2 = some y1 := hp
    unfold laws_about_l1s at hp
    refine cx_seq' fun K6 hK6 => ?_
    refine cx_region' ?_
    refine sx_rd' (rd_bin' rfl rfl eg_int ru_lss) rfl rfl (wt_none' rfl) ?_
    refine sx_nil' ?_
    show TX E K6 _
    refine tx_k' hK6 ?_
    refine cx_seq' fun K7 hK7 => ?_
    refine cx_cond' rfl (fun h2 => ?_) (fun h2 => ?_)
    · replace hp := (br_t h2).symm.trans hp
      refine cx_skip' ?_
      show TX E K7 _
      refine tx_k' hK7 ?_
      refine cx_seq' fun K8 hK8 => ?_
      refine cx_block' ?_
      refine cx_seq' fun K9 hK9 => ?_
      refine cx_region' ?_
      refine sx_rd' (rd_move' rfl) rfl rfl (wt_none' rfl) ?_
      refine sx_rd' (rd_assign' rfl) rfl rfl (wt_none' rfl) ?_
      refine sx_nil' ?_
      show TX E K9 _
      refine tx_k' hK9 ?_
      refine cx_region' ?_
      refine sx_rd' (rd_move' rfl) rfl rfl (wt_none' rfl) ?_
      refine sx_rd' (rd_move' rfl) rfl rfl (wt_none' rfl) ?_
      refine sx_rd' (rd_move' rfl) rfl rfl (wt_none' rfl) ?_
      refine sx_rd' (rd_move' rfl) rfl rfl (wt_none' rfl) ?_
      refine sx_rd' (rd_move' rfl) rfl rfl (wt_none' rfl) ?_
      obtain ⟨r21, hr21, hp⟩ := bind_some hp
      refine sx_rd' (rd_bin' rfl rfl eg_int (ru_rem hr21)) rfl rfl (wt_none' rfl) ?_
      refine sx_rd' (rd_bin' rfl rfl eg_int ru_add) rfl rfl (wt_none' rfl) ?_
      refine sx_rd' (rd_move' rfl) rfl rfl (wt_none' rfl) ?_
      refine sx_rd' (rd_bin' rfl rfl eg_int ru_add) rfl rfl (wt_none' rfl) ?_
      refine sx_rd' (rd_move' rfl) rfl rfl (wt_none' rfl) ?_
      obtain ⟨r26, hr26, hp⟩ := bind_some hp
      refine sx_rd' (rd_bin' rfl rfl eg_int (ru_rem hr26)) rfl rfl (wt_none' rfl) ?_
      obtain ⟨r27, hr27, hp⟩ := bind_some hp
      refine sx_rd' (rd_at' (K := K27) rfl rfl hr27 Try.underlying22 info27) rfl rfl (wt_none' rfl) ?_
      refine sx_rd' (rd_load_pt_agg' (nn := 2) rfl rfl agg27 (l' := [(Vl (.float .f64 r27.1)), (Vl (.float .f64 r27.2))]) rfl) rfl rfl (wt_none' rfl) ?_
      refine sx_ox' (ox_rowlit' (K := K27) (xs := [(r27.1, r27.2)]) (qs := [(0, [(Vl (.float .f64 r27.1)), (Vl (.float .f64 r27.2))])]) ⟨rfl, ⟨_, rfl, (lv_ag _)⟩, trivial⟩ Try.underlying22 info27 rfl rfl rfl rfl rfl (by kernel_rfl) rfl rfl rfl) (wt_none' rfl) fun g29 => ?_
      obtain ⟨r30, hr30, hp⟩ := bind_some hp
      refine sx_ox' (ox_append' (K := K27) (i := 1) (xs := x1) (ys := ([(r27.1, r27.2)])) rfl rfl rfl (sr_row' (j := 0) rfl rfl rfl Try.underlying22) hr30 Try.underlying22 info27 rfl rfl rfl (H' := [(Rw K27 27 (Vs g29) ([(r27.1, r27.2)]))]) rfl) (wt_none' rfl) fun g30 => ?_
      refine sx_rd' (rd_assign' rfl) rfl rfl (wt_none' rfl) ?_
      refine sx_nil' ?_
      show TX E K8 _
      refine tx_k' hK8 ?_
      refine cx_region' ?_
      refine sx_rd' (rd_bin' rfl rfl eg_int ru_add) rfl rfl (wt_none' rfl) ?_
      refine sx_rd' (rd_move' rfl) rfl rfl (wt_none' rfl) ?_
      refine sx_nil' ?_
      show TX E (KY1 _) _
      exact tx_pick' [0] (sub_cons rfl (sub_cons rfl (sub_cons rfl (sub_cons rfl (sub_cons rfl (sub_cons rfl sub_nil)))))) (by decide) (pick_cons rfl pick_nil) (ih1 (r30, (iadd .i64 x2 1)) g30 _ hp)
    · replace hp := (br_f h2).symm.trans hp
      refine cx_exit' ?_
      replace hp := Option.some.inj hp
      subst hp
      show TX E (Zg E (Exit.exit 0) _ (Exit.exit 0)) _
      exact tx_zend' g901 rfl [0] (sub_cons rfl (sub_cons rfl sub_nil)) (by decide) (pick_cons rfl pick_nil)
  · refine zg_out fun w2 => ?_
    show TX E K4 _
    refine tx_k' hK4 ?_
    refine cx_seq' fun K10 hK10 => ?_
    refine cx_region' ?_
    refine sx_rd' (rd_move' rfl) rfl rfl (wt_none' rfl) ?_
    refine sx_rd' (rd_move' rfl) rfl rfl (wt_none' rfl) ?_
    obtain ⟨r34, hr34, hp⟩ := bind_some hp
    refine sx_rd' (rd_atr' (m := 0) rfl rfl rfl rfl hr34 Try.underlying22 info27) rfl rfl (wt_none' rfl) ?_
    refine sx_rd' (rd_loadr_agg' (nn := 2) rfl (m := 0) (i := 0) (j := 0) rfl rfl hr34 rfl rfl agg27 rfl) rfl rfl (wt_none' rfl) ?_
    refine sx_ox' (ox_rowlit' (K := K27) (xs := [(r34.1, r34.2)]) (qs := [(0, [(Vl (.float .f64 r34.1)), (Vl (.float .f64 r34.2))])]) ⟨rfl, ⟨_, rfl, (lv_ag _)⟩, trivial⟩ Try.underlying22 info27 rfl rfl rfl rfl rfl (by kernel_rfl) rfl rfl rfl) (wt_none' rfl) fun g36 => ?_
    obtain ⟨r37, hr37, hp⟩ := bind_some hp
    refine sx_ox' (ox_append' (K := K27) (i := 1) (xs := v2) (ys := ([(r34.1, r34.2)])) rfl rfl rfl (sr_row' (j := 0) rfl rfl rfl Try.underlying22) hr37 Try.underlying22 info27 rfl rfl rfl (H' := [(Rw K27 27 (Vs g36) ([(r34.1, r34.2)]))]) rfl) (wt_none' rfl) fun g37 => ?_
    refine sx_rd' (rd_assign' rfl) rfl rfl (wt_none' rfl) ?_
    refine sx_nil' ?_
    show TX E K10 _
    refine tx_k' hK10 ?_
    refine cx_seq' fun K11 hK11 => ?_
    refine cx_seq' fun K12 hK12 => ?_
    refine cx_region' ?_
    refine sx_rd' (rd_assign' rfl) rfl rfl (wt_none' rfl) ?_
    refine sx_nil' ?_
    show TX E K12 _
    refine tx_k' hK12 ?_
    refine cx_block' ?_
    obtain ⟨v5, hy2, hp⟩ := bind_some hp
    refine cx_loopg' (F := laws_about_l2 a1) (G := fun k R v => laws_about_l2s a1 k R v.1 v.2) (x := (r37, 0)) (gh := ()) (fun (v3 : (List (Nat × Nat)) × Int) (w3 : Unit) => (⟨73, [], [(1, (Vl (.int .i64 a1))), (6, (Vl (Vs g37))), (8, (Vl (.int .i64 v3.2)))], [(Rw K27 27 (Vs g37) v3.1)]⟩ : St)) (fun (v5 : (List (Nat × Nat))) => Zg E (Exit.exit 2) (fun (w5 : Unit) => (⟨73, [], [(6, (Vl (Vs g37)))], [(Rw K27 27 (Vs g37) v5)]⟩ : St))) (fun _ => rfl) (fun _ _ => rfl) ?_ hy2 (tx_to' rfl [0] (sub_cons rfl (sub_cons rfl (sub_cons rfl sub_nil))) (by decide) (pick_cons rfl pick_nil)) ?_
    · clear hp hy2
      clear v5
      intro k rec2 KY2 ih2
      rintro ⟨x5, x6⟩ ⟨⟩ y2 hp
      replace hp : laws_about_l2s a1 k rec2 x5 x6 = some y2 := hp
      unfold laws_about_l2s at hp
      refine cx_seq' fun K13 hK13 => ?_
      refine cx_seq' fun K14 hK14 => ?_
      refine cx_region' ?_
      refine sx_rd' (rd_move' rfl) rfl rfl (wt_none' rfl) ?_
      obtain ⟨r39, hr39, hp⟩ := bind_some hp
      refine sx_rd' (rd_bin' rfl rfl eg_int (ru_rem hr39)) rfl rfl (wt_none' rfl) ?_
      refine sx_rd' (rd_bin' rfl rfl eg_int ru_neq) rfl rfl (wt_none' rfl) ?_
      refine sx_rd' (rd_move' rfl) rfl rfl (wt_none' rfl) ?_
      refine sx_cutn' 6 (fun (v4 : Bool) => (⟨73, [], [(1, (Vl (.int .i64 a1))), (6, (Vl (Vs g37))), (8, (Vl (.int .i64 x6))), (47, (Vl (.bool v4)))], [(Rw K27 27 (Vs g37) x5)]⟩ : St)) (fun (v4 : Bool) => laws_about_j1 k x5 x6 rec2 v4 = some y2) ?_ ?_
      · rintro x4 hp
        replace hp : laws_about_j1 k x5 x6 rec2 x4 = some y2 := hp
        unfold laws_about_j1 at hp
        refine sx_nil' ?_
        show TX E K14 _
        refine tx_k' hK14 ?_
        refine cx_cond' rfl (fun h5 => ?_) (fun h5 => ?_)
        · replace hp := (br_t h5).symm.trans hp
          refine cx_skip' ?_
          show TX E K13 _
          refine tx_k' hK13 ?_
          refine cx_seq' fun K16 hK16 => ?_
          refine cx_block' ?_
          refine cx_plan' [] [(21, 1), (23, 1)] [(0, 1), (1, 1), (2, 2), (3, 2), (4, 2), (5, 2), (6, 2), (7, 2), (8, 1), (9, 1), (10, 1), (11, 1), (12, 1), (13, 1), (14, 1), (15, 1), (16, 1), (17, 1), (18, 1), (19, 1), (20, 1), (21, 0), (22, 1), (23, 0)] mixed (by kernel_rfl) ?_
          refine px_rd' rfl (rd_move' rfl) rfl rfl (wt_none' rfl) ?_
          refine px_rd' rfl (rd_move' rfl) rfl rfl (wt_none' rfl) ?_
          refine px_rb' rfl (rb_move' rfl) rfl rfl (wt_none' rfl) ?_
          refine px_rb' rfl (rb_move' rfl) rfl rfl (wt_none' rfl) ?_
          refine px_rb' rfl (rb_lenr' (i := 0) rfl rfl rfl Try.underlying22) rfl rfl (wt_none' rfl) ?_
          refine px_rb' rfl (rb_bin' rfl rfl eg_int ru_sub) rfl rfl (wt_none' rfl) ?_
          refine px_rb' rfl (rb_move' rfl) rfl rfl (wt_none' rfl) ?_
          refine px_rb' rfl (rb_bin' rfl rfl eg_int ru_sub) rfl rfl (wt_none' rfl) ?_
          refine px_rd' rfl (rd_move' rfl) rfl rfl (wt_none' rfl) ?_
          refine px_rd' rfl (rd_move' rfl) rfl rfl (wt_none' rfl) ?_
          refine px_rd' rfl (rd_lenr' (i := 0) rfl rfl rfl Try.underlying22) rfl rfl (wt_none' rfl) ?_
          refine px_rd' rfl (rd_bin' rfl rfl eg_int ru_sub) rfl rfl (wt_none' rfl) ?_
          refine px_rd' rfl (rd_move' rfl) rfl rfl (wt_none' rfl) ?_
          refine px_rd' rfl (rd_bin' rfl rfl eg_int ru_sub) rfl rfl (wt_none' rfl) ?_
          obtain ⟨r64, hr64, hp⟩ := bind_some hp
          refine px_rd' rfl (rd_atr' (m := 0) rfl rfl rfl rfl hr64 Try.underlying22 info27) rfl rfl (wt_none' rfl) ?_
          refine px_rd' rfl (rd_loadr_agg' (nn := 2) rfl (m := 0) (i := (isub .i64 (isub .i64 (x5.length : Int) 1) x6)) (j := 0) rfl rfl hr64 rfl rfl agg27 rfl) rfl rfl (wt_none' rfl) ?_
          refine px_rd' rfl (rd_move' rfl) rfl rfl (wt_none' rfl) ?_
          refine px_rd' rfl (rd_move' rfl) rfl rfl (wt_none' rfl) ?_
          obtain ⟨r68, hr68, hp⟩ := bind_some hp
          refine px_rd' rfl (rd_atr' (m := 0) rfl rfl rfl rfl hr68 Try.underlying22 info27) rfl rfl (wt_none' rfl) ?_
          refine px_rd' rfl (rd_loadr_agg' (nn := 2) rfl (m := 0) (i := x6) (j := 0) rfl rfl hr68 rfl rfl agg27 rfl) rfl rfl (wt_none' rfl) ?_
          obtain ⟨r70, hr70, hp⟩ := bind_some hp
          refine px_rd' rfl (rd_atr' (m := 0) rfl rfl rfl rfl hr70 Try.underlying22 info27) rfl rfl (wt_none' rfl) ?_
          refine px_ox' rfl (ox_storer' (m := 0) (i := x6) (j := 0) (x' := (r64.1, r64.2)) rfl rfl (lv_ag _) rfl rfl hr70 rfl rfl rfl info27 rfl (H' := [(Rw K27 27 (Vs g37) (x5.set x6.toNat (r64.1, r64.2)))]) rfl) rfl bs_nil (wt_none' rfl) fun _ => ?_
          obtain ⟨r71, hr71, hp⟩ := bind_some hp
          refine px_rd' rfl (rd_atr' (m := 0) rfl rfl rfl rfl hr71 Try.underlying22 info27) rfl rfl (wt_none' rfl) ?_
          refine px_ox' rfl (ox_storer' (m := 0) (i := (isub .i64 (isub .i64 (x5.length : Int) 1) x6)) (j := 0) (x' := (r68.1, r68.2)) rfl rfl (lv_ag _) rfl rfl hr71 rfl rfl rfl info27 rfl (H' := [(Rw K27 27 (Vs g37) ((x5.set x6.toNat (r64.1, r64.2)).set (isub .i64 (isub .i64 (x5.length : Int) 1) x6).toNat (r68.1, r68.2)))]) rfl) rfl bs_nil (wt_none' rfl) fun _ => ?_
          refine px_nil' ?_
          show TX E K16 _
          refine tx_k' hK16 ?_
          refine cx_region' ?_
          refine sx_rd' (rd_move' rfl) rfl rfl (wt_none' rfl) ?_
          refine sx_rd' (rd_bin' rfl rfl eg_int ru_add) rfl rfl (wt_none' rfl) ?_
          refine sx_rd' (rd_assign' rfl) rfl rfl (wt_none' rfl) ?_
          refine sx_nil' ?_
          show TX E (KY2 _) _
          exact tx_pick' [0] (sub_cons rfl (sub_cons rfl (sub_cons rfl sub_nil))) (by decide) (pick_cons rfl pick_nil) (ih2 (((x5.set x6.toNat (r64.1, r64.2)).set (isub .i64 (isub .i64 (x5.length : Int) 1) x6).toNat (r68.1, r68.2)), (iadd .i64 x6 1)) () _ hp)
        · replace hp := (br_f h5).symm.trans hp
          refine cx_exit' ?_
          replace hp := Option.some.inj hp
          subst hp
          show TX E (Zg E (Exit.exit 2) _ (Exit.exit 2)) _
          exact tx_zend' () rfl [0] (sub_cons rfl sub_nil) (by decide) (pick_cons rfl pick_nil)
      · intro K15 hK15
        rcases br_cases hp with ⟨h4, hp⟩ | ⟨h4, hp⟩
        · refine sx_rd' (rd_move' rfl) rfl rfl (wt_is' (wt_guard' rfl rfl rfl) (beq_tt h4)) ?_
          refine sx_rd' (rd_move' rfl) rfl rfl (wt_is' (wt_guard' rfl rfl rfl) (beq_tt h4)) ?_
          refine sx_rd' (rd_lenr' (i := 0) rfl rfl rfl Try.underlying22) rfl rfl (wt_is' (wt_guard' rfl rfl rfl) (beq_tt h4)) ?_
          obtain ⟨r45, hr45, hp⟩ := bind_some hp
          refine sx_rd' (rd_bin' rfl rfl eg_int (ru_quo hr45)) rfl rfl (wt_is' (wt_guard' rfl rfl rfl) (beq_tt h4)) ?_
          refine sx_rd' (rd_bin' rfl rfl eg_int ru_lss) rfl rfl (wt_is' (wt_guard' rfl rfl rfl) (beq_tt h4)) ?_
          refine sx_rd' (rd_pick_true' rfl h4 rfl) rfl rfl (wt_none' rfl) ?_
          refine sx_nil' ?_
          show TX E K15 _
          exact tx_pick' [0] (sub_cons rfl (sub_cons rfl (sub_cons rfl (sub_cons rfl sub_nil)))) (by decide) (pick_cons rfl pick_nil) (hK15 (decide (x6 < r45)) hp)
        · refine sx_skip' rfl rfl (wt_is' (wt_guard' rfl rfl rfl) (beq_ft h4)) ?_
          refine sx_skip' rfl rfl (wt_is' (wt_guard' rfl rfl rfl) (beq_ft h4)) ?_
          refine sx_skip' rfl rfl (wt_is' (wt_guard' rfl rfl rfl) (beq_ft h4)) ?_
          refine sx_skip' rfl rfl (wt_is' (wt_guard' rfl rfl rfl) (beq_ft h4)) ?_
          refine sx_skip' rfl rfl (wt_is' (wt_guard' rfl rfl rfl) (beq_ft h4)) ?_
          refine sx_rd' (rd_pick_false' rfl h4 rfl) rfl rfl (wt_none' rfl) ?_
          refine sx_nil' ?_
          show TX E K15 _
          exact tx_pick' [0] (sub_cons rfl (sub_cons rfl (sub_cons rfl (sub_cons rfl sub_nil)))) (by decide) (pick_cons rfl pick_nil) (hK15 false hp)
    · refine zg_out fun w5 => ?_
      show TX E K11 _
      refine tx_k' hK11 ?_
      refine cx_seq' fun K17 hK17 => ?_
      refine cx_region' ?_
      refine sx_rd' (rd_move' rfl) rfl rfl (wt_none' rfl) ?_
      refine sx_rd' (rd_assign' rfl) rfl rfl (wt_none' rfl) ?_
      refine sx_nil' ?_
      show TX E K17 _
      refine tx_k' hK17 ?_
      refine cx_retc' ?_
      replace hp := Option.some.inj hp
      subst hp
      refine tx_fz' (frz_row 0 [(6, (Vl (Vs g37)), (Sl K27 v5)), (72, (Vl (Vs g37)), (Sl K27 v5)), (4, (Vl (Vs g37)), (Sl K27 v5))] (K := K27) (xs := v5) (by decide) rfl ⟨⟨rfl, frz_it⟩, ⟨rfl, frz_it⟩, ⟨rfl, frz_it⟩, trivial⟩ (H' := []) frzH_refl) ?_
      refine tx_pick' (L' := [(4, (Sl K27 v5))]) (H' := []) [] (sub_cons rfl sub_nil) (by decide) pick_nil ?_
      exact tx_ret1' Try.results19 rfl () (rv_tmp' rfl) (List.Sublist.refl _)

def laws_FnSignedAreaSplit_j10 (k : Nat) (x10 : Bool) : Option (Bool) :=
  some x10
def laws_FnSignedAreaSplit_j9 (k : Nat) (r88 : Nat × Bool) (r69 : Nat × Bool) (x9 : Bool) : Option (Bool) :=
  br x9
    (laws_FnSignedAreaSplit_j10 k (feq r88.1 (fneg r69.1)))
    (laws_FnSignedAreaSplit_j10 k false)
def laws_FnSignedAreaSplit_j8 (k : Nat) (r75 : Nat × Bool) (r81 : Nat × Bool) (r88 : Nat × Bool) (r69 : Nat × Bool) (x8 : Bool) : Option (Bool) :=
  br x8
    ((some (gadd r75.1 r81.1)) >>= fun r105 =>
    laws_FnSignedAreaSplit_j9 k r88 r69 (feq r69.1 r105))
    (laws_FnSignedAreaSplit_j9 k r88 r69 false)
def laws_FnSignedAreaSplit_j7 (k : Nat) (r75 : Nat × Bool) (r81 : Nat × Bool) (r88 : Nat × Bool) (r69 : Nat × Bool) (x7 : Bool) : Option (Bool) :=
  br x7
    (laws_FnSignedAreaSplit_j8 k r75 r81 r88 r69 r88.2)
    (laws_FnSignedAreaSplit_j8 k r75 r81 r88 r69 false)
def laws_FnSignedAreaSplit_j6 (k : Nat) (r75 : Nat × Bool) (r81 : Nat × Bool) (r88 : Nat × Bool) (r69 : Nat × Bool) (x6 : Bool) : Option (Bool) :=
  br x6
    (laws_FnSignedAreaSplit_j7 k r75 r81 r88 r69 r81.2)
    (laws_FnSignedAreaSplit_j7 k r75 r81 r88 r69 false)
def laws_FnSignedAreaSplit_j5 (k : Nat) (a0 : List (Nat × Nat)) (a1 : Int) (x5 : Bool) : Option (Bool) :=
  br x5
    (some true)
    ((cut a0 0 (iadd .i64 a1 1)) >>= fun r51 =>
    (apd 16 [] r51) >>= fun r52 =>
    (idx a0 0) >>= fun r54 =>
    (apd 16 r52 ([(r54.1, r54.2)])) >>= fun r57 =>
    (idx a0 0) >>= fun r59 =>
    (cut a0 a1 (a0.length : Int)) >>= fun r64 =>
    (apd 16 ([(r59.1, r59.2)]) r64) >>= fun r65 =>
    (laws_bare k a0) >>= fun r68 =>
    (impl_SignedArea k 1 r68) >>= fun r69 =>
    (laws_bare k r57) >>= fun r74 =>
    (impl_SignedArea k 1 r74) >>= fun r75 =>
    (laws_bare k r65) >>= fun r80 =>
    (impl_SignedArea k 1 r80) >>= fun r81 =>
    (laws_about k a0 1) >>= fun r86 =>
    (laws_bare k r86) >>= fun r87 =>
    (impl_SignedArea k 1 r87) >>= fun r88 =>
    br r69.2
      (laws_FnSignedAreaSplit_j6 k r75 r81 r88 r69 r75.2)
      (laws_FnSignedAreaSplit_j6 k r75 r81 r88 r69 false))
def laws_FnSignedAreaSplit_j4 (k : Nat) (a0 : List (Nat × Nat)) (a1 : Int) (x4 : Bool) : Option (Bool) :=
  br x4
    (laws_FnSignedAreaSplit_j5 k a0 a1 true)
    ((laws_planeTo k 4697254411347427328 a0) >>= fun r44 =>
    laws_FnSignedAreaSplit_j5 k a0 a1 (!r44))
def laws_FnSignedAreaSplit_j3 (k : Nat) (a0 : List (Nat × Nat)) (a1 : Int) (x3 : Bool) : Option (Bool) :=
  br x3
    (laws_FnSignedAreaSplit_j4 k a0 a1 true)
    (laws_FnSignedAreaSplit_j4 k a0 a1 (decide ((isub .i64 (a0.length : Int) 2) < a1)))
def laws_FnSignedAreaSplit_j2 (k : Nat) (a0 : List (Nat × Nat)) (a1 : Int) (x2 : Bool) : Option (Bool) :=
  br x2
    (laws_FnSignedAreaSplit_j3 k a0 a1 true)
    (laws_FnSignedAreaSplit_j3 k a0 a1 (decide (a1 < 1)))
def laws_FnSignedAreaSplit_j1 (k : Nat) (a0 : List (Nat × Nat)) (a1 : Int) (x1 : Bool) : Option (Bool) :=
  br x1
    (laws_FnSignedAreaSplit_j2 k a0 a1 true)
    (laws_FnSignedAreaSplit_j2 k a0 a1 (decide (100 < (a0.length : Int))))
def laws_FnSignedAreaSplit (k : Nat) (a0 : List (Nat × Nat)) (a1 : Int) : Option (Bool) :=
  br (decide (2147483647 < (a0.length : Int)))
    (some true)
    ((laws_shut k a0) >>= fun r22 =>
    br (!r22)
      (laws_FnSignedAreaSplit_j1 k a0 a1 true)
      (laws_FnSignedAreaSplit_j1 k a0 a1 (decide ((a0.length : Int) < 4))))

theorem laws_FnSignedAreaSplit_sim {k : Nat}  (a0 : List (Nat × Nat)) (a1 : Int) {out : Bool} (hp : laws_FnSignedAreaSplit k a0 a1 = some out) : Go.Sx.Fn Try.prog 3 [(Sl K27 a0), (Vl (.int .i64 a1))] [] (fun w : Unit => (Vl (.bool out))) (fun w => []) := by
  unfold laws_FnSignedAreaSplit at hp
  refine fn_of Try.func3 rfl Try.ntmps3 rfl fun E hM => ?_
  refine cx_seq' fun K1 hK1 => ?_
  refine cx_region' ?_
  refine sx_rd' (rd_assign' rfl) rfl rfl (wt_none' rfl) ?_
  refine sx_nil' ?_
  show TX E K1 _
  refine tx_k' hK1 ?_
  refine cx_seq' fun K2 hK2 => ?_
  refine cx_seq' fun K3 hK3 => ?_
  refine cx_region' ?_
  refine sx_rd' (rd_move' rfl) rfl rfl (wt_none' rfl) ?_
  refine sx_rd' (rd_len' rfl Try.underlying22) rfl rfl (wt_none' rfl) ?_
  refine sx_rd' (rd_bin' rfl rfl eg_int ru_gtr) rfl rfl (wt_none' rfl) ?_
  refine sx_nil' ?_
  show TX E K3 _
  refine tx_k' hK3 ?_
  refine cx_cond' rfl (fun h1 => ?_) (fun h1 => ?_)
  · replace hp := (br_t h1).symm.trans hp
    refine cx_seq' fun K4 hK4 => ?_
    refine cx_region' ?_
    refine sx_rd' (rd_assign' rfl) rfl rfl (wt_none' rfl) ?_
    refine sx_nil' ?_
    show TX E K4 _
    refine tx_k' hK4 ?_
    refine cx_retc' ?_
    replace hp := Option.some.inj hp
    subst hp
    refine tx_pick' (L' := [(4, (Vl (.bool true)))]) (H' := []) [] (sub_cons rfl sub_nil) (by decide) pick_nil ?_
    exact tx_ret1' Try.results3 rfl () (rv_tmp' rfl) (List.Sublist.refl _)
  · replace hp := (br_f h1).symm.trans hp
    refine cx_skip' ?_
    show TX E K2 _
    refine tx_k' hK2 ?_
    refine cx_seq' fun K5 hK5 => ?_
    refine cx_region' ?_
    refine sx_rd' (rd_move' rfl) rfl rfl (wt_none' rfl) ?_
    refine sx_rd' (rd_len' rfl Try.underlying22) rfl rfl (wt_none' rfl) ?_
    refine sx_rd' (rd_assign' rfl) rfl rfl (wt_none' rfl) ?_
    refine sx_nil' ?_
    show TX E K5 _
    refine tx_k' hK5 ?_
    refine cx_seq' fun K6 hK6 => ?_
    refine cx_seq' fun K7 hK7 => ?_
    refine cx_region' ?_
    refine sx_rd' (rd_move' rfl) rfl rfl (wt_none' rfl) ?_
    obtain ⟨r22, hr22, hp⟩ := bind_some hp
    refine sx_ox' (ox_calln' (ent_fn' Try.func15 isn15 rfl rfl) (laws_shut_sim _ hr22 : Go.Sx.Fn Try.prog 15 [(Sl K27 a0)] [] (fun x : Unit => (Vl (.bool r22))) (fun x => [])) (Hn := fun x : Unit => []) (fun _ => rfl) rfl rfl) (wt_none' rfl) fun ⟨⟩ => ?_
    refine sx_rd' (rd_un' rfl ru_not) rfl rfl (wt_none' rfl) ?_
    refine sx_rd' (rd_move' rfl) rfl rfl (wt_none' rfl) ?_
    refine sx_cutn' 3 (fun (v1 : Bool) => (⟨114, [], [(0, (Sl K27 a0)), (1, (Vl (.int .i64 a1))), (5, (Vl (.int .i64 (a0.length : Int)))), (27, (Vl (.bool v1)))], []⟩ : St)) (fun (v1 : Bool) => laws_FnSignedAreaSplit_j1 k a0 a1 v1 = some out) ?_ ?_
    · rintro x1 hp
      replace hp : laws_FnSignedAreaSplit_j1 k a0 a1 x1 = some out := hp
      unfold laws_FnSignedAreaSplit_j1 at hp
      refine sx_rd' (rd_move' rfl) rfl rfl (wt_none' rfl) ?_
      refine sx_cutn' 3 (fun (v2 : Bool) => (⟨114, [], [(0, (Sl K27 a0)), (1, (Vl (.int .i64 a1))), (5, (Vl (.int .i64 (a0.length : Int)))), (31, (Vl (.bool v2)))], []⟩ : St)) (fun (v2 : Bool) => laws_FnSignedAreaSplit_j2 k a0 a1 v2 = some out) ?_ ?_
      · rintro x2 hp
        replace hp : laws_FnSignedAreaSplit_j2 k a0 a1 x2 = some out := hp
        unfold laws_FnSignedAreaSplit_j2 at hp
        refine sx_rd' (rd_move' rfl) rfl rfl (wt_none' rfl) ?_
        refine sx_cutn' 3 (fun (v3 : Bool) => (⟨114, [], [(0, (Sl K27 a0)), (1, (Vl (.int .i64 a1))), (5, (Vl (.int .i64 (a0.length : Int)))), (35, (Vl (.bool v3)))], []⟩ : St)) (fun (v3 : Bool) => laws_FnSignedAreaSplit_j3 k a0 a1 v3 = some out) ?_ ?_
        · rintro x3 hp
          replace hp : laws_FnSignedAreaSplit_j3 k a0 a1 x3 = some out := hp
          unfold laws_FnSignedAreaSplit_j3 at hp
          refine sx_rd' (rd_move' rfl) rfl rfl (wt_none' rfl) ?_
          refine sx_cutn' 5 (fun (v4 : Bool) => (⟨114, [], [(0, (Sl K27 a0)), (1, (Vl (.int .i64 a1))), (41, (Vl (.bool v4)))], []⟩ : St)) (fun (v4 : Bool) => laws_FnSignedAreaSplit_j4 k a0 a1 v4 = some out) ?_ ?_
          · rintro x4 hp
            replace hp : laws_FnSignedAreaSplit_j4 k a0 a1 x4 = some out := hp
            unfold laws_FnSignedAreaSplit_j4 at hp
            refine sx_rd' (rd_move' rfl) rfl rfl (wt_none' rfl) ?_
            refine sx_cutn' 4 (fun (v5 : Bool) => (⟨114, [], [(0, (Sl K27 a0)), (1, (Vl (.int .i64 a1))), (46, (Vl (.bool v5)))], []⟩ : St)) (fun (v5 : Bool) => laws_FnSignedAreaSplit_j5 k a0 a1 v5 = some out) ?_ ?_
            · rintro x5 hp
              replace hp : laws_FnSignedAreaSplit_j5 k a0 a1 x5 = some out := hp
              unfold laws_FnSignedAreaSplit_j5 at hp
              refine sx_nil' ?_
              show TX E K7 _
              refine tx_k' hK7 ?_
              refine cx_cond' rfl (fun h7 => ?_) (fun h7 => ?_)
              · replace hp := (br_t h7).symm.trans hp
                refine cx_seq' fun K13 hK13 => ?_
                refine cx_region' ?_
                refine sx_rd' (rd_assign' rfl) rfl rfl (wt_none' rfl) ?_
                refine sx_nil' ?_
                show TX E K13 _
                refine tx_k' hK13 ?_
                refine cx_retc' ?_
                replace hp := Option.some.inj hp
                subst hp
                refine tx_pick' (L' := [(4, (Vl (.bool true)))]) (H' := []) [] (sub_cons rfl sub_nil) (by decide) pick_nil ?_
                exact tx_ret1' Try.results3 rfl () (rv_tmp' rfl) (List.Sublist.refl _)
              · replace hp := (br_f h7).symm.trans hp
                refine cx_skip' ?_
                show TX E K6 _
                refine tx_k' hK6 ?_
                refine cx_seq' fun K14 hK14 => ?_
                refine cx_plana' [] [(5, 1), (10, 1)] [(1, 1), (2, 1), (3, 1), (4, 1), (6, 2)] 7 #[false, true, true, true, true, false, true, false, false, false, false, false] mixed (by kernel_rfl) ?_
                refine px_rd' rfl (rd_move' rfl) rfl rfl (wt_none' rfl) ?_
                refine px_rd' rfl (rd_move' rfl) rfl rfl (wt_none' rfl) ?_
                refine px_rd' rfl (rd_bin' rfl rfl eg_int ru_add) rfl rfl (wt_none' rfl) ?_
                obtain ⟨r51, hr51, hp⟩ := bind_some hp
                refine px_rd' rfl (rd_cut_h' rfl rfl hr51 Try.underlying22 info27) rfl rfl (wt_none' rfl) ?_
                refine px_rb' rfl (rb_move' rfl) rfl rfl (wt_none' rfl) ?_
                refine px_nil' ?_
                show AX E _ _ _ _ _ _ _ _
                obtain ⟨r52, hr52, hp⟩ := bind_some hp
                obtain ⟨r54, hr54, hp⟩ := bind_some hp
                obtain ⟨r57, hr57, hp⟩ := bind_some hp
                refine ax_node (f' := 0) #[true, true, true, true, true, true, true, true, true, true, true, true] (fun (v18 : Gs) => (⟨114, [], [(0, (Sl K27 a0)), (1, (Vl (.int .i64 a1))), (6, (Vl (Vs v18)))], [(Rw K27 27 (Vs v18) r57)]⟩ : St)) ?_ ?_
                · rintro g9013
                  refine ax_nil (by kernel_rfl) ?_
                  show TX E K14 _
                  refine tx_k' hK14 ?_
                  refine cx_seq' fun K15 hK15 => ?_
                  refine cx_plan' [] [(7, 1)] [(0, 1), (1, 1), (2, 1), (4, 1), (5, 1), (6, 1), (3, 0), (7, 0), (8, 1)] mixed (by kernel_rfl) ?_
                  refine px_rd' rfl (rd_move' rfl) rfl rfl (wt_none' rfl) ?_
                  obtain ⟨r59, hr59, hp⟩ := bind_some hp
                  refine px_rd' rfl (rd_at' (K := K27) rfl rfl hr59 Try.underlying22 info27) rfl rfl (wt_none' rfl) ?_
                  refine px_rd' rfl (rd_load_pt_agg' (nn := 2) rfl rfl agg27 (l' := [(Vl (.float .f64 r59.1)), (Vl (.float .f64 r59.2))]) rfl) rfl rfl (wt_none' rfl) ?_
                  refine px_rd' rfl (rd_move' rfl) rfl rfl (wt_none' rfl) ?_
                  refine px_rd' rfl (rd_move' rfl) rfl rfl (wt_none' rfl) ?_
                  obtain ⟨r64, hr64, hp⟩ := bind_some hp
                  refine px_rd' rfl (rd_cut_l' rfl rfl hr64 Try.underlying22 info27) rfl rfl (wt_none' rfl) ?_
                  refine px_ox' rfl (ox_rowlit' (K := K27) (xs := [(r59.1, r59.2)]) (qs := [(0, [(Vl (.float .f64 r59.1)), (Vl (.float .f64 r59.2))])]) ⟨rfl, ⟨_, rfl, (lv_ag _)⟩, trivial⟩ Try.underlying22 info27 rfl rfl rfl rfl rfl (by kernel_rfl) rfl rfl rfl) rfl bs_nil (wt_none' rfl) fun g61 => ?_
                  obtain ⟨r65, hr65, hp⟩ := bind_some hp
                  refine px_ox' rfl (ox_append' (K := K27) (i := 0) (xs := ([(r59.1, r59.2)])) (ys := r64) rfl rfl rfl (sr_sl' rfl Try.underlying22) hr65 Try.underlying22 info27 rfl rfl rfl (H' := [(Rw K27 27 (Vs g9013) r57)]) rfl) rfl bs_nil (wt_none' rfl) fun g65 => ?_
                  refine px_rd' rfl (rd_assign' rfl) rfl rfl (wt_none' rfl) ?_
                  refine px_nil' ?_
                  show TX E K15 _
                  refine tx_k' hK15 ?_
                  refine cx_seq' fun K16 hK16 => ?_
                  refine cx_region' ?_
                  refine sx_rd' (rd_move' rfl) rfl rfl (wt_none' rfl) ?_
                  obtain ⟨r68, hr68, hp⟩ := bind_some hp
                  refine sx_ox' (ox_calln' (ent_fn' Try.func18 isn18 rfl rfl) (laws_bare_sim _ hr68 : Go.Sx.Fn Try.prog 18 [(Sl K27 a0)] [] (fun x : Unit => (Sl Kf r68)) (fun x => [])) (Hn := fun x : Unit => [(Rw K27 27 (Vs g65) r65), (Rw K27 27 (Vs g9013) r57)]) (fun _ => rfl) rfl rfl) (wt_none' rfl) fun ⟨⟩ => ?_
                  obtain ⟨r69, hr69, hp⟩ := bind_some hp
                  refine sx_ox' (ox_calln' (ent_fn' Try.func17 isn17 rfl rfl) (impl_SignedArea_sim _ _ hr69 : Go.Sx.Fn Try.prog 17 [(Vl (.int .i64 1)), (Sl Kf r68)] [] (fun x : Unit => (Tu [(Fl r69.1), (Vl (.bool r69.2))])) (fun x => [])) (Hn := fun x : Unit => [(Rw K27 27 (Vs g65) r65), (Rw K27 27 (Vs g9013) r57)]) (fun _ => rfl) rfl rfl) (wt_none' rfl) fun ⟨⟩ => ?_
                  refine sx_rd' (rd_move' rfl) rfl rfl (wt_none' rfl) ?_
                  refine sx_rd' (rd_extract' rfl rfl) rfl rfl (wt_none' rfl) ?_
                  refine sx_rd' (rd_extract' rfl rfl) rfl rfl (wt_none' rfl) ?_
                  refine sx_rd' (rd_assign' rfl) rfl rfl (wt_none' rfl) ?_
                  refine sx_rd' (rd_assign' rfl) rfl rfl (wt_none' rfl) ?_
                  refine sx_nil' ?_
                  show TX E K16 _
                  refine tx_k' hK16 ?_
                  refine cx_seq' fun K17 hK17 => ?_
                  refine cx_region' ?_
                  refine sx_rd' (rd_move' rfl) rfl rfl (wt_none' rfl) ?_
                  refine tx_fz' (frz_row 1 [(6, (Vl (Vs g9013)), (Sl K27 r57)), (73, (Vl (Vs g9013)), (Sl K27 r57))] (K := K27) (xs := r57) (by decide) rfl ⟨⟨rfl, frz_it⟩, ⟨rfl, frz_it⟩, trivial⟩ (H' := [(Rw K27 27 (Vs g65) r65)]) frzH_refl) ?_
                  obtain ⟨r74, hr74, hp⟩ := bind_some hp
                  refine sx_ox' (ox_calln' (ent_fn' Try.func18 isn18 rfl rfl) (laws_bare_sim _ hr74 : Go.Sx.Fn Try.prog 18 [(Sl K27 r57)] [] (fun x : Unit => (Sl Kf r74)) (fun x => [])) (Hn := fun x : Unit => [(Rw K27 27 (Vs g65) r65)]) (fun _ => rfl) rfl rfl) (wt_none' rfl) fun ⟨⟩ => ?_
                  obtain ⟨r75, hr75, hp⟩ := bind_some hp
                  refine sx_ox' (ox_calln' (ent_fn' Try.func17 isn17 rfl rfl) (impl_SignedArea_sim _ _ hr75 : Go.Sx.Fn Try.prog 17 [(Vl (.int .i64 1)), (Sl Kf r74)] [] (fun x : Unit => (Tu [(Fl r75.1), (Vl (.bool r75.2))])) (fun x => [])) (Hn := fun x : Unit => [(Rw K27 27 (Vs g65) r65)]) (fun _ => rfl) rfl rfl) (wt_none' rfl) fun ⟨⟩ => ?_
                  refine sx_rd' (rd_move' rfl) rfl rfl (wt_none' rfl) ?_
                  refine sx_rd' (rd_extract' rfl rfl) rfl rfl (wt_none' rfl) ?_
                  refine sx_rd' (rd_extract' rfl rfl) rfl rfl (wt_none' rfl) ?_
                  refine sx_rd' (rd_assign' rfl) rfl rfl (wt_none' rfl) ?_
                  refine sx_rd' (rd_assign' rfl) rfl rfl (wt_none' rfl) ?_
                  refine sx_nil' ?_
                  show TX E K17 _
                  refine tx_k' hK17 ?_
                  refine cx_seq' fun K18 hK18 => ?_
                  refine cx_region' ?_
                  refine sx_rd' (rd_move' rfl) rfl rfl (wt_none' rfl) ?_
                  refine tx_fz' (frz_row 0 [(65, (Vl (Vs g65)), (Sl K27 r65)), (7, (Vl (Vs g65)), (Sl K27 r65)), (79, (Vl (Vs g65)), (Sl K27 r65))] (K := K27) (xs := r65) (by decide) rfl ⟨⟨rfl, frz_it⟩, ⟨rfl, frz_it⟩, ⟨rfl, frz_it⟩, trivial⟩ (H' := []) frzH_refl) ?_
                  obtain ⟨r80, hr80, hp⟩ := bind_some hp
                  refine sx_ox' (ox_calln' (ent_fn' Try.func18 isn18 rfl rfl) (laws_bare_sim _ hr80 : Go.Sx.Fn Try.prog 18 [(Sl K27 r65)] [] (fun x : Unit => (Sl Kf r80)) (fun x => [])) (Hn := fun x : Unit => []) (fun _ => rfl) rfl rfl) (wt_none' rfl) fun ⟨⟩ => ?_
                  obtain ⟨r81, hr81, hp⟩ := bind_some hp
                  refine sx_ox' (ox_calln' (ent_fn' Try.func17 isn17 rfl rfl) (impl_SignedArea_sim _ _ hr81 : Go.Sx.Fn Try.prog 17 [(Vl (.int .i64 1)), (Sl Kf r80)] [] (fun x : Unit => (Tu [(Fl r81.1), (Vl (.bool r81.2))])) (fun x => [])) (Hn := fun x : Unit => []) (fun _ => rfl) rfl rfl) (wt_none' rfl) fun ⟨⟩ => ?_
                  refine sx_rd' (rd_move' rfl) rfl rfl (wt_none' rfl) ?_
                  refine sx_rd' (rd_extract' rfl rfl) rfl rfl (wt_none' rfl) ?_
                  refine sx_rd' (rd_extract' rfl rfl) rfl rfl (wt_none' rfl) ?_
                  refine sx_rd' (rd_assign' rfl) rfl rfl (wt_none' rfl) ?_
                  refine sx_rd' (rd_assign' rfl) rfl rfl (wt_none' rfl) ?_
                  refine sx_nil' ?_
                  show TX E K18 _
                  refine tx_k' hK18 ?_
                  refine cx_seq' fun K19 hK19 => ?_
                  refine cx_region' ?_
                  refine sx_rd' (rd_move' rfl) rfl rfl (wt_none' rfl) ?_
                  obtain ⟨r86, hr86, hp⟩ := bind_some hp
                  refine sx_ox' (ox_calln' (ent_fn' Try.func19 isn19 rfl rfl) (laws_about_sim _ _ hr86 : Go.Sx.Fn Try.prog 19 [(Sl K27 a0), (Vl (.int .i64 1))] [] (fun x : Unit => (Sl K27 r86)) (fun x => [])) (Hn := fun x : Unit => []) (fun _ => rfl) rfl rfl) (wt_none' rfl) fun ⟨⟩ => ?_
                  obtain ⟨r87, hr87, hp⟩ := bind_some hp
                  refine sx_ox' (ox_calln' (ent_fn' Try.func18 isn18 rfl rfl) (laws_bare_sim _ hr87 : Go.Sx.Fn Try.prog 18 [(Sl K27 r86)] [] (fun x : Unit => (Sl Kf r87)) (fun x => [])) (Hn := fun x : Unit => []) (fun _ => rfl) rfl rfl) (wt_none' rfl) fun ⟨⟩ => ?_
                  obtain ⟨r88, hr88, hp⟩ := bind_some hp
                  refine sx_ox' (ox_calln' (ent_fn' Try.func17 isn17 rfl rfl) (impl_SignedArea_sim _ _ hr88 : Go.Sx.Fn Try.prog 17 [(Vl (.int .i64 1)), (Sl Kf r87)] [] (fun x : Unit => (Tu [(Fl r88.1), (Vl (.bool r88.2))])) (fun x => [])) (Hn := fun x : Unit => []) (fun _ => rfl) rfl rfl) (wt_none' rfl) fun ⟨⟩ => ?_
                  refine sx_rd' (rd_move' rfl) rfl rfl (wt_none' rfl) ?_
                  refine sx_rd' (rd_extract' rfl rfl) rfl rfl (wt_none' rfl) ?_
                  refine sx_rd' (rd_extract' rfl rfl) rfl rfl (wt_none' rfl) ?_
                  refine sx_rd' (rd_assign' rfl) rfl rfl (wt_none' rfl) ?_
                  refine sx_rd' (rd_assign' rfl) rfl rfl (wt_none' rfl) ?_
                  refine sx_nil' ?_
                  show TX E K19 _
                  refine tx_k' hK19 ?_
                  refine cx_seq' fun K20 hK20 => ?_
                  refine cx_region' ?_
                  refine sx_rd' (rd_move' rfl) rfl rfl (wt_none' rfl) ?_
                  refine sx_rd' (rd_move' rfl) rfl rfl (wt_none' rfl) ?_
                  refine sx_cutn' 2 (fun (v19 : Bool) => (⟨114, [], [(8, (Fl r69.1)), (10, (Fl r75.1)), (12, (Fl r81.1)), (13, (Vl (.bool r81.2))), (14, (Fl r88.1)), (15, (Vl (.bool r88.2))), (94, (Vl (.bool v19)))], []⟩ : St)) (fun (v19 : Bool) => laws_FnSignedAreaSplit_j6 k r75 r81 r88 r69 v19 = some out) ?_ ?_
                  · rintro x6 hp
                    replace hp : laws_FnSignedAreaSplit_j6 k r75 r81 r88 r69 x6 = some out := hp
                    unfold laws_FnSignedAreaSplit_j6 at hp
                    refine sx_rd' (rd_move' rfl) rfl rfl (wt_none' rfl) ?_
                    refine sx_cutn' 2 (fun (v20 : Bool) => (⟨114, [], [(8, (Fl r69.1)), (10, (Fl r75.1)), (12, (Fl r81.1)), (14, (Fl r88.1)), (15, (Vl (.bool r88.2))), (97, (Vl (.bool v20)))], []⟩ : St)) (fun (v20 : Bool) => laws_FnSignedAreaSplit_j7 k r75 r81 r88 r69 v20 = some out) ?_ ?_
                    · rintro x7 hp
                      replace hp : laws_FnSignedAreaSplit_j7 k r75 r81 r88 r69 x7 = some out := hp
                      unfold laws_FnSignedAreaSplit_j7 at hp
                      refine sx_rd' (rd_move' rfl) rfl rfl (wt_none' rfl) ?_
                      refine sx_cutn' 2 (fun (v21 : Bool) => (⟨114, [], [(8, (Fl r69.1)), (10, (Fl r75.1)), (12, (Fl r81.1)), (14, (Fl r88.1)), (100, (Vl (.bool v21)))], []⟩ : St)) (fun (v21 : Bool) => laws_FnSignedAreaSplit_j8 k r75 r81 r88 r69 v21 = some out) ?_ ?_
                      · rintro x8 hp
                        replace hp : laws_FnSignedAreaSplit_j8 k r75 r81 r88 r69 x8 = some out := hp
                        unfold laws_FnSignedAreaSplit_j8 at hp
                        refine sx_rd' (rd_move' rfl) rfl rfl (wt_none' rfl) ?_
                        refine sx_cutn' 6 (fun (v22 : Bool) => (⟨114, [], [(8, (Fl r69.1)), (14, (Fl r88.1)), (107, (Vl (.bool v22)))], []⟩ : St)) (fun (v22 : Bool) => laws_FnSignedAreaSplit_j9 k r88 r69 v22 = some out) ?_ ?_
                        · rintro x9 hp
                          replace hp : laws_FnSignedAreaSplit_j9 k r88 r69 x9 = some out := hp
                          unfold laws_FnSignedAreaSplit_j9 at hp
                          refine sx_rd' (rd_move' rfl) rfl rfl (wt_none' rfl) ?_
                          refine sx_cutn' 5 (fun (v23 : Bool) => (⟨114, [], [(113, (Vl (.bool v23)))], []⟩ : St)) (fun (v23 : Bool) => laws_FnSignedAreaSplit_j10 k v23 = some out) ?_ ?_
                          · rintro x10 hp
                            replace hp : laws_FnSignedAreaSplit_j10 k x10 = some out := hp
                            unfold laws_FnSignedAreaSplit_j10 at hp
                            refine sx_rd' (rd_assign' rfl) rfl rfl (wt_none' rfl) ?_
                            refine sx_nil' ?_
                            show TX E K20 _
                            refine tx_k' hK20 ?_
                            refine cx_retc' ?_
                            replace hp := Option.some.inj hp
                            subst hp
                            refine tx_pick' (L' := [(4, (Vl (.bool x10)))]) (H' := []) [] (sub_cons rfl sub_nil) (by decide) pick_nil ?_
                            exact tx_ret1' Try.results3 rfl () (rv_tmp' rfl) (List.Sublist.refl _)
                          · intro K25 hK25
                            rcases br_cases hp with ⟨h12, hp⟩ | ⟨h12, hp⟩
                            · refine sx_rd' (rd_move' rfl) rfl rfl (wt_is' (wt_guard' rfl rfl rfl) (beq_tt h12)) ?_
                              refine sx_rd' (rd_move' rfl) rfl rfl (wt_is' (wt_guard' rfl rfl rfl) (beq_tt h12)) ?_
                              refine sx_rd' (rd_fneg_fl' (fl_f rfl)) rfl rfl (wt_is' (wt_guard' rfl rfl rfl) (beq_tt h12)) ?_
                              refine sx_rd' (rd_fcmp' (fl_f rfl) (fl_f rfl) rfl) rfl rfl (wt_is' (wt_guard' rfl rfl rfl) (beq_tt h12)) ?_
                              refine sx_rd' (rd_pick_true' rfl h12 rfl) rfl rfl (wt_none' rfl) ?_
                              refine sx_nil' ?_
                              show TX E K25 _
                              exact tx_pick' [] (sub_cons rfl sub_nil) (by decide) pick_nil (hK25 (feq r88.1 (fneg r69.1)) hp)
                            · refine sx_skip' rfl rfl (wt_is' (wt_guard' rfl rfl rfl) (beq_ft h12)) ?_
                              refine sx_skip' rfl rfl (wt_is' (wt_guard' rfl rfl rfl) (beq_ft h12)) ?_
                              refine sx_skip' rfl rfl (wt_is' (wt_guard' rfl rfl rfl) (beq_ft h12)) ?_
                              refine sx_skip' rfl rfl (wt_is' (wt_guard' rfl rfl rfl) (beq_ft h12)) ?_
                              refine sx_rd' (rd_pick_false' rfl h12 rfl) rfl rfl (wt_none' rfl) ?_
                              refine sx_nil' ?_
                              show TX E K25 _
                              exact tx_pick' [] (sub_cons rfl sub_nil) (by decide) pick_nil (hK25 false hp)
                        · intro K24 hK24
                          rcases br_cases hp with ⟨h11, hp⟩ | ⟨h11, hp⟩
                          · refine sx_rd' (rd_move' rfl) rfl rfl (wt_is' (wt_guard' rfl rfl rfl) (beq_tt h11)) ?_
                            refine sx_rd' (rd_move' rfl) rfl rfl (wt_is' (wt_guard' rfl rfl rfl) (beq_tt h11)) ?_
                            refine sx_rd' (rd_move' rfl) rfl rfl (wt_is' (wt_guard' rfl rfl rfl) (beq_tt h11)) ?_
                            obtain ⟨r105, hr105, hp⟩ := bind_some hp
                            refine sx_ox' (ox_fop' (.inl rfl) (fl_f rfl) (fl_f rfl) (Option.some.inj hr105) rfl rfl) (wt_is' (wt_guard' rfl rfl rfl) (beq_tt h11)) fun _ => ?_
                            refine sx_rd' (rd_fcmp' (fl_f rfl) (fl_f rfl) rfl) rfl rfl (wt_is' (wt_guard' rfl rfl rfl) (beq_tt h11)) ?_
                            refine sx_rd' (rd_pick_true' rfl h11 rfl) rfl rfl (wt_none' rfl) ?_
                            refine sx_nil' ?_
                            show TX E K24 _
                            exact tx_pick' [] (sub_cons rfl (sub_cons rfl (sub_cons rfl sub_nil))) (by decide) pick_nil (hK24 (feq r69.1 r105) hp)
                          · refine sx_skip' rfl rfl (wt_is' (wt_guard' rfl rfl rfl) (beq_ft h11)) ?_
                            refine sx_skip' rfl rfl (wt_is' (wt_guard' rfl rfl rfl) (beq_ft h11)) ?_
                            refine sx_skip' rfl rfl (wt_is' (wt_guard' rfl rfl rfl) (beq_ft h11)) ?_
                            refine sx_skip' rfl rfl (wt_is' (wt_guard' rfl rfl rfl) (beq_ft h11)) ?_
                            refine sx_skip' rfl rfl (wt_is' (wt_guard' rfl rfl rfl) (beq_ft h11)) ?_
                            refine sx_rd' (rd_pick_false' rfl h11 rfl) rfl rfl (wt_none' rfl) ?_
                            refine sx_nil' ?_
                            show TX E K24 _
                            exact tx_pick' [] (sub_cons rfl (sub_cons rfl (sub_cons rfl sub_nil))) (by decide) pick_nil (hK24 false hp)
                      · intro K23 hK23
                        rcases br_cases hp with ⟨h10, hp⟩ | ⟨h10, hp⟩
                        · refine sx_rd' (rd_move' rfl) rfl rfl (wt_is' (wt_guard' rfl rfl rfl) (beq_tt h10)) ?_
                          refine sx_rd' (rd_pick_true' rfl h10 rfl) rfl rfl (wt_none' rfl) ?_
                          refine sx_nil' ?_
                          show TX E K23 _
                          exact tx_pick' [] (sub_cons rfl (sub_cons rfl (sub_cons rfl (sub_cons rfl (sub_cons rfl sub_nil))))) (by decide) pick_nil (hK23 r88.2 hp)
                        · refine sx_skip' rfl rfl (wt_is' (wt_guard' rfl rfl rfl) (beq_ft h10)) ?_
                          refine sx_rd' (rd_pick_false' rfl h10 rfl) rfl rfl (wt_none' rfl) ?_
                          refine sx_nil' ?_
                          show TX E K23 _
                          exact tx_pick' [] (sub_cons rfl (sub_cons rfl (sub_cons rfl (sub_cons rfl (sub_cons rfl sub_nil))))) (by decide) pick_nil (hK23 false hp)
                    · intro K22 hK22
                      rcases br_cases hp with ⟨h9, hp⟩ | ⟨h9, hp⟩
                      · refine sx_rd' (rd_move' rfl) rfl rfl (wt_is' (wt_guard' rfl rfl rfl) (beq_tt h9)) ?_
                        refine sx_rd' (rd_pick_true' rfl h9 rfl) rfl rfl (wt_none' rfl) ?_
                        refine sx_nil' ?_
                        show TX E K22 _
                        exact tx_pick' [] (sub_cons rfl (sub_cons rfl (sub_cons rfl (sub_cons rfl (sub_cons rfl (sub_cons rfl sub_nil)))))) (by decide) pick_nil (hK22 r81.2 hp)
                      · refine sx_skip' rfl rfl (wt_is' (wt_guard' rfl rfl rfl) (beq_ft h9)) ?_
                        refine sx_rd' (rd_pick_false' rfl h9 rfl) rfl rfl (wt_none' rfl) ?_
                        refine sx_nil' ?_
                        show TX E K22 _
                        exact tx_pick' [] (sub_cons rfl (sub_cons rfl (sub_cons rfl (sub_cons rfl (sub_cons rfl (sub_cons rfl sub_nil)))))) (by decide) pick_nil (hK22 false hp)
                  · intro K21 hK21
                    rcases br_cases hp with ⟨h8, hp⟩ | ⟨h8, hp⟩
                    · refine sx_rd' (rd_move' rfl) rfl rfl (wt_is' (wt_guard' rfl rfl rfl) (beq_tt h8)) ?_
                      refine sx_rd' (rd_pick_true' rfl h8 rfl) rfl rfl (wt_none' rfl) ?_
                      refine sx_nil' ?_
                      show TX E K21 _
                      exact tx_pick' [] (sub_cons rfl (sub_cons rfl (sub_cons rfl (sub_cons rfl (sub_cons rfl (sub_cons rfl (sub_cons rfl sub_nil))))))) (by decide) pick_nil (hK21 r75.2 hp)
                    · refine sx_skip' rfl rfl (wt_is' (wt_guard' rfl rfl rfl) (beq_ft h8)) ?_
                      refine sx_rd' (rd_pick_false' rfl h8 rfl) rfl rfl (wt_none' rfl) ?_
                      refine sx_nil' ?_
                      show TX E K21 _
                      exact tx_pick' [] (sub_cons rfl (sub_cons rfl (sub_cons rfl (sub_cons rfl (sub_cons rfl (sub_cons rfl (sub_cons rfl sub_nil))))))) (by decide) pick_nil (hK21 false hp)
                intro hN14
                refine ax_node (f' := 1) #[true, true, true, true, true, true, true, true, true, true, true, false] (fun (v17 : Gs) => (⟨114, [], [(0, (Sl K27 a0)), (1, (Vl (.int .i64 a1))), (57, (Vl (Vs v17)))], [(Rw K27 27 (Vs v17) r57)]⟩ : St)) ?_ ?_
                · rintro g9012
                  refine ax_rd (ix := 11) (last := #[true, true, true, true, true, true, true, true, true, true, true, true]) (by kernel_rfl) rfl (rd_assign' rfl) rfl rfl (wt_none' rfl) rfl ?_
                  exact tx_pick' [0] (sub_cons rfl (sub_cons rfl (sub_cons rfl sub_nil))) (by decide) (pick_cons rfl pick_nil) (hN14 g9012)
                intro hN13
                refine ax_node (f' := 2) #[true, true, true, true, true, true, true, true, true, true, false, false] (fun (v16 : Gs × Gs) => (⟨114, [], [(0, (Sl K27 a0)), (1, (Vl (.int .i64 a1))), (52, (Vl (Vs v16.1))), (56, (Vl (Vs v16.2)))], [(Rw K27 27 (Vs v16.1) r52), (Rw K27 27 (Vs v16.2) ([(r54.1, r54.2)]))]⟩ : St)) ?_ ?_
                · rintro ⟨g9010, g9011⟩
                  refine ax_all (i := 10) (is := []) (by kernel_rfl) (all_cons ?_ all_nil)
                  · refine nx_ox (last := #[true, true, true, true, true, true, true, true, true, true, true, false]) rfl (ox_append' (K := K27) (i := 0) (xs := r52) (ys := ([(r54.1, r54.2)])) rfl rfl rfl (sr_row' (j := 1) rfl rfl rfl Try.underlying22) hr57 Try.underlying22 info27 rfl rfl rfl (H' := [(Rw K27 27 (Vs g9011) ([(r54.1, r54.2)]))]) rfl) rfl bs_nil (wt_none' rfl) rfl fun g57 => ?_
                    exact tx_pick' [0] (sub_cons rfl (sub_cons rfl (sub_cons rfl sub_nil))) (by decide) (pick_cons rfl pick_nil) (hN13 g57)
                intro hN12
                refine ax_node (f' := 3) #[true, true, true, true, true, true, true, true, true, false, false, false] (fun (v14 : Gs) => (⟨114, [], [(0, (Sl K27 a0)), (1, (Vl (.int .i64 a1))), (52, (Vl (Vs v14))), (55, (Ag [(Vl (.float .f64 r54.1)), (Vl (.float .f64 r54.2))]))], [(Rw K27 27 (Vs v14) r52)]⟩ : St)) ?_ ?_
                · rintro g907
                  refine ax_all (i := 9) (is := []) (by kernel_rfl) (all_cons ?_ all_nil)
                  · refine nx_ox (last := #[true, true, true, true, true, true, true, true, true, true, false, false]) rfl (ox_rowlit' (K := K27) (xs := [(r54.1, r54.2)]) (qs := [(0, [(Vl (.float .f64 r54.1)), (Vl (.float .f64 r54.2))])]) ⟨rfl, ⟨_, rfl, (lv_ag _)⟩, trivial⟩ Try.underlying22 info27 rfl rfl rfl rfl rfl (by kernel_rfl) rfl rfl rfl) rfl bs_nil (wt_none' rfl) rfl fun g56 => ?_
                    exact tx_pick' [1, 0] (sub_cons rfl (sub_cons rfl (sub_cons rfl (sub_cons rfl sub_nil)))) (by decide) (pick_cons rfl (pick_cons rfl pick_nil)) (hN12 (g907, g56))
                intro hN10
                refine ax_node (f' := 3) #[true, true, true, true, true, false, true, true, true, true, false, false] (fun (v15 : Gs × Gs) => (⟨114, [], [(0, (Sl K27 a0)), (1, (Vl (.int .i64 a1))), (47, (Vl (Vs v15.1))), (51, (Sl K27 r51)), (56, (Vl (Vs v15.2)))], [(Rw K27 27 (Vs v15.1) []), (Rw K27 27 (Vs v15.2) ([(r54.1, r54.2)]))]⟩ : St)) ?_ ?_
                · rintro ⟨g908, g909⟩
                  refine ax_all (i := 5) (is := []) (by kernel_rfl) (all_cons ?_ all_nil)
                  · refine nx_ox (last := #[true, true, true, true, true, true, true, true, true, true, false, false]) rfl (ox_append' (K := K27) (i := 0) (xs := []) (ys := r51) rfl rfl rfl (sr_sl' rfl Try.underlying22) hr52 Try.underlying22 info27 rfl rfl rfl (H' := [(Rw K27 27 (Vs g909) ([(r54.1, r54.2)]))]) rfl) rfl bs_nil (wt_none' rfl) rfl fun g52 => ?_
                    exact tx_pick' [0, 1] (sub_cons rfl (sub_cons rfl (sub_cons rfl (sub_cons rfl sub_nil)))) (by decide) (pick_cons rfl (pick_cons rfl pick_nil)) (hN12 (g52, g909))
                intro hN11
                refine ax_node (f' := 4) #[true, true, true, true, true, true, true, true, false, false, false, false] (fun (v11 : Gs) => (⟨114, [], [(0, (Sl K27 a0)), (1, (Vl (.int .i64 a1))), (52, (Vl (Vs v11))), (54, (Pt [(Vl (.float .f64 r54.1)), (Vl (.float .f64 r54.2))]))], [(Rw K27 27 (Vs v11) r52)]⟩ : St)) ?_ ?_
                · rintro g904
                  refine ax_rd (ix := 8) (last := #[true, true, true, true, true, true, true, true, true, false, false, false]) (by kernel_rfl) rfl (rd_load_pt_agg' (nn := 2) rfl rfl agg27 (l' := [(Vl (.float .f64 r54.1)), (Vl (.float .f64 r54.2))]) rfl) rfl rfl (wt_none' rfl) rfl ?_
                  exact tx_pick' [0] (sub_cons rfl (sub_cons rfl (sub_cons rfl (sub_cons rfl sub_nil)))) (by decide) (pick_cons rfl pick_nil) (hN10 g904)
                intro hN7
                refine ax_node (f' := 4) #[true, true, true, true, true, false, true, true, true, false, false, false] (fun (v12 : Gs) => (⟨114, [], [(0, (Sl K27 a0)), (1, (Vl (.int .i64 a1))), (47, (Vl (Vs v12))), (51, (Sl K27 r51)), (55, (Ag [(Vl (.float .f64 r54.1)), (Vl (.float .f64 r54.2))]))], [(Rw K27 27 (Vs v12) [])]⟩ : St)) ?_ ?_
                · rintro g905
                  refine ax_all (i := 5) (is := [9]) (by kernel_rfl) (all_cons ?_ (all_cons ?_ all_nil))
                  · refine nx_ox (last := #[true, true, true, true, true, true, true, true, true, false, false, false]) rfl (ox_append' (K := K27) (i := 0) (xs := []) (ys := r51) rfl rfl rfl (sr_sl' rfl Try.underlying22) hr52 Try.underlying22 info27 rfl rfl rfl (H' := []) rfl) rfl bs_nil (wt_none' rfl) rfl fun g52 => ?_
                    exact tx_pick' [0] (sub_cons rfl (sub_cons rfl (sub_cons rfl (sub_cons rfl sub_nil)))) (by decide) (pick_cons rfl pick_nil) (hN10 g52)
                  · refine nx_ox (last := #[true, true, true, true, true, false, true, true, true, true, false, false]) rfl (ox_rowlit' (K := K27) (xs := [(r54.1, r54.2)]) (qs := [(0, [(Vl (.float .f64 r54.1)), (Vl (.float .f64 r54.2))])]) ⟨rfl, ⟨_, rfl, (lv_ag _)⟩, trivial⟩ Try.underlying22 info27 rfl rfl rfl rfl rfl (by kernel_rfl) rfl rfl rfl) rfl bs_nil (wt_none' rfl) rfl fun g56 => ?_
                    exact tx_pick' [1, 0] (sub_cons rfl (sub_cons rfl (sub_cons rfl (sub_cons rfl (sub_cons rfl sub_nil))))) (by decide) (pick_cons rfl (pick_cons rfl pick_nil)) (hN11 (g905, g56))
                intro hN8
                refine ax_node (f' := 4) #[false, true, true, true, true, false, true, true, true, true, false, false] (fun (v13 : Gs) => (⟨114, [], [(0, (Sl K27 a0)), (1, (Vl (.int .i64 a1))), (51, (Sl K27 r51)), (56, (Vl (Vs v13)))], [(Rw K27 27 (Vs v13) ([(r54.1, r54.2)]))]⟩ : St)) ?_ ?_
                · rintro g906
                  refine ax_all (i := 0) (is := []) (by kernel_rfl) (all_cons ?_ all_nil)
                  · refine nx_ox (last := #[true, true, true, true, true, false, true, true, true, true, false, false]) rfl (ox_rowlit' (K := K27) (xs := []) (qs := []) trivial Try.underlying22 info27 rfl rfl rfl rfl rfl (by kernel_rfl) rfl rfl rfl) rfl bs_nil (wt_none' rfl) rfl fun g47 => ?_
                    exact tx_pick' [0, 1] (sub_cons rfl (sub_cons rfl (sub_cons rfl (sub_cons rfl (sub_cons rfl sub_nil))))) (by decide) (pick_cons rfl (pick_cons rfl pick_nil)) (hN11 (g47, g906))
                intro hN9
                refine ax_node (f' := 5) #[true, true, true, true, true, true, true, false, false, false, false, false] (fun (v8 : Gs) => (⟨114, [], [(0, (Sl K27 a0)), (1, (Vl (.int .i64 a1))), (52, (Vl (Vs v8))), (53, (Sl K27 a0))], [(Rw K27 27 (Vs v8) r52)]⟩ : St)) ?_ ?_
                · rintro g902
                  refine ax_rd (ix := 7) (last := #[true, true, true, true, true, true, true, true, false, false, false, false]) (by kernel_rfl) rfl (rd_at' (K := K27) rfl rfl hr54 Try.underlying22 info27) rfl rfl (wt_none' rfl) rfl ?_
                  exact tx_pick' [0] (sub_cons rfl (sub_cons rfl (sub_cons rfl (sub_cons rfl sub_nil)))) (by decide) (pick_cons rfl pick_nil) (hN7 g902)
                intro hN4
                refine ax_node (f' := 5) #[true, true, true, true, true, false, true, true, false, false, false, false] (fun (v9 : Gs) => (⟨114, [], [(0, (Sl K27 a0)), (1, (Vl (.int .i64 a1))), (47, (Vl (Vs v9))), (51, (Sl K27 r51)), (54, (Pt [(Vl (.float .f64 r54.1)), (Vl (.float .f64 r54.2))]))], [(Rw K27 27 (Vs v9) [])]⟩ : St)) ?_ ?_
                · rintro g903
                  refine ax_all (i := 5) (is := [8]) (by kernel_rfl) (all_cons ?_ (all_cons ?_ all_nil))
                  · refine nx_ox (last := #[true, true, true, true, true, true, true, true, false, false, false, false]) rfl (ox_append' (K := K27) (i := 0) (xs := []) (ys := r51) rfl rfl rfl (sr_sl' rfl Try.underlying22) hr52 Try.underlying22 info27 rfl rfl rfl (H' := []) rfl) rfl bs_nil (wt_none' rfl) rfl fun g52 => ?_
                    exact tx_pick' [0] (sub_cons rfl (sub_cons rfl (sub_cons rfl (sub_cons rfl sub_nil)))) (by decide) (pick_cons rfl pick_nil) (hN7 g52)
                  · refine nx_rd (last := #[true, true, true, true, true, false, true, true, true, false, false, false]) rfl (rd_load_pt_agg' (nn := 2) rfl rfl agg27 (l' := [(Vl (.float .f64 r54.1)), (Vl (.float .f64 r54.2))]) rfl) rfl rfl (wt_none' rfl) rfl ?_
                    exact tx_pick' [0] (sub_cons rfl (sub_cons rfl (sub_cons rfl (sub_cons rfl (sub_cons rfl sub_nil))))) (by decide) (pick_cons rfl pick_nil) (hN8 g903)
                intro hN5
                refine ax_node (f' := 5) #[false, true, true, true, true, false, true, true, true, false, false, false] (fun (v10 : Unit) => (⟨114, [], [(0, (Sl K27 a0)), (1, (Vl (.int .i64 a1))), (51, (Sl K27 r51)), (55, (Ag [(Vl (.float .f64 r54.1)), (Vl (.float .f64 r54.2))]))], []⟩ : St)) ?_ ?_
                · rintro ⟨⟩
                  refine ax_all (i := 0) (is := [9]) (by kernel_rfl) (all_cons ?_ (all_cons ?_ all_nil))
                  · refine nx_ox (last := #[true, true, true, true, true, false, true, true, true, false, false, false]) rfl (ox_rowlit' (K := K27) (xs := []) (qs := []) trivial Try.underlying22 info27 rfl rfl rfl rfl rfl (by kernel_rfl) rfl rfl rfl) rfl bs_nil (wt_none' rfl) rfl fun g47 => ?_
                    exact tx_pick' [0] (sub_cons rfl (sub_cons rfl (sub_cons rfl (sub_cons rfl (sub_cons rfl sub_nil))))) (by decide) (pick_cons rfl pick_nil) (hN8 g47)
                  · refine nx_ox (last := #[false, true, true, true, true, false, true, true, true, true, false, false]) rfl (ox_rowlit' (K := K27) (xs := [(r54.1, r54.2)]) (qs := [(0, [(Vl (.float .f64 r54.1)), (Vl (.float .f64 r54.2))])]) ⟨rfl, ⟨_, rfl, (lv_ag _)⟩, trivial⟩ Try.underlying22 info27 rfl rfl rfl rfl rfl (by kernel_rfl) rfl rfl rfl) rfl bs_nil (wt_none' rfl) rfl fun g56 => ?_
                    exact tx_pick' [0] (sub_cons rfl (sub_cons rfl (sub_cons rfl (sub_cons rfl sub_nil)))) (by decide) (pick_cons rfl pick_nil) (hN9 g56)
                intro hN6
                refine ax_node (f' := 6) #[true, true, true, true, true, false, true, false, false, false, false, false] (fun (v6 : Gs) => (⟨114, [], [(0, (Sl K27 a0)), (1, (Vl (.int .i64 a1))), (47, (Vl (Vs v6))), (51, (Sl K27 r51)), (53, (Sl K27 a0))], [(Rw K27 27 (Vs v6) [])]⟩ : St)) ?_ ?_
                · rintro g901
                  refine ax_all (i := 5) (is := [7]) (by kernel_rfl) (all_cons ?_ (all_cons ?_ all_nil))
                  · refine nx_ox (last := #[true, true, true, true, true, true, true, false, false, false, false, false]) rfl (ox_append' (K := K27) (i := 0) (xs := []) (ys := r51) rfl rfl rfl (sr_sl' rfl Try.underlying22) hr52 Try.underlying22 info27 rfl rfl rfl (H' := []) rfl) rfl bs_nil (wt_none' rfl) rfl fun g52 => ?_
                    exact tx_pick' [0] (sub_cons rfl (sub_cons rfl (sub_cons rfl (sub_cons rfl sub_nil)))) (by decide) (pick_cons rfl pick_nil) (hN4 g52)
                  · refine nx_rd (last := #[true, true, true, true, true, false, true, true, false, false, false, false]) rfl (rd_at' (K := K27) rfl rfl hr54 Try.underlying22 info27) rfl rfl (wt_none' rfl) rfl ?_
                    exact tx_pick' [0] (sub_cons rfl (sub_cons rfl (sub_cons rfl (sub_cons rfl (sub_cons rfl sub_nil))))) (by decide) (pick_cons rfl pick_nil) (hN5 g901)
                intro hN2
                refine ax_node (f' := 6) #[false, true, true, true, true, false, true, true, false, false, false, false] (fun (v7 : Unit) => (⟨114, [], [(0, (Sl K27 a0)), (1, (Vl (.int .i64 a1))), (51, (Sl K27 r51)), (54, (Pt [(Vl (.float .f64 r54.1)), (Vl (.float .f64 r54.2))]))], []⟩ : St)) ?_ ?_
                · rintro ⟨⟩
                  refine ax_all (i := 0) (is := [8]) (by kernel_rfl) (all_cons ?_ (all_cons ?_ all_nil))
                  · refine nx_ox (last := #[true, true, true, true, true, false, true, true, false, false, false, false]) rfl (ox_rowlit' (K := K27) (xs := []) (qs := []) trivial Try.underlying22 info27 rfl rfl rfl rfl rfl (by kernel_rfl) rfl rfl rfl) rfl bs_nil (wt_none' rfl) rfl fun g47 => ?_
                    exact tx_pick' [0] (sub_cons rfl (sub_cons rfl (sub_cons rfl (sub_cons rfl (sub_cons rfl sub_nil))))) (by decide) (pick_cons rfl pick_nil) (hN5 g47)
                  · refine nx_rd (last := #[false, true, true, true, true, false, true, true, true, false, false, false]) rfl (rd_load_pt_agg' (nn := 2) rfl rfl agg27 (l' := [(Vl (.float .f64 r54.1)), (Vl (.float .f64 r54.2))]) rfl) rfl rfl (wt_none' rfl) rfl ?_
                    exact tx_pick' [] (sub_cons rfl (sub_cons rfl (sub_cons rfl (sub_cons rfl sub_nil)))) (by decide) pick_nil (hN6 ())
                intro hN3
                refine ax_all (i := 0) (is := [7]) (by kernel_rfl) (all_cons ?_ (all_cons ?_ all_nil))
                · refine nx_ox (last := #[true, true, true, true, true, false, true, false, false, false, false, false]) rfl (ox_rowlit' (K := K27) (xs := []) (qs := []) trivial Try.underlying22 info27 rfl rfl rfl rfl rfl (by kernel_rfl) rfl rfl rfl) rfl bs_nil (wt_none' rfl) rfl fun g47 => ?_
                  exact tx_pick' [0] (sub_cons rfl (sub_cons rfl (sub_cons rfl (sub_cons rfl (sub_cons rfl sub_nil))))) (by decide) (pick_cons rfl pick_nil) (hN2 g47)
                · refine nx_rd (last := #[false, true, true, true, true, false, true, true, false, false, false, false]) rfl (rd_at' (K := K27) rfl rfl hr54 Try.underlying22 info27) rfl rfl (wt_none' rfl) rfl ?_
                  exact tx_pick' [] (sub_cons rfl (sub_cons rfl (sub_cons rfl (sub_cons rfl sub_nil)))) (by decide) pick_nil (hN3 ())
            · intro K12 hK12
              rcases br_cases hp with ⟨h6, hp⟩ | ⟨h6, hp⟩
              · refine sx_skip' rfl rfl (wt_is' (wt_guard' rfl rfl rfl) (beq_tf h6)) ?_
                refine sx_skip' rfl rfl (wt_is' (wt_guard' rfl rfl rfl) (beq_tf h6)) ?_
                refine sx_skip' rfl rfl (wt_is' (wt_guard' rfl rfl rfl) (beq_tf h6)) ?_
                refine sx_rd' (rd_pick_true' rfl h6 rfl) rfl rfl (wt_none' rfl) ?_
                refine sx_nil' ?_
                show TX E K12 _
                exact tx_pick' [] (sub_cons rfl (sub_cons rfl (sub_cons rfl sub_nil))) (by decide) pick_nil (hK12 true hp)
              · refine sx_rd' (rd_move' rfl) rfl rfl (wt_is' (wt_guard' rfl rfl rfl) (beq_ff h6)) ?_
                obtain ⟨r44, hr44, hp⟩ := bind_some hp
                refine sx_ox' (ox_calln' (ent_fn' Try.func16 isn16 rfl rfl) (laws_planeTo_sim _ _ hr44 : Go.Sx.Fn Try.prog 16 [(Vl (.float .f64 4697254411347427328)), (Sl K27 a0)] [] (fun x : Unit => (Vl (.bool r44))) (fun x => [])) (Hn := fun x : Unit => []) (fun _ => rfl) rfl rfl) (wt_is' (wt_guard' rfl rfl rfl) (beq_ff h6)) fun ⟨⟩ => ?_
                refine sx_rd' (rd_un' rfl ru_not) rfl rfl (wt_is' (wt_guard' rfl rfl rfl) (beq_ff h6)) ?_
                refine sx_rd' (rd_pick_false' rfl h6 rfl) rfl rfl (wt_none' rfl) ?_
                refine sx_nil' ?_
                show TX E K12 _
                exact tx_pick' [] (sub_cons rfl (sub_cons rfl (sub_cons rfl sub_nil))) (by decide) pick_nil (hK12 (!r44) hp)
          · intro K11 hK11
            rcases br_cases hp with ⟨h5, hp⟩ | ⟨h5, hp⟩
            · refine sx_skip' rfl rfl (wt_is' (wt_guard' rfl rfl rfl) (beq_tf h5)) ?_
              refine sx_skip' rfl rfl (wt_is' (wt_guard' rfl rfl rfl) (beq_tf h5)) ?_
              refine sx_skip' rfl rfl (wt_is' (wt_guard' rfl rfl rfl) (beq_tf h5)) ?_
              refine sx_skip' rfl rfl (wt_is' (wt_guard' rfl rfl rfl) (beq_tf h5)) ?_
              refine sx_rd' (rd_pick_true' rfl h5 rfl) rfl rfl (wt_none' rfl) ?_
              refine sx_nil' ?_
              show TX E K11 _
              exact tx_pick' [] (sub_cons rfl (sub_cons rfl (sub_cons rfl sub_nil))) (by decide) pick_nil (hK11 true hp)
            · refine sx_rd' (rd_move' rfl) rfl rfl (wt_is' (wt_guard' rfl rfl rfl) (beq_ff h5)) ?_
              refine sx_rd' (rd_move' rfl) rfl rfl (wt_is' (wt_guard' rfl rfl rfl) (beq_ff h5)) ?_
              refine sx_rd' (rd_bin' rfl rfl eg_int ru_sub) rfl rfl (wt_is' (wt_guard' rfl rfl rfl) (beq_ff h5)) ?_
              refine sx_rd' (rd_bin' rfl rfl eg_int ru_gtr) rfl rfl (wt_is' (wt_guard' rfl rfl rfl) (beq_ff h5)) ?_
              refine sx_rd' (rd_pick_false' rfl h5 rfl) rfl rfl (wt_none' rfl) ?_
              refine sx_nil' ?_
              show TX E K11 _
              exact tx_pick' [] (sub_cons rfl (sub_cons rfl (sub_cons rfl sub_nil))) (by decide) pick_nil (hK11 (decide ((isub .i64 (a0.length : Int) 2) < a1)) hp)
        · intro K10 hK10
          rcases br_cases hp with ⟨h4, hp⟩ | ⟨h4, hp⟩
          · refine sx_skip' rfl rfl (wt_is' (wt_guard' rfl rfl rfl) (beq_tf h4)) ?_
            refine sx_skip' rfl rfl (wt_is' (wt_guard' rfl rfl rfl) (beq_tf h4)) ?_
            refine sx_rd' (rd_pick_true' rfl h4 rfl) rfl rfl (wt_none' rfl) ?_
            refine sx_nil' ?_
            show TX E K10 _
            exact tx_pick' [] (sub_cons rfl (sub_cons rfl (sub_cons rfl (sub_cons rfl sub_nil)))) (by decide) pick_nil (hK10 true hp)
          · refine sx_rd' (rd_move' rfl) rfl rfl (wt_is' (wt_guard' rfl rfl rfl) (beq_ff h4)) ?_
            refine sx_rd' (rd_bin' rfl rfl eg_int ru_lss) rfl rfl (wt_is' (wt_guard' rfl rfl rfl) (beq_ff h4)) ?_
            refine sx_rd' (rd_pick_false' rfl h4 rfl) rfl rfl (wt_none' rfl) ?_
            refine sx_nil' ?_
            show TX E K10 _
            exact tx_pick' [] (sub_cons rfl (sub_cons rfl (sub_cons rfl (sub_cons rfl sub_nil)))) (by decide) pick_nil (hK10 (decide (a1 < 1)) hp)
      · intro K9 hK9
        rcases br_cases hp with ⟨h3, hp⟩ | ⟨h3, hp⟩
        · refine sx_skip' rfl rfl (wt_is' (wt_guard' rfl rfl rfl) (beq_tf h3)) ?_
          refine sx_skip' rfl rfl (wt_is' (wt_guard' rfl rfl rfl) (beq_tf h3)) ?_
          refine sx_rd' (rd_pick_true' rfl h3 rfl) rfl rfl (wt_none' rfl) ?_
          refine sx_nil' ?_
          show TX E K9 _
          exact tx_pick' [] (sub_cons rfl (sub_cons rfl (sub_cons rfl (sub_cons rfl sub_nil)))) (by decide) pick_nil (hK9 true hp)
        · refine sx_rd' (rd_move' rfl) rfl rfl (wt_is' (wt_guard' rfl rfl rfl) (beq_ff h3)) ?_
          refine sx_rd' (rd_bin' rfl rfl eg_int ru_gtr) rfl rfl (wt_is' (wt_guard' rfl rfl rfl) (beq_ff h3)) ?_
          refine sx_rd' (rd_pick_false' rfl h3 rfl) rfl rfl (wt_none' rfl) ?_
          refine sx_nil' ?_
          show TX E K9 _
          exact tx_pick' [] (sub_cons rfl (sub_cons rfl (sub_cons rfl (sub_cons rfl sub_nil)))) (by decide) pick_nil (hK9 (decide (100 < (a0.length : Int))) hp)
    · intro K8 hK8
      rcases br_cases hp with ⟨h2, hp⟩ | ⟨h2, hp⟩
      · refine sx_skip' rfl rfl (wt_is' (wt_guard' rfl rfl rfl) (beq_tf h2)) ?_
        refine sx_skip' rfl rfl (wt_is' (wt_guard' rfl rfl rfl) (beq_tf h2)) ?_
        refine sx_rd' (rd_pick_true' rfl h2 rfl) rfl rfl (wt_none' rfl) ?_
        refine sx_nil' ?_
        show TX E K8 _
        exact tx_pick' [] (sub_cons rfl (sub_cons rfl (sub_cons rfl (sub_cons rfl sub_nil)))) (by decide) pick_nil (hK8 true hp)
      · refine sx_rd' (rd_move' rfl) rfl rfl (wt_is' (wt_guard' rfl rfl rfl) (beq_ff h2)) ?_
        refine sx_rd' (rd_bin' rfl rfl eg_int ru_lss) rfl rfl (wt_is' (wt_guard' rfl rfl rfl) (beq_ff h2)) ?_
        refine sx_rd' (rd_pick_false' rfl h2 rfl) rfl rfl (wt_none' rfl) ?_
        refine sx_nil' ?_
        show TX E K8 _
        exact tx_pick' [] (sub_cons rfl (sub_cons rfl (sub_cons rfl (sub_cons rfl sub_nil)))) (by decide) pick_nil (hK8 (decide ((a0.length : Int) < 4)) hp)

end Go.Proofs.Ytnemkhcjmenfnaa
