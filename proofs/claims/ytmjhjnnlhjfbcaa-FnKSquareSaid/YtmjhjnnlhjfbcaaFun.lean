/-
  Plain functions for the Go functions that this law reaches, and that each call does what its plain function says. Printed by a program of ours.
-/
import Derived.Test.YtmjhjnnlhjfbcaaProg
import Derived.Test.YtmjhjnnlhjfbcaaSxZ
namespace Go.Proofs.Ytmjhjnnlhjfbcaa
open Go.Sx
set_option linter.unusedVariables false
set_option maxRecDepth 100000

theorem isn21 : (Try.f21.name == "runtime.NumGoroutine") = false := by kernel_rfl
theorem isn31 : (Try.f31.name == "runtime.NumGoroutine") = false := by kernel_rfl
theorem info22 : (Try.prog.info? 22).map (fun i => (i.zero, i.size, i.bytes)) = some (some (.slice none 0 0), 1, 24) := by kernel_rfl
theorem flat22 : Flat Try.prog 22 := ⟨_, Try.underlying22, fun _ h => (nomatch h), fun _ _ h => (nomatch h)⟩
theorem info34 : (Try.prog.info? 34).map (fun i => (i.zero, i.size, i.bytes)) = some (some (.float .f64 0), 1, 8) := by kernel_rfl
theorem flat34 : Flat Try.prog 34 := ⟨_, Try.underlying34, fun _ h => (nomatch h), fun _ _ h => (nomatch h)⟩
theorem isn43 : (Try.f43.name == "runtime.NumGoroutine") = false := by kernel_rfl
theorem extf47 : ∀ {x r : Nat}, gint .zero x = r → ∀ y, (y = x ∨ (isn x = true ∧ isn y = true)) → RunsF Try.prog (callFunc 47 #[.float .f64 y]) (Fl r) := fun hz y hy => hz ▸ runs_ext (e := Extern.MathFloor.toIntegral "math.archTrunc" .zero) Try.func47 (by kernel_rfl) (by kernel_rfl) (by kernel_rfl) (by kernel_rfl) (gint_runs hy)
theorem isn22 : (Try.f22.name == "runtime.NumGoroutine") = false := by kernel_rfl
theorem isn39 : (Try.f39.name == "runtime.NumGoroutine") = false := by kernel_rfl
theorem as81_91_81 : ∀ v w, (Instr.typeAssert (.iface 81 v) 91 81 false).run Try.prog w = .ok (v) w := fun _ _ => by kernel_rfl
theorem idle38 : Idle Try.prog 38 2 := fun vs w hv => by
  obtain ⟨v0, v1, rfl⟩ : ∃ v0 v1, vs = [v0, v1] := by
    obtain _ | ⟨v0, vs⟩ := vs
    · simp at hv
    obtain _ | ⟨v1, vs⟩ := vs
    · simp at hv
    obtain _ | ⟨u, vs⟩ := vs
    · exact ⟨v0, v1, rfl⟩
    · simp at hv
  refine callsD_of_wpS Try.func38 rfl fun c₀ cs hu => ?_
  apply wpS_seq
  apply wpS_region
  simp [wpOpsS, go_sem, recoverD, hu, Try.ntmps38, Exit.thenS]
  refine wpS_cond (t := false) (by simp [Act.eval, Array.replicate]) ?_
  simp only [Bool.false_eq_true, if_false]
  refine wpS_of_wp (wp_skip ?_)
  cases c₀
  simp_all [bodyPostS, results, Try.results38]
theorem isn38 : (Try.f38.name == "runtime.NumGoroutine") = false := by kernel_rfl
theorem info4 : (Try.prog.info? 4).map (fun i => (i.zero, i.size, i.bytes)) = some (some (.bool false), 1, 1) := by kernel_rfl
theorem flat4 : Flat Try.prog 4 := ⟨_, Try.underlying4, fun _ h => (nomatch h), fun _ _ h => (nomatch h)⟩
theorem isn23 : (Try.f23.name == "runtime.NumGoroutine") = false := by kernel_rfl
theorem mixed : Try.prog.follows .mixedOrders = true := by kernel_rfl


def math_Trunc (k : Nat) (a0 : Nat) : Option (Nat) :=
  (some (gint .zero a0)) >>= fun r4 =>
  some r4

theorem math_Trunc_sim {k : Nat}  (a0 : Nat) {out : Nat} (hp : math_Trunc k a0 = some out) : Go.Sx.Fn Try.prog 43 [(Vl (.float .f64 a0))] [] (fun w : Unit => (Fl out)) (fun w => []) := by
  unfold math_Trunc at hp
  refine fn_of Try.func43 rfl Try.ntmps43 rfl fun E hM => ?_
  refine cx_seq' fun K1 hK1 => ?_
  refine cx_region' ?_
  refine sx_rd' (rd_assign' rfl) rfl rfl (wt_none' rfl) ?_
  refine sx_nil' ?_
  show TX E K1 _
  refine tx_k' hK1 ?_
  refine cx_seq' fun K2 hK2 => ?_
  refine cx_cond_t' rfl rfl ?_
  refine cx_seq' fun K3 hK3 => ?_
  refine cx_region' ?_
  refine sx_rd' (rd_move' rfl) rfl rfl (wt_none' rfl) ?_
  obtain ⟨r4, hr4, hp⟩ := bind_some hp
  refine sx_ox' (ox_extf' rfl (fl_v rfl) Try.func47 (extf47 (Option.some.inj hr4)) rfl rfl) (wt_none' rfl) fun _ => ?_
  refine sx_rd' (rd_assign' rfl) rfl rfl (wt_none' rfl) ?_
  refine sx_nil' ?_
  show TX E K3 _
  refine tx_k' hK3 ?_
  refine cx_retc' ?_
  replace hp := Option.some.inj hp
  subst hp
  refine tx_pick' (L' := [(2, (Fl r4))]) (H' := []) [] (sub_cons rfl sub_nil) (by decide) pick_nil ?_
  exact tx_ret1' Try.results43 rfl () (rv_tmp' rfl) (List.Sublist.refl _)

def spec_Grid_j2 (k : Nat) (rec1 : Int → Option (Unit ⊕ Unit)) (x3 : Int) (x2 : Bool) : Option (Unit ⊕ Unit) :=
  br x2
    (some (.inl ()))
    (rec1 (iadd .i64 x3 1))
def spec_Grid_j1 (k : Nat) (rec1 : Int → Option (Unit ⊕ Unit)) (x3 : Int) (r25 : Nat) (x1 : Bool) : Option (Unit ⊕ Unit) :=
  br (!x1)
    (spec_Grid_j2 k rec1 x3 true)
    ((math_Trunc k r25) >>= fun r40 =>
    spec_Grid_j2 k rec1 x3 (fne r25 r40))
def spec_Grid_l1s (r15 : List Nat) (a2 : Nat) (k : Nat) (rec1 : Int → Option (Unit ⊕ Unit)) (x3 : Int) : Option (Unit ⊕ Unit) :=
  br (decide (x3 < (r15.length : Int)))
    ((idx r15 x3) >>= fun r25 =>
    br (fge r25 (fneg a2))
      (spec_Grid_j1 k rec1 x3 r25 (fle r25 a2))
      (spec_Grid_j1 k rec1 x3 r25 false))
    (some (.inr ()))
def spec_Grid_l1 (r15 : List Nat) (a2 : Nat) : Nat → Int → Option (Unit ⊕ Unit)
  | 0, _ => none
  | k + 1, v => spec_Grid_l1s r15 a2 k (spec_Grid_l1 r15 a2 k) v
def spec_Grid_l2s (a0 : List (List Nat)) (a1 : Int) (a2 : Nat) (k : Nat) (rec2 : Int → Option (Unit ⊕ Unit)) (x4 : Int) : Option (Unit ⊕ Unit) :=
  br (decide (x4 < (a0.length : Int)))
    ((idx a0 x4) >>= fun r15 =>
    br (!decide ((r15.length : Int) = a1))
      (some (.inl ()))
      ((spec_Grid_l1 r15 a2 k 0) >>= fun y1 => match y1 with
        | (.inl v5) =>
          (some (.inl ()))
        | (.inr v6) =>
          (rec2 (iadd .i64 x4 1))))
    (some (.inr ()))
def spec_Grid_l2 (a0 : List (List Nat)) (a1 : Int) (a2 : Nat) : Nat → Int → Option (Unit ⊕ Unit)
  | 0, _ => none
  | k + 1, v => spec_Grid_l2s a0 a1 a2 k (spec_Grid_l2 a0 a1 a2 k) v
def spec_Grid (k : Nat) (a0 : List (List Nat)) (a1 : Int) (a2 : Nat) : Option (Bool) :=
  (spec_Grid_l2 a0 a1 a2 k 0) >>= fun y2 => match y2 with
    | (.inl v7) =>
      (some false)
    | (.inr v8) =>
      (some (decide (0 < a1)))

theorem spec_Grid_sim {k : Nat}  (a0 : List (List Nat)) (a1 : Int) (a2 : Nat) {out : Bool} (hp : spec_Grid k a0 a1 a2 = some out) : Go.Sx.Fn Try.prog 31 [(Sl (Kl Kf) a0), (Vl (.int .i64 a1)), (Vl (.float .f64 a2))] [] (fun w : Unit => (Vl (.bool out))) (fun w => []) := by
  unfold spec_Grid at hp
  refine fn_of Try.func31 rfl Try.ntmps31 rfl fun E hM => ?_
  refine cx_seq' fun K1 hK1 => ?_
  refine cx_region' ?_
  refine sx_rd' (rd_assign' rfl) rfl rfl (wt_none' rfl) ?_
  refine sx_nil' ?_
  show TX E K1 _
  refine tx_k' hK1 ?_
  refine cx_seq' fun K2 hK2 => ?_
  refine cx_seq' fun K3 hK3 => ?_
  refine cx_region' ?_
  refine sx_rd' (rd_move' rfl) rfl rfl (wt_none' rfl) ?_
  refine sx_rd' (rd_len' rfl Try.underlying52) rfl rfl (wt_none' rfl) ?_
  refine sx_rd' (rd_move' rfl) rfl rfl (wt_none' rfl) ?_
  refine sx_nil' ?_
  show TX E K3 _
  refine tx_k' hK3 ?_
  refine cx_block' ?_
  obtain ⟨y2, hy2, hp⟩ := bind_some hp
  refine cx_loopg' (F := spec_Grid_l2 a0 a1 a2) (G := fun k R v => spec_Grid_l2s a0 a1 a2 k R v) (x := 0) (gh := ()) (fun (v1 : Int) (w1 : Unit) => (⟨47, [], [(1, (Vl (.int .i64 a1))), (2, (Vl (.float .f64 a2))), (11, (Sl (Kl Kf) a0)), (12, (Vl (.int .i64 (a0.length : Int)))), (13, (Vl (.int .i64 v1)))], []⟩ : St)) (fun (y : Unit ⊕ Unit) => match y with | (.inl v7) => Zg E Exit.ret (fun (w7 : Unit) => (⟨47, [], [(6, (Vl (.bool false)))], []⟩ : St)) | (.inr v8) => Zg E (Exit.exit 0) (fun (w8 : Unit) => (⟨47, [], [(1, (Vl (.int .i64 a1)))], []⟩ : St))) (fun _ => rfl) (fun _ _ => rfl) ?_ hy2 (tx_to' rfl [] (sub_cons rfl (sub_cons rfl (sub_cons rfl (sub_cons rfl (sub_cons rfl sub_nil))))) (by decide) pick_nil) ?_
  · clear hp hy2
    clear y2
    intro k rec2 KY2 ih2
    rintro x4 ⟨⟩ y2 hp
    replace hp : spec_Grid_l2s a0 a1 a2 k rec2 x4 = some y2 := hp
    unfold spec_Grid_l2s at hp
    refine cx_seq' fun K4 hK4 => ?_
    refine cx_region' ?_
    refine sx_rd' (rd_bin' rfl rfl eg_int ru_lss) rfl rfl (wt_none' rfl) ?_
    refine sx_nil' ?_
    show TX E K4 _
    refine tx_k' hK4 ?_
    refine cx_seq' fun K5 hK5 => ?_
    refine cx_cond' rfl (fun h2 => ?_) (fun h2 => ?_)
    · replace hp := (br_t h2).symm.trans hp
      refine cx_skip' ?_
      show TX E K5 _
      refine tx_k' hK5 ?_
      refine cx_seq' fun K6 hK6 => ?_
      refine cx_block' ?_
      refine cx_seq' fun K7 hK7 => ?_
      refine cx_region' ?_
      obtain ⟨r15, hr15, hp⟩ := bind_some hp
      refine sx_rd' (rd_at' (K := (Kl Kf)) rfl rfl hr15 Try.underlying52 info22) rfl rfl (wt_none' rfl) ?_
      refine sx_rd' (rd_load_pt' rfl rfl flat22) rfl rfl (wt_none' rfl) ?_
      refine sx_rd' (rd_assign' rfl) rfl rfl (wt_none' rfl) ?_
      refine sx_nil' ?_
      show TX E K7 _
      refine tx_k' hK7 ?_
      refine cx_seq' fun K8 hK8 => ?_
      refine cx_seq' fun K9 hK9 => ?_
      refine cx_region' ?_
      refine sx_rd' (rd_move' rfl) rfl rfl (wt_none' rfl) ?_
      refine sx_rd' (rd_len' rfl Try.underlying22) rfl rfl (wt_none' rfl) ?_
      refine sx_rd' (rd_move' rfl) rfl rfl (wt_none' rfl) ?_
      refine sx_rd' (rd_bin' rfl rfl eg_int ru_neq) rfl rfl (wt_none' rfl) ?_
      refine sx_nil' ?_
      show TX E K9 _
      refine tx_k' hK9 ?_
      refine cx_cond' rfl (fun h3 => ?_) (fun h3 => ?_)
      · replace hp := (br_t h3).symm.trans hp
        refine cx_seq' fun K10 hK10 => ?_
        refine cx_region' ?_
        refine sx_rd' (rd_assign' rfl) rfl rfl (wt_none' rfl) ?_
        refine sx_nil' ?_
        show TX E K10 _
        refine tx_k' hK10 ?_
        refine cx_retc' ?_
        replace hp := Option.some.inj hp
        subst hp
        show TX E (Zg E Exit.ret _ Exit.ret) _
        exact tx_zend' () rfl [] (sub_cons rfl sub_nil) (by decide) pick_nil
      · replace hp := (br_f h3).symm.trans hp
        refine cx_skip' ?_
        show TX E K8 _
        refine tx_k' hK8 ?_
        refine cx_seq' fun K11 hK11 => ?_
        refine cx_region' ?_
        refine sx_rd' (rd_move' rfl) rfl rfl (wt_none' rfl) ?_
        refine sx_rd' (rd_len' rfl Try.underlying22) rfl rfl (wt_none' rfl) ?_
        refine sx_rd' (rd_move' rfl) rfl rfl (wt_none' rfl) ?_
        refine sx_nil' ?_
        show TX E K11 _
        refine tx_k' hK11 ?_
        refine cx_block' ?_
        obtain ⟨y1, hy1, hp⟩ := bind_some hp
        refine cx_loopg' (F := spec_Grid_l1 r15 a2) (G := fun k R v => spec_Grid_l1s r15 a2 k R v) (x := 0) (gh := ()) (fun (v2 : Int) (w2 : Unit) => (⟨47, [], [(1, (Vl (.int .i64 a1))), (2, (Vl (.float .f64 a2))), (11, (Sl (Kl Kf) a0)), (12, (Vl (.int .i64 (a0.length : Int)))), (13, (Vl (.int .i64 x4))), (21, (Sl Kf r15)), (22, (Vl (.int .i64 (r15.length : Int)))), (23, (Vl (.int .i64 v2)))], []⟩ : St)) (fun (y : Unit ⊕ Unit) => match y with | (.inl v5) => Zg E Exit.ret (fun (w5 : Unit) => (⟨47, [], [(6, (Vl (.bool false)))], []⟩ : St)) | (.inr v6) => Zg E (Exit.exit 2) (fun (w6 : Unit) => (⟨47, [], [(1, (Vl (.int .i64 a1))), (2, (Vl (.float .f64 a2))), (11, (Sl (Kl Kf) a0)), (12, (Vl (.int .i64 (a0.length : Int)))), (13, (Vl (.int .i64 x4)))], []⟩ : St))) (fun _ => rfl) (fun _ _ => rfl) ?_ hy1 (tx_to' rfl [] (sub_cons rfl (sub_cons rfl (sub_cons rfl (sub_cons rfl (sub_cons rfl (sub_cons rfl (sub_cons rfl (sub_cons rfl sub_nil)))))))) (by decide) pick_nil) ?_
        · clear hp hy1
          clear y1
          intro k rec1 KY1 ih1
          rintro x3 ⟨⟩ y1 hp
          replace hp : spec_Grid_l1s r15 a2 k rec1 x3 = some y1 := hp
          unfold spec_Grid_l1s at hp
          refine cx_seq' fun K12 hK12 => ?_
          refine cx_region' ?_
          refine sx_rd' (rd_bin' rfl rfl eg_int ru_lss) rfl rfl (wt_none' rfl) ?_
          refine sx_nil' ?_
          show TX E K12 _
          refine tx_k' hK12 ?_
          refine cx_seq' fun K13 hK13 => ?_
          refine cx_cond' rfl (fun h5 => ?_) (fun h5 => ?_)
          · replace hp := (br_t h5).symm.trans hp
            refine cx_skip' ?_
            show TX E K13 _
            refine tx_k' hK13 ?_
            refine cx_seq' fun K14 hK14 => ?_
            refine cx_block' ?_
            refine cx_seq' fun K15 hK15 => ?_
            refine cx_region' ?_
            obtain ⟨r25, hr25, hp⟩ := bind_some hp
            refine sx_rd' (rd_at' (K := Kf) rfl rfl hr25 Try.underlying22 info34) rfl rfl (wt_none' rfl) ?_
            refine sx_rd' (rd_load_pt' rfl rfl flat34) rfl rfl (wt_none' rfl) ?_
            refine sx_rd' (rd_assign' rfl) rfl rfl (wt_none' rfl) ?_
            refine sx_nil' ?_
            show TX E K15 _
            refine tx_k' hK15 ?_
            refine cx_seq' fun K16 hK16 => ?_
            refine cx_region' ?_
            refine sx_rd' (rd_move' rfl) rfl rfl (wt_none' rfl) ?_
            refine sx_rd' (rd_move' rfl) rfl rfl (wt_none' rfl) ?_
            refine sx_rd' (rd_un' rfl ru_fneg) rfl rfl (wt_none' rfl) ?_
            refine sx_rd' (rd_bin' rfl rfl eg_flt ru_fge) rfl rfl (wt_none' rfl) ?_
            refine sx_rd' (rd_move' rfl) rfl rfl (wt_none' rfl) ?_
            refine sx_cutn' 4 (fun (v3 : Bool) => (⟨47, [], [(1, (Vl (.int .i64 a1))), (2, (Vl (.float .f64 a2))), (10, (Vl (.float .f64 r25))), (11, (Sl (Kl Kf) a0)), (12, (Vl (.int .i64 (a0.length : Int)))), (13, (Vl (.int .i64 x4))), (21, (Sl Kf r15)), (22, (Vl (.int .i64 (r15.length : Int)))), (23, (Vl (.int .i64 x3))), (35, (Vl (.bool v3)))], []⟩ : St)) (fun (v3 : Bool) => spec_Grid_j1 k rec1 x3 r25 v3 = some y1) ?_ ?_
            · rintro x1 hp
              replace hp : spec_Grid_j1 k rec1 x3 r25 x1 = some y1 := hp
              unfold spec_Grid_j1 at hp
              refine sx_rd' (rd_un' rfl ru_not) rfl rfl (wt_none' rfl) ?_
              refine sx_rd' (rd_move' rfl) rfl rfl (wt_none' rfl) ?_
              refine sx_cutn' 5 (fun (v4 : Bool) => (⟨47, [], [(1, (Vl (.int .i64 a1))), (2, (Vl (.float .f64 a2))), (11, (Sl (Kl Kf) a0)), (12, (Vl (.int .i64 (a0.length : Int)))), (13, (Vl (.int .i64 x4))), (21, (Sl Kf r15)), (22, (Vl (.int .i64 (r15.length : Int)))), (23, (Vl (.int .i64 x3))), (42, (Vl (.bool v4)))], []⟩ : St)) (fun (v4 : Bool) => spec_Grid_j2 k rec1 x3 v4 = some y1) ?_ ?_
              · rintro x2 hp
                replace hp : spec_Grid_j2 k rec1 x3 x2 = some y1 := hp
                unfold spec_Grid_j2 at hp
                refine sx_nil' ?_
                show TX E K16 _
                refine tx_k' hK16 ?_
                refine cx_cond' rfl (fun h8 => ?_) (fun h8 => ?_)
                · replace hp := (br_t h8).symm.trans hp
                  refine cx_seq' fun K19 hK19 => ?_
                  refine cx_region' ?_
                  refine sx_rd' (rd_assign' rfl) rfl rfl (wt_none' rfl) ?_
                  refine sx_nil' ?_
                  show TX E K19 _
                  refine tx_k' hK19 ?_
                  refine cx_retc' ?_
                  replace hp := Option.some.inj hp
                  subst hp
                  show TX E (Zg E Exit.ret _ Exit.ret) _
                  exact tx_zend' () rfl [] (sub_cons rfl sub_nil) (by decide) pick_nil
                · replace hp := (br_f h8).symm.trans hp
                  refine cx_skip' ?_
                  show TX E K14 _
                  refine tx_k' hK14 ?_
                  refine cx_region' ?_
                  refine sx_rd' (rd_bin' rfl rfl eg_int ru_add) rfl rfl (wt_none' rfl) ?_
                  refine sx_rd' (rd_move' rfl) rfl rfl (wt_none' rfl) ?_
                  refine sx_nil' ?_
                  show TX E (KY1 _) _
                  exact tx_pick' [] (sub_cons rfl (sub_cons rfl (sub_cons rfl (sub_cons rfl (sub_cons rfl (sub_cons rfl (sub_cons rfl (sub_cons rfl sub_nil)))))))) (by decide) pick_nil (ih1 (iadd .i64 x3 1) () _ hp)
              · intro K18 hK18
                rcases br_cases hp with ⟨h7, hp⟩ | ⟨h7, hp⟩
                · refine sx_skip' rfl rfl (wt_is' (wt_guard' rfl rfl rfl) (beq_tf h7)) ?_
                  refine sx_skip' rfl rfl (wt_is' (wt_guard' rfl rfl rfl) (beq_tf h7)) ?_
                  refine sx_skip' rfl rfl (wt_is' (wt_guard' rfl rfl rfl) (beq_tf h7)) ?_
                  refine sx_skip' rfl rfl (wt_is' (wt_guard' rfl rfl rfl) (beq_tf h7)) ?_
                  refine sx_rd' (rd_pick_true' rfl h7 rfl) rfl rfl (wt_none' rfl) ?_
                  refine sx_nil' ?_
                  show TX E K18 _
                  exact tx_pick' [] (sub_cons rfl (sub_cons rfl (sub_cons rfl (sub_cons rfl (sub_cons rfl (sub_cons rfl (sub_cons rfl (sub_cons rfl (sub_cons rfl sub_nil))))))))) (by decide) pick_nil (hK18 true hp)
                · refine sx_rd' (rd_move' rfl) rfl rfl (wt_is' (wt_guard' rfl rfl rfl) (beq_ff h7)) ?_
                  refine sx_rd' (rd_move' rfl) rfl rfl (wt_is' (wt_guard' rfl rfl rfl) (beq_ff h7)) ?_
                  obtain ⟨r40, hr40, hp⟩ := bind_some hp
                  refine sx_ox' (ox_calln' (ent_fn' Try.func43 isn43 rfl rfl) (math_Trunc_sim _ hr40 : Go.Sx.Fn Try.prog 43 [(Vl (.float .f64 r25))] [] (fun x : Unit => (Fl r40)) (fun x => [])) (Hn := fun x : Unit => []) (fun _ => rfl) rfl rfl) (wt_is' (wt_guard' rfl rfl rfl) (beq_ff h7)) fun ⟨⟩ => ?_
                  refine sx_rd' (rd_fcmp' (fl_v rfl) (fl_f rfl) rfl) rfl rfl (wt_is' (wt_guard' rfl rfl rfl) (beq_ff h7)) ?_
                  refine sx_rd' (rd_pick_false' rfl h7 rfl) rfl rfl (wt_none' rfl) ?_
                  refine sx_nil' ?_
                  show TX E K18 _
                  exact tx_pick' [] (sub_cons rfl (sub_cons rfl (sub_cons rfl (sub_cons rfl (sub_cons rfl (sub_cons rfl (sub_cons rfl (sub_cons rfl (sub_cons rfl sub_nil))))))))) (by decide) pick_nil (hK18 (fne r25 r40) hp)
            · intro K17 hK17
              rcases br_cases hp with ⟨h6, hp⟩ | ⟨h6, hp⟩
              · refine sx_rd' (rd_move' rfl) rfl rfl (wt_is' (wt_guard' rfl rfl rfl) (beq_tt h6)) ?_
                refine sx_rd' (rd_move' rfl) rfl rfl (wt_is' (wt_guard' rfl rfl rfl) (beq_tt h6)) ?_
                refine sx_rd' (rd_bin' rfl rfl eg_flt ru_fle) rfl rfl (wt_is' (wt_guard' rfl rfl rfl) (beq_tt h6)) ?_
                refine sx_rd' (rd_pick_true' rfl h6 rfl) rfl rfl (wt_none' rfl) ?_
                refine sx_nil' ?_
                show TX E K17 _
                exact tx_pick' [] (sub_cons rfl (sub_cons rfl (sub_cons rfl (sub_cons rfl (sub_cons rfl (sub_cons rfl (sub_cons rfl (sub_cons rfl (sub_cons rfl (sub_cons rfl sub_nil)))))))))) (by decide) pick_nil (hK17 (fle r25 a2) hp)
              · refine sx_skip' rfl rfl (wt_is' (wt_guard' rfl rfl rfl) (beq_ft h6)) ?_
                refine sx_skip' rfl rfl (wt_is' (wt_guard' rfl rfl rfl) (beq_ft h6)) ?_
                refine sx_skip' rfl rfl (wt_is' (wt_guard' rfl rfl rfl) (beq_ft h6)) ?_
                refine sx_rd' (rd_pick_false' rfl h6 rfl) rfl rfl (wt_none' rfl) ?_
                refine sx_nil' ?_
                show TX E K17 _
                exact tx_pick' [] (sub_cons rfl (sub_cons rfl (sub_cons rfl (sub_cons rfl (sub_cons rfl (sub_cons rfl (sub_cons rfl (sub_cons rfl (sub_cons rfl (sub_cons rfl sub_nil)))))))))) (by decide) pick_nil (hK17 false hp)
          · replace hp := (br_f h5).symm.trans hp
            refine cx_exit' ?_
            replace hp := Option.some.inj hp
            subst hp
            show TX E (Zg E (Exit.exit 2) _ (Exit.exit 2)) _
            exact tx_zend' () rfl [] (sub_cons rfl (sub_cons rfl (sub_cons rfl (sub_cons rfl (sub_cons rfl sub_nil))))) (by decide) pick_nil
        · rcases y1 with v5 | v6
          · dsimp only at hp
            refine zg_out fun w5 => ?_
            replace hp := Option.some.inj hp
            subst hp
            show TX E (Zg E Exit.ret _ Exit.ret) _
            exact tx_zend' () rfl [] (sub_cons rfl sub_nil) (by decide) pick_nil
          · dsimp only at hp
            refine zg_out fun w6 => ?_
            show TX E K6 _
            refine tx_k' hK6 ?_
            refine cx_region' ?_
            refine sx_rd' (rd_bin' rfl rfl eg_int ru_add) rfl rfl (wt_none' rfl) ?_
            refine sx_rd' (rd_move' rfl) rfl rfl (wt_none' rfl) ?_
            refine sx_nil' ?_
            show TX E (KY2 _) _
            exact tx_pick' [] (sub_cons rfl (sub_cons rfl (sub_cons rfl (sub_cons rfl (sub_cons rfl sub_nil))))) (by decide) pick_nil (ih2 (iadd .i64 x4 1) () _ hp)
    · replace hp := (br_f h2).symm.trans hp
      refine cx_exit' ?_
      replace hp := Option.some.inj hp
      subst hp
      show TX E (Zg E (Exit.exit 0) _ (Exit.exit 0)) _
      exact tx_zend' () rfl [] (sub_cons rfl sub_nil) (by decide) pick_nil
  · rcases y2 with v7 | v8
    · dsimp only at hp
      refine zg_out fun w7 => ?_
      replace hp := Option.some.inj hp
      subst hp
      refine tx_pick' (L' := [(6, (Vl (.bool false)))]) (H' := []) [] (sub_cons rfl sub_nil) (by decide) pick_nil ?_
      exact tx_ret1' Try.results31 rfl () (rv_tmp' rfl) (List.Sublist.refl _)
    · dsimp only at hp
      refine zg_out fun w8 => ?_
      show TX E K2 _
      refine tx_k' hK2 ?_
      refine cx_seq' fun K20 hK20 => ?_
      refine cx_region' ?_
      refine sx_rd' (rd_move' rfl) rfl rfl (wt_none' rfl) ?_
      refine sx_rd' (rd_bin' rfl rfl eg_int ru_gtr) rfl rfl (wt_none' rfl) ?_
      refine sx_rd' (rd_assign' rfl) rfl rfl (wt_none' rfl) ?_
      refine sx_nil' ?_
      show TX E K20 _
      refine tx_k' hK20 ?_
      refine cx_retc' ?_
      replace hp := Option.some.inj hp
      subst hp
      refine tx_pick' (L' := [(6, (Vl (.bool (decide (0 < a1)))))]) (H' := []) [] (sub_cons rfl sub_nil) (by decide) pick_nil ?_
      exact tx_ret1' Try.results31 rfl () (rv_tmp' rfl) (List.Sublist.refl _)

def laws_some_j5 (k : Nat) (x5 : Bool) : Option (Bool) :=
  some x5
def laws_some_j4 (k : Nat) (a1 : List Nat) (x4 : Bool) : Option (Bool) :=
  br x4
    ((spec_Grid k ([a1]) (a1.length : Int) 4697254411347427328) >>= fun r34 =>
    laws_some_j5 k r34)
    (laws_some_j5 k false)
def laws_some_j3 (k : Nat) (a0 : List (List Nat)) (a1 : List Nat) (x3 : Bool) : Option (Bool) :=
  br x3
    ((spec_Grid k a0 (a1.length : Int) 4697254411347427328) >>= fun r27 =>
    laws_some_j4 k a1 r27)
    (laws_some_j4 k a1 false)
def laws_some_j2 (k : Nat) (a0 : List (List Nat)) (a1 : List Nat) (x2 : Bool) : Option (Bool) :=
  br x2
    (laws_some_j3 k a0 a1 (decide ((a1.length : Int) ≤ 6)))
    (laws_some_j3 k a0 a1 false)
def laws_some_j1 (k : Nat) (a0 : List (List Nat)) (a1 : List Nat) (x1 : Bool) : Option (Bool) :=
  br x1
    (laws_some_j2 k a0 a1 (decide (0 < (a1.length : Int))))
    (laws_some_j2 k a0 a1 false)
def laws_some (k : Nat) (a0 : List (List Nat)) (a1 : List Nat) : Option (Bool) :=
  br (decide (0 < (a0.length : Int)))
    (laws_some_j1 k a0 a1 (decide ((a0.length : Int) ≤ 100)))
    (laws_some_j1 k a0 a1 false)

theorem laws_some_sim {k : Nat}  (a0 : List (List Nat)) (a1 : List Nat) {out : Bool} (hp : laws_some k a0 a1 = some out) : Go.Sx.Fn Try.prog 21 [(Sl (Kl Kf) a0), (Sl Kf a1)] [] (fun w : Unit => (Vl (.bool out))) (fun w => []) := by
  unfold laws_some at hp
  refine fn_of Try.func21 rfl Try.ntmps21 rfl fun E hM => ?_
  refine cx_seq' fun K1 hK1 => ?_
  refine cx_region' ?_
  refine sx_rd' (rd_assign' rfl) rfl rfl (wt_none' rfl) ?_
  refine sx_nil' ?_
  show TX E K1 _
  refine tx_k' hK1 ?_
  refine cx_seq' fun K2 hK2 => ?_
  refine cx_region' ?_
  refine sx_rd' (rd_move' rfl) rfl rfl (wt_none' rfl) ?_
  refine sx_rd' (rd_len' rfl Try.underlying52) rfl rfl (wt_none' rfl) ?_
  refine sx_rd' (rd_bin' rfl rfl eg_int ru_gtr) rfl rfl (wt_none' rfl) ?_
  refine sx_rd' (rd_move' rfl) rfl rfl (wt_none' rfl) ?_
  refine sx_cutn' 4 (fun (v1 : Bool) => (⟨36, [], [(0, (Sl (Kl Kf) a0)), (1, (Sl Kf a1)), (12, (Vl (.bool v1)))], []⟩ : St)) (fun (v1 : Bool) => laws_some_j1 k a0 a1 v1 = some out) ?_ ?_
  · rintro x1 hp
    replace hp : laws_some_j1 k a0 a1 x1 = some out := hp
    unfold laws_some_j1 at hp
    refine sx_rd' (rd_move' rfl) rfl rfl (wt_none' rfl) ?_
    refine sx_cutn' 4 (fun (v2 : Bool) => (⟨36, [], [(0, (Sl (Kl Kf) a0)), (1, (Sl Kf a1)), (17, (Vl (.bool v2)))], []⟩ : St)) (fun (v2 : Bool) => laws_some_j2 k a0 a1 v2 = some out) ?_ ?_
    · rintro x2 hp
      replace hp : laws_some_j2 k a0 a1 x2 = some out := hp
      unfold laws_some_j2 at hp
      refine sx_rd' (rd_move' rfl) rfl rfl (wt_none' rfl) ?_
      refine sx_cutn' 4 (fun (v3 : Bool) => (⟨36, [], [(0, (Sl (Kl Kf) a0)), (1, (Sl Kf a1)), (22, (Vl (.bool v3)))], []⟩ : St)) (fun (v3 : Bool) => laws_some_j3 k a0 a1 v3 = some out) ?_ ?_
      · rintro x3 hp
        replace hp : laws_some_j3 k a0 a1 x3 = some out := hp
        unfold laws_some_j3 at hp
        refine sx_rd' (rd_move' rfl) rfl rfl (wt_none' rfl) ?_
        refine sx_cutn' 5 (fun (v4 : Bool) => (⟨36, [], [(1, (Sl Kf a1)), (28, (Vl (.bool v4)))], []⟩ : St)) (fun (v4 : Bool) => laws_some_j4 k a1 v4 = some out) ?_ ?_
        · rintro x4 hp
          replace hp : laws_some_j4 k a1 x4 = some out := hp
          unfold laws_some_j4 at hp
          refine sx_rd' (rd_move' rfl) rfl rfl (wt_none' rfl) ?_
          refine sx_cutn' 6 (fun (v5 : Bool) => (⟨36, [], [(35, (Vl (.bool v5)))], []⟩ : St)) (fun (v5 : Bool) => laws_some_j5 k v5 = some out) ?_ ?_
          · rintro x5 hp
            replace hp : laws_some_j5 k x5 = some out := hp
            unfold laws_some_j5 at hp
            refine sx_rd' (rd_assign' rfl) rfl rfl (wt_none' rfl) ?_
            refine sx_nil' ?_
            show TX E K2 _
            refine tx_k' hK2 ?_
            refine cx_retc' ?_
            replace hp := Option.some.inj hp
            subst hp
            refine tx_pick' (L' := [(4, (Vl (.bool x5)))]) (H' := []) [] (sub_cons rfl sub_nil) (by decide) pick_nil ?_
            exact tx_ret1' Try.results21 rfl () (rv_tmp' rfl) (List.Sublist.refl _)
          · intro K7 hK7
            rcases br_cases hp with ⟨h5, hp⟩ | ⟨h5, hp⟩
            · refine sx_rd' (rd_move' rfl) rfl rfl (wt_is' (wt_guard' rfl rfl rfl) (beq_tt h5)) ?_
              refine sx_ox' (ox_rowlit' (K := (Kl Kf)) (xs := [a1]) (qs := [(0, [(Sl Kf a1)])]) ⟨rfl, ⟨_, rfl, (lv_sl _ _)⟩, trivial⟩ Try.underlying52 info22 rfl rfl rfl rfl rfl rfl rfl rfl rfl) (wt_is' (wt_guard' rfl rfl rfl) (beq_tt h5)) fun g31 => ?_
              refine sx_rd' (rd_move' rfl) rfl rfl (wt_is' (wt_guard' rfl rfl rfl) (beq_tt h5)) ?_
              refine sx_rd' (rd_len' rfl Try.underlying22) rfl rfl (wt_is' (wt_guard' rfl rfl rfl) (beq_tt h5)) ?_
              obtain ⟨r34, hr34, hp⟩ := bind_some hp
              refine sx_ox' (ox_brw' (frz_row 0 [31] (K := (Kl Kf)) (xs := [a1]) (by decide) rfl ⟨rfl, trivial⟩ (H' := []) frzH_refl) (ent_fn' Try.func31 isn31 rfl rfl) (spec_Grid_sim _ _ _ hr34 : Go.Sx.Fn Try.prog 31 [(Sl (Kl Kf) ([a1])), (Vl (.int .i64 (a1.length : Int))), (Vl (.float .f64 4697254411347427328))] [] (fun x : Unit => (Vl (.bool r34))) (fun x => [])) pu_vl rfl rfl) (wt_is' (wt_guard' rfl rfl rfl) (beq_tt h5)) fun ⟨⟩ => ?_
              refine sx_rd' (rd_pick_true' rfl h5 rfl) rfl rfl (wt_none' rfl) ?_
              refine sx_nil' ?_
              show TX E K7 _
              exact tx_pick' [] (sub_cons rfl sub_nil) (by decide) pick_nil (hK7 r34 hp)
            · refine sx_skip' rfl rfl (wt_is' (wt_guard' rfl rfl rfl) (beq_ft h5)) ?_
              refine sx_skip' rfl rfl (wt_is' (wt_guard' rfl rfl rfl) (beq_ft h5)) ?_
              refine sx_skip' rfl rfl (wt_is' (wt_guard' rfl rfl rfl) (beq_ft h5)) ?_
              refine sx_skip' rfl rfl (wt_is' (wt_guard' rfl rfl rfl) (beq_ft h5)) ?_
              refine sx_skip' rfl rfl (wt_is' (wt_guard' rfl rfl rfl) (beq_ft h5)) ?_
              refine sx_rd' (rd_pick_false' rfl h5 rfl) rfl rfl (wt_none' rfl) ?_
              refine sx_nil' ?_
              show TX E K7 _
              exact tx_pick' [] (sub_cons rfl sub_nil) (by decide) pick_nil (hK7 false hp)
        · intro K6 hK6
          rcases br_cases hp with ⟨h4, hp⟩ | ⟨h4, hp⟩
          · refine sx_rd' (rd_move' rfl) rfl rfl (wt_is' (wt_guard' rfl rfl rfl) (beq_tt h4)) ?_
            refine sx_rd' (rd_move' rfl) rfl rfl (wt_is' (wt_guard' rfl rfl rfl) (beq_tt h4)) ?_
            refine sx_rd' (rd_len' rfl Try.underlying22) rfl rfl (wt_is' (wt_guard' rfl rfl rfl) (beq_tt h4)) ?_
            obtain ⟨r27, hr27, hp⟩ := bind_some hp
            refine sx_ox' (ox_calln' (ent_fn' Try.func31 isn31 rfl rfl) (spec_Grid_sim _ _ _ hr27 : Go.Sx.Fn Try.prog 31 [(Sl (Kl Kf) a0), (Vl (.int .i64 (a1.length : Int))), (Vl (.float .f64 4697254411347427328))] [] (fun x : Unit => (Vl (.bool r27))) (fun x => [])) (Hn := fun x : Unit => []) (fun _ => rfl) rfl rfl) (wt_is' (wt_guard' rfl rfl rfl) (beq_tt h4)) fun ⟨⟩ => ?_
            refine sx_rd' (rd_pick_true' rfl h4 rfl) rfl rfl (wt_none' rfl) ?_
            refine sx_nil' ?_
            show TX E K6 _
            exact tx_pick' [] (sub_cons rfl (sub_cons rfl sub_nil)) (by decide) pick_nil (hK6 r27 hp)
          · refine sx_skip' rfl rfl (wt_is' (wt_guard' rfl rfl rfl) (beq_ft h4)) ?_
            refine sx_skip' rfl rfl (wt_is' (wt_guard' rfl rfl rfl) (beq_ft h4)) ?_
            refine sx_skip' rfl rfl (wt_is' (wt_guard' rfl rfl rfl) (beq_ft h4)) ?_
            refine sx_skip' rfl rfl (wt_is' (wt_guard' rfl rfl rfl) (beq_ft h4)) ?_
            refine sx_rd' (rd_pick_false' rfl h4 rfl) rfl rfl (wt_none' rfl) ?_
            refine sx_nil' ?_
            show TX E K6 _
            exact tx_pick' [] (sub_cons rfl (sub_cons rfl sub_nil)) (by decide) pick_nil (hK6 false hp)
      · intro K5 hK5
        rcases br_cases hp with ⟨h3, hp⟩ | ⟨h3, hp⟩
        · refine sx_rd' (rd_move' rfl) rfl rfl (wt_is' (wt_guard' rfl rfl rfl) (beq_tt h3)) ?_
          refine sx_rd' (rd_len' rfl Try.underlying22) rfl rfl (wt_is' (wt_guard' rfl rfl rfl) (beq_tt h3)) ?_
          refine sx_rd' (rd_bin' rfl rfl eg_int ru_leq) rfl rfl (wt_is' (wt_guard' rfl rfl rfl) (beq_tt h3)) ?_
          refine sx_rd' (rd_pick_true' rfl h3 rfl) rfl rfl (wt_none' rfl) ?_
          refine sx_nil' ?_
          show TX E K5 _
          exact tx_pick' [] (sub_cons rfl (sub_cons rfl (sub_cons rfl sub_nil))) (by decide) pick_nil (hK5 (decide ((a1.length : Int) ≤ 6)) hp)
        · refine sx_skip' rfl rfl (wt_is' (wt_guard' rfl rfl rfl) (beq_ft h3)) ?_
          refine sx_skip' rfl rfl (wt_is' (wt_guard' rfl rfl rfl) (beq_ft h3)) ?_
          refine sx_skip' rfl rfl (wt_is' (wt_guard' rfl rfl rfl) (beq_ft h3)) ?_
          refine sx_rd' (rd_pick_false' rfl h3 rfl) rfl rfl (wt_none' rfl) ?_
          refine sx_nil' ?_
          show TX E K5 _
          exact tx_pick' [] (sub_cons rfl (sub_cons rfl (sub_cons rfl sub_nil))) (by decide) pick_nil (hK5 false hp)
    · intro K4 hK4
      rcases br_cases hp with ⟨h2, hp⟩ | ⟨h2, hp⟩
      · refine sx_rd' (rd_move' rfl) rfl rfl (wt_is' (wt_guard' rfl rfl rfl) (beq_tt h2)) ?_
        refine sx_rd' (rd_len' rfl Try.underlying22) rfl rfl (wt_is' (wt_guard' rfl rfl rfl) (beq_tt h2)) ?_
        refine sx_rd' (rd_bin' rfl rfl eg_int ru_gtr) rfl rfl (wt_is' (wt_guard' rfl rfl rfl) (beq_tt h2)) ?_
        refine sx_rd' (rd_pick_true' rfl h2 rfl) rfl rfl (wt_none' rfl) ?_
        refine sx_nil' ?_
        show TX E K4 _
        exact tx_pick' [] (sub_cons rfl (sub_cons rfl (sub_cons rfl sub_nil))) (by decide) pick_nil (hK4 (decide (0 < (a1.length : Int))) hp)
      · refine sx_skip' rfl rfl (wt_is' (wt_guard' rfl rfl rfl) (beq_ft h2)) ?_
        refine sx_skip' rfl rfl (wt_is' (wt_guard' rfl rfl rfl) (beq_ft h2)) ?_
        refine sx_skip' rfl rfl (wt_is' (wt_guard' rfl rfl rfl) (beq_ft h2)) ?_
        refine sx_rd' (rd_pick_false' rfl h2 rfl) rfl rfl (wt_none' rfl) ?_
        refine sx_nil' ?_
        show TX E K4 _
        exact tx_pick' [] (sub_cons rfl (sub_cons rfl (sub_cons rfl sub_nil))) (by decide) pick_nil (hK4 false hp)
  · intro K3 hK3
    rcases br_cases hp with ⟨h1, hp⟩ | ⟨h1, hp⟩
    · refine sx_rd' (rd_move' rfl) rfl rfl (wt_is' (wt_guard' rfl rfl rfl) (beq_tt h1)) ?_
      refine sx_rd' (rd_len' rfl Try.underlying52) rfl rfl (wt_is' (wt_guard' rfl rfl rfl) (beq_tt h1)) ?_
      refine sx_rd' (rd_bin' rfl rfl eg_int ru_leq) rfl rfl (wt_is' (wt_guard' rfl rfl rfl) (beq_tt h1)) ?_
      refine sx_rd' (rd_pick_true' rfl h1 rfl) rfl rfl (wt_none' rfl) ?_
      refine sx_nil' ?_
      show TX E K3 _
      exact tx_pick' [] (sub_cons rfl (sub_cons rfl (sub_cons rfl sub_nil))) (by decide) pick_nil (hK3 (decide ((a0.length : Int) ≤ 100)) hp)
    · refine sx_skip' rfl rfl (wt_is' (wt_guard' rfl rfl rfl) (beq_ft h1)) ?_
      refine sx_skip' rfl rfl (wt_is' (wt_guard' rfl rfl rfl) (beq_ft h1)) ?_
      refine sx_skip' rfl rfl (wt_is' (wt_guard' rfl rfl rfl) (beq_ft h1)) ?_
      refine sx_rd' (rd_pick_false' rfl h1 rfl) rfl rfl (wt_none' rfl) ?_
      refine sx_nil' ?_
      show TX E K3 _
      exact tx_pick' [] (sub_cons rfl (sub_cons rfl (sub_cons rfl sub_nil))) (by decide) pick_nil (hK3 false hp)

def kdtree_Point_Distance_l1s (a0 : List Nat) (a1 : List Nat) (k : Nat) (rec1 : (Nat × Int) → Option (Nat)) (x1 : Nat) (x2 : Int) : Option (Nat) :=
  br (decide (x2 < (a0.length : Int)))
    ((idx a0 x2) >>= fun r17 =>
    (idx a1 x2) >>= fun r22 =>
    (some (gsub r17 r22)) >>= fun r24 =>
    (some (gmul r24 r24)) >>= fun r28 =>
    (some (gadd x1 r28)) >>= fun r29 =>
    rec1 (r29, (iadd .i64 x2 1)))
    (some x1)
def kdtree_Point_Distance_l1 (a0 : List Nat) (a1 : List Nat) : Nat → (Nat × Int) → Option (Nat)
  | 0, _ => none
  | k + 1, v => kdtree_Point_Distance_l1s a0 a1 k (kdtree_Point_Distance_l1 a0 a1 k) v.1 v.2
def kdtree_Point_Distance (k : Nat) (a0 : List Nat) (a1 : List Nat) : Option (Nat) :=
  (kdtree_Point_Distance_l1 a0 a1 k (0, 0)) >>= fun v2 =>
  some v2

theorem kdtree_Point_Distance_sim {k : Nat}  (a0 : List Nat) (a1 : List Nat) {out : Nat} (hp : kdtree_Point_Distance k a0 a1 = some out) : Go.Sx.Fn Try.prog 39 [(Sl Kf a0), (If 81 (Sl Kf a1))] [] (fun w : Unit => (Fl out)) (fun w => []) := by
  unfold kdtree_Point_Distance at hp
  refine fn_of Try.func39 rfl Try.ntmps39 rfl fun E hM => ?_
  refine cx_seq' fun K1 hK1 => ?_
  refine cx_region' ?_
  refine sx_rd' (rd_assign' rfl) rfl rfl (wt_none' rfl) ?_
  refine sx_nil' ?_
  show TX E K1 _
  refine tx_k' hK1 ?_
  refine cx_seq' fun K2 hK2 => ?_
  refine cx_region' ?_
  refine sx_rd' (rd_move' rfl) rfl rfl (wt_none' rfl) ?_
  refine sx_rd' (rd_assert' rfl (F := fun v => v) as81_91_81 as_id) rfl rfl (wt_none' rfl) ?_
  refine sx_rd' (rd_assign' rfl) rfl rfl (wt_none' rfl) ?_
  refine sx_nil' ?_
  show TX E K2 _
  refine tx_k' hK2 ?_
  refine cx_seq' fun K3 hK3 => ?_
  refine cx_region' ?_
  refine sx_rd' (rd_assign' rfl) rfl rfl (wt_none' rfl) ?_
  refine sx_nil' ?_
  show TX E K3 _
  refine tx_k' hK3 ?_
  refine cx_seq' fun K4 hK4 => ?_
  refine cx_seq' fun K5 hK5 => ?_
  refine cx_region' ?_
  refine sx_rd' (rd_move' rfl) rfl rfl (wt_none' rfl) ?_
  refine sx_rd' (rd_len' rfl Try.underlying81) rfl rfl (wt_none' rfl) ?_
  refine sx_rd' (rd_move' rfl) rfl rfl (wt_none' rfl) ?_
  refine sx_nil' ?_
  show TX E K5 _
  refine tx_k' hK5 ?_
  refine cx_block' ?_
  obtain ⟨v2, hy1, hp⟩ := bind_some hp
  refine tx_slot' 6 (y := (Fl 0)) rfl imp_vf ?_
  refine cx_loopg' (F := kdtree_Point_Distance_l1 a0 a1) (G := fun k R v => kdtree_Point_Distance_l1s a0 a1 k R v.1 v.2) (x := (0, 0)) (gh := ()) (fun (v1 : Nat × Int) (w1 : Unit) => (⟨32, [], [(5, (Sl Kf a1)), (6, (Fl v1.1)), (12, (Sl Kf a0)), (13, (Vl (.int .i64 (a0.length : Int)))), (14, (Vl (.int .i64 v1.2)))], []⟩ : St)) (fun (v2 : Nat) => Zg E (Exit.exit 0) (fun (w2 : Unit) => (⟨32, [], [(6, (Fl v2))], []⟩ : St))) (fun _ => rfl) (fun _ _ => rfl) ?_ hy1 (tx_to' rfl [] (sub_cons rfl (sub_cons rfl (sub_cons rfl (sub_cons rfl (sub_cons rfl sub_nil))))) (by decide) pick_nil) ?_
  · clear hp hy1
    clear v2
    intro k rec1 KY1 ih1
    rintro ⟨x1, x2⟩ ⟨⟩ y1 hp
    replace hp : kdtree_Point_Distance_l1s a0 a1 k rec1 x1 x2 = some y1 := hp
    unfold kdtree_Point_Distance_l1s at hp
    refine cx_seq' fun K6 hK6 => ?_
    refine cx_region' ?_
    refine sx_rd' (rd_bin' rfl rfl eg_int ru_lss) rfl rfl (wt_none' rfl) ?_
    refine sx_nil' ?_
    show TX E K6 _
    refine tx_k' hK6 ?_
    refine cx_seq' fun K7 hK7 => ?_
    refine cx_cond' rfl (fun h2 => ?_) (fun h2 => ?_)
    · replace hp := (br_t h2).symm.trans hp
      refine cx_skip' ?_
      show TX E K7 _
      refine tx_k' hK7 ?_
      refine cx_seq' fun K8 hK8 => ?_
      refine cx_block' ?_
      refine cx_seq' fun K9 hK9 => ?_
      refine cx_region' ?_
      refine sx_rd' (rd_move' rfl) rfl rfl (wt_none' rfl) ?_
      obtain ⟨r17, hr17, hp⟩ := bind_some hp
      refine sx_rd' (rd_at' (K := Kf) rfl rfl hr17 Try.underlying81 info34) rfl rfl (wt_none' rfl) ?_
      refine sx_rd' (rd_load_pt' rfl rfl flat34) rfl rfl (wt_none' rfl) ?_
      refine sx_rd' (rd_assign' rfl) rfl rfl (wt_none' rfl) ?_
      refine sx_rd' (rd_assign' rfl) rfl rfl (wt_none' rfl) ?_
      refine sx_nil' ?_
      show TX E K9 _
      refine tx_k' hK9 ?_
      refine cx_seq' fun K10 hK10 => ?_
      refine cx_region' ?_
      refine sx_rd' (rd_move' rfl) rfl rfl (wt_none' rfl) ?_
      refine sx_rd' (rd_move' rfl) rfl rfl (wt_none' rfl) ?_
      refine sx_rd' (rd_move' rfl) rfl rfl (wt_none' rfl) ?_
      obtain ⟨r22, hr22, hp⟩ := bind_some hp
      refine sx_rd' (rd_at' (K := Kf) rfl rfl hr22 Try.underlying81 info34) rfl rfl (wt_none' rfl) ?_
      refine sx_rd' (rd_load_pt' rfl rfl flat34) rfl rfl (wt_none' rfl) ?_
      obtain ⟨r24, hr24, hp⟩ := bind_some hp
      refine sx_ox' (ox_fop' (.inr (.inl rfl)) (fl_v rfl) (fl_v rfl) (Option.some.inj hr24) rfl rfl) (wt_none' rfl) fun _ => ?_
      refine sx_rd' (rd_assign' rfl) rfl rfl (wt_none' rfl) ?_
      refine sx_nil' ?_
      show TX E K10 _
      refine tx_k' hK10 ?_
      refine cx_region' ?_
      refine sx_rd' (rd_move' rfl) rfl rfl (wt_none' rfl) ?_
      refine sx_rd' (rd_move' rfl) rfl rfl (wt_none' rfl) ?_
      refine sx_rd' (rd_move' rfl) rfl rfl (wt_none' rfl) ?_
      obtain ⟨r28, hr28, hp⟩ := bind_some hp
      refine sx_ox' (ox_fop' (.inr (.inr (.inl rfl))) (fl_f rfl) (fl_f rfl) (Option.some.inj hr28) rfl rfl) (wt_none' rfl) fun _ => ?_
      obtain ⟨r29, hr29, hp⟩ := bind_some hp
      refine sx_ox' (ox_fop' (.inl rfl) (fl_f rfl) (fl_f rfl) (Option.some.inj hr29) rfl rfl) (wt_none' rfl) fun _ => ?_
      refine sx_rd' (rd_assign' rfl) rfl rfl (wt_none' rfl) ?_
      refine sx_nil' ?_
      show TX E K8 _
      refine tx_k' hK8 ?_
      refine cx_region' ?_
      refine sx_rd' (rd_bin' rfl rfl eg_int ru_add) rfl rfl (wt_none' rfl) ?_
      refine sx_rd' (rd_move' rfl) rfl rfl (wt_none' rfl) ?_
      refine sx_nil' ?_
      show TX E (KY1 _) _
      exact tx_pick' [] (sub_cons rfl (sub_cons rfl (sub_cons rfl (sub_cons rfl (sub_cons rfl sub_nil))))) (by decide) pick_nil (ih1 (r29, (iadd .i64 x2 1)) () _ hp)
    · replace hp := (br_f h2).symm.trans hp
      refine cx_exit' ?_
      replace hp := Option.some.inj hp
      subst hp
      show TX E (Zg E (Exit.exit 0) _ (Exit.exit 0)) _
      exact tx_zend' () rfl [] (sub_cons rfl sub_nil) (by decide) pick_nil
  · refine zg_out fun w2 => ?_
    show TX E K4 _
    refine tx_k' hK4 ?_
    refine cx_seq' fun K11 hK11 => ?_
    refine cx_region' ?_
    refine sx_rd' (rd_move' rfl) rfl rfl (wt_none' rfl) ?_
    refine sx_rd' (rd_assign' rfl) rfl rfl (wt_none' rfl) ?_
    refine sx_nil' ?_
    show TX E K11 _
    refine tx_k' hK11 ?_
    refine cx_retc' ?_
    replace hp := Option.some.inj hp
    subst hp
    refine tx_pick' (L' := [(4, (Fl v2))]) (H' := []) [] (sub_cons rfl sub_nil) (by decide) pick_nil ?_
    exact tx_ret1' Try.results39 rfl () (rv_tmp' rfl) (List.Sublist.refl _)

def impl_KSquare (k : Nat) (a0 : List Nat) (a1 : List Nat) : Option (Nat × Bool) :=
  (kdtree_Point_Distance k a0 a1) >>= fun r10 =>
  some (r10, true)

theorem impl_KSquare_sim {k : Nat}  (a0 : List Nat) (a1 : List Nat) {out : Nat × Bool} (hp : impl_KSquare k a0 a1 = some out) : Go.Sx.Fn Try.prog 22 [(Sl Kf a0), (Sl Kf a1)] [] (fun w : Unit => (Tu [(Fl out.1), (Vl (.bool out.2))])) (fun w => []) := by
  unfold impl_KSquare at hp
  refine fnD_of Try.func22 rfl Try.ntmps22 rfl fun E hM => ?_
  refine cx_seq' fun K1 hK1 => ?_
  refine cx_region' ?_
  refine sx_ox' (ox_alloc' info34 rfl rfl rfl rfl (l := [(Vl (.float .f64 0))]) rfl) (wt_none' rfl) fun q4 => ?_
  refine sx_ox' (ox_alloc' info4 rfl rfl rfl rfl (l := [(Vl (.bool false))]) rfl) (wt_none' rfl) fun q5 => ?_
  refine sx_nil' ?_
  show TX E K1 _
  refine tx_k' hK1 ?_
  refine cx_seq' fun K2 hK2 => ?_
  refine cx_region' ?_
  refine sx_rd' (rd_mkfunc' (us := [.pointer (some q4), .pointer (some q5)]) rfl) rfl rfl (wt_none' rfl) ?_
  refine sx_ox' (ox_defer' rfl rfl) (wt_none' rfl) fun _ => ?_
  refine sx_nil' ?_
  show TX E K2 _
  refine tx_k' hK2 ?_
  refine cx_seq' fun K3 hK3 => ?_
  refine cx_region' ?_
  refine sx_rd' (rd_move' rfl) rfl rfl (wt_none' rfl) ?_
  refine sx_rd' (rd_move' rfl) rfl rfl (wt_none' rfl) ?_
  refine sx_rd' (rd_iface' rfl ⟨_, Try.underlying81, fun _ h => (nomatch h)⟩) rfl rfl (wt_none' rfl) ?_
  obtain ⟨r10, hr10, hp⟩ := bind_some hp
  refine sx_ox' (ox_calln' (ent_fn' Try.func39 isn39 rfl rfl) (kdtree_Point_Distance_sim _ _ hr10 : Go.Sx.Fn Try.prog 39 [(Sl Kf a0), (If 81 (Sl Kf a1))] [] (fun x : Unit => (Fl r10)) (fun x => [])) (Hn := fun x : Unit => [⟨.pointer (some q5), [(Vl (.bool false))], 4, none⟩, ⟨.pointer (some q4), [(Vl (.float .f64 0))], 34, none⟩]) (fun _ => rfl) rfl rfl) (wt_none' rfl) fun ⟨⟩ => ?_
  refine sx_ox' (ox_store' (i := 1) (o := 0) rfl rfl (lv_fl _) ⟨rfl, rfl, rfl, rfl⟩ rfl info34 rfl (H' := [⟨.pointer (some q5), [(Vl (.bool false))], 4, none⟩, ⟨.pointer (some q4), [(Fl r10)], 34, none⟩]) rfl) (wt_none' rfl) fun _ => ?_
  refine sx_ox' (ox_store' (i := 0) (o := 0) rfl rfl (lv_vl rfl rfl) ⟨rfl, rfl, rfl, rfl⟩ rfl info4 rfl (H' := [⟨.pointer (some q5), [(Vl (.bool true))], 4, none⟩, ⟨.pointer (some q4), [(Fl r10)], 34, none⟩]) rfl) (wt_none' rfl) fun _ => ?_
  refine sx_nil' ?_
  show TX E K3 _
  refine tx_k' hK3 ?_
  refine cx_retc' ?_
  replace hp := Option.some.inj hp
  subst hp
  refine tx_leave' (.inl rfl) rfl idle38 rfl Try.func38 isn38 rfl ?_
  refine tx_pick' (L' := [(4, (Vl (.pointer (some q4)))), (5, (Vl (.pointer (some q5))))]) (H' := [⟨.pointer (some q4), [(Fl r10)], 34, none⟩, ⟨.pointer (some q5), [(Vl (.bool true))], 4, none⟩]) [1, 0] (sub_cons rfl (sub_cons rfl sub_nil)) (by decide) (pick_cons rfl (pick_cons rfl pick_nil)) ?_
  exact tx_ret2' Try.results22 rfl () (rv_cell' (i := 0) (o := 0) rfl ⟨rfl, rfl, rfl, rfl⟩ rfl flat34) (rv_cell' (i := 1) (o := 0) rfl ⟨rfl, rfl, rfl, rfl⟩ rfl flat4) rfl (List.nil_sublist _)

def spec_SquareN_l1s (a0 : List Nat) (a1 : List Nat) (k : Nat) (rec1 : (Nat × Int) → Option (Nat)) (x1 : Nat) (x2 : Int) : Option (Nat) :=
  br (decide (x2 < (a0.length : Int)))
    ((idx a0 x2) >>= fun r13 =>
    (idx a1 x2) >>= fun r19 =>
    (fsub r13 r19) >>= fun r21 =>
    (idx a1 x2) >>= fun r25 =>
    (fsub r13 r25) >>= fun r27 =>
    (fmul r21 r27) >>= fun r28 =>
    (fadd x1 r28) >>= fun r29 =>
    rec1 (r29, (iadd .i64 x2 1)))
    (some x1)
def spec_SquareN_l1 (a0 : List Nat) (a1 : List Nat) : Nat → (Nat × Int) → Option (Nat)
  | 0, _ => none
  | k + 1, v => spec_SquareN_l1s a0 a1 k (spec_SquareN_l1 a0 a1 k) v.1 v.2
def spec_SquareN (k : Nat) (a0 : List Nat) (a1 : List Nat) : Option (Nat) :=
  (spec_SquareN_l1 a0 a1 k (0, 0)) >>= fun v2 =>
  some v2

theorem spec_SquareN_sim {k : Nat}  (a0 : List Nat) (a1 : List Nat) {out : Nat} (hp : spec_SquareN k a0 a1 = some out) : Go.Sx.Fn Try.prog 23 [(Sl Kf a0), (Sl Kf a1)] [] (fun w : Unit => (Vl (.float .f64 out))) (fun w => []) := by
  unfold spec_SquareN at hp
  refine fn_of Try.func23 rfl Try.ntmps23 rfl fun E hM => ?_
  refine cx_seq' fun K1 hK1 => ?_
  refine cx_region' ?_
  refine sx_rd' (rd_assign' rfl) rfl rfl (wt_none' rfl) ?_
  refine sx_nil' ?_
  show TX E K1 _
  refine tx_k' hK1 ?_
  refine cx_seq' fun K2 hK2 => ?_
  refine cx_region' ?_
  refine sx_rd' (rd_assign' rfl) rfl rfl (wt_none' rfl) ?_
  refine sx_nil' ?_
  show TX E K2 _
  refine tx_k' hK2 ?_
  refine cx_seq' fun K3 hK3 => ?_
  refine cx_seq' fun K4 hK4 => ?_
  refine cx_region' ?_
  refine sx_rd' (rd_move' rfl) rfl rfl (wt_none' rfl) ?_
  refine sx_rd' (rd_len' rfl Try.underlying22) rfl rfl (wt_none' rfl) ?_
  refine sx_rd' (rd_move' rfl) rfl rfl (wt_none' rfl) ?_
  refine sx_nil' ?_
  show TX E K4 _
  refine tx_k' hK4 ?_
  refine cx_block' ?_
  obtain ⟨v2, hy1, hp⟩ := bind_some hp
  refine cx_loopg' (F := spec_SquareN_l1 a0 a1) (G := fun k R v => spec_SquareN_l1s a0 a1 k R v.1 v.2) (x := (0, 0)) (gh := ()) (fun (v1 : Nat × Int) (w1 : Unit) => (⟨32, [], [(1, (Sl Kf a1)), (5, (Vl (.float .f64 v1.1))), (8, (Sl Kf a0)), (9, (Vl (.int .i64 (a0.length : Int)))), (10, (Vl (.int .i64 v1.2)))], []⟩ : St)) (fun (v2 : Nat) => Zg E (Exit.exit 0) (fun (w2 : Unit) => (⟨32, [], [(5, (Vl (.float .f64 v2)))], []⟩ : St))) (fun _ => rfl) (fun _ _ => rfl) ?_ hy1 (tx_to' rfl [] (sub_cons rfl (sub_cons rfl (sub_cons rfl (sub_cons rfl (sub_cons rfl sub_nil))))) (by decide) pick_nil) ?_
  · clear hp hy1
    clear v2
    intro k rec1 KY1 ih1
    rintro ⟨x1, x2⟩ ⟨⟩ y1 hp
    replace hp : spec_SquareN_l1s a0 a1 k rec1 x1 x2 = some y1 := hp
    unfold spec_SquareN_l1s at hp
    refine cx_seq' fun K5 hK5 => ?_
    refine cx_region' ?_
    refine sx_rd' (rd_bin' rfl rfl eg_int ru_lss) rfl rfl (wt_none' rfl) ?_
    refine sx_nil' ?_
    show TX E K5 _
    refine tx_k' hK5 ?_
    refine cx_seq' fun K6 hK6 => ?_
    refine cx_cond' rfl (fun h2 => ?_) (fun h2 => ?_)
    · replace hp := (br_t h2).symm.trans hp
      refine cx_skip' ?_
      show TX E K6 _
      refine tx_k' hK6 ?_
      refine cx_seq' fun K7 hK7 => ?_
      refine cx_block' ?_
      refine cx_seq' fun K8 hK8 => ?_
      refine cx_region' ?_
      refine sx_rd' (rd_move' rfl) rfl rfl (wt_none' rfl) ?_
      obtain ⟨r13, hr13, hp⟩ := bind_some hp
      refine sx_rd' (rd_at' (K := Kf) rfl rfl hr13 Try.underlying22 info34) rfl rfl (wt_none' rfl) ?_
      refine sx_rd' (rd_load_pt' rfl rfl flat34) rfl rfl (wt_none' rfl) ?_
      refine sx_rd' (rd_assign' rfl) rfl rfl (wt_none' rfl) ?_
      refine sx_rd' (rd_assign' rfl) rfl rfl (wt_none' rfl) ?_
      refine sx_nil' ?_
      show TX E K8 _
      refine tx_k' hK8 ?_
      refine cx_draw' mixed (by kernel_rfl) ?_
      refine qx_rd' (rd_move' rfl) rfl rfl (wt_none' rfl) ?_
      refine qx_rd' (rd_move' rfl) rfl rfl (wt_none' rfl) ?_
      refine qx_rd' (rd_move' rfl) rfl rfl (wt_none' rfl) ?_
      refine qx_rd' (rd_move' rfl) rfl rfl (wt_none' rfl) ?_
      obtain ⟨r19, hr19, hp⟩ := bind_some hp
      refine qx_rd' (rd_at' (K := Kf) rfl rfl hr19 Try.underlying22 info34) rfl rfl (wt_none' rfl) ?_
      refine qx_rd' (rd_load_pt' rfl rfl flat34) rfl rfl (wt_none' rfl) ?_
      obtain ⟨r21, hr21, hp⟩ := bind_some hp
      refine qx_rd' (rd_bin' rfl rfl eg_flt (ru_fsub hr21)) rfl rfl (wt_none' rfl) ?_
      refine qx_rd' (rd_move' rfl) rfl rfl (wt_none' rfl) ?_
      refine qx_rd' (rd_move' rfl) rfl rfl (wt_none' rfl) ?_
      refine qx_rd' (rd_move' rfl) rfl rfl (wt_none' rfl) ?_
      obtain ⟨r25, hr25, hp⟩ := bind_some hp
      refine qx_rd' (rd_at' (K := Kf) rfl rfl hr25 Try.underlying22 info34) rfl rfl (wt_none' rfl) ?_
      refine qx_rd' (rd_load_pt' rfl rfl flat34) rfl rfl (wt_none' rfl) ?_
      obtain ⟨r27, hr27, hp⟩ := bind_some hp
      refine qx_rd' (rd_bin' rfl rfl eg_flt (ru_fsub hr27)) rfl rfl (wt_none' rfl) ?_
      obtain ⟨r28, hr28, hp⟩ := bind_some hp
      refine qx_rd' (rd_bin' rfl rfl eg_flt (ru_fmul hr28)) rfl rfl (wt_none' rfl) ?_
      obtain ⟨r29, hr29, hp⟩ := bind_some hp
      refine qx_rd' (rd_bin' rfl rfl eg_flt (ru_fadd hr29)) rfl rfl (wt_none' rfl) ?_
      refine qx_rd' (rd_assign' rfl) rfl rfl (wt_none' rfl) ?_
      refine qx_nil' ?_
      show TX E K7 _
      refine tx_k' hK7 ?_
      refine cx_region' ?_
      refine sx_rd' (rd_bin' rfl rfl eg_int ru_add) rfl rfl (wt_none' rfl) ?_
      refine sx_rd' (rd_move' rfl) rfl rfl (wt_none' rfl) ?_
      refine sx_nil' ?_
      show TX E (KY1 _) _
      exact tx_pick' [] (sub_cons rfl (sub_cons rfl (sub_cons rfl (sub_cons rfl (sub_cons rfl sub_nil))))) (by decide) pick_nil (ih1 (r29, (iadd .i64 x2 1)) () _ hp)
    · replace hp := (br_f h2).symm.trans hp
      refine cx_exit' ?_
      replace hp := Option.some.inj hp
      subst hp
      show TX E (Zg E (Exit.exit 0) _ (Exit.exit 0)) _
      exact tx_zend' () rfl [] (sub_cons rfl sub_nil) (by decide) pick_nil
  · refine zg_out fun w2 => ?_
    show TX E K3 _
    refine tx_k' hK3 ?_
    refine cx_seq' fun K9 hK9 => ?_
    refine cx_region' ?_
    refine sx_rd' (rd_move' rfl) rfl rfl (wt_none' rfl) ?_
    refine sx_rd' (rd_assign' rfl) rfl rfl (wt_none' rfl) ?_
    refine sx_nil' ?_
    show TX E K9 _
    refine tx_k' hK9 ?_
    refine cx_retc' ?_
    replace hp := Option.some.inj hp
    subst hp
    refine tx_pick' (L' := [(4, (Vl (.float .f64 v2)))]) (H' := []) [] (sub_cons rfl sub_nil) (by decide) pick_nil ?_
    exact tx_ret1' Try.results23 rfl () (rv_tmp' rfl) (List.Sublist.refl _)

def laws_FnKSquare_j2 (k : Nat) (x2 : Bool) : Option (Bool) :=
  some x2
def laws_FnKSquare_j1 (k : Nat) (a0 : List Nat) (a1 : List Nat) (x1 : Bool) : Option (Bool) :=
  br x1
    (some true)
    ((laws_some k ([a0]) a1) >>= fun r18 =>
    br (!r18)
      (some true)
      ((impl_KSquare k a0 a1) >>= fun r23 =>
      br r23.2
        ((spec_SquareN k a0 a1) >>= fun r31 =>
        laws_FnKSquare_j2 k (feq r23.1 r31))
        (laws_FnKSquare_j2 k false)))
def laws_FnKSquare (k : Nat) (a0 : List Nat) (a1 : List Nat) : Option (Bool) :=
  br (decide (2147483647 < (a0.length : Int)))
    (laws_FnKSquare_j1 k a0 a1 true)
    (laws_FnKSquare_j1 k a0 a1 (decide (2147483647 < (a1.length : Int))))

theorem laws_FnKSquare_sim {k : Nat}  (a0 : List Nat) (a1 : List Nat) {out : Bool} (hp : laws_FnKSquare k a0 a1 = some out) : Go.Sx.Fn Try.prog 7 [(Sl Kf a0), (Sl Kf a1)] [] (fun w : Unit => (Vl (.bool out))) (fun w => []) := by
  unfold laws_FnKSquare at hp
  refine fn_of Try.func7 rfl Try.ntmps7 rfl fun E hM => ?_
  refine cx_seq' fun K1 hK1 => ?_
  refine cx_region' ?_
  refine sx_rd' (rd_assign' rfl) rfl rfl (wt_none' rfl) ?_
  refine sx_nil' ?_
  show TX E K1 _
  refine tx_k' hK1 ?_
  refine cx_seq' fun K2 hK2 => ?_
  refine cx_seq' fun K3 hK3 => ?_
  refine cx_region' ?_
  refine sx_rd' (rd_move' rfl) rfl rfl (wt_none' rfl) ?_
  refine sx_rd' (rd_len' rfl Try.underlying22) rfl rfl (wt_none' rfl) ?_
  refine sx_rd' (rd_bin' rfl rfl eg_int ru_gtr) rfl rfl (wt_none' rfl) ?_
  refine sx_rd' (rd_move' rfl) rfl rfl (wt_none' rfl) ?_
  refine sx_cutn' 4 (fun (v1 : Bool) => (⟨34, [], [(0, (Sl Kf a0)), (1, (Sl Kf a1)), (14, (Vl (.bool v1)))], []⟩ : St)) (fun (v1 : Bool) => laws_FnKSquare_j1 k a0 a1 v1 = some out) ?_ ?_
  · rintro x1 hp
    replace hp : laws_FnKSquare_j1 k a0 a1 x1 = some out := hp
    unfold laws_FnKSquare_j1 at hp
    refine sx_nil' ?_
    show TX E K3 _
    refine tx_k' hK3 ?_
    refine cx_cond' rfl (fun h2 => ?_) (fun h2 => ?_)
    · replace hp := (br_t h2).symm.trans hp
      refine cx_seq' fun K5 hK5 => ?_
      refine cx_region' ?_
      refine sx_rd' (rd_assign' rfl) rfl rfl (wt_none' rfl) ?_
      refine sx_nil' ?_
      show TX E K5 _
      refine tx_k' hK5 ?_
      refine cx_retc' ?_
      replace hp := Option.some.inj hp
      subst hp
      refine tx_pick' (L' := [(4, (Vl (.bool true)))]) (H' := []) [] (sub_cons rfl sub_nil) (by decide) pick_nil ?_
      exact tx_ret1' Try.results7 rfl () (rv_tmp' rfl) (List.Sublist.refl _)
    · replace hp := (br_f h2).symm.trans hp
      refine cx_skip' ?_
      show TX E K2 _
      refine tx_k' hK2 ?_
      refine cx_seq' fun K6 hK6 => ?_
      refine cx_seq' fun K7 hK7 => ?_
      refine cx_region' ?_
      refine sx_rd' (rd_move' rfl) rfl rfl (wt_none' rfl) ?_
      refine sx_ox' (ox_rowlit' (K := (Kl Kf)) (xs := [a0]) (qs := [(0, [(Sl Kf a0)])]) ⟨rfl, ⟨_, rfl, (lv_sl _ _)⟩, trivial⟩ Try.underlying52 info22 rfl rfl rfl rfl rfl rfl rfl rfl rfl) (wt_none' rfl) fun g16 => ?_
      refine sx_rd' (rd_move' rfl) rfl rfl (wt_none' rfl) ?_
      obtain ⟨r18, hr18, hp⟩ := bind_some hp
      refine sx_ox' (ox_brw' (frz_row 0 [16] (K := (Kl Kf)) (xs := [a0]) (by decide) rfl ⟨rfl, trivial⟩ (H' := []) frzH_refl) (ent_fn' Try.func21 isn21 rfl rfl) (laws_some_sim _ _ hr18 : Go.Sx.Fn Try.prog 21 [(Sl (Kl Kf) ([a0])), (Sl Kf a1)] [] (fun x : Unit => (Vl (.bool r18))) (fun x => [])) pu_vl rfl rfl) (wt_none' rfl) fun ⟨⟩ => ?_
      refine sx_rd' (rd_un' rfl ru_not) rfl rfl (wt_none' rfl) ?_
      refine sx_nil' ?_
      show TX E K7 _
      refine tx_k' hK7 ?_
      refine cx_cond' rfl (fun h3 => ?_) (fun h3 => ?_)
      · replace hp := (br_t h3).symm.trans hp
        refine cx_seq' fun K8 hK8 => ?_
        refine cx_region' ?_
        refine sx_rd' (rd_assign' rfl) rfl rfl (wt_none' rfl) ?_
        refine sx_nil' ?_
        show TX E K8 _
        refine tx_k' hK8 ?_
        refine cx_retc' ?_
        replace hp := Option.some.inj hp
        subst hp
        refine tx_pick' (L' := [(4, (Vl (.bool true)))]) (H' := []) [] (sub_cons rfl sub_nil) (by decide) pick_nil ?_
        exact tx_ret1' Try.results7 rfl () (rv_tmp' rfl) (List.Sublist.refl _)
      · replace hp := (br_f h3).symm.trans hp
        refine cx_skip' ?_
        show TX E K6 _
        refine tx_k' hK6 ?_
        refine cx_seq' fun K9 hK9 => ?_
        refine cx_region' ?_
        refine sx_rd' (rd_move' rfl) rfl rfl (wt_none' rfl) ?_
        refine sx_rd' (rd_move' rfl) rfl rfl (wt_none' rfl) ?_
        obtain ⟨r23, hr23, hp⟩ := bind_some hp
        refine sx_ox' (ox_calln' (ent_fn' Try.func22 isn22 rfl rfl) (impl_KSquare_sim _ _ hr23 : Go.Sx.Fn Try.prog 22 [(Sl Kf a0), (Sl Kf a1)] [] (fun x : Unit => (Tu [(Fl r23.1), (Vl (.bool r23.2))])) (fun x => [])) (Hn := fun x : Unit => [(Rw (Kl Kf) 22 (Vs g16) ([a0]))]) (fun _ => rfl) rfl rfl) (wt_none' rfl) fun ⟨⟩ => ?_
        refine sx_rd' (rd_move' rfl) rfl rfl (wt_none' rfl) ?_
        refine sx_rd' (rd_extract' rfl rfl) rfl rfl (wt_none' rfl) ?_
        refine sx_rd' (rd_extract' rfl rfl) rfl rfl (wt_none' rfl) ?_
        refine sx_rd' (rd_assign' rfl) rfl rfl (wt_none' rfl) ?_
        refine sx_rd' (rd_assign' rfl) rfl rfl (wt_none' rfl) ?_
        refine sx_nil' ?_
        show TX E K9 _
        refine tx_k' hK9 ?_
        refine cx_seq' fun K10 hK10 => ?_
        refine cx_region' ?_
        refine sx_rd' (rd_move' rfl) rfl rfl (wt_none' rfl) ?_
        refine sx_rd' (rd_move' rfl) rfl rfl (wt_none' rfl) ?_
        refine sx_cutn' 6 (fun (v2 : Bool) => (⟨34, [], [(33, (Vl (.bool v2)))], []⟩ : St)) (fun (v2 : Bool) => laws_FnKSquare_j2 k v2 = some out) ?_ ?_
        · rintro x2 hp
          replace hp : laws_FnKSquare_j2 k x2 = some out := hp
          unfold laws_FnKSquare_j2 at hp
          refine sx_rd' (rd_assign' rfl) rfl rfl (wt_none' rfl) ?_
          refine sx_nil' ?_
          show TX E K10 _
          refine tx_k' hK10 ?_
          refine cx_retc' ?_
          replace hp := Option.some.inj hp
          subst hp
          refine tx_pick' (L' := [(4, (Vl (.bool x2)))]) (H' := []) [] (sub_cons rfl sub_nil) (by decide) pick_nil ?_
          exact tx_ret1' Try.results7 rfl () (rv_tmp' rfl) (List.Sublist.refl _)
        · intro K11 hK11
          rcases br_cases hp with ⟨h4, hp⟩ | ⟨h4, hp⟩
          · refine sx_rd' (rd_move' rfl) rfl rfl (wt_is' (wt_guard' rfl rfl rfl) (beq_tt h4)) ?_
            refine sx_rd' (rd_move' rfl) rfl rfl (wt_is' (wt_guard' rfl rfl rfl) (beq_tt h4)) ?_
            refine sx_rd' (rd_move' rfl) rfl rfl (wt_is' (wt_guard' rfl rfl rfl) (beq_tt h4)) ?_
            obtain ⟨r31, hr31, hp⟩ := bind_some hp
            refine sx_ox' (ox_calln' (ent_fn' Try.func23 isn23 rfl rfl) (spec_SquareN_sim _ _ hr31 : Go.Sx.Fn Try.prog 23 [(Sl Kf a0), (Sl Kf a1)] [] (fun x : Unit => (Vl (.float .f64 r31))) (fun x => [])) (Hn := fun x : Unit => [(Rw (Kl Kf) 22 (Vs g16) ([a0]))]) (fun _ => rfl) rfl rfl) (wt_is' (wt_guard' rfl rfl rfl) (beq_tt h4)) fun ⟨⟩ => ?_
            refine sx_rd' (rd_fcmp' (fl_f rfl) (fl_v rfl) rfl) rfl rfl (wt_is' (wt_guard' rfl rfl rfl) (beq_tt h4)) ?_
            refine sx_rd' (rd_pick_true' rfl h4 rfl) rfl rfl (wt_none' rfl) ?_
            refine sx_nil' ?_
            show TX E K11 _
            exact tx_pick' [] (sub_cons rfl sub_nil) (by decide) pick_nil (hK11 (feq r23.1 r31) hp)
          · refine sx_skip' rfl rfl (wt_is' (wt_guard' rfl rfl rfl) (beq_ft h4)) ?_
            refine sx_skip' rfl rfl (wt_is' (wt_guard' rfl rfl rfl) (beq_ft h4)) ?_
            refine sx_skip' rfl rfl (wt_is' (wt_guard' rfl rfl rfl) (beq_ft h4)) ?_
            refine sx_skip' rfl rfl (wt_is' (wt_guard' rfl rfl rfl) (beq_ft h4)) ?_
            refine sx_skip' rfl rfl (wt_is' (wt_guard' rfl rfl rfl) (beq_ft h4)) ?_
            refine sx_rd' (rd_pick_false' rfl h4 rfl) rfl rfl (wt_none' rfl) ?_
            refine sx_nil' ?_
            show TX E K11 _
            exact tx_pick' [] (sub_cons rfl sub_nil) (by decide) pick_nil (hK11 false hp)
  · intro K4 hK4
    rcases br_cases hp with ⟨h1, hp⟩ | ⟨h1, hp⟩
    · refine sx_skip' rfl rfl (wt_is' (wt_guard' rfl rfl rfl) (beq_tf h1)) ?_
      refine sx_skip' rfl rfl (wt_is' (wt_guard' rfl rfl rfl) (beq_tf h1)) ?_
      refine sx_skip' rfl rfl (wt_is' (wt_guard' rfl rfl rfl) (beq_tf h1)) ?_
      refine sx_rd' (rd_pick_true' rfl h1 rfl) rfl rfl (wt_none' rfl) ?_
      refine sx_nil' ?_
      show TX E K4 _
      exact tx_pick' [] (sub_cons rfl (sub_cons rfl (sub_cons rfl sub_nil))) (by decide) pick_nil (hK4 true hp)
    · refine sx_rd' (rd_move' rfl) rfl rfl (wt_is' (wt_guard' rfl rfl rfl) (beq_ff h1)) ?_
      refine sx_rd' (rd_len' rfl Try.underlying22) rfl rfl (wt_is' (wt_guard' rfl rfl rfl) (beq_ff h1)) ?_
      refine sx_rd' (rd_bin' rfl rfl eg_int ru_gtr) rfl rfl (wt_is' (wt_guard' rfl rfl rfl) (beq_ff h1)) ?_
      refine sx_rd' (rd_pick_false' rfl h1 rfl) rfl rfl (wt_none' rfl) ?_
      refine sx_nil' ?_
      show TX E K4 _
      exact tx_pick' [] (sub_cons rfl (sub_cons rfl (sub_cons rfl sub_nil))) (by decide) pick_nil (hK4 (decide (2147483647 < (a1.length : Int))) hp)

end Go.Proofs.Ytmjhjnnlhjfbcaa
