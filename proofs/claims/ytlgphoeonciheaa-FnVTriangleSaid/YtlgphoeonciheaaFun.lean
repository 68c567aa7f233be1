/-
  Plain functions for the Go functions that this law reaches, and that each call does what its plain function says. Printed by a program of ours.
-/
import Derived.Test.YtlgphoeonciheaaProg
import Derived.Test.YtlgphoeonciheaaSxZ
namespace Go.Proofs.Ytlgphoeonciheaa
open Go.Sx
set_option linter.unusedVariables false
set_option maxRecDepth 100000

theorem isn13 : (Try.f13.name == "runtime.NumGoroutine") = false := by kernel_rfl
theorem isn39 : (Try.f39.name == "runtime.NumGoroutine") = false := by kernel_rfl
theorem info25 : (Try.prog.info? 25).map (fun i => (i.zero, i.size, i.bytes)) = some (some (.slice none 0 0), 1, 24) := by kernel_rfl
theorem flat25 : Flat Try.prog 25 := ⟨_, Try.underlying25, fun _ h => (nomatch h), fun _ _ h => (nomatch h)⟩
theorem info33 : (Try.prog.info? 33).map (fun i => (i.zero, i.size, i.bytes)) = some (some (.float .f64 0), 1, 8) := by kernel_rfl
theorem flat33 : Flat Try.prog 33 := ⟨_, Try.underlying33, fun _ h => (nomatch h), fun _ _ h => (nomatch h)⟩
theorem isn66 : (Try.f66.name == "runtime.NumGoroutine") = false := by kernel_rfl
theorem extf82 : ∀ {x r : Nat}, gint .zero x = r → ∀ y, (y = x ∨ (isn x = true ∧ isn y = true)) → RunsF Try.prog (callFunc 82 #[.float .f64 y]) (Fl r) := fun hz y hy => hz ▸ runs_ext (e := Extern.MathFloor.toIntegral "math.archTrunc" .zero) Try.func82 (by kernel_rfl) (by kernel_rfl) (by kernel_rfl) (by kernel_rfl) (gint_runs hy)
theorem isn14 : (Try.f14.name == "runtime.NumGoroutine") = false := by kernel_rfl
theorem isn41 : (Try.f41.name == "runtime.NumGoroutine") = false := by kernel_rfl
theorem as70_68_70 : ∀ v w, (Instr.typeAssert (.iface 70 v) 68 70 false).run Try.prog w = .ok (v) w := fun _ _ => by kernel_rfl
theorem isn67 : (Try.f67.name == "runtime.NumGoroutine") = false := by kernel_rfl
theorem extf84 : ∀ {x r : Nat}, gsqrt x = r → ∀ y, (y = x ∨ (isn x = true ∧ isn y = true)) → RunsF Try.prog (callFunc 84 #[.float .f64 y]) (Fl r) := fun hz y hy => hz ▸ runs_ext (e := Extern.MathSqrt.sqrt) Try.func84 (by kernel_rfl) (by kernel_rfl) (by kernel_rfl) (by kernel_rfl) (gsqrt_runs hy)
theorem idle40 : Idle Try.prog 40 2 := fun vs w hv => by
  obtain ⟨v0, v1, rfl⟩ : ∃ v0 v1, vs = [v0, v1] := by
    obtain _ | ⟨v0, vs⟩ := vs
    · simp at hv
    obtain _ | ⟨v1, vs⟩ := vs
    · simp at hv
    obtain _ | ⟨u, vs⟩ := vs
    · exact ⟨v0, v1, rfl⟩
    · simp at hv
  refine callsD_of_wpS Try.func40 rfl fun c₀ cs hu => ?_
  apply wpS_seq
  apply wpS_region
  simp [wpOpsS, go_sem, recoverD, hu, Try.ntmps40, Exit.thenS]
  refine wpS_cond (t := false) (by simp [Act.eval, Array.replicate]) ?_
  simp only [Bool.false_eq_true, if_false]
  refine wpS_of_wp (wp_skip ?_)
  cases c₀
  simp_all [bodyPostS, results, Try.results40]
theorem isn40 : (Try.f40.name == "runtime.NumGoroutine") = false := by kernel_rfl
theorem info4 : (Try.prog.info? 4).map (fun i => (i.zero, i.size, i.bytes)) = some (some (.bool false), 1, 1) := by kernel_rfl
theorem flat4 : Flat Try.prog 4 := ⟨_, Try.underlying4, fun _ h => (nomatch h), fun _ _ h => (nomatch h)⟩


def math_Trunc (k : Nat) (a0 : Nat) : Option (Nat) :=
  (some (gint .zero a0)) >>= fun r4 =>
  some r4

theorem math_Trunc_sim {k : Nat}  (a0 : Nat) {out : Nat} (hp : math_Trunc k a0 = some out) : Go.Sx.Fn Try.prog 66 [(Vl (.float .f64 a0))] [] (fun w : Unit => (Fl out)) (fun w => []) := by
  unfold math_Trunc at hp
  refine fn_of Try.func66 rfl Try.ntmps66 rfl fun E hM => ?_
  refine cx_seq' fun K1 hK1 => ?_
  refine cx_region' ?_
  refine sx_rd' (rd_assign' rfl) rfl rfl (wt_none' rfl) ?_
  refine sx_nil' ?_
  show TX E K1 _
  refine tx_k' hK1 ?_
  refine cx_seq' fun K2 hK2 => ?_
  refine cx_cond_t' rfl rfl ?_
  refine cx_seq' fun K3 hK3 => ?_
  refine cx_region' ?_
  refine sx_rd' (rd_move' rfl) rfl rfl (wt_none' rfl) ?_
  obtain ⟨r4, hr4, hp⟩ := bind_some hp
  refine sx_ox' (ox_extf' rfl (fl_v rfl) Try.func82 (extf82 (Option.some.inj hr4)) rfl rfl) (wt_none' rfl) fun _ => ?_
  refine sx_rd' (rd_assign' rfl) rfl rfl (wt_none' rfl) ?_
  refine sx_nil' ?_
  show TX E K3 _
  refine tx_k' hK3 ?_
  refine cx_retc' ?_
  replace hp := Option.some.inj hp
  subst hp
  refine tx_pick' (L' := [(2, (Fl r4))]) (H' := []) [] (sub_cons rfl sub_nil) (by decide) pick_nil ?_
  exact tx_ret1' Try.results66 rfl () (rv_tmp' rfl) (List.Sublist.refl _)

def spec_Grid_j8 (k : Nat) (rec2 : Int → Option (Unit ⊕ Unit)) (x10 : Int) (x9 : Bool) : Option (Unit ⊕ Unit) :=
  br x9
    (some (.inl ()))
    (rec2 (iadd .i64 x10 1))
def spec_Grid_j7 (k : Nat) (rec2 : Int → Option (Unit ⊕ Unit)) (x10 : Int) (r25 : Nat) (x8 : Bool) : Option (Unit ⊕ Unit) :=
  br (!x8)
    (spec_Grid_j8 k rec2 x10 true)
    ((math_Trunc k r25) >>= fun r40 =>
    spec_Grid_j8 k rec2 x10 (fne r25 r40))
def spec_Grid_l2s (r15 : List Nat) (a2 : Nat) (k : Nat) (rec2 : Int → Option (Unit ⊕ Unit)) (x10 : Int) : Option (Unit ⊕ Unit) :=
  br (decide (x10 < (r15.length : Int)))
    ((idx r15 x10) >>= fun r25 =>
    br (fge r25 (fneg a2))
      (spec_Grid_j7 k rec2 x10 r25 (fle r25 a2))
      (spec_Grid_j7 k rec2 x10 r25 false))
    (some (.inr ()))
def spec_Grid_l2 (r15 : List Nat) (a2 : Nat) : Nat → Int → Option (Unit ⊕ Unit)
  | 0, _ => none
  | k + 1, v => spec_Grid_l2s r15 a2 k (spec_Grid_l2 r15 a2 k) v
def spec_Grid_l3s (a0 : List (List Nat)) (a1 : Int) (a2 : Nat) (k : Nat) (rec3 : Int → Option (Unit ⊕ Unit)) (x11 : Int) : Option (Unit ⊕ Unit) :=
  br (decide (x11 < (a0.length : Int)))
    ((idx a0 x11) >>= fun r15 =>
    br (!decide ((r15.length : Int) = a1))
      (some (.inl ()))
      ((spec_Grid_l2 r15 a2 k 0) >>= fun y2 => match y2 with
        | (.inl v14) =>
          (some (.inl ()))
        | (.inr v15) =>
          (rec3 (iadd .i64 x11 1))))
    (some (.inr ()))
def spec_Grid_l3 (a0 : List (List Nat)) (a1 : Int) (a2 : Nat) : Nat → Int → Option (Unit ⊕ Unit)
  | 0, _ => none
  | k + 1, v => spec_Grid_l3s a0 a1 a2 k (spec_Grid_l3 a0 a1 a2 k) v
def spec_Grid (k : Nat) (a0 : List (List Nat)) (a1 : Int) (a2 : Nat) : Option (Bool) :=
  (spec_Grid_l3 a0 a1 a2 k 0) >>= fun y3 => match y3 with
    | (.inl v16) =>
      (some false)
    | (.inr v17) =>
      (some (decide (0 < a1)))

theorem spec_Grid_sim {k : Nat}  (a0 : List (List Nat)) (a1 : Int) (a2 : Nat) {out : Bool} (hp : spec_Grid k a0 a1 a2 = some out) : Go.Sx.Fn Try.prog 39 [(Sl (Kl Kf) a0), (Vl (.int .i64 a1)), (Vl (.float .f64 a2))] [] (fun w : Unit => (Vl (.bool out))) (fun w => []) := by
  unfold spec_Grid at hp
  refine fn_of Try.func39 rfl Try.ntmps39 rfl fun E hM => ?_
  refine cx_seq' fun K1 hK1 => ?_
  refine cx_region' ?_
  refine sx_rd' (rd_assign' rfl) rfl rfl (wt_none' rfl) ?_
  refine sx_nil' ?_
  show TX E K1 _
  refine tx_k' hK1 ?_
  refine cx_seq' fun K2 hK2 => ?_
  refine cx_seq' fun K3 hK3 => ?_
  refine cx_region' ?_
  refine sx_rd' (rd_move' rfl) rfl rfl (wt_none' rfl) ?_
  refine sx_rd' (rd_len' rfl Try.underlying26) rfl rfl (wt_none' rfl) ?_
  refine sx_rd' (rd_move' rfl) rfl rfl (wt_none' rfl) ?_
  refine sx_nil' ?_
  show TX E K3 _
  refine tx_k' hK3 ?_
  refine cx_block' ?_
  obtain ⟨y3, hy3, hp⟩ := bind_some hp
  refine cx_loopg' (F := spec_Grid_l3 a0 a1 a2) (G := fun k R v => spec_Grid_l3s a0 a1 a2 k R v) (x := 0) (gh := ()) (fun (v8 : Int) (w8 : Unit) => (⟨47, [], [(1, (Vl (.int .i64 a1))), (2, (Vl (.float .f64 a2))), (11, (Sl (Kl Kf) a0)), (12, (Vl (.int .i64 (a0.length : Int)))), (13, (Vl (.int .i64 v8)))], []⟩ : St)) (fun (y : Unit ⊕ Unit) => match y with | (.inl v16) => Zg E Exit.ret (fun (w16 : Unit) => (⟨47, [], [(6, (Vl (.bool false)))], []⟩ : St)) | (.inr v17) => Zg E (Exit.exit 0) (fun (w17 : Unit) => (⟨47, [], [(1, (Vl (.int .i64 a1)))], []⟩ : St))) (fun _ => rfl) (fun _ _ => rfl) ?_ hy3 (tx_to' rfl [] (sub_cons rfl (sub_cons rfl (sub_cons rfl (sub_cons rfl (sub_cons rfl sub_nil))))) (by decide) pick_nil) ?_
  · clear hp hy3
    clear y3
    intro k rec3 KY3 ih3
    rintro x11 ⟨⟩ y3 hp
    replace hp : spec_Grid_l3s a0 a1 a2 k rec3 x11 = some y3 := hp
    unfold spec_Grid_l3s at hp
    refine cx_seq' fun K28 hK28 => ?_
    refine cx_region' ?_
    refine sx_rd' (rd_bin' rfl rfl eg_int ru_lss) rfl rfl (wt_none' rfl) ?_
    refine sx_nil' ?_
    show TX E K28 _
    refine tx_k' hK28 ?_
    refine cx_seq' fun K29 hK29 => ?_
    refine cx_cond' rfl (fun h13 => ?_) (fun h13 => ?_)
    · replace hp := (br_t h13).symm.trans hp
      refine cx_skip' ?_
      show TX E K29 _
      refine tx_k' hK29 ?_
      refine cx_seq' fun K30 hK30 => ?_
      refine cx_block' ?_
      refine cx_seq' fun K31 hK31 => ?_
      refine cx_region' ?_
      obtain ⟨r15, hr15, hp⟩ := bind_some hp
      refine sx_rd' (rd_at' (K := (Kl Kf)) rfl rfl hr15 Try.underlying26 info25) rfl rfl (wt_none' rfl) ?_
      refine sx_rd' (rd_load_pt' rfl rfl flat25) rfl rfl (wt_none' rfl) ?_
      refine sx_rd' (rd_assign' rfl) rfl rfl (wt_none' rfl) ?_
      refine sx_nil' ?_
      show TX E K31 _
      refine tx_k' hK31 ?_
      refine cx_seq' fun K32 hK32 => ?_
      refine cx_seq' fun K33 hK33 => ?_
      refine cx_region' ?_
      refine sx_rd' (rd_move' rfl) rfl rfl (wt_none' rfl) ?_
      refine sx_rd' (rd_len' rfl Try.underlying25) rfl rfl (wt_none' rfl) ?_
      refine sx_rd' (rd_move' rfl) rfl rfl (wt_none' rfl) ?_
      refine sx_rd' (rd_bin' rfl rfl eg_int ru_neq) rfl rfl (wt_none' rfl) ?_
      refine sx_nil' ?_
      show TX E K33 _
      refine tx_k' hK33 ?_
      refine cx_cond' rfl (fun h14 => ?_) (fun h14 => ?_)
      · replace hp := (br_t h14).symm.trans hp
        refine cx_seq' fun K34 hK34 => ?_
        refine cx_region' ?_
        refine sx_rd' (rd_assign' rfl) rfl rfl (wt_none' rfl) ?_
        refine sx_nil' ?_
        show TX E K34 _
        refine tx_k' hK34 ?_
        refine cx_retc' ?_
        replace hp := Option.some.inj hp
        subst hp
        show TX E (Zg E Exit.ret _ Exit.ret) _
        exact tx_zend' () rfl [] (sub_cons rfl sub_nil) (by decide) pick_nil
      · replace hp := (br_f h14).symm.trans hp
        refine cx_skip' ?_
        show TX E K32 _
        refine tx_k' hK32 ?_
        refine cx_seq' fun K35 hK35 => ?_
        refine cx_region' ?_
        refine sx_rd' (rd_move' rfl) rfl rfl (wt_none' rfl) ?_
        refine sx_rd' (rd_len' rfl Try.underlying25) rfl rfl (wt_none' rfl) ?_
        refine sx_rd' (rd_move' rfl) rfl rfl (wt_none' rfl) ?_
        refine sx_nil' ?_
        show TX E K35 _
        refine tx_k' hK35 ?_
        refine cx_block' ?_
        obtain ⟨y2, hy2, hp⟩ := bind_some hp
        refine cx_loopg' (F := spec_Grid_l2 r15 a2) (G := fun k R v => spec_Grid_l2s r15 a2 k R v) (x := 0) (gh := ()) (fun (v11 : Int) (w11 : Unit) => (⟨47, [], [(1, (Vl (.int .i64 a1))), (2, (Vl (.float .f64 a2))), (11, (Sl (Kl Kf) a0)), (12, (Vl (.int .i64 (a0.length : Int)))), (13, (Vl (.int .i64 x11))), (21, (Sl Kf r15)), (22, (Vl (.int .i64 (r15.length : Int)))), (23, (Vl (.int .i64 v11)))], []⟩ : St)) (fun (y : Unit ⊕ Unit) => match y with | (.inl v14) => Zg E Exit.ret (fun (w14 : Unit) => (⟨47, [], [(6, (Vl (.bool false)))], []⟩ : St)) | (.inr v15) => Zg E (Exit.exit 2) (fun (w15 : Unit) => (⟨47, [], [(1, (Vl (.int .i64 a1))), (2, (Vl (.float .f64 a2))), (11, (Sl (Kl Kf) a0)), (12, (Vl (.int .i64 (a0.length : Int)))), (13, (Vl (.int .i64 x11)))], []⟩ : St))) (fun _ => rfl) (fun _ _ => rfl) ?_ hy2 (tx_to' rfl [] (sub_cons rfl (sub_cons rfl (sub_cons rfl (sub_cons rfl (sub_cons rfl (sub_cons rfl (sub_cons rfl (sub_cons rfl sub_nil)))))))) (by decide) pick_nil) ?_
        · clear hp hy2
          clear y2
          intro k rec2 KY2 ih2
          rintro x10 ⟨⟩ y2 hp
          replace hp : spec_Grid_l2s r15 a2 k rec2 x10 = some y2 := hp
          unfold spec_Grid_l2s at hp
          refine cx_seq' fun K44 hK44 => ?_
          refine cx_region' ?_
          refine sx_rd' (rd_bin' rfl rfl eg_int ru_lss) rfl rfl (wt_none' rfl) ?_
          refine sx_nil' ?_
          show TX E K44 _
          refine tx_k' hK44 ?_
          refine cx_seq' fun K45 hK45 => ?_
          refine cx_cond' rfl (fun h20 => ?_) (fun h20 => ?_)
          · replace hp := (br_t h20).symm.trans hp
            refine cx_skip' ?_
            show TX E K45 _
            refine tx_k' hK45 ?_
            refine cx_seq' fun K46 hK46 => ?_
            refine cx_block' ?_
            refine cx_seq' fun K47 hK47 => ?_
            refine cx_region' ?_
            obtain ⟨r25, hr25, hp⟩ := bind_some hp
            refine sx_rd' (rd_at' (K := Kf) rfl rfl hr25 Try.underlying25 info33) rfl rfl (wt_none' rfl) ?_
            refine sx_rd' (rd_load_pt' rfl rfl flat33) rfl rfl (wt_none' rfl) ?_
            refine sx_rd' (rd_assign' rfl) rfl rfl (wt_none' rfl) ?_
            refine sx_nil' ?_
            show TX E K47 _
            refine tx_k' hK47 ?_
            refine cx_seq' fun K48 hK48 => ?_
            refine cx_region' ?_
            refine sx_rd' (rd_move' rfl) rfl rfl (wt_none' rfl) ?_
            refine sx_rd' (rd_move' rfl) rfl rfl (wt_none' rfl) ?_
            refine sx_rd' (rd_un' rfl ru_fneg) rfl rfl (wt_none' rfl) ?_
            refine sx_rd' (rd_bin' rfl rfl eg_flt ru_fge) rfl rfl (wt_none' rfl) ?_
            refine sx_rd' (rd_move' rfl) rfl rfl (wt_none' rfl) ?_
            refine sx_cutn' 4 (fun (v12 : Bool) => (⟨47, [], [(1, (Vl (.int .i64 a1))), (2, (Vl (.float .f64 a2))), (10, (Vl (.float .f64 r25))), (11, (Sl (Kl Kf) a0)), (12, (Vl (.int .i64 (a0.length : Int)))), (13, (Vl (.int .i64 x11))), (21, (Sl Kf r15)), (22, (Vl (.int .i64 (r15.length : Int)))), (23, (Vl (.int .i64 x10))), (35, (Vl (.bool v12)))], []⟩ : St)) (fun (v12 : Bool) => spec_Grid_j7 k rec2 x10 r25 v12 = some y2) ?_ ?_
            · rintro x8 hp
              replace hp : spec_Grid_j7 k rec2 x10 r25 x8 = some y2 := hp
              unfold spec_Grid_j7 at hp
              refine sx_rd' (rd_un' rfl ru_not) rfl rfl (wt_none' rfl) ?_
              refine sx_rd' (rd_move' rfl) rfl rfl (wt_none' rfl) ?_
              refine sx_cutn' 5 (fun (v13 : Bool) => (⟨47, [], [(1, (Vl (.int .i64 a1))), (2, (Vl (.float .f64 a2))), (11, (Sl (Kl Kf) a0)), (12, (Vl (.int .i64 (a0.length : Int)))), (13, (Vl (.int .i64 x11))), (21, (Sl Kf r15)), (22, (Vl (.int .i64 (r15.length : Int)))), (23, (Vl (.int .i64 x10))), (42, (Vl (.bool v13)))], []⟩ : St)) (fun (v13 : Bool) => spec_Grid_j8 k rec2 x10 v13 = some y2) ?_ ?_
              · rintro x9 hp
                replace hp : spec_Grid_j8 k rec2 x10 x9 = some y2 := hp
                unfold spec_Grid_j8 at hp
                refine sx_nil' ?_
                show TX E K48 _
                refine tx_k' hK48 ?_
                refine cx_cond' rfl (fun h23 => ?_) (fun h23 => ?_)
                · replace hp := (br_t h23).symm.trans hp
                  refine cx_seq' fun K51 hK51 => ?_
                  refine cx_region' ?_
                  refine sx_rd' (rd_assign' rfl) rfl rfl (wt_none' rfl) ?_
                  refine sx_nil' ?_
                  show TX E K51 _
                  refine tx_k' hK51 ?_
                  refine cx_retc' ?_
                  replace hp := Option.some.inj hp
                  subst hp
                  show TX E (Zg E Exit.ret _ Exit.ret) _
                  exact tx_zend' () rfl [] (sub_cons rfl sub_nil) (by decide) pick_nil
                · replace hp := (br_f h23).symm.trans hp
                  refine cx_skip' ?_
                  show TX E K46 _
                  refine tx_k' hK46 ?_
                  refine cx_region' ?_
                  refine sx_rd' (rd_bin' rfl rfl eg_int ru_add) rfl rfl (wt_none' rfl) ?_
                  refine sx_rd' (rd_move' rfl) rfl rfl (wt_none' rfl) ?_
                  refine sx_nil' ?_
                  show TX E (KY2 _) _
                  exact tx_pick' [] (sub_cons rfl (sub_cons rfl (sub_cons rfl (sub_cons rfl (sub_cons rfl (sub_cons rfl (sub_cons rfl (sub_cons rfl sub_nil)))))))) (by decide) pick_nil (ih2 (iadd .i64 x10 1) () _ hp)
              · intro K50 hK50
                rcases br_cases hp with ⟨h22, hp⟩ | ⟨h22, hp⟩
                · refine sx_skip' rfl rfl (wt_is' (wt_guard' rfl rfl rfl) (beq_tf h22)) ?_
                  refine sx_skip' rfl rfl (wt_is' (wt_guard' rfl rfl rfl) (beq_tf h22)) ?_
                  refine sx_skip' rfl rfl (wt_is' (wt_guard' rfl rfl rfl) (beq_tf h22)) ?_
                  refine sx_skip' rfl rfl (wt_is' (wt_guard' rfl rfl rfl) (beq_tf h22)) ?_
                  refine sx_rd' (rd_pick_true' rfl h22 rfl) rfl rfl (wt_none' rfl) ?_
                  refine sx_nil' ?_
                  show TX E K50 _
                  exact tx_pick' [] (sub_cons rfl (sub_cons rfl (sub_cons rfl (sub_cons rfl (sub_cons rfl (sub_cons rfl (sub_cons rfl (sub_cons rfl (sub_cons rfl sub_nil))))))))) (by decide) pick_nil (hK50 true hp)
                · refine sx_rd' (rd_move' rfl) rfl rfl (wt_is' (wt_guard' rfl rfl rfl) (beq_ff h22)) ?_
                  refine sx_rd' (rd_move' rfl) rfl rfl (wt_is' (wt_guard' rfl rfl rfl) (beq_ff h22)) ?_
                  obtain ⟨r40, hr40, hp⟩ := bind_some hp
                  refine sx_ox' (ox_calln' (ent_fn' Try.func66 isn66 rfl rfl) (math_Trunc_sim _ hr40 : Go.Sx.Fn Try.prog 66 [(Vl (.float .f64 r25))] [] (fun x : Unit => (Fl r40)) (fun x => [])) (Hn := fun x : Unit => []) (fun _ => rfl) rfl rfl) (wt_is' (wt_guard' rfl rfl rfl) (beq_ff h22)) fun ⟨⟩ => ?_
                  refine sx_rd' (rd_fcmp' (fl_v rfl) (fl_f rfl) rfl) rfl rfl (wt_is' (wt_guard' rfl rfl rfl) (beq_ff h22)) ?_
                  refine sx_rd' (rd_pick_false' rfl h22 rfl) rfl rfl (wt_none' rfl) ?_
                  refine sx_nil' ?_
                  show TX E K50 _
                  exact tx_pick' [] (sub_cons rfl (sub_cons rfl (sub_cons rfl (sub_cons rfl (sub_cons rfl (sub_cons rfl (sub_cons rfl (sub_cons rfl (sub_cons rfl sub_nil))))))))) (by decide) pick_nil (hK50 (fne r25 r40) hp)
            · intro K49 hK49
              rcases br_cases hp with ⟨h21, hp⟩ | ⟨h21, hp⟩
              · refine sx_rd' (rd_move' rfl) rfl rfl (wt_is' (wt_guard' rfl rfl rfl) (beq_tt h21)) ?_
                refine sx_rd' (rd_move' rfl) rfl rfl (wt_is' (wt_guard' rfl rfl rfl) (beq_tt h21)) ?_
                refine sx_rd' (rd_bin' rfl rfl eg_flt ru_fle) rfl rfl (wt_is' (wt_guard' rfl rfl rfl) (beq_tt h21)) ?_
                refine sx_rd' (rd_pick_true' rfl h21 rfl) rfl rfl (wt_none' rfl) ?_
                refine sx_nil' ?_
                show TX E K49 _
                exact tx_pick' [] (sub_cons rfl (sub_cons rfl (sub_cons rfl (sub_cons rfl (sub_cons rfl (sub_cons rfl (sub_cons rfl (sub_cons rfl (sub_cons rfl (sub_cons rfl sub_nil)))))))))) (by decide) pick_nil (hK49 (fle r25 a2) hp)
              · refine sx_skip' rfl rfl (wt_is' (wt_guard' rfl rfl rfl) (beq_ft h21)) ?_
                refine sx_skip' rfl rfl (wt_is' (wt_guard' rfl rfl rfl) (beq_ft h21)) ?_
                refine sx_skip' rfl rfl (wt_is' (wt_guard' rfl rfl rfl) (beq_ft h21)) ?_
                refine sx_rd' (rd_pick_false' rfl h21 rfl) rfl rfl (wt_none' rfl) ?_
                refine sx_nil' ?_
                show TX E K49 _
                exact tx_pick' [] (sub_cons rfl (sub_cons rfl (sub_cons rfl (sub_cons rfl (sub_cons rfl (sub_cons rfl (sub_cons rfl (sub_cons rfl (sub_cons rfl (sub_cons rfl sub_nil)))))))))) (by decide) pick_nil (hK49 false hp)
          · replace hp := (br_f h20).symm.trans hp
            refine cx_exit' ?_
            replace hp := Option.some.inj hp
            subst hp
            show TX E (Zg E (Exit.exit 2) _ (Exit.exit 2)) _
            exact tx_zend' () rfl [] (sub_cons rfl (sub_cons rfl (sub_cons rfl (sub_cons rfl (sub_cons rfl sub_nil))))) (by decide) pick_nil
        · rcases y2 with v14 | v15
          · dsimp only at hp
            refine zg_out fun w14 => ?_
            replace hp := Option.some.inj hp
            subst hp
            show TX E (Zg E Exit.ret _ Exit.ret) _
            exact tx_zend' () rfl [] (sub_cons rfl sub_nil) (by decide) pick_nil
          · dsimp only at hp
            refine zg_out fun w15 => ?_
            show TX E K30 _
            refine tx_k' hK30 ?_
            refine cx_region' ?_
            refine sx_rd' (rd_bin' rfl rfl eg_int ru_add) rfl rfl (wt_none' rfl) ?_
            refine sx_rd' (rd_move' rfl) rfl rfl (wt_none' rfl) ?_
            refine sx_nil' ?_
            show TX E (KY3 _) _
            exact tx_pick' [] (sub_cons rfl (sub_cons rfl (sub_cons rfl (sub_cons rfl (sub_cons rfl sub_nil))))) (by decide) pick_nil (ih3 (iadd .i64 x11 1) () _ hp)
    · replace hp := (br_f h13).symm.trans hp
      refine cx_exit' ?_
      replace hp := Option.some.inj hp
      subst hp
      show TX E (Zg E (Exit.exit 0) _ (Exit.exit 0)) _
      exact tx_zend' () rfl [] (sub_cons rfl sub_nil) (by decide) pick_nil
  · rcases y3 with v16 | v17
    · dsimp only at hp
      refine zg_out fun w16 => ?_
      replace hp := Option.some.inj hp
      subst hp
      refine tx_pick' (L' := [(6, (Vl (.bool false)))]) (H' := []) [] (sub_cons rfl sub_nil) (by decide) pick_nil ?_
      exact tx_ret1' Try.results39 rfl () (rv_tmp' rfl) (List.Sublist.refl _)
    · dsimp only at hp
      refine zg_out fun w17 => ?_
      show TX E K2 _
      refine tx_k' hK2 ?_
      refine cx_seq' fun K52 hK52 => ?_
      refine cx_region' ?_
      refine sx_rd' (rd_move' rfl) rfl rfl (wt_none' rfl) ?_
      refine sx_rd' (rd_bin' rfl rfl eg_int ru_gtr) rfl rfl (wt_none' rfl) ?_
      refine sx_rd' (rd_assign' rfl) rfl rfl (wt_none' rfl) ?_
      refine sx_nil' ?_
      show TX E K52 _
      refine tx_k' hK52 ?_
      refine cx_retc' ?_
      replace hp := Option.some.inj hp
      subst hp
      refine tx_pick' (L' := [(6, (Vl (.bool (decide (0 < a1)))))]) (H' := []) [] (sub_cons rfl sub_nil) (by decide) pick_nil ?_
      exact tx_ret1' Try.results39 rfl () (rv_tmp' rfl) (List.Sublist.refl _)

def laws_wide_j5 (k : Nat) (x5 : Bool) : Option (Bool) :=
  some x5
def laws_wide_j4 (k : Nat) (a1 : List Nat) (x4 : Bool) : Option (Bool) :=
  br x4
    ((spec_Grid k ([a1]) (a1.length : Int) 4652218415073722368) >>= fun r34 =>
    laws_wide_j5 k r34)
    (laws_wide_j5 k false)
def laws_wide_j3 (k : Nat) (a0 : List (List Nat)) (a1 : List Nat) (x3 : Bool) : Option (Bool) :=
  br x3
    ((spec_Grid k a0 (a1.length : Int) 4652218415073722368) >>= fun r27 =>
    laws_wide_j4 k a1 r27)
    (laws_wide_j4 k a1 false)
def laws_wide_j2 (k : Nat) (a0 : List (List Nat)) (a1 : List Nat) (x2 : Bool) : Option (Bool) :=
  br x2
    (laws_wide_j3 k a0 a1 (decide ((a1.length : Int) ≤ 6)))
    (laws_wide_j3 k a0 a1 false)
def laws_wide_j1 (k : Nat) (a0 : List (List Nat)) (a1 : List Nat) (x1 : Bool) : Option (Bool) :=
  br x1
    (laws_wide_j2 k a0 a1 (decide (0 < (a1.length : Int))))
    (laws_wide_j2 k a0 a1 false)
def laws_wide (k : Nat) (a0 : List (List Nat)) (a1 : List Nat) : Option (Bool) :=
  br (decide (0 < (a0.length : Int)))
    (laws_wide_j1 k a0 a1 (decide ((a0.length : Int) ≤ 100)))
    (laws_wide_j1 k a0 a1 false)

theorem laws_wide_sim {k : Nat}  (a0 : List (List Nat)) (a1 : List Nat) {out : Bool} (hp : laws_wide k a0 a1 = some out) : Go.Sx.Fn Try.prog 13 [(Sl (Kl Kf) a0), (Sl Kf a1)] [] (fun w : Unit => (Vl (.bool out))) (fun w => []) := by
  unfold laws_wide at hp
  refine fn_of Try.func13 rfl Try.ntmps13 rfl fun E hM => ?_
  refine cx_seq' fun K1 hK1 => ?_
  refine cx_region' ?_
  refine sx_rd' (rd_assign' rfl) rfl rfl (wt_none' rfl) ?_
  refine sx_nil' ?_
  show TX E K1 _
  refine tx_k' hK1 ?_
  refine cx_seq' fun K2 hK2 => ?_
  refine cx_region' ?_
  refine sx_rd' (rd_move' rfl) rfl rfl (wt_none' rfl) ?_
  refine sx_rd' (rd_len' rfl Try.underlying26) rfl rfl (wt_none' rfl) ?_
  refine sx_rd' (rd_bin' rfl rfl eg_int ru_gtr) rfl rfl (wt_none' rfl) ?_
  refine sx_rd' (rd_move' rfl) rfl rfl (wt_none' rfl) ?_
  refine sx_cutn' 4 (fun (v1 : Bool) => (⟨36, [], [(0, (Sl (Kl Kf) a0)), (1, (Sl Kf a1)), (12, (Vl (.bool v1)))], []⟩ : St)) (fun (v1 : Bool) => laws_wide_j1 k a0 a1 v1 = some out) ?_ ?_
  · rintro x1 hp
    replace hp : laws_wide_j1 k a0 a1 x1 = some out := hp
    unfold laws_wide_j1 at hp
    refine sx_rd' (rd_move' rfl) rfl rfl (wt_none' rfl) ?_
    refine sx_cutn' 4 (fun (v2 : Bool) => (⟨36, [], [(0, (Sl (Kl Kf) a0)), (1, (Sl Kf a1)), (17, (Vl (.bool v2)))], []⟩ : St)) (fun (v2 : Bool) => laws_wide_j2 k a0 a1 v2 = some out) ?_ ?_
    · rintro x2 hp
      replace hp : laws_wide_j2 k a0 a1 x2 = some out := hp
      unfold laws_wide_j2 at hp
      refine sx_rd' (rd_move' rfl) rfl rfl (wt_none' rfl) ?_
      refine sx_cutn' 4 (fun (v3 : Bool) => (⟨36, [], [(0, (Sl (Kl Kf) a0)), (1, (Sl Kf a1)), (22, (Vl (.bool v3)))], []⟩ : St)) (fun (v3 : Bool) => laws_wide_j3 k a0 a1 v3 = some out) ?_ ?_
      · rintro x3 hp
        replace hp : laws_wide_j3 k a0 a1 x3 = some out := hp
        unfold laws_wide_j3 at hp
        refine sx_rd' (rd_move' rfl) rfl rfl (wt_none' rfl) ?_
        refine sx_cutn' 5 (fun (v4 : Bool) => (⟨36, [], [(1, (Sl Kf a1)), (28, (Vl (.bool v4)))], []⟩ : St)) (fun (v4 : Bool) => laws_wide_j4 k a1 v4 = some out) ?_ ?_
        · rintro x4 hp
          replace hp : laws_wide_j4 k a1 x4 = some out := hp
          unfold laws_wide_j4 at hp
          refine sx_rd' (rd_move' rfl) rfl rfl (wt_none' rfl) ?_
          refine sx_cutn' 6 (fun (v5 : Bool) => (⟨36, [], [(35, (Vl (.bool v5)))], []⟩ : St)) (fun (v5 : Bool) => laws_wide_j5 k v5 = some out) ?_ ?_
          · rintro x5 hp
            replace hp : laws_wide_j5 k x5 = some out := hp
            unfold laws_wide_j5 at hp
            refine sx_rd' (rd_assign' rfl) rfl rfl (wt_none' rfl) ?_
            refine sx_nil' ?_
            show TX E K2 _
            refine tx_k' hK2 ?_
            refine cx_retc' ?_
            replace hp := Option.some.inj hp
            subst hp
            refine tx_pick' (L' := [(4, (Vl (.bool x5)))]) (H' := []) [] (sub_cons rfl sub_nil) (by decide) pick_nil ?_
            exact tx_ret1' Try.results13 rfl () (rv_tmp' rfl) (List.Sublist.refl _)
          · intro K7 hK7
            rcases br_cases hp with ⟨h5, hp⟩ | ⟨h5, hp⟩
            · refine sx_rd' (rd_move' rfl) rfl rfl (wt_is' (wt_guard' rfl rfl rfl) (beq_tt h5)) ?_
              refine sx_ox' (ox_rowlit' (K := (Kl Kf)) (xs := [a1]) (qs := [(0, [(Sl Kf a1)])]) ⟨rfl, ⟨_, rfl, (lv_sl _ _)⟩, trivial⟩ Try.underlying26 info25 rfl rfl rfl rfl rfl (by kernel_rfl) rfl rfl rfl) (wt_is' (wt_guard' rfl rfl rfl) (beq_tt h5)) fun g31 => ?_
              refine sx_rd' (rd_move' rfl) rfl rfl (wt_is' (wt_guard' rfl rfl rfl) (beq_tt h5)) ?_
              refine sx_rd' (rd_len' rfl Try.underlying25) rfl rfl (wt_is' (wt_guard' rfl rfl rfl) (beq_tt h5)) ?_
              obtain ⟨r34, hr34, hp⟩ := bind_some hp
              refine sx_ox' (ox_brw' (frz_row 0 [(31, (Vl (Vs g31)), (Sl (Kl Kf) ([a1])))] (K := (Kl Kf)) (xs := [a1]) (by decide) rfl ⟨⟨rfl, frz_it⟩, trivial⟩ (H' := []) frzH_refl) (ent_fn' Try.func39 isn39 rfl rfl) (spec_Grid_sim _ _ _ hr34 : Go.Sx.Fn Try.prog 39 [(Sl (Kl Kf) ([a1])), (Vl (.int .i64 (a1.length : Int))), (Vl (.float .f64 4652218415073722368))] [] (fun x : Unit => (Vl (.bool r34))) (fun x => [])) pu_vl rfl rfl) (wt_is' (wt_guard' rfl rfl rfl) (beq_tt h5)) fun ⟨⟩ => ?_
              refine sx_rd' (rd_pick_true' rfl h5 rfl) rfl rfl (wt_none' rfl) ?_
              refine sx_nil' ?_
              show TX E K7 _
              exact tx_pick' [] (sub_cons rfl sub_nil) (by decide) pick_nil (hK7 r34 hp)
            · refine sx_skip' rfl rfl (wt_is' (wt_guard' rfl rfl rfl) (beq_ft h5)) ?_
              refine sx_skip' rfl rfl (wt_is' (wt_guard' rfl rfl rfl) (beq_ft h5)) ?_
              refine sx_skip' rfl rfl (wt_is' (wt_guard' rfl rfl rfl) (beq_ft h5)) ?_
              refine sx_skip' rfl rfl (wt_is' (wt_guard' rfl rfl rfl) (beq_ft h5)) ?_
              refine sx_skip' rfl rfl (wt_is' (wt_guard' rfl rfl rfl) (beq_ft h5)) ?_
              refine sx_rd' (rd_pick_false' rfl h5 rfl) rfl rfl (wt_none' rfl) ?_
              refine sx_nil' ?_
              show TX E K7 _
              exact tx_pick' [] (sub_cons rfl sub_nil) (by decide) pick_nil (hK7 false hp)
        · intro K6 hK6
          rcases br_cases hp with ⟨h4, hp⟩ | ⟨h4, hp⟩
          · refine sx_rd' (rd_move' rfl) rfl rfl (wt_is' (wt_guard' rfl rfl rfl) (beq_tt h4)) ?_
            refine sx_rd' (rd_move' rfl) rfl rfl (wt_is' (wt_guard' rfl rfl rfl) (beq_tt h4)) ?_
            refine sx_rd' (rd_len' rfl Try.underlying25) rfl rfl (wt_is' (wt_guard' rfl rfl rfl) (beq_tt h4)) ?_
            obtain ⟨r27, hr27, hp⟩ := bind_some hp
            refine sx_ox' (ox_calln' (ent_fn' Try.func39 isn39 rfl rfl) (spec_Grid_sim _ _ _ hr27 : Go.Sx.Fn Try.prog 39 [(Sl (Kl Kf) a0), (Vl (.int .i64 (a1.length : Int))), (Vl (.float .f64 4652218415073722368))] [] (fun x : Unit => (Vl (.bool r27))) (fun x => [])) (Hn := fun x : Unit => []) (fun _ => rfl) rfl rfl) (wt_is' (wt_guard' rfl rfl rfl) (beq_tt h4)) fun ⟨⟩ => ?_
            refine sx_rd' (rd_pick_true' rfl h4 rfl) rfl rfl (wt_none' rfl) ?_
            refine sx_nil' ?_
            show TX E K6 _
            exact tx_pick' [] (sub_cons rfl (sub_cons rfl sub_nil)) (by decide) pick_nil (hK6 r27 hp)
          · refine sx_skip' rfl rfl (wt_is' (wt_guard' rfl rfl rfl) (beq_ft h4)) ?_
            refine sx_skip' rfl rfl (wt_is' (wt_guard' rfl rfl rfl) (beq_ft h4)) ?_
            refine sx_skip' rfl rfl (wt_is' (wt_guard' rfl rfl rfl) (beq_ft h4)) ?_
            refine sx_skip' rfl rfl (wt_is' (wt_guard' rfl rfl rfl) (beq_ft h4)) ?_
            refine sx_rd' (rd_pick_false' rfl h4 rfl) rfl rfl (wt_none' rfl) ?_
            refine sx_nil' ?_
            show TX E K6 _
            exact tx_pick' [] (sub_cons rfl (sub_cons rfl sub_nil)) (by decide) pick_nil (hK6 false hp)
      · intro K5 hK5
        rcases br_cases hp with ⟨h3, hp⟩ | ⟨h3, hp⟩
        · refine sx_rd' (rd_move' rfl) rfl rfl (wt_is' (wt_guard' rfl rfl rfl) (beq_tt h3)) ?_
          refine sx_rd' (rd_len' rfl Try.underlying25) rfl rfl (wt_is' (wt_guard' rfl rfl rfl) (beq_tt h3)) ?_
          refine sx_rd' (rd_bin' rfl rfl eg_int ru_leq) rfl rfl (wt_is' (wt_guard' rfl rfl rfl) (beq_tt h3)) ?_
          refine sx_rd' (rd_pick_true' rfl h3 rfl) rfl rfl (wt_none' rfl) ?_
          refine sx_nil' ?_
          show TX E K5 _
          exact tx_pick' [] (sub_cons rfl (sub_cons rfl (sub_cons rfl sub_nil))) (by decide) pick_nil (hK5 (decide ((a1.length : Int) ≤ 6)) hp)
        · refine sx_skip' rfl rfl (wt_is' (wt_guard' rfl rfl rfl) (beq_ft h3)) ?_
          refine sx_skip' rfl rfl (wt_is' (wt_guard' rfl rfl rfl) (beq_ft h3)) ?_
          refine sx_skip' rfl rfl (wt_is' (wt_guard' rfl rfl rfl) (beq_ft h3)) ?_
          refine sx_rd' (rd_pick_false' rfl h3 rfl) rfl rfl (wt_none' rfl) ?_
          refine sx_nil' ?_
          show TX E K5 _
          exact tx_pick' [] (sub_cons rfl (sub_cons rfl (sub_cons rfl sub_nil))) (by decide) pick_nil (hK5 false hp)
    · intro K4 hK4
      rcases br_cases hp with ⟨h2, hp⟩ | ⟨h2, hp⟩
      · refine sx_rd' (rd_move' rfl) rfl rfl (wt_is' (wt_guard' rfl rfl rfl) (beq_tt h2)) ?_
        refine sx_rd' (rd_len' rfl Try.underlying25) rfl rfl (wt_is' (wt_guard' rfl rfl rfl) (beq_tt h2)) ?_
        refine sx_rd' (rd_bin' rfl rfl eg_int ru_gtr) rfl rfl (wt_is' (wt_guard' rfl rfl rfl) (beq_tt h2)) ?_
        refine sx_rd' (rd_pick_true' rfl h2 rfl) rfl rfl (wt_none' rfl) ?_
        refine sx_nil' ?_
        show TX E K4 _
        exact tx_pick' [] (sub_cons rfl (sub_cons rfl (sub_cons rfl sub_nil))) (by decide) pick_nil (hK4 (decide (0 < (a1.length : Int))) hp)
      · refine sx_skip' rfl rfl (wt_is' (wt_guard' rfl rfl rfl) (beq_ft h2)) ?_
        refine sx_skip' rfl rfl (wt_is' (wt_guard' rfl rfl rfl) (beq_ft h2)) ?_
        refine sx_skip' rfl rfl (wt_is' (wt_guard' rfl rfl rfl) (beq_ft h2)) ?_
        refine sx_rd' (rd_pick_false' rfl h2 rfl) rfl rfl (wt_none' rfl) ?_
        refine sx_nil' ?_
        show TX E K4 _
        exact tx_pick' [] (sub_cons rfl (sub_cons rfl (sub_cons rfl sub_nil))) (by decide) pick_nil (hK4 false hp)
  · intro K3 hK3
    rcases br_cases hp with ⟨h1, hp⟩ | ⟨h1, hp⟩
    · refine sx_rd' (rd_move' rfl) rfl rfl (wt_is' (wt_guard' rfl rfl rfl) (beq_tt h1)) ?_
      refine sx_rd' (rd_len' rfl Try.underlying26) rfl rfl (wt_is' (wt_guard' rfl rfl rfl) (beq_tt h1)) ?_
      refine sx_rd' (rd_bin' rfl rfl eg_int ru_leq) rfl rfl (wt_is' (wt_guard' rfl rfl rfl) (beq_tt h1)) ?_
      refine sx_rd' (rd_pick_true' rfl h1 rfl) rfl rfl (wt_none' rfl) ?_
      refine sx_nil' ?_
      show TX E K3 _
      exact tx_pick' [] (sub_cons rfl (sub_cons rfl (sub_cons rfl sub_nil))) (by decide) pick_nil (hK3 (decide ((a0.length : Int) ≤ 100)) hp)
    · refine sx_skip' rfl rfl (wt_is' (wt_guard' rfl rfl rfl) (beq_ft h1)) ?_
      refine sx_skip' rfl rfl (wt_is' (wt_guard' rfl rfl rfl) (beq_ft h1)) ?_
      refine sx_skip' rfl rfl (wt_is' (wt_guard' rfl rfl rfl) (beq_ft h1)) ?_
      refine sx_rd' (rd_pick_false' rfl h1 rfl) rfl rfl (wt_none' rfl) ?_
      refine sx_nil' ?_
      show TX E K3 _
      exact tx_pick' [] (sub_cons rfl (sub_cons rfl (sub_cons rfl sub_nil))) (by decide) pick_nil (hK3 false hp)

def math_Sqrt (k : Nat) (a0 : Nat) : Option (Nat) :=
  (some (gsqrt a0)) >>= fun r4 =>
  some r4

theorem math_Sqrt_sim {k : Nat}  (a0 : Nat) {out : Nat} (hp : math_Sqrt k a0 = some out) : Go.Sx.Fn Try.prog 67 [(Vl (.float .f64 a0))] [] (fun w : Unit => (Fl out)) (fun w => []) := by
  unfold math_Sqrt at hp
  refine fn_of Try.func67 rfl Try.ntmps67 rfl fun E hM => ?_
  refine cx_seq' fun K1 hK1 => ?_
  refine cx_region' ?_
  refine sx_rd' (rd_assign' rfl) rfl rfl (wt_none' rfl) ?_
  refine sx_nil' ?_
  show TX E K1 _
  refine tx_k' hK1 ?_
  refine cx_seq' fun K2 hK2 => ?_
  refine cx_region' ?_
  refine sx_rd' (rd_move' rfl) rfl rfl (wt_none' rfl) ?_
  obtain ⟨r4, hr4, hp⟩ := bind_some hp
  refine sx_ox' (ox_extf' rfl (fl_v rfl) Try.func84 (extf84 (Option.some.inj hr4)) rfl rfl) (wt_none' rfl) fun _ => ?_
  refine sx_rd' (rd_assign' rfl) rfl rfl (wt_none' rfl) ?_
  refine sx_nil' ?_
  show TX E K2 _
  refine tx_k' hK2 ?_
  refine cx_retc' ?_
  replace hp := Option.some.inj hp
  subst hp
  refine tx_pick' (L' := [(2, (Fl r4))]) (H' := []) [] (sub_cons rfl sub_nil) (by decide) pick_nil ?_
  exact tx_ret1' Try.results67 rfl () (rv_tmp' rfl) (List.Sublist.refl _)

def vptree_Point_Distance_l1s (a0 : List Nat) (a1 : List Nat) (k : Nat) (rec1 : (Nat × Int) → Option (Nat)) (x1 : Nat) (x2 : Int) : Option (Nat) :=
  br (decide (x2 < (a0.length : Int)))
    ((idx a0 x2) >>= fun r17 =>
    (idx a1 x2) >>= fun r22 =>
    (some (gsub r17 r22)) >>= fun r24 =>
    (some (gmul r24 r24)) >>= fun r28 =>
    (some (gadd x1 r28)) >>= fun r29 =>
    rec1 (r29, (iadd .i64 x2 1)))
    (some x1)
def vptree_Point_Distance_l1 (a0 : List Nat) (a1 : List Nat) : Nat → (Nat × Int) → Option (Nat)
  | 0, _ => none
  | k + 1, v => vptree_Point_Distance_l1s a0 a1 k (vptree_Point_Distance_l1 a0 a1 k) v.1 v.2
def vptree_Point_Distance (k : Nat) (a0 : List Nat) (a1 : List Nat) : Option (Nat) :=
  (vptree_Point_Distance_l1 a0 a1 k (0, 0)) >>= fun v2 =>
  (num v2) >>= fun u1 =>
  (math_Sqrt k v2) >>= fun r32 =>
  some r32

theorem vptree_Point_Distance_sim {k : Nat}  (a0 : List Nat) (a1 : List Nat) {out : Nat} (hp : vptree_Point_Distance k a0 a1 = some out) : Go.Sx.Fn Try.prog 41 [(Sl Kf a0), (If 70 (Sl Kf a1))] [] (fun w : Unit => (Fl out)) (fun w => []) := by
  unfold vptree_Point_Distance at hp
  refine fn_of Try.func41 rfl Try.ntmps41 rfl fun E hM => ?_
  refine cx_seq' fun K1 hK1 => ?_
  refine cx_region' ?_
  refine sx_rd' (rd_assign' rfl) rfl rfl (wt_none' rfl) ?_
  refine sx_nil' ?_
  show TX E K1 _
  refine tx_k' hK1 ?_
  refine cx_seq' fun K2 hK2 => ?_
  refine cx_region' ?_
  refine sx_rd' (rd_move' rfl) rfl rfl (wt_none' rfl) ?_
  refine sx_rd' (rd_assert' rfl (F := fun v => v) as70_68_70 as_id) rfl rfl (wt_none' rfl) ?_
  refine sx_rd' (rd_assign' rfl) rfl rfl (wt_none' rfl) ?_
  refine sx_nil' ?_
  show TX E K2 _
  refine tx_k' hK2 ?_
  refine cx_seq' fun K3 hK3 => ?_
  refine cx_region' ?_
  refine sx_rd' (rd_assign' rfl) rfl rfl (wt_none' rfl) ?_
  refine sx_nil' ?_
  show TX E K3 _
  refine tx_k' hK3 ?_
  refine cx_seq' fun K4 hK4 => ?_
  refine cx_seq' fun K5 hK5 => ?_
  refine cx_region' ?_
  refine sx_rd' (rd_move' rfl) rfl rfl (wt_none' rfl) ?_
  refine sx_rd' (rd_len' rfl Try.underlying70) rfl rfl (wt_none' rfl) ?_
  refine sx_rd' (rd_move' rfl) rfl rfl (wt_none' rfl) ?_
  refine sx_nil' ?_
  show TX E K5 _
  refine tx_k' hK5 ?_
  refine cx_block' ?_
  obtain ⟨v2, hy1, hp⟩ := bind_some hp
  refine tx_slot' 6 (y := (Fl 0)) rfl imp_vf ?_
  refine cx_loopg' (F := vptree_Point_Distance_l1 a0 a1) (G := fun k R v => vptree_Point_Distance_l1s a0 a1 k R v.1 v.2) (x := (0, 0)) (gh := ()) (fun (v1 : Nat × Int) (w1 : Unit) => (⟨33, [], [(5, (Sl Kf a1)), (6, (Fl v1.1)), (12, (Sl Kf a0)), (13, (Vl (.int .i64 (a0.length : Int)))), (14, (Vl (.int .i64 v1.2)))], []⟩ : St)) (fun (v2 : Nat) => Zg E (Exit.exit 0) (fun (w2 : Unit) => (⟨33, [], [(6, (Fl v2))], []⟩ : St))) (fun _ => rfl) (fun _ _ => rfl) ?_ hy1 (tx_to' rfl [] (sub_cons rfl (sub_cons rfl (sub_cons rfl (sub_cons rfl (sub_cons rfl sub_nil))))) (by decide) pick_nil) ?_
  · clear hp hy1
    clear v2
    intro k rec1 KY1 ih1
    rintro ⟨x1, x2⟩ ⟨⟩ y1 hp
    replace hp : vptree_Point_Distance_l1s a0 a1 k rec1 x1 x2 = some y1 := hp
    unfold vptree_Point_Distance_l1s at hp
    refine cx_seq' fun K11 hK11 => ?_
    refine cx_region' ?_
    refine sx_rd' (rd_bin' rfl rfl eg_int ru_lss) rfl rfl (wt_none' rfl) ?_
    refine sx_nil' ?_
    show TX E K11 _
    refine tx_k' hK11 ?_
    refine cx_seq' fun K12 hK12 => ?_
    refine cx_cond' rfl (fun h3 => ?_) (fun h3 => ?_)
    · replace hp := (br_t h3).symm.trans hp
      refine cx_skip' ?_
      show TX E K12 _
      refine tx_k' hK12 ?_
      refine cx_seq' fun K13 hK13 => ?_
      refine cx_block' ?_
      refine cx_seq' fun K14 hK14 => ?_
      refine cx_region' ?_
      refine sx_rd' (rd_move' rfl) rfl rfl (wt_none' rfl) ?_
      obtain ⟨r17, hr17, hp⟩ := bind_some hp
      refine sx_rd' (rd_at' (K := Kf) rfl rfl hr17 Try.underlying70 info33) rfl rfl (wt_none' rfl) ?_
      refine sx_rd' (rd_load_pt' rfl rfl flat33) rfl rfl (wt_none' rfl) ?_
      refine sx_rd' (rd_assign' rfl) rfl rfl (wt_none' rfl) ?_
      refine sx_rd' (rd_assign' rfl) rfl rfl (wt_none' rfl) ?_
      refine sx_nil' ?_
      show TX E K14 _
      refine tx_k' hK14 ?_
      refine cx_seq' fun K15 hK15 => ?_
      refine cx_region' ?_
      refine sx_rd' (rd_move' rfl) rfl rfl (wt_none' rfl) ?_
      refine sx_rd' (rd_move' rfl) rfl rfl (wt_none' rfl) ?_
      refine sx_rd' (rd_move' rfl) rfl rfl (wt_none' rfl) ?_
      obtain ⟨r22, hr22, hp⟩ := bind_some hp
      refine sx_rd' (rd_at' (K := Kf) rfl rfl hr22 Try.underlying70 info33) rfl rfl (wt_none' rfl) ?_
      refine sx_rd' (rd_load_pt' rfl rfl flat33) rfl rfl (wt_none' rfl) ?_
      obtain ⟨r24, hr24, hp⟩ := bind_some hp
      refine sx_ox' (ox_fop' (.inr (.inl rfl)) (fl_v rfl) (fl_v rfl) (Option.some.inj hr24) rfl rfl) (wt_none' rfl) fun _ => ?_
      refine sx_rd' (rd_assign' rfl) rfl rfl (wt_none' rfl) ?_
      refine sx_nil' ?_
      show TX E K15 _
      refine tx_k' hK15 ?_
      refine cx_region' ?_
      refine sx_rd' (rd_move' rfl) rfl rfl (wt_none' rfl) ?_
      refine sx_rd' (rd_move' rfl) rfl rfl (wt_none' rfl) ?_
      refine sx_rd' (rd_move' rfl) rfl rfl (wt_none' rfl) ?_
      obtain ⟨r28, hr28, hp⟩ := bind_some hp
      refine sx_ox' (ox_fop' (.inr (.inr (.inl rfl))) (fl_f rfl) (fl_f rfl) (Option.some.inj hr28) rfl rfl) (wt_none' rfl) fun _ => ?_
      obtain ⟨r29, hr29, hp⟩ := bind_some hp
      refine sx_ox' (ox_fop' (.inl rfl) (fl_f rfl) (fl_f rfl) (Option.some.inj hr29) rfl rfl) (wt_none' rfl) fun _ => ?_
      refine sx_rd' (rd_assign' rfl) rfl rfl (wt_none' rfl) ?_
      refine sx_nil' ?_
      show TX E K13 _
      refine tx_k' hK13 ?_
      refine cx_region' ?_
      refine sx_rd' (rd_bin' rfl rfl eg_int ru_add) rfl rfl (wt_none' rfl) ?_
      refine sx_rd' (rd_move' rfl) rfl rfl (wt_none' rfl) ?_
      refine sx_nil' ?_
      show TX E (KY1 _) _
      exact tx_pick' [] (sub_cons rfl (sub_cons rfl (sub_cons rfl (sub_cons rfl (sub_cons rfl sub_nil))))) (by decide) pick_nil (ih1 (r29, (iadd .i64 x2 1)) () _ hp)
    · replace hp := (br_f h3).symm.trans hp
      refine cx_exit' ?_
      replace hp := Option.some.inj hp
      subst hp
      show TX E (Zg E (Exit.exit 0) _ (Exit.exit 0)) _
      exact tx_zend' () rfl [] (sub_cons rfl sub_nil) (by decide) pick_nil
  · refine zg_out fun w2 => ?_
    show TX E K4 _
    refine tx_k' hK4 ?_
    refine cx_seq' fun K16 hK16 => ?_
    refine cx_region' ?_
    refine sx_rd' (rd_move' rfl) rfl rfl (wt_none' rfl) ?_
    obtain ⟨u1, hu1, hp⟩ := bind_some hp
    refine tx_slot' 31 (y := (Vl (.float .f64 v2))) rfl (imp_num (num_some hu1).2) ?_
    obtain ⟨r32, hr32, hp⟩ := bind_some hp
    refine sx_ox' (ox_calln' (ent_fn' Try.func67 isn67 rfl rfl) (math_Sqrt_sim _ hr32 : Go.Sx.Fn Try.prog 67 [(Vl (.float .f64 v2))] [] (fun x : Unit => (Fl r32)) (fun x => [])) (Hn := fun x : Unit => []) (fun _ => rfl) rfl rfl) (wt_none' rfl) fun ⟨⟩ => ?_
    refine sx_rd' (rd_assign' rfl) rfl rfl (wt_none' rfl) ?_
    refine sx_nil' ?_
    show TX E K16 _
    refine tx_k' hK16 ?_
    refine cx_retc' ?_
    replace hp := Option.some.inj hp
    subst hp
    refine tx_pick' (L' := [(4, (Fl r32))]) (H' := []) [] (sub_cons rfl sub_nil) (by decide) pick_nil ?_
    exact tx_ret1' Try.results41 rfl () (rv_tmp' rfl) (List.Sublist.refl _)

def impl_VDistance (k : Nat) (a0 : List Nat) (a1 : List Nat) : Option (Nat × Bool) :=
  (vptree_Point_Distance k a0 a1) >>= fun r10 =>
  some (r10, true)

theorem impl_VDistance_sim {k : Nat}  (a0 : List Nat) (a1 : List Nat) {out : Nat × Bool} (hp : impl_VDistance k a0 a1 = some out) : Go.Sx.Fn Try.prog 14 [(Sl Kf a0), (Sl Kf a1)] [] (fun w : Unit => (Tu [(Fl out.1), (Vl (.bool out.2))])) (fun w => []) := by
  unfold impl_VDistance at hp
  refine fnD_of Try.func14 rfl Try.ntmps14 rfl fun E hM => ?_
  refine cx_seq' fun K1 hK1 => ?_
  refine cx_region' ?_
  refine sx_ox' (ox_alloc' info33 rfl rfl rfl rfl (l := [(Vl (.float .f64 0))]) rfl) (wt_none' rfl) fun q4 => ?_
  refine sx_ox' (ox_alloc' info4 rfl rfl rfl rfl (l := [(Vl (.bool false))]) rfl) (wt_none' rfl) fun q5 => ?_
  refine sx_nil' ?_
  show TX E K1 _
  refine tx_k' hK1 ?_
  refine cx_seq' fun K2 hK2 => ?_
  refine cx_region' ?_
  refine sx_rd' (rd_mkfunc' (us := [.pointer (some q4), .pointer (some q5)]) rfl) rfl rfl (wt_none' rfl) ?_
  refine sx_ox' (ox_defer' rfl rfl) (wt_none' rfl) fun _ => ?_
  refine sx_nil' ?_
  show TX E K2 _
  refine tx_k' hK2 ?_
  refine cx_seq' fun K3 hK3 => ?_
  refine cx_region' ?_
  refine sx_rd' (rd_move' rfl) rfl rfl (wt_none' rfl) ?_
  refine sx_rd' (rd_move' rfl) rfl rfl (wt_none' rfl) ?_
  refine sx_rd' (rd_iface' rfl ⟨_, Try.underlying70, fun _ h => (nomatch h)⟩) rfl rfl (wt_none' rfl) ?_
  obtain ⟨r10, hr10, hp⟩ := bind_some hp
  refine sx_ox' (ox_calln' (ent_fn' Try.func41 isn41 rfl rfl) (vptree_Point_Distance_sim _ _ hr10 : Go.Sx.Fn Try.prog 41 [(Sl Kf a0), (If 70 (Sl Kf a1))] [] (fun x : Unit => (Fl r10)) (fun x => [])) (Hn := fun x : Unit => [⟨.pointer (some q5), [(Vl (.bool false))], 4, none⟩, ⟨.pointer (some q4), [(Vl (.float .f64 0))], 33, none⟩]) (fun _ => rfl) rfl rfl) (wt_none' rfl) fun ⟨⟩ => ?_
  refine sx_ox' (ox_store' (i := 1) (o := 0) rfl rfl (lv_fl _) ⟨rfl, rfl, rfl, rfl⟩ rfl info33 rfl (H' := [⟨.pointer (some q5), [(Vl (.bool false))], 4, none⟩, ⟨.pointer (some q4), [(Fl r10)], 33, none⟩]) rfl) (wt_none' rfl) fun _ => ?_
  refine sx_ox' (ox_store' (i := 0) (o := 0) rfl rfl (lv_vl rfl rfl) ⟨rfl, rfl, rfl, rfl⟩ rfl info4 rfl (H' := [⟨.pointer (some q5), [(Vl (.bool true))], 4, none⟩, ⟨.pointer (some q4), [(Fl r10)], 33, none⟩]) rfl) (wt_none' rfl) fun _ => ?_
  refine sx_nil' ?_
  show TX E K3 _
  refine tx_k' hK3 ?_
  refine cx_retc' ?_
  replace hp := Option.some.inj hp
  subst hp
  refine tx_leave' (.inl rfl) rfl idle40 rfl Try.func40 isn40 rfl ?_
  refine tx_pick' (L' := [(4, (Vl (.pointer (some q4)))), (5, (Vl (.pointer (some q5))))]) (H' := [⟨.pointer (some q4), [(Fl r10)], 33, none⟩, ⟨.pointer (some q5), [(Vl (.bool true))], 4, none⟩]) [1, 0] (sub_cons rfl (sub_cons rfl sub_nil)) (by decide) (pick_cons rfl (pick_cons rfl pick_nil)) ?_
  exact tx_ret2' Try.results14 rfl () (rv_cell' (i := 0) (o := 0) rfl ⟨rfl, rfl, rfl, rfl⟩ rfl flat33) (rv_cell' (i := 1) (o := 0) rfl ⟨rfl, rfl, rfl, rfl⟩ rfl flat4) rfl (List.nil_sublist _)

def laws_FnVTriangle_j7 (k : Nat) (x7 : Bool) : Option (Bool) :=
  some x7
def laws_FnVTriangle_j6 (k : Nat) (r37 : Nat × Bool) (r43 : Nat × Bool) (r49 : Nat × Bool) (x6 : Bool) : Option (Bool) :=
  br x6
    ((some (gadd r37.1 r43.1)) >>= fun r77 =>
    (some (gadd r77 4472074429978902528)) >>= fun r78 =>
    laws_FnVTriangle_j7 k (flt r49.1 r78))
    (laws_FnVTriangle_j7 k false)
def laws_FnVTriangle_j5 (k : Nat) (r37 : Nat × Bool) (r43 : Nat × Bool) (r49 : Nat × Bool) (r55 : Nat × Bool) (x5 : Bool) : Option (Bool) :=
  br x5
    (laws_FnVTriangle_j6 k r37 r43 r49 (feq r37.1 r55.1))
    (laws_FnVTriangle_j6 k r37 r43 r49 false)
def laws_FnVTriangle_j4 (k : Nat) (r37 : Nat × Bool) (r43 : Nat × Bool) (r49 : Nat × Bool) (r55 : Nat × Bool) (x4 : Bool) : Option (Bool) :=
  br x4
    (laws_FnVTriangle_j5 k r37 r43 r49 r55 r55.2)
    (laws_FnVTriangle_j5 k r37 r43 r49 r55 false)
def laws_FnVTriangle_j3 (k : Nat) (r37 : Nat × Bool) (r43 : Nat × Bool) (r49 : Nat × Bool) (r55 : Nat × Bool) (x3 : Bool) : Option (Bool) :=
  br x3
    (laws_FnVTriangle_j4 k r37 r43 r49 r55 r49.2)
    (laws_FnVTriangle_j4 k r37 r43 r49 r55 false)
def laws_FnVTriangle_j2 (k : Nat) (a0 : List Nat) (a2 : List Nat) (a1 : List Nat) (x2 : Bool) : Option (Bool) :=
  br x2
    (some true)
    ((laws_wide k ([a0, a2]) a1) >>= fun r32 =>
    br (!r32)
      (some true)
      ((impl_VDistance k a0 a1) >>= fun r37 =>
      (impl_VDistance k a1 a2) >>= fun r43 =>
      (impl_VDistance k a0 a2) >>= fun r49 =>
      (impl_VDistance k a1 a0) >>= fun r55 =>
      br r37.2
        (laws_FnVTriangle_j3 k r37 r43 r49 r55 r43.2)
        (laws_FnVTriangle_j3 k r37 r43 r49 r55 false)))
def laws_FnVTriangle_j1 (k : Nat) (a0 : List Nat) (a2 : List Nat) (a1 : List Nat) (x1 : Bool) : Option (Bool) :=
  br x1
    (laws_FnVTriangle_j2 k a0 a2 a1 true)
    (laws_FnVTriangle_j2 k a0 a2 a1 (decide (2147483647 < (a2.length : Int))))
def laws_FnVTriangle (k : Nat) (a0 : List Nat) (a1 : List Nat) (a2 : List Nat) : Option (Bool) :=
  br (decide (2147483647 < (a0.length : Int)))
    (laws_FnVTriangle_j1 k a0 a2 a1 true)
    (laws_FnVTriangle_j1 k a0 a2 a1 (decide (2147483647 < (a1.length : Int))))

theorem laws_FnVTriangle_sim {k : Nat}  (a0 : List Nat) (a1 : List Nat) (a2 : List Nat) {out : Bool} (hp : laws_FnVTriangle k a0 a1 a2 = some out) : Go.Sx.Fn Try.prog 4 [(Sl Kf a0), (Sl Kf a1), (Sl Kf a2)] [] (fun w : Unit => (Vl (.bool out))) (fun w => []) := by
  unfold laws_FnVTriangle at hp
  refine fn_of Try.func4 rfl Try.ntmps4 rfl fun E hM => ?_
  refine cx_seq' fun K1 hK1 => ?_
  refine cx_region' ?_
  refine sx_rd' (rd_assign' rfl) rfl rfl (wt_none' rfl) ?_
  refine sx_nil' ?_
  show TX E K1 _
  refine tx_k' hK1 ?_
  refine cx_seq' fun K2 hK2 => ?_
  refine cx_seq' fun K3 hK3 => ?_
  refine cx_region' ?_
  refine sx_rd' (rd_move' rfl) rfl rfl (wt_none' rfl) ?_
  refine sx_rd' (rd_len' rfl Try.underlying25) rfl rfl (wt_none' rfl) ?_
  refine sx_rd' (rd_bin' rfl rfl eg_int ru_gtr) rfl rfl (wt_none' rfl) ?_
  refine sx_rd' (rd_move' rfl) rfl rfl (wt_none' rfl) ?_
  refine sx_cutn' 4 (fun (v1 : Bool) => (⟨81, [], [(0, (Sl Kf a0)), (1, (Sl Kf a1)), (2, (Sl Kf a2)), (22, (Vl (.bool v1)))], []⟩ : St)) (fun (v1 : Bool) => laws_FnVTriangle_j1 k a0 a2 a1 v1 = some out) ?_ ?_
  · rintro x1 hp
    replace hp : laws_FnVTriangle_j1 k a0 a2 a1 x1 = some out := hp
    unfold laws_FnVTriangle_j1 at hp
    refine sx_rd' (rd_move' rfl) rfl rfl (wt_none' rfl) ?_
    refine sx_cutn' 4 (fun (v2 : Bool) => (⟨81, [], [(0, (Sl Kf a0)), (1, (Sl Kf a1)), (2, (Sl Kf a2)), (27, (Vl (.bool v2)))], []⟩ : St)) (fun (v2 : Bool) => laws_FnVTriangle_j2 k a0 a2 a1 v2 = some out) ?_ ?_
    · rintro x2 hp
      replace hp : laws_FnVTriangle_j2 k a0 a2 a1 x2 = some out := hp
      unfold laws_FnVTriangle_j2 at hp
      refine sx_nil' ?_
      show TX E K3 _
      refine tx_k' hK3 ?_
      refine cx_cond' rfl (fun h3 => ?_) (fun h3 => ?_)
      · replace hp := (br_t h3).symm.trans hp
        refine cx_seq' fun K6 hK6 => ?_
        refine cx_region' ?_
        refine sx_rd' (rd_assign' rfl) rfl rfl (wt_none' rfl) ?_
        refine sx_nil' ?_
        show TX E K6 _
        refine tx_k' hK6 ?_
        refine cx_retc' ?_
        replace hp := Option.some.inj hp
        subst hp
        refine tx_pick' (L' := [(6, (Vl (.bool true)))]) (H' := []) [] (sub_cons rfl sub_nil) (by decide) pick_nil ?_
        exact tx_ret1' Try.results4 rfl () (rv_tmp' rfl) (List.Sublist.refl _)
      · replace hp := (br_f h3).symm.trans hp
        refine cx_skip' ?_
        show TX E K2 _
        refine tx_k' hK2 ?_
        refine cx_seq' fun K7 hK7 => ?_
        refine cx_seq' fun K8 hK8 => ?_
        refine cx_region' ?_
        refine sx_rd' (rd_move' rfl) rfl rfl (wt_none' rfl) ?_
        refine sx_rd' (rd_move' rfl) rfl rfl (wt_none' rfl) ?_
        refine sx_ox' (ox_rowlit' (K := (Kl Kf)) (xs := [a0, a2]) (qs := [(0, [(Sl Kf a0)]), (1, [(Sl Kf a2)])]) ⟨rfl, ⟨_, rfl, (lv_sl _ _)⟩, ⟨rfl, ⟨_, rfl, (lv_sl _ _)⟩, trivial⟩⟩ Try.underlying26 info25 rfl rfl rfl rfl rfl (by kernel_rfl) rfl rfl rfl) (wt_none' rfl) fun g30 => ?_
        refine sx_rd' (rd_move' rfl) rfl rfl (wt_none' rfl) ?_
        obtain ⟨r32, hr32, hp⟩ := bind_some hp
        refine sx_ox' (ox_brw' (frz_row 0 [(30, (Vl (Vs g30)), (Sl (Kl Kf) ([a0, a2])))] (K := (Kl Kf)) (xs := [a0, a2]) (by decide) rfl ⟨⟨rfl, frz_it⟩, trivial⟩ (H' := []) frzH_refl) (ent_fn' Try.func13 isn13 rfl rfl) (laws_wide_sim _ _ hr32 : Go.Sx.Fn Try.prog 13 [(Sl (Kl Kf) ([a0, a2])), (Sl Kf a1)] [] (fun x : Unit => (Vl (.bool r32))) (fun x => [])) pu_vl rfl rfl) (wt_none' rfl) fun ⟨⟩ => ?_
        refine sx_rd' (rd_un' rfl ru_not) rfl rfl (wt_none' rfl) ?_
        refine sx_nil' ?_
        show TX E K8 _
        refine tx_k' hK8 ?_
        refine cx_cond' rfl (fun h4 => ?_) (fun h4 => ?_)
        · replace hp := (br_t h4).symm.trans hp
          refine cx_seq' fun K9 hK9 => ?_
          refine cx_region' ?_
          refine sx_rd' (rd_assign' rfl) rfl rfl (wt_none' rfl) ?_
          refine sx_nil' ?_
          show TX E K9 _
          refine tx_k' hK9 ?_
          refine cx_retc' ?_
          replace hp := Option.some.inj hp
          subst hp
          refine tx_pick' (L' := [(6, (Vl (.bool true)))]) (H' := []) [] (sub_cons rfl sub_nil) (by decide) pick_nil ?_
          exact tx_ret1' Try.results4 rfl () (rv_tmp' rfl) (List.Sublist.refl _)
        · replace hp := (br_f h4).symm.trans hp
          refine cx_skip' ?_
          show TX E K7 _
          refine tx_k' hK7 ?_
          refine cx_seq' fun K10 hK10 => ?_
          refine cx_region' ?_
          refine sx_rd' (rd_move' rfl) rfl rfl (wt_none' rfl) ?_
          refine sx_rd' (rd_move' rfl) rfl rfl (wt_none' rfl) ?_
          obtain ⟨r37, hr37, hp⟩ := bind_some hp
          refine sx_ox' (ox_calln' (ent_fn' Try.func14 isn14 rfl rfl) (impl_VDistance_sim _ _ hr37 : Go.Sx.Fn Try.prog 14 [(Sl Kf a0), (Sl Kf a1)] [] (fun x : Unit => (Tu [(Fl r37.1), (Vl (.bool r37.2))])) (fun x => [])) (Hn := fun x : Unit => [(Rw (Kl Kf) 25 (Vs g30) ([a0, a2]))]) (fun _ => rfl) rfl rfl) (wt_none' rfl) fun ⟨⟩ => ?_
          refine sx_rd' (rd_move' rfl) rfl rfl (wt_none' rfl) ?_
          refine sx_rd' (rd_extract' rfl rfl) rfl rfl (wt_none' rfl) ?_
          refine sx_rd' (rd_extract' rfl rfl) rfl rfl (wt_none' rfl) ?_
          refine sx_rd' (rd_assign' rfl) rfl rfl (wt_none' rfl) ?_
          refine sx_rd' (rd_assign' rfl) rfl rfl (wt_none' rfl) ?_
          refine sx_nil' ?_
          show TX E K10 _
          refine tx_k' hK10 ?_
          refine cx_seq' fun K11 hK11 => ?_
          refine cx_region' ?_
          refine sx_rd' (rd_move' rfl) rfl rfl (wt_none' rfl) ?_
          refine sx_rd' (rd_move' rfl) rfl rfl (wt_none' rfl) ?_
          obtain ⟨r43, hr43, hp⟩ := bind_some hp
          refine sx_ox' (ox_calln' (ent_fn' Try.func14 isn14 rfl rfl) (impl_VDistance_sim _ _ hr43 : Go.Sx.Fn Try.prog 14 [(Sl Kf a1), (Sl Kf a2)] [] (fun x : Unit => (Tu [(Fl r43.1), (Vl (.bool r43.2))])) (fun x => [])) (Hn := fun x : Unit => [(Rw (Kl Kf) 25 (Vs g30) ([a0, a2]))]) (fun _ => rfl) rfl rfl) (wt_none' rfl) fun ⟨⟩ => ?_
          refine sx_rd' (rd_move' rfl) rfl rfl (wt_none' rfl) ?_
          refine sx_rd' (rd_extract' rfl rfl) rfl rfl (wt_none' rfl) ?_
          refine sx_rd' (rd_extract' rfl rfl) rfl rfl (wt_none' rfl) ?_
          refine sx_rd' (rd_assign' rfl) rfl rfl (wt_none' rfl) ?_
          refine sx_rd' (rd_assign' rfl) rfl rfl (wt_none' rfl) ?_
          refine sx_nil' ?_
          show TX E K11 _
          refine tx_k' hK11 ?_
          refine cx_seq' fun K12 hK12 => ?_
          refine cx_region' ?_
          refine sx_rd' (rd_move' rfl) rfl rfl (wt_none' rfl) ?_
          refine sx_rd' (rd_move' rfl) rfl rfl (wt_none' rfl) ?_
          obtain ⟨r49, hr49, hp⟩ := bind_some hp
          refine sx_ox' (ox_calln' (ent_fn' Try.func14 isn14 rfl rfl) (impl_VDistance_sim _ _ hr49 : Go.Sx.Fn Try.prog 14 [(Sl Kf a0), (Sl Kf a2)] [] (fun x : Unit => (Tu [(Fl r49.1), (Vl (.bool r49.2))])) (fun x => [])) (Hn := fun x : Unit => [(Rw (Kl Kf) 25 (Vs g30) ([a0, a2]))]) (fun _ => rfl) rfl rfl) (wt_none' rfl) fun ⟨⟩ => ?_
          refine sx_rd' (rd_move' rfl) rfl rfl (wt_none' rfl) ?_
          refine sx_rd' (rd_extract' rfl rfl) rfl rfl (wt_none' rfl) ?_
          refine sx_rd' (rd_extract' rfl rfl) rfl rfl (wt_none' rfl) ?_
          refine sx_rd' (rd_assign' rfl) rfl rfl (wt_none' rfl) ?_
          refine sx_rd' (rd_assign' rfl) rfl rfl (wt_none' rfl) ?_
          refine sx_nil' ?_
          show TX E K12 _
          refine tx_k' hK12 ?_
          refine cx_seq' fun K13 hK13 => ?_
          refine cx_region' ?_
          refine sx_rd' (rd_move' rfl) rfl rfl (wt_none' rfl) ?_
          refine sx_rd' (rd_move' rfl) rfl rfl (wt_none' rfl) ?_
          obtain ⟨r55, hr55, hp⟩ := bind_some hp
          refine sx_ox' (ox_calln' (ent_fn' Try.func14 isn14 rfl rfl) (impl_VDistance_sim _ _ hr55 : Go.Sx.Fn Try.prog 14 [(Sl Kf a1), (Sl Kf a0)] [] (fun x : Unit => (Tu [(Fl r55.1), (Vl (.bool r55.2))])) (fun x => [])) (Hn := fun x : Unit => [(Rw (Kl Kf) 25 (Vs g30) ([a0, a2]))]) (fun _ => rfl) rfl rfl) (wt_none' rfl) fun ⟨⟩ => ?_
          refine sx_rd' (rd_move' rfl) rfl rfl (wt_none' rfl) ?_
          refine sx_rd' (rd_extract' rfl rfl) rfl rfl (wt_none' rfl) ?_
          refine sx_rd' (rd_extract' rfl rfl) rfl rfl (wt_none' rfl) ?_
          refine sx_rd' (rd_assign' rfl) rfl rfl (wt_none' rfl) ?_
          refine sx_rd' (rd_assign' rfl) rfl rfl (wt_none' rfl) ?_
          refine sx_nil' ?_
          show TX E K13 _
          refine tx_k' hK13 ?_
          refine cx_seq' fun K14 hK14 => ?_
          refine cx_region' ?_
          refine sx_rd' (rd_move' rfl) rfl rfl (wt_none' rfl) ?_
          refine sx_rd' (rd_move' rfl) rfl rfl (wt_none' rfl) ?_
          refine sx_cutn' 2 (fun (v3 : Bool) => (⟨81, [], [(7, (Fl r37.1)), (9, (Fl r43.1)), (11, (Fl r49.1)), (12, (Vl (.bool r49.2))), (13, (Fl r55.1)), (14, (Vl (.bool r55.2))), (61, (Vl (.bool v3)))], []⟩ : St)) (fun (v3 : Bool) => laws_FnVTriangle_j3 k r37 r43 r49 r55 v3 = some out) ?_ ?_
          · rintro x3 hp
            replace hp : laws_FnVTriangle_j3 k r37 r43 r49 r55 x3 = some out := hp
            unfold laws_FnVTriangle_j3 at hp
            refine sx_rd' (rd_move' rfl) rfl rfl (wt_none' rfl) ?_
            refine sx_cutn' 2 (fun (v4 : Bool) => (⟨81, [], [(7, (Fl r37.1)), (9, (Fl r43.1)), (11, (Fl r49.1)), (13, (Fl r55.1)), (14, (Vl (.bool r55.2))), (64, (Vl (.bool v4)))], []⟩ : St)) (fun (v4 : Bool) => laws_FnVTriangle_j4 k r37 r43 r49 r55 v4 = some out) ?_ ?_
            · rintro x4 hp
              replace hp : laws_FnVTriangle_j4 k r37 r43 r49 r55 x4 = some out := hp
              unfold laws_FnVTriangle_j4 at hp
              refine sx_rd' (rd_move' rfl) rfl rfl (wt_none' rfl) ?_
              refine sx_cutn' 2 (fun (v5 : Bool) => (⟨81, [], [(7, (Fl r37.1)), (9, (Fl r43.1)), (11, (Fl r49.1)), (13, (Fl r55.1)), (67, (Vl (.bool v5)))], []⟩ : St)) (fun (v5 : Bool) => laws_FnVTriangle_j5 k r37 r43 r49 r55 v5 = some out) ?_ ?_
              · rintro x5 hp
                replace hp : laws_FnVTriangle_j5 k r37 r43 r49 r55 x5 = some out := hp
                unfold laws_FnVTriangle_j5 at hp
                refine sx_rd' (rd_move' rfl) rfl rfl (wt_none' rfl) ?_
                refine sx_cutn' 4 (fun (v6 : Bool) => (⟨81, [], [(7, (Fl r37.1)), (9, (Fl r43.1)), (11, (Fl r49.1)), (72, (Vl (.bool v6)))], []⟩ : St)) (fun (v6 : Bool) => laws_FnVTriangle_j6 k r37 r43 r49 v6 = some out) ?_ ?_
                · rintro x6 hp
                  replace hp : laws_FnVTriangle_j6 k r37 r43 r49 x6 = some out := hp
                  unfold laws_FnVTriangle_j6 at hp
                  refine sx_rd' (rd_move' rfl) rfl rfl (wt_none' rfl) ?_
                  refine sx_cutn' 7 (fun (v7 : Bool) => (⟨81, [], [(80, (Vl (.bool v7)))], []⟩ : St)) (fun (v7 : Bool) => laws_FnVTriangle_j7 k v7 = some out) ?_ ?_
                  · rintro x7 hp
                    replace hp : laws_FnVTriangle_j7 k x7 = some out := hp
                    unfold laws_FnVTriangle_j7 at hp
                    refine sx_rd' (rd_assign' rfl) rfl rfl (wt_none' rfl) ?_
                    refine sx_nil' ?_
                    show TX E K14 _
                    refine tx_k' hK14 ?_
                    refine cx_retc' ?_
                    replace hp := Option.some.inj hp
                    subst hp
                    refine tx_pick' (L' := [(6, (Vl (.bool x7)))]) (H' := []) [] (sub_cons rfl sub_nil) (by decide) pick_nil ?_
                    exact tx_ret1' Try.results4 rfl () (rv_tmp' rfl) (List.Sublist.refl _)
                  · intro K19 hK19
                    rcases br_cases hp with ⟨h9, hp⟩ | ⟨h9, hp⟩
                    · refine sx_rd' (rd_move' rfl) rfl rfl (wt_is' (wt_guard' rfl rfl rfl) (beq_tt h9)) ?_
                      refine sx_rd' (rd_move' rfl) rfl rfl (wt_is' (wt_guard' rfl rfl rfl) (beq_tt h9)) ?_
                      refine sx_rd' (rd_move' rfl) rfl rfl (wt_is' (wt_guard' rfl rfl rfl) (beq_tt h9)) ?_
                      obtain ⟨r77, hr77, hp⟩ := bind_some hp
                      refine sx_ox' (ox_fop' (.inl rfl) (fl_f rfl) (fl_f rfl) (Option.some.inj hr77) rfl rfl) (wt_is' (wt_guard' rfl rfl rfl) (beq_tt h9)) fun _ => ?_
                      obtain ⟨r78, hr78, hp⟩ := bind_some hp
                      refine sx_ox' (ox_fop' (.inl rfl) (fl_f rfl) (fl_v rfl) (Option.some.inj hr78) rfl rfl) (wt_is' (wt_guard' rfl rfl rfl) (beq_tt h9)) fun _ => ?_
                      refine sx_rd' (rd_fcmp' (fl_f rfl) (fl_f rfl) rfl) rfl rfl (wt_is' (wt_guard' rfl rfl rfl) (beq_tt h9)) ?_
                      refine sx_rd' (rd_pick_true' rfl h9 rfl) rfl rfl (wt_none' rfl) ?_
                      refine sx_nil' ?_
                      show TX E K19 _
                      exact tx_pick' [] (sub_cons rfl sub_nil) (by decide) pick_nil (hK19 (flt r49.1 r78) hp)
                    · refine sx_skip' rfl rfl (wt_is' (wt_guard' rfl rfl rfl) (beq_ft h9)) ?_
                      refine sx_skip' rfl rfl (wt_is' (wt_guard' rfl rfl rfl) (beq_ft h9)) ?_
                      refine sx_skip' rfl rfl (wt_is' (wt_guard' rfl rfl rfl) (beq_ft h9)) ?_
                      refine sx_skip' rfl rfl (wt_is' (wt_guard' rfl rfl rfl) (beq_ft h9)) ?_
                      refine sx_skip' rfl rfl (wt_is' (wt_guard' rfl rfl rfl) (beq_ft h9)) ?_
                      refine sx_skip' rfl rfl (wt_is' (wt_guard' rfl rfl rfl) (beq_ft h9)) ?_
                      refine sx_rd' (rd_pick_false' rfl h9 rfl) rfl rfl (wt_none' rfl) ?_
                      refine sx_nil' ?_
                      show TX E K19 _
                      exact tx_pick' [] (sub_cons rfl sub_nil) (by decide) pick_nil (hK19 false hp)
                · intro K18 hK18
                  rcases br_cases hp with ⟨h8, hp⟩ | ⟨h8, hp⟩
                  · refine sx_rd' (rd_move' rfl) rfl rfl (wt_is' (wt_guard' rfl rfl rfl) (beq_tt h8)) ?_
                    refine sx_rd' (rd_move' rfl) rfl rfl (wt_is' (wt_guard' rfl rfl rfl) (beq_tt h8)) ?_
                    refine sx_rd' (rd_fcmp' (fl_f rfl) (fl_f rfl) rfl) rfl rfl (wt_is' (wt_guard' rfl rfl rfl) (beq_tt h8)) ?_
                    refine sx_rd' (rd_pick_true' rfl h8 rfl) rfl rfl (wt_none' rfl) ?_
                    refine sx_nil' ?_
                    show TX E K18 _
                    exact tx_pick' [] (sub_cons rfl (sub_cons rfl (sub_cons rfl (sub_cons rfl sub_nil)))) (by decide) pick_nil (hK18 (feq r37.1 r55.1) hp)
                  · refine sx_skip' rfl rfl (wt_is' (wt_guard' rfl rfl rfl) (beq_ft h8)) ?_
                    refine sx_skip' rfl rfl (wt_is' (wt_guard' rfl rfl rfl) (beq_ft h8)) ?_
                    refine sx_skip' rfl rfl (wt_is' (wt_guard' rfl rfl rfl) (beq_ft h8)) ?_
                    refine sx_rd' (rd_pick_false' rfl h8 rfl) rfl rfl (wt_none' rfl) ?_
                    refine sx_nil' ?_
                    show TX E K18 _
                    exact tx_pick' [] (sub_cons rfl (sub_cons rfl (sub_cons rfl (sub_cons rfl sub_nil)))) (by decide) pick_nil (hK18 false hp)
              · intro K17 hK17
                rcases br_cases hp with ⟨h7, hp⟩ | ⟨h7, hp⟩
                · refine sx_rd' (rd_move' rfl) rfl rfl (wt_is' (wt_guard' rfl rfl rfl) (beq_tt h7)) ?_
                  refine sx_rd' (rd_pick_true' rfl h7 rfl) rfl rfl (wt_none' rfl) ?_
                  refine sx_nil' ?_
                  show TX E K17 _
                  exact tx_pick' [] (sub_cons rfl (sub_cons rfl (sub_cons rfl (sub_cons rfl (sub_cons rfl sub_nil))))) (by decide) pick_nil (hK17 r55.2 hp)
                · refine sx_skip' rfl rfl (wt_is' (wt_guard' rfl rfl rfl) (beq_ft h7)) ?_
                  refine sx_rd' (rd_pick_false' rfl h7 rfl) rfl rfl (wt_none' rfl) ?_
                  refine sx_nil' ?_
                  show TX E K17 _
                  exact tx_pick' [] (sub_cons rfl (sub_cons rfl (sub_cons rfl (sub_cons rfl (sub_cons rfl sub_nil))))) (by decide) pick_nil (hK17 false hp)
            · intro K16 hK16
              rcases br_cases hp with ⟨h6, hp⟩ | ⟨h6, hp⟩
              · refine sx_rd' (rd_move' rfl) rfl rfl (wt_is' (wt_guard' rfl rfl rfl) (beq_tt h6)) ?_
                refine sx_rd' (rd_pick_true' rfl h6 rfl) rfl rfl (wt_none' rfl) ?_
                refine sx_nil' ?_
                show TX E K16 _
                exact tx_pick' [] (sub_cons rfl (sub_cons rfl (sub_cons rfl (sub_cons rfl (sub_cons rfl (sub_cons rfl sub_nil)))))) (by decide) pick_nil (hK16 r49.2 hp)
              · refine sx_skip' rfl rfl (wt_is' (wt_guard' rfl rfl rfl) (beq_ft h6)) ?_
                refine sx_rd' (rd_pick_false' rfl h6 rfl) rfl rfl (wt_none' rfl) ?_
                refine sx_nil' ?_
                show TX E K16 _
                exact tx_pick' [] (sub_cons rfl (sub_cons rfl (sub_cons rfl (sub_cons rfl (sub_cons rfl (sub_cons rfl sub_nil)))))) (by decide) pick_nil (hK16 false hp)
          · intro K15 hK15
            rcases br_cases hp with ⟨h5, hp⟩ | ⟨h5, hp⟩
            · refine sx_rd' (rd_move' rfl) rfl rfl (wt_is' (wt_guard' rfl rfl rfl) (beq_tt h5)) ?_
              refine sx_rd' (rd_pick_true' rfl h5 rfl) rfl rfl (wt_none' rfl) ?_
              refine sx_nil' ?_
              show TX E K15 _
              exact tx_pick' [] (sub_cons rfl (sub_cons rfl (sub_cons rfl (sub_cons rfl (sub_cons rfl (sub_cons rfl (sub_cons rfl sub_nil))))))) (by decide) pick_nil (hK15 r43.2 hp)
            · refine sx_skip' rfl rfl (wt_is' (wt_guard' rfl rfl rfl) (beq_ft h5)) ?_
              refine sx_rd' (rd_pick_false' rfl h5 rfl) rfl rfl (wt_none' rfl) ?_
              refine sx_nil' ?_
              show TX E K15 _
              exact tx_pick' [] (sub_cons rfl (sub_cons rfl (sub_cons rfl (sub_cons rfl (sub_cons rfl (sub_cons rfl (sub_cons rfl sub_nil))))))) (by decide) pick_nil (hK15 false hp)
    · intro K5 hK5
      rcases br_cases hp with ⟨h2, hp⟩ | ⟨h2, hp⟩
      · refine sx_skip' rfl rfl (wt_is' (wt_guard' rfl rfl rfl) (beq_tf h2)) ?_
        refine sx_skip' rfl rfl (wt_is' (wt_guard' rfl rfl rfl) (beq_tf h2)) ?_
        refine sx_skip' rfl rfl (wt_is' (wt_guard' rfl rfl rfl) (beq_tf h2)) ?_
        refine sx_rd' (rd_pick_true' rfl h2 rfl) rfl rfl (wt_none' rfl) ?_
        refine sx_nil' ?_
        show TX E K5 _
        exact tx_pick' [] (sub_cons rfl (sub_cons rfl (sub_cons rfl (sub_cons rfl sub_nil)))) (by decide) pick_nil (hK5 true hp)
      · refine sx_rd' (rd_move' rfl) rfl rfl (wt_is' (wt_guard' rfl rfl rfl) (beq_ff h2)) ?_
        refine sx_rd' (rd_len' rfl Try.underlying25) rfl rfl (wt_is' (wt_guard' rfl rfl rfl) (beq_ff h2)) ?_
        refine sx_rd' (rd_bin' rfl rfl eg_int ru_gtr) rfl rfl (wt_is' (wt_guard' rfl rfl rfl) (beq_ff h2)) ?_
        refine sx_rd' (rd_pick_false' rfl h2 rfl) rfl rfl (wt_none' rfl) ?_
        refine sx_nil' ?_
        show TX E K5 _
        exact tx_pick' [] (sub_cons rfl (sub_cons rfl (sub_cons rfl (sub_cons rfl sub_nil)))) (by decide) pick_nil (hK5 (decide (2147483647 < (a2.length : Int))) hp)
  · intro K4 hK4
    rcases br_cases hp with ⟨h1, hp⟩ | ⟨h1, hp⟩
    · refine sx_skip' rfl rfl (wt_is' (wt_guard' rfl rfl rfl) (beq_tf h1)) ?_
      refine sx_skip' rfl rfl (wt_is' (wt_guard' rfl rfl rfl) (beq_tf h1)) ?_
      refine sx_skip' rfl rfl (wt_is' (wt_guard' rfl rfl rfl) (beq_tf h1)) ?_
      refine sx_rd' (rd_pick_true' rfl h1 rfl) rfl rfl (wt_none' rfl) ?_
      refine sx_nil' ?_
      show TX E K4 _
      exact tx_pick' [] (sub_cons rfl (sub_cons rfl (sub_cons rfl (sub_cons rfl sub_nil)))) (by decide) pick_nil (hK4 true hp)
    · refine sx_rd' (rd_move' rfl) rfl rfl (wt_is' (wt_guard' rfl rfl rfl) (beq_ff h1)) ?_
      refine sx_rd' (rd_len' rfl Try.underlying25) rfl rfl (wt_is' (wt_guard' rfl rfl rfl) (beq_ff h1)) ?_
      refine sx_rd' (rd_bin' rfl rfl eg_int ru_gtr) rfl rfl (wt_is' (wt_guard' rfl rfl rfl) (beq_ff h1)) ?_
      refine sx_rd' (rd_pick_false' rfl h1 rfl) rfl rfl (wt_none' rfl) ?_
      refine sx_nil' ?_
      show TX E K4 _
      exact tx_pick' [] (sub_cons rfl (sub_cons rfl (sub_cons rfl (sub_cons rfl sub_nil)))) (by decide) pick_nil (hK4 (decide (2147483647 < (a1.length : Int))) hp)

end Go.Proofs.Ytlgphoeonciheaa
