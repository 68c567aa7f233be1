/-
  Plain functions for the Go functions that this law reaches, and that each call does what its plain function says. Printed by a program of ours.
-/
import Derived.Test.YtmjhjnnlhjfbcaaProg
import Derived.Test.YtmjhjnnlhjfbcaaSxZ
namespace Go.Proofs.Ytmjhjnnlhjfbcaa
open Go.Sx
set_option linter.unusedVariables false
set_option maxRecDepth 100000

theorem info27 : (Try.prog.info? 27).map (fun i => (i.zero, i.size, i.bytes)) = some (some (.agg #[.int .i64 0, .slice none 0 0, .slice none 0 0]), 3, 56) := by kernel_rfl
theorem agg27 : Agg Try.prog 27 3 := ⟨⟨_, Try.underlying27, .inl ⟨_, rfl⟩⟩, info_size info27⟩
theorem isn10 : (Try.f10.name == "runtime.NumGoroutine") = false := by kernel_rfl
theorem info22 : (Try.prog.info? 22).map (fun i => (i.zero, i.size, i.bytes)) = some (some (.slice none 0 0), 1, 24) := by kernel_rfl
theorem flat22 : Flat Try.prog 22 := ⟨_, Try.underlying22, fun _ h => (nomatch h), fun _ _ h => (nomatch h)⟩
theorem isn11 : (Try.f11.name == "runtime.NumGoroutine") = false := by kernel_rfl
theorem info3 : (Try.prog.info? 3).map (fun i => (i.zero, i.size, i.bytes)) = some (some (.int .i64 0), 1, 8) := by kernel_rfl
theorem flat3 : Flat Try.prog 3 := ⟨_, Try.underlying3, fun _ h => (nomatch h), fun _ _ h => (nomatch h)⟩
theorem isn12 : (Try.f12.name == "runtime.NumGoroutine") = false := by kernel_rfl
theorem info34 : (Try.prog.info? 34).map (fun i => (i.zero, i.size, i.bytes)) = some (some (.float .f64 0), 1, 8) := by kernel_rfl
theorem flat34 : Flat Try.prog 34 := ⟨_, Try.underlying34, fun _ h => (nomatch h), fun _ _ h => (nomatch h)⟩
theorem isn27 : (Try.f27.name == "runtime.NumGoroutine") = false := by kernel_rfl
theorem mixed : Try.prog.follows .mixedOrders = true := by kernel_rfl
theorem isn13 : (Try.f13.name == "runtime.NumGoroutine") = false := by kernel_rfl
theorem isn29 : (Try.f29.name == "runtime.NumGoroutine") = false := by kernel_rfl
theorem isn25 : (Try.f25.name == "runtime.NumGoroutine") = false := by kernel_rfl
theorem isn41 : (Try.f41.name == "runtime.NumGoroutine") = false := by kernel_rfl
theorem places87 : placesOf Try.prog [{ name := "layout", type := 65, offset := 0, embedded := false, tag := "", pkgPath := "pub-orthodrome/pub/gogeom", byteOffset := 0 }, { name := "min", type := 58, offset := 1, embedded := false, tag := "", pkgPath := "pub-orthodrome/pub/gogeom", byteOffset := 8 }, { name := "max", type := 58, offset := 2, embedded := false, tag := "", pkgPath := "pub-orthodrome/pub/gogeom", byteOffset := 32 }] = [(0, 1), (1, 1), (2, 1)] := by kernel_rfl
theorem has87 : ∀ f ∈ ([{ name := "layout", type := 65, offset := 0, embedded := false, tag := "", pkgPath := "pub-orthodrome/pub/gogeom", byteOffset := 0 }, { name := "min", type := 58, offset := 1, embedded := false, tag := "", pkgPath := "pub-orthodrome/pub/gogeom", byteOffset := 8 }, { name := "max", type := 58, offset := 2, embedded := false, tag := "", pkgPath := "pub-orthodrome/pub/gogeom", byteOffset := 32 }] : List Field), (Try.prog.info? f.type).isSome = true := fun f hf => all_of (p := fun f => (Try.prog.info? f.type).isSome) (by kernel_rfl) f hf
theorem info87 : (Try.prog.info? 87).map (fun i => (i.zero, i.size, i.bytes)) = some (some (.agg #[.int .i64 0, .slice none 0 0, .slice none 0 0]), 3, 56) := by kernel_rfl
theorem isn30 : (Try.f30.name == "runtime.NumGoroutine") = false := by kernel_rfl
theorem isn42 : (Try.f42.name == "runtime.NumGoroutine") = false := by kernel_rfl
theorem info58 : (Try.prog.info? 58).map (fun i => (i.zero, i.size, i.bytes)) = some (some (.slice none 0 0), 1, 24) := by kernel_rfl
theorem flat58 : Flat Try.prog 58 := ⟨_, Try.underlying58, fun _ h => (nomatch h), fun _ _ h => (nomatch h)⟩
theorem idle28 : Idle Try.prog 28 2 := fun vs w hv => by
  obtain ⟨v0, v1, rfl⟩ : ∃ v0 v1, vs = [v0, v1] := by
    obtain _ | ⟨v0, vs⟩ := vs
    · simp at hv
    obtain _ | ⟨v1, vs⟩ := vs
    · simp at hv
    obtain _ | ⟨u, vs⟩ := vs
    · exact ⟨v0, v1, rfl⟩
    · simp at hv
  refine callsD_of_wpS Try.func28 rfl fun c₀ cs hu => ?_
  apply wpS_seq
  apply wpS_region
  simp [wpOpsS, go_sem, recoverD, hu, Try.ntmps28, Exit.thenS]
  refine wpS_cond (t := false) (by simp [Act.eval, Array.replicate]) ?_
  simp only [Bool.false_eq_true, if_false]
  refine wpS_of_wp (wp_skip ?_)
  cases c₀
  simp_all [bodyPostS, results, Try.results28]
theorem isn28 : (Try.f28.name == "runtime.NumGoroutine") = false := by kernel_rfl
theorem info4 : (Try.prog.info? 4).map (fun i => (i.zero, i.size, i.bytes)) = some (some (.bool false), 1, 1) := by kernel_rfl
theorem flat4 : Flat Try.prog 4 := ⟨_, Try.underlying4, fun _ h => (nomatch h), fun _ _ h => (nomatch h)⟩
theorem isn14 : (Try.f14.name == "runtime.NumGoroutine") = false := by kernel_rfl
def K27 : Kd (Int × (List Nat) × (List Nat)) := ⟨3, fun x => [(Vl (.int .i64 x.1)), (Sl Kf x.2.1), (Sl Kf x.2.2)], fun _ => rfl⟩

def laws_zzFits1 (k : Nat) (a0_0 : Int) (a0_1 : List Nat) (a0_2 : List Nat) : Option (Bool) :=
  br (decide (2147483647 < (a0_1.length : Int)))
    (some false)
    (br (decide (2147483647 < (a0_2.length : Int)))
      (some false)
      (some true))

theorem laws_zzFits1_sim {k : Nat}  (a0_0 : Int) (a0_1 : List Nat) (a0_2 : List Nat) {out : Bool} (hp : laws_zzFits1 k a0_0 a0_1 a0_2 = some out) : Go.Sx.Fn Try.prog 10 [(Ag [(Vl (.int .i64 a0_0)), (Sl Kf a0_1), (Sl Kf a0_2)])] [] (fun w : Unit => (Vl (.bool out))) (fun w => []) := by
  unfold laws_zzFits1 at hp
  refine fn_of Try.func10 rfl Try.ntmps10 rfl fun E hM => ?_
  refine cx_seq' fun K1 hK1 => ?_
  refine cx_region' ?_
  refine sx_ox' (ox_box' rfl (lv_ag _) rfl rfl) (wt_none' rfl) fun q1 => ?_
  refine sx_rd' (rd_assign' rfl) rfl rfl (wt_none' rfl) ?_
  refine sx_nil' ?_
  show TX E K1 _
  refine tx_k' hK1 ?_
  refine cx_seq' fun K2 hK2 => ?_
  refine cx_seq' fun K3 hK3 => ?_
  refine cx_region' ?_
  refine sx_rd' (rd_field' (off := 1) rfl Try.underlying27 rfl info22 rfl) rfl rfl (wt_none' rfl) ?_
  refine sx_rd' (rd_load' (i := 0) (o := 1) rfl ⟨rfl, rfl, rfl, rfl⟩ rfl flat22) rfl rfl (wt_none' rfl) ?_
  refine sx_rd' (rd_len' rfl Try.underlying22) rfl rfl (wt_none' rfl) ?_
  refine sx_rd' (rd_bin' rfl rfl eg_int ru_gtr) rfl rfl (wt_none' rfl) ?_
  refine sx_nil' ?_
  show TX E K3 _
  refine tx_k' hK3 ?_
  refine cx_cond' rfl (fun h1 => ?_) (fun h1 => ?_)
  · replace hp := (br_t h1).symm.trans hp
    refine cx_seq' fun K4 hK4 => ?_
    refine cx_region' ?_
    refine sx_rd' (rd_assign' rfl) rfl rfl (wt_none' rfl) ?_
    refine sx_nil' ?_
    show TX E K4 _
    refine tx_k' hK4 ?_
    refine cx_retc' ?_
    replace hp := Option.some.inj hp
    subst hp
    refine tx_pick' (L' := [(2, (Vl (.bool false)))]) (H' := []) [] (sub_cons rfl sub_nil) (by decide) pick_nil ?_
    exact tx_ret1' Try.results10 rfl () (rv_tmp' rfl) (List.Sublist.refl _)
  · replace hp := (br_f h1).symm.trans hp
    refine cx_skip' ?_
    show TX E K2 _
    refine tx_k' hK2 ?_
    refine cx_seq' fun K5 hK5 => ?_
    refine cx_seq' fun K6 hK6 => ?_
    refine cx_region' ?_
    refine sx_rd' (rd_field' (off := 2) rfl Try.underlying27 rfl info22 rfl) rfl rfl (wt_none' rfl) ?_
    refine sx_rd' (rd_load' (i := 0) (o := 2) rfl ⟨rfl, rfl, rfl, rfl⟩ rfl flat22) rfl rfl (wt_none' rfl) ?_
    refine sx_rd' (rd_len' rfl Try.underlying22) rfl rfl (wt_none' rfl) ?_
    refine sx_rd' (rd_bin' rfl rfl eg_int ru_gtr) rfl rfl (wt_none' rfl) ?_
    refine sx_nil' ?_
    show TX E K6 _
    refine tx_k' hK6 ?_
    refine cx_cond' rfl (fun h2 => ?_) (fun h2 => ?_)
    · replace hp := (br_t h2).symm.trans hp
      refine cx_seq' fun K7 hK7 => ?_
      refine cx_region' ?_
      refine sx_rd' (rd_assign' rfl) rfl rfl (wt_none' rfl) ?_
      refine sx_nil' ?_
      show TX E K7 _
      refine tx_k' hK7 ?_
      refine cx_retc' ?_
      replace hp := Option.some.inj hp
      subst hp
      refine tx_pick' (L' := [(2, (Vl (.bool false)))]) (H' := []) [] (sub_cons rfl sub_nil) (by decide) pick_nil ?_
      exact tx_ret1' Try.results10 rfl () (rv_tmp' rfl) (List.Sublist.refl _)
    · replace hp := (br_f h2).symm.trans hp
      refine cx_skip' ?_
      show TX E K5 _
      refine tx_k' hK5 ?_
      refine cx_seq' fun K8 hK8 => ?_
      refine cx_region' ?_
      refine sx_rd' (rd_assign' rfl) rfl rfl (wt_none' rfl) ?_
      refine sx_nil' ?_
      show TX E K8 _
      refine tx_k' hK8 ?_
      refine cx_retc' ?_
      replace hp := Option.some.inj hp
      subst hp
      refine tx_pick' (L' := [(2, (Vl (.bool true)))]) (H' := []) [] (sub_cons rfl sub_nil) (by decide) pick_nil ?_
      exact tx_ret1' Try.results10 rfl () (rv_tmp' rfl) (List.Sublist.refl _)

def spec_Stride_j1 (k : Nat) (a0 : Int) (x1 : Bool) : Option (Int) :=
  br x1
    (some 3)
    (some a0)
def spec_Stride (k : Nat) (a0 : Int) : Option (Int) :=
  br (decide (a0 < 1))
    (some 0)
    (br (decide (a0 = 1))
      (some 2)
      (br (decide (a0 = 2))
        (spec_Stride_j1 k a0 true)
        (spec_Stride_j1 k a0 (decide (a0 = 3)))))

theorem spec_Stride_sim {k : Nat}  (a0 : Int) {out : Int} (hp : spec_Stride k a0 = some out) : Go.Sx.Fn Try.prog 12 [(Vl (.int .i64 a0))] [] (fun w : Unit => (Vl (.int .i64 out))) (fun w => []) := by
  unfold spec_Stride at hp
  refine fn_of Try.func12 rfl Try.ntmps12 rfl fun E hM => ?_
  refine cx_seq' fun K1 hK1 => ?_
  refine cx_region' ?_
  refine sx_rd' (rd_assign' rfl) rfl rfl (wt_none' rfl) ?_
  refine sx_nil' ?_
  show TX E K1 _
  refine tx_k' hK1 ?_
  refine cx_seq' fun K2 hK2 => ?_
  refine cx_block' ?_
  refine cx_seq' fun K3 hK3 => ?_
  refine cx_region' ?_
  refine sx_rd' (rd_move' rfl) rfl rfl (wt_none' rfl) ?_
  refine sx_rd' (rd_bin' rfl rfl eg_int ru_lss) rfl rfl (wt_none' rfl) ?_
  refine sx_rd' (rd_assign' rfl) rfl rfl (wt_none' rfl) ?_
  refine sx_nil' ?_
  show TX E K3 _
  refine tx_k' hK3 ?_
  refine cx_cond' rfl (fun h1 => ?_) (fun h1 => ?_)
  · replace hp := (br_t h1).symm.trans hp
    refine cx_seq' fun K4 hK4 => ?_
    refine cx_region' ?_
    refine sx_rd' (rd_assign' rfl) rfl rfl (wt_none' rfl) ?_
    refine sx_nil' ?_
    show TX E K4 _
    refine tx_k' hK4 ?_
    refine cx_retc' ?_
    replace hp := Option.some.inj hp
    subst hp
    refine tx_pick' (L' := [(2, (Vl (.int .i64 0)))]) (H' := []) [] (sub_cons rfl sub_nil) (by decide) pick_nil ?_
    exact tx_ret1' Try.results12 rfl () (rv_tmp' rfl) (List.Sublist.refl _)
  · replace hp := (br_f h1).symm.trans hp
    refine cx_seq' fun K5 hK5 => ?_
    refine cx_region' ?_
    refine sx_rd' (rd_move' rfl) rfl rfl (wt_none' rfl) ?_
    refine sx_rd' (rd_bin' rfl rfl eg_int ru_eql) rfl rfl (wt_none' rfl) ?_
    refine sx_rd' (rd_assign' rfl) rfl rfl (wt_none' rfl) ?_
    refine sx_nil' ?_
    show TX E K5 _
    refine tx_k' hK5 ?_
    refine cx_cond' rfl (fun h2 => ?_) (fun h2 => ?_)
    · replace hp := (br_t h2).symm.trans hp
      refine cx_seq' fun K6 hK6 => ?_
      refine cx_region' ?_
      refine sx_rd' (rd_assign' rfl) rfl rfl (wt_none' rfl) ?_
      refine sx_nil' ?_
      show TX E K6 _
      refine tx_k' hK6 ?_
      refine cx_retc' ?_
      replace hp := Option.some.inj hp
      subst hp
      refine tx_pick' (L' := [(2, (Vl (.int .i64 2)))]) (H' := []) [] (sub_cons rfl sub_nil) (by decide) pick_nil ?_
      exact tx_ret1' Try.results12 rfl () (rv_tmp' rfl) (List.Sublist.refl _)
    · replace hp := (br_f h2).symm.trans hp
      refine cx_seq' fun K7 hK7 => ?_
      refine cx_region' ?_
      refine sx_rd' (rd_move' rfl) rfl rfl (wt_none' rfl) ?_
      refine sx_rd' (rd_bin' rfl rfl eg_int ru_eql) rfl rfl (wt_none' rfl) ?_
      refine sx_rd' (rd_move' rfl) rfl rfl (wt_none' rfl) ?_
      refine sx_cutn' 3 (fun (v1 : Bool) => (⟨17, [], [(0, (Vl (.int .i64 a0))), (15, (Vl (.bool v1)))], []⟩ : St)) (fun (v1 : Bool) => spec_Stride_j1 k a0 v1 = some out) ?_ ?_
      · rintro x1 hp
        replace hp : spec_Stride_j1 k a0 x1 = some out := hp
        unfold spec_Stride_j1 at hp
        refine sx_rd' (rd_assign' rfl) rfl rfl (wt_none' rfl) ?_
        refine sx_nil' ?_
        show TX E K7 _
        refine tx_k' hK7 ?_
        refine cx_cond' rfl (fun h4 => ?_) (fun h4 => ?_)
        · replace hp := (br_t h4).symm.trans hp
          refine cx_seq' fun K9 hK9 => ?_
          refine cx_region' ?_
          refine sx_rd' (rd_assign' rfl) rfl rfl (wt_none' rfl) ?_
          refine sx_nil' ?_
          show TX E K9 _
          refine tx_k' hK9 ?_
          refine cx_retc' ?_
          replace hp := Option.some.inj hp
          subst hp
          refine tx_pick' (L' := [(2, (Vl (.int .i64 3)))]) (H' := []) [] (sub_cons rfl sub_nil) (by decide) pick_nil ?_
          exact tx_ret1' Try.results12 rfl () (rv_tmp' rfl) (List.Sublist.refl _)
        · replace hp := (br_f h4).symm.trans hp
          refine cx_skip' ?_
          show TX E K2 _
          refine tx_k' hK2 ?_
          refine cx_seq' fun K10 hK10 => ?_
          refine cx_region' ?_
          refine sx_rd' (rd_move' rfl) rfl rfl (wt_none' rfl) ?_
          refine sx_rd' (rd_assign' rfl) rfl rfl (wt_none' rfl) ?_
          refine sx_nil' ?_
          show TX E K10 _
          refine tx_k' hK10 ?_
          refine cx_retc' ?_
          replace hp := Option.some.inj hp
          subst hp
          refine tx_pick' (L' := [(2, (Vl (.int .i64 a0)))]) (H' := []) [] (sub_cons rfl sub_nil) (by decide) pick_nil ?_
          exact tx_ret1' Try.results12 rfl () (rv_tmp' rfl) (List.Sublist.refl _)
      · intro K8 hK8
        rcases br_cases hp with ⟨h3, hp⟩ | ⟨h3, hp⟩
        · refine sx_skip' rfl rfl (wt_is' (wt_guard' rfl rfl rfl) (beq_tf h3)) ?_
          refine sx_skip' rfl rfl (wt_is' (wt_guard' rfl rfl rfl) (beq_tf h3)) ?_
          refine sx_rd' (rd_pick_true' rfl h3 rfl) rfl rfl (wt_none' rfl) ?_
          refine sx_nil' ?_
          show TX E K8 _
          exact tx_pick' [] (sub_cons rfl (sub_cons rfl sub_nil)) (by decide) pick_nil (hK8 true hp)
        · refine sx_rd' (rd_move' rfl) rfl rfl (wt_is' (wt_guard' rfl rfl rfl) (beq_ff h3)) ?_
          refine sx_rd' (rd_bin' rfl rfl eg_int ru_eql) rfl rfl (wt_is' (wt_guard' rfl rfl rfl) (beq_ff h3)) ?_
          refine sx_rd' (rd_pick_false' rfl h3 rfl) rfl rfl (wt_none' rfl) ?_
          refine sx_nil' ?_
          show TX E K8 _
          exact tx_pick' [] (sub_cons rfl (sub_cons rfl sub_nil)) (by decide) pick_nil (hK8 (decide (a0 = 3)) hp)

def laws_gNumber (k : Nat) (a0 : Nat) : Option (Bool) :=
  some (feq a0 a0)

theorem laws_gNumber_sim {k : Nat}  (a0 : Nat) {out : Bool} (hp : laws_gNumber k a0 = some out) : Go.Sx.Fn Try.prog 27 [(Vl (.float .f64 a0))] [] (fun w : Unit => (Vl (.bool out))) (fun w => []) := by
  unfold laws_gNumber at hp
  refine fn_of Try.func27 rfl Try.ntmps27 rfl fun E hM => ?_
  refine cx_seq' fun K1 hK1 => ?_
  refine cx_region' ?_
  refine sx_rd' (rd_assign' rfl) rfl rfl (wt_none' rfl) ?_
  refine sx_nil' ?_
  show TX E K1 _
  refine tx_k' hK1 ?_
  refine cx_seq' fun K2 hK2 => ?_
  refine cx_region' ?_
  refine sx_rd' (rd_move' rfl) rfl rfl (wt_none' rfl) ?_
  refine sx_rd' (rd_move' rfl) rfl rfl (wt_none' rfl) ?_
  refine sx_rd' (rd_bin' rfl rfl eg_flt ru_feq) rfl rfl (wt_none' rfl) ?_
  refine sx_rd' (rd_assign' rfl) rfl rfl (wt_none' rfl) ?_
  refine sx_nil' ?_
  show TX E K2 _
  refine tx_k' hK2 ?_
  refine cx_retc' ?_
  replace hp := Option.some.inj hp
  subst hp
  refine tx_pick' (L' := [(2, (Vl (.bool (feq a0 a0))))]) (H' := []) [] (sub_cons rfl sub_nil) (by decide) pick_nil ?_
  exact tx_ret1' Try.results27 rfl () (rv_tmp' rfl) (List.Sublist.refl _)

def laws_bBox_j4 (k : Nat) (rec1 : Int → Option (Unit ⊕ Unit)) (x5 : Int) (x4 : Bool) : Option (Unit ⊕ Unit) :=
  br x4
    (some (.inl ()))
    (rec1 (iadd .i64 x5 1))
def laws_bBox_l1s (r10 : Int × (List Nat) × (List Nat)) (k : Nat) (rec1 : Int → Option (Unit ⊕ Unit)) (x5 : Int) : Option (Unit ⊕ Unit) :=
  br (decide (x5 < (r10.2.1.length : Int)))
    ((idx r10.2.1 x5) >>= fun r47 =>
    (laws_gNumber k r47) >>= fun r49 =>
    br (!r49)
      (laws_bBox_j4 k rec1 x5 true)
      ((idx r10.2.2 x5) >>= fun r55 =>
      (laws_gNumber k r55) >>= fun r57 =>
      laws_bBox_j4 k rec1 x5 (!r57)))
    (some (.inr ()))
def laws_bBox_l1 (r10 : Int × (List Nat) × (List Nat)) : Nat → Int → Option (Unit ⊕ Unit)
  | 0, _ => none
  | k + 1, v => laws_bBox_l1s r10 k (laws_bBox_l1 r10 k) v
def laws_bBox_j3 (k : Nat) (r10 : Int × (List Nat) × (List Nat)) (rec2 : Int → Option (Unit ⊕ Unit)) (x6 : Int) (x3 : Bool) : Option (Unit ⊕ Unit) :=
  br x3
    (some (.inl ()))
    ((laws_bBox_l1 r10 k 0) >>= fun y1 => match y1 with
      | (.inl v7) =>
        (some (.inl ()))
      | (.inr v8) =>
        (rec2 (iadd .i64 x6 1)))
def laws_bBox_j2 (k : Nat) (r10 : Int × (List Nat) × (List Nat)) (rec2 : Int → Option (Unit ⊕ Unit)) (x6 : Int) (x2 : Bool) : Option (Unit ⊕ Unit) :=
  br x2
    (laws_bBox_j3 k r10 rec2 x6 true)
    (laws_bBox_j3 k r10 rec2 x6 (!decide ((r10.2.2.length : Int) = (r10.2.1.length : Int))))
def laws_bBox_j1 (k : Nat) (r10 : Int × (List Nat) × (List Nat)) (rec2 : Int → Option (Unit ⊕ Unit)) (x6 : Int) (x1 : Bool) : Option (Unit ⊕ Unit) :=
  br x1
    (laws_bBox_j2 k r10 rec2 x6 true)
    ((spec_Stride k r10.1) >>= fun r26 =>
    laws_bBox_j2 k r10 rec2 x6 (!decide ((r10.2.1.length : Int) = r26)))
def laws_bBox_l2s (a0 : List (Int × (List Nat) × (List Nat))) (k : Nat) (rec2 : Int → Option (Unit ⊕ Unit)) (x6 : Int) : Option (Unit ⊕ Unit) :=
  br (decide (x6 < (a0.length : Int)))
    ((idx a0 x6) >>= fun r10 =>
    br (decide (r10.1 < 0))
      (laws_bBox_j1 k r10 rec2 x6 true)
      (laws_bBox_j1 k r10 rec2 x6 (decide (9 < r10.1))))
    (some (.inr ()))
def laws_bBox_l2 (a0 : List (Int × (List Nat) × (List Nat))) : Nat → Int → Option (Unit ⊕ Unit)
  | 0, _ => none
  | k + 1, v => laws_bBox_l2s a0 k (laws_bBox_l2 a0 k) v
def laws_bBox (k : Nat) (a0 : List (Int × (List Nat) × (List Nat))) : Option (Bool) :=
  (laws_bBox_l2 a0 k 0) >>= fun y2 => match y2 with
    | (.inl v9) =>
      (some false)
    | (.inr v10) =>
      (some true)

theorem laws_bBox_sim {k : Nat}  (a0 : List (Int × (List Nat) × (List Nat))) {out : Bool} (hp : laws_bBox k a0 = some out) : Go.Sx.Fn Try.prog 11 [(Sl K27 a0)] [] (fun w : Unit => (Vl (.bool out))) (fun w => []) := by
  unfold laws_bBox at hp
  refine fn_of Try.func11 rfl Try.ntmps11 rfl fun E hM => ?_
  refine cx_seq' fun K1 hK1 => ?_
  refine cx_region' ?_
  refine sx_rd' (rd_assign' rfl) rfl rfl (wt_none' rfl) ?_
  refine sx_nil' ?_
  show TX E K1 _
  refine tx_k' hK1 ?_
  refine cx_seq' fun K2 hK2 => ?_
  refine cx_seq' fun K3 hK3 => ?_
  refine cx_region' ?_
  refine sx_rd' (rd_move' rfl) rfl rfl (wt_none' rfl) ?_
  refine sx_rd' (rd_len' rfl Try.underlying60) rfl rfl (wt_none' rfl) ?_
  refine sx_rd' (rd_move' rfl) rfl rfl (wt_none' rfl) ?_
  refine sx_nil' ?_
  show TX E K3 _
  refine tx_k' hK3 ?_
  refine cx_block' ?_
  obtain ⟨y2, hy2, hp⟩ := bind_some hp
  refine cx_loopg' (F := laws_bBox_l2 a0) (G := fun k R v => laws_bBox_l2s a0 k R v) (x := 0) (gh := ()) (fun (v1 : Int) (w1 : Unit) => (⟨62, [], [(6, (Sl K27 a0)), (7, (Vl (.int .i64 (a0.length : Int)))), (8, (Vl (.int .i64 v1)))], []⟩ : St)) (fun (y : Unit ⊕ Unit) => match y with | (.inl v9) => Zg E Exit.ret (fun (w9 : Unit) => (⟨62, [], [(2, (Vl (.bool false)))], []⟩ : St)) | (.inr v10) => Zg E (Exit.exit 0) (fun (w10 : Unit) => (⟨62, [], [], []⟩ : St))) (fun _ => rfl) (fun _ _ => rfl) ?_ hy2 (tx_to' rfl [] (sub_cons rfl (sub_cons rfl (sub_cons rfl sub_nil))) (by decide) pick_nil) ?_
  · clear hp hy2
    clear y2
    intro k rec2 KY2 ih2
    rintro x6 ⟨⟩ y2 hp
    replace hp : laws_bBox_l2s a0 k rec2 x6 = some y2 := hp
    unfold laws_bBox_l2s at hp
    refine cx_seq' fun K4 hK4 => ?_
    refine cx_region' ?_
    refine sx_rd' (rd_bin' rfl rfl eg_int ru_lss) rfl rfl (wt_none' rfl) ?_
    refine sx_nil' ?_
    show TX E K4 _
    refine tx_k' hK4 ?_
    refine cx_seq' fun K5 hK5 => ?_
    refine cx_cond' rfl (fun h2 => ?_) (fun h2 => ?_)
    · replace hp := (br_t h2).symm.trans hp
      refine cx_skip' ?_
      show TX E K5 _
      refine tx_k' hK5 ?_
      refine cx_seq' fun K6 hK6 => ?_
      refine cx_block' ?_
      refine cx_seq' fun K7 hK7 => ?_
      refine cx_region' ?_
      obtain ⟨r10, hr10, hp⟩ := bind_some hp
      refine sx_rd' (rd_at' (K := K27) rfl rfl hr10 Try.underlying60 info27) rfl rfl (wt_none' rfl) ?_
      refine sx_rd' (rd_load_pt_agg' (nn := 3) rfl rfl agg27 (l' := [(Vl (.int .i64 r10.1)), (Sl Kf r10.2.1), (Sl Kf r10.2.2)]) rfl) rfl rfl (wt_none' rfl) ?_
      refine sx_ox' (ox_alloc' info27 rfl rfl rfl rfl (l := [(Vl (.int .i64 0)), (Vl (.slice none 0 0)), (Vl (.slice none 0 0))]) rfl) (wt_none' rfl) fun q4 => ?_
      refine sx_ox' (ox_store' (i := 0) (o := 0) rfl rfl (lv_ag _) ⟨rfl, rfl, rfl, rfl⟩ rfl info27 rfl (H' := [⟨.pointer (some q4), [(Vl (.int .i64 r10.1)), (Sl Kf r10.2.1), (Sl Kf r10.2.2)], 27, none⟩]) rfl) (wt_none' rfl) fun _ => ?_
      refine sx_nil' ?_
      show TX E K7 _
      refine tx_k' hK7 ?_
      refine cx_seq' fun K8 hK8 => ?_
      refine cx_seq' fun K9 hK9 => ?_
      refine cx_plan' [] [] [(0, 1), (1, 1), (2, 1), (3, 1), (4, 1), (5, 1), (6, 1), (7, 1), (8, 1), (9, 1), (10, 1), (11, 1), (12, 1), (13, 1), (14, 0), (15, 1), (16, 1), (17, 1), (18, 1), (19, 1), (20, 1), (21, 1), (22, 1), (23, 1), (24, 1), (25, 1)] mixed (by kernel_rfl) ?_
      refine px_rd' rfl (rd_field0' rfl Try.underlying27 rfl info3 rfl) rfl rfl (wt_none' rfl) ?_
      refine px_rd' rfl (rd_load' (i := 0) (o := 0) rfl ⟨rfl, rfl, rfl, rfl⟩ rfl flat3) rfl rfl (wt_none' rfl) ?_
      refine px_rd' rfl (rd_bin' rfl rfl eg_int ru_lss) rfl rfl (wt_none' rfl) ?_
      refine px_rd' rfl (rd_move' rfl) rfl rfl (wt_none' rfl) ?_
      refine px_cutn' 4 (fun (v2 : Bool) => (⟨62, [], [(4, (Vl (.pointer (some q4)))), (6, (Sl K27 a0)), (7, (Vl (.int .i64 (a0.length : Int)))), (8, (Vl (.int .i64 x6))), (19, (Vl (.bool v2)))], [⟨.pointer (some q4), [(Vl (.int .i64 r10.1)), (Sl Kf r10.2.1), (Sl Kf r10.2.2)], 27, none⟩]⟩ : St)) (fun (v2 : Bool) => laws_bBox_j1 k r10 rec2 x6 v2 = some y2) ?_ ?_
      · rintro x1 hp
        replace hp : laws_bBox_j1 k r10 rec2 x6 x1 = some y2 := hp
        unfold laws_bBox_j1 at hp
        refine px_rd' rfl (rd_move' rfl) rfl rfl (wt_none' rfl) ?_
        refine px_cutn' 8 (fun (v3 : Bool) => (⟨62, [], [(4, (Vl (.pointer (some q4)))), (6, (Sl K27 a0)), (7, (Vl (.int .i64 (a0.length : Int)))), (8, (Vl (.int .i64 x6))), (28, (Vl (.bool v3)))], [⟨.pointer (some q4), [(Vl (.int .i64 r10.1)), (Sl Kf r10.2.1), (Sl Kf r10.2.2)], 27, none⟩]⟩ : St)) (fun (v3 : Bool) => laws_bBox_j2 k r10 rec2 x6 v3 = some y2) ?_ ?_
        · rintro x2 hp
          replace hp : laws_bBox_j2 k r10 rec2 x6 x2 = some y2 := hp
          unfold laws_bBox_j2 at hp
          refine px_rd' rfl (rd_move' rfl) rfl rfl (wt_none' rfl) ?_
          refine px_cutn' 8 (fun (v4 : Bool) => (⟨62, [], [(4, (Vl (.pointer (some q4)))), (6, (Sl K27 a0)), (7, (Vl (.int .i64 (a0.length : Int)))), (8, (Vl (.int .i64 x6))), (37, (Vl (.bool v4)))], [⟨.pointer (some q4), [(Vl (.int .i64 r10.1)), (Sl Kf r10.2.1), (Sl Kf r10.2.2)], 27, none⟩]⟩ : St)) (fun (v4 : Bool) => laws_bBox_j3 k r10 rec2 x6 v4 = some y2) ?_ ?_
          · rintro x3 hp
            replace hp : laws_bBox_j3 k r10 rec2 x6 x3 = some y2 := hp
            unfold laws_bBox_j3 at hp
            refine px_nil' ?_
            show TX E K9 _
            refine tx_k' hK9 ?_
            refine cx_cond' rfl (fun h6 => ?_) (fun h6 => ?_)
            · replace hp := (br_t h6).symm.trans hp
              refine cx_seq' fun K13 hK13 => ?_
              refine cx_region' ?_
              refine sx_rd' (rd_assign' rfl) rfl rfl (wt_none' rfl) ?_
              refine sx_nil' ?_
              show TX E K13 _
              refine tx_k' hK13 ?_
              refine cx_retc' ?_
              replace hp := Option.some.inj hp
              subst hp
              show TX E (Zg E Exit.ret _ Exit.ret) _
              exact tx_zend' () rfl [] (sub_cons rfl sub_nil) (by decide) pick_nil
            · replace hp := (br_f h6).symm.trans hp
              refine cx_skip' ?_
              show TX E K8 _
              refine tx_k' hK8 ?_
              refine cx_seq' fun K14 hK14 => ?_
              refine cx_region' ?_
              refine sx_rd' (rd_field' (off := 1) rfl Try.underlying27 rfl info22 rfl) rfl rfl (wt_none' rfl) ?_
              refine sx_rd' (rd_load' (i := 0) (o := 1) rfl ⟨rfl, rfl, rfl, rfl⟩ rfl flat22) rfl rfl (wt_none' rfl) ?_
              refine sx_rd' (rd_len' rfl Try.underlying22) rfl rfl (wt_none' rfl) ?_
              refine sx_rd' (rd_move' rfl) rfl rfl (wt_none' rfl) ?_
              refine sx_nil' ?_
              show TX E K14 _
              refine tx_k' hK14 ?_
              refine cx_block' ?_
              obtain ⟨y1, hy1, hp⟩ := bind_some hp
              refine cx_loopg' (F := laws_bBox_l1 r10) (G := fun k R v => laws_bBox_l1s r10 k R v) (x := 0) (gh := ()) (fun (v5 : Int) (w5 : Unit) => (⟨62, [], [(4, (Vl (.pointer (some q4)))), (6, (Sl K27 a0)), (7, (Vl (.int .i64 (a0.length : Int)))), (8, (Vl (.int .i64 x6))), (40, (Vl (.int .i64 (r10.2.1.length : Int)))), (41, (Vl (.int .i64 v5)))], [⟨.pointer (some q4), [(Vl (.int .i64 r10.1)), (Sl Kf r10.2.1), (Sl Kf r10.2.2)], 27, none⟩]⟩ : St)) (fun (y : Unit ⊕ Unit) => match y with | (.inl v7) => Zg E Exit.ret (fun (w7 : Unit) => (⟨62, [], [(2, (Vl (.bool false)))], []⟩ : St)) | (.inr v8) => Zg E (Exit.exit 2) (fun (w8 : Unit) => (⟨62, [], [(6, (Sl K27 a0)), (7, (Vl (.int .i64 (a0.length : Int)))), (8, (Vl (.int .i64 x6)))], []⟩ : St))) (fun _ => rfl) (fun _ _ => rfl) ?_ hy1 (tx_to' rfl [0] (sub_cons rfl (sub_cons rfl (sub_cons rfl (sub_cons rfl (sub_cons rfl (sub_cons rfl sub_nil)))))) (by decide) (pick_cons rfl pick_nil)) ?_
              · clear hp hy1
                clear y1
                intro k rec1 KY1 ih1
                rintro x5 ⟨⟩ y1 hp
                replace hp : laws_bBox_l1s r10 k rec1 x5 = some y1 := hp
                unfold laws_bBox_l1s at hp
                refine cx_seq' fun K15 hK15 => ?_
                refine cx_region' ?_
                refine sx_rd' (rd_bin' rfl rfl eg_int ru_lss) rfl rfl (wt_none' rfl) ?_
                refine sx_nil' ?_
                show TX E K15 _
                refine tx_k' hK15 ?_
                refine cx_seq' fun K16 hK16 => ?_
                refine cx_cond' rfl (fun h8 => ?_) (fun h8 => ?_)
                · replace hp := (br_t h8).symm.trans hp
                  refine cx_skip' ?_
                  show TX E K16 _
                  refine tx_k' hK16 ?_
                  refine cx_seq' fun K17 hK17 => ?_
                  refine cx_block' ?_
                  refine cx_seq' fun K18 hK18 => ?_
                  refine cx_region' ?_
                  refine sx_rd' (rd_move' rfl) rfl rfl (wt_none' rfl) ?_
                  refine sx_rd' (rd_assign' rfl) rfl rfl (wt_none' rfl) ?_
                  refine sx_nil' ?_
                  show TX E K18 _
                  refine tx_k' hK18 ?_
                  refine cx_seq' fun K19 hK19 => ?_
                  refine cx_region' ?_
                  refine sx_rd' (rd_field' (off := 1) rfl Try.underlying27 rfl info22 rfl) rfl rfl (wt_none' rfl) ?_
                  refine sx_rd' (rd_load' (i := 0) (o := 1) rfl ⟨rfl, rfl, rfl, rfl⟩ rfl flat22) rfl rfl (wt_none' rfl) ?_
                  refine sx_rd' (rd_move' rfl) rfl rfl (wt_none' rfl) ?_
                  obtain ⟨r47, hr47, hp⟩ := bind_some hp
                  refine sx_rd' (rd_at' (K := Kf) rfl rfl hr47 Try.underlying22 info34) rfl rfl (wt_none' rfl) ?_
                  refine sx_rd' (rd_load_pt' rfl rfl flat34) rfl rfl (wt_none' rfl) ?_
                  obtain ⟨r49, hr49, hp⟩ := bind_some hp
                  refine sx_ox' (ox_calln' (ent_fn' Try.func27 isn27 rfl rfl) (laws_gNumber_sim _ hr49 : Go.Sx.Fn Try.prog 27 [(Vl (.float .f64 r47))] [] (fun x : Unit => (Vl (.bool r49))) (fun x => [])) (Hn := fun x : Unit => [⟨.pointer (some q4), [(Vl (.int .i64 r10.1)), (Sl Kf r10.2.1), (Sl Kf r10.2.2)], 27, none⟩]) (fun _ => rfl) rfl rfl) (wt_none' rfl) fun ⟨⟩ => ?_
                  refine sx_rd' (rd_un' rfl ru_not) rfl rfl (wt_none' rfl) ?_
                  refine sx_rd' (rd_move' rfl) rfl rfl (wt_none' rfl) ?_
                  refine sx_cutn' 8 (fun (v6 : Bool) => (⟨62, [], [(4, (Vl (.pointer (some q4)))), (6, (Sl K27 a0)), (7, (Vl (.int .i64 (a0.length : Int)))), (8, (Vl (.int .i64 x6))), (40, (Vl (.int .i64 (r10.2.1.length : Int)))), (41, (Vl (.int .i64 x5))), (59, (Vl (.bool v6)))], [⟨.pointer (some q4), [(Vl (.int .i64 r10.1)), (Sl Kf r10.2.1), (Sl Kf r10.2.2)], 27, none⟩]⟩ : St)) (fun (v6 : Bool) => laws_bBox_j4 k rec1 x5 v6 = some y1) ?_ ?_
                  · rintro x4 hp
                    replace hp : laws_bBox_j4 k rec1 x5 x4 = some y1 := hp
                    unfold laws_bBox_j4 at hp
                    refine sx_nil' ?_
                    show TX E K19 _
                    refine tx_k' hK19 ?_
                    refine cx_cond' rfl (fun h10 => ?_) (fun h10 => ?_)
                    · replace hp := (br_t h10).symm.trans hp
                      refine cx_seq' fun K21 hK21 => ?_
                      refine cx_region' ?_
                      refine sx_rd' (rd_assign' rfl) rfl rfl (wt_none' rfl) ?_
                      refine sx_nil' ?_
                      show TX E K21 _
                      refine tx_k' hK21 ?_
                      refine cx_retc' ?_
                      replace hp := Option.some.inj hp
                      subst hp
                      show TX E (Zg E Exit.ret _ Exit.ret) _
                      exact tx_zend' () rfl [] (sub_cons rfl sub_nil) (by decide) pick_nil
                    · replace hp := (br_f h10).symm.trans hp
                      refine cx_skip' ?_
                      show TX E K17 _
                      refine tx_k' hK17 ?_
                      refine cx_region' ?_
                      refine sx_rd' (rd_bin' rfl rfl eg_int ru_add) rfl rfl (wt_none' rfl) ?_
                      refine sx_rd' (rd_move' rfl) rfl rfl (wt_none' rfl) ?_
                      refine sx_nil' ?_
                      show TX E (KY1 _) _
                      exact tx_pick' [0] (sub_cons rfl (sub_cons rfl (sub_cons rfl (sub_cons rfl (sub_cons rfl (sub_cons rfl sub_nil)))))) (by decide) (pick_cons rfl pick_nil) (ih1 (iadd .i64 x5 1) () _ hp)
                  · intro K20 hK20
                    rcases br_cases hp with ⟨h9, hp⟩ | ⟨h9, hp⟩
                    · refine sx_skip' rfl rfl (wt_is' (wt_guard' rfl rfl rfl) (beq_tf h9)) ?_
                      refine sx_skip' rfl rfl (wt_is' (wt_guard' rfl rfl rfl) (beq_tf h9)) ?_
                      refine sx_skip' rfl rfl (wt_is' (wt_guard' rfl rfl rfl) (beq_tf h9)) ?_
                      refine sx_skip' rfl rfl (wt_is' (wt_guard' rfl rfl rfl) (beq_tf h9)) ?_
                      refine sx_skip' rfl rfl (wt_is' (wt_guard' rfl rfl rfl) (beq_tf h9)) ?_
                      refine sx_skip' rfl rfl (wt_is' (wt_guard' rfl rfl rfl) (beq_tf h9)) ?_
                      refine sx_skip' rfl rfl (wt_is' (wt_guard' rfl rfl rfl) (beq_tf h9)) ?_
                      refine sx_rd' (rd_pick_true' rfl h9 rfl) rfl rfl (wt_none' rfl) ?_
                      refine sx_nil' ?_
                      show TX E K20 _
                      exact tx_pick' [0] (sub_cons rfl (sub_cons rfl (sub_cons rfl (sub_cons rfl (sub_cons rfl (sub_cons rfl (sub_cons rfl sub_nil))))))) (by decide) (pick_cons rfl pick_nil) (hK20 true hp)
                    · refine sx_rd' (rd_field' (off := 2) rfl Try.underlying27 rfl info22 rfl) rfl rfl (wt_is' (wt_guard' rfl rfl rfl) (beq_ff h9)) ?_
                      refine sx_rd' (rd_load' (i := 0) (o := 2) rfl ⟨rfl, rfl, rfl, rfl⟩ rfl flat22) rfl rfl (wt_is' (wt_guard' rfl rfl rfl) (beq_ff h9)) ?_
                      refine sx_rd' (rd_move' rfl) rfl rfl (wt_is' (wt_guard' rfl rfl rfl) (beq_ff h9)) ?_
                      obtain ⟨r55, hr55, hp⟩ := bind_some hp
                      refine sx_rd' (rd_at' (K := Kf) rfl rfl hr55 Try.underlying22 info34) rfl rfl (wt_is' (wt_guard' rfl rfl rfl) (beq_ff h9)) ?_
                      refine sx_rd' (rd_load_pt' rfl rfl flat34) rfl rfl (wt_is' (wt_guard' rfl rfl rfl) (beq_ff h9)) ?_
                      obtain ⟨r57, hr57, hp⟩ := bind_some hp
                      refine sx_ox' (ox_calln' (ent_fn' Try.func27 isn27 rfl rfl) (laws_gNumber_sim _ hr57 : Go.Sx.Fn Try.prog 27 [(Vl (.float .f64 r55))] [] (fun x : Unit => (Vl (.bool r57))) (fun x => [])) (Hn := fun x : Unit => [⟨.pointer (some q4), [(Vl (.int .i64 r10.1)), (Sl Kf r10.2.1), (Sl Kf r10.2.2)], 27, none⟩]) (fun _ => rfl) rfl rfl) (wt_is' (wt_guard' rfl rfl rfl) (beq_ff h9)) fun ⟨⟩ => ?_
                      refine sx_rd' (rd_un' rfl ru_not) rfl rfl (wt_is' (wt_guard' rfl rfl rfl) (beq_ff h9)) ?_
                      refine sx_rd' (rd_pick_false' rfl h9 rfl) rfl rfl (wt_none' rfl) ?_
                      refine sx_nil' ?_
                      show TX E K20 _
                      exact tx_pick' [0] (sub_cons rfl (sub_cons rfl (sub_cons rfl (sub_cons rfl (sub_cons rfl (sub_cons rfl (sub_cons rfl sub_nil))))))) (by decide) (pick_cons rfl pick_nil) (hK20 (!r57) hp)
                · replace hp := (br_f h8).symm.trans hp
                  refine cx_exit' ?_
                  replace hp := Option.some.inj hp
                  subst hp
                  show TX E (Zg E (Exit.exit 2) _ (Exit.exit 2)) _
                  exact tx_zend' () rfl [] (sub_cons rfl (sub_cons rfl (sub_cons rfl sub_nil))) (by decide) pick_nil
              · rcases y1 with v7 | v8
                · dsimp only at hp
                  refine zg_out fun w7 => ?_
                  replace hp := Option.some.inj hp
                  subst hp
                  show TX E (Zg E Exit.ret _ Exit.ret) _
                  exact tx_zend' () rfl [] (sub_cons rfl sub_nil) (by decide) pick_nil
                · dsimp only at hp
                  refine zg_out fun w8 => ?_
                  show TX E K6 _
                  refine tx_k' hK6 ?_
                  refine cx_region' ?_
                  refine sx_rd' (rd_bin' rfl rfl eg_int ru_add) rfl rfl (wt_none' rfl) ?_
                  refine sx_rd' (rd_move' rfl) rfl rfl (wt_none' rfl) ?_
                  refine sx_nil' ?_
                  show TX E (KY2 _) _
                  exact tx_pick' [] (sub_cons rfl (sub_cons rfl (sub_cons rfl sub_nil))) (by decide) pick_nil (ih2 (iadd .i64 x6 1) () _ hp)
          · intro K12 hK12
            rcases br_cases hp with ⟨h5, hp⟩ | ⟨h5, hp⟩
            · refine px_skip' rfl rfl rfl (wt_is' (wt_guard' rfl rfl rfl) (beq_tf h5)) ?_
              refine px_skip' rfl rfl rfl (wt_is' (wt_guard' rfl rfl rfl) (beq_tf h5)) ?_
              refine px_skip' rfl rfl rfl (wt_is' (wt_guard' rfl rfl rfl) (beq_tf h5)) ?_
              refine px_skip' rfl rfl rfl (wt_is' (wt_guard' rfl rfl rfl) (beq_tf h5)) ?_
              refine px_skip' rfl rfl rfl (wt_is' (wt_guard' rfl rfl rfl) (beq_tf h5)) ?_
              refine px_skip' rfl rfl rfl (wt_is' (wt_guard' rfl rfl rfl) (beq_tf h5)) ?_
              refine px_skip' rfl rfl rfl (wt_is' (wt_guard' rfl rfl rfl) (beq_tf h5)) ?_
              refine px_rd' rfl (rd_pick_true' rfl h5 rfl) rfl rfl (wt_none' rfl) ?_
              refine px_nil' ?_
              show TX E K12 _
              exact tx_pick' [0] (sub_cons rfl (sub_cons rfl (sub_cons rfl (sub_cons rfl (sub_cons rfl sub_nil))))) (by decide) (pick_cons rfl pick_nil) (hK12 true hp)
            · refine px_rd' rfl (rd_field' (off := 2) rfl Try.underlying27 rfl info22 rfl) rfl rfl (wt_is' (wt_guard' rfl rfl rfl) (beq_ff h5)) ?_
              refine px_rd' rfl (rd_load' (i := 0) (o := 2) rfl ⟨rfl, rfl, rfl, rfl⟩ rfl flat22) rfl rfl (wt_is' (wt_guard' rfl rfl rfl) (beq_ff h5)) ?_
              refine px_rd' rfl (rd_len' rfl Try.underlying22) rfl rfl (wt_is' (wt_guard' rfl rfl rfl) (beq_ff h5)) ?_
              refine px_rd' rfl (rd_field' (off := 1) rfl Try.underlying27 rfl info22 rfl) rfl rfl (wt_is' (wt_guard' rfl rfl rfl) (beq_ff h5)) ?_
              refine px_rd' rfl (rd_load' (i := 0) (o := 1) rfl ⟨rfl, rfl, rfl, rfl⟩ rfl flat22) rfl rfl (wt_is' (wt_guard' rfl rfl rfl) (beq_ff h5)) ?_
              refine px_rd' rfl (rd_len' rfl Try.underlying22) rfl rfl (wt_is' (wt_guard' rfl rfl rfl) (beq_ff h5)) ?_
              refine px_rd' rfl (rd_bin' rfl rfl eg_int ru_neq) rfl rfl (wt_is' (wt_guard' rfl rfl rfl) (beq_ff h5)) ?_
              refine px_rd' rfl (rd_pick_false' rfl h5 rfl) rfl rfl (wt_none' rfl) ?_
              refine px_nil' ?_
              show TX E K12 _
              exact tx_pick' [0] (sub_cons rfl (sub_cons rfl (sub_cons rfl (sub_cons rfl (sub_cons rfl sub_nil))))) (by decide) (pick_cons rfl pick_nil) (hK12 (!decide ((r10.2.2.length : Int) = (r10.2.1.length : Int))) hp)
        · intro K11 hK11
          rcases br_cases hp with ⟨h4, hp⟩ | ⟨h4, hp⟩
          · refine px_skip' rfl rfl rfl (wt_is' (wt_guard' rfl rfl rfl) (beq_tf h4)) ?_
            refine px_skip' rfl rfl rfl (wt_is' (wt_guard' rfl rfl rfl) (beq_tf h4)) ?_
            refine px_skip' rfl rfl rfl (wt_is' (wt_guard' rfl rfl rfl) (beq_tf h4)) ?_
            refine px_skip' rfl rfl rfl (wt_is' (wt_guard' rfl rfl rfl) (beq_tf h4)) ?_
            refine px_skip' rfl rfl rfl (wt_is' (wt_guard' rfl rfl rfl) (beq_tf h4)) ?_
            refine px_oskip' rfl rfl rfl (wt_is' (wt_guard' rfl rfl rfl) (beq_tf h4)) ?_
            refine px_skip' rfl rfl rfl (wt_is' (wt_guard' rfl rfl rfl) (beq_tf h4)) ?_
            refine px_rd' rfl (rd_pick_true' rfl h4 rfl) rfl rfl (wt_none' rfl) ?_
            refine px_nil' ?_
            show TX E K11 _
            exact tx_pick' [0] (sub_cons rfl (sub_cons rfl (sub_cons rfl (sub_cons rfl (sub_cons rfl sub_nil))))) (by decide) (pick_cons rfl pick_nil) (hK11 true hp)
          · refine px_rd' rfl (rd_field' (off := 1) rfl Try.underlying27 rfl info22 rfl) rfl rfl (wt_is' (wt_guard' rfl rfl rfl) (beq_ff h4)) ?_
            refine px_rd' rfl (rd_load' (i := 0) (o := 1) rfl ⟨rfl, rfl, rfl, rfl⟩ rfl flat22) rfl rfl (wt_is' (wt_guard' rfl rfl rfl) (beq_ff h4)) ?_
            refine px_rd' rfl (rd_len' rfl Try.underlying22) rfl rfl (wt_is' (wt_guard' rfl rfl rfl) (beq_ff h4)) ?_
            refine px_rd' rfl (rd_field0' rfl Try.underlying27 rfl info3 rfl) rfl rfl (wt_is' (wt_guard' rfl rfl rfl) (beq_ff h4)) ?_
            refine px_rd' rfl (rd_load' (i := 0) (o := 0) rfl ⟨rfl, rfl, rfl, rfl⟩ rfl flat3) rfl rfl (wt_is' (wt_guard' rfl rfl rfl) (beq_ff h4)) ?_
            obtain ⟨r26, hr26, hp⟩ := bind_some hp
            refine px_ox' rfl (ox_calln' (ent_fn' Try.func12 isn12 rfl rfl) (spec_Stride_sim _ hr26 : Go.Sx.Fn Try.prog 12 [(Vl (.int .i64 r10.1))] [] (fun x : Unit => (Vl (.int .i64 r26))) (fun x => [])) (Hn := fun x : Unit => [⟨.pointer (some q4), [(Vl (.int .i64 r10.1)), (Sl Kf r10.2.1), (Sl Kf r10.2.2)], 27, none⟩]) (fun _ => rfl) rfl rfl) rfl bs_nil (wt_is' (wt_guard' rfl rfl rfl) (beq_ff h4)) fun ⟨⟩ => ?_
            refine px_rd' rfl (rd_bin' rfl rfl eg_int ru_neq) rfl rfl (wt_is' (wt_guard' rfl rfl rfl) (beq_ff h4)) ?_
            refine px_rd' rfl (rd_pick_false' rfl h4 rfl) rfl rfl (wt_none' rfl) ?_
            refine px_nil' ?_
            show TX E K11 _
            exact tx_pick' [0] (sub_cons rfl (sub_cons rfl (sub_cons rfl (sub_cons rfl (sub_cons rfl sub_nil))))) (by decide) (pick_cons rfl pick_nil) (hK11 (!decide ((r10.2.1.length : Int) = r26)) hp)
      · intro K10 hK10
        rcases br_cases hp with ⟨h3, hp⟩ | ⟨h3, hp⟩
        · refine px_skip' rfl rfl rfl (wt_is' (wt_guard' rfl rfl rfl) (beq_tf h3)) ?_
          refine px_skip' rfl rfl rfl (wt_is' (wt_guard' rfl rfl rfl) (beq_tf h3)) ?_
          refine px_skip' rfl rfl rfl (wt_is' (wt_guard' rfl rfl rfl) (beq_tf h3)) ?_
          refine px_rd' rfl (rd_pick_true' rfl h3 rfl) rfl rfl (wt_none' rfl) ?_
          refine px_nil' ?_
          show TX E K10 _
          exact tx_pick' [0] (sub_cons rfl (sub_cons rfl (sub_cons rfl (sub_cons rfl (sub_cons rfl sub_nil))))) (by decide) (pick_cons rfl pick_nil) (hK10 true hp)
        · refine px_rd' rfl (rd_field0' rfl Try.underlying27 rfl info3 rfl) rfl rfl (wt_is' (wt_guard' rfl rfl rfl) (beq_ff h3)) ?_
          refine px_rd' rfl (rd_load' (i := 0) (o := 0) rfl ⟨rfl, rfl, rfl, rfl⟩ rfl flat3) rfl rfl (wt_is' (wt_guard' rfl rfl rfl) (beq_ff h3)) ?_
          refine px_rd' rfl (rd_bin' rfl rfl eg_int ru_gtr) rfl rfl (wt_is' (wt_guard' rfl rfl rfl) (beq_ff h3)) ?_
          refine px_rd' rfl (rd_pick_false' rfl h3 rfl) rfl rfl (wt_none' rfl) ?_
          refine px_nil' ?_
          show TX E K10 _
          exact tx_pick' [0] (sub_cons rfl (sub_cons rfl (sub_cons rfl (sub_cons rfl (sub_cons rfl sub_nil))))) (by decide) (pick_cons rfl pick_nil) (hK10 (decide (9 < r10.1)) hp)
    · replace hp := (br_f h2).symm.trans hp
      refine cx_exit' ?_
      replace hp := Option.some.inj hp
      subst hp
      show TX E (Zg E (Exit.exit 0) _ (Exit.exit 0)) _
      exact tx_zend' () rfl [] sub_nil (by decide) pick_nil
  · rcases y2 with v9 | v10
    · dsimp only at hp
      refine zg_out fun w9 => ?_
      replace hp := Option.some.inj hp
      subst hp
      refine tx_pick' (L' := [(2, (Vl (.bool false)))]) (H' := []) [] (sub_cons rfl sub_nil) (by decide) pick_nil ?_
      exact tx_ret1' Try.results11 rfl () (rv_tmp' rfl) (List.Sublist.refl _)
    · dsimp only at hp
      refine zg_out fun w10 => ?_
      show TX E K2 _
      refine tx_k' hK2 ?_
      refine cx_seq' fun K22 hK22 => ?_
      refine cx_region' ?_
      refine sx_rd' (rd_assign' rfl) rfl rfl (wt_none' rfl) ?_
      refine sx_nil' ?_
      show TX E K22 _
      refine tx_k' hK22 ?_
      refine cx_retc' ?_
      replace hp := Option.some.inj hp
      subst hp
      refine tx_pick' (L' := [(2, (Vl (.bool true)))]) (H' := []) [] (sub_cons rfl sub_nil) (by decide) pick_nil ?_
      exact tx_ret1' Try.results11 rfl () (rv_tmp' rfl) (List.Sublist.refl _)

def impl_floats (k : Nat) (a0 : List Nat) : Option ((List Nat)) :=
  (apd 8 [] a0) >>= fun r4 =>
  some r4

theorem impl_floats_sim {k : Nat}  (a0 : List Nat) {out : (List Nat)} (hp : impl_floats k a0 = some out) : Go.Sx.Fn Try.prog 25 [(Sl Kf a0)] [] (fun w : Unit => (Sl Kf out)) (fun w => []) := by
  unfold impl_floats at hp
  refine fn_of Try.func25 rfl Try.ntmps25 rfl fun E hM => ?_
  refine cx_seq' fun K1 hK1 => ?_
  refine cx_region' ?_
  refine sx_rd' (rd_assign' rfl) rfl rfl (wt_none' rfl) ?_
  refine sx_nil' ?_
  show TX E K1 _
  refine tx_k' hK1 ?_
  refine cx_seq' fun K2 hK2 => ?_
  refine cx_region' ?_
  refine sx_rd' (rd_move' rfl) rfl rfl (wt_none' rfl) ?_
  refine tx_nilrow' Kf 34 ?_
  obtain ⟨r4, hr4, hp⟩ := bind_some hp
  refine sx_ox' (ox_append' (K := Kf) (i := 0) (xs := []) (ys := a0) rfl rfl rfl (sr_sl' rfl Try.underlying22) hr4 Try.underlying22 info34 rfl rfl rfl (H' := []) rfl) (wt_none' rfl) fun g4 => ?_
  refine sx_rd' (rd_assign' rfl) rfl rfl (wt_none' rfl) ?_
  refine sx_nil' ?_
  show TX E K2 _
  refine tx_k' hK2 ?_
  refine cx_retc' ?_
  replace hp := Option.some.inj hp
  subst hp
  refine tx_fz' (frz_row 0 [2, 4] (K := Kf) (xs := r4) (by decide) rfl ⟨rfl, rfl, trivial⟩ (H' := []) frzH_refl) ?_
  refine tx_pick' (L' := [(2, (Sl Kf r4))]) (H' := []) [] (sub_cons rfl sub_nil) (by decide) pick_nil ?_
  exact tx_ret1' Try.results25 rfl () (rv_tmp' rfl) (List.Sublist.refl _)

def gogeom_DoorBounds (k : Nat) (a0 : Int) (a1 : List Nat) (a2 : List Nat) : Option (Int × (List Nat) × (List Nat)) :=
  some (a0, a1, a2)

theorem gogeom_DoorBounds_sim {k : Nat}  (a0 : Int) (a1 : List Nat) (a2 : List Nat) {out : Int × (List Nat) × (List Nat)} (hp : gogeom_DoorBounds k a0 a1 a2 = some out) : Go.Sx.Fn Try.prog 41 [(Vl (.int .i64 a0)), (Sl Kf a1), (Sl Kf a2)] [] (fun w : Addr => (Vl (.pointer (some w)))) (fun w => [⟨.pointer (some w), [(Vl (.int .i64 out.1)), (Sl Kf out.2.1), (Sl Kf out.2.2)], 87, none⟩]) := by
  unfold gogeom_DoorBounds at hp
  refine fn_of Try.func41 rfl Try.ntmps41 rfl fun E hM => ?_
  refine cx_seq' fun K1 hK1 => ?_
  refine cx_region' ?_
  refine sx_rd' (rd_assign' rfl) rfl rfl (wt_none' rfl) ?_
  refine sx_nil' ?_
  show TX E K1 _
  refine tx_k' hK1 ?_
  refine cx_seq' fun K2 hK2 => ?_
  refine cx_region' ?_
  refine sx_rd' (rd_move' rfl) rfl rfl (wt_none' rfl) ?_
  refine sx_rd' (rd_move' rfl) rfl rfl (wt_none' rfl) ?_
  refine sx_rd' (rd_move' rfl) rfl rfl (wt_none' rfl) ?_
  refine sx_rd' (rd_build' (pls := [(0, 1), (1, 1), (2, 1)]) (qs := [(0, [(Vl (.int .i64 a0))]), (1, [(Sl Kf a1)]), (2, [(Sl Kf a2)])]) (r := [(Vl (.int .i64 a0)), (Sl Kf a1), (Sl Kf a2)]) ⟨rfl, ⟨_, rfl, (lv_vl rfl rfl)⟩, ⟨rfl, ⟨_, rfl, (lv_sl _ _)⟩, ⟨rfl, ⟨_, rfl, (lv_sl _ _)⟩, trivial⟩⟩⟩ Try.underlying87 has87 places87 info87 rfl rfl rfl) rfl rfl (wt_none' rfl) ?_
  refine sx_ox' (ox_box' rfl (lv_ag _) rfl rfl) (wt_none' rfl) fun q11 => ?_
  refine sx_rd' (rd_assign' rfl) rfl rfl (wt_none' rfl) ?_
  refine sx_nil' ?_
  show TX E K2 _
  refine tx_k' hK2 ?_
  refine cx_retc' ?_
  replace hp := Option.some.inj hp
  subst hp
  refine tx_pick' (L' := [(6, (Vl (.pointer (some q11))))]) (H' := [⟨.pointer (some q11), [(Vl (.int .i64 a0)), (Sl Kf a1), (Sl Kf a2)], 87, none⟩]) [0] (sub_cons rfl sub_nil) (by decide) (pick_cons rfl pick_nil) ?_
  exact tx_ret1' Try.results41 rfl q11 (rv_tmp' rfl) (List.Sublist.refl _)

def impl_box (k : Nat) (a0_0 : Int) (a0_1 : List Nat) (a0_2 : List Nat) : Option (Int × (List Nat) × (List Nat)) :=
  (impl_floats k a0_1) >>= fun r7 =>
  (impl_floats k a0_2) >>= fun r10 =>
  (gogeom_DoorBounds k a0_0 r7 r10) >>= fun r11 =>
  some (r11.1, r11.2.1, r11.2.2)

theorem impl_box_sim {k : Nat}  (a0_0 : Int) (a0_1 : List Nat) (a0_2 : List Nat) {out : Int × (List Nat) × (List Nat)} (hp : impl_box k a0_0 a0_1 a0_2 = some out) : Go.Sx.Fn Try.prog 29 [(Ag [(Vl (.int .i64 a0_0)), (Sl Kf a0_1), (Sl Kf a0_2)])] [] (fun w : Addr => (Vl (.pointer (some w)))) (fun w => [⟨.pointer (some w), [(Vl (.int .i64 out.1)), (Sl Kf out.2.1), (Sl Kf out.2.2)], 87, none⟩]) := by
  unfold impl_box at hp
  refine fn_of Try.func29 rfl Try.ntmps29 rfl fun E hM => ?_
  refine cx_seq' fun K1 hK1 => ?_
  refine cx_region' ?_
  refine sx_ox' (ox_box' rfl (lv_ag _) rfl rfl) (wt_none' rfl) fun q1 => ?_
  refine sx_rd' (rd_assign' rfl) rfl rfl (wt_none' rfl) ?_
  refine sx_nil' ?_
  show TX E K1 _
  refine tx_k' hK1 ?_
  refine cx_seq' fun K2 hK2 => ?_
  refine cx_plan' [] [] [(0, 1), (1, 1), (2, 1), (3, 1), (5, 1), (6, 1), (4, 0), (7, 0), (8, 0), (9, 1)] mixed (by kernel_rfl) ?_
  refine px_rd' rfl (rd_field0' rfl Try.underlying27 rfl info3 rfl) rfl rfl (wt_none' rfl) ?_
  refine px_rd' rfl (rd_load' (i := 0) (o := 0) rfl ⟨rfl, rfl, rfl, rfl⟩ rfl flat3) rfl rfl (wt_none' rfl) ?_
  refine px_rd' rfl (rd_field' (off := 1) rfl Try.underlying27 rfl info22 rfl) rfl rfl (wt_none' rfl) ?_
  refine px_rd' rfl (rd_load' (i := 0) (o := 1) rfl ⟨rfl, rfl, rfl, rfl⟩ rfl flat22) rfl rfl (wt_none' rfl) ?_
  refine px_rd' rfl (rd_field' (off := 2) rfl Try.underlying27 rfl info22 rfl) rfl rfl (wt_none' rfl) ?_
  refine px_rd' rfl (rd_load' (i := 0) (o := 2) rfl ⟨rfl, rfl, rfl, rfl⟩ rfl flat22) rfl rfl (wt_none' rfl) ?_
  obtain ⟨r7, hr7, hp⟩ := bind_some hp
  refine px_ox' rfl (ox_calln' (ent_fn' Try.func25 isn25 rfl rfl) (impl_floats_sim _ hr7 : Go.Sx.Fn Try.prog 25 [(Sl Kf a0_1)] [] (fun x : Unit => (Sl Kf r7)) (fun x => [])) (Hn := fun x : Unit => [⟨.pointer (some q1), [(Vl (.int .i64 a0_0)), (Sl Kf a0_1), (Sl Kf a0_2)], 27, none⟩]) (fun _ => rfl) rfl rfl) rfl bs_nil (wt_none' rfl) fun ⟨⟩ => ?_
  obtain ⟨r10, hr10, hp⟩ := bind_some hp
  refine px_ox' rfl (ox_calln' (ent_fn' Try.func25 isn25 rfl rfl) (impl_floats_sim _ hr10 : Go.Sx.Fn Try.prog 25 [(Sl Kf a0_2)] [] (fun x : Unit => (Sl Kf r10)) (fun x => [])) (Hn := fun x : Unit => [⟨.pointer (some q1), [(Vl (.int .i64 a0_0)), (Sl Kf a0_1), (Sl Kf a0_2)], 27, none⟩]) (fun _ => rfl) rfl rfl) rfl bs_nil (wt_none' rfl) fun ⟨⟩ => ?_
  obtain ⟨r11, hr11, hp⟩ := bind_some hp
  refine px_ox' rfl (ox_calln' (ent_fn' Try.func41 isn41 rfl rfl) (gogeom_DoorBounds_sim _ _ _ hr11 : Go.Sx.Fn Try.prog 41 [(Vl (.int .i64 a0_0)), (Sl Kf r7), (Sl Kf r10)] [] (fun x : Addr => (Vl (.pointer (some x)))) (fun x => [⟨.pointer (some x), [(Vl (.int .i64 r11.1)), (Sl Kf r11.2.1), (Sl Kf r11.2.2)], 87, none⟩])) (Hn := fun x : Addr => [⟨.pointer (some x), [(Vl (.int .i64 r11.1)), (Sl Kf r11.2.1), (Sl Kf r11.2.2)], 87, none⟩, ⟨.pointer (some q1), [(Vl (.int .i64 a0_0)), (Sl Kf a0_1), (Sl Kf a0_2)], 27, none⟩]) (fun _ => rfl) rfl rfl) rfl bs_nil (wt_none' rfl) fun q11 => ?_
  refine px_rd' rfl (rd_assign' rfl) rfl rfl (wt_none' rfl) ?_
  refine px_nil' ?_
  show TX E K2 _
  refine tx_k' hK2 ?_
  refine cx_retc' ?_
  replace hp := Option.some.inj hp
  subst hp
  refine tx_pick' (L' := [(2, (Vl (.pointer (some q11))))]) (H' := [⟨.pointer (some q11), [(Vl (.int .i64 r11.1)), (Sl Kf r11.2.1), (Sl Kf r11.2.2)], 87, none⟩]) [0] (sub_cons rfl sub_nil) (by decide) (pick_cons rfl pick_nil) ?_
  exact tx_ret1' Try.results29 rfl q11 (rv_tmp' rfl) (List.Sublist.refl _)

def gogeom_Layout_Stride (k : Nat) (a0 : Int) : Option (Int) :=
  br (decide (a0 = 0))
    (some 0)
    (br (decide (a0 = 1))
      (some 2)
      (br (decide (a0 = 2))
        (some 3)
        (br (decide (a0 = 3))
          (some 3)
          (br (decide (a0 = 4))
            (some 4)
            (some a0)))))

theorem gogeom_Layout_Stride_sim {k : Nat}  (a0 : Int) {out : Int} (hp : gogeom_Layout_Stride k a0 = some out) : Go.Sx.Fn Try.prog 42 [(Vl (.int .i64 a0))] [] (fun w : Unit => (Vl (.int .i64 out))) (fun w => []) := by
  unfold gogeom_Layout_Stride at hp
  refine fn_of Try.func42 rfl Try.ntmps42 rfl fun E hM => ?_
  refine cx_seq' fun K1 hK1 => ?_
  refine cx_region' ?_
  refine sx_rd' (rd_assign' rfl) rfl rfl (wt_none' rfl) ?_
  refine sx_nil' ?_
  show TX E K1 _
  refine tx_k' hK1 ?_
  refine cx_seq' fun K2 hK2 => ?_
  refine cx_region' ?_
  refine sx_rd' (rd_move' rfl) rfl rfl (wt_none' rfl) ?_
  refine sx_nil' ?_
  show TX E K2 _
  refine tx_k' hK2 ?_
  refine cx_block' ?_
  refine cx_seq' fun K3 hK3 => ?_
  refine cx_region' ?_
  refine sx_rd' (rd_bin' rfl rfl eg_int ru_eql) rfl rfl (wt_none' rfl) ?_
  refine sx_rd' (rd_assign' rfl) rfl rfl (wt_none' rfl) ?_
  refine sx_nil' ?_
  show TX E K3 _
  refine tx_k' hK3 ?_
  refine cx_cond' rfl (fun h1 => ?_) (fun h1 => ?_)
  · replace hp := (br_t h1).symm.trans hp
    refine cx_seq' fun K4 hK4 => ?_
    refine cx_region' ?_
    refine sx_rd' (rd_assign' rfl) rfl rfl (wt_none' rfl) ?_
    refine sx_nil' ?_
    show TX E K4 _
    refine tx_k' hK4 ?_
    refine cx_retc' ?_
    replace hp := Option.some.inj hp
    subst hp
    refine tx_pick' (L' := [(2, (Vl (.int .i64 0)))]) (H' := []) [] (sub_cons rfl sub_nil) (by decide) pick_nil ?_
    exact tx_ret1' Try.results42 rfl () (rv_tmp' rfl) (List.Sublist.refl _)
  · replace hp := (br_f h1).symm.trans hp
    refine cx_seq' fun K5 hK5 => ?_
    refine cx_region' ?_
    refine sx_rd' (rd_bin' rfl rfl eg_int ru_eql) rfl rfl (wt_none' rfl) ?_
    refine sx_rd' (rd_assign' rfl) rfl rfl (wt_none' rfl) ?_
    refine sx_nil' ?_
    show TX E K5 _
    refine tx_k' hK5 ?_
    refine cx_cond' rfl (fun h2 => ?_) (fun h2 => ?_)
    · replace hp := (br_t h2).symm.trans hp
      refine cx_seq' fun K6 hK6 => ?_
      refine cx_region' ?_
      refine sx_rd' (rd_assign' rfl) rfl rfl (wt_none' rfl) ?_
      refine sx_nil' ?_
      show TX E K6 _
      refine tx_k' hK6 ?_
      refine cx_retc' ?_
      replace hp := Option.some.inj hp
      subst hp
      refine tx_pick' (L' := [(2, (Vl (.int .i64 2)))]) (H' := []) [] (sub_cons rfl sub_nil) (by decide) pick_nil ?_
      exact tx_ret1' Try.results42 rfl () (rv_tmp' rfl) (List.Sublist.refl _)
    · replace hp := (br_f h2).symm.trans hp
      refine cx_seq' fun K7 hK7 => ?_
      refine cx_region' ?_
      refine sx_rd' (rd_bin' rfl rfl eg_int ru_eql) rfl rfl (wt_none' rfl) ?_
      refine sx_rd' (rd_assign' rfl) rfl rfl (wt_none' rfl) ?_
      refine sx_nil' ?_
      show TX E K7 _
      refine tx_k' hK7 ?_
      refine cx_cond' rfl (fun h3 => ?_) (fun h3 => ?_)
      · replace hp := (br_t h3).symm.trans hp
        refine cx_seq' fun K8 hK8 => ?_
        refine cx_region' ?_
        refine sx_rd' (rd_assign' rfl) rfl rfl (wt_none' rfl) ?_
        refine sx_nil' ?_
        show TX E K8 _
        refine tx_k' hK8 ?_
        refine cx_retc' ?_
        replace hp := Option.some.inj hp
        subst hp
        refine tx_pick' (L' := [(2, (Vl (.int .i64 3)))]) (H' := []) [] (sub_cons rfl sub_nil) (by decide) pick_nil ?_
        exact tx_ret1' Try.results42 rfl () (rv_tmp' rfl) (List.Sublist.refl _)
      · replace hp := (br_f h3).symm.trans hp
        refine cx_seq' fun K9 hK9 => ?_
        refine cx_region' ?_
        refine sx_rd' (rd_bin' rfl rfl eg_int ru_eql) rfl rfl (wt_none' rfl) ?_
        refine sx_rd' (rd_assign' rfl) rfl rfl (wt_none' rfl) ?_
        refine sx_nil' ?_
        show TX E K9 _
        refine tx_k' hK9 ?_
        refine cx_cond' rfl (fun h4 => ?_) (fun h4 => ?_)
        · replace hp := (br_t h4).symm.trans hp
          refine cx_seq' fun K10 hK10 => ?_
          refine cx_region' ?_
          refine sx_rd' (rd_assign' rfl) rfl rfl (wt_none' rfl) ?_
          refine sx_nil' ?_
          show TX E K10 _
          refine tx_k' hK10 ?_
          refine cx_retc' ?_
          replace hp := Option.some.inj hp
          subst hp
          refine tx_pick' (L' := [(2, (Vl (.int .i64 3)))]) (H' := []) [] (sub_cons rfl sub_nil) (by decide) pick_nil ?_
          exact tx_ret1' Try.results42 rfl () (rv_tmp' rfl) (List.Sublist.refl _)
        · replace hp := (br_f h4).symm.trans hp
          refine cx_seq' fun K11 hK11 => ?_
          refine cx_region' ?_
          refine sx_rd' (rd_bin' rfl rfl eg_int ru_eql) rfl rfl (wt_none' rfl) ?_
          refine sx_rd' (rd_assign' rfl) rfl rfl (wt_none' rfl) ?_
          refine sx_nil' ?_
          show TX E K11 _
          refine tx_k' hK11 ?_
          refine cx_cond' rfl (fun h5 => ?_) (fun h5 => ?_)
          · replace hp := (br_t h5).symm.trans hp
            refine cx_seq' fun K12 hK12 => ?_
            refine cx_region' ?_
            refine sx_rd' (rd_assign' rfl) rfl rfl (wt_none' rfl) ?_
            refine sx_nil' ?_
            show TX E K12 _
            refine tx_k' hK12 ?_
            refine cx_retc' ?_
            replace hp := Option.some.inj hp
            subst hp
            refine tx_pick' (L' := [(2, (Vl (.int .i64 4)))]) (H' := []) [] (sub_cons rfl sub_nil) (by decide) pick_nil ?_
            exact tx_ret1' Try.results42 rfl () (rv_tmp' rfl) (List.Sublist.refl _)
          · replace hp := (br_f h5).symm.trans hp
            refine cx_seq' fun K13 hK13 => ?_
            refine cx_region' ?_
            refine sx_rd' (rd_move' rfl) rfl rfl (wt_none' rfl) ?_
            refine sx_rd' (rd_assign' rfl) rfl rfl (wt_none' rfl) ?_
            refine sx_nil' ?_
            show TX E K13 _
            refine tx_k' hK13 ?_
            refine cx_retc' ?_
            replace hp := Option.some.inj hp
            subst hp
            refine tx_pick' (L' := [(2, (Vl (.int .i64 a0)))]) (H' := []) [] (sub_cons rfl sub_nil) (by decide) pick_nil ?_
            exact tx_ret1' Try.results42 rfl () (rv_tmp' rfl) (List.Sublist.refl _)

def gogeom_Bounds_Overlaps_j1 (k : Nat) (rec1 : Int → Option (Unit ⊕ Unit)) (x2 : Int) (x1 : Bool) : Option (Unit ⊕ Unit) :=
  br x1
    (some (.inl ()))
    (rec1 (iadd .i64 x2 1))
def gogeom_Bounds_Overlaps_l1s (r10 : Int) (a0_1 : List Nat) (a2_2 : List Nat) (a0_2 : List Nat) (a2_1 : List Nat) (k : Nat) (rec1 : Int → Option (Unit ⊕ Unit)) (x2 : Int) : Option (Unit ⊕ Unit) :=
  br (decide (x2 < r10))
    ((idx a0_1 x2) >>= fun r21 =>
    (idx a2_2 x2) >>= fun r28 =>
    br (fgt r21 r28)
      (gogeom_Bounds_Overlaps_j1 k rec1 x2 true)
      ((idx a0_2 x2) >>= fun r37 =>
      (idx a2_1 x2) >>= fun r44 =>
      gogeom_Bounds_Overlaps_j1 k rec1 x2 (flt r37 r44)))
    (some (.inr ()))
def gogeom_Bounds_Overlaps_l1 (r10 : Int) (a0_1 : List Nat) (a2_2 : List Nat) (a0_2 : List Nat) (a2_1 : List Nat) : Nat → Int → Option (Unit ⊕ Unit)
  | 0, _ => none
  | k + 1, v => gogeom_Bounds_Overlaps_l1s r10 a0_1 a2_2 a0_2 a2_1 k (gogeom_Bounds_Overlaps_l1 r10 a0_1 a2_2 a0_2 a2_1 k) v
def gogeom_Bounds_Overlaps (k : Nat) (a0_0 : Int) (a0_1 : List Nat) (a0_2 : List Nat) (a1 : Int) (a2_0 : Int) (a2_1 : List Nat) (a2_2 : List Nat) : Option (Int × (List Nat) × (List Nat) × Int × (List Nat) × (List Nat) × Bool) :=
  (gogeom_Layout_Stride k a1) >>= fun r10 =>
  (gogeom_Bounds_Overlaps_l1 r10 a0_1 a2_2 a0_2 a2_1 k 0) >>= fun y1 => match y1 with
    | (.inl v3) =>
      (some (a0_0, a0_1, a0_2, a2_0, a2_1, a2_2, false))
    | (.inr v4) =>
      (some (a0_0, a0_1, a0_2, a2_0, a2_1, a2_2, true))

theorem gogeom_Bounds_Overlaps_sim {k : Nat} {wa0 : Addr} {wa2 : Addr} (a0_0 : Int) (a0_1 : List Nat) (a0_2 : List Nat) (a1 : Int) (a2_0 : Int) (a2_1 : List Nat) (a2_2 : List Nat) {out : Int × (List Nat) × (List Nat) × Int × (List Nat) × (List Nat) × Bool} (hp : gogeom_Bounds_Overlaps k a0_0 a0_1 a0_2 a1 a2_0 a2_1 a2_2 = some out) : Go.Sx.Fn Try.prog 30 [(Vl (.pointer (some wa0))), (Vl (.int .i64 a1)), (Vl (.pointer (some wa2)))] [⟨.pointer (some wa0), [(Vl (.int .i64 a0_0)), (Sl Kf a0_1), (Sl Kf a0_2)], 87, none⟩, ⟨.pointer (some wa2), [(Vl (.int .i64 a2_0)), (Sl Kf a2_1), (Sl Kf a2_2)], 87, none⟩] (fun w : Unit => (Vl (.bool out.2.2.2.2.2.2))) (fun w => [⟨.pointer (some wa0), [(Vl (.int .i64 out.1)), (Sl Kf out.2.1), (Sl Kf out.2.2.1)], 87, none⟩, ⟨.pointer (some wa2), [(Vl (.int .i64 out.2.2.2.1)), (Sl Kf out.2.2.2.2.1), (Sl Kf out.2.2.2.2.2.1)], 87, none⟩]) := by
  unfold gogeom_Bounds_Overlaps at hp
  refine fn_of Try.func30 rfl Try.ntmps30 rfl fun E hM => ?_
  refine cx_seq' fun K1 hK1 => ?_
  refine cx_region' ?_
  refine sx_rd' (rd_assign' rfl) rfl rfl (wt_none' rfl) ?_
  refine sx_nil' ?_
  show TX E K1 _
  refine tx_k' hK1 ?_
  refine cx_seq' fun K2 hK2 => ?_
  refine cx_seq' fun K3 hK3 => ?_
  refine cx_region' ?_
  refine sx_rd' (rd_move' rfl) rfl rfl (wt_none' rfl) ?_
  obtain ⟨r10, hr10, hp⟩ := bind_some hp
  refine sx_ox' (ox_calln' (ent_fn' Try.func42 isn42 rfl rfl) (gogeom_Layout_Stride_sim _ hr10 : Go.Sx.Fn Try.prog 42 [(Vl (.int .i64 a1))] [] (fun x : Unit => (Vl (.int .i64 r10))) (fun x => [])) (Hn := fun x : Unit => [⟨.pointer (some wa0), [(Vl (.int .i64 a0_0)), (Sl Kf a0_1), (Sl Kf a0_2)], 87, none⟩, ⟨.pointer (some wa2), [(Vl (.int .i64 a2_0)), (Sl Kf a2_1), (Sl Kf a2_2)], 87, none⟩]) (fun _ => rfl) rfl rfl) (wt_none' rfl) fun ⟨⟩ => ?_
  refine sx_rd' (rd_assign' rfl) rfl rfl (wt_none' rfl) ?_
  refine sx_rd' (rd_assign' rfl) rfl rfl (wt_none' rfl) ?_
  refine sx_nil' ?_
  show TX E K3 _
  refine tx_k' hK3 ?_
  refine cx_block' ?_
  obtain ⟨y1, hy1, hp⟩ := bind_some hp
  refine cx_loopg' (F := gogeom_Bounds_Overlaps_l1 r10 a0_1 a2_2 a0_2 a2_1) (G := fun k R v => gogeom_Bounds_Overlaps_l1s r10 a0_1 a2_2 a0_2 a2_1 k R v) (x := 0) (gh := ()) (fun (v1 : Int) (w1 : Unit) => (⟨48, [], [(0, (Vl (.pointer (some wa0)))), (2, (Vl (.pointer (some wa2)))), (7, (Vl (.int .i64 v1))), (8, (Vl (.int .i64 r10)))], [⟨.pointer (some wa0), [(Vl (.int .i64 a0_0)), (Sl Kf a0_1), (Sl Kf a0_2)], 87, none⟩, ⟨.pointer (some wa2), [(Vl (.int .i64 a2_0)), (Sl Kf a2_1), (Sl Kf a2_2)], 87, none⟩]⟩ : St)) (fun (y : Unit ⊕ Unit) => match y with | (.inl v3) => Zg E Exit.ret (fun (w3 : Unit) => (⟨48, [], [(6, (Vl (.bool false)))], [⟨.pointer (some wa0), [(Vl (.int .i64 a0_0)), (Sl Kf a0_1), (Sl Kf a0_2)], 87, none⟩, ⟨.pointer (some wa2), [(Vl (.int .i64 a2_0)), (Sl Kf a2_1), (Sl Kf a2_2)], 87, none⟩]⟩ : St)) | (.inr v4) => Zg E (Exit.exit 0) (fun (w4 : Unit) => (⟨48, [], [], [⟨.pointer (some wa0), [(Vl (.int .i64 a0_0)), (Sl Kf a0_1), (Sl Kf a0_2)], 87, none⟩, ⟨.pointer (some wa2), [(Vl (.int .i64 a2_0)), (Sl Kf a2_1), (Sl Kf a2_2)], 87, none⟩]⟩ : St))) (fun _ => rfl) (fun _ _ => rfl) ?_ hy1 (tx_to' rfl [0, 1] (sub_cons rfl (sub_cons rfl (sub_cons rfl (sub_cons rfl sub_nil)))) (by decide) (pick_cons rfl (pick_cons rfl pick_nil))) ?_
  · clear hp hy1
    clear y1
    intro k rec1 KY1 ih1
    rintro x2 ⟨⟩ y1 hp
    replace hp : gogeom_Bounds_Overlaps_l1s r10 a0_1 a2_2 a0_2 a2_1 k rec1 x2 = some y1 := hp
    unfold gogeom_Bounds_Overlaps_l1s at hp
    refine cx_seq' fun K4 hK4 => ?_
    refine cx_seq' fun K5 hK5 => ?_
    refine cx_region' ?_
    refine sx_rd' (rd_move' rfl) rfl rfl (wt_none' rfl) ?_
    refine sx_rd' (rd_move' rfl) rfl rfl (wt_none' rfl) ?_
    refine sx_rd' (rd_bin' rfl rfl eg_int ru_lss) rfl rfl (wt_none' rfl) ?_
    refine sx_nil' ?_
    show TX E K5 _
    refine tx_k' hK5 ?_
    refine cx_cond' rfl (fun h2 => ?_) (fun h2 => ?_)
    · replace hp := (br_t h2).symm.trans hp
      refine cx_skip' ?_
      show TX E K4 _
      refine tx_k' hK4 ?_
      refine cx_seq' fun K6 hK6 => ?_
      refine cx_block' ?_
      refine cx_seq' fun K7 hK7 => ?_
      refine cx_draw' mixed (by kernel_rfl) ?_
      refine qx_rd' (rd_move' rfl) rfl rfl (wt_none' rfl) ?_
      refine qx_rd' (rd_nilck' rfl) rfl rfl (wt_none' rfl) ?_
      refine qx_rd' (rd_field' (off := 1) rfl Try.underlying87 rfl info58 rfl) rfl rfl (wt_none' rfl) ?_
      refine qx_rd' (rd_load' (i := 0) (o := 1) rfl ⟨rfl, rfl, rfl, rfl⟩ rfl flat58) rfl rfl (wt_none' rfl) ?_
      refine qx_rd' (rd_move' rfl) rfl rfl (wt_none' rfl) ?_
      obtain ⟨r21, hr21, hp⟩ := bind_some hp
      refine qx_rd' (rd_at' (K := Kf) rfl rfl hr21 Try.underlying58 info34) rfl rfl (wt_none' rfl) ?_
      refine qx_rd' (rd_load_pt' rfl rfl flat34) rfl rfl (wt_none' rfl) ?_
      refine qx_rd' (rd_move' rfl) rfl rfl (wt_none' rfl) ?_
      refine qx_rd' (rd_nilck' rfl) rfl rfl (wt_none' rfl) ?_
      refine qx_rd' (rd_field' (off := 2) rfl Try.underlying87 rfl info58 rfl) rfl rfl (wt_none' rfl) ?_
      refine qx_rd' (rd_load' (i := 1) (o := 2) rfl ⟨rfl, rfl, rfl, rfl⟩ rfl flat58) rfl rfl (wt_none' rfl) ?_
      refine qx_rd' (rd_move' rfl) rfl rfl (wt_none' rfl) ?_
      obtain ⟨r28, hr28, hp⟩ := bind_some hp
      refine qx_rd' (rd_at' (K := Kf) rfl rfl hr28 Try.underlying58 info34) rfl rfl (wt_none' rfl) ?_
      refine qx_rd' (rd_load_pt' rfl rfl flat34) rfl rfl (wt_none' rfl) ?_
      refine qx_rd' (rd_bin' rfl rfl eg_flt ru_fgt) rfl rfl (wt_none' rfl) ?_
      refine qx_rd' (rd_move' rfl) rfl rfl (wt_none' rfl) ?_
      refine qx_cutn' 16 (fun (v2 : Bool) => (⟨48, [], [(0, (Vl (.pointer (some wa0)))), (2, (Vl (.pointer (some wa2)))), (7, (Vl (.int .i64 x2))), (8, (Vl (.int .i64 r10))), (47, (Vl (.bool v2)))], [⟨.pointer (some wa0), [(Vl (.int .i64 a0_0)), (Sl Kf a0_1), (Sl Kf a0_2)], 87, none⟩, ⟨.pointer (some wa2), [(Vl (.int .i64 a2_0)), (Sl Kf a2_1), (Sl Kf a2_2)], 87, none⟩]⟩ : St)) (fun (v2 : Bool) => gogeom_Bounds_Overlaps_j1 k rec1 x2 v2 = some y1) ?_ ?_
      · rintro x1 hp
        replace hp : gogeom_Bounds_Overlaps_j1 k rec1 x2 x1 = some y1 := hp
        unfold gogeom_Bounds_Overlaps_j1 at hp
        refine qx_nil' ?_
        show TX E K7 _
        refine tx_k' hK7 ?_
        refine cx_cond' rfl (fun h4 => ?_) (fun h4 => ?_)
        · replace hp := (br_t h4).symm.trans hp
          refine cx_seq' fun K9 hK9 => ?_
          refine cx_region' ?_
          refine sx_rd' (rd_assign' rfl) rfl rfl (wt_none' rfl) ?_
          refine sx_nil' ?_
          show TX E K9 _
          refine tx_k' hK9 ?_
          refine cx_retc' ?_
          replace hp := Option.some.inj hp
          subst hp
          show TX E (Zg E Exit.ret _ Exit.ret) _
          exact tx_zend' () rfl [0, 1] (sub_cons rfl sub_nil) (by decide) (pick_cons rfl (pick_cons rfl pick_nil))
        · replace hp := (br_f h4).symm.trans hp
          refine cx_skip' ?_
          show TX E K6 _
          refine tx_k' hK6 ?_
          refine cx_region' ?_
          refine sx_rd' (rd_move' rfl) rfl rfl (wt_none' rfl) ?_
          refine sx_rd' (rd_bin' rfl rfl eg_int ru_add) rfl rfl (wt_none' rfl) ?_
          refine sx_rd' (rd_assign' rfl) rfl rfl (wt_none' rfl) ?_
          refine sx_nil' ?_
          show TX E (KY1 _) _
          exact tx_pick' [0, 1] (sub_cons rfl (sub_cons rfl (sub_cons rfl (sub_cons rfl sub_nil)))) (by decide) (pick_cons rfl (pick_cons rfl pick_nil)) (ih1 (iadd .i64 x2 1) () _ hp)
      · intro K8 hK8
        rcases br_cases hp with ⟨h3, hp⟩ | ⟨h3, hp⟩
        · refine qx_skip' rfl rfl (wt_is' (wt_guard' rfl rfl rfl) (beq_tf h3)) ?_
          refine qx_skip' rfl rfl (wt_is' (wt_guard' rfl rfl rfl) (beq_tf h3)) ?_
          refine qx_skip' rfl rfl (wt_is' (wt_guard' rfl rfl rfl) (beq_tf h3)) ?_
          refine qx_skip' rfl rfl (wt_is' (wt_guard' rfl rfl rfl) (beq_tf h3)) ?_
          refine qx_skip' rfl rfl (wt_is' (wt_guard' rfl rfl rfl) (beq_tf h3)) ?_
          refine qx_skip' rfl rfl (wt_is' (wt_guard' rfl rfl rfl) (beq_tf h3)) ?_
          refine qx_skip' rfl rfl (wt_is' (wt_guard' rfl rfl rfl) (beq_tf h3)) ?_
          refine qx_skip' rfl rfl (wt_is' (wt_guard' rfl rfl rfl) (beq_tf h3)) ?_
          refine qx_skip' rfl rfl (wt_is' (wt_guard' rfl rfl rfl) (beq_tf h3)) ?_
          refine qx_skip' rfl rfl (wt_is' (wt_guard' rfl rfl rfl) (beq_tf h3)) ?_
          refine qx_skip' rfl rfl (wt_is' (wt_guard' rfl rfl rfl) (beq_tf h3)) ?_
          refine qx_skip' rfl rfl (wt_is' (wt_guard' rfl rfl rfl) (beq_tf h3)) ?_
          refine qx_skip' rfl rfl (wt_is' (wt_guard' rfl rfl rfl) (beq_tf h3)) ?_
          refine qx_skip' rfl rfl (wt_is' (wt_guard' rfl rfl rfl) (beq_tf h3)) ?_
          refine qx_skip' rfl rfl (wt_is' (wt_guard' rfl rfl rfl) (beq_tf h3)) ?_
          refine qx_rd' (rd_pick_true' rfl h3 rfl) rfl rfl (wt_none' rfl) ?_
          refine qx_end' ?_
          exact tq_pick' [0, 1] (sub_cons rfl (sub_cons rfl (sub_cons rfl (sub_cons rfl (sub_cons rfl sub_nil))))) (by decide) (pick_cons rfl (pick_cons rfl pick_nil)) (hK8 true hp)
        · refine qx_rd' (rd_move' rfl) rfl rfl (wt_is' (wt_guard' rfl rfl rfl) (beq_ff h3)) ?_
          refine qx_rd' (rd_nilck' rfl) rfl rfl (wt_is' (wt_guard' rfl rfl rfl) (beq_ff h3)) ?_
          refine qx_rd' (rd_field' (off := 2) rfl Try.underlying87 rfl info58 rfl) rfl rfl (wt_is' (wt_guard' rfl rfl rfl) (beq_ff h3)) ?_
          refine qx_rd' (rd_load' (i := 0) (o := 2) rfl ⟨rfl, rfl, rfl, rfl⟩ rfl flat58) rfl rfl (wt_is' (wt_guard' rfl rfl rfl) (beq_ff h3)) ?_
          refine qx_rd' (rd_move' rfl) rfl rfl (wt_is' (wt_guard' rfl rfl rfl) (beq_ff h3)) ?_
          obtain ⟨r37, hr37, hp⟩ := bind_some hp
          refine qx_rd' (rd_at' (K := Kf) rfl rfl hr37 Try.underlying58 info34) rfl rfl (wt_is' (wt_guard' rfl rfl rfl) (beq_ff h3)) ?_
          refine qx_rd' (rd_load_pt' rfl rfl flat34) rfl rfl (wt_is' (wt_guard' rfl rfl rfl) (beq_ff h3)) ?_
          refine qx_rd' (rd_move' rfl) rfl rfl (wt_is' (wt_guard' rfl rfl rfl) (beq_ff h3)) ?_
          refine qx_rd' (rd_nilck' rfl) rfl rfl (wt_is' (wt_guard' rfl rfl rfl) (beq_ff h3)) ?_
          refine qx_rd' (rd_field' (off := 1) rfl Try.underlying87 rfl info58 rfl) rfl rfl (wt_is' (wt_guard' rfl rfl rfl) (beq_ff h3)) ?_
          refine qx_rd' (rd_load' (i := 1) (o := 1) rfl ⟨rfl, rfl, rfl, rfl⟩ rfl flat58) rfl rfl (wt_is' (wt_guard' rfl rfl rfl) (beq_ff h3)) ?_
          refine qx_rd' (rd_move' rfl) rfl rfl (wt_is' (wt_guard' rfl rfl rfl) (beq_ff h3)) ?_
          obtain ⟨r44, hr44, hp⟩ := bind_some hp
          refine qx_rd' (rd_at' (K := Kf) rfl rfl hr44 Try.underlying58 info34) rfl rfl (wt_is' (wt_guard' rfl rfl rfl) (beq_ff h3)) ?_
          refine qx_rd' (rd_load_pt' rfl rfl flat34) rfl rfl (wt_is' (wt_guard' rfl rfl rfl) (beq_ff h3)) ?_
          refine qx_rd' (rd_bin' rfl rfl eg_flt ru_flt) rfl rfl (wt_is' (wt_guard' rfl rfl rfl) (beq_ff h3)) ?_
          refine qx_rd' (rd_pick_false' rfl h3 rfl) rfl rfl (wt_none' rfl) ?_
          refine qx_end' ?_
          exact tq_pick' [0, 1] (sub_cons rfl (sub_cons rfl (sub_cons rfl (sub_cons rfl (sub_cons rfl sub_nil))))) (by decide) (pick_cons rfl (pick_cons rfl pick_nil)) (hK8 (flt r37 r44) hp)
    · replace hp := (br_f h2).symm.trans hp
      refine cx_exit' ?_
      replace hp := Option.some.inj hp
      subst hp
      show TX E (Zg E (Exit.exit 0) _ (Exit.exit 0)) _
      exact tx_zend' () rfl [0, 1] sub_nil (by decide) (pick_cons rfl (pick_cons rfl pick_nil))
  · rcases y1 with v3 | v4
    · dsimp only at hp
      refine zg_out fun w3 => ?_
      replace hp := Option.some.inj hp
      subst hp
      refine tx_pick' (L' := [(6, (Vl (.bool false)))]) (H' := [⟨.pointer (some wa0), [(Vl (.int .i64 a0_0)), (Sl Kf a0_1), (Sl Kf a0_2)], 87, none⟩, ⟨.pointer (some wa2), [(Vl (.int .i64 a2_0)), (Sl Kf a2_1), (Sl Kf a2_2)], 87, none⟩]) [0, 1] (sub_cons rfl sub_nil) (by decide) (pick_cons rfl (pick_cons rfl pick_nil)) ?_
      exact tx_ret1' Try.results30 rfl () (rv_tmp' rfl) (List.Sublist.refl _)
    · dsimp only at hp
      refine zg_out fun w4 => ?_
      show TX E K2 _
      refine tx_k' hK2 ?_
      refine cx_seq' fun K10 hK10 => ?_
      refine cx_region' ?_
      refine sx_rd' (rd_assign' rfl) rfl rfl (wt_none' rfl) ?_
      refine sx_nil' ?_
      show TX E K10 _
      refine tx_k' hK10 ?_
      refine cx_retc' ?_
      replace hp := Option.some.inj hp
      subst hp
      refine tx_pick' (L' := [(6, (Vl (.bool true)))]) (H' := [⟨.pointer (some wa0), [(Vl (.int .i64 a0_0)), (Sl Kf a0_1), (Sl Kf a0_2)], 87, none⟩, ⟨.pointer (some wa2), [(Vl (.int .i64 a2_0)), (Sl Kf a2_1), (Sl Kf a2_2)], 87, none⟩]) [0, 1] (sub_cons rfl sub_nil) (by decide) (pick_cons rfl (pick_cons rfl pick_nil)) ?_
      exact tx_ret1' Try.results30 rfl () (rv_tmp' rfl) (List.Sublist.refl _)

def impl_BoxOverlaps (k : Nat) (a0 : Int) (a1_0 : Int) (a1_1 : List Nat) (a1_2 : List Nat) (a2_0 : Int) (a2_1 : List Nat) (a2_2 : List Nat) : Option (Bool × Bool) :=
  (impl_box k a1_0 a1_1 a1_2) >>= fun r10 =>
  (impl_box k a2_0 a2_1 a2_2) >>= fun r13 =>
  (gogeom_Bounds_Overlaps k r10.1 r10.2.1 r10.2.2 a0 r13.1 r13.2.1 r13.2.2) >>= fun r14 =>
  some (r14.2.2.2.2.2.2, true)

theorem impl_BoxOverlaps_sim {k : Nat}  (a0 : Int) (a1_0 : Int) (a1_1 : List Nat) (a1_2 : List Nat) (a2_0 : Int) (a2_1 : List Nat) (a2_2 : List Nat) {out : Bool × Bool} (hp : impl_BoxOverlaps k a0 a1_0 a1_1 a1_2 a2_0 a2_1 a2_2 = some out) : Go.Sx.Fn Try.prog 13 [(Vl (.int .i64 a0)), (Ag [(Vl (.int .i64 a1_0)), (Sl Kf a1_1), (Sl Kf a1_2)]), (Ag [(Vl (.int .i64 a2_0)), (Sl Kf a2_1), (Sl Kf a2_2)])] [] (fun w : Unit => (Tu [(Vl (.bool out.1)), (Vl (.bool out.2))])) (fun w => []) := by
  unfold impl_BoxOverlaps at hp
  refine fnD_of Try.func13 rfl Try.ntmps13 rfl fun E hM => ?_
  refine cx_seq' fun K1 hK1 => ?_
  refine cx_region' ?_
  refine sx_ox' (ox_box' rfl (lv_ag _) rfl rfl) (wt_none' rfl) fun q4 => ?_
  refine sx_ox' (ox_box' rfl (lv_ag _) rfl rfl) (wt_none' rfl) fun q5 => ?_
  refine sx_ox' (ox_alloc' info4 rfl rfl rfl rfl (l := [(Vl (.bool false))]) rfl) (wt_none' rfl) fun q6 => ?_
  refine sx_ox' (ox_alloc' info4 rfl rfl rfl rfl (l := [(Vl (.bool false))]) rfl) (wt_none' rfl) fun q7 => ?_
  refine sx_nil' ?_
  show TX E K1 _
  refine tx_k' hK1 ?_
  refine cx_seq' fun K2 hK2 => ?_
  refine cx_region' ?_
  refine sx_rd' (rd_mkfunc' (us := [.pointer (some q6), .pointer (some q7)]) rfl) rfl rfl (wt_none' rfl) ?_
  refine sx_ox' (ox_defer' rfl rfl) (wt_none' rfl) fun _ => ?_
  refine sx_nil' ?_
  show TX E K2 _
  refine tx_k' hK2 ?_
  refine cx_seq' fun K3 hK3 => ?_
  refine cx_plan' [] [(5, 2), (6, 2), (7, 2)] [(0, 1), (2, 1), (3, 1), (1, 0), (4, 0), (5, 0), (6, 0), (7, 0)] mixed (by kernel_rfl) ?_
  refine px_rd' rfl (rd_load_agg' (i := 3) (o := 0) (nn := 3) rfl ⟨rfl, rfl, rfl, rfl⟩ rfl agg27 (l' := [(Vl (.int .i64 a1_0)), (Sl Kf a1_1), (Sl Kf a1_2)]) rfl) rfl rfl (wt_none' rfl) ?_
  refine px_rd' rfl (rd_move' rfl) rfl rfl (wt_none' rfl) ?_
  refine px_rd' rfl (rd_load_agg' (i := 2) (o := 0) (nn := 3) rfl ⟨rfl, rfl, rfl, rfl⟩ rfl agg27 (l' := [(Vl (.int .i64 a2_0)), (Sl Kf a2_1), (Sl Kf a2_2)]) rfl) rfl rfl (wt_none' rfl) ?_
  obtain ⟨r10, hr10, hp⟩ := bind_some hp
  refine px_ox' rfl (ox_calln' (ent_fn' Try.func29 isn29 rfl rfl) (impl_box_sim _ _ _ hr10 : Go.Sx.Fn Try.prog 29 [(Ag [(Vl (.int .i64 a1_0)), (Sl Kf a1_1), (Sl Kf a1_2)])] [] (fun x : Addr => (Vl (.pointer (some x)))) (fun x => [⟨.pointer (some x), [(Vl (.int .i64 r10.1)), (Sl Kf r10.2.1), (Sl Kf r10.2.2)], 87, none⟩])) (Hn := fun x : Addr => [⟨.pointer (some x), [(Vl (.int .i64 r10.1)), (Sl Kf r10.2.1), (Sl Kf r10.2.2)], 87, none⟩, ⟨.pointer (some q7), [(Vl (.bool false))], 4, none⟩, ⟨.pointer (some q6), [(Vl (.bool false))], 4, none⟩, ⟨.pointer (some q5), [(Vl (.int .i64 a2_0)), (Sl Kf a2_1), (Sl Kf a2_2)], 27, none⟩, ⟨.pointer (some q4), [(Vl (.int .i64 a1_0)), (Sl Kf a1_1), (Sl Kf a1_2)], 27, none⟩]) (fun _ => rfl) rfl rfl) rfl bs_nil (wt_none' rfl) fun q10 => ?_
  obtain ⟨r13, hr13, hp⟩ := bind_some hp
  refine px_ox' rfl (ox_calln' (ent_fn' Try.func29 isn29 rfl rfl) (impl_box_sim _ _ _ hr13 : Go.Sx.Fn Try.prog 29 [(Ag [(Vl (.int .i64 a2_0)), (Sl Kf a2_1), (Sl Kf a2_2)])] [] (fun x : Addr => (Vl (.pointer (some x)))) (fun x => [⟨.pointer (some x), [(Vl (.int .i64 r13.1)), (Sl Kf r13.2.1), (Sl Kf r13.2.2)], 87, none⟩])) (Hn := fun x : Addr => [⟨.pointer (some x), [(Vl (.int .i64 r13.1)), (Sl Kf r13.2.1), (Sl Kf r13.2.2)], 87, none⟩, ⟨.pointer (some q10), [(Vl (.int .i64 r10.1)), (Sl Kf r10.2.1), (Sl Kf r10.2.2)], 87, none⟩, ⟨.pointer (some q7), [(Vl (.bool false))], 4, none⟩, ⟨.pointer (some q6), [(Vl (.bool false))], 4, none⟩, ⟨.pointer (some q5), [(Vl (.int .i64 a2_0)), (Sl Kf a2_1), (Sl Kf a2_2)], 27, none⟩, ⟨.pointer (some q4), [(Vl (.int .i64 a1_0)), (Sl Kf a1_1), (Sl Kf a1_2)], 27, none⟩]) (fun _ => rfl) rfl rfl) rfl bs_nil (wt_none' rfl) fun q13 => ?_
  obtain ⟨r14, hr14, hp⟩ := bind_some hp
  refine px_ox' rfl (ox_callg' (ent_fn' Try.func30 isn30 rfl rfl) (gogeom_Bounds_Overlaps_sim _ _ _ _ _ _ _ hr14 : Go.Sx.Fn Try.prog 30 [(Vl (.pointer (some q10))), (Vl (.int .i64 a0)), (Vl (.pointer (some q13)))] [⟨.pointer (some q10), [(Vl (.int .i64 r10.1)), (Sl Kf r10.2.1), (Sl Kf r10.2.2)], 87, none⟩, ⟨.pointer (some q13), [(Vl (.int .i64 r13.1)), (Sl Kf r13.2.1), (Sl Kf r13.2.2)], 87, none⟩] (fun x : Unit => (Vl (.bool r14.2.2.2.2.2.2))) (fun x => [⟨.pointer (some q10), [(Vl (.int .i64 r14.1)), (Sl Kf r14.2.1), (Sl Kf r14.2.2.1)], 87, none⟩, ⟨.pointer (some q13), [(Vl (.int .i64 r14.2.2.2.1)), (Sl Kf r14.2.2.2.2.1), (Sl Kf r14.2.2.2.2.2.1)], 87, none⟩])) [1, 0] [2, 3, 4, 5] (by decide) (pick_cons rfl (pick_cons rfl pick_nil)) (pick_cons rfl (pick_cons rfl (pick_cons rfl (pick_cons rfl pick_nil)))) (Hn := fun x : Unit => [⟨.pointer (some q10), [(Vl (.int .i64 r14.1)), (Sl Kf r14.2.1), (Sl Kf r14.2.2.1)], 87, none⟩, ⟨.pointer (some q13), [(Vl (.int .i64 r14.2.2.2.1)), (Sl Kf r14.2.2.2.2.1), (Sl Kf r14.2.2.2.2.2.1)], 87, none⟩, ⟨.pointer (some q7), [(Vl (.bool false))], 4, none⟩, ⟨.pointer (some q6), [(Vl (.bool false))], 4, none⟩, ⟨.pointer (some q5), [(Vl (.int .i64 a2_0)), (Sl Kf a2_1), (Sl Kf a2_2)], 27, none⟩, ⟨.pointer (some q4), [(Vl (.int .i64 a1_0)), (Sl Kf a1_1), (Sl Kf a1_2)], 27, none⟩]) (fun _ => rfl) rfl rfl) rfl bs_nil (wt_none' rfl) fun ⟨⟩ => ?_
  refine px_ox' rfl (ox_store' (i := 3) (o := 0) rfl rfl (lv_vl rfl rfl) ⟨rfl, rfl, rfl, rfl⟩ rfl info4 rfl (H' := [⟨.pointer (some q10), [(Vl (.int .i64 r14.1)), (Sl Kf r14.2.1), (Sl Kf r14.2.2.1)], 87, none⟩, ⟨.pointer (some q13), [(Vl (.int .i64 r14.2.2.2.1)), (Sl Kf r14.2.2.2.2.1), (Sl Kf r14.2.2.2.2.2.1)], 87, none⟩, ⟨.pointer (some q7), [(Vl (.bool false))], 4, none⟩, ⟨.pointer (some q6), [(Vl (.bool r14.2.2.2.2.2.2))], 4, none⟩, ⟨.pointer (some q5), [(Vl (.int .i64 a2_0)), (Sl Kf a2_1), (Sl Kf a2_2)], 27, none⟩, ⟨.pointer (some q4), [(Vl (.int .i64 a1_0)), (Sl Kf a1_1), (Sl Kf a1_2)], 27, none⟩]) rfl) rfl bs_nil (wt_none' rfl) fun _ => ?_
  refine px_ox' rfl (ox_store' (i := 2) (o := 0) rfl rfl (lv_vl rfl rfl) ⟨rfl, rfl, rfl, rfl⟩ rfl info4 rfl (H' := [⟨.pointer (some q10), [(Vl (.int .i64 r14.1)), (Sl Kf r14.2.1), (Sl Kf r14.2.2.1)], 87, none⟩, ⟨.pointer (some q13), [(Vl (.int .i64 r14.2.2.2.1)), (Sl Kf r14.2.2.2.2.1), (Sl Kf r14.2.2.2.2.2.1)], 87, none⟩, ⟨.pointer (some q7), [(Vl (.bool true))], 4, none⟩, ⟨.pointer (some q6), [(Vl (.bool r14.2.2.2.2.2.2))], 4, none⟩, ⟨.pointer (some q5), [(Vl (.int .i64 a2_0)), (Sl Kf a2_1), (Sl Kf a2_2)], 27, none⟩, ⟨.pointer (some q4), [(Vl (.int .i64 a1_0)), (Sl Kf a1_1), (Sl Kf a1_2)], 27, none⟩]) rfl) rfl bs_nil (wt_none' rfl) fun _ => ?_
  refine px_nil' ?_
  show TX E K3 _
  refine tx_k' hK3 ?_
  refine cx_retc' ?_
  replace hp := Option.some.inj hp
  subst hp
  refine tx_leave' (.inl rfl) rfl idle28 rfl Try.func28 isn28 rfl ?_
  refine tx_pick' (L' := [(6, (Vl (.pointer (some q6)))), (7, (Vl (.pointer (some q7))))]) (H' := [⟨.pointer (some q6), [(Vl (.bool r14.2.2.2.2.2.2))], 4, none⟩, ⟨.pointer (some q7), [(Vl (.bool true))], 4, none⟩]) [3, 2] (sub_cons rfl (sub_cons rfl sub_nil)) (by decide) (pick_cons rfl (pick_cons rfl pick_nil)) ?_
  exact tx_ret2' Try.results13 rfl () (rv_cell' (i := 0) (o := 0) rfl ⟨rfl, rfl, rfl, rfl⟩ rfl flat4) (rv_cell' (i := 1) (o := 0) rfl ⟨rfl, rfl, rfl, rfl⟩ rfl flat4) rfl (List.nil_sublist _)

def spec_BoxesOverlap_j1 (k : Nat) (rec1 : Int → Option (Unit ⊕ Unit)) (x2 : Int) (x1 : Bool) : Option (Unit ⊕ Unit) :=
  br x1
    (some (.inl ()))
    (rec1 (iadd .i64 x2 1))
def spec_BoxesOverlap_l1s (r9 : Int) (a1_2 : List Nat) (a2_1 : List Nat) (a2_2 : List Nat) (a1_1 : List Nat) (k : Nat) (rec1 : Int → Option (Unit ⊕ Unit)) (x2 : Int) : Option (Unit ⊕ Unit) :=
  br (decide (x2 < r9))
    ((idx a1_2 x2) >>= fun r16 =>
    (idx a2_1 x2) >>= fun r21 =>
    br (flt r16 r21)
      (spec_BoxesOverlap_j1 k rec1 x2 true)
      ((idx a2_2 x2) >>= fun r28 =>
      (idx a1_1 x2) >>= fun r33 =>
      spec_BoxesOverlap_j1 k rec1 x2 (flt r28 r33)))
    (some (.inr ()))
def spec_BoxesOverlap_l1 (r9 : Int) (a1_2 : List Nat) (a2_1 : List Nat) (a2_2 : List Nat) (a1_1 : List Nat) : Nat → Int → Option (Unit ⊕ Unit)
  | 0, _ => none
  | k + 1, v => spec_BoxesOverlap_l1s r9 a1_2 a2_1 a2_2 a1_1 k (spec_BoxesOverlap_l1 r9 a1_2 a2_1 a2_2 a1_1 k) v
def spec_BoxesOverlap (k : Nat) (a0 : Int) (a1_0 : Int) (a1_1 : List Nat) (a1_2 : List Nat) (a2_0 : Int) (a2_1 : List Nat) (a2_2 : List Nat) : Option (Bool) :=
  (spec_Stride k a0) >>= fun r9 =>
  (spec_BoxesOverlap_l1 r9 a1_2 a2_1 a2_2 a1_1 k 0) >>= fun y1 => match y1 with
    | (.inl v3) =>
      (some false)
    | (.inr v4) =>
      (some true)

theorem spec_BoxesOverlap_sim {k : Nat}  (a0 : Int) (a1_0 : Int) (a1_1 : List Nat) (a1_2 : List Nat) (a2_0 : Int) (a2_1 : List Nat) (a2_2 : List Nat) {out : Bool} (hp : spec_BoxesOverlap k a0 a1_0 a1_1 a1_2 a2_0 a2_1 a2_2 = some out) : Go.Sx.Fn Try.prog 14 [(Vl (.int .i64 a0)), (Ag [(Vl (.int .i64 a1_0)), (Sl Kf a1_1), (Sl Kf a1_2)]), (Ag [(Vl (.int .i64 a2_0)), (Sl Kf a2_1), (Sl Kf a2_2)])] [] (fun w : Unit => (Vl (.bool out))) (fun w => []) := by
  unfold spec_BoxesOverlap at hp
  refine fn_of Try.func14 rfl Try.ntmps14 rfl fun E hM => ?_
  refine cx_seq' fun K1 hK1 => ?_
  refine cx_region' ?_
  refine sx_ox' (ox_box' rfl (lv_ag _) rfl rfl) (wt_none' rfl) fun q4 => ?_
  refine sx_ox' (ox_box' rfl (lv_ag _) rfl rfl) (wt_none' rfl) fun q5 => ?_
  refine sx_rd' (rd_assign' rfl) rfl rfl (wt_none' rfl) ?_
  refine sx_nil' ?_
  show TX E K1 _
  refine tx_k' hK1 ?_
  refine cx_seq' fun K2 hK2 => ?_
  refine cx_seq' fun K3 hK3 => ?_
  refine cx_region' ?_
  refine sx_rd' (rd_move' rfl) rfl rfl (wt_none' rfl) ?_
  obtain ⟨r9, hr9, hp⟩ := bind_some hp
  refine sx_ox' (ox_calln' (ent_fn' Try.func12 isn12 rfl rfl) (spec_Stride_sim _ hr9 : Go.Sx.Fn Try.prog 12 [(Vl (.int .i64 a0))] [] (fun x : Unit => (Vl (.int .i64 r9))) (fun x => [])) (Hn := fun x : Unit => [⟨.pointer (some q5), [(Vl (.int .i64 a2_0)), (Sl Kf a2_1), (Sl Kf a2_2)], 27, none⟩, ⟨.pointer (some q4), [(Vl (.int .i64 a1_0)), (Sl Kf a1_1), (Sl Kf a1_2)], 27, none⟩]) (fun _ => rfl) rfl rfl) (wt_none' rfl) fun ⟨⟩ => ?_
  refine sx_rd' (rd_move' rfl) rfl rfl (wt_none' rfl) ?_
  refine sx_nil' ?_
  show TX E K3 _
  refine tx_k' hK3 ?_
  refine cx_block' ?_
  obtain ⟨y1, hy1, hp⟩ := bind_some hp
  refine cx_loopg' (F := spec_BoxesOverlap_l1 r9 a1_2 a2_1 a2_2 a1_1) (G := fun k R v => spec_BoxesOverlap_l1s r9 a1_2 a2_1 a2_2 a1_1 k R v) (x := 0) (gh := ()) (fun (v1 : Int) (w1 : Unit) => (⟨38, [], [(4, (Vl (.pointer (some q4)))), (5, (Vl (.pointer (some q5)))), (9, (Vl (.int .i64 r9))), (10, (Vl (.int .i64 v1)))], [⟨.pointer (some q4), [(Vl (.int .i64 a1_0)), (Sl Kf a1_1), (Sl Kf a1_2)], 27, none⟩, ⟨.pointer (some q5), [(Vl (.int .i64 a2_0)), (Sl Kf a2_1), (Sl Kf a2_2)], 27, none⟩]⟩ : St)) (fun (y : Unit ⊕ Unit) => match y with | (.inl v3) => Zg E Exit.ret (fun (w3 : Unit) => (⟨38, [], [(6, (Vl (.bool false)))], []⟩ : St)) | (.inr v4) => Zg E (Exit.exit 0) (fun (w4 : Unit) => (⟨38, [], [], []⟩ : St))) (fun _ => rfl) (fun _ _ => rfl) ?_ hy1 (tx_to' rfl [1, 0] (sub_cons rfl (sub_cons rfl (sub_cons rfl (sub_cons rfl sub_nil)))) (by decide) (pick_cons rfl (pick_cons rfl pick_nil))) ?_
  · clear hp hy1
    clear y1
    intro k rec1 KY1 ih1
    rintro x2 ⟨⟩ y1 hp
    replace hp : spec_BoxesOverlap_l1s r9 a1_2 a2_1 a2_2 a1_1 k rec1 x2 = some y1 := hp
    unfold spec_BoxesOverlap_l1s at hp
    refine cx_seq' fun K4 hK4 => ?_
    refine cx_region' ?_
    refine sx_rd' (rd_bin' rfl rfl eg_int ru_lss) rfl rfl (wt_none' rfl) ?_
    refine sx_nil' ?_
    show TX E K4 _
    refine tx_k' hK4 ?_
    refine cx_seq' fun K5 hK5 => ?_
    refine cx_cond' rfl (fun h2 => ?_) (fun h2 => ?_)
    · replace hp := (br_t h2).symm.trans hp
      refine cx_skip' ?_
      show TX E K5 _
      refine tx_k' hK5 ?_
      refine cx_seq' fun K6 hK6 => ?_
      refine cx_block' ?_
      refine cx_seq' fun K7 hK7 => ?_
      refine cx_region' ?_
      refine sx_rd' (rd_move' rfl) rfl rfl (wt_none' rfl) ?_
      refine sx_rd' (rd_assign' rfl) rfl rfl (wt_none' rfl) ?_
      refine sx_nil' ?_
      show TX E K7 _
      refine tx_k' hK7 ?_
      refine cx_seq' fun K8 hK8 => ?_
      refine cx_draw' mixed (by kernel_rfl) ?_
      refine qx_rd' (rd_field' (off := 2) rfl Try.underlying27 rfl info22 rfl) rfl rfl (wt_none' rfl) ?_
      refine qx_rd' (rd_load' (i := 0) (o := 2) rfl ⟨rfl, rfl, rfl, rfl⟩ rfl flat22) rfl rfl (wt_none' rfl) ?_
      refine qx_rd' (rd_move' rfl) rfl rfl (wt_none' rfl) ?_
      obtain ⟨r16, hr16, hp⟩ := bind_some hp
      refine qx_rd' (rd_at' (K := Kf) rfl rfl hr16 Try.underlying22 info34) rfl rfl (wt_none' rfl) ?_
      refine qx_rd' (rd_load_pt' rfl rfl flat34) rfl rfl (wt_none' rfl) ?_
      refine qx_rd' (rd_field' (off := 1) rfl Try.underlying27 rfl info22 rfl) rfl rfl (wt_none' rfl) ?_
      refine qx_rd' (rd_load' (i := 1) (o := 1) rfl ⟨rfl, rfl, rfl, rfl⟩ rfl flat22) rfl rfl (wt_none' rfl) ?_
      refine qx_rd' (rd_move' rfl) rfl rfl (wt_none' rfl) ?_
      obtain ⟨r21, hr21, hp⟩ := bind_some hp
      refine qx_rd' (rd_at' (K := Kf) rfl rfl hr21 Try.underlying22 info34) rfl rfl (wt_none' rfl) ?_
      refine qx_rd' (rd_load_pt' rfl rfl flat34) rfl rfl (wt_none' rfl) ?_
      refine qx_rd' (rd_bin' rfl rfl eg_flt ru_flt) rfl rfl (wt_none' rfl) ?_
      refine qx_rd' (rd_move' rfl) rfl rfl (wt_none' rfl) ?_
      refine qx_cutn' 12 (fun (v2 : Bool) => (⟨38, [], [(4, (Vl (.pointer (some q4)))), (5, (Vl (.pointer (some q5)))), (9, (Vl (.int .i64 r9))), (10, (Vl (.int .i64 x2))), (36, (Vl (.bool v2)))], [⟨.pointer (some q4), [(Vl (.int .i64 a1_0)), (Sl Kf a1_1), (Sl Kf a1_2)], 27, none⟩, ⟨.pointer (some q5), [(Vl (.int .i64 a2_0)), (Sl Kf a2_1), (Sl Kf a2_2)], 27, none⟩]⟩ : St)) (fun (v2 : Bool) => spec_BoxesOverlap_j1 k rec1 x2 v2 = some y1) ?_ ?_
      · rintro x1 hp
        replace hp : spec_BoxesOverlap_j1 k rec1 x2 x1 = some y1 := hp
        unfold spec_BoxesOverlap_j1 at hp
        refine qx_nil' ?_
        show TX E K8 _
        refine tx_k' hK8 ?_
        refine cx_cond' rfl (fun h4 => ?_) (fun h4 => ?_)
        · replace hp := (br_t h4).symm.trans hp
          refine cx_seq' fun K10 hK10 => ?_
          refine cx_region' ?_
          refine sx_rd' (rd_assign' rfl) rfl rfl (wt_none' rfl) ?_
          refine sx_nil' ?_
          show TX E K10 _
          refine tx_k' hK10 ?_
          refine cx_retc' ?_
          replace hp := Option.some.inj hp
          subst hp
          show TX E (Zg E Exit.ret _ Exit.ret) _
          exact tx_zend' () rfl [] (sub_cons rfl sub_nil) (by decide) pick_nil
        · replace hp := (br_f h4).symm.trans hp
          refine cx_skip' ?_
          show TX E K6 _
          refine tx_k' hK6 ?_
          refine cx_region' ?_
          refine sx_rd' (rd_bin' rfl rfl eg_int ru_add) rfl rfl (wt_none' rfl) ?_
          refine sx_rd' (rd_move' rfl) rfl rfl (wt_none' rfl) ?_
          refine sx_nil' ?_
          show TX E (KY1 _) _
          exact tx_pick' [0, 1] (sub_cons rfl (sub_cons rfl (sub_cons rfl (sub_cons rfl sub_nil)))) (by decide) (pick_cons rfl (pick_cons rfl pick_nil)) (ih1 (iadd .i64 x2 1) () _ hp)
      · intro K9 hK9
        rcases br_cases hp with ⟨h3, hp⟩ | ⟨h3, hp⟩
        · refine qx_skip' rfl rfl (wt_is' (wt_guard' rfl rfl rfl) (beq_tf h3)) ?_
          refine qx_skip' rfl rfl (wt_is' (wt_guard' rfl rfl rfl) (beq_tf h3)) ?_
          refine qx_skip' rfl rfl (wt_is' (wt_guard' rfl rfl rfl) (beq_tf h3)) ?_
          refine qx_skip' rfl rfl (wt_is' (wt_guard' rfl rfl rfl) (beq_tf h3)) ?_
          refine qx_skip' rfl rfl (wt_is' (wt_guard' rfl rfl rfl) (beq_tf h3)) ?_
          refine qx_skip' rfl rfl (wt_is' (wt_guard' rfl rfl rfl) (beq_tf h3)) ?_
          refine qx_skip' rfl rfl (wt_is' (wt_guard' rfl rfl rfl) (beq_tf h3)) ?_
          refine qx_skip' rfl rfl (wt_is' (wt_guard' rfl rfl rfl) (beq_tf h3)) ?_
          refine qx_skip' rfl rfl (wt_is' (wt_guard' rfl rfl rfl) (beq_tf h3)) ?_
          refine qx_skip' rfl rfl (wt_is' (wt_guard' rfl rfl rfl) (beq_tf h3)) ?_
          refine qx_skip' rfl rfl (wt_is' (wt_guard' rfl rfl rfl) (beq_tf h3)) ?_
          refine qx_rd' (rd_pick_true' rfl h3 rfl) rfl rfl (wt_none' rfl) ?_
          refine qx_end' ?_
          exact tq_pick' [0, 1] (sub_cons rfl (sub_cons rfl (sub_cons rfl (sub_cons rfl (sub_cons rfl sub_nil))))) (by decide) (pick_cons rfl (pick_cons rfl pick_nil)) (hK9 true hp)
        · refine qx_rd' (rd_field' (off := 2) rfl Try.underlying27 rfl info22 rfl) rfl rfl (wt_is' (wt_guard' rfl rfl rfl) (beq_ff h3)) ?_
          refine qx_rd' (rd_load' (i := 1) (o := 2) rfl ⟨rfl, rfl, rfl, rfl⟩ rfl flat22) rfl rfl (wt_is' (wt_guard' rfl rfl rfl) (beq_ff h3)) ?_
          refine qx_rd' (rd_move' rfl) rfl rfl (wt_is' (wt_guard' rfl rfl rfl) (beq_ff h3)) ?_
          obtain ⟨r28, hr28, hp⟩ := bind_some hp
          refine qx_rd' (rd_at' (K := Kf) rfl rfl hr28 Try.underlying22 info34) rfl rfl (wt_is' (wt_guard' rfl rfl rfl) (beq_ff h3)) ?_
          refine qx_rd' (rd_load_pt' rfl rfl flat34) rfl rfl (wt_is' (wt_guard' rfl rfl rfl) (beq_ff h3)) ?_
          refine qx_rd' (rd_field' (off := 1) rfl Try.underlying27 rfl info22 rfl) rfl rfl (wt_is' (wt_guard' rfl rfl rfl) (beq_ff h3)) ?_
          refine qx_rd' (rd_load' (i := 0) (o := 1) rfl ⟨rfl, rfl, rfl, rfl⟩ rfl flat22) rfl rfl (wt_is' (wt_guard' rfl rfl rfl) (beq_ff h3)) ?_
          refine qx_rd' (rd_move' rfl) rfl rfl (wt_is' (wt_guard' rfl rfl rfl) (beq_ff h3)) ?_
          obtain ⟨r33, hr33, hp⟩ := bind_some hp
          refine qx_rd' (rd_at' (K := Kf) rfl rfl hr33 Try.underlying22 info34) rfl rfl (wt_is' (wt_guard' rfl rfl rfl) (beq_ff h3)) ?_
          refine qx_rd' (rd_load_pt' rfl rfl flat34) rfl rfl (wt_is' (wt_guard' rfl rfl rfl) (beq_ff h3)) ?_
          refine qx_rd' (rd_bin' rfl rfl eg_flt ru_flt) rfl rfl (wt_is' (wt_guard' rfl rfl rfl) (beq_ff h3)) ?_
          refine qx_rd' (rd_pick_false' rfl h3 rfl) rfl rfl (wt_none' rfl) ?_
          refine qx_end' ?_
          exact tq_pick' [0, 1] (sub_cons rfl (sub_cons rfl (sub_cons rfl (sub_cons rfl (sub_cons rfl sub_nil))))) (by decide) (pick_cons rfl (pick_cons rfl pick_nil)) (hK9 (flt r28 r33) hp)
    · replace hp := (br_f h2).symm.trans hp
      refine cx_exit' ?_
      replace hp := Option.some.inj hp
      subst hp
      show TX E (Zg E (Exit.exit 0) _ (Exit.exit 0)) _
      exact tx_zend' () rfl [] sub_nil (by decide) pick_nil
  · rcases y1 with v3 | v4
    · dsimp only at hp
      refine zg_out fun w3 => ?_
      replace hp := Option.some.inj hp
      subst hp
      refine tx_pick' (L' := [(6, (Vl (.bool false)))]) (H' := []) [] (sub_cons rfl sub_nil) (by decide) pick_nil ?_
      exact tx_ret1' Try.results14 rfl () (rv_tmp' rfl) (List.Sublist.refl _)
    · dsimp only at hp
      refine zg_out fun w4 => ?_
      show TX E K2 _
      refine tx_k' hK2 ?_
      refine cx_seq' fun K11 hK11 => ?_
      refine cx_region' ?_
      refine sx_rd' (rd_assign' rfl) rfl rfl (wt_none' rfl) ?_
      refine sx_nil' ?_
      show TX E K11 _
      refine tx_k' hK11 ?_
      refine cx_retc' ?_
      replace hp := Option.some.inj hp
      subst hp
      refine tx_pick' (L' := [(6, (Vl (.bool true)))]) (H' := []) [] (sub_cons rfl sub_nil) (by decide) pick_nil ?_
      exact tx_ret1' Try.results14 rfl () (rv_tmp' rfl) (List.Sublist.refl _)

def laws_FnBoxOverlaps_j4 (k : Nat) (x4 : Bool) : Option (Bool) :=
  some x4
def laws_FnBoxOverlaps_j3 (k : Nat) (a0 : Int) (a1_0 : Int) (a1_1 : List Nat) (a1_2 : List Nat) (a2_0 : Int) (a2_1 : List Nat) (a2_2 : List Nat) (x3 : Bool) : Option (Bool) :=
  br x3
    (some true)
    ((impl_BoxOverlaps k a0 a1_0 a1_1 a1_2 a2_0 a2_1 a2_2) >>= fun r42 =>
    br r42.2
      ((spec_BoxesOverlap k a0 a1_0 a1_1 a1_2 a2_0 a2_1 a2_2) >>= fun r51 =>
      laws_FnBoxOverlaps_j4 k (r42.1 == r51))
      (laws_FnBoxOverlaps_j4 k false))
def laws_FnBoxOverlaps_j2 (k : Nat) (a0 : Int) (a1_0 : Int) (a1_1 : List Nat) (a1_2 : List Nat) (a2_0 : Int) (a2_1 : List Nat) (a2_2 : List Nat) (x2 : Bool) : Option (Bool) :=
  br x2
    (laws_FnBoxOverlaps_j3 k a0 a1_0 a1_1 a1_2 a2_0 a2_1 a2_2 true)
    ((spec_Stride k a0) >>= fun r28 =>
    laws_FnBoxOverlaps_j3 k a0 a1_0 a1_1 a1_2 a2_0 a2_1 a2_2 (decide ((imin (a1_1.length : Int) (a2_1.length : Int)) < r28)))
def laws_FnBoxOverlaps_j1 (k : Nat) (a1_0 : Int) (a1_1 : List Nat) (a1_2 : List Nat) (a2_0 : Int) (a2_1 : List Nat) (a2_2 : List Nat) (a0 : Int) (x1 : Bool) : Option (Bool) :=
  br x1
    (some true)
    ((laws_bBox k ([(a1_0, a1_1, a1_2), (a2_0, a2_1, a2_2)])) >>= fun r20 =>
    br (!r20)
      (laws_FnBoxOverlaps_j2 k a0 a1_0 a1_1 a1_2 a2_0 a2_1 a2_2 true)
      (laws_FnBoxOverlaps_j2 k a0 a1_0 a1_1 a1_2 a2_0 a2_1 a2_2 (decide (a0 < 1))))
def laws_FnBoxOverlaps (k : Nat) (a0 : Int) (a1_0 : Int) (a1_1 : List Nat) (a1_2 : List Nat) (a2_0 : Int) (a2_1 : List Nat) (a2_2 : List Nat) : Option (Bool) :=
  (laws_zzFits1 k a1_0 a1_1 a1_2) >>= fun r10 =>
  br (!r10)
    (laws_FnBoxOverlaps_j1 k a1_0 a1_1 a1_2 a2_0 a2_1 a2_2 a0 true)
    ((laws_zzFits1 k a2_0 a2_1 a2_2) >>= fun r14 =>
    laws_FnBoxOverlaps_j1 k a1_0 a1_1 a1_2 a2_0 a2_1 a2_2 a0 (!r14))

theorem laws_FnBoxOverlaps_sim {k : Nat}  (a0 : Int) (a1_0 : Int) (a1_1 : List Nat) (a1_2 : List Nat) (a2_0 : Int) (a2_1 : List Nat) (a2_2 : List Nat) {out : Bool} (hp : laws_FnBoxOverlaps k a0 a1_0 a1_1 a1_2 a2_0 a2_1 a2_2 = some out) : Go.Sx.Fn Try.prog 4 [(Vl (.int .i64 a0)), (Ag [(Vl (.int .i64 a1_0)), (Sl Kf a1_1), (Sl Kf a1_2)]), (Ag [(Vl (.int .i64 a2_0)), (Sl Kf a2_1), (Sl Kf a2_2)])] [] (fun w : Unit => (Vl (.bool out))) (fun w => []) := by
  unfold laws_FnBoxOverlaps at hp
  refine fn_of Try.func4 rfl Try.ntmps4 rfl fun E hM => ?_
  refine cx_seq' fun K1 hK1 => ?_
  refine cx_region' ?_
  refine sx_ox' (ox_box' rfl (lv_ag _) rfl rfl) (wt_none' rfl) fun q4 => ?_
  refine sx_ox' (ox_box' rfl (lv_ag _) rfl rfl) (wt_none' rfl) fun q5 => ?_
  refine sx_rd' (rd_assign' rfl) rfl rfl (wt_none' rfl) ?_
  refine sx_nil' ?_
  show TX E K1 _
  refine tx_k' hK1 ?_
  refine cx_seq' fun K2 hK2 => ?_
  refine cx_seq' fun K3 hK3 => ?_
  refine cx_region' ?_
  refine sx_rd' (rd_load_agg' (i := 1) (o := 0) (nn := 3) rfl ⟨rfl, rfl, rfl, rfl⟩ rfl agg27 (l' := [(Vl (.int .i64 a1_0)), (Sl Kf a1_1), (Sl Kf a1_2)]) rfl) rfl rfl (wt_none' rfl) ?_
  obtain ⟨r10, hr10, hp⟩ := bind_some hp
  refine sx_ox' (ox_calln' (ent_fn' Try.func10 isn10 rfl rfl) (laws_zzFits1_sim _ _ _ hr10 : Go.Sx.Fn Try.prog 10 [(Ag [(Vl (.int .i64 a1_0)), (Sl Kf a1_1), (Sl Kf a1_2)])] [] (fun x : Unit => (Vl (.bool r10))) (fun x => [])) (Hn := fun x : Unit => [⟨.pointer (some q5), [(Vl (.int .i64 a2_0)), (Sl Kf a2_1), (Sl Kf a2_2)], 27, none⟩, ⟨.pointer (some q4), [(Vl (.int .i64 a1_0)), (Sl Kf a1_1), (Sl Kf a1_2)], 27, none⟩]) (fun _ => rfl) rfl rfl) (wt_none' rfl) fun ⟨⟩ => ?_
  refine sx_rd' (rd_un' rfl ru_not) rfl rfl (wt_none' rfl) ?_
  refine sx_rd' (rd_move' rfl) rfl rfl (wt_none' rfl) ?_
  refine sx_cutn' 4 (fun (v1 : Bool) => (⟨54, [], [(0, (Vl (.int .i64 a0))), (4, (Vl (.pointer (some q4)))), (5, (Vl (.pointer (some q5)))), (16, (Vl (.bool v1)))], [⟨.pointer (some q4), [(Vl (.int .i64 a1_0)), (Sl Kf a1_1), (Sl Kf a1_2)], 27, none⟩, ⟨.pointer (some q5), [(Vl (.int .i64 a2_0)), (Sl Kf a2_1), (Sl Kf a2_2)], 27, none⟩]⟩ : St)) (fun (v1 : Bool) => laws_FnBoxOverlaps_j1 k a1_0 a1_1 a1_2 a2_0 a2_1 a2_2 a0 v1 = some out) ?_ ?_
  · rintro x1 hp
    replace hp : laws_FnBoxOverlaps_j1 k a1_0 a1_1 a1_2 a2_0 a2_1 a2_2 a0 x1 = some out := hp
    unfold laws_FnBoxOverlaps_j1 at hp
    refine sx_nil' ?_
    show TX E K3 _
    refine tx_k' hK3 ?_
    refine cx_cond' rfl (fun h2 => ?_) (fun h2 => ?_)
    · replace hp := (br_t h2).symm.trans hp
      refine cx_seq' fun K5 hK5 => ?_
      refine cx_region' ?_
      refine sx_rd' (rd_assign' rfl) rfl rfl (wt_none' rfl) ?_
      refine sx_nil' ?_
      show TX E K5 _
      refine tx_k' hK5 ?_
      refine cx_retc' ?_
      replace hp := Option.some.inj hp
      subst hp
      refine tx_pick' (L' := [(6, (Vl (.bool true)))]) (H' := []) [] (sub_cons rfl sub_nil) (by decide) pick_nil ?_
      exact tx_ret1' Try.results4 rfl () (rv_tmp' rfl) (List.Sublist.refl _)
    · replace hp := (br_f h2).symm.trans hp
      refine cx_skip' ?_
      show TX E K2 _
      refine tx_k' hK2 ?_
      refine cx_seq' fun K6 hK6 => ?_
      refine cx_seq' fun K7 hK7 => ?_
      refine cx_plan' [] [] [(0, 1), (1, 1), (2, 0), (3, 0), (4, 1), (5, 1), (6, 1), (7, 1), (8, 1), (9, 1), (10, 1), (12, 1), (13, 1), (14, 1), (15, 1), (16, 1), (17, 1), (18, 1), (11, 0), (19, 1), (20, 1)] mixed (by kernel_rfl) ?_
      refine px_rd' rfl (rd_load_agg' (i := 0) (o := 0) (nn := 3) rfl ⟨rfl, rfl, rfl, rfl⟩ rfl agg27 (l' := [(Vl (.int .i64 a1_0)), (Sl Kf a1_1), (Sl Kf a1_2)]) rfl) rfl rfl (wt_none' rfl) ?_
      refine px_rd' rfl (rd_load_agg' (i := 1) (o := 0) (nn := 3) rfl ⟨rfl, rfl, rfl, rfl⟩ rfl agg27 (l' := [(Vl (.int .i64 a2_0)), (Sl Kf a2_1), (Sl Kf a2_2)]) rfl) rfl rfl (wt_none' rfl) ?_
      refine px_ox' rfl (ox_rowlit' (K := K27) (xs := [(a1_0, a1_1, a1_2), (a2_0, a2_1, a2_2)]) (qs := [(0, [(Vl (.int .i64 a1_0)), (Sl Kf a1_1), (Sl Kf a1_2)]), (1, [(Vl (.int .i64 a2_0)), (Sl Kf a2_1), (Sl Kf a2_2)])]) ⟨rfl, ⟨_, rfl, (lv_ag _)⟩, ⟨rfl, ⟨_, rfl, (lv_ag _)⟩, trivial⟩⟩ Try.underlying60 info27 rfl rfl rfl rfl rfl rfl rfl rfl rfl) rfl bs_nil (wt_none' rfl) fun g19 => ?_
      obtain ⟨r20, hr20, hp⟩ := bind_some hp
      refine px_ox' rfl (ox_brw' (frz_row 0 [19] (K := K27) (xs := [(a1_0, a1_1, a1_2), (a2_0, a2_1, a2_2)]) (by decide) rfl ⟨rfl, trivial⟩ (H' := [⟨.pointer (some q4), [(Vl (.int .i64 a1_0)), (Sl Kf a1_1), (Sl Kf a1_2)], 27, none⟩, ⟨.pointer (some q5), [(Vl (.int .i64 a2_0)), (Sl Kf a2_1), (Sl Kf a2_2)], 27, none⟩]) frzH_refl) (ent_fn' Try.func11 isn11 rfl rfl) (laws_bBox_sim _ hr20 : Go.Sx.Fn Try.prog 11 [(Sl K27 ([(a1_0, a1_1, a1_2), (a2_0, a2_1, a2_2)]))] [] (fun x : Unit => (Vl (.bool r20))) (fun x => [])) pu_vl rfl rfl) rfl bs_nil (wt_none' rfl) fun ⟨⟩ => ?_
      refine px_rd' rfl (rd_un' rfl ru_not) rfl rfl (wt_none' rfl) ?_
      refine px_rd' rfl (rd_move' rfl) rfl rfl (wt_none' rfl) ?_
      refine px_cutn' 3 (fun (v2 : Bool) => (⟨54, [], [(0, (Vl (.int .i64 a0))), (4, (Vl (.pointer (some q4)))), (5, (Vl (.pointer (some q5)))), (25, (Vl (.bool v2)))], [⟨.pointer (some q4), [(Vl (.int .i64 a1_0)), (Sl Kf a1_1), (Sl Kf a1_2)], 27, none⟩, ⟨.pointer (some q5), [(Vl (.int .i64 a2_0)), (Sl Kf a2_1), (Sl Kf a2_2)], 27, none⟩]⟩ : St)) (fun (v2 : Bool) => laws_FnBoxOverlaps_j2 k a0 a1_0 a1_1 a1_2 a2_0 a2_1 a2_2 v2 = some out) ?_ ?_
      · rintro x2 hp
        replace hp : laws_FnBoxOverlaps_j2 k a0 a1_0 a1_1 a1_2 a2_0 a2_1 a2_2 x2 = some out := hp
        unfold laws_FnBoxOverlaps_j2 at hp
        refine px_rd' rfl (rd_move' rfl) rfl rfl (wt_none' rfl) ?_
        refine px_cutn' 11 (fun (v3 : Bool) => (⟨54, [], [(0, (Vl (.int .i64 a0))), (4, (Vl (.pointer (some q4)))), (5, (Vl (.pointer (some q5)))), (37, (Vl (.bool v3)))], [⟨.pointer (some q4), [(Vl (.int .i64 a1_0)), (Sl Kf a1_1), (Sl Kf a1_2)], 27, none⟩, ⟨.pointer (some q5), [(Vl (.int .i64 a2_0)), (Sl Kf a2_1), (Sl Kf a2_2)], 27, none⟩]⟩ : St)) (fun (v3 : Bool) => laws_FnBoxOverlaps_j3 k a0 a1_0 a1_1 a1_2 a2_0 a2_1 a2_2 v3 = some out) ?_ ?_
        · rintro x3 hp
          replace hp : laws_FnBoxOverlaps_j3 k a0 a1_0 a1_1 a1_2 a2_0 a2_1 a2_2 x3 = some out := hp
          unfold laws_FnBoxOverlaps_j3 at hp
          refine px_nil' ?_
          show TX E K7 _
          refine tx_k' hK7 ?_
          refine cx_cond' rfl (fun h5 => ?_) (fun h5 => ?_)
          · replace hp := (br_t h5).symm.trans hp
            refine cx_seq' fun K10 hK10 => ?_
            refine cx_region' ?_
            refine sx_rd' (rd_assign' rfl) rfl rfl (wt_none' rfl) ?_
            refine sx_nil' ?_
            show TX E K10 _
            refine tx_k' hK10 ?_
            refine cx_retc' ?_
            replace hp := Option.some.inj hp
            subst hp
            refine tx_pick' (L' := [(6, (Vl (.bool true)))]) (H' := []) [] (sub_cons rfl sub_nil) (by decide) pick_nil ?_
            exact tx_ret1' Try.results4 rfl () (rv_tmp' rfl) (List.Sublist.refl _)
          · replace hp := (br_f h5).symm.trans hp
            refine cx_skip' ?_
            show TX E K6 _
            refine tx_k' hK6 ?_
            refine cx_seq' fun K11 hK11 => ?_
            refine cx_region' ?_
            refine sx_rd' (rd_move' rfl) rfl rfl (wt_none' rfl) ?_
            refine sx_rd' (rd_load_agg' (i := 0) (o := 0) (nn := 3) rfl ⟨rfl, rfl, rfl, rfl⟩ rfl agg27 (l' := [(Vl (.int .i64 a1_0)), (Sl Kf a1_1), (Sl Kf a1_2)]) rfl) rfl rfl (wt_none' rfl) ?_
            refine sx_rd' (rd_load_agg' (i := 1) (o := 0) (nn := 3) rfl ⟨rfl, rfl, rfl, rfl⟩ rfl agg27 (l' := [(Vl (.int .i64 a2_0)), (Sl Kf a2_1), (Sl Kf a2_2)]) rfl) rfl rfl (wt_none' rfl) ?_
            obtain ⟨r42, hr42, hp⟩ := bind_some hp
            refine sx_ox' (ox_calln' (ent_fn' Try.func13 isn13 rfl rfl) (impl_BoxOverlaps_sim _ _ _ _ _ _ _ hr42 : Go.Sx.Fn Try.prog 13 [(Vl (.int .i64 a0)), (Ag [(Vl (.int .i64 a1_0)), (Sl Kf a1_1), (Sl Kf a1_2)]), (Ag [(Vl (.int .i64 a2_0)), (Sl Kf a2_1), (Sl Kf a2_2)])] [] (fun x : Unit => (Tu [(Vl (.bool r42.1)), (Vl (.bool r42.2))])) (fun x => [])) (Hn := fun x : Unit => [⟨.pointer (some q4), [(Vl (.int .i64 a1_0)), (Sl Kf a1_1), (Sl Kf a1_2)], 27, none⟩, ⟨.pointer (some q5), [(Vl (.int .i64 a2_0)), (Sl Kf a2_1), (Sl Kf a2_2)], 27, none⟩]) (fun _ => rfl) rfl rfl) (wt_none' rfl) fun ⟨⟩ => ?_
            refine sx_rd' (rd_move' rfl) rfl rfl (wt_none' rfl) ?_
            refine sx_rd' (rd_extract' rfl rfl) rfl rfl (wt_none' rfl) ?_
            refine sx_rd' (rd_extract' rfl rfl) rfl rfl (wt_none' rfl) ?_
            refine sx_rd' (rd_assign' rfl) rfl rfl (wt_none' rfl) ?_
            refine sx_rd' (rd_assign' rfl) rfl rfl (wt_none' rfl) ?_
            refine sx_nil' ?_
            show TX E K11 _
            refine tx_k' hK11 ?_
            refine cx_seq' fun K12 hK12 => ?_
            refine cx_region' ?_
            refine sx_rd' (rd_move' rfl) rfl rfl (wt_none' rfl) ?_
            refine sx_rd' (rd_move' rfl) rfl rfl (wt_none' rfl) ?_
            refine sx_cutn' 7 (fun (v4 : Bool) => (⟨54, [], [(53, (Vl (.bool v4)))], []⟩ : St)) (fun (v4 : Bool) => laws_FnBoxOverlaps_j4 k v4 = some out) ?_ ?_
            · rintro x4 hp
              replace hp : laws_FnBoxOverlaps_j4 k x4 = some out := hp
              unfold laws_FnBoxOverlaps_j4 at hp
              refine sx_rd' (rd_assign' rfl) rfl rfl (wt_none' rfl) ?_
              refine sx_nil' ?_
              show TX E K12 _
              refine tx_k' hK12 ?_
              refine cx_retc' ?_
              replace hp := Option.some.inj hp
              subst hp
              refine tx_pick' (L' := [(6, (Vl (.bool x4)))]) (H' := []) [] (sub_cons rfl sub_nil) (by decide) pick_nil ?_
              exact tx_ret1' Try.results4 rfl () (rv_tmp' rfl) (List.Sublist.refl _)
            · intro K13 hK13
              rcases br_cases hp with ⟨h6, hp⟩ | ⟨h6, hp⟩
              · refine sx_rd' (rd_move' rfl) rfl rfl (wt_is' (wt_guard' rfl rfl rfl) (beq_tt h6)) ?_
                refine sx_rd' (rd_move' rfl) rfl rfl (wt_is' (wt_guard' rfl rfl rfl) (beq_tt h6)) ?_
                refine sx_rd' (rd_load_agg' (i := 0) (o := 0) (nn := 3) rfl ⟨rfl, rfl, rfl, rfl⟩ rfl agg27 (l' := [(Vl (.int .i64 a1_0)), (Sl Kf a1_1), (Sl Kf a1_2)]) rfl) rfl rfl (wt_is' (wt_guard' rfl rfl rfl) (beq_tt h6)) ?_
                refine sx_rd' (rd_load_agg' (i := 1) (o := 0) (nn := 3) rfl ⟨rfl, rfl, rfl, rfl⟩ rfl agg27 (l' := [(Vl (.int .i64 a2_0)), (Sl Kf a2_1), (Sl Kf a2_2)]) rfl) rfl rfl (wt_is' (wt_guard' rfl rfl rfl) (beq_tt h6)) ?_
                obtain ⟨r51, hr51, hp⟩ := bind_some hp
                refine sx_ox' (ox_calln' (ent_fn' Try.func14 isn14 rfl rfl) (spec_BoxesOverlap_sim _ _ _ _ _ _ _ hr51 : Go.Sx.Fn Try.prog 14 [(Vl (.int .i64 a0)), (Ag [(Vl (.int .i64 a1_0)), (Sl Kf a1_1), (Sl Kf a1_2)]), (Ag [(Vl (.int .i64 a2_0)), (Sl Kf a2_1), (Sl Kf a2_2)])] [] (fun x : Unit => (Vl (.bool r51))) (fun x => [])) (Hn := fun x : Unit => [⟨.pointer (some q4), [(Vl (.int .i64 a1_0)), (Sl Kf a1_1), (Sl Kf a1_2)], 27, none⟩, ⟨.pointer (some q5), [(Vl (.int .i64 a2_0)), (Sl Kf a2_1), (Sl Kf a2_2)], 27, none⟩]) (fun _ => rfl) rfl rfl) (wt_is' (wt_guard' rfl rfl rfl) (beq_tt h6)) fun ⟨⟩ => ?_
                refine sx_rd' (rd_bin' rfl rfl eg_bool (ru_beq Try.underlying4)) rfl rfl (wt_is' (wt_guard' rfl rfl rfl) (beq_tt h6)) ?_
                refine sx_rd' (rd_pick_true' rfl h6 rfl) rfl rfl (wt_none' rfl) ?_
                refine sx_nil' ?_
                show TX E K13 _
                exact tx_pick' [] (sub_cons rfl sub_nil) (by decide) pick_nil (hK13 (r42.1 == r51) hp)
              · refine sx_skip' rfl rfl (wt_is' (wt_guard' rfl rfl rfl) (beq_ft h6)) ?_
                refine sx_skip' rfl rfl (wt_is' (wt_guard' rfl rfl rfl) (beq_ft h6)) ?_
                refine sx_skip' rfl rfl (wt_is' (wt_guard' rfl rfl rfl) (beq_ft h6)) ?_
                refine sx_skip' rfl rfl (wt_is' (wt_guard' rfl rfl rfl) (beq_ft h6)) ?_
                refine sx_skip' rfl rfl (wt_is' (wt_guard' rfl rfl rfl) (beq_ft h6)) ?_
                refine sx_skip' rfl rfl (wt_is' (wt_guard' rfl rfl rfl) (beq_ft h6)) ?_
                refine sx_rd' (rd_pick_false' rfl h6 rfl) rfl rfl (wt_none' rfl) ?_
                refine sx_nil' ?_
                show TX E K13 _
                exact tx_pick' [] (sub_cons rfl sub_nil) (by decide) pick_nil (hK13 false hp)
        · intro K9 hK9
          rcases br_cases hp with ⟨h4, hp⟩ | ⟨h4, hp⟩
          · refine px_skip' rfl rfl rfl (wt_is' (wt_guard' rfl rfl rfl) (beq_tf h4)) ?_
            refine px_skip' rfl rfl rfl (wt_is' (wt_guard' rfl rfl rfl) (beq_tf h4)) ?_
            refine px_skip' rfl rfl rfl (wt_is' (wt_guard' rfl rfl rfl) (beq_tf h4)) ?_
            refine px_skip' rfl rfl rfl (wt_is' (wt_guard' rfl rfl rfl) (beq_tf h4)) ?_
            refine px_skip' rfl rfl rfl (wt_is' (wt_guard' rfl rfl rfl) (beq_tf h4)) ?_
            refine px_skip' rfl rfl rfl (wt_is' (wt_guard' rfl rfl rfl) (beq_tf h4)) ?_
            refine px_skip' rfl rfl rfl (wt_is' (wt_guard' rfl rfl rfl) (beq_tf h4)) ?_
            refine px_skip' rfl rfl rfl (wt_is' (wt_guard' rfl rfl rfl) (beq_tf h4)) ?_
            refine px_oskip' rfl rfl rfl (wt_is' (wt_guard' rfl rfl rfl) (beq_tf h4)) ?_
            refine px_skip' rfl rfl rfl (wt_is' (wt_guard' rfl rfl rfl) (beq_tf h4)) ?_
            refine px_rd' rfl (rd_pick_true' rfl h4 rfl) rfl rfl (wt_none' rfl) ?_
            refine px_nil' ?_
            show TX E K9 _
            exact tx_pick' [0, 1] (sub_cons rfl (sub_cons rfl (sub_cons rfl (sub_cons rfl sub_nil)))) (by decide) (pick_cons rfl (pick_cons rfl pick_nil)) (hK9 true hp)
          · refine px_rd' rfl (rd_move' rfl) rfl rfl (wt_is' (wt_guard' rfl rfl rfl) (beq_ff h4)) ?_
            refine px_rd' rfl (rd_field' (off := 1) rfl Try.underlying27 rfl info22 rfl) rfl rfl (wt_is' (wt_guard' rfl rfl rfl) (beq_ff h4)) ?_
            refine px_rd' rfl (rd_load' (i := 0) (o := 1) rfl ⟨rfl, rfl, rfl, rfl⟩ rfl flat22) rfl rfl (wt_is' (wt_guard' rfl rfl rfl) (beq_ff h4)) ?_
            refine px_rd' rfl (rd_len' rfl Try.underlying22) rfl rfl (wt_is' (wt_guard' rfl rfl rfl) (beq_ff h4)) ?_
            refine px_rd' rfl (rd_field' (off := 1) rfl Try.underlying27 rfl info22 rfl) rfl rfl (wt_is' (wt_guard' rfl rfl rfl) (beq_ff h4)) ?_
            refine px_rd' rfl (rd_load' (i := 1) (o := 1) rfl ⟨rfl, rfl, rfl, rfl⟩ rfl flat22) rfl rfl (wt_is' (wt_guard' rfl rfl rfl) (beq_ff h4)) ?_
            refine px_rd' rfl (rd_len' rfl Try.underlying22) rfl rfl (wt_is' (wt_guard' rfl rfl rfl) (beq_ff h4)) ?_
            refine px_rd' rfl (rd_imin' rfl rfl) rfl rfl (wt_is' (wt_guard' rfl rfl rfl) (beq_ff h4)) ?_
            obtain ⟨r28, hr28, hp⟩ := bind_some hp
            refine px_ox' rfl (ox_calln' (ent_fn' Try.func12 isn12 rfl rfl) (spec_Stride_sim _ hr28 : Go.Sx.Fn Try.prog 12 [(Vl (.int .i64 a0))] [] (fun x : Unit => (Vl (.int .i64 r28))) (fun x => [])) (Hn := fun x : Unit => [⟨.pointer (some q4), [(Vl (.int .i64 a1_0)), (Sl Kf a1_1), (Sl Kf a1_2)], 27, none⟩, ⟨.pointer (some q5), [(Vl (.int .i64 a2_0)), (Sl Kf a2_1), (Sl Kf a2_2)], 27, none⟩]) (fun _ => rfl) rfl rfl) rfl bs_nil (wt_is' (wt_guard' rfl rfl rfl) (beq_ff h4)) fun ⟨⟩ => ?_
            refine px_rd' rfl (rd_bin' rfl rfl eg_int ru_gtr) rfl rfl (wt_is' (wt_guard' rfl rfl rfl) (beq_ff h4)) ?_
            refine px_rd' rfl (rd_pick_false' rfl h4 rfl) rfl rfl (wt_none' rfl) ?_
            refine px_nil' ?_
            show TX E K9 _
            exact tx_pick' [0, 1] (sub_cons rfl (sub_cons rfl (sub_cons rfl (sub_cons rfl sub_nil)))) (by decide) (pick_cons rfl (pick_cons rfl pick_nil)) (hK9 (decide ((imin (a1_1.length : Int) (a2_1.length : Int)) < r28)) hp)
      · intro K8 hK8
        rcases br_cases hp with ⟨h3, hp⟩ | ⟨h3, hp⟩
        · refine px_skip' rfl rfl rfl (wt_is' (wt_guard' rfl rfl rfl) (beq_tf h3)) ?_
          refine px_skip' rfl rfl rfl (wt_is' (wt_guard' rfl rfl rfl) (beq_tf h3)) ?_
          refine px_rd' rfl (rd_pick_true' rfl h3 rfl) rfl rfl (wt_none' rfl) ?_
          refine px_nil' ?_
          show TX E K8 _
          exact tx_pick' [1, 2] (sub_cons rfl (sub_cons rfl (sub_cons rfl (sub_cons rfl sub_nil)))) (by decide) (pick_cons rfl (pick_cons rfl pick_nil)) (hK8 true hp)
        · refine px_rd' rfl (rd_move' rfl) rfl rfl (wt_is' (wt_guard' rfl rfl rfl) (beq_ff h3)) ?_
          refine px_rd' rfl (rd_bin' rfl rfl eg_int ru_lss) rfl rfl (wt_is' (wt_guard' rfl rfl rfl) (beq_ff h3)) ?_
          refine px_rd' rfl (rd_pick_false' rfl h3 rfl) rfl rfl (wt_none' rfl) ?_
          refine px_nil' ?_
          show TX E K8 _
          exact tx_pick' [1, 2] (sub_cons rfl (sub_cons rfl (sub_cons rfl (sub_cons rfl sub_nil)))) (by decide) (pick_cons rfl (pick_cons rfl pick_nil)) (hK8 (decide (a0 < 1)) hp)
  · intro K4 hK4
    rcases br_cases hp with ⟨h1, hp⟩ | ⟨h1, hp⟩
    · refine sx_skip' rfl rfl (wt_is' (wt_guard' rfl rfl rfl) (beq_tf h1)) ?_
      refine sx_skip' rfl rfl (wt_is' (wt_guard' rfl rfl rfl) (beq_tf h1)) ?_
      refine sx_skip' rfl rfl (wt_is' (wt_guard' rfl rfl rfl) (beq_tf h1)) ?_
      refine sx_rd' (rd_pick_true' rfl h1 rfl) rfl rfl (wt_none' rfl) ?_
      refine sx_nil' ?_
      show TX E K4 _
      exact tx_pick' [1, 0] (sub_cons rfl (sub_cons rfl (sub_cons rfl (sub_cons rfl sub_nil)))) (by decide) (pick_cons rfl (pick_cons rfl pick_nil)) (hK4 true hp)
    · refine sx_rd' (rd_load_agg' (i := 0) (o := 0) (nn := 3) rfl ⟨rfl, rfl, rfl, rfl⟩ rfl agg27 (l' := [(Vl (.int .i64 a2_0)), (Sl Kf a2_1), (Sl Kf a2_2)]) rfl) rfl rfl (wt_is' (wt_guard' rfl rfl rfl) (beq_ff h1)) ?_
      obtain ⟨r14, hr14, hp⟩ := bind_some hp
      refine sx_ox' (ox_calln' (ent_fn' Try.func10 isn10 rfl rfl) (laws_zzFits1_sim _ _ _ hr14 : Go.Sx.Fn Try.prog 10 [(Ag [(Vl (.int .i64 a2_0)), (Sl Kf a2_1), (Sl Kf a2_2)])] [] (fun x : Unit => (Vl (.bool r14))) (fun x => [])) (Hn := fun x : Unit => [⟨.pointer (some q5), [(Vl (.int .i64 a2_0)), (Sl Kf a2_1), (Sl Kf a2_2)], 27, none⟩, ⟨.pointer (some q4), [(Vl (.int .i64 a1_0)), (Sl Kf a1_1), (Sl Kf a1_2)], 27, none⟩]) (fun _ => rfl) rfl rfl) (wt_is' (wt_guard' rfl rfl rfl) (beq_ff h1)) fun ⟨⟩ => ?_
      refine sx_rd' (rd_un' rfl ru_not) rfl rfl (wt_is' (wt_guard' rfl rfl rfl) (beq_ff h1)) ?_
      refine sx_rd' (rd_pick_false' rfl h1 rfl) rfl rfl (wt_none' rfl) ?_
      refine sx_nil' ?_
      show TX E K4 _
      exact tx_pick' [1, 0] (sub_cons rfl (sub_cons rfl (sub_cons rfl (sub_cons rfl sub_nil)))) (by decide) (pick_cons rfl (pick_cons rfl pick_nil)) (hK4 (!r14) hp)

end Go.Proofs.Ytmjhjnnlhjfbcaa
