/-
  Plain functions for the Go functions that this law reaches, and that each call does what its plain function says. Printed by a program of ours.
-/
import Derived.Test.YtlipjaacncpaoaaProg
import Derived.Test.YtlipjaacncpaoaaSxZ
namespace Go.Proofs.Ytlipjaacncpaoaa
open Go.Sx
set_option linter.unusedVariables false
set_option maxRecDepth 100000

theorem info43 : (Try.prog.info? 43).map (fun i => (i.zero, i.size, i.bytes)) = some (some (.agg #[.int .i64 0, .slice none 0 0, .slice none 0 0]), 3, 56) := by kernel_rfl
theorem agg43 : Agg Try.prog 43 3 := ⟨⟨_, Try.underlying43, .inl ⟨_, rfl⟩⟩, info_size info43⟩
theorem isn21 : (Try.f21.name == "runtime.NumGoroutine") = false := by kernel_rfl
theorem info22 : (Try.prog.info? 22).map (fun i => (i.zero, i.size, i.bytes)) = some (some (.slice none 0 0), 1, 24) := by kernel_rfl
theorem flat22 : Flat Try.prog 22 := ⟨_, Try.underlying22, fun _ h => (nomatch h), fun _ _ h => (nomatch h)⟩
theorem isn22 : (Try.f22.name == "runtime.NumGoroutine") = false := by kernel_rfl
theorem info3 : (Try.prog.info? 3).map (fun i => (i.zero, i.size, i.bytes)) = some (some (.int .i64 0), 1, 8) := by kernel_rfl
theorem flat3 : Flat Try.prog 3 := ⟨_, Try.underlying3, fun _ h => (nomatch h), fun _ _ h => (nomatch h)⟩
theorem isn11 : (Try.f11.name == "runtime.NumGoroutine") = false := by kernel_rfl
theorem info38 : (Try.prog.info? 38).map (fun i => (i.zero, i.size, i.bytes)) = some (some (.float .f64 0), 1, 8) := by kernel_rfl
theorem flat38 : Flat Try.prog 38 := ⟨_, Try.underlying38, fun _ h => (nomatch h), fun _ _ h => (nomatch h)⟩
theorem isn24 : (Try.f24.name == "runtime.NumGoroutine") = false := by kernel_rfl
theorem mixed : Try.prog.follows .mixedOrders = true := by kernel_rfl
theorem places50 : placesOf Try.prog [{ name := "Kind", type := 3, offset := 0, embedded := false, tag := "", pkgPath := "", byteOffset := 0 }, { name := "Layout", type := 3, offset := 1, embedded := false, tag := "", pkgPath := "", byteOffset := 8 }, { name := "SRID", type := 3, offset := 2, embedded := false, tag := "", pkgPath := "", byteOffset := 16 }, { name := "Flat", type := 22, offset := 3, embedded := false, tag := "", pkgPath := "", byteOffset := 24 }, { name := "Ends", type := 34, offset := 4, embedded := false, tag := "", pkgPath := "", byteOffset := 48 }, { name := "Endss", type := 47, offset := 5, embedded := false, tag := "", pkgPath := "", byteOffset := 72 }, { name := "Kids", type := 48, offset := 6, embedded := false, tag := "", pkgPath := "", byteOffset := 96 }] = [(0, 1), (1, 1), (2, 1), (3, 1), (4, 1), (5, 1), (6, 1)] := by kernel_rfl
theorem has50 : ∀ f ∈ ([{ name := "Kind", type := 3, offset := 0, embedded := false, tag := "", pkgPath := "", byteOffset := 0 }, { name := "Layout", type := 3, offset := 1, embedded := false, tag := "", pkgPath := "", byteOffset := 8 }, { name := "SRID", type := 3, offset := 2, embedded := false, tag := "", pkgPath := "", byteOffset := 16 }, { name := "Flat", type := 22, offset := 3, embedded := false, tag := "", pkgPath := "", byteOffset := 24 }, { name := "Ends", type := 34, offset := 4, embedded := false, tag := "", pkgPath := "", byteOffset := 48 }, { name := "Endss", type := 47, offset := 5, embedded := false, tag := "", pkgPath := "", byteOffset := 72 }, { name := "Kids", type := 48, offset := 6, embedded := false, tag := "", pkgPath := "", byteOffset := 96 }] : List Field), (Try.prog.info? f.type).isSome = true := fun f hf => all_of (p := fun f => (Try.prog.info? f.type).isSome) (by kernel_rfl) f hf
theorem info50 : (Try.prog.info? 50).map (fun i => (i.zero, i.size, i.bytes)) = some (some (.agg #[.int .i64 0, .int .i64 0, .int .i64 0, .slice none 0 0, .slice none 0 0, .slice none 0 0, .slice none 0 0]), 7, 120) := by kernel_rfl
theorem isn23 : (Try.f23.name == "runtime.NumGoroutine") = false := by kernel_rfl
theorem info48 : (Try.prog.info? 48).map (fun i => (i.zero, i.size, i.bytes)) = some (some (.slice none 0 0), 1, 24) := by kernel_rfl
theorem flat48 : Flat Try.prog 48 := ⟨_, Try.underlying48, fun _ h => (nomatch h), fun _ _ h => (nomatch h)⟩
theorem isn25 : (Try.f25.name == "runtime.NumGoroutine") = false := by kernel_rfl
theorem isn63 : (Try.f63.name == "runtime.NumGoroutine") = false := by kernel_rfl
theorem isn50 : (Try.f50.name == "runtime.NumGoroutine") = false := by kernel_rfl
theorem isn101 : (Try.f101.name == "runtime.NumGoroutine") = false := by kernel_rfl
theorem places159 : placesOf Try.prog [{ name := "layout", type := 102, offset := 0, embedded := false, tag := "", pkgPath := "pub-orthodrome/pub/gogeom", byteOffset := 0 }, { name := "min", type := 132, offset := 1, embedded := false, tag := "", pkgPath := "pub-orthodrome/pub/gogeom", byteOffset := 8 }, { name := "max", type := 132, offset := 2, embedded := false, tag := "", pkgPath := "pub-orthodrome/pub/gogeom", byteOffset := 32 }] = [(0, 1), (1, 1), (2, 1)] := by kernel_rfl
theorem has159 : ∀ f ∈ ([{ name := "layout", type := 102, offset := 0, embedded := false, tag := "", pkgPath := "pub-orthodrome/pub/gogeom", byteOffset := 0 }, { name := "min", type := 132, offset := 1, embedded := false, tag := "", pkgPath := "pub-orthodrome/pub/gogeom", byteOffset := 8 }, { name := "max", type := 132, offset := 2, embedded := false, tag := "", pkgPath := "pub-orthodrome/pub/gogeom", byteOffset := 32 }] : List Field), (Try.prog.info? f.type).isSome = true := fun f hf => all_of (p := fun f => (Try.prog.info? f.type).isSome) (by kernel_rfl) f hf
theorem info159 : (Try.prog.info? 159).map (fun i => (i.zero, i.size, i.bytes)) = some (some (.agg #[.int .i64 0, .slice none 0 0, .slice none 0 0]), 3, 56) := by kernel_rfl
theorem isn64 : (Try.f64.name == "runtime.NumGoroutine") = false := by kernel_rfl
theorem isn102 : (Try.f102.name == "runtime.NumGoroutine") = false := by kernel_rfl
theorem info102 : (Try.prog.info? 102).map (fun i => (i.zero, i.size, i.bytes)) = some (some (.int .i64 0), 1, 8) := by kernel_rfl
theorem flat102 : Flat Try.prog 102 := ⟨_, Try.underlying102, fun _ h => (nomatch h), fun _ _ h => (nomatch h)⟩
theorem isn133 : (Try.f133.name == "runtime.NumGoroutine") = false := by kernel_rfl
theorem info132 : (Try.prog.info? 132).map (fun i => (i.zero, i.size, i.bytes)) = some (some (.slice none 0 0), 1, 24) := by kernel_rfl
theorem flat132 : Flat Try.prog 132 := ⟨_, Try.underlying132, fun _ h => (nomatch h), fun _ _ h => (nomatch h)⟩
theorem isn135 : (Try.f135.name == "runtime.NumGoroutine") = false := by kernel_rfl
theorem ext92 : ∀ {args : Array Value} {v : Value}, Runs Try.prog ((Extern.MathFloatBits.float64frombits) args) v → Runs Try.prog (callFunc 92 args) (.value v) := fun hr => ru_ext Try.func92 (by kernel_rfl) (by kernel_rfl) (by kernel_rfl) (by kernel_rfl) hr
theorem isn62 : (Try.f62.name == "runtime.NumGoroutine") = false := by kernel_rfl
theorem isn100 : (Try.f100.name == "runtime.NumGoroutine") = false := by kernel_rfl
theorem places43 : placesOf Try.prog [{ name := "Layout", type := 3, offset := 0, embedded := false, tag := "", pkgPath := "", byteOffset := 0 }, { name := "Min", type := 22, offset := 1, embedded := false, tag := "", pkgPath := "", byteOffset := 8 }, { name := "Max", type := 22, offset := 2, embedded := false, tag := "", pkgPath := "", byteOffset := 32 }] = [(0, 1), (1, 1), (2, 1)] := by kernel_rfl
theorem has43 : ∀ f ∈ ([{ name := "Layout", type := 3, offset := 0, embedded := false, tag := "", pkgPath := "", byteOffset := 0 }, { name := "Min", type := 22, offset := 1, embedded := false, tag := "", pkgPath := "", byteOffset := 8 }, { name := "Max", type := 22, offset := 2, embedded := false, tag := "", pkgPath := "", byteOffset := 32 }] : List Field), (Try.prog.info? f.type).isSome = true := fun f hf => all_of (p := fun f => (Try.prog.info? f.type).isSome) (by kernel_rfl) f hf
theorem idle61 : Idle Try.prog 61 2 := fun vs w hv => by
  obtain ⟨v0, v1, rfl⟩ : ∃ v0 v1, vs = [v0, v1] := by
    obtain _ | ⟨v0, vs⟩ := vs
    · simp at hv
    obtain _ | ⟨v1, vs⟩ := vs
    · simp at hv
    obtain _ | ⟨u, vs⟩ := vs
    · exact ⟨v0, v1, rfl⟩
    · simp at hv
  refine callsD_of_wpS Try.func61 rfl fun c₀ cs hu => ?_
  apply wpS_seq
  apply wpS_region
  simp [wpOpsS, go_sem, recoverD, hu, Try.ntmps61, Exit.thenS]
  refine wpS_cond (t := false) (by simp [Act.eval, Array.replicate]) ?_
  simp only [Bool.false_eq_true, if_false]
  refine wpS_of_wp (wp_skip ?_)
  cases c₀
  simp_all [bodyPostS, results, Try.results61]
theorem isn61 : (Try.f61.name == "runtime.NumGoroutine") = false := by kernel_rfl
theorem info4 : (Try.prog.info? 4).map (fun i => (i.zero, i.size, i.bytes)) = some (some (.bool false), 1, 1) := by kernel_rfl
theorem ifne20 : ∀ (tx : TypeId) (vx : Value) w, (binOp .neq 20 (.iface tx vx) .nilIface).run Try.prog w = .ok (.bool true) w := fun _ _ _ => by kernel_rfl
theorem flat4 : Flat Try.prog 4 := ⟨_, Try.underlying4, fun _ h => (nomatch h), fun _ _ h => (nomatch h)⟩
theorem isn26 : (Try.f26.name == "runtime.NumGoroutine") = false := by kernel_rfl
def KT43 : Kd (Int × (List Nat) × (List Nat)) := ⟨3, fun x => [(Vl (.int .i64 x.1)), (Sl Kf x.2.1), (Sl Kf x.2.2)], fun _ => rfl⟩

def laws_zzFits1 (k : Nat) (a0_0 : Int) (a0_1 : List Nat) (a0_2 : List Nat) : Option (Bool) :=
  br (decide (2147483647 < (a0_1.length : Int)))
    (some false)
    (br (decide (2147483647 < (a0_2.length : Int)))
      (some false)
      (some true))

theorem laws_zzFits1_sim {k : Nat}  (a0_0 : Int) (a0_1 : List Nat) (a0_2 : List Nat) {out : Bool} (hp : laws_zzFits1 k a0_0 a0_1 a0_2 = some out) : Go.Sx.Fn Try.prog 21 [(Ag [(Vl (.int .i64 a0_0)), (Sl Kf a0_1), (Sl Kf a0_2)])] [] (fun w : Unit => (Vl (.bool out))) (fun w => []) := by
  unfold laws_zzFits1 at hp
  refine fn_of Try.func21 rfl Try.ntmps21 rfl fun E hM => ?_
  refine cx_seq' fun K1 hK1 => ?_
  refine cx_region' ?_
  refine sx_ox' (ox_box' rfl (lv_ag _) rfl rfl) (wt_none' rfl) fun q1 => ?_
  refine sx_rd' (rd_assign' rfl) rfl rfl (wt_none' rfl) ?_
  refine sx_nil' ?_
  show TX E K1 _
  refine tx_k' hK1 ?_
  refine cx_seq' fun K2 hK2 => ?_
  refine cx_seq' fun K3 hK3 => ?_
  refine cx_region' ?_
  refine sx_rd' (rd_field' (off := 1) rfl Try.underlying43 rfl info22 rfl) rfl rfl (wt_none' rfl) ?_
  refine sx_rd' (rd_load' (i := 0) (o := 1) rfl ⟨rfl, rfl, rfl, rfl⟩ rfl flat22) rfl rfl (wt_none' rfl) ?_
  refine sx_rd' (rd_len' rfl Try.underlying22) rfl rfl (wt_none' rfl) ?_
  refine sx_rd' (rd_bin' rfl rfl eg_int ru_gtr) rfl rfl (wt_none' rfl) ?_
  refine sx_nil' ?_
  show TX E K3 _
  refine tx_k' hK3 ?_
  refine cx_cond' rfl (fun h1 => ?_) (fun h1 => ?_)
  · replace hp := (br_t h1).symm.trans hp
    refine cx_seq' fun K4 hK4 => ?_
    refine cx_region' ?_
    refine sx_rd' (rd_assign' rfl) rfl rfl (wt_none' rfl) ?_
    refine sx_nil' ?_
    show TX E K4 _
    refine tx_k' hK4 ?_
    refine cx_retc' ?_
    replace hp := Option.some.inj hp
    subst hp
    refine tx_pick' (L' := [(2, (Vl (.bool false)))]) (H' := []) [] (sub_cons rfl sub_nil) (by decide) pick_nil ?_
    exact tx_ret1' Try.results21 rfl () (rv_tmp' rfl) (List.Sublist.refl _)
  · replace hp := (br_f h1).symm.trans hp
    refine cx_skip' ?_
    show TX E K2 _
    refine tx_k' hK2 ?_
    refine cx_seq' fun K5 hK5 => ?_
    refine cx_seq' fun K6 hK6 => ?_
    refine cx_region' ?_
    refine sx_rd' (rd_field' (off := 2) rfl Try.underlying43 rfl info22 rfl) rfl rfl (wt_none' rfl) ?_
    refine sx_rd' (rd_load' (i := 0) (o := 2) rfl ⟨rfl, rfl, rfl, rfl⟩ rfl flat22) rfl rfl (wt_none' rfl) ?_
    refine sx_rd' (rd_len' rfl Try.underlying22) rfl rfl (wt_none' rfl) ?_
    refine sx_rd' (rd_bin' rfl rfl eg_int ru_gtr) rfl rfl (wt_none' rfl) ?_
    refine sx_nil' ?_
    show TX E K6 _
    refine tx_k' hK6 ?_
    refine cx_cond' rfl (fun h2 => ?_) (fun h2 => ?_)
    · replace hp := (br_t h2).symm.trans hp
      refine cx_seq' fun K7 hK7 => ?_
      refine cx_region' ?_
      refine sx_rd' (rd_assign' rfl) rfl rfl (wt_none' rfl) ?_
      refine sx_nil' ?_
      show TX E K7 _
      refine tx_k' hK7 ?_
      refine cx_retc' ?_
      replace hp := Option.some.inj hp
      subst hp
      refine tx_pick' (L' := [(2, (Vl (.bool false)))]) (H' := []) [] (sub_cons rfl sub_nil) (by decide) pick_nil ?_
      exact tx_ret1' Try.results21 rfl () (rv_tmp' rfl) (List.Sublist.refl _)
    · replace hp := (br_f h2).symm.trans hp
      refine cx_skip' ?_
      show TX E K5 _
      refine tx_k' hK5 ?_
      refine cx_seq' fun K8 hK8 => ?_
      refine cx_region' ?_
      refine sx_rd' (rd_assign' rfl) rfl rfl (wt_none' rfl) ?_
      refine sx_nil' ?_
      show TX E K8 _
      refine tx_k' hK8 ?_
      refine cx_retc' ?_
      replace hp := Option.some.inj hp
      subst hp
      refine tx_pick' (L' := [(2, (Vl (.bool true)))]) (H' := []) [] (sub_cons rfl sub_nil) (by decide) pick_nil ?_
      exact tx_ret1' Try.results21 rfl () (rv_tmp' rfl) (List.Sublist.refl _)

def spec_Stride_j1 (k : Nat) (a0 : Int) (x1 : Bool) : Option (Int) :=
  br x1
    (some 3)
    (some a0)
def spec_Stride (k : Nat) (a0 : Int) : Option (Int) :=
  br (decide (a0 < 1))
    (some 0)
    (br (decide (a0 = 1))
      (some 2)
      (br (decide (a0 = 2))
        (spec_Stride_j1 k a0 true)
        (spec_Stride_j1 k a0 (decide (a0 = 3)))))

theorem spec_Stride_sim {k : Nat}  (a0 : Int) {out : Int} (hp : spec_Stride k a0 = some out) : Go.Sx.Fn Try.prog 11 [(Vl (.int .i64 a0))] [] (fun w : Unit => (Vl (.int .i64 out))) (fun w => []) := by
  unfold spec_Stride at hp
  refine fn_of Try.func11 rfl Try.ntmps11 rfl fun E hM => ?_
  refine cx_seq' fun K1 hK1 => ?_
  refine cx_region' ?_
  refine sx_rd' (rd_assign' rfl) rfl rfl (wt_none' rfl) ?_
  refine sx_nil' ?_
  show TX E K1 _
  refine tx_k' hK1 ?_
  refine cx_seq' fun K2 hK2 => ?_
  refine cx_block' ?_
  refine cx_seq' fun K3 hK3 => ?_
  refine cx_region' ?_
  refine sx_rd' (rd_move' rfl) rfl rfl (wt_none' rfl) ?_
  refine sx_rd' (rd_bin' rfl rfl eg_int ru_lss) rfl rfl (wt_none' rfl) ?_
  refine sx_rd' (rd_assign' rfl) rfl rfl (wt_none' rfl) ?_
  refine sx_nil' ?_
  show TX E K3 _
  refine tx_k' hK3 ?_
  refine cx_cond' rfl (fun h1 => ?_) (fun h1 => ?_)
  · replace hp := (br_t h1).symm.trans hp
    refine cx_seq' fun K4 hK4 => ?_
    refine cx_region' ?_
    refine sx_rd' (rd_assign' rfl) rfl rfl (wt_none' rfl) ?_
    refine sx_nil' ?_
    show TX E K4 _
    refine tx_k' hK4 ?_
    refine cx_retc' ?_
    replace hp := Option.some.inj hp
    subst hp
    refine tx_pick' (L' := [(2, (Vl (.int .i64 0)))]) (H' := []) [] (sub_cons rfl sub_nil) (by decide) pick_nil ?_
    exact tx_ret1' Try.results11 rfl () (rv_tmp' rfl) (List.Sublist.refl _)
  · replace hp := (br_f h1).symm.trans hp
    refine cx_seq' fun K5 hK5 => ?_
    refine cx_region' ?_
    refine sx_rd' (rd_move' rfl) rfl rfl (wt_none' rfl) ?_
    refine sx_rd' (rd_bin' rfl rfl eg_int ru_eql) rfl rfl (wt_none' rfl) ?_
    refine sx_rd' (rd_assign' rfl) rfl rfl (wt_none' rfl) ?_
    refine sx_nil' ?_
    show TX E K5 _
    refine tx_k' hK5 ?_
    refine cx_cond' rfl (fun h2 => ?_) (fun h2 => ?_)
    · replace hp := (br_t h2).symm.trans hp
      refine cx_seq' fun K6 hK6 => ?_
      refine cx_region' ?_
      refine sx_rd' (rd_assign' rfl) rfl rfl (wt_none' rfl) ?_
      refine sx_nil' ?_
      show TX E K6 _
      refine tx_k' hK6 ?_
      refine cx_retc' ?_
      replace hp := Option.some.inj hp
      subst hp
      refine tx_pick' (L' := [(2, (Vl (.int .i64 2)))]) (H' := []) [] (sub_cons rfl sub_nil) (by decide) pick_nil ?_
      exact tx_ret1' Try.results11 rfl () (rv_tmp' rfl) (List.Sublist.refl _)
    · replace hp := (br_f h2).symm.trans hp
      refine cx_seq' fun K7 hK7 => ?_
      refine cx_region' ?_
      refine sx_rd' (rd_move' rfl) rfl rfl (wt_none' rfl) ?_
      refine sx_rd' (rd_bin' rfl rfl eg_int ru_eql) rfl rfl (wt_none' rfl) ?_
      refine sx_rd' (rd_move' rfl) rfl rfl (wt_none' rfl) ?_
      refine sx_cutn' 3 (fun (v1 : Bool) => (⟨17, [], [(0, (Vl (.int .i64 a0))), (15, (Vl (.bool v1)))], []⟩ : St)) (fun (v1 : Bool) => spec_Stride_j1 k a0 v1 = some out) ?_ ?_
      · rintro x1 hp
        replace hp : spec_Stride_j1 k a0 x1 = some out := hp
        unfold spec_Stride_j1 at hp
        refine sx_rd' (rd_assign' rfl) rfl rfl (wt_none' rfl) ?_
        refine sx_nil' ?_
        show TX E K7 _
        refine tx_k' hK7 ?_
        refine cx_cond' rfl (fun h4 => ?_) (fun h4 => ?_)
        · replace hp := (br_t h4).symm.trans hp
          refine cx_seq' fun K9 hK9 => ?_
          refine cx_region' ?_
          refine sx_rd' (rd_assign' rfl) rfl rfl (wt_none' rfl) ?_
          refine sx_nil' ?_
          show TX E K9 _
          refine tx_k' hK9 ?_
          refine cx_retc' ?_
          replace hp := Option.some.inj hp
          subst hp
          refine tx_pick' (L' := [(2, (Vl (.int .i64 3)))]) (H' := []) [] (sub_cons rfl sub_nil) (by decide) pick_nil ?_
          exact tx_ret1' Try.results11 rfl () (rv_tmp' rfl) (List.Sublist.refl _)
        · replace hp := (br_f h4).symm.trans hp
          refine cx_skip' ?_
          show TX E K2 _
          refine tx_k' hK2 ?_
          refine cx_seq' fun K10 hK10 => ?_
          refine cx_region' ?_
          refine sx_rd' (rd_move' rfl) rfl rfl (wt_none' rfl) ?_
          refine sx_rd' (rd_assign' rfl) rfl rfl (wt_none' rfl) ?_
          refine sx_nil' ?_
          show TX E K10 _
          refine tx_k' hK10 ?_
          refine cx_retc' ?_
          replace hp := Option.some.inj hp
          subst hp
          refine tx_pick' (L' := [(2, (Vl (.int .i64 a0)))]) (H' := []) [] (sub_cons rfl sub_nil) (by decide) pick_nil ?_
          exact tx_ret1' Try.results11 rfl () (rv_tmp' rfl) (List.Sublist.refl _)
      · intro K8 hK8
        rcases br_cases hp with ⟨h3, hp⟩ | ⟨h3, hp⟩
        · refine sx_skip' rfl rfl (wt_is' (wt_guard' rfl rfl rfl) (beq_tf h3)) ?_
          refine sx_skip' rfl rfl (wt_is' (wt_guard' rfl rfl rfl) (beq_tf h3)) ?_
          refine sx_rd' (rd_pick_true' rfl h3 rfl) rfl rfl (wt_none' rfl) ?_
          refine sx_nil' ?_
          show TX E K8 _
          exact tx_pick' [] (sub_cons rfl (sub_cons rfl sub_nil)) (by decide) pick_nil (hK8 true hp)
        · refine sx_rd' (rd_move' rfl) rfl rfl (wt_is' (wt_guard' rfl rfl rfl) (beq_ff h3)) ?_
          refine sx_rd' (rd_bin' rfl rfl eg_int ru_eql) rfl rfl (wt_is' (wt_guard' rfl rfl rfl) (beq_ff h3)) ?_
          refine sx_rd' (rd_pick_false' rfl h3 rfl) rfl rfl (wt_none' rfl) ?_
          refine sx_nil' ?_
          show TX E K8 _
          exact tx_pick' [] (sub_cons rfl (sub_cons rfl sub_nil)) (by decide) pick_nil (hK8 (decide (a0 = 3)) hp)

def laws_gNumber (k : Nat) (a0 : Nat) : Option (Bool) :=
  some (feq a0 a0)

theorem laws_gNumber_sim {k : Nat}  (a0 : Nat) {out : Bool} (hp : laws_gNumber k a0 = some out) : Go.Sx.Fn Try.prog 24 [(Vl (.float .f64 a0))] [] (fun w : Unit => (Vl (.bool out))) (fun w => []) := by
  unfold laws_gNumber at hp
  refine fn_of Try.func24 rfl Try.ntmps24 rfl fun E hM => ?_
  refine cx_seq' fun K1 hK1 => ?_
  refine cx_region' ?_
  refine sx_rd' (rd_assign' rfl) rfl rfl (wt_none' rfl) ?_
  refine sx_nil' ?_
  show TX E K1 _
  refine tx_k' hK1 ?_
  refine cx_seq' fun K2 hK2 => ?_
  refine cx_region' ?_
  refine sx_rd' (rd_move' rfl) rfl rfl (wt_none' rfl) ?_
  refine sx_rd' (rd_move' rfl) rfl rfl (wt_none' rfl) ?_
  refine sx_rd' (rd_bin' rfl rfl eg_flt ru_feq) rfl rfl (wt_none' rfl) ?_
  refine sx_rd' (rd_assign' rfl) rfl rfl (wt_none' rfl) ?_
  refine sx_nil' ?_
  show TX E K2 _
  refine tx_k' hK2 ?_
  refine cx_retc' ?_
  replace hp := Option.some.inj hp
  subst hp
  refine tx_pick' (L' := [(2, (Vl (.bool (feq a0 a0))))]) (H' := []) [] (sub_cons rfl sub_nil) (by decide) pick_nil ?_
  exact tx_ret1' Try.results24 rfl () (rv_tmp' rfl) (List.Sublist.refl _)

def laws_bBox_j10 (k : Nat) (rec2 : Int → Option (Unit ⊕ Unit)) (x12 : Int) (x11 : Bool) : Option (Unit ⊕ Unit) :=
  br x11
    (some (.inl ()))
    (rec2 (iadd .i64 x12 1))
def laws_bBox_l2s (r10 : Int × (List Nat) × (List Nat)) (k : Nat) (rec2 : Int → Option (Unit ⊕ Unit)) (x12 : Int) : Option (Unit ⊕ Unit) :=
  br (decide (x12 < (r10.2.1.length : Int)))
    ((idx r10.2.1 x12) >>= fun r47 =>
    (laws_gNumber k r47) >>= fun r49 =>
    br (!r49)
      (laws_bBox_j10 k rec2 x12 true)
      ((idx r10.2.2 x12) >>= fun r55 =>
      (laws_gNumber k r55) >>= fun r57 =>
      laws_bBox_j10 k rec2 x12 (!r57)))
    (some (.inr ()))
def laws_bBox_l2 (r10 : Int × (List Nat) × (List Nat)) : Nat → Int → Option (Unit ⊕ Unit)
  | 0, _ => none
  | k + 1, v => laws_bBox_l2s r10 k (laws_bBox_l2 r10 k) v
def laws_bBox_j8 (k : Nat) (r10 : Int × (List Nat) × (List Nat)) (rec3 : Int → Option (Unit ⊕ Unit)) (x13 : Int) (x9 : Bool) : Option (Unit ⊕ Unit) :=
  br x9
    (some (.inl ()))
    ((laws_bBox_l2 r10 k 0) >>= fun y2 => match y2 with
      | (.inl v16) =>
        (some (.inl ()))
      | (.inr v17) =>
        (rec3 (iadd .i64 x13 1)))
def laws_bBox_j7 (k : Nat) (r10 : Int × (List Nat) × (List Nat)) (rec3 : Int → Option (Unit ⊕ Unit)) (x13 : Int) (x8 : Bool) : Option (Unit ⊕ Unit) :=
  br x8
    (laws_bBox_j8 k r10 rec3 x13 true)
    (laws_bBox_j8 k r10 rec3 x13 (!decide ((r10.2.2.length : Int) = (r10.2.1.length : Int))))
def laws_bBox_j6 (k : Nat) (r10 : Int × (List Nat) × (List Nat)) (rec3 : Int → Option (Unit ⊕ Unit)) (x13 : Int) (x7 : Bool) : Option (Unit ⊕ Unit) :=
  br x7
    (laws_bBox_j7 k r10 rec3 x13 true)
    ((spec_Stride k r10.1) >>= fun r26 =>
    laws_bBox_j7 k r10 rec3 x13 (!decide ((r10.2.1.length : Int) = r26)))
def laws_bBox_l3s (a0 : List (Int × (List Nat) × (List Nat))) (k : Nat) (rec3 : Int → Option (Unit ⊕ Unit)) (x13 : Int) : Option (Unit ⊕ Unit) :=
  br (decide (x13 < (a0.length : Int)))
    ((idx a0 x13) >>= fun r10 =>
    br (decide (r10.1 < 0))
      (laws_bBox_j6 k r10 rec3 x13 true)
      (laws_bBox_j6 k r10 rec3 x13 (decide (9 < r10.1))))
    (some (.inr ()))
def laws_bBox_l3 (a0 : List (Int × (List Nat) × (List Nat))) : Nat → Int → Option (Unit ⊕ Unit)
  | 0, _ => none
  | k + 1, v => laws_bBox_l3s a0 k (laws_bBox_l3 a0 k) v
def laws_bBox (k : Nat) (a0 : List (Int × (List Nat) × (List Nat))) : Option (Bool) :=
  (laws_bBox_l3 a0 k 0) >>= fun y3 => match y3 with
    | (.inl v18) =>
      (some false)
    | (.inr v19) =>
      (some true)

theorem laws_bBox_sim {k : Nat}  (a0 : List (Int × (List Nat) × (List Nat))) {out : Bool} (hp : laws_bBox k a0 = some out) : Go.Sx.Fn Try.prog 22 [(Sl KT43 a0)] [] (fun w : Unit => (Vl (.bool out))) (fun w => []) := by
  unfold laws_bBox at hp
  refine fn_of Try.func22 rfl Try.ntmps22 rfl fun E hM => ?_
  refine cx_seq' fun K1 hK1 => ?_
  refine cx_region' ?_
  refine sx_rd' (rd_assign' rfl) rfl rfl (wt_none' rfl) ?_
  refine sx_nil' ?_
  show TX E K1 _
  refine tx_k' hK1 ?_
  refine cx_seq' fun K2 hK2 => ?_
  refine cx_seq' fun K3 hK3 => ?_
  refine cx_region' ?_
  refine sx_rd' (rd_move' rfl) rfl rfl (wt_none' rfl) ?_
  refine sx_rd' (rd_len' rfl Try.underlying119) rfl rfl (wt_none' rfl) ?_
  refine sx_rd' (rd_move' rfl) rfl rfl (wt_none' rfl) ?_
  refine sx_nil' ?_
  show TX E K3 _
  refine tx_k' hK3 ?_
  refine cx_block' ?_
  obtain ⟨y3, hy3, hp⟩ := bind_some hp
  refine cx_loopg' (F := laws_bBox_l3 a0) (G := fun k R v => laws_bBox_l3s a0 k R v) (x := 0) (gh := ()) (fun (v9 : Int) (w9 : Unit) => (⟨62, [], [(6, (Sl KT43 a0)), (7, (Vl (.int .i64 (a0.length : Int)))), (8, (Vl (.int .i64 v9)))], []⟩ : St)) (fun (y : Unit ⊕ Unit) => match y with | (.inl v18) => Zg E Exit.ret (fun (w18 : Unit) => (⟨62, [], [(2, (Vl (.bool false)))], []⟩ : St)) | (.inr v19) => Zg E (Exit.exit 0) (fun (w19 : Unit) => (⟨62, [], [], []⟩ : St))) (fun _ => rfl) (fun _ _ => rfl) ?_ hy3 (tx_to' rfl [] (sub_cons rfl (sub_cons rfl (sub_cons rfl sub_nil))) (by decide) pick_nil) ?_
  · clear hp hy3
    clear y3
    intro k rec3 KY3 ih3
    rintro x13 ⟨⟩ y3 hp
    replace hp : laws_bBox_l3s a0 k rec3 x13 = some y3 := hp
    unfold laws_bBox_l3s at hp
    refine cx_seq' fun K29 hK29 => ?_
    refine cx_region' ?_
    refine sx_rd' (rd_bin' rfl rfl eg_int ru_lss) rfl rfl (wt_none' rfl) ?_
    refine sx_nil' ?_
    show TX E K29 _
    refine tx_k' hK29 ?_
    refine cx_seq' fun K30 hK30 => ?_
    refine cx_cond' rfl (fun h14 => ?_) (fun h14 => ?_)
    · replace hp := (br_t h14).symm.trans hp
      refine cx_skip' ?_
      show TX E K30 _
      refine tx_k' hK30 ?_
      refine cx_seq' fun K31 hK31 => ?_
      refine cx_block' ?_
      refine cx_seq' fun K32 hK32 => ?_
      refine cx_region' ?_
      obtain ⟨r10, hr10, hp⟩ := bind_some hp
      refine sx_rd' (rd_at' (K := KT43) rfl rfl hr10 Try.underlying119 info43) rfl rfl (wt_none' rfl) ?_
      refine sx_rd' (rd_load_pt_agg' (nn := 3) rfl rfl agg43 (l' := [(Vl (.int .i64 r10.1)), (Sl Kf r10.2.1), (Sl Kf r10.2.2)]) rfl) rfl rfl (wt_none' rfl) ?_
      refine sx_ox' (ox_alloc' info43 rfl rfl rfl rfl (l := [(Vl (.int .i64 0)), (Vl (.slice none 0 0)), (Vl (.slice none 0 0))]) rfl) (wt_none' rfl) fun q4 => ?_
      refine sx_ox' (ox_store' (i := 0) (o := 0) rfl rfl (lv_ag _) ⟨rfl, rfl, rfl, rfl⟩ rfl info43 rfl (H' := [⟨.pointer (some q4), [(Vl (.int .i64 r10.1)), (Sl Kf r10.2.1), (Sl Kf r10.2.2)], 43, none⟩]) rfl) (wt_none' rfl) fun _ => ?_
      refine sx_nil' ?_
      show TX E K32 _
      refine tx_k' hK32 ?_
      refine cx_seq' fun K33 hK33 => ?_
      refine cx_seq' fun K34 hK34 => ?_
      refine cx_plan' [] [] [(0, 1), (1, 1), (2, 1), (3, 1), (4, 1), (5, 1), (6, 1), (7, 1), (8, 1), (9, 1), (10, 1), (11, 1), (12, 1), (13, 1), (14, 0), (15, 1), (16, 1), (17, 1), (18, 1), (19, 1), (20, 1), (21, 1), (22, 1), (23, 1), (24, 1), (25, 1)] mixed (by kernel_rfl) ?_
      refine px_rd' rfl (rd_field0' rfl Try.underlying43 rfl info3 rfl) rfl rfl (wt_none' rfl) ?_
      refine px_rd' rfl (rd_load' (i := 0) (o := 0) rfl ⟨rfl, rfl, rfl, rfl⟩ rfl flat3) rfl rfl (wt_none' rfl) ?_
      refine px_rd' rfl (rd_bin' rfl rfl eg_int ru_lss) rfl rfl (wt_none' rfl) ?_
      refine px_rd' rfl (rd_move' rfl) rfl rfl (wt_none' rfl) ?_
      refine px_cutn' 4 (fun (v10 : Bool) => (⟨62, [], [(4, (Vl (.pointer (some q4)))), (6, (Sl KT43 a0)), (7, (Vl (.int .i64 (a0.length : Int)))), (8, (Vl (.int .i64 x13))), (19, (Vl (.bool v10)))], [⟨.pointer (some q4), [(Vl (.int .i64 r10.1)), (Sl Kf r10.2.1), (Sl Kf r10.2.2)], 43, none⟩]⟩ : St)) (fun (v10 : Bool) => laws_bBox_j6 k r10 rec3 x13 v10 = some y3) ?_ ?_
      · rintro x7 hp
        replace hp : laws_bBox_j6 k r10 rec3 x13 x7 = some y3 := hp
        unfold laws_bBox_j6 at hp
        refine px_rd' rfl (rd_move' rfl) rfl rfl (wt_none' rfl) ?_
        refine px_cutn' 8 (fun (v11 : Bool) => (⟨62, [], [(4, (Vl (.pointer (some q4)))), (6, (Sl KT43 a0)), (7, (Vl (.int .i64 (a0.length : Int)))), (8, (Vl (.int .i64 x13))), (28, (Vl (.bool v11)))], [⟨.pointer (some q4), [(Vl (.int .i64 r10.1)), (Sl Kf r10.2.1), (Sl Kf r10.2.2)], 43, none⟩]⟩ : St)) (fun (v11 : Bool) => laws_bBox_j7 k r10 rec3 x13 v11 = some y3) ?_ ?_
        · rintro x8 hp
          replace hp : laws_bBox_j7 k r10 rec3 x13 x8 = some y3 := hp
          unfold laws_bBox_j7 at hp
          refine px_rd' rfl (rd_move' rfl) rfl rfl (wt_none' rfl) ?_
          refine px_cutn' 8 (fun (v12 : Bool) => (⟨62, [], [(4, (Vl (.pointer (some q4)))), (6, (Sl KT43 a0)), (7, (Vl (.int .i64 (a0.length : Int)))), (8, (Vl (.int .i64 x13))), (37, (Vl (.bool v12)))], [⟨.pointer (some q4), [(Vl (.int .i64 r10.1)), (Sl Kf r10.2.1), (Sl Kf r10.2.2)], 43, none⟩]⟩ : St)) (fun (v12 : Bool) => laws_bBox_j8 k r10 rec3 x13 v12 = some y3) ?_ ?_
          · rintro x9 hp
            replace hp : laws_bBox_j8 k r10 rec3 x13 x9 = some y3 := hp
            unfold laws_bBox_j8 at hp
            refine px_nil' ?_
            show TX E K34 _
            refine tx_k' hK34 ?_
            refine cx_cond' rfl (fun h18 => ?_) (fun h18 => ?_)
            · replace hp := (br_t h18).symm.trans hp
              refine cx_seq' fun K38 hK38 => ?_
              refine cx_region' ?_
              refine sx_rd' (rd_assign' rfl) rfl rfl (wt_none' rfl) ?_
              refine sx_nil' ?_
              show TX E K38 _
              refine tx_k' hK38 ?_
              refine cx_retc' ?_
              replace hp := Option.some.inj hp
              subst hp
              show TX E (Zg E Exit.ret _ Exit.ret) _
              exact tx_zend' () rfl [] (sub_cons rfl sub_nil) (by decide) pick_nil
            · replace hp := (br_f h18).symm.trans hp
              refine cx_skip' ?_
              show TX E K33 _
              refine tx_k' hK33 ?_
              refine cx_seq' fun K39 hK39 => ?_
              refine cx_region' ?_
              refine sx_rd' (rd_field' (off := 1) rfl Try.underlying43 rfl info22 rfl) rfl rfl (wt_none' rfl) ?_
              refine sx_rd' (rd_load' (i := 0) (o := 1) rfl ⟨rfl, rfl, rfl, rfl⟩ rfl flat22) rfl rfl (wt_none' rfl) ?_
              refine sx_rd' (rd_len' rfl Try.underlying22) rfl rfl (wt_none' rfl) ?_
              refine sx_rd' (rd_move' rfl) rfl rfl (wt_none' rfl) ?_
              refine sx_nil' ?_
              show TX E K39 _
              refine tx_k' hK39 ?_
              refine cx_block' ?_
              obtain ⟨y2, hy2, hp⟩ := bind_some hp
              refine cx_loopg' (F := laws_bBox_l2 r10) (G := fun k R v => laws_bBox_l2s r10 k R v) (x := 0) (gh := ()) (fun (v14 : Int) (w14 : Unit) => (⟨62, [], [(4, (Vl (.pointer (some q4)))), (6, (Sl KT43 a0)), (7, (Vl (.int .i64 (a0.length : Int)))), (8, (Vl (.int .i64 x13))), (40, (Vl (.int .i64 (r10.2.1.length : Int)))), (41, (Vl (.int .i64 v14)))], [⟨.pointer (some q4), [(Vl (.int .i64 r10.1)), (Sl Kf r10.2.1), (Sl Kf r10.2.2)], 43, none⟩]⟩ : St)) (fun (y : Unit ⊕ Unit) => match y with | (.inl v16) => Zg E Exit.ret (fun (w16 : Unit) => (⟨62, [], [(2, (Vl (.bool false)))], []⟩ : St)) | (.inr v17) => Zg E (Exit.exit 2) (fun (w17 : Unit) => (⟨62, [], [(6, (Sl KT43 a0)), (7, (Vl (.int .i64 (a0.length : Int)))), (8, (Vl (.int .i64 x13)))], []⟩ : St))) (fun _ => rfl) (fun _ _ => rfl) ?_ hy2 (tx_to' rfl [0] (sub_cons rfl (sub_cons rfl (sub_cons rfl (sub_cons rfl (sub_cons rfl (sub_cons rfl sub_nil)))))) (by decide) (pick_cons rfl pick_nil)) ?_
              · clear hp hy2
                clear y2
                intro k rec2 KY2 ih2
                rintro x12 ⟨⟩ y2 hp
                replace hp : laws_bBox_l2s r10 k rec2 x12 = some y2 := hp
                unfold laws_bBox_l2s at hp
                refine cx_seq' fun K47 hK47 => ?_
                refine cx_region' ?_
                refine sx_rd' (rd_bin' rfl rfl eg_int ru_lss) rfl rfl (wt_none' rfl) ?_
                refine sx_nil' ?_
                show TX E K47 _
                refine tx_k' hK47 ?_
                refine cx_seq' fun K48 hK48 => ?_
                refine cx_cond' rfl (fun h23 => ?_) (fun h23 => ?_)
                · replace hp := (br_t h23).symm.trans hp
                  refine cx_skip' ?_
                  show TX E K48 _
                  refine tx_k' hK48 ?_
                  refine cx_seq' fun K49 hK49 => ?_
                  refine cx_block' ?_
                  refine cx_seq' fun K50 hK50 => ?_
                  refine cx_region' ?_
                  refine sx_rd' (rd_move' rfl) rfl rfl (wt_none' rfl) ?_
                  refine sx_rd' (rd_assign' rfl) rfl rfl (wt_none' rfl) ?_
                  refine sx_nil' ?_
                  show TX E K50 _
                  refine tx_k' hK50 ?_
                  refine cx_seq' fun K51 hK51 => ?_
                  refine cx_region' ?_
                  refine sx_rd' (rd_field' (off := 1) rfl Try.underlying43 rfl info22 rfl) rfl rfl (wt_none' rfl) ?_
                  refine sx_rd' (rd_load' (i := 0) (o := 1) rfl ⟨rfl, rfl, rfl, rfl⟩ rfl flat22) rfl rfl (wt_none' rfl) ?_
                  refine sx_rd' (rd_move' rfl) rfl rfl (wt_none' rfl) ?_
                  obtain ⟨r47, hr47, hp⟩ := bind_some hp
                  refine sx_rd' (rd_at' (K := Kf) rfl rfl hr47 Try.underlying22 info38) rfl rfl (wt_none' rfl) ?_
                  refine sx_rd' (rd_load_pt' rfl rfl flat38) rfl rfl (wt_none' rfl) ?_
                  obtain ⟨r49, hr49, hp⟩ := bind_some hp
                  refine sx_ox' (ox_calln' (ent_fn' Try.func24 isn24 rfl rfl) (laws_gNumber_sim _ hr49 : Go.Sx.Fn Try.prog 24 [(Vl (.float .f64 r47))] [] (fun x : Unit => (Vl (.bool r49))) (fun x => [])) (Hn := fun x : Unit => [⟨.pointer (some q4), [(Vl (.int .i64 r10.1)), (Sl Kf r10.2.1), (Sl Kf r10.2.2)], 43, none⟩]) (fun _ => rfl) rfl rfl) (wt_none' rfl) fun ⟨⟩ => ?_
                  refine sx_rd' (rd_un' rfl ru_not) rfl rfl (wt_none' rfl) ?_
                  refine sx_rd' (rd_move' rfl) rfl rfl (wt_none' rfl) ?_
                  refine sx_cutn' 8 (fun (v15 : Bool) => (⟨62, [], [(4, (Vl (.pointer (some q4)))), (6, (Sl KT43 a0)), (7, (Vl (.int .i64 (a0.length : Int)))), (8, (Vl (.int .i64 x13))), (40, (Vl (.int .i64 (r10.2.1.length : Int)))), (41, (Vl (.int .i64 x12))), (59, (Vl (.bool v15)))], [⟨.pointer (some q4), [(Vl (.int .i64 r10.1)), (Sl Kf r10.2.1), (Sl Kf r10.2.2)], 43, none⟩]⟩ : St)) (fun (v15 : Bool) => laws_bBox_j10 k rec2 x12 v15 = some y2) ?_ ?_
                  · rintro x11 hp
                    replace hp : laws_bBox_j10 k rec2 x12 x11 = some y2 := hp
                    unfold laws_bBox_j10 at hp
                    refine sx_nil' ?_
                    show TX E K51 _
                    refine tx_k' hK51 ?_
                    refine cx_cond' rfl (fun h25 => ?_) (fun h25 => ?_)
                    · replace hp := (br_t h25).symm.trans hp
                      refine cx_seq' fun K53 hK53 => ?_
                      refine cx_region' ?_
                      refine sx_rd' (rd_assign' rfl) rfl rfl (wt_none' rfl) ?_
                      refine sx_nil' ?_
                      show TX E K53 _
                      refine tx_k' hK53 ?_
                      refine cx_retc' ?_
                      replace hp := Option.some.inj hp
                      subst hp
                      show TX E (Zg E Exit.ret _ Exit.ret) _
                      exact tx_zend' () rfl [] (sub_cons rfl sub_nil) (by decide) pick_nil
                    · replace hp := (br_f h25).symm.trans hp
                      refine cx_skip' ?_
                      show TX E K49 _
                      refine tx_k' hK49 ?_
                      refine cx_region' ?_
                      refine sx_rd' (rd_bin' rfl rfl eg_int ru_add) rfl rfl (wt_none' rfl) ?_
                      refine sx_rd' (rd_move' rfl) rfl rfl (wt_none' rfl) ?_
                      refine sx_nil' ?_
                      show TX E (KY2 _) _
                      exact tx_pick' [0] (sub_cons rfl (sub_cons rfl (sub_cons rfl (sub_cons rfl (sub_cons rfl (sub_cons rfl sub_nil)))))) (by decide) (pick_cons rfl pick_nil) (ih2 (iadd .i64 x12 1) () _ hp)
                  · intro K52 hK52
                    rcases br_cases hp with ⟨h24, hp⟩ | ⟨h24, hp⟩
                    · refine sx_skip' rfl rfl (wt_is' (wt_guard' rfl rfl rfl) (beq_tf h24)) ?_
                      refine sx_skip' rfl rfl (wt_is' (wt_guard' rfl rfl rfl) (beq_tf h24)) ?_
                      refine sx_skip' rfl rfl (wt_is' (wt_guard' rfl rfl rfl) (beq_tf h24)) ?_
                      refine sx_skip' rfl rfl (wt_is' (wt_guard' rfl rfl rfl) (beq_tf h24)) ?_
                      refine sx_skip' rfl rfl (wt_is' (wt_guard' rfl rfl rfl) (beq_tf h24)) ?_
                      refine sx_skip' rfl rfl (wt_is' (wt_guard' rfl rfl rfl) (beq_tf h24)) ?_
                      refine sx_skip' rfl rfl (wt_is' (wt_guard' rfl rfl rfl) (beq_tf h24)) ?_
                      refine sx_rd' (rd_pick_true' rfl h24 rfl) rfl rfl (wt_none' rfl) ?_
                      refine sx_nil' ?_
                      show TX E K52 _
                      exact tx_pick' [0] (sub_cons rfl (sub_cons rfl (sub_cons rfl (sub_cons rfl (sub_cons rfl (sub_cons rfl (sub_cons rfl sub_nil))))))) (by decide) (pick_cons rfl pick_nil) (hK52 true hp)
                    · refine sx_rd' (rd_field' (off := 2) rfl Try.underlying43 rfl info22 rfl) rfl rfl (wt_is' (wt_guard' rfl rfl rfl) (beq_ff h24)) ?_
                      refine sx_rd' (rd_load' (i := 0) (o := 2) rfl ⟨rfl, rfl, rfl, rfl⟩ rfl flat22) rfl rfl (wt_is' (wt_guard' rfl rfl rfl) (beq_ff h24)) ?_
                      refine sx_rd' (rd_move' rfl) rfl rfl (wt_is' (wt_guard' rfl rfl rfl) (beq_ff h24)) ?_
                      obtain ⟨r55, hr55, hp⟩ := bind_some hp
                      refine sx_rd' (rd_at' (K := Kf) rfl rfl hr55 Try.underlying22 info38) rfl rfl (wt_is' (wt_guard' rfl rfl rfl) (beq_ff h24)) ?_
                      refine sx_rd' (rd_load_pt' rfl rfl flat38) rfl rfl (wt_is' (wt_guard' rfl rfl rfl) (beq_ff h24)) ?_
                      obtain ⟨r57, hr57, hp⟩ := bind_some hp
                      refine sx_ox' (ox_calln' (ent_fn' Try.func24 isn24 rfl rfl) (laws_gNumber_sim _ hr57 : Go.Sx.Fn Try.prog 24 [(Vl (.float .f64 r55))] [] (fun x : Unit => (Vl (.bool r57))) (fun x => [])) (Hn := fun x : Unit => [⟨.pointer (some q4), [(Vl (.int .i64 r10.1)), (Sl Kf r10.2.1), (Sl Kf r10.2.2)], 43, none⟩]) (fun _ => rfl) rfl rfl) (wt_is' (wt_guard' rfl rfl rfl) (beq_ff h24)) fun ⟨⟩ => ?_
                      refine sx_rd' (rd_un' rfl ru_not) rfl rfl (wt_is' (wt_guard' rfl rfl rfl) (beq_ff h24)) ?_
                      refine sx_rd' (rd_pick_false' rfl h24 rfl) rfl rfl (wt_none' rfl) ?_
                      refine sx_nil' ?_
                      show TX E K52 _
                      exact tx_pick' [0] (sub_cons rfl (sub_cons rfl (sub_cons rfl (sub_cons rfl (sub_cons rfl (sub_cons rfl (sub_cons rfl sub_nil))))))) (by decide) (pick_cons rfl pick_nil) (hK52 (!r57) hp)
                · replace hp := (br_f h23).symm.trans hp
                  refine cx_exit' ?_
                  replace hp := Option.some.inj hp
                  subst hp
                  show TX E (Zg E (Exit.exit 2) _ (Exit.exit 2)) _
                  exact tx_zend' () rfl [] (sub_cons rfl (sub_cons rfl (sub_cons rfl sub_nil))) (by decide) pick_nil
              · rcases y2 with v16 | v17
                · dsimp only at hp
                  refine zg_out fun w16 => ?_
                  replace hp := Option.some.inj hp
                  subst hp
                  show TX E (Zg E Exit.ret _ Exit.ret) _
                  exact tx_zend' () rfl [] (sub_cons rfl sub_nil) (by decide) pick_nil
                · dsimp only at hp
                  refine zg_out fun w17 => ?_
                  show TX E K31 _
                  refine tx_k' hK31 ?_
                  refine cx_region' ?_
                  refine sx_rd' (rd_bin' rfl rfl eg_int ru_add) rfl rfl (wt_none' rfl) ?_
                  refine sx_rd' (rd_move' rfl) rfl rfl (wt_none' rfl) ?_
                  refine sx_nil' ?_
                  show TX E (KY3 _) _
                  exact tx_pick' [] (sub_cons rfl (sub_cons rfl (sub_cons rfl sub_nil))) (by decide) pick_nil (ih3 (iadd .i64 x13 1) () _ hp)
          · intro K37 hK37
            rcases br_cases hp with ⟨h17, hp⟩ | ⟨h17, hp⟩
            · refine px_skip' rfl rfl rfl (wt_is' (wt_guard' rfl rfl rfl) (beq_tf h17)) ?_
              refine px_skip' rfl rfl rfl (wt_is' (wt_guard' rfl rfl rfl) (beq_tf h17)) ?_
              refine px_skip' rfl rfl rfl (wt_is' (wt_guard' rfl rfl rfl) (beq_tf h17)) ?_
              refine px_skip' rfl rfl rfl (wt_is' (wt_guard' rfl rfl rfl) (beq_tf h17)) ?_
              refine px_skip' rfl rfl rfl (wt_is' (wt_guard' rfl rfl rfl) (beq_tf h17)) ?_
              refine px_skip' rfl rfl rfl (wt_is' (wt_guard' rfl rfl rfl) (beq_tf h17)) ?_
              refine px_skip' rfl rfl rfl (wt_is' (wt_guard' rfl rfl rfl) (beq_tf h17)) ?_
              refine px_rd' rfl (rd_pick_true' rfl h17 rfl) rfl rfl (wt_none' rfl) ?_
              refine px_nil' ?_
              show TX E K37 _
              exact tx_pick' [0] (sub_cons rfl (sub_cons rfl (sub_cons rfl (sub_cons rfl (sub_cons rfl sub_nil))))) (by decide) (pick_cons rfl pick_nil) (hK37 true hp)
            · refine px_rd' rfl (rd_field' (off := 2) rfl Try.underlying43 rfl info22 rfl) rfl rfl (wt_is' (wt_guard' rfl rfl rfl) (beq_ff h17)) ?_
              refine px_rd' rfl (rd_load' (i := 0) (o := 2) rfl ⟨rfl, rfl, rfl, rfl⟩ rfl flat22) rfl rfl (wt_is' (wt_guard' rfl rfl rfl) (beq_ff h17)) ?_
              refine px_rd' rfl (rd_len' rfl Try.underlying22) rfl rfl (wt_is' (wt_guard' rfl rfl rfl) (beq_ff h17)) ?_
              refine px_rd' rfl (rd_field' (off := 1) rfl Try.underlying43 rfl info22 rfl) rfl rfl (wt_is' (wt_guard' rfl rfl rfl) (beq_ff h17)) ?_
              refine px_rd' rfl (rd_load' (i := 0) (o := 1) rfl ⟨rfl, rfl, rfl, rfl⟩ rfl flat22) rfl rfl (wt_is' (wt_guard' rfl rfl rfl) (beq_ff h17)) ?_
              refine px_rd' rfl (rd_len' rfl Try.underlying22) rfl rfl (wt_is' (wt_guard' rfl rfl rfl) (beq_ff h17)) ?_
              refine px_rd' rfl (rd_bin' rfl rfl eg_int ru_neq) rfl rfl (wt_is' (wt_guard' rfl rfl rfl) (beq_ff h17)) ?_
              refine px_rd' rfl (rd_pick_false' rfl h17 rfl) rfl rfl (wt_none' rfl) ?_
              refine px_nil' ?_
              show TX E K37 _
              exact tx_pick' [0] (sub_cons rfl (sub_cons rfl (sub_cons rfl (sub_cons rfl (sub_cons rfl sub_nil))))) (by decide) (pick_cons rfl pick_nil) (hK37 (!decide ((r10.2.2.length : Int) = (r10.2.1.length : Int))) hp)
        · intro K36 hK36
          rcases br_cases hp with ⟨h16, hp⟩ | ⟨h16, hp⟩
          · refine px_skip' rfl rfl rfl (wt_is' (wt_guard' rfl rfl rfl) (beq_tf h16)) ?_
            refine px_skip' rfl rfl rfl (wt_is' (wt_guard' rfl rfl rfl) (beq_tf h16)) ?_
            refine px_skip' rfl rfl rfl (wt_is' (wt_guard' rfl rfl rfl) (beq_tf h16)) ?_
            refine px_skip' rfl rfl rfl (wt_is' (wt_guard' rfl rfl rfl) (beq_tf h16)) ?_
            refine px_skip' rfl rfl rfl (wt_is' (wt_guard' rfl rfl rfl) (beq_tf h16)) ?_
            refine px_oskip' rfl rfl rfl (wt_is' (wt_guard' rfl rfl rfl) (beq_tf h16)) ?_
            refine px_skip' rfl rfl rfl (wt_is' (wt_guard' rfl rfl rfl) (beq_tf h16)) ?_
            refine px_rd' rfl (rd_pick_true' rfl h16 rfl) rfl rfl (wt_none' rfl) ?_
            refine px_nil' ?_
            show TX E K36 _
            exact tx_pick' [0] (sub_cons rfl (sub_cons rfl (sub_cons rfl (sub_cons rfl (sub_cons rfl sub_nil))))) (by decide) (pick_cons rfl pick_nil) (hK36 true hp)
          · refine px_rd' rfl (rd_field' (off := 1) rfl Try.underlying43 rfl info22 rfl) rfl rfl (wt_is' (wt_guard' rfl rfl rfl) (beq_ff h16)) ?_
            refine px_rd' rfl (rd_load' (i := 0) (o := 1) rfl ⟨rfl, rfl, rfl, rfl⟩ rfl flat22) rfl rfl (wt_is' (wt_guard' rfl rfl rfl) (beq_ff h16)) ?_
            refine px_rd' rfl (rd_len' rfl Try.underlying22) rfl rfl (wt_is' (wt_guard' rfl rfl rfl) (beq_ff h16)) ?_
            refine px_rd' rfl (rd_field0' rfl Try.underlying43 rfl info3 rfl) rfl rfl (wt_is' (wt_guard' rfl rfl rfl) (beq_ff h16)) ?_
            refine px_rd' rfl (rd_load' (i := 0) (o := 0) rfl ⟨rfl, rfl, rfl, rfl⟩ rfl flat3) rfl rfl (wt_is' (wt_guard' rfl rfl rfl) (beq_ff h16)) ?_
            obtain ⟨r26, hr26, hp⟩ := bind_some hp
            refine px_ox' rfl (ox_calln' (ent_fn' Try.func11 isn11 rfl rfl) (spec_Stride_sim _ hr26 : Go.Sx.Fn Try.prog 11 [(Vl (.int .i64 r10.1))] [] (fun x : Unit => (Vl (.int .i64 r26))) (fun x => [])) (Hn := fun x : Unit => [⟨.pointer (some q4), [(Vl (.int .i64 r10.1)), (Sl Kf r10.2.1), (Sl Kf r10.2.2)], 43, none⟩]) (fun _ => rfl) rfl rfl) rfl bs_nil (wt_is' (wt_guard' rfl rfl rfl) (beq_ff h16)) fun ⟨⟩ => ?_
            refine px_rd' rfl (rd_bin' rfl rfl eg_int ru_neq) rfl rfl (wt_is' (wt_guard' rfl rfl rfl) (beq_ff h16)) ?_
            refine px_rd' rfl (rd_pick_false' rfl h16 rfl) rfl rfl (wt_none' rfl) ?_
            refine px_nil' ?_
            show TX E K36 _
            exact tx_pick' [0] (sub_cons rfl (sub_cons rfl (sub_cons rfl (sub_cons rfl (sub_cons rfl sub_nil))))) (by decide) (pick_cons rfl pick_nil) (hK36 (!decide ((r10.2.1.length : Int) = r26)) hp)
      · intro K35 hK35
        rcases br_cases hp with ⟨h15, hp⟩ | ⟨h15, hp⟩
        · refine px_skip' rfl rfl rfl (wt_is' (wt_guard' rfl rfl rfl) (beq_tf h15)) ?_
          refine px_skip' rfl rfl rfl (wt_is' (wt_guard' rfl rfl rfl) (beq_tf h15)) ?_
          refine px_skip' rfl rfl rfl (wt_is' (wt_guard' rfl rfl rfl) (beq_tf h15)) ?_
          refine px_rd' rfl (rd_pick_true' rfl h15 rfl) rfl rfl (wt_none' rfl) ?_
          refine px_nil' ?_
          show TX E K35 _
          exact tx_pick' [0] (sub_cons rfl (sub_cons rfl (sub_cons rfl (sub_cons rfl (sub_cons rfl sub_nil))))) (by decide) (pick_cons rfl pick_nil) (hK35 true hp)
        · refine px_rd' rfl (rd_field0' rfl Try.underlying43 rfl info3 rfl) rfl rfl (wt_is' (wt_guard' rfl rfl rfl) (beq_ff h15)) ?_
          refine px_rd' rfl (rd_load' (i := 0) (o := 0) rfl ⟨rfl, rfl, rfl, rfl⟩ rfl flat3) rfl rfl (wt_is' (wt_guard' rfl rfl rfl) (beq_ff h15)) ?_
          refine px_rd' rfl (rd_bin' rfl rfl eg_int ru_gtr) rfl rfl (wt_is' (wt_guard' rfl rfl rfl) (beq_ff h15)) ?_
          refine px_rd' rfl (rd_pick_false' rfl h15 rfl) rfl rfl (wt_none' rfl) ?_
          refine px_nil' ?_
          show TX E K35 _
          exact tx_pick' [0] (sub_cons rfl (sub_cons rfl (sub_cons rfl (sub_cons rfl (sub_cons rfl sub_nil))))) (by decide) (pick_cons rfl pick_nil) (hK35 (decide (9 < r10.1)) hp)
    · replace hp := (br_f h14).symm.trans hp
      refine cx_exit' ?_
      replace hp := Option.some.inj hp
      subst hp
      show TX E (Zg E (Exit.exit 0) _ (Exit.exit 0)) _
      exact tx_zend' () rfl [] sub_nil (by decide) pick_nil
  · rcases y3 with v18 | v19
    · dsimp only at hp
      refine zg_out fun w18 => ?_
      replace hp := Option.some.inj hp
      subst hp
      refine tx_pick' (L' := [(2, (Vl (.bool false)))]) (H' := []) [] (sub_cons rfl sub_nil) (by decide) pick_nil ?_
      exact tx_ret1' Try.results22 rfl () (rv_tmp' rfl) (List.Sublist.refl _)
    · dsimp only at hp
      refine zg_out fun w19 => ?_
      show TX E K2 _
      refine tx_k' hK2 ?_
      refine cx_seq' fun K54 hK54 => ?_
      refine cx_region' ?_
      refine sx_rd' (rd_assign' rfl) rfl rfl (wt_none' rfl) ?_
      refine sx_nil' ?_
      show TX E K54 _
      refine tx_k' hK54 ?_
      refine cx_retc' ?_
      replace hp := Option.some.inj hp
      subst hp
      refine tx_pick' (L' := [(2, (Vl (.bool true)))]) (H' := []) [] (sub_cons rfl sub_nil) (by decide) pick_nil ?_
      exact tx_ret1' Try.results22 rfl () (rv_tmp' rfl) (List.Sublist.refl _)

def laws_gEach_l1s (a0_3 : List Nat) (k : Nat) (rec1 : Int → Option (Unit ⊕ Unit)) (x1 : Int) : Option (Unit ⊕ Unit) :=
  br (decide (x1 < (a0_3.length : Int)))
    ((idx a0_3 x1) >>= fun r14 =>
    (laws_gNumber k r14) >>= fun r18 =>
    br (!r18)
      (some (.inl ()))
      (rec1 (iadd .i64 x1 1)))
    (some (.inr ()))
def laws_gEach_l1 (a0_3 : List Nat) : Nat → Int → Option (Unit ⊕ Unit)
  | 0, _ => none
  | k + 1, v => laws_gEach_l1s a0_3 k (laws_gEach_l1 a0_3 k) v
def laws_gEach (k : Nat) (a0_0 : Int) (a0_1 : Int) (a0_2 : Int) (a0_3 : List Nat) : Option (Bool) :=
  (laws_gEach_l1 a0_3 k 0) >>= fun y1 => match y1 with
    | (.inl v2) =>
      (some false)
    | (.inr v3) =>
      (some true)

theorem laws_gEach_sim {k : Nat}  (a0_0 : Int) (a0_1 : Int) (a0_2 : Int) (a0_3 : List Nat) {out : Bool} (hp : laws_gEach k a0_0 a0_1 a0_2 a0_3 = some out) : Go.Sx.Fn Try.prog 23 [(Ag [(Vl (.int .i64 a0_0)), (Vl (.int .i64 a0_1)), (Vl (.int .i64 a0_2)), (Sl Kf a0_3), (Vl (.slice none 0 0)), (Vl (.slice none 0 0)), (Vl (.slice none 0 0))]), (Vl (.func (.func 24) #[] #[]))] [] (fun w : Unit => (Vl (.bool out))) (fun w => []) := by
  unfold laws_gEach at hp
  refine fn_of Try.func23 rfl Try.ntmps23 rfl fun E hM => ?_
  refine cx_seq' fun K1 hK1 => ?_
  refine cx_region' ?_
  refine sx_ox' (ox_box' rfl (lv_ag _) rfl rfl) (wt_none' rfl) fun q2 => ?_
  refine sx_rd' (rd_assign' rfl) rfl rfl (wt_none' rfl) ?_
  refine sx_nil' ?_
  show TX E K1 _
  refine tx_k' hK1 ?_
  refine cx_seq' fun K2 hK2 => ?_
  refine cx_seq' fun K3 hK3 => ?_
  refine cx_region' ?_
  refine sx_rd' (rd_field' (off := 3) rfl Try.underlying50 rfl info22 rfl) rfl rfl (wt_none' rfl) ?_
  refine sx_rd' (rd_load' (i := 0) (o := 3) rfl ⟨rfl, rfl, rfl, rfl⟩ rfl flat22) rfl rfl (wt_none' rfl) ?_
  refine sx_rd' (rd_len' rfl Try.underlying22) rfl rfl (wt_none' rfl) ?_
  refine sx_rd' (rd_move' rfl) rfl rfl (wt_none' rfl) ?_
  refine sx_nil' ?_
  show TX E K3 _
  refine tx_k' hK3 ?_
  refine cx_block' ?_
  obtain ⟨y1, hy1, hp⟩ := bind_some hp
  refine cx_loopg' (F := laws_gEach_l1 a0_3) (G := fun k R v => laws_gEach_l1s a0_3 k R v) (x := 0) (gh := ()) (fun (v1 : Int) (w1 : Unit) => (⟨33, [], [(1, (Vl (.func (.func 24) #[] #[]))), (2, (Vl (.pointer (some q2)))), (10, (Sl Kf a0_3)), (11, (Vl (.int .i64 (a0_3.length : Int)))), (12, (Vl (.int .i64 v1)))], [⟨.pointer (some q2), [(Vl (.int .i64 a0_0)), (Vl (.int .i64 a0_1)), (Vl (.int .i64 a0_2)), (Sl Kf a0_3), (Vl (.slice none 0 0)), (Vl (.slice none 0 0)), (Vl (.slice none 0 0))], 50, none⟩]⟩ : St)) (fun (y : Unit ⊕ Unit) => match y with | (.inl v2) => Zg E Exit.ret (fun (w2 : Unit) => (⟨33, [], [(4, (Vl (.bool false)))], []⟩ : St)) | (.inr v3) => Zg E (Exit.exit 0) (fun (w3 : Unit) => (⟨33, [], [(1, (Vl (.func (.func 24) #[] #[]))), (2, (Vl (.pointer (some q2))))], [⟨.pointer (some q2), [(Vl (.int .i64 a0_0)), (Vl (.int .i64 a0_1)), (Vl (.int .i64 a0_2)), (Sl Kf a0_3), (Vl (.slice none 0 0)), (Vl (.slice none 0 0)), (Vl (.slice none 0 0))], 50, none⟩]⟩ : St))) (fun _ => rfl) (fun _ _ => rfl) ?_ hy1 (tx_to' rfl [0] (sub_cons rfl (sub_cons rfl (sub_cons rfl (sub_cons rfl (sub_cons rfl sub_nil))))) (by decide) (pick_cons rfl pick_nil)) ?_
  · clear hp hy1
    clear y1
    intro k rec1 KY1 ih1
    rintro x1 ⟨⟩ y1 hp
    replace hp : laws_gEach_l1s a0_3 k rec1 x1 = some y1 := hp
    unfold laws_gEach_l1s at hp
    refine cx_seq' fun K10 hK10 => ?_
    refine cx_region' ?_
    refine sx_rd' (rd_bin' rfl rfl eg_int ru_lss) rfl rfl (wt_none' rfl) ?_
    refine sx_nil' ?_
    show TX E K10 _
    refine tx_k' hK10 ?_
    refine cx_seq' fun K11 hK11 => ?_
    refine cx_cond' rfl (fun h4 => ?_) (fun h4 => ?_)
    · replace hp := (br_t h4).symm.trans hp
      refine cx_skip' ?_
      show TX E K11 _
      refine tx_k' hK11 ?_
      refine cx_seq' fun K12 hK12 => ?_
      refine cx_block' ?_
      refine cx_seq' fun K13 hK13 => ?_
      refine cx_region' ?_
      obtain ⟨r14, hr14, hp⟩ := bind_some hp
      refine sx_rd' (rd_at' (K := Kf) rfl rfl hr14 Try.underlying22 info38) rfl rfl (wt_none' rfl) ?_
      refine sx_rd' (rd_load_pt' rfl rfl flat38) rfl rfl (wt_none' rfl) ?_
      refine sx_rd' (rd_assign' rfl) rfl rfl (wt_none' rfl) ?_
      refine sx_nil' ?_
      show TX E K13 _
      refine tx_k' hK13 ?_
      refine cx_seq' fun K14 hK14 => ?_
      refine cx_region' ?_
      refine sx_rd' (rd_move' rfl) rfl rfl (wt_none' rfl) ?_
      refine sx_rd' (rd_move' rfl) rfl rfl (wt_none' rfl) ?_
      obtain ⟨r18, hr18, hp⟩ := bind_some hp
      refine sx_ox' (ox_calln' (ent_clo' (us := []) rfl Try.func24 isn24 rfl rfl) (laws_gNumber_sim _ hr18 : Go.Sx.Fn Try.prog 24 [(Vl (.float .f64 r14))] [] (fun x : Unit => (Vl (.bool r18))) (fun x => [])) (Hn := fun x : Unit => [⟨.pointer (some q2), [(Vl (.int .i64 a0_0)), (Vl (.int .i64 a0_1)), (Vl (.int .i64 a0_2)), (Sl Kf a0_3), (Vl (.slice none 0 0)), (Vl (.slice none 0 0)), (Vl (.slice none 0 0))], 50, none⟩]) (fun _ => rfl) rfl rfl) (wt_none' rfl) fun ⟨⟩ => ?_
      refine sx_rd' (rd_un' rfl ru_not) rfl rfl (wt_none' rfl) ?_
      refine sx_nil' ?_
      show TX E K14 _
      refine tx_k' hK14 ?_
      refine cx_cond' rfl (fun h5 => ?_) (fun h5 => ?_)
      · replace hp := (br_t h5).symm.trans hp
        refine cx_seq' fun K15 hK15 => ?_
        refine cx_region' ?_
        refine sx_rd' (rd_assign' rfl) rfl rfl (wt_none' rfl) ?_
        refine sx_nil' ?_
        show TX E K15 _
        refine tx_k' hK15 ?_
        refine cx_retc' ?_
        replace hp := Option.some.inj hp
        subst hp
        show TX E (Zg E Exit.ret _ Exit.ret) _
        exact tx_zend' () rfl [] (sub_cons rfl sub_nil) (by decide) pick_nil
      · replace hp := (br_f h5).symm.trans hp
        refine cx_skip' ?_
        show TX E K12 _
        refine tx_k' hK12 ?_
        refine cx_region' ?_
        refine sx_rd' (rd_bin' rfl rfl eg_int ru_add) rfl rfl (wt_none' rfl) ?_
        refine sx_rd' (rd_move' rfl) rfl rfl (wt_none' rfl) ?_
        refine sx_nil' ?_
        show TX E (KY1 _) _
        exact tx_pick' [0] (sub_cons rfl (sub_cons rfl (sub_cons rfl (sub_cons rfl (sub_cons rfl sub_nil))))) (by decide) (pick_cons rfl pick_nil) (ih1 (iadd .i64 x1 1) () _ hp)
    · replace hp := (br_f h4).symm.trans hp
      refine cx_exit' ?_
      replace hp := Option.some.inj hp
      subst hp
      show TX E (Zg E (Exit.exit 0) _ (Exit.exit 0)) _
      exact tx_zend' () rfl [0] (sub_cons rfl (sub_cons rfl sub_nil)) (by decide) (pick_cons rfl pick_nil)
  · rcases y1 with v2 | v3
    · dsimp only at hp
      refine zg_out fun w2 => ?_
      replace hp := Option.some.inj hp
      subst hp
      refine tx_pick' (L' := [(4, (Vl (.bool false)))]) (H' := []) [] (sub_cons rfl sub_nil) (by decide) pick_nil ?_
      exact tx_ret1' Try.results23 rfl () (rv_tmp' rfl) (List.Sublist.refl _)
    · dsimp only at hp
      refine zg_out fun w3 => ?_
      show TX E K2 _
      refine tx_k' hK2 ?_
      refine cx_seq' fun K16 hK16 => ?_
      refine cx_seq' fun K17 hK17 => ?_
      refine cx_region' ?_
      refine sx_rd' (rd_field' (off := 6) rfl Try.underlying50 rfl info48 rfl) rfl rfl (wt_none' rfl) ?_
      refine sx_rd' (rd_load' (i := 0) (o := 6) rfl ⟨rfl, rfl, rfl, rfl⟩ rfl flat48) rfl rfl (wt_none' rfl) ?_
      refine sx_rd' (rd_lenv' rfl Try.underlying48) rfl rfl (wt_none' rfl) ?_
      refine sx_rd' (rd_move' rfl) rfl rfl (wt_none' rfl) ?_
      refine sx_nil' ?_
      show TX E K17 _
      refine tx_k' hK17 ?_
      refine cx_block' ?_
      refine tx_loop' ?_
      refine tx_round' ?_
      refine cx_seq' fun K18 hK18 => ?_
      refine cx_region' ?_
      refine sx_rd' (rd_bin' rfl rfl eg_int ru_lss) rfl rfl (wt_none' rfl) ?_
      refine sx_nil' ?_
      show TX E K18 _
      refine tx_k' hK18 ?_
      refine cx_seq' fun K19 hK19 => ?_
      refine cx_cond_f' rfl rfl ?_
      refine cx_exit' ?_
      show TX E K16 _
      refine tx_k' hK16 ?_
      refine cx_seq' fun K20 hK20 => ?_
      refine cx_region' ?_
      refine sx_rd' (rd_assign' rfl) rfl rfl (wt_none' rfl) ?_
      refine sx_nil' ?_
      show TX E K20 _
      refine tx_k' hK20 ?_
      refine cx_retc' ?_
      replace hp := Option.some.inj hp
      subst hp
      refine tx_pick' (L' := [(4, (Vl (.bool true)))]) (H' := []) [] (sub_cons rfl sub_nil) (by decide) pick_nil ?_
      exact tx_ret1' Try.results23 rfl () (rv_tmp' rfl) (List.Sublist.refl _)

def impl_floats (k : Nat) (a0 : List Nat) : Option ((List Nat)) :=
  (apd 8 [] a0) >>= fun r4 =>
  some r4

theorem impl_floats_sim {k : Nat}  (a0 : List Nat) {out : (List Nat)} (hp : impl_floats k a0 = some out) : Go.Sx.Fn Try.prog 50 [(Sl Kf a0)] [] (fun w : Gs => (Vl (Vs w))) (fun w => [(Rw Kf 38 (Vs w) out)]) := by
  unfold impl_floats at hp
  refine fn_of Try.func50 rfl Try.ntmps50 rfl fun E hM => ?_
  refine cx_seq' fun K1 hK1 => ?_
  refine cx_region' ?_
  refine sx_rd' (rd_assign' rfl) rfl rfl (wt_none' rfl) ?_
  refine sx_nil' ?_
  show TX E K1 _
  refine tx_k' hK1 ?_
  refine cx_seq' fun K2 hK2 => ?_
  refine cx_region' ?_
  refine sx_rd' (rd_move' rfl) rfl rfl (wt_none' rfl) ?_
  refine tx_nilrow' Kf 38 ?_
  obtain ⟨r4, hr4, hp⟩ := bind_some hp
  refine sx_ox' (ox_append' (K := Kf) (i := 0) (xs := []) (ys := a0) rfl rfl rfl (sr_sl' rfl Try.underlying22) hr4 Try.underlying22 info38 rfl rfl rfl (H' := []) rfl) (wt_none' rfl) fun g4 => ?_
  refine sx_rd' (rd_assign' rfl) rfl rfl (wt_none' rfl) ?_
  refine sx_nil' ?_
  show TX E K2 _
  refine tx_k' hK2 ?_
  refine cx_retc' ?_
  replace hp := Option.some.inj hp
  subst hp
  refine tx_pick' (L' := [(2, (Vl (Vs g4)))]) (H' := [(Rw Kf 38 (Vs g4) r4)]) [0] (sub_cons rfl sub_nil) (by decide) (pick_cons rfl pick_nil) ?_
  exact tx_ret1' Try.results50 rfl g4 (rv_tmp' rfl) (List.Sublist.refl _)

def gogeom_DoorBounds (k : Nat) (a0 : Int) (a1 : List Nat) (a2 : List Nat) : Option ((List Nat) × (List Nat) × Int) :=
  some (a1, a2, a0)

theorem gogeom_DoorBounds_sim {k : Nat} {wa1 : Gs} {wa2 : Gs} (a0 : Int) (a1 : List Nat) (a2 : List Nat) {out : (List Nat) × (List Nat) × Int} (hp : gogeom_DoorBounds k a0 a1 a2 = some out) : Go.Sx.Fn Try.prog 101 [(Vl (.int .i64 a0)), (Vl (Vs wa1)), (Vl (Vs wa2))] [(Rw Kf 38 (Vs wa1) a1), (Rw Kf 38 (Vs wa2) a2)] (fun w : Addr => (Vl (.pointer (some w)))) (fun w => [(Rw Kf 38 (Vs wa1) out.1), (Rw Kf 38 (Vs wa2) out.2.1), ⟨.pointer (some w), [(Vl (.int .i64 out.2.2)), (Vl (Vs wa1)), (Vl (Vs wa2))], 159, none⟩]) := by
  unfold gogeom_DoorBounds at hp
  refine fn_of Try.func101 rfl Try.ntmps101 rfl fun E hM => ?_
  refine cx_seq' fun K1 hK1 => ?_
  refine cx_region' ?_
  refine sx_rd' (rd_assign' rfl) rfl rfl (wt_none' rfl) ?_
  refine sx_nil' ?_
  show TX E K1 _
  refine tx_k' hK1 ?_
  refine cx_seq' fun K2 hK2 => ?_
  refine cx_region' ?_
  refine sx_rd' (rd_move' rfl) rfl rfl (wt_none' rfl) ?_
  refine sx_rd' (rd_move' rfl) rfl rfl (wt_none' rfl) ?_
  refine sx_rd' (rd_move' rfl) rfl rfl (wt_none' rfl) ?_
  refine sx_rd' (rd_build' (pls := [(0, 1), (1, 1), (2, 1)]) (qs := [(0, [(Vl (.int .i64 a0))]), (1, [(Vl (Vs wa1))]), (2, [(Vl (Vs wa2))])]) (r := [(Vl (.int .i64 a0)), (Vl (Vs wa1)), (Vl (Vs wa2))]) ⟨rfl, ⟨_, rfl, (lv_vl rfl rfl)⟩, ⟨rfl, ⟨_, rfl, (lv_vl rfl rfl)⟩, ⟨rfl, ⟨_, rfl, (lv_vl rfl rfl)⟩, trivial⟩⟩⟩ Try.underlying159 has159 places159 info159 rfl rfl rfl) rfl rfl (wt_none' rfl) ?_
  refine sx_ox' (ox_box' rfl (lv_ag _) rfl rfl) (wt_none' rfl) fun q11 => ?_
  refine sx_rd' (rd_assign' rfl) rfl rfl (wt_none' rfl) ?_
  refine sx_nil' ?_
  show TX E K2 _
  refine tx_k' hK2 ?_
  refine cx_retc' ?_
  replace hp := Option.some.inj hp
  subst hp
  refine tx_pick' (L' := [(6, (Vl (.pointer (some q11))))]) (H' := [(Rw Kf 38 (Vs wa1) a1), (Rw Kf 38 (Vs wa2) a2), ⟨.pointer (some q11), [(Vl (.int .i64 a0)), (Vl (Vs wa1)), (Vl (Vs wa2))], 159, none⟩]) [1, 2, 0] (sub_cons rfl sub_nil) (by decide) (pick_cons rfl (pick_cons rfl (pick_cons rfl pick_nil))) ?_
  exact tx_ret1' Try.results101 rfl q11 (rv_tmp' rfl) (List.Sublist.refl _)

def impl_box (k : Nat) (a0_0 : Int) (a0_1 : List Nat) (a0_2 : List Nat) : Option (Int × (List Nat) × (List Nat)) :=
  (impl_floats k a0_1) >>= fun r7 =>
  (impl_floats k a0_2) >>= fun r10 =>
  (gogeom_DoorBounds k a0_0 r7 r10) >>= fun r11 =>
  some (r11.2.2, r11.1, r11.2.1)

theorem impl_box_sim {k : Nat}  (a0_0 : Int) (a0_1 : List Nat) (a0_2 : List Nat) {out : Int × (List Nat) × (List Nat)} (hp : impl_box k a0_0 a0_1 a0_2 = some out) : Go.Sx.Fn Try.prog 63 [(Ag [(Vl (.int .i64 a0_0)), (Sl Kf a0_1), (Sl Kf a0_2)])] [] (fun w : Addr × Gs × Gs => (Vl (.pointer (some w.1)))) (fun w => [⟨.pointer (some w.1), [(Vl (.int .i64 out.1)), (Vl (Vs w.2.1)), (Vl (Vs w.2.2))], 159, none⟩, (Rw Kf 38 (Vs w.2.1) out.2.1), (Rw Kf 38 (Vs w.2.2) out.2.2)]) := by
  unfold impl_box at hp
  refine fn_of Try.func63 rfl Try.ntmps63 rfl fun E hM => ?_
  refine cx_seq' fun K1 hK1 => ?_
  refine cx_region' ?_
  refine sx_ox' (ox_box' rfl (lv_ag _) rfl rfl) (wt_none' rfl) fun q1 => ?_
  refine sx_rd' (rd_assign' rfl) rfl rfl (wt_none' rfl) ?_
  refine sx_nil' ?_
  show TX E K1 _
  refine tx_k' hK1 ?_
  refine cx_seq' fun K2 hK2 => ?_
  refine cx_plan' [] [(8, 1)] [(0, 1), (1, 1), (2, 1), (3, 1), (5, 1), (6, 1), (4, 0), (7, 0), (8, 0), (9, 1)] mixed (by kernel_rfl) ?_
  refine px_rd' rfl (rd_field0' rfl Try.underlying43 rfl info3 rfl) rfl rfl (wt_none' rfl) ?_
  refine px_rd' rfl (rd_load' (i := 0) (o := 0) rfl ⟨rfl, rfl, rfl, rfl⟩ rfl flat3) rfl rfl (wt_none' rfl) ?_
  refine px_rd' rfl (rd_field' (off := 1) rfl Try.underlying43 rfl info22 rfl) rfl rfl (wt_none' rfl) ?_
  refine px_rd' rfl (rd_load' (i := 0) (o := 1) rfl ⟨rfl, rfl, rfl, rfl⟩ rfl flat22) rfl rfl (wt_none' rfl) ?_
  refine px_rd' rfl (rd_field' (off := 2) rfl Try.underlying43 rfl info22 rfl) rfl rfl (wt_none' rfl) ?_
  refine px_rd' rfl (rd_load' (i := 0) (o := 2) rfl ⟨rfl, rfl, rfl, rfl⟩ rfl flat22) rfl rfl (wt_none' rfl) ?_
  obtain ⟨r7, hr7, hp⟩ := bind_some hp
  refine px_ox' rfl (ox_calln' (ent_fn' Try.func50 isn50 rfl rfl) (impl_floats_sim _ hr7 : Go.Sx.Fn Try.prog 50 [(Sl Kf a0_1)] [] (fun x : Gs => (Vl (Vs x))) (fun x => [(Rw Kf 38 (Vs x) r7)])) (Hn := fun x : Gs => [(Rw Kf 38 (Vs x) r7), ⟨.pointer (some q1), [(Vl (.int .i64 a0_0)), (Sl Kf a0_1), (Sl Kf a0_2)], 43, none⟩]) (fun _ => rfl) rfl rfl) rfl bs_nil (wt_none' rfl) fun g7 => ?_
  obtain ⟨r10, hr10, hp⟩ := bind_some hp
  refine px_ox' rfl (ox_calln' (ent_fn' Try.func50 isn50 rfl rfl) (impl_floats_sim _ hr10 : Go.Sx.Fn Try.prog 50 [(Sl Kf a0_2)] [] (fun x : Gs => (Vl (Vs x))) (fun x => [(Rw Kf 38 (Vs x) r10)])) (Hn := fun x : Gs => [(Rw Kf 38 (Vs x) r10), (Rw Kf 38 (Vs g7) r7), ⟨.pointer (some q1), [(Vl (.int .i64 a0_0)), (Sl Kf a0_1), (Sl Kf a0_2)], 43, none⟩]) (fun _ => rfl) rfl rfl) rfl bs_nil (wt_none' rfl) fun g10 => ?_
  obtain ⟨r11, hr11, hp⟩ := bind_some hp
  refine px_oxb' (is := [1, 0]) rfl (oxb_callg (ent_fn' Try.func101 isn101 rfl rfl) (gogeom_DoorBounds_sim _ _ _ hr11 : Go.Sx.Fn Try.prog 101 [(Vl (.int .i64 a0_0)), (Vl (Vs g7)), (Vl (Vs g10))] [(Rw Kf 38 (Vs g7) r7), (Rw Kf 38 (Vs g10) r10)] (fun x : Addr => (Vl (.pointer (some x)))) (fun x => [(Rw Kf 38 (Vs g7) r11.1), (Rw Kf 38 (Vs g10) r11.2.1), ⟨.pointer (some x), [(Vl (.int .i64 r11.2.2)), (Vl (Vs g7)), (Vl (Vs g10))], 159, none⟩])) [1, 0] [2] (by decide) (pick_cons rfl (pick_cons rfl pick_nil)) (pick_cons rfl pick_nil) (Hn := fun x : Addr => [(Rw Kf 38 (Vs g7) r11.1), (Rw Kf 38 (Vs g10) r11.2.1), ⟨.pointer (some x), [(Vl (.int .i64 r11.2.2)), (Vl (Vs g7)), (Vl (Vs g10))], 159, none⟩, ⟨.pointer (some q1), [(Vl (.int .i64 a0_0)), (Sl Kf a0_1), (Sl Kf a0_2)], 43, none⟩]) (fun _ => rfl) rfl rfl) (pick_cons rfl (pick_cons rfl pick_nil)) rfl bl_nil (wt_none' rfl) fun q11 => ?_
  refine px_rd' rfl (rd_assign' rfl) rfl rfl (wt_none' rfl) ?_
  refine px_nil' ?_
  show TX E K2 _
  refine tx_k' hK2 ?_
  refine cx_retc' ?_
  replace hp := Option.some.inj hp
  subst hp
  refine tx_pick' (L' := [(2, (Vl (.pointer (some q11))))]) (H' := [⟨.pointer (some q11), [(Vl (.int .i64 r11.2.2)), (Vl (Vs g7)), (Vl (Vs g10))], 159, none⟩, (Rw Kf 38 (Vs g7) r11.1), (Rw Kf 38 (Vs g10) r11.2.1)]) [2, 0, 1] (sub_cons rfl sub_nil) (by decide) (pick_cons rfl (pick_cons rfl (pick_cons rfl pick_nil))) ?_
  exact tx_ret1' Try.results63 rfl (q11, g7, g10) (rv_tmp' rfl) (List.Sublist.refl _)

def gogeom_Layout_Stride (k : Nat) (a0 : Int) : Option (Int) :=
  br (decide (a0 = 0))
    (some 0)
    (br (decide (a0 = 1))
      (some 2)
      (br (decide (a0 = 2))
        (some 3)
        (br (decide (a0 = 3))
          (some 3)
          (br (decide (a0 = 4))
            (some 4)
            (some a0)))))

theorem gogeom_Layout_Stride_sim {k : Nat}  (a0 : Int) {out : Int} (hp : gogeom_Layout_Stride k a0 = some out) : Go.Sx.Fn Try.prog 133 [(Vl (.int .i64 a0))] [] (fun w : Unit => (Vl (.int .i64 out))) (fun w => []) := by
  unfold gogeom_Layout_Stride at hp
  refine fn_of Try.func133 rfl Try.ntmps133 rfl fun E hM => ?_
  refine cx_seq' fun K1 hK1 => ?_
  refine cx_region' ?_
  refine sx_rd' (rd_assign' rfl) rfl rfl (wt_none' rfl) ?_
  refine sx_nil' ?_
  show TX E K1 _
  refine tx_k' hK1 ?_
  refine cx_seq' fun K2 hK2 => ?_
  refine cx_region' ?_
  refine sx_rd' (rd_move' rfl) rfl rfl (wt_none' rfl) ?_
  refine sx_nil' ?_
  show TX E K2 _
  refine tx_k' hK2 ?_
  refine cx_block' ?_
  refine cx_seq' fun K3 hK3 => ?_
  refine cx_region' ?_
  refine sx_rd' (rd_bin' rfl rfl eg_int ru_eql) rfl rfl (wt_none' rfl) ?_
  refine sx_rd' (rd_assign' rfl) rfl rfl (wt_none' rfl) ?_
  refine sx_nil' ?_
  show TX E K3 _
  refine tx_k' hK3 ?_
  refine cx_cond' rfl (fun h1 => ?_) (fun h1 => ?_)
  · replace hp := (br_t h1).symm.trans hp
    refine cx_seq' fun K4 hK4 => ?_
    refine cx_region' ?_
    refine sx_rd' (rd_assign' rfl) rfl rfl (wt_none' rfl) ?_
    refine sx_nil' ?_
    show TX E K4 _
    refine tx_k' hK4 ?_
    refine cx_retc' ?_
    replace hp := Option.some.inj hp
    subst hp
    refine tx_pick' (L' := [(2, (Vl (.int .i64 0)))]) (H' := []) [] (sub_cons rfl sub_nil) (by decide) pick_nil ?_
    exact tx_ret1' Try.results133 rfl () (rv_tmp' rfl) (List.Sublist.refl _)
  · replace hp := (br_f h1).symm.trans hp
    refine cx_seq' fun K5 hK5 => ?_
    refine cx_region' ?_
    refine sx_rd' (rd_bin' rfl rfl eg_int ru_eql) rfl rfl (wt_none' rfl) ?_
    refine sx_rd' (rd_assign' rfl) rfl rfl (wt_none' rfl) ?_
    refine sx_nil' ?_
    show TX E K5 _
    refine tx_k' hK5 ?_
    refine cx_cond' rfl (fun h2 => ?_) (fun h2 => ?_)
    · replace hp := (br_t h2).symm.trans hp
      refine cx_seq' fun K6 hK6 => ?_
      refine cx_region' ?_
      refine sx_rd' (rd_assign' rfl) rfl rfl (wt_none' rfl) ?_
      refine sx_nil' ?_
      show TX E K6 _
      refine tx_k' hK6 ?_
      refine cx_retc' ?_
      replace hp := Option.some.inj hp
      subst hp
      refine tx_pick' (L' := [(2, (Vl (.int .i64 2)))]) (H' := []) [] (sub_cons rfl sub_nil) (by decide) pick_nil ?_
      exact tx_ret1' Try.results133 rfl () (rv_tmp' rfl) (List.Sublist.refl _)
    · replace hp := (br_f h2).symm.trans hp
      refine cx_seq' fun K7 hK7 => ?_
      refine cx_region' ?_
      refine sx_rd' (rd_bin' rfl rfl eg_int ru_eql) rfl rfl (wt_none' rfl) ?_
      refine sx_rd' (rd_assign' rfl) rfl rfl (wt_none' rfl) ?_
      refine sx_nil' ?_
      show TX E K7 _
      refine tx_k' hK7 ?_
      refine cx_cond' rfl (fun h3 => ?_) (fun h3 => ?_)
      · replace hp := (br_t h3).symm.trans hp
        refine cx_seq' fun K8 hK8 => ?_
        refine cx_region' ?_
        refine sx_rd' (rd_assign' rfl) rfl rfl (wt_none' rfl) ?_
        refine sx_nil' ?_
        show TX E K8 _
        refine tx_k' hK8 ?_
        refine cx_retc' ?_
        replace hp := Option.some.inj hp
        subst hp
        refine tx_pick' (L' := [(2, (Vl (.int .i64 3)))]) (H' := []) [] (sub_cons rfl sub_nil) (by decide) pick_nil ?_
        exact tx_ret1' Try.results133 rfl () (rv_tmp' rfl) (List.Sublist.refl _)
      · replace hp := (br_f h3).symm.trans hp
        refine cx_seq' fun K9 hK9 => ?_
        refine cx_region' ?_
        refine sx_rd' (rd_bin' rfl rfl eg_int ru_eql) rfl rfl (wt_none' rfl) ?_
        refine sx_rd' (rd_assign' rfl) rfl rfl (wt_none' rfl) ?_
        refine sx_nil' ?_
        show TX E K9 _
        refine tx_k' hK9 ?_
        refine cx_cond' rfl (fun h4 => ?_) (fun h4 => ?_)
        · replace hp := (br_t h4).symm.trans hp
          refine cx_seq' fun K10 hK10 => ?_
          refine cx_region' ?_
          refine sx_rd' (rd_assign' rfl) rfl rfl (wt_none' rfl) ?_
          refine sx_nil' ?_
          show TX E K10 _
          refine tx_k' hK10 ?_
          refine cx_retc' ?_
          replace hp := Option.some.inj hp
          subst hp
          refine tx_pick' (L' := [(2, (Vl (.int .i64 3)))]) (H' := []) [] (sub_cons rfl sub_nil) (by decide) pick_nil ?_
          exact tx_ret1' Try.results133 rfl () (rv_tmp' rfl) (List.Sublist.refl _)
        · replace hp := (br_f h4).symm.trans hp
          refine cx_seq' fun K11 hK11 => ?_
          refine cx_region' ?_
          refine sx_rd' (rd_bin' rfl rfl eg_int ru_eql) rfl rfl (wt_none' rfl) ?_
          refine sx_rd' (rd_assign' rfl) rfl rfl (wt_none' rfl) ?_
          refine sx_nil' ?_
          show TX E K11 _
          refine tx_k' hK11 ?_
          refine cx_cond' rfl (fun h5 => ?_) (fun h5 => ?_)
          · replace hp := (br_t h5).symm.trans hp
            refine cx_seq' fun K12 hK12 => ?_
            refine cx_region' ?_
            refine sx_rd' (rd_assign' rfl) rfl rfl (wt_none' rfl) ?_
            refine sx_nil' ?_
            show TX E K12 _
            refine tx_k' hK12 ?_
            refine cx_retc' ?_
            replace hp := Option.some.inj hp
            subst hp
            refine tx_pick' (L' := [(2, (Vl (.int .i64 4)))]) (H' := []) [] (sub_cons rfl sub_nil) (by decide) pick_nil ?_
            exact tx_ret1' Try.results133 rfl () (rv_tmp' rfl) (List.Sublist.refl _)
          · replace hp := (br_f h5).symm.trans hp
            refine cx_seq' fun K13 hK13 => ?_
            refine cx_region' ?_
            refine sx_rd' (rd_move' rfl) rfl rfl (wt_none' rfl) ?_
            refine sx_rd' (rd_assign' rfl) rfl rfl (wt_none' rfl) ?_
            refine sx_nil' ?_
            show TX E K13 _
            refine tx_k' hK13 ?_
            refine cx_retc' ?_
            replace hp := Option.some.inj hp
            subst hp
            refine tx_pick' (L' := [(2, (Vl (.int .i64 a0)))]) (H' := []) [] (sub_cons rfl sub_nil) (by decide) pick_nil ?_
            exact tx_ret1' Try.results133 rfl () (rv_tmp' rfl) (List.Sublist.refl _)

def math_Inf_j1 (k : Nat) (x1 : Int) : Option (Nat) :=
  some (ffrom x1)
def math_Inf (k : Nat) (a0 : Int) : Option (Nat) :=
  br (decide (0 ≤ a0))
    (math_Inf_j1 k 9218868437227405312)
    (math_Inf_j1 k 18442240474082181120)

theorem math_Inf_sim {k : Nat}  (a0 : Int) {out : Nat} (hp : math_Inf k a0 = some out) : Go.Sx.Fn Try.prog 135 [(Vl (.int .i64 a0))] [] (fun w : Unit => (Vl (.float .f64 out))) (fun w => []) := by
  unfold math_Inf at hp
  refine fn_of Try.func135 rfl Try.ntmps135 rfl fun E hM => ?_
  refine cx_seq' fun K1 hK1 => ?_
  refine cx_region' ?_
  refine sx_rd' (rd_assign' rfl) rfl rfl (wt_none' rfl) ?_
  refine sx_nil' ?_
  show TX E K1 _
  refine tx_k' hK1 ?_
  refine cx_seq' fun K2 hK2 => ?_
  refine cx_region' ?_
  refine sx_rd' (rd_assign' rfl) rfl rfl (wt_none' rfl) ?_
  refine sx_nil' ?_
  show TX E K2 _
  refine tx_k' hK2 ?_
  refine cx_join' (fun (v1 : Int) => (⟨8, [], [(3, (Vl (.int .u64 v1)))], []⟩ : St)) (fun (v1 : Int) => math_Inf_j1 k v1 = some out) ?_ ?_
  · rintro x1 hp
    replace hp : math_Inf_j1 k x1 = some out := hp
    unfold math_Inf_j1 at hp
    refine cx_seq' fun K5 hK5 => ?_
    refine cx_region' ?_
    refine sx_rd' (rd_move' rfl) rfl rfl (wt_none' rfl) ?_
    refine sx_rd' (rd_ext' (us := [.int .u64 x1]) rfl (ext92 ex_from)) rfl rfl (wt_none' rfl) ?_
    refine sx_rd' (rd_assign' rfl) rfl rfl (wt_none' rfl) ?_
    refine sx_nil' ?_
    show TX E K5 _
    refine tx_k' hK5 ?_
    refine cx_retc' ?_
    replace hp := Option.some.inj hp
    subst hp
    refine tx_pick' (L' := [(2, (Vl (.float .f64 (ffrom x1))))]) (H' := []) [] (sub_cons rfl sub_nil) (by decide) pick_nil ?_
    exact tx_ret1' Try.results135 rfl () (rv_tmp' rfl) (List.Sublist.refl _)
  · intro K3 hK3
    refine cx_seq' fun K4 hK4 => ?_
    refine cx_region' ?_
    refine sx_rd' (rd_move' rfl) rfl rfl (wt_none' rfl) ?_
    refine sx_rd' (rd_bin' rfl rfl eg_int ru_geq) rfl rfl (wt_none' rfl) ?_
    refine sx_nil' ?_
    show TX E K4 _
    refine tx_k' hK4 ?_
    refine cx_cond' rfl (fun h1 => ?_) (fun h1 => ?_)
    · replace hp := (br_t h1).symm.trans hp
      refine cx_region' ?_
      refine sx_rd' (rd_assign' rfl) rfl rfl (wt_none' rfl) ?_
      refine sx_nil' ?_
      show TX E K3 _
      exact tx_pick' [] (sub_cons rfl sub_nil) (by decide) pick_nil (hK3 9218868437227405312 hp)
    · replace hp := (br_f h1).symm.trans hp
      refine cx_region' ?_
      refine sx_rd' (rd_assign' rfl) rfl rfl (wt_none' rfl) ?_
      refine sx_nil' ?_
      show TX E K3 _
      exact tx_pick' [] (sub_cons rfl sub_nil) (by decide) pick_nil (hK3 18442240474082181120 hp)

def gogeom_Bounds_extendStride_l1s (a1 : Int) (k : Nat) (rec1 : ((List Nat) × (List Nat) × Int) → Option ((List Nat) × (List Nat))) (x1 : List Nat) (x2 : List Nat) (x3 : Int) : Option ((List Nat) × (List Nat)) :=
  br (decide (x3 < a1))
    ((math_Inf k 1) >>= fun r20 =>
    (apd 8 x1 ([r20])) >>= fun r22 =>
    (math_Inf k (-1)) >>= fun r30 =>
    (apd 8 x2 ([r30])) >>= fun r32 =>
    rec1 (r22, r32, (iadd .i64 x3 1)))
    (some (x1, x2))
def gogeom_Bounds_extendStride_l1 (a1 : Int) : Nat → ((List Nat) × (List Nat) × Int) → Option ((List Nat) × (List Nat))
  | 0, _ => none
  | k + 1, v => gogeom_Bounds_extendStride_l1s a1 k (gogeom_Bounds_extendStride_l1 a1 k) v.1 v.2.1 v.2.2
def gogeom_Bounds_extendStride (k : Nat) (a0_0 : Int) (a0_1 : List Nat) (a0_2 : List Nat) (a1 : Int) : Option (Int × (List Nat) × (List Nat)) :=
  (gogeom_Layout_Stride k a0_0) >>= fun r9 =>
  (gogeom_Bounds_extendStride_l1 a1 k (a0_1, a0_2, r9)) >>= fun v2 =>
  some (a0_0, v2.1, v2.2)

theorem gogeom_Bounds_extendStride_sim {k : Nat} {wa0 : Addr} {wa0_1 : Gs} {wa0_2 : Gs} (a0_0 : Int) (a0_1 : List Nat) (a0_2 : List Nat) (a1 : Int) {out : Int × (List Nat) × (List Nat)} (hp : gogeom_Bounds_extendStride k a0_0 a0_1 a0_2 a1 = some out) : Go.Sx.Fn Try.prog 102 [(Vl (.pointer (some wa0))), (Vl (.int .i64 a1))] [⟨.pointer (some wa0), [(Vl (.int .i64 a0_0)), (Vl (Vs wa0_1)), (Vl (Vs wa0_2))], 159, none⟩, (Rw Kf 38 (Vs wa0_1) a0_1), (Rw Kf 38 (Vs wa0_2) a0_2)] (fun w : Gs × Gs => (Vl (.tuple #[]))) (fun w => [⟨.pointer (some wa0), [(Vl (.int .i64 out.1)), (Vl (Vs w.1)), (Vl (Vs w.2))], 159, none⟩, (Rw Kf 38 (Vs w.1) out.2.1), (Rw Kf 38 (Vs w.2) out.2.2)]) := by
  unfold gogeom_Bounds_extendStride at hp
  refine fn_of Try.func102 rfl Try.ntmps102 rfl fun E hM => ?_
  refine cx_seq' fun K1 hK1 => ?_
  refine cx_region' ?_
  refine sx_rd' (rd_move' rfl) rfl rfl (wt_none' rfl) ?_
  refine sx_rd' (rd_nilck' rfl) rfl rfl (wt_none' rfl) ?_
  refine sx_rd' (rd_field0' rfl Try.underlying159 rfl info102 rfl) rfl rfl (wt_none' rfl) ?_
  refine sx_rd' (rd_load' (i := 0) (o := 0) rfl ⟨rfl, rfl, rfl, rfl⟩ rfl flat102) rfl rfl (wt_none' rfl) ?_
  obtain ⟨r9, hr9, hp⟩ := bind_some hp
  refine sx_ox' (ox_calln' (ent_fn' Try.func133 isn133 rfl rfl) (gogeom_Layout_Stride_sim _ hr9 : Go.Sx.Fn Try.prog 133 [(Vl (.int .i64 a0_0))] [] (fun x : Unit => (Vl (.int .i64 r9))) (fun x => [])) (Hn := fun x : Unit => [⟨.pointer (some wa0), [(Vl (.int .i64 a0_0)), (Vl (Vs wa0_1)), (Vl (Vs wa0_2))], 159, none⟩, (Rw Kf 38 (Vs wa0_1) a0_1), (Rw Kf 38 (Vs wa0_2) a0_2)]) (fun _ => rfl) rfl rfl) (wt_none' rfl) fun ⟨⟩ => ?_
  refine sx_rd' (rd_assign' rfl) rfl rfl (wt_none' rfl) ?_
  refine sx_nil' ?_
  show TX E K1 _
  refine tx_k' hK1 ?_
  refine cx_block' ?_
  obtain ⟨v2, hy1, hp⟩ := bind_some hp
  refine cx_loopg' (F := gogeom_Bounds_extendStride_l1 a1) (G := fun k R v => gogeom_Bounds_extendStride_l1s a1 k R v.1 v.2.1 v.2.2) (x := (a0_1, a0_2, r9)) (gh := (wa0_1, wa0_2)) (fun (v1 : (List Nat) × (List Nat) × Int) (w1 : Gs × Gs) => (⟨35, [], [(0, (Vl (.pointer (some wa0)))), (1, (Vl (.int .i64 a1))), (4, (Vl (.int .i64 v1.2.2)))], [⟨.pointer (some wa0), [(Vl (.int .i64 a0_0)), (Vl (Vs w1.1)), (Vl (Vs w1.2))], 159, none⟩, (Rw Kf 38 (Vs w1.1) v1.1), (Rw Kf 38 (Vs w1.2) v1.2.1)]⟩ : St)) (fun (v2 : (List Nat) × (List Nat)) => Zg E (Exit.exit 0) (fun (w2 : Gs × Gs) => (⟨35, [], [], [⟨.pointer (some wa0), [(Vl (.int .i64 a0_0)), (Vl (Vs w2.1)), (Vl (Vs w2.2))], 159, none⟩, (Rw Kf 38 (Vs w2.1) v2.1), (Rw Kf 38 (Vs w2.2) v2.2)]⟩ : St))) (fun _ => rfl) (fun _ _ => rfl) ?_ hy1 (tx_to' rfl [0, 1, 2] (sub_cons rfl (sub_cons rfl (sub_cons rfl sub_nil))) (by decide) (pick_cons rfl (pick_cons rfl (pick_cons rfl pick_nil)))) ?_
  · clear hp hy1
    clear v2
    intro k rec1 KY1 ih1
    rintro ⟨x1, x2, x3⟩ ⟨g901, g902⟩ y1 hp
    replace hp : gogeom_Bounds_extendStride_l1s a1 k rec1 x1 x2 x3 = some y1 := hp
    unfold gogeom_Bounds_extendStride_l1s at hp
    refine cx_seq' fun K6 hK6 => ?_
    refine cx_seq' fun K7 hK7 => ?_
    refine cx_region' ?_
    refine sx_rd' (rd_move' rfl) rfl rfl (wt_none' rfl) ?_
    refine sx_rd' (rd_move' rfl) rfl rfl (wt_none' rfl) ?_
    refine sx_rd' (rd_bin' rfl rfl eg_int ru_lss) rfl rfl (wt_none' rfl) ?_
    refine sx_nil' ?_
    show TX E K7 _
    refine tx_k' hK7 ?_
    refine cx_cond' rfl (fun h3 => ?_) (fun h3 => ?_)
    · replace hp := (br_t h3).symm.trans hp
      refine cx_skip' ?_
      show TX E K6 _
      refine tx_k' hK6 ?_
      refine cx_seq' fun K8 hK8 => ?_
      refine cx_block' ?_
      refine cx_seq' fun K9 hK9 => ?_
      refine cx_plan' [] [(7, 1), (10, 1)] [(0, 2), (1, 1), (2, 1), (3, 1), (4, 1), (5, 0), (6, 0), (7, 0), (8, 1), (9, 1), (10, 0)] mixed (by kernel_rfl) ?_
      refine px_rb' rfl (rb_move' rfl) rfl rfl (wt_none' rfl) ?_
      refine px_rd' rfl (rd_move' rfl) rfl rfl (wt_none' rfl) ?_
      refine px_rd' rfl (rd_nilck' rfl) rfl rfl (wt_none' rfl) ?_
      refine px_rd' rfl (rd_field' (off := 1) rfl Try.underlying159 rfl info132 rfl) rfl rfl (wt_none' rfl) ?_
      refine px_rd' rfl (rd_load' (i := 0) (o := 1) rfl ⟨rfl, rfl, rfl, rfl⟩ rfl flat132) rfl rfl (wt_none' rfl) ?_
      obtain ⟨r20, hr20, hp⟩ := bind_some hp
      refine px_ox' rfl (ox_calln' (ent_fn' Try.func135 isn135 rfl rfl) (math_Inf_sim _ hr20 : Go.Sx.Fn Try.prog 135 [(Vl (.int .i64 1))] [] (fun x : Unit => (Vl (.float .f64 r20))) (fun x => [])) (Hn := fun x : Unit => [⟨.pointer (some wa0), [(Vl (.int .i64 a0_0)), (Vl (Vs g901)), (Vl (Vs g902))], 159, none⟩, (Rw Kf 38 (Vs g901) x1), (Rw Kf 38 (Vs g902) x2)]) (fun _ => rfl) rfl rfl) rfl bs_nil (wt_none' rfl) fun ⟨⟩ => ?_
      refine px_ox' rfl (ox_rowlit' (K := Kf) (xs := [r20]) (qs := [(0, [(Vl (.float .f64 r20))])]) ⟨rfl, ⟨_, rfl, (lv_vl rfl rfl)⟩, trivial⟩ Try.underlying132 info38 rfl rfl rfl rfl rfl (by kernel_rfl) rfl rfl rfl) rfl bs_nil (wt_none' rfl) fun g21 => ?_
      obtain ⟨r22, hr22, hp⟩ := bind_some hp
      refine px_ox' rfl (ox_append' (K := Kf) (i := 2) (xs := x1) (ys := ([r20])) rfl rfl rfl (sr_row' (j := 0) rfl rfl rfl Try.underlying132) hr22 Try.underlying132 info38 rfl rfl rfl (H' := [(Rw Kf 38 (Vs g21) ([r20])), ⟨.pointer (some wa0), [(Vl (.int .i64 a0_0)), (Vl (Vs g901)), (Vl (Vs g902))], 159, none⟩, (Rw Kf 38 (Vs g902) x2)]) rfl) rfl bs_nil (wt_none' rfl) fun g22 => ?_
      refine px_rd' rfl (rd_nilck' rfl) rfl rfl (wt_none' rfl) ?_
      refine px_rd' rfl (rd_field' (off := 1) rfl Try.underlying159 rfl info132 rfl) rfl rfl (wt_none' rfl) ?_
      refine px_oxv' rfl (oxv_store (i := 2) (o := 1) rfl rfl (lv_vl rfl rfl) ⟨rfl, rfl, rfl, rfl⟩ rfl info132 rfl (H' := [(Rw Kf 38 (Vs g22) r22), (Rw Kf 38 (Vs g21) ([r20])), ⟨.pointer (some wa0), [(Vl (.int .i64 a0_0)), (Vl (Vs g22)), (Vl (Vs g902))], 159, none⟩, (Rw Kf 38 (Vs g902) x2)]) rfl) rfl rfl bo_nil (wt_none' rfl) fun _ => ?_
      refine px_nil' ?_
      show TX E K9 _
      refine tx_k' hK9 ?_
      refine cx_plan' [] [(7, 1), (10, 1)] [(0, 2), (1, 1), (2, 1), (3, 1), (4, 1), (5, 0), (6, 0), (7, 0), (8, 1), (9, 1), (10, 0)] mixed (by kernel_rfl) ?_
      refine px_rb' rfl (rb_move' rfl) rfl rfl (wt_none' rfl) ?_
      refine px_rd' rfl (rd_move' rfl) rfl rfl (wt_none' rfl) ?_
      refine px_rd' rfl (rd_nilck' rfl) rfl rfl (wt_none' rfl) ?_
      refine px_rd' rfl (rd_field' (off := 2) rfl Try.underlying159 rfl info132 rfl) rfl rfl (wt_none' rfl) ?_
      refine px_rd' rfl (rd_load' (i := 2) (o := 2) rfl ⟨rfl, rfl, rfl, rfl⟩ rfl flat132) rfl rfl (wt_none' rfl) ?_
      obtain ⟨r30, hr30, hp⟩ := bind_some hp
      refine px_ox' rfl (ox_calln' (ent_fn' Try.func135 isn135 rfl rfl) (math_Inf_sim _ hr30 : Go.Sx.Fn Try.prog 135 [(Vl (.int .i64 (-1)))] [] (fun x : Unit => (Vl (.float .f64 r30))) (fun x => [])) (Hn := fun x : Unit => [(Rw Kf 38 (Vs g22) r22), (Rw Kf 38 (Vs g21) ([r20])), ⟨.pointer (some wa0), [(Vl (.int .i64 a0_0)), (Vl (Vs g22)), (Vl (Vs g902))], 159, none⟩, (Rw Kf 38 (Vs g902) x2)]) (fun _ => rfl) rfl rfl) rfl bs_nil (wt_none' rfl) fun ⟨⟩ => ?_
      refine px_ox' rfl (ox_rowlit' (K := Kf) (xs := [r30]) (qs := [(0, [(Vl (.float .f64 r30))])]) ⟨rfl, ⟨_, rfl, (lv_vl rfl rfl)⟩, trivial⟩ Try.underlying132 info38 rfl rfl rfl rfl rfl (by kernel_rfl) rfl rfl rfl) rfl bs_nil (wt_none' rfl) fun g31 => ?_
      obtain ⟨r32, hr32, hp⟩ := bind_some hp
      refine px_ox' rfl (ox_append' (K := Kf) (i := 4) (xs := x2) (ys := ([r30])) rfl rfl rfl (sr_row' (j := 0) rfl rfl rfl Try.underlying132) hr32 Try.underlying132 info38 rfl rfl rfl (H' := [(Rw Kf 38 (Vs g31) ([r30])), (Rw Kf 38 (Vs g22) r22), (Rw Kf 38 (Vs g21) ([r20])), ⟨.pointer (some wa0), [(Vl (.int .i64 a0_0)), (Vl (Vs g22)), (Vl (Vs g902))], 159, none⟩]) rfl) rfl bs_nil (wt_none' rfl) fun g32 => ?_
      refine px_rd' rfl (rd_nilck' rfl) rfl rfl (wt_none' rfl) ?_
      refine px_rd' rfl (rd_field' (off := 2) rfl Try.underlying159 rfl info132 rfl) rfl rfl (wt_none' rfl) ?_
      refine px_oxv' rfl (oxv_store (i := 4) (o := 2) rfl rfl (lv_vl rfl rfl) ⟨rfl, rfl, rfl, rfl⟩ rfl info132 rfl (H' := [(Rw Kf 38 (Vs g32) r32), (Rw Kf 38 (Vs g31) ([r30])), (Rw Kf 38 (Vs g22) r22), (Rw Kf 38 (Vs g21) ([r20])), ⟨.pointer (some wa0), [(Vl (.int .i64 a0_0)), (Vl (Vs g22)), (Vl (Vs g32))], 159, none⟩]) rfl) rfl rfl bo_nil (wt_none' rfl) fun _ => ?_
      refine px_nil' ?_
      show TX E K8 _
      refine tx_k' hK8 ?_
      refine cx_region' ?_
      refine sx_rd' (rd_move' rfl) rfl rfl (wt_none' rfl) ?_
      refine sx_rd' (rd_bin' rfl rfl eg_int ru_add) rfl rfl (wt_none' rfl) ?_
      refine sx_rd' (rd_assign' rfl) rfl rfl (wt_none' rfl) ?_
      refine sx_nil' ?_
      show TX E (KY1 _) _
      exact tx_pick' [4, 2, 0] (sub_cons rfl (sub_cons rfl (sub_cons rfl sub_nil))) (by decide) (pick_cons rfl (pick_cons rfl (pick_cons rfl pick_nil))) (ih1 (r22, r32, (iadd .i64 x3 1)) (g22, g32) _ hp)
    · replace hp := (br_f h3).symm.trans hp
      refine cx_exit' ?_
      replace hp := Option.some.inj hp
      subst hp
      show TX E (Zg E (Exit.exit 0) _ (Exit.exit 0)) _
      exact tx_zend' (g901, g902) rfl [0, 1, 2] sub_nil (by decide) (pick_cons rfl (pick_cons rfl (pick_cons rfl pick_nil)))
  · refine zg_out fun w2 => ?_
    replace hp := Option.some.inj hp
    subst hp
    refine tx_pick' (L' := []) (H' := [⟨.pointer (some wa0), [(Vl (.int .i64 a0_0)), (Vl (Vs w2.1)), (Vl (Vs w2.2))], 159, none⟩, (Rw Kf 38 (Vs w2.1) v2.1), (Rw Kf 38 (Vs w2.2) v2.2)]) [0, 1, 2] sub_nil (by decide) (pick_cons rfl (pick_cons rfl (pick_cons rfl pick_nil))) ?_
    exact tx_end0' Try.results102 rfl (w2.1, w2.2) rfl (List.Sublist.refl _)

def gogeom_Bounds_Set_l1s (r14 : Int) (a1 : List Nat) (k : Nat) (rec1 : ((List Nat) × (List Nat) × Int) → Option ((List Nat) × (List Nat))) (x1 : List Nat) (x2 : List Nat) (x3 : Int) : Option ((List Nat) × (List Nat)) :=
  br (decide (x3 < r14))
    ((idx a1 x3) >>= fun r34 =>
    (idx a1 (iadd .i64 x3 r14)) >>= fun r40 =>
    (idx x1 x3) >>= fun r42 =>
    (idx x2 x3) >>= fun r43 =>
    rec1 ((x1.set x3.toNat r34), (x2.set x3.toNat r40), (iadd .i64 x3 1)))
    (some (x1, x2))
def gogeom_Bounds_Set_l1 (r14 : Int) (a1 : List Nat) : Nat → ((List Nat) × (List Nat) × Int) → Option ((List Nat) × (List Nat))
  | 0, _ => none
  | k + 1, v => gogeom_Bounds_Set_l1s r14 a1 k (gogeom_Bounds_Set_l1 r14 a1 k) v.1 v.2.1 v.2.2
def gogeom_Bounds_Set (k : Nat) (a0_0 : Int) (a0_1 : List Nat) (a0_2 : List Nat) (a1 : List Nat) : Option ((Int × (List Nat) × (List Nat)) ⊕ Unit) :=
  br (!decide ((iand .i64 (a1.length : Int) 1) = 0))
    (some (.inr ()))
    ((iquo .i64 (a1.length : Int) 2) >>= fun r14 =>
    (gogeom_Bounds_extendStride k a0_0 a0_1 a0_2 r14) >>= fun r17 =>
    (gogeom_Bounds_Set_l1 r14 a1 k (r17.2.1, r17.2.2, 0)) >>= fun v2 =>
    some (.inl (r17.1, v2.1, v2.2)))
def gogeom_Bounds_Set_r (wa0 : Addr) (wa0_1 : Gs) (wa0_2 : Gs) (a0_0 : Int) (a0_1 : List Nat) (a0_2 : List Nat) (a1 : List Nat) (out : (Int × (List Nat) × (List Nat)) ⊕ Unit) (w : Gs × Gs) : SV := match out with
  | (.inl y) => (Vl (.pointer (some wa0)))
  | (.inr y) => (Vl undef)
def gogeom_Bounds_Set_h (wa0 : Addr) (wa0_1 : Gs) (wa0_2 : Gs) (a0_0 : Int) (a0_1 : List Nat) (a0_2 : List Nat) (a1 : List Nat) (out : (Int × (List Nat) × (List Nat)) ⊕ Unit) (w : Gs × Gs) : List Res := match out with
  | (.inl y) => [⟨.pointer (some wa0), [(Vl (.int .i64 y.1)), (Vl (Vs w.1)), (Vl (Vs w.2))], 159, none⟩, (Rw Kf 38 (Vs w.1) y.2.1), (Rw Kf 38 (Vs w.2) y.2.2)]
  | (.inr y) => []
def gogeom_Bounds_Set_p (out : (Int × (List Nat) × (List Nat)) ⊕ Unit) : Bool := match out with
  | (.inl y) => false
  | (.inr y) => true

theorem gogeom_Bounds_Set_sim {k : Nat} {wa0 : Addr} {wa0_1 : Gs} {wa0_2 : Gs} (a0_0 : Int) (a0_1 : List Nat) (a0_2 : List Nat) (a1 : List Nat) {out : (Int × (List Nat) × (List Nat)) ⊕ Unit} (hp : gogeom_Bounds_Set k a0_0 a0_1 a0_2 a1 = some out) : Go.Sx.Fx Try.prog 64 [(Vl (.pointer (some wa0))), (Sl Kf a1)] [⟨.pointer (some wa0), [(Vl (.int .i64 a0_0)), (Vl (Vs wa0_1)), (Vl (Vs wa0_2))], 159, none⟩, (Rw Kf 38 (Vs wa0_1) a0_1), (Rw Kf 38 (Vs wa0_2) a0_2)] (gogeom_Bounds_Set_p out) (fun w => gogeom_Bounds_Set_r wa0 wa0_1 wa0_2 a0_0 a0_1 a0_2 a1 out w) (fun w => gogeom_Bounds_Set_h wa0 wa0_1 wa0_2 a0_0 a0_1 a0_2 a1 out w) := by
  unfold gogeom_Bounds_Set at hp
  refine fx_of Try.func64 rfl Try.ntmps64 rfl fun E hM => ?_
  refine cx_seq' fun K1 hK1 => ?_
  refine cx_region' ?_
  refine sx_rd' (rd_assign' rfl) rfl rfl (wt_none' rfl) ?_
  refine sx_nil' ?_
  show TX E K1 _
  refine tx_k' hK1 ?_
  refine cx_seq' fun K2 hK2 => ?_
  refine cx_seq' fun K3 hK3 => ?_
  refine cx_region' ?_
  refine sx_rd' (rd_move' rfl) rfl rfl (wt_none' rfl) ?_
  refine sx_rd' (rd_len' rfl Try.underlying22) rfl rfl (wt_none' rfl) ?_
  refine sx_rd' (rd_bin' rfl rfl eg_int ru_and) rfl rfl (wt_none' rfl) ?_
  refine sx_rd' (rd_bin' rfl rfl eg_int ru_neq) rfl rfl (wt_none' rfl) ?_
  refine sx_nil' ?_
  show TX E K3 _
  refine tx_k' hK3 ?_
  refine cx_cond' rfl (fun h1 => ?_) (fun h1 => ?_)
  · replace hp := (br_t h1).symm.trans hp
    refine cx_region' ?_
    refine sx_rd' (rd_iface' rfl ⟨_, Try.underlying9, fun _ h => (nomatch h)⟩) rfl rfl (wt_none' rfl) ?_
    refine sx_panic' (pan_op' rfl) (wt_none' rfl) ?_
    replace hp := Option.some.inj hp
    subst hp
    show PanQ E (bodyPost Try.prog Try.f64 (PanE E)) _
    exact tx_panout' rfl
  · replace hp := (br_f h1).symm.trans hp
    refine cx_skip' ?_
    show TX E K2 _
    refine tx_k' hK2 ?_
    refine cx_seq' fun K4 hK4 => ?_
    refine cx_region' ?_
    refine sx_rd' (rd_move' rfl) rfl rfl (wt_none' rfl) ?_
    refine sx_rd' (rd_len' rfl Try.underlying22) rfl rfl (wt_none' rfl) ?_
    obtain ⟨r14, hr14, hp⟩ := bind_some hp
    refine sx_rd' (rd_bin' rfl rfl eg_int (ru_quo hr14)) rfl rfl (wt_none' rfl) ?_
    refine sx_rd' (rd_assign' rfl) rfl rfl (wt_none' rfl) ?_
    refine sx_nil' ?_
    show TX E K4 _
    refine tx_k' hK4 ?_
    refine cx_seq' fun K5 hK5 => ?_
    refine cx_region' ?_
    refine sx_rd' (rd_move' rfl) rfl rfl (wt_none' rfl) ?_
    refine sx_rd' (rd_move' rfl) rfl rfl (wt_none' rfl) ?_
    obtain ⟨r17, hr17, hp⟩ := bind_some hp
    refine sx_ox' (ox_callg' (ent_fn' Try.func102 isn102 rfl rfl) (gogeom_Bounds_extendStride_sim _ _ _ _ hr17 : Go.Sx.Fn Try.prog 102 [(Vl (.pointer (some wa0))), (Vl (.int .i64 r14))] [⟨.pointer (some wa0), [(Vl (.int .i64 a0_0)), (Vl (Vs wa0_1)), (Vl (Vs wa0_2))], 159, none⟩, (Rw Kf 38 (Vs wa0_1) a0_1), (Rw Kf 38 (Vs wa0_2) a0_2)] (fun x : Gs × Gs => (Vl (.tuple #[]))) (fun x => [⟨.pointer (some wa0), [(Vl (.int .i64 r17.1)), (Vl (Vs x.1)), (Vl (Vs x.2))], 159, none⟩, (Rw Kf 38 (Vs x.1) r17.2.1), (Rw Kf 38 (Vs x.2) r17.2.2)])) [0, 1, 2] [] (by decide) (pick_cons rfl (pick_cons rfl (pick_cons rfl pick_nil))) pick_nil (Hn := fun x : Gs × Gs => [⟨.pointer (some wa0), [(Vl (.int .i64 r17.1)), (Vl (Vs x.1)), (Vl (Vs x.2))], 159, none⟩, (Rw Kf 38 (Vs x.1) r17.2.1), (Rw Kf 38 (Vs x.2) r17.2.2)]) (fun _ => rfl) rfl rfl) (wt_none' rfl) fun ⟨g17, gz1⟩ => ?_
    refine sx_nil' ?_
    show TX E K5 _
    refine tx_k' hK5 ?_
    refine cx_seq' fun K6 hK6 => ?_
    refine cx_seq' fun K7 hK7 => ?_
    refine cx_region' ?_
    refine sx_rd' (rd_move' rfl) rfl rfl (wt_none' rfl) ?_
    refine sx_rd' (rd_move' rfl) rfl rfl (wt_none' rfl) ?_
    refine sx_nil' ?_
    show TX E K7 _
    refine tx_k' hK7 ?_
    refine cx_block' ?_
    obtain ⟨v2, hy1, hp⟩ := bind_some hp
    refine cx_loopg' (F := gogeom_Bounds_Set_l1 r14 a1) (G := fun k R v => gogeom_Bounds_Set_l1s r14 a1 k R v.1 v.2.1 v.2.2) (x := (r17.2.1, r17.2.2, 0)) (gh := ()) (fun (v1 : (List Nat) × (List Nat) × Int) (w1 : Unit) => (⟨46, [], [(0, (Vl (.pointer (some wa0)))), (1, (Sl Kf a1)), (5, (Vl (.int .i64 r14))), (18, (Vl (.int .i64 r14))), (19, (Vl (.int .i64 v1.2.2)))], [⟨.pointer (some wa0), [(Vl (.int .i64 r17.1)), (Vl (Vs g17)), (Vl (Vs gz1))], 159, none⟩, (Rw Kf 38 (Vs g17) v1.1), (Rw Kf 38 (Vs gz1) v1.2.1)]⟩ : St)) (fun (v2 : (List Nat) × (List Nat)) => Zg E (Exit.exit 0) (fun (w2 : Unit) => (⟨46, [], [(0, (Vl (.pointer (some wa0))))], [⟨.pointer (some wa0), [(Vl (.int .i64 r17.1)), (Vl (Vs g17)), (Vl (Vs gz1))], 159, none⟩, (Rw Kf 38 (Vs g17) v2.1), (Rw Kf 38 (Vs gz1) v2.2)]⟩ : St))) (fun _ => rfl) (fun _ _ => rfl) ?_ hy1 (tx_to' rfl [0, 1, 2] (sub_cons rfl (sub_cons rfl (sub_cons rfl (sub_cons rfl (sub_cons rfl sub_nil))))) (by decide) (pick_cons rfl (pick_cons rfl (pick_cons rfl pick_nil)))) ?_
    · clear hp hy1
      clear v2
      intro k rec1 KY1 ih1
      rintro ⟨x1, x2, x3⟩ ⟨⟩ y3 hp
      replace hp : gogeom_Bounds_Set_l1s r14 a1 k rec1 x1 x2 x3 = some y3 := hp
      unfold gogeom_Bounds_Set_l1s at hp
      refine cx_seq' fun K12 hK12 => ?_
      refine cx_region' ?_
      refine sx_rd' (rd_bin' rfl rfl eg_int ru_lss) rfl rfl (wt_none' rfl) ?_
      refine sx_nil' ?_
      show TX E K12 _
      refine tx_k' hK12 ?_
      refine cx_seq' fun K13 hK13 => ?_
      refine cx_cond' rfl (fun h4 => ?_) (fun h4 => ?_)
      · replace hp := (br_t h4).symm.trans hp
        refine cx_skip' ?_
        show TX E K13 _
        refine tx_k' hK13 ?_
        refine cx_seq' fun K14 hK14 => ?_
        refine cx_block' ?_
        refine cx_seq' fun K15 hK15 => ?_
        refine cx_region' ?_
        refine sx_rd' (rd_move' rfl) rfl rfl (wt_none' rfl) ?_
        refine sx_rd' (rd_assign' rfl) rfl rfl (wt_none' rfl) ?_
        refine sx_nil' ?_
        show TX E K15 _
        refine tx_k' hK15 ?_
        refine cx_plan' [] [(21, 1), (23, 1)] [(0, 1), (1, 1), (2, 1), (3, 1), (4, 1), (5, 1), (6, 1), (7, 1), (8, 1), (9, 2), (10, 1), (11, 1), (12, 1), (13, 1), (14, 1), (15, 1), (16, 1), (17, 1), (18, 1), (19, 1), (20, 1), (21, 0), (22, 1), (23, 0)] mixed (by kernel_rfl) ?_
        refine px_rd' rfl (rd_move' rfl) rfl rfl (wt_none' rfl) ?_
        refine px_rd' rfl (rd_nilck' rfl) rfl rfl (wt_none' rfl) ?_
        refine px_rd' rfl (rd_field' (off := 1) rfl Try.underlying159 rfl info132 rfl) rfl rfl (wt_none' rfl) ?_
        refine px_rd' rfl (rd_load' (i := 0) (o := 1) rfl ⟨rfl, rfl, rfl, rfl⟩ rfl flat132) rfl rfl (wt_none' rfl) ?_
        refine px_rd' rfl (rd_move' rfl) rfl rfl (wt_none' rfl) ?_
        refine px_rd' rfl (rd_move' rfl) rfl rfl (wt_none' rfl) ?_
        refine px_rd' rfl (rd_nilck' rfl) rfl rfl (wt_none' rfl) ?_
        refine px_rd' rfl (rd_field' (off := 2) rfl Try.underlying159 rfl info132 rfl) rfl rfl (wt_none' rfl) ?_
        refine px_rd' rfl (rd_load' (i := 0) (o := 2) rfl ⟨rfl, rfl, rfl, rfl⟩ rfl flat132) rfl rfl (wt_none' rfl) ?_
        refine px_rb' rfl (rb_move' rfl) rfl rfl (wt_none' rfl) ?_
        refine px_rd' rfl (rd_move' rfl) rfl rfl (wt_none' rfl) ?_
        refine px_rd' rfl (rd_move' rfl) rfl rfl (wt_none' rfl) ?_
        obtain ⟨r34, hr34, hp⟩ := bind_some hp
        refine px_rd' rfl (rd_at' (K := Kf) rfl rfl hr34 Try.underlying22 info38) rfl rfl (wt_none' rfl) ?_
        refine px_rd' rfl (rd_load_pt' rfl rfl flat38) rfl rfl (wt_none' rfl) ?_
        refine px_rd' rfl (rd_move' rfl) rfl rfl (wt_none' rfl) ?_
        refine px_rd' rfl (rd_move' rfl) rfl rfl (wt_none' rfl) ?_
        refine px_rd' rfl (rd_move' rfl) rfl rfl (wt_none' rfl) ?_
        refine px_rd' rfl (rd_bin' rfl rfl eg_int ru_add) rfl rfl (wt_none' rfl) ?_
        obtain ⟨r40, hr40, hp⟩ := bind_some hp
        refine px_rd' rfl (rd_at' (K := Kf) rfl rfl hr40 Try.underlying22 info38) rfl rfl (wt_none' rfl) ?_
        refine px_rd' rfl (rd_load_pt' rfl rfl flat38) rfl rfl (wt_none' rfl) ?_
        obtain ⟨r42, hr42, hp⟩ := bind_some hp
        refine px_rd' rfl (rd_atr' (m := 1) rfl rfl rfl rfl hr42 Try.underlying132 info38) rfl rfl (wt_none' rfl) ?_
        refine px_ox' rfl (ox_storer' (m := 1) (i := x3) (j := 0) (x' := r34) rfl rfl (lv_vl rfl rfl) rfl rfl hr42 rfl rfl rfl info38 rfl (H' := [⟨.pointer (some wa0), [(Vl (.int .i64 r17.1)), (Vl (Vs g17)), (Vl (Vs gz1))], 159, none⟩, (Rw Kf 38 (Vs g17) (x1.set x3.toNat r34)), (Rw Kf 38 (Vs gz1) x2)]) rfl) rfl bs_nil (wt_none' rfl) fun _ => ?_
        obtain ⟨r43, hr43, hp⟩ := bind_some hp
        refine px_rd' rfl (rd_atr' (m := 2) rfl rfl rfl rfl hr43 Try.underlying132 info38) rfl rfl (wt_none' rfl) ?_
        refine px_ox' rfl (ox_storer' (m := 2) (i := x3) (j := 0) (x' := r40) rfl rfl (lv_vl rfl rfl) rfl rfl hr43 rfl rfl rfl info38 rfl (H' := [⟨.pointer (some wa0), [(Vl (.int .i64 r17.1)), (Vl (Vs g17)), (Vl (Vs gz1))], 159, none⟩, (Rw Kf 38 (Vs g17) (x1.set x3.toNat r34)), (Rw Kf 38 (Vs gz1) (x2.set x3.toNat r40))]) rfl) rfl bs_nil (wt_none' rfl) fun _ => ?_
        refine px_nil' ?_
        show TX E K14 _
        refine tx_k' hK14 ?_
        refine cx_region' ?_
        refine sx_rd' (rd_bin' rfl rfl eg_int ru_add) rfl rfl (wt_none' rfl) ?_
        refine sx_rd' (rd_move' rfl) rfl rfl (wt_none' rfl) ?_
        refine sx_nil' ?_
        show TX E (KY1 _) _
        exact tx_pick' [0, 1, 2] (sub_cons rfl (sub_cons rfl (sub_cons rfl (sub_cons rfl (sub_cons rfl sub_nil))))) (by decide) (pick_cons rfl (pick_cons rfl (pick_cons rfl pick_nil))) (ih1 ((x1.set x3.toNat r34), (x2.set x3.toNat r40), (iadd .i64 x3 1)) () _ hp)
      · replace hp := (br_f h4).symm.trans hp
        refine cx_exit' ?_
        replace hp := Option.some.inj hp
        subst hp
        show TX E (Zg E (Exit.exit 0) _ (Exit.exit 0)) _
        exact tx_zend' () rfl [0, 1, 2] (sub_cons rfl sub_nil) (by decide) (pick_cons rfl (pick_cons rfl (pick_cons rfl pick_nil)))
    · refine zg_out fun w2 => ?_
      show TX E K6 _
      refine tx_k' hK6 ?_
      refine cx_seq' fun K16 hK16 => ?_
      refine cx_region' ?_
      refine sx_rd' (rd_move' rfl) rfl rfl (wt_none' rfl) ?_
      refine sx_rd' (rd_assign' rfl) rfl rfl (wt_none' rfl) ?_
      refine sx_nil' ?_
      show TX E K16 _
      refine tx_k' hK16 ?_
      refine cx_retc' ?_
      replace hp := Option.some.inj hp
      subst hp
      refine tx_pick' (L' := [(4, (Vl (.pointer (some wa0))))]) (H' := [⟨.pointer (some wa0), [(Vl (.int .i64 r17.1)), (Vl (Vs g17)), (Vl (Vs gz1))], 159, none⟩, (Rw Kf 38 (Vs g17) v2.1), (Rw Kf 38 (Vs gz1) v2.2)]) [0, 1, 2] (sub_cons rfl sub_nil) (by decide) (pick_cons rfl (pick_cons rfl (pick_cons rfl pick_nil))) ?_
      show TX E (bodyPost _ _ (PostE E _ _) _) _
      exact tx_ret1' Try.results64 rfl (g17, gz1) (rv_tmp' rfl) (List.Sublist.refl _)

def gogeom_DoorBoundsParts (k : Nat) (a0_0 : Int) (a0_1 : List Nat) (a0_2 : List Nat) : Option (Int × (List Nat) × (List Nat)) :=
  some (a0_0, a0_1, a0_2)

theorem gogeom_DoorBoundsParts_sim {k : Nat} {wa0 : Addr} {wa0_1 : Gs} {wa0_2 : Gs} (a0_0 : Int) (a0_1 : List Nat) (a0_2 : List Nat) {out : Int × (List Nat) × (List Nat)} (hp : gogeom_DoorBoundsParts k a0_0 a0_1 a0_2 = some out) : Go.Sx.Fn Try.prog 100 [(Vl (.pointer (some wa0)))] [⟨.pointer (some wa0), [(Vl (.int .i64 a0_0)), (Vl (Vs wa0_1)), (Vl (Vs wa0_2))], 159, none⟩, (Rw Kf 38 (Vs wa0_1) a0_1), (Rw Kf 38 (Vs wa0_2) a0_2)] (fun w : Unit => (Tu [(Vl (.int .i64 out.1)), (Vl (Vs wa0_1)), (Vl (Vs wa0_2))])) (fun w => [⟨.pointer (some wa0), [(Vl (.int .i64 out.1)), (Vl (Vs wa0_1)), (Vl (Vs wa0_2))], 159, none⟩, (Rw Kf 38 (Vs wa0_1) out.2.1), (Rw Kf 38 (Vs wa0_2) out.2.2)]) := by
  unfold gogeom_DoorBoundsParts at hp
  refine fn_of Try.func100 rfl Try.ntmps100 rfl fun E hM => ?_
  refine cx_seq' fun K1 hK1 => ?_
  refine cx_region' ?_
  refine sx_rd' (rd_assign' rfl) rfl rfl (wt_none' rfl) ?_
  refine sx_rd' (rd_assign' rfl) rfl rfl (wt_none' rfl) ?_
  refine sx_rd' (rd_assign' rfl) rfl rfl (wt_none' rfl) ?_
  refine sx_nil' ?_
  show TX E K1 _
  refine tx_k' hK1 ?_
  refine cx_seq' fun K2 hK2 => ?_
  refine cx_draw' mixed (by kernel_rfl) ?_
  refine qx_rd' (rd_move' rfl) rfl rfl (wt_none' rfl) ?_
  refine qx_rd' (rd_nilck' rfl) rfl rfl (wt_none' rfl) ?_
  refine qx_rd' (rd_field0' rfl Try.underlying159 rfl info102 rfl) rfl rfl (wt_none' rfl) ?_
  refine qx_rd' (rd_load' (i := 0) (o := 0) rfl ⟨rfl, rfl, rfl, rfl⟩ rfl flat102) rfl rfl (wt_none' rfl) ?_
  refine qx_rd' (rd_move' rfl) rfl rfl (wt_none' rfl) ?_
  refine qx_rd' (rd_nilck' rfl) rfl rfl (wt_none' rfl) ?_
  refine qx_rd' (rd_field' (off := 1) rfl Try.underlying159 rfl info132 rfl) rfl rfl (wt_none' rfl) ?_
  refine qx_rd' (rd_load' (i := 0) (o := 1) rfl ⟨rfl, rfl, rfl, rfl⟩ rfl flat132) rfl rfl (wt_none' rfl) ?_
  refine qx_rd' (rd_move' rfl) rfl rfl (wt_none' rfl) ?_
  refine qx_rd' (rd_nilck' rfl) rfl rfl (wt_none' rfl) ?_
  refine qx_rd' (rd_field' (off := 2) rfl Try.underlying159 rfl info132 rfl) rfl rfl (wt_none' rfl) ?_
  refine qx_rd' (rd_load' (i := 0) (o := 2) rfl ⟨rfl, rfl, rfl, rfl⟩ rfl flat132) rfl rfl (wt_none' rfl) ?_
  refine qx_rd' (rd_assign' rfl) rfl rfl (wt_none' rfl) ?_
  refine qx_rd' (rd_assign' rfl) rfl rfl (wt_none' rfl) ?_
  refine qx_rd' (rd_assign' rfl) rfl rfl (wt_none' rfl) ?_
  refine qx_nil' ?_
  show TX E K2 _
  refine tx_k' hK2 ?_
  refine cx_retc' ?_
  replace hp := Option.some.inj hp
  subst hp
  refine tx_pick' (L' := [(2, (Vl (.int .i64 a0_0))), (3, (Vl (Vs wa0_1))), (4, (Vl (Vs wa0_2)))]) (H' := [⟨.pointer (some wa0), [(Vl (.int .i64 a0_0)), (Vl (Vs wa0_1)), (Vl (Vs wa0_2))], 159, none⟩, (Rw Kf 38 (Vs wa0_1) a0_1), (Rw Kf 38 (Vs wa0_2) a0_2)]) [0, 1, 2] (sub_cons rfl (sub_cons rfl (sub_cons rfl sub_nil))) (by decide) (pick_cons rfl (pick_cons rfl (pick_cons rfl pick_nil))) ?_
  exact tx_ret3' Try.results100 rfl () (rv_tmp' rfl) (rv_tmp' rfl) (rv_tmp' rfl) rfl (List.Sublist.refl _)

def impl_floats_v2 (k : Nat) (a0 : List Nat) : Option ((List Nat) × (List Nat)) :=
  (apd 8 [] a0) >>= fun r4 =>
  some (a0, r4)

theorem impl_floats_v2_sim {k : Nat} {wa0 : Gs} (a0 : List Nat) {out : (List Nat) × (List Nat)} (hp : impl_floats_v2 k a0 = some out) : Go.Sx.Fn Try.prog 50 [(Vl (Vs wa0))] [(Rw Kf 38 (Vs wa0) a0)] (fun w : Gs => (Vl (Vs w))) (fun w => [(Rw Kf 38 (Vs wa0) out.1), (Rw Kf 38 (Vs w) out.2)]) := by
  unfold impl_floats_v2 at hp
  refine fn_of Try.func50 rfl Try.ntmps50 rfl fun E hM => ?_
  refine cx_seq' fun K1 hK1 => ?_
  refine cx_region' ?_
  refine sx_rd' (rd_assign' rfl) rfl rfl (wt_none' rfl) ?_
  refine sx_nil' ?_
  show TX E K1 _
  refine tx_k' hK1 ?_
  refine cx_seq' fun K2 hK2 => ?_
  refine cx_region' ?_
  refine sx_rd' (rd_move' rfl) rfl rfl (wt_none' rfl) ?_
  refine tx_nilrow' Kf 38 ?_
  obtain ⟨r4, hr4, hp⟩ := bind_some hp
  refine sx_ox' (ox_append' (K := Kf) (i := 0) (xs := []) (ys := a0) rfl rfl rfl (sr_row' (j := 1) rfl rfl rfl Try.underlying22) hr4 Try.underlying22 info38 rfl rfl rfl (H' := [(Rw Kf 38 (Vs wa0) a0)]) rfl) (wt_none' rfl) fun g4 => ?_
  refine sx_rd' (rd_assign' rfl) rfl rfl (wt_none' rfl) ?_
  refine sx_nil' ?_
  show TX E K2 _
  refine tx_k' hK2 ?_
  refine cx_retc' ?_
  replace hp := Option.some.inj hp
  subst hp
  refine tx_pick' (L' := [(2, (Vl (Vs g4)))]) (H' := [(Rw Kf 38 (Vs wa0) a0), (Rw Kf 38 (Vs g4) r4)]) [1, 0] (sub_cons rfl sub_nil) (by decide) (pick_cons rfl (pick_cons rfl pick_nil)) ?_
  exact tx_ret1' Try.results50 rfl g4 (rv_tmp' rfl) (List.Sublist.refl _)

def impl_plainBox (k : Nat) (a0_0 : Int) (a0_1 : List Nat) (a0_2 : List Nat) : Option (Int × (List Nat) × (List Nat) × (List Nat) × (List Nat)) :=
  (gogeom_DoorBoundsParts k a0_0 a0_1 a0_2) >>= fun r8 =>
  (impl_floats_v2 k r8.2.1) >>= fun r14 =>
  (impl_floats_v2 k r8.2.2) >>= fun r16 =>
  some (r8.1, r14.1, r16.1, r14.2, r16.2)

theorem impl_plainBox_sim {k : Nat} {wa0 : Addr} {wa0_1 : Gs} {wa0_2 : Gs} (a0_0 : Int) (a0_1 : List Nat) (a0_2 : List Nat) {out : Int × (List Nat) × (List Nat) × (List Nat) × (List Nat)} (hp : impl_plainBox k a0_0 a0_1 a0_2 = some out) : Go.Sx.Fn Try.prog 62 [(Vl (.pointer (some wa0)))] [⟨.pointer (some wa0), [(Vl (.int .i64 a0_0)), (Vl (Vs wa0_1)), (Vl (Vs wa0_2))], 159, none⟩, (Rw Kf 38 (Vs wa0_1) a0_1), (Rw Kf 38 (Vs wa0_2) a0_2)] (fun w : Unit => (Ag [(Vl (.int .i64 out.1)), (Sl Kf out.2.2.2.1), (Sl Kf out.2.2.2.2)])) (fun w => [⟨.pointer (some wa0), [(Vl (.int .i64 out.1)), (Vl (Vs wa0_1)), (Vl (Vs wa0_2))], 159, none⟩, (Rw Kf 38 (Vs wa0_1) out.2.1), (Rw Kf 38 (Vs wa0_2) out.2.2.1)]) := by
  unfold impl_plainBox at hp
  refine fn_of Try.func62 rfl Try.ntmps62 rfl fun E hM => ?_
  refine cx_seq' fun K1 hK1 => ?_
  refine cx_region' ?_
  refine sx_ox' (ox_alloc' info43 rfl rfl rfl rfl (l := [(Vl (.int .i64 0)), (Vl (.slice none 0 0)), (Vl (.slice none 0 0))]) rfl) (wt_none' rfl) fun q2 => ?_
  refine sx_nil' ?_
  show TX E K1 _
  refine tx_k' hK1 ?_
  refine cx_seq' fun K2 hK2 => ?_
  refine cx_region' ?_
  refine sx_rd' (rd_move' rfl) rfl rfl (wt_none' rfl) ?_
  obtain ⟨r8, hr8, hp⟩ := bind_some hp
  refine sx_ox' (ox_callg' (ent_fn' Try.func100 isn100 rfl rfl) (gogeom_DoorBoundsParts_sim _ _ _ hr8 : Go.Sx.Fn Try.prog 100 [(Vl (.pointer (some wa0)))] [⟨.pointer (some wa0), [(Vl (.int .i64 a0_0)), (Vl (Vs wa0_1)), (Vl (Vs wa0_2))], 159, none⟩, (Rw Kf 38 (Vs wa0_1) a0_1), (Rw Kf 38 (Vs wa0_2) a0_2)] (fun x : Unit => (Tu [(Vl (.int .i64 r8.1)), (Vl (Vs wa0_1)), (Vl (Vs wa0_2))])) (fun x => [⟨.pointer (some wa0), [(Vl (.int .i64 r8.1)), (Vl (Vs wa0_1)), (Vl (Vs wa0_2))], 159, none⟩, (Rw Kf 38 (Vs wa0_1) r8.2.1), (Rw Kf 38 (Vs wa0_2) r8.2.2)])) [1, 2, 3] [0] (by decide) (pick_cons rfl (pick_cons rfl (pick_cons rfl pick_nil))) (pick_cons rfl pick_nil) (Hn := fun x : Unit => [⟨.pointer (some wa0), [(Vl (.int .i64 r8.1)), (Vl (Vs wa0_1)), (Vl (Vs wa0_2))], 159, none⟩, (Rw Kf 38 (Vs wa0_1) r8.2.1), (Rw Kf 38 (Vs wa0_2) r8.2.2), ⟨.pointer (some q2), [(Vl (.int .i64 0)), (Vl (.slice none 0 0)), (Vl (.slice none 0 0))], 43, none⟩]) (fun _ => rfl) rfl rfl) (wt_none' rfl) fun ⟨⟩ => ?_
  refine sx_rd' (rd_move' rfl) rfl rfl (wt_none' rfl) ?_
  refine sx_rd' (rd_extract' rfl rfl) rfl rfl (wt_none' rfl) ?_
  refine sx_rd' (rd_extract' rfl rfl) rfl rfl (wt_none' rfl) ?_
  refine sx_rd' (rd_extract' rfl rfl) rfl rfl (wt_none' rfl) ?_
  refine sx_rd' (rd_assign' rfl) rfl rfl (wt_none' rfl) ?_
  refine sx_rd' (rd_assign' rfl) rfl rfl (wt_none' rfl) ?_
  refine sx_rd' (rd_assign' rfl) rfl rfl (wt_none' rfl) ?_
  refine sx_nil' ?_
  show TX E K2 _
  refine tx_k' hK2 ?_
  refine cx_seq' fun K3 hK3 => ?_
  refine cx_region' ?_
  refine sx_rd' (rd_move' rfl) rfl rfl (wt_none' rfl) ?_
  refine sx_rd' (rd_move' rfl) rfl rfl (wt_none' rfl) ?_
  obtain ⟨r14, hr14, hp⟩ := bind_some hp
  refine sx_ox' (ox_callg' (ent_fn' Try.func50 isn50 rfl rfl) (impl_floats_v2_sim _ hr14 : Go.Sx.Fn Try.prog 50 [(Vl (Vs wa0_1))] [(Rw Kf 38 (Vs wa0_1) r8.2.1)] (fun x : Gs => (Vl (Vs x))) (fun x => [(Rw Kf 38 (Vs wa0_1) r14.1), (Rw Kf 38 (Vs x) r14.2)])) [1] [0, 2, 3] (by decide) (pick_cons rfl pick_nil) (pick_cons rfl (pick_cons rfl (pick_cons rfl pick_nil))) (Hn := fun x : Gs => [(Rw Kf 38 (Vs wa0_1) r14.1), (Rw Kf 38 (Vs x) r14.2), ⟨.pointer (some wa0), [(Vl (.int .i64 r8.1)), (Vl (Vs wa0_1)), (Vl (Vs wa0_2))], 159, none⟩, (Rw Kf 38 (Vs wa0_2) r8.2.2), ⟨.pointer (some q2), [(Vl (.int .i64 0)), (Vl (.slice none 0 0)), (Vl (.slice none 0 0))], 43, none⟩]) (fun _ => rfl) rfl rfl) (wt_none' rfl) fun g14 => ?_
  refine sx_rd' (rd_move' rfl) rfl rfl (wt_none' rfl) ?_
  obtain ⟨r16, hr16, hp⟩ := bind_some hp
  refine sx_ox' (ox_callg' (ent_fn' Try.func50 isn50 rfl rfl) (impl_floats_v2_sim _ hr16 : Go.Sx.Fn Try.prog 50 [(Vl (Vs wa0_2))] [(Rw Kf 38 (Vs wa0_2) r8.2.2)] (fun x : Gs => (Vl (Vs x))) (fun x => [(Rw Kf 38 (Vs wa0_2) r16.1), (Rw Kf 38 (Vs x) r16.2)])) [3] [0, 1, 2, 4] (by decide) (pick_cons rfl pick_nil) (pick_cons rfl (pick_cons rfl (pick_cons rfl (pick_cons rfl pick_nil)))) (Hn := fun x : Gs => [(Rw Kf 38 (Vs wa0_2) r16.1), (Rw Kf 38 (Vs x) r16.2), (Rw Kf 38 (Vs wa0_1) r14.1), (Rw Kf 38 (Vs g14) r14.2), ⟨.pointer (some wa0), [(Vl (.int .i64 r8.1)), (Vl (Vs wa0_1)), (Vl (Vs wa0_2))], 159, none⟩, ⟨.pointer (some q2), [(Vl (.int .i64 0)), (Vl (.slice none 0 0)), (Vl (.slice none 0 0))], 43, none⟩]) (fun _ => rfl) rfl rfl) (wt_none' rfl) fun g16 => ?_
  refine sx_rd' (rd_build' (pls := [(0, 1), (1, 1), (2, 1)]) (qs := [(0, [(Vl (.int .i64 r8.1))]), (1, [(Vl (Vs g14))]), (2, [(Vl (Vs g16))])]) (r := [(Vl (.int .i64 r8.1)), (Vl (Vs g14)), (Vl (Vs g16))]) ⟨rfl, ⟨_, rfl, (lv_vl rfl rfl)⟩, ⟨rfl, ⟨_, rfl, (lv_vl rfl rfl)⟩, ⟨rfl, ⟨_, rfl, (lv_vl rfl rfl)⟩, trivial⟩⟩⟩ Try.underlying43 has43 places43 info43 rfl rfl rfl) rfl rfl (wt_none' rfl) ?_
  refine sx_ox' (ox_store' (i := 5) (o := 0) rfl rfl (lv_ag _) ⟨rfl, rfl, rfl, rfl⟩ rfl info43 rfl (H' := [(Rw Kf 38 (Vs wa0_2) r16.1), (Rw Kf 38 (Vs g16) r16.2), (Rw Kf 38 (Vs wa0_1) r14.1), (Rw Kf 38 (Vs g14) r14.2), ⟨.pointer (some wa0), [(Vl (.int .i64 r8.1)), (Vl (Vs wa0_1)), (Vl (Vs wa0_2))], 159, none⟩, ⟨.pointer (some q2), [(Vl (.int .i64 r8.1)), (Vl (Vs g14)), (Vl (Vs g16))], 43, none⟩]) rfl) (wt_none' rfl) fun _ => ?_
  refine sx_nil' ?_
  show TX E K3 _
  refine tx_k' hK3 ?_
  refine cx_retc' ?_
  replace hp := Option.some.inj hp
  subst hp
  refine tx_fz' (frz_row 3 [(14, (Vl (Vs g14)), (Sl Kf r14.2)), (17, (Ag [(Vl (.int .i64 r8.1)), (Vl (Vs g14)), (Vl (Vs g16))]), (Ag [(Vl (.int .i64 r8.1)), (Sl Kf r14.2), (Vl (Vs g16))]))] (K := Kf) (xs := r14.2) (by decide) rfl ⟨⟨rfl, frz_it⟩, ⟨rfl, fz_ag (fz0_cons fz0_same (fz0_cons fz0_it (fz0_cons fz0_same fz0_nil)))⟩, trivial⟩ (H' := [(Rw Kf 38 (Vs wa0_2) r16.1), (Rw Kf 38 (Vs g16) r16.2), (Rw Kf 38 (Vs wa0_1) r14.1), ⟨.pointer (some wa0), [(Vl (.int .i64 r8.1)), (Vl (Vs wa0_1)), (Vl (Vs wa0_2))], 159, none⟩, ⟨.pointer (some q2), [(Vl (.int .i64 r8.1)), (Sl Kf r14.2), (Vl (Vs g16))], 43, none⟩]) (frzH_cons rfl rfl rfl frzL_refl (frzH_cons rfl rfl rfl frzL_refl (frzH_cons rfl rfl rfl frzL_refl (frzH_cons rfl rfl rfl frzL_refl (frzH_cons rfl rfl rfl (frzL_cons frz_same (frzL_cons frz_it (frzL_cons frz_same frzL_refl))) frzH_refl)))))) ?_
  refine tx_fz' (frz_row 1 [(16, (Vl (Vs g16)), (Sl Kf r16.2)), (17, (Ag [(Vl (.int .i64 r8.1)), (Sl Kf r14.2), (Vl (Vs g16))]), (Ag [(Vl (.int .i64 r8.1)), (Sl Kf r14.2), (Sl Kf r16.2)]))] (K := Kf) (xs := r16.2) (by decide) rfl ⟨⟨rfl, frz_it⟩, ⟨rfl, fz_ag (fz0_cons fz0_same (fz0_cons fz0_same (fz0_cons fz0_it fz0_nil)))⟩, trivial⟩ (H' := [(Rw Kf 38 (Vs wa0_2) r16.1), (Rw Kf 38 (Vs wa0_1) r14.1), ⟨.pointer (some wa0), [(Vl (.int .i64 r8.1)), (Vl (Vs wa0_1)), (Vl (Vs wa0_2))], 159, none⟩, ⟨.pointer (some q2), [(Vl (.int .i64 r8.1)), (Sl Kf r14.2), (Sl Kf r16.2)], 43, none⟩]) (frzH_cons rfl rfl rfl frzL_refl (frzH_cons rfl rfl rfl frzL_refl (frzH_cons rfl rfl rfl frzL_refl (frzH_cons rfl rfl rfl (frzL_cons frz_same (frzL_cons frz_same (frzL_cons frz_it frzL_refl))) frzH_refl))))) ?_
  refine tx_pick' (L' := [(2, (Vl (.pointer (some q2))))]) (H' := [⟨.pointer (some wa0), [(Vl (.int .i64 r8.1)), (Vl (Vs wa0_1)), (Vl (Vs wa0_2))], 159, none⟩, (Rw Kf 38 (Vs wa0_1) r14.1), (Rw Kf 38 (Vs wa0_2) r16.1), ⟨.pointer (some q2), [(Vl (.int .i64 r8.1)), (Sl Kf r14.2), (Sl Kf r16.2)], 43, none⟩]) [2, 1, 0, 3] (sub_cons rfl sub_nil) (by decide) (pick_cons rfl (pick_cons rfl (pick_cons rfl (pick_cons rfl pick_nil)))) ?_
  exact tx_ret1' Try.results62 rfl () (rv_cell_agg' (i := 3) (o := 0) (nn := 3) rfl ⟨rfl, rfl, rfl, rfl⟩ rfl agg43 rfl) (List.Sublist.cons_cons _ (List.Sublist.cons_cons _ (List.Sublist.cons_cons _ (List.nil_sublist _))))

def impl_BoxSet_1 (k : Nat) (a0_0 : Int) (a1_0 : Bool) : Option (Int × Bool) :=
  some (0, false)

theorem impl_BoxSet_1_sim {k : Nat} {wa0 : Addr} {wa1 : Addr} (a0_0 : Int) (a1_0 : Bool) {out : Int × Bool} (hp : impl_BoxSet_1 k a0_0 a1_0 = some out) : Go.Sx.Catch Try.prog 61 [(Vl (.pointer (some wa0))), (Vl (.pointer (some wa1)))] [⟨.pointer (some wa0), [(Vl (.int .i64 a0_0)), (Vl (.slice none 0 0)), (Vl (.slice none 0 0))], 43, none⟩, ⟨.pointer (some wa1), [(Vl (.bool a1_0))], 4, none⟩] [⟨.pointer (some wa0), [(Vl (.int .i64 out.1)), (Vl (.slice none 0 0)), (Vl (.slice none 0 0))], 43, none⟩, ⟨.pointer (some wa1), [(Vl (.bool out.2))], 4, none⟩] := by
  unfold impl_BoxSet_1 at hp
  refine catch_of Try.func61 rfl Try.ntmps61 rfl rfl rfl ifne20 fun E hM => ?_
  refine cx_region' ?_
  refine sx_rd' (rd_build' (pls := [(0, 1), (1, 1), (2, 1)]) (qs := []) (r := [(Vl (.int .i64 0)), (Vl (.slice none 0 0)), (Vl (.slice none 0 0))]) trivial Try.underlying43 has43 places43 info43 rfl rfl rfl) rfl rfl (wt_none' rfl) ?_
  refine sx_ox' (ox_store' (i := 0) (o := 0) rfl rfl (lv_ag _) ⟨rfl, rfl, rfl, rfl⟩ rfl info43 rfl (H' := [⟨.pointer (some wa0), [(Vl (.int .i64 0)), (Vl (.slice none 0 0)), (Vl (.slice none 0 0))], 43, none⟩, ⟨.pointer (some wa1), [(Vl (.bool a1_0))], 4, none⟩]) rfl) (wt_none' rfl) fun _ => ?_
  refine sx_ox' (ox_store' (i := 1) (o := 0) rfl rfl (lv_vl rfl rfl) ⟨rfl, rfl, rfl, rfl⟩ rfl info4 rfl (H' := [⟨.pointer (some wa0), [(Vl (.int .i64 0)), (Vl (.slice none 0 0)), (Vl (.slice none 0 0))], 43, none⟩, ⟨.pointer (some wa1), [(Vl (.bool false))], 4, none⟩]) rfl) (wt_none' rfl) fun _ => ?_
  refine sx_nil' ?_
  replace hp := Option.some.inj hp
  subst hp
  refine tx_pick' (L' := []) (H' := [⟨.pointer (some wa0), [(Vl (.int .i64 0)), (Vl (.slice none 0 0)), (Vl (.slice none 0 0))], 43, none⟩, ⟨.pointer (some wa1), [(Vl (.bool false))], 4, none⟩]) [0, 1] sub_nil (by decide) (pick_cons rfl (pick_cons rfl pick_nil)) ?_
  exact tx_end0' Try.results61 rfl () rfl (List.Sublist.refl _)

def impl_BoxSet (k : Nat) (a0_0 : Int) (a0_1 : List Nat) (a0_2 : List Nat) (a1 : List Nat) : Option (Int × (List Nat) × (List Nat) × Bool) :=
  (impl_box k a0_0 a0_1 a0_2) >>= fun r8 =>
  (gogeom_Bounds_Set k r8.1 r8.2.1 r8.2.2 a1) >>= fun r10 =>
  match r10 with
    | (.inl y4) =>
      ((impl_plainBox k y4.1 y4.2.1 y4.2.2) >>= fun r11 =>
      some (r11.1, r11.2.2.2.1, r11.2.2.2.2, true))
    | (.inr y4) =>
      ((impl_BoxSet_1 k 0 false) >>= fun r951 =>
      some (r951.1, [], [], r951.2))

theorem impl_BoxSet_sim {k : Nat}  (a0_0 : Int) (a0_1 : List Nat) (a0_2 : List Nat) (a1 : List Nat) {out : Int × (List Nat) × (List Nat) × Bool} (hp : impl_BoxSet k a0_0 a0_1 a0_2 a1 = some out) : Go.Sx.Fn Try.prog 25 [(Ag [(Vl (.int .i64 a0_0)), (Sl Kf a0_1), (Sl Kf a0_2)]), (Sl Kf a1)] [] (fun w : Unit => (Tu [(Ag [(Vl (.int .i64 out.1)), (Sl Kf out.2.1), (Sl Kf out.2.2.1)]), (Vl (.bool out.2.2.2))])) (fun w => []) := by
  unfold impl_BoxSet at hp
  refine fnD_of Try.func25 rfl Try.ntmps25 rfl fun E hM => ?_
  refine cx_seq' fun K1 hK1 => ?_
  refine cx_region' ?_
  refine sx_ox' (ox_box' rfl (lv_ag _) rfl rfl) (wt_none' rfl) fun q2 => ?_
  refine sx_ox' (ox_alloc' info43 rfl rfl rfl rfl (l := [(Vl (.int .i64 0)), (Vl (.slice none 0 0)), (Vl (.slice none 0 0))]) rfl) (wt_none' rfl) fun q4 => ?_
  refine sx_ox' (ox_alloc' info4 rfl rfl rfl rfl (l := [(Vl (.bool false))]) rfl) (wt_none' rfl) fun q5 => ?_
  refine sx_nil' ?_
  show TX E K1 _
  refine tx_k' hK1 ?_
  refine cx_seq' fun K2 hK2 => ?_
  refine cx_region' ?_
  refine sx_rd' (rd_mkfunc' (us := [.pointer (some q4), .pointer (some q5)]) rfl) rfl rfl (wt_none' rfl) ?_
  refine sx_ox' (ox_defer' rfl rfl) (wt_none' rfl) fun _ => ?_
  refine sx_nil' ?_
  show TX E K2 _
  refine tx_k' hK2 ?_
  refine cx_seq' fun K3 hK3 => ?_
  refine cx_region' ?_
  refine sx_rd' (rd_load_agg' (i := 2) (o := 0) (nn := 3) rfl ⟨rfl, rfl, rfl, rfl⟩ rfl agg43 (l' := [(Vl (.int .i64 a0_0)), (Sl Kf a0_1), (Sl Kf a0_2)]) rfl) rfl rfl (wt_none' rfl) ?_
  obtain ⟨r8, hr8, hp⟩ := bind_some hp
  refine sx_ox' (ox_calln' (ent_fn' Try.func63 isn63 rfl rfl) (impl_box_sim _ _ _ hr8 : Go.Sx.Fn Try.prog 63 [(Ag [(Vl (.int .i64 a0_0)), (Sl Kf a0_1), (Sl Kf a0_2)])] [] (fun x : Addr × Gs × Gs => (Vl (.pointer (some x.1)))) (fun x => [⟨.pointer (some x.1), [(Vl (.int .i64 r8.1)), (Vl (Vs x.2.1)), (Vl (Vs x.2.2))], 159, none⟩, (Rw Kf 38 (Vs x.2.1) r8.2.1), (Rw Kf 38 (Vs x.2.2) r8.2.2)])) (Hn := fun x : Addr × Gs × Gs => [⟨.pointer (some x.1), [(Vl (.int .i64 r8.1)), (Vl (Vs x.2.1)), (Vl (Vs x.2.2))], 159, none⟩, (Rw Kf 38 (Vs x.2.1) r8.2.1), (Rw Kf 38 (Vs x.2.2) r8.2.2), ⟨.pointer (some q5), [(Vl (.bool false))], 4, none⟩, ⟨.pointer (some q4), [(Vl (.int .i64 0)), (Vl (.slice none 0 0)), (Vl (.slice none 0 0))], 43, none⟩, ⟨.pointer (some q2), [(Vl (.int .i64 a0_0)), (Sl Kf a0_1), (Sl Kf a0_2)], 43, none⟩]) (fun _ => rfl) rfl rfl) (wt_none' rfl) fun ⟨q8, g8, gz1⟩ => ?_
  refine sx_rd' (rd_move' rfl) rfl rfl (wt_none' rfl) ?_
  obtain ⟨r10, hr10, hp⟩ := bind_some hp
  rcases r10 with y4 | y4
  · dsimp only at hp
    refine sx_ox' (ox_callg' (ent_fn' Try.func64 isn64 rfl rfl) (Fx.fn (gogeom_Bounds_Set_sim _ _ _ _ hr10) : Go.Sx.Fn Try.prog 64 [(Vl (.pointer (some q8))), (Sl Kf a1)] [⟨.pointer (some q8), [(Vl (.int .i64 r8.1)), (Vl (Vs g8)), (Vl (Vs gz1))], 159, none⟩, (Rw Kf 38 (Vs g8) r8.2.1), (Rw Kf 38 (Vs gz1) r8.2.2)] (fun x : Gs × Gs => (Vl (.pointer (some q8)))) (fun x => [⟨.pointer (some q8), [(Vl (.int .i64 y4.1)), (Vl (Vs x.1)), (Vl (Vs x.2))], 159, none⟩, (Rw Kf 38 (Vs x.1) y4.2.1), (Rw Kf 38 (Vs x.2) y4.2.2)])) [0, 1, 2] [3, 4, 5] (by decide) (pick_cons rfl (pick_cons rfl (pick_cons rfl pick_nil))) (pick_cons rfl (pick_cons rfl (pick_cons rfl pick_nil))) (Hn := fun x : Gs × Gs => [⟨.pointer (some q8), [(Vl (.int .i64 y4.1)), (Vl (Vs x.1)), (Vl (Vs x.2))], 159, none⟩, (Rw Kf 38 (Vs x.1) y4.2.1), (Rw Kf 38 (Vs x.2) y4.2.2), ⟨.pointer (some q5), [(Vl (.bool false))], 4, none⟩, ⟨.pointer (some q4), [(Vl (.int .i64 0)), (Vl (.slice none 0 0)), (Vl (.slice none 0 0))], 43, none⟩, ⟨.pointer (some q2), [(Vl (.int .i64 a0_0)), (Sl Kf a0_1), (Sl Kf a0_2)], 43, none⟩]) (fun _ => rfl) rfl rfl) (wt_none' rfl) fun ⟨g10, gz2⟩ => ?_
    obtain ⟨r11, hr11, hp⟩ := bind_some hp
    refine sx_ox' (ox_callg' (ent_fn' Try.func62 isn62 rfl rfl) (impl_plainBox_sim _ _ _ hr11 : Go.Sx.Fn Try.prog 62 [(Vl (.pointer (some q8)))] [⟨.pointer (some q8), [(Vl (.int .i64 y4.1)), (Vl (Vs g10)), (Vl (Vs gz2))], 159, none⟩, (Rw Kf 38 (Vs g10) y4.2.1), (Rw Kf 38 (Vs gz2) y4.2.2)] (fun x : Unit => (Ag [(Vl (.int .i64 r11.1)), (Sl Kf r11.2.2.2.1), (Sl Kf r11.2.2.2.2)])) (fun x => [⟨.pointer (some q8), [(Vl (.int .i64 r11.1)), (Vl (Vs g10)), (Vl (Vs gz2))], 159, none⟩, (Rw Kf 38 (Vs g10) r11.2.1), (Rw Kf 38 (Vs gz2) r11.2.2.1)])) [0, 1, 2] [3, 4, 5] (by decide) (pick_cons rfl (pick_cons rfl (pick_cons rfl pick_nil))) (pick_cons rfl (pick_cons rfl (pick_cons rfl pick_nil))) (Hn := fun x : Unit => [⟨.pointer (some q8), [(Vl (.int .i64 r11.1)), (Vl (Vs g10)), (Vl (Vs gz2))], 159, none⟩, (Rw Kf 38 (Vs g10) r11.2.1), (Rw Kf 38 (Vs gz2) r11.2.2.1), ⟨.pointer (some q5), [(Vl (.bool false))], 4, none⟩, ⟨.pointer (some q4), [(Vl (.int .i64 0)), (Vl (.slice none 0 0)), (Vl (.slice none 0 0))], 43, none⟩, ⟨.pointer (some q2), [(Vl (.int .i64 a0_0)), (Sl Kf a0_1), (Sl Kf a0_2)], 43, none⟩]) (fun _ => rfl) rfl rfl) (wt_none' rfl) fun ⟨⟩ => ?_
    refine sx_ox' (ox_store' (i := 4) (o := 0) rfl rfl (lv_ag _) ⟨rfl, rfl, rfl, rfl⟩ rfl info43 rfl (H' := [⟨.pointer (some q8), [(Vl (.int .i64 r11.1)), (Vl (Vs g10)), (Vl (Vs gz2))], 159, none⟩, (Rw Kf 38 (Vs g10) r11.2.1), (Rw Kf 38 (Vs gz2) r11.2.2.1), ⟨.pointer (some q5), [(Vl (.bool false))], 4, none⟩, ⟨.pointer (some q4), [(Vl (.int .i64 r11.1)), (Sl Kf r11.2.2.2.1), (Sl Kf r11.2.2.2.2)], 43, none⟩, ⟨.pointer (some q2), [(Vl (.int .i64 a0_0)), (Sl Kf a0_1), (Sl Kf a0_2)], 43, none⟩]) rfl) (wt_none' rfl) fun _ => ?_
    refine sx_ox' (ox_store' (i := 3) (o := 0) rfl rfl (lv_vl rfl rfl) ⟨rfl, rfl, rfl, rfl⟩ rfl info4 rfl (H' := [⟨.pointer (some q8), [(Vl (.int .i64 r11.1)), (Vl (Vs g10)), (Vl (Vs gz2))], 159, none⟩, (Rw Kf 38 (Vs g10) r11.2.1), (Rw Kf 38 (Vs gz2) r11.2.2.1), ⟨.pointer (some q5), [(Vl (.bool true))], 4, none⟩, ⟨.pointer (some q4), [(Vl (.int .i64 r11.1)), (Sl Kf r11.2.2.2.1), (Sl Kf r11.2.2.2.2)], 43, none⟩, ⟨.pointer (some q2), [(Vl (.int .i64 a0_0)), (Sl Kf a0_1), (Sl Kf a0_2)], 43, none⟩]) rfl) (wt_none' rfl) fun _ => ?_
    refine sx_nil' ?_
    show TX E K3 _
    refine tx_k' hK3 ?_
    refine cx_retc' ?_
    replace hp := Option.some.inj hp
    subst hp
    refine tx_leave' (.inl rfl) rfl idle61 rfl Try.func61 isn61 rfl ?_
    refine tx_pick' (L' := [(4, (Vl (.pointer (some q4)))), (5, (Vl (.pointer (some q5))))]) (H' := [⟨.pointer (some q4), [(Vl (.int .i64 r11.1)), (Sl Kf r11.2.2.2.1), (Sl Kf r11.2.2.2.2)], 43, none⟩, ⟨.pointer (some q5), [(Vl (.bool true))], 4, none⟩]) [4, 3] (sub_cons rfl (sub_cons rfl sub_nil)) (by decide) (pick_cons rfl (pick_cons rfl pick_nil)) ?_
    exact tx_ret2' Try.results25 rfl () (rv_cell_agg' (i := 0) (o := 0) (nn := 3) rfl ⟨rfl, rfl, rfl, rfl⟩ rfl agg43 rfl) (rv_cell' (i := 1) (o := 0) rfl ⟨rfl, rfl, rfl, rfl⟩ rfl flat4) rfl (List.nil_sublist _)
  · dsimp only at hp
    obtain ⟨r951, hr951, hp⟩ := bind_some hp
    refine sx_callp' (ent_fn' Try.func64 isn64 rfl rfl) (gogeom_Bounds_Set_sim _ _ _ _ hr10 : Go.Sx.Fx Try.prog 64 [(Vl (.pointer (some q8))), (Sl Kf a1)] [⟨.pointer (some q8), [(Vl (.int .i64 r8.1)), (Vl (Vs g8)), (Vl (Vs gz1))], 159, none⟩, (Rw Kf 38 (Vs g8) r8.2.1), (Rw Kf 38 (Vs gz1) r8.2.2)] true (fun x : Gs × Gs => (Vl undef)) (fun x => [])) [0, 1, 2] [3, 4, 5] (by decide) (pick_cons rfl (pick_cons rfl (pick_cons rfl pick_nil))) (pick_cons rfl (pick_cons rfl (pick_cons rfl pick_nil))) (wt_none' rfl) ?_
    show PanQ E (bodyPostD _ _ (PostE E _ _)) _
    refine tx_caught' rfl (impl_BoxSet_1_sim _ _ hr951 : Go.Sx.Catch Try.prog 61 ([.pointer (some q4), .pointer (some q5)].map Vl) [⟨.pointer (some q4), [(Vl (.int .i64 0)), (Vl (.slice none 0 0)), (Vl (.slice none 0 0))], 43, none⟩, ⟨.pointer (some q5), [(Vl (.bool false))], 4, none⟩] [⟨.pointer (some q4), [(Vl (.int .i64 r951.1)), (Vl (.slice none 0 0)), (Vl (.slice none 0 0))], 43, none⟩, ⟨.pointer (some q5), [(Vl (.bool r951.2))], 4, none⟩]) Try.func61 isn61 rfl [1, 0] [2] (by decide) (pick_cons rfl (pick_cons rfl pick_nil)) (pick_cons rfl pick_nil) ?_
    replace hp := Option.some.inj hp
    subst hp
    refine tx_pick' (L' := [(4, (Vl (.pointer (some q4)))), (5, (Vl (.pointer (some q5))))]) (H' := [⟨.pointer (some q4), [(Vl (.int .i64 r951.1)), (Vl (.slice none 0 0)), (Vl (.slice none 0 0))], 43, none⟩, ⟨.pointer (some q5), [(Vl (.bool r951.2))], 4, none⟩]) [0, 1] (sub_cons rfl (sub_cons rfl sub_nil)) (by decide) (pick_cons rfl (pick_cons rfl pick_nil)) ?_
    exact tx_ret2' Try.results25 rfl () (rv_imp' (x := (Ag [(Vl (.int .i64 r951.1)), (Vl (.slice none 0 0)), (Vl (.slice none 0 0))])) (y := (Ag [(Vl (.int .i64 r951.1)), (Sl Kf []), (Sl Kf [])])) (rv_cell_agg' (i := 0) (o := 0) (nn := 3) rfl ⟨rfl, rfl, rfl, rfl⟩ rfl agg43 rfl) (imp_ag ⟨imp_refl, imp_nil, imp_nil, trivial⟩)) (rv_cell' (i := 1) (o := 0) rfl ⟨rfl, rfl, rfl, rfl⟩ rfl flat4) rfl (List.nil_sublist _)

def impl_box_v2 (k : Nat) (a0_0 : Int) (a0_1 : List Nat) (a0_2 : List Nat) : Option ((List Nat) × (List Nat) × Int × (List Nat) × (List Nat)) :=
  (impl_floats_v2 k a0_1) >>= fun r7 =>
  (impl_floats_v2 k a0_2) >>= fun r10 =>
  (gogeom_DoorBounds k a0_0 r7.2 r10.2) >>= fun r11 =>
  some (r7.1, r10.1, r11.2.2, r11.1, r11.2.1)

theorem impl_box_v2_sim {k : Nat} {wa0_1 : Gs} {wa0_2 : Gs} (a0_0 : Int) (a0_1 : List Nat) (a0_2 : List Nat) {out : (List Nat) × (List Nat) × Int × (List Nat) × (List Nat)} (hp : impl_box_v2 k a0_0 a0_1 a0_2 = some out) : Go.Sx.Fn Try.prog 63 [(Ag [(Vl (.int .i64 a0_0)), (Vl (Vs wa0_1)), (Vl (Vs wa0_2))])] [(Rw Kf 38 (Vs wa0_1) a0_1), (Rw Kf 38 (Vs wa0_2) a0_2)] (fun w : Addr × Gs × Gs => (Vl (.pointer (some w.1)))) (fun w => [(Rw Kf 38 (Vs wa0_1) out.1), (Rw Kf 38 (Vs wa0_2) out.2.1), ⟨.pointer (some w.1), [(Vl (.int .i64 out.2.2.1)), (Vl (Vs w.2.1)), (Vl (Vs w.2.2))], 159, none⟩, (Rw Kf 38 (Vs w.2.1) out.2.2.2.1), (Rw Kf 38 (Vs w.2.2) out.2.2.2.2)]) := by
  unfold impl_box_v2 at hp
  refine fn_of Try.func63 rfl Try.ntmps63 rfl fun E hM => ?_
  refine cx_seq' fun K1 hK1 => ?_
  refine cx_region' ?_
  refine sx_ox' (ox_box' rfl (lv_ag _) rfl rfl) (wt_none' rfl) fun q1 => ?_
  refine sx_rd' (rd_assign' rfl) rfl rfl (wt_none' rfl) ?_
  refine sx_nil' ?_
  show TX E K1 _
  refine tx_k' hK1 ?_
  refine cx_seq' fun K2 hK2 => ?_
  refine cx_plan' [q1.block] [(4, 1), (7, 1), (8, 1)] [(0, 2), (1, 2), (2, 1), (3, 1), (5, 2), (6, 2), (4, 0), (7, 0), (8, 0), (9, 1)] mixed (by kernel_rfl) ?_
  refine px_rb' rfl (rb_field0' rfl Try.underlying43 rfl info3 rfl) rfl rfl (wt_none' rfl) ?_
  refine px_rb' rfl (rb_load' (i := 0) (o := 0) rfl ⟨rfl, rfl, rfl, rfl⟩ rfl flat3 (by simp)) rfl rfl (wt_none' rfl) ?_
  refine px_rd' rfl (rd_field' (off := 1) rfl Try.underlying43 rfl info22 rfl) rfl rfl (wt_none' rfl) ?_
  refine px_rd' rfl (rd_load' (i := 0) (o := 1) rfl ⟨rfl, rfl, rfl, rfl⟩ rfl flat22) rfl rfl (wt_none' rfl) ?_
  refine px_rb' rfl (rb_field' (off := 2) rfl Try.underlying43 rfl info22 rfl) rfl rfl (wt_none' rfl) ?_
  refine px_rb' rfl (rb_load' (i := 0) (o := 2) rfl ⟨rfl, rfl, rfl, rfl⟩ rfl flat22 (by simp)) rfl rfl (wt_none' rfl) ?_
  obtain ⟨r7, hr7, hp⟩ := bind_some hp
  refine px_oxb' (is := [1]) rfl (oxb_callg (ent_fn' Try.func50 isn50 rfl rfl) (impl_floats_v2_sim _ hr7 : Go.Sx.Fn Try.prog 50 [(Vl (Vs wa0_1))] [(Rw Kf 38 (Vs wa0_1) a0_1)] (fun x : Gs => (Vl (Vs x))) (fun x => [(Rw Kf 38 (Vs wa0_1) r7.1), (Rw Kf 38 (Vs x) r7.2)])) [1] [0, 2] (by decide) (pick_cons rfl pick_nil) (pick_cons rfl (pick_cons rfl pick_nil)) (Hn := fun x : Gs => [(Rw Kf 38 (Vs wa0_1) r7.1), (Rw Kf 38 (Vs x) r7.2), ⟨.pointer (some q1), [(Vl (.int .i64 a0_0)), (Vl (Vs wa0_1)), (Vl (Vs wa0_2))], 43, none⟩, (Rw Kf 38 (Vs wa0_2) a0_2)]) (fun _ => rfl) rfl rfl) (pick_cons rfl pick_nil) rfl (bl_cons (m := 0) (by decide) rfl rfl bl_nil) (wt_none' rfl) fun g7 => ?_
  obtain ⟨r10, hr10, hp⟩ := bind_some hp
  refine px_oxb' (is := [3]) rfl (oxb_callg (ent_fn' Try.func50 isn50 rfl rfl) (impl_floats_v2_sim _ hr10 : Go.Sx.Fn Try.prog 50 [(Vl (Vs wa0_2))] [(Rw Kf 38 (Vs wa0_2) a0_2)] (fun x : Gs => (Vl (Vs x))) (fun x => [(Rw Kf 38 (Vs wa0_2) r10.1), (Rw Kf 38 (Vs x) r10.2)])) [3] [0, 1, 2] (by decide) (pick_cons rfl pick_nil) (pick_cons rfl (pick_cons rfl (pick_cons rfl pick_nil))) (Hn := fun x : Gs => [(Rw Kf 38 (Vs wa0_2) r10.1), (Rw Kf 38 (Vs x) r10.2), (Rw Kf 38 (Vs wa0_1) r7.1), (Rw Kf 38 (Vs g7) r7.2), ⟨.pointer (some q1), [(Vl (.int .i64 a0_0)), (Vl (Vs wa0_1)), (Vl (Vs wa0_2))], 43, none⟩]) (fun _ => rfl) rfl rfl) (pick_cons rfl pick_nil) rfl (bl_cons (m := 2) (by decide) rfl rfl bl_nil) (wt_none' rfl) fun g10 => ?_
  obtain ⟨r11, hr11, hp⟩ := bind_some hp
  refine px_oxb' (is := [3, 1]) rfl (oxb_callg (ent_fn' Try.func101 isn101 rfl rfl) (gogeom_DoorBounds_sim _ _ _ hr11 : Go.Sx.Fn Try.prog 101 [(Vl (.int .i64 a0_0)), (Vl (Vs g7)), (Vl (Vs g10))] [(Rw Kf 38 (Vs g7) r7.2), (Rw Kf 38 (Vs g10) r10.2)] (fun x : Addr => (Vl (.pointer (some x)))) (fun x => [(Rw Kf 38 (Vs g7) r11.1), (Rw Kf 38 (Vs g10) r11.2.1), ⟨.pointer (some x), [(Vl (.int .i64 r11.2.2)), (Vl (Vs g7)), (Vl (Vs g10))], 159, none⟩])) [3, 1] [0, 2, 4] (by decide) (pick_cons rfl (pick_cons rfl pick_nil)) (pick_cons rfl (pick_cons rfl (pick_cons rfl pick_nil))) (Hn := fun x : Addr => [(Rw Kf 38 (Vs g7) r11.1), (Rw Kf 38 (Vs g10) r11.2.1), ⟨.pointer (some x), [(Vl (.int .i64 r11.2.2)), (Vl (Vs g7)), (Vl (Vs g10))], 159, none⟩, (Rw Kf 38 (Vs wa0_2) r10.1), (Rw Kf 38 (Vs wa0_1) r7.1), ⟨.pointer (some q1), [(Vl (.int .i64 a0_0)), (Vl (Vs wa0_1)), (Vl (Vs wa0_2))], 43, none⟩]) (fun _ => rfl) rfl rfl) (pick_cons rfl (pick_cons rfl pick_nil)) rfl (bl_cons (m := 4) (by decide) rfl rfl bl_nil) (wt_none' rfl) fun q11 => ?_
  refine px_rd' rfl (rd_assign' rfl) rfl rfl (wt_none' rfl) ?_
  refine px_nil' ?_
  show TX E K2 _
  refine tx_k' hK2 ?_
  refine cx_retc' ?_
  replace hp := Option.some.inj hp
  subst hp
  refine tx_pick' (L' := [(2, (Vl (.pointer (some q11))))]) (H' := [(Rw Kf 38 (Vs wa0_1) r7.1), (Rw Kf 38 (Vs wa0_2) r10.1), ⟨.pointer (some q11), [(Vl (.int .i64 r11.2.2)), (Vl (Vs g7)), (Vl (Vs g10))], 159, none⟩, (Rw Kf 38 (Vs g7) r11.1), (Rw Kf 38 (Vs g10) r11.2.1)]) [4, 3, 2, 0, 1] (sub_cons rfl sub_nil) (by decide) (pick_cons rfl (pick_cons rfl (pick_cons rfl (pick_cons rfl (pick_cons rfl pick_nil))))) ?_
  exact tx_ret1' Try.results63 rfl (q11, g7, g10) (rv_tmp' rfl) (List.Sublist.refl _)

def impl_BoxSet_v2 (k : Nat) (a0_0 : Int) (a0_1 : List Nat) (a0_2 : List Nat) (a1 : List Nat) : Option ((List Nat) × (List Nat) × Int × (List Nat) × (List Nat) × Bool) :=
  (impl_box_v2 k a0_0 a0_1 a0_2) >>= fun r8 =>
  (gogeom_Bounds_Set k r8.2.2.1 r8.2.2.2.1 r8.2.2.2.2 a1) >>= fun r10 =>
  match r10 with
    | (.inl y4) =>
      ((impl_plainBox k y4.1 y4.2.1 y4.2.2) >>= fun r11 =>
      some (r8.1, r8.2.1, r11.1, r11.2.2.2.1, r11.2.2.2.2, true))
    | (.inr y4) =>
      ((impl_BoxSet_1 k 0 false) >>= fun r951 =>
      some (r8.1, r8.2.1, r951.1, [], [], r951.2))

theorem impl_BoxSet_v2_sim {k : Nat} {wa0_1 : Gs} {wa0_2 : Gs} (a0_0 : Int) (a0_1 : List Nat) (a0_2 : List Nat) (a1 : List Nat) {out : (List Nat) × (List Nat) × Int × (List Nat) × (List Nat) × Bool} (hp : impl_BoxSet_v2 k a0_0 a0_1 a0_2 a1 = some out) : Go.Sx.Fn Try.prog 25 [(Ag [(Vl (.int .i64 a0_0)), (Vl (Vs wa0_1)), (Vl (Vs wa0_2))]), (Sl Kf a1)] [(Rw Kf 38 (Vs wa0_1) a0_1), (Rw Kf 38 (Vs wa0_2) a0_2)] (fun w : Unit => (Tu [(Ag [(Vl (.int .i64 out.2.2.1)), (Sl Kf out.2.2.2.1), (Sl Kf out.2.2.2.2.1)]), (Vl (.bool out.2.2.2.2.2))])) (fun w => [(Rw Kf 38 (Vs wa0_1) out.1), (Rw Kf 38 (Vs wa0_2) out.2.1)]) := by
  unfold impl_BoxSet_v2 at hp
  refine fnD_of Try.func25 rfl Try.ntmps25 rfl fun E hM => ?_
  refine cx_seq' fun K1 hK1 => ?_
  refine cx_region' ?_
  refine sx_ox' (ox_box' rfl (lv_ag _) rfl rfl) (wt_none' rfl) fun q2 => ?_
  refine sx_ox' (ox_alloc' info43 rfl rfl rfl rfl (l := [(Vl (.int .i64 0)), (Vl (.slice none 0 0)), (Vl (.slice none 0 0))]) rfl) (wt_none' rfl) fun q4 => ?_
  refine sx_ox' (ox_alloc' info4 rfl rfl rfl rfl (l := [(Vl (.bool false))]) rfl) (wt_none' rfl) fun q5 => ?_
  refine sx_nil' ?_
  show TX E K1 _
  refine tx_k' hK1 ?_
  refine cx_seq' fun K2 hK2 => ?_
  refine cx_region' ?_
  refine sx_rd' (rd_mkfunc' (us := [.pointer (some q4), .pointer (some q5)]) rfl) rfl rfl (wt_none' rfl) ?_
  refine sx_ox' (ox_defer' rfl rfl) (wt_none' rfl) fun _ => ?_
  refine sx_nil' ?_
  show TX E K2 _
  refine tx_k' hK2 ?_
  refine cx_seq' fun K3 hK3 => ?_
  refine cx_region' ?_
  refine sx_rd' (rd_load_agg' (i := 2) (o := 0) (nn := 3) rfl ⟨rfl, rfl, rfl, rfl⟩ rfl agg43 (l' := [(Vl (.int .i64 a0_0)), (Vl (Vs wa0_1)), (Vl (Vs wa0_2))]) rfl) rfl rfl (wt_none' rfl) ?_
  obtain ⟨r8, hr8, hp⟩ := bind_some hp
  refine sx_ox' (ox_callg' (ent_fn' Try.func63 isn63 rfl rfl) (impl_box_v2_sim _ _ _ hr8 : Go.Sx.Fn Try.prog 63 [(Ag [(Vl (.int .i64 a0_0)), (Vl (Vs wa0_1)), (Vl (Vs wa0_2))])] [(Rw Kf 38 (Vs wa0_1) a0_1), (Rw Kf 38 (Vs wa0_2) a0_2)] (fun x : Addr × Gs × Gs => (Vl (.pointer (some x.1)))) (fun x => [(Rw Kf 38 (Vs wa0_1) r8.1), (Rw Kf 38 (Vs wa0_2) r8.2.1), ⟨.pointer (some x.1), [(Vl (.int .i64 r8.2.2.1)), (Vl (Vs x.2.1)), (Vl (Vs x.2.2))], 159, none⟩, (Rw Kf 38 (Vs x.2.1) r8.2.2.2.1), (Rw Kf 38 (Vs x.2.2) r8.2.2.2.2)])) [3, 4] [0, 1, 2] (by decide) (pick_cons rfl (pick_cons rfl pick_nil)) (pick_cons rfl (pick_cons rfl (pick_cons rfl pick_nil))) (Hn := fun x : Addr × Gs × Gs => [(Rw Kf 38 (Vs wa0_1) r8.1), (Rw Kf 38 (Vs wa0_2) r8.2.1), ⟨.pointer (some x.1), [(Vl (.int .i64 r8.2.2.1)), (Vl (Vs x.2.1)), (Vl (Vs x.2.2))], 159, none⟩, (Rw Kf 38 (Vs x.2.1) r8.2.2.2.1), (Rw Kf 38 (Vs x.2.2) r8.2.2.2.2), ⟨.pointer (some q5), [(Vl (.bool false))], 4, none⟩, ⟨.pointer (some q4), [(Vl (.int .i64 0)), (Vl (.slice none 0 0)), (Vl (.slice none 0 0))], 43, none⟩, ⟨.pointer (some q2), [(Vl (.int .i64 a0_0)), (Vl (Vs wa0_1)), (Vl (Vs wa0_2))], 43, none⟩]) (fun _ => rfl) rfl rfl) (wt_none' rfl) fun ⟨q8, g8, gz1⟩ => ?_
  refine sx_rd' (rd_move' rfl) rfl rfl (wt_none' rfl) ?_
  obtain ⟨r10, hr10, hp⟩ := bind_some hp
  rcases r10 with y4 | y4
  · dsimp only at hp
    refine sx_ox' (ox_callg' (ent_fn' Try.func64 isn64 rfl rfl) (Fx.fn (gogeom_Bounds_Set_sim _ _ _ _ hr10) : Go.Sx.Fn Try.prog 64 [(Vl (.pointer (some q8))), (Sl Kf a1)] [⟨.pointer (some q8), [(Vl (.int .i64 r8.2.2.1)), (Vl (Vs g8)), (Vl (Vs gz1))], 159, none⟩, (Rw Kf 38 (Vs g8) r8.2.2.2.1), (Rw Kf 38 (Vs gz1) r8.2.2.2.2)] (fun x : Gs × Gs => (Vl (.pointer (some q8)))) (fun x => [⟨.pointer (some q8), [(Vl (.int .i64 y4.1)), (Vl (Vs x.1)), (Vl (Vs x.2))], 159, none⟩, (Rw Kf 38 (Vs x.1) y4.2.1), (Rw Kf 38 (Vs x.2) y4.2.2)])) [2, 3, 4] [0, 1, 5, 6, 7] (by decide) (pick_cons rfl (pick_cons rfl (pick_cons rfl pick_nil))) (pick_cons rfl (pick_cons rfl (pick_cons rfl (pick_cons rfl (pick_cons rfl pick_nil))))) (Hn := fun x : Gs × Gs => [⟨.pointer (some q8), [(Vl (.int .i64 y4.1)), (Vl (Vs x.1)), (Vl (Vs x.2))], 159, none⟩, (Rw Kf 38 (Vs x.1) y4.2.1), (Rw Kf 38 (Vs x.2) y4.2.2), (Rw Kf 38 (Vs wa0_1) r8.1), (Rw Kf 38 (Vs wa0_2) r8.2.1), ⟨.pointer (some q5), [(Vl (.bool false))], 4, none⟩, ⟨.pointer (some q4), [(Vl (.int .i64 0)), (Vl (.slice none 0 0)), (Vl (.slice none 0 0))], 43, none⟩, ⟨.pointer (some q2), [(Vl (.int .i64 a0_0)), (Vl (Vs wa0_1)), (Vl (Vs wa0_2))], 43, none⟩]) (fun _ => rfl) rfl rfl) (wt_none' rfl) fun ⟨g10, gz2⟩ => ?_
    obtain ⟨r11, hr11, hp⟩ := bind_some hp
    refine sx_ox' (ox_callg' (ent_fn' Try.func62 isn62 rfl rfl) (impl_plainBox_sim _ _ _ hr11 : Go.Sx.Fn Try.prog 62 [(Vl (.pointer (some q8)))] [⟨.pointer (some q8), [(Vl (.int .i64 y4.1)), (Vl (Vs g10)), (Vl (Vs gz2))], 159, none⟩, (Rw Kf 38 (Vs g10) y4.2.1), (Rw Kf 38 (Vs gz2) y4.2.2)] (fun x : Unit => (Ag [(Vl (.int .i64 r11.1)), (Sl Kf r11.2.2.2.1), (Sl Kf r11.2.2.2.2)])) (fun x => [⟨.pointer (some q8), [(Vl (.int .i64 r11.1)), (Vl (Vs g10)), (Vl (Vs gz2))], 159, none⟩, (Rw Kf 38 (Vs g10) r11.2.1), (Rw Kf 38 (Vs gz2) r11.2.2.1)])) [0, 1, 2] [3, 4, 5, 6, 7] (by decide) (pick_cons rfl (pick_cons rfl (pick_cons rfl pick_nil))) (pick_cons rfl (pick_cons rfl (pick_cons rfl (pick_cons rfl (pick_cons rfl pick_nil))))) (Hn := fun x : Unit => [⟨.pointer (some q8), [(Vl (.int .i64 r11.1)), (Vl (Vs g10)), (Vl (Vs gz2))], 159, none⟩, (Rw Kf 38 (Vs g10) r11.2.1), (Rw Kf 38 (Vs gz2) r11.2.2.1), (Rw Kf 38 (Vs wa0_1) r8.1), (Rw Kf 38 (Vs wa0_2) r8.2.1), ⟨.pointer (some q5), [(Vl (.bool false))], 4, none⟩, ⟨.pointer (some q4), [(Vl (.int .i64 0)), (Vl (.slice none 0 0)), (Vl (.slice none 0 0))], 43, none⟩, ⟨.pointer (some q2), [(Vl (.int .i64 a0_0)), (Vl (Vs wa0_1)), (Vl (Vs wa0_2))], 43, none⟩]) (fun _ => rfl) rfl rfl) (wt_none' rfl) fun ⟨⟩ => ?_
    refine sx_ox' (ox_store' (i := 6) (o := 0) rfl rfl (lv_ag _) ⟨rfl, rfl, rfl, rfl⟩ rfl info43 rfl (H' := [⟨.pointer (some q8), [(Vl (.int .i64 r11.1)), (Vl (Vs g10)), (Vl (Vs gz2))], 159, none⟩, (Rw Kf 38 (Vs g10) r11.2.1), (Rw Kf 38 (Vs gz2) r11.2.2.1), (Rw Kf 38 (Vs wa0_1) r8.1), (Rw Kf 38 (Vs wa0_2) r8.2.1), ⟨.pointer (some q5), [(Vl (.bool false))], 4, none⟩, ⟨.pointer (some q4), [(Vl (.int .i64 r11.1)), (Sl Kf r11.2.2.2.1), (Sl Kf r11.2.2.2.2)], 43, none⟩, ⟨.pointer (some q2), [(Vl (.int .i64 a0_0)), (Vl (Vs wa0_1)), (Vl (Vs wa0_2))], 43, none⟩]) rfl) (wt_none' rfl) fun _ => ?_
    refine sx_ox' (ox_store' (i := 5) (o := 0) rfl rfl (lv_vl rfl rfl) ⟨rfl, rfl, rfl, rfl⟩ rfl info4 rfl (H' := [⟨.pointer (some q8), [(Vl (.int .i64 r11.1)), (Vl (Vs g10)), (Vl (Vs gz2))], 159, none⟩, (Rw Kf 38 (Vs g10) r11.2.1), (Rw Kf 38 (Vs gz2) r11.2.2.1), (Rw Kf 38 (Vs wa0_1) r8.1), (Rw Kf 38 (Vs wa0_2) r8.2.1), ⟨.pointer (some q5), [(Vl (.bool true))], 4, none⟩, ⟨.pointer (some q4), [(Vl (.int .i64 r11.1)), (Sl Kf r11.2.2.2.1), (Sl Kf r11.2.2.2.2)], 43, none⟩, ⟨.pointer (some q2), [(Vl (.int .i64 a0_0)), (Vl (Vs wa0_1)), (Vl (Vs wa0_2))], 43, none⟩]) rfl) (wt_none' rfl) fun _ => ?_
    refine sx_nil' ?_
    show TX E K3 _
    refine tx_k' hK3 ?_
    refine cx_retc' ?_
    replace hp := Option.some.inj hp
    subst hp
    refine tx_leave' (.inl rfl) rfl idle61 rfl Try.func61 isn61 rfl ?_
    refine tx_pick' (L' := [(4, (Vl (.pointer (some q4)))), (5, (Vl (.pointer (some q5))))]) (H' := [(Rw Kf 38 (Vs wa0_1) r8.1), (Rw Kf 38 (Vs wa0_2) r8.2.1), ⟨.pointer (some q4), [(Vl (.int .i64 r11.1)), (Sl Kf r11.2.2.2.1), (Sl Kf r11.2.2.2.2)], 43, none⟩, ⟨.pointer (some q5), [(Vl (.bool true))], 4, none⟩]) [3, 4, 6, 5] (sub_cons rfl (sub_cons rfl sub_nil)) (by decide) (pick_cons rfl (pick_cons rfl (pick_cons rfl (pick_cons rfl pick_nil)))) ?_
    exact tx_ret2' Try.results25 rfl () (rv_cell_agg' (i := 2) (o := 0) (nn := 3) rfl ⟨rfl, rfl, rfl, rfl⟩ rfl agg43 rfl) (rv_cell' (i := 3) (o := 0) rfl ⟨rfl, rfl, rfl, rfl⟩ rfl flat4) rfl (List.Sublist.cons_cons _ (List.Sublist.cons_cons _ (List.nil_sublist _)))
  · dsimp only at hp
    obtain ⟨r951, hr951, hp⟩ := bind_some hp
    refine sx_callp' (ent_fn' Try.func64 isn64 rfl rfl) (gogeom_Bounds_Set_sim _ _ _ _ hr10 : Go.Sx.Fx Try.prog 64 [(Vl (.pointer (some q8))), (Sl Kf a1)] [⟨.pointer (some q8), [(Vl (.int .i64 r8.2.2.1)), (Vl (Vs g8)), (Vl (Vs gz1))], 159, none⟩, (Rw Kf 38 (Vs g8) r8.2.2.2.1), (Rw Kf 38 (Vs gz1) r8.2.2.2.2)] true (fun x : Gs × Gs => (Vl undef)) (fun x => [])) [2, 3, 4] [0, 1, 5, 6, 7] (by decide) (pick_cons rfl (pick_cons rfl (pick_cons rfl pick_nil))) (pick_cons rfl (pick_cons rfl (pick_cons rfl (pick_cons rfl (pick_cons rfl pick_nil))))) (wt_none' rfl) ?_
    show PanQ E (bodyPostD _ _ (PostE E _ _)) _
    refine tx_caught' rfl (impl_BoxSet_1_sim _ _ hr951 : Go.Sx.Catch Try.prog 61 ([.pointer (some q4), .pointer (some q5)].map Vl) [⟨.pointer (some q4), [(Vl (.int .i64 0)), (Vl (.slice none 0 0)), (Vl (.slice none 0 0))], 43, none⟩, ⟨.pointer (some q5), [(Vl (.bool false))], 4, none⟩] [⟨.pointer (some q4), [(Vl (.int .i64 r951.1)), (Vl (.slice none 0 0)), (Vl (.slice none 0 0))], 43, none⟩, ⟨.pointer (some q5), [(Vl (.bool r951.2))], 4, none⟩]) Try.func61 isn61 rfl [3, 2] [0, 1, 4] (by decide) (pick_cons rfl (pick_cons rfl pick_nil)) (pick_cons rfl (pick_cons rfl (pick_cons rfl pick_nil))) ?_
    replace hp := Option.some.inj hp
    subst hp
    refine tx_pick' (L' := [(4, (Vl (.pointer (some q4)))), (5, (Vl (.pointer (some q5))))]) (H' := [(Rw Kf 38 (Vs wa0_1) r8.1), (Rw Kf 38 (Vs wa0_2) r8.2.1), ⟨.pointer (some q4), [(Vl (.int .i64 r951.1)), (Vl (.slice none 0 0)), (Vl (.slice none 0 0))], 43, none⟩, ⟨.pointer (some q5), [(Vl (.bool r951.2))], 4, none⟩]) [2, 3, 0, 1] (sub_cons rfl (sub_cons rfl sub_nil)) (by decide) (pick_cons rfl (pick_cons rfl (pick_cons rfl (pick_cons rfl pick_nil)))) ?_
    exact tx_ret2' Try.results25 rfl () (rv_imp' (x := (Ag [(Vl (.int .i64 r951.1)), (Vl (.slice none 0 0)), (Vl (.slice none 0 0))])) (y := (Ag [(Vl (.int .i64 r951.1)), (Sl Kf []), (Sl Kf [])])) (rv_cell_agg' (i := 2) (o := 0) (nn := 3) rfl ⟨rfl, rfl, rfl, rfl⟩ rfl agg43 rfl) (imp_ag ⟨imp_refl, imp_nil, imp_nil, trivial⟩)) (rv_cell' (i := 3) (o := 0) rfl ⟨rfl, rfl, rfl, rfl⟩ rfl flat4) rfl (List.Sublist.cons_cons _ (List.Sublist.cons_cons _ (List.nil_sublist _)))

def spec_SameBox_j5 (k : Nat) (rec1 : Int → Option (Unit ⊕ Unit)) (x6 : Int) (x5 : Bool) : Option (Unit ⊕ Unit) :=
  br x5
    (some (.inl ()))
    (rec1 (iadd .i64 x6 1))
def spec_SameBox_l1s (a0_1 : List Nat) (a1_1 : List Nat) (a0_2 : List Nat) (a1_2 : List Nat) (k : Nat) (rec1 : Int → Option (Unit ⊕ Unit)) (x6 : Int) : Option (Unit ⊕ Unit) :=
  br (decide (x6 < (a0_1.length : Int)))
    ((idx a0_1 x6) >>= fun r47 =>
    (idx a1_1 x6) >>= fun r52 =>
    br (fne r47 r52)
      (spec_SameBox_j5 k rec1 x6 true)
      ((idx a0_2 x6) >>= fun r59 =>
      (idx a1_2 x6) >>= fun r64 =>
      spec_SameBox_j5 k rec1 x6 (fne r59 r64)))
    (some (.inr ()))
def spec_SameBox_l1 (a0_1 : List Nat) (a1_1 : List Nat) (a0_2 : List Nat) (a1_2 : List Nat) : Nat → Int → Option (Unit ⊕ Unit)
  | 0, _ => none
  | k + 1, v => spec_SameBox_l1s a0_1 a1_1 a0_2 a1_2 k (spec_SameBox_l1 a0_1 a1_1 a0_2 a1_2 k) v
def spec_SameBox_j3 (k : Nat) (a0_1 : List Nat) (a1_1 : List Nat) (a0_2 : List Nat) (a1_2 : List Nat) (x3 : Bool) : Option (Bool) :=
  br x3
    (some false)
    ((spec_SameBox_l1 a0_1 a1_1 a0_2 a1_2 k 0) >>= fun y1 => match y1 with
      | (.inl v7) =>
        (some false)
      | (.inr v8) =>
        (some true))
def spec_SameBox_j2 (k : Nat) (a0_1 : List Nat) (a1_1 : List Nat) (a0_2 : List Nat) (a1_2 : List Nat) (x2 : Bool) : Option (Bool) :=
  br x2
    (spec_SameBox_j3 k a0_1 a1_1 a0_2 a1_2 true)
    (spec_SameBox_j3 k a0_1 a1_1 a0_2 a1_2 (!decide ((a0_1.length : Int) = (a0_2.length : Int))))
def spec_SameBox_j1 (k : Nat) (a0_1 : List Nat) (a1_1 : List Nat) (a0_2 : List Nat) (a1_2 : List Nat) (x1 : Bool) : Option (Bool) :=
  br x1
    (spec_SameBox_j2 k a0_1 a1_1 a0_2 a1_2 true)
    (spec_SameBox_j2 k a0_1 a1_1 a0_2 a1_2 (!decide ((a0_2.length : Int) = (a1_2.length : Int))))
def spec_SameBox (k : Nat) (a0_0 : Int) (a0_1 : List Nat) (a0_2 : List Nat) (a1_0 : Int) (a1_1 : List Nat) (a1_2 : List Nat) : Option (Bool) :=
  br (!decide (a0_0 = a1_0))
    (spec_SameBox_j1 k a0_1 a1_1 a0_2 a1_2 true)
    (spec_SameBox_j1 k a0_1 a1_1 a0_2 a1_2 (!decide ((a0_1.length : Int) = (a1_1.length : Int))))

theorem spec_SameBox_sim {k : Nat}  (a0_0 : Int) (a0_1 : List Nat) (a0_2 : List Nat) (a1_0 : Int) (a1_1 : List Nat) (a1_2 : List Nat) {out : Bool} (hp : spec_SameBox k a0_0 a0_1 a0_2 a1_0 a1_1 a1_2 = some out) : Go.Sx.Fn Try.prog 26 [(Ag [(Vl (.int .i64 a0_0)), (Sl Kf a0_1), (Sl Kf a0_2)]), (Ag [(Vl (.int .i64 a1_0)), (Sl Kf a1_1), (Sl Kf a1_2)])] [] (fun w : Unit => (Vl (.bool out))) (fun w => []) := by
  unfold spec_SameBox at hp
  refine fn_of Try.func26 rfl Try.ntmps26 rfl fun E hM => ?_
  refine cx_seq' fun K1 hK1 => ?_
  refine cx_region' ?_
  refine sx_ox' (ox_box' rfl (lv_ag _) rfl rfl) (wt_none' rfl) fun q2 => ?_
  refine sx_ox' (ox_box' rfl (lv_ag _) rfl rfl) (wt_none' rfl) fun q3 => ?_
  refine sx_rd' (rd_assign' rfl) rfl rfl (wt_none' rfl) ?_
  refine sx_nil' ?_
  show TX E K1 _
  refine tx_k' hK1 ?_
  refine cx_seq' fun K2 hK2 => ?_
  refine cx_seq' fun K3 hK3 => ?_
  refine cx_region' ?_
  refine sx_rd' (rd_field0' rfl Try.underlying43 rfl info3 rfl) rfl rfl (wt_none' rfl) ?_
  refine sx_rd' (rd_load' (i := 1) (o := 0) rfl ⟨rfl, rfl, rfl, rfl⟩ rfl flat3) rfl rfl (wt_none' rfl) ?_
  refine sx_rd' (rd_field0' rfl Try.underlying43 rfl info3 rfl) rfl rfl (wt_none' rfl) ?_
  refine sx_rd' (rd_load' (i := 0) (o := 0) rfl ⟨rfl, rfl, rfl, rfl⟩ rfl flat3) rfl rfl (wt_none' rfl) ?_
  refine sx_rd' (rd_bin' rfl rfl eg_int ru_neq) rfl rfl (wt_none' rfl) ?_
  refine sx_rd' (rd_move' rfl) rfl rfl (wt_none' rfl) ?_
  refine sx_cutn' 8 (fun (v1 : Bool) => (⟨69, [], [(2, (Vl (.pointer (some q2)))), (3, (Vl (.pointer (some q3)))), (19, (Vl (.bool v1)))], [⟨.pointer (some q2), [(Vl (.int .i64 a0_0)), (Sl Kf a0_1), (Sl Kf a0_2)], 43, none⟩, ⟨.pointer (some q3), [(Vl (.int .i64 a1_0)), (Sl Kf a1_1), (Sl Kf a1_2)], 43, none⟩]⟩ : St)) (fun (v1 : Bool) => spec_SameBox_j1 k a0_1 a1_1 a0_2 a1_2 v1 = some out) ?_ ?_
  · rintro x1 hp
    replace hp : spec_SameBox_j1 k a0_1 a1_1 a0_2 a1_2 x1 = some out := hp
    unfold spec_SameBox_j1 at hp
    refine sx_rd' (rd_move' rfl) rfl rfl (wt_none' rfl) ?_
    refine sx_cutn' 8 (fun (v2 : Bool) => (⟨69, [], [(2, (Vl (.pointer (some q2)))), (3, (Vl (.pointer (some q3)))), (28, (Vl (.bool v2)))], [⟨.pointer (some q2), [(Vl (.int .i64 a0_0)), (Sl Kf a0_1), (Sl Kf a0_2)], 43, none⟩, ⟨.pointer (some q3), [(Vl (.int .i64 a1_0)), (Sl Kf a1_1), (Sl Kf a1_2)], 43, none⟩]⟩ : St)) (fun (v2 : Bool) => spec_SameBox_j2 k a0_1 a1_1 a0_2 a1_2 v2 = some out) ?_ ?_
    · rintro x2 hp
      replace hp : spec_SameBox_j2 k a0_1 a1_1 a0_2 a1_2 x2 = some out := hp
      unfold spec_SameBox_j2 at hp
      refine sx_rd' (rd_move' rfl) rfl rfl (wt_none' rfl) ?_
      refine sx_cutn' 8 (fun (v3 : Bool) => (⟨69, [], [(2, (Vl (.pointer (some q2)))), (3, (Vl (.pointer (some q3)))), (37, (Vl (.bool v3)))], [⟨.pointer (some q2), [(Vl (.int .i64 a0_0)), (Sl Kf a0_1), (Sl Kf a0_2)], 43, none⟩, ⟨.pointer (some q3), [(Vl (.int .i64 a1_0)), (Sl Kf a1_1), (Sl Kf a1_2)], 43, none⟩]⟩ : St)) (fun (v3 : Bool) => spec_SameBox_j3 k a0_1 a1_1 a0_2 a1_2 v3 = some out) ?_ ?_
      · rintro x3 hp
        replace hp : spec_SameBox_j3 k a0_1 a1_1 a0_2 a1_2 x3 = some out := hp
        unfold spec_SameBox_j3 at hp
        refine sx_nil' ?_
        show TX E K3 _
        refine tx_k' hK3 ?_
        refine cx_cond' rfl (fun h4 => ?_) (fun h4 => ?_)
        · replace hp := (br_t h4).symm.trans hp
          refine cx_seq' fun K7 hK7 => ?_
          refine cx_region' ?_
          refine sx_rd' (rd_assign' rfl) rfl rfl (wt_none' rfl) ?_
          refine sx_nil' ?_
          show TX E K7 _
          refine tx_k' hK7 ?_
          refine cx_retc' ?_
          replace hp := Option.some.inj hp
          subst hp
          refine tx_pick' (L' := [(4, (Vl (.bool false)))]) (H' := []) [] (sub_cons rfl sub_nil) (by decide) pick_nil ?_
          exact tx_ret1' Try.results26 rfl () (rv_tmp' rfl) (List.Sublist.refl _)
        · replace hp := (br_f h4).symm.trans hp
          refine cx_skip' ?_
          show TX E K2 _
          refine tx_k' hK2 ?_
          refine cx_seq' fun K8 hK8 => ?_
          refine cx_seq' fun K9 hK9 => ?_
          refine cx_region' ?_
          refine sx_rd' (rd_field' (off := 1) rfl Try.underlying43 rfl info22 rfl) rfl rfl (wt_none' rfl) ?_
          refine sx_rd' (rd_load' (i := 0) (o := 1) rfl ⟨rfl, rfl, rfl, rfl⟩ rfl flat22) rfl rfl (wt_none' rfl) ?_
          refine sx_rd' (rd_len' rfl Try.underlying22) rfl rfl (wt_none' rfl) ?_
          refine sx_rd' (rd_move' rfl) rfl rfl (wt_none' rfl) ?_
          refine sx_nil' ?_
          show TX E K9 _
          refine tx_k' hK9 ?_
          refine cx_block' ?_
          obtain ⟨y1, hy1, hp⟩ := bind_some hp
          refine cx_loopg' (F := spec_SameBox_l1 a0_1 a1_1 a0_2 a1_2) (G := fun k R v => spec_SameBox_l1s a0_1 a1_1 a0_2 a1_2 k R v) (x := 0) (gh := ()) (fun (v5 : Int) (w5 : Unit) => (⟨69, [], [(2, (Vl (.pointer (some q2)))), (3, (Vl (.pointer (some q3)))), (40, (Vl (.int .i64 (a0_1.length : Int)))), (41, (Vl (.int .i64 v5)))], [⟨.pointer (some q2), [(Vl (.int .i64 a0_0)), (Sl Kf a0_1), (Sl Kf a0_2)], 43, none⟩, ⟨.pointer (some q3), [(Vl (.int .i64 a1_0)), (Sl Kf a1_1), (Sl Kf a1_2)], 43, none⟩]⟩ : St)) (fun (y : Unit ⊕ Unit) => match y with | (.inl v7) => Zg E Exit.ret (fun (w7 : Unit) => (⟨69, [], [(4, (Vl (.bool false)))], []⟩ : St)) | (.inr v8) => Zg E (Exit.exit 0) (fun (w8 : Unit) => (⟨69, [], [], []⟩ : St))) (fun _ => rfl) (fun _ _ => rfl) ?_ hy1 (tx_to' rfl [0, 1] (sub_cons rfl (sub_cons rfl (sub_cons rfl (sub_cons rfl sub_nil)))) (by decide) (pick_cons rfl (pick_cons rfl pick_nil))) ?_
          · clear hp hy1
            clear y1
            intro k rec1 KY1 ih1
            rintro x6 ⟨⟩ y1 hp
            replace hp : spec_SameBox_l1s a0_1 a1_1 a0_2 a1_2 k rec1 x6 = some y1 := hp
            unfold spec_SameBox_l1s at hp
            refine cx_seq' fun K17 hK17 => ?_
            refine cx_region' ?_
            refine sx_rd' (rd_bin' rfl rfl eg_int ru_lss) rfl rfl (wt_none' rfl) ?_
            refine sx_nil' ?_
            show TX E K17 _
            refine tx_k' hK17 ?_
            refine cx_seq' fun K18 hK18 => ?_
            refine cx_cond' rfl (fun h9 => ?_) (fun h9 => ?_)
            · replace hp := (br_t h9).symm.trans hp
              refine cx_skip' ?_
              show TX E K18 _
              refine tx_k' hK18 ?_
              refine cx_seq' fun K19 hK19 => ?_
              refine cx_block' ?_
              refine cx_seq' fun K20 hK20 => ?_
              refine cx_region' ?_
              refine sx_rd' (rd_move' rfl) rfl rfl (wt_none' rfl) ?_
              refine sx_rd' (rd_assign' rfl) rfl rfl (wt_none' rfl) ?_
              refine sx_nil' ?_
              show TX E K20 _
              refine tx_k' hK20 ?_
              refine cx_seq' fun K21 hK21 => ?_
              refine cx_draw' mixed (by kernel_rfl) ?_
              refine qx_rd' (rd_field' (off := 1) rfl Try.underlying43 rfl info22 rfl) rfl rfl (wt_none' rfl) ?_
              refine qx_rd' (rd_load' (i := 0) (o := 1) rfl ⟨rfl, rfl, rfl, rfl⟩ rfl flat22) rfl rfl (wt_none' rfl) ?_
              refine qx_rd' (rd_move' rfl) rfl rfl (wt_none' rfl) ?_
              obtain ⟨r47, hr47, hp⟩ := bind_some hp
              refine qx_rd' (rd_at' (K := Kf) rfl rfl hr47 Try.underlying22 info38) rfl rfl (wt_none' rfl) ?_
              refine qx_rd' (rd_load_pt' rfl rfl flat38) rfl rfl (wt_none' rfl) ?_
              refine qx_rd' (rd_field' (off := 1) rfl Try.underlying43 rfl info22 rfl) rfl rfl (wt_none' rfl) ?_
              refine qx_rd' (rd_load' (i := 1) (o := 1) rfl ⟨rfl, rfl, rfl, rfl⟩ rfl flat22) rfl rfl (wt_none' rfl) ?_
              refine qx_rd' (rd_move' rfl) rfl rfl (wt_none' rfl) ?_
              obtain ⟨r52, hr52, hp⟩ := bind_some hp
              refine qx_rd' (rd_at' (K := Kf) rfl rfl hr52 Try.underlying22 info38) rfl rfl (wt_none' rfl) ?_
              refine qx_rd' (rd_load_pt' rfl rfl flat38) rfl rfl (wt_none' rfl) ?_
              refine qx_rd' (rd_bin' rfl rfl eg_flt ru_fne) rfl rfl (wt_none' rfl) ?_
              refine qx_rd' (rd_move' rfl) rfl rfl (wt_none' rfl) ?_
              refine qx_cutn' 12 (fun (v6 : Bool) => (⟨69, [], [(2, (Vl (.pointer (some q2)))), (3, (Vl (.pointer (some q3)))), (40, (Vl (.int .i64 (a0_1.length : Int)))), (41, (Vl (.int .i64 x6))), (67, (Vl (.bool v6)))], [⟨.pointer (some q2), [(Vl (.int .i64 a0_0)), (Sl Kf a0_1), (Sl Kf a0_2)], 43, none⟩, ⟨.pointer (some q3), [(Vl (.int .i64 a1_0)), (Sl Kf a1_1), (Sl Kf a1_2)], 43, none⟩]⟩ : St)) (fun (v6 : Bool) => spec_SameBox_j5 k rec1 x6 v6 = some y1) ?_ ?_
              · rintro x5 hp
                replace hp : spec_SameBox_j5 k rec1 x6 x5 = some y1 := hp
                unfold spec_SameBox_j5 at hp
                refine qx_nil' ?_
                show TX E K21 _
                refine tx_k' hK21 ?_
                refine cx_cond' rfl (fun h11 => ?_) (fun h11 => ?_)
                · replace hp := (br_t h11).symm.trans hp
                  refine cx_seq' fun K23 hK23 => ?_
                  refine cx_region' ?_
                  refine sx_rd' (rd_assign' rfl) rfl rfl (wt_none' rfl) ?_
                  refine sx_nil' ?_
                  show TX E K23 _
                  refine tx_k' hK23 ?_
                  refine cx_retc' ?_
                  replace hp := Option.some.inj hp
                  subst hp
                  show TX E (Zg E Exit.ret _ Exit.ret) _
                  exact tx_zend' () rfl [] (sub_cons rfl sub_nil) (by decide) pick_nil
                · replace hp := (br_f h11).symm.trans hp
                  refine cx_skip' ?_
                  show TX E K19 _
                  refine tx_k' hK19 ?_
                  refine cx_region' ?_
                  refine sx_rd' (rd_bin' rfl rfl eg_int ru_add) rfl rfl (wt_none' rfl) ?_
                  refine sx_rd' (rd_move' rfl) rfl rfl (wt_none' rfl) ?_
                  refine sx_nil' ?_
                  show TX E (KY1 _) _
                  exact tx_pick' [0, 1] (sub_cons rfl (sub_cons rfl (sub_cons rfl (sub_cons rfl sub_nil)))) (by decide) (pick_cons rfl (pick_cons rfl pick_nil)) (ih1 (iadd .i64 x6 1) () _ hp)
              · intro K22 hK22
                rcases br_cases hp with ⟨h10, hp⟩ | ⟨h10, hp⟩
                · refine qx_skip' rfl rfl (wt_is' (wt_guard' rfl rfl rfl) (beq_tf h10)) ?_
                  refine qx_skip' rfl rfl (wt_is' (wt_guard' rfl rfl rfl) (beq_tf h10)) ?_
                  refine qx_skip' rfl rfl (wt_is' (wt_guard' rfl rfl rfl) (beq_tf h10)) ?_
                  refine qx_skip' rfl rfl (wt_is' (wt_guard' rfl rfl rfl) (beq_tf h10)) ?_
                  refine qx_skip' rfl rfl (wt_is' (wt_guard' rfl rfl rfl) (beq_tf h10)) ?_
                  refine qx_skip' rfl rfl (wt_is' (wt_guard' rfl rfl rfl) (beq_tf h10)) ?_
                  refine qx_skip' rfl rfl (wt_is' (wt_guard' rfl rfl rfl) (beq_tf h10)) ?_
                  refine qx_skip' rfl rfl (wt_is' (wt_guard' rfl rfl rfl) (beq_tf h10)) ?_
                  refine qx_skip' rfl rfl (wt_is' (wt_guard' rfl rfl rfl) (beq_tf h10)) ?_
                  refine qx_skip' rfl rfl (wt_is' (wt_guard' rfl rfl rfl) (beq_tf h10)) ?_
                  refine qx_skip' rfl rfl (wt_is' (wt_guard' rfl rfl rfl) (beq_tf h10)) ?_
                  refine qx_rd' (rd_pick_true' rfl h10 rfl) rfl rfl (wt_none' rfl) ?_
                  refine qx_end' ?_
                  exact tq_pick' [0, 1] (sub_cons rfl (sub_cons rfl (sub_cons rfl (sub_cons rfl (sub_cons rfl sub_nil))))) (by decide) (pick_cons rfl (pick_cons rfl pick_nil)) (hK22 true hp)
                · refine qx_rd' (rd_field' (off := 2) rfl Try.underlying43 rfl info22 rfl) rfl rfl (wt_is' (wt_guard' rfl rfl rfl) (beq_ff h10)) ?_
                  refine qx_rd' (rd_load' (i := 0) (o := 2) rfl ⟨rfl, rfl, rfl, rfl⟩ rfl flat22) rfl rfl (wt_is' (wt_guard' rfl rfl rfl) (beq_ff h10)) ?_
                  refine qx_rd' (rd_move' rfl) rfl rfl (wt_is' (wt_guard' rfl rfl rfl) (beq_ff h10)) ?_
                  obtain ⟨r59, hr59, hp⟩ := bind_some hp
                  refine qx_rd' (rd_at' (K := Kf) rfl rfl hr59 Try.underlying22 info38) rfl rfl (wt_is' (wt_guard' rfl rfl rfl) (beq_ff h10)) ?_
                  refine qx_rd' (rd_load_pt' rfl rfl flat38) rfl rfl (wt_is' (wt_guard' rfl rfl rfl) (beq_ff h10)) ?_
                  refine qx_rd' (rd_field' (off := 2) rfl Try.underlying43 rfl info22 rfl) rfl rfl (wt_is' (wt_guard' rfl rfl rfl) (beq_ff h10)) ?_
                  refine qx_rd' (rd_load' (i := 1) (o := 2) rfl ⟨rfl, rfl, rfl, rfl⟩ rfl flat22) rfl rfl (wt_is' (wt_guard' rfl rfl rfl) (beq_ff h10)) ?_
                  refine qx_rd' (rd_move' rfl) rfl rfl (wt_is' (wt_guard' rfl rfl rfl) (beq_ff h10)) ?_
                  obtain ⟨r64, hr64, hp⟩ := bind_some hp
                  refine qx_rd' (rd_at' (K := Kf) rfl rfl hr64 Try.underlying22 info38) rfl rfl (wt_is' (wt_guard' rfl rfl rfl) (beq_ff h10)) ?_
                  refine qx_rd' (rd_load_pt' rfl rfl flat38) rfl rfl (wt_is' (wt_guard' rfl rfl rfl) (beq_ff h10)) ?_
                  refine qx_rd' (rd_bin' rfl rfl eg_flt ru_fne) rfl rfl (wt_is' (wt_guard' rfl rfl rfl) (beq_ff h10)) ?_
                  refine qx_rd' (rd_pick_false' rfl h10 rfl) rfl rfl (wt_none' rfl) ?_
                  refine qx_end' ?_
                  exact tq_pick' [0, 1] (sub_cons rfl (sub_cons rfl (sub_cons rfl (sub_cons rfl (sub_cons rfl sub_nil))))) (by decide) (pick_cons rfl (pick_cons rfl pick_nil)) (hK22 (fne r59 r64) hp)
            · replace hp := (br_f h9).symm.trans hp
              refine cx_exit' ?_
              replace hp := Option.some.inj hp
              subst hp
              show TX E (Zg E (Exit.exit 0) _ (Exit.exit 0)) _
              exact tx_zend' () rfl [] sub_nil (by decide) pick_nil
          · rcases y1 with v7 | v8
            · dsimp only at hp
              refine zg_out fun w7 => ?_
              replace hp := Option.some.inj hp
              subst hp
              refine tx_pick' (L' := [(4, (Vl (.bool false)))]) (H' := []) [] (sub_cons rfl sub_nil) (by decide) pick_nil ?_
              exact tx_ret1' Try.results26 rfl () (rv_tmp' rfl) (List.Sublist.refl _)
            · dsimp only at hp
              refine zg_out fun w8 => ?_
              show TX E K8 _
              refine tx_k' hK8 ?_
              refine cx_seq' fun K24 hK24 => ?_
              refine cx_region' ?_
              refine sx_rd' (rd_assign' rfl) rfl rfl (wt_none' rfl) ?_
              refine sx_nil' ?_
              show TX E K24 _
              refine tx_k' hK24 ?_
              refine cx_retc' ?_
              replace hp := Option.some.inj hp
              subst hp
              refine tx_pick' (L' := [(4, (Vl (.bool true)))]) (H' := []) [] (sub_cons rfl sub_nil) (by decide) pick_nil ?_
              exact tx_ret1' Try.results26 rfl () (rv_tmp' rfl) (List.Sublist.refl _)
      · intro K6 hK6
        rcases br_cases hp with ⟨h3, hp⟩ | ⟨h3, hp⟩
        · refine sx_skip' rfl rfl (wt_is' (wt_guard' rfl rfl rfl) (beq_tf h3)) ?_
          refine sx_skip' rfl rfl (wt_is' (wt_guard' rfl rfl rfl) (beq_tf h3)) ?_
          refine sx_skip' rfl rfl (wt_is' (wt_guard' rfl rfl rfl) (beq_tf h3)) ?_
          refine sx_skip' rfl rfl (wt_is' (wt_guard' rfl rfl rfl) (beq_tf h3)) ?_
          refine sx_skip' rfl rfl (wt_is' (wt_guard' rfl rfl rfl) (beq_tf h3)) ?_
          refine sx_skip' rfl rfl (wt_is' (wt_guard' rfl rfl rfl) (beq_tf h3)) ?_
          refine sx_skip' rfl rfl (wt_is' (wt_guard' rfl rfl rfl) (beq_tf h3)) ?_
          refine sx_rd' (rd_pick_true' rfl h3 rfl) rfl rfl (wt_none' rfl) ?_
          refine sx_nil' ?_
          show TX E K6 _
          exact tx_pick' [0, 1] (sub_cons rfl (sub_cons rfl (sub_cons rfl sub_nil))) (by decide) (pick_cons rfl (pick_cons rfl pick_nil)) (hK6 true hp)
        · refine sx_rd' (rd_field' (off := 1) rfl Try.underlying43 rfl info22 rfl) rfl rfl (wt_is' (wt_guard' rfl rfl rfl) (beq_ff h3)) ?_
          refine sx_rd' (rd_load' (i := 0) (o := 1) rfl ⟨rfl, rfl, rfl, rfl⟩ rfl flat22) rfl rfl (wt_is' (wt_guard' rfl rfl rfl) (beq_ff h3)) ?_
          refine sx_rd' (rd_len' rfl Try.underlying22) rfl rfl (wt_is' (wt_guard' rfl rfl rfl) (beq_ff h3)) ?_
          refine sx_rd' (rd_field' (off := 2) rfl Try.underlying43 rfl info22 rfl) rfl rfl (wt_is' (wt_guard' rfl rfl rfl) (beq_ff h3)) ?_
          refine sx_rd' (rd_load' (i := 0) (o := 2) rfl ⟨rfl, rfl, rfl, rfl⟩ rfl flat22) rfl rfl (wt_is' (wt_guard' rfl rfl rfl) (beq_ff h3)) ?_
          refine sx_rd' (rd_len' rfl Try.underlying22) rfl rfl (wt_is' (wt_guard' rfl rfl rfl) (beq_ff h3)) ?_
          refine sx_rd' (rd_bin' rfl rfl eg_int ru_neq) rfl rfl (wt_is' (wt_guard' rfl rfl rfl) (beq_ff h3)) ?_
          refine sx_rd' (rd_pick_false' rfl h3 rfl) rfl rfl (wt_none' rfl) ?_
          refine sx_nil' ?_
          show TX E K6 _
          exact tx_pick' [0, 1] (sub_cons rfl (sub_cons rfl (sub_cons rfl sub_nil))) (by decide) (pick_cons rfl (pick_cons rfl pick_nil)) (hK6 (!decide ((a0_1.length : Int) = (a0_2.length : Int))) hp)
    · intro K5 hK5
      rcases br_cases hp with ⟨h2, hp⟩ | ⟨h2, hp⟩
      · refine sx_skip' rfl rfl (wt_is' (wt_guard' rfl rfl rfl) (beq_tf h2)) ?_
        refine sx_skip' rfl rfl (wt_is' (wt_guard' rfl rfl rfl) (beq_tf h2)) ?_
        refine sx_skip' rfl rfl (wt_is' (wt_guard' rfl rfl rfl) (beq_tf h2)) ?_
        refine sx_skip' rfl rfl (wt_is' (wt_guard' rfl rfl rfl) (beq_tf h2)) ?_
        refine sx_skip' rfl rfl (wt_is' (wt_guard' rfl rfl rfl) (beq_tf h2)) ?_
        refine sx_skip' rfl rfl (wt_is' (wt_guard' rfl rfl rfl) (beq_tf h2)) ?_
        refine sx_skip' rfl rfl (wt_is' (wt_guard' rfl rfl rfl) (beq_tf h2)) ?_
        refine sx_rd' (rd_pick_true' rfl h2 rfl) rfl rfl (wt_none' rfl) ?_
        refine sx_nil' ?_
        show TX E K5 _
        exact tx_pick' [0, 1] (sub_cons rfl (sub_cons rfl (sub_cons rfl sub_nil))) (by decide) (pick_cons rfl (pick_cons rfl pick_nil)) (hK5 true hp)
      · refine sx_rd' (rd_field' (off := 2) rfl Try.underlying43 rfl info22 rfl) rfl rfl (wt_is' (wt_guard' rfl rfl rfl) (beq_ff h2)) ?_
        refine sx_rd' (rd_load' (i := 0) (o := 2) rfl ⟨rfl, rfl, rfl, rfl⟩ rfl flat22) rfl rfl (wt_is' (wt_guard' rfl rfl rfl) (beq_ff h2)) ?_
        refine sx_rd' (rd_len' rfl Try.underlying22) rfl rfl (wt_is' (wt_guard' rfl rfl rfl) (beq_ff h2)) ?_
        refine sx_rd' (rd_field' (off := 2) rfl Try.underlying43 rfl info22 rfl) rfl rfl (wt_is' (wt_guard' rfl rfl rfl) (beq_ff h2)) ?_
        refine sx_rd' (rd_load' (i := 1) (o := 2) rfl ⟨rfl, rfl, rfl, rfl⟩ rfl flat22) rfl rfl (wt_is' (wt_guard' rfl rfl rfl) (beq_ff h2)) ?_
        refine sx_rd' (rd_len' rfl Try.underlying22) rfl rfl (wt_is' (wt_guard' rfl rfl rfl) (beq_ff h2)) ?_
        refine sx_rd' (rd_bin' rfl rfl eg_int ru_neq) rfl rfl (wt_is' (wt_guard' rfl rfl rfl) (beq_ff h2)) ?_
        refine sx_rd' (rd_pick_false' rfl h2 rfl) rfl rfl (wt_none' rfl) ?_
        refine sx_nil' ?_
        show TX E K5 _
        exact tx_pick' [0, 1] (sub_cons rfl (sub_cons rfl (sub_cons rfl sub_nil))) (by decide) (pick_cons rfl (pick_cons rfl pick_nil)) (hK5 (!decide ((a0_2.length : Int) = (a1_2.length : Int))) hp)
  · intro K4 hK4
    rcases br_cases hp with ⟨h1, hp⟩ | ⟨h1, hp⟩
    · refine sx_skip' rfl rfl (wt_is' (wt_guard' rfl rfl rfl) (beq_tf h1)) ?_
      refine sx_skip' rfl rfl (wt_is' (wt_guard' rfl rfl rfl) (beq_tf h1)) ?_
      refine sx_skip' rfl rfl (wt_is' (wt_guard' rfl rfl rfl) (beq_tf h1)) ?_
      refine sx_skip' rfl rfl (wt_is' (wt_guard' rfl rfl rfl) (beq_tf h1)) ?_
      refine sx_skip' rfl rfl (wt_is' (wt_guard' rfl rfl rfl) (beq_tf h1)) ?_
      refine sx_skip' rfl rfl (wt_is' (wt_guard' rfl rfl rfl) (beq_tf h1)) ?_
      refine sx_skip' rfl rfl (wt_is' (wt_guard' rfl rfl rfl) (beq_tf h1)) ?_
      refine sx_rd' (rd_pick_true' rfl h1 rfl) rfl rfl (wt_none' rfl) ?_
      refine sx_nil' ?_
      show TX E K4 _
      exact tx_pick' [1, 0] (sub_cons rfl (sub_cons rfl (sub_cons rfl sub_nil))) (by decide) (pick_cons rfl (pick_cons rfl pick_nil)) (hK4 true hp)
    · refine sx_rd' (rd_field' (off := 1) rfl Try.underlying43 rfl info22 rfl) rfl rfl (wt_is' (wt_guard' rfl rfl rfl) (beq_ff h1)) ?_
      refine sx_rd' (rd_load' (i := 1) (o := 1) rfl ⟨rfl, rfl, rfl, rfl⟩ rfl flat22) rfl rfl (wt_is' (wt_guard' rfl rfl rfl) (beq_ff h1)) ?_
      refine sx_rd' (rd_len' rfl Try.underlying22) rfl rfl (wt_is' (wt_guard' rfl rfl rfl) (beq_ff h1)) ?_
      refine sx_rd' (rd_field' (off := 1) rfl Try.underlying43 rfl info22 rfl) rfl rfl (wt_is' (wt_guard' rfl rfl rfl) (beq_ff h1)) ?_
      refine sx_rd' (rd_load' (i := 0) (o := 1) rfl ⟨rfl, rfl, rfl, rfl⟩ rfl flat22) rfl rfl (wt_is' (wt_guard' rfl rfl rfl) (beq_ff h1)) ?_
      refine sx_rd' (rd_len' rfl Try.underlying22) rfl rfl (wt_is' (wt_guard' rfl rfl rfl) (beq_ff h1)) ?_
      refine sx_rd' (rd_bin' rfl rfl eg_int ru_neq) rfl rfl (wt_is' (wt_guard' rfl rfl rfl) (beq_ff h1)) ?_
      refine sx_rd' (rd_pick_false' rfl h1 rfl) rfl rfl (wt_none' rfl) ?_
      refine sx_nil' ?_
      show TX E K4 _
      exact tx_pick' [1, 0] (sub_cons rfl (sub_cons rfl (sub_cons rfl sub_nil))) (by decide) (pick_cons rfl (pick_cons rfl pick_nil)) (hK4 (!decide ((a0_1.length : Int) = (a1_1.length : Int))) hp)

def laws_FnBoxSet_j6 (k : Nat) (x6 : Bool) : Option (Bool) :=
  some x6
def laws_FnBoxSet_j8 (k : Nat) (x8 : Bool) : Option (Bool) :=
  some x8
def laws_FnBoxSet_j7 (k : Nat) (a1 : List Nat) (a0_1 : List Nat) (r54 : Int × (List Nat) × (List Nat) × Bool) (a0_0 : Int) (x7 : Bool) : Option (Bool) :=
  br x7
    ((cut a1 0 (a0_1.length : Int)) >>= fun r85 =>
    (cut a1 (a0_1.length : Int) (a1.length : Int)) >>= fun r88 =>
    (spec_SameBox k r54.1 r54.2.1 r54.2.2.1 a0_0 r85 r88) >>= fun r90 =>
    laws_FnBoxSet_j8 k r90)
    (laws_FnBoxSet_j8 k false)
def laws_FnBoxSet_j5 (k : Nat) (a0_0 : Int) (a0_1 : List Nat) (a0_2 : List Nat) (a1 : List Nat) (x5 : Bool) : Option (Bool) :=
  br x5
    (some true)
    ((impl_BoxSet k a0_0 a0_1 a0_2 a1) >>= fun r54 =>
    (impl_BoxSet_v2 k 1 ([0, 0]) ([0, 0]) ([4607182418800017408, 4611686018427387904, 4613937818241073152, 4616189618054758400])) >>= fun r62 =>
    br (!decide ((a1.length : Int) = (imul .i64 2 (a0_1.length : Int))))
      (br r62.2.2.2.2.2
        (laws_FnBoxSet_j6 k (!r54.2.2.2))
        (laws_FnBoxSet_j6 k false))
      (br r62.2.2.2.2.2
        (laws_FnBoxSet_j7 k a1 a0_1 r54 a0_0 r54.2.2.2)
        (laws_FnBoxSet_j7 k a1 a0_1 r54 a0_0 false)))
def laws_FnBoxSet_j4 (k : Nat) (a0_0 : Int) (a0_1 : List Nat) (a0_2 : List Nat) (a1 : List Nat) (x4 : Bool) : Option (Bool) :=
  br x4
    (laws_FnBoxSet_j5 k a0_0 a0_1 a0_2 a1 true)
    ((laws_gEach k 0 0 0 a1) >>= fun r48 =>
    laws_FnBoxSet_j5 k a0_0 a0_1 a0_2 a1 (!r48))
def laws_FnBoxSet_j3 (k : Nat) (a0_0 : Int) (a0_1 : List Nat) (a0_2 : List Nat) (a1 : List Nat) (x3 : Bool) : Option (Bool) :=
  laws_FnBoxSet_j4 k a0_0 a0_1 a0_2 a1 x3
def laws_FnBoxSet_j2 (k : Nat) (a0_0 : Int) (a0_1 : List Nat) (a0_2 : List Nat) (a1 : List Nat) (x2 : Bool) : Option (Bool) :=
  br x2
    (laws_FnBoxSet_j4 k a0_0 a0_1 a0_2 a1 true)
    (br (!decide ((a1.length : Int) = (imul .i64 2 (a0_1.length : Int))))
      (laws_FnBoxSet_j3 k a0_0 a0_1 a0_2 a1 (!decide ((a1.length : Int) = (isub .i64 (imul .i64 2 (a0_1.length : Int)) 1))))
      (laws_FnBoxSet_j3 k a0_0 a0_1 a0_2 a1 false))
def laws_FnBoxSet_j1 (k : Nat) (a0_0 : Int) (a0_1 : List Nat) (a0_2 : List Nat) (a1 : List Nat) (x1 : Bool) : Option (Bool) :=
  br x1
    (some true)
    ((laws_bBox k ([(a0_0, a0_1, a0_2)])) >>= fun r23 =>
    br (!r23)
      (laws_FnBoxSet_j2 k a0_0 a0_1 a0_2 a1 true)
      (laws_FnBoxSet_j2 k a0_0 a0_1 a0_2 a1 (decide (a0_0 < 1))))
def laws_FnBoxSet (k : Nat) (a0_0 : Int) (a0_1 : List Nat) (a0_2 : List Nat) (a1 : List Nat) : Option (Bool) :=
  (laws_zzFits1 k a0_0 a0_1 a0_2) >>= fun r11 =>
  br (!r11)
    (laws_FnBoxSet_j1 k a0_0 a0_1 a0_2 a1 true)
    (laws_FnBoxSet_j1 k a0_0 a0_1 a0_2 a1 (decide (2147483647 < (a1.length : Int))))

theorem laws_FnBoxSet_sim {k : Nat}  (a0_0 : Int) (a0_1 : List Nat) (a0_2 : List Nat) (a1 : List Nat) {out : Bool} (hp : laws_FnBoxSet k a0_0 a0_1 a0_2 a1 = some out) : Go.Sx.Fn Try.prog 5 [(Ag [(Vl (.int .i64 a0_0)), (Sl Kf a0_1), (Sl Kf a0_2)]), (Sl Kf a1)] [] (fun w : Unit => (Vl (.bool out))) (fun w => []) := by
  unfold laws_FnBoxSet at hp
  refine fn_of Try.func5 rfl Try.ntmps5 rfl fun E hM => ?_
  refine cx_seq' fun K1 hK1 => ?_
  refine cx_region' ?_
  refine sx_ox' (ox_box' rfl (lv_ag _) rfl rfl) (wt_none' rfl) fun q2 => ?_
  refine sx_rd' (rd_assign' rfl) rfl rfl (wt_none' rfl) ?_
  refine sx_nil' ?_
  show TX E K1 _
  refine tx_k' hK1 ?_
  refine cx_seq' fun K2 hK2 => ?_
  refine cx_seq' fun K3 hK3 => ?_
  refine cx_region' ?_
  refine sx_rd' (rd_load_agg' (i := 0) (o := 0) (nn := 3) rfl ⟨rfl, rfl, rfl, rfl⟩ rfl agg43 (l' := [(Vl (.int .i64 a0_0)), (Sl Kf a0_1), (Sl Kf a0_2)]) rfl) rfl rfl (wt_none' rfl) ?_
  obtain ⟨r11, hr11, hp⟩ := bind_some hp
  refine sx_ox' (ox_calln' (ent_fn' Try.func21 isn21 rfl rfl) (laws_zzFits1_sim _ _ _ hr11 : Go.Sx.Fn Try.prog 21 [(Ag [(Vl (.int .i64 a0_0)), (Sl Kf a0_1), (Sl Kf a0_2)])] [] (fun x : Unit => (Vl (.bool r11))) (fun x => [])) (Hn := fun x : Unit => [⟨.pointer (some q2), [(Vl (.int .i64 a0_0)), (Sl Kf a0_1), (Sl Kf a0_2)], 43, none⟩]) (fun _ => rfl) rfl rfl) (wt_none' rfl) fun ⟨⟩ => ?_
  refine sx_rd' (rd_un' rfl ru_not) rfl rfl (wt_none' rfl) ?_
  refine sx_rd' (rd_move' rfl) rfl rfl (wt_none' rfl) ?_
  refine sx_cutn' 4 (fun (v1 : Bool) => (⟨92, [], [(1, (Sl Kf a1)), (2, (Vl (.pointer (some q2)))), (17, (Vl (.bool v1)))], [⟨.pointer (some q2), [(Vl (.int .i64 a0_0)), (Sl Kf a0_1), (Sl Kf a0_2)], 43, none⟩]⟩ : St)) (fun (v1 : Bool) => laws_FnBoxSet_j1 k a0_0 a0_1 a0_2 a1 v1 = some out) ?_ ?_
  · rintro x1 hp
    replace hp : laws_FnBoxSet_j1 k a0_0 a0_1 a0_2 a1 x1 = some out := hp
    unfold laws_FnBoxSet_j1 at hp
    refine sx_nil' ?_
    show TX E K3 _
    refine tx_k' hK3 ?_
    refine cx_cond' rfl (fun h2 => ?_) (fun h2 => ?_)
    · replace hp := (br_t h2).symm.trans hp
      refine cx_seq' fun K5 hK5 => ?_
      refine cx_region' ?_
      refine sx_rd' (rd_assign' rfl) rfl rfl (wt_none' rfl) ?_
      refine sx_nil' ?_
      show TX E K5 _
      refine tx_k' hK5 ?_
      refine cx_retc' ?_
      replace hp := Option.some.inj hp
      subst hp
      refine tx_pick' (L' := [(4, (Vl (.bool true)))]) (H' := []) [] (sub_cons rfl sub_nil) (by decide) pick_nil ?_
      exact tx_ret1' Try.results5 rfl () (rv_tmp' rfl) (List.Sublist.refl _)
    · replace hp := (br_f h2).symm.trans hp
      refine cx_skip' ?_
      show TX E K2 _
      refine tx_k' hK2 ?_
      refine cx_seq' fun K6 hK6 => ?_
      refine cx_region' ?_
      refine sx_rd' (rd_field' (off := 1) rfl Try.underlying43 rfl info22 rfl) rfl rfl (wt_none' rfl) ?_
      refine sx_rd' (rd_load' (i := 0) (o := 1) rfl ⟨rfl, rfl, rfl, rfl⟩ rfl flat22) rfl rfl (wt_none' rfl) ?_
      refine sx_rd' (rd_len' rfl Try.underlying22) rfl rfl (wt_none' rfl) ?_
      refine sx_rd' (rd_assign' rfl) rfl rfl (wt_none' rfl) ?_
      refine sx_nil' ?_
      show TX E K6 _
      refine tx_k' hK6 ?_
      refine cx_seq' fun K7 hK7 => ?_
      refine cx_seq' fun K8 hK8 => ?_
      refine cx_region' ?_
      refine sx_rd' (rd_load_agg' (i := 0) (o := 0) (nn := 3) rfl ⟨rfl, rfl, rfl, rfl⟩ rfl agg43 (l' := [(Vl (.int .i64 a0_0)), (Sl Kf a0_1), (Sl Kf a0_2)]) rfl) rfl rfl (wt_none' rfl) ?_
      refine sx_ox' (ox_rowlit' (K := KT43) (xs := [(a0_0, a0_1, a0_2)]) (qs := [(0, [(Vl (.int .i64 a0_0)), (Sl Kf a0_1), (Sl Kf a0_2)])]) ⟨rfl, ⟨_, rfl, (lv_ag _)⟩, trivial⟩ Try.underlying119 info43 rfl rfl rfl rfl rfl (by kernel_rfl) rfl rfl rfl) (wt_none' rfl) fun g22 => ?_
      obtain ⟨r23, hr23, hp⟩ := bind_some hp
      refine sx_ox' (ox_brw' (frz_row 0 [(22, (Vl (Vs g22)), (Sl KT43 ([(a0_0, a0_1, a0_2)])))] (K := KT43) (xs := [(a0_0, a0_1, a0_2)]) (by decide) rfl ⟨⟨rfl, frz_it⟩, trivial⟩ (H' := [⟨.pointer (some q2), [(Vl (.int .i64 a0_0)), (Sl Kf a0_1), (Sl Kf a0_2)], 43, none⟩]) frzH_refl) (ent_fn' Try.func22 isn22 rfl rfl) (laws_bBox_sim _ hr23 : Go.Sx.Fn Try.prog 22 [(Sl KT43 ([(a0_0, a0_1, a0_2)]))] [] (fun x : Unit => (Vl (.bool r23))) (fun x => [])) pu_vl rfl rfl) (wt_none' rfl) fun ⟨⟩ => ?_
      refine sx_rd' (rd_un' rfl ru_not) rfl rfl (wt_none' rfl) ?_
      refine sx_rd' (rd_move' rfl) rfl rfl (wt_none' rfl) ?_
      refine sx_cutn' 4 (fun (v2 : Bool) => (⟨92, [], [(1, (Sl Kf a1)), (2, (Vl (.pointer (some q2)))), (5, (Vl (.int .i64 (a0_1.length : Int)))), (29, (Vl (.bool v2)))], [⟨.pointer (some q2), [(Vl (.int .i64 a0_0)), (Sl Kf a0_1), (Sl Kf a0_2)], 43, none⟩]⟩ : St)) (fun (v2 : Bool) => laws_FnBoxSet_j2 k a0_0 a0_1 a0_2 a1 v2 = some out) ?_ ?_
      · rintro x2 hp
        replace hp : laws_FnBoxSet_j2 k a0_0 a0_1 a0_2 a1 x2 = some out := hp
        unfold laws_FnBoxSet_j2 at hp
        refine sx_rd' (rd_move' rfl) rfl rfl (wt_none' rfl) ?_
        refine sx_cutn' 14 (fun (v4 : Bool) => (⟨92, [], [(1, (Sl Kf a1)), (2, (Vl (.pointer (some q2)))), (5, (Vl (.int .i64 (a0_1.length : Int)))), (44, (Vl (.bool v4)))], [⟨.pointer (some q2), [(Vl (.int .i64 a0_0)), (Sl Kf a0_1), (Sl Kf a0_2)], 43, none⟩]⟩ : St)) (fun (v4 : Bool) => laws_FnBoxSet_j4 k a0_0 a0_1 a0_2 a1 v4 = some out) ?_ ?_
        · rintro x4 hp
          replace hp : laws_FnBoxSet_j4 k a0_0 a0_1 a0_2 a1 x4 = some out := hp
          unfold laws_FnBoxSet_j4 at hp
          refine sx_rd' (rd_move' rfl) rfl rfl (wt_none' rfl) ?_
          refine sx_cutn' 5 (fun (v5 : Bool) => (⟨92, [], [(1, (Sl Kf a1)), (2, (Vl (.pointer (some q2)))), (5, (Vl (.int .i64 (a0_1.length : Int)))), (50, (Vl (.bool v5)))], [⟨.pointer (some q2), [(Vl (.int .i64 a0_0)), (Sl Kf a0_1), (Sl Kf a0_2)], 43, none⟩]⟩ : St)) (fun (v5 : Bool) => laws_FnBoxSet_j5 k a0_0 a0_1 a0_2 a1 v5 = some out) ?_ ?_
          · rintro x5 hp
            replace hp : laws_FnBoxSet_j5 k a0_0 a0_1 a0_2 a1 x5 = some out := hp
            unfold laws_FnBoxSet_j5 at hp
            refine sx_nil' ?_
            show TX E K8 _
            refine tx_k' hK8 ?_
            refine cx_cond' rfl (fun h7 => ?_) (fun h7 => ?_)
            · replace hp := (br_t h7).symm.trans hp
              refine cx_seq' fun K13 hK13 => ?_
              refine cx_region' ?_
              refine sx_rd' (rd_assign' rfl) rfl rfl (wt_none' rfl) ?_
              refine sx_nil' ?_
              show TX E K13 _
              refine tx_k' hK13 ?_
              refine cx_retc' ?_
              replace hp := Option.some.inj hp
              subst hp
              refine tx_pick' (L' := [(4, (Vl (.bool true)))]) (H' := []) [] (sub_cons rfl sub_nil) (by decide) pick_nil ?_
              exact tx_ret1' Try.results5 rfl () (rv_tmp' rfl) (List.Sublist.refl _)
            · replace hp := (br_f h7).symm.trans hp
              refine cx_skip' ?_
              show TX E K7 _
              refine tx_k' hK7 ?_
              refine cx_seq' fun K14 hK14 => ?_
              refine cx_region' ?_
              refine sx_rd' (rd_load_agg' (i := 0) (o := 0) (nn := 3) rfl ⟨rfl, rfl, rfl, rfl⟩ rfl agg43 (l' := [(Vl (.int .i64 a0_0)), (Sl Kf a0_1), (Sl Kf a0_2)]) rfl) rfl rfl (wt_none' rfl) ?_
              refine sx_rd' (rd_move' rfl) rfl rfl (wt_none' rfl) ?_
              obtain ⟨r54, hr54, hp⟩ := bind_some hp
              refine sx_ox' (ox_calln' (ent_fn' Try.func25 isn25 rfl rfl) (impl_BoxSet_sim _ _ _ _ hr54 : Go.Sx.Fn Try.prog 25 [(Ag [(Vl (.int .i64 a0_0)), (Sl Kf a0_1), (Sl Kf a0_2)]), (Sl Kf a1)] [] (fun x : Unit => (Tu [(Ag [(Vl (.int .i64 r54.1)), (Sl Kf r54.2.1), (Sl Kf r54.2.2.1)]), (Vl (.bool r54.2.2.2))])) (fun x => [])) (Hn := fun x : Unit => [⟨.pointer (some q2), [(Vl (.int .i64 a0_0)), (Sl Kf a0_1), (Sl Kf a0_2)], 43, none⟩]) (fun _ => rfl) rfl rfl) (wt_none' rfl) fun ⟨⟩ => ?_
              refine sx_rd' (rd_move' rfl) rfl rfl (wt_none' rfl) ?_
              refine sx_rd' (rd_extract' rfl rfl) rfl rfl (wt_none' rfl) ?_
              refine sx_rd' (rd_extract' rfl rfl) rfl rfl (wt_none' rfl) ?_
              refine sx_ox' (ox_alloc' info43 rfl rfl rfl rfl (l := [(Vl (.int .i64 0)), (Vl (.slice none 0 0)), (Vl (.slice none 0 0))]) rfl) (wt_none' rfl) fun q6 => ?_
              refine sx_ox' (ox_store' (i := 0) (o := 0) rfl rfl (lv_ag _) ⟨rfl, rfl, rfl, rfl⟩ rfl info43 rfl (H' := [⟨.pointer (some q6), [(Vl (.int .i64 r54.1)), (Sl Kf r54.2.1), (Sl Kf r54.2.2.1)], 43, none⟩, ⟨.pointer (some q2), [(Vl (.int .i64 a0_0)), (Sl Kf a0_1), (Sl Kf a0_2)], 43, none⟩]) rfl) (wt_none' rfl) fun _ => ?_
              refine sx_rd' (rd_assign' rfl) rfl rfl (wt_none' rfl) ?_
              refine sx_nil' ?_
              show TX E K14 _
              refine tx_k' hK14 ?_
              refine cx_seq' fun K15 hK15 => ?_
              refine cx_region' ?_
              refine sx_ox' (ox_rowlit' (K := Kf) (xs := [0, 0]) (qs := [(0, [(Vl (.float .f64 0))]), (1, [(Vl (.float .f64 0))])]) ⟨rfl, ⟨_, rfl, (lv_vl rfl rfl)⟩, ⟨rfl, ⟨_, rfl, (lv_vl rfl rfl)⟩, trivial⟩⟩ Try.underlying22 info38 rfl rfl rfl rfl rfl (by kernel_rfl) rfl rfl rfl) (wt_none' rfl) fun g58 => ?_
              refine sx_ox' (ox_rowlit' (K := Kf) (xs := [0, 0]) (qs := [(0, [(Vl (.float .f64 0))]), (1, [(Vl (.float .f64 0))])]) ⟨rfl, ⟨_, rfl, (lv_vl rfl rfl)⟩, ⟨rfl, ⟨_, rfl, (lv_vl rfl rfl)⟩, trivial⟩⟩ Try.underlying22 info38 rfl rfl rfl rfl rfl (by kernel_rfl) rfl rfl rfl) (wt_none' rfl) fun g59 => ?_
              refine sx_rd' (rd_build' (pls := [(0, 1), (1, 1), (2, 1)]) (qs := [(0, [(Vl (.int .i64 1))]), (1, [(Vl (Vs g58))]), (2, [(Vl (Vs g59))])]) (r := [(Vl (.int .i64 1)), (Vl (Vs g58)), (Vl (Vs g59))]) ⟨rfl, ⟨_, rfl, (lv_vl rfl rfl)⟩, ⟨rfl, ⟨_, rfl, (lv_vl rfl rfl)⟩, ⟨rfl, ⟨_, rfl, (lv_vl rfl rfl)⟩, trivial⟩⟩⟩ Try.underlying43 has43 places43 info43 rfl rfl rfl) rfl rfl (wt_none' rfl) ?_
              refine sx_ox' (ox_rowlit' (K := Kf) (xs := [4607182418800017408, 4611686018427387904, 4613937818241073152, 4616189618054758400]) (qs := [(0, [(Vl (.float .f64 4607182418800017408))]), (1, [(Vl (.float .f64 4611686018427387904))]), (2, [(Vl (.float .f64 4613937818241073152))]), (3, [(Vl (.float .f64 4616189618054758400))])]) ⟨rfl, ⟨_, rfl, (lv_vl rfl rfl)⟩, ⟨rfl, ⟨_, rfl, (lv_vl rfl rfl)⟩, ⟨rfl, ⟨_, rfl, (lv_vl rfl rfl)⟩, ⟨rfl, ⟨_, rfl, (lv_vl rfl rfl)⟩, trivial⟩⟩⟩⟩ Try.underlying22 info38 rfl rfl rfl rfl rfl (by kernel_rfl) rfl rfl rfl) (wt_none' rfl) fun g61 => ?_
              refine tx_fz' (frz_row 0 [(61, (Vl (Vs g61)), (Sl Kf ([4607182418800017408, 4611686018427387904, 4613937818241073152, 4616189618054758400])))] (K := Kf) (xs := [4607182418800017408, 4611686018427387904, 4613937818241073152, 4616189618054758400]) (by decide) rfl ⟨⟨rfl, frz_it⟩, trivial⟩ (H' := [(Rw Kf 38 (Vs g59) ([0, 0])), (Rw Kf 38 (Vs g58) ([0, 0])), ⟨.pointer (some q6), [(Vl (.int .i64 r54.1)), (Sl Kf r54.2.1), (Sl Kf r54.2.2.1)], 43, none⟩, ⟨.pointer (some q2), [(Vl (.int .i64 a0_0)), (Sl Kf a0_1), (Sl Kf a0_2)], 43, none⟩]) frzH_refl) ?_
              obtain ⟨r62, hr62, hp⟩ := bind_some hp
              refine sx_ox' (ox_callg' (ent_fn' Try.func25 isn25 rfl rfl) (impl_BoxSet_v2_sim _ _ _ _ hr62 : Go.Sx.Fn Try.prog 25 [(Ag [(Vl (.int .i64 1)), (Vl (Vs g58)), (Vl (Vs g59))]), (Sl Kf ([4607182418800017408, 4611686018427387904, 4613937818241073152, 4616189618054758400]))] [(Rw Kf 38 (Vs g58) ([0, 0])), (Rw Kf 38 (Vs g59) ([0, 0]))] (fun x : Unit => (Tu [(Ag [(Vl (.int .i64 r62.2.2.1)), (Sl Kf r62.2.2.2.1), (Sl Kf r62.2.2.2.2.1)]), (Vl (.bool r62.2.2.2.2.2))])) (fun x => [(Rw Kf 38 (Vs g58) r62.1), (Rw Kf 38 (Vs g59) r62.2.1)])) [1, 0] [2, 3] (by decide) (pick_cons rfl (pick_cons rfl pick_nil)) (pick_cons rfl (pick_cons rfl pick_nil)) (Hn := fun x : Unit => [(Rw Kf 38 (Vs g58) r62.1), (Rw Kf 38 (Vs g59) r62.2.1), ⟨.pointer (some q6), [(Vl (.int .i64 r54.1)), (Sl Kf r54.2.1), (Sl Kf r54.2.2.1)], 43, none⟩, ⟨.pointer (some q2), [(Vl (.int .i64 a0_0)), (Sl Kf a0_1), (Sl Kf a0_2)], 43, none⟩]) (fun _ => rfl) rfl rfl) (wt_none' rfl) fun ⟨⟩ => ?_
              refine sx_rd' (rd_move' rfl) rfl rfl (wt_none' rfl) ?_
              refine sx_rd' (rd_extract' rfl rfl) rfl rfl (wt_none' rfl) ?_
              refine sx_rd' (rd_extract' rfl rfl) rfl rfl (wt_none' rfl) ?_
              refine sx_ox' (ox_alloc' info43 rfl rfl rfl rfl (l := [(Vl (.int .i64 0)), (Vl (.slice none 0 0)), (Vl (.slice none 0 0))]) rfl) (wt_none' rfl) fun q8 => ?_
              refine sx_ox' (ox_store' (i := 0) (o := 0) rfl rfl (lv_ag _) ⟨rfl, rfl, rfl, rfl⟩ rfl info43 rfl (H' := [⟨.pointer (some q8), [(Vl (.int .i64 r62.2.2.1)), (Sl Kf r62.2.2.2.1), (Sl Kf r62.2.2.2.2.1)], 43, none⟩, (Rw Kf 38 (Vs g58) r62.1), (Rw Kf 38 (Vs g59) r62.2.1), ⟨.pointer (some q6), [(Vl (.int .i64 r54.1)), (Sl Kf r54.2.1), (Sl Kf r54.2.2.1)], 43, none⟩, ⟨.pointer (some q2), [(Vl (.int .i64 a0_0)), (Sl Kf a0_1), (Sl Kf a0_2)], 43, none⟩]) rfl) (wt_none' rfl) fun _ => ?_
              refine sx_rd' (rd_assign' rfl) rfl rfl (wt_none' rfl) ?_
              refine sx_nil' ?_
              show TX E K15 _
              refine tx_k' hK15 ?_
              refine cx_seq' fun K16 hK16 => ?_
              refine cx_seq' fun K17 hK17 => ?_
              refine cx_region' ?_
              refine sx_rd' (rd_move' rfl) rfl rfl (wt_none' rfl) ?_
              refine sx_rd' (rd_len' rfl Try.underlying22) rfl rfl (wt_none' rfl) ?_
              refine sx_rd' (rd_move' rfl) rfl rfl (wt_none' rfl) ?_
              refine sx_rd' (rd_bin' rfl rfl eg_int ru_mul) rfl rfl (wt_none' rfl) ?_
              refine sx_rd' (rd_bin' rfl rfl eg_int ru_neq) rfl rfl (wt_none' rfl) ?_
              refine sx_nil' ?_
              show TX E K17 _
              refine tx_k' hK17 ?_
              refine cx_cond' rfl (fun h8 => ?_) (fun h8 => ?_)
              · replace hp := (br_t h8).symm.trans hp
                refine cx_seq' fun K18 hK18 => ?_
                refine cx_region' ?_
                refine sx_rd' (rd_move' rfl) rfl rfl (wt_none' rfl) ?_
                refine sx_rd' (rd_move' rfl) rfl rfl (wt_none' rfl) ?_
                refine sx_cutn' 3 (fun (v6 : Bool) => (⟨92, [], [(74, (Vl (.bool v6)))], []⟩ : St)) (fun (v6 : Bool) => laws_FnBoxSet_j6 k v6 = some out) ?_ ?_
                · rintro x6 hp
                  replace hp : laws_FnBoxSet_j6 k x6 = some out := hp
                  unfold laws_FnBoxSet_j6 at hp
                  refine sx_rd' (rd_assign' rfl) rfl rfl (wt_none' rfl) ?_
                  refine sx_nil' ?_
                  show TX E K18 _
                  refine tx_k' hK18 ?_
                  refine cx_retc' ?_
                  replace hp := Option.some.inj hp
                  subst hp
                  refine tx_pick' (L' := [(4, (Vl (.bool x6)))]) (H' := []) [] (sub_cons rfl sub_nil) (by decide) pick_nil ?_
                  exact tx_ret1' Try.results5 rfl () (rv_tmp' rfl) (List.Sublist.refl _)
                · intro K19 hK19
                  rcases br_cases hp with ⟨h9, hp⟩ | ⟨h9, hp⟩
                  · refine sx_rd' (rd_move' rfl) rfl rfl (wt_is' (wt_guard' rfl rfl rfl) (beq_tt h9)) ?_
                    refine sx_rd' (rd_un' rfl ru_not) rfl rfl (wt_is' (wt_guard' rfl rfl rfl) (beq_tt h9)) ?_
                    refine sx_rd' (rd_pick_true' rfl h9 rfl) rfl rfl (wt_none' rfl) ?_
                    refine sx_nil' ?_
                    show TX E K19 _
                    exact tx_pick' [] (sub_cons rfl sub_nil) (by decide) pick_nil (hK19 (!r54.2.2.2) hp)
                  · refine sx_skip' rfl rfl (wt_is' (wt_guard' rfl rfl rfl) (beq_ft h9)) ?_
                    refine sx_skip' rfl rfl (wt_is' (wt_guard' rfl rfl rfl) (beq_ft h9)) ?_
                    refine sx_rd' (rd_pick_false' rfl h9 rfl) rfl rfl (wt_none' rfl) ?_
                    refine sx_nil' ?_
                    show TX E K19 _
                    exact tx_pick' [] (sub_cons rfl sub_nil) (by decide) pick_nil (hK19 false hp)
              · replace hp := (br_f h8).symm.trans hp
                refine cx_skip' ?_
                show TX E K16 _
                refine tx_k' hK16 ?_
                refine cx_seq' fun K20 hK20 => ?_
                refine cx_plan' [] [] [(0, 1), (1, 1), (2, 1), (3, 1), (4, 1), (5, 1), (6, 1), (7, 1), (8, 1), (9, 1), (10, 1), (11, 1), (12, 1), (13, 1), (14, 1), (15, 0), (16, 1), (17, 1)] mixed (by kernel_rfl) ?_
                refine px_rd' rfl (rd_move' rfl) rfl rfl (wt_none' rfl) ?_
                refine px_rd' rfl (rd_move' rfl) rfl rfl (wt_none' rfl) ?_
                refine px_cutn' 2 (fun (v7 : Bool) => (⟨92, [], [(1, (Sl Kf a1)), (2, (Vl (.pointer (some q2)))), (5, (Vl (.int .i64 (a0_1.length : Int)))), (6, (Vl (.pointer (some q6)))), (78, (Vl (.bool v7)))], [⟨.pointer (some q2), [(Vl (.int .i64 a0_0)), (Sl Kf a0_1), (Sl Kf a0_2)], 43, none⟩, ⟨.pointer (some q6), [(Vl (.int .i64 r54.1)), (Sl Kf r54.2.1), (Sl Kf r54.2.2.1)], 43, none⟩]⟩ : St)) (fun (v7 : Bool) => laws_FnBoxSet_j7 k a1 a0_1 r54 a0_0 v7 = some out) ?_ ?_
                · rintro x7 hp
                  replace hp : laws_FnBoxSet_j7 k a1 a0_1 r54 a0_0 x7 = some out := hp
                  unfold laws_FnBoxSet_j7 at hp
                  refine px_rd' rfl (rd_move' rfl) rfl rfl (wt_none' rfl) ?_
                  refine px_cutn' 12 (fun (v8 : Bool) => (⟨92, [], [(91, (Vl (.bool v8)))], []⟩ : St)) (fun (v8 : Bool) => laws_FnBoxSet_j8 k v8 = some out) ?_ ?_
                  · rintro x8 hp
                    replace hp : laws_FnBoxSet_j8 k x8 = some out := hp
                    unfold laws_FnBoxSet_j8 at hp
                    refine px_rd' rfl (rd_assign' rfl) rfl rfl (wt_none' rfl) ?_
                    refine px_nil' ?_
                    show TX E K20 _
                    refine tx_k' hK20 ?_
                    refine cx_retc' ?_
                    replace hp := Option.some.inj hp
                    subst hp
                    refine tx_pick' (L' := [(4, (Vl (.bool x8)))]) (H' := []) [] (sub_cons rfl sub_nil) (by decide) pick_nil ?_
                    exact tx_ret1' Try.results5 rfl () (rv_tmp' rfl) (List.Sublist.refl _)
                  · intro K22 hK22
                    rcases br_cases hp with ⟨h11, hp⟩ | ⟨h11, hp⟩
                    · refine px_rd' rfl (rd_load_agg' (i := 1) (o := 0) (nn := 3) rfl ⟨rfl, rfl, rfl, rfl⟩ rfl agg43 (l' := [(Vl (.int .i64 r54.1)), (Sl Kf r54.2.1), (Sl Kf r54.2.2.1)]) rfl) rfl rfl (wt_is' (wt_guard' rfl rfl rfl) (beq_tt h11)) ?_
                      refine px_rd' rfl (rd_field0' rfl Try.underlying43 rfl info3 rfl) rfl rfl (wt_is' (wt_guard' rfl rfl rfl) (beq_tt h11)) ?_
                      refine px_rd' rfl (rd_load' (i := 0) (o := 0) rfl ⟨rfl, rfl, rfl, rfl⟩ rfl flat3) rfl rfl (wt_is' (wt_guard' rfl rfl rfl) (beq_tt h11)) ?_
                      refine px_rd' rfl (rd_move' rfl) rfl rfl (wt_is' (wt_guard' rfl rfl rfl) (beq_tt h11)) ?_
                      refine px_rd' rfl (rd_move' rfl) rfl rfl (wt_is' (wt_guard' rfl rfl rfl) (beq_tt h11)) ?_
                      obtain ⟨r85, hr85, hp⟩ := bind_some hp
                      refine px_rd' rfl (rd_cut_h' rfl rfl hr85 Try.underlying22 info38) rfl rfl (wt_is' (wt_guard' rfl rfl rfl) (beq_tt h11)) ?_
                      refine px_rd' rfl (rd_move' rfl) rfl rfl (wt_is' (wt_guard' rfl rfl rfl) (beq_tt h11)) ?_
                      refine px_rd' rfl (rd_move' rfl) rfl rfl (wt_is' (wt_guard' rfl rfl rfl) (beq_tt h11)) ?_
                      obtain ⟨r88, hr88, hp⟩ := bind_some hp
                      refine px_rd' rfl (rd_cut_l' rfl rfl hr88 Try.underlying22 info38) rfl rfl (wt_is' (wt_guard' rfl rfl rfl) (beq_tt h11)) ?_
                      refine px_rd' rfl (rd_build' (pls := [(0, 1), (1, 1), (2, 1)]) (qs := [(0, [(Vl (.int .i64 a0_0))]), (1, [(Sl Kf r85)]), (2, [(Sl Kf r88)])]) (r := [(Vl (.int .i64 a0_0)), (Sl Kf r85), (Sl Kf r88)]) ⟨rfl, ⟨_, rfl, (lv_vl rfl rfl)⟩, ⟨rfl, ⟨_, rfl, (lv_sl _ _)⟩, ⟨rfl, ⟨_, rfl, (lv_sl _ _)⟩, trivial⟩⟩⟩ Try.underlying43 has43 places43 info43 rfl rfl rfl) rfl rfl (wt_is' (wt_guard' rfl rfl rfl) (beq_tt h11)) ?_
                      obtain ⟨r90, hr90, hp⟩ := bind_some hp
                      refine px_ox' rfl (ox_calln' (ent_fn' Try.func26 isn26 rfl rfl) (spec_SameBox_sim _ _ _ _ _ _ hr90 : Go.Sx.Fn Try.prog 26 [(Ag [(Vl (.int .i64 r54.1)), (Sl Kf r54.2.1), (Sl Kf r54.2.2.1)]), (Ag [(Vl (.int .i64 a0_0)), (Sl Kf r85), (Sl Kf r88)])] [] (fun x : Unit => (Vl (.bool r90))) (fun x => [])) (Hn := fun x : Unit => [⟨.pointer (some q2), [(Vl (.int .i64 a0_0)), (Sl Kf a0_1), (Sl Kf a0_2)], 43, none⟩, ⟨.pointer (some q6), [(Vl (.int .i64 r54.1)), (Sl Kf r54.2.1), (Sl Kf r54.2.2.1)], 43, none⟩]) (fun _ => rfl) rfl rfl) rfl bs_nil (wt_is' (wt_guard' rfl rfl rfl) (beq_tt h11)) fun ⟨⟩ => ?_
                      refine px_rd' rfl (rd_pick_true' rfl h11 rfl) rfl rfl (wt_none' rfl) ?_
                      refine px_nil' ?_
                      show TX E K22 _
                      exact tx_pick' [] (sub_cons rfl sub_nil) (by decide) pick_nil (hK22 r90 hp)
                    · refine px_skip' rfl rfl rfl (wt_is' (wt_guard' rfl rfl rfl) (beq_ft h11)) ?_
                      refine px_skip' rfl rfl rfl (wt_is' (wt_guard' rfl rfl rfl) (beq_ft h11)) ?_
                      refine px_skip' rfl rfl rfl (wt_is' (wt_guard' rfl rfl rfl) (beq_ft h11)) ?_
                      refine px_skip' rfl rfl rfl (wt_is' (wt_guard' rfl rfl rfl) (beq_ft h11)) ?_
                      refine px_skip' rfl rfl rfl (wt_is' (wt_guard' rfl rfl rfl) (beq_ft h11)) ?_
                      refine px_skip' rfl rfl rfl (wt_is' (wt_guard' rfl rfl rfl) (beq_ft h11)) ?_
                      refine px_skip' rfl rfl rfl (wt_is' (wt_guard' rfl rfl rfl) (beq_ft h11)) ?_
                      refine px_skip' rfl rfl rfl (wt_is' (wt_guard' rfl rfl rfl) (beq_ft h11)) ?_
                      refine px_skip' rfl rfl rfl (wt_is' (wt_guard' rfl rfl rfl) (beq_ft h11)) ?_
                      refine px_skip' rfl rfl rfl (wt_is' (wt_guard' rfl rfl rfl) (beq_ft h11)) ?_
                      refine px_oskip' rfl rfl rfl (wt_is' (wt_guard' rfl rfl rfl) (beq_ft h11)) ?_
                      refine px_rd' rfl (rd_pick_false' rfl h11 rfl) rfl rfl (wt_none' rfl) ?_
                      refine px_nil' ?_
                      show TX E K22 _
                      exact tx_pick' [] (sub_cons rfl sub_nil) (by decide) pick_nil (hK22 false hp)
                · intro K21 hK21
                  rcases br_cases hp with ⟨h10, hp⟩ | ⟨h10, hp⟩
                  · refine px_rd' rfl (rd_move' rfl) rfl rfl (wt_is' (wt_guard' rfl rfl rfl) (beq_tt h10)) ?_
                    refine px_rd' rfl (rd_pick_true' rfl h10 rfl) rfl rfl (wt_none' rfl) ?_
                    refine px_nil' ?_
                    show TX E K21 _
                    exact tx_pick' [4, 3] (sub_cons rfl (sub_cons rfl (sub_cons rfl (sub_cons rfl (sub_cons rfl sub_nil))))) (by decide) (pick_cons rfl (pick_cons rfl pick_nil)) (hK21 r54.2.2.2 hp)
                  · refine px_skip' rfl rfl rfl (wt_is' (wt_guard' rfl rfl rfl) (beq_ft h10)) ?_
                    refine px_rd' rfl (rd_pick_false' rfl h10 rfl) rfl rfl (wt_none' rfl) ?_
                    refine px_nil' ?_
                    show TX E K21 _
                    exact tx_pick' [4, 3] (sub_cons rfl (sub_cons rfl (sub_cons rfl (sub_cons rfl (sub_cons rfl sub_nil))))) (by decide) (pick_cons rfl (pick_cons rfl pick_nil)) (hK21 false hp)
          · intro K12 hK12
            rcases br_cases hp with ⟨h6, hp⟩ | ⟨h6, hp⟩
            · refine sx_skip' rfl rfl (wt_is' (wt_guard' rfl rfl rfl) (beq_tf h6)) ?_
              refine sx_skip' rfl rfl (wt_is' (wt_guard' rfl rfl rfl) (beq_tf h6)) ?_
              refine sx_skip' rfl rfl (wt_is' (wt_guard' rfl rfl rfl) (beq_tf h6)) ?_
              refine sx_skip' rfl rfl (wt_is' (wt_guard' rfl rfl rfl) (beq_tf h6)) ?_
              refine sx_rd' (rd_pick_true' rfl h6 rfl) rfl rfl (wt_none' rfl) ?_
              refine sx_nil' ?_
              show TX E K12 _
              exact tx_pick' [0] (sub_cons rfl (sub_cons rfl (sub_cons rfl (sub_cons rfl sub_nil)))) (by decide) (pick_cons rfl pick_nil) (hK12 true hp)
            · refine sx_rd' (rd_move' rfl) rfl rfl (wt_is' (wt_guard' rfl rfl rfl) (beq_ff h6)) ?_
              refine sx_rd' (rd_build' (pls := [(0, 1), (1, 1), (2, 1), (3, 1), (4, 1), (5, 1), (6, 1)]) (qs := [(3, [(Sl Kf a1)])]) (r := [(Vl (.int .i64 0)), (Vl (.int .i64 0)), (Vl (.int .i64 0)), (Sl Kf a1), (Vl (.slice none 0 0)), (Vl (.slice none 0 0)), (Vl (.slice none 0 0))]) ⟨rfl, ⟨_, rfl, (lv_sl _ _)⟩, trivial⟩ Try.underlying50 has50 places50 info50 rfl rfl rfl) rfl rfl (wt_is' (wt_guard' rfl rfl rfl) (beq_ff h6)) ?_
              obtain ⟨r48, hr48, hp⟩ := bind_some hp
              refine sx_ox' (ox_calln' (ent_fn' Try.func23 isn23 rfl rfl) (laws_gEach_sim _ _ _ _ hr48 : Go.Sx.Fn Try.prog 23 [(Ag [(Vl (.int .i64 0)), (Vl (.int .i64 0)), (Vl (.int .i64 0)), (Sl Kf a1), (Vl (.slice none 0 0)), (Vl (.slice none 0 0)), (Vl (.slice none 0 0))]), (Vl (.func (.func 24) #[] #[]))] [] (fun x : Unit => (Vl (.bool r48))) (fun x => [])) (Hn := fun x : Unit => [⟨.pointer (some q2), [(Vl (.int .i64 a0_0)), (Sl Kf a0_1), (Sl Kf a0_2)], 43, none⟩]) (fun _ => rfl) rfl rfl) (wt_is' (wt_guard' rfl rfl rfl) (beq_ff h6)) fun ⟨⟩ => ?_
              refine sx_rd' (rd_un' rfl ru_not) rfl rfl (wt_is' (wt_guard' rfl rfl rfl) (beq_ff h6)) ?_
              refine sx_rd' (rd_pick_false' rfl h6 rfl) rfl rfl (wt_none' rfl) ?_
              refine sx_nil' ?_
              show TX E K12 _
              exact tx_pick' [0] (sub_cons rfl (sub_cons rfl (sub_cons rfl (sub_cons rfl sub_nil)))) (by decide) (pick_cons rfl pick_nil) (hK12 (!r48) hp)
        · intro K11 hK11
          rcases br_cases hp with ⟨h4, hp⟩ | ⟨h4, hp⟩
          · refine sx_skip' rfl rfl (wt_is' (wt_guard' rfl rfl rfl) (beq_tf h4)) ?_
            refine sx_skip' rfl rfl (wt_is' (wt_guard' rfl rfl rfl) (beq_tf h4)) ?_
            refine sx_skip' rfl rfl (wt_is' (wt_guard' rfl rfl rfl) (beq_tf h4)) ?_
            refine sx_skip' rfl rfl (wt_is' (wt_guard' rfl rfl rfl) (beq_tf h4)) ?_
            refine sx_skip' rfl rfl (wt_is' (wt_guard' rfl rfl rfl) (beq_tf h4)) ?_
            refine sx_skip' rfl rfl (wt_is' (wt_guard' rfl rfl rfl) (beq_tf h4)) ?_
            refine sx_skip' rfl rfl (wt_undef' rfl rfl rfl) ?_
            refine sx_skip' rfl rfl (wt_undef' rfl rfl rfl) ?_
            refine sx_skip' rfl rfl (wt_undef' rfl rfl rfl) ?_
            refine sx_skip' rfl rfl (wt_undef' rfl rfl rfl) ?_
            refine sx_skip' rfl rfl (wt_undef' rfl rfl rfl) ?_
            refine sx_skip' rfl rfl (wt_undef' rfl rfl rfl) ?_
            refine sx_skip' rfl rfl (wt_is' (wt_guard' rfl rfl rfl) (beq_tf h4)) ?_
            refine sx_rd' (rd_pick_true' rfl h4 rfl) rfl rfl (wt_none' rfl) ?_
            refine sx_nil' ?_
            show TX E K11 _
            exact tx_pick' [0] (sub_cons rfl (sub_cons rfl (sub_cons rfl (sub_cons rfl sub_nil)))) (by decide) (pick_cons rfl pick_nil) (hK11 true hp)
          · refine sx_rd' (rd_move' rfl) rfl rfl (wt_is' (wt_guard' rfl rfl rfl) (beq_ff h4)) ?_
            refine sx_rd' (rd_len' rfl Try.underlying22) rfl rfl (wt_is' (wt_guard' rfl rfl rfl) (beq_ff h4)) ?_
            refine sx_rd' (rd_move' rfl) rfl rfl (wt_is' (wt_guard' rfl rfl rfl) (beq_ff h4)) ?_
            refine sx_rd' (rd_bin' rfl rfl eg_int ru_mul) rfl rfl (wt_is' (wt_guard' rfl rfl rfl) (beq_ff h4)) ?_
            refine sx_rd' (rd_bin' rfl rfl eg_int ru_neq) rfl rfl (wt_is' (wt_guard' rfl rfl rfl) (beq_ff h4)) ?_
            refine sx_rd' (rd_move' rfl) rfl rfl (wt_is' (wt_guard' rfl rfl rfl) (beq_ff h4)) ?_
            refine sx_cutn' 8 (fun (v3 : Bool) => (⟨92, [], [(1, (Sl Kf a1)), (2, (Vl (.pointer (some q2)))), (5, (Vl (.int .i64 (a0_1.length : Int)))), (44, (Vl (.bool v3)))], [⟨.pointer (some q2), [(Vl (.int .i64 a0_0)), (Sl Kf a0_1), (Sl Kf a0_2)], 43, none⟩]⟩ : St)) (fun (v3 : Bool) => laws_FnBoxSet_j3 k a0_0 a0_1 a0_2 a1 v3 = some out) ?_ ?_
            · rintro x3 hp
              replace hp : laws_FnBoxSet_j3 k a0_0 a0_1 a0_2 a1 x3 = some out := hp
              unfold laws_FnBoxSet_j3 at hp
              refine sx_nil' ?_
              show TX E K11 _
              exact tx_pick' [0] (sub_cons rfl (sub_cons rfl (sub_cons rfl (sub_cons rfl sub_nil)))) (by decide) (pick_cons rfl pick_nil) (hK11 x3 hp)
            · intro K10 hK10
              rcases br_cases hp with ⟨h5, hp⟩ | ⟨h5, hp⟩
              · refine sx_rd' (rd_move' rfl) rfl rfl (wt_is' (wt_guard' rfl rfl rfl) (beq_tt h5)) ?_
                refine sx_rd' (rd_len' rfl Try.underlying22) rfl rfl (wt_is' (wt_guard' rfl rfl rfl) (beq_tt h5)) ?_
                refine sx_rd' (rd_move' rfl) rfl rfl (wt_is' (wt_guard' rfl rfl rfl) (beq_tt h5)) ?_
                refine sx_rd' (rd_bin' rfl rfl eg_int ru_mul) rfl rfl (wt_is' (wt_guard' rfl rfl rfl) (beq_tt h5)) ?_
                refine sx_rd' (rd_bin' rfl rfl eg_int ru_sub) rfl rfl (wt_is' (wt_guard' rfl rfl rfl) (beq_tt h5)) ?_
                refine sx_rd' (rd_bin' rfl rfl eg_int ru_neq) rfl rfl (wt_is' (wt_guard' rfl rfl rfl) (beq_tt h5)) ?_
                refine sx_rd' (rd_pick_true' rfl h5 rfl) rfl rfl (wt_is' (wt_guard' rfl rfl rfl) (beq_ff h4)) ?_
                refine sx_rd' (rd_pick_false' rfl h4 rfl) rfl rfl (wt_none' rfl) ?_
                refine sx_nil' ?_
                show TX E K10 _
                exact tx_pick' [0] (sub_cons rfl (sub_cons rfl (sub_cons rfl (sub_cons rfl sub_nil)))) (by decide) (pick_cons rfl pick_nil) (hK10 (!decide ((a1.length : Int) = (isub .i64 (imul .i64 2 (a0_1.length : Int)) 1))) hp)
              · refine sx_skip' rfl rfl (wt_is' (wt_guard' rfl rfl rfl) (beq_ft h5)) ?_
                refine sx_skip' rfl rfl (wt_is' (wt_guard' rfl rfl rfl) (beq_ft h5)) ?_
                refine sx_skip' rfl rfl (wt_is' (wt_guard' rfl rfl rfl) (beq_ft h5)) ?_
                refine sx_skip' rfl rfl (wt_is' (wt_guard' rfl rfl rfl) (beq_ft h5)) ?_
                refine sx_skip' rfl rfl (wt_is' (wt_guard' rfl rfl rfl) (beq_ft h5)) ?_
                refine sx_skip' rfl rfl (wt_is' (wt_guard' rfl rfl rfl) (beq_ft h5)) ?_
                refine sx_rd' (rd_pick_false' rfl h5 rfl) rfl rfl (wt_is' (wt_guard' rfl rfl rfl) (beq_ff h4)) ?_
                refine sx_rd' (rd_pick_false' rfl h4 rfl) rfl rfl (wt_none' rfl) ?_
                refine sx_nil' ?_
                show TX E K10 _
                exact tx_pick' [0] (sub_cons rfl (sub_cons rfl (sub_cons rfl (sub_cons rfl sub_nil)))) (by decide) (pick_cons rfl pick_nil) (hK10 false hp)
      · intro K9 hK9
        rcases br_cases hp with ⟨h3, hp⟩ | ⟨h3, hp⟩
        · refine sx_skip' rfl rfl (wt_is' (wt_guard' rfl rfl rfl) (beq_tf h3)) ?_
          refine sx_skip' rfl rfl (wt_is' (wt_guard' rfl rfl rfl) (beq_tf h3)) ?_
          refine sx_skip' rfl rfl (wt_is' (wt_guard' rfl rfl rfl) (beq_tf h3)) ?_
          refine sx_rd' (rd_pick_true' rfl h3 rfl) rfl rfl (wt_none' rfl) ?_
          refine sx_nil' ?_
          show TX E K9 _
          exact tx_pick' [1] (sub_cons rfl (sub_cons rfl (sub_cons rfl (sub_cons rfl sub_nil)))) (by decide) (pick_cons rfl pick_nil) (hK9 true hp)
        · refine sx_rd' (rd_field0' rfl Try.underlying43 rfl info3 rfl) rfl rfl (wt_is' (wt_guard' rfl rfl rfl) (beq_ff h3)) ?_
          refine sx_rd' (rd_load' (i := 1) (o := 0) rfl ⟨rfl, rfl, rfl, rfl⟩ rfl flat3) rfl rfl (wt_is' (wt_guard' rfl rfl rfl) (beq_ff h3)) ?_
          refine sx_rd' (rd_bin' rfl rfl eg_int ru_lss) rfl rfl (wt_is' (wt_guard' rfl rfl rfl) (beq_ff h3)) ?_
          refine sx_rd' (rd_pick_false' rfl h3 rfl) rfl rfl (wt_none' rfl) ?_
          refine sx_nil' ?_
          show TX E K9 _
          exact tx_pick' [1] (sub_cons rfl (sub_cons rfl (sub_cons rfl (sub_cons rfl sub_nil)))) (by decide) (pick_cons rfl pick_nil) (hK9 (decide (a0_0 < 1)) hp)
  · intro K4 hK4
    rcases br_cases hp with ⟨h1, hp⟩ | ⟨h1, hp⟩
    · refine sx_skip' rfl rfl (wt_is' (wt_guard' rfl rfl rfl) (beq_tf h1)) ?_
      refine sx_skip' rfl rfl (wt_is' (wt_guard' rfl rfl rfl) (beq_tf h1)) ?_
      refine sx_skip' rfl rfl (wt_is' (wt_guard' rfl rfl rfl) (beq_tf h1)) ?_
      refine sx_rd' (rd_pick_true' rfl h1 rfl) rfl rfl (wt_none' rfl) ?_
      refine sx_nil' ?_
      show TX E K4 _
      exact tx_pick' [0] (sub_cons rfl (sub_cons rfl (sub_cons rfl sub_nil))) (by decide) (pick_cons rfl pick_nil) (hK4 true hp)
    · refine sx_rd' (rd_move' rfl) rfl rfl (wt_is' (wt_guard' rfl rfl rfl) (beq_ff h1)) ?_
      refine sx_rd' (rd_len' rfl Try.underlying22) rfl rfl (wt_is' (wt_guard' rfl rfl rfl) (beq_ff h1)) ?_
      refine sx_rd' (rd_bin' rfl rfl eg_int ru_gtr) rfl rfl (wt_is' (wt_guard' rfl rfl rfl) (beq_ff h1)) ?_
      refine sx_rd' (rd_pick_false' rfl h1 rfl) rfl rfl (wt_none' rfl) ?_
      refine sx_nil' ?_
      show TX E K4 _
      exact tx_pick' [0] (sub_cons rfl (sub_cons rfl (sub_cons rfl sub_nil))) (by decide) (pick_cons rfl pick_nil) (hK4 (decide (2147483647 < (a1.length : Int))) hp)

end Go.Proofs.Ytlipjaacncpaoaa
