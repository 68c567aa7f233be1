/-
  Plain functions for the Go functions that this law reaches, and that each call does what its plain function says. Printed by a program of ours.
-/
import Derived.Test.YtlipjaacncpaoaaProg
import Derived.Test.YtlipjaacncpaoaaSxZ
namespace Go.Proofs.Ytlipjaacncpaoaa
open Go.Sx
set_option linter.unusedVariables false
set_option maxRecDepth 100000

theorem isn10 : (Try.f10.name == "runtime.NumGoroutine") = false := by kernel_rfl
theorem isn11 : (Try.f11.name == "runtime.NumGoroutine") = false := by kernel_rfl
theorem places50 : placesOf Try.prog [{ name := "Kind", type := 3, offset := 0, embedded := false, tag := "", pkgPath := "", byteOffset := 0 }, { name := "Layout", type := 3, offset := 1, embedded := false, tag := "", pkgPath := "", byteOffset := 8 }, { name := "SRID", type := 3, offset := 2, embedded := false, tag := "", pkgPath := "", byteOffset := 16 }, { name := "Flat", type := 22, offset := 3, embedded := false, tag := "", pkgPath := "", byteOffset := 24 }, { name := "Ends", type := 34, offset := 4, embedded := false, tag := "", pkgPath := "", byteOffset := 48 }, { name := "Endss", type := 47, offset := 5, embedded := false, tag := "", pkgPath := "", byteOffset := 72 }, { name := "Kids", type := 48, offset := 6, embedded := false, tag := "", pkgPath := "", byteOffset := 96 }] = [(0, 1), (1, 1), (2, 1), (3, 1), (4, 1), (5, 1), (6, 1)] := by kernel_rfl
theorem has50 : ∀ f ∈ ([{ name := "Kind", type := 3, offset := 0, embedded := false, tag := "", pkgPath := "", byteOffset := 0 }, { name := "Layout", type := 3, offset := 1, embedded := false, tag := "", pkgPath := "", byteOffset := 8 }, { name := "SRID", type := 3, offset := 2, embedded := false, tag := "", pkgPath := "", byteOffset := 16 }, { name := "Flat", type := 22, offset := 3, embedded := false, tag := "", pkgPath := "", byteOffset := 24 }, { name := "Ends", type := 34, offset := 4, embedded := false, tag := "", pkgPath := "", byteOffset := 48 }, { name := "Endss", type := 47, offset := 5, embedded := false, tag := "", pkgPath := "", byteOffset := 72 }, { name := "Kids", type := 48, offset := 6, embedded := false, tag := "", pkgPath := "", byteOffset := 96 }] : List Field), (Try.prog.info? f.type).isSome = true := fun f hf => all_of (p := fun f => (Try.prog.info? f.type).isSome) (by kernel_rfl) f hf
theorem info50 : (Try.prog.info? 50).map (fun i => (i.zero, i.size, i.bytes)) = some (some (.agg #[.int .i64 0, .int .i64 0, .int .i64 0, .slice none 0 0, .slice none 0 0, .slice none 0 0, .slice none 0 0]), 7, 120) := by kernel_rfl
theorem isn23 : (Try.f23.name == "runtime.NumGoroutine") = false := by kernel_rfl
theorem info22 : (Try.prog.info? 22).map (fun i => (i.zero, i.size, i.bytes)) = some (some (.slice none 0 0), 1, 24) := by kernel_rfl
theorem flat22 : Flat Try.prog 22 := ⟨_, Try.underlying22, fun _ h => (nomatch h), fun _ _ h => (nomatch h)⟩
theorem info38 : (Try.prog.info? 38).map (fun i => (i.zero, i.size, i.bytes)) = some (some (.float .f64 0), 1, 8) := by kernel_rfl
theorem flat38 : Flat Try.prog 38 := ⟨_, Try.underlying38, fun _ h => (nomatch h), fun _ _ h => (nomatch h)⟩
theorem isn24 : (Try.f24.name == "runtime.NumGoroutine") = false := by kernel_rfl
theorem info48 : (Try.prog.info? 48).map (fun i => (i.zero, i.size, i.bytes)) = some (some (.slice none 0 0), 1, 24) := by kernel_rfl
theorem flat48 : Flat Try.prog 48 := ⟨_, Try.underlying48, fun _ h => (nomatch h), fun _ _ h => (nomatch h)⟩
theorem isn12 : (Try.f12.name == "runtime.NumGoroutine") = false := by kernel_rfl
theorem isn50 : (Try.f50.name == "runtime.NumGoroutine") = false := by kernel_rfl
theorem isn51 : (Try.f51.name == "runtime.NumGoroutine") = false := by kernel_rfl
theorem isn96 : (Try.f96.name == "runtime.NumGoroutine") = false := by kernel_rfl
theorem isn133 : (Try.f133.name == "runtime.NumGoroutine") = false := by kernel_rfl
theorem places104 : placesOf Try.prog [{ name := "isLess", type := 101, offset := 0, embedded := false, tag := "", pkgPath := "pub-orthodrome/pub/gogeom/sorting", byteOffset := 0 }, { name := "coords", type := 22, offset := 1, embedded := false, tag := "", pkgPath := "pub-orthodrome/pub/gogeom/sorting", byteOffset := 8 }, { name := "layout", type := 102, offset := 2, embedded := false, tag := "", pkgPath := "pub-orthodrome/pub/gogeom/sorting", byteOffset := 32 }, { name := "stride", type := 3, offset := 3, embedded := false, tag := "", pkgPath := "pub-orthodrome/pub/gogeom/sorting", byteOffset := 40 }] = [(0, 1), (1, 1), (2, 1), (3, 1)] := by kernel_rfl
theorem has104 : ∀ f ∈ ([{ name := "isLess", type := 101, offset := 0, embedded := false, tag := "", pkgPath := "pub-orthodrome/pub/gogeom/sorting", byteOffset := 0 }, { name := "coords", type := 22, offset := 1, embedded := false, tag := "", pkgPath := "pub-orthodrome/pub/gogeom/sorting", byteOffset := 8 }, { name := "layout", type := 102, offset := 2, embedded := false, tag := "", pkgPath := "pub-orthodrome/pub/gogeom/sorting", byteOffset := 32 }, { name := "stride", type := 3, offset := 3, embedded := false, tag := "", pkgPath := "pub-orthodrome/pub/gogeom/sorting", byteOffset := 40 }] : List Field), (Try.prog.info? f.type).isSome = true := fun f hf => all_of (p := fun f => (Try.prog.info? f.type).isSome) (by kernel_rfl) f hf
theorem info104 : (Try.prog.info? 104).map (fun i => (i.zero, i.size, i.bytes)) = some (some (.agg #[.nilFunc, .slice none 0 0, .int .i64 0, .int .i64 0]), 4, 48) := by kernel_rfl
theorem agg104 : Agg Try.prog 104 4 := ⟨⟨_, Try.underlying104, .inl ⟨_, rfl⟩⟩, info_size info104⟩
theorem isn52 : (Try.f52.name == "runtime.NumGoroutine") = false := by kernel_rfl
theorem info3 : (Try.prog.info? 3).map (fun i => (i.zero, i.size, i.bytes)) = some (some (.int .i64 0), 1, 8) := by kernel_rfl
theorem flat3 : Flat Try.prog 3 := ⟨_, Try.underlying3, fun _ h => (nomatch h), fun _ _ h => (nomatch h)⟩
theorem mixed : Try.prog.follows .mixedOrders = true := by kernel_rfl
theorem idle49 : Idle Try.prog 49 2 := fun vs w hv => by
  obtain ⟨v0, v1, rfl⟩ : ∃ v0 v1, vs = [v0, v1] := by
    obtain _ | ⟨v0, vs⟩ := vs
    · simp at hv
    obtain _ | ⟨v1, vs⟩ := vs
    · simp at hv
    obtain _ | ⟨u, vs⟩ := vs
    · exact ⟨v0, v1, rfl⟩
    · simp at hv
  refine callsD_of_wpS Try.func49 rfl fun c₀ cs hu => ?_
  apply wpS_seq
  apply wpS_region
  simp [wpOpsS, go_sem, recoverD, hu, Try.ntmps49, Exit.thenS]
  refine wpS_cond (t := false) (by simp [Act.eval, Array.replicate]) ?_
  simp only [Bool.false_eq_true, if_false]
  refine wpS_of_wp (wp_skip ?_)
  cases c₀
  simp_all [bodyPostS, results, Try.results49]
theorem isn49 : (Try.f49.name == "runtime.NumGoroutine") = false := by kernel_rfl
theorem info4 : (Try.prog.info? 4).map (fun i => (i.zero, i.size, i.bytes)) = some (some (.bool false), 1, 1) := by kernel_rfl
theorem flat4 : Flat Try.prog 4 := ⟨_, Try.underlying4, fun _ h => (nomatch h), fun _ _ h => (nomatch h)⟩
theorem isn13 : (Try.f13.name == "runtime.NumGoroutine") = false := by kernel_rfl
theorem ext53 : ∀ {args : Array Value} {v : Value}, Runs Try.prog ((Extern.MathFloatBits.float64bits) args) v → Runs Try.prog (callFunc 53 args) (.value v) := fun hr => ru_ext Try.func53 (by kernel_rfl) (by kernel_rfl) (by kernel_rfl) (by kernel_rfl) hr


def spec_Stride_j1 (k : Nat) (a0 : Int) (x1 : Bool) : Option (Int) :=
  br x1
    (some 3)
    (some a0)
def spec_Stride (k : Nat) (a0 : Int) : Option (Int) :=
  br (decide (a0 < 1))
    (some 0)
    (br (decide (a0 = 1))
      (some 2)
      (br (decide (a0 = 2))
        (spec_Stride_j1 k a0 true)
        (spec_Stride_j1 k a0 (decide (a0 = 3)))))

theorem spec_Stride_sim {k : Nat}  (a0 : Int) {out : Int} (hp : spec_Stride k a0 = some out) : Go.Sx.Fn Try.prog 11 [(Vl (.int .i64 a0))] [] (fun w : Unit => (Vl (.int .i64 out))) (fun w => []) := by
  unfold spec_Stride at hp
  refine fn_of Try.func11 rfl Try.ntmps11 rfl fun E hM => ?_
  refine cx_seq' fun K1 hK1 => ?_
  refine cx_region' ?_
  refine sx_rd' (rd_assign' rfl) rfl rfl (wt_none' rfl) ?_
  refine sx_nil' ?_
  show TX E K1 _
  refine tx_k' hK1 ?_
  refine cx_seq' fun K2 hK2 => ?_
  refine cx_block' ?_
  refine cx_seq' fun K3 hK3 => ?_
  refine cx_region' ?_
  refine sx_rd' (rd_move' rfl) rfl rfl (wt_none' rfl) ?_
  refine sx_rd' (rd_bin' rfl rfl eg_int ru_lss) rfl rfl (wt_none' rfl) ?_
  refine sx_rd' (rd_assign' rfl) rfl rfl (wt_none' rfl) ?_
  refine sx_nil' ?_
  show TX E K3 _
  refine tx_k' hK3 ?_
  refine cx_cond' rfl (fun h1 => ?_) (fun h1 => ?_)
  · replace hp := (br_t h1).symm.trans hp
    refine cx_seq' fun K4 hK4 => ?_
    refine cx_region' ?_
    refine sx_rd' (rd_assign' rfl) rfl rfl (wt_none' rfl) ?_
    refine sx_nil' ?_
    show TX E K4 _
    refine tx_k' hK4 ?_
    refine cx_retc' ?_
    replace hp := Option.some.inj hp
    subst hp
    refine tx_pick' (L' := [(2, (Vl (.int .i64 0)))]) (H' := []) [] (sub_cons rfl sub_nil) (by decide) pick_nil ?_
    exact tx_ret1' Try.results11 rfl () (rv_tmp' rfl) (List.Sublist.refl _)
  · replace hp := (br_f h1).symm.trans hp
    refine cx_seq' fun K5 hK5 => ?_
    refine cx_region' ?_
    refine sx_rd' (rd_move' rfl) rfl rfl (wt_none' rfl) ?_
    refine sx_rd' (rd_bin' rfl rfl eg_int ru_eql) rfl rfl (wt_none' rfl) ?_
    refine sx_rd' (rd_assign' rfl) rfl rfl (wt_none' rfl) ?_
    refine sx_nil' ?_
    show TX E K5 _
    refine tx_k' hK5 ?_
    refine cx_cond' rfl (fun h2 => ?_) (fun h2 => ?_)
    · replace hp := (br_t h2).symm.trans hp
      refine cx_seq' fun K6 hK6 => ?_
      refine cx_region' ?_
      refine sx_rd' (rd_assign' rfl) rfl rfl (wt_none' rfl) ?_
      refine sx_nil' ?_
      show TX E K6 _
      refine tx_k' hK6 ?_
      refine cx_retc' ?_
      replace hp := Option.some.inj hp
      subst hp
      refine tx_pick' (L' := [(2, (Vl (.int .i64 2)))]) (H' := []) [] (sub_cons rfl sub_nil) (by decide) pick_nil ?_
      exact tx_ret1' Try.results11 rfl () (rv_tmp' rfl) (List.Sublist.refl _)
    · replace hp := (br_f h2).symm.trans hp
      refine cx_seq' fun K7 hK7 => ?_
      refine cx_region' ?_
      refine sx_rd' (rd_move' rfl) rfl rfl (wt_none' rfl) ?_
      refine sx_rd' (rd_bin' rfl rfl eg_int ru_eql) rfl rfl (wt_none' rfl) ?_
      refine sx_rd' (rd_move' rfl) rfl rfl (wt_none' rfl) ?_
      refine sx_cutn' 3 (fun (v1 : Bool) => (⟨17, [], [(0, (Vl (.int .i64 a0))), (15, (Vl (.bool v1)))], []⟩ : St)) (fun (v1 : Bool) => spec_Stride_j1 k a0 v1 = some out) ?_ ?_
      · rintro x1 hp
        replace hp : spec_Stride_j1 k a0 x1 = some out := hp
        unfold spec_Stride_j1 at hp
        refine sx_rd' (rd_assign' rfl) rfl rfl (wt_none' rfl) ?_
        refine sx_nil' ?_
        show TX E K7 _
        refine tx_k' hK7 ?_
        refine cx_cond' rfl (fun h4 => ?_) (fun h4 => ?_)
        · replace hp := (br_t h4).symm.trans hp
          refine cx_seq' fun K9 hK9 => ?_
          refine cx_region' ?_
          refine sx_rd' (rd_assign' rfl) rfl rfl (wt_none' rfl) ?_
          refine sx_nil' ?_
          show TX E K9 _
          refine tx_k' hK9 ?_
          refine cx_retc' ?_
          replace hp := Option.some.inj hp
          subst hp
          refine tx_pick' (L' := [(2, (Vl (.int .i64 3)))]) (H' := []) [] (sub_cons rfl sub_nil) (by decide) pick_nil ?_
          exact tx_ret1' Try.results11 rfl () (rv_tmp' rfl) (List.Sublist.refl _)
        · replace hp := (br_f h4).symm.trans hp
          refine cx_skip' ?_
          show TX E K2 _
          refine tx_k' hK2 ?_
          refine cx_seq' fun K10 hK10 => ?_
          refine cx_region' ?_
          refine sx_rd' (rd_move' rfl) rfl rfl (wt_none' rfl) ?_
          refine sx_rd' (rd_assign' rfl) rfl rfl (wt_none' rfl) ?_
          refine sx_nil' ?_
          show TX E K10 _
          refine tx_k' hK10 ?_
          refine cx_retc' ?_
          replace hp := Option.some.inj hp
          subst hp
          refine tx_pick' (L' := [(2, (Vl (.int .i64 a0)))]) (H' := []) [] (sub_cons rfl sub_nil) (by decide) pick_nil ?_
          exact tx_ret1' Try.results11 rfl () (rv_tmp' rfl) (List.Sublist.refl _)
      · intro K8 hK8
        rcases br_cases hp with ⟨h3, hp⟩ | ⟨h3, hp⟩
        · refine sx_skip' rfl rfl (wt_is' (wt_guard' rfl rfl rfl) (beq_tf h3)) ?_
          refine sx_skip' rfl rfl (wt_is' (wt_guard' rfl rfl rfl) (beq_tf h3)) ?_
          refine sx_rd' (rd_pick_true' rfl h3 rfl) rfl rfl (wt_none' rfl) ?_
          refine sx_nil' ?_
          show TX E K8 _
          exact tx_pick' [] (sub_cons rfl (sub_cons rfl sub_nil)) (by decide) pick_nil (hK8 true hp)
        · refine sx_rd' (rd_move' rfl) rfl rfl (wt_is' (wt_guard' rfl rfl rfl) (beq_ff h3)) ?_
          refine sx_rd' (rd_bin' rfl rfl eg_int ru_eql) rfl rfl (wt_is' (wt_guard' rfl rfl rfl) (beq_ff h3)) ?_
          refine sx_rd' (rd_pick_false' rfl h3 rfl) rfl rfl (wt_none' rfl) ?_
          refine sx_nil' ?_
          show TX E K8 _
          exact tx_pick' [] (sub_cons rfl (sub_cons rfl sub_nil)) (by decide) pick_nil (hK8 (decide (a0 = 3)) hp)

def laws_gNumber (k : Nat) (a0 : Nat) : Option (Bool) :=
  some (feq a0 a0)

theorem laws_gNumber_sim {k : Nat}  (a0 : Nat) {out : Bool} (hp : laws_gNumber k a0 = some out) : Go.Sx.Fn Try.prog 24 [(Vl (.float .f64 a0))] [] (fun w : Unit => (Vl (.bool out))) (fun w => []) := by
  unfold laws_gNumber at hp
  refine fn_of Try.func24 rfl Try.ntmps24 rfl fun E hM => ?_
  refine cx_seq' fun K1 hK1 => ?_
  refine cx_region' ?_
  refine sx_rd' (rd_assign' rfl) rfl rfl (wt_none' rfl) ?_
  refine sx_nil' ?_
  show TX E K1 _
  refine tx_k' hK1 ?_
  refine cx_seq' fun K2 hK2 => ?_
  refine cx_region' ?_
  refine sx_rd' (rd_move' rfl) rfl rfl (wt_none' rfl) ?_
  refine sx_rd' (rd_move' rfl) rfl rfl (wt_none' rfl) ?_
  refine sx_rd' (rd_bin' rfl rfl eg_flt ru_feq) rfl rfl (wt_none' rfl) ?_
  refine sx_rd' (rd_assign' rfl) rfl rfl (wt_none' rfl) ?_
  refine sx_nil' ?_
  show TX E K2 _
  refine tx_k' hK2 ?_
  refine cx_retc' ?_
  replace hp := Option.some.inj hp
  subst hp
  refine tx_pick' (L' := [(2, (Vl (.bool (feq a0 a0))))]) (H' := []) [] (sub_cons rfl sub_nil) (by decide) pick_nil ?_
  exact tx_ret1' Try.results24 rfl () (rv_tmp' rfl) (List.Sublist.refl _)

def laws_gEach_l1s (a0_3 : List Nat) (k : Nat) (rec1 : Int → Option (Unit ⊕ Unit)) (x1 : Int) : Option (Unit ⊕ Unit) :=
  br (decide (x1 < (a0_3.length : Int)))
    ((idx a0_3 x1) >>= fun r14 =>
    (laws_gNumber k r14) >>= fun r18 =>
    br (!r18)
      (some (.inl ()))
      (rec1 (iadd .i64 x1 1)))
    (some (.inr ()))
def laws_gEach_l1 (a0_3 : List Nat) : Nat → Int → Option (Unit ⊕ Unit)
  | 0, _ => none
  | k + 1, v => laws_gEach_l1s a0_3 k (laws_gEach_l1 a0_3 k) v
def laws_gEach (k : Nat) (a0_0 : Int) (a0_1 : Int) (a0_2 : Int) (a0_3 : List Nat) : Option (Bool) :=
  (laws_gEach_l1 a0_3 k 0) >>= fun y1 => match y1 with
    | (.inl v2) =>
      (some false)
    | (.inr v3) =>
      (some true)

theorem laws_gEach_sim {k : Nat}  (a0_0 : Int) (a0_1 : Int) (a0_2 : Int) (a0_3 : List Nat) {out : Bool} (hp : laws_gEach k a0_0 a0_1 a0_2 a0_3 = some out) : Go.Sx.Fn Try.prog 23 [(Ag [(Vl (.int .i64 a0_0)), (Vl (.int .i64 a0_1)), (Vl (.int .i64 a0_2)), (Sl Kf a0_3), (Vl (.slice none 0 0)), (Vl (.slice none 0 0)), (Vl (.slice none 0 0))]), (Vl (.func (.func 24) #[] #[]))] [] (fun w : Unit => (Vl (.bool out))) (fun w => []) := by
  unfold laws_gEach at hp
  refine fn_of Try.func23 rfl Try.ntmps23 rfl fun E hM => ?_
  refine cx_seq' fun K1 hK1 => ?_
  refine cx_region' ?_
  refine sx_ox' (ox_box' rfl (lv_ag _) rfl rfl) (wt_none' rfl) fun q2 => ?_
  refine sx_rd' (rd_assign' rfl) rfl rfl (wt_none' rfl) ?_
  refine sx_nil' ?_
  show TX E K1 _
  refine tx_k' hK1 ?_
  refine cx_seq' fun K2 hK2 => ?_
  refine cx_seq' fun K3 hK3 => ?_
  refine cx_region' ?_
  refine sx_rd' (rd_field' (off := 3) rfl Try.underlying50 rfl info22 rfl) rfl rfl (wt_none' rfl) ?_
  refine sx_rd' (rd_load' (i := 0) (o := 3) rfl ⟨rfl, rfl, rfl, rfl⟩ rfl flat22) rfl rfl (wt_none' rfl) ?_
  refine sx_rd' (rd_len' rfl Try.underlying22) rfl rfl (wt_none' rfl) ?_
  refine sx_rd' (rd_move' rfl) rfl rfl (wt_none' rfl) ?_
  refine sx_nil' ?_
  show TX E K3 _
  refine tx_k' hK3 ?_
  refine cx_block' ?_
  obtain ⟨y1, hy1, hp⟩ := bind_some hp
  refine cx_loopg' (F := laws_gEach_l1 a0_3) (G := fun k R v => laws_gEach_l1s a0_3 k R v) (x := 0) (gh := ()) (fun (v1 : Int) (w1 : Unit) => (⟨33, [], [(1, (Vl (.func (.func 24) #[] #[]))), (2, (Vl (.pointer (some q2)))), (10, (Sl Kf a0_3)), (11, (Vl (.int .i64 (a0_3.length : Int)))), (12, (Vl (.int .i64 v1)))], [⟨.pointer (some q2), [(Vl (.int .i64 a0_0)), (Vl (.int .i64 a0_1)), (Vl (.int .i64 a0_2)), (Sl Kf a0_3), (Vl (.slice none 0 0)), (Vl (.slice none 0 0)), (Vl (.slice none 0 0))], 50, none⟩]⟩ : St)) (fun (y : Unit ⊕ Unit) => match y with | (.inl v2) => Zg E Exit.ret (fun (w2 : Unit) => (⟨33, [], [(4, (Vl (.bool false)))], []⟩ : St)) | (.inr v3) => Zg E (Exit.exit 0) (fun (w3 : Unit) => (⟨33, [], [(1, (Vl (.func (.func 24) #[] #[]))), (2, (Vl (.pointer (some q2))))], [⟨.pointer (some q2), [(Vl (.int .i64 a0_0)), (Vl (.int .i64 a0_1)), (Vl (.int .i64 a0_2)), (Sl Kf a0_3), (Vl (.slice none 0 0)), (Vl (.slice none 0 0)), (Vl (.slice none 0 0))], 50, none⟩]⟩ : St))) (fun _ => rfl) (fun _ _ => rfl) ?_ hy1 (tx_to' rfl [0] (sub_cons rfl (sub_cons rfl (sub_cons rfl (sub_cons rfl (sub_cons rfl sub_nil))))) (by decide) (pick_cons rfl pick_nil)) ?_
  · clear hp hy1
    clear y1
    intro k rec1 KY1 ih1
    rintro x1 ⟨⟩ y1 hp
    replace hp : laws_gEach_l1s a0_3 k rec1 x1 = some y1 := hp
    unfold laws_gEach_l1s at hp
    refine cx_seq' fun K10 hK10 => ?_
    refine cx_region' ?_
    refine sx_rd' (rd_bin' rfl rfl eg_int ru_lss) rfl rfl (wt_none' rfl) ?_
    refine sx_nil' ?_
    show TX E K10 _
    refine tx_k' hK10 ?_
    refine cx_seq' fun K11 hK11 => ?_
    refine cx_cond' rfl (fun h4 => ?_) (fun h4 => ?_)
    · replace hp := (br_t h4).symm.trans hp
      refine cx_skip' ?_
      show TX E K11 _
      refine tx_k' hK11 ?_
      refine cx_seq' fun K12 hK12 => ?_
      refine cx_block' ?_
      refine cx_seq' fun K13 hK13 => ?_
      refine cx_region' ?_
      obtain ⟨r14, hr14, hp⟩ := bind_some hp
      refine sx_rd' (rd_at' (K := Kf) rfl rfl hr14 Try.underlying22 info38) rfl rfl (wt_none' rfl) ?_
      refine sx_rd' (rd_load_pt' rfl rfl flat38) rfl rfl (wt_none' rfl) ?_
      refine sx_rd' (rd_assign' rfl) rfl rfl (wt_none' rfl) ?_
      refine sx_nil' ?_
      show TX E K13 _
      refine tx_k' hK13 ?_
      refine cx_seq' fun K14 hK14 => ?_
      refine cx_region' ?_
      refine sx_rd' (rd_move' rfl) rfl rfl (wt_none' rfl) ?_
      refine sx_rd' (rd_move' rfl) rfl rfl (wt_none' rfl) ?_
      obtain ⟨r18, hr18, hp⟩ := bind_some hp
      refine sx_ox' (ox_calln' (ent_clo' (us := []) rfl Try.func24 isn24 rfl rfl) (laws_gNumber_sim _ hr18 : Go.Sx.Fn Try.prog 24 [(Vl (.float .f64 r14))] [] (fun x : Unit => (Vl (.bool r18))) (fun x => [])) (Hn := fun x : Unit => [⟨.pointer (some q2), [(Vl (.int .i64 a0_0)), (Vl (.int .i64 a0_1)), (Vl (.int .i64 a0_2)), (Sl Kf a0_3), (Vl (.slice none 0 0)), (Vl (.slice none 0 0)), (Vl (.slice none 0 0))], 50, none⟩]) (fun _ => rfl) rfl rfl) (wt_none' rfl) fun ⟨⟩ => ?_
      refine sx_rd' (rd_un' rfl ru_not) rfl rfl (wt_none' rfl) ?_
      refine sx_nil' ?_
      show TX E K14 _
      refine tx_k' hK14 ?_
      refine cx_cond' rfl (fun h5 => ?_) (fun h5 => ?_)
      · replace hp := (br_t h5).symm.trans hp
        refine cx_seq' fun K15 hK15 => ?_
        refine cx_region' ?_
        refine sx_rd' (rd_assign' rfl) rfl rfl (wt_none' rfl) ?_
        refine sx_nil' ?_
        show TX E K15 _
        refine tx_k' hK15 ?_
        refine cx_retc' ?_
        replace hp := Option.some.inj hp
        subst hp
        show TX E (Zg E Exit.ret _ Exit.ret) _
        exact tx_zend' () rfl [] (sub_cons rfl sub_nil) (by decide) pick_nil
      · replace hp := (br_f h5).symm.trans hp
        refine cx_skip' ?_
        show TX E K12 _
        refine tx_k' hK12 ?_
        refine cx_region' ?_
        refine sx_rd' (rd_bin' rfl rfl eg_int ru_add) rfl rfl (wt_none' rfl) ?_
        refine sx_rd' (rd_move' rfl) rfl rfl (wt_none' rfl) ?_
        refine sx_nil' ?_
        show TX E (KY1 _) _
        exact tx_pick' [0] (sub_cons rfl (sub_cons rfl (sub_cons rfl (sub_cons rfl (sub_cons rfl sub_nil))))) (by decide) (pick_cons rfl pick_nil) (ih1 (iadd .i64 x1 1) () _ hp)
    · replace hp := (br_f h4).symm.trans hp
      refine cx_exit' ?_
      replace hp := Option.some.inj hp
      subst hp
      show TX E (Zg E (Exit.exit 0) _ (Exit.exit 0)) _
      exact tx_zend' () rfl [0] (sub_cons rfl (sub_cons rfl sub_nil)) (by decide) (pick_cons rfl pick_nil)
  · rcases y1 with v2 | v3
    · dsimp only at hp
      refine zg_out fun w2 => ?_
      replace hp := Option.some.inj hp
      subst hp
      refine tx_pick' (L' := [(4, (Vl (.bool false)))]) (H' := []) [] (sub_cons rfl sub_nil) (by decide) pick_nil ?_
      exact tx_ret1' Try.results23 rfl () (rv_tmp' rfl) (List.Sublist.refl _)
    · dsimp only at hp
      refine zg_out fun w3 => ?_
      show TX E K2 _
      refine tx_k' hK2 ?_
      refine cx_seq' fun K16 hK16 => ?_
      refine cx_seq' fun K17 hK17 => ?_
      refine cx_region' ?_
      refine sx_rd' (rd_field' (off := 6) rfl Try.underlying50 rfl info48 rfl) rfl rfl (wt_none' rfl) ?_
      refine sx_rd' (rd_load' (i := 0) (o := 6) rfl ⟨rfl, rfl, rfl, rfl⟩ rfl flat48) rfl rfl (wt_none' rfl) ?_
      refine sx_rd' (rd_lenv' rfl Try.underlying48) rfl rfl (wt_none' rfl) ?_
      refine sx_rd' (rd_move' rfl) rfl rfl (wt_none' rfl) ?_
      refine sx_nil' ?_
      show TX E K17 _
      refine tx_k' hK17 ?_
      refine cx_block' ?_
      refine tx_loop' ?_
      refine tx_round' ?_
      refine cx_seq' fun K18 hK18 => ?_
      refine cx_region' ?_
      refine sx_rd' (rd_bin' rfl rfl eg_int ru_lss) rfl rfl (wt_none' rfl) ?_
      refine sx_nil' ?_
      show TX E K18 _
      refine tx_k' hK18 ?_
      refine cx_seq' fun K19 hK19 => ?_
      refine cx_cond_f' rfl rfl ?_
      refine cx_exit' ?_
      show TX E K16 _
      refine tx_k' hK16 ?_
      refine cx_seq' fun K20 hK20 => ?_
      refine cx_region' ?_
      refine sx_rd' (rd_assign' rfl) rfl rfl (wt_none' rfl) ?_
      refine sx_nil' ?_
      show TX E K20 _
      refine tx_k' hK20 ?_
      refine cx_retc' ?_
      replace hp := Option.some.inj hp
      subst hp
      refine tx_pick' (L' := [(4, (Vl (.bool true)))]) (H' := []) [] (sub_cons rfl sub_nil) (by decide) pick_nil ?_
      exact tx_ret1' Try.results23 rfl () (rv_tmp' rfl) (List.Sublist.refl _)

def laws_sRow_j4 (k : Nat) (x4 : Bool) : Option (Bool) :=
  some x4
def laws_sRow_j3 (k : Nat) (a1 : List Nat) (x3 : Bool) : Option (Bool) :=
  br x3
    ((laws_gEach k 0 0 0 a1) >>= fun r29 =>
    laws_sRow_j4 k r29)
    (laws_sRow_j4 k false)
def laws_sRow_j2 (k : Nat) (a1 : List Nat) (r7 : Int) (x2 : Bool) : Option (Bool) :=
  br x2
    ((irem (a1.length : Int) r7) >>= fun r23 =>
    laws_sRow_j3 k a1 (decide (r23 = 0)))
    (laws_sRow_j3 k a1 false)
def laws_sRow_j1 (k : Nat) (a1 : List Nat) (r7 : Int) (x1 : Bool) : Option (Bool) :=
  br x1
    (laws_sRow_j2 k a1 r7 (decide ((a1.length : Int) ≤ 1000)))
    (laws_sRow_j2 k a1 r7 false)
def laws_sRow (k : Nat) (a0 : Int) (a1 : List Nat) : Option (Bool) :=
  (spec_Stride k a0) >>= fun r7 =>
  br (decide (1 ≤ a0))
    (laws_sRow_j1 k a1 r7 (decide (a0 ≤ 9)))
    (laws_sRow_j1 k a1 r7 false)

theorem laws_sRow_sim {k : Nat}  (a0 : Int) (a1 : List Nat) {out : Bool} (hp : laws_sRow k a0 a1 = some out) : Go.Sx.Fn Try.prog 10 [(Vl (.int .i64 a0)), (Sl Kf a1)] [] (fun w : Unit => (Vl (.bool out))) (fun w => []) := by
  unfold laws_sRow at hp
  refine fn_of Try.func10 rfl Try.ntmps10 rfl fun E hM => ?_
  refine cx_seq' fun K1 hK1 => ?_
  refine cx_region' ?_
  refine sx_rd' (rd_assign' rfl) rfl rfl (wt_none' rfl) ?_
  refine sx_nil' ?_
  show TX E K1 _
  refine tx_k' hK1 ?_
  refine cx_seq' fun K2 hK2 => ?_
  refine cx_region' ?_
  refine sx_rd' (rd_move' rfl) rfl rfl (wt_none' rfl) ?_
  obtain ⟨r7, hr7, hp⟩ := bind_some hp
  refine sx_ox' (ox_calln' (ent_fn' Try.func11 isn11 rfl rfl) (spec_Stride_sim _ hr7 : Go.Sx.Fn Try.prog 11 [(Vl (.int .i64 a0))] [] (fun x : Unit => (Vl (.int .i64 r7))) (fun x => [])) (Hn := fun x : Unit => []) (fun _ => rfl) rfl rfl) (wt_none' rfl) fun ⟨⟩ => ?_
  refine sx_rd' (rd_assign' rfl) rfl rfl (wt_none' rfl) ?_
  refine sx_nil' ?_
  show TX E K2 _
  refine tx_k' hK2 ?_
  refine cx_seq' fun K3 hK3 => ?_
  refine cx_region' ?_
  refine sx_rd' (rd_move' rfl) rfl rfl (wt_none' rfl) ?_
  refine sx_rd' (rd_bin' rfl rfl eg_int ru_geq) rfl rfl (wt_none' rfl) ?_
  refine sx_rd' (rd_move' rfl) rfl rfl (wt_none' rfl) ?_
  refine sx_cutn' 3 (fun (v1 : Bool) => (⟨31, [], [(1, (Sl Kf a1)), (5, (Vl (.int .i64 r7))), (13, (Vl (.bool v1)))], []⟩ : St)) (fun (v1 : Bool) => laws_sRow_j1 k a1 r7 v1 = some out) ?_ ?_
  · rintro x1 hp
    replace hp : laws_sRow_j1 k a1 r7 x1 = some out := hp
    unfold laws_sRow_j1 at hp
    refine sx_rd' (rd_move' rfl) rfl rfl (wt_none' rfl) ?_
    refine sx_cutn' 4 (fun (v2 : Bool) => (⟨31, [], [(1, (Sl Kf a1)), (5, (Vl (.int .i64 r7))), (18, (Vl (.bool v2)))], []⟩ : St)) (fun (v2 : Bool) => laws_sRow_j2 k a1 r7 v2 = some out) ?_ ?_
    · rintro x2 hp
      replace hp : laws_sRow_j2 k a1 r7 x2 = some out := hp
      unfold laws_sRow_j2 at hp
      refine sx_rd' (rd_move' rfl) rfl rfl (wt_none' rfl) ?_
      refine sx_cutn' 6 (fun (v3 : Bool) => (⟨31, [], [(1, (Sl Kf a1)), (25, (Vl (.bool v3)))], []⟩ : St)) (fun (v3 : Bool) => laws_sRow_j3 k a1 v3 = some out) ?_ ?_
      · rintro x3 hp
        replace hp : laws_sRow_j3 k a1 x3 = some out := hp
        unfold laws_sRow_j3 at hp
        refine sx_rd' (rd_move' rfl) rfl rfl (wt_none' rfl) ?_
        refine sx_cutn' 4 (fun (v4 : Bool) => (⟨31, [], [(30, (Vl (.bool v4)))], []⟩ : St)) (fun (v4 : Bool) => laws_sRow_j4 k v4 = some out) ?_ ?_
        · rintro x4 hp
          replace hp : laws_sRow_j4 k x4 = some out := hp
          unfold laws_sRow_j4 at hp
          refine sx_rd' (rd_assign' rfl) rfl rfl (wt_none' rfl) ?_
          refine sx_nil' ?_
          show TX E K3 _
          refine tx_k' hK3 ?_
          refine cx_retc' ?_
          replace hp := Option.some.inj hp
          subst hp
          refine tx_pick' (L' := [(4, (Vl (.bool x4)))]) (H' := []) [] (sub_cons rfl sub_nil) (by decide) pick_nil ?_
          exact tx_ret1' Try.results10 rfl () (rv_tmp' rfl) (List.Sublist.refl _)
        · intro K7 hK7
          rcases br_cases hp with ⟨h4, hp⟩ | ⟨h4, hp⟩
          · refine sx_rd' (rd_move' rfl) rfl rfl (wt_is' (wt_guard' rfl rfl rfl) (beq_tt h4)) ?_
            refine sx_rd' (rd_build' (pls := [(0, 1), (1, 1), (2, 1), (3, 1), (4, 1), (5, 1), (6, 1)]) (qs := [(3, [(Sl Kf a1)])]) (r := [(Vl (.int .i64 0)), (Vl (.int .i64 0)), (Vl (.int .i64 0)), (Sl Kf a1), (Vl (.slice none 0 0)), (Vl (.slice none 0 0)), (Vl (.slice none 0 0))]) ⟨rfl, ⟨_, rfl, (lv_sl _ _)⟩, trivial⟩ Try.underlying50 has50 places50 info50 rfl rfl rfl) rfl rfl (wt_is' (wt_guard' rfl rfl rfl) (beq_tt h4)) ?_
            obtain ⟨r29, hr29, hp⟩ := bind_some hp
            refine sx_ox' (ox_calln' (ent_fn' Try.func23 isn23 rfl rfl) (laws_gEach_sim _ _ _ _ hr29 : Go.Sx.Fn Try.prog 23 [(Ag [(Vl (.int .i64 0)), (Vl (.int .i64 0)), (Vl (.int .i64 0)), (Sl Kf a1), (Vl (.slice none 0 0)), (Vl (.slice none 0 0)), (Vl (.slice none 0 0))]), (Vl (.func (.func 24) #[] #[]))] [] (fun x : Unit => (Vl (.bool r29))) (fun x => [])) (Hn := fun x : Unit => []) (fun _ => rfl) rfl rfl) (wt_is' (wt_guard' rfl rfl rfl) (beq_tt h4)) fun ⟨⟩ => ?_
            refine sx_rd' (rd_pick_true' rfl h4 rfl) rfl rfl (wt_none' rfl) ?_
            refine sx_nil' ?_
            show TX E K7 _
            exact tx_pick' [] (sub_cons rfl sub_nil) (by decide) pick_nil (hK7 r29 hp)
          · refine sx_skip' rfl rfl (wt_is' (wt_guard' rfl rfl rfl) (beq_ft h4)) ?_
            refine sx_skip' rfl rfl (wt_is' (wt_guard' rfl rfl rfl) (beq_ft h4)) ?_
            refine sx_skip' rfl rfl (wt_is' (wt_guard' rfl rfl rfl) (beq_ft h4)) ?_
            refine sx_rd' (rd_pick_false' rfl h4 rfl) rfl rfl (wt_none' rfl) ?_
            refine sx_nil' ?_
            show TX E K7 _
            exact tx_pick' [] (sub_cons rfl sub_nil) (by decide) pick_nil (hK7 false hp)
      · intro K6 hK6
        rcases br_cases hp with ⟨h3, hp⟩ | ⟨h3, hp⟩
        · refine sx_rd' (rd_move' rfl) rfl rfl (wt_is' (wt_guard' rfl rfl rfl) (beq_tt h3)) ?_
          refine sx_rd' (rd_len' rfl Try.underlying22) rfl rfl (wt_is' (wt_guard' rfl rfl rfl) (beq_tt h3)) ?_
          refine sx_rd' (rd_move' rfl) rfl rfl (wt_is' (wt_guard' rfl rfl rfl) (beq_tt h3)) ?_
          obtain ⟨r23, hr23, hp⟩ := bind_some hp
          refine sx_rd' (rd_bin' rfl rfl eg_int (ru_rem hr23)) rfl rfl (wt_is' (wt_guard' rfl rfl rfl) (beq_tt h3)) ?_
          refine sx_rd' (rd_bin' rfl rfl eg_int ru_eql) rfl rfl (wt_is' (wt_guard' rfl rfl rfl) (beq_tt h3)) ?_
          refine sx_rd' (rd_pick_true' rfl h3 rfl) rfl rfl (wt_none' rfl) ?_
          refine sx_nil' ?_
          show TX E K6 _
          exact tx_pick' [] (sub_cons rfl (sub_cons rfl sub_nil)) (by decide) pick_nil (hK6 (decide (r23 = 0)) hp)
        · refine sx_skip' rfl rfl (wt_is' (wt_guard' rfl rfl rfl) (beq_ft h3)) ?_
          refine sx_skip' rfl rfl (wt_is' (wt_guard' rfl rfl rfl) (beq_ft h3)) ?_
          refine sx_skip' rfl rfl (wt_is' (wt_guard' rfl rfl rfl) (beq_ft h3)) ?_
          refine sx_skip' rfl rfl (wt_is' (wt_guard' rfl rfl rfl) (beq_ft h3)) ?_
          refine sx_skip' rfl rfl (wt_is' (wt_guard' rfl rfl rfl) (beq_ft h3)) ?_
          refine sx_rd' (rd_pick_false' rfl h3 rfl) rfl rfl (wt_none' rfl) ?_
          refine sx_nil' ?_
          show TX E K6 _
          exact tx_pick' [] (sub_cons rfl (sub_cons rfl sub_nil)) (by decide) pick_nil (hK6 false hp)
    · intro K5 hK5
      rcases br_cases hp with ⟨h2, hp⟩ | ⟨h2, hp⟩
      · refine sx_rd' (rd_move' rfl) rfl rfl (wt_is' (wt_guard' rfl rfl rfl) (beq_tt h2)) ?_
        refine sx_rd' (rd_len' rfl Try.underlying22) rfl rfl (wt_is' (wt_guard' rfl rfl rfl) (beq_tt h2)) ?_
        refine sx_rd' (rd_bin' rfl rfl eg_int ru_leq) rfl rfl (wt_is' (wt_guard' rfl rfl rfl) (beq_tt h2)) ?_
        refine sx_rd' (rd_pick_true' rfl h2 rfl) rfl rfl (wt_none' rfl) ?_
        refine sx_nil' ?_
        show TX E K5 _
        exact tx_pick' [] (sub_cons rfl (sub_cons rfl (sub_cons rfl sub_nil))) (by decide) pick_nil (hK5 (decide ((a1.length : Int) ≤ 1000)) hp)
      · refine sx_skip' rfl rfl (wt_is' (wt_guard' rfl rfl rfl) (beq_ft h2)) ?_
        refine sx_skip' rfl rfl (wt_is' (wt_guard' rfl rfl rfl) (beq_ft h2)) ?_
        refine sx_skip' rfl rfl (wt_is' (wt_guard' rfl rfl rfl) (beq_ft h2)) ?_
        refine sx_rd' (rd_pick_false' rfl h2 rfl) rfl rfl (wt_none' rfl) ?_
        refine sx_nil' ?_
        show TX E K5 _
        exact tx_pick' [] (sub_cons rfl (sub_cons rfl (sub_cons rfl sub_nil))) (by decide) pick_nil (hK5 false hp)
  · intro K4 hK4
    rcases br_cases hp with ⟨h1, hp⟩ | ⟨h1, hp⟩
    · refine sx_rd' (rd_move' rfl) rfl rfl (wt_is' (wt_guard' rfl rfl rfl) (beq_tt h1)) ?_
      refine sx_rd' (rd_bin' rfl rfl eg_int ru_leq) rfl rfl (wt_is' (wt_guard' rfl rfl rfl) (beq_tt h1)) ?_
      refine sx_rd' (rd_pick_true' rfl h1 rfl) rfl rfl (wt_none' rfl) ?_
      refine sx_nil' ?_
      show TX E K4 _
      exact tx_pick' [] (sub_cons rfl (sub_cons rfl (sub_cons rfl sub_nil))) (by decide) pick_nil (hK4 (decide (a0 ≤ 9)) hp)
    · refine sx_skip' rfl rfl (wt_is' (wt_guard' rfl rfl rfl) (beq_ft h1)) ?_
      refine sx_skip' rfl rfl (wt_is' (wt_guard' rfl rfl rfl) (beq_ft h1)) ?_
      refine sx_rd' (rd_pick_false' rfl h1 rfl) rfl rfl (wt_none' rfl) ?_
      refine sx_nil' ?_
      show TX E K4 _
      exact tx_pick' [] (sub_cons rfl (sub_cons rfl (sub_cons rfl sub_nil))) (by decide) pick_nil (hK4 false hp)

def impl_floats (k : Nat) (a0 : List Nat) : Option ((List Nat)) :=
  (apd 8 [] a0) >>= fun r4 =>
  some r4

theorem impl_floats_sim {k : Nat}  (a0 : List Nat) {out : (List Nat)} (hp : impl_floats k a0 = some out) : Go.Sx.Fn Try.prog 50 [(Sl Kf a0)] [] (fun w : Gs => (Vl (Vs w))) (fun w => [(Rw Kf 38 (Vs w) out)]) := by
  unfold impl_floats at hp
  refine fn_of Try.func50 rfl Try.ntmps50 rfl fun E hM => ?_
  refine cx_seq' fun K1 hK1 => ?_
  refine cx_region' ?_
  refine sx_rd' (rd_assign' rfl) rfl rfl (wt_none' rfl) ?_
  refine sx_nil' ?_
  show TX E K1 _
  refine tx_k' hK1 ?_
  refine cx_seq' fun K2 hK2 => ?_
  refine cx_region' ?_
  refine sx_rd' (rd_move' rfl) rfl rfl (wt_none' rfl) ?_
  refine tx_nilrow' Kf 38 ?_
  obtain ⟨r4, hr4, hp⟩ := bind_some hp
  refine sx_ox' (ox_append' (K := Kf) (i := 0) (xs := []) (ys := a0) rfl rfl rfl (sr_sl' rfl Try.underlying22) hr4 Try.underlying22 info38 rfl rfl rfl (H' := []) rfl) (wt_none' rfl) fun g4 => ?_
  refine sx_rd' (rd_assign' rfl) rfl rfl (wt_none' rfl) ?_
  refine sx_nil' ?_
  show TX E K2 _
  refine tx_k' hK2 ?_
  refine cx_retc' ?_
  replace hp := Option.some.inj hp
  subst hp
  refine tx_pick' (L' := [(2, (Vl (Vs g4)))]) (H' := [(Rw Kf 38 (Vs g4) r4)]) [0] (sub_cons rfl sub_nil) (by decide) (pick_cons rfl pick_nil) ?_
  exact tx_ret1' Try.results50 rfl g4 (rv_tmp' rfl) (List.Sublist.refl _)

def gogeom_Layout_Stride (k : Nat) (a0 : Int) : Option (Int) :=
  br (decide (a0 = 0))
    (some 0)
    (br (decide (a0 = 1))
      (some 2)
      (br (decide (a0 = 2))
        (some 3)
        (br (decide (a0 = 3))
          (some 3)
          (br (decide (a0 = 4))
            (some 4)
            (some a0)))))

theorem gogeom_Layout_Stride_sim {k : Nat}  (a0 : Int) {out : Int} (hp : gogeom_Layout_Stride k a0 = some out) : Go.Sx.Fn Try.prog 133 [(Vl (.int .i64 a0))] [] (fun w : Unit => (Vl (.int .i64 out))) (fun w => []) := by
  unfold gogeom_Layout_Stride at hp
  refine fn_of Try.func133 rfl Try.ntmps133 rfl fun E hM => ?_
  refine cx_seq' fun K1 hK1 => ?_
  refine cx_region' ?_
  refine sx_rd' (rd_assign' rfl) rfl rfl (wt_none' rfl) ?_
  refine sx_nil' ?_
  show TX E K1 _
  refine tx_k' hK1 ?_
  refine cx_seq' fun K2 hK2 => ?_
  refine cx_region' ?_
  refine sx_rd' (rd_move' rfl) rfl rfl (wt_none' rfl) ?_
  refine sx_nil' ?_
  show TX E K2 _
  refine tx_k' hK2 ?_
  refine cx_block' ?_
  refine cx_seq' fun K3 hK3 => ?_
  refine cx_region' ?_
  refine sx_rd' (rd_bin' rfl rfl eg_int ru_eql) rfl rfl (wt_none' rfl) ?_
  refine sx_rd' (rd_assign' rfl) rfl rfl (wt_none' rfl) ?_
  refine sx_nil' ?_
  show TX E K3 _
  refine tx_k' hK3 ?_
  refine cx_cond' rfl (fun h1 => ?_) (fun h1 => ?_)
  · replace hp := (br_t h1).symm.trans hp
    refine cx_seq' fun K4 hK4 => ?_
    refine cx_region' ?_
    refine sx_rd' (rd_assign' rfl) rfl rfl (wt_none' rfl) ?_
    refine sx_nil' ?_
    show TX E K4 _
    refine tx_k' hK4 ?_
    refine cx_retc' ?_
    replace hp := Option.some.inj hp
    subst hp
    refine tx_pick' (L' := [(2, (Vl (.int .i64 0)))]) (H' := []) [] (sub_cons rfl sub_nil) (by decide) pick_nil ?_
    exact tx_ret1' Try.results133 rfl () (rv_tmp' rfl) (List.Sublist.refl _)
  · replace hp := (br_f h1).symm.trans hp
    refine cx_seq' fun K5 hK5 => ?_
    refine cx_region' ?_
    refine sx_rd' (rd_bin' rfl rfl eg_int ru_eql) rfl rfl (wt_none' rfl) ?_
    refine sx_rd' (rd_assign' rfl) rfl rfl (wt_none' rfl) ?_
    refine sx_nil' ?_
    show TX E K5 _
    refine tx_k' hK5 ?_
    refine cx_cond' rfl (fun h2 => ?_) (fun h2 => ?_)
    · replace hp := (br_t h2).symm.trans hp
      refine cx_seq' fun K6 hK6 => ?_
      refine cx_region' ?_
      refine sx_rd' (rd_assign' rfl) rfl rfl (wt_none' rfl) ?_
      refine sx_nil' ?_
      show TX E K6 _
      refine tx_k' hK6 ?_
      refine cx_retc' ?_
      replace hp := Option.some.inj hp
      subst hp
      refine tx_pick' (L' := [(2, (Vl (.int .i64 2)))]) (H' := []) [] (sub_cons rfl sub_nil) (by decide) pick_nil ?_
      exact tx_ret1' Try.results133 rfl () (rv_tmp' rfl) (List.Sublist.refl _)
    · replace hp := (br_f h2).symm.trans hp
      refine cx_seq' fun K7 hK7 => ?_
      refine cx_region' ?_
      refine sx_rd' (rd_bin' rfl rfl eg_int ru_eql) rfl rfl (wt_none' rfl) ?_
      refine sx_rd' (rd_assign' rfl) rfl rfl (wt_none' rfl) ?_
      refine sx_nil' ?_
      show TX E K7 _
      refine tx_k' hK7 ?_
      refine cx_cond' rfl (fun h3 => ?_) (fun h3 => ?_)
      · replace hp := (br_t h3).symm.trans hp
        refine cx_seq' fun K8 hK8 => ?_
        refine cx_region' ?_
        refine sx_rd' (rd_assign' rfl) rfl rfl (wt_none' rfl) ?_
        refine sx_nil' ?_
        show TX E K8 _
        refine tx_k' hK8 ?_
        refine cx_retc' ?_
        replace hp := Option.some.inj hp
        subst hp
        refine tx_pick' (L' := [(2, (Vl (.int .i64 3)))]) (H' := []) [] (sub_cons rfl sub_nil) (by decide) pick_nil ?_
        exact tx_ret1' Try.results133 rfl () (rv_tmp' rfl) (List.Sublist.refl _)
      · replace hp := (br_f h3).symm.trans hp
        refine cx_seq' fun K9 hK9 => ?_
        refine cx_region' ?_
        refine sx_rd' (rd_bin' rfl rfl eg_int ru_eql) rfl rfl (wt_none' rfl) ?_
        refine sx_rd' (rd_assign' rfl) rfl rfl (wt_none' rfl) ?_
        refine sx_nil' ?_
        show TX E K9 _
        refine tx_k' hK9 ?_
        refine cx_cond' rfl (fun h4 => ?_) (fun h4 => ?_)
        · replace hp := (br_t h4).symm.trans hp
          refine cx_seq' fun K10 hK10 => ?_
          refine cx_region' ?_
          refine sx_rd' (rd_assign' rfl) rfl rfl (wt_none' rfl) ?_
          refine sx_nil' ?_
          show TX E K10 _
          refine tx_k' hK10 ?_
          refine cx_retc' ?_
          replace hp := Option.some.inj hp
          subst hp
          refine tx_pick' (L' := [(2, (Vl (.int .i64 3)))]) (H' := []) [] (sub_cons rfl sub_nil) (by decide) pick_nil ?_
          exact tx_ret1' Try.results133 rfl () (rv_tmp' rfl) (List.Sublist.refl _)
        · replace hp := (br_f h4).symm.trans hp
          refine cx_seq' fun K11 hK11 => ?_
          refine cx_region' ?_
          refine sx_rd' (rd_bin' rfl rfl eg_int ru_eql) rfl rfl (wt_none' rfl) ?_
          refine sx_rd' (rd_assign' rfl) rfl rfl (wt_none' rfl) ?_
          refine sx_nil' ?_
          show TX E K11 _
          refine tx_k' hK11 ?_
          refine cx_cond' rfl (fun h5 => ?_) (fun h5 => ?_)
          · replace hp := (br_t h5).symm.trans hp
            refine cx_seq' fun K12 hK12 => ?_
            refine cx_region' ?_
            refine sx_rd' (rd_assign' rfl) rfl rfl (wt_none' rfl) ?_
            refine sx_nil' ?_
            show TX E K12 _
            refine tx_k' hK12 ?_
            refine cx_retc' ?_
            replace hp := Option.some.inj hp
            subst hp
            refine tx_pick' (L' := [(2, (Vl (.int .i64 4)))]) (H' := []) [] (sub_cons rfl sub_nil) (by decide) pick_nil ?_
            exact tx_ret1' Try.results133 rfl () (rv_tmp' rfl) (List.Sublist.refl _)
          · replace hp := (br_f h5).symm.trans hp
            refine cx_seq' fun K13 hK13 => ?_
            refine cx_region' ?_
            refine sx_rd' (rd_move' rfl) rfl rfl (wt_none' rfl) ?_
            refine sx_rd' (rd_assign' rfl) rfl rfl (wt_none' rfl) ?_
            refine sx_nil' ?_
            show TX E K13 _
            refine tx_k' hK13 ?_
            refine cx_retc' ?_
            replace hp := Option.some.inj hp
            subst hp
            refine tx_pick' (L' := [(2, (Vl (.int .i64 a0)))]) (H' := []) [] (sub_cons rfl sub_nil) (by decide) pick_nil ?_
            exact tx_ret1' Try.results133 rfl () (rv_tmp' rfl) (List.Sublist.refl _)

def sorting_NewFlatCoordSorting (k : Nat) (a0 : Int) (a1 : List Nat) : Option ((List Nat) × Int × Int) :=
  (gogeom_Layout_Stride k a0) >>= fun r11 =>
  some (a1, a0, r11)

theorem sorting_NewFlatCoordSorting_sim {k : Nat} {wa1 : Gs} (a0 : Int) (a1 : List Nat) {out : (List Nat) × Int × Int} (hp : sorting_NewFlatCoordSorting k a0 a1 = some out) : Go.Sx.Fn Try.prog 96 [(Vl (.int .i64 a0)), (Vl (Vs wa1)), (Vl (.func (.func 97) #[] #[]))] [(Rw Kf 38 (Vs wa1) a1)] (fun w : Unit => (Ag [(Vl (.func (.func 97) #[] #[])), (Vl (Vs wa1)), (Vl (.int .i64 out.2.1)), (Vl (.int .i64 out.2.2))])) (fun w => [(Rw Kf 38 (Vs wa1) out.1)]) := by
  unfold sorting_NewFlatCoordSorting at hp
  refine fn_of Try.func96 rfl Try.ntmps96 rfl fun E hM => ?_
  refine cx_seq' fun K1 hK1 => ?_
  refine cx_region' ?_
  refine sx_ox' (ox_alloc' info104 rfl rfl rfl rfl (l := [(Vl .nilFunc), (Vl (.slice none 0 0)), (Vl (.int .i64 0)), (Vl (.int .i64 0))]) rfl) (wt_none' rfl) fun q6 => ?_
  refine sx_nil' ?_
  show TX E K1 _
  refine tx_k' hK1 ?_
  refine cx_seq' fun K2 hK2 => ?_
  refine cx_region' ?_
  refine sx_rd' (rd_move' rfl) rfl rfl (wt_none' rfl) ?_
  refine sx_rd' (rd_move' rfl) rfl rfl (wt_none' rfl) ?_
  refine sx_rd' (rd_move' rfl) rfl rfl (wt_none' rfl) ?_
  refine sx_rd' (rd_move' rfl) rfl rfl (wt_none' rfl) ?_
  obtain ⟨r11, hr11, hp⟩ := bind_some hp
  refine sx_ox' (ox_calln' (ent_fn' Try.func133 isn133 rfl rfl) (gogeom_Layout_Stride_sim _ hr11 : Go.Sx.Fn Try.prog 133 [(Vl (.int .i64 a0))] [] (fun x : Unit => (Vl (.int .i64 r11))) (fun x => [])) (Hn := fun x : Unit => [⟨.pointer (some q6), [(Vl .nilFunc), (Vl (.slice none 0 0)), (Vl (.int .i64 0)), (Vl (.int .i64 0))], 104, none⟩, (Rw Kf 38 (Vs wa1) a1)]) (fun _ => rfl) rfl rfl) (wt_none' rfl) fun ⟨⟩ => ?_
  refine sx_rd' (rd_build' (pls := [(0, 1), (1, 1), (2, 1), (3, 1)]) (qs := [(0, [(Vl (.func (.func 97) #[] #[]))]), (1, [(Vl (Vs wa1))]), (2, [(Vl (.int .i64 a0))]), (3, [(Vl (.int .i64 r11))])]) (r := [(Vl (.func (.func 97) #[] #[])), (Vl (Vs wa1)), (Vl (.int .i64 a0)), (Vl (.int .i64 r11))]) ⟨rfl, ⟨_, rfl, (lv_vl rfl rfl)⟩, ⟨rfl, ⟨_, rfl, (lv_vl rfl rfl)⟩, ⟨rfl, ⟨_, rfl, (lv_vl rfl rfl)⟩, ⟨rfl, ⟨_, rfl, (lv_vl rfl rfl)⟩, trivial⟩⟩⟩⟩ Try.underlying104 has104 places104 info104 rfl rfl rfl) rfl rfl (wt_none' rfl) ?_
  refine sx_ox' (ox_store' (i := 0) (o := 0) rfl rfl (lv_ag _) ⟨rfl, rfl, rfl, rfl⟩ rfl info104 rfl (H' := [⟨.pointer (some q6), [(Vl (.func (.func 97) #[] #[])), (Vl (Vs wa1)), (Vl (.int .i64 a0)), (Vl (.int .i64 r11))], 104, none⟩, (Rw Kf 38 (Vs wa1) a1)]) rfl) (wt_none' rfl) fun _ => ?_
  refine sx_nil' ?_
  show TX E K2 _
  refine tx_k' hK2 ?_
  refine cx_retc' ?_
  replace hp := Option.some.inj hp
  subst hp
  refine tx_pick' (L' := [(6, (Vl (.pointer (some q6))))]) (H' := [(Rw Kf 38 (Vs wa1) a1), ⟨.pointer (some q6), [(Vl (.func (.func 97) #[] #[])), (Vl (Vs wa1)), (Vl (.int .i64 a0)), (Vl (.int .i64 r11))], 104, none⟩]) [1, 0] (sub_cons rfl sub_nil) (by decide) (pick_cons rfl (pick_cons rfl pick_nil)) ?_
  exact tx_ret1' Try.results96 rfl () (rv_cell_agg' (i := 1) (o := 0) (nn := 4) rfl ⟨rfl, rfl, rfl, rfl⟩ rfl agg104 rfl) (List.Sublist.cons_cons _ (List.nil_sublist _))

def sorting_NewFlatCoordSorting2D (k : Nat) (a0 : Int) (a1 : List Nat) : Option ((List Nat) × Int × Int) :=
  (sorting_NewFlatCoordSorting k a0 a1) >>= fun r7 =>
  some (r7.1, r7.2.1, r7.2.2)

theorem sorting_NewFlatCoordSorting2D_sim {k : Nat} {wa1 : Gs} (a0 : Int) (a1 : List Nat) {out : (List Nat) × Int × Int} (hp : sorting_NewFlatCoordSorting2D k a0 a1 = some out) : Go.Sx.Fn Try.prog 51 [(Vl (.int .i64 a0)), (Vl (Vs wa1))] [(Rw Kf 38 (Vs wa1) a1)] (fun w : Unit => (Ag [(Vl (.func (.func 97) #[] #[])), (Vl (Vs wa1)), (Vl (.int .i64 out.2.1)), (Vl (.int .i64 out.2.2))])) (fun w => [(Rw Kf 38 (Vs wa1) out.1)]) := by
  unfold sorting_NewFlatCoordSorting2D at hp
  refine fn_of Try.func51 rfl Try.ntmps51 rfl fun E hM => ?_
  refine cx_seq' fun K1 hK1 => ?_
  refine cx_region' ?_
  refine sx_ox' (ox_alloc' info104 rfl rfl rfl rfl (l := [(Vl .nilFunc), (Vl (.slice none 0 0)), (Vl (.int .i64 0)), (Vl (.int .i64 0))]) rfl) (wt_none' rfl) fun q4 => ?_
  refine sx_nil' ?_
  show TX E K1 _
  refine tx_k' hK1 ?_
  refine cx_seq' fun K2 hK2 => ?_
  refine cx_region' ?_
  refine sx_rd' (rd_move' rfl) rfl rfl (wt_none' rfl) ?_
  refine sx_rd' (rd_move' rfl) rfl rfl (wt_none' rfl) ?_
  obtain ⟨r7, hr7, hp⟩ := bind_some hp
  refine sx_ox' (ox_callg' (ent_fn' Try.func96 isn96 rfl rfl) (sorting_NewFlatCoordSorting_sim _ _ hr7 : Go.Sx.Fn Try.prog 96 [(Vl (.int .i64 a0)), (Vl (Vs wa1)), (Vl (.func (.func 97) #[] #[]))] [(Rw Kf 38 (Vs wa1) a1)] (fun x : Unit => (Ag [(Vl (.func (.func 97) #[] #[])), (Vl (Vs wa1)), (Vl (.int .i64 r7.2.1)), (Vl (.int .i64 r7.2.2))])) (fun x => [(Rw Kf 38 (Vs wa1) r7.1)])) [1] [0] (by decide) (pick_cons rfl pick_nil) (pick_cons rfl pick_nil) (Hn := fun x : Unit => [(Rw Kf 38 (Vs wa1) r7.1), ⟨.pointer (some q4), [(Vl .nilFunc), (Vl (.slice none 0 0)), (Vl (.int .i64 0)), (Vl (.int .i64 0))], 104, none⟩]) (fun _ => rfl) rfl rfl) (wt_none' rfl) fun ⟨⟩ => ?_
  refine sx_ox' (ox_store' (i := 1) (o := 0) rfl rfl (lv_ag _) ⟨rfl, rfl, rfl, rfl⟩ rfl info104 rfl (H' := [(Rw Kf 38 (Vs wa1) r7.1), ⟨.pointer (some q4), [(Vl (.func (.func 97) #[] #[])), (Vl (Vs wa1)), (Vl (.int .i64 r7.2.1)), (Vl (.int .i64 r7.2.2))], 104, none⟩]) rfl) (wt_none' rfl) fun _ => ?_
  refine sx_nil' ?_
  show TX E K2 _
  refine tx_k' hK2 ?_
  refine cx_retc' ?_
  replace hp := Option.some.inj hp
  subst hp
  refine tx_pick' (L' := [(4, (Vl (.pointer (some q4))))]) (H' := [(Rw Kf 38 (Vs wa1) r7.1), ⟨.pointer (some q4), [(Vl (.func (.func 97) #[] #[])), (Vl (Vs wa1)), (Vl (.int .i64 r7.2.1)), (Vl (.int .i64 r7.2.2))], 104, none⟩]) [0, 1] (sub_cons rfl sub_nil) (by decide) (pick_cons rfl (pick_cons rfl pick_nil)) ?_
  exact tx_ret1' Try.results51 rfl () (rv_cell_agg' (i := 1) (o := 0) (nn := 4) rfl ⟨rfl, rfl, rfl, rfl⟩ rfl agg104 rfl) (List.Sublist.cons_cons _ (List.nil_sublist _))

def sorting_FlatCoord_Swap_l1s (a0_3 : Int) (a2 : Int) (a1 : Int) (k : Nat) (rec1 : ((List Nat) × Int) → Option ((List Nat))) (x1 : List Nat) (x2 : Int) : Option ((List Nat)) :=
  br (decide (x2 < a0_3))
    ((idx x1 (iadd .i64 (imul .i64 a2 a0_3) x2)) >>= fun r36 =>
    (idx x1 (iadd .i64 (imul .i64 a1 a0_3) x2)) >>= fun r46 =>
    (idx x1 (iadd .i64 (imul .i64 a1 a0_3) x2)) >>= fun r48 =>
    (idx (x1.set (iadd .i64 (imul .i64 a1 a0_3) x2).toNat r36) (iadd .i64 (imul .i64 a2 a0_3) x2)) >>= fun r49 =>
    rec1 (((x1.set (iadd .i64 (imul .i64 a1 a0_3) x2).toNat r36).set (iadd .i64 (imul .i64 a2 a0_3) x2).toNat r46), (iadd .i64 x2 1)))
    (some x1)
def sorting_FlatCoord_Swap_l1 (a0_3 : Int) (a2 : Int) (a1 : Int) : Nat → ((List Nat) × Int) → Option ((List Nat))
  | 0, _ => none
  | k + 1, v => sorting_FlatCoord_Swap_l1s a0_3 a2 a1 k (sorting_FlatCoord_Swap_l1 a0_3 a2 a1 k) v.1 v.2
def sorting_FlatCoord_Swap (k : Nat) (a0_1 : List Nat) (a0_2 : Int) (a0_3 : Int) (a1 : Int) (a2 : Int) : Option ((List Nat)) :=
  (sorting_FlatCoord_Swap_l1 a0_3 a2 a1 k (a0_1, 0)) >>= fun v2 =>
  some v2

theorem sorting_FlatCoord_Swap_sim {k : Nat} {wa0_1 : Gs} (a0_1 : List Nat) (a0_2 : Int) (a0_3 : Int) (a1 : Int) (a2 : Int) {out : (List Nat)} (hp : sorting_FlatCoord_Swap k a0_1 a0_2 a0_3 a1 a2 = some out) : Go.Sx.Fn Try.prog 52 [(Ag [(Vl (.func (.func 97) #[] #[])), (Vl (Vs wa0_1)), (Vl (.int .i64 a0_2)), (Vl (.int .i64 a0_3))]), (Vl (.int .i64 a1)), (Vl (.int .i64 a2))] [(Rw Kf 38 (Vs wa0_1) a0_1)] (fun w : Unit => (Vl (.tuple #[]))) (fun w => [(Rw Kf 38 (Vs wa0_1) out)]) := by
  unfold sorting_FlatCoord_Swap at hp
  refine fn_of Try.func52 rfl Try.ntmps52 rfl fun E hM => ?_
  refine cx_seq' fun K1 hK1 => ?_
  refine cx_region' ?_
  refine sx_ox' (ox_box' rfl (lv_ag _) rfl rfl) (wt_none' rfl) fun q3 => ?_
  refine sx_nil' ?_
  show TX E K1 _
  refine tx_k' hK1 ?_
  refine cx_seq' fun K2 hK2 => ?_
  refine cx_region' ?_
  refine sx_rd' (rd_field' (off := 3) rfl Try.underlying104 rfl info3 rfl) rfl rfl (wt_none' rfl) ?_
  refine sx_rd' (rd_load' (i := 0) (o := 3) rfl ⟨rfl, rfl, rfl, rfl⟩ rfl flat3) rfl rfl (wt_none' rfl) ?_
  refine sx_rd' (rd_move' rfl) rfl rfl (wt_none' rfl) ?_
  refine sx_nil' ?_
  show TX E K2 _
  refine tx_k' hK2 ?_
  refine cx_block' ?_
  obtain ⟨v2, hy1, hp⟩ := bind_some hp
  refine cx_loopg' (F := sorting_FlatCoord_Swap_l1 a0_3 a2 a1) (G := fun k R v => sorting_FlatCoord_Swap_l1s a0_3 a2 a1 k R v.1 v.2) (x := (a0_1, 0)) (gh := ()) (fun (v1 : (List Nat) × Int) (w1 : Unit) => (⟨51, [], [(1, (Vl (.int .i64 a1))), (2, (Vl (.int .i64 a2))), (3, (Vl (.pointer (some q3)))), (8, (Vl (.int .i64 a0_3))), (9, (Vl (.int .i64 v1.2)))], [⟨.pointer (some q3), [(Vl (.func (.func 97) #[] #[])), (Vl (Vs wa0_1)), (Vl (.int .i64 a0_2)), (Vl (.int .i64 a0_3))], 104, none⟩, (Rw Kf 38 (Vs wa0_1) v1.1)]⟩ : St)) (fun (v2 : (List Nat)) => Zg E (Exit.exit 0) (fun (w2 : Unit) => (⟨51, [], [], [(Rw Kf 38 (Vs wa0_1) v2)]⟩ : St))) (fun _ => rfl) (fun _ _ => rfl) ?_ hy1 (tx_to' rfl [0, 1] (sub_cons rfl (sub_cons rfl (sub_cons rfl (sub_cons rfl (sub_cons rfl sub_nil))))) (by decide) (pick_cons rfl (pick_cons rfl pick_nil))) ?_
  · clear hp hy1
    clear v2
    intro k rec1 KY1 ih1
    rintro ⟨x1, x2⟩ ⟨⟩ y1 hp
    replace hp : sorting_FlatCoord_Swap_l1s a0_3 a2 a1 k rec1 x1 x2 = some y1 := hp
    unfold sorting_FlatCoord_Swap_l1s at hp
    refine cx_seq' fun K7 hK7 => ?_
    refine cx_region' ?_
    refine sx_rd' (rd_bin' rfl rfl eg_int ru_lss) rfl rfl (wt_none' rfl) ?_
    refine sx_nil' ?_
    show TX E K7 _
    refine tx_k' hK7 ?_
    refine cx_seq' fun K8 hK8 => ?_
    refine cx_cond' rfl (fun h3 => ?_) (fun h3 => ?_)
    · replace hp := (br_t h3).symm.trans hp
      refine cx_skip' ?_
      show TX E K8 _
      refine tx_k' hK8 ?_
      refine cx_seq' fun K9 hK9 => ?_
      refine cx_block' ?_
      refine cx_seq' fun K10 hK10 => ?_
      refine cx_region' ?_
      refine sx_rd' (rd_move' rfl) rfl rfl (wt_none' rfl) ?_
      refine sx_rd' (rd_assign' rfl) rfl rfl (wt_none' rfl) ?_
      refine sx_nil' ?_
      show TX E K10 _
      refine tx_k' hK10 ?_
      refine cx_plan' [q3.block] [(37, 1), (39, 1)] [(0, 1), (1, 1), (2, 1), (3, 1), (4, 1), (5, 1), (6, 1), (7, 1), (8, 2), (9, 2), (10, 2), (11, 2), (12, 2), (13, 2), (14, 2), (15, 2), (16, 1), (17, 1), (18, 1), (19, 1), (20, 1), (21, 1), (22, 1), (23, 1), (24, 1), (25, 1), (26, 1), (27, 1), (28, 1), (29, 1), (30, 1), (31, 1), (32, 1), (33, 1), (34, 1), (35, 1), (36, 1), (37, 0), (38, 1), (39, 0)] mixed (by kernel_rfl) ?_
      refine px_rd' rfl (rd_field' (off := 1) rfl Try.underlying104 rfl info22 rfl) rfl rfl (wt_none' rfl) ?_
      refine px_rd' rfl (rd_load' (i := 0) (o := 1) rfl ⟨rfl, rfl, rfl, rfl⟩ rfl flat22) rfl rfl (wt_none' rfl) ?_
      refine px_rd' rfl (rd_move' rfl) rfl rfl (wt_none' rfl) ?_
      refine px_rd' rfl (rd_field' (off := 3) rfl Try.underlying104 rfl info3 rfl) rfl rfl (wt_none' rfl) ?_
      refine px_rd' rfl (rd_load' (i := 0) (o := 3) rfl ⟨rfl, rfl, rfl, rfl⟩ rfl flat3) rfl rfl (wt_none' rfl) ?_
      refine px_rd' rfl (rd_bin' rfl rfl eg_int ru_mul) rfl rfl (wt_none' rfl) ?_
      refine px_rd' rfl (rd_move' rfl) rfl rfl (wt_none' rfl) ?_
      refine px_rd' rfl (rd_bin' rfl rfl eg_int ru_add) rfl rfl (wt_none' rfl) ?_
      refine px_rb' rfl (rb_field' (off := 1) rfl Try.underlying104 rfl info22 rfl) rfl rfl (wt_none' rfl) ?_
      refine px_rb' rfl (rb_load' (i := 0) (o := 1) rfl ⟨rfl, rfl, rfl, rfl⟩ rfl flat22 (by simp)) rfl rfl (wt_none' rfl) ?_
      refine px_rb' rfl (rb_move' rfl) rfl rfl (wt_none' rfl) ?_
      refine px_rb' rfl (rb_field' (off := 3) rfl Try.underlying104 rfl info3 rfl) rfl rfl (wt_none' rfl) ?_
      refine px_rb' rfl (rb_load' (i := 0) (o := 3) rfl ⟨rfl, rfl, rfl, rfl⟩ rfl flat3 (by simp)) rfl rfl (wt_none' rfl) ?_
      refine px_rb' rfl (rb_bin' rfl rfl eg_int ru_mul) rfl rfl (wt_none' rfl) ?_
      refine px_rb' rfl (rb_move' rfl) rfl rfl (wt_none' rfl) ?_
      refine px_rb' rfl (rb_bin' rfl rfl eg_int ru_add) rfl rfl (wt_none' rfl) ?_
      refine px_rd' rfl (rd_field' (off := 1) rfl Try.underlying104 rfl info22 rfl) rfl rfl (wt_none' rfl) ?_
      refine px_rd' rfl (rd_load' (i := 0) (o := 1) rfl ⟨rfl, rfl, rfl, rfl⟩ rfl flat22) rfl rfl (wt_none' rfl) ?_
      refine px_rd' rfl (rd_move' rfl) rfl rfl (wt_none' rfl) ?_
      refine px_rd' rfl (rd_field' (off := 3) rfl Try.underlying104 rfl info3 rfl) rfl rfl (wt_none' rfl) ?_
      refine px_rd' rfl (rd_load' (i := 0) (o := 3) rfl ⟨rfl, rfl, rfl, rfl⟩ rfl flat3) rfl rfl (wt_none' rfl) ?_
      refine px_rd' rfl (rd_bin' rfl rfl eg_int ru_mul) rfl rfl (wt_none' rfl) ?_
      refine px_rd' rfl (rd_move' rfl) rfl rfl (wt_none' rfl) ?_
      refine px_rd' rfl (rd_bin' rfl rfl eg_int ru_add) rfl rfl (wt_none' rfl) ?_
      obtain ⟨r36, hr36, hp⟩ := bind_some hp
      refine px_rd' rfl (rd_atr' (m := 1) rfl rfl rfl rfl hr36 Try.underlying22 info38) rfl rfl (wt_none' rfl) ?_
      refine px_rd' rfl (rd_loadr' rfl (m := 1) (i := (iadd .i64 (imul .i64 a2 a0_3) x2)) (j := 0) rfl rfl hr36 rfl rfl flat38) rfl rfl (wt_none' rfl) ?_
      refine px_rd' rfl (rd_field' (off := 1) rfl Try.underlying104 rfl info22 rfl) rfl rfl (wt_none' rfl) ?_
      refine px_rd' rfl (rd_load' (i := 0) (o := 1) rfl ⟨rfl, rfl, rfl, rfl⟩ rfl flat22) rfl rfl (wt_none' rfl) ?_
      refine px_rd' rfl (rd_move' rfl) rfl rfl (wt_none' rfl) ?_
      refine px_rd' rfl (rd_field' (off := 3) rfl Try.underlying104 rfl info3 rfl) rfl rfl (wt_none' rfl) ?_
      refine px_rd' rfl (rd_load' (i := 0) (o := 3) rfl ⟨rfl, rfl, rfl, rfl⟩ rfl flat3) rfl rfl (wt_none' rfl) ?_
      refine px_rd' rfl (rd_bin' rfl rfl eg_int ru_mul) rfl rfl (wt_none' rfl) ?_
      refine px_rd' rfl (rd_move' rfl) rfl rfl (wt_none' rfl) ?_
      refine px_rd' rfl (rd_bin' rfl rfl eg_int ru_add) rfl rfl (wt_none' rfl) ?_
      obtain ⟨r46, hr46, hp⟩ := bind_some hp
      refine px_rd' rfl (rd_atr' (m := 1) rfl rfl rfl rfl hr46 Try.underlying22 info38) rfl rfl (wt_none' rfl) ?_
      refine px_rd' rfl (rd_loadr' rfl (m := 1) (i := (iadd .i64 (imul .i64 a1 a0_3) x2)) (j := 0) rfl rfl hr46 rfl rfl flat38) rfl rfl (wt_none' rfl) ?_
      obtain ⟨r48, hr48, hp⟩ := bind_some hp
      refine px_rd' rfl (rd_atr' (m := 1) rfl rfl rfl rfl hr48 Try.underlying22 info38) rfl rfl (wt_none' rfl) ?_
      refine px_ox' rfl (ox_storer' (m := 1) (i := (iadd .i64 (imul .i64 a1 a0_3) x2)) (j := 0) (x' := r36) rfl rfl (lv_vl rfl rfl) rfl rfl hr48 rfl rfl rfl info38 rfl (H' := [⟨.pointer (some q3), [(Vl (.func (.func 97) #[] #[])), (Vl (Vs wa0_1)), (Vl (.int .i64 a0_2)), (Vl (.int .i64 a0_3))], 104, none⟩, (Rw Kf 38 (Vs wa0_1) (x1.set (iadd .i64 (imul .i64 a1 a0_3) x2).toNat r36))]) rfl) rfl (bs_cons (m := 0) rfl rfl rfl bs_nil) (wt_none' rfl) fun _ => ?_
      obtain ⟨r49, hr49, hp⟩ := bind_some hp
      refine px_rd' rfl (rd_atr' (m := 1) rfl rfl rfl rfl hr49 Try.underlying22 info38) rfl rfl (wt_none' rfl) ?_
      refine px_ox' rfl (ox_storer' (m := 1) (i := (iadd .i64 (imul .i64 a2 a0_3) x2)) (j := 0) (x' := r46) rfl rfl (lv_vl rfl rfl) rfl rfl hr49 rfl rfl rfl info38 rfl (H' := [⟨.pointer (some q3), [(Vl (.func (.func 97) #[] #[])), (Vl (Vs wa0_1)), (Vl (.int .i64 a0_2)), (Vl (.int .i64 a0_3))], 104, none⟩, (Rw Kf 38 (Vs wa0_1) ((x1.set (iadd .i64 (imul .i64 a1 a0_3) x2).toNat r36).set (iadd .i64 (imul .i64 a2 a0_3) x2).toNat r46))]) rfl) rfl (bs_cons (m := 0) rfl rfl rfl bs_nil) (wt_none' rfl) fun _ => ?_
      refine px_nil' ?_
      show TX E K9 _
      refine tx_k' hK9 ?_
      refine cx_region' ?_
      refine sx_rd' (rd_bin' rfl rfl eg_int ru_add) rfl rfl (wt_none' rfl) ?_
      refine sx_rd' (rd_move' rfl) rfl rfl (wt_none' rfl) ?_
      refine sx_nil' ?_
      show TX E (KY1 _) _
      exact tx_pick' [0, 1] (sub_cons rfl (sub_cons rfl (sub_cons rfl (sub_cons rfl (sub_cons rfl sub_nil))))) (by decide) (pick_cons rfl (pick_cons rfl pick_nil)) (ih1 (((x1.set (iadd .i64 (imul .i64 a1 a0_3) x2).toNat r36).set (iadd .i64 (imul .i64 a2 a0_3) x2).toNat r46), (iadd .i64 x2 1)) () _ hp)
    · replace hp := (br_f h3).symm.trans hp
      refine cx_exit' ?_
      replace hp := Option.some.inj hp
      subst hp
      show TX E (Zg E (Exit.exit 0) _ (Exit.exit 0)) _
      exact tx_zend' () rfl [1] sub_nil (by decide) (pick_cons rfl pick_nil)
  · refine zg_out fun w2 => ?_
    replace hp := Option.some.inj hp
    subst hp
    refine tx_pick' (L' := []) (H' := [(Rw Kf 38 (Vs wa0_1) v2)]) [0] sub_nil (by decide) (pick_cons rfl pick_nil) ?_
    exact tx_end0' Try.results52 rfl () rfl (List.Sublist.refl _)

def impl_SortSwap (k : Nat) (a0 : Int) (a1 : List Nat) (a2 : Int) (a3 : Int) : Option ((List Nat) × Bool) :=
  (impl_floats k a1) >>= fun r13 =>
  (sorting_NewFlatCoordSorting2D k a0 r13) >>= fun r16 =>
  (sorting_FlatCoord_Swap k r16.1 r16.2.1 r16.2.2 a2 a3) >>= fun r19 =>
  some (r19, true)

theorem impl_SortSwap_sim {k : Nat}  (a0 : Int) (a1 : List Nat) (a2 : Int) (a3 : Int) {out : (List Nat) × Bool} (hp : impl_SortSwap k a0 a1 a2 a3 = some out) : Go.Sx.Fn Try.prog 12 [(Vl (.int .i64 a0)), (Sl Kf a1), (Vl (.int .i64 a2)), (Vl (.int .i64 a3))] [] (fun w : Unit => (Tu [(Sl Kf out.1), (Vl (.bool out.2))])) (fun w => []) := by
  unfold impl_SortSwap at hp
  refine fnD_of Try.func12 rfl Try.ntmps12 rfl fun E hM => ?_
  refine cx_seq' fun K1 hK1 => ?_
  refine cx_region' ?_
  refine sx_ox' (ox_alloc' info22 rfl rfl rfl rfl (l := [(Vl (.slice none 0 0))]) rfl) (wt_none' rfl) fun q8 => ?_
  refine sx_ox' (ox_alloc' info4 rfl rfl rfl rfl (l := [(Vl (.bool false))]) rfl) (wt_none' rfl) fun q9 => ?_
  refine sx_nil' ?_
  show TX E K1 _
  refine tx_k' hK1 ?_
  refine cx_seq' fun K2 hK2 => ?_
  refine cx_region' ?_
  refine sx_rd' (rd_mkfunc' (us := [.pointer (some q8), .pointer (some q9)]) rfl) rfl rfl (wt_none' rfl) ?_
  refine sx_ox' (ox_defer' rfl rfl) (wt_none' rfl) fun _ => ?_
  refine sx_nil' ?_
  show TX E K2 _
  refine tx_k' hK2 ?_
  refine cx_seq' fun K3 hK3 => ?_
  refine cx_region' ?_
  refine sx_rd' (rd_move' rfl) rfl rfl (wt_none' rfl) ?_
  obtain ⟨r13, hr13, hp⟩ := bind_some hp
  refine sx_ox' (ox_calln' (ent_fn' Try.func50 isn50 rfl rfl) (impl_floats_sim _ hr13 : Go.Sx.Fn Try.prog 50 [(Sl Kf a1)] [] (fun x : Gs => (Vl (Vs x))) (fun x => [(Rw Kf 38 (Vs x) r13)])) (Hn := fun x : Gs => [(Rw Kf 38 (Vs x) r13), ⟨.pointer (some q9), [(Vl (.bool false))], 4, none⟩, ⟨.pointer (some q8), [(Vl (.slice none 0 0))], 22, none⟩]) (fun _ => rfl) rfl rfl) (wt_none' rfl) fun g13 => ?_
  refine sx_rd' (rd_assign' rfl) rfl rfl (wt_none' rfl) ?_
  refine sx_nil' ?_
  show TX E K3 _
  refine tx_k' hK3 ?_
  refine cx_seq' fun K4 hK4 => ?_
  refine cx_region' ?_
  refine sx_rd' (rd_move' rfl) rfl rfl (wt_none' rfl) ?_
  refine sx_rd' (rd_move' rfl) rfl rfl (wt_none' rfl) ?_
  obtain ⟨r16, hr16, hp⟩ := bind_some hp
  refine sx_ox' (ox_callg' (ent_fn' Try.func51 isn51 rfl rfl) (sorting_NewFlatCoordSorting2D_sim _ _ hr16 : Go.Sx.Fn Try.prog 51 [(Vl (.int .i64 a0)), (Vl (Vs g13))] [(Rw Kf 38 (Vs g13) r13)] (fun x : Unit => (Ag [(Vl (.func (.func 97) #[] #[])), (Vl (Vs g13)), (Vl (.int .i64 r16.2.1)), (Vl (.int .i64 r16.2.2))])) (fun x => [(Rw Kf 38 (Vs g13) r16.1)])) [0] [1, 2] (by decide) (pick_cons rfl pick_nil) (pick_cons rfl (pick_cons rfl pick_nil)) (Hn := fun x : Unit => [(Rw Kf 38 (Vs g13) r16.1), ⟨.pointer (some q9), [(Vl (.bool false))], 4, none⟩, ⟨.pointer (some q8), [(Vl (.slice none 0 0))], 22, none⟩]) (fun _ => rfl) rfl rfl) (wt_none' rfl) fun ⟨⟩ => ?_
  refine sx_rd' (rd_move' rfl) rfl rfl (wt_none' rfl) ?_
  refine sx_rd' (rd_move' rfl) rfl rfl (wt_none' rfl) ?_
  obtain ⟨r19, hr19, hp⟩ := bind_some hp
  refine sx_ox' (ox_callg' (ent_fn' Try.func52 isn52 rfl rfl) (sorting_FlatCoord_Swap_sim _ _ _ _ _ hr19 : Go.Sx.Fn Try.prog 52 [(Ag [(Vl (.func (.func 97) #[] #[])), (Vl (Vs g13)), (Vl (.int .i64 r16.2.1)), (Vl (.int .i64 r16.2.2))]), (Vl (.int .i64 a2)), (Vl (.int .i64 a3))] [(Rw Kf 38 (Vs g13) r16.1)] (fun x : Unit => (Vl (.tuple #[]))) (fun x => [(Rw Kf 38 (Vs g13) r19)])) [0] [1, 2] (by decide) (pick_cons rfl pick_nil) (pick_cons rfl (pick_cons rfl pick_nil)) (Hn := fun x : Unit => [(Rw Kf 38 (Vs g13) r19), ⟨.pointer (some q9), [(Vl (.bool false))], 4, none⟩, ⟨.pointer (some q8), [(Vl (.slice none 0 0))], 22, none⟩]) (fun _ => rfl) rfl rfl) (wt_none' rfl) fun ⟨⟩ => ?_
  refine sx_nil' ?_
  show TX E K4 _
  refine tx_k' hK4 ?_
  refine cx_seq' fun K5 hK5 => ?_
  refine cx_region' ?_
  refine sx_rd' (rd_move' rfl) rfl rfl (wt_none' rfl) ?_
  refine sx_ox' (ox_store' (i := 2) (o := 0) rfl rfl (lv_vl rfl rfl) ⟨rfl, rfl, rfl, rfl⟩ rfl info22 rfl (H' := [(Rw Kf 38 (Vs g13) r19), ⟨.pointer (some q9), [(Vl (.bool false))], 4, none⟩, ⟨.pointer (some q8), [(Vl (Vs g13))], 22, none⟩]) rfl) (wt_none' rfl) fun _ => ?_
  refine sx_ox' (ox_store' (i := 1) (o := 0) rfl rfl (lv_vl rfl rfl) ⟨rfl, rfl, rfl, rfl⟩ rfl info4 rfl (H' := [(Rw Kf 38 (Vs g13) r19), ⟨.pointer (some q9), [(Vl (.bool true))], 4, none⟩, ⟨.pointer (some q8), [(Vl (Vs g13))], 22, none⟩]) rfl) (wt_none' rfl) fun _ => ?_
  refine sx_nil' ?_
  show TX E K5 _
  refine tx_k' hK5 ?_
  refine cx_retc' ?_
  replace hp := Option.some.inj hp
  subst hp
  refine tx_leave' (.inl rfl) rfl idle49 rfl Try.func49 isn49 rfl ?_
  refine tx_fz' (frz_row 0 [(13, (Vl (Vs g13)), (Sl Kf r19)), (10, (Vl (Vs g13)), (Sl Kf r19)), (15, (Vl (Vs g13)), (Sl Kf r19)), (16, (Ag [(Vl (.func (.func 97) #[] #[])), (Vl (Vs g13)), (Vl (.int .i64 r16.2.1)), (Vl (.int .i64 r16.2.2))]), (Ag [(Vl (.func (.func 97) #[] #[])), (Sl Kf r19), (Vl (.int .i64 r16.2.1)), (Vl (.int .i64 r16.2.2))])), (20, (Vl (Vs g13)), (Sl Kf r19))] (K := Kf) (xs := r19) (by decide) rfl ⟨⟨rfl, frz_it⟩, ⟨rfl, frz_it⟩, ⟨rfl, frz_it⟩, ⟨rfl, fz_ag (fz0_cons fz0_same (fz0_cons fz0_it (fz0_cons fz0_same (fz0_cons fz0_same fz0_nil))))⟩, ⟨rfl, frz_it⟩, trivial⟩ (H' := [⟨.pointer (some q9), [(Vl (.bool true))], 4, none⟩, ⟨.pointer (some q8), [(Sl Kf r19)], 22, none⟩]) (frzH_cons rfl rfl rfl frzL_refl (frzH_cons rfl rfl rfl (frzL_cons frz_it frzL_refl) frzH_refl))) ?_
  refine tx_pick' (L' := [(8, (Vl (.pointer (some q8)))), (9, (Vl (.pointer (some q9))))]) (H' := [⟨.pointer (some q8), [(Sl Kf r19)], 22, none⟩, ⟨.pointer (some q9), [(Vl (.bool true))], 4, none⟩]) [1, 0] (sub_cons rfl (sub_cons rfl sub_nil)) (by decide) (pick_cons rfl (pick_cons rfl pick_nil)) ?_
  exact tx_ret2' Try.results12 rfl () (rv_cell' (i := 0) (o := 0) rfl ⟨rfl, rfl, rfl, rfl⟩ rfl flat22) (rv_cell' (i := 1) (o := 0) rfl ⟨rfl, rfl, rfl, rfl⟩ rfl flat4) rfl (List.nil_sublist _)

def spec_SameFloats_l1s (a0 : List Nat) (a1 : List Nat) (k : Nat) (rec1 : Int → Option (Unit ⊕ Unit)) (x1 : Int) : Option (Unit ⊕ Unit) :=
  br (decide (x1 < (a0.length : Int)))
    ((idx a0 x1) >>= fun r17 =>
    (idx a1 x1) >>= fun r23 =>
    br (!decide ((fbits r17) = (fbits r23)))
      (some (.inl ()))
      (rec1 (iadd .i64 x1 1)))
    (some (.inr ()))
def spec_SameFloats_l1 (a0 : List Nat) (a1 : List Nat) : Nat → Int → Option (Unit ⊕ Unit)
  | 0, _ => none
  | k + 1, v => spec_SameFloats_l1s a0 a1 k (spec_SameFloats_l1 a0 a1 k) v
def spec_SameFloats (k : Nat) (a0 : List Nat) (a1 : List Nat) : Option (Bool) :=
  br (!decide ((a0.length : Int) = (a1.length : Int)))
    (some false)
    ((spec_SameFloats_l1 a0 a1 k 0) >>= fun y1 => match y1 with
      | (.inl v2) =>
        (some false)
      | (.inr v3) =>
        (some true))

theorem spec_SameFloats_sim {k : Nat}  (a0 : List Nat) (a1 : List Nat) {out : Bool} (hp : spec_SameFloats k a0 a1 = some out) : Go.Sx.Fn Try.prog 13 [(Sl Kf a0), (Sl Kf a1)] [] (fun w : Unit => (Vl (.bool out))) (fun w => []) := by
  unfold spec_SameFloats at hp
  refine fn_of Try.func13 rfl Try.ntmps13 rfl fun E hM => ?_
  refine cx_seq' fun K1 hK1 => ?_
  refine cx_region' ?_
  refine sx_rd' (rd_assign' rfl) rfl rfl (wt_none' rfl) ?_
  refine sx_nil' ?_
  show TX E K1 _
  refine tx_k' hK1 ?_
  refine cx_seq' fun K2 hK2 => ?_
  refine cx_seq' fun K3 hK3 => ?_
  refine cx_region' ?_
  refine sx_rd' (rd_move' rfl) rfl rfl (wt_none' rfl) ?_
  refine sx_rd' (rd_len' rfl Try.underlying22) rfl rfl (wt_none' rfl) ?_
  refine sx_rd' (rd_move' rfl) rfl rfl (wt_none' rfl) ?_
  refine sx_rd' (rd_len' rfl Try.underlying22) rfl rfl (wt_none' rfl) ?_
  refine sx_rd' (rd_bin' rfl rfl eg_int ru_neq) rfl rfl (wt_none' rfl) ?_
  refine sx_nil' ?_
  show TX E K3 _
  refine tx_k' hK3 ?_
  refine cx_cond' rfl (fun h1 => ?_) (fun h1 => ?_)
  · replace hp := (br_t h1).symm.trans hp
    refine cx_seq' fun K4 hK4 => ?_
    refine cx_region' ?_
    refine sx_rd' (rd_assign' rfl) rfl rfl (wt_none' rfl) ?_
    refine sx_nil' ?_
    show TX E K4 _
    refine tx_k' hK4 ?_
    refine cx_retc' ?_
    replace hp := Option.some.inj hp
    subst hp
    refine tx_pick' (L' := [(4, (Vl (.bool false)))]) (H' := []) [] (sub_cons rfl sub_nil) (by decide) pick_nil ?_
    exact tx_ret1' Try.results13 rfl () (rv_tmp' rfl) (List.Sublist.refl _)
  · replace hp := (br_f h1).symm.trans hp
    refine cx_skip' ?_
    show TX E K2 _
    refine tx_k' hK2 ?_
    refine cx_seq' fun K5 hK5 => ?_
    refine cx_seq' fun K6 hK6 => ?_
    refine cx_region' ?_
    refine sx_rd' (rd_move' rfl) rfl rfl (wt_none' rfl) ?_
    refine sx_rd' (rd_len' rfl Try.underlying22) rfl rfl (wt_none' rfl) ?_
    refine sx_rd' (rd_move' rfl) rfl rfl (wt_none' rfl) ?_
    refine sx_nil' ?_
    show TX E K6 _
    refine tx_k' hK6 ?_
    refine cx_block' ?_
    obtain ⟨y1, hy1, hp⟩ := bind_some hp
    refine cx_loopg' (F := spec_SameFloats_l1 a0 a1) (G := fun k R v => spec_SameFloats_l1s a0 a1 k R v) (x := 0) (gh := ()) (fun (v1 : Int) (w1 : Unit) => (⟨28, [], [(1, (Sl Kf a1)), (12, (Sl Kf a0)), (13, (Vl (.int .i64 (a0.length : Int)))), (14, (Vl (.int .i64 v1)))], []⟩ : St)) (fun (y : Unit ⊕ Unit) => match y with | (.inl v2) => Zg E Exit.ret (fun (w2 : Unit) => (⟨28, [], [(4, (Vl (.bool false)))], []⟩ : St)) | (.inr v3) => Zg E (Exit.exit 0) (fun (w3 : Unit) => (⟨28, [], [], []⟩ : St))) (fun _ => rfl) (fun _ _ => rfl) ?_ hy1 (tx_to' rfl [] (sub_cons rfl (sub_cons rfl (sub_cons rfl (sub_cons rfl sub_nil)))) (by decide) pick_nil) ?_
    · clear hp hy1
      clear y1
      intro k rec1 KY1 ih1
      rintro x1 ⟨⟩ y1 hp
      replace hp : spec_SameFloats_l1s a0 a1 k rec1 x1 = some y1 := hp
      unfold spec_SameFloats_l1s at hp
      refine cx_seq' fun K13 hK13 => ?_
      refine cx_region' ?_
      refine sx_rd' (rd_bin' rfl rfl eg_int ru_lss) rfl rfl (wt_none' rfl) ?_
      refine sx_nil' ?_
      show TX E K13 _
      refine tx_k' hK13 ?_
      refine cx_seq' fun K14 hK14 => ?_
      refine cx_cond' rfl (fun h5 => ?_) (fun h5 => ?_)
      · replace hp := (br_t h5).symm.trans hp
        refine cx_skip' ?_
        show TX E K14 _
        refine tx_k' hK14 ?_
        refine cx_seq' fun K15 hK15 => ?_
        refine cx_block' ?_
        refine cx_seq' fun K16 hK16 => ?_
        refine cx_region' ?_
        refine sx_rd' (rd_move' rfl) rfl rfl (wt_none' rfl) ?_
        obtain ⟨r17, hr17, hp⟩ := bind_some hp
        refine sx_rd' (rd_at' (K := Kf) rfl rfl hr17 Try.underlying22 info38) rfl rfl (wt_none' rfl) ?_
        refine sx_rd' (rd_load_pt' rfl rfl flat38) rfl rfl (wt_none' rfl) ?_
        refine sx_rd' (rd_assign' rfl) rfl rfl (wt_none' rfl) ?_
        refine sx_rd' (rd_assign' rfl) rfl rfl (wt_none' rfl) ?_
        refine sx_nil' ?_
        show TX E K16 _
        refine tx_k' hK16 ?_
        refine cx_seq' fun K17 hK17 => ?_
        refine cx_draw' mixed (by kernel_rfl) ?_
        refine qx_rd' (rd_move' rfl) rfl rfl (wt_none' rfl) ?_
        refine qx_rd' (rd_ext' (us := [.float .f64 r17]) rfl (ext53 ex_bits)) rfl rfl (wt_none' rfl) ?_
        refine qx_rd' (rd_move' rfl) rfl rfl (wt_none' rfl) ?_
        refine qx_rd' (rd_move' rfl) rfl rfl (wt_none' rfl) ?_
        obtain ⟨r23, hr23, hp⟩ := bind_some hp
        refine qx_rd' (rd_at' (K := Kf) rfl rfl hr23 Try.underlying22 info38) rfl rfl (wt_none' rfl) ?_
        refine qx_rd' (rd_load_pt' rfl rfl flat38) rfl rfl (wt_none' rfl) ?_
        refine qx_rd' (rd_ext' (us := [.float .f64 r23]) rfl (ext53 ex_bits)) rfl rfl (wt_none' rfl) ?_
        refine qx_rd' (rd_bin' rfl rfl eg_int ru_neq) rfl rfl (wt_none' rfl) ?_
        refine qx_nil' ?_
        show TX E K17 _
        refine tx_k' hK17 ?_
        refine cx_cond' rfl (fun h6 => ?_) (fun h6 => ?_)
        · replace hp := (br_t h6).symm.trans hp
          refine cx_seq' fun K18 hK18 => ?_
          refine cx_region' ?_
          refine sx_rd' (rd_assign' rfl) rfl rfl (wt_none' rfl) ?_
          refine sx_nil' ?_
          show TX E K18 _
          refine tx_k' hK18 ?_
          refine cx_retc' ?_
          replace hp := Option.some.inj hp
          subst hp
          show TX E (Zg E Exit.ret _ Exit.ret) _
          exact tx_zend' () rfl [] (sub_cons rfl sub_nil) (by decide) pick_nil
        · replace hp := (br_f h6).symm.trans hp
          refine cx_skip' ?_
          show TX E K15 _
          refine tx_k' hK15 ?_
          refine cx_region' ?_
          refine sx_rd' (rd_bin' rfl rfl eg_int ru_add) rfl rfl (wt_none' rfl) ?_
          refine sx_rd' (rd_move' rfl) rfl rfl (wt_none' rfl) ?_
          refine sx_nil' ?_
          show TX E (KY1 _) _
          exact tx_pick' [] (sub_cons rfl (sub_cons rfl (sub_cons rfl (sub_cons rfl sub_nil)))) (by decide) pick_nil (ih1 (iadd .i64 x1 1) () _ hp)
      · replace hp := (br_f h5).symm.trans hp
        refine cx_exit' ?_
        replace hp := Option.some.inj hp
        subst hp
        show TX E (Zg E (Exit.exit 0) _ (Exit.exit 0)) _
        exact tx_zend' () rfl [] sub_nil (by decide) pick_nil
    · rcases y1 with v2 | v3
      · dsimp only at hp
        refine zg_out fun w2 => ?_
        replace hp := Option.some.inj hp
        subst hp
        refine tx_pick' (L' := [(4, (Vl (.bool false)))]) (H' := []) [] (sub_cons rfl sub_nil) (by decide) pick_nil ?_
        exact tx_ret1' Try.results13 rfl () (rv_tmp' rfl) (List.Sublist.refl _)
      · dsimp only at hp
        refine zg_out fun w3 => ?_
        show TX E K5 _
        refine tx_k' hK5 ?_
        refine cx_seq' fun K19 hK19 => ?_
        refine cx_region' ?_
        refine sx_rd' (rd_assign' rfl) rfl rfl (wt_none' rfl) ?_
        refine sx_nil' ?_
        show TX E K19 _
        refine tx_k' hK19 ?_
        refine cx_retc' ?_
        replace hp := Option.some.inj hp
        subst hp
        refine tx_pick' (L' := [(4, (Vl (.bool true)))]) (H' := []) [] (sub_cons rfl sub_nil) (by decide) pick_nil ?_
        exact tx_ret1' Try.results13 rfl () (rv_tmp' rfl) (List.Sublist.refl _)

def laws_FnSortSwap_j4 (k : Nat) (x4 : Bool) : Option (Bool) :=
  some x4
def laws_FnSortSwap_j3 (k : Nat) (a1 : List Nat) (a2 : Int) (r22 : Int) (a3 : Int) (a0 : Int) (x3 : Bool) : Option (Bool) :=
  br x3
    (some true)
    ((apd 8 [] a1) >>= fun r45 =>
    (cut r45 (imul .i64 a2 r22) (r45.length : Int)) >>= fun r50 =>
    (cut a1 (imul .i64 a3 r22) (iadd .i64 (imul .i64 a3 r22) r22)) >>= fun r60 =>
    (cut (cpat r45 ((imul .i64 a2 r22).toNat) r50.length r60) (imul .i64 a3 r22) ((cpat r45 ((imul .i64 a2 r22).toNat) r50.length r60).length : Int)) >>= fun r66 =>
    (cut a1 (imul .i64 a2 r22) (iadd .i64 (imul .i64 a2 r22) r22)) >>= fun r76 =>
    (impl_SortSwap k a0 a1 a2 a3) >>= fun r83 =>
    br r83.2
      ((spec_SameFloats k r83.1 (cpat (cpat r45 ((imul .i64 a2 r22).toNat) r50.length r60) ((imul .i64 a3 r22).toNat) r66.length r76)) >>= fun r90 =>
      laws_FnSortSwap_j4 k r90)
      (laws_FnSortSwap_j4 k false))
def laws_FnSortSwap_j2 (k : Nat) (a1 : List Nat) (a2 : Int) (r22 : Int) (a3 : Int) (a0 : Int) (r26 : Int) (x2 : Bool) : Option (Bool) :=
  br x2
    (laws_FnSortSwap_j3 k a1 a2 r22 a3 a0 true)
    (laws_FnSortSwap_j3 k a1 a2 r22 a3 a0 (decide (r26 ≤ a3)))
def laws_FnSortSwap_j1 (k : Nat) (a1 : List Nat) (a2 : Int) (r22 : Int) (a3 : Int) (a0 : Int) (r26 : Int) (x1 : Bool) : Option (Bool) :=
  br x1
    (laws_FnSortSwap_j2 k a1 a2 r22 a3 a0 r26 true)
    (laws_FnSortSwap_j2 k a1 a2 r22 a3 a0 r26 (decide (r26 ≤ a2)))
def laws_FnSortSwap (k : Nat) (a0 : Int) (a1 : List Nat) (a2 : Int) (a3 : Int) : Option (Bool) :=
  br (decide (2147483647 < (a1.length : Int)))
    (some true)
    ((laws_sRow k a0 a1) >>= fun r19 =>
    br (!r19)
      (some true)
      ((spec_Stride k a0) >>= fun r22 =>
      (iquo .i64 (a1.length : Int) r22) >>= fun r26 =>
      br (decide (a2 < 0))
        (laws_FnSortSwap_j1 k a1 a2 r22 a3 a0 r26 true)
        (laws_FnSortSwap_j1 k a1 a2 r22 a3 a0 r26 (decide (a3 < 0)))))

theorem laws_FnSortSwap_sim {k : Nat}  (a0 : Int) (a1 : List Nat) (a2 : Int) (a3 : Int) {out : Bool} (hp : laws_FnSortSwap k a0 a1 a2 a3 = some out) : Go.Sx.Fn Try.prog 3 [(Vl (.int .i64 a0)), (Sl Kf a1), (Vl (.int .i64 a2)), (Vl (.int .i64 a3))] [] (fun w : Unit => (Vl (.bool out))) (fun w => []) := by
  unfold laws_FnSortSwap at hp
  refine fn_of Try.func3 rfl Try.ntmps3 rfl fun E hM => ?_
  refine cx_seq' fun K1 hK1 => ?_
  refine cx_region' ?_
  refine sx_rd' (rd_assign' rfl) rfl rfl (wt_none' rfl) ?_
  refine sx_nil' ?_
  show TX E K1 _
  refine tx_k' hK1 ?_
  refine cx_seq' fun K2 hK2 => ?_
  refine cx_seq' fun K3 hK3 => ?_
  refine cx_region' ?_
  refine sx_rd' (rd_move' rfl) rfl rfl (wt_none' rfl) ?_
  refine sx_rd' (rd_len' rfl Try.underlying22) rfl rfl (wt_none' rfl) ?_
  refine sx_rd' (rd_bin' rfl rfl eg_int ru_gtr) rfl rfl (wt_none' rfl) ?_
  refine sx_nil' ?_
  show TX E K3 _
  refine tx_k' hK3 ?_
  refine cx_cond' rfl (fun h1 => ?_) (fun h1 => ?_)
  · replace hp := (br_t h1).symm.trans hp
    refine cx_seq' fun K4 hK4 => ?_
    refine cx_region' ?_
    refine sx_rd' (rd_assign' rfl) rfl rfl (wt_none' rfl) ?_
    refine sx_nil' ?_
    show TX E K4 _
    refine tx_k' hK4 ?_
    refine cx_retc' ?_
    replace hp := Option.some.inj hp
    subst hp
    refine tx_pick' (L' := [(8, (Vl (.bool true)))]) (H' := []) [] (sub_cons rfl sub_nil) (by decide) pick_nil ?_
    exact tx_ret1' Try.results3 rfl () (rv_tmp' rfl) (List.Sublist.refl _)
  · replace hp := (br_f h1).symm.trans hp
    refine cx_skip' ?_
    show TX E K2 _
    refine tx_k' hK2 ?_
    refine cx_seq' fun K5 hK5 => ?_
    refine cx_seq' fun K6 hK6 => ?_
    refine cx_region' ?_
    refine sx_rd' (rd_move' rfl) rfl rfl (wt_none' rfl) ?_
    refine sx_rd' (rd_move' rfl) rfl rfl (wt_none' rfl) ?_
    obtain ⟨r19, hr19, hp⟩ := bind_some hp
    refine sx_ox' (ox_calln' (ent_fn' Try.func10 isn10 rfl rfl) (laws_sRow_sim _ _ hr19 : Go.Sx.Fn Try.prog 10 [(Vl (.int .i64 a0)), (Sl Kf a1)] [] (fun x : Unit => (Vl (.bool r19))) (fun x => [])) (Hn := fun x : Unit => []) (fun _ => rfl) rfl rfl) (wt_none' rfl) fun ⟨⟩ => ?_
    refine sx_rd' (rd_un' rfl ru_not) rfl rfl (wt_none' rfl) ?_
    refine sx_nil' ?_
    show TX E K6 _
    refine tx_k' hK6 ?_
    refine cx_cond' rfl (fun h2 => ?_) (fun h2 => ?_)
    · replace hp := (br_t h2).symm.trans hp
      refine cx_seq' fun K7 hK7 => ?_
      refine cx_region' ?_
      refine sx_rd' (rd_assign' rfl) rfl rfl (wt_none' rfl) ?_
      refine sx_nil' ?_
      show TX E K7 _
      refine tx_k' hK7 ?_
      refine cx_retc' ?_
      replace hp := Option.some.inj hp
      subst hp
      refine tx_pick' (L' := [(8, (Vl (.bool true)))]) (H' := []) [] (sub_cons rfl sub_nil) (by decide) pick_nil ?_
      exact tx_ret1' Try.results3 rfl () (rv_tmp' rfl) (List.Sublist.refl _)
    · replace hp := (br_f h2).symm.trans hp
      refine cx_skip' ?_
      show TX E K5 _
      refine tx_k' hK5 ?_
      refine cx_seq' fun K8 hK8 => ?_
      refine cx_region' ?_
      refine sx_rd' (rd_move' rfl) rfl rfl (wt_none' rfl) ?_
      obtain ⟨r22, hr22, hp⟩ := bind_some hp
      refine sx_ox' (ox_calln' (ent_fn' Try.func11 isn11 rfl rfl) (spec_Stride_sim _ hr22 : Go.Sx.Fn Try.prog 11 [(Vl (.int .i64 a0))] [] (fun x : Unit => (Vl (.int .i64 r22))) (fun x => [])) (Hn := fun x : Unit => []) (fun _ => rfl) rfl rfl) (wt_none' rfl) fun ⟨⟩ => ?_
      refine sx_rd' (rd_assign' rfl) rfl rfl (wt_none' rfl) ?_
      refine sx_nil' ?_
      show TX E K8 _
      refine tx_k' hK8 ?_
      refine cx_seq' fun K9 hK9 => ?_
      refine cx_seq' fun K10 hK10 => ?_
      refine cx_region' ?_
      refine sx_rd' (rd_move' rfl) rfl rfl (wt_none' rfl) ?_
      refine sx_rd' (rd_len' rfl Try.underlying22) rfl rfl (wt_none' rfl) ?_
      refine sx_rd' (rd_move' rfl) rfl rfl (wt_none' rfl) ?_
      obtain ⟨r26, hr26, hp⟩ := bind_some hp
      refine sx_rd' (rd_bin' rfl rfl eg_int (ru_quo hr26)) rfl rfl (wt_none' rfl) ?_
      refine sx_rd' (rd_assign' rfl) rfl rfl (wt_none' rfl) ?_
      refine sx_nil' ?_
      show TX E K10 _
      refine tx_k' hK10 ?_
      refine cx_seq' fun K11 hK11 => ?_
      refine cx_region' ?_
      refine sx_rd' (rd_move' rfl) rfl rfl (wt_none' rfl) ?_
      refine sx_rd' (rd_bin' rfl rfl eg_int ru_lss) rfl rfl (wt_none' rfl) ?_
      refine sx_rd' (rd_move' rfl) rfl rfl (wt_none' rfl) ?_
      refine sx_cutn' 3 (fun (v1 : Bool) => (⟨92, [], [(0, (Vl (.int .i64 a0))), (1, (Sl Kf a1)), (2, (Vl (.int .i64 a2))), (3, (Vl (.int .i64 a3))), (9, (Vl (.int .i64 r22))), (10, (Vl (.int .i64 r26))), (32, (Vl (.bool v1)))], []⟩ : St)) (fun (v1 : Bool) => laws_FnSortSwap_j1 k a1 a2 r22 a3 a0 r26 v1 = some out) ?_ ?_
      · rintro x1 hp
        replace hp : laws_FnSortSwap_j1 k a1 a2 r22 a3 a0 r26 x1 = some out := hp
        unfold laws_FnSortSwap_j1 at hp
        refine sx_rd' (rd_move' rfl) rfl rfl (wt_none' rfl) ?_
        refine sx_cutn' 4 (fun (v2 : Bool) => (⟨92, [], [(0, (Vl (.int .i64 a0))), (1, (Sl Kf a1)), (2, (Vl (.int .i64 a2))), (3, (Vl (.int .i64 a3))), (9, (Vl (.int .i64 r22))), (10, (Vl (.int .i64 r26))), (37, (Vl (.bool v2)))], []⟩ : St)) (fun (v2 : Bool) => laws_FnSortSwap_j2 k a1 a2 r22 a3 a0 r26 v2 = some out) ?_ ?_
        · rintro x2 hp
          replace hp : laws_FnSortSwap_j2 k a1 a2 r22 a3 a0 r26 x2 = some out := hp
          unfold laws_FnSortSwap_j2 at hp
          refine sx_rd' (rd_move' rfl) rfl rfl (wt_none' rfl) ?_
          refine sx_cutn' 4 (fun (v3 : Bool) => (⟨92, [], [(0, (Vl (.int .i64 a0))), (1, (Sl Kf a1)), (2, (Vl (.int .i64 a2))), (3, (Vl (.int .i64 a3))), (9, (Vl (.int .i64 r22))), (42, (Vl (.bool v3)))], []⟩ : St)) (fun (v3 : Bool) => laws_FnSortSwap_j3 k a1 a2 r22 a3 a0 v3 = some out) ?_ ?_
          · rintro x3 hp
            replace hp : laws_FnSortSwap_j3 k a1 a2 r22 a3 a0 x3 = some out := hp
            unfold laws_FnSortSwap_j3 at hp
            refine sx_nil' ?_
            show TX E K11 _
            refine tx_k' hK11 ?_
            refine cx_cond' rfl (fun h6 => ?_) (fun h6 => ?_)
            · replace hp := (br_t h6).symm.trans hp
              refine cx_seq' fun K15 hK15 => ?_
              refine cx_region' ?_
              refine sx_rd' (rd_assign' rfl) rfl rfl (wt_none' rfl) ?_
              refine sx_nil' ?_
              show TX E K15 _
              refine tx_k' hK15 ?_
              refine cx_retc' ?_
              replace hp := Option.some.inj hp
              subst hp
              refine tx_pick' (L' := [(8, (Vl (.bool true)))]) (H' := []) [] (sub_cons rfl sub_nil) (by decide) pick_nil ?_
              exact tx_ret1' Try.results3 rfl () (rv_tmp' rfl) (List.Sublist.refl _)
            · replace hp := (br_f h6).symm.trans hp
              refine cx_skip' ?_
              show TX E K9 _
              refine tx_k' hK9 ?_
              refine cx_seq' fun K16 hK16 => ?_
              refine cx_region' ?_
              refine sx_ox' (ox_rowlit' (K := Kf) (xs := []) (qs := []) trivial Try.underlying22 info38 rfl rfl rfl rfl rfl (by kernel_rfl) rfl rfl rfl) (wt_none' rfl) fun g43 => ?_
              refine sx_rd' (rd_move' rfl) rfl rfl (wt_none' rfl) ?_
              obtain ⟨r45, hr45, hp⟩ := bind_some hp
              refine sx_ox' (ox_append' (K := Kf) (i := 0) (xs := []) (ys := a1) rfl rfl rfl (sr_sl' rfl Try.underlying22) hr45 Try.underlying22 info38 rfl rfl rfl (H' := []) rfl) (wt_none' rfl) fun g45 => ?_
              refine sx_rd' (rd_assign' rfl) rfl rfl (wt_none' rfl) ?_
              refine sx_nil' ?_
              show TX E K16 _
              refine tx_k' hK16 ?_
              refine cx_seq' fun K17 hK17 => ?_
              refine cx_plan' [] [(15, 1)] [(0, 1), (1, 1), (2, 1), (3, 1), (4, 1), (5, 1), (6, 1), (7, 1), (8, 1), (9, 1), (10, 1), (11, 1), (12, 1), (13, 1), (14, 1), (15, 0)] mixed (by kernel_rfl) ?_
              refine px_rd' rfl (rd_move' rfl) rfl rfl (wt_none' rfl) ?_
              refine px_rd' rfl (rd_move' rfl) rfl rfl (wt_none' rfl) ?_
              refine px_rd' rfl (rd_move' rfl) rfl rfl (wt_none' rfl) ?_
              refine px_rd' rfl (rd_bin' rfl rfl eg_int ru_mul) rfl rfl (wt_none' rfl) ?_
              obtain ⟨r50, hr50, hp⟩ := bind_some hp
              refine px_rd' rfl (rd_cutr_l' (K := Kf) (i := 0) rfl rfl rfl rfl hr50 Try.underlying22 info38) rfl rfl (wt_none' rfl) ?_
              refine px_rd' rfl (rd_move' rfl) rfl rfl (wt_none' rfl) ?_
              refine px_rd' rfl (rd_move' rfl) rfl rfl (wt_none' rfl) ?_
              refine px_rd' rfl (rd_move' rfl) rfl rfl (wt_none' rfl) ?_
              refine px_rd' rfl (rd_bin' rfl rfl eg_int ru_mul) rfl rfl (wt_none' rfl) ?_
              refine px_rd' rfl (rd_move' rfl) rfl rfl (wt_none' rfl) ?_
              refine px_rd' rfl (rd_move' rfl) rfl rfl (wt_none' rfl) ?_
              refine px_rd' rfl (rd_bin' rfl rfl eg_int ru_mul) rfl rfl (wt_none' rfl) ?_
              refine px_rd' rfl (rd_move' rfl) rfl rfl (wt_none' rfl) ?_
              refine px_rd' rfl (rd_bin' rfl rfl eg_int ru_add) rfl rfl (wt_none' rfl) ?_
              obtain ⟨r60, hr60, hp⟩ := bind_some hp
              refine px_rd' rfl (rd_cut_lh' rfl rfl rfl hr60 Try.underlying22 info38) rfl rfl (wt_none' rfl) ?_
              refine px_ox' rfl (ox_copyp' (K := Kf) (i := 0) rfl rfl (cut_len hr50).2.2.2.2 rfl rfl rfl Try.underlying22 info38 rfl rfl (H' := [(Rw Kf 38 (Vs g45) (cpat r45 ((imul .i64 a2 r22).toNat) r50.length r60))]) rfl) rfl bs_nil (wt_none' rfl) fun _ => ?_
              refine px_nil' ?_
              show TX E K17 _
              refine tx_k' hK17 ?_
              refine cx_seq' fun K18 hK18 => ?_
              refine cx_plan' [] [(15, 1)] [(0, 1), (1, 1), (2, 1), (3, 1), (4, 1), (5, 1), (6, 1), (7, 1), (8, 1), (9, 1), (10, 1), (11, 1), (12, 1), (13, 1), (14, 1), (15, 0)] mixed (by kernel_rfl) ?_
              refine px_rd' rfl (rd_move' rfl) rfl rfl (wt_none' rfl) ?_
              refine px_rd' rfl (rd_move' rfl) rfl rfl (wt_none' rfl) ?_
              refine px_rd' rfl (rd_move' rfl) rfl rfl (wt_none' rfl) ?_
              refine px_rd' rfl (rd_bin' rfl rfl eg_int ru_mul) rfl rfl (wt_none' rfl) ?_
              obtain ⟨r66, hr66, hp⟩ := bind_some hp
              refine px_rd' rfl (rd_cutr_l' (K := Kf) (i := 0) rfl rfl rfl rfl hr66 Try.underlying22 info38) rfl rfl (wt_none' rfl) ?_
              refine px_rd' rfl (rd_move' rfl) rfl rfl (wt_none' rfl) ?_
              refine px_rd' rfl (rd_move' rfl) rfl rfl (wt_none' rfl) ?_
              refine px_rd' rfl (rd_move' rfl) rfl rfl (wt_none' rfl) ?_
              refine px_rd' rfl (rd_bin' rfl rfl eg_int ru_mul) rfl rfl (wt_none' rfl) ?_
              refine px_rd' rfl (rd_move' rfl) rfl rfl (wt_none' rfl) ?_
              refine px_rd' rfl (rd_move' rfl) rfl rfl (wt_none' rfl) ?_
              refine px_rd' rfl (rd_bin' rfl rfl eg_int ru_mul) rfl rfl (wt_none' rfl) ?_
              refine px_rd' rfl (rd_move' rfl) rfl rfl (wt_none' rfl) ?_
              refine px_rd' rfl (rd_bin' rfl rfl eg_int ru_add) rfl rfl (wt_none' rfl) ?_
              obtain ⟨r76, hr76, hp⟩ := bind_some hp
              refine px_rd' rfl (rd_cut_lh' rfl rfl rfl hr76 Try.underlying22 info38) rfl rfl (wt_none' rfl) ?_
              refine px_ox' rfl (ox_copyp' (K := Kf) (i := 0) rfl rfl (cut_len hr66).2.2.2.2 rfl rfl rfl Try.underlying22 info38 rfl rfl (H' := [(Rw Kf 38 (Vs g45) (cpat (cpat r45 ((imul .i64 a2 r22).toNat) r50.length r60) ((imul .i64 a3 r22).toNat) r66.length r76))]) rfl) rfl bs_nil (wt_none' rfl) fun _ => ?_
              refine px_nil' ?_
              show TX E K18 _
              refine tx_k' hK18 ?_
              refine cx_seq' fun K19 hK19 => ?_
              refine cx_region' ?_
              refine sx_rd' (rd_move' rfl) rfl rfl (wt_none' rfl) ?_
              refine sx_rd' (rd_move' rfl) rfl rfl (wt_none' rfl) ?_
              refine sx_rd' (rd_move' rfl) rfl rfl (wt_none' rfl) ?_
              refine sx_rd' (rd_move' rfl) rfl rfl (wt_none' rfl) ?_
              obtain ⟨r83, hr83, hp⟩ := bind_some hp
              refine sx_ox' (ox_calln' (ent_fn' Try.func12 isn12 rfl rfl) (impl_SortSwap_sim _ _ _ _ hr83 : Go.Sx.Fn Try.prog 12 [(Vl (.int .i64 a0)), (Sl Kf a1), (Vl (.int .i64 a2)), (Vl (.int .i64 a3))] [] (fun x : Unit => (Tu [(Sl Kf r83.1), (Vl (.bool r83.2))])) (fun x => [])) (Hn := fun x : Unit => [(Rw Kf 38 (Vs g45) (cpat (cpat r45 ((imul .i64 a2 r22).toNat) r50.length r60) ((imul .i64 a3 r22).toNat) r66.length r76))]) (fun _ => rfl) rfl rfl) (wt_none' rfl) fun ⟨⟩ => ?_
              refine sx_rd' (rd_move' rfl) rfl rfl (wt_none' rfl) ?_
              refine sx_rd' (rd_extract' rfl rfl) rfl rfl (wt_none' rfl) ?_
              refine sx_rd' (rd_extract' rfl rfl) rfl rfl (wt_none' rfl) ?_
              refine sx_rd' (rd_assign' rfl) rfl rfl (wt_none' rfl) ?_
              refine sx_rd' (rd_assign' rfl) rfl rfl (wt_none' rfl) ?_
              refine sx_nil' ?_
              show TX E K19 _
              refine tx_k' hK19 ?_
              refine cx_seq' fun K20 hK20 => ?_
              refine cx_region' ?_
              refine sx_rd' (rd_move' rfl) rfl rfl (wt_none' rfl) ?_
              refine sx_rd' (rd_move' rfl) rfl rfl (wt_none' rfl) ?_
              refine sx_cutn' 4 (fun (v4 : Bool) => (⟨92, [], [(91, (Vl (.bool v4)))], []⟩ : St)) (fun (v4 : Bool) => laws_FnSortSwap_j4 k v4 = some out) ?_ ?_
              · rintro x4 hp
                replace hp : laws_FnSortSwap_j4 k x4 = some out := hp
                unfold laws_FnSortSwap_j4 at hp
                refine sx_rd' (rd_assign' rfl) rfl rfl (wt_none' rfl) ?_
                refine sx_nil' ?_
                show TX E K20 _
                refine tx_k' hK20 ?_
                refine cx_retc' ?_
                replace hp := Option.some.inj hp
                subst hp
                refine tx_pick' (L' := [(8, (Vl (.bool x4)))]) (H' := []) [] (sub_cons rfl sub_nil) (by decide) pick_nil ?_
                exact tx_ret1' Try.results3 rfl () (rv_tmp' rfl) (List.Sublist.refl _)
              · intro K21 hK21
                rcases br_cases hp with ⟨h7, hp⟩ | ⟨h7, hp⟩
                · refine sx_rd' (rd_move' rfl) rfl rfl (wt_is' (wt_guard' rfl rfl rfl) (beq_tt h7)) ?_
                  refine sx_rd' (rd_move' rfl) rfl rfl (wt_is' (wt_guard' rfl rfl rfl) (beq_tt h7)) ?_
                  obtain ⟨r90, hr90, hp⟩ := bind_some hp
                  refine sx_ox' (ox_brw' (frz_row 0 [(45, (Vl (Vs g45)), (Sl Kf (cpat (cpat r45 ((imul .i64 a2 r22).toNat) r50.length r60) ((imul .i64 a3 r22).toNat) r66.length r76))), (11, (Vl (Vs g45)), (Sl Kf (cpat (cpat r45 ((imul .i64 a2 r22).toNat) r50.length r60) ((imul .i64 a3 r22).toNat) r66.length r76))), (46, (Vl (Vs g45)), (Sl Kf (cpat (cpat r45 ((imul .i64 a2 r22).toNat) r50.length r60) ((imul .i64 a3 r22).toNat) r66.length r76))), (62, (Vl (Vs g45)), (Sl Kf (cpat (cpat r45 ((imul .i64 a2 r22).toNat) r50.length r60) ((imul .i64 a3 r22).toNat) r66.length r76))), (89, (Vl (Vs g45)), (Sl Kf (cpat (cpat r45 ((imul .i64 a2 r22).toNat) r50.length r60) ((imul .i64 a3 r22).toNat) r66.length r76)))] (K := Kf) (xs := cpat (cpat r45 ((imul .i64 a2 r22).toNat) r50.length r60) ((imul .i64 a3 r22).toNat) r66.length r76) (by decide) rfl ⟨⟨rfl, frz_it⟩, ⟨rfl, frz_it⟩, ⟨rfl, frz_it⟩, ⟨rfl, frz_it⟩, ⟨rfl, frz_it⟩, trivial⟩ (H' := []) frzH_refl) (ent_fn' Try.func13 isn13 rfl rfl) (spec_SameFloats_sim _ _ hr90 : Go.Sx.Fn Try.prog 13 [(Sl Kf r83.1), (Sl Kf (cpat (cpat r45 ((imul .i64 a2 r22).toNat) r50.length r60) ((imul .i64 a3 r22).toNat) r66.length r76))] [] (fun x : Unit => (Vl (.bool r90))) (fun x => [])) pu_vl rfl rfl) (wt_is' (wt_guard' rfl rfl rfl) (beq_tt h7)) fun ⟨⟩ => ?_
                  refine sx_rd' (rd_pick_true' rfl h7 rfl) rfl rfl (wt_none' rfl) ?_
                  refine sx_nil' ?_
                  show TX E K21 _
                  exact tx_pick' [] (sub_cons rfl sub_nil) (by decide) pick_nil (hK21 r90 hp)
                · refine sx_skip' rfl rfl (wt_is' (wt_guard' rfl rfl rfl) (beq_ft h7)) ?_
                  refine sx_skip' rfl rfl (wt_is' (wt_guard' rfl rfl rfl) (beq_ft h7)) ?_
                  refine sx_skip' rfl rfl (wt_is' (wt_guard' rfl rfl rfl) (beq_ft h7)) ?_
                  refine sx_rd' (rd_pick_false' rfl h7 rfl) rfl rfl (wt_none' rfl) ?_
                  refine sx_nil' ?_
                  show TX E K21 _
                  exact tx_pick' [] (sub_cons rfl sub_nil) (by decide) pick_nil (hK21 false hp)
          · intro K14 hK14
            rcases br_cases hp with ⟨h5, hp⟩ | ⟨h5, hp⟩
            · refine sx_skip' rfl rfl (wt_is' (wt_guard' rfl rfl rfl) (beq_tf h5)) ?_
              refine sx_skip' rfl rfl (wt_is' (wt_guard' rfl rfl rfl) (beq_tf h5)) ?_
              refine sx_skip' rfl rfl (wt_is' (wt_guard' rfl rfl rfl) (beq_tf h5)) ?_
              refine sx_rd' (rd_pick_true' rfl h5 rfl) rfl rfl (wt_none' rfl) ?_
              refine sx_nil' ?_
              show TX E K14 _
              exact tx_pick' [] (sub_cons rfl (sub_cons rfl (sub_cons rfl (sub_cons rfl (sub_cons rfl (sub_cons rfl sub_nil)))))) (by decide) pick_nil (hK14 true hp)
            · refine sx_rd' (rd_move' rfl) rfl rfl (wt_is' (wt_guard' rfl rfl rfl) (beq_ff h5)) ?_
              refine sx_rd' (rd_move' rfl) rfl rfl (wt_is' (wt_guard' rfl rfl rfl) (beq_ff h5)) ?_
              refine sx_rd' (rd_bin' rfl rfl eg_int ru_geq) rfl rfl (wt_is' (wt_guard' rfl rfl rfl) (beq_ff h5)) ?_
              refine sx_rd' (rd_pick_false' rfl h5 rfl) rfl rfl (wt_none' rfl) ?_
              refine sx_nil' ?_
              show TX E K14 _
              exact tx_pick' [] (sub_cons rfl (sub_cons rfl (sub_cons rfl (sub_cons rfl (sub_cons rfl (sub_cons rfl sub_nil)))))) (by decide) pick_nil (hK14 (decide (r26 ≤ a3)) hp)
        · intro K13 hK13
          rcases br_cases hp with ⟨h4, hp⟩ | ⟨h4, hp⟩
          · refine sx_skip' rfl rfl (wt_is' (wt_guard' rfl rfl rfl) (beq_tf h4)) ?_
            refine sx_skip' rfl rfl (wt_is' (wt_guard' rfl rfl rfl) (beq_tf h4)) ?_
            refine sx_skip' rfl rfl (wt_is' (wt_guard' rfl rfl rfl) (beq_tf h4)) ?_
            refine sx_rd' (rd_pick_true' rfl h4 rfl) rfl rfl (wt_none' rfl) ?_
            refine sx_nil' ?_
            show TX E K13 _
            exact tx_pick' [] (sub_cons rfl (sub_cons rfl (sub_cons rfl (sub_cons rfl (sub_cons rfl (sub_cons rfl (sub_cons rfl sub_nil))))))) (by decide) pick_nil (hK13 true hp)
          · refine sx_rd' (rd_move' rfl) rfl rfl (wt_is' (wt_guard' rfl rfl rfl) (beq_ff h4)) ?_
            refine sx_rd' (rd_move' rfl) rfl rfl (wt_is' (wt_guard' rfl rfl rfl) (beq_ff h4)) ?_
            refine sx_rd' (rd_bin' rfl rfl eg_int ru_geq) rfl rfl (wt_is' (wt_guard' rfl rfl rfl) (beq_ff h4)) ?_
            refine sx_rd' (rd_pick_false' rfl h4 rfl) rfl rfl (wt_none' rfl) ?_
            refine sx_nil' ?_
            show TX E K13 _
            exact tx_pick' [] (sub_cons rfl (sub_cons rfl (sub_cons rfl (sub_cons rfl (sub_cons rfl (sub_cons rfl (sub_cons rfl sub_nil))))))) (by decide) pick_nil (hK13 (decide (r26 ≤ a2)) hp)
      · intro K12 hK12
        rcases br_cases hp with ⟨h3, hp⟩ | ⟨h3, hp⟩
        · refine sx_skip' rfl rfl (wt_is' (wt_guard' rfl rfl rfl) (beq_tf h3)) ?_
          refine sx_skip' rfl rfl (wt_is' (wt_guard' rfl rfl rfl) (beq_tf h3)) ?_
          refine sx_rd' (rd_pick_true' rfl h3 rfl) rfl rfl (wt_none' rfl) ?_
          refine sx_nil' ?_
          show TX E K12 _
          exact tx_pick' [] (sub_cons rfl (sub_cons rfl (sub_cons rfl (sub_cons rfl (sub_cons rfl (sub_cons rfl (sub_cons rfl sub_nil))))))) (by decide) pick_nil (hK12 true hp)
        · refine sx_rd' (rd_move' rfl) rfl rfl (wt_is' (wt_guard' rfl rfl rfl) (beq_ff h3)) ?_
          refine sx_rd' (rd_bin' rfl rfl eg_int ru_lss) rfl rfl (wt_is' (wt_guard' rfl rfl rfl) (beq_ff h3)) ?_
          refine sx_rd' (rd_pick_false' rfl h3 rfl) rfl rfl (wt_none' rfl) ?_
          refine sx_nil' ?_
          show TX E K12 _
          exact tx_pick' [] (sub_cons rfl (sub_cons rfl (sub_cons rfl (sub_cons rfl (sub_cons rfl (sub_cons rfl (sub_cons rfl sub_nil))))))) (by decide) pick_nil (hK12 (decide (a3 < 0)) hp)

end Go.Proofs.Ytlipjaacncpaoaa
