/-
  Plain functions for the Go functions that this law reaches, and that each call does what its plain function says. Printed by a program of ours.
-/
import Derived.Test.YtlipjaacncpaoaaProg
import Derived.Test.YtlipjaacncpaoaaSxX
namespace Go.Proofs.Ytlipjaacncpaoaa
open Go.Sx
set_option linter.unusedVariables false
set_option maxRecDepth 100000

theorem isn27 : (Try.f27.name == "runtime.NumGoroutine") = false := by kernel_rfl
theorem isn11 : (Try.f11.name == "runtime.NumGoroutine") = false := by kernel_rfl
theorem info38 : (Try.prog.info? 38).map (fun i => (i.zero, i.size, i.bytes)) = some (some (.float .f64 0), 1, 8) := by kernel_rfl
theorem flat38 : Flat Try.prog 38 := ⟨_, Try.underlying38, fun _ h => (nomatch h), fun _ _ h => (nomatch h)⟩
theorem places91 : placesOf Try.prog [{ name := "X", type := 38, offset := 0, embedded := false, tag := "", pkgPath := "", byteOffset := 0 }, { name := "Y", type := 38, offset := 1, embedded := false, tag := "", pkgPath := "", byteOffset := 8 }] = [(0, 1), (1, 1)] := by kernel_rfl
theorem has91 : ∀ f ∈ ([{ name := "X", type := 38, offset := 0, embedded := false, tag := "", pkgPath := "", byteOffset := 0 }, { name := "Y", type := 38, offset := 1, embedded := false, tag := "", pkgPath := "", byteOffset := 8 }] : List Field), (Try.prog.info? f.type).isSome = true := fun f hf => all_of (p := fun f => (Try.prog.info? f.type).isSome) (by kernel_rfl) f hf
theorem info91 : (Try.prog.info? 91).map (fun i => (i.zero, i.size, i.bytes)) = some (some (.agg #[.float .f64 0, .float .f64 0]), 2, 16) := by kernel_rfl
theorem mixed : Try.prog.follows .mixedOrders = true := by kernel_rfl
theorem isn42 : (Try.f42.name == "runtime.NumGoroutine") = false := by kernel_rfl
theorem agg91 : Agg Try.prog 91 2 := ⟨⟨_, Try.underlying91, .inl ⟨_, rfl⟩⟩, info_size info91⟩
theorem isn68 : (Try.f68.name == "runtime.NumGoroutine") = false := by kernel_rfl
theorem isn105 : (Try.f105.name == "runtime.NumGoroutine") = false := by kernel_rfl
theorem extf138 : ∀ {x r : Nat}, gint .zero x = r → ∀ y, (y = x ∨ (isn x = true ∧ isn y = true)) → RunsF Try.prog (callFunc 138 #[.float .f64 y]) (Fl r) := fun hz y hy => hz ▸ runs_ext (e := Extern.MathFloor.toIntegral "math.archTrunc" .zero) Try.func138 (by kernel_rfl) (by kernel_rfl) (by kernel_rfl) (by kernel_rfl) (gint_runs hy)
theorem isn46 : (Try.f46.name == "runtime.NumGoroutine") = false := by kernel_rfl
theorem ext53 : ∀ {args : Array Value} {v : Value}, Runs Try.prog ((Extern.MathFloatBits.float64bits) args) v → Runs Try.prog (callFunc 53 args) (.value v) := fun hr => ru_ext Try.func53 (by kernel_rfl) (by kernel_rfl) (by kernel_rfl) (by kernel_rfl) hr
theorem ext92 : ∀ {args : Array Value} {v : Value}, Runs Try.prog ((Extern.MathFloatBits.float64frombits) args) v → Runs Try.prog (callFunc 92 args) (.value v) := fun hr => ru_ext Try.func92 (by kernel_rfl) (by kernel_rfl) (by kernel_rfl) (by kernel_rfl) hr
theorem isn28 : (Try.f28.name == "runtime.NumGoroutine") = false := by kernel_rfl
theorem isn65 : (Try.f65.name == "runtime.NumGoroutine") = false := by kernel_rfl
theorem isn30 : (Try.f30.name == "runtime.NumGoroutine") = false := by kernel_rfl
theorem info22 : (Try.prog.info? 22).map (fun i => (i.zero, i.size, i.bytes)) = some (some (.slice none 0 0), 1, 24) := by kernel_rfl
theorem isn29 : (Try.f29.name == "runtime.NumGoroutine") = false := by kernel_rfl
theorem flat22 : Flat Try.prog 22 := ⟨_, Try.underlying22, fun _ h => (nomatch h), fun _ _ h => (nomatch h)⟩
theorem isn31 : (Try.f31.name == "runtime.NumGoroutine") = false := by kernel_rfl
theorem isn50 : (Try.f50.name == "runtime.NumGoroutine") = false := by kernel_rfl
theorem isn67 : (Try.f67.name == "runtime.NumGoroutine") = false := by kernel_rfl
theorem isn103 : (Try.f103.name == "runtime.NumGoroutine") = false := by kernel_rfl
theorem isn133 : (Try.f133.name == "runtime.NumGoroutine") = false := by kernel_rfl
theorem places179 : placesOf Try.prog [{ name := "layout", type := 102, offset := 0, embedded := false, tag := "", pkgPath := "pub-orthodrome/pub/gogeom/xy", byteOffset := 0 }, { name := "stride", type := 3, offset := 1, embedded := false, tag := "", pkgPath := "pub-orthodrome/pub/gogeom/xy", byteOffset := 8 }, { name := "inputPts", type := 22, offset := 2, embedded := false, tag := "", pkgPath := "pub-orthodrome/pub/gogeom/xy", byteOffset := 16 }] = [(0, 1), (1, 1), (2, 1)] := by kernel_rfl
theorem has179 : ∀ f ∈ ([{ name := "layout", type := 102, offset := 0, embedded := false, tag := "", pkgPath := "pub-orthodrome/pub/gogeom/xy", byteOffset := 0 }, { name := "stride", type := 3, offset := 1, embedded := false, tag := "", pkgPath := "pub-orthodrome/pub/gogeom/xy", byteOffset := 8 }, { name := "inputPts", type := 22, offset := 2, embedded := false, tag := "", pkgPath := "pub-orthodrome/pub/gogeom/xy", byteOffset := 16 }] : List Field), (Try.prog.info? f.type).isSome = true := fun f hf => all_of (p := fun f => (Try.prog.info? f.type).isSome) (by kernel_rfl) f hf
theorem info179 : (Try.prog.info? 179).map (fun i => (i.zero, i.size, i.bytes)) = some (some (.agg #[.int .i64 0, .int .i64 0, .slice none 0 0]), 3, 40) := by kernel_rfl
theorem isn104 : (Try.f104.name == "runtime.NumGoroutine") = false := by kernel_rfl
theorem info3 : (Try.prog.info? 3).map (fun i => (i.zero, i.size, i.bytes)) = some (some (.int .i64 0), 1, 8) := by kernel_rfl
theorem flat3 : Flat Try.prog 3 := ⟨_, Try.underlying3, fun _ h => (nomatch h), fun _ _ h => (nomatch h)⟩
theorem isn136 : (Try.f136.name == "runtime.NumGoroutine") = false := by kernel_rfl
theorem isn137 : (Try.f137.name == "runtime.NumGoroutine") = false := by kernel_rfl
theorem nil_neq22_nilsl : ∀ (w : World), (binOp .neq 22 (.slice none 0 0) (.slice none 0 0)).run Try.prog w = .ok (.bool false) w := fun _ => by kernel_rfl
theorem idle66 : Idle Try.prog 66 2 := fun vs w hv => by
  obtain ⟨v0, v1, rfl⟩ : ∃ v0 v1, vs = [v0, v1] := by
    obtain _ | ⟨v0, vs⟩ := vs
    · simp at hv
    obtain _ | ⟨v1, vs⟩ := vs
    · simp at hv
    obtain _ | ⟨u, vs⟩ := vs
    · exact ⟨v0, v1, rfl⟩
    · simp at hv
  refine callsD_of_wpS Try.func66 rfl fun c₀ cs hu => ?_
  apply wpS_seq
  apply wpS_region
  simp [wpOpsS, go_sem, recoverD, hu, Try.ntmps66, Exit.thenS]
  refine wpS_cond (t := false) (by simp [Act.eval, Array.replicate]) ?_
  simp only [Bool.false_eq_true, if_false]
  refine wpS_of_wp (wp_skip ?_)
  cases c₀
  simp_all [bodyPostS, results, Try.results66]
theorem isn66 : (Try.f66.name == "runtime.NumGoroutine") = false := by kernel_rfl
theorem info4 : (Try.prog.info? 4).map (fun i => (i.zero, i.size, i.bytes)) = some (some (.bool false), 1, 1) := by kernel_rfl
theorem nil_neq22_sl : ∀ (q : Addr) (n c : Nat) (w : World), (binOp .neq 22 (.slice (some q) n c) (.slice none 0 0)).run Try.prog w = .ok (.bool true) w := fun _ _ _ _ => by kernel_rfl
theorem flat4 : Flat Try.prog 4 := ⟨_, Try.underlying4, fun _ h => (nomatch h), fun _ _ h => (nomatch h)⟩
theorem isn32 : (Try.f32.name == "runtime.NumGoroutine") = false := by kernel_rfl
def KT91 : Kd (Nat × Nat) := ⟨2, fun x => [(Vl (.float .f64 x.1)), (Vl (.float .f64 x.2))], fun _ => rfl⟩

def spec_Stride_j1 (k : Nat) (a0 : Int) (x1 : Bool) : Option (Int) :=
 br x1
  (some 3)
  (some a0)
def spec_Stride (k : Nat) (a0 : Int) : Option (Int) :=
 br (decide (a0 < 1))
  (some 0)
  (br (decide (a0 = 1))
   (some 2)
   (br (decide (a0 = 2))
    (spec_Stride_j1 k a0 true)
    (spec_Stride_j1 k a0 (decide (a0 = 3)))))

theorem spec_Stride_sim {k : Nat}  (a0 : Int) {out : Int} (hp : spec_Stride k a0 = some out) : Sx.Fn Try.prog 11 [(Vi a0)] [] (fun w : Unit => (Vi out)) (fun w => []) := by
 unfold spec_Stride at hp
 refine fn_of Try.func11 rfl Try.ntmps11 rfl fun E hM => ?_
 refine cr fun K1 hK1 => ?_
 refine s0 (rd_assign' rfl) ?_
 refine nk hK1 ?_
 refine cx_seq' fun K2 hK2 => ?_
 refine cx_block' ?_
 refine cr fun K3 hK3 => ?_
 refine s0 (rd_move' rfl) ?_
 refine s0 (rd_bin' rfl rfl eg_int ru_lss) ?_
 refine s0 (rd_assign' rfl) ?_
 refine nk hK3 ?_
 refine cx_cond' rfl (fun h1 => ?_) (fun h1 => ?_)
 ·replace hp := (br_t h1).symm.trans hp
  refine cr fun K4 hK4 => ?_
  refine s0 (rd_assign' rfl) ?_
  refine nk hK4 ?_
  refine cx_retc' ?_
  replace hp := Option.some.inj hp
  subst hp
  refine tx_pick' (L' := [(2, (Vi 0))]) (H' := []) [] (sub_cons rfl sub_nil) (by decide) pick_nil ?_
  exact tx_ret1' Try.results11 rfl () (rv_tmp' rfl) (List.Sublist.refl _)
 replace hp := (br_f h1).symm.trans hp
 refine cr fun K5 hK5 => ?_
 refine s0 (rd_move' rfl) ?_
 refine s0 (rd_bin' rfl rfl eg_int ru_eql) ?_
 refine s0 (rd_assign' rfl) ?_
 refine nk hK5 ?_
 refine cx_cond' rfl (fun h2 => ?_) (fun h2 => ?_)
 ·replace hp := (br_t h2).symm.trans hp
  refine cr fun K6 hK6 => ?_
  refine s0 (rd_assign' rfl) ?_
  refine nk hK6 ?_
  refine cx_retc' ?_
  replace hp := Option.some.inj hp
  subst hp
  refine tx_pick' (L' := [(2, (Vi 2))]) (H' := []) [] (sub_cons rfl sub_nil) (by decide) pick_nil ?_
  exact tx_ret1' Try.results11 rfl () (rv_tmp' rfl) (List.Sublist.refl _)
 replace hp := (br_f h2).symm.trans hp
 refine cr fun K7 hK7 => ?_
 refine s0 (rd_move' rfl) ?_
 refine s0 (rd_bin' rfl rfl eg_int ru_eql) ?_
 refine s0 (rd_move' rfl) ?_
 refine sx_cutn' 3 (fun (v1 : Bool) => (⟨17, [], [(0, (Vi a0)), (15, (Vb v1))], []⟩ : St)) (fun (v1 : Bool) => spec_Stride_j1 k a0 v1 = some out) ?_ ?_
 ·rintro x1 hp
  replace hp : spec_Stride_j1 k a0 x1 = some out := hp
  unfold spec_Stride_j1 at hp
  refine s0 (rd_assign' rfl) ?_
  refine nk hK7 ?_
  refine cx_cond' rfl (fun h4 => ?_) (fun h4 => ?_)
  ·replace hp := (br_t h4).symm.trans hp
   refine cr fun K9 hK9 => ?_
   refine s0 (rd_assign' rfl) ?_
   refine nk hK9 ?_
   refine cx_retc' ?_
   replace hp := Option.some.inj hp
   subst hp
   refine tx_pick' (L' := [(2, (Vi 3))]) (H' := []) [] (sub_cons rfl sub_nil) (by decide) pick_nil ?_
   exact tx_ret1' Try.results11 rfl () (rv_tmp' rfl) (List.Sublist.refl _)
  replace hp := (br_f h4).symm.trans hp
  refine cx_skip' ?_
  show TX E K2 _
  refine tx_k' hK2 ?_
  refine cr fun K10 hK10 => ?_
  refine s0 (rd_move' rfl) ?_
  refine s0 (rd_assign' rfl) ?_
  refine nk hK10 ?_
  refine cx_retc' ?_
  replace hp := Option.some.inj hp
  subst hp
  refine tx_pick' (L' := [(2, (Vi a0))]) (H' := []) [] (sub_cons rfl sub_nil) (by decide) pick_nil ?_
  exact tx_ret1' Try.results11 rfl () (rv_tmp' rfl) (List.Sublist.refl _)
 intro K8 hK8
 rcases br_cases hp with ⟨h3, hp⟩ | ⟨h3, hp⟩
 ·refine sx_skip' rfl rfl (wt_is' (wt_guard' rfl rfl rfl) (beq_tf h3)) ?_
  refine sx_skip' rfl rfl (wt_is' (wt_guard' rfl rfl rfl) (beq_tf h3)) ?_
  refine s0 (rd_pick_true' rfl h3 rfl) ?_
  refine sx_nil' ?_
  show TX E K8 _
  exact tx_pick' [] (sub_cons rfl (sub_cons rfl sub_nil)) (by decide) pick_nil (hK8 true hp)
 refine sx_rd' (rd_move' rfl) rfl rfl (wt_is' (wt_guard' rfl rfl rfl) (beq_ff h3)) ?_
 refine sx_rd' (rd_bin' rfl rfl eg_int ru_eql) rfl rfl (wt_is' (wt_guard' rfl rfl rfl) (beq_ff h3)) ?_
 refine s0 (rd_pick_false' rfl h3 rfl) ?_
 refine sx_nil' ?_
 show TX E K8 _
 exact tx_pick' [] (sub_cons rfl (sub_cons rfl sub_nil)) (by decide) pick_nil (hK8 (decide (a0 = 3)) hp)

def math_Trunc (k : Nat) (a0 : Nat) : Option (Nat) :=
 (some (gint .zero a0)) >>= fun r4 =>
 some r4

theorem math_Trunc_sim {k : Nat}  (a0 : Nat) {out : Nat} (hp : math_Trunc k a0 = some out) : Sx.Fn Try.prog 105 [(Vg a0)] [] (fun w : Unit => (Fl out)) (fun w => []) := by
 unfold math_Trunc at hp
 refine fn_of Try.func105 rfl Try.ntmps105 rfl fun E hM => ?_
 refine cr fun K1 hK1 => ?_
 refine s0 (rd_assign' rfl) ?_
 refine nk hK1 ?_
 refine cx_seq' fun K2 hK2 => ?_
 refine cx_cond_t' rfl rfl ?_
 refine cr fun K3 hK3 => ?_
 refine s0 (rd_move' rfl) ?_
 obtain ⟨r4, hr4, hp⟩ := bind_some hp
 refine sx_ox' (ox_extf' rfl (fl_v rfl) Try.func138 (extf138 (Option.some.inj hr4)) rfl rfl) (wt_none' rfl) fun _ => ?_
 refine s0 (rd_assign' rfl) ?_
 refine nk hK3 ?_
 refine cx_retc' ?_
 replace hp := Option.some.inj hp
 subst hp
 refine tx_pick' (L' := [(2, (Fl r4))]) (H' := []) [] (sub_cons rfl sub_nil) (by decide) pick_nil ?_
 exact tx_ret1' Try.results105 rfl () (rv_tmp' rfl) (List.Sublist.refl _)

def math_Abs (k : Nat) (a0 : Nat) : Option (Nat) :=
 some (ffrom (iandn .u64 (fbits a0) 9223372036854775808))

theorem math_Abs_sim {k : Nat}  (a0 : Nat) {out : Nat} (hp : math_Abs k a0 = some out) : Sx.Fn Try.prog 46 [(Vg a0)] [] (fun w : Unit => (Vg out)) (fun w => []) := by
 unfold math_Abs at hp
 refine fn_of Try.func46 rfl Try.ntmps46 rfl fun E hM => ?_
 refine cr fun K1 hK1 => ?_
 refine s0 (rd_assign' rfl) ?_
 refine nk hK1 ?_
 refine cr fun K2 hK2 => ?_
 refine s0 (rd_move' rfl) ?_
 refine s0 (rd_ext' (us := [.float .f64 a0]) rfl (ext53 ex_bits)) ?_
 refine s0 (rd_bin' rfl rfl eg_int ru_andn) ?_
 refine s0 (rd_ext' (us := [.int .u64 (iandn .u64 (fbits a0) 9223372036854775808)]) rfl (ext92 ex_from)) ?_
 refine s0 (rd_assign' rfl) ?_
 refine nk hK2 ?_
 refine cx_retc' ?_
 replace hp := Option.some.inj hp
 subst hp
 refine tx_pick' (L' := [(2, (Vg (ffrom (iandn .u64 (fbits a0) 9223372036854775808))))]) (H' := []) [] (sub_cons rfl sub_nil) (by decide) pick_nil ?_
 exact tx_ret1' Try.results46 rfl () (rv_tmp' rfl) (List.Sublist.refl _)

def laws_wholeTo_j2 (k : Nat) (rec1 : Int → Option (Unit ⊕ Unit)) (x3 : Int) (x2 : Bool) : Option (Unit ⊕ Unit) :=
 br x2
  (some (.inl ()))
  (rec1 (iadd .i64 x3 1))
def laws_wholeTo_l1s (a1 : List Nat) (a0 : Nat) (k : Nat) (rec1 : Int → Option (Unit ⊕ Unit)) (x3 : Int) : Option (Unit ⊕ Unit) :=
 br (decide (x3 < (a1.length : Int)))
  ((idx a1 x3) >>= fun r11 =>
  (math_Trunc k r11) >>= fun r15 =>
  br (fne r11 r15)
   (laws_wholeTo_j2 k rec1 x3 true)
   ((math_Abs k r11) >>= fun r19 =>
   laws_wholeTo_j2 k rec1 x3 (fgt r19 a0)))
  (some (.inr ()))
def laws_wholeTo_l1 (a1 : List Nat) (a0 : Nat) : Nat → Int → Option (Unit ⊕ Unit)
 | 0, _ => none
 | k + 1, v => laws_wholeTo_l1s a1 a0 k (laws_wholeTo_l1 a1 a0 k) v
def laws_wholeTo (k : Nat) (a0 : Nat) (a1 : List Nat) : Option (Bool) :=
 (laws_wholeTo_l1 a1 a0 k 0) >>= fun y1 => match y1 with
  | (.inl v4) =>
   (some false)
  | (.inr v5) =>
   (some true)

theorem laws_wholeTo_sim {k : Nat}  (a0 : Nat) (a1 : List Nat) {out : Bool} (hp : laws_wholeTo k a0 a1 = some out) : Sx.Fn Try.prog 68 [(Vg a0), (Sl Kf a1)] [] (fun w : Unit => (Vb out)) (fun w => []) := by
 unfold laws_wholeTo at hp
 refine fn_of Try.func68 rfl Try.ntmps68 rfl fun E hM => ?_
 refine cr fun K1 hK1 => ?_
 refine s0 (rd_assign' rfl) ?_
 refine nk hK1 ?_
 refine cx_seq' fun K2 hK2 => ?_
 refine cr fun K3 hK3 => ?_
 refine s0 (rd_move' rfl) ?_
 refine s0 (rd_len' rfl Try.underlying22) ?_
 refine s0 (rd_move' rfl) ?_
 refine nk hK3 ?_
 refine cx_block' ?_
 obtain ⟨y1, hy1, hp⟩ := bind_some hp
 refine cx_loopg' (F := laws_wholeTo_l1 a1 a0) (G := fun k R v => laws_wholeTo_l1s a1 a0 k R v) (x := 0) (gh := ()) (fun (v2 : Int) (w2 : Unit) => (⟨24, [], [(0, (Vg a0)), (7, (Sl Kf a1)), (8, (Vi (a1.length : Int))), (9, (Vi v2))], []⟩ : St)) (fun (y : Unit ⊕ Unit) => match y with | (.inl v4) => Zg E Exit.ret (fun (w4 : Unit) => (⟨24, [], [(4, (Vb false))], []⟩ : St)) | (.inr v5) => Zg E (Exit.exit 0) (fun (w5 : Unit) => (⟨24, [], [], []⟩ : St))) (fun _ => rfl) (fun _ _ => rfl) ?_ hy1 (tx_to' rfl [] (sub_cons rfl (sub_cons rfl (sub_cons rfl (sub_cons rfl sub_nil)))) (by decide) pick_nil) ?_
 ·clear hp hy1
  clear y1
  intro k rec1 KY1 ih1
  rintro x3 ⟨⟩ y1 hp
  replace hp : laws_wholeTo_l1s a1 a0 k rec1 x3 = some y1 := hp
  unfold laws_wholeTo_l1s at hp
  refine cr fun K11 hK11 => ?_
  refine s0 (rd_bin' rfl rfl eg_int ru_lss) ?_
  refine nk hK11 ?_
  refine cx_seq' fun K12 hK12 => ?_
  refine cx_cond' rfl (fun h5 => ?_) (fun h5 => ?_)
  ·replace hp := (br_t h5).symm.trans hp
   refine cx_skip' ?_
   show TX E K12 _
   refine tx_k' hK12 ?_
   refine cx_seq' fun K13 hK13 => ?_
   refine cx_block' ?_
   refine cr fun K14 hK14 => ?_
   obtain ⟨r11, hr11, hp⟩ := bind_some hp
   refine s0 (rd_at' (K := Kf) rfl rfl hr11 Try.underlying22 info38) ?_
   refine s0 (rd_load_pt' rfl rfl flat38) ?_
   refine s0 (rd_assign' rfl) ?_
   refine nk hK14 ?_
   refine cr fun K15 hK15 => ?_
   refine s0 (rd_move' rfl) ?_
   refine s0 (rd_move' rfl) ?_
   obtain ⟨r15, hr15, hp⟩ := bind_some hp
   refine sx_ox' (ox_calln' (ent_fn' Try.func105 isn105 rfl rfl) (math_Trunc_sim _ hr15 : Sx.Fn Try.prog 105 [(Vg r11)] [] (fun x : Unit => (Fl r15)) (fun x => [])) (Hn := fun x : Unit => []) (fun _ => rfl) rfl rfl) (wt_none' rfl) fun ⟨⟩ => ?_
   refine s0 (rd_fcmp' (fl_v rfl) (fl_f rfl) rfl) ?_
   refine s0 (rd_move' rfl) ?_
   refine sx_cutn' 5 (fun (v3 : Bool) => (⟨24, [], [(0, (Vg a0)), (7, (Sl Kf a1)), (8, (Vi (a1.length : Int))), (9, (Vi x3)), (22, (Vb v3))], []⟩ : St)) (fun (v3 : Bool) => laws_wholeTo_j2 k rec1 x3 v3 = some y1) ?_ ?_
   ·rintro x2 hp
    replace hp : laws_wholeTo_j2 k rec1 x3 x2 = some y1 := hp
    unfold laws_wholeTo_j2 at hp
    refine nk hK15 ?_
    refine cx_cond' rfl (fun h7 => ?_) (fun h7 => ?_)
    ·replace hp := (br_t h7).symm.trans hp
     refine cr fun K17 hK17 => ?_
     refine s0 (rd_assign' rfl) ?_
     refine nk hK17 ?_
     refine cx_retc' ?_
     replace hp := Option.some.inj hp
     subst hp
     show TX E (Zg E Exit.ret _ Exit.ret) _
     exact tx_zend' () rfl [] (sub_cons rfl sub_nil) (by decide) pick_nil
    replace hp := (br_f h7).symm.trans hp
    refine cx_skip' ?_
    show TX E K13 _
    refine tx_k' hK13 ?_
    refine cx_region' ?_
    refine s0 (rd_bin' rfl rfl eg_int ru_add) ?_
    refine s0 (rd_move' rfl) ?_
    refine sx_nil' ?_
    show TX E (KY1 _) _
    exact tx_pick' [] (sub_cons rfl (sub_cons rfl (sub_cons rfl (sub_cons rfl sub_nil)))) (by decide) pick_nil (ih1 (iadd .i64 x3 1) () _ hp)
   intro K16 hK16
   rcases br_cases hp with ⟨h6, hp⟩ | ⟨h6, hp⟩
   ·refine sx_skip' rfl rfl (wt_is' (wt_guard' rfl rfl rfl) (beq_tf h6)) ?_
    refine sx_skip' rfl rfl (wt_is' (wt_guard' rfl rfl rfl) (beq_tf h6)) ?_
    refine sx_skip' rfl rfl (wt_is' (wt_guard' rfl rfl rfl) (beq_tf h6)) ?_
    refine sx_skip' rfl rfl (wt_is' (wt_guard' rfl rfl rfl) (beq_tf h6)) ?_
    refine s0 (rd_pick_true' rfl h6 rfl) ?_
    refine sx_nil' ?_
    show TX E K16 _
    exact tx_pick' [] (sub_cons rfl (sub_cons rfl (sub_cons rfl (sub_cons rfl (sub_cons rfl sub_nil))))) (by decide) pick_nil (hK16 true hp)
   refine sx_rd' (rd_move' rfl) rfl rfl (wt_is' (wt_guard' rfl rfl rfl) (beq_ff h6)) ?_
   obtain ⟨r19, hr19, hp⟩ := bind_some hp
   refine sx_ox' (ox_calln' (ent_fn' Try.func46 isn46 rfl rfl) (math_Abs_sim _ hr19 : Sx.Fn Try.prog 46 [(Vg r11)] [] (fun x : Unit => (Vg r19)) (fun x => [])) (Hn := fun x : Unit => []) (fun _ => rfl) rfl rfl) (wt_is' (wt_guard' rfl rfl rfl) (beq_ff h6)) fun ⟨⟩ => ?_
   refine sx_rd' (rd_move' rfl) rfl rfl (wt_is' (wt_guard' rfl rfl rfl) (beq_ff h6)) ?_
   refine sx_rd' (rd_bin' rfl rfl eg_flt ru_fgt) rfl rfl (wt_is' (wt_guard' rfl rfl rfl) (beq_ff h6)) ?_
   refine s0 (rd_pick_false' rfl h6 rfl) ?_
   refine sx_nil' ?_
   show TX E K16 _
   exact tx_pick' [] (sub_cons rfl (sub_cons rfl (sub_cons rfl (sub_cons rfl (sub_cons rfl sub_nil))))) (by decide) pick_nil (hK16 (fgt r19 a0) hp)
  replace hp := (br_f h5).symm.trans hp
  refine cx_exit' ?_
  replace hp := Option.some.inj hp
  subst hp
  show TX E (Zg E (Exit.exit 0) _ (Exit.exit 0)) _
  exact tx_zend' () rfl [] sub_nil (by decide) pick_nil
 rcases y1 with v4 | v5
 ·dsimp only at hp
  refine zg_out fun w4 => ?_
  replace hp := Option.some.inj hp
  subst hp
  refine tx_pick' (L' := [(4, (Vb false))]) (H' := []) [] (sub_cons rfl sub_nil) (by decide) pick_nil ?_
  exact tx_ret1' Try.results68 rfl () (rv_tmp' rfl) (List.Sublist.refl _)
 dsimp only at hp
 refine zg_out fun w5 => ?_
 show TX E K2 _
 refine tx_k' hK2 ?_
 refine cr fun K18 hK18 => ?_
 refine s0 (rd_assign' rfl) ?_
 refine nk hK18 ?_
 refine cx_retc' ?_
 replace hp := Option.some.inj hp
 subst hp
 refine tx_pick' (L' := [(4, (Vb true))]) (H' := []) [] (sub_cons rfl sub_nil) (by decide) pick_nil ?_
 exact tx_ret1' Try.results68 rfl () (rv_tmp' rfl) (List.Sublist.refl _)

def laws_planeTo_l1s (a1 : List (Nat × Nat)) (a0 : Nat) (k : Nat) (rec1 : Int → Option (Unit ⊕ Unit)) (x1 : Int) : Option (Unit ⊕ Unit) :=
 br (decide (x1 < (a1.length : Int)))
  ((idx a1 x1) >>= fun r11 =>
  (laws_wholeTo k a0 ([r11.1, r11.2])) >>= fun r19 =>
  br (!r19)
   (some (.inl ()))
   (rec1 (iadd .i64 x1 1)))
  (some (.inr ()))
def laws_planeTo_l1 (a1 : List (Nat × Nat)) (a0 : Nat) : Nat → Int → Option (Unit ⊕ Unit)
 | 0, _ => none
 | k + 1, v => laws_planeTo_l1s a1 a0 k (laws_planeTo_l1 a1 a0 k) v
def laws_planeTo (k : Nat) (a0 : Nat) (a1 : List (Nat × Nat)) : Option (Bool) :=
 (laws_planeTo_l1 a1 a0 k 0) >>= fun y1 => match y1 with
  | (.inl v2) =>
   (some false)
  | (.inr v3) =>
   (some true)

theorem laws_planeTo_sim {k : Nat}  (a0 : Nat) (a1 : List (Nat × Nat)) {out : Bool} (hp : laws_planeTo k a0 a1 = some out) : Sx.Fn Try.prog 42 [(Vg a0), (Sl KT91 a1)] [] (fun w : Unit => (Vb out)) (fun w => []) := by
 unfold laws_planeTo at hp
 refine fn_of Try.func42 rfl Try.ntmps42 rfl fun E hM => ?_
 refine cr fun K1 hK1 => ?_
 refine s0 (rd_assign' rfl) ?_
 refine nk hK1 ?_
 refine cx_seq' fun K2 hK2 => ?_
 refine cr fun K3 hK3 => ?_
 refine s0 (rd_move' rfl) ?_
 refine s0 (rd_len' rfl Try.underlying56) ?_
 refine s0 (rd_move' rfl) ?_
 refine nk hK3 ?_
 refine cx_block' ?_
 obtain ⟨y1, hy1, hp⟩ := bind_some hp
 refine cx_loopg' (F := laws_planeTo_l1 a1 a0) (G := fun k R v => laws_planeTo_l1s a1 a0 k R v) (x := 0) (gh := ()) (fun (v1 : Int) (w1 : Unit) => (⟨22, [], [(0, (Vg a0)), (7, (Sl KT91 a1)), (8, (Vi (a1.length : Int))), (9, (Vi v1))], []⟩ : St)) (fun (y : Unit ⊕ Unit) => match y with | (.inl v2) => Zg E Exit.ret (fun (w2 : Unit) => (⟨22, [], [(4, (Vb false))], []⟩ : St)) | (.inr v3) => Zg E (Exit.exit 0) (fun (w3 : Unit) => (⟨22, [], [], []⟩ : St))) (fun _ => rfl) (fun _ _ => rfl) ?_ hy1 (tx_to' rfl [] (sub_cons rfl (sub_cons rfl (sub_cons rfl (sub_cons rfl sub_nil)))) (by decide) pick_nil) ?_
 ·clear hp hy1
  clear y1
  intro k rec1 KY1 ih1
  rintro x1 ⟨⟩ y1 hp
  replace hp : laws_planeTo_l1s a1 a0 k rec1 x1 = some y1 := hp
  unfold laws_planeTo_l1s at hp
  refine cr fun K10 hK10 => ?_
  refine s0 (rd_bin' rfl rfl eg_int ru_lss) ?_
  refine nk hK10 ?_
  refine cx_seq' fun K11 hK11 => ?_
  refine cx_cond' rfl (fun h4 => ?_) (fun h4 => ?_)
  ·replace hp := (br_t h4).symm.trans hp
   refine cx_skip' ?_
   show TX E K11 _
   refine tx_k' hK11 ?_
   refine cx_seq' fun K12 hK12 => ?_
   refine cx_block' ?_
   refine cr fun K13 hK13 => ?_
   obtain ⟨r11, hr11, hp⟩ := bind_some hp
   refine s0 (rd_at' (K := KT91) rfl rfl hr11 Try.underlying56 info91) ?_
   refine s0 (rd_load_pt_agg' (nn := 2) rfl rfl agg91 (l' := [(Vg r11.1), (Vg r11.2)]) rfl) ?_
   refine sx_ox' (ox_alloc' info91 rfl rfl rfl rfl (l := [(Vg 0), (Vg 0)]) rfl) (wt_none' rfl) fun q6 => ?_
   refine sx_ox' (ox_store' (i := 0) (o := 0) rfl rfl (lv_ag _) ⟨rfl, rfl, rfl, rfl⟩ rfl info91 rfl (H' := [⟨.pointer (some q6), [(Vg r11.1), (Vg r11.2)], 91, none⟩]) rfl) (wt_none' rfl) fun _ => ?_
   refine nk hK13 ?_
   refine cr fun K14 hK14 => ?_
   refine s0 (rd_move' rfl) ?_
   refine s0 (rd_field0' rfl Try.underlying91 rfl info38 rfl) ?_
   refine s0 (rd_load' (i := 0) (o := 0) rfl ⟨rfl, rfl, rfl, rfl⟩ rfl flat38) ?_
   refine s0 (rd_field' (off := 1) rfl Try.underlying91 rfl info38 rfl) ?_
   refine s0 (rd_load' (i := 0) (o := 1) rfl ⟨rfl, rfl, rfl, rfl⟩ rfl flat38) ?_
   refine sx_ox' (ox_rowlit' (K := Kf) (xs := [r11.1, r11.2]) (qs := [(0, [(Vg r11.1)]), (1, [(Vg r11.2)])]) ⟨rfl, ⟨_, rfl, (lv_vl rfl rfl)⟩, ⟨rfl, ⟨_, rfl, (lv_vl rfl rfl)⟩, trivial⟩⟩ Try.underlying22 info38 rfl rfl rfl rfl rfl (by kernel_rfl) rfl rfl rfl) (wt_none' rfl) fun g18 => ?_
   obtain ⟨r19, hr19, hp⟩ := bind_some hp
   refine sx_ox' (ox_brw' (frz_row 0 [(18, (Vl (Vs g18)), (Sl Kf ([r11.1, r11.2])))] (K := Kf) (xs := [r11.1, r11.2]) (by decide) rfl ⟨⟨rfl, frz_it⟩, trivial⟩ (H' := [⟨.pointer (some q6), [(Vg r11.1), (Vg r11.2)], 91, none⟩]) frzH_refl) (ent_fn' Try.func68 isn68 rfl rfl) (laws_wholeTo_sim _ _ hr19 : Sx.Fn Try.prog 68 [(Vg a0), (Sl Kf ([r11.1, r11.2]))] [] (fun x : Unit => (Vb r19)) (fun x => [])) pu_vl rfl rfl) (wt_none' rfl) fun ⟨⟩ => ?_
   refine s0 (rd_un' rfl ru_not) ?_
   refine nk hK14 ?_
   refine cx_cond' rfl (fun h5 => ?_) (fun h5 => ?_)
   ·replace hp := (br_t h5).symm.trans hp
    refine cr fun K15 hK15 => ?_
    refine s0 (rd_assign' rfl) ?_
    refine nk hK15 ?_
    refine cx_retc' ?_
    replace hp := Option.some.inj hp
    subst hp
    show TX E (Zg E Exit.ret _ Exit.ret) _
    exact tx_zend' () rfl [] (sub_cons rfl sub_nil) (by decide) pick_nil
   replace hp := (br_f h5).symm.trans hp
   refine cx_skip' ?_
   show TX E K12 _
   refine tx_k' hK12 ?_
   refine cx_region' ?_
   refine s0 (rd_bin' rfl rfl eg_int ru_add) ?_
   refine s0 (rd_move' rfl) ?_
   refine sx_nil' ?_
   show TX E (KY1 _) _
   exact tx_pick' [] (sub_cons rfl (sub_cons rfl (sub_cons rfl (sub_cons rfl sub_nil)))) (by decide) pick_nil (ih1 (iadd .i64 x1 1) () _ hp)
  replace hp := (br_f h4).symm.trans hp
  refine cx_exit' ?_
  replace hp := Option.some.inj hp
  subst hp
  show TX E (Zg E (Exit.exit 0) _ (Exit.exit 0)) _
  exact tx_zend' () rfl [] sub_nil (by decide) pick_nil
 rcases y1 with v2 | v3
 ·dsimp only at hp
  refine zg_out fun w2 => ?_
  replace hp := Option.some.inj hp
  subst hp
  refine tx_pick' (L' := [(4, (Vb false))]) (H' := []) [] (sub_cons rfl sub_nil) (by decide) pick_nil ?_
  exact tx_ret1' Try.results42 rfl () (rv_tmp' rfl) (List.Sublist.refl _)
 dsimp only at hp
 refine zg_out fun w3 => ?_
 show TX E K2 _
 refine tx_k' hK2 ?_
 refine cr fun K16 hK16 => ?_
 refine s0 (rd_assign' rfl) ?_
 refine nk hK16 ?_
 refine cx_retc' ?_
 replace hp := Option.some.inj hp
 subst hp
 refine tx_pick' (L' := [(4, (Vb true))]) (H' := []) [] (sub_cons rfl sub_nil) (by decide) pick_nil ?_
 exact tx_ret1' Try.results42 rfl () (rv_tmp' rfl) (List.Sublist.refl _)

def laws_flatTo_l1s (a1 : List Nat) (r19 : Int) (k : Nat) (rec1 : ((List (Nat × Nat)) × Int) → Option ((List (Nat × Nat)))) (x3 : List (Nat × Nat)) (x4 : Int) : Option ((List (Nat × Nat))) :=
 br (decide (x4 < (a1.length : Int)))
  ((idx a1 x4) >>= fun r43 =>
  (idx a1 (iadd .i64 x4 1)) >>= fun r48 =>
  (apd 16 x3 ([(r43, r48)])) >>= fun r52 =>
  rec1 (r52, (iadd .i64 x4 r19)))
  (some x3)
def laws_flatTo_l1 (a1 : List Nat) (r19 : Int) : Nat → ((List (Nat × Nat)) × Int) → Option ((List (Nat × Nat)))
 | 0, _ => none
 | k + 1, v => laws_flatTo_l1s a1 r19 k (laws_flatTo_l1 a1 r19 k) v.1 v.2
def laws_flatTo_j2 (k : Nat) (a1 : List Nat) (r19 : Int) (a2 : Nat) (x2 : Bool) : Option ((List (Nat × Nat)) × Bool) :=
 br x2
  (some ([], false))
  ((laws_flatTo_l1 a1 r19 k ([], 0)) >>= fun v4 =>
  (laws_planeTo k a2 v4) >>= fun r56 =>
  some (v4, r56))
def laws_flatTo_j1 (k : Nat) (a0 : Int) (a1 : List Nat) (a2 : Nat) (a3 : Int) (x1 : Bool) : Option ((List (Nat × Nat)) × Bool) :=
 br x1
  (some ([], false))
  ((spec_Stride k a0) >>= fun r19 =>
  (irem (a1.length : Int) r19) >>= fun r23 =>
  br (!decide (r23 = 0))
   (laws_flatTo_j2 k a1 r19 a2 true)
   (laws_flatTo_j2 k a1 r19 a2 (decide ((imul .i64 r19 a3) < (a1.length : Int)))))
def laws_flatTo (k : Nat) (a0 : Int) (a1 : List Nat) (a2 : Nat) (a3 : Int) : Option ((List (Nat × Nat)) × Bool) :=
 br (decide (a0 < 1))
  (laws_flatTo_j1 k a0 a1 a2 a3 true)
  (laws_flatTo_j1 k a0 a1 a2 a3 (decide (8 < a0)))

theorem laws_flatTo_sim {k : Nat}  (a0 : Int) (a1 : List Nat) (a2 : Nat) (a3 : Int) {out : (List (Nat × Nat)) × Bool} (hp : laws_flatTo k a0 a1 a2 a3 = some out) : Sx.Fn Try.prog 27 [(Vi a0), (Sl Kf a1), (Vg a2), (Vi a3)] [] (fun w : Unit => (Tu [(Sl KT91 out.1), (Vb out.2)])) (fun w => []) := by
 unfold laws_flatTo at hp
 refine fn_of Try.func27 rfl Try.ntmps27 rfl fun E hM => ?_
 refine cr fun K1 hK1 => ?_
 refine s0 (rd_assign' rfl) ?_
 refine s0 (rd_assign' rfl) ?_
 refine nk hK1 ?_
 refine cx_seq' fun K2 hK2 => ?_
 refine cr fun K3 hK3 => ?_
 refine s0 (rd_move' rfl) ?_
 refine s0 (rd_bin' rfl rfl eg_int ru_lss) ?_
 refine s0 (rd_move' rfl) ?_
 refine sx_cutn' 3 (fun (v1 : Bool) => (⟨57, [], [(0, (Vi a0)), (1, (Sl Kf a1)), (2, (Vg a2)), (3, (Vi a3)), (8, Vn), (17, (Vb v1))], []⟩ : St)) (fun (v1 : Bool) => laws_flatTo_j1 k a0 a1 a2 a3 v1 = some out) ?_ ?_
 ·rintro x1 hp
  replace hp : laws_flatTo_j1 k a0 a1 a2 a3 x1 = some out := hp
  unfold laws_flatTo_j1 at hp
  refine nk hK3 ?_
  refine cx_cond' rfl (fun h2 => ?_) (fun h2 => ?_)
  ·replace hp := (br_t h2).symm.trans hp
   refine cr fun K5 hK5 => ?_
   refine s0 (rd_assign' rfl) ?_
   refine s0 (rd_assign' rfl) ?_
   refine nk hK5 ?_
   refine cx_retc' ?_
   replace hp := Option.some.inj hp
   subst hp
   refine tx_pick' (L' := [(8, Vn), (9, (Vb false))]) (H' := []) [] (sub_cons rfl (sub_cons rfl sub_nil)) (by decide) pick_nil ?_
   exact tx_ret2' Try.results27 rfl () (rv_imp' (x := Vn) (y := (Sl KT91 [])) (rv_tmp' rfl) imp_nil) (rv_tmp' rfl) rfl (List.Sublist.refl _)
  replace hp := (br_f h2).symm.trans hp
  refine cx_skip' ?_
  show TX E K2 _
  refine tx_k' hK2 ?_
  refine cr fun K6 hK6 => ?_
  refine s0 (rd_move' rfl) ?_
  obtain ⟨r19, hr19, hp⟩ := bind_some hp
  refine sx_ox' (ox_calln' (ent_fn' Try.func11 isn11 rfl rfl) (spec_Stride_sim _ hr19 : Sx.Fn Try.prog 11 [(Vi a0)] [] (fun x : Unit => (Vi r19)) (fun x => [])) (Hn := fun x : Unit => []) (fun _ => rfl) rfl rfl) (wt_none' rfl) fun ⟨⟩ => ?_
  refine s0 (rd_assign' rfl) ?_
  refine nk hK6 ?_
  refine cx_seq' fun K7 hK7 => ?_
  refine cr fun K8 hK8 => ?_
  refine s0 (rd_move' rfl) ?_
  refine s0 (rd_len' rfl Try.underlying22) ?_
  refine s0 (rd_move' rfl) ?_
  obtain ⟨r23, hr23, hp⟩ := bind_some hp
  refine s0 (rd_bin' rfl rfl eg_int (ru_rem hr23)) ?_
  refine s0 (rd_bin' rfl rfl eg_int ru_neq) ?_
  refine s0 (rd_move' rfl) ?_
  refine sx_cutn' 7 (fun (v2 : Bool) => (⟨57, [], [(1, (Sl Kf a1)), (2, (Vg a2)), (8, Vn), (10, (Vi r19)), (32, (Vb v2))], []⟩ : St)) (fun (v2 : Bool) => laws_flatTo_j2 k a1 r19 a2 v2 = some out) ?_ ?_
  ·rintro x2 hp
   replace hp : laws_flatTo_j2 k a1 r19 a2 x2 = some out := hp
   unfold laws_flatTo_j2 at hp
   refine nk hK8 ?_
   refine cx_cond' rfl (fun h4 => ?_) (fun h4 => ?_)
   ·replace hp := (br_t h4).symm.trans hp
    refine cr fun K10 hK10 => ?_
    refine s0 (rd_assign' rfl) ?_
    refine s0 (rd_assign' rfl) ?_
    refine nk hK10 ?_
    refine cx_retc' ?_
    replace hp := Option.some.inj hp
    subst hp
    refine tx_pick' (L' := [(8, Vn), (9, (Vb false))]) (H' := []) [] (sub_cons rfl (sub_cons rfl sub_nil)) (by decide) pick_nil ?_
    exact tx_ret2' Try.results27 rfl () (rv_imp' (x := Vn) (y := (Sl KT91 [])) (rv_tmp' rfl) imp_nil) (rv_tmp' rfl) rfl (List.Sublist.refl _)
   replace hp := (br_f h4).symm.trans hp
   refine cx_skip' ?_
   show TX E K7 _
   refine tx_k' hK7 ?_
   refine cx_seq' fun K11 hK11 => ?_
   refine cr fun K12 hK12 => ?_
   refine s0 (rd_assign' rfl) ?_
   refine nk hK12 ?_
   refine cx_block' ?_
   obtain ⟨v4, hy1, hp⟩ := bind_some hp
   refine tx_nilrow' KT91 91 ?_
   refine cx_loopg' (F := laws_flatTo_l1 a1 r19) (G := fun k R v => laws_flatTo_l1s a1 r19 k R v.1 v.2) (x := ([], 0)) (gh := (none, 0, 0)) (fun (v3 : (List (Nat × Nat)) × Int) (w3 : Gs) => (⟨57, [], [(1, (Sl Kf a1)), (2, (Vg a2)), (8, (Vl (Vs w3))), (10, (Vi r19)), (11, (Vi v3.2))], [(Rw KT91 91 (Vs w3) v3.1)]⟩ : St)) (fun (v4 : (List (Nat × Nat))) => Zg E (Exit.exit 0) (fun (w4 : Gs) => (⟨57, [], [(2, (Vg a2)), (8, (Vl (Vs w4)))], [(Rw KT91 91 (Vs w4) v4)]⟩ : St))) (fun _ => rfl) (fun _ _ => rfl) ?_ hy1 (tx_to' rfl [0] (sub_cons rfl (sub_cons rfl (sub_cons rfl (sub_cons rfl (sub_cons rfl sub_nil))))) (by decide) (pick_cons rfl pick_nil)) ?_
   ·clear hp hy1
    clear v4
    intro k rec1 KY1 ih1
    rintro ⟨x3, x4⟩ g901 y1 hp
    replace hp : laws_flatTo_l1s a1 r19 k rec1 x3 x4 = some y1 := hp
    unfold laws_flatTo_l1s at hp
    refine cx_seq' fun K16 hK16 => ?_
    refine cr fun K17 hK17 => ?_
    refine s0 (rd_move' rfl) ?_
    refine s0 (rd_move' rfl) ?_
    refine s0 (rd_len' rfl Try.underlying22) ?_
    refine s0 (rd_bin' rfl rfl eg_int ru_lss) ?_
    refine nk hK17 ?_
    refine cx_cond' rfl (fun h7 => ?_) (fun h7 => ?_)
    ·replace hp := (br_t h7).symm.trans hp
     refine cx_skip' ?_
     show TX E K16 _
     refine tx_k' hK16 ?_
     refine cx_seq' fun K18 hK18 => ?_
     refine cx_block' ?_
     refine cx_plan' [] [(12, 1)] [(0, 1), (1, 1), (2, 1), (3, 1), (4, 1), (5, 1), (6, 1), (7, 1), (8, 1), (9, 1), (10, 1), (11, 0), (12, 0), (13, 1)] mixed (by kernel_rfl) ?_
     refine px_rd' rfl (rd_move' rfl) rfl rfl (wt_none' rfl) ?_
     refine px_rd' rfl (rd_move' rfl) rfl rfl (wt_none' rfl) ?_
     refine px_rd' rfl (rd_move' rfl) rfl rfl (wt_none' rfl) ?_
     obtain ⟨r43, hr43, hp⟩ := bind_some hp
     refine px_rd' rfl (rd_at' (K := Kf) rfl rfl hr43 Try.underlying22 info38) rfl rfl (wt_none' rfl) ?_
     refine px_rd' rfl (rd_load_pt' rfl rfl flat38) rfl rfl (wt_none' rfl) ?_
     refine px_rd' rfl (rd_move' rfl) rfl rfl (wt_none' rfl) ?_
     refine px_rd' rfl (rd_move' rfl) rfl rfl (wt_none' rfl) ?_
     refine px_rd' rfl (rd_bin' rfl rfl eg_int ru_add) rfl rfl (wt_none' rfl) ?_
     obtain ⟨r48, hr48, hp⟩ := bind_some hp
     refine px_rd' rfl (rd_at' (K := Kf) rfl rfl hr48 Try.underlying22 info38) rfl rfl (wt_none' rfl) ?_
     refine px_rd' rfl (rd_load_pt' rfl rfl flat38) rfl rfl (wt_none' rfl) ?_
     refine px_rd' rfl (rd_build' (pls := [(0, 1), (1, 1)]) (qs := [(0, [(Vg r43)]), (1, [(Vg r48)])]) (r := [(Vg r43), (Vg r48)]) ⟨rfl, ⟨_, rfl, (lv_vl rfl rfl)⟩, ⟨rfl, ⟨_, rfl, (lv_vl rfl rfl)⟩, trivial⟩⟩ Try.underlying91 has91 places91 info91 rfl rfl rfl) rfl rfl (wt_none' rfl) ?_
     refine px_ox' rfl (ox_rowlit' (K := KT91) (xs := [(r43, r48)]) (qs := [(0, [(Vg r43), (Vg r48)])]) ⟨rfl, ⟨_, rfl, (lv_ag _)⟩, trivial⟩ Try.underlying56 info91 rfl rfl rfl rfl rfl (by kernel_rfl) rfl rfl rfl) rfl bs_nil (wt_none' rfl) fun g51 => ?_
     obtain ⟨r52, hr52, hp⟩ := bind_some hp
     refine px_ox' rfl (ox_append' (K := KT91) (i := 1) (xs := x3) (ys := ([(r43, r48)])) rfl rfl rfl (sr_row' (j := 0) rfl rfl rfl Try.underlying56) hr52 Try.underlying56 info91 rfl rfl rfl (H' := [(Rw KT91 91 (Vs g51) ([(r43, r48)]))]) rfl) rfl bs_nil (wt_none' rfl) fun g52 => ?_
     refine px_rd' rfl (rd_assign' rfl) rfl rfl (wt_none' rfl) ?_
     refine px_nil' ?_
     show TX E K18 _
     refine tx_k' hK18 ?_
     refine cx_region' ?_
     refine s0 (rd_move' rfl) ?_
     refine s0 (rd_move' rfl) ?_
     refine s0 (rd_bin' rfl rfl eg_int ru_add) ?_
     refine s0 (rd_assign' rfl) ?_
     refine sx_nil' ?_
     show TX E (KY1 _) _
     exact tx_pick' [0] (sub_cons rfl (sub_cons rfl (sub_cons rfl (sub_cons rfl (sub_cons rfl sub_nil))))) (by decide) (pick_cons rfl pick_nil) (ih1 (r52, (iadd .i64 x4 r19)) g52 _ hp)
    replace hp := (br_f h7).symm.trans hp
    refine cx_exit' ?_
    replace hp := Option.some.inj hp
    subst hp
    show TX E (Zg E (Exit.exit 0) _ (Exit.exit 0)) _
    exact tx_zend' g901 rfl [0] (sub_cons rfl (sub_cons rfl sub_nil)) (by decide) (pick_cons rfl pick_nil)
   refine zg_out fun w4 => ?_
   show TX E K11 _
   refine tx_k' hK11 ?_
   refine cr fun K19 hK19 => ?_
   refine s0 (rd_move' rfl) ?_
   refine s0 (rd_move' rfl) ?_
   refine s0 (rd_move' rfl) ?_
   obtain ⟨r56, hr56, hp⟩ := bind_some hp
   refine sx_ox' (ox_brw' (frz_row 0 [(8, (Vl (Vs w4)), (Sl KT91 v4)), (53, (Vl (Vs w4)), (Sl KT91 v4)), (55, (Vl (Vs w4)), (Sl KT91 v4))] (K := KT91) (xs := v4) (by decide) rfl ⟨⟨rfl, frz_it⟩, ⟨rfl, frz_it⟩, ⟨rfl, frz_it⟩, trivial⟩ (H' := []) frzH_refl) (ent_fn' Try.func42 isn42 rfl rfl) (laws_planeTo_sim _ _ hr56 : Sx.Fn Try.prog 42 [(Vg a2), (Sl KT91 v4)] [] (fun x : Unit => (Vb r56)) (fun x => [])) pu_vl rfl rfl) (wt_none' rfl) fun ⟨⟩ => ?_
   refine s0 (rd_assign' rfl) ?_
   refine s0 (rd_assign' rfl) ?_
   refine nk hK19 ?_
   refine cx_retc' ?_
   replace hp := Option.some.inj hp
   subst hp
   refine tx_fz' (frz_row 0 [(8, (Vl (Vs w4)), (Sl KT91 v4)), (53, (Vl (Vs w4)), (Sl KT91 v4)), (55, (Vl (Vs w4)), (Sl KT91 v4))] (K := KT91) (xs := v4) (by decide) rfl ⟨⟨rfl, frz_it⟩, ⟨rfl, frz_it⟩, ⟨rfl, frz_it⟩, trivial⟩ (H' := []) frzH_refl) ?_
   refine tx_pick' (L' := [(8, (Sl KT91 v4)), (9, (Vb r56))]) (H' := []) [] (sub_cons rfl (sub_cons rfl sub_nil)) (by decide) pick_nil ?_
   exact tx_ret2' Try.results27 rfl () (rv_tmp' rfl) (rv_tmp' rfl) rfl (List.Sublist.refl _)
  intro K9 hK9
  rcases br_cases hp with ⟨h3, hp⟩ | ⟨h3, hp⟩
  ·refine sx_skip' rfl rfl (wt_is' (wt_guard' rfl rfl rfl) (beq_tf h3)) ?_
   refine sx_skip' rfl rfl (wt_is' (wt_guard' rfl rfl rfl) (beq_tf h3)) ?_
   refine sx_skip' rfl rfl (wt_is' (wt_guard' rfl rfl rfl) (beq_tf h3)) ?_
   refine sx_skip' rfl rfl (wt_is' (wt_guard' rfl rfl rfl) (beq_tf h3)) ?_
   refine sx_skip' rfl rfl (wt_is' (wt_guard' rfl rfl rfl) (beq_tf h3)) ?_
   refine sx_skip' rfl rfl (wt_is' (wt_guard' rfl rfl rfl) (beq_tf h3)) ?_
   refine s0 (rd_pick_true' rfl h3 rfl) ?_
   refine sx_nil' ?_
   show TX E K9 _
   exact tx_pick' [] (sub_cons rfl (sub_cons rfl (sub_cons rfl (sub_cons rfl (sub_cons rfl sub_nil))))) (by decide) pick_nil (hK9 true hp)
  refine sx_rd' (rd_move' rfl) rfl rfl (wt_is' (wt_guard' rfl rfl rfl) (beq_ff h3)) ?_
  refine sx_rd' (rd_len' rfl Try.underlying22) rfl rfl (wt_is' (wt_guard' rfl rfl rfl) (beq_ff h3)) ?_
  refine sx_rd' (rd_move' rfl) rfl rfl (wt_is' (wt_guard' rfl rfl rfl) (beq_ff h3)) ?_
  refine sx_rd' (rd_move' rfl) rfl rfl (wt_is' (wt_guard' rfl rfl rfl) (beq_ff h3)) ?_
  refine sx_rd' (rd_bin' rfl rfl eg_int ru_mul) rfl rfl (wt_is' (wt_guard' rfl rfl rfl) (beq_ff h3)) ?_
  refine sx_rd' (rd_bin' rfl rfl eg_int ru_gtr) rfl rfl (wt_is' (wt_guard' rfl rfl rfl) (beq_ff h3)) ?_
  refine s0 (rd_pick_false' rfl h3 rfl) ?_
  refine sx_nil' ?_
  show TX E K9 _
  exact tx_pick' [] (sub_cons rfl (sub_cons rfl (sub_cons rfl (sub_cons rfl (sub_cons rfl sub_nil))))) (by decide) pick_nil (hK9 (decide ((imul .i64 r19 a3) < (a1.length : Int))) hp)
 intro K4 hK4
 rcases br_cases hp with ⟨h1, hp⟩ | ⟨h1, hp⟩
 ·refine sx_skip' rfl rfl (wt_is' (wt_guard' rfl rfl rfl) (beq_tf h1)) ?_
  refine sx_skip' rfl rfl (wt_is' (wt_guard' rfl rfl rfl) (beq_tf h1)) ?_
  refine s0 (rd_pick_true' rfl h1 rfl) ?_
  refine sx_nil' ?_
  show TX E K4 _
  exact tx_pick' [] (sub_cons rfl (sub_cons rfl (sub_cons rfl (sub_cons rfl (sub_cons rfl (sub_cons rfl sub_nil)))))) (by decide) pick_nil (hK4 true hp)
 refine sx_rd' (rd_move' rfl) rfl rfl (wt_is' (wt_guard' rfl rfl rfl) (beq_ff h1)) ?_
 refine sx_rd' (rd_bin' rfl rfl eg_int ru_gtr) rfl rfl (wt_is' (wt_guard' rfl rfl rfl) (beq_ff h1)) ?_
 refine s0 (rd_pick_false' rfl h1 rfl) ?_
 refine sx_nil' ?_
 show TX E K4 _
 exact tx_pick' [] (sub_cons rfl (sub_cons rfl (sub_cons rfl (sub_cons rfl (sub_cons rfl (sub_cons rfl sub_nil)))))) (by decide) pick_nil (hK4 (decide (8 < a0)) hp)

def spec_Finite (k : Nat) (a0 : Nat) : Option (Bool) :=
 (some (gsub a0 a0)) >>= fun r5 =>
 some (feq r5 0)

theorem spec_Finite_sim {k : Nat}  (a0 : Nat) {out : Bool} (hp : spec_Finite k a0 = some out) : Sx.Fn Try.prog 65 [(Vg a0)] [] (fun w : Unit => (Vb out)) (fun w => []) := by
 unfold spec_Finite at hp
 refine fn_of Try.func65 rfl Try.ntmps65 rfl fun E hM => ?_
 refine cr fun K1 hK1 => ?_
 refine s0 (rd_assign' rfl) ?_
 refine nk hK1 ?_
 refine cr fun K2 hK2 => ?_
 refine s0 (rd_move' rfl) ?_
 refine s0 (rd_move' rfl) ?_
 obtain ⟨r5, hr5, hp⟩ := bind_some hp
 refine sx_ox' (ox_fop' (.inr (.inl rfl)) (fl_v rfl) (fl_v rfl) (Option.some.inj hr5) rfl rfl) (wt_none' rfl) fun _ => ?_
 refine s0 (rd_fcmp' (fl_f rfl) (fl_v rfl) rfl) ?_
 refine s0 (rd_assign' rfl) ?_
 refine nk hK2 ?_
 refine cx_retc' ?_
 replace hp := Option.some.inj hp
 subst hp
 refine tx_pick' (L' := [(2, (Vb (feq r5 0)))]) (H' := []) [] (sub_cons rfl sub_nil) (by decide) pick_nil ?_
 exact tx_ret1' Try.results65 rfl () (rv_tmp' rfl) (List.Sublist.refl _)

def spec_AllFinite_l1s (a0 : List Nat) (k : Nat) (rec1 : Int → Option (Unit ⊕ Unit)) (x1 : Int) : Option (Unit ⊕ Unit) :=
 br (decide (x1 < (a0.length : Int)))
  ((idx a0 x1) >>= fun r9 =>
  (spec_Finite k r9) >>= fun r12 =>
  br (!r12)
   (some (.inl ()))
   (rec1 (iadd .i64 x1 1)))
  (some (.inr ()))
def spec_AllFinite_l1 (a0 : List Nat) : Nat → Int → Option (Unit ⊕ Unit)
 | 0, _ => none
 | k + 1, v => spec_AllFinite_l1s a0 k (spec_AllFinite_l1 a0 k) v
def spec_AllFinite (k : Nat) (a0 : List Nat) : Option (Bool) :=
 (spec_AllFinite_l1 a0 k 0) >>= fun y1 => match y1 with
  | (.inl v2) =>
   (some false)
  | (.inr v3) =>
   (some true)

theorem spec_AllFinite_sim {k : Nat}  (a0 : List Nat) {out : Bool} (hp : spec_AllFinite k a0 = some out) : Sx.Fn Try.prog 28 [(Sl Kf a0)] [] (fun w : Unit => (Vb out)) (fun w => []) := by
 unfold spec_AllFinite at hp
 refine fn_of Try.func28 rfl Try.ntmps28 rfl fun E hM => ?_
 refine cr fun K1 hK1 => ?_
 refine s0 (rd_assign' rfl) ?_
 refine nk hK1 ?_
 refine cx_seq' fun K2 hK2 => ?_
 refine cr fun K3 hK3 => ?_
 refine s0 (rd_move' rfl) ?_
 refine s0 (rd_len' rfl Try.underlying22) ?_
 refine s0 (rd_move' rfl) ?_
 refine nk hK3 ?_
 refine cx_block' ?_
 obtain ⟨y1, hy1, hp⟩ := bind_some hp
 refine cx_loopg' (F := spec_AllFinite_l1 a0) (G := fun k R v => spec_AllFinite_l1s a0 k R v) (x := 0) (gh := ()) (fun (v1 : Int) (w1 : Unit) => (⟨15, [], [(5, (Sl Kf a0)), (6, (Vi (a0.length : Int))), (7, (Vi v1))], []⟩ : St)) (fun (y : Unit ⊕ Unit) => match y with | (.inl v2) => Zg E Exit.ret (fun (w2 : Unit) => (⟨15, [], [(2, (Vb false))], []⟩ : St)) | (.inr v3) => Zg E (Exit.exit 0) (fun (w3 : Unit) => (⟨15, [], [], []⟩ : St))) (fun _ => rfl) (fun _ _ => rfl) ?_ hy1 (tx_to' rfl [] (sub_cons rfl (sub_cons rfl (sub_cons rfl sub_nil))) (by decide) pick_nil) ?_
 ·clear hp hy1
  clear y1
  intro k rec1 KY1 ih1
  rintro x1 ⟨⟩ y1 hp
  replace hp : spec_AllFinite_l1s a0 k rec1 x1 = some y1 := hp
  unfold spec_AllFinite_l1s at hp
  refine cr fun K10 hK10 => ?_
  refine s0 (rd_bin' rfl rfl eg_int ru_lss) ?_
  refine nk hK10 ?_
  refine cx_seq' fun K11 hK11 => ?_
  refine cx_cond' rfl (fun h4 => ?_) (fun h4 => ?_)
  ·replace hp := (br_t h4).symm.trans hp
   refine cx_skip' ?_
   show TX E K11 _
   refine tx_k' hK11 ?_
   refine cx_seq' fun K12 hK12 => ?_
   refine cx_block' ?_
   refine cr fun K13 hK13 => ?_
   obtain ⟨r9, hr9, hp⟩ := bind_some hp
   refine s0 (rd_at' (K := Kf) rfl rfl hr9 Try.underlying22 info38) ?_
   refine s0 (rd_load_pt' rfl rfl flat38) ?_
   refine s0 (rd_assign' rfl) ?_
   refine nk hK13 ?_
   refine cr fun K14 hK14 => ?_
   refine s0 (rd_move' rfl) ?_
   obtain ⟨r12, hr12, hp⟩ := bind_some hp
   refine sx_ox' (ox_calln' (ent_fn' Try.func65 isn65 rfl rfl) (spec_Finite_sim _ hr12 : Sx.Fn Try.prog 65 [(Vg r9)] [] (fun x : Unit => (Vb r12)) (fun x => [])) (Hn := fun x : Unit => []) (fun _ => rfl) rfl rfl) (wt_none' rfl) fun ⟨⟩ => ?_
   refine s0 (rd_un' rfl ru_not) ?_
   refine nk hK14 ?_
   refine cx_cond' rfl (fun h5 => ?_) (fun h5 => ?_)
   ·replace hp := (br_t h5).symm.trans hp
    refine cr fun K15 hK15 => ?_
    refine s0 (rd_assign' rfl) ?_
    refine nk hK15 ?_
    refine cx_retc' ?_
    replace hp := Option.some.inj hp
    subst hp
    show TX E (Zg E Exit.ret _ Exit.ret) _
    exact tx_zend' () rfl [] (sub_cons rfl sub_nil) (by decide) pick_nil
   replace hp := (br_f h5).symm.trans hp
   refine cx_skip' ?_
   show TX E K12 _
   refine tx_k' hK12 ?_
   refine cx_region' ?_
   refine s0 (rd_bin' rfl rfl eg_int ru_add) ?_
   refine s0 (rd_move' rfl) ?_
   refine sx_nil' ?_
   show TX E (KY1 _) _
   exact tx_pick' [] (sub_cons rfl (sub_cons rfl (sub_cons rfl sub_nil))) (by decide) pick_nil (ih1 (iadd .i64 x1 1) () _ hp)
  replace hp := (br_f h4).symm.trans hp
  refine cx_exit' ?_
  replace hp := Option.some.inj hp
  subst hp
  show TX E (Zg E (Exit.exit 0) _ (Exit.exit 0)) _
  exact tx_zend' () rfl [] sub_nil (by decide) pick_nil
 rcases y1 with v2 | v3
 ·dsimp only at hp
  refine zg_out fun w2 => ?_
  replace hp := Option.some.inj hp
  subst hp
  refine tx_pick' (L' := [(2, (Vb false))]) (H' := []) [] (sub_cons rfl sub_nil) (by decide) pick_nil ?_
  exact tx_ret1' Try.results28 rfl () (rv_tmp' rfl) (List.Sublist.refl _)
 dsimp only at hp
 refine zg_out fun w3 => ?_
 show TX E K2 _
 refine tx_k' hK2 ?_
 refine cr fun K16 hK16 => ?_
 refine s0 (rd_assign' rfl) ?_
 refine nk hK16 ?_
 refine cx_retc' ?_
 replace hp := Option.some.inj hp
 subst hp
 refine tx_pick' (L' := [(2, (Vb true))]) (H' := []) [] (sub_cons rfl sub_nil) (by decide) pick_nil ?_
 exact tx_ret1' Try.results28 rfl () (rv_tmp' rfl) (List.Sublist.refl _)

def laws_rowsOf_l1s (r9 : Int) (a1 : List Nat) (k : Nat) (rec1 : ((List (List Nat)) × Int) → Option ((List (List Nat)))) (x1 : List (List Nat)) (x2 : Int) : Option ((List (List Nat))) :=
 br (decide ((iadd .i64 x2 r9) ≤ (a1.length : Int)))
  ((cut a1 x2 (iadd .i64 x2 r9)) >>= fun r25 =>
  (apd 24 x1 ([r25])) >>= fun r27 =>
  rec1 (r27, (iadd .i64 x2 r9)))
  (some x1)
def laws_rowsOf_l1 (r9 : Int) (a1 : List Nat) : Nat → ((List (List Nat)) × Int) → Option ((List (List Nat)))
 | 0, _ => none
 | k + 1, v => laws_rowsOf_l1s r9 a1 k (laws_rowsOf_l1 r9 a1 k) v.1 v.2
def laws_rowsOf (k : Nat) (a0 : Int) (a1 : List Nat) : Option ((List (List Nat))) :=
 (spec_Stride k a0) >>= fun r9 =>
 (laws_rowsOf_l1 r9 a1 k ([], 0)) >>= fun v2 =>
 some v2

theorem laws_rowsOf_sim {k : Nat}  (a0 : Int) (a1 : List Nat) {out : (List (List Nat))} (hp : laws_rowsOf k a0 a1 = some out) : Sx.Fn Try.prog 30 [(Vi a0), (Sl Kf a1)] [] (fun w : Unit => (Sl (Kl Kf) out)) (fun w => []) := by
 unfold laws_rowsOf at hp
 refine fn_of Try.func30 rfl Try.ntmps30 rfl fun E hM => ?_
 refine cr fun K1 hK1 => ?_
 refine s0 (rd_assign' rfl) ?_
 refine nk hK1 ?_
 refine cr fun K2 hK2 => ?_
 refine s0 (rd_assign' rfl) ?_
 refine nk hK2 ?_
 refine cr fun K3 hK3 => ?_
 refine s0 (rd_move' rfl) ?_
 obtain ⟨r9, hr9, hp⟩ := bind_some hp
 refine sx_ox' (ox_calln' (ent_fn' Try.func11 isn11 rfl rfl) (spec_Stride_sim _ hr9 : Sx.Fn Try.prog 11 [(Vi a0)] [] (fun x : Unit => (Vi r9)) (fun x => [])) (Hn := fun x : Unit => []) (fun _ => rfl) rfl rfl) (wt_none' rfl) fun ⟨⟩ => ?_
 refine s0 (rd_assign' rfl) ?_
 refine nk hK3 ?_
 refine cx_seq' fun K4 hK4 => ?_
 refine cr fun K5 hK5 => ?_
 refine s0 (rd_assign' rfl) ?_
 refine nk hK5 ?_
 refine cx_block' ?_
 obtain ⟨v2, hy1, hp⟩ := bind_some hp
 refine tx_nilrow' (Kl Kf) 22 ?_
 refine cx_loopg' (F := laws_rowsOf_l1 r9 a1) (G := fun k R v => laws_rowsOf_l1s r9 a1 k R v.1 v.2) (x := ([], 0)) (gh := (none, 0, 0)) (fun (v1 : (List (List Nat)) × Int) (w1 : Gs) => (⟨29, [], [(1, (Sl Kf a1)), (5, (Vl (Vs w1))), (6, (Vi r9)), (7, (Vi v1.2))], [(Rw (Kl Kf) 22 (Vs w1) v1.1)]⟩ : St)) (fun (v2 : (List (List Nat))) => Zg E (Exit.exit 0) (fun (w2 : Gs) => (⟨29, [], [(5, (Vl (Vs w2)))], [(Rw (Kl Kf) 22 (Vs w2) v2)]⟩ : St))) (fun _ => rfl) (fun _ _ => rfl) ?_ hy1 (tx_to' rfl [0] (sub_cons rfl (sub_cons rfl (sub_cons rfl (sub_cons rfl sub_nil)))) (by decide) (pick_cons rfl pick_nil)) ?_
 ·clear hp hy1
  clear v2
  intro k rec1 KY1 ih1
  rintro ⟨x1, x2⟩ g901 y1 hp
  replace hp : laws_rowsOf_l1s r9 a1 k rec1 x1 x2 = some y1 := hp
  unfold laws_rowsOf_l1s at hp
  refine cx_seq' fun K9 hK9 => ?_
  refine cr fun K10 hK10 => ?_
  refine s0 (rd_move' rfl) ?_
  refine s0 (rd_move' rfl) ?_
  refine s0 (rd_bin' rfl rfl eg_int ru_add) ?_
  refine s0 (rd_move' rfl) ?_
  refine s0 (rd_len' rfl Try.underlying22) ?_
  refine s0 (rd_bin' rfl rfl eg_int ru_leq) ?_
  refine nk hK10 ?_
  refine cx_cond' rfl (fun h3 => ?_) (fun h3 => ?_)
  ·replace hp := (br_t h3).symm.trans hp
   refine cx_skip' ?_
   show TX E K9 _
   refine tx_k' hK9 ?_
   refine cx_seq' fun K11 hK11 => ?_
   refine cx_block' ?_
   refine cx_region' ?_
   refine s0 (rd_move' rfl) ?_
   refine s0 (rd_move' rfl) ?_
   refine s0 (rd_move' rfl) ?_
   refine s0 (rd_move' rfl) ?_
   refine s0 (rd_move' rfl) ?_
   refine s0 (rd_bin' rfl rfl eg_int ru_add) ?_
   obtain ⟨r25, hr25, hp⟩ := bind_some hp
   refine s0 (rd_cut_lh' rfl rfl rfl hr25 Try.underlying22 info38) ?_
   refine sx_ox' (ox_rowlit' (K := (Kl Kf)) (xs := [r25]) (qs := [(0, [(Sl Kf r25)])]) ⟨rfl, ⟨_, rfl, (lv_sl _ _)⟩, trivial⟩ Try.underlying39 info22 rfl rfl rfl rfl rfl (by kernel_rfl) rfl rfl rfl) (wt_none' rfl) fun g26 => ?_
   obtain ⟨r27, hr27, hp⟩ := bind_some hp
   refine sx_ox' (ox_append' (K := (Kl Kf)) (i := 1) (xs := x1) (ys := ([r25])) rfl rfl rfl (sr_row' (j := 0) rfl rfl rfl Try.underlying39) hr27 Try.underlying39 info22 rfl rfl rfl (H' := [(Rw (Kl Kf) 22 (Vs g26) ([r25]))]) rfl) (wt_none' rfl) fun g27 => ?_
   refine s0 (rd_assign' rfl) ?_
   refine nk hK11 ?_
   refine cx_region' ?_
   refine s0 (rd_move' rfl) ?_
   refine s0 (rd_move' rfl) ?_
   refine s0 (rd_bin' rfl rfl eg_int ru_add) ?_
   refine s0 (rd_assign' rfl) ?_
   refine sx_nil' ?_
   show TX E (KY1 _) _
   exact tx_pick' [0] (sub_cons rfl (sub_cons rfl (sub_cons rfl (sub_cons rfl sub_nil)))) (by decide) (pick_cons rfl pick_nil) (ih1 (r27, (iadd .i64 x2 r9)) g27 _ hp)
  replace hp := (br_f h3).symm.trans hp
  refine cx_exit' ?_
  replace hp := Option.some.inj hp
  subst hp
  show TX E (Zg E (Exit.exit 0) _ (Exit.exit 0)) _
  exact tx_zend' g901 rfl [0] (sub_cons rfl sub_nil) (by decide) (pick_cons rfl pick_nil)
 refine zg_out fun w2 => ?_
 show TX E K4 _
 refine tx_k' hK4 ?_
 refine cr fun K12 hK12 => ?_
 refine s0 (rd_move' rfl) ?_
 refine s0 (rd_assign' rfl) ?_
 refine nk hK12 ?_
 refine cx_retc' ?_
 replace hp := Option.some.inj hp
 subst hp
 refine tx_fz' (frz_row 0 [(5, (Vl (Vs w2)), (Sl (Kl Kf) v2)), (28, (Vl (Vs w2)), (Sl (Kl Kf) v2)), (4, (Vl (Vs w2)), (Sl (Kl Kf) v2))] (K := (Kl Kf)) (xs := v2) (by decide) rfl ⟨⟨rfl, frz_it⟩, ⟨rfl, frz_it⟩, ⟨rfl, frz_it⟩, trivial⟩ (H' := []) frzH_refl) ?_
 refine tx_pick' (L' := [(4, (Sl (Kl Kf) v2))]) (H' := []) [] (sub_cons rfl sub_nil) (by decide) pick_nil ?_
 exact tx_ret1' Try.results30 rfl () (rv_tmp' rfl) (List.Sublist.refl _)

def laws_octOf_j4 (k : Nat) (rec2 : ((List Nat) × Int) → Option ((List Nat))) (x9 : Int) (x7 : List Nat) : Option ((List Nat)) :=
 rec2 (x7, (iadd .i64 x9 1))
def laws_octOf_l2s (a0 : List (List Nat)) (r21 : Nat × Nat) (k : Nat) (rec2 : ((List Nat) × Int) → Option ((List Nat))) (x8 : List Nat) (x9 : Int) : Option ((List Nat)) :=
 br (decide (x9 < (a0.length : Int)))
  ((idx a0 x9) >>= fun r30 =>
  (idx r30 0) >>= fun r33 =>
  (fmul r33 r21.1) >>= fun r37 =>
  (idx r30 1) >>= fun r39 =>
  (fmul r39 r21.2) >>= fun r43 =>
  (fadd r37 r43) >>= fun r44 =>
  (idx x8 0) >>= fun r46 =>
  (fmul r46 r21.1) >>= fun r50 =>
  (idx x8 1) >>= fun r52 =>
  (fmul r52 r21.2) >>= fun r56 =>
  (fadd r50 r56) >>= fun r57 =>
  br (fgt r44 r57)
   (laws_octOf_j4 k rec2 x9 r30)
   (laws_octOf_j4 k rec2 x9 x8))
  (some x8)
def laws_octOf_l2 (a0 : List (List Nat)) (r21 : Nat × Nat) : Nat → ((List Nat) × Int) → Option ((List Nat))
 | 0, _ => none
 | k + 1, v => laws_octOf_l2s a0 r21 k (laws_octOf_l2 a0 r21 k) v.1 v.2
def laws_octOf_l3s (a0 : List (List Nat)) (k : Nat) (rec3 : ((List (List Nat)) × Int) → Option ((List (List Nat)))) (x11 : List (List Nat)) (x12 : Int) : Option ((List (List Nat))) :=
 br (decide (x12 < (([(13830554455654793216, 0), (13830554455654793216, 4607182418800017408), (0, 4607182418800017408), (4607182418800017408, 4607182418800017408), (4607182418800017408, 0), (4607182418800017408, 13830554455654793216), (0, 13830554455654793216), (13830554455654793216, 13830554455654793216)]).length : Int)))
  ((idx ([(13830554455654793216, 0), (13830554455654793216, 4607182418800017408), (0, 4607182418800017408), (4607182418800017408, 4607182418800017408), (4607182418800017408, 0), (4607182418800017408, 13830554455654793216), (0, 13830554455654793216), (13830554455654793216, 13830554455654793216)]) x12) >>= fun r21 =>
  (idx a0 0) >>= fun r24 =>
  (laws_octOf_l2 a0 r21 k (r24, 0)) >>= fun v9 =>
  (apd 24 x11 ([v9])) >>= fun r64 =>
  rec3 (r64, (iadd .i64 x12 1)))
  (some x11)
def laws_octOf_l3 (a0 : List (List Nat)) : Nat → ((List (List Nat)) × Int) → Option ((List (List Nat)))
 | 0, _ => none
 | k + 1, v => laws_octOf_l3s a0 k (laws_octOf_l3 a0 k) v.1 v.2
def laws_octOf (k : Nat) (a0 : List (List Nat)) : Option ((List (List Nat))) :=
 (laws_octOf_l3 a0 k ([], 0)) >>= fun v10 =>
 some v10

theorem laws_octOf_sim {k : Nat}  (a0 : List (List Nat)) {out : (List (List Nat))} (hp : laws_octOf k a0 = some out) : Sx.Fn Try.prog 29 [(Sl (Kl Kf) a0)] [] (fun w : Unit => (Sl (Kl Kf) out)) (fun w => []) := by
 unfold laws_octOf at hp
 refine fn_of Try.func29 rfl Try.ntmps29 rfl fun E hM => ?_
 refine cr fun K1 hK1 => ?_
 refine s0 (rd_assign' rfl) ?_
 refine nk hK1 ?_
 refine cr fun K2 hK2 => ?_
 refine s0 (rd_assign' rfl) ?_
 refine nk hK2 ?_
 refine cx_seq' fun K3 hK3 => ?_
 refine cr fun K4 hK4 => ?_
 refine s0 (rd_build' (pls := [(0, 1), (1, 1)]) (qs := [(0, [(Vg 13830554455654793216)])]) (r := [(Vg 13830554455654793216), (Vg 0)]) ⟨rfl, ⟨_, rfl, (lv_vl rfl rfl)⟩, trivial⟩ Try.underlying91 has91 places91 info91 rfl rfl rfl) ?_
 refine s0 (rd_build' (pls := [(0, 1), (1, 1)]) (qs := [(0, [(Vg 13830554455654793216)]), (1, [(Vg 4607182418800017408)])]) (r := [(Vg 13830554455654793216), (Vg 4607182418800017408)]) ⟨rfl, ⟨_, rfl, (lv_vl rfl rfl)⟩, ⟨rfl, ⟨_, rfl, (lv_vl rfl rfl)⟩, trivial⟩⟩ Try.underlying91 has91 places91 info91 rfl rfl rfl) ?_
 refine s0 (rd_build' (pls := [(0, 1), (1, 1)]) (qs := [(1, [(Vg 4607182418800017408)])]) (r := [(Vg 0), (Vg 4607182418800017408)]) ⟨rfl, ⟨_, rfl, (lv_vl rfl rfl)⟩, trivial⟩ Try.underlying91 has91 places91 info91 rfl rfl rfl) ?_
 refine s0 (rd_build' (pls := [(0, 1), (1, 1)]) (qs := [(0, [(Vg 4607182418800017408)]), (1, [(Vg 4607182418800017408)])]) (r := [(Vg 4607182418800017408), (Vg 4607182418800017408)]) ⟨rfl, ⟨_, rfl, (lv_vl rfl rfl)⟩, ⟨rfl, ⟨_, rfl, (lv_vl rfl rfl)⟩, trivial⟩⟩ Try.underlying91 has91 places91 info91 rfl rfl rfl) ?_
 refine s0 (rd_build' (pls := [(0, 1), (1, 1)]) (qs := [(0, [(Vg 4607182418800017408)])]) (r := [(Vg 4607182418800017408), (Vg 0)]) ⟨rfl, ⟨_, rfl, (lv_vl rfl rfl)⟩, trivial⟩ Try.underlying91 has91 places91 info91 rfl rfl rfl) ?_
 refine s0 (rd_build' (pls := [(0, 1), (1, 1)]) (qs := [(0, [(Vg 4607182418800017408)]), (1, [(Vg 13830554455654793216)])]) (r := [(Vg 4607182418800017408), (Vg 13830554455654793216)]) ⟨rfl, ⟨_, rfl, (lv_vl rfl rfl)⟩, ⟨rfl, ⟨_, rfl, (lv_vl rfl rfl)⟩, trivial⟩⟩ Try.underlying91 has91 places91 info91 rfl rfl rfl) ?_
 refine s0 (rd_build' (pls := [(0, 1), (1, 1)]) (qs := [(1, [(Vg 13830554455654793216)])]) (r := [(Vg 0), (Vg 13830554455654793216)]) ⟨rfl, ⟨_, rfl, (lv_vl rfl rfl)⟩, trivial⟩ Try.underlying91 has91 places91 info91 rfl rfl rfl) ?_
 refine s0 (rd_build' (pls := [(0, 1), (1, 1)]) (qs := [(0, [(Vg 13830554455654793216)]), (1, [(Vg 13830554455654793216)])]) (r := [(Vg 13830554455654793216), (Vg 13830554455654793216)]) ⟨rfl, ⟨_, rfl, (lv_vl rfl rfl)⟩, ⟨rfl, ⟨_, rfl, (lv_vl rfl rfl)⟩, trivial⟩⟩ Try.underlying91 has91 places91 info91 rfl rfl rfl) ?_
 refine sx_ox' (ox_rowlit' (K := KT91) (xs := [(13830554455654793216, 0), (13830554455654793216, 4607182418800017408), (0, 4607182418800017408), (4607182418800017408, 4607182418800017408), (4607182418800017408, 0), (4607182418800017408, 13830554455654793216), (0, 13830554455654793216), (13830554455654793216, 13830554455654793216)]) (qs := [(0, [(Vg 13830554455654793216), (Vg 0)]), (1, [(Vg 13830554455654793216), (Vg 4607182418800017408)]), (2, [(Vg 0), (Vg 4607182418800017408)]), (3, [(Vg 4607182418800017408), (Vg 4607182418800017408)]), (4, [(Vg 4607182418800017408), (Vg 0)]), (5, [(Vg 4607182418800017408), (Vg 13830554455654793216)]), (6, [(Vg 0), (Vg 13830554455654793216)]), (7, [(Vg 13830554455654793216), (Vg 13830554455654793216)])]) ⟨rfl, ⟨_, rfl, (lv_ag _)⟩, ⟨rfl, ⟨_, rfl, (lv_ag _)⟩, ⟨rfl, ⟨_, rfl, (lv_ag _)⟩, ⟨rfl, ⟨_, rfl, (lv_ag _)⟩, ⟨rfl, ⟨_, rfl, (lv_ag _)⟩, ⟨rfl, ⟨_, rfl, (lv_ag _)⟩, ⟨rfl, ⟨_, rfl, (lv_ag _)⟩, ⟨rfl, ⟨_, rfl, (lv_ag _)⟩, trivial⟩⟩⟩⟩⟩⟩⟩⟩ Try.underlying56 info91 rfl rfl rfl rfl rfl (by kernel_rfl) rfl rfl rfl) (wt_none' rfl) fun g17 => ?_
 refine s0 (rd_lenr' (i := 0) rfl rfl rfl Try.underlying56) ?_
 refine s0 (rd_move' rfl) ?_
 refine nk hK4 ?_
 refine cx_block' ?_
 obtain ⟨v10, hy3, hp⟩ := bind_some hp
 refine tx_nilrow' (Kl Kf) 22 ?_
 refine cx_loopg' (F := laws_octOf_l3 a0) (G := fun k R v => laws_octOf_l3s a0 k R v.1 v.2) (x := ([], 0)) (gh := (none, 0, 0)) (fun (v5 : (List (List Nat)) × Int) (w5 : Gs) => (⟨67, [], [(0, (Sl (Kl Kf) a0)), (3, (Vl (Vs w5))), (17, (Vl (Vs g17))), (18, (Vi (([(13830554455654793216, 0), (13830554455654793216, 4607182418800017408), (0, 4607182418800017408), (4607182418800017408, 4607182418800017408), (4607182418800017408, 0), (4607182418800017408, 13830554455654793216), (0, 13830554455654793216), (13830554455654793216, 13830554455654793216)]).length : Int))), (19, (Vi v5.2))], [(Rw (Kl Kf) 22 (Vs w5) v5.1), (Rw KT91 91 (Vs g17) ([(13830554455654793216, 0), (13830554455654793216, 4607182418800017408), (0, 4607182418800017408), (4607182418800017408, 4607182418800017408), (4607182418800017408, 0), (4607182418800017408, 13830554455654793216), (0, 13830554455654793216), (13830554455654793216, 13830554455654793216)]))]⟩ : St)) (fun (v10 : (List (List Nat))) => Zg E (Exit.exit 0) (fun (w10 : Gs) => (⟨67, [], [(3, (Vl (Vs w10)))], [(Rw (Kl Kf) 22 (Vs w10) v10)]⟩ : St))) (fun _ => rfl) (fun _ _ => rfl) ?_ hy3 (tx_to' rfl [0, 1] (sub_cons rfl (sub_cons rfl (sub_cons rfl (sub_cons rfl (sub_cons rfl sub_nil))))) (by decide) (pick_cons rfl (pick_cons rfl pick_nil))) ?_
 ·clear hp hy3
  clear v10
  intro k rec3 KY3 ih3
  rintro ⟨x11, x12⟩ g901 y3 hp
  replace hp : laws_octOf_l3s a0 k rec3 x11 x12 = some y3 := hp
  unfold laws_octOf_l3s at hp
  refine cr fun K22 hK22 => ?_
  refine s0 (rd_bin' rfl rfl eg_int ru_lss) ?_
  refine nk hK22 ?_
  refine cx_seq' fun K23 hK23 => ?_
  refine cx_cond' rfl (fun h8 => ?_) (fun h8 => ?_)
  ·replace hp := (br_t h8).symm.trans hp
   refine cx_skip' ?_
   show TX E K23 _
   refine tx_k' hK23 ?_
   refine cx_seq' fun K24 hK24 => ?_
   refine cx_block' ?_
   refine cr fun K25 hK25 => ?_
   obtain ⟨r21, hr21, hp⟩ := bind_some hp
   refine s0 (rd_atr' (m := 1) rfl rfl rfl rfl hr21 Try.underlying56 info91) ?_
   refine s0 (rd_loadr_agg' (nn := 2) rfl (m := 1) (i := x12) (j := 0) rfl rfl hr21 rfl rfl agg91 rfl) ?_
   refine sx_ox' (ox_alloc' info91 rfl rfl rfl rfl (l := [(Vg 0), (Vg 0)]) rfl) (wt_none' rfl) fun q5 => ?_
   refine sx_ox' (ox_store' (i := 0) (o := 0) rfl rfl (lv_ag _) ⟨rfl, rfl, rfl, rfl⟩ rfl info91 rfl (H' := [⟨.pointer (some q5), [(Vg r21.1), (Vg r21.2)], 91, none⟩, (Rw (Kl Kf) 22 (Vs g901) x11), (Rw KT91 91 (Vs g17) ([(13830554455654793216, 0), (13830554455654793216, 4607182418800017408), (0, 4607182418800017408), (4607182418800017408, 4607182418800017408), (4607182418800017408, 0), (4607182418800017408, 13830554455654793216), (0, 13830554455654793216), (13830554455654793216, 13830554455654793216)]))]) rfl) (wt_none' rfl) fun _ => ?_
   refine nk hK25 ?_
   refine cr fun K26 hK26 => ?_
   refine s0 (rd_move' rfl) ?_
   obtain ⟨r24, hr24, hp⟩ := bind_some hp
   refine s0 (rd_at' (K := (Kl Kf)) rfl rfl hr24 Try.underlying39 info22) ?_
   refine s0 (rd_load_pt' rfl rfl flat22) ?_
   refine s0 (rd_assign' rfl) ?_
   refine nk hK26 ?_
   refine cx_seq' fun K27 hK27 => ?_
   refine cr fun K28 hK28 => ?_
   refine s0 (rd_move' rfl) ?_
   refine s0 (rd_len' rfl Try.underlying39) ?_
   refine s0 (rd_move' rfl) ?_
   refine nk hK28 ?_
   refine cx_block' ?_
   obtain ⟨v9, hy2, hp⟩ := bind_some hp
   refine cx_loopg' (F := laws_octOf_l2 a0 r21) (G := fun k R v => laws_octOf_l2s a0 r21 k R v.1 v.2) (x := (r24, 0)) (gh := ()) (fun (v7 : (List Nat) × Int) (w7 : Unit) => (⟨67, [], [(0, (Sl (Kl Kf) a0)), (3, (Vl (Vs g901))), (5, (Vp q5)), (6, (Sl Kf v7.1)), (17, (Vl (Vs g17))), (18, (Vi (([(13830554455654793216, 0), (13830554455654793216, 4607182418800017408), (0, 4607182418800017408), (4607182418800017408, 4607182418800017408), (4607182418800017408, 0), (4607182418800017408, 13830554455654793216), (0, 13830554455654793216), (13830554455654793216, 13830554455654793216)]).length : Int))), (19, (Vi x12)), (26, (Sl (Kl Kf) a0)), (27, (Vi (a0.length : Int))), (28, (Vi v7.2))], [(Rw (Kl Kf) 22 (Vs g901) x11), ⟨.pointer (some q5), [(Vg r21.1), (Vg r21.2)], 91, none⟩, (Rw KT91 91 (Vs g17) ([(13830554455654793216, 0), (13830554455654793216, 4607182418800017408), (0, 4607182418800017408), (4607182418800017408, 4607182418800017408), (4607182418800017408, 0), (4607182418800017408, 13830554455654793216), (0, 13830554455654793216), (13830554455654793216, 13830554455654793216)]))]⟩ : St)) (fun (v9 : (List Nat)) => Zg E (Exit.exit 2) (fun (w9 : Unit) => (⟨67, [], [(0, (Sl (Kl Kf) a0)), (3, (Vl (Vs g901))), (6, (Sl Kf v9)), (17, (Vl (Vs g17))), (18, (Vi (([(13830554455654793216, 0), (13830554455654793216, 4607182418800017408), (0, 4607182418800017408), (4607182418800017408, 4607182418800017408), (4607182418800017408, 0), (4607182418800017408, 13830554455654793216), (0, 13830554455654793216), (13830554455654793216, 13830554455654793216)]).length : Int))), (19, (Vi x12))], [(Rw (Kl Kf) 22 (Vs g901) x11), (Rw KT91 91 (Vs g17) ([(13830554455654793216, 0), (13830554455654793216, 4607182418800017408), (0, 4607182418800017408), (4607182418800017408, 4607182418800017408), (4607182418800017408, 0), (4607182418800017408, 13830554455654793216), (0, 13830554455654793216), (13830554455654793216, 13830554455654793216)]))]⟩ : St))) (fun _ => rfl) (fun _ _ => rfl) ?_ hy2 (tx_to' rfl [1, 0, 2] (sub_cons rfl (sub_cons rfl (sub_cons rfl (sub_cons rfl (sub_cons rfl (sub_cons rfl (sub_cons rfl (sub_cons rfl (sub_cons rfl (sub_cons rfl sub_nil)))))))))) (by decide) (pick_cons rfl (pick_cons rfl (pick_cons rfl pick_nil)))) ?_
   ·clear hp hy2
    clear v9
    intro k rec2 KY2 ih2
    rintro ⟨x8, x9⟩ ⟨⟩ y2 hp
    replace hp : laws_octOf_l2s a0 r21 k rec2 x8 x9 = some y2 := hp
    unfold laws_octOf_l2s at hp
    refine cr fun K34 hK34 => ?_
    refine s0 (rd_bin' rfl rfl eg_int ru_lss) ?_
    refine nk hK34 ?_
    refine cx_seq' fun K35 hK35 => ?_
    refine cx_cond' rfl (fun h12 => ?_) (fun h12 => ?_)
    ·replace hp := (br_t h12).symm.trans hp
     refine cx_skip' ?_
     show TX E K35 _
     refine tx_k' hK35 ?_
     refine cx_join' (fun (v8 : (List Nat)) => (⟨67, [], [(0, (Sl (Kl Kf) a0)), (3, (Vl (Vs g901))), (5, (Vp q5)), (6, (Sl Kf v8)), (17, (Vl (Vs g17))), (18, (Vi (([(13830554455654793216, 0), (13830554455654793216, 4607182418800017408), (0, 4607182418800017408), (4607182418800017408, 4607182418800017408), (4607182418800017408, 0), (4607182418800017408, 13830554455654793216), (0, 13830554455654793216), (13830554455654793216, 13830554455654793216)]).length : Int))), (19, (Vi x12)), (26, (Sl (Kl Kf) a0)), (27, (Vi (a0.length : Int))), (28, (Vi x9))], [(Rw (Kl Kf) 22 (Vs g901) x11), ⟨.pointer (some q5), [(Vg r21.1), (Vg r21.2)], 91, none⟩, (Rw KT91 91 (Vs g17) ([(13830554455654793216, 0), (13830554455654793216, 4607182418800017408), (0, 4607182418800017408), (4607182418800017408, 4607182418800017408), (4607182418800017408, 0), (4607182418800017408, 13830554455654793216), (0, 13830554455654793216), (13830554455654793216, 13830554455654793216)]))]⟩ : St)) (fun (v8 : (List Nat)) => laws_octOf_j4 k rec2 x9 v8 = some y2) ?_ ?_
     ·rintro x7 hp
      replace hp : laws_octOf_j4 k rec2 x9 x7 = some y2 := hp
      unfold laws_octOf_j4 at hp
      refine cx_region' ?_
      refine s0 (rd_bin' rfl rfl eg_int ru_add) ?_
      refine s0 (rd_move' rfl) ?_
      refine sx_nil' ?_
      show TX E (KY2 _) _
      exact tx_pick' [0, 1, 2] (sub_cons rfl (sub_cons rfl (sub_cons rfl (sub_cons rfl (sub_cons rfl (sub_cons rfl (sub_cons rfl (sub_cons rfl (sub_cons rfl (sub_cons rfl sub_nil)))))))))) (by decide) (pick_cons rfl (pick_cons rfl (pick_cons rfl pick_nil))) (ih2 (x7, (iadd .i64 x9 1)) () _ hp)
     intro K36 hK36
     refine cx_block' ?_
     refine cr fun K37 hK37 => ?_
     obtain ⟨r30, hr30, hp⟩ := bind_some hp
     refine s0 (rd_at' (K := (Kl Kf)) rfl rfl hr30 Try.underlying39 info22) ?_
     refine s0 (rd_load_pt' rfl rfl flat22) ?_
     refine s0 (rd_assign' rfl) ?_
     refine nk hK37 ?_
     refine cx_seq' fun K38 hK38 => ?_
     refine cx_draw' mixed (by kernel_rfl) ?_
     refine qx_rd' (rd_move' rfl) rfl rfl (wt_none' rfl) ?_
     obtain ⟨r33, hr33, hp⟩ := bind_some hp
     refine qx_rd' (rd_at' (K := Kf) rfl rfl hr33 Try.underlying22 info38) rfl rfl (wt_none' rfl) ?_
     refine qx_rd' (rd_load_pt' rfl rfl flat38) rfl rfl (wt_none' rfl) ?_
     refine qx_rd' (rd_field0' rfl Try.underlying91 rfl info38 rfl) rfl rfl (wt_none' rfl) ?_
     refine qx_rd' (rd_load' (i := 1) (o := 0) rfl ⟨rfl, rfl, rfl, rfl⟩ rfl flat38) rfl rfl (wt_none' rfl) ?_
     obtain ⟨r37, hr37, hp⟩ := bind_some hp
     refine qx_rd' (rd_bin' rfl rfl eg_flt (ru_fmul hr37)) rfl rfl (wt_none' rfl) ?_
     refine qx_rd' (rd_move' rfl) rfl rfl (wt_none' rfl) ?_
     obtain ⟨r39, hr39, hp⟩ := bind_some hp
     refine qx_rd' (rd_at' (K := Kf) rfl rfl hr39 Try.underlying22 info38) rfl rfl (wt_none' rfl) ?_
     refine qx_rd' (rd_load_pt' rfl rfl flat38) rfl rfl (wt_none' rfl) ?_
     refine qx_rd' (rd_field' (off := 1) rfl Try.underlying91 rfl info38 rfl) rfl rfl (wt_none' rfl) ?_
     refine qx_rd' (rd_load' (i := 1) (o := 1) rfl ⟨rfl, rfl, rfl, rfl⟩ rfl flat38) rfl rfl (wt_none' rfl) ?_
     obtain ⟨r43, hr43, hp⟩ := bind_some hp
     refine qx_rd' (rd_bin' rfl rfl eg_flt (ru_fmul hr43)) rfl rfl (wt_none' rfl) ?_
     obtain ⟨r44, hr44, hp⟩ := bind_some hp
     refine qx_rd' (rd_bin' rfl rfl eg_flt (ru_fadd hr44)) rfl rfl (wt_none' rfl) ?_
     refine qx_rd' (rd_move' rfl) rfl rfl (wt_none' rfl) ?_
     obtain ⟨r46, hr46, hp⟩ := bind_some hp
     refine qx_rd' (rd_at' (K := Kf) rfl rfl hr46 Try.underlying22 info38) rfl rfl (wt_none' rfl) ?_
     refine qx_rd' (rd_load_pt' rfl rfl flat38) rfl rfl (wt_none' rfl) ?_
     refine qx_rd' (rd_field0' rfl Try.underlying91 rfl info38 rfl) rfl rfl (wt_none' rfl) ?_
     refine qx_rd' (rd_load' (i := 1) (o := 0) rfl ⟨rfl, rfl, rfl, rfl⟩ rfl flat38) rfl rfl (wt_none' rfl) ?_
     obtain ⟨r50, hr50, hp⟩ := bind_some hp
     refine qx_rd' (rd_bin' rfl rfl eg_flt (ru_fmul hr50)) rfl rfl (wt_none' rfl) ?_
     refine qx_rd' (rd_move' rfl) rfl rfl (wt_none' rfl) ?_
     obtain ⟨r52, hr52, hp⟩ := bind_some hp
     refine qx_rd' (rd_at' (K := Kf) rfl rfl hr52 Try.underlying22 info38) rfl rfl (wt_none' rfl) ?_
     refine qx_rd' (rd_load_pt' rfl rfl flat38) rfl rfl (wt_none' rfl) ?_
     refine qx_rd' (rd_field' (off := 1) rfl Try.underlying91 rfl info38 rfl) rfl rfl (wt_none' rfl) ?_
     refine qx_rd' (rd_load' (i := 1) (o := 1) rfl ⟨rfl, rfl, rfl, rfl⟩ rfl flat38) rfl rfl (wt_none' rfl) ?_
     obtain ⟨r56, hr56, hp⟩ := bind_some hp
     refine qx_rd' (rd_bin' rfl rfl eg_flt (ru_fmul hr56)) rfl rfl (wt_none' rfl) ?_
     obtain ⟨r57, hr57, hp⟩ := bind_some hp
     refine qx_rd' (rd_bin' rfl rfl eg_flt (ru_fadd hr57)) rfl rfl (wt_none' rfl) ?_
     refine qx_rd' (rd_bin' rfl rfl eg_flt ru_fgt) rfl rfl (wt_none' rfl) ?_
     refine qx_nil' ?_
     show TX E K38 _
     refine tx_k' hK38 ?_
     refine cx_cond' rfl (fun h13 => ?_) (fun h13 => ?_)
     ·replace hp := (br_t h13).symm.trans hp
      refine cx_region' ?_
      refine s0 (rd_move' rfl) ?_
      refine s0 (rd_assign' rfl) ?_
      refine sx_nil' ?_
      show TX E K36 _
      exact tx_pick' [0, 1, 2] (sub_cons rfl (sub_cons rfl (sub_cons rfl (sub_cons rfl (sub_cons rfl (sub_cons rfl (sub_cons rfl (sub_cons rfl (sub_cons rfl (sub_cons rfl sub_nil)))))))))) (by decide) (pick_cons rfl (pick_cons rfl (pick_cons rfl pick_nil))) (hK36 r30 hp)
     replace hp := (br_f h13).symm.trans hp
     refine cx_skip' ?_
     show TX E K36 _
     exact tx_pick' [0, 1, 2] (sub_cons rfl (sub_cons rfl (sub_cons rfl (sub_cons rfl (sub_cons rfl (sub_cons rfl (sub_cons rfl (sub_cons rfl (sub_cons rfl (sub_cons rfl sub_nil)))))))))) (by decide) (pick_cons rfl (pick_cons rfl (pick_cons rfl pick_nil))) (hK36 x8 hp)
    replace hp := (br_f h12).symm.trans hp
    refine cx_exit' ?_
    replace hp := Option.some.inj hp
    subst hp
    show TX E (Zg E (Exit.exit 2) _ (Exit.exit 2)) _
    exact tx_zend' () rfl [0, 2] (sub_cons rfl (sub_cons rfl (sub_cons rfl (sub_cons rfl (sub_cons rfl (sub_cons rfl sub_nil)))))) (by decide) (pick_cons rfl (pick_cons rfl pick_nil))
   refine zg_out fun w9 => ?_
   show TX E K27 _
   refine tx_k' hK27 ?_
   refine cx_region' ?_
   refine s0 (rd_move' rfl) ?_
   refine s0 (rd_move' rfl) ?_
   refine sx_ox' (ox_rowlit' (K := (Kl Kf)) (xs := [v9]) (qs := [(0, [(Sl Kf v9)])]) ⟨rfl, ⟨_, rfl, (lv_sl _ _)⟩, trivial⟩ Try.underlying39 info22 rfl rfl rfl rfl rfl (by kernel_rfl) rfl rfl rfl) (wt_none' rfl) fun g63 => ?_
   obtain ⟨r64, hr64, hp⟩ := bind_some hp
   refine sx_ox' (ox_append' (K := (Kl Kf)) (i := 1) (xs := x11) (ys := ([v9])) rfl rfl rfl (sr_row' (j := 0) rfl rfl rfl Try.underlying39) hr64 Try.underlying39 info22 rfl rfl rfl (H' := [(Rw (Kl Kf) 22 (Vs g63) ([v9])), (Rw KT91 91 (Vs g17) ([(13830554455654793216, 0), (13830554455654793216, 4607182418800017408), (0, 4607182418800017408), (4607182418800017408, 4607182418800017408), (4607182418800017408, 0), (4607182418800017408, 13830554455654793216), (0, 13830554455654793216), (13830554455654793216, 13830554455654793216)]))]) rfl) (wt_none' rfl) fun g64 => ?_
   refine s0 (rd_assign' rfl) ?_
   refine nk hK24 ?_
   refine cx_region' ?_
   refine s0 (rd_bin' rfl rfl eg_int ru_add) ?_
   refine s0 (rd_move' rfl) ?_
   refine sx_nil' ?_
   show TX E (KY3 _) _
   exact tx_pick' [0, 2] (sub_cons rfl (sub_cons rfl (sub_cons rfl (sub_cons rfl (sub_cons rfl sub_nil))))) (by decide) (pick_cons rfl (pick_cons rfl pick_nil)) (ih3 (r64, (iadd .i64 x12 1)) g64 _ hp)
  replace hp := (br_f h8).symm.trans hp
  refine cx_exit' ?_
  replace hp := Option.some.inj hp
  subst hp
  show TX E (Zg E (Exit.exit 0) _ (Exit.exit 0)) _
  exact tx_zend' g901 rfl [0] (sub_cons rfl sub_nil) (by decide) (pick_cons rfl pick_nil)
 refine zg_out fun w10 => ?_
 show TX E K3 _
 refine tx_k' hK3 ?_
 refine cr fun K39 hK39 => ?_
 refine s0 (rd_move' rfl) ?_
 refine s0 (rd_assign' rfl) ?_
 refine nk hK39 ?_
 refine cx_retc' ?_
 replace hp := Option.some.inj hp
 subst hp
 refine tx_fz' (frz_row 0 [(3, (Vl (Vs w10)), (Sl (Kl Kf) v10)), (66, (Vl (Vs w10)), (Sl (Kl Kf) v10)), (2, (Vl (Vs w10)), (Sl (Kl Kf) v10))] (K := (Kl Kf)) (xs := v10) (by decide) rfl ⟨⟨rfl, frz_it⟩, ⟨rfl, frz_it⟩, ⟨rfl, frz_it⟩, trivial⟩ (H' := []) frzH_refl) ?_
 refine tx_pick' (L' := [(2, (Sl (Kl Kf) v10))]) (H' := []) [] (sub_cons rfl sub_nil) (by decide) pick_nil ?_
 exact tx_ret1' Try.results29 rfl () (rv_tmp' rfl) (List.Sublist.refl _)

def impl_floats (k : Nat) (a0 : List Nat) : Option ((List Nat)) :=
 (apd 8 [] a0) >>= fun r4 =>
 some r4

theorem impl_floats_sim {k : Nat}  (a0 : List Nat) {out : (List Nat)} (hp : impl_floats k a0 = some out) : Sx.Fn Try.prog 50 [(Sl Kf a0)] [] (fun w : Gs => (Vl (Vs w))) (fun w => [(Rw Kf 38 (Vs w) out)]) := by
 unfold impl_floats at hp
 refine fn_of Try.func50 rfl Try.ntmps50 rfl fun E hM => ?_
 refine cr fun K1 hK1 => ?_
 refine s0 (rd_assign' rfl) ?_
 refine nk hK1 ?_
 refine cr fun K2 hK2 => ?_
 refine s0 (rd_move' rfl) ?_
 refine tx_nilrow' Kf 38 ?_
 obtain ⟨r4, hr4, hp⟩ := bind_some hp
 refine sx_ox' (ox_append' (K := Kf) (i := 0) (xs := []) (ys := a0) rfl rfl rfl (sr_sl' rfl Try.underlying22) hr4 Try.underlying22 info38 rfl rfl rfl (H' := []) rfl) (wt_none' rfl) fun g4 => ?_
 refine s0 (rd_assign' rfl) ?_
 refine nk hK2 ?_
 refine cx_retc' ?_
 replace hp := Option.some.inj hp
 subst hp
 refine tx_pick' (L' := [(2, (Vl (Vs g4)))]) (H' := [(Rw Kf 38 (Vs g4) r4)]) [0] (sub_cons rfl sub_nil) (by decide) (pick_cons rfl pick_nil) ?_
 exact tx_ret1' Try.results50 rfl g4 (rv_tmp' rfl) (List.Sublist.refl _)

def gogeom_Layout_Stride (k : Nat) (a0 : Int) : Option (Int) :=
 br (decide (a0 = 0))
  (some 0)
  (br (decide (a0 = 1))
   (some 2)
   (br (decide (a0 = 2))
    (some 3)
    (br (decide (a0 = 3))
     (some 3)
     (br (decide (a0 = 4))
      (some 4)
      (some a0)))))

theorem gogeom_Layout_Stride_sim {k : Nat}  (a0 : Int) {out : Int} (hp : gogeom_Layout_Stride k a0 = some out) : Sx.Fn Try.prog 133 [(Vi a0)] [] (fun w : Unit => (Vi out)) (fun w => []) := by
 unfold gogeom_Layout_Stride at hp
 refine fn_of Try.func133 rfl Try.ntmps133 rfl fun E hM => ?_
 refine cr fun K1 hK1 => ?_
 refine s0 (rd_assign' rfl) ?_
 refine nk hK1 ?_
 refine cr fun K2 hK2 => ?_
 refine s0 (rd_move' rfl) ?_
 refine nk hK2 ?_
 refine cx_block' ?_
 refine cr fun K3 hK3 => ?_
 refine s0 (rd_bin' rfl rfl eg_int ru_eql) ?_
 refine s0 (rd_assign' rfl) ?_
 refine nk hK3 ?_
 refine cx_cond' rfl (fun h1 => ?_) (fun h1 => ?_)
 ·replace hp := (br_t h1).symm.trans hp
  refine cr fun K4 hK4 => ?_
  refine s0 (rd_assign' rfl) ?_
  refine nk hK4 ?_
  refine cx_retc' ?_
  replace hp := Option.some.inj hp
  subst hp
  refine tx_pick' (L' := [(2, (Vi 0))]) (H' := []) [] (sub_cons rfl sub_nil) (by decide) pick_nil ?_
  exact tx_ret1' Try.results133 rfl () (rv_tmp' rfl) (List.Sublist.refl _)
 replace hp := (br_f h1).symm.trans hp
 refine cr fun K5 hK5 => ?_
 refine s0 (rd_bin' rfl rfl eg_int ru_eql) ?_
 refine s0 (rd_assign' rfl) ?_
 refine nk hK5 ?_
 refine cx_cond' rfl (fun h2 => ?_) (fun h2 => ?_)
 ·replace hp := (br_t h2).symm.trans hp
  refine cr fun K6 hK6 => ?_
  refine s0 (rd_assign' rfl) ?_
  refine nk hK6 ?_
  refine cx_retc' ?_
  replace hp := Option.some.inj hp
  subst hp
  refine tx_pick' (L' := [(2, (Vi 2))]) (H' := []) [] (sub_cons rfl sub_nil) (by decide) pick_nil ?_
  exact tx_ret1' Try.results133 rfl () (rv_tmp' rfl) (List.Sublist.refl _)
 replace hp := (br_f h2).symm.trans hp
 refine cr fun K7 hK7 => ?_
 refine s0 (rd_bin' rfl rfl eg_int ru_eql) ?_
 refine s0 (rd_assign' rfl) ?_
 refine nk hK7 ?_
 refine cx_cond' rfl (fun h3 => ?_) (fun h3 => ?_)
 ·replace hp := (br_t h3).symm.trans hp
  refine cr fun K8 hK8 => ?_
  refine s0 (rd_assign' rfl) ?_
  refine nk hK8 ?_
  refine cx_retc' ?_
  replace hp := Option.some.inj hp
  subst hp
  refine tx_pick' (L' := [(2, (Vi 3))]) (H' := []) [] (sub_cons rfl sub_nil) (by decide) pick_nil ?_
  exact tx_ret1' Try.results133 rfl () (rv_tmp' rfl) (List.Sublist.refl _)
 replace hp := (br_f h3).symm.trans hp
 refine cr fun K9 hK9 => ?_
 refine s0 (rd_bin' rfl rfl eg_int ru_eql) ?_
 refine s0 (rd_assign' rfl) ?_
 refine nk hK9 ?_
 refine cx_cond' rfl (fun h4 => ?_) (fun h4 => ?_)
 ·replace hp := (br_t h4).symm.trans hp
  refine cr fun K10 hK10 => ?_
  refine s0 (rd_assign' rfl) ?_
  refine nk hK10 ?_
  refine cx_retc' ?_
  replace hp := Option.some.inj hp
  subst hp
  refine tx_pick' (L' := [(2, (Vi 3))]) (H' := []) [] (sub_cons rfl sub_nil) (by decide) pick_nil ?_
  exact tx_ret1' Try.results133 rfl () (rv_tmp' rfl) (List.Sublist.refl _)
 replace hp := (br_f h4).symm.trans hp
 refine cr fun K11 hK11 => ?_
 refine s0 (rd_bin' rfl rfl eg_int ru_eql) ?_
 refine s0 (rd_assign' rfl) ?_
 refine nk hK11 ?_
 refine cx_cond' rfl (fun h5 => ?_) (fun h5 => ?_)
 ·replace hp := (br_t h5).symm.trans hp
  refine cr fun K12 hK12 => ?_
  refine s0 (rd_assign' rfl) ?_
  refine nk hK12 ?_
  refine cx_retc' ?_
  replace hp := Option.some.inj hp
  subst hp
  refine tx_pick' (L' := [(2, (Vi 4))]) (H' := []) [] (sub_cons rfl sub_nil) (by decide) pick_nil ?_
  exact tx_ret1' Try.results133 rfl () (rv_tmp' rfl) (List.Sublist.refl _)
 replace hp := (br_f h5).symm.trans hp
 refine cr fun K13 hK13 => ?_
 refine s0 (rd_move' rfl) ?_
 refine s0 (rd_assign' rfl) ?_
 refine nk hK13 ?_
 refine cx_retc' ?_
 replace hp := Option.some.inj hp
 subst hp
 refine tx_pick' (L' := [(2, (Vi a0))]) (H' := []) [] (sub_cons rfl sub_nil) (by decide) pick_nil ?_
 exact tx_ret1' Try.results133 rfl () (rv_tmp' rfl) (List.Sublist.refl _)

def xy_doorHull (k : Nat) (a0 : Int) (a1 : List Nat) : Option (Int × Int × (List Nat)) :=
 (gogeom_Layout_Stride k a0) >>= fun r7 =>
 some (a0, r7, a1)

theorem xy_doorHull_sim {k : Nat}  (a0 : Int) (a1 : List Nat) {out : Int × Int × (List Nat)} (hp : xy_doorHull k a0 a1 = some out) : Sx.Fn Try.prog 103 [(Vi a0), (Sl Kf a1)] [] (fun w : Addr => (Vp w)) (fun w => [⟨.pointer (some w), [(Vi out.1), (Vi out.2.1), (Sl Kf out.2.2)], 179, none⟩]) := by
 unfold xy_doorHull at hp
 refine fn_of Try.func103 rfl Try.ntmps103 rfl fun E hM => ?_
 refine cr fun K1 hK1 => ?_
 refine s0 (rd_assign' rfl) ?_
 refine nk hK1 ?_
 refine cr fun K2 hK2 => ?_
 refine s0 (rd_move' rfl) ?_
 refine s0 (rd_move' rfl) ?_
 obtain ⟨r7, hr7, hp⟩ := bind_some hp
 refine sx_ox' (ox_calln' (ent_fn' Try.func133 isn133 rfl rfl) (gogeom_Layout_Stride_sim _ hr7 : Sx.Fn Try.prog 133 [(Vi a0)] [] (fun x : Unit => (Vi r7)) (fun x => [])) (Hn := fun x : Unit => []) (fun _ => rfl) rfl rfl) (wt_none' rfl) fun ⟨⟩ => ?_
 refine s0 (rd_move' rfl) ?_
 refine s0 (rd_build' (pls := [(0, 1), (1, 1), (2, 1)]) (qs := [(0, [(Vi a0)]), (1, [(Vi r7)]), (2, [(Sl Kf a1)])]) (r := [(Vi a0), (Vi r7), (Sl Kf a1)]) ⟨rfl, ⟨_, rfl, (lv_vl rfl rfl)⟩, ⟨rfl, ⟨_, rfl, (lv_vl rfl rfl)⟩, ⟨rfl, ⟨_, rfl, (lv_sl _ _)⟩, trivial⟩⟩⟩ Try.underlying179 has179 places179 info179 rfl rfl rfl) ?_
 refine sx_ox' (ox_box' rfl (lv_ag _) rfl rfl) (wt_none' rfl) fun q10 => ?_
 refine s0 (rd_assign' rfl) ?_
 refine nk hK2 ?_
 refine cx_retc' ?_
 replace hp := Option.some.inj hp
 subst hp
 refine tx_pick' (L' := [(4, (Vp q10))]) (H' := [⟨.pointer (some q10), [(Vi a0), (Vi r7), (Sl Kf a1)], 179, none⟩]) [0] (sub_cons rfl sub_nil) (by decide) (pick_cons rfl pick_nil) ?_
 exact tx_ret1' Try.results103 rfl q10 (rv_tmp' rfl) (List.Sublist.refl _)

def xy_convexHullCalculator_computeOctPts_l2s (a0_1 : Int) (a1 : List Nat) (x8 : Int) (k : Nat) (rec2 : ((List Nat) × Int) → Option ((List Nat))) (x4 : List Nat) (x5 : Int) : Option ((List Nat)) :=
 br (decide (x5 < a0_1))
  ((idx a1 x5) >>= fun r42 =>
  (idx x4 (iadd .i64 x8 x5)) >>= fun r44 =>
  rec2 ((x4.set (iadd .i64 x8 x5).toNat r42), (iadd .i64 x5 1)))
  (some x4)
def xy_convexHullCalculator_computeOctPts_l2 (a0_1 : Int) (a1 : List Nat) (x8 : Int) : Nat → ((List Nat) × Int) → Option ((List Nat))
 | 0, _ => none
 | k + 1, v => xy_convexHullCalculator_computeOctPts_l2s a0_1 a1 x8 k (xy_convexHullCalculator_computeOctPts_l2 a0_1 a1 x8 k) v.1 v.2
def xy_convexHullCalculator_computeOctPts_l3s (a0_1 : Int) (a1 : List Nat) (k : Nat) (rec3 : ((List Nat) × Int) → Option ((List Nat))) (x7 : List Nat) (x8 : Int) : Option ((List Nat)) :=
 br (decide (x8 < (x7.length : Int)))
  ((xy_convexHullCalculator_computeOctPts_l2 a0_1 a1 x8 k (x7, 0)) >>= fun v5 =>
  rec3 (v5, (iadd .i64 x8 a0_1)))
  (some x7)
def xy_convexHullCalculator_computeOctPts_l3 (a0_1 : Int) (a1 : List Nat) : Nat → ((List Nat) × Int) → Option ((List Nat))
 | 0, _ => none
 | k + 1, v => xy_convexHullCalculator_computeOctPts_l3s a0_1 a1 k (xy_convexHullCalculator_computeOctPts_l3 a0_1 a1 k) v.1 v.2
def xy_convexHullCalculator_computeOctPts_j16 (k : Nat) (rec20 : ((List Nat) × Int) → Option ((List Nat))) (x75 : Int) (a0_1 : Int) (x73 : List Nat) : Option ((List Nat)) :=
 rec20 (x73, (iadd .i64 x75 a0_1))
def xy_convexHullCalculator_computeOctPts_l19s (a0_1 : Int) (a1 : List Nat) (x75 : Int) (k : Nat) (rec19 : ((List Nat) × Int) → Option ((List Nat))) (x70 : List Nat) (x71 : Int) : Option ((List Nat)) :=
 br (decide (x71 < a0_1))
  ((idx a1 (iadd .i64 x75 x71)) >>= fun r314 =>
  (idx x70 (iadd .i64 (imul .i64 7 a0_1) x71)) >>= fun r316 =>
  rec19 ((x70.set (iadd .i64 (imul .i64 7 a0_1) x71).toNat r314), (iadd .i64 x71 1)))
  (some x70)
def xy_convexHullCalculator_computeOctPts_l19 (a0_1 : Int) (a1 : List Nat) (x75 : Int) : Nat → ((List Nat) × Int) → Option ((List Nat))
 | 0, _ => none
 | k + 1, v => xy_convexHullCalculator_computeOctPts_l19s a0_1 a1 x75 k (xy_convexHullCalculator_computeOctPts_l19 a0_1 a1 x75 k) v.1 v.2
def xy_convexHullCalculator_computeOctPts_j15 (k : Nat) (a1 : List Nat) (x75 : Int) (a0_1 : Int) (rec20 : ((List Nat) × Int) → Option ((List Nat))) (x69 : List Nat) : Option ((List Nat)) :=
 (idx a1 x75) >>= fun r280 =>
 (idx a1 (iadd .i64 x75 1)) >>= fun r285 =>
 (fadd r280 r285) >>= fun r287 =>
 (idx x69 (imul .i64 7 a0_1)) >>= fun r291 =>
 (idx x69 (iadd .i64 (imul .i64 7 a0_1) 1)) >>= fun r297 =>
 (fadd r291 r297) >>= fun r299 =>
 br (flt r287 r299)
  ((xy_convexHullCalculator_computeOctPts_l19 a0_1 a1 x75 k (x69, 0)) >>= fun v54 =>
  xy_convexHullCalculator_computeOctPts_j16 k rec20 x75 a0_1 v54)
  (xy_convexHullCalculator_computeOctPts_j16 k rec20 x75 a0_1 x69)
def xy_convexHullCalculator_computeOctPts_l18s (a0_1 : Int) (a1 : List Nat) (x75 : Int) (k : Nat) (rec18 : ((List Nat) × Int) → Option ((List Nat))) (x66 : List Nat) (x67 : Int) : Option ((List Nat)) :=
 br (decide (x67 < a0_1))
  ((idx a1 (iadd .i64 x75 x67)) >>= fun r274 =>
  (idx x66 (iadd .i64 (imul .i64 6 a0_1) x67)) >>= fun r276 =>
  rec18 ((x66.set (iadd .i64 (imul .i64 6 a0_1) x67).toNat r274), (iadd .i64 x67 1)))
  (some x66)
def xy_convexHullCalculator_computeOctPts_l18 (a0_1 : Int) (a1 : List Nat) (x75 : Int) : Nat → ((List Nat) × Int) → Option ((List Nat))
 | 0, _ => none
 | k + 1, v => xy_convexHullCalculator_computeOctPts_l18s a0_1 a1 x75 k (xy_convexHullCalculator_computeOctPts_l18 a0_1 a1 x75 k) v.1 v.2
def xy_convexHullCalculator_computeOctPts_j14 (k : Nat) (a1 : List Nat) (x75 : Int) (a0_1 : Int) (rec20 : ((List Nat) × Int) → Option ((List Nat))) (x65 : List Nat) : Option ((List Nat)) :=
 (idx a1 (iadd .i64 x75 1)) >>= fun r252 =>
 (idx x65 (iadd .i64 (imul .i64 6 a0_1) 1)) >>= fun r258 =>
 br (flt r252 r258)
  ((xy_convexHullCalculator_computeOctPts_l18 a0_1 a1 x75 k (x65, 0)) >>= fun v51 =>
  xy_convexHullCalculator_computeOctPts_j15 k a1 x75 a0_1 rec20 v51)
  (xy_convexHullCalculator_computeOctPts_j15 k a1 x75 a0_1 rec20 x65)
def xy_convexHullCalculator_computeOctPts_l17s (a0_1 : Int) (a1 : List Nat) (x75 : Int) (k : Nat) (rec17 : ((List Nat) × Int) → Option ((List Nat))) (x62 : List Nat) (x63 : Int) : Option ((List Nat)) :=
 br (decide (x63 < a0_1))
  ((idx a1 (iadd .i64 x75 x63)) >>= fun r245 =>
  (idx x62 (iadd .i64 (imul .i64 5 a0_1) x63)) >>= fun r247 =>
  rec17 ((x62.set (iadd .i64 (imul .i64 5 a0_1) x63).toNat r245), (iadd .i64 x63 1)))
  (some x62)
def xy_convexHullCalculator_computeOctPts_l17 (a0_1 : Int) (a1 : List Nat) (x75 : Int) : Nat → ((List Nat) × Int) → Option ((List Nat))
 | 0, _ => none
 | k + 1, v => xy_convexHullCalculator_computeOctPts_l17s a0_1 a1 x75 k (xy_convexHullCalculator_computeOctPts_l17 a0_1 a1 x75 k) v.1 v.2
def xy_convexHullCalculator_computeOctPts_j13 (k : Nat) (a1 : List Nat) (x75 : Int) (a0_1 : Int) (rec20 : ((List Nat) × Int) → Option ((List Nat))) (x61 : List Nat) : Option ((List Nat)) :=
 (idx a1 x75) >>= fun r211 =>
 (idx a1 (iadd .i64 x75 1)) >>= fun r216 =>
 (fsub r211 r216) >>= fun r218 =>
 (idx x61 (imul .i64 5 a0_1)) >>= fun r222 =>
 (idx x61 (iadd .i64 (imul .i64 5 a0_1) 1)) >>= fun r228 =>
 (fsub r222 r228) >>= fun r230 =>
 br (fgt r218 r230)
  ((xy_convexHullCalculator_computeOctPts_l17 a0_1 a1 x75 k (x61, 0)) >>= fun v48 =>
  xy_convexHullCalculator_computeOctPts_j14 k a1 x75 a0_1 rec20 v48)
  (xy_convexHullCalculator_computeOctPts_j14 k a1 x75 a0_1 rec20 x61)
def xy_convexHullCalculator_computeOctPts_l16s (a0_1 : Int) (a1 : List Nat) (x75 : Int) (k : Nat) (rec16 : ((List Nat) × Int) → Option ((List Nat))) (x58 : List Nat) (x59 : Int) : Option ((List Nat)) :=
 br (decide (x59 < a0_1))
  ((idx a1 (iadd .i64 x75 x59)) >>= fun r205 =>
  (idx x58 (iadd .i64 (imul .i64 4 a0_1) x59)) >>= fun r207 =>
  rec16 ((x58.set (iadd .i64 (imul .i64 4 a0_1) x59).toNat r205), (iadd .i64 x59 1)))
  (some x58)
def xy_convexHullCalculator_computeOctPts_l16 (a0_1 : Int) (a1 : List Nat) (x75 : Int) : Nat → ((List Nat) × Int) → Option ((List Nat))
 | 0, _ => none
 | k + 1, v => xy_convexHullCalculator_computeOctPts_l16s a0_1 a1 x75 k (xy_convexHullCalculator_computeOctPts_l16 a0_1 a1 x75 k) v.1 v.2
def xy_convexHullCalculator_computeOctPts_j12 (k : Nat) (a1 : List Nat) (x75 : Int) (a0_1 : Int) (rec20 : ((List Nat) × Int) → Option ((List Nat))) (x57 : List Nat) : Option ((List Nat)) :=
 (idx a1 x75) >>= fun r184 =>
 (idx x57 (imul .i64 4 a0_1)) >>= fun r189 =>
 br (fgt r184 r189)
  ((xy_convexHullCalculator_computeOctPts_l16 a0_1 a1 x75 k (x57, 0)) >>= fun v45 =>
  xy_convexHullCalculator_computeOctPts_j13 k a1 x75 a0_1 rec20 v45)
  (xy_convexHullCalculator_computeOctPts_j13 k a1 x75 a0_1 rec20 x57)
def xy_convexHullCalculator_computeOctPts_l15s (a0_1 : Int) (a1 : List Nat) (x75 : Int) (k : Nat) (rec15 : ((List Nat) × Int) → Option ((List Nat))) (x54 : List Nat) (x55 : Int) : Option ((List Nat)) :=
 br (decide (x55 < a0_1))
  ((idx a1 (iadd .i64 x75 x55)) >>= fun r178 =>
  (idx x54 (iadd .i64 (imul .i64 3 a0_1) x55)) >>= fun r180 =>
  rec15 ((x54.set (iadd .i64 (imul .i64 3 a0_1) x55).toNat r178), (iadd .i64 x55 1)))
  (some x54)
def xy_convexHullCalculator_computeOctPts_l15 (a0_1 : Int) (a1 : List Nat) (x75 : Int) : Nat → ((List Nat) × Int) → Option ((List Nat))
 | 0, _ => none
 | k + 1, v => xy_convexHullCalculator_computeOctPts_l15s a0_1 a1 x75 k (xy_convexHullCalculator_computeOctPts_l15 a0_1 a1 x75 k) v.1 v.2
def xy_convexHullCalculator_computeOctPts_j11 (k : Nat) (a1 : List Nat) (x75 : Int) (a0_1 : Int) (rec20 : ((List Nat) × Int) → Option ((List Nat))) (x53 : List Nat) : Option ((List Nat)) :=
 (idx a1 x75) >>= fun r144 =>
 (idx a1 (iadd .i64 x75 1)) >>= fun r149 =>
 (fadd r144 r149) >>= fun r151 =>
 (idx x53 (imul .i64 3 a0_1)) >>= fun r155 =>
 (idx x53 (iadd .i64 (imul .i64 3 a0_1) 1)) >>= fun r161 =>
 (fadd r155 r161) >>= fun r163 =>
 br (fgt r151 r163)
  ((xy_convexHullCalculator_computeOctPts_l15 a0_1 a1 x75 k (x53, 0)) >>= fun v42 =>
  xy_convexHullCalculator_computeOctPts_j12 k a1 x75 a0_1 rec20 v42)
  (xy_convexHullCalculator_computeOctPts_j12 k a1 x75 a0_1 rec20 x53)
def xy_convexHullCalculator_computeOctPts_l14s (a0_1 : Int) (a1 : List Nat) (x75 : Int) (k : Nat) (rec14 : ((List Nat) × Int) → Option ((List Nat))) (x50 : List Nat) (x51 : Int) : Option ((List Nat)) :=
 br (decide (x51 < a0_1))
  ((idx a1 (iadd .i64 x75 x51)) >>= fun r138 =>
  (idx x50 (iadd .i64 (imul .i64 2 a0_1) x51)) >>= fun r140 =>
  rec14 ((x50.set (iadd .i64 (imul .i64 2 a0_1) x51).toNat r138), (iadd .i64 x51 1)))
  (some x50)
def xy_convexHullCalculator_computeOctPts_l14 (a0_1 : Int) (a1 : List Nat) (x75 : Int) : Nat → ((List Nat) × Int) → Option ((List Nat))
 | 0, _ => none
 | k + 1, v => xy_convexHullCalculator_computeOctPts_l14s a0_1 a1 x75 k (xy_convexHullCalculator_computeOctPts_l14 a0_1 a1 x75 k) v.1 v.2
def xy_convexHullCalculator_computeOctPts_j10 (k : Nat) (a1 : List Nat) (x75 : Int) (a0_1 : Int) (rec20 : ((List Nat) × Int) → Option ((List Nat))) (x49 : List Nat) : Option ((List Nat)) :=
 (idx a1 (iadd .i64 x75 1)) >>= fun r116 =>
 (idx x49 (iadd .i64 (imul .i64 2 a0_1) 1)) >>= fun r122 =>
 br (fgt r116 r122)
  ((xy_convexHullCalculator_computeOctPts_l14 a0_1 a1 x75 k (x49, 0)) >>= fun v39 =>
  xy_convexHullCalculator_computeOctPts_j11 k a1 x75 a0_1 rec20 v39)
  (xy_convexHullCalculator_computeOctPts_j11 k a1 x75 a0_1 rec20 x49)
def xy_convexHullCalculator_computeOctPts_l13s (a0_1 : Int) (a1 : List Nat) (x75 : Int) (k : Nat) (rec13 : ((List Nat) × Int) → Option ((List Nat))) (x46 : List Nat) (x47 : Int) : Option ((List Nat)) :=
 br (decide (x47 < a0_1))
  ((idx a1 (iadd .i64 x75 x47)) >>= fun r109 =>
  (idx x46 (iadd .i64 a0_1 x47)) >>= fun r111 =>
  rec13 ((x46.set (iadd .i64 a0_1 x47).toNat r109), (iadd .i64 x47 1)))
  (some x46)
def xy_convexHullCalculator_computeOctPts_l13 (a0_1 : Int) (a1 : List Nat) (x75 : Int) : Nat → ((List Nat) × Int) → Option ((List Nat))
 | 0, _ => none
 | k + 1, v => xy_convexHullCalculator_computeOctPts_l13s a0_1 a1 x75 k (xy_convexHullCalculator_computeOctPts_l13 a0_1 a1 x75 k) v.1 v.2
def xy_convexHullCalculator_computeOctPts_j9 (k : Nat) (a1 : List Nat) (x75 : Int) (a0_1 : Int) (rec20 : ((List Nat) × Int) → Option ((List Nat))) (x45 : List Nat) : Option ((List Nat)) :=
 (idx a1 x75) >>= fun r78 =>
 (idx a1 (iadd .i64 x75 1)) >>= fun r83 =>
 (fsub r78 r83) >>= fun r85 =>
 (idx x45 a0_1) >>= fun r88 =>
 (idx x45 (iadd .i64 a0_1 1)) >>= fun r93 =>
 (fsub r88 r93) >>= fun r95 =>
 br (flt r85 r95)
  ((xy_convexHullCalculator_computeOctPts_l13 a0_1 a1 x75 k (x45, 0)) >>= fun v36 =>
  xy_convexHullCalculator_computeOctPts_j10 k a1 x75 a0_1 rec20 v36)
  (xy_convexHullCalculator_computeOctPts_j10 k a1 x75 a0_1 rec20 x45)
def xy_convexHullCalculator_computeOctPts_l12s (a0_1 : Int) (a1 : List Nat) (x75 : Int) (k : Nat) (rec12 : ((List Nat) × Int) → Option ((List Nat))) (x42 : List Nat) (x43 : Int) : Option ((List Nat)) :=
 br (decide (x43 < a0_1))
  ((idx a1 (iadd .i64 x75 x43)) >>= fun r72 =>
  (idx x42 x43) >>= fun r74 =>
  rec12 ((x42.set x43.toNat r72), (iadd .i64 x43 1)))
  (some x42)
def xy_convexHullCalculator_computeOctPts_l12 (a0_1 : Int) (a1 : List Nat) (x75 : Int) : Nat → ((List Nat) × Int) → Option ((List Nat))
 | 0, _ => none
 | k + 1, v => xy_convexHullCalculator_computeOctPts_l12s a0_1 a1 x75 k (xy_convexHullCalculator_computeOctPts_l12 a0_1 a1 x75 k) v.1 v.2
def xy_convexHullCalculator_computeOctPts_l20s (a1 : List Nat) (a0_1 : Int) (k : Nat) (rec20 : ((List Nat) × Int) → Option ((List Nat))) (x74 : List Nat) (x75 : Int) : Option ((List Nat)) :=
 br (decide (x75 < (a1.length : Int)))
  ((idx a1 x75) >>= fun r56 =>
  (idx x74 0) >>= fun r59 =>
  br (flt r56 r59)
   ((xy_convexHullCalculator_computeOctPts_l12 a0_1 a1 x75 k (x74, 0)) >>= fun v33 =>
   xy_convexHullCalculator_computeOctPts_j9 k a1 x75 a0_1 rec20 v33)
   (xy_convexHullCalculator_computeOctPts_j9 k a1 x75 a0_1 rec20 x74))
  (some x74)
def xy_convexHullCalculator_computeOctPts_l20 (a1 : List Nat) (a0_1 : Int) : Nat → ((List Nat) × Int) → Option ((List Nat))
 | 0, _ => none
 | k + 1, v => xy_convexHullCalculator_computeOctPts_l20s a1 a0_1 k (xy_convexHullCalculator_computeOctPts_l20 a1 a0_1 k) v.1 v.2
def xy_convexHullCalculator_computeOctPts (k : Nat) (a0_0 : Int) (a0_1 : Int) (a0_2 : List Nat) (a1 : List Nat) : Option (Int × Int × (List Nat) × (List Nat)) :=
 (mk 8 0 (imul .i64 8 a0_1) (imul .i64 8 a0_1)) >>= fun r24 =>
 (xy_convexHullCalculator_computeOctPts_l3 a0_1 a1 k (r24, 0)) >>= fun v6 =>
 (xy_convexHullCalculator_computeOctPts_l20 a1 a0_1 k (v6, a0_1)) >>= fun v56 =>
 some (a0_0, a0_1, a0_2, v56)

theorem xy_convexHullCalculator_computeOctPts_sim {k : Nat} {wa0 : Addr} (a0_0 : Int) (a0_1 : Int) (a0_2 : List Nat) (a1 : List Nat) {out : Int × Int × (List Nat) × (List Nat)} (hp : xy_convexHullCalculator_computeOctPts k a0_0 a0_1 a0_2 a1 = some out) : Sx.Fn Try.prog 136 [(Vp wa0), (Sl Kf a1)] [⟨.pointer (some wa0), [(Vi a0_0), (Vi a0_1), (Sl Kf a0_2)], 179, none⟩] (fun w : Gs => (Vl (Vs w))) (fun w => [⟨.pointer (some wa0), [(Vi out.1), (Vi out.2.1), (Sl Kf out.2.2.1)], 179, none⟩, (Rw Kf 38 (Vs w) out.2.2.2)]) := by
 unfold xy_convexHullCalculator_computeOctPts at hp
 refine fn_of Try.func136 rfl Try.ntmps136 rfl fun E hM => ?_
 refine cr fun K1 hK1 => ?_
 refine s0 (rd_assign' rfl) ?_
 refine nk hK1 ?_
 refine cr fun K2 hK2 => ?_
 refine s0 (rd_move' rfl) ?_
 refine s0 (rd_nilck' rfl) ?_
 refine s0 (rd_field' (off := 1) rfl Try.underlying179 rfl info3 rfl) ?_
 refine s0 (rd_load' (i := 0) (o := 1) rfl ⟨rfl, rfl, rfl, rfl⟩ rfl flat3) ?_
 refine s0 (rd_assign' rfl) ?_
 refine nk hK2 ?_
 refine cr fun K3 hK3 => ?_
 refine s0 (rd_move' rfl) ?_
 refine s0 (rd_bin' rfl rfl eg_int ru_mul) ?_
 obtain ⟨r24, hr24, hp⟩ := bind_some hp
 refine sx_ox' (ox_make' (K := Kf) rfl rfl hr24 rfl Try.underlying22 info38 rfl rfl rfl rfl rfl) (wt_none' rfl) fun g24 => ?_
 refine s0 (rd_assign' rfl) ?_
 refine nk hK3 ?_
 refine cx_seq' fun K4 hK4 => ?_
 refine cr fun K5 hK5 => ?_
 refine s0 (rd_assign' rfl) ?_
 refine nk hK5 ?_
 refine cx_block' ?_
 obtain ⟨v6, hy3, hp⟩ := bind_some hp
 refine cx_loopg' (F := xy_convexHullCalculator_computeOctPts_l3 a0_1 a1) (G := fun k R v => xy_convexHullCalculator_computeOctPts_l3s a0_1 a1 k R v.1 v.2) (x := (r24, 0)) (gh := ()) (fun (v3 : (List Nat) × Int) (w3 : Unit) => (⟨319, [], [(1, (Sl Kf a1)), (5, (Vi a0_1)), (6, (Vl (Vs g24))), (7, (Vi v3.2))], [(Rw Kf 38 (Vs g24) v3.1), ⟨.pointer (some wa0), [(Vi a0_0), (Vi a0_1), (Sl Kf a0_2)], 179, none⟩]⟩ : St)) (fun (v6 : (List Nat)) => Zg E (Exit.exit 0) (fun (w6 : Unit) => (⟨319, [], [(1, (Sl Kf a1)), (5, (Vi a0_1)), (6, (Vl (Vs g24)))], [(Rw Kf 38 (Vs g24) v6), ⟨.pointer (some wa0), [(Vi a0_0), (Vi a0_1), (Sl Kf a0_2)], 179, none⟩]⟩ : St))) (fun _ => rfl) (fun _ _ => rfl) ?_ hy3 (tx_to' rfl [0, 1] (sub_cons rfl (sub_cons rfl (sub_cons rfl (sub_cons rfl sub_nil)))) (by decide) (pick_cons rfl (pick_cons rfl pick_nil))) ?_
 ·clear hp hy3
  clear v6
  intro k rec3 KY3 ih3
  rintro ⟨x7, x8⟩ ⟨⟩ y3 hp
  replace hp : xy_convexHullCalculator_computeOctPts_l3s a0_1 a1 k rec3 x7 x8 = some y3 := hp
  unfold xy_convexHullCalculator_computeOctPts_l3s at hp
  refine cx_seq' fun K18 hK18 => ?_
  refine cr fun K19 hK19 => ?_
  refine s0 (rd_move' rfl) ?_
  refine s0 (rd_move' rfl) ?_
  refine s0 (rd_lenr' (i := 0) rfl rfl rfl Try.underlying22) ?_
  refine s0 (rd_bin' rfl rfl eg_int ru_lss) ?_
  refine nk hK19 ?_
  refine cx_cond' rfl (fun h6 => ?_) (fun h6 => ?_)
  ·replace hp := (br_t h6).symm.trans hp
   refine cx_skip' ?_
   show TX E K18 _
   refine tx_k' hK18 ?_
   refine cx_seq' fun K20 hK20 => ?_
   refine cx_block' ?_
   refine cr fun K21 hK21 => ?_
   refine s0 (rd_move' rfl) ?_
   refine s0 (rd_move' rfl) ?_
   refine nk hK21 ?_
   refine cx_block' ?_
   obtain ⟨v5, hy2, hp⟩ := bind_some hp
   refine cx_loopg' (F := xy_convexHullCalculator_computeOctPts_l2 a0_1 a1 x8) (G := fun k R v => xy_convexHullCalculator_computeOctPts_l2s a0_1 a1 x8 k R v.1 v.2) (x := (x7, 0)) (gh := ()) (fun (v4 : (List Nat) × Int) (w4 : Unit) => (⟨319, [], [(1, (Sl Kf a1)), (5, (Vi a0_1)), (6, (Vl (Vs g24))), (7, (Vi x8)), (32, (Vi a0_1)), (33, (Vi v4.2))], [(Rw Kf 38 (Vs g24) v4.1), ⟨.pointer (some wa0), [(Vi a0_0), (Vi a0_1), (Sl Kf a0_2)], 179, none⟩]⟩ : St)) (fun (v5 : (List Nat)) => Zg E (Exit.exit 2) (fun (w5 : Unit) => (⟨319, [], [(1, (Sl Kf a1)), (5, (Vi a0_1)), (6, (Vl (Vs g24))), (7, (Vi x8))], [(Rw Kf 38 (Vs g24) v5), ⟨.pointer (some wa0), [(Vi a0_0), (Vi a0_1), (Sl Kf a0_2)], 179, none⟩]⟩ : St))) (fun _ => rfl) (fun _ _ => rfl) ?_ hy2 (tx_to' rfl [0, 1] (sub_cons rfl (sub_cons rfl (sub_cons rfl (sub_cons rfl (sub_cons rfl (sub_cons rfl sub_nil)))))) (by decide) (pick_cons rfl (pick_cons rfl pick_nil))) ?_
   ·clear hp hy2
    clear v5
    intro k rec2 KY2 ih2
    rintro ⟨x4, x5⟩ ⟨⟩ y2 hp
    replace hp : xy_convexHullCalculator_computeOctPts_l2s a0_1 a1 x8 k rec2 x4 x5 = some y2 := hp
    unfold xy_convexHullCalculator_computeOctPts_l2s at hp
    refine cr fun K26 hK26 => ?_
    refine s0 (rd_bin' rfl rfl eg_int ru_lss) ?_
    refine nk hK26 ?_
    refine cx_seq' fun K27 hK27 => ?_
    refine cx_cond' rfl (fun h9 => ?_) (fun h9 => ?_)
    ·replace hp := (br_t h9).symm.trans hp
     refine cx_skip' ?_
     show TX E K27 _
     refine tx_k' hK27 ?_
     refine cx_seq' fun K28 hK28 => ?_
     refine cx_block' ?_
     refine cr fun K29 hK29 => ?_
     refine s0 (rd_move' rfl) ?_
     refine s0 (rd_assign' rfl) ?_
     refine nk hK29 ?_
     refine cx_region' ?_
     refine s0 (rd_move' rfl) ?_
     refine s0 (rd_move' rfl) ?_
     refine s0 (rd_move' rfl) ?_
     refine s0 (rd_bin' rfl rfl eg_int ru_add) ?_
     refine s0 (rd_move' rfl) ?_
     refine s0 (rd_move' rfl) ?_
     obtain ⟨r42, hr42, hp⟩ := bind_some hp
     refine s0 (rd_at' (K := Kf) rfl rfl hr42 Try.underlying22 info38) ?_
     refine s0 (rd_load_pt' rfl rfl flat38) ?_
     obtain ⟨r44, hr44, hp⟩ := bind_some hp
     refine s0 (rd_atr' (m := 0) rfl rfl rfl rfl hr44 Try.underlying22 info38) ?_
     refine sx_ox' (ox_storer' (m := 0) (i := (iadd .i64 x8 x5)) (j := 0) (x' := r42) rfl rfl (lv_vl rfl rfl) rfl rfl hr44 rfl rfl rfl info38 rfl (H' := [(Rw Kf 38 (Vs g24) (x4.set (iadd .i64 x8 x5).toNat r42)), ⟨.pointer (some wa0), [(Vi a0_0), (Vi a0_1), (Sl Kf a0_2)], 179, none⟩]) rfl) (wt_none' rfl) fun _ => ?_
     refine nk hK28 ?_
     refine cx_region' ?_
     refine s0 (rd_bin' rfl rfl eg_int ru_add) ?_
     refine s0 (rd_move' rfl) ?_
     refine sx_nil' ?_
     show TX E (KY2 _) _
     exact tx_pick' [0, 1] (sub_cons rfl (sub_cons rfl (sub_cons rfl (sub_cons rfl (sub_cons rfl (sub_cons rfl sub_nil)))))) (by decide) (pick_cons rfl (pick_cons rfl pick_nil)) (ih2 ((x4.set (iadd .i64 x8 x5).toNat r42), (iadd .i64 x5 1)) () _ hp)
    replace hp := (br_f h9).symm.trans hp
    refine cx_exit' ?_
    replace hp := Option.some.inj hp
    subst hp
    show TX E (Zg E (Exit.exit 2) _ (Exit.exit 2)) _
    exact tx_zend' () rfl [0, 1] (sub_cons rfl (sub_cons rfl (sub_cons rfl (sub_cons rfl sub_nil)))) (by decide) (pick_cons rfl (pick_cons rfl pick_nil))
   refine zg_out fun w5 => ?_
   show TX E K20 _
   refine tx_k' hK20 ?_
   refine cx_region' ?_
   refine s0 (rd_move' rfl) ?_
   refine s0 (rd_move' rfl) ?_
   refine s0 (rd_bin' rfl rfl eg_int ru_add) ?_
   refine s0 (rd_assign' rfl) ?_
   refine sx_nil' ?_
   show TX E (KY3 _) _
   exact tx_pick' [0, 1] (sub_cons rfl (sub_cons rfl (sub_cons rfl (sub_cons rfl sub_nil)))) (by decide) (pick_cons rfl (pick_cons rfl pick_nil)) (ih3 (v5, (iadd .i64 x8 a0_1)) () _ hp)
  replace hp := (br_f h6).symm.trans hp
  refine cx_exit' ?_
  replace hp := Option.some.inj hp
  subst hp
  show TX E (Zg E (Exit.exit 0) _ (Exit.exit 0)) _
  exact tx_zend' () rfl [0, 1] (sub_cons rfl (sub_cons rfl (sub_cons rfl sub_nil))) (by decide) (pick_cons rfl (pick_cons rfl pick_nil))
 refine zg_out fun w6 => ?_
 show TX E K4 _
 refine tx_k' hK4 ?_
 refine cx_seq' fun K30 hK30 => ?_
 refine cr fun K31 hK31 => ?_
 refine s0 (rd_move' rfl) ?_
 refine s0 (rd_assign' rfl) ?_
 refine nk hK31 ?_
 refine cx_block' ?_
 obtain ⟨v56, hy20, hp⟩ := bind_some hp
 refine cx_loopg' (F := xy_convexHullCalculator_computeOctPts_l20 a1 a0_1) (G := fun k R v => xy_convexHullCalculator_computeOctPts_l20s a1 a0_1 k R v.1 v.2) (x := (v6, a0_1)) (gh := ()) (fun (v31 : (List Nat) × Int) (w31 : Unit) => (⟨319, [], [(1, (Sl Kf a1)), (5, (Vi a0_1)), (6, (Vl (Vs g24))), (9, (Vi v31.2))], [(Rw Kf 38 (Vs g24) v31.1), ⟨.pointer (some wa0), [(Vi a0_0), (Vi a0_1), (Sl Kf a0_2)], 179, none⟩]⟩ : St)) (fun (v56 : (List Nat)) => Zg E (Exit.exit 4) (fun (w56 : Unit) => (⟨319, [], [(6, (Vl (Vs g24)))], [(Rw Kf 38 (Vs g24) v56), ⟨.pointer (some wa0), [(Vi a0_0), (Vi a0_1), (Sl Kf a0_2)], 179, none⟩]⟩ : St))) (fun _ => rfl) (fun _ _ => rfl) ?_ hy20 (tx_to' rfl [0, 1] (sub_cons rfl (sub_cons rfl (sub_cons rfl (sub_cons rfl sub_nil)))) (by decide) (pick_cons rfl (pick_cons rfl pick_nil))) ?_
 ·clear hp hy20
  clear v56
  intro k rec20 KY20 ih20
  rintro ⟨x74, x75⟩ ⟨⟩ y20 hp
  replace hp : xy_convexHullCalculator_computeOctPts_l20s a1 a0_1 k rec20 x74 x75 = some y20 := hp
  unfold xy_convexHullCalculator_computeOctPts_l20s at hp
  refine cx_seq' fun K122 hK122 => ?_
  refine cr fun K123 hK123 => ?_
  refine s0 (rd_move' rfl) ?_
  refine s0 (rd_move' rfl) ?_
  refine s0 (rd_len' rfl Try.underlying22) ?_
  refine s0 (rd_bin' rfl rfl eg_int ru_lss) ?_
  refine nk hK123 ?_
  refine cx_cond' rfl (fun h44 => ?_) (fun h44 => ?_)
  ·replace hp := (br_t h44).symm.trans hp
   refine cx_skip' ?_
   show TX E K122 _
   refine tx_k' hK122 ?_
   refine cx_join' (fun (v55 : (List Nat)) => (⟨319, [], [(1, (Sl Kf a1)), (5, (Vi a0_1)), (6, (Vl (Vs g24))), (9, (Vi x75))], [(Rw Kf 38 (Vs g24) v55), ⟨.pointer (some wa0), [(Vi a0_0), (Vi a0_1), (Sl Kf a0_2)], 179, none⟩]⟩ : St)) (fun (v55 : (List Nat)) => xy_convexHullCalculator_computeOctPts_j16 k rec20 x75 a0_1 v55 = some y20) ?_ ?_
   ·rintro x73 hp
    replace hp : xy_convexHullCalculator_computeOctPts_j16 k rec20 x75 a0_1 x73 = some y20 := hp
    unfold xy_convexHullCalculator_computeOctPts_j16 at hp
    refine cx_region' ?_
    refine s0 (rd_move' rfl) ?_
    refine s0 (rd_move' rfl) ?_
    refine s0 (rd_bin' rfl rfl eg_int ru_add) ?_
    refine s0 (rd_assign' rfl) ?_
    refine sx_nil' ?_
    show TX E (KY20 _) _
    exact tx_pick' [0, 1] (sub_cons rfl (sub_cons rfl (sub_cons rfl (sub_cons rfl sub_nil)))) (by decide) (pick_cons rfl (pick_cons rfl pick_nil)) (ih20 (x73, (iadd .i64 x75 a0_1)) () _ hp)
   intro K124 hK124
   refine cx_block' ?_
   refine cx_join' (fun (v34 : (List Nat)) => (⟨319, [], [(1, (Sl Kf a1)), (5, (Vi a0_1)), (6, (Vl (Vs g24))), (9, (Vi x75))], [(Rw Kf 38 (Vs g24) v34), ⟨.pointer (some wa0), [(Vi a0_0), (Vi a0_1), (Sl Kf a0_2)], 179, none⟩]⟩ : St)) (fun (v34 : (List Nat)) => xy_convexHullCalculator_computeOctPts_j9 k a1 x75 a0_1 rec20 v34 = some y20) ?_ ?_
   ·rintro x45 hp
    replace hp : xy_convexHullCalculator_computeOctPts_j9 k a1 x75 a0_1 rec20 x45 = some y20 := hp
    unfold xy_convexHullCalculator_computeOctPts_j9 at hp
    refine cx_join' (fun (v37 : (List Nat)) => (⟨319, [], [(1, (Sl Kf a1)), (5, (Vi a0_1)), (6, (Vl (Vs g24))), (9, (Vi x75))], [(Rw Kf 38 (Vs g24) v37), ⟨.pointer (some wa0), [(Vi a0_0), (Vi a0_1), (Sl Kf a0_2)], 179, none⟩]⟩ : St)) (fun (v37 : (List Nat)) => xy_convexHullCalculator_computeOctPts_j10 k a1 x75 a0_1 rec20 v37 = some y20) ?_ ?_
    ·rintro x49 hp
     replace hp : xy_convexHullCalculator_computeOctPts_j10 k a1 x75 a0_1 rec20 x49 = some y20 := hp
     unfold xy_convexHullCalculator_computeOctPts_j10 at hp
     refine cx_join' (fun (v40 : (List Nat)) => (⟨319, [], [(1, (Sl Kf a1)), (5, (Vi a0_1)), (6, (Vl (Vs g24))), (9, (Vi x75))], [(Rw Kf 38 (Vs g24) v40), ⟨.pointer (some wa0), [(Vi a0_0), (Vi a0_1), (Sl Kf a0_2)], 179, none⟩]⟩ : St)) (fun (v40 : (List Nat)) => xy_convexHullCalculator_computeOctPts_j11 k a1 x75 a0_1 rec20 v40 = some y20) ?_ ?_
     ·rintro x53 hp
      replace hp : xy_convexHullCalculator_computeOctPts_j11 k a1 x75 a0_1 rec20 x53 = some y20 := hp
      unfold xy_convexHullCalculator_computeOctPts_j11 at hp
      refine cx_join' (fun (v43 : (List Nat)) => (⟨319, [], [(1, (Sl Kf a1)), (5, (Vi a0_1)), (6, (Vl (Vs g24))), (9, (Vi x75))], [(Rw Kf 38 (Vs g24) v43), ⟨.pointer (some wa0), [(Vi a0_0), (Vi a0_1), (Sl Kf a0_2)], 179, none⟩]⟩ : St)) (fun (v43 : (List Nat)) => xy_convexHullCalculator_computeOctPts_j12 k a1 x75 a0_1 rec20 v43 = some y20) ?_ ?_
      ·rintro x57 hp
       replace hp : xy_convexHullCalculator_computeOctPts_j12 k a1 x75 a0_1 rec20 x57 = some y20 := hp
       unfold xy_convexHullCalculator_computeOctPts_j12 at hp
       refine cx_join' (fun (v46 : (List Nat)) => (⟨319, [], [(1, (Sl Kf a1)), (5, (Vi a0_1)), (6, (Vl (Vs g24))), (9, (Vi x75))], [(Rw Kf 38 (Vs g24) v46), ⟨.pointer (some wa0), [(Vi a0_0), (Vi a0_1), (Sl Kf a0_2)], 179, none⟩]⟩ : St)) (fun (v46 : (List Nat)) => xy_convexHullCalculator_computeOctPts_j13 k a1 x75 a0_1 rec20 v46 = some y20) ?_ ?_
       ·rintro x61 hp
        replace hp : xy_convexHullCalculator_computeOctPts_j13 k a1 x75 a0_1 rec20 x61 = some y20 := hp
        unfold xy_convexHullCalculator_computeOctPts_j13 at hp
        refine cx_join' (fun (v49 : (List Nat)) => (⟨319, [], [(1, (Sl Kf a1)), (5, (Vi a0_1)), (6, (Vl (Vs g24))), (9, (Vi x75))], [(Rw Kf 38 (Vs g24) v49), ⟨.pointer (some wa0), [(Vi a0_0), (Vi a0_1), (Sl Kf a0_2)], 179, none⟩]⟩ : St)) (fun (v49 : (List Nat)) => xy_convexHullCalculator_computeOctPts_j14 k a1 x75 a0_1 rec20 v49 = some y20) ?_ ?_
        ·rintro x65 hp
         replace hp : xy_convexHullCalculator_computeOctPts_j14 k a1 x75 a0_1 rec20 x65 = some y20 := hp
         unfold xy_convexHullCalculator_computeOctPts_j14 at hp
         refine cx_join' (fun (v52 : (List Nat)) => (⟨319, [], [(1, (Sl Kf a1)), (5, (Vi a0_1)), (6, (Vl (Vs g24))), (9, (Vi x75))], [(Rw Kf 38 (Vs g24) v52), ⟨.pointer (some wa0), [(Vi a0_0), (Vi a0_1), (Sl Kf a0_2)], 179, none⟩]⟩ : St)) (fun (v52 : (List Nat)) => xy_convexHullCalculator_computeOctPts_j15 k a1 x75 a0_1 rec20 v52 = some y20) ?_ ?_
         ·rintro x69 hp
          replace hp : xy_convexHullCalculator_computeOctPts_j15 k a1 x75 a0_1 rec20 x69 = some y20 := hp
          unfold xy_convexHullCalculator_computeOctPts_j15 at hp
          refine cx_seq' fun K202 hK202 => ?_
          refine cx_draw' mixed (by kernel_rfl) ?_
          refine qx_rd' (rd_move' rfl) rfl rfl (wt_none' rfl) ?_
          refine qx_rd' (rd_move' rfl) rfl rfl (wt_none' rfl) ?_
          obtain ⟨r280, hr280, hp⟩ := bind_some hp
          refine qx_rd' (rd_at' (K := Kf) rfl rfl hr280 Try.underlying22 info38) rfl rfl (wt_none' rfl) ?_
          refine qx_rd' (rd_load_pt' rfl rfl flat38) rfl rfl (wt_none' rfl) ?_
          refine qx_rd' (rd_move' rfl) rfl rfl (wt_none' rfl) ?_
          refine qx_rd' (rd_move' rfl) rfl rfl (wt_none' rfl) ?_
          refine qx_rd' (rd_bin' rfl rfl eg_int ru_add) rfl rfl (wt_none' rfl) ?_
          obtain ⟨r285, hr285, hp⟩ := bind_some hp
          refine qx_rd' (rd_at' (K := Kf) rfl rfl hr285 Try.underlying22 info38) rfl rfl (wt_none' rfl) ?_
          refine qx_rd' (rd_load_pt' rfl rfl flat38) rfl rfl (wt_none' rfl) ?_
          obtain ⟨r287, hr287, hp⟩ := bind_some hp
          refine qx_rd' (rd_bin' rfl rfl eg_flt (ru_fadd hr287)) rfl rfl (wt_none' rfl) ?_
          refine qx_rd' (rd_move' rfl) rfl rfl (wt_none' rfl) ?_
          refine qx_rd' (rd_move' rfl) rfl rfl (wt_none' rfl) ?_
          refine qx_rd' (rd_bin' rfl rfl eg_int ru_mul) rfl rfl (wt_none' rfl) ?_
          obtain ⟨r291, hr291, hp⟩ := bind_some hp
          refine qx_rd' (rd_atr' (m := 0) rfl rfl rfl rfl hr291 Try.underlying22 info38) rfl rfl (wt_none' rfl) ?_
          refine qx_rd' (rd_loadr' rfl (m := 0) (i := (imul .i64 7 a0_1)) (j := 0) rfl rfl hr291 rfl rfl flat38) rfl rfl (wt_none' rfl) ?_
          refine qx_rd' (rd_move' rfl) rfl rfl (wt_none' rfl) ?_
          refine qx_rd' (rd_move' rfl) rfl rfl (wt_none' rfl) ?_
          refine qx_rd' (rd_bin' rfl rfl eg_int ru_mul) rfl rfl (wt_none' rfl) ?_
          refine qx_rd' (rd_bin' rfl rfl eg_int ru_add) rfl rfl (wt_none' rfl) ?_
          obtain ⟨r297, hr297, hp⟩ := bind_some hp
          refine qx_rd' (rd_atr' (m := 0) rfl rfl rfl rfl hr297 Try.underlying22 info38) rfl rfl (wt_none' rfl) ?_
          refine qx_rd' (rd_loadr' rfl (m := 0) (i := (iadd .i64 (imul .i64 7 a0_1) 1)) (j := 0) rfl rfl hr297 rfl rfl flat38) rfl rfl (wt_none' rfl) ?_
          obtain ⟨r299, hr299, hp⟩ := bind_some hp
          refine qx_rd' (rd_bin' rfl rfl eg_flt (ru_fadd hr299)) rfl rfl (wt_none' rfl) ?_
          refine qx_rd' (rd_bin' rfl rfl eg_flt ru_flt) rfl rfl (wt_none' rfl) ?_
          refine qx_nil' ?_
          show TX E K202 _
          refine tx_k' hK202 ?_
          refine cx_cond' rfl (fun h73 => ?_) (fun h73 => ?_)
          ·replace hp := (br_t h73).symm.trans hp
           refine cr fun K203 hK203 => ?_
           refine s0 (rd_move' rfl) ?_
           refine s0 (rd_move' rfl) ?_
           refine nk hK203 ?_
           refine cx_block' ?_
           obtain ⟨v54, hy19, hp⟩ := bind_some hp
           refine cx_loopg' (F := xy_convexHullCalculator_computeOctPts_l19 a0_1 a1 x75) (G := fun k R v => xy_convexHullCalculator_computeOctPts_l19s a0_1 a1 x75 k R v.1 v.2) (x := (x69, 0)) (gh := ()) (fun (v53 : (List Nat) × Int) (w53 : Unit) => (⟨319, [], [(1, (Sl Kf a1)), (5, (Vi a0_1)), (6, (Vl (Vs g24))), (9, (Vi x75)), (301, (Vi a0_1)), (302, (Vi v53.2))], [(Rw Kf 38 (Vs g24) v53.1), ⟨.pointer (some wa0), [(Vi a0_0), (Vi a0_1), (Sl Kf a0_2)], 179, none⟩]⟩ : St)) (fun (v54 : (List Nat)) => Zg E (Exit.exit 20) (fun (w54 : Unit) => (⟨319, [], [(1, (Sl Kf a1)), (5, (Vi a0_1)), (6, (Vl (Vs g24))), (9, (Vi x75))], [(Rw Kf 38 (Vs g24) v54), ⟨.pointer (some wa0), [(Vi a0_0), (Vi a0_1), (Sl Kf a0_2)], 179, none⟩]⟩ : St))) (fun _ => rfl) (fun _ _ => rfl) ?_ hy19 (tx_to' rfl [0, 1] (sub_cons rfl (sub_cons rfl (sub_cons rfl (sub_cons rfl (sub_cons rfl (sub_cons rfl sub_nil)))))) (by decide) (pick_cons rfl (pick_cons rfl pick_nil))) ?_
           ·clear hp hy19
            clear v54
            intro k rec19 KY19 ih19
            rintro ⟨x70, x71⟩ ⟨⟩ y19 hp
            replace hp : xy_convexHullCalculator_computeOctPts_l19s a0_1 a1 x75 k rec19 x70 x71 = some y19 := hp
            unfold xy_convexHullCalculator_computeOctPts_l19s at hp
            refine cr fun K208 hK208 => ?_
            refine s0 (rd_bin' rfl rfl eg_int ru_lss) ?_
            refine nk hK208 ?_
            refine cx_seq' fun K209 hK209 => ?_
            refine cx_cond' rfl (fun h76 => ?_) (fun h76 => ?_)
            ·replace hp := (br_t h76).symm.trans hp
             refine cx_skip' ?_
             show TX E K209 _
             refine tx_k' hK209 ?_
             refine cx_seq' fun K210 hK210 => ?_
             refine cx_block' ?_
             refine cr fun K211 hK211 => ?_
             refine s0 (rd_move' rfl) ?_
             refine s0 (rd_assign' rfl) ?_
             refine nk hK211 ?_
             refine cx_region' ?_
             refine s0 (rd_move' rfl) ?_
             refine s0 (rd_move' rfl) ?_
             refine s0 (rd_bin' rfl rfl eg_int ru_mul) ?_
             refine s0 (rd_move' rfl) ?_
             refine s0 (rd_bin' rfl rfl eg_int ru_add) ?_
             refine s0 (rd_move' rfl) ?_
             refine s0 (rd_move' rfl) ?_
             refine s0 (rd_move' rfl) ?_
             refine s0 (rd_bin' rfl rfl eg_int ru_add) ?_
             obtain ⟨r314, hr314, hp⟩ := bind_some hp
             refine s0 (rd_at' (K := Kf) rfl rfl hr314 Try.underlying22 info38) ?_
             refine s0 (rd_load_pt' rfl rfl flat38) ?_
             obtain ⟨r316, hr316, hp⟩ := bind_some hp
             refine s0 (rd_atr' (m := 0) rfl rfl rfl rfl hr316 Try.underlying22 info38) ?_
             refine sx_ox' (ox_storer' (m := 0) (i := (iadd .i64 (imul .i64 7 a0_1) x71)) (j := 0) (x' := r314) rfl rfl (lv_vl rfl rfl) rfl rfl hr316 rfl rfl rfl info38 rfl (H' := [(Rw Kf 38 (Vs g24) (x70.set (iadd .i64 (imul .i64 7 a0_1) x71).toNat r314)), ⟨.pointer (some wa0), [(Vi a0_0), (Vi a0_1), (Sl Kf a0_2)], 179, none⟩]) rfl) (wt_none' rfl) fun _ => ?_
             refine nk hK210 ?_
             refine cx_region' ?_
             refine s0 (rd_bin' rfl rfl eg_int ru_add) ?_
             refine s0 (rd_move' rfl) ?_
             refine sx_nil' ?_
             show TX E (KY19 _) _
             exact tx_pick' [0, 1] (sub_cons rfl (sub_cons rfl (sub_cons rfl (sub_cons rfl (sub_cons rfl (sub_cons rfl sub_nil)))))) (by decide) (pick_cons rfl (pick_cons rfl pick_nil)) (ih19 ((x70.set (iadd .i64 (imul .i64 7 a0_1) x71).toNat r314), (iadd .i64 x71 1)) () _ hp)
            replace hp := (br_f h76).symm.trans hp
            refine cx_exit' ?_
            replace hp := Option.some.inj hp
            subst hp
            show TX E (Zg E (Exit.exit 20) _ (Exit.exit 20)) _
            exact tx_zend' () rfl [0, 1] (sub_cons rfl (sub_cons rfl (sub_cons rfl (sub_cons rfl sub_nil)))) (by decide) (pick_cons rfl (pick_cons rfl pick_nil))
           refine zg_out fun w54 => ?_
           show TX E K124 _
           exact tx_pick' [0, 1] (sub_cons rfl (sub_cons rfl (sub_cons rfl (sub_cons rfl sub_nil)))) (by decide) (pick_cons rfl (pick_cons rfl pick_nil)) (hK124 v54 hp)
          replace hp := (br_f h73).symm.trans hp
          refine cx_skip' ?_
          show TX E K124 _
          exact tx_pick' [0, 1] (sub_cons rfl (sub_cons rfl (sub_cons rfl (sub_cons rfl sub_nil)))) (by decide) (pick_cons rfl (pick_cons rfl pick_nil)) (hK124 x69 hp)
         intro K191 hK191
         refine cx_seq' fun K192 hK192 => ?_
         refine cx_draw' mixed (by kernel_rfl) ?_
         refine qx_rd' (rd_move' rfl) rfl rfl (wt_none' rfl) ?_
         refine qx_rd' (rd_move' rfl) rfl rfl (wt_none' rfl) ?_
         refine qx_rd' (rd_bin' rfl rfl eg_int ru_add) rfl rfl (wt_none' rfl) ?_
         obtain ⟨r252, hr252, hp⟩ := bind_some hp
         refine qx_rd' (rd_at' (K := Kf) rfl rfl hr252 Try.underlying22 info38) rfl rfl (wt_none' rfl) ?_
         refine qx_rd' (rd_load_pt' rfl rfl flat38) rfl rfl (wt_none' rfl) ?_
         refine qx_rd' (rd_move' rfl) rfl rfl (wt_none' rfl) ?_
         refine qx_rd' (rd_move' rfl) rfl rfl (wt_none' rfl) ?_
         refine qx_rd' (rd_bin' rfl rfl eg_int ru_mul) rfl rfl (wt_none' rfl) ?_
         refine qx_rd' (rd_bin' rfl rfl eg_int ru_add) rfl rfl (wt_none' rfl) ?_
         obtain ⟨r258, hr258, hp⟩ := bind_some hp
         refine qx_rd' (rd_atr' (m := 0) rfl rfl rfl rfl hr258 Try.underlying22 info38) rfl rfl (wt_none' rfl) ?_
         refine qx_rd' (rd_loadr' rfl (m := 0) (i := (iadd .i64 (imul .i64 6 a0_1) 1)) (j := 0) rfl rfl hr258 rfl rfl flat38) rfl rfl (wt_none' rfl) ?_
         refine qx_rd' (rd_bin' rfl rfl eg_flt ru_flt) rfl rfl (wt_none' rfl) ?_
         refine qx_nil' ?_
         show TX E K192 _
         refine tx_k' hK192 ?_
         refine cx_cond' rfl (fun h69 => ?_) (fun h69 => ?_)
         ·replace hp := (br_t h69).symm.trans hp
          refine cr fun K193 hK193 => ?_
          refine s0 (rd_move' rfl) ?_
          refine s0 (rd_move' rfl) ?_
          refine nk hK193 ?_
          refine cx_block' ?_
          obtain ⟨v51, hy18, hp⟩ := bind_some hp
          refine cx_loopg' (F := xy_convexHullCalculator_computeOctPts_l18 a0_1 a1 x75) (G := fun k R v => xy_convexHullCalculator_computeOctPts_l18s a0_1 a1 x75 k R v.1 v.2) (x := (x65, 0)) (gh := ()) (fun (v50 : (List Nat) × Int) (w50 : Unit) => (⟨319, [], [(1, (Sl Kf a1)), (5, (Vi a0_1)), (6, (Vl (Vs g24))), (9, (Vi x75)), (261, (Vi a0_1)), (262, (Vi v50.2))], [(Rw Kf 38 (Vs g24) v50.1), ⟨.pointer (some wa0), [(Vi a0_0), (Vi a0_1), (Sl Kf a0_2)], 179, none⟩]⟩ : St)) (fun (v51 : (List Nat)) => Zg E (Exit.exit 18) (fun (w51 : Unit) => (⟨319, [], [(1, (Sl Kf a1)), (5, (Vi a0_1)), (6, (Vl (Vs g24))), (9, (Vi x75))], [(Rw Kf 38 (Vs g24) v51), ⟨.pointer (some wa0), [(Vi a0_0), (Vi a0_1), (Sl Kf a0_2)], 179, none⟩]⟩ : St))) (fun _ => rfl) (fun _ _ => rfl) ?_ hy18 (tx_to' rfl [0, 1] (sub_cons rfl (sub_cons rfl (sub_cons rfl (sub_cons rfl (sub_cons rfl (sub_cons rfl sub_nil)))))) (by decide) (pick_cons rfl (pick_cons rfl pick_nil))) ?_
          ·clear hp hy18
           clear v51
           intro k rec18 KY18 ih18
           rintro ⟨x66, x67⟩ ⟨⟩ y18 hp
           replace hp : xy_convexHullCalculator_computeOctPts_l18s a0_1 a1 x75 k rec18 x66 x67 = some y18 := hp
           unfold xy_convexHullCalculator_computeOctPts_l18s at hp
           refine cr fun K198 hK198 => ?_
           refine s0 (rd_bin' rfl rfl eg_int ru_lss) ?_
           refine nk hK198 ?_
           refine cx_seq' fun K199 hK199 => ?_
           refine cx_cond' rfl (fun h72 => ?_) (fun h72 => ?_)
           ·replace hp := (br_t h72).symm.trans hp
            refine cx_skip' ?_
            show TX E K199 _
            refine tx_k' hK199 ?_
            refine cx_seq' fun K200 hK200 => ?_
            refine cx_block' ?_
            refine cr fun K201 hK201 => ?_
            refine s0 (rd_move' rfl) ?_
            refine s0 (rd_assign' rfl) ?_
            refine nk hK201 ?_
            refine cx_region' ?_
            refine s0 (rd_move' rfl) ?_
            refine s0 (rd_move' rfl) ?_
            refine s0 (rd_bin' rfl rfl eg_int ru_mul) ?_
            refine s0 (rd_move' rfl) ?_
            refine s0 (rd_bin' rfl rfl eg_int ru_add) ?_
            refine s0 (rd_move' rfl) ?_
            refine s0 (rd_move' rfl) ?_
            refine s0 (rd_move' rfl) ?_
            refine s0 (rd_bin' rfl rfl eg_int ru_add) ?_
            obtain ⟨r274, hr274, hp⟩ := bind_some hp
            refine s0 (rd_at' (K := Kf) rfl rfl hr274 Try.underlying22 info38) ?_
            refine s0 (rd_load_pt' rfl rfl flat38) ?_
            obtain ⟨r276, hr276, hp⟩ := bind_some hp
            refine s0 (rd_atr' (m := 0) rfl rfl rfl rfl hr276 Try.underlying22 info38) ?_
            refine sx_ox' (ox_storer' (m := 0) (i := (iadd .i64 (imul .i64 6 a0_1) x67)) (j := 0) (x' := r274) rfl rfl (lv_vl rfl rfl) rfl rfl hr276 rfl rfl rfl info38 rfl (H' := [(Rw Kf 38 (Vs g24) (x66.set (iadd .i64 (imul .i64 6 a0_1) x67).toNat r274)), ⟨.pointer (some wa0), [(Vi a0_0), (Vi a0_1), (Sl Kf a0_2)], 179, none⟩]) rfl) (wt_none' rfl) fun _ => ?_
            refine nk hK200 ?_
            refine cx_region' ?_
            refine s0 (rd_bin' rfl rfl eg_int ru_add) ?_
            refine s0 (rd_move' rfl) ?_
            refine sx_nil' ?_
            show TX E (KY18 _) _
            exact tx_pick' [0, 1] (sub_cons rfl (sub_cons rfl (sub_cons rfl (sub_cons rfl (sub_cons rfl (sub_cons rfl sub_nil)))))) (by decide) (pick_cons rfl (pick_cons rfl pick_nil)) (ih18 ((x66.set (iadd .i64 (imul .i64 6 a0_1) x67).toNat r274), (iadd .i64 x67 1)) () _ hp)
           replace hp := (br_f h72).symm.trans hp
           refine cx_exit' ?_
           replace hp := Option.some.inj hp
           subst hp
           show TX E (Zg E (Exit.exit 18) _ (Exit.exit 18)) _
           exact tx_zend' () rfl [0, 1] (sub_cons rfl (sub_cons rfl (sub_cons rfl (sub_cons rfl sub_nil)))) (by decide) (pick_cons rfl (pick_cons rfl pick_nil))
          refine zg_out fun w51 => ?_
          show TX E K191 _
          exact tx_pick' [0, 1] (sub_cons rfl (sub_cons rfl (sub_cons rfl (sub_cons rfl sub_nil)))) (by decide) (pick_cons rfl (pick_cons rfl pick_nil)) (hK191 v51 hp)
         replace hp := (br_f h69).symm.trans hp
         refine cx_skip' ?_
         show TX E K191 _
         exact tx_pick' [0, 1] (sub_cons rfl (sub_cons rfl (sub_cons rfl (sub_cons rfl sub_nil)))) (by decide) (pick_cons rfl (pick_cons rfl pick_nil)) (hK191 x65 hp)
        intro K180 hK180
        refine cx_seq' fun K181 hK181 => ?_
        refine cx_draw' mixed (by kernel_rfl) ?_
        refine qx_rd' (rd_move' rfl) rfl rfl (wt_none' rfl) ?_
        refine qx_rd' (rd_move' rfl) rfl rfl (wt_none' rfl) ?_
        obtain ⟨r211, hr211, hp⟩ := bind_some hp
        refine qx_rd' (rd_at' (K := Kf) rfl rfl hr211 Try.underlying22 info38) rfl rfl (wt_none' rfl) ?_
        refine qx_rd' (rd_load_pt' rfl rfl flat38) rfl rfl (wt_none' rfl) ?_
        refine qx_rd' (rd_move' rfl) rfl rfl (wt_none' rfl) ?_
        refine qx_rd' (rd_move' rfl) rfl rfl (wt_none' rfl) ?_
        refine qx_rd' (rd_bin' rfl rfl eg_int ru_add) rfl rfl (wt_none' rfl) ?_
        obtain ⟨r216, hr216, hp⟩ := bind_some hp
        refine qx_rd' (rd_at' (K := Kf) rfl rfl hr216 Try.underlying22 info38) rfl rfl (wt_none' rfl) ?_
        refine qx_rd' (rd_load_pt' rfl rfl flat38) rfl rfl (wt_none' rfl) ?_
        obtain ⟨r218, hr218, hp⟩ := bind_some hp
        refine qx_rd' (rd_bin' rfl rfl eg_flt (ru_fsub hr218)) rfl rfl (wt_none' rfl) ?_
        refine qx_rd' (rd_move' rfl) rfl rfl (wt_none' rfl) ?_
        refine qx_rd' (rd_move' rfl) rfl rfl (wt_none' rfl) ?_
        refine qx_rd' (rd_bin' rfl rfl eg_int ru_mul) rfl rfl (wt_none' rfl) ?_
        obtain ⟨r222, hr222, hp⟩ := bind_some hp
        refine qx_rd' (rd_atr' (m := 0) rfl rfl rfl rfl hr222 Try.underlying22 info38) rfl rfl (wt_none' rfl) ?_
        refine qx_rd' (rd_loadr' rfl (m := 0) (i := (imul .i64 5 a0_1)) (j := 0) rfl rfl hr222 rfl rfl flat38) rfl rfl (wt_none' rfl) ?_
        refine qx_rd' (rd_move' rfl) rfl rfl (wt_none' rfl) ?_
        refine qx_rd' (rd_move' rfl) rfl rfl (wt_none' rfl) ?_
        refine qx_rd' (rd_bin' rfl rfl eg_int ru_mul) rfl rfl (wt_none' rfl) ?_
        refine qx_rd' (rd_bin' rfl rfl eg_int ru_add) rfl rfl (wt_none' rfl) ?_
        obtain ⟨r228, hr228, hp⟩ := bind_some hp
        refine qx_rd' (rd_atr' (m := 0) rfl rfl rfl rfl hr228 Try.underlying22 info38) rfl rfl (wt_none' rfl) ?_
        refine qx_rd' (rd_loadr' rfl (m := 0) (i := (iadd .i64 (imul .i64 5 a0_1) 1)) (j := 0) rfl rfl hr228 rfl rfl flat38) rfl rfl (wt_none' rfl) ?_
        obtain ⟨r230, hr230, hp⟩ := bind_some hp
        refine qx_rd' (rd_bin' rfl rfl eg_flt (ru_fsub hr230)) rfl rfl (wt_none' rfl) ?_
        refine qx_rd' (rd_bin' rfl rfl eg_flt ru_fgt) rfl rfl (wt_none' rfl) ?_
        refine qx_nil' ?_
        show TX E K181 _
        refine tx_k' hK181 ?_
        refine cx_cond' rfl (fun h65 => ?_) (fun h65 => ?_)
        ·replace hp := (br_t h65).symm.trans hp
         refine cr fun K182 hK182 => ?_
         refine s0 (rd_move' rfl) ?_
         refine s0 (rd_move' rfl) ?_
         refine nk hK182 ?_
         refine cx_block' ?_
         obtain ⟨v48, hy17, hp⟩ := bind_some hp
         refine cx_loopg' (F := xy_convexHullCalculator_computeOctPts_l17 a0_1 a1 x75) (G := fun k R v => xy_convexHullCalculator_computeOctPts_l17s a0_1 a1 x75 k R v.1 v.2) (x := (x61, 0)) (gh := ()) (fun (v47 : (List Nat) × Int) (w47 : Unit) => (⟨319, [], [(1, (Sl Kf a1)), (5, (Vi a0_1)), (6, (Vl (Vs g24))), (9, (Vi x75)), (232, (Vi a0_1)), (233, (Vi v47.2))], [(Rw Kf 38 (Vs g24) v47.1), ⟨.pointer (some wa0), [(Vi a0_0), (Vi a0_1), (Sl Kf a0_2)], 179, none⟩]⟩ : St)) (fun (v48 : (List Nat)) => Zg E (Exit.exit 16) (fun (w48 : Unit) => (⟨319, [], [(1, (Sl Kf a1)), (5, (Vi a0_1)), (6, (Vl (Vs g24))), (9, (Vi x75))], [(Rw Kf 38 (Vs g24) v48), ⟨.pointer (some wa0), [(Vi a0_0), (Vi a0_1), (Sl Kf a0_2)], 179, none⟩]⟩ : St))) (fun _ => rfl) (fun _ _ => rfl) ?_ hy17 (tx_to' rfl [0, 1] (sub_cons rfl (sub_cons rfl (sub_cons rfl (sub_cons rfl (sub_cons rfl (sub_cons rfl sub_nil)))))) (by decide) (pick_cons rfl (pick_cons rfl pick_nil))) ?_
         ·clear hp hy17
          clear v48
          intro k rec17 KY17 ih17
          rintro ⟨x62, x63⟩ ⟨⟩ y17 hp
          replace hp : xy_convexHullCalculator_computeOctPts_l17s a0_1 a1 x75 k rec17 x62 x63 = some y17 := hp
          unfold xy_convexHullCalculator_computeOctPts_l17s at hp
          refine cr fun K187 hK187 => ?_
          refine s0 (rd_bin' rfl rfl eg_int ru_lss) ?_
          refine nk hK187 ?_
          refine cx_seq' fun K188 hK188 => ?_
          refine cx_cond' rfl (fun h68 => ?_) (fun h68 => ?_)
          ·replace hp := (br_t h68).symm.trans hp
           refine cx_skip' ?_
           show TX E K188 _
           refine tx_k' hK188 ?_
           refine cx_seq' fun K189 hK189 => ?_
           refine cx_block' ?_
           refine cr fun K190 hK190 => ?_
           refine s0 (rd_move' rfl) ?_
           refine s0 (rd_assign' rfl) ?_
           refine nk hK190 ?_
           refine cx_region' ?_
           refine s0 (rd_move' rfl) ?_
           refine s0 (rd_move' rfl) ?_
           refine s0 (rd_bin' rfl rfl eg_int ru_mul) ?_
           refine s0 (rd_move' rfl) ?_
           refine s0 (rd_bin' rfl rfl eg_int ru_add) ?_
           refine s0 (rd_move' rfl) ?_
           refine s0 (rd_move' rfl) ?_
           refine s0 (rd_move' rfl) ?_
           refine s0 (rd_bin' rfl rfl eg_int ru_add) ?_
           obtain ⟨r245, hr245, hp⟩ := bind_some hp
           refine s0 (rd_at' (K := Kf) rfl rfl hr245 Try.underlying22 info38) ?_
           refine s0 (rd_load_pt' rfl rfl flat38) ?_
           obtain ⟨r247, hr247, hp⟩ := bind_some hp
           refine s0 (rd_atr' (m := 0) rfl rfl rfl rfl hr247 Try.underlying22 info38) ?_
           refine sx_ox' (ox_storer' (m := 0) (i := (iadd .i64 (imul .i64 5 a0_1) x63)) (j := 0) (x' := r245) rfl rfl (lv_vl rfl rfl) rfl rfl hr247 rfl rfl rfl info38 rfl (H' := [(Rw Kf 38 (Vs g24) (x62.set (iadd .i64 (imul .i64 5 a0_1) x63).toNat r245)), ⟨.pointer (some wa0), [(Vi a0_0), (Vi a0_1), (Sl Kf a0_2)], 179, none⟩]) rfl) (wt_none' rfl) fun _ => ?_
           refine nk hK189 ?_
           refine cx_region' ?_
           refine s0 (rd_bin' rfl rfl eg_int ru_add) ?_
           refine s0 (rd_move' rfl) ?_
           refine sx_nil' ?_
           show TX E (KY17 _) _
           exact tx_pick' [0, 1] (sub_cons rfl (sub_cons rfl (sub_cons rfl (sub_cons rfl (sub_cons rfl (sub_cons rfl sub_nil)))))) (by decide) (pick_cons rfl (pick_cons rfl pick_nil)) (ih17 ((x62.set (iadd .i64 (imul .i64 5 a0_1) x63).toNat r245), (iadd .i64 x63 1)) () _ hp)
          replace hp := (br_f h68).symm.trans hp
          refine cx_exit' ?_
          replace hp := Option.some.inj hp
          subst hp
          show TX E (Zg E (Exit.exit 16) _ (Exit.exit 16)) _
          exact tx_zend' () rfl [0, 1] (sub_cons rfl (sub_cons rfl (sub_cons rfl (sub_cons rfl sub_nil)))) (by decide) (pick_cons rfl (pick_cons rfl pick_nil))
         refine zg_out fun w48 => ?_
         show TX E K180 _
         exact tx_pick' [0, 1] (sub_cons rfl (sub_cons rfl (sub_cons rfl (sub_cons rfl sub_nil)))) (by decide) (pick_cons rfl (pick_cons rfl pick_nil)) (hK180 v48 hp)
        replace hp := (br_f h65).symm.trans hp
        refine cx_skip' ?_
        show TX E K180 _
        exact tx_pick' [0, 1] (sub_cons rfl (sub_cons rfl (sub_cons rfl (sub_cons rfl sub_nil)))) (by decide) (pick_cons rfl (pick_cons rfl pick_nil)) (hK180 x61 hp)
       intro K169 hK169
       refine cx_seq' fun K170 hK170 => ?_
       refine cx_draw' mixed (by kernel_rfl) ?_
       refine qx_rd' (rd_move' rfl) rfl rfl (wt_none' rfl) ?_
       refine qx_rd' (rd_move' rfl) rfl rfl (wt_none' rfl) ?_
       obtain ⟨r184, hr184, hp⟩ := bind_some hp
       refine qx_rd' (rd_at' (K := Kf) rfl rfl hr184 Try.underlying22 info38) rfl rfl (wt_none' rfl) ?_
       refine qx_rd' (rd_load_pt' rfl rfl flat38) rfl rfl (wt_none' rfl) ?_
       refine qx_rd' (rd_move' rfl) rfl rfl (wt_none' rfl) ?_
       refine qx_rd' (rd_move' rfl) rfl rfl (wt_none' rfl) ?_
       refine qx_rd' (rd_bin' rfl rfl eg_int ru_mul) rfl rfl (wt_none' rfl) ?_
       obtain ⟨r189, hr189, hp⟩ := bind_some hp
       refine qx_rd' (rd_atr' (m := 0) rfl rfl rfl rfl hr189 Try.underlying22 info38) rfl rfl (wt_none' rfl) ?_
       refine qx_rd' (rd_loadr' rfl (m := 0) (i := (imul .i64 4 a0_1)) (j := 0) rfl rfl hr189 rfl rfl flat38) rfl rfl (wt_none' rfl) ?_
       refine qx_rd' (rd_bin' rfl rfl eg_flt ru_fgt) rfl rfl (wt_none' rfl) ?_
       refine qx_nil' ?_
       show TX E K170 _
       refine tx_k' hK170 ?_
       refine cx_cond' rfl (fun h61 => ?_) (fun h61 => ?_)
       ·replace hp := (br_t h61).symm.trans hp
        refine cr fun K171 hK171 => ?_
        refine s0 (rd_move' rfl) ?_
        refine s0 (rd_move' rfl) ?_
        refine nk hK171 ?_
        refine cx_block' ?_
        obtain ⟨v45, hy16, hp⟩ := bind_some hp
        refine cx_loopg' (F := xy_convexHullCalculator_computeOctPts_l16 a0_1 a1 x75) (G := fun k R v => xy_convexHullCalculator_computeOctPts_l16s a0_1 a1 x75 k R v.1 v.2) (x := (x57, 0)) (gh := ()) (fun (v44 : (List Nat) × Int) (w44 : Unit) => (⟨319, [], [(1, (Sl Kf a1)), (5, (Vi a0_1)), (6, (Vl (Vs g24))), (9, (Vi x75)), (192, (Vi a0_1)), (193, (Vi v44.2))], [(Rw Kf 38 (Vs g24) v44.1), ⟨.pointer (some wa0), [(Vi a0_0), (Vi a0_1), (Sl Kf a0_2)], 179, none⟩]⟩ : St)) (fun (v45 : (List Nat)) => Zg E (Exit.exit 14) (fun (w45 : Unit) => (⟨319, [], [(1, (Sl Kf a1)), (5, (Vi a0_1)), (6, (Vl (Vs g24))), (9, (Vi x75))], [(Rw Kf 38 (Vs g24) v45), ⟨.pointer (some wa0), [(Vi a0_0), (Vi a0_1), (Sl Kf a0_2)], 179, none⟩]⟩ : St))) (fun _ => rfl) (fun _ _ => rfl) ?_ hy16 (tx_to' rfl [0, 1] (sub_cons rfl (sub_cons rfl (sub_cons rfl (sub_cons rfl (sub_cons rfl (sub_cons rfl sub_nil)))))) (by decide) (pick_cons rfl (pick_cons rfl pick_nil))) ?_
        ·clear hp hy16
         clear v45
         intro k rec16 KY16 ih16
         rintro ⟨x58, x59⟩ ⟨⟩ y16 hp
         replace hp : xy_convexHullCalculator_computeOctPts_l16s a0_1 a1 x75 k rec16 x58 x59 = some y16 := hp
         unfold xy_convexHullCalculator_computeOctPts_l16s at hp
         refine cr fun K176 hK176 => ?_
         refine s0 (rd_bin' rfl rfl eg_int ru_lss) ?_
         refine nk hK176 ?_
         refine cx_seq' fun K177 hK177 => ?_
         refine cx_cond' rfl (fun h64 => ?_) (fun h64 => ?_)
         ·replace hp := (br_t h64).symm.trans hp
          refine cx_skip' ?_
          show TX E K177 _
          refine tx_k' hK177 ?_
          refine cx_seq' fun K178 hK178 => ?_
          refine cx_block' ?_
          refine cr fun K179 hK179 => ?_
          refine s0 (rd_move' rfl) ?_
          refine s0 (rd_assign' rfl) ?_
          refine nk hK179 ?_
          refine cx_region' ?_
          refine s0 (rd_move' rfl) ?_
          refine s0 (rd_move' rfl) ?_
          refine s0 (rd_bin' rfl rfl eg_int ru_mul) ?_
          refine s0 (rd_move' rfl) ?_
          refine s0 (rd_bin' rfl rfl eg_int ru_add) ?_
          refine s0 (rd_move' rfl) ?_
          refine s0 (rd_move' rfl) ?_
          refine s0 (rd_move' rfl) ?_
          refine s0 (rd_bin' rfl rfl eg_int ru_add) ?_
          obtain ⟨r205, hr205, hp⟩ := bind_some hp
          refine s0 (rd_at' (K := Kf) rfl rfl hr205 Try.underlying22 info38) ?_
          refine s0 (rd_load_pt' rfl rfl flat38) ?_
          obtain ⟨r207, hr207, hp⟩ := bind_some hp
          refine s0 (rd_atr' (m := 0) rfl rfl rfl rfl hr207 Try.underlying22 info38) ?_
          refine sx_ox' (ox_storer' (m := 0) (i := (iadd .i64 (imul .i64 4 a0_1) x59)) (j := 0) (x' := r205) rfl rfl (lv_vl rfl rfl) rfl rfl hr207 rfl rfl rfl info38 rfl (H' := [(Rw Kf 38 (Vs g24) (x58.set (iadd .i64 (imul .i64 4 a0_1) x59).toNat r205)), ⟨.pointer (some wa0), [(Vi a0_0), (Vi a0_1), (Sl Kf a0_2)], 179, none⟩]) rfl) (wt_none' rfl) fun _ => ?_
          refine nk hK178 ?_
          refine cx_region' ?_
          refine s0 (rd_bin' rfl rfl eg_int ru_add) ?_
          refine s0 (rd_move' rfl) ?_
          refine sx_nil' ?_
          show TX E (KY16 _) _
          exact tx_pick' [0, 1] (sub_cons rfl (sub_cons rfl (sub_cons rfl (sub_cons rfl (sub_cons rfl (sub_cons rfl sub_nil)))))) (by decide) (pick_cons rfl (pick_cons rfl pick_nil)) (ih16 ((x58.set (iadd .i64 (imul .i64 4 a0_1) x59).toNat r205), (iadd .i64 x59 1)) () _ hp)
         replace hp := (br_f h64).symm.trans hp
         refine cx_exit' ?_
         replace hp := Option.some.inj hp
         subst hp
         show TX E (Zg E (Exit.exit 14) _ (Exit.exit 14)) _
         exact tx_zend' () rfl [0, 1] (sub_cons rfl (sub_cons rfl (sub_cons rfl (sub_cons rfl sub_nil)))) (by decide) (pick_cons rfl (pick_cons rfl pick_nil))
        refine zg_out fun w45 => ?_
        show TX E K169 _
        exact tx_pick' [0, 1] (sub_cons rfl (sub_cons rfl (sub_cons rfl (sub_cons rfl sub_nil)))) (by decide) (pick_cons rfl (pick_cons rfl pick_nil)) (hK169 v45 hp)
       replace hp := (br_f h61).symm.trans hp
       refine cx_skip' ?_
       show TX E K169 _
       exact tx_pick' [0, 1] (sub_cons rfl (sub_cons rfl (sub_cons rfl (sub_cons rfl sub_nil)))) (by decide) (pick_cons rfl (pick_cons rfl pick_nil)) (hK169 x57 hp)
      intro K158 hK158
      refine cx_seq' fun K159 hK159 => ?_
      refine cx_draw' mixed (by kernel_rfl) ?_
      refine qx_rd' (rd_move' rfl) rfl rfl (wt_none' rfl) ?_
      refine qx_rd' (rd_move' rfl) rfl rfl (wt_none' rfl) ?_
      obtain ⟨r144, hr144, hp⟩ := bind_some hp
      refine qx_rd' (rd_at' (K := Kf) rfl rfl hr144 Try.underlying22 info38) rfl rfl (wt_none' rfl) ?_
      refine qx_rd' (rd_load_pt' rfl rfl flat38) rfl rfl (wt_none' rfl) ?_
      refine qx_rd' (rd_move' rfl) rfl rfl (wt_none' rfl) ?_
      refine qx_rd' (rd_move' rfl) rfl rfl (wt_none' rfl) ?_
      refine qx_rd' (rd_bin' rfl rfl eg_int ru_add) rfl rfl (wt_none' rfl) ?_
      obtain ⟨r149, hr149, hp⟩ := bind_some hp
      refine qx_rd' (rd_at' (K := Kf) rfl rfl hr149 Try.underlying22 info38) rfl rfl (wt_none' rfl) ?_
      refine qx_rd' (rd_load_pt' rfl rfl flat38) rfl rfl (wt_none' rfl) ?_
      obtain ⟨r151, hr151, hp⟩ := bind_some hp
      refine qx_rd' (rd_bin' rfl rfl eg_flt (ru_fadd hr151)) rfl rfl (wt_none' rfl) ?_
      refine qx_rd' (rd_move' rfl) rfl rfl (wt_none' rfl) ?_
      refine qx_rd' (rd_move' rfl) rfl rfl (wt_none' rfl) ?_
      refine qx_rd' (rd_bin' rfl rfl eg_int ru_mul) rfl rfl (wt_none' rfl) ?_
      obtain ⟨r155, hr155, hp⟩ := bind_some hp
      refine qx_rd' (rd_atr' (m := 0) rfl rfl rfl rfl hr155 Try.underlying22 info38) rfl rfl (wt_none' rfl) ?_
      refine qx_rd' (rd_loadr' rfl (m := 0) (i := (imul .i64 3 a0_1)) (j := 0) rfl rfl hr155 rfl rfl flat38) rfl rfl (wt_none' rfl) ?_
      refine qx_rd' (rd_move' rfl) rfl rfl (wt_none' rfl) ?_
      refine qx_rd' (rd_move' rfl) rfl rfl (wt_none' rfl) ?_
      refine qx_rd' (rd_bin' rfl rfl eg_int ru_mul) rfl rfl (wt_none' rfl) ?_
      refine qx_rd' (rd_bin' rfl rfl eg_int ru_add) rfl rfl (wt_none' rfl) ?_
      obtain ⟨r161, hr161, hp⟩ := bind_some hp
      refine qx_rd' (rd_atr' (m := 0) rfl rfl rfl rfl hr161 Try.underlying22 info38) rfl rfl (wt_none' rfl) ?_
      refine qx_rd' (rd_loadr' rfl (m := 0) (i := (iadd .i64 (imul .i64 3 a0_1) 1)) (j := 0) rfl rfl hr161 rfl rfl flat38) rfl rfl (wt_none' rfl) ?_
      obtain ⟨r163, hr163, hp⟩ := bind_some hp
      refine qx_rd' (rd_bin' rfl rfl eg_flt (ru_fadd hr163)) rfl rfl (wt_none' rfl) ?_
      refine qx_rd' (rd_bin' rfl rfl eg_flt ru_fgt) rfl rfl (wt_none' rfl) ?_
      refine qx_nil' ?_
      show TX E K159 _
      refine tx_k' hK159 ?_
      refine cx_cond' rfl (fun h57 => ?_) (fun h57 => ?_)
      ·replace hp := (br_t h57).symm.trans hp
       refine cr fun K160 hK160 => ?_
       refine s0 (rd_move' rfl) ?_
       refine s0 (rd_move' rfl) ?_
       refine nk hK160 ?_
       refine cx_block' ?_
       obtain ⟨v42, hy15, hp⟩ := bind_some hp
       refine cx_loopg' (F := xy_convexHullCalculator_computeOctPts_l15 a0_1 a1 x75) (G := fun k R v => xy_convexHullCalculator_computeOctPts_l15s a0_1 a1 x75 k R v.1 v.2) (x := (x53, 0)) (gh := ()) (fun (v41 : (List Nat) × Int) (w41 : Unit) => (⟨319, [], [(1, (Sl Kf a1)), (5, (Vi a0_1)), (6, (Vl (Vs g24))), (9, (Vi x75)), (165, (Vi a0_1)), (166, (Vi v41.2))], [(Rw Kf 38 (Vs g24) v41.1), ⟨.pointer (some wa0), [(Vi a0_0), (Vi a0_1), (Sl Kf a0_2)], 179, none⟩]⟩ : St)) (fun (v42 : (List Nat)) => Zg E (Exit.exit 12) (fun (w42 : Unit) => (⟨319, [], [(1, (Sl Kf a1)), (5, (Vi a0_1)), (6, (Vl (Vs g24))), (9, (Vi x75))], [(Rw Kf 38 (Vs g24) v42), ⟨.pointer (some wa0), [(Vi a0_0), (Vi a0_1), (Sl Kf a0_2)], 179, none⟩]⟩ : St))) (fun _ => rfl) (fun _ _ => rfl) ?_ hy15 (tx_to' rfl [0, 1] (sub_cons rfl (sub_cons rfl (sub_cons rfl (sub_cons rfl (sub_cons rfl (sub_cons rfl sub_nil)))))) (by decide) (pick_cons rfl (pick_cons rfl pick_nil))) ?_
       ·clear hp hy15
        clear v42
        intro k rec15 KY15 ih15
        rintro ⟨x54, x55⟩ ⟨⟩ y15 hp
        replace hp : xy_convexHullCalculator_computeOctPts_l15s a0_1 a1 x75 k rec15 x54 x55 = some y15 := hp
        unfold xy_convexHullCalculator_computeOctPts_l15s at hp
        refine cr fun K165 hK165 => ?_
        refine s0 (rd_bin' rfl rfl eg_int ru_lss) ?_
        refine nk hK165 ?_
        refine cx_seq' fun K166 hK166 => ?_
        refine cx_cond' rfl (fun h60 => ?_) (fun h60 => ?_)
        ·replace hp := (br_t h60).symm.trans hp
         refine cx_skip' ?_
         show TX E K166 _
         refine tx_k' hK166 ?_
         refine cx_seq' fun K167 hK167 => ?_
         refine cx_block' ?_
         refine cr fun K168 hK168 => ?_
         refine s0 (rd_move' rfl) ?_
         refine s0 (rd_assign' rfl) ?_
         refine nk hK168 ?_
         refine cx_region' ?_
         refine s0 (rd_move' rfl) ?_
         refine s0 (rd_move' rfl) ?_
         refine s0 (rd_bin' rfl rfl eg_int ru_mul) ?_
         refine s0 (rd_move' rfl) ?_
         refine s0 (rd_bin' rfl rfl eg_int ru_add) ?_
         refine s0 (rd_move' rfl) ?_
         refine s0 (rd_move' rfl) ?_
         refine s0 (rd_move' rfl) ?_
         refine s0 (rd_bin' rfl rfl eg_int ru_add) ?_
         obtain ⟨r178, hr178, hp⟩ := bind_some hp
         refine s0 (rd_at' (K := Kf) rfl rfl hr178 Try.underlying22 info38) ?_
         refine s0 (rd_load_pt' rfl rfl flat38) ?_
         obtain ⟨r180, hr180, hp⟩ := bind_some hp
         refine s0 (rd_atr' (m := 0) rfl rfl rfl rfl hr180 Try.underlying22 info38) ?_
         refine sx_ox' (ox_storer' (m := 0) (i := (iadd .i64 (imul .i64 3 a0_1) x55)) (j := 0) (x' := r178) rfl rfl (lv_vl rfl rfl) rfl rfl hr180 rfl rfl rfl info38 rfl (H' := [(Rw Kf 38 (Vs g24) (x54.set (iadd .i64 (imul .i64 3 a0_1) x55).toNat r178)), ⟨.pointer (some wa0), [(Vi a0_0), (Vi a0_1), (Sl Kf a0_2)], 179, none⟩]) rfl) (wt_none' rfl) fun _ => ?_
         refine nk hK167 ?_
         refine cx_region' ?_
         refine s0 (rd_bin' rfl rfl eg_int ru_add) ?_
         refine s0 (rd_move' rfl) ?_
         refine sx_nil' ?_
         show TX E (KY15 _) _
         exact tx_pick' [0, 1] (sub_cons rfl (sub_cons rfl (sub_cons rfl (sub_cons rfl (sub_cons rfl (sub_cons rfl sub_nil)))))) (by decide) (pick_cons rfl (pick_cons rfl pick_nil)) (ih15 ((x54.set (iadd .i64 (imul .i64 3 a0_1) x55).toNat r178), (iadd .i64 x55 1)) () _ hp)
        replace hp := (br_f h60).symm.trans hp
        refine cx_exit' ?_
        replace hp := Option.some.inj hp
        subst hp
        show TX E (Zg E (Exit.exit 12) _ (Exit.exit 12)) _
        exact tx_zend' () rfl [0, 1] (sub_cons rfl (sub_cons rfl (sub_cons rfl (sub_cons rfl sub_nil)))) (by decide) (pick_cons rfl (pick_cons rfl pick_nil))
       refine zg_out fun w42 => ?_
       show TX E K158 _
       exact tx_pick' [0, 1] (sub_cons rfl (sub_cons rfl (sub_cons rfl (sub_cons rfl sub_nil)))) (by decide) (pick_cons rfl (pick_cons rfl pick_nil)) (hK158 v42 hp)
      replace hp := (br_f h57).symm.trans hp
      refine cx_skip' ?_
      show TX E K158 _
      exact tx_pick' [0, 1] (sub_cons rfl (sub_cons rfl (sub_cons rfl (sub_cons rfl sub_nil)))) (by decide) (pick_cons rfl (pick_cons rfl pick_nil)) (hK158 x53 hp)
     intro K147 hK147
     refine cx_seq' fun K148 hK148 => ?_
     refine cx_draw' mixed (by kernel_rfl) ?_
     refine qx_rd' (rd_move' rfl) rfl rfl (wt_none' rfl) ?_
     refine qx_rd' (rd_move' rfl) rfl rfl (wt_none' rfl) ?_
     refine qx_rd' (rd_bin' rfl rfl eg_int ru_add) rfl rfl (wt_none' rfl) ?_
     obtain ⟨r116, hr116, hp⟩ := bind_some hp
     refine qx_rd' (rd_at' (K := Kf) rfl rfl hr116 Try.underlying22 info38) rfl rfl (wt_none' rfl) ?_
     refine qx_rd' (rd_load_pt' rfl rfl flat38) rfl rfl (wt_none' rfl) ?_
     refine qx_rd' (rd_move' rfl) rfl rfl (wt_none' rfl) ?_
     refine qx_rd' (rd_move' rfl) rfl rfl (wt_none' rfl) ?_
     refine qx_rd' (rd_bin' rfl rfl eg_int ru_mul) rfl rfl (wt_none' rfl) ?_
     refine qx_rd' (rd_bin' rfl rfl eg_int ru_add) rfl rfl (wt_none' rfl) ?_
     obtain ⟨r122, hr122, hp⟩ := bind_some hp
     refine qx_rd' (rd_atr' (m := 0) rfl rfl rfl rfl hr122 Try.underlying22 info38) rfl rfl (wt_none' rfl) ?_
     refine qx_rd' (rd_loadr' rfl (m := 0) (i := (iadd .i64 (imul .i64 2 a0_1) 1)) (j := 0) rfl rfl hr122 rfl rfl flat38) rfl rfl (wt_none' rfl) ?_
     refine qx_rd' (rd_bin' rfl rfl eg_flt ru_fgt) rfl rfl (wt_none' rfl) ?_
     refine qx_nil' ?_
     show TX E K148 _
     refine tx_k' hK148 ?_
     refine cx_cond' rfl (fun h53 => ?_) (fun h53 => ?_)
     ·replace hp := (br_t h53).symm.trans hp
      refine cr fun K149 hK149 => ?_
      refine s0 (rd_move' rfl) ?_
      refine s0 (rd_move' rfl) ?_
      refine nk hK149 ?_
      refine cx_block' ?_
      obtain ⟨v39, hy14, hp⟩ := bind_some hp
      refine cx_loopg' (F := xy_convexHullCalculator_computeOctPts_l14 a0_1 a1 x75) (G := fun k R v => xy_convexHullCalculator_computeOctPts_l14s a0_1 a1 x75 k R v.1 v.2) (x := (x49, 0)) (gh := ()) (fun (v38 : (List Nat) × Int) (w38 : Unit) => (⟨319, [], [(1, (Sl Kf a1)), (5, (Vi a0_1)), (6, (Vl (Vs g24))), (9, (Vi x75)), (125, (Vi a0_1)), (126, (Vi v38.2))], [(Rw Kf 38 (Vs g24) v38.1), ⟨.pointer (some wa0), [(Vi a0_0), (Vi a0_1), (Sl Kf a0_2)], 179, none⟩]⟩ : St)) (fun (v39 : (List Nat)) => Zg E (Exit.exit 10) (fun (w39 : Unit) => (⟨319, [], [(1, (Sl Kf a1)), (5, (Vi a0_1)), (6, (Vl (Vs g24))), (9, (Vi x75))], [(Rw Kf 38 (Vs g24) v39), ⟨.pointer (some wa0), [(Vi a0_0), (Vi a0_1), (Sl Kf a0_2)], 179, none⟩]⟩ : St))) (fun _ => rfl) (fun _ _ => rfl) ?_ hy14 (tx_to' rfl [0, 1] (sub_cons rfl (sub_cons rfl (sub_cons rfl (sub_cons rfl (sub_cons rfl (sub_cons rfl sub_nil)))))) (by decide) (pick_cons rfl (pick_cons rfl pick_nil))) ?_
      ·clear hp hy14
       clear v39
       intro k rec14 KY14 ih14
       rintro ⟨x50, x51⟩ ⟨⟩ y14 hp
       replace hp : xy_convexHullCalculator_computeOctPts_l14s a0_1 a1 x75 k rec14 x50 x51 = some y14 := hp
       unfold xy_convexHullCalculator_computeOctPts_l14s at hp
       refine cr fun K154 hK154 => ?_
       refine s0 (rd_bin' rfl rfl eg_int ru_lss) ?_
       refine nk hK154 ?_
       refine cx_seq' fun K155 hK155 => ?_
       refine cx_cond' rfl (fun h56 => ?_) (fun h56 => ?_)
       ·replace hp := (br_t h56).symm.trans hp
        refine cx_skip' ?_
        show TX E K155 _
        refine tx_k' hK155 ?_
        refine cx_seq' fun K156 hK156 => ?_
        refine cx_block' ?_
        refine cr fun K157 hK157 => ?_
        refine s0 (rd_move' rfl) ?_
        refine s0 (rd_assign' rfl) ?_
        refine nk hK157 ?_
        refine cx_region' ?_
        refine s0 (rd_move' rfl) ?_
        refine s0 (rd_move' rfl) ?_
        refine s0 (rd_bin' rfl rfl eg_int ru_mul) ?_
        refine s0 (rd_move' rfl) ?_
        refine s0 (rd_bin' rfl rfl eg_int ru_add) ?_
        refine s0 (rd_move' rfl) ?_
        refine s0 (rd_move' rfl) ?_
        refine s0 (rd_move' rfl) ?_
        refine s0 (rd_bin' rfl rfl eg_int ru_add) ?_
        obtain ⟨r138, hr138, hp⟩ := bind_some hp
        refine s0 (rd_at' (K := Kf) rfl rfl hr138 Try.underlying22 info38) ?_
        refine s0 (rd_load_pt' rfl rfl flat38) ?_
        obtain ⟨r140, hr140, hp⟩ := bind_some hp
        refine s0 (rd_atr' (m := 0) rfl rfl rfl rfl hr140 Try.underlying22 info38) ?_
        refine sx_ox' (ox_storer' (m := 0) (i := (iadd .i64 (imul .i64 2 a0_1) x51)) (j := 0) (x' := r138) rfl rfl (lv_vl rfl rfl) rfl rfl hr140 rfl rfl rfl info38 rfl (H' := [(Rw Kf 38 (Vs g24) (x50.set (iadd .i64 (imul .i64 2 a0_1) x51).toNat r138)), ⟨.pointer (some wa0), [(Vi a0_0), (Vi a0_1), (Sl Kf a0_2)], 179, none⟩]) rfl) (wt_none' rfl) fun _ => ?_
        refine nk hK156 ?_
        refine cx_region' ?_
        refine s0 (rd_bin' rfl rfl eg_int ru_add) ?_
        refine s0 (rd_move' rfl) ?_
        refine sx_nil' ?_
        show TX E (KY14 _) _
        exact tx_pick' [0, 1] (sub_cons rfl (sub_cons rfl (sub_cons rfl (sub_cons rfl (sub_cons rfl (sub_cons rfl sub_nil)))))) (by decide) (pick_cons rfl (pick_cons rfl pick_nil)) (ih14 ((x50.set (iadd .i64 (imul .i64 2 a0_1) x51).toNat r138), (iadd .i64 x51 1)) () _ hp)
       replace hp := (br_f h56).symm.trans hp
       refine cx_exit' ?_
       replace hp := Option.some.inj hp
       subst hp
       show TX E (Zg E (Exit.exit 10) _ (Exit.exit 10)) _
       exact tx_zend' () rfl [0, 1] (sub_cons rfl (sub_cons rfl (sub_cons rfl (sub_cons rfl sub_nil)))) (by decide) (pick_cons rfl (pick_cons rfl pick_nil))
      refine zg_out fun w39 => ?_
      show TX E K147 _
      exact tx_pick' [0, 1] (sub_cons rfl (sub_cons rfl (sub_cons rfl (sub_cons rfl sub_nil)))) (by decide) (pick_cons rfl (pick_cons rfl pick_nil)) (hK147 v39 hp)
     replace hp := (br_f h53).symm.trans hp
     refine cx_skip' ?_
     show TX E K147 _
     exact tx_pick' [0, 1] (sub_cons rfl (sub_cons rfl (sub_cons rfl (sub_cons rfl sub_nil)))) (by decide) (pick_cons rfl (pick_cons rfl pick_nil)) (hK147 x49 hp)
    intro K136 hK136
    refine cx_seq' fun K137 hK137 => ?_
    refine cx_draw' mixed (by kernel_rfl) ?_
    refine qx_rd' (rd_move' rfl) rfl rfl (wt_none' rfl) ?_
    refine qx_rd' (rd_move' rfl) rfl rfl (wt_none' rfl) ?_
    obtain ⟨r78, hr78, hp⟩ := bind_some hp
    refine qx_rd' (rd_at' (K := Kf) rfl rfl hr78 Try.underlying22 info38) rfl rfl (wt_none' rfl) ?_
    refine qx_rd' (rd_load_pt' rfl rfl flat38) rfl rfl (wt_none' rfl) ?_
    refine qx_rd' (rd_move' rfl) rfl rfl (wt_none' rfl) ?_
    refine qx_rd' (rd_move' rfl) rfl rfl (wt_none' rfl) ?_
    refine qx_rd' (rd_bin' rfl rfl eg_int ru_add) rfl rfl (wt_none' rfl) ?_
    obtain ⟨r83, hr83, hp⟩ := bind_some hp
    refine qx_rd' (rd_at' (K := Kf) rfl rfl hr83 Try.underlying22 info38) rfl rfl (wt_none' rfl) ?_
    refine qx_rd' (rd_load_pt' rfl rfl flat38) rfl rfl (wt_none' rfl) ?_
    obtain ⟨r85, hr85, hp⟩ := bind_some hp
    refine qx_rd' (rd_bin' rfl rfl eg_flt (ru_fsub hr85)) rfl rfl (wt_none' rfl) ?_
    refine qx_rd' (rd_move' rfl) rfl rfl (wt_none' rfl) ?_
    refine qx_rd' (rd_move' rfl) rfl rfl (wt_none' rfl) ?_
    obtain ⟨r88, hr88, hp⟩ := bind_some hp
    refine qx_rd' (rd_atr' (m := 0) rfl rfl rfl rfl hr88 Try.underlying22 info38) rfl rfl (wt_none' rfl) ?_
    refine qx_rd' (rd_loadr' rfl (m := 0) (i := a0_1) (j := 0) rfl rfl hr88 rfl rfl flat38) rfl rfl (wt_none' rfl) ?_
    refine qx_rd' (rd_move' rfl) rfl rfl (wt_none' rfl) ?_
    refine qx_rd' (rd_move' rfl) rfl rfl (wt_none' rfl) ?_
    refine qx_rd' (rd_bin' rfl rfl eg_int ru_add) rfl rfl (wt_none' rfl) ?_
    obtain ⟨r93, hr93, hp⟩ := bind_some hp
    refine qx_rd' (rd_atr' (m := 0) rfl rfl rfl rfl hr93 Try.underlying22 info38) rfl rfl (wt_none' rfl) ?_
    refine qx_rd' (rd_loadr' rfl (m := 0) (i := (iadd .i64 a0_1 1)) (j := 0) rfl rfl hr93 rfl rfl flat38) rfl rfl (wt_none' rfl) ?_
    obtain ⟨r95, hr95, hp⟩ := bind_some hp
    refine qx_rd' (rd_bin' rfl rfl eg_flt (ru_fsub hr95)) rfl rfl (wt_none' rfl) ?_
    refine qx_rd' (rd_bin' rfl rfl eg_flt ru_flt) rfl rfl (wt_none' rfl) ?_
    refine qx_nil' ?_
    show TX E K137 _
    refine tx_k' hK137 ?_
    refine cx_cond' rfl (fun h49 => ?_) (fun h49 => ?_)
    ·replace hp := (br_t h49).symm.trans hp
     refine cr fun K138 hK138 => ?_
     refine s0 (rd_move' rfl) ?_
     refine s0 (rd_move' rfl) ?_
     refine nk hK138 ?_
     refine cx_block' ?_
     obtain ⟨v36, hy13, hp⟩ := bind_some hp
     refine cx_loopg' (F := xy_convexHullCalculator_computeOctPts_l13 a0_1 a1 x75) (G := fun k R v => xy_convexHullCalculator_computeOctPts_l13s a0_1 a1 x75 k R v.1 v.2) (x := (x45, 0)) (gh := ()) (fun (v35 : (List Nat) × Int) (w35 : Unit) => (⟨319, [], [(1, (Sl Kf a1)), (5, (Vi a0_1)), (6, (Vl (Vs g24))), (9, (Vi x75)), (97, (Vi a0_1)), (98, (Vi v35.2))], [(Rw Kf 38 (Vs g24) v35.1), ⟨.pointer (some wa0), [(Vi a0_0), (Vi a0_1), (Sl Kf a0_2)], 179, none⟩]⟩ : St)) (fun (v36 : (List Nat)) => Zg E (Exit.exit 8) (fun (w36 : Unit) => (⟨319, [], [(1, (Sl Kf a1)), (5, (Vi a0_1)), (6, (Vl (Vs g24))), (9, (Vi x75))], [(Rw Kf 38 (Vs g24) v36), ⟨.pointer (some wa0), [(Vi a0_0), (Vi a0_1), (Sl Kf a0_2)], 179, none⟩]⟩ : St))) (fun _ => rfl) (fun _ _ => rfl) ?_ hy13 (tx_to' rfl [0, 1] (sub_cons rfl (sub_cons rfl (sub_cons rfl (sub_cons rfl (sub_cons rfl (sub_cons rfl sub_nil)))))) (by decide) (pick_cons rfl (pick_cons rfl pick_nil))) ?_
     ·clear hp hy13
      clear v36
      intro k rec13 KY13 ih13
      rintro ⟨x46, x47⟩ ⟨⟩ y13 hp
      replace hp : xy_convexHullCalculator_computeOctPts_l13s a0_1 a1 x75 k rec13 x46 x47 = some y13 := hp
      unfold xy_convexHullCalculator_computeOctPts_l13s at hp
      refine cr fun K143 hK143 => ?_
      refine s0 (rd_bin' rfl rfl eg_int ru_lss) ?_
      refine nk hK143 ?_
      refine cx_seq' fun K144 hK144 => ?_
      refine cx_cond' rfl (fun h52 => ?_) (fun h52 => ?_)
      ·replace hp := (br_t h52).symm.trans hp
       refine cx_skip' ?_
       show TX E K144 _
       refine tx_k' hK144 ?_
       refine cx_seq' fun K145 hK145 => ?_
       refine cx_block' ?_
       refine cr fun K146 hK146 => ?_
       refine s0 (rd_move' rfl) ?_
       refine s0 (rd_assign' rfl) ?_
       refine nk hK146 ?_
       refine cx_region' ?_
       refine s0 (rd_move' rfl) ?_
       refine s0 (rd_move' rfl) ?_
       refine s0 (rd_move' rfl) ?_
       refine s0 (rd_bin' rfl rfl eg_int ru_add) ?_
       refine s0 (rd_move' rfl) ?_
       refine s0 (rd_move' rfl) ?_
       refine s0 (rd_move' rfl) ?_
       refine s0 (rd_bin' rfl rfl eg_int ru_add) ?_
       obtain ⟨r109, hr109, hp⟩ := bind_some hp
       refine s0 (rd_at' (K := Kf) rfl rfl hr109 Try.underlying22 info38) ?_
       refine s0 (rd_load_pt' rfl rfl flat38) ?_
       obtain ⟨r111, hr111, hp⟩ := bind_some hp
       refine s0 (rd_atr' (m := 0) rfl rfl rfl rfl hr111 Try.underlying22 info38) ?_
       refine sx_ox' (ox_storer' (m := 0) (i := (iadd .i64 a0_1 x47)) (j := 0) (x' := r109) rfl rfl (lv_vl rfl rfl) rfl rfl hr111 rfl rfl rfl info38 rfl (H' := [(Rw Kf 38 (Vs g24) (x46.set (iadd .i64 a0_1 x47).toNat r109)), ⟨.pointer (some wa0), [(Vi a0_0), (Vi a0_1), (Sl Kf a0_2)], 179, none⟩]) rfl) (wt_none' rfl) fun _ => ?_
       refine nk hK145 ?_
       refine cx_region' ?_
       refine s0 (rd_bin' rfl rfl eg_int ru_add) ?_
       refine s0 (rd_move' rfl) ?_
       refine sx_nil' ?_
       show TX E (KY13 _) _
       exact tx_pick' [0, 1] (sub_cons rfl (sub_cons rfl (sub_cons rfl (sub_cons rfl (sub_cons rfl (sub_cons rfl sub_nil)))))) (by decide) (pick_cons rfl (pick_cons rfl pick_nil)) (ih13 ((x46.set (iadd .i64 a0_1 x47).toNat r109), (iadd .i64 x47 1)) () _ hp)
      replace hp := (br_f h52).symm.trans hp
      refine cx_exit' ?_
      replace hp := Option.some.inj hp
      subst hp
      show TX E (Zg E (Exit.exit 8) _ (Exit.exit 8)) _
      exact tx_zend' () rfl [0, 1] (sub_cons rfl (sub_cons rfl (sub_cons rfl (sub_cons rfl sub_nil)))) (by decide) (pick_cons rfl (pick_cons rfl pick_nil))
     refine zg_out fun w36 => ?_
     show TX E K136 _
     exact tx_pick' [0, 1] (sub_cons rfl (sub_cons rfl (sub_cons rfl (sub_cons rfl sub_nil)))) (by decide) (pick_cons rfl (pick_cons rfl pick_nil)) (hK136 v36 hp)
    replace hp := (br_f h49).symm.trans hp
    refine cx_skip' ?_
    show TX E K136 _
    exact tx_pick' [0, 1] (sub_cons rfl (sub_cons rfl (sub_cons rfl (sub_cons rfl sub_nil)))) (by decide) (pick_cons rfl (pick_cons rfl pick_nil)) (hK136 x45 hp)
   intro K125 hK125
   refine cx_seq' fun K126 hK126 => ?_
   refine cx_draw' mixed (by kernel_rfl) ?_
   refine qx_rd' (rd_move' rfl) rfl rfl (wt_none' rfl) ?_
   refine qx_rd' (rd_move' rfl) rfl rfl (wt_none' rfl) ?_
   obtain ⟨r56, hr56, hp⟩ := bind_some hp
   refine qx_rd' (rd_at' (K := Kf) rfl rfl hr56 Try.underlying22 info38) rfl rfl (wt_none' rfl) ?_
   refine qx_rd' (rd_load_pt' rfl rfl flat38) rfl rfl (wt_none' rfl) ?_
   refine qx_rd' (rd_move' rfl) rfl rfl (wt_none' rfl) ?_
   obtain ⟨r59, hr59, hp⟩ := bind_some hp
   refine qx_rd' (rd_atr' (m := 0) rfl rfl rfl rfl hr59 Try.underlying22 info38) rfl rfl (wt_none' rfl) ?_
   refine qx_rd' (rd_loadr' rfl (m := 0) (i := 0) (j := 0) rfl rfl hr59 rfl rfl flat38) rfl rfl (wt_none' rfl) ?_
   refine qx_rd' (rd_bin' rfl rfl eg_flt ru_flt) rfl rfl (wt_none' rfl) ?_
   refine qx_nil' ?_
   show TX E K126 _
   refine tx_k' hK126 ?_
   refine cx_cond' rfl (fun h45 => ?_) (fun h45 => ?_)
   ·replace hp := (br_t h45).symm.trans hp
    refine cr fun K127 hK127 => ?_
    refine s0 (rd_move' rfl) ?_
    refine s0 (rd_move' rfl) ?_
    refine nk hK127 ?_
    refine cx_block' ?_
    obtain ⟨v33, hy12, hp⟩ := bind_some hp
    refine cx_loopg' (F := xy_convexHullCalculator_computeOctPts_l12 a0_1 a1 x75) (G := fun k R v => xy_convexHullCalculator_computeOctPts_l12s a0_1 a1 x75 k R v.1 v.2) (x := (x74, 0)) (gh := ()) (fun (v32 : (List Nat) × Int) (w32 : Unit) => (⟨319, [], [(1, (Sl Kf a1)), (5, (Vi a0_1)), (6, (Vl (Vs g24))), (9, (Vi x75)), (62, (Vi a0_1)), (63, (Vi v32.2))], [(Rw Kf 38 (Vs g24) v32.1), ⟨.pointer (some wa0), [(Vi a0_0), (Vi a0_1), (Sl Kf a0_2)], 179, none⟩]⟩ : St)) (fun (v33 : (List Nat)) => Zg E (Exit.exit 6) (fun (w33 : Unit) => (⟨319, [], [(1, (Sl Kf a1)), (5, (Vi a0_1)), (6, (Vl (Vs g24))), (9, (Vi x75))], [(Rw Kf 38 (Vs g24) v33), ⟨.pointer (some wa0), [(Vi a0_0), (Vi a0_1), (Sl Kf a0_2)], 179, none⟩]⟩ : St))) (fun _ => rfl) (fun _ _ => rfl) ?_ hy12 (tx_to' rfl [0, 1] (sub_cons rfl (sub_cons rfl (sub_cons rfl (sub_cons rfl (sub_cons rfl (sub_cons rfl sub_nil)))))) (by decide) (pick_cons rfl (pick_cons rfl pick_nil))) ?_
    ·clear hp hy12
     clear v33
     intro k rec12 KY12 ih12
     rintro ⟨x42, x43⟩ ⟨⟩ y12 hp
     replace hp : xy_convexHullCalculator_computeOctPts_l12s a0_1 a1 x75 k rec12 x42 x43 = some y12 := hp
     unfold xy_convexHullCalculator_computeOctPts_l12s at hp
     refine cr fun K132 hK132 => ?_
     refine s0 (rd_bin' rfl rfl eg_int ru_lss) ?_
     refine nk hK132 ?_
     refine cx_seq' fun K133 hK133 => ?_
     refine cx_cond' rfl (fun h48 => ?_) (fun h48 => ?_)
     ·replace hp := (br_t h48).symm.trans hp
      refine cx_skip' ?_
      show TX E K133 _
      refine tx_k' hK133 ?_
      refine cx_seq' fun K134 hK134 => ?_
      refine cx_block' ?_
      refine cr fun K135 hK135 => ?_
      refine s0 (rd_move' rfl) ?_
      refine s0 (rd_assign' rfl) ?_
      refine nk hK135 ?_
      refine cx_region' ?_
      refine s0 (rd_move' rfl) ?_
      refine s0 (rd_move' rfl) ?_
      refine s0 (rd_move' rfl) ?_
      refine s0 (rd_move' rfl) ?_
      refine s0 (rd_move' rfl) ?_
      refine s0 (rd_bin' rfl rfl eg_int ru_add) ?_
      obtain ⟨r72, hr72, hp⟩ := bind_some hp
      refine s0 (rd_at' (K := Kf) rfl rfl hr72 Try.underlying22 info38) ?_
      refine s0 (rd_load_pt' rfl rfl flat38) ?_
      obtain ⟨r74, hr74, hp⟩ := bind_some hp
      refine s0 (rd_atr' (m := 0) rfl rfl rfl rfl hr74 Try.underlying22 info38) ?_
      refine sx_ox' (ox_storer' (m := 0) (i := x43) (j := 0) (x' := r72) rfl rfl (lv_vl rfl rfl) rfl rfl hr74 rfl rfl rfl info38 rfl (H' := [(Rw Kf 38 (Vs g24) (x42.set x43.toNat r72)), ⟨.pointer (some wa0), [(Vi a0_0), (Vi a0_1), (Sl Kf a0_2)], 179, none⟩]) rfl) (wt_none' rfl) fun _ => ?_
      refine nk hK134 ?_
      refine cx_region' ?_
      refine s0 (rd_bin' rfl rfl eg_int ru_add) ?_
      refine s0 (rd_move' rfl) ?_
      refine sx_nil' ?_
      show TX E (KY12 _) _
      exact tx_pick' [0, 1] (sub_cons rfl (sub_cons rfl (sub_cons rfl (sub_cons rfl (sub_cons rfl (sub_cons rfl sub_nil)))))) (by decide) (pick_cons rfl (pick_cons rfl pick_nil)) (ih12 ((x42.set x43.toNat r72), (iadd .i64 x43 1)) () _ hp)
     replace hp := (br_f h48).symm.trans hp
     refine cx_exit' ?_
     replace hp := Option.some.inj hp
     subst hp
     show TX E (Zg E (Exit.exit 6) _ (Exit.exit 6)) _
     exact tx_zend' () rfl [0, 1] (sub_cons rfl (sub_cons rfl (sub_cons rfl (sub_cons rfl sub_nil)))) (by decide) (pick_cons rfl (pick_cons rfl pick_nil))
    refine zg_out fun w33 => ?_
    show TX E K125 _
    exact tx_pick' [0, 1] (sub_cons rfl (sub_cons rfl (sub_cons rfl (sub_cons rfl sub_nil)))) (by decide) (pick_cons rfl (pick_cons rfl pick_nil)) (hK125 v33 hp)
   replace hp := (br_f h45).symm.trans hp
   refine cx_skip' ?_
   show TX E K125 _
   exact tx_pick' [0, 1] (sub_cons rfl (sub_cons rfl (sub_cons rfl (sub_cons rfl sub_nil)))) (by decide) (pick_cons rfl (pick_cons rfl pick_nil)) (hK125 x74 hp)
  replace hp := (br_f h44).symm.trans hp
  refine cx_exit' ?_
  replace hp := Option.some.inj hp
  subst hp
  show TX E (Zg E (Exit.exit 4) _ (Exit.exit 4)) _
  exact tx_zend' () rfl [0, 1] (sub_cons rfl sub_nil) (by decide) (pick_cons rfl (pick_cons rfl pick_nil))
 refine zg_out fun w56 => ?_
 show TX E K30 _
 refine tx_k' hK30 ?_
 refine cr fun K212 hK212 => ?_
 refine s0 (rd_move' rfl) ?_
 refine s0 (rd_assign' rfl) ?_
 refine nk hK212 ?_
 refine cx_retc' ?_
 replace hp := Option.some.inj hp
 subst hp
 refine tx_pick' (L' := [(4, (Vl (Vs g24)))]) (H' := [⟨.pointer (some wa0), [(Vi a0_0), (Vi a0_1), (Sl Kf a0_2)], 179, none⟩, (Rw Kf 38 (Vs g24) v56)]) [1, 0] (sub_cons rfl sub_nil) (by decide) (pick_cons rfl (pick_cons rfl pick_nil)) ?_
 exact tx_ret1' Try.results136 rfl g24 (rv_tmp' rfl) (List.Sublist.refl _)

def inner_Equal (k : Nat) (a0 : List Nat) (a1 : Int) (a2 : List Nat) (a3 : Int) : Option (Bool) :=
 (idx a0 a1) >>= fun r11 =>
 (idx a2 a3) >>= fun r15 =>
 br (fne r11 r15)
  (some false)
  ((idx a0 (iadd .i64 a1 1)) >>= fun r21 =>
  (idx a2 (iadd .i64 a3 1)) >>= fun r26 =>
  br (fne r21 r26)
   (some false)
   (some true))

theorem inner_Equal_sim {k : Nat}  (a0 : List Nat) (a1 : Int) (a2 : List Nat) (a3 : Int) {out : Bool} (hp : inner_Equal k a0 a1 a2 a3 = some out) : Sx.Fn Try.prog 137 [(Sl Kf a0), (Vi a1), (Sl Kf a2), (Vi a3)] [] (fun w : Unit => (Vb out)) (fun w => []) := by
 unfold inner_Equal at hp
 refine fn_of Try.func137 rfl Try.ntmps137 rfl fun E hM => ?_
 refine cr fun K1 hK1 => ?_
 refine s0 (rd_assign' rfl) ?_
 refine nk hK1 ?_
 refine cx_seq' fun K2 hK2 => ?_
 refine cx_seq' fun K3 hK3 => ?_
 refine cx_draw' mixed (by kernel_rfl) ?_
 refine qx_rd' (rd_move' rfl) rfl rfl (wt_none' rfl) ?_
 refine qx_rd' (rd_move' rfl) rfl rfl (wt_none' rfl) ?_
 obtain ⟨r11, hr11, hp⟩ := bind_some hp
 refine qx_rd' (rd_at' (K := Kf) rfl rfl hr11 Try.underlying22 info38) rfl rfl (wt_none' rfl) ?_
 refine qx_rd' (rd_load_pt' rfl rfl flat38) rfl rfl (wt_none' rfl) ?_
 refine qx_rd' (rd_move' rfl) rfl rfl (wt_none' rfl) ?_
 refine qx_rd' (rd_move' rfl) rfl rfl (wt_none' rfl) ?_
 obtain ⟨r15, hr15, hp⟩ := bind_some hp
 refine qx_rd' (rd_at' (K := Kf) rfl rfl hr15 Try.underlying22 info38) rfl rfl (wt_none' rfl) ?_
 refine qx_rd' (rd_load_pt' rfl rfl flat38) rfl rfl (wt_none' rfl) ?_
 refine qx_rd' (rd_bin' rfl rfl eg_flt ru_fne) rfl rfl (wt_none' rfl) ?_
 refine qx_nil' ?_
 show TX E K3 _
 refine tx_k' hK3 ?_
 refine cx_cond' rfl (fun h1 => ?_) (fun h1 => ?_)
 ·replace hp := (br_t h1).symm.trans hp
  refine cr fun K4 hK4 => ?_
  refine s0 (rd_assign' rfl) ?_
  refine nk hK4 ?_
  refine cx_retc' ?_
  replace hp := Option.some.inj hp
  subst hp
  refine tx_pick' (L' := [(8, (Vb false))]) (H' := []) [] (sub_cons rfl sub_nil) (by decide) pick_nil ?_
  exact tx_ret1' Try.results137 rfl () (rv_tmp' rfl) (List.Sublist.refl _)
 replace hp := (br_f h1).symm.trans hp
 refine cx_skip' ?_
 show TX E K2 _
 refine tx_k' hK2 ?_
 refine cx_seq' fun K5 hK5 => ?_
 refine cx_seq' fun K6 hK6 => ?_
 refine cx_draw' mixed (by kernel_rfl) ?_
 refine qx_rd' (rd_move' rfl) rfl rfl (wt_none' rfl) ?_
 refine qx_rd' (rd_move' rfl) rfl rfl (wt_none' rfl) ?_
 refine qx_rd' (rd_bin' rfl rfl eg_int ru_add) rfl rfl (wt_none' rfl) ?_
 obtain ⟨r21, hr21, hp⟩ := bind_some hp
 refine qx_rd' (rd_at' (K := Kf) rfl rfl hr21 Try.underlying22 info38) rfl rfl (wt_none' rfl) ?_
 refine qx_rd' (rd_load_pt' rfl rfl flat38) rfl rfl (wt_none' rfl) ?_
 refine qx_rd' (rd_move' rfl) rfl rfl (wt_none' rfl) ?_
 refine qx_rd' (rd_move' rfl) rfl rfl (wt_none' rfl) ?_
 refine qx_rd' (rd_bin' rfl rfl eg_int ru_add) rfl rfl (wt_none' rfl) ?_
 obtain ⟨r26, hr26, hp⟩ := bind_some hp
 refine qx_rd' (rd_at' (K := Kf) rfl rfl hr26 Try.underlying22 info38) rfl rfl (wt_none' rfl) ?_
 refine qx_rd' (rd_load_pt' rfl rfl flat38) rfl rfl (wt_none' rfl) ?_
 refine qx_rd' (rd_bin' rfl rfl eg_flt ru_fne) rfl rfl (wt_none' rfl) ?_
 refine qx_nil' ?_
 show TX E K6 _
 refine tx_k' hK6 ?_
 refine cx_cond' rfl (fun h2 => ?_) (fun h2 => ?_)
 ·replace hp := (br_t h2).symm.trans hp
  refine cr fun K7 hK7 => ?_
  refine s0 (rd_assign' rfl) ?_
  refine nk hK7 ?_
  refine cx_retc' ?_
  replace hp := Option.some.inj hp
  subst hp
  refine tx_pick' (L' := [(8, (Vb false))]) (H' := []) [] (sub_cons rfl sub_nil) (by decide) pick_nil ?_
  exact tx_ret1' Try.results137 rfl () (rv_tmp' rfl) (List.Sublist.refl _)
 replace hp := (br_f h2).symm.trans hp
 refine cx_skip' ?_
 show TX E K5 _
 refine tx_k' hK5 ?_
 refine cr fun K8 hK8 => ?_
 refine s0 (rd_assign' rfl) ?_
 refine nk hK8 ?_
 refine cx_retc' ?_
 replace hp := Option.some.inj hp
 subst hp
 refine tx_pick' (L' := [(8, (Vb true))]) (H' := []) [] (sub_cons rfl sub_nil) (by decide) pick_nil ?_
 exact tx_ret1' Try.results137 rfl () (rv_tmp' rfl) (List.Sublist.refl _)

def xy_convexHullCalculator_computeOctRing_j2 (k : Nat) (rec1 : ((List Nat) × Nat × Int) → Option ((List Nat) × Nat)) (x7 : Int) (a0_1 : Int) (x3 : List Nat) (x4 : Nat) : Option ((List Nat) × Nat) :=
 rec1 (x3, x4, (iadd .i64 x7 a0_1))
def xy_convexHullCalculator_computeOctRing_l1s (a0_1 : Int) (k : Nat) (rec1 : ((List Nat) × Nat × Int) → Option ((List Nat) × Nat)) (x5 : List Nat) (x6 : Nat) (x7 : Int) : Option ((List Nat) × Nat) :=
 br (decide (x7 < (x5.length : Int)))
  ((inner_Equal k x5 (isub .i64 x7 a0_1) x5 x7) >>= fun r33 =>
  br (!r33)
   ((cut x5 x7 (iadd .i64 x7 a0_1)) >>= fun r41 =>
   (ovw x5 x6 r41) >>= fun r42 =>
   xy_convexHullCalculator_computeOctRing_j2 k rec1 x7 a0_1 r42 (x6 + r41.length))
   (xy_convexHullCalculator_computeOctRing_j2 k rec1 x7 a0_1 x5 x6))
  (some (x5, x6))
def xy_convexHullCalculator_computeOctRing_l1 (a0_1 : Int) : Nat → ((List Nat) × Nat × Int) → Option ((List Nat) × Nat)
 | 0, _ => none
 | k + 1, v => xy_convexHullCalculator_computeOctRing_l1s a0_1 k (xy_convexHullCalculator_computeOctRing_l1 a0_1 k) v.1 v.2.1 v.2.2
def xy_convexHullCalculator_computeOctRing (k : Nat) (a0_0 : Int) (a0_1 : Int) (a0_2 : List Nat) (a1 : List Nat) : Option ((Int × Int × (List Nat)) ⊕ (Int × Int × (List Nat) × (List Nat))) :=
 (xy_convexHullCalculator_computeOctPts k a0_0 a0_1 a0_2 a1) >>= fun r15 =>
 (cut r15.2.2.2 0 a0_1) >>= fun r18 =>
 (xy_convexHullCalculator_computeOctRing_l1 a0_1 k (r15.2.2.2, r18.length, a0_1)) >>= fun v4 =>
 br (decide ((v4.2 : Int) < (imul .i64 3 a0_1)))
  (some (.inl (r15.1, r15.2.1, r15.2.2.1)))
  ((cut v4.1 0 (v4.2 : Int)) >>= fun r91 =>
  some (.inr (r15.1, r15.2.1, r15.2.2.1, r91)))
def xy_convexHullCalculator_computeOctRing_r (wa0 : Addr) (a0_0 : Int) (a0_1 : Int) (a0_2 : List Nat) (a1 : List Nat) (out : (Int × Int × (List Nat)) ⊕ (Int × Int × (List Nat) × (List Nat))) (w : Unit) : SV := match out with
 | (.inl y) => Vn
 | (.inr y) => (Sl Kf y.2.2.2)
def xy_convexHullCalculator_computeOctRing_h (wa0 : Addr) (a0_0 : Int) (a0_1 : Int) (a0_2 : List Nat) (a1 : List Nat) (out : (Int × Int × (List Nat)) ⊕ (Int × Int × (List Nat) × (List Nat))) (w : Unit) : List Res := match out with
 | (.inl y) => [⟨.pointer (some wa0), [(Vi y.1), (Vi y.2.1), (Sl Kf y.2.2)], 179, none⟩]
 | (.inr y) => [⟨.pointer (some wa0), [(Vi y.1), (Vi y.2.1), (Sl Kf y.2.2.1)], 179, none⟩]

theorem xy_convexHullCalculator_computeOctRing_sim {k : Nat} {wa0 : Addr} (a0_0 : Int) (a0_1 : Int) (a0_2 : List Nat) (a1 : List Nat) {out : (Int × Int × (List Nat)) ⊕ (Int × Int × (List Nat) × (List Nat))} (hp : xy_convexHullCalculator_computeOctRing k a0_0 a0_1 a0_2 a1 = some out) : Sx.Fn Try.prog 104 [(Vp wa0), (Sl Kf a1)] [⟨.pointer (some wa0), [(Vi a0_0), (Vi a0_1), (Sl Kf a0_2)], 179, none⟩] (fun w => xy_convexHullCalculator_computeOctRing_r wa0 a0_0 a0_1 a0_2 a1 out w) (fun w => xy_convexHullCalculator_computeOctRing_h wa0 a0_0 a0_1 a0_2 a1 out w) := by
 unfold xy_convexHullCalculator_computeOctRing at hp
 refine fn_of Try.func104 rfl Try.ntmps104 rfl fun E hM => ?_
 refine cr fun K1 hK1 => ?_
 refine s0 (rd_assign' rfl) ?_
 refine nk hK1 ?_
 refine cr fun K2 hK2 => ?_
 refine s0 (rd_move' rfl) ?_
 refine s0 (rd_nilck' rfl) ?_
 refine s0 (rd_field' (off := 1) rfl Try.underlying179 rfl info3 rfl) ?_
 refine s0 (rd_load' (i := 0) (o := 1) rfl ⟨rfl, rfl, rfl, rfl⟩ rfl flat3) ?_
 refine s0 (rd_assign' rfl) ?_
 refine nk hK2 ?_
 refine cr fun K3 hK3 => ?_
 refine s0 (rd_move' rfl) ?_
 refine s0 (rd_move' rfl) ?_
 obtain ⟨r15, hr15, hp⟩ := bind_some hp
 refine sx_ox' (ox_callg' (ent_fn' Try.func136 isn136 rfl rfl) (xy_convexHullCalculator_computeOctPts_sim _ _ _ _ hr15 : Sx.Fn Try.prog 136 [(Vp wa0), (Sl Kf a1)] [⟨.pointer (some wa0), [(Vi a0_0), (Vi a0_1), (Sl Kf a0_2)], 179, none⟩] (fun x : Gs => (Vl (Vs x))) (fun x => [⟨.pointer (some wa0), [(Vi r15.1), (Vi r15.2.1), (Sl Kf r15.2.2.1)], 179, none⟩, (Rw Kf 38 (Vs x) r15.2.2.2)])) [0] [] (by decide) (pick_cons rfl pick_nil) pick_nil (Hn := fun x : Gs => [⟨.pointer (some wa0), [(Vi r15.1), (Vi r15.2.1), (Sl Kf r15.2.2.1)], 179, none⟩, (Rw Kf 38 (Vs x) r15.2.2.2)]) (fun _ => rfl) rfl rfl) (wt_none' rfl) fun g15 => ?_
 refine s0 (rd_assign' rfl) ?_
 refine nk hK3 ?_
 refine cr fun K4 hK4 => ?_
 refine s0 (rd_move' rfl) ?_
 refine s0 (rd_move' rfl) ?_
 obtain ⟨r18, hr18, hp⟩ := bind_some hp
 refine s0 (rd_cutpre' (K := Kf) (i := 1) (k1 := .i64) rfl rfl rfl (.inr ⟨_, rfl, rfl⟩) rfl hr18 Try.underlying22 info38) ?_
 refine s0 (rd_assign' rfl) ?_
 refine nk hK4 ?_
 refine cx_seq' fun K5 hK5 => ?_
 refine cr fun K6 hK6 => ?_
 refine s0 (rd_move' rfl) ?_
 refine s0 (rd_assign' rfl) ?_
 refine nk hK6 ?_
 refine cx_block' ?_
 obtain ⟨v4, hy1, hp⟩ := bind_some hp
 refine cx_loopg' (F := xy_convexHullCalculator_computeOctRing_l1 a0_1) (G := fun k R v => xy_convexHullCalculator_computeOctRing_l1s a0_1 k R v.1 v.2.1 v.2.2) (x := (r15.2.2.2, r18.length, a0_1)) (gh := ()) (fun (v2 : (List Nat) × Nat × Int) (w2 : Unit) => (⟨49, [], [(5, (Vi a0_1)), (6, (Vl (Vs g15))), (7, (Pf (Vs g15) v2.2.1)), (8, (Vi v2.2.2))], [(Rw Kf 38 (Vs g15) v2.1), ⟨.pointer (some wa0), [(Vi r15.1), (Vi r15.2.1), (Sl Kf r15.2.2.1)], 179, none⟩]⟩ : St)) (fun (v4 : (List Nat) × Nat) => Zg E (Exit.exit 0) (fun (w4 : Unit) => (⟨49, [], [(5, (Vi a0_1)), (7, (Pf (Vs g15) v4.2))], [(Rw Kf 38 (Vs g15) v4.1), ⟨.pointer (some wa0), [(Vi r15.1), (Vi r15.2.1), (Sl Kf r15.2.2.1)], 179, none⟩]⟩ : St))) (fun _ => rfl) (fun _ _ => rfl) ?_ hy1 (tx_to' rfl [1, 0] (sub_cons rfl (sub_cons rfl (sub_cons rfl (sub_cons rfl sub_nil)))) (by decide) (pick_cons rfl (pick_cons rfl pick_nil))) ?_
 ·clear hp hy1
  clear v4
  intro k rec1 KY1 ih1
  rintro ⟨x5, x6, x7⟩ ⟨⟩ y2 hp
  replace hp : xy_convexHullCalculator_computeOctRing_l1s a0_1 k rec1 x5 x6 x7 = some y2 := hp
  unfold xy_convexHullCalculator_computeOctRing_l1s at hp
  refine cx_seq' fun K11 hK11 => ?_
  refine cr fun K12 hK12 => ?_
  refine s0 (rd_move' rfl) ?_
  refine s0 (rd_move' rfl) ?_
  refine s0 (rd_lenr' (i := 0) rfl rfl rfl Try.underlying22) ?_
  refine s0 (rd_bin' rfl rfl eg_int ru_lss) ?_
  refine nk hK12 ?_
  refine cx_cond' rfl (fun h4 => ?_) (fun h4 => ?_)
  ·replace hp := (br_t h4).symm.trans hp
   refine cx_skip' ?_
   show TX E K11 _
   refine tx_k' hK11 ?_
   refine cx_join' (fun (v3 : (List Nat) × Nat) => (⟨49, [], [(5, (Vi a0_1)), (6, (Vl (Vs g15))), (7, (Pf (Vs g15) v3.2)), (8, (Vi x7))], [(Rw Kf 38 (Vs g15) v3.1), ⟨.pointer (some wa0), [(Vi r15.1), (Vi r15.2.1), (Sl Kf r15.2.2.1)], 179, none⟩]⟩ : St)) (fun (v3 : (List Nat) × Nat) => xy_convexHullCalculator_computeOctRing_j2 k rec1 x7 a0_1 v3.1 v3.2 = some y2) ?_ ?_
   ·rintro ⟨x3, x4⟩ hp
    replace hp : xy_convexHullCalculator_computeOctRing_j2 k rec1 x7 a0_1 x3 x4 = some y2 := hp
    unfold xy_convexHullCalculator_computeOctRing_j2 at hp
    refine cx_region' ?_
    refine s0 (rd_move' rfl) ?_
    refine s0 (rd_move' rfl) ?_
    refine s0 (rd_bin' rfl rfl eg_int ru_add) ?_
    refine s0 (rd_assign' rfl) ?_
    refine sx_nil' ?_
    show TX E (KY1 _) _
    exact tx_pick' [0, 1] (sub_cons rfl (sub_cons rfl (sub_cons rfl (sub_cons rfl sub_nil)))) (by decide) (pick_cons rfl (pick_cons rfl pick_nil)) (ih1 (x3, x4, (iadd .i64 x7 a0_1)) () _ hp)
   intro K13 hK13
   refine cx_block' ?_
   refine cr fun K14 hK14 => ?_
   refine s0 (rd_move' rfl) ?_
   refine s0 (rd_move' rfl) ?_
   refine s0 (rd_move' rfl) ?_
   refine s0 (rd_bin' rfl rfl eg_int ru_sub) ?_
   refine s0 (rd_move' rfl) ?_
   refine s0 (rd_move' rfl) ?_
   obtain ⟨r33, hr33, hp⟩ := bind_some hp
   refine sx_ox' (ox_brw' (frz_row 0 [(6, (Vl (Vs g15)), (Sl Kf x5)), (21, (Vl (Vs g15)), (Sl Kf x5)), (27, (Vl (Vs g15)), (Sl Kf x5)), (31, (Vl (Vs g15)), (Sl Kf x5))] (K := Kf) (xs := x5) (by decide) rfl ⟨⟨rfl, frz_it⟩, ⟨rfl, frz_it⟩, ⟨rfl, frz_it⟩, ⟨rfl, frz_it⟩, trivial⟩ (H' := [⟨.pointer (some wa0), [(Vi r15.1), (Vi r15.2.1), (Sl Kf r15.2.2.1)], 179, none⟩]) frzH_refl) (ent_fn' Try.func137 isn137 rfl rfl) (inner_Equal_sim _ _ _ _ hr33 : Sx.Fn Try.prog 137 [(Sl Kf x5), (Vi (isub .i64 x7 a0_1)), (Sl Kf x5), (Vi x7)] [] (fun x : Unit => (Vb r33)) (fun x => [])) pu_vl rfl rfl) (wt_none' rfl) fun ⟨⟩ => ?_
   refine s0 (rd_un' rfl ru_not) ?_
   refine nk hK14 ?_
   refine cx_cond' rfl (fun h5 => ?_) (fun h5 => ?_)
   ·replace hp := (br_t h5).symm.trans hp
    refine cx_region' ?_
    refine s0 (rd_move' rfl) ?_
    refine s0 (rd_move' rfl) ?_
    refine s0 (rd_move' rfl) ?_
    refine s0 (rd_move' rfl) ?_
    refine s0 (rd_move' rfl) ?_
    refine s0 (rd_bin' rfl rfl eg_int ru_add) ?_
    obtain ⟨r41, hr41, hp⟩ := bind_some hp
    refine s0 (rd_cutr_lh' (K := Kf) (i := 0) rfl rfl rfl rfl rfl hr41 Try.underlying22 info38) ?_
    obtain ⟨r42, hr42, hp⟩ := bind_some hp
    refine sx_ox' (ox_apre' (K := Kf) (i := 0) (xs := x5) (ys := r41) rfl rfl rfl (sr_part' (j := 0) rfl rfl rfl hr41 Try.underlying22) hr42 Try.underlying22 info38 rfl rfl (H' := [(Rw Kf 38 (Vs g15) r42), ⟨.pointer (some wa0), [(Vi r15.1), (Vi r15.2.1), (Sl Kf r15.2.2.1)], 179, none⟩]) rfl) (wt_none' rfl) fun _ => ?_
    refine s0 (rd_assign' rfl) ?_
    refine sx_nil' ?_
    show TX E K13 _
    exact tx_pick' [0, 1] (sub_cons rfl (sub_cons rfl (sub_cons rfl (sub_cons rfl sub_nil)))) (by decide) (pick_cons rfl (pick_cons rfl pick_nil)) (hK13 (r42, (x6 + r41.length)) hp)
   replace hp := (br_f h5).symm.trans hp
   refine cx_skip' ?_
   show TX E K13 _
   exact tx_pick' [0, 1] (sub_cons rfl (sub_cons rfl (sub_cons rfl (sub_cons rfl sub_nil)))) (by decide) (pick_cons rfl (pick_cons rfl pick_nil)) (hK13 (x5, x6) hp)
  replace hp := (br_f h4).symm.trans hp
  refine cx_exit' ?_
  replace hp := Option.some.inj hp
  subst hp
  show TX E (Zg E (Exit.exit 0) _ (Exit.exit 0)) _
  exact tx_zend' () rfl [0, 1] (sub_cons rfl (sub_cons rfl sub_nil)) (by decide) (pick_cons rfl (pick_cons rfl pick_nil))
 refine zg_out fun w4 => ?_
 show TX E K5 _
 refine tx_k' hK5 ?_
 refine cx_seq' fun K15 hK15 => ?_
 refine cr fun K16 hK16 => ?_
 refine s0 (rd_move' rfl) ?_
 refine s0 (rd_lenpre' rfl Try.underlying22) ?_
 refine s0 (rd_move' rfl) ?_
 refine s0 (rd_bin' rfl rfl eg_int ru_mul) ?_
 refine s0 (rd_bin' rfl rfl eg_int ru_lss) ?_
 refine nk hK16 ?_
 refine cx_cond' rfl (fun h6 => ?_) (fun h6 => ?_)
 ·replace hp := (br_t h6).symm.trans hp
  refine cr fun K17 hK17 => ?_
  refine s0 (rd_assign' rfl) ?_
  refine nk hK17 ?_
  refine cx_retc' ?_
  replace hp := Option.some.inj hp
  subst hp
  refine tx_pick' (L' := [(4, Vn)]) (H' := [⟨.pointer (some wa0), [(Vi r15.1), (Vi r15.2.1), (Sl Kf r15.2.2.1)], 179, none⟩]) [1] (sub_cons rfl sub_nil) (by decide) (pick_cons rfl pick_nil) ?_
  exact tx_ret1' Try.results104 rfl () (rv_tmp' rfl) (List.Sublist.refl _)
 replace hp := (br_f h6).symm.trans hp
 refine cx_skip' ?_
 show TX E K15 _
 refine tx_k' hK15 ?_
 refine cr fun K18 hK18 => ?_
 refine s0 (rd_move' rfl) ?_
 refine s0 (rd_assign' rfl) ?_
 refine nk hK18 ?_
 refine cx_retc' ?_
 obtain ⟨r91, hr91, hp⟩ := bind_some hp
 refine tx_pre' 4 0 (K := Kf) rfl rfl rfl hr91 fun g2 => ?_
 replace hp := Option.some.inj hp
 subst hp
 refine tx_fz' (frz_row 0 [(4, (Vl (Vs g2)), (Sl Kf r91))] (K := Kf) (xs := r91) (by decide) rfl ⟨⟨rfl, frz_it⟩, trivial⟩ (H' := [⟨.pointer (some wa0), [(Vi r15.1), (Vi r15.2.1), (Sl Kf r15.2.2.1)], 179, none⟩]) frzH_refl) ?_
 refine tx_pick' (L' := [(4, (Sl Kf r91))]) (H' := [⟨.pointer (some wa0), [(Vi r15.1), (Vi r15.2.1), (Sl Kf r15.2.2.1)], 179, none⟩]) [0] (sub_cons rfl sub_nil) (by decide) (pick_cons rfl pick_nil) ?_
 exact tx_ret1' Try.results104 rfl () (rv_tmp' rfl) (List.Sublist.refl _)

def xy_DoorOctRing (k : Nat) (a0 : Int) (a1 : List Nat) : Option (Unit ⊕ (List Nat)) :=
 (xy_doorHull k a0 a1) >>= fun r7 =>
 (xy_convexHullCalculator_computeOctRing k r7.1 r7.2.1 r7.2.2 a1) >>= fun r9 =>
 match r9 with
  | (.inl y2) =>
   (some (.inl ()))
  | (.inr y2) =>
   (some (.inr y2.2.2.2))
def xy_DoorOctRing_r (wa1 : Gs) (a0 : Int) (a1 : List Nat) (out : Unit ⊕ (List Nat)) (w : Unit) : SV := match out with
 | (.inl y) => Vn
 | (.inr y) => (Sl Kf y)
def xy_DoorOctRing_h (wa1 : Gs) (a0 : Int) (a1 : List Nat) (out : Unit ⊕ (List Nat)) (w : Unit) : List Res := match out with
 | (.inl y) => []
 | (.inr y) => []

theorem xy_DoorOctRing_sim {k : Nat} {wa1 : Gs} (a0 : Int) (a1 : List Nat) {out : Unit ⊕ (List Nat)} (hp : xy_DoorOctRing k a0 a1 = some out) : Sx.Fn Try.prog 67 [(Vi a0), (Vl (Vs wa1))] [(Rw Kf 38 (Vs wa1) a1)] (fun w => xy_DoorOctRing_r wa1 a0 a1 out w) (fun w => xy_DoorOctRing_h wa1 a0 a1 out w) := by
 unfold xy_DoorOctRing at hp
 refine fn_of Try.func67 rfl Try.ntmps67 rfl fun E hM => ?_
 refine cr fun K1 hK1 => ?_
 refine s0 (rd_assign' rfl) ?_
 refine nk hK1 ?_
 refine cr fun K2 hK2 => ?_
 refine s0 (rd_move' rfl) ?_
 refine s0 (rd_move' rfl) ?_
 refine tx_fz' (frz_row 0 [(1, (Vl (Vs wa1)), (Sl Kf a1)), (6, (Vl (Vs wa1)), (Sl Kf a1))] (K := Kf) (xs := a1) (by decide) rfl ⟨⟨rfl, frz_it⟩, ⟨rfl, frz_it⟩, trivial⟩ (H' := []) frzH_refl) ?_
 obtain ⟨r7, hr7, hp⟩ := bind_some hp
 refine sx_ox' (ox_calln' (ent_fn' Try.func103 isn103 rfl rfl) (xy_doorHull_sim _ _ hr7 : Sx.Fn Try.prog 103 [(Vi a0), (Sl Kf a1)] [] (fun x : Addr => (Vp x)) (fun x => [⟨.pointer (some x), [(Vi r7.1), (Vi r7.2.1), (Sl Kf r7.2.2)], 179, none⟩])) (Hn := fun x : Addr => [⟨.pointer (some x), [(Vi r7.1), (Vi r7.2.1), (Sl Kf r7.2.2)], 179, none⟩]) (fun _ => rfl) rfl rfl) (wt_none' rfl) fun q7 => ?_
 refine s0 (rd_move' rfl) ?_
 obtain ⟨r9, hr9, hp⟩ := bind_some hp
 rcases r9 with y2 | y2
 ·dsimp only at hp
  refine sx_ox' (ox_callg' (ent_fn' Try.func104 isn104 rfl rfl) (xy_convexHullCalculator_computeOctRing_sim _ _ _ _ hr9 : Sx.Fn Try.prog 104 [(Vp q7), (Sl Kf a1)] [⟨.pointer (some q7), [(Vi r7.1), (Vi r7.2.1), (Sl Kf r7.2.2)], 179, none⟩] (fun x : Unit => Vn) (fun x => [⟨.pointer (some q7), [(Vi y2.1), (Vi y2.2.1), (Sl Kf y2.2.2)], 179, none⟩])) [0] [] (by decide) (pick_cons rfl pick_nil) pick_nil (Hn := fun x : Unit => [⟨.pointer (some q7), [(Vi y2.1), (Vi y2.2.1), (Sl Kf y2.2.2)], 179, none⟩]) (fun _ => rfl) rfl rfl) (wt_none' rfl) fun ⟨⟩ => ?_
  refine s0 (rd_assign' rfl) ?_
  refine nk hK2 ?_
  refine cx_retc' ?_
  replace hp := Option.some.inj hp
  subst hp
  refine tx_pick' (L' := [(4, Vn)]) (H' := []) [] (sub_cons rfl sub_nil) (by decide) pick_nil ?_
  exact tx_ret1' Try.results67 rfl () (rv_tmp' rfl) (List.Sublist.refl _)
 dsimp only at hp
 refine sx_ox' (ox_callg' (ent_fn' Try.func104 isn104 rfl rfl) (xy_convexHullCalculator_computeOctRing_sim _ _ _ _ hr9 : Sx.Fn Try.prog 104 [(Vp q7), (Sl Kf a1)] [⟨.pointer (some q7), [(Vi r7.1), (Vi r7.2.1), (Sl Kf r7.2.2)], 179, none⟩] (fun x : Unit => (Sl Kf y2.2.2.2)) (fun x => [⟨.pointer (some q7), [(Vi y2.1), (Vi y2.2.1), (Sl Kf y2.2.2.1)], 179, none⟩])) [0] [] (by decide) (pick_cons rfl pick_nil) pick_nil (Hn := fun x : Unit => [⟨.pointer (some q7), [(Vi y2.1), (Vi y2.2.1), (Sl Kf y2.2.2.1)], 179, none⟩]) (fun _ => rfl) rfl rfl) (wt_none' rfl) fun ⟨⟩ => ?_
 refine s0 (rd_assign' rfl) ?_
 refine nk hK2 ?_
 refine cx_retc' ?_
 replace hp := Option.some.inj hp
 subst hp
 refine tx_pick' (L' := [(4, (Sl Kf y2.2.2.2))]) (H' := []) [] (sub_cons rfl sub_nil) (by decide) pick_nil ?_
 exact tx_ret1' Try.results67 rfl () (rv_tmp' rfl) (List.Sublist.refl _)

def impl_floats_v2 (k : Nat)  : Option ((List Nat)) :=
 (apd 8 [] []) >>= fun r4 =>
 some r4

theorem impl_floats_v2_sim {k : Nat}   {out : (List Nat)} (hp : impl_floats_v2 k = some out) : Sx.Fn Try.prog 50 [Vn] [] (fun w : Gs => (Vl (Vs w))) (fun w => [(Rw Kf 38 (Vs w) out)]) := by
 unfold impl_floats_v2 at hp
 refine fn_of Try.func50 rfl Try.ntmps50 rfl fun E hM => ?_
 refine cr fun K1 hK1 => ?_
 refine s0 (rd_assign' rfl) ?_
 refine nk hK1 ?_
 refine cr fun K2 hK2 => ?_
 refine s0 (rd_move' rfl) ?_
 refine tx_nilrow' Kf 38 ?_
 obtain ⟨r4, hr4, hp⟩ := bind_some hp
 refine sx_ox' (ox_append' (K := Kf) (i := 0) (xs := []) (ys := []) rfl rfl rfl (sr_nil' rfl Try.underlying22) hr4 Try.underlying22 info38 rfl rfl rfl (H' := []) rfl) (wt_none' rfl) fun g4 => ?_
 refine s0 (rd_assign' rfl) ?_
 refine nk hK2 ?_
 refine cx_retc' ?_
 replace hp := Option.some.inj hp
 subst hp
 refine tx_pick' (L' := [(2, (Vl (Vs g4)))]) (H' := [(Rw Kf 38 (Vs g4) r4)]) [0] (sub_cons rfl sub_nil) (by decide) (pick_cons rfl pick_nil) ?_
 exact tx_ret1' Try.results50 rfl g4 (rv_tmp' rfl) (List.Sublist.refl _)

def impl_OctRing (k : Nat) (a0 : Int) (a1 : List Nat) : Option ((List Nat) × Bool) :=
 (impl_floats k a1) >>= fun r10 =>
 (xy_DoorOctRing k a0 r10) >>= fun r11 =>
 match r11 with
  | (.inl y2) =>
   ((impl_floats_v2 k) >>= fun r13 =>
   some (r13, false))
  | (.inr y2) =>
   ((impl_floats k y2) >>= fun r13 =>
   (some1 y2) >>= fun z1 =>
   some (r13, true))

theorem impl_OctRing_sim {k : Nat}  (a0 : Int) (a1 : List Nat) {out : (List Nat) × Bool} (hp : impl_OctRing k a0 a1 = some out) : Sx.Fn Try.prog 31 [(Vi a0), (Sl Kf a1)] [] (fun w : Unit => (Tu [(Sl Kf out.1), (Vb out.2)])) (fun w => []) := by
 unfold impl_OctRing at hp
 refine fnD_of Try.func31 rfl Try.ntmps31 rfl fun E hM => ?_
 refine cr fun K1 hK1 => ?_
 refine sx_ox' (ox_alloc' info22 rfl rfl rfl rfl (l := [Vn]) rfl) (wt_none' rfl) fun q4 => ?_
 refine sx_ox' (ox_alloc' info4 rfl rfl rfl rfl (l := [(Vb false)]) rfl) (wt_none' rfl) fun q5 => ?_
 refine nk hK1 ?_
 refine cr fun K2 hK2 => ?_
 refine s0 (rd_mkfunc' (us := [.pointer (some q4), .pointer (some q5)]) rfl) ?_
 refine sx_ox' (ox_defer' rfl rfl) (wt_none' rfl) fun _ => ?_
 refine nk hK2 ?_
 refine cr fun K3 hK3 => ?_
 refine s0 (rd_move' rfl) ?_
 refine s0 (rd_move' rfl) ?_
 obtain ⟨r10, hr10, hp⟩ := bind_some hp
 refine sx_ox' (ox_calln' (ent_fn' Try.func50 isn50 rfl rfl) (impl_floats_sim _ hr10 : Sx.Fn Try.prog 50 [(Sl Kf a1)] [] (fun x : Gs => (Vl (Vs x))) (fun x => [(Rw Kf 38 (Vs x) r10)])) (Hn := fun x : Gs => [(Rw Kf 38 (Vs x) r10), ⟨.pointer (some q5), [(Vb false)], 4, none⟩, ⟨.pointer (some q4), [Vn], 22, none⟩]) (fun _ => rfl) rfl rfl) (wt_none' rfl) fun g10 => ?_
 obtain ⟨r11, hr11, hp⟩ := bind_some hp
 rcases r11 with y2 | y2
 ·dsimp only at hp
  refine sx_ox' (ox_callg' (ent_fn' Try.func67 isn67 rfl rfl) (xy_DoorOctRing_sim _ _ hr11 : Sx.Fn Try.prog 67 [(Vi a0), (Vl (Vs g10))] [(Rw Kf 38 (Vs g10) r10)] (fun x : Unit => Vn) (fun x => [])) [0] [1, 2] (by decide) (pick_cons rfl pick_nil) (pick_cons rfl (pick_cons rfl pick_nil)) (Hn := fun x : Unit => [⟨.pointer (some q5), [(Vb false)], 4, none⟩, ⟨.pointer (some q4), [Vn], 22, none⟩]) (fun _ => rfl) rfl rfl) (wt_none' rfl) fun ⟨⟩ => ?_
  refine s0 (rd_assign' rfl) ?_
  refine nk hK3 ?_
  refine cr fun K4 hK4 => ?_
  refine s0 (rd_move' rfl) ?_
  obtain ⟨r13, hr13, hp⟩ := bind_some hp
  refine sx_ox' (ox_calln' (ent_fn' Try.func50 isn50 rfl rfl) (impl_floats_v2_sim hr13 : Sx.Fn Try.prog 50 [Vn] [] (fun x : Gs => (Vl (Vs x))) (fun x => [(Rw Kf 38 (Vs x) r13)])) (Hn := fun x : Gs => [(Rw Kf 38 (Vs x) r13), ⟨.pointer (some q5), [(Vb false)], 4, none⟩, ⟨.pointer (some q4), [Vn], 22, none⟩]) (fun _ => rfl) rfl rfl) (wt_none' rfl) fun g13 => ?_
  refine s0 (rd_move' rfl) ?_
  refine s0 (rd_binf' rfl rfl (bf_vl (fun _ => by kernel_rfl) nil_neq22_nilsl)) ?_
  refine sx_ox' (ox_store' (i := 2) (o := 0) rfl rfl (lv_vl rfl rfl) ⟨rfl, rfl, rfl, rfl⟩ rfl info22 rfl (H' := [(Rw Kf 38 (Vs g13) r13), ⟨.pointer (some q5), [(Vb false)], 4, none⟩, ⟨.pointer (some q4), [(Vl (Vs g13))], 22, none⟩]) rfl) (wt_none' rfl) fun _ => ?_
  refine sx_ox' (ox_store' (i := 1) (o := 0) rfl rfl (lv_vl rfl rfl) ⟨rfl, rfl, rfl, rfl⟩ rfl info4 rfl (H' := [(Rw Kf 38 (Vs g13) r13), ⟨.pointer (some q5), [(Vb false)], 4, none⟩, ⟨.pointer (some q4), [(Vl (Vs g13))], 22, none⟩]) rfl) (wt_none' rfl) fun _ => ?_
  refine nk hK4 ?_
  refine cx_retc' ?_
  replace hp := Option.some.inj hp
  subst hp
  refine tx_leave' (.inl rfl) rfl idle66 rfl Try.func66 isn66 rfl ?_
  refine tx_fz' (frz_row 0 [(13, (Vl (Vs g13)), (Sl Kf r13))] (K := Kf) (xs := r13) (by decide) rfl ⟨⟨rfl, frz_it⟩, trivial⟩ (H' := [⟨.pointer (some q5), [(Vb false)], 4, none⟩, ⟨.pointer (some q4), [(Sl Kf r13)], 22, none⟩]) (frzH_cons rfl rfl rfl frzL_refl (frzH_cons rfl rfl rfl (frzL_cons frz_it frzL_refl) frzH_refl))) ?_
  refine tx_pick' (L' := [(4, (Vp q4)), (5, (Vp q5))]) (H' := [⟨.pointer (some q4), [(Sl Kf r13)], 22, none⟩, ⟨.pointer (some q5), [(Vb false)], 4, none⟩]) [1, 0] (sub_cons rfl (sub_cons rfl sub_nil)) (by decide) (pick_cons rfl (pick_cons rfl pick_nil)) ?_
  exact tx_ret2' Try.results31 rfl () (rv_cell' (i := 0) (o := 0) rfl ⟨rfl, rfl, rfl, rfl⟩ rfl flat22) (rv_cell' (i := 1) (o := 0) rfl ⟨rfl, rfl, rfl, rfl⟩ rfl flat4) rfl (List.nil_sublist _)
 dsimp only at hp
 refine sx_ox' (ox_callg' (ent_fn' Try.func67 isn67 rfl rfl) (xy_DoorOctRing_sim _ _ hr11 : Sx.Fn Try.prog 67 [(Vi a0), (Vl (Vs g10))] [(Rw Kf 38 (Vs g10) r10)] (fun x : Unit => (Sl Kf y2)) (fun x => [])) [0] [1, 2] (by decide) (pick_cons rfl pick_nil) (pick_cons rfl (pick_cons rfl pick_nil)) (Hn := fun x : Unit => [⟨.pointer (some q5), [(Vb false)], 4, none⟩, ⟨.pointer (some q4), [Vn], 22, none⟩]) (fun _ => rfl) rfl rfl) (wt_none' rfl) fun ⟨⟩ => ?_
 refine s0 (rd_assign' rfl) ?_
 refine nk hK3 ?_
 refine cr fun K4 hK4 => ?_
 refine s0 (rd_move' rfl) ?_
 obtain ⟨r13, hr13, hp⟩ := bind_some hp
 refine sx_ox' (ox_calln' (ent_fn' Try.func50 isn50 rfl rfl) (impl_floats_sim _ hr13 : Sx.Fn Try.prog 50 [(Sl Kf y2)] [] (fun x : Gs => (Vl (Vs x))) (fun x => [(Rw Kf 38 (Vs x) r13)])) (Hn := fun x : Gs => [(Rw Kf 38 (Vs x) r13), ⟨.pointer (some q5), [(Vb false)], 4, none⟩, ⟨.pointer (some q4), [Vn], 22, none⟩]) (fun _ => rfl) rfl rfl) (wt_none' rfl) fun g13 => ?_
 refine s0 (rd_move' rfl) ?_
 obtain ⟨z1, hz1, hp⟩ := bind_some hp
 refine s0 (rd_binf' rfl rfl (bf_sl hz1 (fun _ _ _ _ => by kernel_rfl) nil_neq22_sl)) ?_
 refine sx_ox' (ox_store' (i := 2) (o := 0) rfl rfl (lv_vl rfl rfl) ⟨rfl, rfl, rfl, rfl⟩ rfl info22 rfl (H' := [(Rw Kf 38 (Vs g13) r13), ⟨.pointer (some q5), [(Vb false)], 4, none⟩, ⟨.pointer (some q4), [(Vl (Vs g13))], 22, none⟩]) rfl) (wt_none' rfl) fun _ => ?_
 refine sx_ox' (ox_store' (i := 1) (o := 0) rfl rfl (lv_vl rfl rfl) ⟨rfl, rfl, rfl, rfl⟩ rfl info4 rfl (H' := [(Rw Kf 38 (Vs g13) r13), ⟨.pointer (some q5), [(Vb true)], 4, none⟩, ⟨.pointer (some q4), [(Vl (Vs g13))], 22, none⟩]) rfl) (wt_none' rfl) fun _ => ?_
 refine nk hK4 ?_
 refine cx_retc' ?_
 replace hp := Option.some.inj hp
 subst hp
 refine tx_leave' (.inl rfl) rfl idle66 rfl Try.func66 isn66 rfl ?_
 refine tx_fz' (frz_row 0 [(13, (Vl (Vs g13)), (Sl Kf r13))] (K := Kf) (xs := r13) (by decide) rfl ⟨⟨rfl, frz_it⟩, trivial⟩ (H' := [⟨.pointer (some q5), [(Vb true)], 4, none⟩, ⟨.pointer (some q4), [(Sl Kf r13)], 22, none⟩]) (frzH_cons rfl rfl rfl frzL_refl (frzH_cons rfl rfl rfl (frzL_cons frz_it frzL_refl) frzH_refl))) ?_
 refine tx_pick' (L' := [(4, (Vp q4)), (5, (Vp q5))]) (H' := [⟨.pointer (some q4), [(Sl Kf r13)], 22, none⟩, ⟨.pointer (some q5), [(Vb true)], 4, none⟩]) [1, 0] (sub_cons rfl (sub_cons rfl sub_nil)) (by decide) (pick_cons rfl (pick_cons rfl pick_nil)) ?_
 exact tx_ret2' Try.results31 rfl () (rv_cell' (i := 0) (o := 0) rfl ⟨rfl, rfl, rfl, rfl⟩ rfl flat22) (rv_cell' (i := 1) (o := 0) rfl ⟨rfl, rfl, rfl, rfl⟩ rfl flat4) rfl (List.nil_sublist _)

def laws_sameNums_l1s (a0 : List Nat) (a1 : List Nat) (k : Nat) (rec1 : Int → Option (Unit ⊕ Unit)) (x1 : Int) : Option (Unit ⊕ Unit) :=
 br (decide (x1 < (a0.length : Int)))
  ((idx a0 x1) >>= fun r17 =>
  (idx a1 x1) >>= fun r22 =>
  br (fne r17 r22)
   (some (.inl ()))
   (rec1 (iadd .i64 x1 1)))
  (some (.inr ()))
def laws_sameNums_l1 (a0 : List Nat) (a1 : List Nat) : Nat → Int → Option (Unit ⊕ Unit)
 | 0, _ => none
 | k + 1, v => laws_sameNums_l1s a0 a1 k (laws_sameNums_l1 a0 a1 k) v
def laws_sameNums (k : Nat) (a0 : List Nat) (a1 : List Nat) : Option (Bool) :=
 br (!decide ((a0.length : Int) = (a1.length : Int)))
  (some false)
  ((laws_sameNums_l1 a0 a1 k 0) >>= fun y1 => match y1 with
   | (.inl v2) =>
    (some false)
   | (.inr v3) =>
    (some true))

theorem laws_sameNums_sim {k : Nat}  (a0 : List Nat) (a1 : List Nat) {out : Bool} (hp : laws_sameNums k a0 a1 = some out) : Sx.Fn Try.prog 32 [(Sl Kf a0), (Sl Kf a1)] [] (fun w : Unit => (Vb out)) (fun w => []) := by
 unfold laws_sameNums at hp
 refine fn_of Try.func32 rfl Try.ntmps32 rfl fun E hM => ?_
 refine cr fun K1 hK1 => ?_
 refine s0 (rd_assign' rfl) ?_
 refine nk hK1 ?_
 refine cx_seq' fun K2 hK2 => ?_
 refine cr fun K3 hK3 => ?_
 refine s0 (rd_move' rfl) ?_
 refine s0 (rd_len' rfl Try.underlying22) ?_
 refine s0 (rd_move' rfl) ?_
 refine s0 (rd_len' rfl Try.underlying22) ?_
 refine s0 (rd_bin' rfl rfl eg_int ru_neq) ?_
 refine nk hK3 ?_
 refine cx_cond' rfl (fun h1 => ?_) (fun h1 => ?_)
 ·replace hp := (br_t h1).symm.trans hp
  refine cr fun K4 hK4 => ?_
  refine s0 (rd_assign' rfl) ?_
  refine nk hK4 ?_
  refine cx_retc' ?_
  replace hp := Option.some.inj hp
  subst hp
  refine tx_pick' (L' := [(4, (Vb false))]) (H' := []) [] (sub_cons rfl sub_nil) (by decide) pick_nil ?_
  exact tx_ret1' Try.results32 rfl () (rv_tmp' rfl) (List.Sublist.refl _)
 replace hp := (br_f h1).symm.trans hp
 refine cx_skip' ?_
 show TX E K2 _
 refine tx_k' hK2 ?_
 refine cx_seq' fun K5 hK5 => ?_
 refine cr fun K6 hK6 => ?_
 refine s0 (rd_move' rfl) ?_
 refine s0 (rd_len' rfl Try.underlying22) ?_
 refine s0 (rd_move' rfl) ?_
 refine nk hK6 ?_
 refine cx_block' ?_
 obtain ⟨y1, hy1, hp⟩ := bind_some hp
 refine cx_loopg' (F := laws_sameNums_l1 a0 a1) (G := fun k R v => laws_sameNums_l1s a0 a1 k R v) (x := 0) (gh := ()) (fun (v1 : Int) (w1 : Unit) => (⟨26, [], [(1, (Sl Kf a1)), (12, (Sl Kf a0)), (13, (Vi (a0.length : Int))), (14, (Vi v1))], []⟩ : St)) (fun (y : Unit ⊕ Unit) => match y with | (.inl v2) => Zg E Exit.ret (fun (w2 : Unit) => (⟨26, [], [(4, (Vb false))], []⟩ : St)) | (.inr v3) => Zg E (Exit.exit 0) (fun (w3 : Unit) => (⟨26, [], [], []⟩ : St))) (fun _ => rfl) (fun _ _ => rfl) ?_ hy1 (tx_to' rfl [] (sub_cons rfl (sub_cons rfl (sub_cons rfl (sub_cons rfl sub_nil)))) (by decide) pick_nil) ?_
 ·clear hp hy1
  clear y1
  intro k rec1 KY1 ih1
  rintro x1 ⟨⟩ y1 hp
  replace hp : laws_sameNums_l1s a0 a1 k rec1 x1 = some y1 := hp
  unfold laws_sameNums_l1s at hp
  refine cr fun K13 hK13 => ?_
  refine s0 (rd_bin' rfl rfl eg_int ru_lss) ?_
  refine nk hK13 ?_
  refine cx_seq' fun K14 hK14 => ?_
  refine cx_cond' rfl (fun h5 => ?_) (fun h5 => ?_)
  ·replace hp := (br_t h5).symm.trans hp
   refine cx_skip' ?_
   show TX E K14 _
   refine tx_k' hK14 ?_
   refine cx_seq' fun K15 hK15 => ?_
   refine cx_block' ?_
   refine cr fun K16 hK16 => ?_
   refine s0 (rd_move' rfl) ?_
   obtain ⟨r17, hr17, hp⟩ := bind_some hp
   refine s0 (rd_at' (K := Kf) rfl rfl hr17 Try.underlying22 info38) ?_
   refine s0 (rd_load_pt' rfl rfl flat38) ?_
   refine s0 (rd_assign' rfl) ?_
   refine s0 (rd_assign' rfl) ?_
   refine nk hK16 ?_
   refine cr fun K17 hK17 => ?_
   refine s0 (rd_move' rfl) ?_
   refine s0 (rd_move' rfl) ?_
   refine s0 (rd_move' rfl) ?_
   obtain ⟨r22, hr22, hp⟩ := bind_some hp
   refine s0 (rd_at' (K := Kf) rfl rfl hr22 Try.underlying22 info38) ?_
   refine s0 (rd_load_pt' rfl rfl flat38) ?_
   refine s0 (rd_bin' rfl rfl eg_flt ru_fne) ?_
   refine nk hK17 ?_
   refine cx_cond' rfl (fun h6 => ?_) (fun h6 => ?_)
   ·replace hp := (br_t h6).symm.trans hp
    refine cr fun K18 hK18 => ?_
    refine s0 (rd_assign' rfl) ?_
    refine nk hK18 ?_
    refine cx_retc' ?_
    replace hp := Option.some.inj hp
    subst hp
    show TX E (Zg E Exit.ret _ Exit.ret) _
    exact tx_zend' () rfl [] (sub_cons rfl sub_nil) (by decide) pick_nil
   replace hp := (br_f h6).symm.trans hp
   refine cx_skip' ?_
   show TX E K15 _
   refine tx_k' hK15 ?_
   refine cx_region' ?_
   refine s0 (rd_bin' rfl rfl eg_int ru_add) ?_
   refine s0 (rd_move' rfl) ?_
   refine sx_nil' ?_
   show TX E (KY1 _) _
   exact tx_pick' [] (sub_cons rfl (sub_cons rfl (sub_cons rfl (sub_cons rfl sub_nil)))) (by decide) pick_nil (ih1 (iadd .i64 x1 1) () _ hp)
  replace hp := (br_f h5).symm.trans hp
  refine cx_exit' ?_
  replace hp := Option.some.inj hp
  subst hp
  show TX E (Zg E (Exit.exit 0) _ (Exit.exit 0)) _
  exact tx_zend' () rfl [] sub_nil (by decide) pick_nil
 rcases y1 with v2 | v3
 ·dsimp only at hp
  refine zg_out fun w2 => ?_
  replace hp := Option.some.inj hp
  subst hp
  refine tx_pick' (L' := [(4, (Vb false))]) (H' := []) [] (sub_cons rfl sub_nil) (by decide) pick_nil ?_
  exact tx_ret1' Try.results32 rfl () (rv_tmp' rfl) (List.Sublist.refl _)
 dsimp only at hp
 refine zg_out fun w3 => ?_
 show TX E K5 _
 refine tx_k' hK5 ?_
 refine cr fun K19 hK19 => ?_
 refine s0 (rd_assign' rfl) ?_
 refine nk hK19 ?_
 refine cx_retc' ?_
 replace hp := Option.some.inj hp
 subst hp
 refine tx_pick' (L' := [(4, (Vb true))]) (H' := []) [] (sub_cons rfl sub_nil) (by decide) pick_nil ?_
 exact tx_ret1' Try.results32 rfl () (rv_tmp' rfl) (List.Sublist.refl _)

def laws_FnOctRing_j5 (k : Nat) (rec1 : ((List Nat) × Int) → Option ((List Nat))) (x4 : Int) (x7 : List Nat) : Option ((List Nat)) :=
 rec1 (x7, (iadd .i64 x4 1))
def laws_FnOctRing_j4 (k : Nat) (rec1 : ((List Nat) × Int) → Option ((List Nat))) (x4 : Int) (x3 : List Nat) (r44 : List Nat) (x6 : Bool) : Option ((List Nat)) :=
 br x6
  (laws_FnOctRing_j5 k rec1 x4 x3)
  ((apd 8 x3 r44) >>= fun r77 =>
  laws_FnOctRing_j5 k rec1 x4 r77)
def laws_FnOctRing_j3 (k : Nat) (x3 : List Nat) (r36 : Int) (r44 : List Nat) (rec1 : ((List Nat) × Int) → Option ((List Nat))) (x4 : Int) (x5 : Bool) : Option ((List Nat)) :=
 br x5
  ((idx x3 (iadd .i64 (isub .i64 (x3.length : Int) r36) 1)) >>= fun r68 =>
  (idx r44 1) >>= fun r71 =>
  laws_FnOctRing_j4 k rec1 x4 x3 r44 (feq r68 r71))
  (laws_FnOctRing_j4 k rec1 x4 x3 r44 false)
def laws_FnOctRing_l1s (r40 : (List (List Nat))) (r36 : Int) (k : Nat) (rec1 : ((List Nat) × Int) → Option ((List Nat))) (x3 : List Nat) (x4 : Int) : Option ((List Nat)) :=
 br (decide (x4 < (r40.length : Int)))
  ((idx r40 x4) >>= fun r44 =>
  br (decide (0 < (x3.length : Int)))
   ((idx x3 (isub .i64 (x3.length : Int) r36)) >>= fun r55 =>
   (idx r44 0) >>= fun r58 =>
   laws_FnOctRing_j3 k x3 r36 r44 rec1 x4 (feq r55 r58))
   (laws_FnOctRing_j3 k x3 r36 r44 rec1 x4 false))
  (some x3)
def laws_FnOctRing_l1 (r40 : (List (List Nat))) (r36 : Int) : Nat → ((List Nat) × Int) → Option ((List Nat))
 | 0, _ => none
 | k + 1, v => laws_FnOctRing_l1s r40 r36 k (laws_FnOctRing_l1 r40 r36 k) v.1 v.2
def laws_FnOctRing_j6 (k : Nat) (x9 : Bool) : Option (Bool) :=
 some x9
def laws_FnOctRing_j2 (k : Nat) (a0 : Int) (a1 : List Nat) (x2 : Bool) : Option (Bool) :=
 br x2
  (some true)
  ((spec_Stride k a0) >>= fun r36 =>
  (laws_rowsOf k a0 a1) >>= fun r39 =>
  (laws_octOf k r39) >>= fun r40 =>
  (laws_FnOctRing_l1 r40 r36 k ([], 0)) >>= fun v7 =>
  (impl_OctRing k a0 a1) >>= fun r82 =>
  br (decide ((v7.length : Int) < (imul .i64 3 r36)))
   (some (!r82.2))
   (br r82.2
    ((laws_sameNums k r82.1 v7) >>= fun r96 =>
    laws_FnOctRing_j6 k r96)
    (laws_FnOctRing_j6 k false)))
def laws_FnOctRing_j1 (k : Nat) (a0 : Int) (a1 : List Nat) (x1 : Bool) : Option (Bool) :=
 br x1
  (laws_FnOctRing_j2 k a0 a1 true)
  ((spec_AllFinite k a1) >>= fun r32 =>
  laws_FnOctRing_j2 k a0 a1 (!r32))
def laws_FnOctRing (k : Nat) (a0 : Int) (a1 : List Nat) : Option (Bool) :=
 br (decide (2147483647 < (a1.length : Int)))
  (some true)
  ((laws_flatTo k a0 a1 4715268809856909312 60) >>= fun r20 =>
  br (!r20.2)
   (laws_FnOctRing_j1 k a0 a1 true)
   (laws_FnOctRing_j1 k a0 a1 (decide ((r20.1.length : Int) = 0))))

theorem laws_FnOctRing_sim {k : Nat}  (a0 : Int) (a1 : List Nat) {out : Bool} (hp : laws_FnOctRing k a0 a1 = some out) : Sx.Fn Try.prog 6 [(Vi a0), (Sl Kf a1)] [] (fun w : Unit => (Vb out)) (fun w => []) := by
 unfold laws_FnOctRing at hp
 refine fn_of Try.func6 rfl Try.ntmps6 rfl fun E hM => ?_
 refine cr fun K1 hK1 => ?_
 refine s0 (rd_assign' rfl) ?_
 refine nk hK1 ?_
 refine cx_seq' fun K2 hK2 => ?_
 refine cr fun K3 hK3 => ?_
 refine s0 (rd_move' rfl) ?_
 refine s0 (rd_len' rfl Try.underlying22) ?_
 refine s0 (rd_bin' rfl rfl eg_int ru_gtr) ?_
 refine nk hK3 ?_
 refine cx_cond' rfl (fun h1 => ?_) (fun h1 => ?_)
 ·replace hp := (br_t h1).symm.trans hp
  refine cr fun K4 hK4 => ?_
  refine s0 (rd_assign' rfl) ?_
  refine nk hK4 ?_
  refine cx_retc' ?_
  replace hp := Option.some.inj hp
  subst hp
  refine tx_pick' (L' := [(4, (Vb true))]) (H' := []) [] (sub_cons rfl sub_nil) (by decide) pick_nil ?_
  exact tx_ret1' Try.results6 rfl () (rv_tmp' rfl) (List.Sublist.refl _)
 replace hp := (br_f h1).symm.trans hp
 refine cx_skip' ?_
 show TX E K2 _
 refine tx_k' hK2 ?_
 refine cr fun K5 hK5 => ?_
 refine s0 (rd_move' rfl) ?_
 refine s0 (rd_move' rfl) ?_
 obtain ⟨r20, hr20, hp⟩ := bind_some hp
 refine sx_ox' (ox_calln' (ent_fn' Try.func27 isn27 rfl rfl) (laws_flatTo_sim _ _ _ _ hr20 : Sx.Fn Try.prog 27 [(Vi a0), (Sl Kf a1), (Vg 4715268809856909312), (Vi 60)] [] (fun x : Unit => (Tu [(Sl KT91 r20.1), (Vb r20.2)])) (fun x => [])) (Hn := fun x : Unit => []) (fun _ => rfl) rfl rfl) (wt_none' rfl) fun ⟨⟩ => ?_
 refine s0 (rd_move' rfl) ?_
 refine s0 (rd_extract' rfl rfl) ?_
 refine s0 (rd_extract' rfl rfl) ?_
 refine s0 (rd_assign' rfl) ?_
 refine s0 (rd_assign' rfl) ?_
 refine nk hK5 ?_
 refine cx_seq' fun K6 hK6 => ?_
 refine cr fun K7 hK7 => ?_
 refine s0 (rd_move' rfl) ?_
 refine s0 (rd_un' rfl ru_not) ?_
 refine s0 (rd_move' rfl) ?_
 refine sx_cutn' 4 (fun (v1 : Bool) => (⟨98, [], [(0, (Vi a0)), (1, (Sl Kf a1)), (29, (Vb v1))], []⟩ : St)) (fun (v1 : Bool) => laws_FnOctRing_j1 k a0 a1 v1 = some out) ?_ ?_
 ·rintro x1 hp
  replace hp : laws_FnOctRing_j1 k a0 a1 x1 = some out := hp
  unfold laws_FnOctRing_j1 at hp
  refine s0 (rd_move' rfl) ?_
  refine sx_cutn' 4 (fun (v2 : Bool) => (⟨98, [], [(0, (Vi a0)), (1, (Sl Kf a1)), (34, (Vb v2))], []⟩ : St)) (fun (v2 : Bool) => laws_FnOctRing_j2 k a0 a1 v2 = some out) ?_ ?_
  ·rintro x2 hp
   replace hp : laws_FnOctRing_j2 k a0 a1 x2 = some out := hp
   unfold laws_FnOctRing_j2 at hp
   refine nk hK7 ?_
   refine cx_cond' rfl (fun h4 => ?_) (fun h4 => ?_)
   ·replace hp := (br_t h4).symm.trans hp
    refine cr fun K10 hK10 => ?_
    refine s0 (rd_assign' rfl) ?_
    refine nk hK10 ?_
    refine cx_retc' ?_
    replace hp := Option.some.inj hp
    subst hp
    refine tx_pick' (L' := [(4, (Vb true))]) (H' := []) [] (sub_cons rfl sub_nil) (by decide) pick_nil ?_
    exact tx_ret1' Try.results6 rfl () (rv_tmp' rfl) (List.Sublist.refl _)
   replace hp := (br_f h4).symm.trans hp
   refine cx_skip' ?_
   show TX E K6 _
   refine tx_k' hK6 ?_
   refine cr fun K11 hK11 => ?_
   refine s0 (rd_assign' rfl) ?_
   refine nk hK11 ?_
   refine cr fun K12 hK12 => ?_
   refine s0 (rd_move' rfl) ?_
   obtain ⟨r36, hr36, hp⟩ := bind_some hp
   refine sx_ox' (ox_calln' (ent_fn' Try.func11 isn11 rfl rfl) (spec_Stride_sim _ hr36 : Sx.Fn Try.prog 11 [(Vi a0)] [] (fun x : Unit => (Vi r36)) (fun x => [])) (Hn := fun x : Unit => []) (fun _ => rfl) rfl rfl) (wt_none' rfl) fun ⟨⟩ => ?_
   refine s0 (rd_assign' rfl) ?_
   refine nk hK12 ?_
   refine cx_seq' fun K13 hK13 => ?_
   refine cr fun K14 hK14 => ?_
   refine s0 (rd_move' rfl) ?_
   refine s0 (rd_move' rfl) ?_
   obtain ⟨r39, hr39, hp⟩ := bind_some hp
   refine sx_ox' (ox_calln' (ent_fn' Try.func30 isn30 rfl rfl) (laws_rowsOf_sim _ _ hr39 : Sx.Fn Try.prog 30 [(Vi a0), (Sl Kf a1)] [] (fun x : Unit => (Sl (Kl Kf) r39)) (fun x => [])) (Hn := fun x : Unit => []) (fun _ => rfl) rfl rfl) (wt_none' rfl) fun ⟨⟩ => ?_
   obtain ⟨r40, hr40, hp⟩ := bind_some hp
   refine sx_ox' (ox_calln' (ent_fn' Try.func29 isn29 rfl rfl) (laws_octOf_sim _ hr40 : Sx.Fn Try.prog 29 [(Sl (Kl Kf) r39)] [] (fun x : Unit => (Sl (Kl Kf) r40)) (fun x => [])) (Hn := fun x : Unit => []) (fun _ => rfl) rfl rfl) (wt_none' rfl) fun ⟨⟩ => ?_
   refine s0 (rd_len' rfl Try.underlying39) ?_
   refine s0 (rd_move' rfl) ?_
   refine nk hK14 ?_
   refine cx_block' ?_
   obtain ⟨v7, hy1, hp⟩ := bind_some hp
   refine tx_nilrow' Kf 38 ?_
   refine cx_loopg' (F := laws_FnOctRing_l1 r40 r36) (G := fun k R v => laws_FnOctRing_l1s r40 r36 k R v.1 v.2) (x := ([], 0)) (gh := (none, 0, 0)) (fun (v3 : (List Nat) × Int) (w3 : Gs) => (⟨98, [], [(0, (Vi a0)), (1, (Sl Kf a1)), (7, (Vl (Vs w3))), (8, (Vi r36)), (40, (Sl (Kl Kf) r40)), (41, (Vi (r40.length : Int))), (42, (Vi v3.2))], [(Rw Kf 38 (Vs w3) v3.1)]⟩ : St)) (fun (v7 : (List Nat)) => Zg E (Exit.exit 0) (fun (w7 : Gs) => (⟨98, [], [(0, (Vi a0)), (1, (Sl Kf a1)), (7, (Vl (Vs w7))), (8, (Vi r36))], [(Rw Kf 38 (Vs w7) v7)]⟩ : St))) (fun _ => rfl) (fun _ _ => rfl) ?_ hy1 (tx_to' rfl [0] (sub_cons rfl (sub_cons rfl (sub_cons rfl (sub_cons rfl (sub_cons rfl (sub_cons rfl (sub_cons rfl sub_nil))))))) (by decide) (pick_cons rfl pick_nil)) ?_
   ·clear hp hy1
    clear v7
    intro k rec1 KY1 ih1
    rintro ⟨x3, x4⟩ g901 y1 hp
    replace hp : laws_FnOctRing_l1s r40 r36 k rec1 x3 x4 = some y1 := hp
    unfold laws_FnOctRing_l1s at hp
    refine cr fun K22 hK22 => ?_
    refine s0 (rd_bin' rfl rfl eg_int ru_lss) ?_
    refine nk hK22 ?_
    refine cx_seq' fun K23 hK23 => ?_
    refine cx_cond' rfl (fun h7 => ?_) (fun h7 => ?_)
    ·replace hp := (br_t h7).symm.trans hp
     refine cx_skip' ?_
     show TX E K23 _
     refine tx_k' hK23 ?_
     refine cx_join' (fun (v6 : (List Nat) × Gs) => (⟨98, [], [(0, (Vi a0)), (1, (Sl Kf a1)), (7, (Vl (Vs v6.2))), (8, (Vi r36)), (40, (Sl (Kl Kf) r40)), (41, (Vi (r40.length : Int))), (42, (Vi x4))], [(Rw Kf 38 (Vs v6.2) v6.1)]⟩ : St)) (fun (v6 : (List Nat) × Gs) => laws_FnOctRing_j5 k rec1 x4 v6.1 = some y1) ?_ ?_
     ·rintro ⟨x7, g902⟩ hp
      replace hp : laws_FnOctRing_j5 k rec1 x4 x7 = some y1 := hp
      unfold laws_FnOctRing_j5 at hp
      refine cx_region' ?_
      refine s0 (rd_bin' rfl rfl eg_int ru_add) ?_
      refine s0 (rd_move' rfl) ?_
      refine sx_nil' ?_
      show TX E (KY1 _) _
      exact tx_pick' [0] (sub_cons rfl (sub_cons rfl (sub_cons rfl (sub_cons rfl (sub_cons rfl (sub_cons rfl (sub_cons rfl sub_nil))))))) (by decide) (pick_cons rfl pick_nil) (ih1 (x7, (iadd .i64 x4 1)) g902 _ hp)
     intro K24 hK24
     refine cx_block' ?_
     refine cr fun K25 hK25 => ?_
     obtain ⟨r44, hr44, hp⟩ := bind_some hp
     refine s0 (rd_at' (K := (Kl Kf)) rfl rfl hr44 Try.underlying39 info22) ?_
     refine s0 (rd_load_pt' rfl rfl flat22) ?_
     refine s0 (rd_assign' rfl) ?_
     refine nk hK25 ?_
     refine cx_seq' fun K26 hK26 => ?_
     refine cr fun K27 hK27 => ?_
     refine s0 (rd_move' rfl) ?_
     refine s0 (rd_lenr' (i := 0) rfl rfl rfl Try.underlying22) ?_
     refine s0 (rd_assign' rfl) ?_
     refine nk hK27 ?_
     refine cx_seq' fun K28 hK28 => ?_
     refine cx_draw' mixed (by kernel_rfl) ?_
     refine qx_rd' (rd_move' rfl) rfl rfl (wt_none' rfl) ?_
     refine qx_rd' (rd_bin' rfl rfl eg_int ru_gtr) rfl rfl (wt_none' rfl) ?_
     refine qx_rd' (rd_move' rfl) rfl rfl (wt_none' rfl) ?_
     refine qx_cutn' 11 (fun (v4 : Bool) => (⟨98, [], [(0, (Vi a0)), (1, (Sl Kf a1)), (7, (Vl (Vs g901))), (8, (Vi r36)), (10, (Sl Kf r44)), (11, (Vi (x3.length : Int))), (40, (Sl (Kl Kf) r40)), (41, (Vi (r40.length : Int))), (42, (Vi x4)), (61, (Vb v4))], [(Rw Kf 38 (Vs g901) x3)]⟩ : St)) (fun (v4 : Bool) => laws_FnOctRing_j3 k x3 r36 r44 rec1 x4 v4 = some y1) ?_ ?_
     ·rintro x5 hp
      replace hp : laws_FnOctRing_j3 k x3 r36 r44 rec1 x4 x5 = some y1 := hp
      unfold laws_FnOctRing_j3 at hp
      refine qx_rd' (rd_move' rfl) rfl rfl (wt_none' rfl) ?_
      refine qx_cutn' 12 (fun (v5 : Bool) => (⟨98, [], [(0, (Vi a0)), (1, (Sl Kf a1)), (7, (Vl (Vs g901))), (8, (Vi r36)), (10, (Sl Kf r44)), (40, (Sl (Kl Kf) r40)), (41, (Vi (r40.length : Int))), (42, (Vi x4)), (74, (Vb v5))], [(Rw Kf 38 (Vs g901) x3)]⟩ : St)) (fun (v5 : Bool) => laws_FnOctRing_j4 k rec1 x4 x3 r44 v5 = some y1) ?_ ?_
      ·rintro x6 hp
       replace hp : laws_FnOctRing_j4 k rec1 x4 x3 r44 x6 = some y1 := hp
       unfold laws_FnOctRing_j4 at hp
       refine qx_nil' ?_
       show TX E K28 _
       refine tx_k' hK28 ?_
       refine cx_cond' rfl (fun h10 => ?_) (fun h10 => ?_)
       ·replace hp := (br_t h10).symm.trans hp
        refine cx_exit' ?_
        show TX E K24 _
        exact tx_pick' [0] (sub_cons rfl (sub_cons rfl (sub_cons rfl (sub_cons rfl (sub_cons rfl (sub_cons rfl (sub_cons rfl sub_nil))))))) (by decide) (pick_cons rfl pick_nil) (hK24 (x3, g901) hp)
       replace hp := (br_f h10).symm.trans hp
       refine cx_skip' ?_
       show TX E K26 _
       refine tx_k' hK26 ?_
       refine cx_region' ?_
       refine s0 (rd_move' rfl) ?_
       refine s0 (rd_move' rfl) ?_
       obtain ⟨r77, hr77, hp⟩ := bind_some hp
       refine sx_ox' (ox_append' (K := Kf) (i := 0) (xs := x3) (ys := r44) rfl rfl rfl (sr_sl' rfl Try.underlying22) hr77 Try.underlying22 info38 rfl rfl rfl (H' := []) rfl) (wt_none' rfl) fun g77 => ?_
       refine s0 (rd_assign' rfl) ?_
       refine sx_nil' ?_
       show TX E K24 _
       exact tx_pick' [0] (sub_cons rfl (sub_cons rfl (sub_cons rfl (sub_cons rfl (sub_cons rfl (sub_cons rfl (sub_cons rfl sub_nil))))))) (by decide) (pick_cons rfl pick_nil) (hK24 (r77, g77) hp)
      intro K30 hK30
      rcases br_cases hp with ⟨h9, hp⟩ | ⟨h9, hp⟩
      ·refine qx_rd' (rd_move' rfl) rfl rfl (wt_is' (wt_guard' rfl rfl rfl) (beq_tt h9)) ?_
       refine qx_rd' (rd_move' rfl) rfl rfl (wt_is' (wt_guard' rfl rfl rfl) (beq_tt h9)) ?_
       refine qx_rd' (rd_move' rfl) rfl rfl (wt_is' (wt_guard' rfl rfl rfl) (beq_tt h9)) ?_
       refine qx_rd' (rd_bin' rfl rfl eg_int ru_sub) rfl rfl (wt_is' (wt_guard' rfl rfl rfl) (beq_tt h9)) ?_
       refine qx_rd' (rd_bin' rfl rfl eg_int ru_add) rfl rfl (wt_is' (wt_guard' rfl rfl rfl) (beq_tt h9)) ?_
       obtain ⟨r68, hr68, hp⟩ := bind_some hp
       refine qx_rd' (rd_atr' (m := 0) rfl rfl rfl rfl hr68 Try.underlying22 info38) rfl rfl (wt_is' (wt_guard' rfl rfl rfl) (beq_tt h9)) ?_
       refine qx_rd' (rd_loadr' rfl (m := 0) (i := (iadd .i64 (isub .i64 (x3.length : Int) r36) 1)) (j := 0) rfl rfl hr68 rfl rfl flat38) rfl rfl (wt_is' (wt_guard' rfl rfl rfl) (beq_tt h9)) ?_
       refine qx_rd' (rd_move' rfl) rfl rfl (wt_is' (wt_guard' rfl rfl rfl) (beq_tt h9)) ?_
       obtain ⟨r71, hr71, hp⟩ := bind_some hp
       refine qx_rd' (rd_at' (K := Kf) rfl rfl hr71 Try.underlying22 info38) rfl rfl (wt_is' (wt_guard' rfl rfl rfl) (beq_tt h9)) ?_
       refine qx_rd' (rd_load_pt' rfl rfl flat38) rfl rfl (wt_is' (wt_guard' rfl rfl rfl) (beq_tt h9)) ?_
       refine qx_rd' (rd_bin' rfl rfl eg_flt ru_feq) rfl rfl (wt_is' (wt_guard' rfl rfl rfl) (beq_tt h9)) ?_
       refine qx_rd' (rd_pick_true' rfl h9 rfl) rfl rfl (wt_none' rfl) ?_
       refine qx_end' ?_
       exact tq_pick' [0] (sub_cons rfl (sub_cons rfl (sub_cons rfl (sub_cons rfl (sub_cons rfl (sub_cons rfl (sub_cons rfl (sub_cons rfl (sub_cons rfl sub_nil))))))))) (by decide) (pick_cons rfl pick_nil) (hK30 (feq r68 r71) hp)
      refine qx_skip' rfl rfl (wt_is' (wt_guard' rfl rfl rfl) (beq_ft h9)) ?_
      refine qx_skip' rfl rfl (wt_is' (wt_guard' rfl rfl rfl) (beq_ft h9)) ?_
      refine qx_skip' rfl rfl (wt_is' (wt_guard' rfl rfl rfl) (beq_ft h9)) ?_
      refine qx_skip' rfl rfl (wt_is' (wt_guard' rfl rfl rfl) (beq_ft h9)) ?_
      refine qx_skip' rfl rfl (wt_is' (wt_guard' rfl rfl rfl) (beq_ft h9)) ?_
      refine qx_skip' rfl rfl (wt_is' (wt_guard' rfl rfl rfl) (beq_ft h9)) ?_
      refine qx_skip' rfl rfl (wt_is' (wt_guard' rfl rfl rfl) (beq_ft h9)) ?_
      refine qx_skip' rfl rfl (wt_is' (wt_guard' rfl rfl rfl) (beq_ft h9)) ?_
      refine qx_skip' rfl rfl (wt_is' (wt_guard' rfl rfl rfl) (beq_ft h9)) ?_
      refine qx_skip' rfl rfl (wt_is' (wt_guard' rfl rfl rfl) (beq_ft h9)) ?_
      refine qx_skip' rfl rfl (wt_is' (wt_guard' rfl rfl rfl) (beq_ft h9)) ?_
      refine qx_rd' (rd_pick_false' rfl h9 rfl) rfl rfl (wt_none' rfl) ?_
      refine qx_end' ?_
      exact tq_pick' [0] (sub_cons rfl (sub_cons rfl (sub_cons rfl (sub_cons rfl (sub_cons rfl (sub_cons rfl (sub_cons rfl (sub_cons rfl (sub_cons rfl sub_nil))))))))) (by decide) (pick_cons rfl pick_nil) (hK30 false hp)
     intro K29 hK29
     rcases br_cases hp with ⟨h8, hp⟩ | ⟨h8, hp⟩
     ·refine qx_rd' (rd_move' rfl) rfl rfl (wt_is' (wt_guard' rfl rfl rfl) (beq_tt h8)) ?_
      refine qx_rd' (rd_move' rfl) rfl rfl (wt_is' (wt_guard' rfl rfl rfl) (beq_tt h8)) ?_
      refine qx_rd' (rd_move' rfl) rfl rfl (wt_is' (wt_guard' rfl rfl rfl) (beq_tt h8)) ?_
      refine qx_rd' (rd_bin' rfl rfl eg_int ru_sub) rfl rfl (wt_is' (wt_guard' rfl rfl rfl) (beq_tt h8)) ?_
      obtain ⟨r55, hr55, hp⟩ := bind_some hp
      refine qx_rd' (rd_atr' (m := 0) rfl rfl rfl rfl hr55 Try.underlying22 info38) rfl rfl (wt_is' (wt_guard' rfl rfl rfl) (beq_tt h8)) ?_
      refine qx_rd' (rd_loadr' rfl (m := 0) (i := (isub .i64 (x3.length : Int) r36)) (j := 0) rfl rfl hr55 rfl rfl flat38) rfl rfl (wt_is' (wt_guard' rfl rfl rfl) (beq_tt h8)) ?_
      refine qx_rd' (rd_move' rfl) rfl rfl (wt_is' (wt_guard' rfl rfl rfl) (beq_tt h8)) ?_
      obtain ⟨r58, hr58, hp⟩ := bind_some hp
      refine qx_rd' (rd_at' (K := Kf) rfl rfl hr58 Try.underlying22 info38) rfl rfl (wt_is' (wt_guard' rfl rfl rfl) (beq_tt h8)) ?_
      refine qx_rd' (rd_load_pt' rfl rfl flat38) rfl rfl (wt_is' (wt_guard' rfl rfl rfl) (beq_tt h8)) ?_
      refine qx_rd' (rd_bin' rfl rfl eg_flt ru_feq) rfl rfl (wt_is' (wt_guard' rfl rfl rfl) (beq_tt h8)) ?_
      refine qx_rd' (rd_pick_true' rfl h8 rfl) rfl rfl (wt_none' rfl) ?_
      refine qx_end' ?_
      exact tq_pick' [0] (sub_cons rfl (sub_cons rfl (sub_cons rfl (sub_cons rfl (sub_cons rfl (sub_cons rfl (sub_cons rfl (sub_cons rfl (sub_cons rfl (sub_cons rfl sub_nil)))))))))) (by decide) (pick_cons rfl pick_nil) (hK29 (feq r55 r58) hp)
     refine qx_skip' rfl rfl (wt_is' (wt_guard' rfl rfl rfl) (beq_ft h8)) ?_
     refine qx_skip' rfl rfl (wt_is' (wt_guard' rfl rfl rfl) (beq_ft h8)) ?_
     refine qx_skip' rfl rfl (wt_is' (wt_guard' rfl rfl rfl) (beq_ft h8)) ?_
     refine qx_skip' rfl rfl (wt_is' (wt_guard' rfl rfl rfl) (beq_ft h8)) ?_
     refine qx_skip' rfl rfl (wt_is' (wt_guard' rfl rfl rfl) (beq_ft h8)) ?_
     refine qx_skip' rfl rfl (wt_is' (wt_guard' rfl rfl rfl) (beq_ft h8)) ?_
     refine qx_skip' rfl rfl (wt_is' (wt_guard' rfl rfl rfl) (beq_ft h8)) ?_
     refine qx_skip' rfl rfl (wt_is' (wt_guard' rfl rfl rfl) (beq_ft h8)) ?_
     refine qx_skip' rfl rfl (wt_is' (wt_guard' rfl rfl rfl) (beq_ft h8)) ?_
     refine qx_skip' rfl rfl (wt_is' (wt_guard' rfl rfl rfl) (beq_ft h8)) ?_
     refine qx_rd' (rd_pick_false' rfl h8 rfl) rfl rfl (wt_none' rfl) ?_
     refine qx_end' ?_
     exact tq_pick' [0] (sub_cons rfl (sub_cons rfl (sub_cons rfl (sub_cons rfl (sub_cons rfl (sub_cons rfl (sub_cons rfl (sub_cons rfl (sub_cons rfl (sub_cons rfl sub_nil)))))))))) (by decide) (pick_cons rfl pick_nil) (hK29 false hp)
    replace hp := (br_f h7).symm.trans hp
    refine cx_exit' ?_
    replace hp := Option.some.inj hp
    subst hp
    show TX E (Zg E (Exit.exit 0) _ (Exit.exit 0)) _
    exact tx_zend' g901 rfl [0] (sub_cons rfl (sub_cons rfl (sub_cons rfl (sub_cons rfl sub_nil)))) (by decide) (pick_cons rfl pick_nil)
   refine zg_out fun w7 => ?_
   show TX E K13 _
   refine tx_k' hK13 ?_
   refine cr fun K31 hK31 => ?_
   refine s0 (rd_move' rfl) ?_
   refine s0 (rd_move' rfl) ?_
   obtain ⟨r82, hr82, hp⟩ := bind_some hp
   refine sx_ox' (ox_calln' (ent_fn' Try.func31 isn31 rfl rfl) (impl_OctRing_sim _ _ hr82 : Sx.Fn Try.prog 31 [(Vi a0), (Sl Kf a1)] [] (fun x : Unit => (Tu [(Sl Kf r82.1), (Vb r82.2)])) (fun x => [])) (Hn := fun x : Unit => [(Rw Kf 38 (Vs w7) v7)]) (fun _ => rfl) rfl rfl) (wt_none' rfl) fun ⟨⟩ => ?_
   refine s0 (rd_move' rfl) ?_
   refine s0 (rd_extract' rfl rfl) ?_
   refine s0 (rd_extract' rfl rfl) ?_
   refine s0 (rd_assign' rfl) ?_
   refine s0 (rd_assign' rfl) ?_
   refine nk hK31 ?_
   refine cx_seq' fun K32 hK32 => ?_
   refine cr fun K33 hK33 => ?_
   refine s0 (rd_move' rfl) ?_
   refine s0 (rd_lenr' (i := 0) rfl rfl rfl Try.underlying22) ?_
   refine s0 (rd_move' rfl) ?_
   refine s0 (rd_bin' rfl rfl eg_int ru_mul) ?_
   refine s0 (rd_bin' rfl rfl eg_int ru_lss) ?_
   refine nk hK33 ?_
   refine cx_cond' rfl (fun h11 => ?_) (fun h11 => ?_)
   ·replace hp := (br_t h11).symm.trans hp
    refine cr fun K34 hK34 => ?_
    refine s0 (rd_move' rfl) ?_
    refine s0 (rd_un' rfl ru_not) ?_
    refine s0 (rd_assign' rfl) ?_
    refine nk hK34 ?_
    refine cx_retc' ?_
    replace hp := Option.some.inj hp
    subst hp
    refine tx_pick' (L' := [(4, (Vb (!r82.2)))]) (H' := []) [] (sub_cons rfl sub_nil) (by decide) pick_nil ?_
    exact tx_ret1' Try.results6 rfl () (rv_tmp' rfl) (List.Sublist.refl _)
   replace hp := (br_f h11).symm.trans hp
   refine cx_skip' ?_
   show TX E K32 _
   refine tx_k' hK32 ?_
   refine cr fun K35 hK35 => ?_
   refine s0 (rd_move' rfl) ?_
   refine s0 (rd_move' rfl) ?_
   refine sx_cutn' 4 (fun (v8 : Bool) => (⟨98, [], [(97, (Vb v8))], []⟩ : St)) (fun (v8 : Bool) => laws_FnOctRing_j6 k v8 = some out) ?_ ?_
   ·rintro x9 hp
    replace hp : laws_FnOctRing_j6 k x9 = some out := hp
    unfold laws_FnOctRing_j6 at hp
    refine s0 (rd_assign' rfl) ?_
    refine nk hK35 ?_
    refine cx_retc' ?_
    replace hp := Option.some.inj hp
    subst hp
    refine tx_pick' (L' := [(4, (Vb x9))]) (H' := []) [] (sub_cons rfl sub_nil) (by decide) pick_nil ?_
    exact tx_ret1' Try.results6 rfl () (rv_tmp' rfl) (List.Sublist.refl _)
   intro K36 hK36
   rcases br_cases hp with ⟨h12, hp⟩ | ⟨h12, hp⟩
   ·refine sx_rd' (rd_move' rfl) rfl rfl (wt_is' (wt_guard' rfl rfl rfl) (beq_tt h12)) ?_
    refine sx_rd' (rd_move' rfl) rfl rfl (wt_is' (wt_guard' rfl rfl rfl) (beq_tt h12)) ?_
    obtain ⟨r96, hr96, hp⟩ := bind_some hp
    refine sx_ox' (ox_brw' (frz_row 0 [(7, (Vl (Vs w7)), (Sl Kf v7)), (85, (Vl (Vs w7)), (Sl Kf v7)), (95, (Vl (Vs w7)), (Sl Kf v7))] (K := Kf) (xs := v7) (by decide) rfl ⟨⟨rfl, frz_it⟩, ⟨rfl, frz_it⟩, ⟨rfl, frz_it⟩, trivial⟩ (H' := []) frzH_refl) (ent_fn' Try.func32 isn32 rfl rfl) (laws_sameNums_sim _ _ hr96 : Sx.Fn Try.prog 32 [(Sl Kf r82.1), (Sl Kf v7)] [] (fun x : Unit => (Vb r96)) (fun x => [])) pu_vl rfl rfl) (wt_is' (wt_guard' rfl rfl rfl) (beq_tt h12)) fun ⟨⟩ => ?_
    refine s0 (rd_pick_true' rfl h12 rfl) ?_
    refine sx_nil' ?_
    show TX E K36 _
    exact tx_pick' [] (sub_cons rfl sub_nil) (by decide) pick_nil (hK36 r96 hp)
   refine sx_skip' rfl rfl (wt_is' (wt_guard' rfl rfl rfl) (beq_ft h12)) ?_
   refine sx_skip' rfl rfl (wt_is' (wt_guard' rfl rfl rfl) (beq_ft h12)) ?_
   refine sx_skip' rfl rfl (wt_is' (wt_guard' rfl rfl rfl) (beq_ft h12)) ?_
   refine s0 (rd_pick_false' rfl h12 rfl) ?_
   refine sx_nil' ?_
   show TX E K36 _
   exact tx_pick' [] (sub_cons rfl sub_nil) (by decide) pick_nil (hK36 false hp)
  intro K9 hK9
  rcases br_cases hp with ⟨h3, hp⟩ | ⟨h3, hp⟩
  ·refine sx_skip' rfl rfl (wt_is' (wt_guard' rfl rfl rfl) (beq_tf h3)) ?_
   refine sx_skip' rfl rfl (wt_is' (wt_guard' rfl rfl rfl) (beq_tf h3)) ?_
   refine sx_skip' rfl rfl (wt_is' (wt_guard' rfl rfl rfl) (beq_tf h3)) ?_
   refine s0 (rd_pick_true' rfl h3 rfl) ?_
   refine sx_nil' ?_
   show TX E K9 _
   exact tx_pick' [] (sub_cons rfl (sub_cons rfl (sub_cons rfl sub_nil))) (by decide) pick_nil (hK9 true hp)
  refine sx_rd' (rd_move' rfl) rfl rfl (wt_is' (wt_guard' rfl rfl rfl) (beq_ff h3)) ?_
  obtain ⟨r32, hr32, hp⟩ := bind_some hp
  refine sx_ox' (ox_calln' (ent_fn' Try.func28 isn28 rfl rfl) (spec_AllFinite_sim _ hr32 : Sx.Fn Try.prog 28 [(Sl Kf a1)] [] (fun x : Unit => (Vb r32)) (fun x => [])) (Hn := fun x : Unit => []) (fun _ => rfl) rfl rfl) (wt_is' (wt_guard' rfl rfl rfl) (beq_ff h3)) fun ⟨⟩ => ?_
  refine sx_rd' (rd_un' rfl ru_not) rfl rfl (wt_is' (wt_guard' rfl rfl rfl) (beq_ff h3)) ?_
  refine s0 (rd_pick_false' rfl h3 rfl) ?_
  refine sx_nil' ?_
  show TX E K9 _
  exact tx_pick' [] (sub_cons rfl (sub_cons rfl (sub_cons rfl sub_nil))) (by decide) pick_nil (hK9 (!r32) hp)
 intro K8 hK8
 rcases br_cases hp with ⟨h2, hp⟩ | ⟨h2, hp⟩
 ·refine sx_skip' rfl rfl (wt_is' (wt_guard' rfl rfl rfl) (beq_tf h2)) ?_
  refine sx_skip' rfl rfl (wt_is' (wt_guard' rfl rfl rfl) (beq_tf h2)) ?_
  refine sx_skip' rfl rfl (wt_is' (wt_guard' rfl rfl rfl) (beq_tf h2)) ?_
  refine s0 (rd_pick_true' rfl h2 rfl) ?_
  refine sx_nil' ?_
  show TX E K8 _
  exact tx_pick' [] (sub_cons rfl (sub_cons rfl (sub_cons rfl sub_nil))) (by decide) pick_nil (hK8 true hp)
 refine sx_rd' (rd_move' rfl) rfl rfl (wt_is' (wt_guard' rfl rfl rfl) (beq_ff h2)) ?_
 refine sx_rd' (rd_len' rfl Try.underlying56) rfl rfl (wt_is' (wt_guard' rfl rfl rfl) (beq_ff h2)) ?_
 refine sx_rd' (rd_bin' rfl rfl eg_int ru_eql) rfl rfl (wt_is' (wt_guard' rfl rfl rfl) (beq_ff h2)) ?_
 refine s0 (rd_pick_false' rfl h2 rfl) ?_
 refine sx_nil' ?_
 show TX E K8 _
 exact tx_pick' [] (sub_cons rfl (sub_cons rfl (sub_cons rfl sub_nil))) (by decide) pick_nil (hK8 (decide ((r20.1.length : Int) = 0)) hp)

end Go.Proofs.Ytlipjaacncpaoaa
